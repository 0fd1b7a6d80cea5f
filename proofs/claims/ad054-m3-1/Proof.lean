import JvmDerived
import JvmDerived.Pilot.@@N@@Statement
import JvmDerived.Pilot.@@N@@Code
set_option linter.unusedVariables false
set_option linter.unusedSimpArgs false
namespace Jvm.OwnKit
open Sem ClassFile Op Lib Jvm.Stand Jvm.Free Jvm.LawKit Jvm.RoadKit
/-- from S the run comes to a state of which Φ holds -/
def Go (p : Program) (e : Env) (below : List Frame) (Φ : State → Prop) (S : State) : Prop := ∃ u, Steps p.tables e below S u ∧ Φ u
theorem Go.step {p : Program} {e : Env} {below : List Frame} {Φ : State → Prop} {S S' : State} (h : ∀ t, Steps p.tables e below S' t → Steps p.tables e below S t) (k : Go p e below Φ S') : Go p e below Φ S := by
  obtain ⟨u, q, r⟩ := k
  exact ⟨u, h u q, r⟩
theorem Go.trans {p : Program} {e : Env} {below : List Frame} {Φ : State → Prop} {S S' : State} (h : Steps p.tables e below S S') (k : Go p e below Φ S') : Go p e below Φ S := by
  obtain ⟨u, q, r⟩ := k
  exact ⟨u, Steps.trans h q, r⟩
theorem Go.here {p : Program} {e : Env} {below : List Frame} {Φ : State → Prop} {S : State} (k : Φ S) : Go p e below Φ S := ⟨S, Steps.refl _, k⟩
/-- the end of a body -/
def FinQ (below : List Frame) (s : State) (Q : Option Value → Heap → List Loc → Prop) (k n : Nat) (u : State) : Prop :=
  ∃ o, u.status = .running ∧ Ended u below o ∧ ∃ v L, o = .returned v ∧ Q v u.heap L ∧ FrameEnd s o u L k n
theorem Go.done {p : Program} {e : Env} {below : List Frame} {s : State} {Q : Option Value → Heap → List Loc → Prop} {k n : Nat} {S : State} (h : Go p e below (FinQ below s Q k n) S) :
    ∃ s₂ o, Steps p.tables e below S s₂ ∧ s₂.status = .running ∧ Ended s₂ below o ∧ ∃ v L, o = .returned v ∧ Q v s₂.heap L ∧ FrameEnd s o s₂ L k n := by
  obtain ⟨u, q, o, r1, r2, r3⟩ := h
  exact ⟨u, o, q, r1, r2, r3⟩
theorem nameIt {α : Type} (P : α → Prop) (x : α) (h : ∀ z, z = x → P z) : P x := h x rfl
section New
variable {p : Program} {l : Launch} {e : Env} {R : Room} {s : State} {m : MethodId} {args : Array Value} {below : List Frame} {meth : Method} {c : Code} {T : State} {locs : List Loc} {cells slots : Nat}
/-- the run stands at the frame F, in a heap h -/
def AtF (p : Program) (l : Launch) (e : Env) (R : Room) (s : State) (m : MethodId) (args : Array Value) (below : List Frame) (meth : Method) (c : Code) (n0 cells slots : Nat) (h : Heap) (F : JFrame) (u : State) : Prop :=
  ∃ T' locs', u = T'.setTop F ∧ Stand p l e R s m args below meth c T' locs' cells slots ∧ Fr n0 locs' ∧ T'.heap = h
theorem retG {pc : Nat} {Ls : Array Slot} {w : Value} {t : FieldType} {i : Instr} {rest : List Value} {Q : Option Value → Heap → List Loc → Prop} {k n : Nat}
    (X : Stand p l e R s m args below meth c T locs cells slots) (hx : p.tables.exec = Jvm.exec) (hlocks : meth.locks = false) (hret : meth.sig.returnType = some t) (hn : narrow t w = w)
    (hi : (i = .ireturn ∧ (t = .int ∨ t = .boolean ∨ t = .byte ∨ t = .char ∨ t = .short) ∧ ∃ z, w = .int z) ∨ (i = .lreturn ∧ t = .long ∧ ∃ z, w = .long z) ∨ (i = .dreturn ∧ t = .double ∧ ∃ z, w = .double z) ∨ (i = .freturn ∧ t = .float ∧ ∃ z, w = .float z) ∨ (i = .areturn ∧ t.isReference = true ∧ w.isRef = true))
    (hd : decode c.code pc = .ok (i, 1)) (hQ : Q (some w) T.heap locs) (hc : cells ≤ k) (hs : slots ≤ n) : Go p e below (FinQ below s Q k n) (T.setTop (mkF m pc Ls (w :: rest))) := by
  obtain ⟨fs, hr, hrun, hended, hW, hsame⟩ := X.leave (v := some w) (fun h => by rw [hret] at h; cases h) hlocks
  exact ⟨_, retOut X hx hret hn hi hd hr, _, hrun, hended, _, _, rfl, hQ, ⟨_, rfl⟩, hW, hsame.mono hc hs⟩
theorem retGI {pc : Nat} {Ls : Array Slot} {z : Int32} {rest : List Value} {Q : Option Value → Heap → List Loc → Prop} {k n : Nat}
    (X : Stand p l e R s m args below meth c T locs cells slots) (hx : p.tables.exec = Jvm.exec) (hlocks : meth.locks = false) (hret : meth.sig.returnType = some .int)
    (hd : decode c.code pc = .ok (.ireturn, 1)) (hQ : Q (some (.int z)) T.heap locs) (hc : cells ≤ k) (hs : slots ≤ n) : Go p e below (FinQ below s Q k n) (T.setTop (mkF m pc Ls (.int z :: rest))) :=
  retG X hx hlocks hret rfl (Or.inl ⟨rfl, Or.inl rfl, _, rfl⟩) hd hQ hc hs
theorem retGJ {pc : Nat} {Ls : Array Slot} {z : Int64} {rest : List Value} {Q : Option Value → Heap → List Loc → Prop} {k n : Nat}
    (X : Stand p l e R s m args below meth c T locs cells slots) (hx : p.tables.exec = Jvm.exec) (hlocks : meth.locks = false) (hret : meth.sig.returnType = some .long)
    (hd : decode c.code pc = .ok (.lreturn, 1)) (hQ : Q (some (.long z)) T.heap locs) (hc : cells ≤ k) (hs : slots ≤ n) : Go p e below (FinQ below s Q k n) (T.setTop (mkF m pc Ls (.long z :: rest))) :=
  retG X hx hlocks hret rfl (Or.inr (Or.inl ⟨rfl, rfl, _, rfl⟩)) hd hQ hc hs
theorem retGR {pc : Nat} {Ls : Array Slot} {a : Addr} {t : FieldType} {rest : List Value} {Q : Option Value → Heap → List Loc → Prop} {k n : Nat}
    (X : Stand p l e R s m args below meth c T locs cells slots) (hx : p.tables.exec = Jvm.exec) (hlocks : meth.locks = false) (hret : meth.sig.returnType = some t) (ht : t.isReference = true) (hn : narrow t (.ref a) = .ref a)
    (hd : decode c.code pc = .ok (.areturn, 1)) (hQ : Q (some (.ref a)) T.heap locs) (hc : cells ≤ k) (hs : slots ≤ n) : Go p e below (FinQ below s Q k n) (T.setTop (mkF m pc Ls (.ref a :: rest))) :=
  retG X hx hlocks hret hn (Or.inr (Or.inr (Or.inr (Or.inr ⟨rfl, ht, rfl⟩)))) hd hQ hc hs
theorem retGN {pc : Nat} {Ls : Array Slot} {z z' : Int32} {t : FieldType} {rest : List Value} {Q : Option Value → Heap → List Loc → Prop} {k n : Nat}
    (X : Stand p l e R s m args below meth c T locs cells slots) (hx : p.tables.exec = Jvm.exec) (hlocks : meth.locks = false) (hret : meth.sig.returnType = some t) (ht : t = .boolean ∨ t = .byte ∨ t = .char ∨ t = .short) (hz : nar t z = z')
    (hd : decode c.code pc = .ok (.ireturn, 1)) (hQ : Q (some (.int z')) T.heap locs) (hc : cells ≤ k) (hs : slots ≤ n) : Go p e below (FinQ below s Q k n) (T.setTop (mkF m pc Ls (.int z :: rest))) := by
  subst hz
  obtain ⟨fs, hr, hrun, hended, hW, hsame⟩ := X.leave (v := some (.int (nar t z))) (fun h => by rw [hret] at h; cases h) hlocks
  exact ⟨_, retN X hx hret ht hd hr, _, hrun, hended, _, _, rfl, hQ, ⟨_, rfl⟩, hW, hsame.mono hc hs⟩
theorem retGV {pc : Nat} {Ls : Array Slot} {Q : Option Value → Heap → List Loc → Prop} {k n : Nat}
    (X : Stand p l e R s m args below meth c T locs cells slots) (hx : p.tables.exec = Jvm.exec) (hlocks : meth.locks = false) (hret : meth.sig.returnType = none)
    (hd : decode c.code pc = .ok (.return_, 1)) (hQ : Q none T.heap locs) (hc : cells ≤ k) (hs : slots ≤ n) : Go p e below (FinQ below s Q k n) (T.setTop (mkF m pc Ls [])) := by
  obtain ⟨fs, hr, hrun, hended, hW, hsame⟩ := X.leave (v := none) (fun _ => rfl) hlocks
  exact ⟨_, X.returnOut hx hret hd hr, _, hrun, hended, _, _, rfl, hQ, ⟨_, rfl⟩, hW, hsame.mono hc hs⟩
end New
/-- a body that writes nothing and returns r -/
def QP (r : Value) (h0 : Heap) (n0 : Nat) (v : Option Value) (h : Heap) (L : List Loc) : Prop := v = some r ∧ Fr n0 L ∧ h = h0
def QV (h0 : Heap) (n0 : Nat) (v : Option Value) (h : Heap) (L : List Loc) : Prop := v = none ∧ Fr n0 L ∧ h = h0
def QAI (h0 : Heap) (n0 : Nat) (v : Option Value) (h : Heap) (L : List Loc) : Prop := (∃ z : Int32, v = some (.int z)) ∧ Fr n0 L ∧ h = h0
def QAJ (h0 : Heap) (n0 : Nat) (v : Option Value) (h : Heap) (L : List Loc) : Prop := (∃ z : Int64, v = some (.long z)) ∧ Fr n0 L ∧ h = h0
/-- a law: it returns r and writes nothing old -/
def QL (r : Value) (n0 : Nat) (v : Option Value) (h : Heap) (L : List Loc) : Prop := v = some r ∧ Fr n0 L
theorem remI (x y : Int32) : x - (x / y) * y = x % y := by
  rw [← Int32.toInt_inj, Int32.toInt_sub, Int32.toInt_mul, Int32.toInt_div, Int32.toInt_mod]
  have h := Int.tmod_add_mul_tdiv x.toInt y.toInt
  have r : (x.toInt.tmod y.toInt).bmod (2 ^ 32) = x.toInt.tmod y.toInt := by
    have := Int32.toInt_bmod (x % y)
    rwa [Int32.toInt_mod] at this
  rw [← r]
  have e : ((x.toInt.tdiv y.toInt).bmod (2 ^ 32) * y.toInt).bmod (2 ^ 32) = (x.toInt.tdiv y.toInt * y.toInt).bmod (2 ^ 32) := by simp
  rw [e, Int.sub_bmod_bmod]
  congr 1
  have := Int.mul_comm (x.toInt.tdiv y.toInt) y.toInt
  omega
theorem selP {s : State} {args : Array Value} {C : String} {x y z : MethodName} (hs : (Jvm.Cond.selects C x y).before args s = true) (hyz : y.cls = z.cls) (hp : s.PrivateAt z) (hi : (Jvm.Cond.instanceMethod z).before args s = true) (hz : z.cls ≠ "java/lang/invoke/MethodHandle" ∧ z.cls ≠ "java/lang/invoke/VarHandle") : (Jvm.Cond.selects z.cls z z).before args s = true := by
  obtain ⟨c, r, m, q1, q2, q3, q4, k, hk, hki⟩ := Cond.selects_spec hs
  have hc := findClass_of_methodNamed q3
  rw [hyz] at hc
  exact selects_self_of_private hc hk hki hp hi hz
theorem addI {x y : Int32} (h1 : -2147483648 ≤ x.toInt + y.toInt) (h2 : x.toInt + y.toInt < 2147483648) : (x + y).toInt = x.toInt + y.toInt := by have := c_iadd x y; have := rng32 (x + y); omega
theorem subI {x y : Int32} (h1 : -2147483648 ≤ x.toInt - y.toInt) (h2 : x.toInt - y.toInt < 2147483648) : (x - y).toInt = x.toInt - y.toInt := by have := c_isub x y; have := rng32 (x - y); omega
theorem mulI {x y : Int32} (h1 : -2147483648 ≤ x.toInt * y.toInt) (h2 : x.toInt * y.toInt < 2147483648) : (x * y).toInt = x.toInt * y.toInt := by have := c_imul x y; have := rng32 (x * y); omega
theorem addL {x y : Int64} (h1 : -9223372036854775808 ≤ x.toInt + y.toInt) (h2 : x.toInt + y.toInt < 9223372036854775808) : (x + y).toInt = x.toInt + y.toInt := by have := c_ladd x y; have := rng64 (x + y); omega
theorem subL {x y : Int64} (h1 : -9223372036854775808 ≤ x.toInt - y.toInt) (h2 : x.toInt - y.toInt < 9223372036854775808) : (x - y).toInt = x.toInt - y.toInt := by have := c_lsub x y; have := rng64 (x - y); omega
theorem mulL {x y : Int64} (h1 : -9223372036854775808 ≤ x.toInt * y.toInt) (h2 : x.toInt * y.toInt < 9223372036854775808) : (x * y).toInt = x.toInt * y.toInt := by have := c_lmul x y; have := rng64 (x * y); omega
theorem modI {x y : Int32} (d : Int) (hy : y.toInt = d) (hx : 0 ≤ x.toInt) : (x % y).toInt = x.toInt % d := by rw [Int32.toInt_mod, hy]; exact (tr _ _).1 hx
theorem modL {x y : Int64} (d : Int) (hy : y.toInt = d) (hx : 0 ≤ x.toInt) : (x % y).toInt = x.toInt % d := by rw [Int64.toInt_mod, hy]; exact (tr _ _).1 hx
end Jvm.OwnKit
namespace Jvm.OwnKit
open Sem ClassFile Op Lib Jvm.Stand Jvm.Free Jvm.LawKit Jvm.RoadKit
/-- an array: its length and its elements, by a function -/
def Ary (Z : State) (h : Heap) (a : Addr) (ty : FieldType) (n : Nat) (f : Nat → Value) : Prop := ∃ c : Cell, Arr Z h a c ty ∧ c.slots.size = n ∧ n < 2147483648 ∧ ∀ i, i < n → c.slots[i]? = some (f i)
def upA {α : Type} (f : Nat → α) (j : Nat) (v : α) : Nat → α := fun i => if i = j then v else f i
theorem upA_same {α : Type} (f : Nat → α) (j : Nat) (v : α) : upA f j v j = v := if_pos rfl
theorem upA_ne {α : Type} (f : Nat → α) {j i : Nat} (v : α) (h : i ≠ j) : upA f j v i = f i := if_neg h
section Facts
variable {Z : State} {h h' : Heap} {a b : Addr} {ty : FieldType} {n sl : Nat} {f : Nat → Value} {v : Value} {ws : List Addr} {j : Int32}
theorem Ary.lt (F : Ary Z h a ty n f) : a < h.size := by obtain ⟨c, A, -⟩ := F; exact A.lt
theorem Ary.ext (F : Ary Z h a ty n f) (E : Ext h h') : Ary Z h' a ty n f := by obtain ⟨c, A, r⟩ := F; exact ⟨c, A.ext E, r⟩
theorem Ary.other (F : Ary Z h b ty n f) (W : Wr h h' a sl v) (q : b ≠ a) : Ary Z h' b ty n f := by obtain ⟨c, A, r⟩ := F; exact ⟨c, A.other W q, r⟩
theorem Ary.keep (F : Ary Z h a ty n f) (K : Keep h h' ws) (q : a ∉ ws) : Ary Z h' a ty n f := by obtain ⟨c, A, r⟩ := F; exact ⟨c, ⟨K.2.1 a c A.1 q, A.2⟩, r⟩
theorem Ary.set (F : Ary Z h a ty n f) (W : Wr h h' a sl v) (q : sl < n) : Ary Z h' a ty n (upA f sl v) := by
  obtain ⟨c, A, hs, hn, hf⟩ := F
  obtain ⟨c', e1, -, -, e4, -, e6, e7⟩ := wr_at W A.1
  refine ⟨c', by rw [(e7 rfl).1]; exact A.same W, e4.trans hs, hn, fun i hi => ?_⟩
  by_cases e : i = sl
  · subst e; rw [(e7 rfl).2.1, upA_same]
  · rw [e6 i e, hf i hi, upA_ne _ _ e]
theorem Ary.setI {g : Nat → Int32} {x : Int32} (F : Ary Z h a ty n (fun i => .int (g i))) (W : Wr h h' a sl (.int x)) (q : sl < n) : Ary Z h' a ty n (fun i => .int (upA g sl x i)) := by
  have e : (fun i => Value.int (upA g sl x i)) = upA (fun i => Value.int (g i)) sl (.int x) := by funext i; unfold upA; split <;> rfl
  rw [e]; exact F.set W q
theorem Ary.setJ {g : Nat → Int64} {x : Int64} (F : Ary Z h a ty n (fun i => .long (g i))) (W : Wr h h' a sl (.long x)) (q : sl < n) : Ary Z h' a ty n (fun i => .long (upA g sl x i)) := by
  have e : (fun i => Value.long (upA g sl x i)) = upA (fun i => Value.long (g i)) sl (.long x) := by funext i; unfold upA; split <;> rfl
  rw [e]; exact F.set W q
theorem Ary.congr {f' : Nat → Value} (F : Ary Z h a ty n f) (q : ∀ i, i < n → f i = f' i) : Ary Z h a ty n f' := by
  obtain ⟨c, A, hs, hn, hf⟩ := F
  exact ⟨c, A, hs, hn, fun i hi => by rw [hf i hi, q i hi]⟩
theorem Ary.hin (F : Ary Z h a ty n f) (h0 : ¬ j < 0) (hj : j.toNatClampNeg < n) : ∃ cl, Arr Z h a cl ty ∧ ¬ (j < 0 ∨ cl.slots.size ≤ j.toNatClampNeg) ∧ cl.slots[j.toNatClampNeg]? = some (f j.toNatClampNeg) := by
  obtain ⟨c, A, hs, hn, hf⟩ := F
  exact ⟨c, A, fun q => q.elim h0 (fun r => by omega), hf _ hj⟩
theorem Ary.mk {k : ClassId} {z : Int32} (A : Arr Z h a (newA k ty z) ty) (q : ¬ z < 0) (hn : z.toNatClampNeg = n) : Ary Z h a ty n (fun _ => defaultValue ty) := by
  obtain ⟨c, A', -, hs, -, H, -⟩ := Arv.new A q
  have r := rng32 z
  refine ⟨c, A', hs.trans hn, ?_, fun i hi => ?_⟩
  · rw [← hn]; have := nat_of q; omega
  · have := H i (by rw [hs, hn]; exact hi); simpa using this
end Facts
theorem clamp_nat {k : Nat} (h : k < 2147483648) : (Int32.ofNat k).toNatClampNeg = k := by
  have e : (Int32.ofNat k).toInt = k := Int32.toInt_ofNat_of_lt h
  show (Int32.ofNat k).toInt.toNat = k
  rw [e]; rfl
theorem nat32 {k : Nat} (h : k < 2147483648) : k.toInt32.toInt = k := Int32.toInt_ofNat_of_lt h
section New
variable {p : Program} {l : Launch} {e : Env} {R : Room} {s : State} {m : MethodId} {args : Array Value} {below : List Frame} {meth : Method} {c : Code} {T : State} {locs : List Loc} {cells slots : Nat} {Z : State} {h : Heap} {a : Addr} {n : Nat} {rest : List Value} {g : JFrame} {j : Int32}
theorem ldI {f : Nat → Int32} (X : Stand p l e R s m args below meth c T locs cells slots) (hx : p.tables.exec = Jvm.exec) (hZ : Z.Warmed39 s.vm) (eT : T.heap = h) (F : Ary Z h a .int n (fun i => .int (f i))) (h0 : ¬ j < 0) (hj : j.toNatClampNeg < n)
    (hg : g.method = m) (hs : g.stack = .int j :: .ref a :: rest) (hd : decode c.code g.pc = .ok (.iaload, 1)) : ∀ target, Steps p.tables e below (T.setTop { g with pc := g.pc + 1, stack := .int (f j.toNatClampNeg) :: rest }) target → Steps p.tables e below (T.setTop g) target := fun t k => by
  obtain ⟨cl, A, hin, hat⟩ := F.hin h0 hj
  exact X.iaload hx (by rw [eT]; exact A.1) (State.isArrayOf_alike hZ.alike A.2.1) A.2.2 hin hat hg hs hd t k
theorem ldJ {f : Nat → Int64} (X : Stand p l e R s m args below meth c T locs cells slots) (hx : p.tables.exec = Jvm.exec) (hZ : Z.Warmed39 s.vm) (eT : T.heap = h) (F : Ary Z h a .long n (fun i => .long (f i))) (h0 : ¬ j < 0) (hj : j.toNatClampNeg < n)
    (hg : g.method = m) (hs : g.stack = .int j :: .ref a :: rest) (hd : decode c.code g.pc = .ok (.laload, 1)) : ∀ target, Steps p.tables e below (T.setTop { g with pc := g.pc + 1, stack := .long (f j.toNatClampNeg) :: rest }) target → Steps p.tables e below (T.setTop g) target := fun t k => by
  obtain ⟨cl, A, hin, hat⟩ := F.hin h0 hj
  exact X.laload hx (by rw [eT]; exact A.1) (State.isArrayOf_alike hZ.alike A.2.1) A.2.2 hin hat hg hs hd t k
theorem ldB {f : Nat → Int32} (X : Stand p l e R s m args below meth c T locs cells slots) (hx : p.tables.exec = Jvm.exec) (hZ : Z.Warmed39 s.vm) (eT : T.heap = h) (F : Ary Z h a .byte n (fun i => .int (f i))) (h0 : ¬ j < 0) (hj : j.toNatClampNeg < n)
    (hg : g.method = m) (hs : g.stack = .int j :: .ref a :: rest) (hd : decode c.code g.pc = .ok (.baload, 1)) : ∀ target, Steps p.tables e below (T.setTop { g with pc := g.pc + 1, stack := .int (f j.toNatClampNeg) :: rest }) target → Steps p.tables e below (T.setTop g) target := fun t k => by
  obtain ⟨cl, A, hin, hat⟩ := F.hin h0 hj
  exact X.baloadBytes hx (by rw [eT]; exact A.1) (State.isArrayOf_alike hZ.alike A.2.1) A.2.2 hin hat hg hs hd t k
theorem ldC {f : Nat → Int32} (X : Stand p l e R s m args below meth c T locs cells slots) (hx : p.tables.exec = Jvm.exec) (hZ : Z.Warmed39 s.vm) (eT : T.heap = h) (F : Ary Z h a .char n (fun i => .int (f i))) (h0 : ¬ j < 0) (hj : j.toNatClampNeg < n)
    (hg : g.method = m) (hs : g.stack = .int j :: .ref a :: rest) (hd : decode c.code g.pc = .ok (.caload, 1)) : ∀ target, Steps p.tables e below (T.setTop { g with pc := g.pc + 1, stack := .int (f j.toNatClampNeg) :: rest }) target → Steps p.tables e below (T.setTop g) target := fun t k => by
  obtain ⟨cl, A, hin, hat⟩ := F.hin h0 hj
  exact X.caload hx (by rw [eT]; exact A.1) (State.isArrayOf_alike hZ.alike A.2.1) A.2.2 hin hat hg hs hd t k
theorem ldR {f : Nat → Value} {ty : FieldType} (X : Stand p l e R s m args below meth c T locs cells slots) (hx : p.tables.exec = Jvm.exec) (hZ : Z.Warmed39 s.vm) (eT : T.heap = h) (F : Ary Z h a ty n f) (hty : ty.isReference = true) (h0 : ¬ j < 0) (hj : j.toNatClampNeg < n)
    (hg : g.method = m) (hs : g.stack = .int j :: .ref a :: rest) (hd : decode c.code g.pc = .ok (.aaload, 1)) : ∀ target, Steps p.tables e below (T.setTop { g with pc := g.pc + 1, stack := f j.toNatClampNeg :: rest }) target → Steps p.tables e below (T.setTop g) target := fun t k => by
  obtain ⟨cl, A, hin, hat⟩ := F.hin h0 hj
  exact X.aaload hx (by rw [eT]; exact A.1) (State.isArrayOf_alike hZ.alike A.2.1) hty A.2.2 hin hat hg hs hd t k
theorem lenA {f : Nat → Value} {ty : FieldType} (X : Stand p l e R s m args below meth c T locs cells slots) (hx : p.tables.exec = Jvm.exec) (hZ : Z.Warmed39 s.vm) (eT : T.heap = h) (F : Ary Z h a ty n f)
    (hg : g.method = m) (hs : g.stack = .ref a :: rest) (hd : decode c.code g.pc = .ok (.arraylength, 1)) : ∀ target, Steps p.tables e below (T.setTop { g with pc := g.pc + 1, stack := .int n.toInt32 :: rest }) target → Steps p.tables e below (T.setTop g) target := fun t k => by
  obtain ⟨cl, A, hs', hn, -⟩ := F
  subst hs'
  exact X.arraylength hx (by rw [eT]; exact A.1) (State.isArrayOf_alike hZ.alike A.2.1) hg hs hd t k
theorem lenAz {f : Nat → Value} {ty : FieldType} {z : Int32} (X : Stand p l e R s m args below meth c T locs cells slots) (hx : p.tables.exec = Jvm.exec) (hZ : Z.Warmed39 s.vm) (eT : T.heap = h) (F : Ary Z h a ty n f) (hz : n.toInt32 = z)
    (hg : g.method = m) (hs : g.stack = .ref a :: rest) (hd : decode c.code g.pc = .ok (.arraylength, 1)) : ∀ target, Steps p.tables e below (T.setTop { g with pc := g.pc + 1, stack := .int z :: rest }) target → Steps p.tables e below (T.setTop g) target := fun t k => by
  subst hz
  exact lenA X hx hZ eT F hg hs hd t k
end New
theorem len32 {z : Int32} (q : ¬ z < 0) : z.toNatClampNeg.toInt32 = z := by
  have r := rng32 z
  have e := nat_of q
  apply Int32.toInt_inj.mp
  rw [nat32 (by omega)]; omega
theorem succ32 (j : Nat) : Int32.ofNat j + 1 = Int32.ofNat (j + 1) := by rw [Int32.ofNat_add]; rfl
theorem of_lt {j n : Nat} (hj : j < 2147483648) (hn : n < 2147483648) : Int32.ofNat j < n.toInt32 ↔ j < n := by
  rw [Int32.lt_iff_toInt_lt, show (Int32.ofNat j).toInt = j from Int32.toInt_ofNat_of_lt hj, nat32 hn]; omega
theorem of_nn {j : Nat} (hj : j < 2147483648) : ¬ Int32.ofNat j < 0 := by
  rw [Int32.lt_iff_toInt_lt, show (Int32.ofNat j).toInt = j from Int32.toInt_ofNat_of_lt hj, show (0 : Int32).toInt = 0 by decide]; omega
theorem Ary.len {Z : State} {h : Heap} {a : Addr} {ty : FieldType} {n : Nat} {f : Nat → Value} (F : Ary Z h a ty n f) : n < 2147483648 := by obtain ⟨c, A, hs, hn, -⟩ := F; exact hn
end Jvm.OwnKit
namespace Jvm.Pilot.@@N@@
open Jvm Jvm.ClassFile Sem Op Lib Jvm.Free Jvm.Stand Jvm.LawKit Jvm.RoadKit Jvm.OwnKit Bundle Jvm.Pilot.@@N@@.Jvm.D

def Ch (z : Int32) : Prop := nar .char z = z ∧ ¬ ((255 : Int32) < z)
theorem ch_mk (p : Int32) : Ch ((p &&& (255 : Int32)).toUInt32.toUInt16.toUInt32.toInt32) := by
  have h1 := c_mask p 255 8 (by decide) (by decide)
  have h2 := c_i2c (p &&& (255 : Int32))
  have h3 := c_i2c ((p &&& (255 : Int32)).toUInt32.toUInt16.toUInt32.toInt32)
  have h4 := rng32 p
  refine ⟨?_, ?_⟩
  · show (((p &&& (255 : Int32)).toUInt32.toUInt16.toUInt32.toInt32)).toUInt32.toUInt16.toUInt32.toInt32 = _
    rw [← Int32.toInt_inj]; omega
  · rw [Int32.lt_iff_toInt_lt, show (255 : Int32).toInt = 255 by decide]; omega
theorem Ch.rng {z : Int32} (h : Ch z) : 0 ≤ z.toInt ∧ z.toInt < 256 := by
  have h3 := c_i2c z
  have h1 : (nar .char z).toInt = z.toInt := congrArg Int32.toInt h.1
  have h1' : z.toUInt32.toUInt16.toUInt32.toInt32.toInt = z.toInt := h1
  have h2 := h.2
  rw [Int32.lt_iff_toInt_lt, show (255 : Int32).toInt = 255 by decide] at h2
  omega
def by8 (z : Int32) : Int32 := nar .byte ((nar .char z).toInt8.toInt32)
theorem by8_inj {x y : Int32} (hx : Ch x) (hy : Ch y) : by8 x = by8 y ↔ x = y := by
  constructor
  · intro h
    have hx' := hx.rng
    have hy' := hy.rng
    unfold by8 at h
    rw [hx.1, hy.1] at h
    have h' : x.toInt8.toInt32.toInt8.toInt32 = y.toInt8.toInt32.toInt8.toInt32 := h
    have e1 := c_i2b x
    have e2 := c_i2b x.toInt8.toInt32
    have e3 := c_i2b y
    have e4 := c_i2b y.toInt8.toInt32
    rw [← Int32.toInt_inj] at h' ⊢
    omega
  · intro h; rw [h]
def st2 (a b : Int32) : Nat → Int32 := upA (upA (fun _ => (0 : Int32)) 0 (nar .byte (((upA (upA (fun _ => (0 : Int32)) 0 (nar .char a)) 1 (nar .char b)) 0).toInt8.toInt32))) 1 (nar .byte (((upA (upA (fun _ => (0 : Int32)) 0 (nar .char a)) 1 (nar .char b)) 1).toInt8.toInt32))

theorem d5_0 : decode jdk_52_method_21_code 0 = .ok (.iconst 0, 1) := by decide +kernel
theorem d5_1 : decode jdk_52_method_21_code 1 = .ok (.istore 5, 2) := by decide +kernel
theorem d5_3 : decode jdk_52_method_21_code 3 = .ok (.iload 5, 2) := by decide +kernel
theorem d5_5 : decode jdk_52_method_21_code 5 = .ok (.iload 4, 2) := by decide +kernel
theorem d5_7 : decode jdk_52_method_21_code 7 = .ok (.if_icmp .ge 37, 3) := by decide +kernel
theorem d5_10 : decode jdk_52_method_21_code 10 = .ok (.aload_n 0, 1) := by decide +kernel
theorem d5_11 : decode jdk_52_method_21_code 11 = .ok (.iload_n 1, 1) := by decide +kernel
theorem d5_12 : decode jdk_52_method_21_code 12 = .ok (.caload, 1) := by decide +kernel
theorem d5_13 : decode jdk_52_method_21_code 13 = .ok (.istore 6, 2) := by decide +kernel
theorem d5_15 : decode jdk_52_method_21_code 15 = .ok (.iload 6, 2) := by decide +kernel
theorem d5_17 : decode jdk_52_method_21_code 17 = .ok (.sipush 255, 3) := by decide +kernel
theorem d5_20 : decode jdk_52_method_21_code 20 = .ok (.if_icmp .le 6, 3) := by decide +kernel
theorem d5_26 : decode jdk_52_method_21_code 26 = .ok (.aload_n 2, 1) := by decide +kernel
theorem d5_27 : decode jdk_52_method_21_code 27 = .ok (.iload_n 3, 1) := by decide +kernel
theorem d5_28 : decode jdk_52_method_21_code 28 = .ok (.iload 6, 2) := by decide +kernel
theorem d5_30 : decode jdk_52_method_21_code 30 = .ok (.i2b, 1) := by decide +kernel
theorem d5_31 : decode jdk_52_method_21_code 31 = .ok (.bastore, 1) := by decide +kernel
theorem d5_32 : decode jdk_52_method_21_code 32 = .ok (.iinc 1 1, 3) := by decide +kernel
theorem d5_35 : decode jdk_52_method_21_code 35 = .ok (.iinc 3 1, 3) := by decide +kernel
theorem d5_38 : decode jdk_52_method_21_code 38 = .ok (.iinc 5 1, 3) := by decide +kernel
theorem d5_41 : decode jdk_52_method_21_code 41 = .ok (.goto (-38), 3) := by decide +kernel
theorem d5_44 : decode jdk_52_method_21_code 44 = .ok (.iload 4, 2) := by decide +kernel
theorem d5_46 : decode jdk_52_method_21_code 46 = .ok (.ireturn, 1) := by decide +kernel
theorem ef_5_1 (m : MethodId) (a1 : Addr) (a3 : Addr) : entryFrame m #[(.ref a1), (.int (0 : Int32)), (.ref a3), (.int (0 : Int32)), (.int (1 : Int32))] 7 = mkF m 0 #[.val (.ref a1), .val (.int (0 : Int32)), .val (.ref a3), .val (.int (0 : Int32)), .val (.int (1 : Int32)), .unset, .unset] [] := by first | (simp [entryFrame, mkF, argsToLocals, Value.category]; done) | rfl
theorem pn_0 : plainName "java/lang/StringUTF16" = true := by first | (simp [plainName, overriddenIn]; done) | decide +kernel
def Q5_1 (Z : State) (a1 : Addr) (a3 : Addr) (g_a1f : Nat → Int32) (g_a3f : Nat → Int32) (h0 : Heap) (n0 : Nat) (v : Option Value) (h : Heap) (L : List Loc) : Prop := v = some (.int (1 : Int32)) ∧ Fr n0 L ∧ Keep h0 h [a3] ∧ Ary Z h a3 .byte 1 (fun i => .int ((upA g_a3f 0 (nar .byte ((g_a1f 0).toInt8.toInt32))) i))
set_option maxRecDepth 65536 in
set_option maxHeartbeats 40000000 in
theorem rm5_1 (l : Launch) (Z : State) (a0 : Array Value) (hw : ∀ d ∈ tables_1, d.before a0 Z = true) (ws : List Jvm.Cond) (a1 : Addr) (a3 : Addr) (g_a1f : Nat → Int32) (g_a3f : Nat → Int32) (h0 : Heap) (n0 : Nat) (Z0 : n0 ≤ h0.size) (A_a1 : Ary Z h0 a1 .char 1 (fun i => .int (g_a1f i))) (A_a3 : Ary Z h0 a3 .byte 1 (fun i => .int (g_a3f i))) (hp20 : ¬ ((255 : Int32) < (g_a1f 0))) (g_a3 : n0 ≤ a3) (hne_a1_a3 : a1 ≠ a3) :
    MetFree l (⟨"java/lang/StringUTF16", "compress", "([CI[BII)I"⟩ : MethodName) (head1 (Jvm.Cond.code (⟨"java/lang/StringUTF16", "compress", "([CI[BII)I"⟩ : MethodName) jdk_52_method_21_code 7 (some .int) :: ws) ({ frames := 0, cells := 0, slots := 0, locals := 0 } : Room)) (fun a U => a = #[(.ref a1), (.int (0 : Int32)), (.ref a3), (.int (0 : Int32)), (.int (1 : Int32))] ∧ Z.Warmed39 U.vm ∧ U.heap = h0) (fun _ _ _ _ _ => True) (fun _ U o U' => ∃ v L, o = .returned v ∧ Q5_1 Z a1 a3 g_a1f g_a3f h0 n0 v U'.heap L ∧ FrameEnd U o U' L ({ frames := 0, cells := 0, slots := 0, locals := 0 } : Room).cells ({ frames := 0, cells := 0, slots := 0, locals := 0 } : Room).slots) := by
  refine MetFree.of_bodySF (plainFor_of_name pn_0) hisR ?_
  intro p e s m args below meth c s₁ Bd hml0 hP hK
  obtain ⟨rfl, hZ, hh⟩ := hP
  have hx := Bd.exec
  have hby := Bd.bytes
  have hml : c.maxLocals = 7 := hml0
  have hown : s.vm.findClass "java/lang/StringUTF16" = some m.cls := findClass_of_methodNamed Bd.named
  have hnm := (name_of_methodNamed Bd.named Bd.method).1
  have X0 : Stand p l e ({ frames := 0, cells := 0, slots := 0, locals := 0 } : Room) s m #[(.ref a1), (.int (0 : Int32)), (.ref a3), (.int (0 : Int32)), (.int (1 : Int32))] below meth c s₁ [] 0 0 := Stand.of_body Bd
  have e0 : s₁.heap = h0 := by rw [← hh, Bd.state]; rfl
  have N0 := Fr.nil n0
  refine Go.done (Go.step (fun t k => castTop (ef_5_1 m a1 a3) k) ?_)
  have KK0 : Keep h0 h0 [a3] := Keep.refl _ _
  show Go p e below _ (s₁.setTop (mkF m 0 #[.val (.ref a1), .val (.int (0 : Int32)), .val (.ref a3), .val (.int (0 : Int32)), .val (.int (1 : Int32)), .unset, .unset] []))
  refine Go.step (fun t k => XS.iconst X0.here hx rfl (hb hby d5_0)  k) ?_
  show Go p e below _ (s₁.setTop (mkF m 1 #[.val (.ref a1), .val (.int (0 : Int32)), .val (.ref a3), .val (.int (0 : Int32)), .val (.int (1 : Int32)), .unset, .unset] [(.int (0 : Int32))]))
  refine Go.step (fun t k => XS.istore X0.here hx rfl (hb hby d5_1) rfl (l' := #[.val (.ref a1), .val (.int (0 : Int32)), .val (.ref a3), .val (.int (0 : Int32)), .val (.int (1 : Int32)), .val (.int (0 : Int32)), .unset]) rfl k) ?_
  show Go p e below _ (s₁.setTop (mkF m 3 #[.val (.ref a1), .val (.int (0 : Int32)), .val (.ref a3), .val (.int (0 : Int32)), .val (.int (1 : Int32)), .val (.int (0 : Int32)), .unset] []))
  refine Go.step (fun t k => XS.iload X0.here hx rfl (hb hby d5_3) rfl k) ?_
  show Go p e below _ (s₁.setTop (mkF m 5 #[.val (.ref a1), .val (.int (0 : Int32)), .val (.ref a3), .val (.int (0 : Int32)), .val (.int (1 : Int32)), .val (.int (0 : Int32)), .unset] [(.int (0 : Int32))]))
  refine Go.step (fun t k => XS.iload X0.here hx rfl (hb hby d5_5) rfl k) ?_
  show Go p e below _ (s₁.setTop (mkF m 7 #[.val (.ref a1), .val (.int (0 : Int32)), .val (.ref a3), .val (.int (0 : Int32)), .val (.int (1 : Int32)), .val (.int (0 : Int32)), .unset] [(.int (1 : Int32)), (.int (0 : Int32))]))
  refine Go.step (fun t k => XS.icmpNo X0.here hx rfl (hb hby d5_7) rfl (tlt (by decide : (0 : Int32) < (1 : Int32))).2.1 k) ?_
  show Go p e below _ (s₁.setTop (mkF m 10 #[.val (.ref a1), .val (.int (0 : Int32)), .val (.ref a3), .val (.int (0 : Int32)), .val (.int (1 : Int32)), .val (.int (0 : Int32)), .unset] []))
  refine Go.step (fun t k => XS.aloadN X0.here hx rfl (hb hby d5_10) rfl rfl k) ?_
  show Go p e below _ (s₁.setTop (mkF m 11 #[.val (.ref a1), .val (.int (0 : Int32)), .val (.ref a3), .val (.int (0 : Int32)), .val (.int (1 : Int32)), .val (.int (0 : Int32)), .unset] [(.ref a1)]))
  refine Go.step (fun t k => XS.iloadN X0.here hx rfl (hb hby d5_11) rfl k) ?_
  show Go p e below _ (s₁.setTop (mkF m 12 #[.val (.ref a1), .val (.int (0 : Int32)), .val (.ref a3), .val (.int (0 : Int32)), .val (.int (1 : Int32)), .val (.int (0 : Int32)), .unset] [(.int (0 : Int32)), (.ref a1)]))
  refine Go.step (ldC X0 hx hZ e0 A_a1 (j := (0 : Int32)) (by decide) (by decide) (g := (mkF m 12 #[.val (.ref a1), .val (.int (0 : Int32)), .val (.ref a3), .val (.int (0 : Int32)), .val (.int (1 : Int32)), .val (.int (0 : Int32)), .unset] [(.int (0 : Int32)), (.ref a1)])) rfl rfl (hb hby d5_12)) ?_
  show Go p e below _ (s₁.setTop (mkF m 13 #[.val (.ref a1), .val (.int (0 : Int32)), .val (.ref a3), .val (.int (0 : Int32)), .val (.int (1 : Int32)), .val (.int (0 : Int32)), .unset] [(.int (g_a1f 0))]))
  refine Go.step (fun t k => XS.istore X0.here hx rfl (hb hby d5_13) rfl (l' := #[.val (.ref a1), .val (.int (0 : Int32)), .val (.ref a3), .val (.int (0 : Int32)), .val (.int (1 : Int32)), .val (.int (0 : Int32)), .val (.int (g_a1f 0))]) rfl k) ?_
  show Go p e below _ (s₁.setTop (mkF m 15 #[.val (.ref a1), .val (.int (0 : Int32)), .val (.ref a3), .val (.int (0 : Int32)), .val (.int (1 : Int32)), .val (.int (0 : Int32)), .val (.int (g_a1f 0))] []))
  refine Go.step (fun t k => XS.iload X0.here hx rfl (hb hby d5_15) rfl k) ?_
  show Go p e below _ (s₁.setTop (mkF m 17 #[.val (.ref a1), .val (.int (0 : Int32)), .val (.ref a3), .val (.int (0 : Int32)), .val (.int (1 : Int32)), .val (.int (0 : Int32)), .val (.int (g_a1f 0))] [(.int (g_a1f 0))]))
  refine Go.step (fun t k => XS.sipush X0.here hx rfl (hb hby d5_17)  k) ?_
  show Go p e below _ (s₁.setTop (mkF m 20 #[.val (.ref a1), .val (.int (0 : Int32)), .val (.ref a3), .val (.int (0 : Int32)), .val (.int (1 : Int32)), .val (.int (0 : Int32)), .val (.int (g_a1f 0))] [(.int (255 : Int32)), (.int (g_a1f 0))]))
  refine Go.step (fun t k => XS.icmpYes X0.here hx rfl (pc0 := 20) (pc' := 26) rfl (hb hby d5_20) rfl (flt hp20).2.2.2 (by decide) (by decide) k) ?_
  show Go p e below _ (s₁.setTop (mkF m 26 #[.val (.ref a1), .val (.int (0 : Int32)), .val (.ref a3), .val (.int (0 : Int32)), .val (.int (1 : Int32)), .val (.int (0 : Int32)), .val (.int (g_a1f 0))] []))
  refine Go.step (fun t k => XS.aloadN X0.here hx rfl (hb hby d5_26) rfl rfl k) ?_
  show Go p e below _ (s₁.setTop (mkF m 27 #[.val (.ref a1), .val (.int (0 : Int32)), .val (.ref a3), .val (.int (0 : Int32)), .val (.int (1 : Int32)), .val (.int (0 : Int32)), .val (.int (g_a1f 0))] [(.ref a3)]))
  refine Go.step (fun t k => XS.iloadN X0.here hx rfl (hb hby d5_27) rfl k) ?_
  show Go p e below _ (s₁.setTop (mkF m 28 #[.val (.ref a1), .val (.int (0 : Int32)), .val (.ref a3), .val (.int (0 : Int32)), .val (.int (1 : Int32)), .val (.int (0 : Int32)), .val (.int (g_a1f 0))] [(.int (0 : Int32)), (.ref a3)]))
  refine Go.step (fun t k => XS.iload X0.here hx rfl (hb hby d5_28) rfl k) ?_
  show Go p e below _ (s₁.setTop (mkF m 30 #[.val (.ref a1), .val (.int (0 : Int32)), .val (.ref a3), .val (.int (0 : Int32)), .val (.int (1 : Int32)), .val (.int (0 : Int32)), .val (.int (g_a1f 0))] [(.int (g_a1f 0)), (.int (0 : Int32)), (.ref a3)]))
  refine Go.step (fun t k => XS.i2b X0.here hx rfl (hb hby d5_30) rfl k) ?_
  show Go p e below _ (s₁.setTop (mkF m 31 #[.val (.ref a1), .val (.int (0 : Int32)), .val (.ref a3), .val (.int (0 : Int32)), .val (.int (1 : Int32)), .val (.int (0 : Int32)), .val (.int (g_a1f 0))] [(.int ((g_a1f 0).toInt8.toInt32)), (.int (0 : Int32)), (.ref a3)]))
  obtain ⟨cl6, Ar6, in6, -⟩ := A_a3.hin (j := (0 : Int32)) (by decide) (by decide)
  obtain ⟨T6, h6, X6, e6, W6, st6⟩ := stB X0 hx hZ e0 Ar6 in6 (g := (mkF m 31 #[.val (.ref a1), .val (.int (0 : Int32)), .val (.ref a3), .val (.int (0 : Int32)), .val (.int (1 : Int32)), .val (.int (0 : Int32)), .val (.int (g_a1f 0))] [(.int ((g_a1f 0).toInt8.toInt32)), (.int (0 : Int32)), (.ref a3)])) rfl rfl (hb hby d5_31)
  refine Go.step st6 ?_
  have N6 := Fr.snoc X6 N0 g_a3
  have A_a1_6 := A_a1.other W6 hne_a1_a3
  have Z6 := Nat.le_trans Z0 (Keep.of_wr W6).1
  have KK6 : Keep h0 h6 [a3] := KK0.wr W6 (Or.inl (by simp))
  clear A_a1 Z0 KK0
  have A_a3_6 : Ary Z h6 a3 .byte 1 (fun i => .int ((upA g_a3f 0 (nar .byte ((g_a1f 0).toInt8.toInt32))) i)) := A_a3.setI W6 (by decide)
  show Go p e below _ (T6.setTop (mkF m 32 #[.val (.ref a1), .val (.int (0 : Int32)), .val (.ref a3), .val (.int (0 : Int32)), .val (.int (1 : Int32)), .val (.int (0 : Int32)), .val (.int (g_a1f 0))] []))
  refine Go.step (fun t k => XS.iinc X6.here hx rfl (hb hby d5_32) rfl (l' := #[.val (.ref a1), .val (.int (1 : Int32)), .val (.ref a3), .val (.int (0 : Int32)), .val (.int (1 : Int32)), .val (.int (0 : Int32)), .val (.int (g_a1f 0))]) rfl k) ?_
  show Go p e below _ (T6.setTop (mkF m 35 #[.val (.ref a1), .val (.int (1 : Int32)), .val (.ref a3), .val (.int (0 : Int32)), .val (.int (1 : Int32)), .val (.int (0 : Int32)), .val (.int (g_a1f 0))] []))
  refine Go.step (fun t k => XS.iinc X6.here hx rfl (hb hby d5_35) rfl (l' := #[.val (.ref a1), .val (.int (1 : Int32)), .val (.ref a3), .val (.int (1 : Int32)), .val (.int (1 : Int32)), .val (.int (0 : Int32)), .val (.int (g_a1f 0))]) rfl k) ?_
  show Go p e below _ (T6.setTop (mkF m 38 #[.val (.ref a1), .val (.int (1 : Int32)), .val (.ref a3), .val (.int (1 : Int32)), .val (.int (1 : Int32)), .val (.int (0 : Int32)), .val (.int (g_a1f 0))] []))
  refine Go.step (fun t k => XS.iinc X6.here hx rfl (hb hby d5_38) rfl (l' := #[.val (.ref a1), .val (.int (1 : Int32)), .val (.ref a3), .val (.int (1 : Int32)), .val (.int (1 : Int32)), .val (.int (1 : Int32)), .val (.int (g_a1f 0))]) rfl k) ?_
  show Go p e below _ (T6.setTop (mkF m 41 #[.val (.ref a1), .val (.int (1 : Int32)), .val (.ref a3), .val (.int (1 : Int32)), .val (.int (1 : Int32)), .val (.int (1 : Int32)), .val (.int (g_a1f 0))] []))
  refine Go.step (fun t k => XS.goto X6.here hx rfl (pc0 := 41) (pc' := 3) rfl (hb hby d5_41) (by decide) (by decide) k) ?_
  show Go p e below _ (T6.setTop (mkF m 3 #[.val (.ref a1), .val (.int (1 : Int32)), .val (.ref a3), .val (.int (1 : Int32)), .val (.int (1 : Int32)), .val (.int (1 : Int32)), .val (.int (g_a1f 0))] []))
  refine Go.step (fun t k => XS.iload X6.here hx rfl (hb hby d5_3) rfl k) ?_
  show Go p e below _ (T6.setTop (mkF m 5 #[.val (.ref a1), .val (.int (1 : Int32)), .val (.ref a3), .val (.int (1 : Int32)), .val (.int (1 : Int32)), .val (.int (1 : Int32)), .val (.int (g_a1f 0))] [(.int (1 : Int32))]))
  refine Go.step (fun t k => XS.iload X6.here hx rfl (hb hby d5_5) rfl k) ?_
  show Go p e below _ (T6.setTop (mkF m 7 #[.val (.ref a1), .val (.int (1 : Int32)), .val (.ref a3), .val (.int (1 : Int32)), .val (.int (1 : Int32)), .val (.int (1 : Int32)), .val (.int (g_a1f 0))] [(.int (1 : Int32)), (.int (1 : Int32))]))
  refine Go.step (fun t k => XS.icmpYes X6.here hx rfl (pc0 := 7) (pc' := 44) rfl (hb hby d5_7) rfl (flt (by decide : ¬ ((1 : Int32) < (1 : Int32)))).2.1 (by decide) (by decide) k) ?_
  show Go p e below _ (T6.setTop (mkF m 44 #[.val (.ref a1), .val (.int (1 : Int32)), .val (.ref a3), .val (.int (1 : Int32)), .val (.int (1 : Int32)), .val (.int (1 : Int32)), .val (.int (g_a1f 0))] []))
  refine Go.step (fun t k => XS.iload X6.here hx rfl (hb hby d5_44) rfl k) ?_
  show Go p e below _ (T6.setTop (mkF m 46 #[.val (.ref a1), .val (.int (1 : Int32)), .val (.ref a3), .val (.int (1 : Int32)), .val (.int (1 : Int32)), .val (.int (1 : Int32)), .val (.int (g_a1f 0))] [(.int (1 : Int32))]))
  refine retGI X6 hx Bd.notSynchronized Bd.returns (hb hby d5_46) ?_ (by decide) (by decide)
  show Q5_1 Z a1 a3 g_a1f g_a3f h0 n0 _ T6.heap _
  rw [e6]
  exact ⟨rfl, N6, KK6, A_a3_6⟩
theorem d4_0 : decode jdk_52_method_16_code 0 = .ok (.iload_n 2, 1) := by decide +kernel
theorem d4_1 : decode jdk_52_method_16_code 1 = .ok (.newarray .byte, 2) := by decide +kernel
theorem d4_3 : decode jdk_52_method_16_code 3 = .ok (.astore_n 3, 1) := by decide +kernel
theorem d4_4 : decode jdk_52_method_16_code 4 = .ok (.aload_n 0, 1) := by decide +kernel
theorem d4_5 : decode jdk_52_method_16_code 5 = .ok (.iload_n 1, 1) := by decide +kernel
theorem d4_6 : decode jdk_52_method_16_code 6 = .ok (.aload_n 3, 1) := by decide +kernel
theorem d4_7 : decode jdk_52_method_16_code 7 = .ok (.iconst 0, 1) := by decide +kernel
theorem d4_8 : decode jdk_52_method_16_code 8 = .ok (.iload_n 2, 1) := by decide +kernel
theorem d4_9 : decode jdk_52_method_16_code 9 = .ok (.invokestatic 115, 3) := by decide +kernel
theorem pd_0 : parseMethodDescriptor "([CI[BII)I" = some ⟨[(.array .char), .int, (.array .byte), .int, .int], some .int⟩ := by decide +kernel
theorem d4_12 : decode jdk_52_method_16_code 12 = .ok (.istore 4, 2) := by decide +kernel
theorem d4_14 : decode jdk_52_method_16_code 14 = .ok (.iload 4, 2) := by decide +kernel
theorem d4_16 : decode jdk_52_method_16_code 16 = .ok (.iload_n 2, 1) := by decide +kernel
theorem d4_17 : decode jdk_52_method_16_code 17 = .ok (.if_icmp .eq 40, 3) := by decide +kernel
theorem d4_57 : decode jdk_52_method_16_code 57 = .ok (.aload_n 3, 1) := by decide +kernel
theorem d4_58 : decode jdk_52_method_16_code 58 = .ok (.areturn, 1) := by decide +kernel
theorem ef_4_1 (m : MethodId) (a1 : Addr) : entryFrame m #[(.ref a1), (.int (0 : Int32)), (.int (1 : Int32))] 6 = mkF m 0 #[.val (.ref a1), .val (.int (0 : Int32)), .val (.int (1 : Int32)), .unset, .unset, .unset] [] := by first | (simp [entryFrame, mkF, argsToLocals, Value.category]; done) | rfl
def Q4_1 (Z : State) (a1 : Addr) (g_a1f : Nat → Int32) (h0 : Heap) (n0 : Nat) (v : Option Value) (h : Heap) (L : List Loc) : Prop := ∃ (b4 : Addr), v = some (.ref b4) ∧ Fr n0 L ∧ Keep h0 h [] ∧ h0.size ≤ b4 ∧ Ary Z h b4 .byte 1 (fun i => .int ((upA (fun _ => (0 : Int32)) 0 (nar .byte ((g_a1f 0).toInt8.toInt32))) i))
set_option maxRecDepth 65536 in
set_option maxHeartbeats 40000000 in
theorem rm4_1 (l : Launch) (Z : State) (a0 : Array Value) (hw : ∀ d ∈ tables_1, d.before a0 Z = true) (ws : List Jvm.Cond) (a1 : Addr) (g_a1f : Nat → Int32) (h0 : Heap) (n0 : Nat) (Z0 : n0 ≤ h0.size) (A_a1 : Ary Z h0 a1 .char 1 (fun i => .int (g_a1f i))) (hp9_hp20 : ¬ ((255 : Int32) < (g_a1f 0))) :
    MetFree l (⟨"java/lang/StringUTF16", "compress", "([CII)[B"⟩ : MethodName) (head1 (Jvm.Cond.code (⟨"java/lang/StringUTF16", "compress", "([CII)[B"⟩ : MethodName) jdk_52_method_16_code 6 (some (.array .byte)) :: ws) ({ frames := 1, cells := 1, slots := 1, locals := 18 } : Room)) (fun a U => a = #[(.ref a1), (.int (0 : Int32)), (.int (1 : Int32))] ∧ Z.Warmed39 U.vm ∧ U.heap = h0) (fun _ _ _ _ _ => True) (fun _ U o U' => ∃ v L, o = .returned v ∧ Q4_1 Z a1 g_a1f h0 n0 v U'.heap L ∧ FrameEnd U o U' L ({ frames := 1, cells := 1, slots := 1, locals := 18 } : Room).cells ({ frames := 1, cells := 1, slots := 1, locals := 18 } : Room).slots) := by
  refine MetFree.of_bodySF (plainFor_of_name pn_0) hisR ?_
  intro p e s m args below meth c s₁ Bd hml0 hP hK
  obtain ⟨rfl, hZ, hh⟩ := hP
  have hx := Bd.exec
  have hby := Bd.bytes
  have hml : c.maxLocals = 6 := hml0
  have hown : s.vm.findClass "java/lang/StringUTF16" = some m.cls := findClass_of_methodNamed Bd.named
  have hnm := (name_of_methodNamed Bd.named Bd.method).1
  have X0 : Stand p l e ({ frames := 1, cells := 1, slots := 1, locals := 18 } : Room) s m #[(.ref a1), (.int (0 : Int32)), (.int (1 : Int32))] below meth c s₁ [] 0 0 := Stand.of_body Bd
  have e0 : s₁.heap = h0 := by rw [← hh, Bd.state]; rfl
  have N0 := Fr.nil n0
  refine Go.done (Go.step (fun t k => castTop (ef_4_1 m a1) k) ?_)
  have KK0 : Keep h0 h0 [] := Keep.refl _ _
  show Go p e below _ (s₁.setTop (mkF m 0 #[.val (.ref a1), .val (.int (0 : Int32)), .val (.int (1 : Int32)), .unset, .unset, .unset] []))
  refine Go.step (fun t k => XS.iloadN X0.here hx rfl (hb hby d4_0) rfl k) ?_
  show Go p e below _ (s₁.setTop (mkF m 1 #[.val (.ref a1), .val (.int (0 : Int32)), .val (.int (1 : Int32)), .unset, .unset, .unset] [(.int (1 : Int32))]))
  obtain ⟨T4, h4, k4, X4, e4, E4, A4, st4⟩ := newP X0 hx hZ (hw _ (List.mem_of_getElem? (i := 22) rfl)) e0 (g := (mkF m 1 #[.val (.ref a1), .val (.int (0 : Int32)), .val (.int (1 : Int32)), .unset, .unset, .unset] [(.int (1 : Int32))])) rfl (hb hby d4_1) rfl (by decide) (cap := 1) (by decide) (by decide) (by decide) (by decide)
  obtain ⟨b4, g4⟩ : ∃ z, z = h0.size := ⟨_, rfl⟩
  rw [← g4] at A4 st4
  have g_b4 : n0 ≤ b4 := Nat.le_trans Z0 (Nat.le_of_eq g4.symm)
  have sz_b4 : h0.size ≤ b4 := Nat.le_trans KK0.1 (Nat.le_of_eq g4.symm)
  have ne_a1_b4 : a1 ≠ b4 := Nat.ne_of_lt (Nat.lt_of_lt_of_le A_a1.lt (Nat.le_of_eq g4.symm))
  refine Go.step st4 ?_
  have A_a1_4 := A_a1.ext E4
  have Z4 := Nat.le_trans Z0 E4.1
  have KK4 : Keep h0 h4 [] := KK0.ext E4
  clear A_a1 Z0 KK0 E4
  have A_b4_4 : Ary Z h4 b4 .byte 1 (fun i => .int ((fun _ => (0 : Int32)) i)) := Ary.mk A4 (by decide) (by decide)
  replace X4 : Stand p l e ({ frames := 1, cells := 1, slots := 1, locals := 18 } : Room) s m #[(.ref a1), (.int (0 : Int32)), (.int (1 : Int32))] below meth c T4 _ 1 1 := X4
  show Go p e below _ (T4.setTop (mkF m 3 #[.val (.ref a1), .val (.int (0 : Int32)), .val (.int (1 : Int32)), .unset, .unset, .unset] [(.ref b4)]))
  refine Go.step (fun t k => XS.astoreN X4.here hx rfl (hb hby d4_3) rfl rfl (l' := #[.val (.ref a1), .val (.int (0 : Int32)), .val (.int (1 : Int32)), .val (.ref b4), .unset, .unset]) rfl k) ?_
  show Go p e below _ (T4.setTop (mkF m 4 #[.val (.ref a1), .val (.int (0 : Int32)), .val (.int (1 : Int32)), .val (.ref b4), .unset, .unset] []))
  refine Go.step (fun t k => XS.aloadN X4.here hx rfl (hb hby d4_4) rfl rfl k) ?_
  show Go p e below _ (T4.setTop (mkF m 5 #[.val (.ref a1), .val (.int (0 : Int32)), .val (.int (1 : Int32)), .val (.ref b4), .unset, .unset] [(.ref a1)]))
  refine Go.step (fun t k => XS.iloadN X4.here hx rfl (hb hby d4_5) rfl k) ?_
  show Go p e below _ (T4.setTop (mkF m 6 #[.val (.ref a1), .val (.int (0 : Int32)), .val (.int (1 : Int32)), .val (.ref b4), .unset, .unset] [(.int (0 : Int32)), (.ref a1)]))
  refine Go.step (fun t k => XS.aloadN X4.here hx rfl (hb hby d4_6) rfl rfl k) ?_
  show Go p e below _ (T4.setTop (mkF m 7 #[.val (.ref a1), .val (.int (0 : Int32)), .val (.int (1 : Int32)), .val (.ref b4), .unset, .unset] [(.ref b4), (.int (0 : Int32)), (.ref a1)]))
  refine Go.step (fun t k => XS.iconst X4.here hx rfl (hb hby d4_7)  k) ?_
  show Go p e below _ (T4.setTop (mkF m 8 #[.val (.ref a1), .val (.int (0 : Int32)), .val (.int (1 : Int32)), .val (.ref b4), .unset, .unset] [(.int (0 : Int32)), (.ref b4), (.int (0 : Int32)), (.ref a1)]))
  refine Go.step (fun t k => XS.iloadN X4.here hx rfl (hb hby d4_8) rfl k) ?_
  show Go p e below _ (T4.setTop (mkF m 9 #[.val (.ref a1), .val (.int (0 : Int32)), .val (.int (1 : Int32)), .val (.ref b4), .unset, .unset] [(.int (1 : Int32)), (.int (0 : Int32)), (.ref b4), (.int (0 : Int32)), (.ref a1)]))
  obtain ⟨_, _, ⟨T5, L5, k5, n5⟩, -, X5, ⟨Lc5, hQ5, l5, y5, z5⟩, st5⟩ := Jvm.LawKit.callS X4 hx (y := (⟨"java/lang/StringUTF16", "compress", "([CI[BII)I"⟩ : MethodName)) hown (mvT hZ (hw _ (List.mem_of_getElem? (i := 23) rfl))) (mvT hZ (hw _ (List.mem_of_getElem? (i := 24) rfl))) (mvT hZ (hw _ (List.mem_of_getElem? (i := 20) rfl))) (mvT hZ (hw _ (List.mem_of_getElem? (i := 25) rfl))) (by decide) (backOf (W := 0) (rm5_1 l Z a0 hw [] a1 b4 g_a1f (fun _ => (0 : Int32)) h4 n0 Z4 A_a1_4 A_b4_4 hp9_hp20 g_b4 ne_a1_b4) hZ (hw _ (List.mem_of_getElem? (i := 25) rfl)) (hw _ (List.mem_of_getElem? (i := 20) rfl)) (by decide) (by decide)) (g := (mkF m 9 #[.val (.ref a1), .val (.int (0 : Int32)), .val (.int (1 : Int32)), .val (.ref b4), .unset, .unset] [(.int (1 : Int32)), (.int (0 : Int32)), (.ref b4), (.int (0 : Int32)), (.ref a1)])) rfl (by rw [hml]; rfl) (argsL := [(.ref a1), (.int (0 : Int32)), (.ref b4), (.int (0 : Int32)), (.int (1 : Int32))]) (rest := []) (lenOf pd_0 rfl) rfl (by show 2 * 0 + _ ≤ _; exact Nat.le_of_eq rfl) (hb hby d4_9) (fun _ _ => ⟨rfl, e4, (by decide : 1 + 0 ≤ _), (by decide : 1 + 0 ≤ _)⟩)
  dsimp only [Pt.U, Pt.locs, Pt.cells, Pt.slots] at X5 l5 y5 z5 st5 hQ5
  replace y5 : k5 = 1 := y5
  replace z5 : n5 = 1 := z5
  subst y5 z5
  obtain ⟨rfl, N5q, K5, Q5_0⟩ := hQ5
  have N5 : Fr n0 L5 := Eq.mpr (congrArg (Fr n0) l5) (Fr.app N0 N5q)
  have A_a1_5 := A_a1_4.keep K5 (ninS ne_a1_b4 nin0)
  have Z5 := Nat.le_trans Z4 K5.1
  have KK5 : Keep h0 T5.heap [] := KK4.trans K5 (allS (Or.inr sz_b4) all0)
  clear A_a1_4 Z4 KK4 K5
  refine Go.step st5 ?_
  show Go p e below _ (T5.setTop (mkF m 12 #[.val (.ref a1), .val (.int (0 : Int32)), .val (.int (1 : Int32)), .val (.ref b4), .unset, .unset] [(.int (1 : Int32))]))
  refine Go.step (fun t k => XS.istore X5.here hx rfl (hb hby d4_12) rfl (l' := #[.val (.ref a1), .val (.int (0 : Int32)), .val (.int (1 : Int32)), .val (.ref b4), .val (.int (1 : Int32)), .unset]) rfl k) ?_
  show Go p e below _ (T5.setTop (mkF m 14 #[.val (.ref a1), .val (.int (0 : Int32)), .val (.int (1 : Int32)), .val (.ref b4), .val (.int (1 : Int32)), .unset] []))
  refine Go.step (fun t k => XS.iload X5.here hx rfl (hb hby d4_14) rfl k) ?_
  show Go p e below _ (T5.setTop (mkF m 16 #[.val (.ref a1), .val (.int (0 : Int32)), .val (.int (1 : Int32)), .val (.ref b4), .val (.int (1 : Int32)), .unset] [(.int (1 : Int32))]))
  refine Go.step (fun t k => XS.iloadN X5.here hx rfl (hb hby d4_16) rfl k) ?_
  show Go p e below _ (T5.setTop (mkF m 17 #[.val (.ref a1), .val (.int (0 : Int32)), .val (.int (1 : Int32)), .val (.ref b4), .val (.int (1 : Int32)), .unset] [(.int (1 : Int32)), (.int (1 : Int32))]))
  refine Go.step (fun t k => XS.icmpYes X5.here hx rfl (pc0 := 17) (pc' := 57) rfl (hb hby d4_17) rfl (teq (rfl : (1 : Int32) = (1 : Int32))).1 (by decide) (by decide) k) ?_
  show Go p e below _ (T5.setTop (mkF m 57 #[.val (.ref a1), .val (.int (0 : Int32)), .val (.int (1 : Int32)), .val (.ref b4), .val (.int (1 : Int32)), .unset] []))
  refine Go.step (fun t k => XS.aloadN X5.here hx rfl (hb hby d4_57) rfl rfl k) ?_
  show Go p e below _ (T5.setTop (mkF m 58 #[.val (.ref a1), .val (.int (0 : Int32)), .val (.int (1 : Int32)), .val (.ref b4), .val (.int (1 : Int32)), .unset] [(.ref b4)]))
  refine retGR X5 hx Bd.notSynchronized Bd.returns rfl rfl (hb hby d4_58) ?_ (by decide) (by decide)
  show Q4_1 Z a1 g_a1f h0 n0 _ T5.heap _
  exact ⟨b4, rfl, N5, KK5, sz_b4, Q5_0⟩
theorem d6_0 : decode jdk_52_method_15_code 0 = .ok (.iload_n 1, 1) := by decide +kernel
theorem d6_1 : decode jdk_52_method_15_code 1 = .ok (.aload_n 0, 1) := by decide +kernel
theorem d6_2 : decode jdk_52_method_15_code 2 = .ok (.arraylength, 1) := by decide +kernel
theorem d6_3 : decode jdk_52_method_15_code 3 = .ok (.isub, 1) := by decide +kernel
theorem d6_4 : decode jdk_52_method_15_code 4 = .ok (.bipush 31, 2) := by decide +kernel
theorem d6_6 : decode jdk_52_method_15_code 6 = .ok (.iushr, 1) := by decide +kernel
theorem d6_7 : decode jdk_52_method_15_code 7 = .ok (.i2b, 1) := by decide +kernel
theorem d6_8 : decode jdk_52_method_15_code 8 = .ok (.ireturn, 1) := by decide +kernel
theorem ef_6_1 (m : MethodId) (a1 : Addr) : entryFrame m #[(.ref a1), (.int (1 : Int32))] 2 = mkF m 0 #[.val (.ref a1), .val (.int (1 : Int32))] [] := by first | (simp [entryFrame, mkF, argsToLocals, Value.category]; done) | rfl
def f6_1 (g_a1f : Nat → Int32) : Int32 := (0 : Int32)
set_option maxRecDepth 65536 in
set_option maxHeartbeats 40000000 in
theorem rm6_1 (l : Launch) (Z : State) (a0 : Array Value) (hw : ∀ d ∈ tables_1, d.before a0 Z = true) (ws : List Jvm.Cond) (a1 : Addr) (g_a1f : Nat → Int32) (h0 : Heap) (n0 : Nat) (Z0 : n0 ≤ h0.size) (A_a1 : Ary Z h0 a1 .byte 1 (fun i => .int (g_a1f i))) :
    MetFree l (⟨"java/lang/StringUTF16", "coderFromArrayLen", "([BI)B"⟩ : MethodName) (head1 (Jvm.Cond.code (⟨"java/lang/StringUTF16", "coderFromArrayLen", "([BI)B"⟩ : MethodName) jdk_52_method_15_code 2 (some .byte) :: ws) ({ frames := 0, cells := 0, slots := 0, locals := 0 } : Room)) (fun a U => a = #[(.ref a1), (.int (1 : Int32))] ∧ Z.Warmed39 U.vm ∧ U.heap = h0) (fun _ _ _ _ _ => True) (fun _ U o U' => ∃ v L, o = .returned v ∧ QP (.int (f6_1 g_a1f)) h0 n0 v U'.heap L ∧ FrameEnd U o U' L ({ frames := 0, cells := 0, slots := 0, locals := 0 } : Room).cells ({ frames := 0, cells := 0, slots := 0, locals := 0 } : Room).slots) := by
  refine MetFree.of_bodySF (plainFor_of_name pn_0) hisR ?_
  intro p e s m args below meth c s₁ Bd hml0 hP hK
  obtain ⟨rfl, hZ, hh⟩ := hP
  have hx := Bd.exec
  have hby := Bd.bytes
  have hml : c.maxLocals = 2 := hml0
  have hown : s.vm.findClass "java/lang/StringUTF16" = some m.cls := findClass_of_methodNamed Bd.named
  have hnm := (name_of_methodNamed Bd.named Bd.method).1
  have X0 : Stand p l e ({ frames := 0, cells := 0, slots := 0, locals := 0 } : Room) s m #[(.ref a1), (.int (1 : Int32))] below meth c s₁ [] 0 0 := Stand.of_body Bd
  have e0 : s₁.heap = h0 := by rw [← hh, Bd.state]; rfl
  have N0 := Fr.nil n0
  refine Go.done (Go.step (fun t k => castTop (ef_6_1 m a1) k) ?_)
  have KK0 : Keep h0 h0 [] := Keep.refl _ _
  show Go p e below _ (s₁.setTop (mkF m 0 #[.val (.ref a1), .val (.int (1 : Int32))] []))
  refine Go.step (fun t k => XS.iloadN X0.here hx rfl (hb hby d6_0) rfl k) ?_
  show Go p e below _ (s₁.setTop (mkF m 1 #[.val (.ref a1), .val (.int (1 : Int32))] [(.int (1 : Int32))]))
  refine Go.step (fun t k => XS.aloadN X0.here hx rfl (hb hby d6_1) rfl rfl k) ?_
  show Go p e below _ (s₁.setTop (mkF m 2 #[.val (.ref a1), .val (.int (1 : Int32))] [(.ref a1), (.int (1 : Int32))]))
  refine Go.step (lenA X0 hx hZ e0 A_a1 (g := (mkF m 2 #[.val (.ref a1), .val (.int (1 : Int32))] [(.ref a1), (.int (1 : Int32))])) rfl rfl (hb hby d6_2)) ?_
  show Go p e below _ (s₁.setTop (mkF m 3 #[.val (.ref a1), .val (.int (1 : Int32))] [(.int (1 : Int32)), (.int (1 : Int32))]))
  refine Go.step (fun t k => XS.isub X0.here hx rfl (hb hby d6_3) rfl k) ?_
  show Go p e below _ (s₁.setTop (mkF m 4 #[.val (.ref a1), .val (.int (1 : Int32))] [(.int (0 : Int32))]))
  refine Go.step (fun t k => XS.bipush X0.here hx rfl (hb hby d6_4)  k) ?_
  show Go p e below _ (s₁.setTop (mkF m 6 #[.val (.ref a1), .val (.int (1 : Int32))] [(.int (31 : Int32)), (.int (0 : Int32))]))
  refine Go.step (fun t k => XS.iushr X0.here hx rfl (hb hby d6_6) rfl k) ?_
  show Go p e below _ (s₁.setTop (mkF m 7 #[.val (.ref a1), .val (.int (1 : Int32))] [(.int (0 : Int32))]))
  refine Go.step (fun t k => XS.i2b X0.here hx rfl (hb hby d6_7) rfl k) ?_
  show Go p e below _ (s₁.setTop (mkF m 8 #[.val (.ref a1), .val (.int (1 : Int32))] [(.int (0 : Int32))]))
  exact retGN X0 hx Bd.notSynchronized Bd.returns (t := .byte) (by simp) (z' := (0 : Int32)) rfl (hb hby d6_8) ⟨by first | rfl | (simp only [f6_1]; done) | (simp [f6_1]; done), N0, e0⟩ (by decide) (by decide)
theorem d2_0 : decode jdk_42_method_149_code 0 = .ok (.aload_n 0, 1) := by decide +kernel
theorem d2_1 : decode jdk_42_method_149_code 1 = .ok (.invokespecial 1, 3) := by decide +kernel
theorem d2_4 : decode jdk_42_method_149_code 4 = .ok (.iload_n 3, 1) := by decide +kernel
theorem d2_5 : decode jdk_42_method_149_code 5 = .ok (.ifCond .ne 22, 3) := by decide +kernel
theorem d2_27 : decode jdk_42_method_149_code 27 = .ok (.getstatic 38, 3) := by decide +kernel
theorem d2_30 : decode jdk_42_method_149_code 30 = .ok (.ifCond .eq 28, 3) := by decide +kernel
theorem d2_33 : decode jdk_42_method_149_code 33 = .ok (.aload_n 1, 1) := by decide +kernel
theorem d2_34 : decode jdk_42_method_149_code 34 = .ok (.iload_n 2, 1) := by decide +kernel
theorem d2_35 : decode jdk_42_method_149_code 35 = .ok (.iload_n 3, 1) := by decide +kernel
theorem d2_36 : decode jdk_42_method_149_code 36 = .ok (.invokestatic 177, 3) := by decide +kernel
theorem pd_1 : parseMethodDescriptor "([CII)[B" = some ⟨[(.array .char), .int, .int], some (.array .byte)⟩ := by decide +kernel
theorem d2_39 : decode jdk_42_method_149_code 39 = .ok (.astore 5, 2) := by decide +kernel
theorem d2_41 : decode jdk_42_method_149_code 41 = .ok (.aload_n 0, 1) := by decide +kernel
theorem d2_42 : decode jdk_42_method_149_code 42 = .ok (.aload 5, 2) := by decide +kernel
theorem d2_44 : decode jdk_42_method_149_code 44 = .ok (.iload_n 3, 1) := by decide +kernel
theorem d2_45 : decode jdk_42_method_149_code 45 = .ok (.invokestatic 47, 3) := by decide +kernel
theorem pd_2 : parseMethodDescriptor "([BI)B" = some ⟨[(.array .byte), .int], some .byte⟩ := by decide +kernel
theorem d2_48 : decode jdk_42_method_149_code 48 = .ok (.putfield 15, 3) := by decide +kernel
theorem d2_51 : decode jdk_42_method_149_code 51 = .ok (.aload_n 0, 1) := by decide +kernel
theorem d2_52 : decode jdk_42_method_149_code 52 = .ok (.aload 5, 2) := by decide +kernel
theorem d2_54 : decode jdk_42_method_149_code 54 = .ok (.putfield 9, 3) := by decide +kernel
theorem d2_57 : decode jdk_42_method_149_code 57 = .ok (.return_, 1) := by decide +kernel
theorem ef_2_1 (m : MethodId) (a1 : Addr) (a2 : Addr) : entryFrame m #[(.ref a1), (.ref a2), (.int (0 : Int32)), (.int (1 : Int32)), .null] 6 = mkF m 0 #[.val (.ref a1), .val (.ref a2), .val (.int (0 : Int32)), .val (.int (1 : Int32)), .val .null, .unset] [] := by first | (simp [entryFrame, mkF, argsToLocals, Value.category]; done) | rfl
theorem pn_1 : plainName "java/lang/String" = true := by first | (simp [plainName, overriddenIn]; done) | decide +kernel
def Q2_1 (Z : State) (a1 : Addr) (a2 : Addr) (g_a2f : Nat → Int32) (u_coder_a1 : Value) (u_value_a1 : Value) (wC : Int32) (h0 : Heap) (n0 : Nat) (v : Option Value) (h : Heap) (L : List Loc) : Prop := ∃ (b8_0 : Addr), v = none ∧ Fr n0 L ∧ Keep h0 h [a1] ∧ h0.size ≤ b8_0 ∧ Exa Z h a1 "java/lang/String" ∧ Fld Z h a1 "java/lang/String" "coder" "B" (.int (0 : Int32)) ∧ Fld Z h a1 "java/lang/String" "value" "[B" (.ref b8_0) ∧ Ary Z h b8_0 .byte 1 (fun i => .int ((upA (fun _ => (0 : Int32)) 0 (nar .byte ((g_a2f 0).toInt8.toInt32))) i))
set_option maxRecDepth 65536 in
set_option maxHeartbeats 40000000 in
theorem rm2_1 (l : Launch) (Z : State) (a0 : Array Value) (hw : ∀ d ∈ tables_1, d.before a0 Z = true) (ws : List Jvm.Cond) (a1 : Addr) (a2 : Addr) (g_a2f : Nat → Int32) (u_coder_a1 : Value) (u_value_a1 : Value) (wC : Int32) (h0 : Heap) (n0 : Nat) (Z0 : n0 ≤ h0.size) (A_a2 : Ary Z h0 a2 .char 1 (fun i => .int (g_a2f i))) (E_a1 : Exa Z h0 a1 "java/lang/String") (F_coder_a1 : Fld Z h0 a1 "java/lang/String" "coder" "B" u_coder_a1) (F_value_a1 : Fld Z h0 a1 "java/lang/String" "value" "[B" u_value_a1) (hC : ¬ (wC = (0 : Int32))) (S_COMPACT_STRINGS : Sta Z Z.heap "java/lang/String" "COMPACT_STRINGS" "Z" (.int wC)) (hO : Old Z n0 h0) (hp36_hp9_hp20 : ¬ ((255 : Int32) < (g_a2f 0))) (g_a1 : n0 ≤ a1) (hne_a2_a1 : a2 ≠ a1) :
    MetFree l (⟨"java/lang/String", "<init>", "([CIILjava/lang/Void;)V"⟩ : MethodName) (head1 (Jvm.Cond.code (⟨"java/lang/String", "<init>", "([CIILjava/lang/Void;)V"⟩ : MethodName) jdk_42_method_149_code 6 none :: ws) ({ frames := 2, cells := 1, slots := 1, locals := 35 } : Room)) (fun a U => a = #[(.ref a1), (.ref a2), (.int (0 : Int32)), (.int (1 : Int32)), .null] ∧ Z.Warmed39 U.vm ∧ U.heap = h0) (fun _ _ _ _ _ => True) (fun _ U o U' => ∃ v L, o = .returned v ∧ Q2_1 Z a1 a2 g_a2f u_coder_a1 u_value_a1 wC h0 n0 v U'.heap L ∧ FrameEnd U o U' L ({ frames := 2, cells := 1, slots := 1, locals := 35 } : Room).cells ({ frames := 2, cells := 1, slots := 1, locals := 35 } : Room).slots) := by
  refine MetFree.of_bodySF (plainFor_of_name pn_1) hisR ?_
  intro p e s m args below meth c s₁ Bd hml0 hP hK
  obtain ⟨rfl, hZ, hh⟩ := hP
  have hx := Bd.exec
  have hby := Bd.bytes
  have hml : c.maxLocals = 6 := hml0
  have hown : s.vm.findClass "java/lang/String" = some m.cls := findClass_of_methodNamed Bd.named
  have hnm := (name_of_methodNamed Bd.named Bd.method).1
  have X0 : Stand p l e ({ frames := 2, cells := 1, slots := 1, locals := 35 } : Room) s m #[(.ref a1), (.ref a2), (.int (0 : Int32)), (.int (1 : Int32)), .null] below meth c s₁ [] 0 0 := Stand.of_body Bd
  have e0 : s₁.heap = h0 := by rw [← hh, Bd.state]; rfl
  have N0 := Fr.nil n0
  refine Go.done (Go.step (fun t k => castTop (ef_2_1 m a1 a2) k) ?_)
  have KK0 : Keep h0 h0 [a1] := Keep.refl _ _
  show Go p e below _ (s₁.setTop (mkF m 0 #[.val (.ref a1), .val (.ref a2), .val (.int (0 : Int32)), .val (.int (1 : Int32)), .val .null, .unset] []))
  refine Go.step (fun t k => XS.aloadN X0.here hx rfl (hb hby d2_0) rfl rfl k) ?_
  show Go p e below _ (s₁.setTop (mkF m 1 #[.val (.ref a1), .val (.ref a2), .val (.int (0 : Int32)), .val (.int (1 : Int32)), .val .null, .unset] [(.ref a1)]))
  obtain ⟨T6, X6, e6, st6⟩ := initO X0 hx hZ hown (hw _ (List.mem_of_getElem? (i := 14) rfl)) (hw _ (List.mem_of_getElem? (i := 15) rfl)) (hw _ (List.mem_of_getElem? (i := 16) rfl)) e0 (g := (mkF m 1 #[.val (.ref a1), .val (.ref a2), .val (.int (0 : Int32)), .val (.int (1 : Int32)), .val .null, .unset] [(.ref a1)])) rfl (by rw [hml]; rfl) rfl (hb hby d2_1) (by decide) (W := 0) (by show 2 * 0 + _ ≤ _; exact Nat.le_of_eq rfl) (by decide)
  refine Go.step st6 ?_
  show Go p e below _ (T6.setTop (mkF m 4 #[.val (.ref a1), .val (.ref a2), .val (.int (0 : Int32)), .val (.int (1 : Int32)), .val .null, .unset] []))
  refine Go.step (fun t k => XS.iloadN X6.here hx rfl (hb hby d2_4) rfl k) ?_
  show Go p e below _ (T6.setTop (mkF m 5 #[.val (.ref a1), .val (.ref a2), .val (.int (0 : Int32)), .val (.int (1 : Int32)), .val .null, .unset] [(.int (1 : Int32))]))
  refine Go.step (fun t k => XS.ifYes X6.here hx rfl (pc0 := 5) (pc' := 27) rfl (hb hby d2_5) rfl ((if0 _ _).trans (feq (by decide : ¬ ((1 : Int32) = (0 : Int32)))).2) (by decide) (by decide) k) ?_
  show Go p e below _ (T6.setTop (mkF m 27 #[.val (.ref a1), .val (.ref a2), .val (.int (0 : Int32)), .val (.int (1 : Int32)), .val .null, .unset] []))
  obtain ⟨T7, X7, e7, st7⟩ := getS2 X6 hx hZ hown (host := "") (Or.inl (hw _ (List.mem_of_getElem? (i := 17) rfl))) Via.refl e6 (S_COMPACT_STRINGS.ext hO.2) (g := (mkF m 27 #[.val (.ref a1), .val (.ref a2), .val (.int (0 : Int32)), .val (.int (1 : Int32)), .val .null, .unset] [])) rfl (hb hby d2_27)
  refine Go.step st7 ?_
  show Go p e below _ (T7.setTop (mkF m 30 #[.val (.ref a1), .val (.ref a2), .val (.int (0 : Int32)), .val (.int (1 : Int32)), .val .null, .unset] [(.int wC)]))
  refine Go.step (fun t k => XS.ifNo X7.here hx rfl (hb hby d2_30) rfl ((if0 _ _).trans (feq (hC : ¬ (wC = (0 : Int32)))).1) k) ?_
  show Go p e below _ (T7.setTop (mkF m 33 #[.val (.ref a1), .val (.ref a2), .val (.int (0 : Int32)), .val (.int (1 : Int32)), .val .null, .unset] []))
  refine Go.step (fun t k => XS.aloadN X7.here hx rfl (hb hby d2_33) rfl rfl k) ?_
  show Go p e below _ (T7.setTop (mkF m 34 #[.val (.ref a1), .val (.ref a2), .val (.int (0 : Int32)), .val (.int (1 : Int32)), .val .null, .unset] [(.ref a2)]))
  refine Go.step (fun t k => XS.iloadN X7.here hx rfl (hb hby d2_34) rfl k) ?_
  show Go p e below _ (T7.setTop (mkF m 35 #[.val (.ref a1), .val (.ref a2), .val (.int (0 : Int32)), .val (.int (1 : Int32)), .val .null, .unset] [(.int (0 : Int32)), (.ref a2)]))
  refine Go.step (fun t k => XS.iloadN X7.here hx rfl (hb hby d2_35) rfl k) ?_
  show Go p e below _ (T7.setTop (mkF m 36 #[.val (.ref a1), .val (.ref a2), .val (.int (0 : Int32)), .val (.int (1 : Int32)), .val .null, .unset] [(.int (1 : Int32)), (.int (0 : Int32)), (.ref a2)]))
  obtain ⟨_, _, ⟨T8, L8, k8, n8⟩, -, X8, ⟨Lc8, hQ8, l8, y8, z8⟩, st8⟩ := Jvm.LawKit.callS X7 hx (y := (⟨"java/lang/StringUTF16", "compress", "([CII)[B"⟩ : MethodName)) hown (mvT hZ (hw _ (List.mem_of_getElem? (i := 18) rfl))) (mvT hZ (hw _ (List.mem_of_getElem? (i := 19) rfl))) (mvT hZ (hw _ (List.mem_of_getElem? (i := 20) rfl))) (mvT hZ (hw _ (List.mem_of_getElem? (i := 21) rfl))) (by decide) (backOf (W := 0) (rm4_1 l Z a0 hw [] a2 g_a2f h0 n0 Z0 A_a2 hp36_hp9_hp20) hZ (hw _ (List.mem_of_getElem? (i := 21) rfl)) (hw _ (List.mem_of_getElem? (i := 20) rfl)) (by decide) (by decide)) (g := (mkF m 36 #[.val (.ref a1), .val (.ref a2), .val (.int (0 : Int32)), .val (.int (1 : Int32)), .val .null, .unset] [(.int (1 : Int32)), (.int (0 : Int32)), (.ref a2)])) rfl (by rw [hml]; rfl) (argsL := [(.ref a2), (.int (0 : Int32)), (.int (1 : Int32))]) (rest := []) (lenOf pd_1 rfl) rfl (by show 2 * 0 + _ ≤ _; exact Nat.le_of_eq rfl) (hb hby d2_36) (fun _ _ => ⟨rfl, e7, (by decide : 0 + 1 ≤ _), (by decide : 0 + 1 ≤ _)⟩)
  dsimp only [Pt.U, Pt.locs, Pt.cells, Pt.slots] at X8 l8 y8 z8 st8 hQ8
  replace y8 : k8 = 1 := y8
  replace z8 : n8 = 1 := z8
  subst y8 z8
  obtain ⟨b8_0, rfl, N8q, K8, sz8_0, Q8_0⟩ := hQ8
  have N8 : Fr n0 L8 := Eq.mpr (congrArg (Fr n0) l8) (Fr.app N0 N8q)
  have g_b8_0 : n0 ≤ b8_0 := Nat.le_trans Z0 sz8_0
  have sz_b8_0 : h0.size ≤ b8_0 := Nat.le_trans KK0.1 sz8_0
  have ne_a2_b8_0 : a2 ≠ b8_0 := Nat.ne_of_lt (Nat.lt_of_lt_of_le A_a2.lt sz8_0)
  have ne_a1_b8_0 : a1 ≠ b8_0 := Nat.ne_of_lt (Nat.lt_of_lt_of_le E_a1.lt sz8_0)
  have A_a2_8 := A_a2.keep K8 nin0
  have E_a1_8 := E_a1.keep K8
  have F_coder_a1_8 := F_coder_a1.keep K8 nin0
  have F_value_a1_8 := F_value_a1.keep K8 nin0
  have O8 := hO.keep K8 all0
  have Z8 := Nat.le_trans Z0 K8.1
  have KK8 : Keep h0 T8.heap [a1] := KK0.trans K8 all0
  clear A_a2 E_a1 F_coder_a1 F_value_a1 hO Z0 KK0 K8
  refine Go.step st8 ?_
  show Go p e below _ (T8.setTop (mkF m 39 #[.val (.ref a1), .val (.ref a2), .val (.int (0 : Int32)), .val (.int (1 : Int32)), .val .null, .unset] [(.ref b8_0)]))
  refine Go.step (fun t k => XS.astore X8.here hx rfl (hb hby d2_39) rfl rfl (l' := #[.val (.ref a1), .val (.ref a2), .val (.int (0 : Int32)), .val (.int (1 : Int32)), .val .null, .val (.ref b8_0)]) rfl k) ?_
  show Go p e below _ (T8.setTop (mkF m 41 #[.val (.ref a1), .val (.ref a2), .val (.int (0 : Int32)), .val (.int (1 : Int32)), .val .null, .val (.ref b8_0)] []))
  refine Go.step (fun t k => XS.aloadN X8.here hx rfl (hb hby d2_41) rfl rfl k) ?_
  show Go p e below _ (T8.setTop (mkF m 42 #[.val (.ref a1), .val (.ref a2), .val (.int (0 : Int32)), .val (.int (1 : Int32)), .val .null, .val (.ref b8_0)] [(.ref a1)]))
  refine Go.step (fun t k => XS.aload X8.here hx rfl (hb hby d2_42) rfl rfl k) ?_
  show Go p e below _ (T8.setTop (mkF m 44 #[.val (.ref a1), .val (.ref a2), .val (.int (0 : Int32)), .val (.int (1 : Int32)), .val .null, .val (.ref b8_0)] [(.ref b8_0), (.ref a1)]))
  refine Go.step (fun t k => XS.iloadN X8.here hx rfl (hb hby d2_44) rfl k) ?_
  show Go p e below _ (T8.setTop (mkF m 45 #[.val (.ref a1), .val (.ref a2), .val (.int (0 : Int32)), .val (.int (1 : Int32)), .val .null, .val (.ref b8_0)] [(.int (1 : Int32)), (.ref b8_0), (.ref a1)]))
  obtain ⟨_, _, ⟨T9, L9, k9, n9⟩, -, X9, ⟨Lc9, hQ9, l9, y9, z9⟩, st9⟩ := Jvm.LawKit.callS X8 hx (y := (⟨"java/lang/StringUTF16", "coderFromArrayLen", "([BI)B"⟩ : MethodName)) hown (mvT hZ (hw _ (List.mem_of_getElem? (i := 26) rfl))) (mvT hZ (hw _ (List.mem_of_getElem? (i := 27) rfl))) (mvT hZ (hw _ (List.mem_of_getElem? (i := 20) rfl))) (mvT hZ (hw _ (List.mem_of_getElem? (i := 28) rfl))) (by decide) (backOf (W := 1) (rm6_1 l Z a0 hw [] b8_0 (upA (fun _ => (0 : Int32)) 0 (nar .byte ((g_a2f 0).toInt8.toInt32))) T8.heap n0 Z8 Q8_0) hZ (hw _ (List.mem_of_getElem? (i := 28) rfl)) (hw _ (List.mem_of_getElem? (i := 20) rfl)) (by decide) (by decide)) (g := (mkF m 45 #[.val (.ref a1), .val (.ref a2), .val (.int (0 : Int32)), .val (.int (1 : Int32)), .val .null, .val (.ref b8_0)] [(.int (1 : Int32)), (.ref b8_0), (.ref a1)])) rfl (by rw [hml]; rfl) (argsL := [(.ref b8_0), (.int (1 : Int32))]) (rest := [(.ref a1)]) (lenOf pd_2 rfl) rfl (by show 2 * 0 + _ ≤ _; exact Nat.le_of_eq rfl) (hb hby d2_45) (fun _ _ => ⟨rfl, rfl, (by decide : 1 + 0 ≤ _), (by decide : 1 + 0 ≤ _)⟩)
  dsimp only [Pt.U, Pt.locs, Pt.cells, Pt.slots] at X9 l9 y9 z9 st9 hQ9
  replace y9 : k9 = 1 := y9
  replace z9 : n9 = 1 := z9
  subst y9 z9
  obtain ⟨rfl, N9q, e9⟩ := hQ9
  have N9 : Fr n0 L9 := Eq.mpr (congrArg (Fr n0) l9) (Fr.app N8 N9q)
  refine Go.step st9 ?_
  show Go p e below _ (T9.setTop (mkF m 48 #[.val (.ref a1), .val (.ref a2), .val (.int (0 : Int32)), .val (.int (1 : Int32)), .val .null, .val (.ref b8_0)] [(.int (0 : Int32)), (.ref a1)]))
  obtain ⟨T10, h10, X10, e10, W10, st10⟩ := putFN X9 hx hZ hown (hw _ (List.mem_of_getElem? (i := 29) rfl)) Via.refl e9 F_coder_a1_8 E_a1_8 (Or.inr ⟨(hw _ (List.mem_of_getElem? (i := 30) rfl)), rfl, hnm⟩) (hw _ (List.mem_of_getElem? (i := 4) rfl)) (ty := .byte) (v' := .int (0 : Int32)) (by decide) rfl (by decide) (g := (mkF m 48 #[.val (.ref a1), .val (.ref a2), .val (.int (0 : Int32)), .val (.int (1 : Int32)), .val .null, .val (.ref b8_0)] [(.int (0 : Int32)), (.ref a1)])) rfl rfl (hb hby d2_48)
  refine Go.step st10 ?_
  have N10 := Fr.snoc X10 N9 g_a1
  have A_a2_10 := A_a2_8.other W10 hne_a2_a1
  have E_a1_10 := E_a1_8.wr W10
  have F_value_a1_10 := F_value_a1_8.other W10 (Or.inr (slot_ne (Or.inr (hw _ (List.mem_of_getElem? (i := 32) rfl))) (Or.inr (hw _ (List.mem_of_getElem? (i := 30) rfl))) (by decide) (t := (.array .byte)) (t' := .byte) (by decide) (by decide)))
  have A_b8_0_10 := Q8_0.other W10 (Ne.symm ne_a1_b8_0)
  have O10 := O8.wr W10 g_a1
  have Z10 := Nat.le_trans Z8 (Keep.of_wr W10).1
  have KK10 : Keep h0 h10 [a1] := KK8.wr W10 (Or.inl (by simp))
  clear A_a2_8 E_a1_8 F_value_a1_8 Q8_0 O8 Z8 KK8
  have F_coder_a1_10 := F_coder_a1_8.same W10
  show Go p e below _ (T10.setTop (mkF m 51 #[.val (.ref a1), .val (.ref a2), .val (.int (0 : Int32)), .val (.int (1 : Int32)), .val .null, .val (.ref b8_0)] []))
  refine Go.step (fun t k => XS.aloadN X10.here hx rfl (hb hby d2_51) rfl rfl k) ?_
  show Go p e below _ (T10.setTop (mkF m 52 #[.val (.ref a1), .val (.ref a2), .val (.int (0 : Int32)), .val (.int (1 : Int32)), .val .null, .val (.ref b8_0)] [(.ref a1)]))
  refine Go.step (fun t k => XS.aload X10.here hx rfl (hb hby d2_52) rfl rfl k) ?_
  show Go p e below _ (T10.setTop (mkF m 54 #[.val (.ref a1), .val (.ref a2), .val (.int (0 : Int32)), .val (.int (1 : Int32)), .val .null, .val (.ref b8_0)] [(.ref b8_0), (.ref a1)]))
  obtain ⟨T11, h11, X11, e11, W11, st11⟩ := putF X10 hx hZ hown (host := "") (Or.inl (hw _ (List.mem_of_getElem? (i := 31) rfl))) Via.refl e10 F_value_a1_10 E_a1_10 (Or.inr ⟨(hw _ (List.mem_of_getElem? (i := 32) rfl)), rfl, hnm⟩) (hw _ (List.mem_of_getElem? (i := 4) rfl)) (ty := (.array .byte)) (by decide) rfl rfl (g := (mkF m 54 #[.val (.ref a1), .val (.ref a2), .val (.int (0 : Int32)), .val (.int (1 : Int32)), .val .null, .val (.ref b8_0)] [(.ref b8_0), (.ref a1)])) rfl rfl (hb hby d2_54)
  refine Go.step st11 ?_
  have N11 := Fr.snoc X11 N10 g_a1
  have A_a2_11 := A_a2_10.other W11 hne_a2_a1
  have E_a1_11 := E_a1_10.wr W11
  have F_coder_a1_11 := F_coder_a1_10.other W11 (Or.inr (slot_ne (Or.inr (hw _ (List.mem_of_getElem? (i := 30) rfl))) (Or.inr (hw _ (List.mem_of_getElem? (i := 32) rfl))) (by decide) (t := .byte) (t' := (.array .byte)) (by decide) (by decide)))
  have A_b8_0_11 := A_b8_0_10.other W11 (Ne.symm ne_a1_b8_0)
  have O11 := O10.wr W11 g_a1
  have Z11 := Nat.le_trans Z10 (Keep.of_wr W11).1
  have KK11 : Keep h0 h11 [a1] := KK10.wr W11 (Or.inl (by simp))
  clear A_a2_10 E_a1_10 F_coder_a1_10 A_b8_0_10 O10 Z10 KK10
  have F_value_a1_11 := F_value_a1_10.same W11
  show Go p e below _ (T11.setTop (mkF m 57 #[.val (.ref a1), .val (.ref a2), .val (.int (0 : Int32)), .val (.int (1 : Int32)), .val .null, .val (.ref b8_0)] []))
  refine retGV X11 hx Bd.notSynchronized Bd.returns (hb hby d2_57) ?_ (by decide) (by decide)
  show Q2_1 Z a1 a2 g_a2f u_coder_a1 u_value_a1 wC h0 n0 _ T11.heap _
  rw [e11]
  exact ⟨b8_0, rfl, N11, KK11, sz_b8_0, E_a1_11, F_coder_a1_11, F_value_a1_11, A_b8_0_11⟩
theorem d1_0 : decode jdk_42_method_3_code 0 = .ok (.aload_n 0, 1) := by decide +kernel
theorem d1_1 : decode jdk_42_method_3_code 1 = .ok (.aload_n 1, 1) := by decide +kernel
theorem d1_2 : decode jdk_42_method_3_code 2 = .ok (.iconst 0, 1) := by decide +kernel
theorem d1_3 : decode jdk_42_method_3_code 3 = .ok (.aload_n 1, 1) := by decide +kernel
theorem d1_4 : decode jdk_42_method_3_code 4 = .ok (.arraylength, 1) := by decide +kernel
theorem d1_5 : decode jdk_42_method_3_code 5 = .ok (.aconst_null, 1) := by decide +kernel
theorem d1_6 : decode jdk_42_method_3_code 6 = .ok (.invokespecial 27, 3) := by decide +kernel
theorem pd_3 : parseMethodDescriptor "([CIILjava/lang/Void;)V" = some ⟨[(.array .char), .int, .int, (.object "java/lang/Void")], none⟩ := by decide +kernel
theorem d1_9 : decode jdk_42_method_3_code 9 = .ok (.return_, 1) := by decide +kernel
theorem ef_1_1 (m : MethodId) (a1 : Addr) (a2 : Addr) : entryFrame m #[(.ref a1), (.ref a2)] 2 = mkF m 0 #[.val (.ref a1), .val (.ref a2)] [] := by first | (simp [entryFrame, mkF, argsToLocals, Value.category]; done) | rfl
def Q1_1 (Z : State) (a1 : Addr) (a2 : Addr) (g_a2f : Nat → Int32) (u_coder_a1 : Value) (u_value_a1 : Value) (wC : Int32) (h0 : Heap) (n0 : Nat) (v : Option Value) (h : Heap) (L : List Loc) : Prop := ∃ (b3_0 : Addr), v = none ∧ Fr n0 L ∧ Keep h0 h [a1] ∧ h0.size ≤ b3_0 ∧ Exa Z h a1 "java/lang/String" ∧ Fld Z h a1 "java/lang/String" "coder" "B" (.int (0 : Int32)) ∧ Fld Z h a1 "java/lang/String" "value" "[B" (.ref b3_0) ∧ Ary Z h b3_0 .byte 1 (fun i => .int ((upA (fun _ => (0 : Int32)) 0 (nar .byte ((g_a2f 0).toInt8.toInt32))) i))
set_option maxRecDepth 65536 in
set_option maxHeartbeats 40000000 in
theorem rm1_1 (l : Launch) (Z : State) (a0 : Array Value) (hw : ∀ d ∈ tables_1, d.before a0 Z = true) (ws : List Jvm.Cond) (a1 : Addr) (a2 : Addr) (g_a2f : Nat → Int32) (u_coder_a1 : Value) (u_value_a1 : Value) (wC : Int32) (h0 : Heap) (n0 : Nat) (Z0 : n0 ≤ h0.size) (A_a2 : Ary Z h0 a2 .char 1 (fun i => .int (g_a2f i))) (E_a1 : Exa Z h0 a1 "java/lang/String") (F_coder_a1 : Fld Z h0 a1 "java/lang/String" "coder" "B" u_coder_a1) (F_value_a1 : Fld Z h0 a1 "java/lang/String" "value" "[B" u_value_a1) (hC : ¬ (wC = (0 : Int32))) (S_COMPACT_STRINGS : Sta Z Z.heap "java/lang/String" "COMPACT_STRINGS" "Z" (.int wC)) (hO : Old Z n0 h0) (g_a1 : n0 ≤ a1) (hp6_hp36_hp9_hp20 : ¬ ((255 : Int32) < (g_a2f 0))) (hne_a2_a1 : a2 ≠ a1) :
    MetFree l (⟨"java/lang/String", "<init>", "([C)V"⟩ : MethodName) (head1 (Jvm.Cond.code (⟨"java/lang/String", "<init>", "([C)V"⟩ : MethodName) jdk_42_method_3_code 2 none :: ws) ({ frames := 3, cells := 1, slots := 1, locals := 52 } : Room)) (fun a U => a = #[(.ref a1), (.ref a2)] ∧ Z.Warmed39 U.vm ∧ U.heap = h0) (fun _ _ _ _ _ => True) (fun _ U o U' => ∃ v L, o = .returned v ∧ Q1_1 Z a1 a2 g_a2f u_coder_a1 u_value_a1 wC h0 n0 v U'.heap L ∧ FrameEnd U o U' L ({ frames := 3, cells := 1, slots := 1, locals := 52 } : Room).cells ({ frames := 3, cells := 1, slots := 1, locals := 52 } : Room).slots) := by
  refine MetFree.of_bodySF (plainFor_of_name pn_1) hisR ?_
  intro p e s m args below meth c s₁ Bd hml0 hP hK
  obtain ⟨rfl, hZ, hh⟩ := hP
  have hx := Bd.exec
  have hby := Bd.bytes
  have hml : c.maxLocals = 2 := hml0
  have hown : s.vm.findClass "java/lang/String" = some m.cls := findClass_of_methodNamed Bd.named
  have hnm := (name_of_methodNamed Bd.named Bd.method).1
  have X0 : Stand p l e ({ frames := 3, cells := 1, slots := 1, locals := 52 } : Room) s m #[(.ref a1), (.ref a2)] below meth c s₁ [] 0 0 := Stand.of_body Bd
  have e0 : s₁.heap = h0 := by rw [← hh, Bd.state]; rfl
  have N0 := Fr.nil n0
  refine Go.done (Go.step (fun t k => castTop (ef_1_1 m a1 a2) k) ?_)
  have KK0 : Keep h0 h0 [a1] := Keep.refl _ _
  show Go p e below _ (s₁.setTop (mkF m 0 #[.val (.ref a1), .val (.ref a2)] []))
  refine Go.step (fun t k => XS.aloadN X0.here hx rfl (hb hby d1_0) rfl rfl k) ?_
  show Go p e below _ (s₁.setTop (mkF m 1 #[.val (.ref a1), .val (.ref a2)] [(.ref a1)]))
  refine Go.step (fun t k => XS.aloadN X0.here hx rfl (hb hby d1_1) rfl rfl k) ?_
  show Go p e below _ (s₁.setTop (mkF m 2 #[.val (.ref a1), .val (.ref a2)] [(.ref a2), (.ref a1)]))
  refine Go.step (fun t k => XS.iconst X0.here hx rfl (hb hby d1_2)  k) ?_
  show Go p e below _ (s₁.setTop (mkF m 3 #[.val (.ref a1), .val (.ref a2)] [(.int (0 : Int32)), (.ref a2), (.ref a1)]))
  refine Go.step (fun t k => XS.aloadN X0.here hx rfl (hb hby d1_3) rfl rfl k) ?_
  show Go p e below _ (s₁.setTop (mkF m 4 #[.val (.ref a1), .val (.ref a2)] [(.ref a2), (.int (0 : Int32)), (.ref a2), (.ref a1)]))
  refine Go.step (lenA X0 hx hZ e0 A_a2 (g := (mkF m 4 #[.val (.ref a1), .val (.ref a2)] [(.ref a2), (.int (0 : Int32)), (.ref a2), (.ref a1)])) rfl rfl (hb hby d1_4)) ?_
  show Go p e below _ (s₁.setTop (mkF m 5 #[.val (.ref a1), .val (.ref a2)] [(.int (1 : Int32)), (.int (0 : Int32)), (.ref a2), (.ref a1)]))
  refine Go.step (fun t k => XS.aconstNull X0.here hx rfl (hb hby d1_5)  k) ?_
  show Go p e below _ (s₁.setTop (mkF m 6 #[.val (.ref a1), .val (.ref a2)] [.null, (.int (1 : Int32)), (.int (0 : Int32)), (.ref a2), (.ref a1)]))
  obtain ⟨_, _, ⟨T3, L3, k3, n3⟩, -, X3, ⟨Lc3, hQ3, l3, y3, z3⟩, st3⟩ := X0.specialBack hx (y := (⟨"java/lang/String", "<init>", "([CIILjava/lang/Void;)V"⟩ : MethodName)) rfl hown (mvT hZ (hw _ (List.mem_of_getElem? (i := 10) rfl))) (mvT hZ (hw _ (List.mem_of_getElem? (i := 11) rfl))) (mvT hZ (hw _ (List.mem_of_getElem? (i := 13) rfl))) (by decide) (backOf (W := 0) (rm2_1 l Z a0 hw [] a1 a2 g_a2f u_coder_a1 u_value_a1 wC h0 n0 Z0 A_a2 E_a1 F_coder_a1 F_value_a1 hC S_COMPACT_STRINGS hO hp6_hp36_hp9_hp20 g_a1 hne_a2_a1) hZ (hw _ (List.mem_of_getElem? (i := 13) rfl)) (hw _ (List.mem_of_getElem? (i := 5) rfl)) (by decide) (by decide)) (g := (mkF m 6 #[.val (.ref a1), .val (.ref a2)] [.null, (.int (1 : Int32)), (.int (0 : Int32)), (.ref a2), (.ref a1)])) rfl (by rw [hml]; rfl) (Steps.refl _) (a := a1) (argsL := [(.ref a2), (.int (0 : Int32)), (.int (1 : Int32)), .null]) (rest := []) (lenOf pd_3 rfl) rfl (by show 2 * 0 + _ ≤ _; exact Nat.le_of_eq rfl) (hb hby d1_6) (fun _ _ => ⟨rfl, e0, (by decide : 0 + 1 ≤ _), (by decide : 0 + 1 ≤ _)⟩)
  dsimp only [Pt.U, Pt.locs, Pt.cells, Pt.slots] at X3 l3 y3 z3 st3 hQ3
  replace y3 : k3 = 1 := y3
  replace z3 : n3 = 1 := z3
  subst y3 z3
  obtain ⟨b3_0, rfl, N3q, K3, sz3_0, Q3_0, Q3_1, Q3_2, Q3_3⟩ := hQ3
  have N3 : Fr n0 L3 := Eq.mpr (congrArg (Fr n0) l3) (Fr.app N0 N3q)
  have g_b3_0 : n0 ≤ b3_0 := Nat.le_trans Z0 sz3_0
  have sz_b3_0 : h0.size ≤ b3_0 := Nat.le_trans KK0.1 sz3_0
  have ne_a2_b3_0 : a2 ≠ b3_0 := Nat.ne_of_lt (Nat.lt_of_lt_of_le A_a2.lt sz3_0)
  have ne_a1_b3_0 : a1 ≠ b3_0 := Nat.ne_of_lt (Nat.lt_of_lt_of_le E_a1.lt sz3_0)
  have A_a2_3 := A_a2.keep K3 (ninS hne_a2_a1 nin0)
  have E_a1_3 := E_a1.keep K3
  have O3 := hO.keep K3 (allS g_a1 all0)
  have Z3 := Nat.le_trans Z0 K3.1
  have KK3 : Keep h0 T3.heap [a1] := KK0.trans K3 (allS (Or.inl (by simp)) all0)
  clear A_a2 E_a1 hO Z0 KK0 K3
  refine Go.trans st3 ?_
  show Go p e below _ (T3.setTop (mkF m 9 #[.val (.ref a1), .val (.ref a2)] []))
  refine retGV X3 hx Bd.notSynchronized Bd.returns (hb hby d1_9) ?_ (by decide) (by decide)
  show Q1_1 Z a1 a2 g_a2f u_coder_a1 u_value_a1 wC h0 n0 _ T3.heap _
  exact ⟨b3_0, rfl, N3, KK3, sz_b3_0, Q3_0, Q3_1, Q3_2, Q3_3⟩
theorem ef_5_2 (m : MethodId) (a1 : Addr) (a3 : Addr) : entryFrame m #[(.ref a1), (.int (0 : Int32)), (.ref a3), (.int (0 : Int32)), (.int (2 : Int32))] 7 = mkF m 0 #[.val (.ref a1), .val (.int (0 : Int32)), .val (.ref a3), .val (.int (0 : Int32)), .val (.int (2 : Int32)), .unset, .unset] [] := by first | (simp [entryFrame, mkF, argsToLocals, Value.category]; done) | rfl
def Q5_2 (Z : State) (a1 : Addr) (a3 : Addr) (g_a1f : Nat → Int32) (g_a3f : Nat → Int32) (h0 : Heap) (n0 : Nat) (v : Option Value) (h : Heap) (L : List Loc) : Prop := v = some (.int (2 : Int32)) ∧ Fr n0 L ∧ Keep h0 h [a3] ∧ Ary Z h a3 .byte 2 (fun i => .int ((upA (upA g_a3f 0 (nar .byte ((g_a1f 0).toInt8.toInt32))) 1 (nar .byte ((g_a1f 1).toInt8.toInt32))) i))
set_option maxRecDepth 65536 in
set_option maxHeartbeats 40000000 in
theorem rm5_2 (l : Launch) (Z : State) (a0 : Array Value) (hw : ∀ d ∈ tables_1, d.before a0 Z = true) (ws : List Jvm.Cond) (a1 : Addr) (a3 : Addr) (g_a1f : Nat → Int32) (g_a3f : Nat → Int32) (h0 : Heap) (n0 : Nat) (Z0 : n0 ≤ h0.size) (A_a1 : Ary Z h0 a1 .char 2 (fun i => .int (g_a1f i))) (A_a3 : Ary Z h0 a3 .byte 2 (fun i => .int (g_a3f i))) (hp20 : ¬ ((255 : Int32) < (g_a1f 0))) (g_a3 : n0 ≤ a3) (hne_a1_a3 : a1 ≠ a3) (hp20_x2 : ¬ ((255 : Int32) < (g_a1f 1))) :
    MetFree l (⟨"java/lang/StringUTF16", "compress", "([CI[BII)I"⟩ : MethodName) (head1 (Jvm.Cond.code (⟨"java/lang/StringUTF16", "compress", "([CI[BII)I"⟩ : MethodName) jdk_52_method_21_code 7 (some .int) :: ws) ({ frames := 0, cells := 0, slots := 0, locals := 0 } : Room)) (fun a U => a = #[(.ref a1), (.int (0 : Int32)), (.ref a3), (.int (0 : Int32)), (.int (2 : Int32))] ∧ Z.Warmed39 U.vm ∧ U.heap = h0) (fun _ _ _ _ _ => True) (fun _ U o U' => ∃ v L, o = .returned v ∧ Q5_2 Z a1 a3 g_a1f g_a3f h0 n0 v U'.heap L ∧ FrameEnd U o U' L ({ frames := 0, cells := 0, slots := 0, locals := 0 } : Room).cells ({ frames := 0, cells := 0, slots := 0, locals := 0 } : Room).slots) := by
  refine MetFree.of_bodySF (plainFor_of_name pn_0) hisR ?_
  intro p e s m args below meth c s₁ Bd hml0 hP hK
  obtain ⟨rfl, hZ, hh⟩ := hP
  have hx := Bd.exec
  have hby := Bd.bytes
  have hml : c.maxLocals = 7 := hml0
  have hown : s.vm.findClass "java/lang/StringUTF16" = some m.cls := findClass_of_methodNamed Bd.named
  have hnm := (name_of_methodNamed Bd.named Bd.method).1
  have X0 : Stand p l e ({ frames := 0, cells := 0, slots := 0, locals := 0 } : Room) s m #[(.ref a1), (.int (0 : Int32)), (.ref a3), (.int (0 : Int32)), (.int (2 : Int32))] below meth c s₁ [] 0 0 := Stand.of_body Bd
  have e0 : s₁.heap = h0 := by rw [← hh, Bd.state]; rfl
  have N0 := Fr.nil n0
  refine Go.done (Go.step (fun t k => castTop (ef_5_2 m a1 a3) k) ?_)
  have KK0 : Keep h0 h0 [a3] := Keep.refl _ _
  show Go p e below _ (s₁.setTop (mkF m 0 #[.val (.ref a1), .val (.int (0 : Int32)), .val (.ref a3), .val (.int (0 : Int32)), .val (.int (2 : Int32)), .unset, .unset] []))
  refine Go.step (fun t k => XS.iconst X0.here hx rfl (hb hby d5_0)  k) ?_
  show Go p e below _ (s₁.setTop (mkF m 1 #[.val (.ref a1), .val (.int (0 : Int32)), .val (.ref a3), .val (.int (0 : Int32)), .val (.int (2 : Int32)), .unset, .unset] [(.int (0 : Int32))]))
  refine Go.step (fun t k => XS.istore X0.here hx rfl (hb hby d5_1) rfl (l' := #[.val (.ref a1), .val (.int (0 : Int32)), .val (.ref a3), .val (.int (0 : Int32)), .val (.int (2 : Int32)), .val (.int (0 : Int32)), .unset]) rfl k) ?_
  show Go p e below _ (s₁.setTop (mkF m 3 #[.val (.ref a1), .val (.int (0 : Int32)), .val (.ref a3), .val (.int (0 : Int32)), .val (.int (2 : Int32)), .val (.int (0 : Int32)), .unset] []))
  refine Go.step (fun t k => XS.iload X0.here hx rfl (hb hby d5_3) rfl k) ?_
  show Go p e below _ (s₁.setTop (mkF m 5 #[.val (.ref a1), .val (.int (0 : Int32)), .val (.ref a3), .val (.int (0 : Int32)), .val (.int (2 : Int32)), .val (.int (0 : Int32)), .unset] [(.int (0 : Int32))]))
  refine Go.step (fun t k => XS.iload X0.here hx rfl (hb hby d5_5) rfl k) ?_
  show Go p e below _ (s₁.setTop (mkF m 7 #[.val (.ref a1), .val (.int (0 : Int32)), .val (.ref a3), .val (.int (0 : Int32)), .val (.int (2 : Int32)), .val (.int (0 : Int32)), .unset] [(.int (2 : Int32)), (.int (0 : Int32))]))
  refine Go.step (fun t k => XS.icmpNo X0.here hx rfl (hb hby d5_7) rfl (tlt (by decide : (0 : Int32) < (2 : Int32))).2.1 k) ?_
  show Go p e below _ (s₁.setTop (mkF m 10 #[.val (.ref a1), .val (.int (0 : Int32)), .val (.ref a3), .val (.int (0 : Int32)), .val (.int (2 : Int32)), .val (.int (0 : Int32)), .unset] []))
  refine Go.step (fun t k => XS.aloadN X0.here hx rfl (hb hby d5_10) rfl rfl k) ?_
  show Go p e below _ (s₁.setTop (mkF m 11 #[.val (.ref a1), .val (.int (0 : Int32)), .val (.ref a3), .val (.int (0 : Int32)), .val (.int (2 : Int32)), .val (.int (0 : Int32)), .unset] [(.ref a1)]))
  refine Go.step (fun t k => XS.iloadN X0.here hx rfl (hb hby d5_11) rfl k) ?_
  show Go p e below _ (s₁.setTop (mkF m 12 #[.val (.ref a1), .val (.int (0 : Int32)), .val (.ref a3), .val (.int (0 : Int32)), .val (.int (2 : Int32)), .val (.int (0 : Int32)), .unset] [(.int (0 : Int32)), (.ref a1)]))
  refine Go.step (ldC X0 hx hZ e0 A_a1 (j := (0 : Int32)) (by decide) (by decide) (g := (mkF m 12 #[.val (.ref a1), .val (.int (0 : Int32)), .val (.ref a3), .val (.int (0 : Int32)), .val (.int (2 : Int32)), .val (.int (0 : Int32)), .unset] [(.int (0 : Int32)), (.ref a1)])) rfl rfl (hb hby d5_12)) ?_
  show Go p e below _ (s₁.setTop (mkF m 13 #[.val (.ref a1), .val (.int (0 : Int32)), .val (.ref a3), .val (.int (0 : Int32)), .val (.int (2 : Int32)), .val (.int (0 : Int32)), .unset] [(.int (g_a1f 0))]))
  refine Go.step (fun t k => XS.istore X0.here hx rfl (hb hby d5_13) rfl (l' := #[.val (.ref a1), .val (.int (0 : Int32)), .val (.ref a3), .val (.int (0 : Int32)), .val (.int (2 : Int32)), .val (.int (0 : Int32)), .val (.int (g_a1f 0))]) rfl k) ?_
  show Go p e below _ (s₁.setTop (mkF m 15 #[.val (.ref a1), .val (.int (0 : Int32)), .val (.ref a3), .val (.int (0 : Int32)), .val (.int (2 : Int32)), .val (.int (0 : Int32)), .val (.int (g_a1f 0))] []))
  refine Go.step (fun t k => XS.iload X0.here hx rfl (hb hby d5_15) rfl k) ?_
  show Go p e below _ (s₁.setTop (mkF m 17 #[.val (.ref a1), .val (.int (0 : Int32)), .val (.ref a3), .val (.int (0 : Int32)), .val (.int (2 : Int32)), .val (.int (0 : Int32)), .val (.int (g_a1f 0))] [(.int (g_a1f 0))]))
  refine Go.step (fun t k => XS.sipush X0.here hx rfl (hb hby d5_17)  k) ?_
  show Go p e below _ (s₁.setTop (mkF m 20 #[.val (.ref a1), .val (.int (0 : Int32)), .val (.ref a3), .val (.int (0 : Int32)), .val (.int (2 : Int32)), .val (.int (0 : Int32)), .val (.int (g_a1f 0))] [(.int (255 : Int32)), (.int (g_a1f 0))]))
  refine Go.step (fun t k => XS.icmpYes X0.here hx rfl (pc0 := 20) (pc' := 26) rfl (hb hby d5_20) rfl (flt hp20).2.2.2 (by decide) (by decide) k) ?_
  show Go p e below _ (s₁.setTop (mkF m 26 #[.val (.ref a1), .val (.int (0 : Int32)), .val (.ref a3), .val (.int (0 : Int32)), .val (.int (2 : Int32)), .val (.int (0 : Int32)), .val (.int (g_a1f 0))] []))
  refine Go.step (fun t k => XS.aloadN X0.here hx rfl (hb hby d5_26) rfl rfl k) ?_
  show Go p e below _ (s₁.setTop (mkF m 27 #[.val (.ref a1), .val (.int (0 : Int32)), .val (.ref a3), .val (.int (0 : Int32)), .val (.int (2 : Int32)), .val (.int (0 : Int32)), .val (.int (g_a1f 0))] [(.ref a3)]))
  refine Go.step (fun t k => XS.iloadN X0.here hx rfl (hb hby d5_27) rfl k) ?_
  show Go p e below _ (s₁.setTop (mkF m 28 #[.val (.ref a1), .val (.int (0 : Int32)), .val (.ref a3), .val (.int (0 : Int32)), .val (.int (2 : Int32)), .val (.int (0 : Int32)), .val (.int (g_a1f 0))] [(.int (0 : Int32)), (.ref a3)]))
  refine Go.step (fun t k => XS.iload X0.here hx rfl (hb hby d5_28) rfl k) ?_
  show Go p e below _ (s₁.setTop (mkF m 30 #[.val (.ref a1), .val (.int (0 : Int32)), .val (.ref a3), .val (.int (0 : Int32)), .val (.int (2 : Int32)), .val (.int (0 : Int32)), .val (.int (g_a1f 0))] [(.int (g_a1f 0)), (.int (0 : Int32)), (.ref a3)]))
  refine Go.step (fun t k => XS.i2b X0.here hx rfl (hb hby d5_30) rfl k) ?_
  show Go p e below _ (s₁.setTop (mkF m 31 #[.val (.ref a1), .val (.int (0 : Int32)), .val (.ref a3), .val (.int (0 : Int32)), .val (.int (2 : Int32)), .val (.int (0 : Int32)), .val (.int (g_a1f 0))] [(.int ((g_a1f 0).toInt8.toInt32)), (.int (0 : Int32)), (.ref a3)]))
  obtain ⟨cl6, Ar6, in6, -⟩ := A_a3.hin (j := (0 : Int32)) (by decide) (by decide)
  obtain ⟨T6, h6, X6, e6, W6, st6⟩ := stB X0 hx hZ e0 Ar6 in6 (g := (mkF m 31 #[.val (.ref a1), .val (.int (0 : Int32)), .val (.ref a3), .val (.int (0 : Int32)), .val (.int (2 : Int32)), .val (.int (0 : Int32)), .val (.int (g_a1f 0))] [(.int ((g_a1f 0).toInt8.toInt32)), (.int (0 : Int32)), (.ref a3)])) rfl rfl (hb hby d5_31)
  refine Go.step st6 ?_
  have N6 := Fr.snoc X6 N0 g_a3
  have A_a1_6 := A_a1.other W6 hne_a1_a3
  have Z6 := Nat.le_trans Z0 (Keep.of_wr W6).1
  have KK6 : Keep h0 h6 [a3] := KK0.wr W6 (Or.inl (by simp))
  clear A_a1 Z0 KK0
  have A_a3_6 : Ary Z h6 a3 .byte 2 (fun i => .int ((upA g_a3f 0 (nar .byte ((g_a1f 0).toInt8.toInt32))) i)) := A_a3.setI W6 (by decide)
  show Go p e below _ (T6.setTop (mkF m 32 #[.val (.ref a1), .val (.int (0 : Int32)), .val (.ref a3), .val (.int (0 : Int32)), .val (.int (2 : Int32)), .val (.int (0 : Int32)), .val (.int (g_a1f 0))] []))
  refine Go.step (fun t k => XS.iinc X6.here hx rfl (hb hby d5_32) rfl (l' := #[.val (.ref a1), .val (.int (1 : Int32)), .val (.ref a3), .val (.int (0 : Int32)), .val (.int (2 : Int32)), .val (.int (0 : Int32)), .val (.int (g_a1f 0))]) rfl k) ?_
  show Go p e below _ (T6.setTop (mkF m 35 #[.val (.ref a1), .val (.int (1 : Int32)), .val (.ref a3), .val (.int (0 : Int32)), .val (.int (2 : Int32)), .val (.int (0 : Int32)), .val (.int (g_a1f 0))] []))
  refine Go.step (fun t k => XS.iinc X6.here hx rfl (hb hby d5_35) rfl (l' := #[.val (.ref a1), .val (.int (1 : Int32)), .val (.ref a3), .val (.int (1 : Int32)), .val (.int (2 : Int32)), .val (.int (0 : Int32)), .val (.int (g_a1f 0))]) rfl k) ?_
  show Go p e below _ (T6.setTop (mkF m 38 #[.val (.ref a1), .val (.int (1 : Int32)), .val (.ref a3), .val (.int (1 : Int32)), .val (.int (2 : Int32)), .val (.int (0 : Int32)), .val (.int (g_a1f 0))] []))
  refine Go.step (fun t k => XS.iinc X6.here hx rfl (hb hby d5_38) rfl (l' := #[.val (.ref a1), .val (.int (1 : Int32)), .val (.ref a3), .val (.int (1 : Int32)), .val (.int (2 : Int32)), .val (.int (1 : Int32)), .val (.int (g_a1f 0))]) rfl k) ?_
  show Go p e below _ (T6.setTop (mkF m 41 #[.val (.ref a1), .val (.int (1 : Int32)), .val (.ref a3), .val (.int (1 : Int32)), .val (.int (2 : Int32)), .val (.int (1 : Int32)), .val (.int (g_a1f 0))] []))
  refine Go.step (fun t k => XS.goto X6.here hx rfl (pc0 := 41) (pc' := 3) rfl (hb hby d5_41) (by decide) (by decide) k) ?_
  show Go p e below _ (T6.setTop (mkF m 3 #[.val (.ref a1), .val (.int (1 : Int32)), .val (.ref a3), .val (.int (1 : Int32)), .val (.int (2 : Int32)), .val (.int (1 : Int32)), .val (.int (g_a1f 0))] []))
  refine Go.step (fun t k => XS.iload X6.here hx rfl (hb hby d5_3) rfl k) ?_
  show Go p e below _ (T6.setTop (mkF m 5 #[.val (.ref a1), .val (.int (1 : Int32)), .val (.ref a3), .val (.int (1 : Int32)), .val (.int (2 : Int32)), .val (.int (1 : Int32)), .val (.int (g_a1f 0))] [(.int (1 : Int32))]))
  refine Go.step (fun t k => XS.iload X6.here hx rfl (hb hby d5_5) rfl k) ?_
  show Go p e below _ (T6.setTop (mkF m 7 #[.val (.ref a1), .val (.int (1 : Int32)), .val (.ref a3), .val (.int (1 : Int32)), .val (.int (2 : Int32)), .val (.int (1 : Int32)), .val (.int (g_a1f 0))] [(.int (2 : Int32)), (.int (1 : Int32))]))
  refine Go.step (fun t k => XS.icmpNo X6.here hx rfl (hb hby d5_7) rfl (tlt (by decide : (1 : Int32) < (2 : Int32))).2.1 k) ?_
  show Go p e below _ (T6.setTop (mkF m 10 #[.val (.ref a1), .val (.int (1 : Int32)), .val (.ref a3), .val (.int (1 : Int32)), .val (.int (2 : Int32)), .val (.int (1 : Int32)), .val (.int (g_a1f 0))] []))
  refine Go.step (fun t k => XS.aloadN X6.here hx rfl (hb hby d5_10) rfl rfl k) ?_
  show Go p e below _ (T6.setTop (mkF m 11 #[.val (.ref a1), .val (.int (1 : Int32)), .val (.ref a3), .val (.int (1 : Int32)), .val (.int (2 : Int32)), .val (.int (1 : Int32)), .val (.int (g_a1f 0))] [(.ref a1)]))
  refine Go.step (fun t k => XS.iloadN X6.here hx rfl (hb hby d5_11) rfl k) ?_
  show Go p e below _ (T6.setTop (mkF m 12 #[.val (.ref a1), .val (.int (1 : Int32)), .val (.ref a3), .val (.int (1 : Int32)), .val (.int (2 : Int32)), .val (.int (1 : Int32)), .val (.int (g_a1f 0))] [(.int (1 : Int32)), (.ref a1)]))
  refine Go.step (ldC X6 hx hZ e6 A_a1_6 (j := (1 : Int32)) (by decide) (by decide) (g := (mkF m 12 #[.val (.ref a1), .val (.int (1 : Int32)), .val (.ref a3), .val (.int (1 : Int32)), .val (.int (2 : Int32)), .val (.int (1 : Int32)), .val (.int (g_a1f 0))] [(.int (1 : Int32)), (.ref a1)])) rfl rfl (hb hby d5_12)) ?_
  show Go p e below _ (T6.setTop (mkF m 13 #[.val (.ref a1), .val (.int (1 : Int32)), .val (.ref a3), .val (.int (1 : Int32)), .val (.int (2 : Int32)), .val (.int (1 : Int32)), .val (.int (g_a1f 0))] [(.int (g_a1f 1))]))
  refine Go.step (fun t k => XS.istore X6.here hx rfl (hb hby d5_13) rfl (l' := #[.val (.ref a1), .val (.int (1 : Int32)), .val (.ref a3), .val (.int (1 : Int32)), .val (.int (2 : Int32)), .val (.int (1 : Int32)), .val (.int (g_a1f 1))]) rfl k) ?_
  show Go p e below _ (T6.setTop (mkF m 15 #[.val (.ref a1), .val (.int (1 : Int32)), .val (.ref a3), .val (.int (1 : Int32)), .val (.int (2 : Int32)), .val (.int (1 : Int32)), .val (.int (g_a1f 1))] []))
  refine Go.step (fun t k => XS.iload X6.here hx rfl (hb hby d5_15) rfl k) ?_
  show Go p e below _ (T6.setTop (mkF m 17 #[.val (.ref a1), .val (.int (1 : Int32)), .val (.ref a3), .val (.int (1 : Int32)), .val (.int (2 : Int32)), .val (.int (1 : Int32)), .val (.int (g_a1f 1))] [(.int (g_a1f 1))]))
  refine Go.step (fun t k => XS.sipush X6.here hx rfl (hb hby d5_17)  k) ?_
  show Go p e below _ (T6.setTop (mkF m 20 #[.val (.ref a1), .val (.int (1 : Int32)), .val (.ref a3), .val (.int (1 : Int32)), .val (.int (2 : Int32)), .val (.int (1 : Int32)), .val (.int (g_a1f 1))] [(.int (255 : Int32)), (.int (g_a1f 1))]))
  refine Go.step (fun t k => XS.icmpYes X6.here hx rfl (pc0 := 20) (pc' := 26) rfl (hb hby d5_20) rfl (flt hp20_x2).2.2.2 (by decide) (by decide) k) ?_
  show Go p e below _ (T6.setTop (mkF m 26 #[.val (.ref a1), .val (.int (1 : Int32)), .val (.ref a3), .val (.int (1 : Int32)), .val (.int (2 : Int32)), .val (.int (1 : Int32)), .val (.int (g_a1f 1))] []))
  refine Go.step (fun t k => XS.aloadN X6.here hx rfl (hb hby d5_26) rfl rfl k) ?_
  show Go p e below _ (T6.setTop (mkF m 27 #[.val (.ref a1), .val (.int (1 : Int32)), .val (.ref a3), .val (.int (1 : Int32)), .val (.int (2 : Int32)), .val (.int (1 : Int32)), .val (.int (g_a1f 1))] [(.ref a3)]))
  refine Go.step (fun t k => XS.iloadN X6.here hx rfl (hb hby d5_27) rfl k) ?_
  show Go p e below _ (T6.setTop (mkF m 28 #[.val (.ref a1), .val (.int (1 : Int32)), .val (.ref a3), .val (.int (1 : Int32)), .val (.int (2 : Int32)), .val (.int (1 : Int32)), .val (.int (g_a1f 1))] [(.int (1 : Int32)), (.ref a3)]))
  refine Go.step (fun t k => XS.iload X6.here hx rfl (hb hby d5_28) rfl k) ?_
  show Go p e below _ (T6.setTop (mkF m 30 #[.val (.ref a1), .val (.int (1 : Int32)), .val (.ref a3), .val (.int (1 : Int32)), .val (.int (2 : Int32)), .val (.int (1 : Int32)), .val (.int (g_a1f 1))] [(.int (g_a1f 1)), (.int (1 : Int32)), (.ref a3)]))
  refine Go.step (fun t k => XS.i2b X6.here hx rfl (hb hby d5_30) rfl k) ?_
  show Go p e below _ (T6.setTop (mkF m 31 #[.val (.ref a1), .val (.int (1 : Int32)), .val (.ref a3), .val (.int (1 : Int32)), .val (.int (2 : Int32)), .val (.int (1 : Int32)), .val (.int (g_a1f 1))] [(.int ((g_a1f 1).toInt8.toInt32)), (.int (1 : Int32)), (.ref a3)]))
  obtain ⟨cl7, Ar7, in7, -⟩ := A_a3_6.hin (j := (1 : Int32)) (by decide) (by decide)
  obtain ⟨T7, h7, X7, e7, W7, st7⟩ := stB X6 hx hZ e6 Ar7 in7 (g := (mkF m 31 #[.val (.ref a1), .val (.int (1 : Int32)), .val (.ref a3), .val (.int (1 : Int32)), .val (.int (2 : Int32)), .val (.int (1 : Int32)), .val (.int (g_a1f 1))] [(.int ((g_a1f 1).toInt8.toInt32)), (.int (1 : Int32)), (.ref a3)])) rfl rfl (hb hby d5_31)
  refine Go.step st7 ?_
  have N7 := Fr.snoc X7 N6 g_a3
  have A_a1_7 := A_a1_6.other W7 hne_a1_a3
  have Z7 := Nat.le_trans Z6 (Keep.of_wr W7).1
  have KK7 : Keep h0 h7 [a3] := KK6.wr W7 (Or.inl (by simp))
  clear A_a1_6 Z6 KK6
  have A_a3_7 : Ary Z h7 a3 .byte 2 (fun i => .int ((upA (upA g_a3f 0 (nar .byte ((g_a1f 0).toInt8.toInt32))) 1 (nar .byte ((g_a1f 1).toInt8.toInt32))) i)) := A_a3_6.setI W7 (by decide)
  show Go p e below _ (T7.setTop (mkF m 32 #[.val (.ref a1), .val (.int (1 : Int32)), .val (.ref a3), .val (.int (1 : Int32)), .val (.int (2 : Int32)), .val (.int (1 : Int32)), .val (.int (g_a1f 1))] []))
  refine Go.step (fun t k => XS.iinc X7.here hx rfl (hb hby d5_32) rfl (l' := #[.val (.ref a1), .val (.int (2 : Int32)), .val (.ref a3), .val (.int (1 : Int32)), .val (.int (2 : Int32)), .val (.int (1 : Int32)), .val (.int (g_a1f 1))]) rfl k) ?_
  show Go p e below _ (T7.setTop (mkF m 35 #[.val (.ref a1), .val (.int (2 : Int32)), .val (.ref a3), .val (.int (1 : Int32)), .val (.int (2 : Int32)), .val (.int (1 : Int32)), .val (.int (g_a1f 1))] []))
  refine Go.step (fun t k => XS.iinc X7.here hx rfl (hb hby d5_35) rfl (l' := #[.val (.ref a1), .val (.int (2 : Int32)), .val (.ref a3), .val (.int (2 : Int32)), .val (.int (2 : Int32)), .val (.int (1 : Int32)), .val (.int (g_a1f 1))]) rfl k) ?_
  show Go p e below _ (T7.setTop (mkF m 38 #[.val (.ref a1), .val (.int (2 : Int32)), .val (.ref a3), .val (.int (2 : Int32)), .val (.int (2 : Int32)), .val (.int (1 : Int32)), .val (.int (g_a1f 1))] []))
  refine Go.step (fun t k => XS.iinc X7.here hx rfl (hb hby d5_38) rfl (l' := #[.val (.ref a1), .val (.int (2 : Int32)), .val (.ref a3), .val (.int (2 : Int32)), .val (.int (2 : Int32)), .val (.int (2 : Int32)), .val (.int (g_a1f 1))]) rfl k) ?_
  show Go p e below _ (T7.setTop (mkF m 41 #[.val (.ref a1), .val (.int (2 : Int32)), .val (.ref a3), .val (.int (2 : Int32)), .val (.int (2 : Int32)), .val (.int (2 : Int32)), .val (.int (g_a1f 1))] []))
  refine Go.step (fun t k => XS.goto X7.here hx rfl (pc0 := 41) (pc' := 3) rfl (hb hby d5_41) (by decide) (by decide) k) ?_
  show Go p e below _ (T7.setTop (mkF m 3 #[.val (.ref a1), .val (.int (2 : Int32)), .val (.ref a3), .val (.int (2 : Int32)), .val (.int (2 : Int32)), .val (.int (2 : Int32)), .val (.int (g_a1f 1))] []))
  refine Go.step (fun t k => XS.iload X7.here hx rfl (hb hby d5_3) rfl k) ?_
  show Go p e below _ (T7.setTop (mkF m 5 #[.val (.ref a1), .val (.int (2 : Int32)), .val (.ref a3), .val (.int (2 : Int32)), .val (.int (2 : Int32)), .val (.int (2 : Int32)), .val (.int (g_a1f 1))] [(.int (2 : Int32))]))
  refine Go.step (fun t k => XS.iload X7.here hx rfl (hb hby d5_5) rfl k) ?_
  show Go p e below _ (T7.setTop (mkF m 7 #[.val (.ref a1), .val (.int (2 : Int32)), .val (.ref a3), .val (.int (2 : Int32)), .val (.int (2 : Int32)), .val (.int (2 : Int32)), .val (.int (g_a1f 1))] [(.int (2 : Int32)), (.int (2 : Int32))]))
  refine Go.step (fun t k => XS.icmpYes X7.here hx rfl (pc0 := 7) (pc' := 44) rfl (hb hby d5_7) rfl (flt (by decide : ¬ ((2 : Int32) < (2 : Int32)))).2.1 (by decide) (by decide) k) ?_
  show Go p e below _ (T7.setTop (mkF m 44 #[.val (.ref a1), .val (.int (2 : Int32)), .val (.ref a3), .val (.int (2 : Int32)), .val (.int (2 : Int32)), .val (.int (2 : Int32)), .val (.int (g_a1f 1))] []))
  refine Go.step (fun t k => XS.iload X7.here hx rfl (hb hby d5_44) rfl k) ?_
  show Go p e below _ (T7.setTop (mkF m 46 #[.val (.ref a1), .val (.int (2 : Int32)), .val (.ref a3), .val (.int (2 : Int32)), .val (.int (2 : Int32)), .val (.int (2 : Int32)), .val (.int (g_a1f 1))] [(.int (2 : Int32))]))
  refine retGI X7 hx Bd.notSynchronized Bd.returns (hb hby d5_46) ?_ (by decide) (by decide)
  show Q5_2 Z a1 a3 g_a1f g_a3f h0 n0 _ T7.heap _
  rw [e7]
  exact ⟨rfl, N7, KK7, A_a3_7⟩
theorem ef_4_2 (m : MethodId) (a1 : Addr) : entryFrame m #[(.ref a1), (.int (0 : Int32)), (.int (2 : Int32))] 6 = mkF m 0 #[.val (.ref a1), .val (.int (0 : Int32)), .val (.int (2 : Int32)), .unset, .unset, .unset] [] := by first | (simp [entryFrame, mkF, argsToLocals, Value.category]; done) | rfl
def Q4_2 (Z : State) (a1 : Addr) (g_a1f : Nat → Int32) (h0 : Heap) (n0 : Nat) (v : Option Value) (h : Heap) (L : List Loc) : Prop := ∃ (b4 : Addr), v = some (.ref b4) ∧ Fr n0 L ∧ Keep h0 h [] ∧ h0.size ≤ b4 ∧ Ary Z h b4 .byte 2 (fun i => .int ((upA (upA (fun _ => (0 : Int32)) 0 (nar .byte ((g_a1f 0).toInt8.toInt32))) 1 (nar .byte ((g_a1f 1).toInt8.toInt32))) i))
set_option maxRecDepth 65536 in
set_option maxHeartbeats 40000000 in
theorem rm4_2 (l : Launch) (Z : State) (a0 : Array Value) (hw : ∀ d ∈ tables_1, d.before a0 Z = true) (ws : List Jvm.Cond) (a1 : Addr) (g_a1f : Nat → Int32) (h0 : Heap) (n0 : Nat) (Z0 : n0 ≤ h0.size) (A_a1 : Ary Z h0 a1 .char 2 (fun i => .int (g_a1f i))) (hp9_hp20 : ¬ ((255 : Int32) < (g_a1f 0))) (hp9_hp20_x2 : ¬ ((255 : Int32) < (g_a1f 1))) :
    MetFree l (⟨"java/lang/StringUTF16", "compress", "([CII)[B"⟩ : MethodName) (head1 (Jvm.Cond.code (⟨"java/lang/StringUTF16", "compress", "([CII)[B"⟩ : MethodName) jdk_52_method_16_code 6 (some (.array .byte)) :: ws) ({ frames := 1, cells := 1, slots := 2, locals := 18 } : Room)) (fun a U => a = #[(.ref a1), (.int (0 : Int32)), (.int (2 : Int32))] ∧ Z.Warmed39 U.vm ∧ U.heap = h0) (fun _ _ _ _ _ => True) (fun _ U o U' => ∃ v L, o = .returned v ∧ Q4_2 Z a1 g_a1f h0 n0 v U'.heap L ∧ FrameEnd U o U' L ({ frames := 1, cells := 1, slots := 2, locals := 18 } : Room).cells ({ frames := 1, cells := 1, slots := 2, locals := 18 } : Room).slots) := by
  refine MetFree.of_bodySF (plainFor_of_name pn_0) hisR ?_
  intro p e s m args below meth c s₁ Bd hml0 hP hK
  obtain ⟨rfl, hZ, hh⟩ := hP
  have hx := Bd.exec
  have hby := Bd.bytes
  have hml : c.maxLocals = 6 := hml0
  have hown : s.vm.findClass "java/lang/StringUTF16" = some m.cls := findClass_of_methodNamed Bd.named
  have hnm := (name_of_methodNamed Bd.named Bd.method).1
  have X0 : Stand p l e ({ frames := 1, cells := 1, slots := 2, locals := 18 } : Room) s m #[(.ref a1), (.int (0 : Int32)), (.int (2 : Int32))] below meth c s₁ [] 0 0 := Stand.of_body Bd
  have e0 : s₁.heap = h0 := by rw [← hh, Bd.state]; rfl
  have N0 := Fr.nil n0
  refine Go.done (Go.step (fun t k => castTop (ef_4_2 m a1) k) ?_)
  have KK0 : Keep h0 h0 [] := Keep.refl _ _
  show Go p e below _ (s₁.setTop (mkF m 0 #[.val (.ref a1), .val (.int (0 : Int32)), .val (.int (2 : Int32)), .unset, .unset, .unset] []))
  refine Go.step (fun t k => XS.iloadN X0.here hx rfl (hb hby d4_0) rfl k) ?_
  show Go p e below _ (s₁.setTop (mkF m 1 #[.val (.ref a1), .val (.int (0 : Int32)), .val (.int (2 : Int32)), .unset, .unset, .unset] [(.int (2 : Int32))]))
  obtain ⟨T4, h4, k4, X4, e4, E4, A4, st4⟩ := newP X0 hx hZ (hw _ (List.mem_of_getElem? (i := 22) rfl)) e0 (g := (mkF m 1 #[.val (.ref a1), .val (.int (0 : Int32)), .val (.int (2 : Int32)), .unset, .unset, .unset] [(.int (2 : Int32))])) rfl (hb hby d4_1) rfl (by decide) (cap := 2) (by decide) (by decide) (by decide) (by decide)
  obtain ⟨b4, g4⟩ : ∃ z, z = h0.size := ⟨_, rfl⟩
  rw [← g4] at A4 st4
  have g_b4 : n0 ≤ b4 := Nat.le_trans Z0 (Nat.le_of_eq g4.symm)
  have sz_b4 : h0.size ≤ b4 := Nat.le_trans KK0.1 (Nat.le_of_eq g4.symm)
  have ne_a1_b4 : a1 ≠ b4 := Nat.ne_of_lt (Nat.lt_of_lt_of_le A_a1.lt (Nat.le_of_eq g4.symm))
  refine Go.step st4 ?_
  have A_a1_4 := A_a1.ext E4
  have Z4 := Nat.le_trans Z0 E4.1
  have KK4 : Keep h0 h4 [] := KK0.ext E4
  clear A_a1 Z0 KK0 E4
  have A_b4_4 : Ary Z h4 b4 .byte 2 (fun i => .int ((fun _ => (0 : Int32)) i)) := Ary.mk A4 (by decide) (by decide)
  replace X4 : Stand p l e ({ frames := 1, cells := 1, slots := 2, locals := 18 } : Room) s m #[(.ref a1), (.int (0 : Int32)), (.int (2 : Int32))] below meth c T4 _ 1 2 := X4
  show Go p e below _ (T4.setTop (mkF m 3 #[.val (.ref a1), .val (.int (0 : Int32)), .val (.int (2 : Int32)), .unset, .unset, .unset] [(.ref b4)]))
  refine Go.step (fun t k => XS.astoreN X4.here hx rfl (hb hby d4_3) rfl rfl (l' := #[.val (.ref a1), .val (.int (0 : Int32)), .val (.int (2 : Int32)), .val (.ref b4), .unset, .unset]) rfl k) ?_
  show Go p e below _ (T4.setTop (mkF m 4 #[.val (.ref a1), .val (.int (0 : Int32)), .val (.int (2 : Int32)), .val (.ref b4), .unset, .unset] []))
  refine Go.step (fun t k => XS.aloadN X4.here hx rfl (hb hby d4_4) rfl rfl k) ?_
  show Go p e below _ (T4.setTop (mkF m 5 #[.val (.ref a1), .val (.int (0 : Int32)), .val (.int (2 : Int32)), .val (.ref b4), .unset, .unset] [(.ref a1)]))
  refine Go.step (fun t k => XS.iloadN X4.here hx rfl (hb hby d4_5) rfl k) ?_
  show Go p e below _ (T4.setTop (mkF m 6 #[.val (.ref a1), .val (.int (0 : Int32)), .val (.int (2 : Int32)), .val (.ref b4), .unset, .unset] [(.int (0 : Int32)), (.ref a1)]))
  refine Go.step (fun t k => XS.aloadN X4.here hx rfl (hb hby d4_6) rfl rfl k) ?_
  show Go p e below _ (T4.setTop (mkF m 7 #[.val (.ref a1), .val (.int (0 : Int32)), .val (.int (2 : Int32)), .val (.ref b4), .unset, .unset] [(.ref b4), (.int (0 : Int32)), (.ref a1)]))
  refine Go.step (fun t k => XS.iconst X4.here hx rfl (hb hby d4_7)  k) ?_
  show Go p e below _ (T4.setTop (mkF m 8 #[.val (.ref a1), .val (.int (0 : Int32)), .val (.int (2 : Int32)), .val (.ref b4), .unset, .unset] [(.int (0 : Int32)), (.ref b4), (.int (0 : Int32)), (.ref a1)]))
  refine Go.step (fun t k => XS.iloadN X4.here hx rfl (hb hby d4_8) rfl k) ?_
  show Go p e below _ (T4.setTop (mkF m 9 #[.val (.ref a1), .val (.int (0 : Int32)), .val (.int (2 : Int32)), .val (.ref b4), .unset, .unset] [(.int (2 : Int32)), (.int (0 : Int32)), (.ref b4), (.int (0 : Int32)), (.ref a1)]))
  obtain ⟨_, _, ⟨T5, L5, k5, n5⟩, -, X5, ⟨Lc5, hQ5, l5, y5, z5⟩, st5⟩ := Jvm.LawKit.callS X4 hx (y := (⟨"java/lang/StringUTF16", "compress", "([CI[BII)I"⟩ : MethodName)) hown (mvT hZ (hw _ (List.mem_of_getElem? (i := 23) rfl))) (mvT hZ (hw _ (List.mem_of_getElem? (i := 24) rfl))) (mvT hZ (hw _ (List.mem_of_getElem? (i := 20) rfl))) (mvT hZ (hw _ (List.mem_of_getElem? (i := 25) rfl))) (by decide) (backOf (W := 0) (rm5_2 l Z a0 hw [] a1 b4 g_a1f (fun _ => (0 : Int32)) h4 n0 Z4 A_a1_4 A_b4_4 hp9_hp20 g_b4 ne_a1_b4 hp9_hp20_x2) hZ (hw _ (List.mem_of_getElem? (i := 25) rfl)) (hw _ (List.mem_of_getElem? (i := 20) rfl)) (by decide) (by decide)) (g := (mkF m 9 #[.val (.ref a1), .val (.int (0 : Int32)), .val (.int (2 : Int32)), .val (.ref b4), .unset, .unset] [(.int (2 : Int32)), (.int (0 : Int32)), (.ref b4), (.int (0 : Int32)), (.ref a1)])) rfl (by rw [hml]; rfl) (argsL := [(.ref a1), (.int (0 : Int32)), (.ref b4), (.int (0 : Int32)), (.int (2 : Int32))]) (rest := []) (lenOf pd_0 rfl) rfl (by show 2 * 0 + _ ≤ _; exact Nat.le_of_eq rfl) (hb hby d4_9) (fun _ _ => ⟨rfl, e4, (by decide : 1 + 0 ≤ _), (by decide : 2 + 0 ≤ _)⟩)
  dsimp only [Pt.U, Pt.locs, Pt.cells, Pt.slots] at X5 l5 y5 z5 st5 hQ5
  replace y5 : k5 = 1 := y5
  replace z5 : n5 = 2 := z5
  subst y5 z5
  obtain ⟨rfl, N5q, K5, Q5_0⟩ := hQ5
  have N5 : Fr n0 L5 := Eq.mpr (congrArg (Fr n0) l5) (Fr.app N0 N5q)
  have A_a1_5 := A_a1_4.keep K5 (ninS ne_a1_b4 nin0)
  have Z5 := Nat.le_trans Z4 K5.1
  have KK5 : Keep h0 T5.heap [] := KK4.trans K5 (allS (Or.inr sz_b4) all0)
  clear A_a1_4 Z4 KK4 K5
  refine Go.step st5 ?_
  show Go p e below _ (T5.setTop (mkF m 12 #[.val (.ref a1), .val (.int (0 : Int32)), .val (.int (2 : Int32)), .val (.ref b4), .unset, .unset] [(.int (2 : Int32))]))
  refine Go.step (fun t k => XS.istore X5.here hx rfl (hb hby d4_12) rfl (l' := #[.val (.ref a1), .val (.int (0 : Int32)), .val (.int (2 : Int32)), .val (.ref b4), .val (.int (2 : Int32)), .unset]) rfl k) ?_
  show Go p e below _ (T5.setTop (mkF m 14 #[.val (.ref a1), .val (.int (0 : Int32)), .val (.int (2 : Int32)), .val (.ref b4), .val (.int (2 : Int32)), .unset] []))
  refine Go.step (fun t k => XS.iload X5.here hx rfl (hb hby d4_14) rfl k) ?_
  show Go p e below _ (T5.setTop (mkF m 16 #[.val (.ref a1), .val (.int (0 : Int32)), .val (.int (2 : Int32)), .val (.ref b4), .val (.int (2 : Int32)), .unset] [(.int (2 : Int32))]))
  refine Go.step (fun t k => XS.iloadN X5.here hx rfl (hb hby d4_16) rfl k) ?_
  show Go p e below _ (T5.setTop (mkF m 17 #[.val (.ref a1), .val (.int (0 : Int32)), .val (.int (2 : Int32)), .val (.ref b4), .val (.int (2 : Int32)), .unset] [(.int (2 : Int32)), (.int (2 : Int32))]))
  refine Go.step (fun t k => XS.icmpYes X5.here hx rfl (pc0 := 17) (pc' := 57) rfl (hb hby d4_17) rfl (teq (rfl : (2 : Int32) = (2 : Int32))).1 (by decide) (by decide) k) ?_
  show Go p e below _ (T5.setTop (mkF m 57 #[.val (.ref a1), .val (.int (0 : Int32)), .val (.int (2 : Int32)), .val (.ref b4), .val (.int (2 : Int32)), .unset] []))
  refine Go.step (fun t k => XS.aloadN X5.here hx rfl (hb hby d4_57) rfl rfl k) ?_
  show Go p e below _ (T5.setTop (mkF m 58 #[.val (.ref a1), .val (.int (0 : Int32)), .val (.int (2 : Int32)), .val (.ref b4), .val (.int (2 : Int32)), .unset] [(.ref b4)]))
  refine retGR X5 hx Bd.notSynchronized Bd.returns rfl rfl (hb hby d4_58) ?_ (by decide) (by decide)
  show Q4_2 Z a1 g_a1f h0 n0 _ T5.heap _
  exact ⟨b4, rfl, N5, KK5, sz_b4, Q5_0⟩
theorem ef_6_2 (m : MethodId) (a1 : Addr) : entryFrame m #[(.ref a1), (.int (2 : Int32))] 2 = mkF m 0 #[.val (.ref a1), .val (.int (2 : Int32))] [] := by first | (simp [entryFrame, mkF, argsToLocals, Value.category]; done) | rfl
def f6_2 (g_a1f : Nat → Int32) : Int32 := (0 : Int32)
set_option maxRecDepth 65536 in
set_option maxHeartbeats 40000000 in
theorem rm6_2 (l : Launch) (Z : State) (a0 : Array Value) (hw : ∀ d ∈ tables_1, d.before a0 Z = true) (ws : List Jvm.Cond) (a1 : Addr) (g_a1f : Nat → Int32) (h0 : Heap) (n0 : Nat) (Z0 : n0 ≤ h0.size) (A_a1 : Ary Z h0 a1 .byte 2 (fun i => .int (g_a1f i))) :
    MetFree l (⟨"java/lang/StringUTF16", "coderFromArrayLen", "([BI)B"⟩ : MethodName) (head1 (Jvm.Cond.code (⟨"java/lang/StringUTF16", "coderFromArrayLen", "([BI)B"⟩ : MethodName) jdk_52_method_15_code 2 (some .byte) :: ws) ({ frames := 0, cells := 0, slots := 0, locals := 0 } : Room)) (fun a U => a = #[(.ref a1), (.int (2 : Int32))] ∧ Z.Warmed39 U.vm ∧ U.heap = h0) (fun _ _ _ _ _ => True) (fun _ U o U' => ∃ v L, o = .returned v ∧ QP (.int (f6_2 g_a1f)) h0 n0 v U'.heap L ∧ FrameEnd U o U' L ({ frames := 0, cells := 0, slots := 0, locals := 0 } : Room).cells ({ frames := 0, cells := 0, slots := 0, locals := 0 } : Room).slots) := by
  refine MetFree.of_bodySF (plainFor_of_name pn_0) hisR ?_
  intro p e s m args below meth c s₁ Bd hml0 hP hK
  obtain ⟨rfl, hZ, hh⟩ := hP
  have hx := Bd.exec
  have hby := Bd.bytes
  have hml : c.maxLocals = 2 := hml0
  have hown : s.vm.findClass "java/lang/StringUTF16" = some m.cls := findClass_of_methodNamed Bd.named
  have hnm := (name_of_methodNamed Bd.named Bd.method).1
  have X0 : Stand p l e ({ frames := 0, cells := 0, slots := 0, locals := 0 } : Room) s m #[(.ref a1), (.int (2 : Int32))] below meth c s₁ [] 0 0 := Stand.of_body Bd
  have e0 : s₁.heap = h0 := by rw [← hh, Bd.state]; rfl
  have N0 := Fr.nil n0
  refine Go.done (Go.step (fun t k => castTop (ef_6_2 m a1) k) ?_)
  have KK0 : Keep h0 h0 [] := Keep.refl _ _
  show Go p e below _ (s₁.setTop (mkF m 0 #[.val (.ref a1), .val (.int (2 : Int32))] []))
  refine Go.step (fun t k => XS.iloadN X0.here hx rfl (hb hby d6_0) rfl k) ?_
  show Go p e below _ (s₁.setTop (mkF m 1 #[.val (.ref a1), .val (.int (2 : Int32))] [(.int (2 : Int32))]))
  refine Go.step (fun t k => XS.aloadN X0.here hx rfl (hb hby d6_1) rfl rfl k) ?_
  show Go p e below _ (s₁.setTop (mkF m 2 #[.val (.ref a1), .val (.int (2 : Int32))] [(.ref a1), (.int (2 : Int32))]))
  refine Go.step (lenA X0 hx hZ e0 A_a1 (g := (mkF m 2 #[.val (.ref a1), .val (.int (2 : Int32))] [(.ref a1), (.int (2 : Int32))])) rfl rfl (hb hby d6_2)) ?_
  show Go p e below _ (s₁.setTop (mkF m 3 #[.val (.ref a1), .val (.int (2 : Int32))] [(.int (2 : Int32)), (.int (2 : Int32))]))
  refine Go.step (fun t k => XS.isub X0.here hx rfl (hb hby d6_3) rfl k) ?_
  show Go p e below _ (s₁.setTop (mkF m 4 #[.val (.ref a1), .val (.int (2 : Int32))] [(.int (0 : Int32))]))
  refine Go.step (fun t k => XS.bipush X0.here hx rfl (hb hby d6_4)  k) ?_
  show Go p e below _ (s₁.setTop (mkF m 6 #[.val (.ref a1), .val (.int (2 : Int32))] [(.int (31 : Int32)), (.int (0 : Int32))]))
  refine Go.step (fun t k => XS.iushr X0.here hx rfl (hb hby d6_6) rfl k) ?_
  show Go p e below _ (s₁.setTop (mkF m 7 #[.val (.ref a1), .val (.int (2 : Int32))] [(.int (0 : Int32))]))
  refine Go.step (fun t k => XS.i2b X0.here hx rfl (hb hby d6_7) rfl k) ?_
  show Go p e below _ (s₁.setTop (mkF m 8 #[.val (.ref a1), .val (.int (2 : Int32))] [(.int (0 : Int32))]))
  exact retGN X0 hx Bd.notSynchronized Bd.returns (t := .byte) (by simp) (z' := (0 : Int32)) rfl (hb hby d6_8) ⟨by first | rfl | (simp only [f6_2]; done) | (simp [f6_2]; done), N0, e0⟩ (by decide) (by decide)
theorem ef_2_2 (m : MethodId) (a1 : Addr) (a2 : Addr) : entryFrame m #[(.ref a1), (.ref a2), (.int (0 : Int32)), (.int (2 : Int32)), .null] 6 = mkF m 0 #[.val (.ref a1), .val (.ref a2), .val (.int (0 : Int32)), .val (.int (2 : Int32)), .val .null, .unset] [] := by first | (simp [entryFrame, mkF, argsToLocals, Value.category]; done) | rfl
def Q2_2 (Z : State) (a1 : Addr) (a2 : Addr) (g_a2f : Nat → Int32) (u_coder_a1 : Value) (u_value_a1 : Value) (wC : Int32) (h0 : Heap) (n0 : Nat) (v : Option Value) (h : Heap) (L : List Loc) : Prop := ∃ (b8_0 : Addr), v = none ∧ Fr n0 L ∧ Keep h0 h [a1] ∧ h0.size ≤ b8_0 ∧ Exa Z h a1 "java/lang/String" ∧ Fld Z h a1 "java/lang/String" "coder" "B" (.int (0 : Int32)) ∧ Fld Z h a1 "java/lang/String" "value" "[B" (.ref b8_0) ∧ Ary Z h b8_0 .byte 2 (fun i => .int ((upA (upA (fun _ => (0 : Int32)) 0 (nar .byte ((g_a2f 0).toInt8.toInt32))) 1 (nar .byte ((g_a2f 1).toInt8.toInt32))) i))
set_option maxRecDepth 65536 in
set_option maxHeartbeats 40000000 in
theorem rm2_2 (l : Launch) (Z : State) (a0 : Array Value) (hw : ∀ d ∈ tables_1, d.before a0 Z = true) (ws : List Jvm.Cond) (a1 : Addr) (a2 : Addr) (g_a2f : Nat → Int32) (u_coder_a1 : Value) (u_value_a1 : Value) (wC : Int32) (h0 : Heap) (n0 : Nat) (Z0 : n0 ≤ h0.size) (A_a2 : Ary Z h0 a2 .char 2 (fun i => .int (g_a2f i))) (E_a1 : Exa Z h0 a1 "java/lang/String") (F_coder_a1 : Fld Z h0 a1 "java/lang/String" "coder" "B" u_coder_a1) (F_value_a1 : Fld Z h0 a1 "java/lang/String" "value" "[B" u_value_a1) (hC : ¬ (wC = (0 : Int32))) (S_COMPACT_STRINGS : Sta Z Z.heap "java/lang/String" "COMPACT_STRINGS" "Z" (.int wC)) (hO : Old Z n0 h0) (hp36_hp9_hp20 : ¬ ((255 : Int32) < (g_a2f 0))) (hp36_hp9_hp20_x2 : ¬ ((255 : Int32) < (g_a2f 1))) (g_a1 : n0 ≤ a1) (hne_a2_a1 : a2 ≠ a1) :
    MetFree l (⟨"java/lang/String", "<init>", "([CIILjava/lang/Void;)V"⟩ : MethodName) (head1 (Jvm.Cond.code (⟨"java/lang/String", "<init>", "([CIILjava/lang/Void;)V"⟩ : MethodName) jdk_42_method_149_code 6 none :: ws) ({ frames := 2, cells := 1, slots := 2, locals := 35 } : Room)) (fun a U => a = #[(.ref a1), (.ref a2), (.int (0 : Int32)), (.int (2 : Int32)), .null] ∧ Z.Warmed39 U.vm ∧ U.heap = h0) (fun _ _ _ _ _ => True) (fun _ U o U' => ∃ v L, o = .returned v ∧ Q2_2 Z a1 a2 g_a2f u_coder_a1 u_value_a1 wC h0 n0 v U'.heap L ∧ FrameEnd U o U' L ({ frames := 2, cells := 1, slots := 2, locals := 35 } : Room).cells ({ frames := 2, cells := 1, slots := 2, locals := 35 } : Room).slots) := by
  refine MetFree.of_bodySF (plainFor_of_name pn_1) hisR ?_
  intro p e s m args below meth c s₁ Bd hml0 hP hK
  obtain ⟨rfl, hZ, hh⟩ := hP
  have hx := Bd.exec
  have hby := Bd.bytes
  have hml : c.maxLocals = 6 := hml0
  have hown : s.vm.findClass "java/lang/String" = some m.cls := findClass_of_methodNamed Bd.named
  have hnm := (name_of_methodNamed Bd.named Bd.method).1
  have X0 : Stand p l e ({ frames := 2, cells := 1, slots := 2, locals := 35 } : Room) s m #[(.ref a1), (.ref a2), (.int (0 : Int32)), (.int (2 : Int32)), .null] below meth c s₁ [] 0 0 := Stand.of_body Bd
  have e0 : s₁.heap = h0 := by rw [← hh, Bd.state]; rfl
  have N0 := Fr.nil n0
  refine Go.done (Go.step (fun t k => castTop (ef_2_2 m a1 a2) k) ?_)
  have KK0 : Keep h0 h0 [a1] := Keep.refl _ _
  show Go p e below _ (s₁.setTop (mkF m 0 #[.val (.ref a1), .val (.ref a2), .val (.int (0 : Int32)), .val (.int (2 : Int32)), .val .null, .unset] []))
  refine Go.step (fun t k => XS.aloadN X0.here hx rfl (hb hby d2_0) rfl rfl k) ?_
  show Go p e below _ (s₁.setTop (mkF m 1 #[.val (.ref a1), .val (.ref a2), .val (.int (0 : Int32)), .val (.int (2 : Int32)), .val .null, .unset] [(.ref a1)]))
  obtain ⟨T6, X6, e6, st6⟩ := initO X0 hx hZ hown (hw _ (List.mem_of_getElem? (i := 14) rfl)) (hw _ (List.mem_of_getElem? (i := 15) rfl)) (hw _ (List.mem_of_getElem? (i := 16) rfl)) e0 (g := (mkF m 1 #[.val (.ref a1), .val (.ref a2), .val (.int (0 : Int32)), .val (.int (2 : Int32)), .val .null, .unset] [(.ref a1)])) rfl (by rw [hml]; rfl) rfl (hb hby d2_1) (by decide) (W := 0) (by show 2 * 0 + _ ≤ _; exact Nat.le_of_eq rfl) (by decide)
  refine Go.step st6 ?_
  show Go p e below _ (T6.setTop (mkF m 4 #[.val (.ref a1), .val (.ref a2), .val (.int (0 : Int32)), .val (.int (2 : Int32)), .val .null, .unset] []))
  refine Go.step (fun t k => XS.iloadN X6.here hx rfl (hb hby d2_4) rfl k) ?_
  show Go p e below _ (T6.setTop (mkF m 5 #[.val (.ref a1), .val (.ref a2), .val (.int (0 : Int32)), .val (.int (2 : Int32)), .val .null, .unset] [(.int (2 : Int32))]))
  refine Go.step (fun t k => XS.ifYes X6.here hx rfl (pc0 := 5) (pc' := 27) rfl (hb hby d2_5) rfl ((if0 _ _).trans (feq (by decide : ¬ ((2 : Int32) = (0 : Int32)))).2) (by decide) (by decide) k) ?_
  show Go p e below _ (T6.setTop (mkF m 27 #[.val (.ref a1), .val (.ref a2), .val (.int (0 : Int32)), .val (.int (2 : Int32)), .val .null, .unset] []))
  obtain ⟨T7, X7, e7, st7⟩ := getS2 X6 hx hZ hown (host := "") (Or.inl (hw _ (List.mem_of_getElem? (i := 17) rfl))) Via.refl e6 (S_COMPACT_STRINGS.ext hO.2) (g := (mkF m 27 #[.val (.ref a1), .val (.ref a2), .val (.int (0 : Int32)), .val (.int (2 : Int32)), .val .null, .unset] [])) rfl (hb hby d2_27)
  refine Go.step st7 ?_
  show Go p e below _ (T7.setTop (mkF m 30 #[.val (.ref a1), .val (.ref a2), .val (.int (0 : Int32)), .val (.int (2 : Int32)), .val .null, .unset] [(.int wC)]))
  refine Go.step (fun t k => XS.ifNo X7.here hx rfl (hb hby d2_30) rfl ((if0 _ _).trans (feq (hC : ¬ (wC = (0 : Int32)))).1) k) ?_
  show Go p e below _ (T7.setTop (mkF m 33 #[.val (.ref a1), .val (.ref a2), .val (.int (0 : Int32)), .val (.int (2 : Int32)), .val .null, .unset] []))
  refine Go.step (fun t k => XS.aloadN X7.here hx rfl (hb hby d2_33) rfl rfl k) ?_
  show Go p e below _ (T7.setTop (mkF m 34 #[.val (.ref a1), .val (.ref a2), .val (.int (0 : Int32)), .val (.int (2 : Int32)), .val .null, .unset] [(.ref a2)]))
  refine Go.step (fun t k => XS.iloadN X7.here hx rfl (hb hby d2_34) rfl k) ?_
  show Go p e below _ (T7.setTop (mkF m 35 #[.val (.ref a1), .val (.ref a2), .val (.int (0 : Int32)), .val (.int (2 : Int32)), .val .null, .unset] [(.int (0 : Int32)), (.ref a2)]))
  refine Go.step (fun t k => XS.iloadN X7.here hx rfl (hb hby d2_35) rfl k) ?_
  show Go p e below _ (T7.setTop (mkF m 36 #[.val (.ref a1), .val (.ref a2), .val (.int (0 : Int32)), .val (.int (2 : Int32)), .val .null, .unset] [(.int (2 : Int32)), (.int (0 : Int32)), (.ref a2)]))
  obtain ⟨_, _, ⟨T8, L8, k8, n8⟩, -, X8, ⟨Lc8, hQ8, l8, y8, z8⟩, st8⟩ := Jvm.LawKit.callS X7 hx (y := (⟨"java/lang/StringUTF16", "compress", "([CII)[B"⟩ : MethodName)) hown (mvT hZ (hw _ (List.mem_of_getElem? (i := 18) rfl))) (mvT hZ (hw _ (List.mem_of_getElem? (i := 19) rfl))) (mvT hZ (hw _ (List.mem_of_getElem? (i := 20) rfl))) (mvT hZ (hw _ (List.mem_of_getElem? (i := 21) rfl))) (by decide) (backOf (W := 0) (rm4_2 l Z a0 hw [] a2 g_a2f h0 n0 Z0 A_a2 hp36_hp9_hp20 hp36_hp9_hp20_x2) hZ (hw _ (List.mem_of_getElem? (i := 21) rfl)) (hw _ (List.mem_of_getElem? (i := 20) rfl)) (by decide) (by decide)) (g := (mkF m 36 #[.val (.ref a1), .val (.ref a2), .val (.int (0 : Int32)), .val (.int (2 : Int32)), .val .null, .unset] [(.int (2 : Int32)), (.int (0 : Int32)), (.ref a2)])) rfl (by rw [hml]; rfl) (argsL := [(.ref a2), (.int (0 : Int32)), (.int (2 : Int32))]) (rest := []) (lenOf pd_1 rfl) rfl (by show 2 * 0 + _ ≤ _; exact Nat.le_of_eq rfl) (hb hby d2_36) (fun _ _ => ⟨rfl, e7, (by decide : 0 + 1 ≤ _), (by decide : 0 + 2 ≤ _)⟩)
  dsimp only [Pt.U, Pt.locs, Pt.cells, Pt.slots] at X8 l8 y8 z8 st8 hQ8
  replace y8 : k8 = 1 := y8
  replace z8 : n8 = 2 := z8
  subst y8 z8
  obtain ⟨b8_0, rfl, N8q, K8, sz8_0, Q8_0⟩ := hQ8
  have N8 : Fr n0 L8 := Eq.mpr (congrArg (Fr n0) l8) (Fr.app N0 N8q)
  have g_b8_0 : n0 ≤ b8_0 := Nat.le_trans Z0 sz8_0
  have sz_b8_0 : h0.size ≤ b8_0 := Nat.le_trans KK0.1 sz8_0
  have ne_a2_b8_0 : a2 ≠ b8_0 := Nat.ne_of_lt (Nat.lt_of_lt_of_le A_a2.lt sz8_0)
  have ne_a1_b8_0 : a1 ≠ b8_0 := Nat.ne_of_lt (Nat.lt_of_lt_of_le E_a1.lt sz8_0)
  have A_a2_8 := A_a2.keep K8 nin0
  have E_a1_8 := E_a1.keep K8
  have F_coder_a1_8 := F_coder_a1.keep K8 nin0
  have F_value_a1_8 := F_value_a1.keep K8 nin0
  have O8 := hO.keep K8 all0
  have Z8 := Nat.le_trans Z0 K8.1
  have KK8 : Keep h0 T8.heap [a1] := KK0.trans K8 all0
  clear A_a2 E_a1 F_coder_a1 F_value_a1 hO Z0 KK0 K8
  refine Go.step st8 ?_
  show Go p e below _ (T8.setTop (mkF m 39 #[.val (.ref a1), .val (.ref a2), .val (.int (0 : Int32)), .val (.int (2 : Int32)), .val .null, .unset] [(.ref b8_0)]))
  refine Go.step (fun t k => XS.astore X8.here hx rfl (hb hby d2_39) rfl rfl (l' := #[.val (.ref a1), .val (.ref a2), .val (.int (0 : Int32)), .val (.int (2 : Int32)), .val .null, .val (.ref b8_0)]) rfl k) ?_
  show Go p e below _ (T8.setTop (mkF m 41 #[.val (.ref a1), .val (.ref a2), .val (.int (0 : Int32)), .val (.int (2 : Int32)), .val .null, .val (.ref b8_0)] []))
  refine Go.step (fun t k => XS.aloadN X8.here hx rfl (hb hby d2_41) rfl rfl k) ?_
  show Go p e below _ (T8.setTop (mkF m 42 #[.val (.ref a1), .val (.ref a2), .val (.int (0 : Int32)), .val (.int (2 : Int32)), .val .null, .val (.ref b8_0)] [(.ref a1)]))
  refine Go.step (fun t k => XS.aload X8.here hx rfl (hb hby d2_42) rfl rfl k) ?_
  show Go p e below _ (T8.setTop (mkF m 44 #[.val (.ref a1), .val (.ref a2), .val (.int (0 : Int32)), .val (.int (2 : Int32)), .val .null, .val (.ref b8_0)] [(.ref b8_0), (.ref a1)]))
  refine Go.step (fun t k => XS.iloadN X8.here hx rfl (hb hby d2_44) rfl k) ?_
  show Go p e below _ (T8.setTop (mkF m 45 #[.val (.ref a1), .val (.ref a2), .val (.int (0 : Int32)), .val (.int (2 : Int32)), .val .null, .val (.ref b8_0)] [(.int (2 : Int32)), (.ref b8_0), (.ref a1)]))
  obtain ⟨_, _, ⟨T9, L9, k9, n9⟩, -, X9, ⟨Lc9, hQ9, l9, y9, z9⟩, st9⟩ := Jvm.LawKit.callS X8 hx (y := (⟨"java/lang/StringUTF16", "coderFromArrayLen", "([BI)B"⟩ : MethodName)) hown (mvT hZ (hw _ (List.mem_of_getElem? (i := 26) rfl))) (mvT hZ (hw _ (List.mem_of_getElem? (i := 27) rfl))) (mvT hZ (hw _ (List.mem_of_getElem? (i := 20) rfl))) (mvT hZ (hw _ (List.mem_of_getElem? (i := 28) rfl))) (by decide) (backOf (W := 1) (rm6_2 l Z a0 hw [] b8_0 (upA (upA (fun _ => (0 : Int32)) 0 (nar .byte ((g_a2f 0).toInt8.toInt32))) 1 (nar .byte ((g_a2f 1).toInt8.toInt32))) T8.heap n0 Z8 Q8_0) hZ (hw _ (List.mem_of_getElem? (i := 28) rfl)) (hw _ (List.mem_of_getElem? (i := 20) rfl)) (by decide) (by decide)) (g := (mkF m 45 #[.val (.ref a1), .val (.ref a2), .val (.int (0 : Int32)), .val (.int (2 : Int32)), .val .null, .val (.ref b8_0)] [(.int (2 : Int32)), (.ref b8_0), (.ref a1)])) rfl (by rw [hml]; rfl) (argsL := [(.ref b8_0), (.int (2 : Int32))]) (rest := [(.ref a1)]) (lenOf pd_2 rfl) rfl (by show 2 * 0 + _ ≤ _; exact Nat.le_of_eq rfl) (hb hby d2_45) (fun _ _ => ⟨rfl, rfl, (by decide : 1 + 0 ≤ _), (by decide : 2 + 0 ≤ _)⟩)
  dsimp only [Pt.U, Pt.locs, Pt.cells, Pt.slots] at X9 l9 y9 z9 st9 hQ9
  replace y9 : k9 = 1 := y9
  replace z9 : n9 = 2 := z9
  subst y9 z9
  obtain ⟨rfl, N9q, e9⟩ := hQ9
  have N9 : Fr n0 L9 := Eq.mpr (congrArg (Fr n0) l9) (Fr.app N8 N9q)
  refine Go.step st9 ?_
  show Go p e below _ (T9.setTop (mkF m 48 #[.val (.ref a1), .val (.ref a2), .val (.int (0 : Int32)), .val (.int (2 : Int32)), .val .null, .val (.ref b8_0)] [(.int (0 : Int32)), (.ref a1)]))
  obtain ⟨T10, h10, X10, e10, W10, st10⟩ := putFN X9 hx hZ hown (hw _ (List.mem_of_getElem? (i := 29) rfl)) Via.refl e9 F_coder_a1_8 E_a1_8 (Or.inr ⟨(hw _ (List.mem_of_getElem? (i := 30) rfl)), rfl, hnm⟩) (hw _ (List.mem_of_getElem? (i := 4) rfl)) (ty := .byte) (v' := .int (0 : Int32)) (by decide) rfl (by decide) (g := (mkF m 48 #[.val (.ref a1), .val (.ref a2), .val (.int (0 : Int32)), .val (.int (2 : Int32)), .val .null, .val (.ref b8_0)] [(.int (0 : Int32)), (.ref a1)])) rfl rfl (hb hby d2_48)
  refine Go.step st10 ?_
  have N10 := Fr.snoc X10 N9 g_a1
  have A_a2_10 := A_a2_8.other W10 hne_a2_a1
  have E_a1_10 := E_a1_8.wr W10
  have F_value_a1_10 := F_value_a1_8.other W10 (Or.inr (slot_ne (Or.inr (hw _ (List.mem_of_getElem? (i := 32) rfl))) (Or.inr (hw _ (List.mem_of_getElem? (i := 30) rfl))) (by decide) (t := (.array .byte)) (t' := .byte) (by decide) (by decide)))
  have A_b8_0_10 := Q8_0.other W10 (Ne.symm ne_a1_b8_0)
  have O10 := O8.wr W10 g_a1
  have Z10 := Nat.le_trans Z8 (Keep.of_wr W10).1
  have KK10 : Keep h0 h10 [a1] := KK8.wr W10 (Or.inl (by simp))
  clear A_a2_8 E_a1_8 F_value_a1_8 Q8_0 O8 Z8 KK8
  have F_coder_a1_10 := F_coder_a1_8.same W10
  show Go p e below _ (T10.setTop (mkF m 51 #[.val (.ref a1), .val (.ref a2), .val (.int (0 : Int32)), .val (.int (2 : Int32)), .val .null, .val (.ref b8_0)] []))
  refine Go.step (fun t k => XS.aloadN X10.here hx rfl (hb hby d2_51) rfl rfl k) ?_
  show Go p e below _ (T10.setTop (mkF m 52 #[.val (.ref a1), .val (.ref a2), .val (.int (0 : Int32)), .val (.int (2 : Int32)), .val .null, .val (.ref b8_0)] [(.ref a1)]))
  refine Go.step (fun t k => XS.aload X10.here hx rfl (hb hby d2_52) rfl rfl k) ?_
  show Go p e below _ (T10.setTop (mkF m 54 #[.val (.ref a1), .val (.ref a2), .val (.int (0 : Int32)), .val (.int (2 : Int32)), .val .null, .val (.ref b8_0)] [(.ref b8_0), (.ref a1)]))
  obtain ⟨T11, h11, X11, e11, W11, st11⟩ := putF X10 hx hZ hown (host := "") (Or.inl (hw _ (List.mem_of_getElem? (i := 31) rfl))) Via.refl e10 F_value_a1_10 E_a1_10 (Or.inr ⟨(hw _ (List.mem_of_getElem? (i := 32) rfl)), rfl, hnm⟩) (hw _ (List.mem_of_getElem? (i := 4) rfl)) (ty := (.array .byte)) (by decide) rfl rfl (g := (mkF m 54 #[.val (.ref a1), .val (.ref a2), .val (.int (0 : Int32)), .val (.int (2 : Int32)), .val .null, .val (.ref b8_0)] [(.ref b8_0), (.ref a1)])) rfl rfl (hb hby d2_54)
  refine Go.step st11 ?_
  have N11 := Fr.snoc X11 N10 g_a1
  have A_a2_11 := A_a2_10.other W11 hne_a2_a1
  have E_a1_11 := E_a1_10.wr W11
  have F_coder_a1_11 := F_coder_a1_10.other W11 (Or.inr (slot_ne (Or.inr (hw _ (List.mem_of_getElem? (i := 30) rfl))) (Or.inr (hw _ (List.mem_of_getElem? (i := 32) rfl))) (by decide) (t := .byte) (t' := (.array .byte)) (by decide) (by decide)))
  have A_b8_0_11 := A_b8_0_10.other W11 (Ne.symm ne_a1_b8_0)
  have O11 := O10.wr W11 g_a1
  have Z11 := Nat.le_trans Z10 (Keep.of_wr W11).1
  have KK11 : Keep h0 h11 [a1] := KK10.wr W11 (Or.inl (by simp))
  clear A_a2_10 E_a1_10 F_coder_a1_10 A_b8_0_10 O10 Z10 KK10
  have F_value_a1_11 := F_value_a1_10.same W11
  show Go p e below _ (T11.setTop (mkF m 57 #[.val (.ref a1), .val (.ref a2), .val (.int (0 : Int32)), .val (.int (2 : Int32)), .val .null, .val (.ref b8_0)] []))
  refine retGV X11 hx Bd.notSynchronized Bd.returns (hb hby d2_57) ?_ (by decide) (by decide)
  show Q2_2 Z a1 a2 g_a2f u_coder_a1 u_value_a1 wC h0 n0 _ T11.heap _
  rw [e11]
  exact ⟨b8_0, rfl, N11, KK11, sz_b8_0, E_a1_11, F_coder_a1_11, F_value_a1_11, A_b8_0_11⟩
theorem ef_1_2 (m : MethodId) (a1 : Addr) (a2 : Addr) : entryFrame m #[(.ref a1), (.ref a2)] 2 = mkF m 0 #[.val (.ref a1), .val (.ref a2)] [] := by first | (simp [entryFrame, mkF, argsToLocals, Value.category]; done) | rfl
def Q1_2 (Z : State) (a1 : Addr) (a2 : Addr) (g_a2f : Nat → Int32) (u_coder_a1 : Value) (u_value_a1 : Value) (wC : Int32) (h0 : Heap) (n0 : Nat) (v : Option Value) (h : Heap) (L : List Loc) : Prop := ∃ (b3_0 : Addr), v = none ∧ Fr n0 L ∧ Keep h0 h [a1] ∧ h0.size ≤ b3_0 ∧ Exa Z h a1 "java/lang/String" ∧ Fld Z h a1 "java/lang/String" "coder" "B" (.int (0 : Int32)) ∧ Fld Z h a1 "java/lang/String" "value" "[B" (.ref b3_0) ∧ Ary Z h b3_0 .byte 2 (fun i => .int ((upA (upA (fun _ => (0 : Int32)) 0 (nar .byte ((g_a2f 0).toInt8.toInt32))) 1 (nar .byte ((g_a2f 1).toInt8.toInt32))) i))
set_option maxRecDepth 65536 in
set_option maxHeartbeats 40000000 in
theorem rm1_2 (l : Launch) (Z : State) (a0 : Array Value) (hw : ∀ d ∈ tables_1, d.before a0 Z = true) (ws : List Jvm.Cond) (a1 : Addr) (a2 : Addr) (g_a2f : Nat → Int32) (u_coder_a1 : Value) (u_value_a1 : Value) (wC : Int32) (h0 : Heap) (n0 : Nat) (Z0 : n0 ≤ h0.size) (A_a2 : Ary Z h0 a2 .char 2 (fun i => .int (g_a2f i))) (E_a1 : Exa Z h0 a1 "java/lang/String") (F_coder_a1 : Fld Z h0 a1 "java/lang/String" "coder" "B" u_coder_a1) (F_value_a1 : Fld Z h0 a1 "java/lang/String" "value" "[B" u_value_a1) (hC : ¬ (wC = (0 : Int32))) (S_COMPACT_STRINGS : Sta Z Z.heap "java/lang/String" "COMPACT_STRINGS" "Z" (.int wC)) (hO : Old Z n0 h0) (g_a1 : n0 ≤ a1) (hp6_hp36_hp9_hp20 : ¬ ((255 : Int32) < (g_a2f 0))) (hp6_hp36_hp9_hp20_x2 : ¬ ((255 : Int32) < (g_a2f 1))) (hne_a2_a1 : a2 ≠ a1) :
    MetFree l (⟨"java/lang/String", "<init>", "([C)V"⟩ : MethodName) (head1 (Jvm.Cond.code (⟨"java/lang/String", "<init>", "([C)V"⟩ : MethodName) jdk_42_method_3_code 2 none :: ws) ({ frames := 3, cells := 1, slots := 2, locals := 52 } : Room)) (fun a U => a = #[(.ref a1), (.ref a2)] ∧ Z.Warmed39 U.vm ∧ U.heap = h0) (fun _ _ _ _ _ => True) (fun _ U o U' => ∃ v L, o = .returned v ∧ Q1_2 Z a1 a2 g_a2f u_coder_a1 u_value_a1 wC h0 n0 v U'.heap L ∧ FrameEnd U o U' L ({ frames := 3, cells := 1, slots := 2, locals := 52 } : Room).cells ({ frames := 3, cells := 1, slots := 2, locals := 52 } : Room).slots) := by
  refine MetFree.of_bodySF (plainFor_of_name pn_1) hisR ?_
  intro p e s m args below meth c s₁ Bd hml0 hP hK
  obtain ⟨rfl, hZ, hh⟩ := hP
  have hx := Bd.exec
  have hby := Bd.bytes
  have hml : c.maxLocals = 2 := hml0
  have hown : s.vm.findClass "java/lang/String" = some m.cls := findClass_of_methodNamed Bd.named
  have hnm := (name_of_methodNamed Bd.named Bd.method).1
  have X0 : Stand p l e ({ frames := 3, cells := 1, slots := 2, locals := 52 } : Room) s m #[(.ref a1), (.ref a2)] below meth c s₁ [] 0 0 := Stand.of_body Bd
  have e0 : s₁.heap = h0 := by rw [← hh, Bd.state]; rfl
  have N0 := Fr.nil n0
  refine Go.done (Go.step (fun t k => castTop (ef_1_2 m a1 a2) k) ?_)
  have KK0 : Keep h0 h0 [a1] := Keep.refl _ _
  show Go p e below _ (s₁.setTop (mkF m 0 #[.val (.ref a1), .val (.ref a2)] []))
  refine Go.step (fun t k => XS.aloadN X0.here hx rfl (hb hby d1_0) rfl rfl k) ?_
  show Go p e below _ (s₁.setTop (mkF m 1 #[.val (.ref a1), .val (.ref a2)] [(.ref a1)]))
  refine Go.step (fun t k => XS.aloadN X0.here hx rfl (hb hby d1_1) rfl rfl k) ?_
  show Go p e below _ (s₁.setTop (mkF m 2 #[.val (.ref a1), .val (.ref a2)] [(.ref a2), (.ref a1)]))
  refine Go.step (fun t k => XS.iconst X0.here hx rfl (hb hby d1_2)  k) ?_
  show Go p e below _ (s₁.setTop (mkF m 3 #[.val (.ref a1), .val (.ref a2)] [(.int (0 : Int32)), (.ref a2), (.ref a1)]))
  refine Go.step (fun t k => XS.aloadN X0.here hx rfl (hb hby d1_3) rfl rfl k) ?_
  show Go p e below _ (s₁.setTop (mkF m 4 #[.val (.ref a1), .val (.ref a2)] [(.ref a2), (.int (0 : Int32)), (.ref a2), (.ref a1)]))
  refine Go.step (lenA X0 hx hZ e0 A_a2 (g := (mkF m 4 #[.val (.ref a1), .val (.ref a2)] [(.ref a2), (.int (0 : Int32)), (.ref a2), (.ref a1)])) rfl rfl (hb hby d1_4)) ?_
  show Go p e below _ (s₁.setTop (mkF m 5 #[.val (.ref a1), .val (.ref a2)] [(.int (2 : Int32)), (.int (0 : Int32)), (.ref a2), (.ref a1)]))
  refine Go.step (fun t k => XS.aconstNull X0.here hx rfl (hb hby d1_5)  k) ?_
  show Go p e below _ (s₁.setTop (mkF m 6 #[.val (.ref a1), .val (.ref a2)] [.null, (.int (2 : Int32)), (.int (0 : Int32)), (.ref a2), (.ref a1)]))
  obtain ⟨_, _, ⟨T3, L3, k3, n3⟩, -, X3, ⟨Lc3, hQ3, l3, y3, z3⟩, st3⟩ := X0.specialBack hx (y := (⟨"java/lang/String", "<init>", "([CIILjava/lang/Void;)V"⟩ : MethodName)) rfl hown (mvT hZ (hw _ (List.mem_of_getElem? (i := 10) rfl))) (mvT hZ (hw _ (List.mem_of_getElem? (i := 11) rfl))) (mvT hZ (hw _ (List.mem_of_getElem? (i := 13) rfl))) (by decide) (backOf (W := 0) (rm2_2 l Z a0 hw [] a1 a2 g_a2f u_coder_a1 u_value_a1 wC h0 n0 Z0 A_a2 E_a1 F_coder_a1 F_value_a1 hC S_COMPACT_STRINGS hO hp6_hp36_hp9_hp20 hp6_hp36_hp9_hp20_x2 g_a1 hne_a2_a1) hZ (hw _ (List.mem_of_getElem? (i := 13) rfl)) (hw _ (List.mem_of_getElem? (i := 5) rfl)) (by decide) (by decide)) (g := (mkF m 6 #[.val (.ref a1), .val (.ref a2)] [.null, (.int (2 : Int32)), (.int (0 : Int32)), (.ref a2), (.ref a1)])) rfl (by rw [hml]; rfl) (Steps.refl _) (a := a1) (argsL := [(.ref a2), (.int (0 : Int32)), (.int (2 : Int32)), .null]) (rest := []) (lenOf pd_3 rfl) rfl (by show 2 * 0 + _ ≤ _; exact Nat.le_of_eq rfl) (hb hby d1_6) (fun _ _ => ⟨rfl, e0, (by decide : 0 + 1 ≤ _), (by decide : 0 + 2 ≤ _)⟩)
  dsimp only [Pt.U, Pt.locs, Pt.cells, Pt.slots] at X3 l3 y3 z3 st3 hQ3
  replace y3 : k3 = 1 := y3
  replace z3 : n3 = 2 := z3
  subst y3 z3
  obtain ⟨b3_0, rfl, N3q, K3, sz3_0, Q3_0, Q3_1, Q3_2, Q3_3⟩ := hQ3
  have N3 : Fr n0 L3 := Eq.mpr (congrArg (Fr n0) l3) (Fr.app N0 N3q)
  have g_b3_0 : n0 ≤ b3_0 := Nat.le_trans Z0 sz3_0
  have sz_b3_0 : h0.size ≤ b3_0 := Nat.le_trans KK0.1 sz3_0
  have ne_a2_b3_0 : a2 ≠ b3_0 := Nat.ne_of_lt (Nat.lt_of_lt_of_le A_a2.lt sz3_0)
  have ne_a1_b3_0 : a1 ≠ b3_0 := Nat.ne_of_lt (Nat.lt_of_lt_of_le E_a1.lt sz3_0)
  have A_a2_3 := A_a2.keep K3 (ninS hne_a2_a1 nin0)
  have E_a1_3 := E_a1.keep K3
  have O3 := hO.keep K3 (allS g_a1 all0)
  have Z3 := Nat.le_trans Z0 K3.1
  have KK3 : Keep h0 T3.heap [a1] := KK0.trans K3 (allS (Or.inl (by simp)) all0)
  clear A_a2 E_a1 hO Z0 KK0 K3
  refine Go.trans st3 ?_
  show Go p e below _ (T3.setTop (mkF m 9 #[.val (.ref a1), .val (.ref a2)] []))
  refine retGV X3 hx Bd.notSynchronized Bd.returns (hb hby d1_9) ?_ (by decide) (by decide)
  show Q1_2 Z a1 a2 g_a2f u_coder_a1 u_value_a1 wC h0 n0 _ T3.heap _
  exact ⟨b3_0, rfl, N3, KK3, sz_b3_0, Q3_0, Q3_1, Q3_2, Q3_3⟩
theorem d10_0 : decode jdk_22_method_1_code 0 = .ok (.aload_n 0, 1) := by decide +kernel
theorem d10_1 : decode jdk_22_method_1_code 1 = .ok (.invokespecial 1, 3) := by decide +kernel
theorem d10_4 : decode jdk_22_method_1_code 4 = .ok (.return_, 1) := by decide +kernel
theorem ef_10 (m : MethodId) (a1 : Addr) : entryFrame m #[(.ref a1)] 1 = mkF m 0 #[.val (.ref a1)] [] := by first | (simp [entryFrame, mkF, argsToLocals, Value.category]; done) | rfl
theorem pn_2 : plainName "java/util/AbstractCollection" = true := by first | (simp [plainName, overriddenIn]; done) | decide +kernel
set_option maxRecDepth 65536 in
set_option maxHeartbeats 40000000 in
theorem rm10 (l : Launch) (Z : State) (a0 : Array Value) (hw : ∀ d ∈ tables_1, d.before a0 Z = true) (ws : List Jvm.Cond) (a1 : Addr) (h0 : Heap) (n0 : Nat) (Z0 : n0 ≤ h0.size) :
    MetFree l (⟨"java/util/AbstractCollection", "<init>", "()V"⟩ : MethodName) (head1 (Jvm.Cond.code (⟨"java/util/AbstractCollection", "<init>", "()V"⟩ : MethodName) jdk_22_method_1_code 1 none :: ws) ({ frames := 1, cells := 0, slots := 0, locals := 12 } : Room)) (fun a U => a = #[(.ref a1)] ∧ Z.Warmed39 U.vm ∧ U.heap = h0) (fun _ _ _ _ _ => True) (fun _ U o U' => ∃ v L, o = .returned v ∧ QV h0 n0 v U'.heap L ∧ FrameEnd U o U' L ({ frames := 1, cells := 0, slots := 0, locals := 12 } : Room).cells ({ frames := 1, cells := 0, slots := 0, locals := 12 } : Room).slots) := by
  refine MetFree.of_bodySF (plainFor_of_name pn_2) hisR ?_
  intro p e s m args below meth c s₁ Bd hml0 hP hK
  obtain ⟨rfl, hZ, hh⟩ := hP
  have hx := Bd.exec
  have hby := Bd.bytes
  have hml : c.maxLocals = 1 := hml0
  have hown : s.vm.findClass "java/util/AbstractCollection" = some m.cls := findClass_of_methodNamed Bd.named
  have hnm := (name_of_methodNamed Bd.named Bd.method).1
  have X0 : Stand p l e ({ frames := 1, cells := 0, slots := 0, locals := 12 } : Room) s m #[(.ref a1)] below meth c s₁ [] 0 0 := Stand.of_body Bd
  have e0 : s₁.heap = h0 := by rw [← hh, Bd.state]; rfl
  have N0 := Fr.nil n0
  refine Go.done (Go.step (fun t k => castTop (ef_10 m a1) k) ?_)
  have KK0 : Keep h0 h0 [] := Keep.refl _ _
  show Go p e below _ (s₁.setTop (mkF m 0 #[.val (.ref a1)] []))
  refine Go.step (fun t k => XS.aloadN X0.here hx rfl (hb hby d10_0) rfl rfl k) ?_
  show Go p e below _ (s₁.setTop (mkF m 1 #[.val (.ref a1)] [(.ref a1)]))
  obtain ⟨T2, X2, e2, st2⟩ := initO X0 hx hZ hown (hw _ (List.mem_of_getElem? (i := 55) rfl)) (hw _ (List.mem_of_getElem? (i := 15) rfl)) (hw _ (List.mem_of_getElem? (i := 16) rfl)) e0 (g := (mkF m 1 #[.val (.ref a1)] [(.ref a1)])) rfl (by rw [hml]; rfl) rfl (hb hby d10_1) (by decide) (W := 0) (by show 2 * 0 + _ ≤ _; exact Nat.le_of_eq rfl) (by decide)
  refine Go.step st2 ?_
  show Go p e below _ (T2.setTop (mkF m 4 #[.val (.ref a1)] []))
  exact retGV X2 hx Bd.notSynchronized Bd.returns (hb hby d10_4) ⟨rfl, N0, e2⟩ (by decide) (by decide)
theorem d9_0 : decode jdk_39_method_1_code 0 = .ok (.aload_n 0, 1) := by decide +kernel
theorem d9_1 : decode jdk_39_method_1_code 1 = .ok (.invokespecial 1, 3) := by decide +kernel
theorem pd_4 : parseMethodDescriptor "()V" = some ⟨[], none⟩ := by decide +kernel
theorem d9_4 : decode jdk_39_method_1_code 4 = .ok (.aload_n 0, 1) := by decide +kernel
theorem d9_5 : decode jdk_39_method_1_code 5 = .ok (.iconst 0, 1) := by decide +kernel
theorem d9_6 : decode jdk_39_method_1_code 6 = .ok (.putfield 7, 3) := by decide +kernel
theorem d9_9 : decode jdk_39_method_1_code 9 = .ok (.return_, 1) := by decide +kernel
theorem ef_9 (m : MethodId) (a1 : Addr) : entryFrame m #[(.ref a1)] 1 = mkF m 0 #[.val (.ref a1)] [] := by first | (simp [entryFrame, mkF, argsToLocals, Value.category]; done) | rfl
theorem pn_3 : plainName "java/util/AbstractList" = true := by first | (simp [plainName, overriddenIn]; done) | decide +kernel
def Q9 (Z : State) (a1 : Addr) (u_elementData_a1 : Value) (u_modCount_a1 : Value) (h0 : Heap) (n0 : Nat) (v : Option Value) (h : Heap) (L : List Loc) : Prop := v = none ∧ Fr n0 L ∧ Keep h0 h [a1] ∧ Exa Z h a1 "java/util/ArrayList" ∧ Fld Z h a1 "java/util/ArrayList" "elementData" "[Ljava/lang/Object;" u_elementData_a1 ∧ Fld Z h a1 "java/util/AbstractList" "modCount" "I" (.int (0 : Int32))
set_option maxRecDepth 65536 in
set_option maxHeartbeats 40000000 in
theorem rm9 (l : Launch) (Z : State) (a0 : Array Value) (hw : ∀ d ∈ tables_1, d.before a0 Z = true) (ws : List Jvm.Cond) (a1 : Addr) (u_elementData_a1 : Value) (u_modCount_a1 : Value) (h0 : Heap) (n0 : Nat) (Z0 : n0 ≤ h0.size) (E_a1 : Exa Z h0 a1 "java/util/ArrayList") (F_elementData_a1 : Fld Z h0 a1 "java/util/ArrayList" "elementData" "[Ljava/lang/Object;" u_elementData_a1) (F_modCount_a1 : Fld Z h0 a1 "java/util/AbstractList" "modCount" "I" u_modCount_a1) (g_a1 : n0 ≤ a1) :
    MetFree l (⟨"java/util/AbstractList", "<init>", "()V"⟩ : MethodName) (head1 (Jvm.Cond.code (⟨"java/util/AbstractList", "<init>", "()V"⟩ : MethodName) jdk_39_method_1_code 1 none :: ws) ({ frames := 2, cells := 0, slots := 0, locals := 24 } : Room)) (fun a U => a = #[(.ref a1)] ∧ Z.Warmed39 U.vm ∧ U.heap = h0) (fun _ _ _ _ _ => True) (fun _ U o U' => ∃ v L, o = .returned v ∧ Q9 Z a1 u_elementData_a1 u_modCount_a1 h0 n0 v U'.heap L ∧ FrameEnd U o U' L ({ frames := 2, cells := 0, slots := 0, locals := 24 } : Room).cells ({ frames := 2, cells := 0, slots := 0, locals := 24 } : Room).slots) := by
  refine MetFree.of_bodySF (plainFor_of_name pn_3) hisR ?_
  intro p e s m args below meth c s₁ Bd hml0 hP hK
  obtain ⟨rfl, hZ, hh⟩ := hP
  have hx := Bd.exec
  have hby := Bd.bytes
  have hml : c.maxLocals = 1 := hml0
  have hown : s.vm.findClass "java/util/AbstractList" = some m.cls := findClass_of_methodNamed Bd.named
  have hnm := (name_of_methodNamed Bd.named Bd.method).1
  have X0 : Stand p l e ({ frames := 2, cells := 0, slots := 0, locals := 24 } : Room) s m #[(.ref a1)] below meth c s₁ [] 0 0 := Stand.of_body Bd
  have e0 : s₁.heap = h0 := by rw [← hh, Bd.state]; rfl
  have N0 := Fr.nil n0
  refine Go.done (Go.step (fun t k => castTop (ef_9 m a1) k) ?_)
  have KK0 : Keep h0 h0 [a1] := Keep.refl _ _
  show Go p e below _ (s₁.setTop (mkF m 0 #[.val (.ref a1)] []))
  refine Go.step (fun t k => XS.aloadN X0.here hx rfl (hb hby d9_0) rfl rfl k) ?_
  show Go p e below _ (s₁.setTop (mkF m 1 #[.val (.ref a1)] [(.ref a1)]))
  obtain ⟨_, _, ⟨T2, L2, k2, n2⟩, -, X2, ⟨Lc2, hQ2, l2, y2, z2⟩, st2⟩ := X0.specialBack hx (y := (⟨"java/util/AbstractCollection", "<init>", "()V"⟩ : MethodName)) rfl hown (mvT hZ (hw _ (List.mem_of_getElem? (i := 49) rfl))) (mvT hZ (hw _ (List.mem_of_getElem? (i := 50) rfl))) (mvT hZ (hw _ (List.mem_of_getElem? (i := 54) rfl))) (by decide) (backOf (W := 0) (rm10 l Z a0 hw [] a1 h0 n0 Z0) hZ (hw _ (List.mem_of_getElem? (i := 54) rfl)) (hw _ (List.mem_of_getElem? (i := 53) rfl)) (by decide) (by decide)) (g := (mkF m 1 #[.val (.ref a1)] [(.ref a1)])) rfl (by rw [hml]; rfl) (Steps.refl _) (a := a1) (argsL := []) (rest := []) (lenOf pd_4 rfl) rfl (by show 2 * 0 + _ ≤ _; exact Nat.le_of_eq rfl) (hb hby d9_1) (fun _ _ => ⟨rfl, e0, (by decide : 0 + 0 ≤ _), (by decide : 0 + 0 ≤ _)⟩)
  dsimp only [Pt.U, Pt.locs, Pt.cells, Pt.slots] at X2 l2 y2 z2 st2 hQ2
  replace y2 : k2 = 0 := y2
  replace z2 : n2 = 0 := z2
  subst y2 z2
  obtain ⟨rfl, N2q, e2⟩ := hQ2
  have N2 : Fr n0 L2 := Eq.mpr (congrArg (Fr n0) l2) (Fr.app N0 N2q)
  refine Go.trans st2 ?_
  show Go p e below _ (T2.setTop (mkF m 4 #[.val (.ref a1)] []))
  refine Go.step (fun t k => XS.aloadN X2.here hx rfl (hb hby d9_4) rfl rfl k) ?_
  show Go p e below _ (T2.setTop (mkF m 5 #[.val (.ref a1)] [(.ref a1)]))
  refine Go.step (fun t k => XS.iconst X2.here hx rfl (hb hby d9_5)  k) ?_
  show Go p e below _ (T2.setTop (mkF m 6 #[.val (.ref a1)] [(.int (0 : Int32)), (.ref a1)]))
  obtain ⟨T3, h3, X3, e3, W3, st3⟩ := putF X2 hx hZ hown (host := "") (Or.inl (hw _ (List.mem_of_getElem? (i := 56) rfl))) Via.refl e2 F_modCount_a1 E_a1 (Or.inl (hw _ (List.mem_of_getElem? (i := 57) rfl))) (hw _ (List.mem_of_getElem? (i := 38) rfl)) (ty := .int) (by decide) rfl rfl (g := (mkF m 6 #[.val (.ref a1)] [(.int (0 : Int32)), (.ref a1)])) rfl rfl (hb hby d9_6)
  refine Go.step st3 ?_
  have N3 := Fr.snoc X3 N2 g_a1
  have E_a1_3 := E_a1.wr W3
  have F_elementData_a1_3 := F_elementData_a1.other W3 (Or.inr (slot_ne (Or.inl (hw _ (List.mem_of_getElem? (i := 60) rfl))) (Or.inl (hw _ (List.mem_of_getElem? (i := 57) rfl))) (by decide) (t := (.array (.object "java/lang/Object"))) (t' := .int) (by decide) (by decide)))
  have Z3 := Nat.le_trans Z0 (Keep.of_wr W3).1
  have KK3 : Keep h0 h3 [a1] := KK0.wr W3 (Or.inl (by simp))
  clear E_a1 F_elementData_a1 Z0 KK0
  have F_modCount_a1_3 := F_modCount_a1.same W3
  show Go p e below _ (T3.setTop (mkF m 9 #[.val (.ref a1)] []))
  refine retGV X3 hx Bd.notSynchronized Bd.returns (hb hby d9_9) ?_ (by decide) (by decide)
  show Q9 Z a1 u_elementData_a1 u_modCount_a1 h0 n0 _ T3.heap _
  rw [e3]
  exact ⟨rfl, N3, KK3, E_a1_3, F_elementData_a1_3, F_modCount_a1_3⟩
theorem d8_0 : decode jdk_38_method_2_code 0 = .ok (.aload_n 0, 1) := by decide +kernel
theorem d8_1 : decode jdk_38_method_2_code 1 = .ok (.invokespecial 1, 3) := by decide +kernel
theorem d8_4 : decode jdk_38_method_2_code 4 = .ok (.aload_n 0, 1) := by decide +kernel
theorem d8_5 : decode jdk_38_method_2_code 5 = .ok (.getstatic 39, 3) := by decide +kernel
theorem d8_8 : decode jdk_38_method_2_code 8 = .ok (.putfield 9, 3) := by decide +kernel
theorem d8_11 : decode jdk_38_method_2_code 11 = .ok (.return_, 1) := by decide +kernel
theorem ef_8 (m : MethodId) (a1 : Addr) : entryFrame m #[(.ref a1)] 1 = mkF m 0 #[.val (.ref a1)] [] := by first | (simp [entryFrame, mkF, argsToLocals, Value.category]; done) | rfl
theorem pn_4 : plainName "java/util/ArrayList" = true := by first | (simp [plainName, overriddenIn]; done) | decide +kernel
def Q8 (Z : State) (a1 : Addr) (u_elementData_a1 : Value) (u_modCount_a1 : Value) (oD : Addr) (h0 : Heap) (n0 : Nat) (v : Option Value) (h : Heap) (L : List Loc) : Prop := v = none ∧ Fr n0 L ∧ Keep h0 h [a1] ∧ Exa Z h a1 "java/util/ArrayList" ∧ Fld Z h a1 "java/util/ArrayList" "elementData" "[Ljava/lang/Object;" (.ref oD) ∧ Fld Z h a1 "java/util/AbstractList" "modCount" "I" (.int (0 : Int32))
set_option maxRecDepth 65536 in
set_option maxHeartbeats 40000000 in
theorem rm8 (l : Launch) (Z : State) (a0 : Array Value) (hw : ∀ d ∈ tables_1, d.before a0 Z = true) (ws : List Jvm.Cond) (a1 : Addr) (u_elementData_a1 : Value) (u_modCount_a1 : Value) (oD : Addr) (h0 : Heap) (n0 : Nat) (Z0 : n0 ≤ h0.size) (hO : Old Z n0 h0) (E_a1 : Exa Z h0 a1 "java/util/ArrayList") (F_elementData_a1 : Fld Z h0 a1 "java/util/ArrayList" "elementData" "[Ljava/lang/Object;" u_elementData_a1) (F_modCount_a1 : Fld Z h0 a1 "java/util/AbstractList" "modCount" "I" u_modCount_a1) (g_a1 : n0 ≤ a1) (S_DEFAULTCAPACITY_EMPTY_ELEMENTDATA : Sta Z Z.heap "java/util/ArrayList" "DEFAULTCAPACITY_EMPTY_ELEMENTDATA" "[Ljava/lang/Object;" (.ref oD)) :
    MetFree l (⟨"java/util/ArrayList", "<init>", "()V"⟩ : MethodName) (head1 (Jvm.Cond.code (⟨"java/util/ArrayList", "<init>", "()V"⟩ : MethodName) jdk_38_method_2_code 1 none :: ws) ({ frames := 3, cells := 0, slots := 0, locals := 36 } : Room)) (fun a U => a = #[(.ref a1)] ∧ Z.Warmed39 U.vm ∧ U.heap = h0) (fun _ _ _ _ _ => True) (fun _ U o U' => ∃ v L, o = .returned v ∧ Q8 Z a1 u_elementData_a1 u_modCount_a1 oD h0 n0 v U'.heap L ∧ FrameEnd U o U' L ({ frames := 3, cells := 0, slots := 0, locals := 36 } : Room).cells ({ frames := 3, cells := 0, slots := 0, locals := 36 } : Room).slots) := by
  refine MetFree.of_bodySF (plainFor_of_name pn_4) hisR ?_
  intro p e s m args below meth c s₁ Bd hml0 hP hK
  obtain ⟨rfl, hZ, hh⟩ := hP
  have hx := Bd.exec
  have hby := Bd.bytes
  have hml : c.maxLocals = 1 := hml0
  have hown : s.vm.findClass "java/util/ArrayList" = some m.cls := findClass_of_methodNamed Bd.named
  have hnm := (name_of_methodNamed Bd.named Bd.method).1
  have X0 : Stand p l e ({ frames := 3, cells := 0, slots := 0, locals := 36 } : Room) s m #[(.ref a1)] below meth c s₁ [] 0 0 := Stand.of_body Bd
  have e0 : s₁.heap = h0 := by rw [← hh, Bd.state]; rfl
  have N0 := Fr.nil n0
  refine Go.done (Go.step (fun t k => castTop (ef_8 m a1) k) ?_)
  have KK0 : Keep h0 h0 [a1] := Keep.refl _ _
  show Go p e below _ (s₁.setTop (mkF m 0 #[.val (.ref a1)] []))
  refine Go.step (fun t k => XS.aloadN X0.here hx rfl (hb hby d8_0) rfl rfl k) ?_
  show Go p e below _ (s₁.setTop (mkF m 1 #[.val (.ref a1)] [(.ref a1)]))
  obtain ⟨_, _, ⟨T2, L2, k2, n2⟩, -, X2, ⟨Lc2, hQ2, l2, y2, z2⟩, st2⟩ := X0.specialBack hx (y := (⟨"java/util/AbstractList", "<init>", "()V"⟩ : MethodName)) rfl hown (mvT hZ (hw _ (List.mem_of_getElem? (i := 43) rfl))) (mvT hZ (hw _ (List.mem_of_getElem? (i := 44) rfl))) (mvT hZ (hw _ (List.mem_of_getElem? (i := 48) rfl))) (by decide) (backOf (W := 0) (rm9 l Z a0 hw [] a1 u_elementData_a1 u_modCount_a1 h0 n0 Z0 E_a1 F_elementData_a1 F_modCount_a1 g_a1) hZ (hw _ (List.mem_of_getElem? (i := 48) rfl)) (hw _ (List.mem_of_getElem? (i := 47) rfl)) (by decide) (by decide)) (g := (mkF m 1 #[.val (.ref a1)] [(.ref a1)])) rfl (by rw [hml]; rfl) (Steps.refl _) (a := a1) (argsL := []) (rest := []) (lenOf pd_4 rfl) rfl (by show 2 * 0 + _ ≤ _; exact Nat.le_of_eq rfl) (hb hby d8_1) (fun _ _ => ⟨rfl, e0, (by decide : 0 + 0 ≤ _), (by decide : 0 + 0 ≤ _)⟩)
  dsimp only [Pt.U, Pt.locs, Pt.cells, Pt.slots] at X2 l2 y2 z2 st2 hQ2
  replace y2 : k2 = 0 := y2
  replace z2 : n2 = 0 := z2
  subst y2 z2
  obtain ⟨rfl, N2q, K2, Q2_0, Q2_1, Q2_2⟩ := hQ2
  have N2 : Fr n0 L2 := Eq.mpr (congrArg (Fr n0) l2) (Fr.app N0 N2q)
  have E_a1_2 := E_a1.keep K2
  have O2 := hO.keep K2 (allS g_a1 all0)
  have Z2 := Nat.le_trans Z0 K2.1
  have KK2 : Keep h0 T2.heap [a1] := KK0.trans K2 (allS (Or.inl (by simp)) all0)
  clear E_a1 hO Z0 KK0 K2
  refine Go.trans st2 ?_
  show Go p e below _ (T2.setTop (mkF m 4 #[.val (.ref a1)] []))
  refine Go.step (fun t k => XS.aloadN X2.here hx rfl (hb hby d8_4) rfl rfl k) ?_
  show Go p e below _ (T2.setTop (mkF m 5 #[.val (.ref a1)] [(.ref a1)]))
  obtain ⟨T3, X3, e3, st3⟩ := getS2 X2 hx hZ hown (host := "") (Or.inl (hw _ (List.mem_of_getElem? (i := 58) rfl))) Via.refl rfl (S_DEFAULTCAPACITY_EMPTY_ELEMENTDATA.ext O2.2) (g := (mkF m 5 #[.val (.ref a1)] [(.ref a1)])) rfl (hb hby d8_5)
  refine Go.step st3 ?_
  show Go p e below _ (T3.setTop (mkF m 8 #[.val (.ref a1)] [(.ref oD), (.ref a1)]))
  obtain ⟨T4, h4, X4, e4, W4, st4⟩ := putF X3 hx hZ hown (host := "") (Or.inl (hw _ (List.mem_of_getElem? (i := 59) rfl))) Via.refl e3 Q2_1 Q2_0 (Or.inl (hw _ (List.mem_of_getElem? (i := 60) rfl))) (hw _ (List.mem_of_getElem? (i := 38) rfl)) (ty := (.array (.object "java/lang/Object"))) (by decide) rfl rfl (g := (mkF m 8 #[.val (.ref a1)] [(.ref oD), (.ref a1)])) rfl rfl (hb hby d8_8)
  refine Go.step st4 ?_
  have N4 := Fr.snoc X4 N2 g_a1
  have E_a1_4 := Q2_0.wr W4
  have F_modCount_a1_4 := Q2_2.other W4 (Or.inr (slot_ne (Or.inl (hw _ (List.mem_of_getElem? (i := 57) rfl))) (Or.inl (hw _ (List.mem_of_getElem? (i := 60) rfl))) (by decide) (t := .int) (t' := (.array (.object "java/lang/Object"))) (by decide) (by decide)))
  have O4 := O2.wr W4 g_a1
  have Z4 := Nat.le_trans Z2 (Keep.of_wr W4).1
  have KK4 : Keep h0 h4 [a1] := KK2.wr W4 (Or.inl (by simp))
  clear Q2_0 Q2_2 O2 Z2 KK2
  have F_elementData_a1_4 := Q2_1.same W4
  show Go p e below _ (T4.setTop (mkF m 11 #[.val (.ref a1)] []))
  refine retGV X4 hx Bd.notSynchronized Bd.returns (hb hby d8_11) ?_ (by decide) (by decide)
  show Q8 Z a1 u_elementData_a1 u_modCount_a1 oD h0 n0 _ T4.heap _
  rw [e4]
  exact ⟨rfl, N4, KK4, E_a1_4, F_elementData_a1_4, F_modCount_a1_4⟩
theorem d7_0 : decode prog_109_method_1_code 0 = .ok (.aload_n 0, 1) := by decide +kernel
theorem d7_1 : decode prog_109_method_1_code 1 = .ok (.invokespecial 1, 3) := by decide +kernel
theorem d7_4 : decode prog_109_method_1_code 4 = .ok (.aload_n 0, 1) := by decide +kernel
theorem d7_5 : decode prog_109_method_1_code 5 = .ok (.new 7, 3) := by decide +kernel
theorem d7_8 : decode prog_109_method_1_code 8 = .ok (.dup, 1) := by decide +kernel
theorem d7_9 : decode prog_109_method_1_code 9 = .ok (.invokespecial 9, 3) := by decide +kernel
theorem d7_12 : decode prog_109_method_1_code 12 = .ok (.putfield 10, 3) := by decide +kernel
theorem d7_15 : decode prog_109_method_1_code 15 = .ok (.aload_n 0, 1) := by decide +kernel
theorem d7_16 : decode prog_109_method_1_code 16 = .ok (.new 7, 3) := by decide +kernel
theorem d7_19 : decode prog_109_method_1_code 19 = .ok (.dup, 1) := by decide +kernel
theorem d7_20 : decode prog_109_method_1_code 20 = .ok (.invokespecial 9, 3) := by decide +kernel
theorem d7_23 : decode prog_109_method_1_code 23 = .ok (.putfield 16, 3) := by decide +kernel
theorem d7_26 : decode prog_109_method_1_code 26 = .ok (.aload_n 0, 1) := by decide +kernel
theorem d7_27 : decode prog_109_method_1_code 27 = .ok (.aload_n 1, 1) := by decide +kernel
theorem d7_28 : decode prog_109_method_1_code 28 = .ok (.putfield 19, 3) := by decide +kernel
theorem d7_31 : decode prog_109_method_1_code 31 = .ok (.return_, 1) := by decide +kernel
theorem ef_7 (m : MethodId) (a1 : Addr) (a2 : Addr) : entryFrame m #[(.ref a1), (.ref a2)] 2 = mkF m 0 #[.val (.ref a1), .val (.ref a2)] [] := by first | (simp [entryFrame, mkF, argsToLocals, Value.category]; done) | rfl
theorem pn_5 : plainName "com/example/dataflow_to_dispatch/dataflowtodispatch/model/document/XmlElement" = true := by first | (simp [plainName, overriddenIn]; done) | decide +kernel
def Q7 (Z : State) (a1 : Addr) (a2 : Addr) (u_parent_a1 : Value) (u_previous_a1 : Value) (u_next_a1 : Value) (u_firstChild_a1 : Value) (u_lastChild_a1 : Value) (u_attributes_a1 : Value) (u_texts_a1 : Value) (u_name_a1 : Value) (oD : Addr) (h0 : Heap) (n0 : Nat) (v : Option Value) (h : Heap) (L : List Loc) : Prop := v = none ∧ Fr n0 L ∧ Keep h0 h [a1] ∧ Fld Z h a1 "com/example/dataflow_to_dispatch/dataflowtodispatch/model/document/XmlElement" "parent" "Lcom/example/dataflow_to_dispatch/dataflowtodispatch/model/document/XmlElement;" u_parent_a1 ∧ Fld Z h a1 "com/example/dataflow_to_dispatch/dataflowtodispatch/model/document/XmlElement" "previous" "Lcom/example/dataflow_to_dispatch/dataflowtodispatch/model/document/XmlElement;" u_previous_a1 ∧ Fld Z h a1 "com/example/dataflow_to_dispatch/dataflowtodispatch/model/document/XmlElement" "next" "Lcom/example/dataflow_to_dispatch/dataflowtodispatch/model/document/XmlElement;" u_next_a1 ∧ Fld Z h a1 "com/example/dataflow_to_dispatch/dataflowtodispatch/model/document/XmlElement" "firstChild" "Lcom/example/dataflow_to_dispatch/dataflowtodispatch/model/document/XmlElement;" u_firstChild_a1 ∧ Fld Z h a1 "com/example/dataflow_to_dispatch/dataflowtodispatch/model/document/XmlElement" "lastChild" "Lcom/example/dataflow_to_dispatch/dataflowtodispatch/model/document/XmlElement;" u_lastChild_a1 ∧ Exa Z h a1 "com/example/dataflow_to_dispatch/dataflowtodispatch/model/document/XmlElement" ∧ Fld Z h a1 "com/example/dataflow_to_dispatch/dataflowtodispatch/model/document/XmlElement" "name" "Ljava/lang/String;" (.ref a2)
set_option maxRecDepth 65536 in
set_option maxHeartbeats 40000000 in
theorem rm7 (l : Launch) (Z : State) (a0 : Array Value) (hw : ∀ d ∈ tables_1, d.before a0 Z = true) (ws : List Jvm.Cond) (a1 : Addr) (a2 : Addr) (u_parent_a1 : Value) (u_previous_a1 : Value) (u_next_a1 : Value) (u_firstChild_a1 : Value) (u_lastChild_a1 : Value) (u_attributes_a1 : Value) (u_texts_a1 : Value) (u_name_a1 : Value) (oD : Addr) (h0 : Heap) (n0 : Nat) (Z0 : n0 ≤ h0.size) (F_parent_a1 : Fld Z h0 a1 "com/example/dataflow_to_dispatch/dataflowtodispatch/model/document/XmlElement" "parent" "Lcom/example/dataflow_to_dispatch/dataflowtodispatch/model/document/XmlElement;" u_parent_a1) (F_previous_a1 : Fld Z h0 a1 "com/example/dataflow_to_dispatch/dataflowtodispatch/model/document/XmlElement" "previous" "Lcom/example/dataflow_to_dispatch/dataflowtodispatch/model/document/XmlElement;" u_previous_a1) (F_next_a1 : Fld Z h0 a1 "com/example/dataflow_to_dispatch/dataflowtodispatch/model/document/XmlElement" "next" "Lcom/example/dataflow_to_dispatch/dataflowtodispatch/model/document/XmlElement;" u_next_a1) (F_firstChild_a1 : Fld Z h0 a1 "com/example/dataflow_to_dispatch/dataflowtodispatch/model/document/XmlElement" "firstChild" "Lcom/example/dataflow_to_dispatch/dataflowtodispatch/model/document/XmlElement;" u_firstChild_a1) (F_lastChild_a1 : Fld Z h0 a1 "com/example/dataflow_to_dispatch/dataflowtodispatch/model/document/XmlElement" "lastChild" "Lcom/example/dataflow_to_dispatch/dataflowtodispatch/model/document/XmlElement;" u_lastChild_a1) (hO : Old Z n0 h0) (E_a1 : Exa Z h0 a1 "com/example/dataflow_to_dispatch/dataflowtodispatch/model/document/XmlElement") (F_attributes_a1 : Fld Z h0 a1 "com/example/dataflow_to_dispatch/dataflowtodispatch/model/document/XmlElement" "attributes" "Ljava/util/List;" u_attributes_a1) (F_texts_a1 : Fld Z h0 a1 "com/example/dataflow_to_dispatch/dataflowtodispatch/model/document/XmlElement" "texts" "Ljava/util/List;" u_texts_a1) (F_name_a1 : Fld Z h0 a1 "com/example/dataflow_to_dispatch/dataflowtodispatch/model/document/XmlElement" "name" "Ljava/lang/String;" u_name_a1) (S_DEFAULTCAPACITY_EMPTY_ELEMENTDATA : Sta Z Z.heap "java/util/ArrayList" "DEFAULTCAPACITY_EMPTY_ELEMENTDATA" "[Ljava/lang/Object;" (.ref oD)) (g_a1 : n0 ≤ a1) :
    MetFree l (⟨"com/example/dataflow_to_dispatch/dataflowtodispatch/model/document/XmlElement", "<init>", "(Ljava/lang/String;)V"⟩ : MethodName) (head1 (Jvm.Cond.code (⟨"com/example/dataflow_to_dispatch/dataflowtodispatch/model/document/XmlElement", "<init>", "(Ljava/lang/String;)V"⟩ : MethodName) prog_109_method_1_code 2 none :: ws) ({ frames := 4, cells := 2, slots := 6, locals := 50 } : Room)) (fun a U => a = #[(.ref a1), (.ref a2)] ∧ Z.Warmed39 U.vm ∧ U.heap = h0) (fun _ _ _ _ _ => True) (fun _ U o U' => ∃ v L, o = .returned v ∧ Q7 Z a1 a2 u_parent_a1 u_previous_a1 u_next_a1 u_firstChild_a1 u_lastChild_a1 u_attributes_a1 u_texts_a1 u_name_a1 oD h0 n0 v U'.heap L ∧ FrameEnd U o U' L ({ frames := 4, cells := 2, slots := 6, locals := 50 } : Room).cells ({ frames := 4, cells := 2, slots := 6, locals := 50 } : Room).slots) := by
  refine MetFree.of_bodySF (plainFor_of_name pn_5) hisR ?_
  intro p e s m args below meth c s₁ Bd hml0 hP hK
  obtain ⟨rfl, hZ, hh⟩ := hP
  have hx := Bd.exec
  have hby := Bd.bytes
  have hml : c.maxLocals = 2 := hml0
  have hown : s.vm.findClass "com/example/dataflow_to_dispatch/dataflowtodispatch/model/document/XmlElement" = some m.cls := findClass_of_methodNamed Bd.named
  have hnm := (name_of_methodNamed Bd.named Bd.method).1
  have X0 : Stand p l e ({ frames := 4, cells := 2, slots := 6, locals := 50 } : Room) s m #[(.ref a1), (.ref a2)] below meth c s₁ [] 0 0 := Stand.of_body Bd
  have e0 : s₁.heap = h0 := by rw [← hh, Bd.state]; rfl
  have N0 := Fr.nil n0
  refine Go.done (Go.step (fun t k => castTop (ef_7 m a1 a2) k) ?_)
  have KK0 : Keep h0 h0 [a1] := Keep.refl _ _
  show Go p e below _ (s₁.setTop (mkF m 0 #[.val (.ref a1), .val (.ref a2)] []))
  refine Go.step (fun t k => XS.aloadN X0.here hx rfl (hb hby d7_0) rfl rfl k) ?_
  show Go p e below _ (s₁.setTop (mkF m 1 #[.val (.ref a1), .val (.ref a2)] [(.ref a1)]))
  obtain ⟨T3, X3, e3, st3⟩ := initO X0 hx hZ hown (hw _ (List.mem_of_getElem? (i := 36) rfl)) (hw _ (List.mem_of_getElem? (i := 15) rfl)) (hw _ (List.mem_of_getElem? (i := 16) rfl)) e0 (g := (mkF m 1 #[.val (.ref a1), .val (.ref a2)] [(.ref a1)])) rfl (by rw [hml]; rfl) rfl (hb hby d7_1) (by decide) (W := 0) (by show 2 * 0 + _ ≤ _; exact Nat.le_of_eq rfl) (by decide)
  refine Go.step st3 ?_
  show Go p e below _ (T3.setTop (mkF m 4 #[.val (.ref a1), .val (.ref a2)] []))
  refine Go.step (fun t k => XS.aloadN X3.here hx rfl (hb hby d7_4) rfl rfl k) ?_
  show Go p e below _ (T3.setTop (mkF m 5 #[.val (.ref a1), .val (.ref a2)] [(.ref a1)]))
  obtain ⟨T4, h4, X4, e4, E4, A4, D4, -, st4⟩ := newO X3 hx hZ hown (hw _ (List.mem_of_getElem? (i := 37) rfl)) (hw _ (List.mem_of_getElem? (i := 38) rfl)) (hw _ (List.mem_of_getElem? (i := 39) rfl)) e3 (g := (mkF m 5 #[.val (.ref a1), .val (.ref a2)] [(.ref a1)])) rfl (hb hby d7_5) (by decide) (by decide)
  obtain ⟨b4, g4⟩ : ∃ z, z = h0.size := ⟨_, rfl⟩
  rw [← g4] at A4 D4 st4
  have g_b4 : n0 ≤ b4 := Nat.le_trans Z0 (Nat.le_of_eq g4.symm)
  have sz_b4 : h0.size ≤ b4 := Nat.le_trans KK0.1 (Nat.le_of_eq g4.symm)
  have ne_a1_b4 : a1 ≠ b4 := Nat.ne_of_lt (Nat.lt_of_lt_of_le F_parent_a1.lt (Nat.le_of_eq g4.symm))
  refine Go.step st4 ?_
  have F_parent_a1_4 := F_parent_a1.ext E4
  have F_previous_a1_4 := F_previous_a1.ext E4
  have F_next_a1_4 := F_next_a1.ext E4
  have F_firstChild_a1_4 := F_firstChild_a1.ext E4
  have F_lastChild_a1_4 := F_lastChild_a1.ext E4
  have E_a1_4 := E_a1.ext E4
  have F_attributes_a1_4 := F_attributes_a1.ext E4
  have F_texts_a1_4 := F_texts_a1.ext E4
  have F_name_a1_4 := F_name_a1.ext E4
  have O4 := hO.ext E4
  have Z4 := Nat.le_trans Z0 E4.1
  have KK4 : Keep h0 h4 [a1] := KK0.ext E4
  clear F_parent_a1 F_previous_a1 F_next_a1 F_firstChild_a1 F_lastChild_a1 E_a1 F_attributes_a1 F_texts_a1 F_name_a1 hO Z0 KK0 E4
  have F_modCount_b4 : Fld Z h4 b4 "java/util/AbstractList" "modCount" "I" (.int (0 : Int32)) := D4 (Or.inl (hw _ (List.mem_of_getElem? (i := 57) rfl))) (ty := .int) (by decide)
  have F_elementData_b4 : Fld Z h4 b4 "java/util/ArrayList" "elementData" "[Ljava/lang/Object;" .null := D4 (Or.inl (hw _ (List.mem_of_getElem? (i := 60) rfl))) (ty := (.array (.object "java/lang/Object"))) (by decide)
  replace X4 : Stand p l e ({ frames := 4, cells := 2, slots := 6, locals := 50 } : Room) s m #[(.ref a1), (.ref a2)] below meth c T4 _ 1 3 := X4
  show Go p e below _ (T4.setTop (mkF m 8 #[.val (.ref a1), .val (.ref a2)] [(.ref b4), (.ref a1)]))
  refine Go.step (fun t k => XS.dup X4.here hx rfl (hb hby d7_8) rfl rfl k) ?_
  show Go p e below _ (T4.setTop (mkF m 9 #[.val (.ref a1), .val (.ref a2)] [(.ref b4), (.ref b4), (.ref a1)]))
  obtain ⟨_, _, ⟨T5, L5, k5, n5⟩, -, X5, ⟨Lc5, hQ5, l5, y5, z5⟩, st5⟩ := X4.specialBack hx (y := (⟨"java/util/ArrayList", "<init>", "()V"⟩ : MethodName)) rfl hown (mvT hZ (hw _ (List.mem_of_getElem? (i := 40) rfl))) (mvT hZ (hw _ (List.mem_of_getElem? (i := 41) rfl))) (mvT hZ (hw _ (List.mem_of_getElem? (i := 42) rfl))) (by decide) (backOf (W := 2) (rm8 l Z a0 hw [] b4 .null (.int (0 : Int32)) oD h4 n0 Z4 O4 A4 F_elementData_b4 F_modCount_b4 g_b4 S_DEFAULTCAPACITY_EMPTY_ELEMENTDATA) hZ (hw _ (List.mem_of_getElem? (i := 42) rfl)) (hw _ (List.mem_of_getElem? (i := 39) rfl)) (by decide) (by decide)) (g := (mkF m 9 #[.val (.ref a1), .val (.ref a2)] [(.ref b4), (.ref b4), (.ref a1)])) rfl (by rw [hml]; rfl) (Steps.refl _) (a := b4) (argsL := []) (rest := [(.ref b4), (.ref a1)]) (lenOf pd_4 rfl) rfl (by show 2 * 0 + _ ≤ _; exact Nat.le_of_eq rfl) (hb hby d7_9) (fun _ _ => ⟨rfl, e4, (by decide : 1 + 0 ≤ _), (by decide : 3 + 0 ≤ _)⟩)
  dsimp only [Pt.U, Pt.locs, Pt.cells, Pt.slots] at X5 l5 y5 z5 st5 hQ5
  replace y5 : k5 = 1 := y5
  replace z5 : n5 = 3 := z5
  subst y5 z5
  obtain ⟨rfl, N5q, K5, Q5_0, Q5_1, Q5_2⟩ := hQ5
  have N5 : Fr n0 L5 := Eq.mpr (congrArg (Fr n0) l5) (Fr.app N0 N5q)
  have F_parent_a1_5 := F_parent_a1_4.keep K5 (ninS ne_a1_b4 nin0)
  have F_previous_a1_5 := F_previous_a1_4.keep K5 (ninS ne_a1_b4 nin0)
  have F_next_a1_5 := F_next_a1_4.keep K5 (ninS ne_a1_b4 nin0)
  have F_firstChild_a1_5 := F_firstChild_a1_4.keep K5 (ninS ne_a1_b4 nin0)
  have F_lastChild_a1_5 := F_lastChild_a1_4.keep K5 (ninS ne_a1_b4 nin0)
  have E_a1_5 := E_a1_4.keep K5
  have F_attributes_a1_5 := F_attributes_a1_4.keep K5 (ninS ne_a1_b4 nin0)
  have F_texts_a1_5 := F_texts_a1_4.keep K5 (ninS ne_a1_b4 nin0)
  have F_name_a1_5 := F_name_a1_4.keep K5 (ninS ne_a1_b4 nin0)
  have E_b4_5 := A4.keep K5
  have O5 := O4.keep K5 (allS g_b4 all0)
  have Z5 := Nat.le_trans Z4 K5.1
  have KK5 : Keep h0 T5.heap [a1] := KK4.trans K5 (allS (Or.inr sz_b4) all0)
  clear F_parent_a1_4 F_previous_a1_4 F_next_a1_4 F_firstChild_a1_4 F_lastChild_a1_4 E_a1_4 F_attributes_a1_4 F_texts_a1_4 F_name_a1_4 A4 O4 Z4 KK4 K5
  refine Go.trans st5 ?_
  show Go p e below _ (T5.setTop (mkF m 12 #[.val (.ref a1), .val (.ref a2)] [(.ref b4), (.ref a1)]))
  obtain ⟨T6, h6, X6, e6, W6, st6⟩ := putF X5 hx hZ hown (host := "") (Or.inl (hw _ (List.mem_of_getElem? (i := 61) rfl))) Via.refl rfl F_attributes_a1_5 E_a1_5 (Or.inr ⟨(hw _ (List.mem_of_getElem? (i := 62) rfl)), rfl, hnm⟩) (hw _ (List.mem_of_getElem? (i := 1) rfl)) (ty := (.object "java/util/List")) (by decide) rfl rfl (g := (mkF m 12 #[.val (.ref a1), .val (.ref a2)] [(.ref b4), (.ref a1)])) rfl rfl (hb hby d7_12)
  refine Go.step st6 ?_
  have N6 := Fr.snoc X6 N5 g_a1
  have F_parent_a1_6 := F_parent_a1_5.other W6 (Or.inr (slot_ne (Or.inl (hw _ (List.mem_of_getElem? (i := 79) rfl))) (Or.inr (hw _ (List.mem_of_getElem? (i := 62) rfl))) (by decide) (t := (.object "com/example/dataflow_to_dispatch/dataflowtodispatch/model/document/XmlElement")) (t' := (.object "java/util/List")) (by decide) (by decide)))
  have F_previous_a1_6 := F_previous_a1_5.other W6 (Or.inr (slot_ne (Or.inl (hw _ (List.mem_of_getElem? (i := 81) rfl))) (Or.inr (hw _ (List.mem_of_getElem? (i := 62) rfl))) (by decide) (t := (.object "com/example/dataflow_to_dispatch/dataflowtodispatch/model/document/XmlElement")) (t' := (.object "java/util/List")) (by decide) (by decide)))
  have F_next_a1_6 := F_next_a1_5.other W6 (Or.inr (slot_ne (Or.inl (hw _ (List.mem_of_getElem? (i := 85) rfl))) (Or.inr (hw _ (List.mem_of_getElem? (i := 62) rfl))) (by decide) (t := (.object "com/example/dataflow_to_dispatch/dataflowtodispatch/model/document/XmlElement")) (t' := (.object "java/util/List")) (by decide) (by decide)))
  have F_firstChild_a1_6 := F_firstChild_a1_5.other W6 (Or.inr (slot_ne (Or.inl (hw _ (List.mem_of_getElem? (i := 83) rfl))) (Or.inr (hw _ (List.mem_of_getElem? (i := 62) rfl))) (by decide) (t := (.object "com/example/dataflow_to_dispatch/dataflowtodispatch/model/document/XmlElement")) (t' := (.object "java/util/List")) (by decide) (by decide)))
  have F_lastChild_a1_6 := F_lastChild_a1_5.other W6 (Or.inr (slot_ne (Or.inl (hw _ (List.mem_of_getElem? (i := 73) rfl))) (Or.inr (hw _ (List.mem_of_getElem? (i := 62) rfl))) (by decide) (t := (.object "com/example/dataflow_to_dispatch/dataflowtodispatch/model/document/XmlElement")) (t' := (.object "java/util/List")) (by decide) (by decide)))
  have E_a1_6 := E_a1_5.wr W6
  have F_texts_a1_6 := F_texts_a1_5.other W6 (Or.inr (slot_ne (Or.inr (hw _ (List.mem_of_getElem? (i := 64) rfl))) (Or.inr (hw _ (List.mem_of_getElem? (i := 62) rfl))) (by decide) (t := (.object "java/util/List")) (t' := (.object "java/util/List")) (by decide) (by decide)))
  have F_name_a1_6 := F_name_a1_5.other W6 (Or.inr (slot_ne (Or.inr (hw _ (List.mem_of_getElem? (i := 66) rfl))) (Or.inr (hw _ (List.mem_of_getElem? (i := 62) rfl))) (by decide) (t := (.object "java/lang/String")) (t' := (.object "java/util/List")) (by decide) (by decide)))
  have E_b4_6 := Q5_0.wr W6
  have F_elementData_b4_6 := Q5_1.other W6 (Or.inl (Ne.symm ne_a1_b4))
  have F_modCount_b4_6 := Q5_2.other W6 (Or.inl (Ne.symm ne_a1_b4))
  have O6 := O5.wr W6 g_a1
  have Z6 := Nat.le_trans Z5 (Keep.of_wr W6).1
  have KK6 : Keep h0 h6 [a1] := KK5.wr W6 (Or.inl (by simp))
  clear F_parent_a1_5 F_previous_a1_5 F_next_a1_5 F_firstChild_a1_5 F_lastChild_a1_5 E_a1_5 F_texts_a1_5 F_name_a1_5 Q5_0 Q5_1 Q5_2 O5 Z5 KK5
  have F_attributes_a1_6 := F_attributes_a1_5.same W6
  show Go p e below _ (T6.setTop (mkF m 15 #[.val (.ref a1), .val (.ref a2)] []))
  refine Go.step (fun t k => XS.aloadN X6.here hx rfl (hb hby d7_15) rfl rfl k) ?_
  show Go p e below _ (T6.setTop (mkF m 16 #[.val (.ref a1), .val (.ref a2)] [(.ref a1)]))
  obtain ⟨T7, h7, X7, e7, E7, A7, D7, -, st7⟩ := newO X6 hx hZ hown (hw _ (List.mem_of_getElem? (i := 37) rfl)) (hw _ (List.mem_of_getElem? (i := 38) rfl)) (hw _ (List.mem_of_getElem? (i := 39) rfl)) e6 (g := (mkF m 16 #[.val (.ref a1), .val (.ref a2)] [(.ref a1)])) rfl (hb hby d7_16) (by decide) (by decide)
  obtain ⟨b7, g7⟩ : ∃ z, z = h6.size := ⟨_, rfl⟩
  rw [← g7] at A7 D7 st7
  have g_b7 : n0 ≤ b7 := Nat.le_trans Z6 (Nat.le_of_eq g7.symm)
  have sz_b7 : h0.size ≤ b7 := Nat.le_trans KK6.1 (Nat.le_of_eq g7.symm)
  have ne_a1_b7 : a1 ≠ b7 := Nat.ne_of_lt (Nat.lt_of_lt_of_le F_parent_a1_6.lt (Nat.le_of_eq g7.symm))
  have ne_b4_b7 : b4 ≠ b7 := Nat.ne_of_lt (Nat.lt_of_lt_of_le E_b4_6.lt (Nat.le_of_eq g7.symm))
  refine Go.step st7 ?_
  have F_parent_a1_7 := F_parent_a1_6.ext E7
  have F_previous_a1_7 := F_previous_a1_6.ext E7
  have F_next_a1_7 := F_next_a1_6.ext E7
  have F_firstChild_a1_7 := F_firstChild_a1_6.ext E7
  have F_lastChild_a1_7 := F_lastChild_a1_6.ext E7
  have E_a1_7 := E_a1_6.ext E7
  have F_attributes_a1_7 := F_attributes_a1_6.ext E7
  have F_texts_a1_7 := F_texts_a1_6.ext E7
  have F_name_a1_7 := F_name_a1_6.ext E7
  have E_b4_7 := E_b4_6.ext E7
  have F_elementData_b4_7 := F_elementData_b4_6.ext E7
  have F_modCount_b4_7 := F_modCount_b4_6.ext E7
  have O7 := O6.ext E7
  have Z7 := Nat.le_trans Z6 E7.1
  have KK7 : Keep h0 h7 [a1] := KK6.ext E7
  clear F_parent_a1_6 F_previous_a1_6 F_next_a1_6 F_firstChild_a1_6 F_lastChild_a1_6 E_a1_6 F_attributes_a1_6 F_texts_a1_6 F_name_a1_6 E_b4_6 F_elementData_b4_6 F_modCount_b4_6 O6 Z6 KK6 E7
  have F_modCount_b7 : Fld Z h7 b7 "java/util/AbstractList" "modCount" "I" (.int (0 : Int32)) := D7 (Or.inl (hw _ (List.mem_of_getElem? (i := 57) rfl))) (ty := .int) (by decide)
  have F_elementData_b7 : Fld Z h7 b7 "java/util/ArrayList" "elementData" "[Ljava/lang/Object;" .null := D7 (Or.inl (hw _ (List.mem_of_getElem? (i := 60) rfl))) (ty := (.array (.object "java/lang/Object"))) (by decide)
  replace X7 : Stand p l e ({ frames := 4, cells := 2, slots := 6, locals := 50 } : Room) s m #[(.ref a1), (.ref a2)] below meth c T7 _ 2 6 := X7
  show Go p e below _ (T7.setTop (mkF m 19 #[.val (.ref a1), .val (.ref a2)] [(.ref b7), (.ref a1)]))
  refine Go.step (fun t k => XS.dup X7.here hx rfl (hb hby d7_19) rfl rfl k) ?_
  show Go p e below _ (T7.setTop (mkF m 20 #[.val (.ref a1), .val (.ref a2)] [(.ref b7), (.ref b7), (.ref a1)]))
  obtain ⟨_, _, ⟨T8, L8, k8, n8⟩, -, X8, ⟨Lc8, hQ8, l8, y8, z8⟩, st8⟩ := X7.specialBack hx (y := (⟨"java/util/ArrayList", "<init>", "()V"⟩ : MethodName)) rfl hown (mvT hZ (hw _ (List.mem_of_getElem? (i := 40) rfl))) (mvT hZ (hw _ (List.mem_of_getElem? (i := 41) rfl))) (mvT hZ (hw _ (List.mem_of_getElem? (i := 42) rfl))) (by decide) (backOf (W := 2) (rm8 l Z a0 hw [] b7 .null (.int (0 : Int32)) oD h7 n0 Z7 O7 A7 F_elementData_b7 F_modCount_b7 g_b7 S_DEFAULTCAPACITY_EMPTY_ELEMENTDATA) hZ (hw _ (List.mem_of_getElem? (i := 42) rfl)) (hw _ (List.mem_of_getElem? (i := 39) rfl)) (by decide) (by decide)) (g := (mkF m 20 #[.val (.ref a1), .val (.ref a2)] [(.ref b7), (.ref b7), (.ref a1)])) rfl (by rw [hml]; rfl) (Steps.refl _) (a := b7) (argsL := []) (rest := [(.ref b7), (.ref a1)]) (lenOf pd_4 rfl) rfl (by show 2 * 0 + _ ≤ _; exact Nat.le_of_eq rfl) (hb hby d7_20) (fun _ _ => ⟨rfl, e7, (by decide : 2 + 0 ≤ _), (by decide : 6 + 0 ≤ _)⟩)
  dsimp only [Pt.U, Pt.locs, Pt.cells, Pt.slots] at X8 l8 y8 z8 st8 hQ8
  replace y8 : k8 = 2 := y8
  replace z8 : n8 = 6 := z8
  subst y8 z8
  obtain ⟨rfl, N8q, K8, Q8_0, Q8_1, Q8_2⟩ := hQ8
  have N8 : Fr n0 L8 := Eq.mpr (congrArg (Fr n0) l8) (Fr.app N6 N8q)
  have F_parent_a1_8 := F_parent_a1_7.keep K8 (ninS ne_a1_b7 nin0)
  have F_previous_a1_8 := F_previous_a1_7.keep K8 (ninS ne_a1_b7 nin0)
  have F_next_a1_8 := F_next_a1_7.keep K8 (ninS ne_a1_b7 nin0)
  have F_firstChild_a1_8 := F_firstChild_a1_7.keep K8 (ninS ne_a1_b7 nin0)
  have F_lastChild_a1_8 := F_lastChild_a1_7.keep K8 (ninS ne_a1_b7 nin0)
  have E_a1_8 := E_a1_7.keep K8
  have F_attributes_a1_8 := F_attributes_a1_7.keep K8 (ninS ne_a1_b7 nin0)
  have F_texts_a1_8 := F_texts_a1_7.keep K8 (ninS ne_a1_b7 nin0)
  have F_name_a1_8 := F_name_a1_7.keep K8 (ninS ne_a1_b7 nin0)
  have E_b4_8 := E_b4_7.keep K8
  have F_elementData_b4_8 := F_elementData_b4_7.keep K8 (ninS ne_b4_b7 nin0)
  have F_modCount_b4_8 := F_modCount_b4_7.keep K8 (ninS ne_b4_b7 nin0)
  have E_b7_8 := A7.keep K8
  have O8 := O7.keep K8 (allS g_b7 all0)
  have Z8 := Nat.le_trans Z7 K8.1
  have KK8 : Keep h0 T8.heap [a1] := KK7.trans K8 (allS (Or.inr sz_b7) all0)
  clear F_parent_a1_7 F_previous_a1_7 F_next_a1_7 F_firstChild_a1_7 F_lastChild_a1_7 E_a1_7 F_attributes_a1_7 F_texts_a1_7 F_name_a1_7 E_b4_7 F_elementData_b4_7 F_modCount_b4_7 A7 O7 Z7 KK7 K8
  refine Go.trans st8 ?_
  show Go p e below _ (T8.setTop (mkF m 23 #[.val (.ref a1), .val (.ref a2)] [(.ref b7), (.ref a1)]))
  obtain ⟨T9, h9, X9, e9, W9, st9⟩ := putF X8 hx hZ hown (host := "") (Or.inl (hw _ (List.mem_of_getElem? (i := 63) rfl))) Via.refl rfl F_texts_a1_8 E_a1_8 (Or.inr ⟨(hw _ (List.mem_of_getElem? (i := 64) rfl)), rfl, hnm⟩) (hw _ (List.mem_of_getElem? (i := 1) rfl)) (ty := (.object "java/util/List")) (by decide) rfl rfl (g := (mkF m 23 #[.val (.ref a1), .val (.ref a2)] [(.ref b7), (.ref a1)])) rfl rfl (hb hby d7_23)
  refine Go.step st9 ?_
  have N9 := Fr.snoc X9 N8 g_a1
  have F_parent_a1_9 := F_parent_a1_8.other W9 (Or.inr (slot_ne (Or.inl (hw _ (List.mem_of_getElem? (i := 79) rfl))) (Or.inr (hw _ (List.mem_of_getElem? (i := 64) rfl))) (by decide) (t := (.object "com/example/dataflow_to_dispatch/dataflowtodispatch/model/document/XmlElement")) (t' := (.object "java/util/List")) (by decide) (by decide)))
  have F_previous_a1_9 := F_previous_a1_8.other W9 (Or.inr (slot_ne (Or.inl (hw _ (List.mem_of_getElem? (i := 81) rfl))) (Or.inr (hw _ (List.mem_of_getElem? (i := 64) rfl))) (by decide) (t := (.object "com/example/dataflow_to_dispatch/dataflowtodispatch/model/document/XmlElement")) (t' := (.object "java/util/List")) (by decide) (by decide)))
  have F_next_a1_9 := F_next_a1_8.other W9 (Or.inr (slot_ne (Or.inl (hw _ (List.mem_of_getElem? (i := 85) rfl))) (Or.inr (hw _ (List.mem_of_getElem? (i := 64) rfl))) (by decide) (t := (.object "com/example/dataflow_to_dispatch/dataflowtodispatch/model/document/XmlElement")) (t' := (.object "java/util/List")) (by decide) (by decide)))
  have F_firstChild_a1_9 := F_firstChild_a1_8.other W9 (Or.inr (slot_ne (Or.inl (hw _ (List.mem_of_getElem? (i := 83) rfl))) (Or.inr (hw _ (List.mem_of_getElem? (i := 64) rfl))) (by decide) (t := (.object "com/example/dataflow_to_dispatch/dataflowtodispatch/model/document/XmlElement")) (t' := (.object "java/util/List")) (by decide) (by decide)))
  have F_lastChild_a1_9 := F_lastChild_a1_8.other W9 (Or.inr (slot_ne (Or.inl (hw _ (List.mem_of_getElem? (i := 73) rfl))) (Or.inr (hw _ (List.mem_of_getElem? (i := 64) rfl))) (by decide) (t := (.object "com/example/dataflow_to_dispatch/dataflowtodispatch/model/document/XmlElement")) (t' := (.object "java/util/List")) (by decide) (by decide)))
  have E_a1_9 := E_a1_8.wr W9
  have F_attributes_a1_9 := F_attributes_a1_8.other W9 (Or.inr (slot_ne (Or.inr (hw _ (List.mem_of_getElem? (i := 62) rfl))) (Or.inr (hw _ (List.mem_of_getElem? (i := 64) rfl))) (by decide) (t := (.object "java/util/List")) (t' := (.object "java/util/List")) (by decide) (by decide)))
  have F_name_a1_9 := F_name_a1_8.other W9 (Or.inr (slot_ne (Or.inr (hw _ (List.mem_of_getElem? (i := 66) rfl))) (Or.inr (hw _ (List.mem_of_getElem? (i := 64) rfl))) (by decide) (t := (.object "java/lang/String")) (t' := (.object "java/util/List")) (by decide) (by decide)))
  have E_b4_9 := E_b4_8.wr W9
  have F_elementData_b4_9 := F_elementData_b4_8.other W9 (Or.inl (Ne.symm ne_a1_b4))
  have F_modCount_b4_9 := F_modCount_b4_8.other W9 (Or.inl (Ne.symm ne_a1_b4))
  have E_b7_9 := Q8_0.wr W9
  have F_elementData_b7_9 := Q8_1.other W9 (Or.inl (Ne.symm ne_a1_b7))
  have F_modCount_b7_9 := Q8_2.other W9 (Or.inl (Ne.symm ne_a1_b7))
  have O9 := O8.wr W9 g_a1
  have Z9 := Nat.le_trans Z8 (Keep.of_wr W9).1
  have KK9 : Keep h0 h9 [a1] := KK8.wr W9 (Or.inl (by simp))
  clear F_parent_a1_8 F_previous_a1_8 F_next_a1_8 F_firstChild_a1_8 F_lastChild_a1_8 E_a1_8 F_attributes_a1_8 F_name_a1_8 E_b4_8 F_elementData_b4_8 F_modCount_b4_8 Q8_0 Q8_1 Q8_2 O8 Z8 KK8
  have F_texts_a1_9 := F_texts_a1_8.same W9
  show Go p e below _ (T9.setTop (mkF m 26 #[.val (.ref a1), .val (.ref a2)] []))
  refine Go.step (fun t k => XS.aloadN X9.here hx rfl (hb hby d7_26) rfl rfl k) ?_
  show Go p e below _ (T9.setTop (mkF m 27 #[.val (.ref a1), .val (.ref a2)] [(.ref a1)]))
  refine Go.step (fun t k => XS.aloadN X9.here hx rfl (hb hby d7_27) rfl rfl k) ?_
  show Go p e below _ (T9.setTop (mkF m 28 #[.val (.ref a1), .val (.ref a2)] [(.ref a2), (.ref a1)]))
  obtain ⟨T10, h10, X10, e10, W10, st10⟩ := putF X9 hx hZ hown (host := "") (Or.inl (hw _ (List.mem_of_getElem? (i := 65) rfl))) Via.refl e9 F_name_a1_9 E_a1_9 (Or.inr ⟨(hw _ (List.mem_of_getElem? (i := 66) rfl)), rfl, hnm⟩) (hw _ (List.mem_of_getElem? (i := 1) rfl)) (ty := (.object "java/lang/String")) (by decide) rfl rfl (g := (mkF m 28 #[.val (.ref a1), .val (.ref a2)] [(.ref a2), (.ref a1)])) rfl rfl (hb hby d7_28)
  refine Go.step st10 ?_
  have N10 := Fr.snoc X10 N9 g_a1
  have F_parent_a1_10 := F_parent_a1_9.other W10 (Or.inr (slot_ne (Or.inl (hw _ (List.mem_of_getElem? (i := 79) rfl))) (Or.inr (hw _ (List.mem_of_getElem? (i := 66) rfl))) (by decide) (t := (.object "com/example/dataflow_to_dispatch/dataflowtodispatch/model/document/XmlElement")) (t' := (.object "java/lang/String")) (by decide) (by decide)))
  have F_previous_a1_10 := F_previous_a1_9.other W10 (Or.inr (slot_ne (Or.inl (hw _ (List.mem_of_getElem? (i := 81) rfl))) (Or.inr (hw _ (List.mem_of_getElem? (i := 66) rfl))) (by decide) (t := (.object "com/example/dataflow_to_dispatch/dataflowtodispatch/model/document/XmlElement")) (t' := (.object "java/lang/String")) (by decide) (by decide)))
  have F_next_a1_10 := F_next_a1_9.other W10 (Or.inr (slot_ne (Or.inl (hw _ (List.mem_of_getElem? (i := 85) rfl))) (Or.inr (hw _ (List.mem_of_getElem? (i := 66) rfl))) (by decide) (t := (.object "com/example/dataflow_to_dispatch/dataflowtodispatch/model/document/XmlElement")) (t' := (.object "java/lang/String")) (by decide) (by decide)))
  have F_firstChild_a1_10 := F_firstChild_a1_9.other W10 (Or.inr (slot_ne (Or.inl (hw _ (List.mem_of_getElem? (i := 83) rfl))) (Or.inr (hw _ (List.mem_of_getElem? (i := 66) rfl))) (by decide) (t := (.object "com/example/dataflow_to_dispatch/dataflowtodispatch/model/document/XmlElement")) (t' := (.object "java/lang/String")) (by decide) (by decide)))
  have F_lastChild_a1_10 := F_lastChild_a1_9.other W10 (Or.inr (slot_ne (Or.inl (hw _ (List.mem_of_getElem? (i := 73) rfl))) (Or.inr (hw _ (List.mem_of_getElem? (i := 66) rfl))) (by decide) (t := (.object "com/example/dataflow_to_dispatch/dataflowtodispatch/model/document/XmlElement")) (t' := (.object "java/lang/String")) (by decide) (by decide)))
  have E_a1_10 := E_a1_9.wr W10
  have F_attributes_a1_10 := F_attributes_a1_9.other W10 (Or.inr (slot_ne (Or.inr (hw _ (List.mem_of_getElem? (i := 62) rfl))) (Or.inr (hw _ (List.mem_of_getElem? (i := 66) rfl))) (by decide) (t := (.object "java/util/List")) (t' := (.object "java/lang/String")) (by decide) (by decide)))
  have F_texts_a1_10 := F_texts_a1_9.other W10 (Or.inr (slot_ne (Or.inr (hw _ (List.mem_of_getElem? (i := 64) rfl))) (Or.inr (hw _ (List.mem_of_getElem? (i := 66) rfl))) (by decide) (t := (.object "java/util/List")) (t' := (.object "java/lang/String")) (by decide) (by decide)))
  have E_b4_10 := E_b4_9.wr W10
  have F_elementData_b4_10 := F_elementData_b4_9.other W10 (Or.inl (Ne.symm ne_a1_b4))
  have F_modCount_b4_10 := F_modCount_b4_9.other W10 (Or.inl (Ne.symm ne_a1_b4))
  have E_b7_10 := E_b7_9.wr W10
  have F_elementData_b7_10 := F_elementData_b7_9.other W10 (Or.inl (Ne.symm ne_a1_b7))
  have F_modCount_b7_10 := F_modCount_b7_9.other W10 (Or.inl (Ne.symm ne_a1_b7))
  have O10 := O9.wr W10 g_a1
  have Z10 := Nat.le_trans Z9 (Keep.of_wr W10).1
  have KK10 : Keep h0 h10 [a1] := KK9.wr W10 (Or.inl (by simp))
  clear F_parent_a1_9 F_previous_a1_9 F_next_a1_9 F_firstChild_a1_9 F_lastChild_a1_9 E_a1_9 F_attributes_a1_9 F_texts_a1_9 E_b4_9 F_elementData_b4_9 F_modCount_b4_9 E_b7_9 F_elementData_b7_9 F_modCount_b7_9 O9 Z9 KK9
  have F_name_a1_10 := F_name_a1_9.same W10
  show Go p e below _ (T10.setTop (mkF m 31 #[.val (.ref a1), .val (.ref a2)] []))
  refine retGV X10 hx Bd.notSynchronized Bd.returns (hb hby d7_31) ?_ (by decide) (by decide)
  show Q7 Z a1 a2 u_parent_a1 u_previous_a1 u_next_a1 u_firstChild_a1 u_lastChild_a1 u_attributes_a1 u_texts_a1 u_name_a1 oD h0 n0 _ T10.heap _
  rw [e10]
  exact ⟨rfl, N10, KK10, F_parent_a1_10, F_previous_a1_10, F_next_a1_10, F_firstChild_a1_10, F_lastChild_a1_10, E_a1_10, F_name_a1_10⟩
theorem d12_0 : decode prog_109_method_15_code 0 = .ok (.aload_n 2, 1) := by decide +kernel
theorem d12_1 : decode prog_109_method_15_code 1 = .ok (.aload_n 0, 1) := by decide +kernel
theorem d12_2 : decode prog_109_method_15_code 2 = .ok (.putfield 23, 3) := by decide +kernel
theorem d12_5 : decode prog_109_method_15_code 5 = .ok (.aload_n 2, 1) := by decide +kernel
theorem d12_6 : decode prog_109_method_15_code 6 = .ok (.aload_n 1, 1) := by decide +kernel
theorem d12_7 : decode prog_109_method_15_code 7 = .ok (.putfield 51, 3) := by decide +kernel
theorem d12_10 : decode prog_109_method_15_code 10 = .ok (.aload_n 1, 1) := by decide +kernel
theorem d12_11 : decode prog_109_method_15_code 11 = .ok (.ifnonnull 11, 3) := by decide +kernel
theorem d12_14 : decode prog_109_method_15_code 14 = .ok (.aload_n 0, 1) := by decide +kernel
theorem d12_15 : decode prog_109_method_15_code 15 = .ok (.aload_n 2, 1) := by decide +kernel
theorem d12_16 : decode prog_109_method_15_code 16 = .ok (.putfield 39, 3) := by decide +kernel
theorem d12_19 : decode prog_109_method_15_code 19 = .ok (.goto 8, 3) := by decide +kernel
theorem d12_27 : decode prog_109_method_15_code 27 = .ok (.return_, 1) := by decide +kernel
theorem ef_12_n (m : MethodId) (a1 : Addr) (a3 : Addr) : entryFrame m #[(.ref a1), .null, (.ref a3)] 3 = mkF m 0 #[.val (.ref a1), .val .null, .val (.ref a3)] [] := by first | (simp [entryFrame, mkF, argsToLocals, Value.category]; done) | rfl
def Q12_n (Z : State) (a1 : Addr) (a3 : Addr) (u_lastChild_a1 : Value) (u_firstChild_a1 : Value) (u_name_a3 : Value) (u_parent_a3 : Value) (u_previous_a3 : Value) (u_next_a3 : Value) (h0 : Heap) (n0 : Nat) (v : Option Value) (h : Heap) (L : List Loc) : Prop := v = none ∧ Fr n0 L ∧ Keep h0 h [a3, a1] ∧ Exa Z h a1 "com/example/dataflow_to_dispatch/dataflowtodispatch/model/document/XmlElement" ∧ Fld Z h a1 "com/example/dataflow_to_dispatch/dataflowtodispatch/model/document/XmlElement" "lastChild" "Lcom/example/dataflow_to_dispatch/dataflowtodispatch/model/document/XmlElement;" u_lastChild_a1 ∧ Fld Z h a1 "com/example/dataflow_to_dispatch/dataflowtodispatch/model/document/XmlElement" "firstChild" "Lcom/example/dataflow_to_dispatch/dataflowtodispatch/model/document/XmlElement;" (.ref a3) ∧ Exa Z h a3 "com/example/dataflow_to_dispatch/dataflowtodispatch/model/document/XmlElement" ∧ Fld Z h a3 "com/example/dataflow_to_dispatch/dataflowtodispatch/model/document/XmlElement" "name" "Ljava/lang/String;" u_name_a3 ∧ Fld Z h a3 "com/example/dataflow_to_dispatch/dataflowtodispatch/model/document/XmlElement" "parent" "Lcom/example/dataflow_to_dispatch/dataflowtodispatch/model/document/XmlElement;" (.ref a1) ∧ Fld Z h a3 "com/example/dataflow_to_dispatch/dataflowtodispatch/model/document/XmlElement" "previous" "Lcom/example/dataflow_to_dispatch/dataflowtodispatch/model/document/XmlElement;" .null ∧ Fld Z h a3 "com/example/dataflow_to_dispatch/dataflowtodispatch/model/document/XmlElement" "next" "Lcom/example/dataflow_to_dispatch/dataflowtodispatch/model/document/XmlElement;" u_next_a3
set_option maxRecDepth 65536 in
set_option maxHeartbeats 40000000 in
theorem rm12_n (l : Launch) (Z : State) (a0 : Array Value) (hw : ∀ d ∈ tables_1, d.before a0 Z = true) (ws : List Jvm.Cond) (a1 : Addr) (a3 : Addr) (u_lastChild_a1 : Value) (u_firstChild_a1 : Value) (u_name_a3 : Value) (u_parent_a3 : Value) (u_previous_a3 : Value) (u_next_a3 : Value) (h0 : Heap) (n0 : Nat) (Z0 : n0 ≤ h0.size) (E_a1 : Exa Z h0 a1 "com/example/dataflow_to_dispatch/dataflowtodispatch/model/document/XmlElement") (F_lastChild_a1 : Fld Z h0 a1 "com/example/dataflow_to_dispatch/dataflowtodispatch/model/document/XmlElement" "lastChild" "Lcom/example/dataflow_to_dispatch/dataflowtodispatch/model/document/XmlElement;" u_lastChild_a1) (F_firstChild_a1 : Fld Z h0 a1 "com/example/dataflow_to_dispatch/dataflowtodispatch/model/document/XmlElement" "firstChild" "Lcom/example/dataflow_to_dispatch/dataflowtodispatch/model/document/XmlElement;" u_firstChild_a1) (E_a3 : Exa Z h0 a3 "com/example/dataflow_to_dispatch/dataflowtodispatch/model/document/XmlElement") (F_name_a3 : Fld Z h0 a3 "com/example/dataflow_to_dispatch/dataflowtodispatch/model/document/XmlElement" "name" "Ljava/lang/String;" u_name_a3) (F_parent_a3 : Fld Z h0 a3 "com/example/dataflow_to_dispatch/dataflowtodispatch/model/document/XmlElement" "parent" "Lcom/example/dataflow_to_dispatch/dataflowtodispatch/model/document/XmlElement;" u_parent_a3) (F_previous_a3 : Fld Z h0 a3 "com/example/dataflow_to_dispatch/dataflowtodispatch/model/document/XmlElement" "previous" "Lcom/example/dataflow_to_dispatch/dataflowtodispatch/model/document/XmlElement;" u_previous_a3) (F_next_a3 : Fld Z h0 a3 "com/example/dataflow_to_dispatch/dataflowtodispatch/model/document/XmlElement" "next" "Lcom/example/dataflow_to_dispatch/dataflowtodispatch/model/document/XmlElement;" u_next_a3) (g_a3 : n0 ≤ a3) (hne_a1_a3 : a1 ≠ a3) (g_a1 : n0 ≤ a1) (hne_a3_a1 : a3 ≠ a1) :
    MetFree l (⟨"com/example/dataflow_to_dispatch/dataflowtodispatch/model/document/XmlElement", "linkAfter", "(Lcom/example/dataflow_to_dispatch/dataflowtodispatch/model/document/XmlElement;Lcom/example/dataflow_to_dispatch/dataflowtodispatch/model/document/XmlElement;)V"⟩ : MethodName) (head1 (Jvm.Cond.code (⟨"com/example/dataflow_to_dispatch/dataflowtodispatch/model/document/XmlElement", "linkAfter", "(Lcom/example/dataflow_to_dispatch/dataflowtodispatch/model/document/XmlElement;Lcom/example/dataflow_to_dispatch/dataflowtodispatch/model/document/XmlElement;)V"⟩ : MethodName) prog_109_method_15_code 3 none :: ws) ({ frames := 0, cells := 0, slots := 0, locals := 0 } : Room)) (fun a U => a = #[(.ref a1), .null, (.ref a3)] ∧ Z.Warmed39 U.vm ∧ U.heap = h0) (fun _ _ _ _ _ => True) (fun _ U o U' => ∃ v L, o = .returned v ∧ Q12_n Z a1 a3 u_lastChild_a1 u_firstChild_a1 u_name_a3 u_parent_a3 u_previous_a3 u_next_a3 h0 n0 v U'.heap L ∧ FrameEnd U o U' L ({ frames := 0, cells := 0, slots := 0, locals := 0 } : Room).cells ({ frames := 0, cells := 0, slots := 0, locals := 0 } : Room).slots) := by
  refine MetFree.of_bodySF (plainFor_of_name pn_5) hisR ?_
  intro p e s m args below meth c s₁ Bd hml0 hP hK
  obtain ⟨rfl, hZ, hh⟩ := hP
  have hx := Bd.exec
  have hby := Bd.bytes
  have hml : c.maxLocals = 3 := hml0
  have hown : s.vm.findClass "com/example/dataflow_to_dispatch/dataflowtodispatch/model/document/XmlElement" = some m.cls := findClass_of_methodNamed Bd.named
  have hnm := (name_of_methodNamed Bd.named Bd.method).1
  have X0 : Stand p l e ({ frames := 0, cells := 0, slots := 0, locals := 0 } : Room) s m #[(.ref a1), .null, (.ref a3)] below meth c s₁ [] 0 0 := Stand.of_body Bd
  have e0 : s₁.heap = h0 := by rw [← hh, Bd.state]; rfl
  have N0 := Fr.nil n0
  refine Go.done (Go.step (fun t k => castTop (ef_12_n m a1 a3) k) ?_)
  have KK0 : Keep h0 h0 [a3, a1] := Keep.refl _ _
  show Go p e below _ (s₁.setTop (mkF m 0 #[.val (.ref a1), .val .null, .val (.ref a3)] []))
  refine Go.step (fun t k => XS.aloadN X0.here hx rfl (hb hby d12_0) rfl rfl k) ?_
  show Go p e below _ (s₁.setTop (mkF m 1 #[.val (.ref a1), .val .null, .val (.ref a3)] [(.ref a3)]))
  refine Go.step (fun t k => XS.aloadN X0.here hx rfl (hb hby d12_1) rfl rfl k) ?_
  show Go p e below _ (s₁.setTop (mkF m 2 #[.val (.ref a1), .val .null, .val (.ref a3)] [(.ref a1), (.ref a3)]))
  obtain ⟨T4, h4, X4, e4, W4, st4⟩ := putF X0 hx hZ hown (host := "") (Or.inl (hw _ (List.mem_of_getElem? (i := 78) rfl))) Via.refl e0 F_parent_a3 E_a3 (Or.inl (hw _ (List.mem_of_getElem? (i := 79) rfl))) (hw _ (List.mem_of_getElem? (i := 1) rfl)) (ty := (.object "com/example/dataflow_to_dispatch/dataflowtodispatch/model/document/XmlElement")) (by decide) rfl rfl (g := (mkF m 2 #[.val (.ref a1), .val .null, .val (.ref a3)] [(.ref a1), (.ref a3)])) rfl rfl (hb hby d12_2)
  refine Go.step st4 ?_
  have N4 := Fr.snoc X4 N0 g_a3
  have E_a1_4 := E_a1.wr W4
  have F_lastChild_a1_4 := F_lastChild_a1.other W4 (Or.inl hne_a1_a3)
  have F_firstChild_a1_4 := F_firstChild_a1.other W4 (Or.inl hne_a1_a3)
  have E_a3_4 := E_a3.wr W4
  have F_name_a3_4 := F_name_a3.other W4 (Or.inr (slot_ne (Or.inr (hw _ (List.mem_of_getElem? (i := 66) rfl))) (Or.inl (hw _ (List.mem_of_getElem? (i := 79) rfl))) (by decide) (t := (.object "java/lang/String")) (t' := (.object "com/example/dataflow_to_dispatch/dataflowtodispatch/model/document/XmlElement")) (by decide) (by decide)))
  have F_previous_a3_4 := F_previous_a3.other W4 (Or.inr (slot_ne (Or.inl (hw _ (List.mem_of_getElem? (i := 81) rfl))) (Or.inl (hw _ (List.mem_of_getElem? (i := 79) rfl))) (by decide) (t := (.object "com/example/dataflow_to_dispatch/dataflowtodispatch/model/document/XmlElement")) (t' := (.object "com/example/dataflow_to_dispatch/dataflowtodispatch/model/document/XmlElement")) (by decide) (by decide)))
  have F_next_a3_4 := F_next_a3.other W4 (Or.inr (slot_ne (Or.inl (hw _ (List.mem_of_getElem? (i := 85) rfl))) (Or.inl (hw _ (List.mem_of_getElem? (i := 79) rfl))) (by decide) (t := (.object "com/example/dataflow_to_dispatch/dataflowtodispatch/model/document/XmlElement")) (t' := (.object "com/example/dataflow_to_dispatch/dataflowtodispatch/model/document/XmlElement")) (by decide) (by decide)))
  have Z4 := Nat.le_trans Z0 (Keep.of_wr W4).1
  have KK4 : Keep h0 h4 [a3, a1] := KK0.wr W4 (Or.inl (by simp))
  clear E_a1 F_lastChild_a1 F_firstChild_a1 E_a3 F_name_a3 F_previous_a3 F_next_a3 Z0 KK0
  have F_parent_a3_4 := F_parent_a3.same W4
  show Go p e below _ (T4.setTop (mkF m 5 #[.val (.ref a1), .val .null, .val (.ref a3)] []))
  refine Go.step (fun t k => XS.aloadN X4.here hx rfl (hb hby d12_5) rfl rfl k) ?_
  show Go p e below _ (T4.setTop (mkF m 6 #[.val (.ref a1), .val .null, .val (.ref a3)] [(.ref a3)]))
  refine Go.step (fun t k => XS.aloadN X4.here hx rfl (hb hby d12_6) rfl rfl k) ?_
  show Go p e below _ (T4.setTop (mkF m 7 #[.val (.ref a1), .val .null, .val (.ref a3)] [.null, (.ref a3)]))
  obtain ⟨T5, h5, X5, e5, W5, st5⟩ := putF X4 hx hZ hown (host := "") (Or.inl (hw _ (List.mem_of_getElem? (i := 80) rfl))) Via.refl e4 F_previous_a3_4 E_a3_4 (Or.inl (hw _ (List.mem_of_getElem? (i := 81) rfl))) (hw _ (List.mem_of_getElem? (i := 1) rfl)) (ty := (.object "com/example/dataflow_to_dispatch/dataflowtodispatch/model/document/XmlElement")) (by decide) rfl rfl (g := (mkF m 7 #[.val (.ref a1), .val .null, .val (.ref a3)] [.null, (.ref a3)])) rfl rfl (hb hby d12_7)
  refine Go.step st5 ?_
  have N5 := Fr.snoc X5 N4 g_a3
  have E_a1_5 := E_a1_4.wr W5
  have F_lastChild_a1_5 := F_lastChild_a1_4.other W5 (Or.inl hne_a1_a3)
  have F_firstChild_a1_5 := F_firstChild_a1_4.other W5 (Or.inl hne_a1_a3)
  have E_a3_5 := E_a3_4.wr W5
  have F_name_a3_5 := F_name_a3_4.other W5 (Or.inr (slot_ne (Or.inr (hw _ (List.mem_of_getElem? (i := 66) rfl))) (Or.inl (hw _ (List.mem_of_getElem? (i := 81) rfl))) (by decide) (t := (.object "java/lang/String")) (t' := (.object "com/example/dataflow_to_dispatch/dataflowtodispatch/model/document/XmlElement")) (by decide) (by decide)))
  have F_parent_a3_5 := F_parent_a3_4.other W5 (Or.inr (slot_ne (Or.inl (hw _ (List.mem_of_getElem? (i := 79) rfl))) (Or.inl (hw _ (List.mem_of_getElem? (i := 81) rfl))) (by decide) (t := (.object "com/example/dataflow_to_dispatch/dataflowtodispatch/model/document/XmlElement")) (t' := (.object "com/example/dataflow_to_dispatch/dataflowtodispatch/model/document/XmlElement")) (by decide) (by decide)))
  have F_next_a3_5 := F_next_a3_4.other W5 (Or.inr (slot_ne (Or.inl (hw _ (List.mem_of_getElem? (i := 85) rfl))) (Or.inl (hw _ (List.mem_of_getElem? (i := 81) rfl))) (by decide) (t := (.object "com/example/dataflow_to_dispatch/dataflowtodispatch/model/document/XmlElement")) (t' := (.object "com/example/dataflow_to_dispatch/dataflowtodispatch/model/document/XmlElement")) (by decide) (by decide)))
  have Z5 := Nat.le_trans Z4 (Keep.of_wr W5).1
  have KK5 : Keep h0 h5 [a3, a1] := KK4.wr W5 (Or.inl (by simp))
  clear E_a1_4 F_lastChild_a1_4 F_firstChild_a1_4 E_a3_4 F_name_a3_4 F_parent_a3_4 F_next_a3_4 Z4 KK4
  have F_previous_a3_5 := F_previous_a3_4.same W5
  show Go p e below _ (T5.setTop (mkF m 10 #[.val (.ref a1), .val .null, .val (.ref a3)] []))
  refine Go.step (fun t k => XS.aloadN X5.here hx rfl (hb hby d12_10) rfl rfl k) ?_
  show Go p e below _ (T5.setTop (mkF m 11 #[.val (.ref a1), .val .null, .val (.ref a3)] [.null]))
  refine Go.step (fun t k => XS.ifnonnullNo X5.here hx rfl (hb hby d12_11) rfl k) ?_
  show Go p e below _ (T5.setTop (mkF m 14 #[.val (.ref a1), .val .null, .val (.ref a3)] []))
  refine Go.step (fun t k => XS.aloadN X5.here hx rfl (hb hby d12_14) rfl rfl k) ?_
  show Go p e below _ (T5.setTop (mkF m 15 #[.val (.ref a1), .val .null, .val (.ref a3)] [(.ref a1)]))
  refine Go.step (fun t k => XS.aloadN X5.here hx rfl (hb hby d12_15) rfl rfl k) ?_
  show Go p e below _ (T5.setTop (mkF m 16 #[.val (.ref a1), .val .null, .val (.ref a3)] [(.ref a3), (.ref a1)]))
  obtain ⟨T6, h6, X6, e6, W6, st6⟩ := putF X5 hx hZ hown (host := "") (Or.inl (hw _ (List.mem_of_getElem? (i := 82) rfl))) Via.refl e5 F_firstChild_a1_5 E_a1_5 (Or.inl (hw _ (List.mem_of_getElem? (i := 83) rfl))) (hw _ (List.mem_of_getElem? (i := 1) rfl)) (ty := (.object "com/example/dataflow_to_dispatch/dataflowtodispatch/model/document/XmlElement")) (by decide) rfl rfl (g := (mkF m 16 #[.val (.ref a1), .val .null, .val (.ref a3)] [(.ref a3), (.ref a1)])) rfl rfl (hb hby d12_16)
  refine Go.step st6 ?_
  have N6 := Fr.snoc X6 N5 g_a1
  have E_a1_6 := E_a1_5.wr W6
  have F_lastChild_a1_6 := F_lastChild_a1_5.other W6 (Or.inr (slot_ne (Or.inl (hw _ (List.mem_of_getElem? (i := 73) rfl))) (Or.inl (hw _ (List.mem_of_getElem? (i := 83) rfl))) (by decide) (t := (.object "com/example/dataflow_to_dispatch/dataflowtodispatch/model/document/XmlElement")) (t' := (.object "com/example/dataflow_to_dispatch/dataflowtodispatch/model/document/XmlElement")) (by decide) (by decide)))
  have E_a3_6 := E_a3_5.wr W6
  have F_name_a3_6 := F_name_a3_5.other W6 (Or.inl hne_a3_a1)
  have F_parent_a3_6 := F_parent_a3_5.other W6 (Or.inl hne_a3_a1)
  have F_previous_a3_6 := F_previous_a3_5.other W6 (Or.inl hne_a3_a1)
  have F_next_a3_6 := F_next_a3_5.other W6 (Or.inl hne_a3_a1)
  have Z6 := Nat.le_trans Z5 (Keep.of_wr W6).1
  have KK6 : Keep h0 h6 [a3, a1] := KK5.wr W6 (Or.inl (by simp))
  clear E_a1_5 F_lastChild_a1_5 E_a3_5 F_name_a3_5 F_parent_a3_5 F_previous_a3_5 F_next_a3_5 Z5 KK5
  have F_firstChild_a1_6 := F_firstChild_a1_5.same W6
  show Go p e below _ (T6.setTop (mkF m 19 #[.val (.ref a1), .val .null, .val (.ref a3)] []))
  refine Go.step (fun t k => XS.goto X6.here hx rfl (pc0 := 19) (pc' := 27) rfl (hb hby d12_19) (by decide) (by decide) k) ?_
  show Go p e below _ (T6.setTop (mkF m 27 #[.val (.ref a1), .val .null, .val (.ref a3)] []))
  refine retGV X6 hx Bd.notSynchronized Bd.returns (hb hby d12_27) ?_ (by decide) (by decide)
  show Q12_n Z a1 a3 u_lastChild_a1 u_firstChild_a1 u_name_a3 u_parent_a3 u_previous_a3 u_next_a3 h0 n0 _ T6.heap _
  rw [e6]
  exact ⟨rfl, N6, KK6, E_a1_6, F_lastChild_a1_6, F_firstChild_a1_6, E_a3_6, F_name_a3_6, F_parent_a3_6, F_previous_a3_6, F_next_a3_6⟩
theorem d12_22 : decode prog_109_method_15_code 22 = .ok (.aload_n 1, 1) := by decide +kernel
theorem d12_23 : decode prog_109_method_15_code 23 = .ok (.aload_n 2, 1) := by decide +kernel
theorem d12_24 : decode prog_109_method_15_code 24 = .ok (.putfield 48, 3) := by decide +kernel
theorem ef_12_r (m : MethodId) (a1 : Addr) (a2 : Addr) (a3 : Addr) : entryFrame m #[(.ref a1), (.ref a2), (.ref a3)] 3 = mkF m 0 #[.val (.ref a1), .val (.ref a2), .val (.ref a3)] [] := by first | (simp [entryFrame, mkF, argsToLocals, Value.category]; done) | rfl
def Q12_r (Z : State) (a1 : Addr) (a2 : Addr) (a3 : Addr) (u_name_a2 : Value) (u_previous_a2 : Value) (u_next_a2 : Value) (u_name_a3 : Value) (u_parent_a3 : Value) (u_previous_a3 : Value) (u_next_a3 : Value) (h0 : Heap) (n0 : Nat) (v : Option Value) (h : Heap) (L : List Loc) : Prop := v = none ∧ Fr n0 L ∧ Keep h0 h [a3, a2] ∧ Exa Z h a2 "com/example/dataflow_to_dispatch/dataflowtodispatch/model/document/XmlElement" ∧ Fld Z h a2 "com/example/dataflow_to_dispatch/dataflowtodispatch/model/document/XmlElement" "name" "Ljava/lang/String;" u_name_a2 ∧ Fld Z h a2 "com/example/dataflow_to_dispatch/dataflowtodispatch/model/document/XmlElement" "previous" "Lcom/example/dataflow_to_dispatch/dataflowtodispatch/model/document/XmlElement;" u_previous_a2 ∧ Fld Z h a2 "com/example/dataflow_to_dispatch/dataflowtodispatch/model/document/XmlElement" "next" "Lcom/example/dataflow_to_dispatch/dataflowtodispatch/model/document/XmlElement;" (.ref a3) ∧ Exa Z h a3 "com/example/dataflow_to_dispatch/dataflowtodispatch/model/document/XmlElement" ∧ Fld Z h a3 "com/example/dataflow_to_dispatch/dataflowtodispatch/model/document/XmlElement" "name" "Ljava/lang/String;" u_name_a3 ∧ Fld Z h a3 "com/example/dataflow_to_dispatch/dataflowtodispatch/model/document/XmlElement" "parent" "Lcom/example/dataflow_to_dispatch/dataflowtodispatch/model/document/XmlElement;" (.ref a1) ∧ Fld Z h a3 "com/example/dataflow_to_dispatch/dataflowtodispatch/model/document/XmlElement" "previous" "Lcom/example/dataflow_to_dispatch/dataflowtodispatch/model/document/XmlElement;" (.ref a2) ∧ Fld Z h a3 "com/example/dataflow_to_dispatch/dataflowtodispatch/model/document/XmlElement" "next" "Lcom/example/dataflow_to_dispatch/dataflowtodispatch/model/document/XmlElement;" u_next_a3
set_option maxRecDepth 65536 in
set_option maxHeartbeats 40000000 in
theorem rm12_r (l : Launch) (Z : State) (a0 : Array Value) (hw : ∀ d ∈ tables_1, d.before a0 Z = true) (ws : List Jvm.Cond) (a1 : Addr) (a2 : Addr) (a3 : Addr) (u_name_a2 : Value) (u_previous_a2 : Value) (u_next_a2 : Value) (u_name_a3 : Value) (u_parent_a3 : Value) (u_previous_a3 : Value) (u_next_a3 : Value) (h0 : Heap) (n0 : Nat) (Z0 : n0 ≤ h0.size) (E_a2 : Exa Z h0 a2 "com/example/dataflow_to_dispatch/dataflowtodispatch/model/document/XmlElement") (F_name_a2 : Fld Z h0 a2 "com/example/dataflow_to_dispatch/dataflowtodispatch/model/document/XmlElement" "name" "Ljava/lang/String;" u_name_a2) (F_previous_a2 : Fld Z h0 a2 "com/example/dataflow_to_dispatch/dataflowtodispatch/model/document/XmlElement" "previous" "Lcom/example/dataflow_to_dispatch/dataflowtodispatch/model/document/XmlElement;" u_previous_a2) (F_next_a2 : Fld Z h0 a2 "com/example/dataflow_to_dispatch/dataflowtodispatch/model/document/XmlElement" "next" "Lcom/example/dataflow_to_dispatch/dataflowtodispatch/model/document/XmlElement;" u_next_a2) (E_a3 : Exa Z h0 a3 "com/example/dataflow_to_dispatch/dataflowtodispatch/model/document/XmlElement") (F_name_a3 : Fld Z h0 a3 "com/example/dataflow_to_dispatch/dataflowtodispatch/model/document/XmlElement" "name" "Ljava/lang/String;" u_name_a3) (F_parent_a3 : Fld Z h0 a3 "com/example/dataflow_to_dispatch/dataflowtodispatch/model/document/XmlElement" "parent" "Lcom/example/dataflow_to_dispatch/dataflowtodispatch/model/document/XmlElement;" u_parent_a3) (F_previous_a3 : Fld Z h0 a3 "com/example/dataflow_to_dispatch/dataflowtodispatch/model/document/XmlElement" "previous" "Lcom/example/dataflow_to_dispatch/dataflowtodispatch/model/document/XmlElement;" u_previous_a3) (F_next_a3 : Fld Z h0 a3 "com/example/dataflow_to_dispatch/dataflowtodispatch/model/document/XmlElement" "next" "Lcom/example/dataflow_to_dispatch/dataflowtodispatch/model/document/XmlElement;" u_next_a3) (g_a3 : n0 ≤ a3) (hne_a2_a3 : a2 ≠ a3) (g_a2 : n0 ≤ a2) (hne_a3_a2 : a3 ≠ a2) :
    MetFree l (⟨"com/example/dataflow_to_dispatch/dataflowtodispatch/model/document/XmlElement", "linkAfter", "(Lcom/example/dataflow_to_dispatch/dataflowtodispatch/model/document/XmlElement;Lcom/example/dataflow_to_dispatch/dataflowtodispatch/model/document/XmlElement;)V"⟩ : MethodName) (head1 (Jvm.Cond.code (⟨"com/example/dataflow_to_dispatch/dataflowtodispatch/model/document/XmlElement", "linkAfter", "(Lcom/example/dataflow_to_dispatch/dataflowtodispatch/model/document/XmlElement;Lcom/example/dataflow_to_dispatch/dataflowtodispatch/model/document/XmlElement;)V"⟩ : MethodName) prog_109_method_15_code 3 none :: ws) ({ frames := 0, cells := 0, slots := 0, locals := 0 } : Room)) (fun a U => a = #[(.ref a1), (.ref a2), (.ref a3)] ∧ Z.Warmed39 U.vm ∧ U.heap = h0) (fun _ _ _ _ _ => True) (fun _ U o U' => ∃ v L, o = .returned v ∧ Q12_r Z a1 a2 a3 u_name_a2 u_previous_a2 u_next_a2 u_name_a3 u_parent_a3 u_previous_a3 u_next_a3 h0 n0 v U'.heap L ∧ FrameEnd U o U' L ({ frames := 0, cells := 0, slots := 0, locals := 0 } : Room).cells ({ frames := 0, cells := 0, slots := 0, locals := 0 } : Room).slots) := by
  refine MetFree.of_bodySF (plainFor_of_name pn_5) hisR ?_
  intro p e s m args below meth c s₁ Bd hml0 hP hK
  obtain ⟨rfl, hZ, hh⟩ := hP
  have hx := Bd.exec
  have hby := Bd.bytes
  have hml : c.maxLocals = 3 := hml0
  have hown : s.vm.findClass "com/example/dataflow_to_dispatch/dataflowtodispatch/model/document/XmlElement" = some m.cls := findClass_of_methodNamed Bd.named
  have hnm := (name_of_methodNamed Bd.named Bd.method).1
  have X0 : Stand p l e ({ frames := 0, cells := 0, slots := 0, locals := 0 } : Room) s m #[(.ref a1), (.ref a2), (.ref a3)] below meth c s₁ [] 0 0 := Stand.of_body Bd
  have e0 : s₁.heap = h0 := by rw [← hh, Bd.state]; rfl
  have N0 := Fr.nil n0
  refine Go.done (Go.step (fun t k => castTop (ef_12_r m a1 a2 a3) k) ?_)
  have KK0 : Keep h0 h0 [a3, a2] := Keep.refl _ _
  show Go p e below _ (s₁.setTop (mkF m 0 #[.val (.ref a1), .val (.ref a2), .val (.ref a3)] []))
  refine Go.step (fun t k => XS.aloadN X0.here hx rfl (hb hby d12_0) rfl rfl k) ?_
  show Go p e below _ (s₁.setTop (mkF m 1 #[.val (.ref a1), .val (.ref a2), .val (.ref a3)] [(.ref a3)]))
  refine Go.step (fun t k => XS.aloadN X0.here hx rfl (hb hby d12_1) rfl rfl k) ?_
  show Go p e below _ (s₁.setTop (mkF m 2 #[.val (.ref a1), .val (.ref a2), .val (.ref a3)] [(.ref a1), (.ref a3)]))
  obtain ⟨T4, h4, X4, e4, W4, st4⟩ := putF X0 hx hZ hown (host := "") (Or.inl (hw _ (List.mem_of_getElem? (i := 78) rfl))) Via.refl e0 F_parent_a3 E_a3 (Or.inl (hw _ (List.mem_of_getElem? (i := 79) rfl))) (hw _ (List.mem_of_getElem? (i := 1) rfl)) (ty := (.object "com/example/dataflow_to_dispatch/dataflowtodispatch/model/document/XmlElement")) (by decide) rfl rfl (g := (mkF m 2 #[.val (.ref a1), .val (.ref a2), .val (.ref a3)] [(.ref a1), (.ref a3)])) rfl rfl (hb hby d12_2)
  refine Go.step st4 ?_
  have N4 := Fr.snoc X4 N0 g_a3
  have E_a2_4 := E_a2.wr W4
  have F_name_a2_4 := F_name_a2.other W4 (Or.inl hne_a2_a3)
  have F_previous_a2_4 := F_previous_a2.other W4 (Or.inl hne_a2_a3)
  have F_next_a2_4 := F_next_a2.other W4 (Or.inl hne_a2_a3)
  have E_a3_4 := E_a3.wr W4
  have F_name_a3_4 := F_name_a3.other W4 (Or.inr (slot_ne (Or.inr (hw _ (List.mem_of_getElem? (i := 66) rfl))) (Or.inl (hw _ (List.mem_of_getElem? (i := 79) rfl))) (by decide) (t := (.object "java/lang/String")) (t' := (.object "com/example/dataflow_to_dispatch/dataflowtodispatch/model/document/XmlElement")) (by decide) (by decide)))
  have F_previous_a3_4 := F_previous_a3.other W4 (Or.inr (slot_ne (Or.inl (hw _ (List.mem_of_getElem? (i := 81) rfl))) (Or.inl (hw _ (List.mem_of_getElem? (i := 79) rfl))) (by decide) (t := (.object "com/example/dataflow_to_dispatch/dataflowtodispatch/model/document/XmlElement")) (t' := (.object "com/example/dataflow_to_dispatch/dataflowtodispatch/model/document/XmlElement")) (by decide) (by decide)))
  have F_next_a3_4 := F_next_a3.other W4 (Or.inr (slot_ne (Or.inl (hw _ (List.mem_of_getElem? (i := 85) rfl))) (Or.inl (hw _ (List.mem_of_getElem? (i := 79) rfl))) (by decide) (t := (.object "com/example/dataflow_to_dispatch/dataflowtodispatch/model/document/XmlElement")) (t' := (.object "com/example/dataflow_to_dispatch/dataflowtodispatch/model/document/XmlElement")) (by decide) (by decide)))
  have Z4 := Nat.le_trans Z0 (Keep.of_wr W4).1
  have KK4 : Keep h0 h4 [a3, a2] := KK0.wr W4 (Or.inl (by simp))
  clear E_a2 F_name_a2 F_previous_a2 F_next_a2 E_a3 F_name_a3 F_previous_a3 F_next_a3 Z0 KK0
  have F_parent_a3_4 := F_parent_a3.same W4
  show Go p e below _ (T4.setTop (mkF m 5 #[.val (.ref a1), .val (.ref a2), .val (.ref a3)] []))
  refine Go.step (fun t k => XS.aloadN X4.here hx rfl (hb hby d12_5) rfl rfl k) ?_
  show Go p e below _ (T4.setTop (mkF m 6 #[.val (.ref a1), .val (.ref a2), .val (.ref a3)] [(.ref a3)]))
  refine Go.step (fun t k => XS.aloadN X4.here hx rfl (hb hby d12_6) rfl rfl k) ?_
  show Go p e below _ (T4.setTop (mkF m 7 #[.val (.ref a1), .val (.ref a2), .val (.ref a3)] [(.ref a2), (.ref a3)]))
  obtain ⟨T5, h5, X5, e5, W5, st5⟩ := putF X4 hx hZ hown (host := "") (Or.inl (hw _ (List.mem_of_getElem? (i := 80) rfl))) Via.refl e4 F_previous_a3_4 E_a3_4 (Or.inl (hw _ (List.mem_of_getElem? (i := 81) rfl))) (hw _ (List.mem_of_getElem? (i := 1) rfl)) (ty := (.object "com/example/dataflow_to_dispatch/dataflowtodispatch/model/document/XmlElement")) (by decide) rfl rfl (g := (mkF m 7 #[.val (.ref a1), .val (.ref a2), .val (.ref a3)] [(.ref a2), (.ref a3)])) rfl rfl (hb hby d12_7)
  refine Go.step st5 ?_
  have N5 := Fr.snoc X5 N4 g_a3
  have E_a2_5 := E_a2_4.wr W5
  have F_name_a2_5 := F_name_a2_4.other W5 (Or.inl hne_a2_a3)
  have F_previous_a2_5 := F_previous_a2_4.other W5 (Or.inl hne_a2_a3)
  have F_next_a2_5 := F_next_a2_4.other W5 (Or.inl hne_a2_a3)
  have E_a3_5 := E_a3_4.wr W5
  have F_name_a3_5 := F_name_a3_4.other W5 (Or.inr (slot_ne (Or.inr (hw _ (List.mem_of_getElem? (i := 66) rfl))) (Or.inl (hw _ (List.mem_of_getElem? (i := 81) rfl))) (by decide) (t := (.object "java/lang/String")) (t' := (.object "com/example/dataflow_to_dispatch/dataflowtodispatch/model/document/XmlElement")) (by decide) (by decide)))
  have F_parent_a3_5 := F_parent_a3_4.other W5 (Or.inr (slot_ne (Or.inl (hw _ (List.mem_of_getElem? (i := 79) rfl))) (Or.inl (hw _ (List.mem_of_getElem? (i := 81) rfl))) (by decide) (t := (.object "com/example/dataflow_to_dispatch/dataflowtodispatch/model/document/XmlElement")) (t' := (.object "com/example/dataflow_to_dispatch/dataflowtodispatch/model/document/XmlElement")) (by decide) (by decide)))
  have F_next_a3_5 := F_next_a3_4.other W5 (Or.inr (slot_ne (Or.inl (hw _ (List.mem_of_getElem? (i := 85) rfl))) (Or.inl (hw _ (List.mem_of_getElem? (i := 81) rfl))) (by decide) (t := (.object "com/example/dataflow_to_dispatch/dataflowtodispatch/model/document/XmlElement")) (t' := (.object "com/example/dataflow_to_dispatch/dataflowtodispatch/model/document/XmlElement")) (by decide) (by decide)))
  have Z5 := Nat.le_trans Z4 (Keep.of_wr W5).1
  have KK5 : Keep h0 h5 [a3, a2] := KK4.wr W5 (Or.inl (by simp))
  clear E_a2_4 F_name_a2_4 F_previous_a2_4 F_next_a2_4 E_a3_4 F_name_a3_4 F_parent_a3_4 F_next_a3_4 Z4 KK4
  have F_previous_a3_5 := F_previous_a3_4.same W5
  show Go p e below _ (T5.setTop (mkF m 10 #[.val (.ref a1), .val (.ref a2), .val (.ref a3)] []))
  refine Go.step (fun t k => XS.aloadN X5.here hx rfl (hb hby d12_10) rfl rfl k) ?_
  show Go p e below _ (T5.setTop (mkF m 11 #[.val (.ref a1), .val (.ref a2), .val (.ref a3)] [(.ref a2)]))
  refine Go.step (fun t k => XS.ifnonnullYes X5.here hx rfl (pc0 := 11) (pc' := 22) rfl (hb hby d12_11) rfl (by decide) (by decide) k) ?_
  show Go p e below _ (T5.setTop (mkF m 22 #[.val (.ref a1), .val (.ref a2), .val (.ref a3)] []))
  refine Go.step (fun t k => XS.aloadN X5.here hx rfl (hb hby d12_22) rfl rfl k) ?_
  show Go p e below _ (T5.setTop (mkF m 23 #[.val (.ref a1), .val (.ref a2), .val (.ref a3)] [(.ref a2)]))
  refine Go.step (fun t k => XS.aloadN X5.here hx rfl (hb hby d12_23) rfl rfl k) ?_
  show Go p e below _ (T5.setTop (mkF m 24 #[.val (.ref a1), .val (.ref a2), .val (.ref a3)] [(.ref a3), (.ref a2)]))
  obtain ⟨T6, h6, X6, e6, W6, st6⟩ := putF X5 hx hZ hown (host := "") (Or.inl (hw _ (List.mem_of_getElem? (i := 84) rfl))) Via.refl e5 F_next_a2_5 E_a2_5 (Or.inl (hw _ (List.mem_of_getElem? (i := 85) rfl))) (hw _ (List.mem_of_getElem? (i := 1) rfl)) (ty := (.object "com/example/dataflow_to_dispatch/dataflowtodispatch/model/document/XmlElement")) (by decide) rfl rfl (g := (mkF m 24 #[.val (.ref a1), .val (.ref a2), .val (.ref a3)] [(.ref a3), (.ref a2)])) rfl rfl (hb hby d12_24)
  refine Go.step st6 ?_
  have N6 := Fr.snoc X6 N5 g_a2
  have E_a2_6 := E_a2_5.wr W6
  have F_name_a2_6 := F_name_a2_5.other W6 (Or.inr (slot_ne (Or.inr (hw _ (List.mem_of_getElem? (i := 66) rfl))) (Or.inl (hw _ (List.mem_of_getElem? (i := 85) rfl))) (by decide) (t := (.object "java/lang/String")) (t' := (.object "com/example/dataflow_to_dispatch/dataflowtodispatch/model/document/XmlElement")) (by decide) (by decide)))
  have F_previous_a2_6 := F_previous_a2_5.other W6 (Or.inr (slot_ne (Or.inl (hw _ (List.mem_of_getElem? (i := 81) rfl))) (Or.inl (hw _ (List.mem_of_getElem? (i := 85) rfl))) (by decide) (t := (.object "com/example/dataflow_to_dispatch/dataflowtodispatch/model/document/XmlElement")) (t' := (.object "com/example/dataflow_to_dispatch/dataflowtodispatch/model/document/XmlElement")) (by decide) (by decide)))
  have E_a3_6 := E_a3_5.wr W6
  have F_name_a3_6 := F_name_a3_5.other W6 (Or.inl hne_a3_a2)
  have F_parent_a3_6 := F_parent_a3_5.other W6 (Or.inl hne_a3_a2)
  have F_previous_a3_6 := F_previous_a3_5.other W6 (Or.inl hne_a3_a2)
  have F_next_a3_6 := F_next_a3_5.other W6 (Or.inl hne_a3_a2)
  have Z6 := Nat.le_trans Z5 (Keep.of_wr W6).1
  have KK6 : Keep h0 h6 [a3, a2] := KK5.wr W6 (Or.inl (by simp))
  clear E_a2_5 F_name_a2_5 F_previous_a2_5 E_a3_5 F_name_a3_5 F_parent_a3_5 F_previous_a3_5 F_next_a3_5 Z5 KK5
  have F_next_a2_6 := F_next_a2_5.same W6
  show Go p e below _ (T6.setTop (mkF m 27 #[.val (.ref a1), .val (.ref a2), .val (.ref a3)] []))
  refine retGV X6 hx Bd.notSynchronized Bd.returns (hb hby d12_27) ?_ (by decide) (by decide)
  show Q12_r Z a1 a2 a3 u_name_a2 u_previous_a2 u_next_a2 u_name_a3 u_parent_a3 u_previous_a3 u_next_a3 h0 n0 _ T6.heap _
  rw [e6]
  exact ⟨rfl, N6, KK6, E_a2_6, F_name_a2_6, F_previous_a2_6, F_next_a2_6, E_a3_6, F_name_a3_6, F_parent_a3_6, F_previous_a3_6, F_next_a3_6⟩
theorem d11_0 : decode prog_109_method_14_code 0 = .ok (.aload_n 0, 1) := by decide +kernel
theorem d11_1 : decode prog_109_method_14_code 1 = .ok (.aload_n 0, 1) := by decide +kernel
theorem d11_2 : decode prog_109_method_14_code 2 = .ok (.getfield 119, 3) := by decide +kernel
theorem d11_5 : decode prog_109_method_14_code 5 = .ok (.aload_n 1, 1) := by decide +kernel
theorem d11_6 : decode prog_109_method_14_code 6 = .ok (.invokevirtual 122, 3) := by decide +kernel
theorem pd_5 : parseMethodDescriptor "(Lcom/example/dataflow_to_dispatch/dataflowtodispatch/model/document/XmlElement;Lcom/example/dataflow_to_dispatch/dataflowtodispatch/model/document/XmlElement;)V" = some ⟨[(.object "com/example/dataflow_to_dispatch/dataflowtodispatch/model/document/XmlElement"), (.object "com/example/dataflow_to_dispatch/dataflowtodispatch/model/document/XmlElement")], none⟩ := by decide +kernel
theorem d11_9 : decode prog_109_method_14_code 9 = .ok (.aload_n 0, 1) := by decide +kernel
theorem d11_10 : decode prog_109_method_14_code 10 = .ok (.aload_n 1, 1) := by decide +kernel
theorem d11_11 : decode prog_109_method_14_code 11 = .ok (.putfield 119, 3) := by decide +kernel
theorem d11_14 : decode prog_109_method_14_code 14 = .ok (.aload_n 1, 1) := by decide +kernel
theorem d11_15 : decode prog_109_method_14_code 15 = .ok (.areturn, 1) := by decide +kernel
theorem ef_11_n (m : MethodId) (a1 : Addr) (a2 : Addr) : entryFrame m #[(.ref a1), (.ref a2)] 2 = mkF m 0 #[.val (.ref a1), .val (.ref a2)] [] := by first | (simp [entryFrame, mkF, argsToLocals, Value.category]; done) | rfl
def Q11_n (Z : State) (a1 : Addr) (a2 : Addr) (u_firstChild_a1 : Value) (u_name_a2 : Value) (u_parent_a2 : Value) (u_previous_a2 : Value) (u_next_a2 : Value) (h0 : Heap) (n0 : Nat) (v : Option Value) (h : Heap) (L : List Loc) : Prop := v = some (.ref a2) ∧ Fr n0 L ∧ Keep h0 h [a2, a1] ∧ Exa Z h a1 "com/example/dataflow_to_dispatch/dataflowtodispatch/model/document/XmlElement" ∧ Exa Z h a2 "com/example/dataflow_to_dispatch/dataflowtodispatch/model/document/XmlElement" ∧ Fld Z h a1 "com/example/dataflow_to_dispatch/dataflowtodispatch/model/document/XmlElement" "lastChild" "Lcom/example/dataflow_to_dispatch/dataflowtodispatch/model/document/XmlElement;" (.ref a2) ∧ Fld Z h a1 "com/example/dataflow_to_dispatch/dataflowtodispatch/model/document/XmlElement" "firstChild" "Lcom/example/dataflow_to_dispatch/dataflowtodispatch/model/document/XmlElement;" (.ref a2) ∧ Fld Z h a2 "com/example/dataflow_to_dispatch/dataflowtodispatch/model/document/XmlElement" "name" "Ljava/lang/String;" u_name_a2 ∧ Fld Z h a2 "com/example/dataflow_to_dispatch/dataflowtodispatch/model/document/XmlElement" "parent" "Lcom/example/dataflow_to_dispatch/dataflowtodispatch/model/document/XmlElement;" (.ref a1) ∧ Fld Z h a2 "com/example/dataflow_to_dispatch/dataflowtodispatch/model/document/XmlElement" "previous" "Lcom/example/dataflow_to_dispatch/dataflowtodispatch/model/document/XmlElement;" .null ∧ Fld Z h a2 "com/example/dataflow_to_dispatch/dataflowtodispatch/model/document/XmlElement" "next" "Lcom/example/dataflow_to_dispatch/dataflowtodispatch/model/document/XmlElement;" u_next_a2
set_option maxRecDepth 65536 in
set_option maxHeartbeats 40000000 in
theorem rm11_n (l : Launch) (Z : State) (a0 : Array Value) (hw : ∀ d ∈ tables_1, d.before a0 Z = true) (ws : List Jvm.Cond) (a1 : Addr) (a2 : Addr) (u_firstChild_a1 : Value) (u_name_a2 : Value) (u_parent_a2 : Value) (u_previous_a2 : Value) (u_next_a2 : Value) (h0 : Heap) (n0 : Nat) (Z0 : n0 ≤ h0.size) (E_a1 : Exa Z h0 a1 "com/example/dataflow_to_dispatch/dataflowtodispatch/model/document/XmlElement") (F_firstChild_a1 : Fld Z h0 a1 "com/example/dataflow_to_dispatch/dataflowtodispatch/model/document/XmlElement" "firstChild" "Lcom/example/dataflow_to_dispatch/dataflowtodispatch/model/document/XmlElement;" u_firstChild_a1) (F_lastChild_a1 : Fld Z h0 a1 "com/example/dataflow_to_dispatch/dataflowtodispatch/model/document/XmlElement" "lastChild" "Lcom/example/dataflow_to_dispatch/dataflowtodispatch/model/document/XmlElement;" .null) (E_a2 : Exa Z h0 a2 "com/example/dataflow_to_dispatch/dataflowtodispatch/model/document/XmlElement") (F_name_a2 : Fld Z h0 a2 "com/example/dataflow_to_dispatch/dataflowtodispatch/model/document/XmlElement" "name" "Ljava/lang/String;" u_name_a2) (F_parent_a2 : Fld Z h0 a2 "com/example/dataflow_to_dispatch/dataflowtodispatch/model/document/XmlElement" "parent" "Lcom/example/dataflow_to_dispatch/dataflowtodispatch/model/document/XmlElement;" u_parent_a2) (F_previous_a2 : Fld Z h0 a2 "com/example/dataflow_to_dispatch/dataflowtodispatch/model/document/XmlElement" "previous" "Lcom/example/dataflow_to_dispatch/dataflowtodispatch/model/document/XmlElement;" u_previous_a2) (F_next_a2 : Fld Z h0 a2 "com/example/dataflow_to_dispatch/dataflowtodispatch/model/document/XmlElement" "next" "Lcom/example/dataflow_to_dispatch/dataflowtodispatch/model/document/XmlElement;" u_next_a2) (g_a2 : n0 ≤ a2) (g_a1 : n0 ≤ a1) (hne_a1_a2 : a1 ≠ a2) (hne_a2_a1 : a2 ≠ a1) :
    MetFree l (⟨"com/example/dataflow_to_dispatch/dataflowtodispatch/model/document/XmlElement", "append", "(Lcom/example/dataflow_to_dispatch/dataflowtodispatch/model/document/XmlElement;)Lcom/example/dataflow_to_dispatch/dataflowtodispatch/model/document/XmlElement;"⟩ : MethodName) (head1 (Jvm.Cond.code (⟨"com/example/dataflow_to_dispatch/dataflowtodispatch/model/document/XmlElement", "append", "(Lcom/example/dataflow_to_dispatch/dataflowtodispatch/model/document/XmlElement;)Lcom/example/dataflow_to_dispatch/dataflowtodispatch/model/document/XmlElement;"⟩ : MethodName) prog_109_method_14_code 2 (some (.object "com/example/dataflow_to_dispatch/dataflowtodispatch/model/document/XmlElement")) :: ws) ({ frames := 1, cells := 0, slots := 0, locals := 14 } : Room)) (fun a U => a = #[(.ref a1), (.ref a2)] ∧ Z.Warmed39 U.vm ∧ U.heap = h0) (fun _ _ _ _ _ => True) (fun _ U o U' => ∃ v L, o = .returned v ∧ Q11_n Z a1 a2 u_firstChild_a1 u_name_a2 u_parent_a2 u_previous_a2 u_next_a2 h0 n0 v U'.heap L ∧ FrameEnd U o U' L ({ frames := 1, cells := 0, slots := 0, locals := 14 } : Room).cells ({ frames := 1, cells := 0, slots := 0, locals := 14 } : Room).slots) := by
  refine MetFree.of_bodySF (plainFor_of_name pn_5) hisR ?_
  intro p e s m args below meth c s₁ Bd hml0 hP hK
  obtain ⟨rfl, hZ, hh⟩ := hP
  have hx := Bd.exec
  have hby := Bd.bytes
  have hml : c.maxLocals = 2 := hml0
  have hown : s.vm.findClass "com/example/dataflow_to_dispatch/dataflowtodispatch/model/document/XmlElement" = some m.cls := findClass_of_methodNamed Bd.named
  have hnm := (name_of_methodNamed Bd.named Bd.method).1
  have X0 : Stand p l e ({ frames := 1, cells := 0, slots := 0, locals := 14 } : Room) s m #[(.ref a1), (.ref a2)] below meth c s₁ [] 0 0 := Stand.of_body Bd
  have e0 : s₁.heap = h0 := by rw [← hh, Bd.state]; rfl
  have N0 := Fr.nil n0
  refine Go.done (Go.step (fun t k => castTop (ef_11_n m a1 a2) k) ?_)
  have KK0 : Keep h0 h0 [a2, a1] := Keep.refl _ _
  show Go p e below _ (s₁.setTop (mkF m 0 #[.val (.ref a1), .val (.ref a2)] []))
  refine Go.step (fun t k => XS.aloadN X0.here hx rfl (hb hby d11_0) rfl rfl k) ?_
  show Go p e below _ (s₁.setTop (mkF m 1 #[.val (.ref a1), .val (.ref a2)] [(.ref a1)]))
  refine Go.step (fun t k => XS.aloadN X0.here hx rfl (hb hby d11_1) rfl rfl k) ?_
  show Go p e below _ (s₁.setTop (mkF m 2 #[.val (.ref a1), .val (.ref a2)] [(.ref a1), (.ref a1)]))
  obtain ⟨T3, X3, e3, st3⟩ := getF X0 hx hZ hown (host := "") (Or.inl (hw _ (List.mem_of_getElem? (i := 72) rfl))) Via.refl e0 F_lastChild_a1 (g := (mkF m 2 #[.val (.ref a1), .val (.ref a2)] [(.ref a1), (.ref a1)])) rfl rfl (hb hby d11_2)
  refine Go.step st3 ?_
  show Go p e below _ (T3.setTop (mkF m 5 #[.val (.ref a1), .val (.ref a2)] [.null, (.ref a1)]))
  refine Go.step (fun t k => XS.aloadN X3.here hx rfl (hb hby d11_5) rfl rfl k) ?_
  show Go p e below _ (T3.setTop (mkF m 6 #[.val (.ref a1), .val (.ref a2)] [(.ref a2), .null, (.ref a1)]))
  obtain ⟨cq4, q4, q4'⟩ := E_a1.cell
  obtain ⟨_, _, ⟨T4, L4, k4, n4⟩, -, X4, ⟨Lc4, hQ4, l4, y4, z4⟩, st4⟩ := X3.privateBack hx (y := (⟨"com/example/dataflow_to_dispatch/dataflowtodispatch/model/document/XmlElement", "linkAfter", "(Lcom/example/dataflow_to_dispatch/dataflowtodispatch/model/document/XmlElement;Lcom/example/dataflow_to_dispatch/dataflowtodispatch/model/document/XmlElement;)V"⟩ : MethodName)) hown (mvT hZ (hw _ (List.mem_of_getElem? (i := 74) rfl))) (mvT hZ (hw _ (List.mem_of_getElem? (i := 75) rfl))) (selP (mvT hZ (hw _ (List.mem_of_getElem? (i := 70) rfl))) rfl (Cond.privateMethod_at (mvP hZ (hw _ (List.mem_of_getElem? (i := 76) rfl)) (args := #[]))) (mvT hZ (hw _ (List.mem_of_getElem? (i := 75) rfl))) (by decide)) (Cond.privateMethod_at (mvP hZ (hw _ (List.mem_of_getElem? (i := 76) rfl)) (args := #[]))) (mvT hZ (hw _ (List.mem_of_getElem? (i := 77) rfl))) (by decide) (backOf (W := 0) (rm12_n l Z a0 hw [] a1 a2 .null u_firstChild_a1 u_name_a2 u_parent_a2 u_previous_a2 u_next_a2 h0 n0 Z0 E_a1 F_lastChild_a1 F_firstChild_a1 E_a2 F_name_a2 F_parent_a2 F_previous_a2 F_next_a2 g_a2 hne_a1_a2 g_a1 hne_a2_a1) hZ (hw _ (List.mem_of_getElem? (i := 77) rfl)) (hw _ (List.mem_of_getElem? (i := 2) rfl)) (by decide) (by decide)) (g := (mkF m 6 #[.val (.ref a1), .val (.ref a2)] [(.ref a2), .null, (.ref a1)])) rfl (by rw [hml]; rfl) (Steps.refl _) (a := a1) (by rw [e3]; exact q4) q4' (argsL := [.null, (.ref a2)]) (rest := []) (lenOf pd_5 rfl) rfl (by show 2 * 0 + _ ≤ _; exact Nat.le_of_eq rfl) (hb hby d11_6) (fun _ _ => ⟨rfl, e3, (by decide : 0 + 0 ≤ _), (by decide : 0 + 0 ≤ _)⟩)
  dsimp only [Pt.U, Pt.locs, Pt.cells, Pt.slots] at X4 l4 y4 z4 st4 hQ4
  replace y4 : k4 = 0 := y4
  replace z4 : n4 = 0 := z4
  subst y4 z4
  obtain ⟨rfl, N4q, K4, Q4_0, Q4_1, Q4_2, Q4_3, Q4_4, Q4_5, Q4_6, Q4_7⟩ := hQ4
  have N4 : Fr n0 L4 := Eq.mpr (congrArg (Fr n0) l4) (Fr.app N0 N4q)
  have E_a1_4 := E_a1.keep K4
  have E_a2_4 := E_a2.keep K4
  have Z4 := Nat.le_trans Z0 K4.1
  have KK4 : Keep h0 T4.heap [a2, a1] := KK0.trans K4 (allS (Or.inl (by simp)) (allS (Or.inl (by simp)) all0))
  clear E_a1 E_a2 Z0 KK0 K4
  refine Go.trans st4 ?_
  show Go p e below _ (T4.setTop (mkF m 9 #[.val (.ref a1), .val (.ref a2)] []))
  refine Go.step (fun t k => XS.aloadN X4.here hx rfl (hb hby d11_9) rfl rfl k) ?_
  show Go p e below _ (T4.setTop (mkF m 10 #[.val (.ref a1), .val (.ref a2)] [(.ref a1)]))
  refine Go.step (fun t k => XS.aloadN X4.here hx rfl (hb hby d11_10) rfl rfl k) ?_
  show Go p e below _ (T4.setTop (mkF m 11 #[.val (.ref a1), .val (.ref a2)] [(.ref a2), (.ref a1)]))
  obtain ⟨T5, h5, X5, e5, W5, st5⟩ := putF X4 hx hZ hown (host := "") (Or.inl (hw _ (List.mem_of_getElem? (i := 72) rfl))) Via.refl rfl Q4_1 Q4_0 (Or.inl (hw _ (List.mem_of_getElem? (i := 73) rfl))) (hw _ (List.mem_of_getElem? (i := 1) rfl)) (ty := (.object "com/example/dataflow_to_dispatch/dataflowtodispatch/model/document/XmlElement")) (by decide) rfl rfl (g := (mkF m 11 #[.val (.ref a1), .val (.ref a2)] [(.ref a2), (.ref a1)])) rfl rfl (hb hby d11_11)
  refine Go.step st5 ?_
  have N5 := Fr.snoc X5 N4 g_a1
  have E_a1_5 := Q4_0.wr W5
  have E_a2_5 := Q4_3.wr W5
  have F_firstChild_a1_5 := Q4_2.other W5 (Or.inr (slot_ne (Or.inl (hw _ (List.mem_of_getElem? (i := 83) rfl))) (Or.inl (hw _ (List.mem_of_getElem? (i := 73) rfl))) (by decide) (t := (.object "com/example/dataflow_to_dispatch/dataflowtodispatch/model/document/XmlElement")) (t' := (.object "com/example/dataflow_to_dispatch/dataflowtodispatch/model/document/XmlElement")) (by decide) (by decide)))
  have F_name_a2_5 := Q4_4.other W5 (Or.inl hne_a2_a1)
  have F_parent_a2_5 := Q4_5.other W5 (Or.inl hne_a2_a1)
  have F_previous_a2_5 := Q4_6.other W5 (Or.inl hne_a2_a1)
  have F_next_a2_5 := Q4_7.other W5 (Or.inl hne_a2_a1)
  have Z5 := Nat.le_trans Z4 (Keep.of_wr W5).1
  have KK5 : Keep h0 h5 [a2, a1] := KK4.wr W5 (Or.inl (by simp))
  clear Q4_0 Q4_3 Q4_2 Q4_4 Q4_5 Q4_6 Q4_7 Z4 KK4
  have F_lastChild_a1_5 := Q4_1.same W5
  show Go p e below _ (T5.setTop (mkF m 14 #[.val (.ref a1), .val (.ref a2)] []))
  refine Go.step (fun t k => XS.aloadN X5.here hx rfl (hb hby d11_14) rfl rfl k) ?_
  show Go p e below _ (T5.setTop (mkF m 15 #[.val (.ref a1), .val (.ref a2)] [(.ref a2)]))
  refine retGR X5 hx Bd.notSynchronized Bd.returns rfl rfl (hb hby d11_15) ?_ (by decide) (by decide)
  show Q11_n Z a1 a2 u_firstChild_a1 u_name_a2 u_parent_a2 u_previous_a2 u_next_a2 h0 n0 _ T5.heap _
  rw [e5]
  exact ⟨rfl, N5, KK5, E_a1_5, E_a2_5, F_lastChild_a1_5, F_firstChild_a1_5, F_name_a2_5, F_parent_a2_5, F_previous_a2_5, F_next_a2_5⟩
theorem ef_11_r (m : MethodId) (a1 : Addr) (a2 : Addr) : entryFrame m #[(.ref a1), (.ref a2)] 2 = mkF m 0 #[.val (.ref a1), .val (.ref a2)] [] := by first | (simp [entryFrame, mkF, argsToLocals, Value.category]; done) | rfl
def Q11_r (Z : State) (a1 : Addr) (a2 : Addr) (o_lastChild_a1 : Addr) (u_name_o_lastChild_a1 : Value) (u_previous_o_lastChild_a1 : Value) (u_next_o_lastChild_a1 : Value) (u_name_a2 : Value) (u_parent_a2 : Value) (u_previous_a2 : Value) (u_next_a2 : Value) (h0 : Heap) (n0 : Nat) (v : Option Value) (h : Heap) (L : List Loc) : Prop := v = some (.ref a2) ∧ Fr n0 L ∧ Keep h0 h [a2, o_lastChild_a1, a1] ∧ Fld Z h a1 "com/example/dataflow_to_dispatch/dataflowtodispatch/model/document/XmlElement" "lastChild" "Lcom/example/dataflow_to_dispatch/dataflowtodispatch/model/document/XmlElement;" (.ref a2) ∧ Exa Z h o_lastChild_a1 "com/example/dataflow_to_dispatch/dataflowtodispatch/model/document/XmlElement" ∧ Exa Z h a2 "com/example/dataflow_to_dispatch/dataflowtodispatch/model/document/XmlElement" ∧ Exa Z h a1 "com/example/dataflow_to_dispatch/dataflowtodispatch/model/document/XmlElement" ∧ Fld Z h o_lastChild_a1 "com/example/dataflow_to_dispatch/dataflowtodispatch/model/document/XmlElement" "name" "Ljava/lang/String;" u_name_o_lastChild_a1 ∧ Fld Z h o_lastChild_a1 "com/example/dataflow_to_dispatch/dataflowtodispatch/model/document/XmlElement" "previous" "Lcom/example/dataflow_to_dispatch/dataflowtodispatch/model/document/XmlElement;" u_previous_o_lastChild_a1 ∧ Fld Z h o_lastChild_a1 "com/example/dataflow_to_dispatch/dataflowtodispatch/model/document/XmlElement" "next" "Lcom/example/dataflow_to_dispatch/dataflowtodispatch/model/document/XmlElement;" (.ref a2) ∧ Fld Z h a2 "com/example/dataflow_to_dispatch/dataflowtodispatch/model/document/XmlElement" "name" "Ljava/lang/String;" u_name_a2 ∧ Fld Z h a2 "com/example/dataflow_to_dispatch/dataflowtodispatch/model/document/XmlElement" "parent" "Lcom/example/dataflow_to_dispatch/dataflowtodispatch/model/document/XmlElement;" (.ref a1) ∧ Fld Z h a2 "com/example/dataflow_to_dispatch/dataflowtodispatch/model/document/XmlElement" "previous" "Lcom/example/dataflow_to_dispatch/dataflowtodispatch/model/document/XmlElement;" (.ref o_lastChild_a1) ∧ Fld Z h a2 "com/example/dataflow_to_dispatch/dataflowtodispatch/model/document/XmlElement" "next" "Lcom/example/dataflow_to_dispatch/dataflowtodispatch/model/document/XmlElement;" u_next_a2
set_option maxRecDepth 65536 in
set_option maxHeartbeats 40000000 in
theorem rm11_r (l : Launch) (Z : State) (a0 : Array Value) (hw : ∀ d ∈ tables_1, d.before a0 Z = true) (ws : List Jvm.Cond) (a1 : Addr) (a2 : Addr) (o_lastChild_a1 : Addr) (u_name_o_lastChild_a1 : Value) (u_previous_o_lastChild_a1 : Value) (u_next_o_lastChild_a1 : Value) (u_name_a2 : Value) (u_parent_a2 : Value) (u_previous_a2 : Value) (u_next_a2 : Value) (h0 : Heap) (n0 : Nat) (Z0 : n0 ≤ h0.size) (F_lastChild_a1 : Fld Z h0 a1 "com/example/dataflow_to_dispatch/dataflowtodispatch/model/document/XmlElement" "lastChild" "Lcom/example/dataflow_to_dispatch/dataflowtodispatch/model/document/XmlElement;" (.ref o_lastChild_a1)) (E_o_lastChild_a1 : Exa Z h0 o_lastChild_a1 "com/example/dataflow_to_dispatch/dataflowtodispatch/model/document/XmlElement") (F_name_o_lastChild_a1 : Fld Z h0 o_lastChild_a1 "com/example/dataflow_to_dispatch/dataflowtodispatch/model/document/XmlElement" "name" "Ljava/lang/String;" u_name_o_lastChild_a1) (F_previous_o_lastChild_a1 : Fld Z h0 o_lastChild_a1 "com/example/dataflow_to_dispatch/dataflowtodispatch/model/document/XmlElement" "previous" "Lcom/example/dataflow_to_dispatch/dataflowtodispatch/model/document/XmlElement;" u_previous_o_lastChild_a1) (F_next_o_lastChild_a1 : Fld Z h0 o_lastChild_a1 "com/example/dataflow_to_dispatch/dataflowtodispatch/model/document/XmlElement" "next" "Lcom/example/dataflow_to_dispatch/dataflowtodispatch/model/document/XmlElement;" u_next_o_lastChild_a1) (E_a2 : Exa Z h0 a2 "com/example/dataflow_to_dispatch/dataflowtodispatch/model/document/XmlElement") (F_name_a2 : Fld Z h0 a2 "com/example/dataflow_to_dispatch/dataflowtodispatch/model/document/XmlElement" "name" "Ljava/lang/String;" u_name_a2) (F_parent_a2 : Fld Z h0 a2 "com/example/dataflow_to_dispatch/dataflowtodispatch/model/document/XmlElement" "parent" "Lcom/example/dataflow_to_dispatch/dataflowtodispatch/model/document/XmlElement;" u_parent_a2) (F_previous_a2 : Fld Z h0 a2 "com/example/dataflow_to_dispatch/dataflowtodispatch/model/document/XmlElement" "previous" "Lcom/example/dataflow_to_dispatch/dataflowtodispatch/model/document/XmlElement;" u_previous_a2) (F_next_a2 : Fld Z h0 a2 "com/example/dataflow_to_dispatch/dataflowtodispatch/model/document/XmlElement" "next" "Lcom/example/dataflow_to_dispatch/dataflowtodispatch/model/document/XmlElement;" u_next_a2) (g_a2 : n0 ≤ a2) (g_o_lastChild_a1 : n0 ≤ o_lastChild_a1) (hne_o_lastChild_a1_a2 : o_lastChild_a1 ≠ a2) (hne_a2_o_lastChild_a1 : a2 ≠ o_lastChild_a1) (E_a1 : Exa Z h0 a1 "com/example/dataflow_to_dispatch/dataflowtodispatch/model/document/XmlElement") (hne_a1_o_lastChild_a1 : a1 ≠ o_lastChild_a1) (hne_a1_a2 : a1 ≠ a2) (g_a1 : n0 ≤ a1) (hne_o_lastChild_a1_a1 : o_lastChild_a1 ≠ a1) (hne_a2_a1 : a2 ≠ a1) :
    MetFree l (⟨"com/example/dataflow_to_dispatch/dataflowtodispatch/model/document/XmlElement", "append", "(Lcom/example/dataflow_to_dispatch/dataflowtodispatch/model/document/XmlElement;)Lcom/example/dataflow_to_dispatch/dataflowtodispatch/model/document/XmlElement;"⟩ : MethodName) (head1 (Jvm.Cond.code (⟨"com/example/dataflow_to_dispatch/dataflowtodispatch/model/document/XmlElement", "append", "(Lcom/example/dataflow_to_dispatch/dataflowtodispatch/model/document/XmlElement;)Lcom/example/dataflow_to_dispatch/dataflowtodispatch/model/document/XmlElement;"⟩ : MethodName) prog_109_method_14_code 2 (some (.object "com/example/dataflow_to_dispatch/dataflowtodispatch/model/document/XmlElement")) :: ws) ({ frames := 1, cells := 0, slots := 0, locals := 14 } : Room)) (fun a U => a = #[(.ref a1), (.ref a2)] ∧ Z.Warmed39 U.vm ∧ U.heap = h0) (fun _ _ _ _ _ => True) (fun _ U o U' => ∃ v L, o = .returned v ∧ Q11_r Z a1 a2 o_lastChild_a1 u_name_o_lastChild_a1 u_previous_o_lastChild_a1 u_next_o_lastChild_a1 u_name_a2 u_parent_a2 u_previous_a2 u_next_a2 h0 n0 v U'.heap L ∧ FrameEnd U o U' L ({ frames := 1, cells := 0, slots := 0, locals := 14 } : Room).cells ({ frames := 1, cells := 0, slots := 0, locals := 14 } : Room).slots) := by
  refine MetFree.of_bodySF (plainFor_of_name pn_5) hisR ?_
  intro p e s m args below meth c s₁ Bd hml0 hP hK
  obtain ⟨rfl, hZ, hh⟩ := hP
  have hx := Bd.exec
  have hby := Bd.bytes
  have hml : c.maxLocals = 2 := hml0
  have hown : s.vm.findClass "com/example/dataflow_to_dispatch/dataflowtodispatch/model/document/XmlElement" = some m.cls := findClass_of_methodNamed Bd.named
  have hnm := (name_of_methodNamed Bd.named Bd.method).1
  have X0 : Stand p l e ({ frames := 1, cells := 0, slots := 0, locals := 14 } : Room) s m #[(.ref a1), (.ref a2)] below meth c s₁ [] 0 0 := Stand.of_body Bd
  have e0 : s₁.heap = h0 := by rw [← hh, Bd.state]; rfl
  have N0 := Fr.nil n0
  refine Go.done (Go.step (fun t k => castTop (ef_11_r m a1 a2) k) ?_)
  have KK0 : Keep h0 h0 [a2, o_lastChild_a1, a1] := Keep.refl _ _
  show Go p e below _ (s₁.setTop (mkF m 0 #[.val (.ref a1), .val (.ref a2)] []))
  refine Go.step (fun t k => XS.aloadN X0.here hx rfl (hb hby d11_0) rfl rfl k) ?_
  show Go p e below _ (s₁.setTop (mkF m 1 #[.val (.ref a1), .val (.ref a2)] [(.ref a1)]))
  refine Go.step (fun t k => XS.aloadN X0.here hx rfl (hb hby d11_1) rfl rfl k) ?_
  show Go p e below _ (s₁.setTop (mkF m 2 #[.val (.ref a1), .val (.ref a2)] [(.ref a1), (.ref a1)]))
  obtain ⟨T3, X3, e3, st3⟩ := getF X0 hx hZ hown (host := "") (Or.inl (hw _ (List.mem_of_getElem? (i := 72) rfl))) Via.refl e0 F_lastChild_a1 (g := (mkF m 2 #[.val (.ref a1), .val (.ref a2)] [(.ref a1), (.ref a1)])) rfl rfl (hb hby d11_2)
  refine Go.step st3 ?_
  show Go p e below _ (T3.setTop (mkF m 5 #[.val (.ref a1), .val (.ref a2)] [(.ref o_lastChild_a1), (.ref a1)]))
  refine Go.step (fun t k => XS.aloadN X3.here hx rfl (hb hby d11_5) rfl rfl k) ?_
  show Go p e below _ (T3.setTop (mkF m 6 #[.val (.ref a1), .val (.ref a2)] [(.ref a2), (.ref o_lastChild_a1), (.ref a1)]))
  obtain ⟨cq4, q4, q4'⟩ := E_a1.cell
  obtain ⟨_, _, ⟨T4, L4, k4, n4⟩, -, X4, ⟨Lc4, hQ4, l4, y4, z4⟩, st4⟩ := X3.privateBack hx (y := (⟨"com/example/dataflow_to_dispatch/dataflowtodispatch/model/document/XmlElement", "linkAfter", "(Lcom/example/dataflow_to_dispatch/dataflowtodispatch/model/document/XmlElement;Lcom/example/dataflow_to_dispatch/dataflowtodispatch/model/document/XmlElement;)V"⟩ : MethodName)) hown (mvT hZ (hw _ (List.mem_of_getElem? (i := 74) rfl))) (mvT hZ (hw _ (List.mem_of_getElem? (i := 75) rfl))) (selP (mvT hZ (hw _ (List.mem_of_getElem? (i := 70) rfl))) rfl (Cond.privateMethod_at (mvP hZ (hw _ (List.mem_of_getElem? (i := 76) rfl)) (args := #[]))) (mvT hZ (hw _ (List.mem_of_getElem? (i := 75) rfl))) (by decide)) (Cond.privateMethod_at (mvP hZ (hw _ (List.mem_of_getElem? (i := 76) rfl)) (args := #[]))) (mvT hZ (hw _ (List.mem_of_getElem? (i := 77) rfl))) (by decide) (backOf (W := 0) (rm12_r l Z a0 hw [] a1 o_lastChild_a1 a2 u_name_o_lastChild_a1 u_previous_o_lastChild_a1 u_next_o_lastChild_a1 u_name_a2 u_parent_a2 u_previous_a2 u_next_a2 h0 n0 Z0 E_o_lastChild_a1 F_name_o_lastChild_a1 F_previous_o_lastChild_a1 F_next_o_lastChild_a1 E_a2 F_name_a2 F_parent_a2 F_previous_a2 F_next_a2 g_a2 hne_o_lastChild_a1_a2 g_o_lastChild_a1 hne_a2_o_lastChild_a1) hZ (hw _ (List.mem_of_getElem? (i := 77) rfl)) (hw _ (List.mem_of_getElem? (i := 2) rfl)) (by decide) (by decide)) (g := (mkF m 6 #[.val (.ref a1), .val (.ref a2)] [(.ref a2), (.ref o_lastChild_a1), (.ref a1)])) rfl (by rw [hml]; rfl) (Steps.refl _) (a := a1) (by rw [e3]; exact q4) q4' (argsL := [(.ref o_lastChild_a1), (.ref a2)]) (rest := []) (lenOf pd_5 rfl) rfl (by show 2 * 0 + _ ≤ _; exact Nat.le_of_eq rfl) (hb hby d11_6) (fun _ _ => ⟨rfl, e3, (by decide : 0 + 0 ≤ _), (by decide : 0 + 0 ≤ _)⟩)
  dsimp only [Pt.U, Pt.locs, Pt.cells, Pt.slots] at X4 l4 y4 z4 st4 hQ4
  replace y4 : k4 = 0 := y4
  replace z4 : n4 = 0 := z4
  subst y4 z4
  obtain ⟨rfl, N4q, K4, Q4_0, Q4_1, Q4_2, Q4_3, Q4_4, Q4_5, Q4_6, Q4_7, Q4_8⟩ := hQ4
  have N4 : Fr n0 L4 := Eq.mpr (congrArg (Fr n0) l4) (Fr.app N0 N4q)
  have F_lastChild_a1_4 := F_lastChild_a1.keep K4 (ninS hne_a1_a2 (ninS hne_a1_o_lastChild_a1 nin0))
  have E_o_lastChild_a1_4 := E_o_lastChild_a1.keep K4
  have E_a2_4 := E_a2.keep K4
  have E_a1_4 := E_a1.keep K4
  have Z4 := Nat.le_trans Z0 K4.1
  have KK4 : Keep h0 T4.heap [a2, o_lastChild_a1, a1] := KK0.trans K4 (allS (Or.inl (by simp)) (allS (Or.inl (by simp)) all0))
  clear F_lastChild_a1 E_o_lastChild_a1 E_a2 E_a1 Z0 KK0 K4
  refine Go.trans st4 ?_
  show Go p e below _ (T4.setTop (mkF m 9 #[.val (.ref a1), .val (.ref a2)] []))
  refine Go.step (fun t k => XS.aloadN X4.here hx rfl (hb hby d11_9) rfl rfl k) ?_
  show Go p e below _ (T4.setTop (mkF m 10 #[.val (.ref a1), .val (.ref a2)] [(.ref a1)]))
  refine Go.step (fun t k => XS.aloadN X4.here hx rfl (hb hby d11_10) rfl rfl k) ?_
  show Go p e below _ (T4.setTop (mkF m 11 #[.val (.ref a1), .val (.ref a2)] [(.ref a2), (.ref a1)]))
  obtain ⟨T5, h5, X5, e5, W5, st5⟩ := putF X4 hx hZ hown (host := "") (Or.inl (hw _ (List.mem_of_getElem? (i := 72) rfl))) Via.refl rfl F_lastChild_a1_4 E_a1_4 (Or.inl (hw _ (List.mem_of_getElem? (i := 73) rfl))) (hw _ (List.mem_of_getElem? (i := 1) rfl)) (ty := (.object "com/example/dataflow_to_dispatch/dataflowtodispatch/model/document/XmlElement")) (by decide) rfl rfl (g := (mkF m 11 #[.val (.ref a1), .val (.ref a2)] [(.ref a2), (.ref a1)])) rfl rfl (hb hby d11_11)
  refine Go.step st5 ?_
  have N5 := Fr.snoc X5 N4 g_a1
  have E_o_lastChild_a1_5 := Q4_0.wr W5
  have E_a2_5 := Q4_4.wr W5
  have E_a1_5 := E_a1_4.wr W5
  have F_name_o_lastChild_a1_5 := Q4_1.other W5 (Or.inl hne_o_lastChild_a1_a1)
  have F_previous_o_lastChild_a1_5 := Q4_2.other W5 (Or.inl hne_o_lastChild_a1_a1)
  have F_next_o_lastChild_a1_5 := Q4_3.other W5 (Or.inl hne_o_lastChild_a1_a1)
  have F_name_a2_5 := Q4_5.other W5 (Or.inl hne_a2_a1)
  have F_parent_a2_5 := Q4_6.other W5 (Or.inl hne_a2_a1)
  have F_previous_a2_5 := Q4_7.other W5 (Or.inl hne_a2_a1)
  have F_next_a2_5 := Q4_8.other W5 (Or.inl hne_a2_a1)
  have Z5 := Nat.le_trans Z4 (Keep.of_wr W5).1
  have KK5 : Keep h0 h5 [a2, o_lastChild_a1, a1] := KK4.wr W5 (Or.inl (by simp))
  clear Q4_0 Q4_4 E_a1_4 Q4_1 Q4_2 Q4_3 Q4_5 Q4_6 Q4_7 Q4_8 Z4 KK4
  have F_lastChild_a1_5 := F_lastChild_a1_4.same W5
  show Go p e below _ (T5.setTop (mkF m 14 #[.val (.ref a1), .val (.ref a2)] []))
  refine Go.step (fun t k => XS.aloadN X5.here hx rfl (hb hby d11_14) rfl rfl k) ?_
  show Go p e below _ (T5.setTop (mkF m 15 #[.val (.ref a1), .val (.ref a2)] [(.ref a2)]))
  refine retGR X5 hx Bd.notSynchronized Bd.returns rfl rfl (hb hby d11_15) ?_ (by decide) (by decide)
  show Q11_r Z a1 a2 o_lastChild_a1 u_name_o_lastChild_a1 u_previous_o_lastChild_a1 u_next_o_lastChild_a1 u_name_a2 u_parent_a2 u_previous_a2 u_next_a2 h0 n0 _ T5.heap _
  rw [e5]
  exact ⟨rfl, N5, KK5, F_lastChild_a1_5, E_o_lastChild_a1_5, E_a2_5, E_a1_5, F_name_o_lastChild_a1_5, F_previous_o_lastChild_a1_5, F_next_o_lastChild_a1_5, F_name_a2_5, F_parent_a2_5, F_previous_a2_5, F_next_a2_5⟩
theorem d13_0 : decode method_2_code 0 = .ok (.iload_n 0, 1) := by decide +kernel
theorem d13_1 : decode method_2_code 1 = .ok (.iload_n 2, 1) := by decide +kernel
theorem d13_2 : decode method_2_code 2 = .ok (.if_icmp .ne 12, 3) := by decide +kernel
theorem d13_5 : decode method_2_code 5 = .ok (.iload_n 1, 1) := by decide +kernel
theorem d13_6 : decode method_2_code 6 = .ok (.iload_n 3, 1) := by decide +kernel
theorem d13_7 : decode method_2_code 7 = .ok (.if_icmp .ne 7, 3) := by decide +kernel
theorem d13_10 : decode method_2_code 10 = .ok (.iconst 1, 1) := by decide +kernel
theorem d13_11 : decode method_2_code 11 = .ok (.goto 4, 3) := by decide +kernel
theorem d13_15 : decode method_2_code 15 = .ok (.ireturn, 1) := by decide +kernel
theorem d13_14 : decode method_2_code 14 = .ok (.iconst 0, 1) := by decide +kernel
theorem ef_13 (m : MethodId) (p1 : Int32) (p2 : Int32) (p3 : Int32) (p4 : Int32) : entryFrame m #[(.int p1), (.int p2), (.int p3), (.int p4)] 4 = mkF m 0 #[.val (.int p1), .val (.int p2), .val (.int p3), .val (.int p4)] [] := by first | (simp [entryFrame, mkF, argsToLocals, Value.category]; done) | rfl
theorem pn_6 : plainName "com/example/dataflow_to_dispatch/dataflowtodispatch/model/document/XmlElementPositionPinLaw" = true := by first | (simp [plainName, overriddenIn]; done) | decide +kernel
def f13 (p1 : Int32) (p2 : Int32) (p3 : Int32) (p4 : Int32) : Int32 := (if p1 = p3 then (if p2 = p4 then (1 : Int32) else (0 : Int32)) else (0 : Int32))
set_option maxRecDepth 65536 in
set_option maxHeartbeats 40000000 in
theorem rm13 (l : Launch) (Z : State) (a0 : Array Value) (hw : ∀ d ∈ tables_1, d.before a0 Z = true) (ws : List Jvm.Cond) (p1 : Int32) (p2 : Int32) (p3 : Int32) (p4 : Int32) (h0 : Heap) (n0 : Nat) (Z0 : n0 ≤ h0.size) :
    MetFree l (⟨"com/example/dataflow_to_dispatch/dataflowtodispatch/model/document/XmlElementPositionPinLaw", "same", "(CCCC)I"⟩ : MethodName) (head1 (Jvm.Cond.code (⟨"com/example/dataflow_to_dispatch/dataflowtodispatch/model/document/XmlElementPositionPinLaw", "same", "(CCCC)I"⟩ : MethodName) method_2_code 4 (some .int) :: ws) ({ frames := 0, cells := 0, slots := 0, locals := 0 } : Room)) (fun a U => a = #[(.int p1), (.int p2), (.int p3), (.int p4)] ∧ Z.Warmed39 U.vm ∧ U.heap = h0) (fun _ _ _ _ _ => True) (fun _ U o U' => ∃ v L, o = .returned v ∧ QP (.int (f13 p1 p2 p3 p4)) h0 n0 v U'.heap L ∧ FrameEnd U o U' L ({ frames := 0, cells := 0, slots := 0, locals := 0 } : Room).cells ({ frames := 0, cells := 0, slots := 0, locals := 0 } : Room).slots) := by
  refine MetFree.of_bodySF (plainFor_of_name pn_6) hisR ?_
  intro p e s m args below meth c s₁ Bd hml0 hP hK
  obtain ⟨rfl, hZ, hh⟩ := hP
  have hx := Bd.exec
  have hby := Bd.bytes
  have hml : c.maxLocals = 4 := hml0
  have hown : s.vm.findClass "com/example/dataflow_to_dispatch/dataflowtodispatch/model/document/XmlElementPositionPinLaw" = some m.cls := findClass_of_methodNamed Bd.named
  have hnm := (name_of_methodNamed Bd.named Bd.method).1
  have X0 : Stand p l e ({ frames := 0, cells := 0, slots := 0, locals := 0 } : Room) s m #[(.int p1), (.int p2), (.int p3), (.int p4)] below meth c s₁ [] 0 0 := Stand.of_body Bd
  have e0 : s₁.heap = h0 := by rw [← hh, Bd.state]; rfl
  have N0 := Fr.nil n0
  refine Go.done (Go.step (fun t k => castTop (ef_13 m p1 p2 p3 p4) k) ?_)
  have KK0 : Keep h0 h0 [] := Keep.refl _ _
  show Go p e below _ (s₁.setTop (mkF m 0 #[.val (.int p1), .val (.int p2), .val (.int p3), .val (.int p4)] []))
  refine Go.step (fun t k => XS.iloadN X0.here hx rfl (hb hby d13_0) rfl k) ?_
  show Go p e below _ (s₁.setTop (mkF m 1 #[.val (.int p1), .val (.int p2), .val (.int p3), .val (.int p4)] [(.int p1)]))
  refine Go.step (fun t k => XS.iloadN X0.here hx rfl (hb hby d13_1) rfl k) ?_
  show Go p e below _ (s₁.setTop (mkF m 2 #[.val (.int p1), .val (.int p2), .val (.int p3), .val (.int p4)] [(.int p3), (.int p1)]))
  by_cases hc5 : p1 = p3
  · refine Go.step (fun t k => XS.icmpNo X0.here hx rfl (hb hby d13_2) rfl (teq hc5).2 k) ?_
    show Go p e below _ (s₁.setTop (mkF m 5 #[.val (.int p1), .val (.int p2), .val (.int p3), .val (.int p4)] []))
    refine Go.step (fun t k => XS.iloadN X0.here hx rfl (hb hby d13_5) rfl k) ?_
    show Go p e below _ (s₁.setTop (mkF m 6 #[.val (.int p1), .val (.int p2), .val (.int p3), .val (.int p4)] [(.int p2)]))
    refine Go.step (fun t k => XS.iloadN X0.here hx rfl (hb hby d13_6) rfl k) ?_
    show Go p e below _ (s₁.setTop (mkF m 7 #[.val (.int p1), .val (.int p2), .val (.int p3), .val (.int p4)] [(.int p4), (.int p2)]))
    by_cases hc6 : p2 = p4
    · refine Go.step (fun t k => XS.icmpNo X0.here hx rfl (hb hby d13_7) rfl (teq hc6).2 k) ?_
      show Go p e below _ (s₁.setTop (mkF m 10 #[.val (.int p1), .val (.int p2), .val (.int p3), .val (.int p4)] []))
      refine Go.step (fun t k => XS.iconst X0.here hx rfl (hb hby d13_10)  k) ?_
      show Go p e below _ (s₁.setTop (mkF m 11 #[.val (.int p1), .val (.int p2), .val (.int p3), .val (.int p4)] [(.int (1 : Int32))]))
      refine Go.step (fun t k => XS.goto X0.here hx rfl (pc0 := 11) (pc' := 15) rfl (hb hby d13_11) (by decide) (by decide) k) ?_
      show Go p e below _ (s₁.setTop (mkF m 15 #[.val (.int p1), .val (.int p2), .val (.int p3), .val (.int p4)] [(.int (1 : Int32))]))
      exact retGI X0 hx Bd.notSynchronized Bd.returns (hb hby d13_15) ⟨by first | (simp only [f13, if_pos hc5, if_pos hc6]; done) | rfl | (simp [f13, if_pos hc5, if_pos hc6]; done), N0, e0⟩ (by decide) (by decide)
    · refine Go.step (fun t k => XS.icmpYes X0.here hx rfl (pc0 := 7) (pc' := 14) rfl (hb hby d13_7) rfl (feq hc6).2 (by decide) (by decide) k) ?_
      show Go p e below _ (s₁.setTop (mkF m 14 #[.val (.int p1), .val (.int p2), .val (.int p3), .val (.int p4)] []))
      refine Go.step (fun t k => XS.iconst X0.here hx rfl (hb hby d13_14)  k) ?_
      show Go p e below _ (s₁.setTop (mkF m 15 #[.val (.int p1), .val (.int p2), .val (.int p3), .val (.int p4)] [(.int (0 : Int32))]))
      exact retGI X0 hx Bd.notSynchronized Bd.returns (hb hby d13_15) ⟨by first | (simp only [f13, if_pos hc5, if_neg hc6]; done) | rfl | (simp [f13, if_pos hc5, if_neg hc6]; done), N0, e0⟩ (by decide) (by decide)
  · refine Go.step (fun t k => XS.icmpYes X0.here hx rfl (pc0 := 2) (pc' := 14) rfl (hb hby d13_2) rfl (feq hc5).2 (by decide) (by decide) k) ?_
    show Go p e below _ (s₁.setTop (mkF m 14 #[.val (.int p1), .val (.int p2), .val (.int p3), .val (.int p4)] []))
    refine Go.step (fun t k => XS.iconst X0.here hx rfl (hb hby d13_14)  k) ?_
    show Go p e below _ (s₁.setTop (mkF m 15 #[.val (.int p1), .val (.int p2), .val (.int p3), .val (.int p4)] [(.int (0 : Int32))]))
    exact retGI X0 hx Bd.notSynchronized Bd.returns (hb hby d13_15) ⟨by first | (simp only [f13, if_neg hc5]; done) | rfl | (simp [f13, if_neg hc5]; done), N0, e0⟩ (by decide) (by decide)
theorem d16_0 : decode jdk_43_method_13_code 0 = .ok (.aload_n 0, 1) := by decide +kernel
theorem d16_1 : decode jdk_43_method_13_code 1 = .ok (.arraylength, 1) := by decide +kernel
theorem d16_2 : decode jdk_43_method_13_code 2 = .ok (.aload_n 1, 1) := by decide +kernel
theorem d16_3 : decode jdk_43_method_13_code 3 = .ok (.arraylength, 1) := by decide +kernel
theorem d16_4 : decode jdk_43_method_13_code 4 = .ok (.if_icmp .ne 30, 3) := by decide +kernel
theorem d16_7 : decode jdk_43_method_13_code 7 = .ok (.iconst 0, 1) := by decide +kernel
theorem d16_8 : decode jdk_43_method_13_code 8 = .ok (.istore_n 2, 1) := by decide +kernel
theorem d16_9 : decode jdk_43_method_13_code 9 = .ok (.iload_n 2, 1) := by decide +kernel
theorem d16_10 : decode jdk_43_method_13_code 10 = .ok (.aload_n 0, 1) := by decide +kernel
theorem d16_11 : decode jdk_43_method_13_code 11 = .ok (.arraylength, 1) := by decide +kernel
theorem d16_12 : decode jdk_43_method_13_code 12 = .ok (.if_icmp .ge 20, 3) := by decide +kernel
theorem d16_15 : decode jdk_43_method_13_code 15 = .ok (.aload_n 0, 1) := by decide +kernel
theorem d16_16 : decode jdk_43_method_13_code 16 = .ok (.iload_n 2, 1) := by decide +kernel
theorem d16_17 : decode jdk_43_method_13_code 17 = .ok (.baload, 1) := by decide +kernel
theorem d16_18 : decode jdk_43_method_13_code 18 = .ok (.aload_n 1, 1) := by decide +kernel
theorem d16_19 : decode jdk_43_method_13_code 19 = .ok (.iload_n 2, 1) := by decide +kernel
theorem d16_20 : decode jdk_43_method_13_code 20 = .ok (.baload, 1) := by decide +kernel
theorem d16_21 : decode jdk_43_method_13_code 21 = .ok (.if_icmp .eq 5, 3) := by decide +kernel
theorem d16_26 : decode jdk_43_method_13_code 26 = .ok (.iinc 2 1, 3) := by decide +kernel
theorem d16_29 : decode jdk_43_method_13_code 29 = .ok (.goto (-20), 3) := by decide +kernel
theorem d16_32 : decode jdk_43_method_13_code 32 = .ok (.iconst 1, 1) := by decide +kernel
theorem d16_33 : decode jdk_43_method_13_code 33 = .ok (.ireturn, 1) := by decide +kernel
theorem d16_24 : decode jdk_43_method_13_code 24 = .ok (.iconst 0, 1) := by decide +kernel
theorem d16_25 : decode jdk_43_method_13_code 25 = .ok (.ireturn, 1) := by decide +kernel
theorem ef_16 (m : MethodId) (a1 : Addr) (a2 : Addr) : entryFrame m #[(.ref a1), (.ref a2)] 3 = mkF m 0 #[.val (.ref a1), .val (.ref a2), .unset] [] := by first | (simp [entryFrame, mkF, argsToLocals, Value.category]; done) | rfl
theorem pn_7 : plainName "java/lang/StringLatin1" = true := by first | (simp [plainName, overriddenIn]; done) | decide +kernel
def f16 (g_a1f : Nat → Int32) (g_a2f : Nat → Int32) : Int32 := (if (g_a1f 0) = (g_a2f 0) then (if (g_a1f 1) = (g_a2f 1) then (1 : Int32) else (0 : Int32)) else (0 : Int32))
set_option maxRecDepth 65536 in
set_option maxHeartbeats 40000000 in
theorem rm16 (l : Launch) (Z : State) (a0 : Array Value) (hw : ∀ d ∈ tables_1, d.before a0 Z = true) (ws : List Jvm.Cond) (a1 : Addr) (a2 : Addr) (g_a1f : Nat → Int32) (g_a2f : Nat → Int32) (h0 : Heap) (n0 : Nat) (Z0 : n0 ≤ h0.size) (A_a1 : Ary Z h0 a1 .byte 2 (fun i => .int (g_a1f i))) (A_a2 : Ary Z h0 a2 .byte 2 (fun i => .int (g_a2f i))) :
    MetFree l (⟨"java/lang/StringLatin1", "equals", "([B[B)Z"⟩ : MethodName) (head1 (Jvm.Cond.code (⟨"java/lang/StringLatin1", "equals", "([B[B)Z"⟩ : MethodName) jdk_43_method_13_code 3 (some .boolean) :: ws) ({ frames := 0, cells := 0, slots := 0, locals := 0 } : Room)) (fun a U => a = #[(.ref a1), (.ref a2)] ∧ Z.Warmed39 U.vm ∧ U.heap = h0) (fun _ _ _ _ _ => True) (fun _ U o U' => ∃ v L, o = .returned v ∧ QP (.int (f16 g_a1f g_a2f)) h0 n0 v U'.heap L ∧ FrameEnd U o U' L ({ frames := 0, cells := 0, slots := 0, locals := 0 } : Room).cells ({ frames := 0, cells := 0, slots := 0, locals := 0 } : Room).slots) := by
  refine MetFree.of_bodySF (plainFor_of_name pn_7) hisR ?_
  intro p e s m args below meth c s₁ Bd hml0 hP hK
  obtain ⟨rfl, hZ, hh⟩ := hP
  have hx := Bd.exec
  have hby := Bd.bytes
  have hml : c.maxLocals = 3 := hml0
  have hown : s.vm.findClass "java/lang/StringLatin1" = some m.cls := findClass_of_methodNamed Bd.named
  have hnm := (name_of_methodNamed Bd.named Bd.method).1
  have X0 : Stand p l e ({ frames := 0, cells := 0, slots := 0, locals := 0 } : Room) s m #[(.ref a1), (.ref a2)] below meth c s₁ [] 0 0 := Stand.of_body Bd
  have e0 : s₁.heap = h0 := by rw [← hh, Bd.state]; rfl
  have N0 := Fr.nil n0
  refine Go.done (Go.step (fun t k => castTop (ef_16 m a1 a2) k) ?_)
  have KK0 : Keep h0 h0 [] := Keep.refl _ _
  show Go p e below _ (s₁.setTop (mkF m 0 #[.val (.ref a1), .val (.ref a2), .unset] []))
  refine Go.step (fun t k => XS.aloadN X0.here hx rfl (hb hby d16_0) rfl rfl k) ?_
  show Go p e below _ (s₁.setTop (mkF m 1 #[.val (.ref a1), .val (.ref a2), .unset] [(.ref a1)]))
  refine Go.step (lenA X0 hx hZ e0 A_a1 (g := (mkF m 1 #[.val (.ref a1), .val (.ref a2), .unset] [(.ref a1)])) rfl rfl (hb hby d16_1)) ?_
  show Go p e below _ (s₁.setTop (mkF m 2 #[.val (.ref a1), .val (.ref a2), .unset] [(.int (2 : Int32))]))
  refine Go.step (fun t k => XS.aloadN X0.here hx rfl (hb hby d16_2) rfl rfl k) ?_
  show Go p e below _ (s₁.setTop (mkF m 3 #[.val (.ref a1), .val (.ref a2), .unset] [(.ref a2), (.int (2 : Int32))]))
  refine Go.step (lenA X0 hx hZ e0 A_a2 (g := (mkF m 3 #[.val (.ref a1), .val (.ref a2), .unset] [(.ref a2), (.int (2 : Int32))])) rfl rfl (hb hby d16_3)) ?_
  show Go p e below _ (s₁.setTop (mkF m 4 #[.val (.ref a1), .val (.ref a2), .unset] [(.int (2 : Int32)), (.int (2 : Int32))]))
  refine Go.step (fun t k => XS.icmpNo X0.here hx rfl (hb hby d16_4) rfl (teq (rfl : (2 : Int32) = (2 : Int32))).2 k) ?_
  show Go p e below _ (s₁.setTop (mkF m 7 #[.val (.ref a1), .val (.ref a2), .unset] []))
  refine Go.step (fun t k => XS.iconst X0.here hx rfl (hb hby d16_7)  k) ?_
  show Go p e below _ (s₁.setTop (mkF m 8 #[.val (.ref a1), .val (.ref a2), .unset] [(.int (0 : Int32))]))
  refine Go.step (fun t k => XS.istoreN X0.here hx rfl (hb hby d16_8) rfl (l' := #[.val (.ref a1), .val (.ref a2), .val (.int (0 : Int32))]) rfl k) ?_
  show Go p e below _ (s₁.setTop (mkF m 9 #[.val (.ref a1), .val (.ref a2), .val (.int (0 : Int32))] []))
  refine Go.step (fun t k => XS.iloadN X0.here hx rfl (hb hby d16_9) rfl k) ?_
  show Go p e below _ (s₁.setTop (mkF m 10 #[.val (.ref a1), .val (.ref a2), .val (.int (0 : Int32))] [(.int (0 : Int32))]))
  refine Go.step (fun t k => XS.aloadN X0.here hx rfl (hb hby d16_10) rfl rfl k) ?_
  show Go p e below _ (s₁.setTop (mkF m 11 #[.val (.ref a1), .val (.ref a2), .val (.int (0 : Int32))] [(.ref a1), (.int (0 : Int32))]))
  refine Go.step (lenA X0 hx hZ e0 A_a1 (g := (mkF m 11 #[.val (.ref a1), .val (.ref a2), .val (.int (0 : Int32))] [(.ref a1), (.int (0 : Int32))])) rfl rfl (hb hby d16_11)) ?_
  show Go p e below _ (s₁.setTop (mkF m 12 #[.val (.ref a1), .val (.ref a2), .val (.int (0 : Int32))] [(.int (2 : Int32)), (.int (0 : Int32))]))
  refine Go.step (fun t k => XS.icmpNo X0.here hx rfl (hb hby d16_12) rfl (tlt (by decide : (0 : Int32) < (2 : Int32))).2.1 k) ?_
  show Go p e below _ (s₁.setTop (mkF m 15 #[.val (.ref a1), .val (.ref a2), .val (.int (0 : Int32))] []))
  refine Go.step (fun t k => XS.aloadN X0.here hx rfl (hb hby d16_15) rfl rfl k) ?_
  show Go p e below _ (s₁.setTop (mkF m 16 #[.val (.ref a1), .val (.ref a2), .val (.int (0 : Int32))] [(.ref a1)]))
  refine Go.step (fun t k => XS.iloadN X0.here hx rfl (hb hby d16_16) rfl k) ?_
  show Go p e below _ (s₁.setTop (mkF m 17 #[.val (.ref a1), .val (.ref a2), .val (.int (0 : Int32))] [(.int (0 : Int32)), (.ref a1)]))
  refine Go.step (ldB X0 hx hZ e0 A_a1 (j := (0 : Int32)) (by decide) (by decide) (g := (mkF m 17 #[.val (.ref a1), .val (.ref a2), .val (.int (0 : Int32))] [(.int (0 : Int32)), (.ref a1)])) rfl rfl (hb hby d16_17)) ?_
  show Go p e below _ (s₁.setTop (mkF m 18 #[.val (.ref a1), .val (.ref a2), .val (.int (0 : Int32))] [(.int (g_a1f 0))]))
  refine Go.step (fun t k => XS.aloadN X0.here hx rfl (hb hby d16_18) rfl rfl k) ?_
  show Go p e below _ (s₁.setTop (mkF m 19 #[.val (.ref a1), .val (.ref a2), .val (.int (0 : Int32))] [(.ref a2), (.int (g_a1f 0))]))
  refine Go.step (fun t k => XS.iloadN X0.here hx rfl (hb hby d16_19) rfl k) ?_
  show Go p e below _ (s₁.setTop (mkF m 20 #[.val (.ref a1), .val (.ref a2), .val (.int (0 : Int32))] [(.int (0 : Int32)), (.ref a2), (.int (g_a1f 0))]))
  refine Go.step (ldB X0 hx hZ e0 A_a2 (j := (0 : Int32)) (by decide) (by decide) (g := (mkF m 20 #[.val (.ref a1), .val (.ref a2), .val (.int (0 : Int32))] [(.int (0 : Int32)), (.ref a2), (.int (g_a1f 0))])) rfl rfl (hb hby d16_20)) ?_
  show Go p e below _ (s₁.setTop (mkF m 21 #[.val (.ref a1), .val (.ref a2), .val (.int (0 : Int32))] [(.int (g_a2f 0)), (.int (g_a1f 0))]))
  by_cases hc3 : (g_a1f 0) = (g_a2f 0)
  · refine Go.step (fun t k => XS.icmpYes X0.here hx rfl (pc0 := 21) (pc' := 26) rfl (hb hby d16_21) rfl (teq hc3).1 (by decide) (by decide) k) ?_
    show Go p e below _ (s₁.setTop (mkF m 26 #[.val (.ref a1), .val (.ref a2), .val (.int (0 : Int32))] []))
    refine Go.step (fun t k => XS.iinc X0.here hx rfl (hb hby d16_26) rfl (l' := #[.val (.ref a1), .val (.ref a2), .val (.int (1 : Int32))]) rfl k) ?_
    show Go p e below _ (s₁.setTop (mkF m 29 #[.val (.ref a1), .val (.ref a2), .val (.int (1 : Int32))] []))
    refine Go.step (fun t k => XS.goto X0.here hx rfl (pc0 := 29) (pc' := 9) rfl (hb hby d16_29) (by decide) (by decide) k) ?_
    show Go p e below _ (s₁.setTop (mkF m 9 #[.val (.ref a1), .val (.ref a2), .val (.int (1 : Int32))] []))
    refine Go.step (fun t k => XS.iloadN X0.here hx rfl (hb hby d16_9) rfl k) ?_
    show Go p e below _ (s₁.setTop (mkF m 10 #[.val (.ref a1), .val (.ref a2), .val (.int (1 : Int32))] [(.int (1 : Int32))]))
    refine Go.step (fun t k => XS.aloadN X0.here hx rfl (hb hby d16_10) rfl rfl k) ?_
    show Go p e below _ (s₁.setTop (mkF m 11 #[.val (.ref a1), .val (.ref a2), .val (.int (1 : Int32))] [(.ref a1), (.int (1 : Int32))]))
    refine Go.step (lenA X0 hx hZ e0 A_a1 (g := (mkF m 11 #[.val (.ref a1), .val (.ref a2), .val (.int (1 : Int32))] [(.ref a1), (.int (1 : Int32))])) rfl rfl (hb hby d16_11)) ?_
    show Go p e below _ (s₁.setTop (mkF m 12 #[.val (.ref a1), .val (.ref a2), .val (.int (1 : Int32))] [(.int (2 : Int32)), (.int (1 : Int32))]))
    refine Go.step (fun t k => XS.icmpNo X0.here hx rfl (hb hby d16_12) rfl (tlt (by decide : (1 : Int32) < (2 : Int32))).2.1 k) ?_
    show Go p e below _ (s₁.setTop (mkF m 15 #[.val (.ref a1), .val (.ref a2), .val (.int (1 : Int32))] []))
    refine Go.step (fun t k => XS.aloadN X0.here hx rfl (hb hby d16_15) rfl rfl k) ?_
    show Go p e below _ (s₁.setTop (mkF m 16 #[.val (.ref a1), .val (.ref a2), .val (.int (1 : Int32))] [(.ref a1)]))
    refine Go.step (fun t k => XS.iloadN X0.here hx rfl (hb hby d16_16) rfl k) ?_
    show Go p e below _ (s₁.setTop (mkF m 17 #[.val (.ref a1), .val (.ref a2), .val (.int (1 : Int32))] [(.int (1 : Int32)), (.ref a1)]))
    refine Go.step (ldB X0 hx hZ e0 A_a1 (j := (1 : Int32)) (by decide) (by decide) (g := (mkF m 17 #[.val (.ref a1), .val (.ref a2), .val (.int (1 : Int32))] [(.int (1 : Int32)), (.ref a1)])) rfl rfl (hb hby d16_17)) ?_
    show Go p e below _ (s₁.setTop (mkF m 18 #[.val (.ref a1), .val (.ref a2), .val (.int (1 : Int32))] [(.int (g_a1f 1))]))
    refine Go.step (fun t k => XS.aloadN X0.here hx rfl (hb hby d16_18) rfl rfl k) ?_
    show Go p e below _ (s₁.setTop (mkF m 19 #[.val (.ref a1), .val (.ref a2), .val (.int (1 : Int32))] [(.ref a2), (.int (g_a1f 1))]))
    refine Go.step (fun t k => XS.iloadN X0.here hx rfl (hb hby d16_19) rfl k) ?_
    show Go p e below _ (s₁.setTop (mkF m 20 #[.val (.ref a1), .val (.ref a2), .val (.int (1 : Int32))] [(.int (1 : Int32)), (.ref a2), (.int (g_a1f 1))]))
    refine Go.step (ldB X0 hx hZ e0 A_a2 (j := (1 : Int32)) (by decide) (by decide) (g := (mkF m 20 #[.val (.ref a1), .val (.ref a2), .val (.int (1 : Int32))] [(.int (1 : Int32)), (.ref a2), (.int (g_a1f 1))])) rfl rfl (hb hby d16_20)) ?_
    show Go p e below _ (s₁.setTop (mkF m 21 #[.val (.ref a1), .val (.ref a2), .val (.int (1 : Int32))] [(.int (g_a2f 1)), (.int (g_a1f 1))]))
    by_cases hc4 : (g_a1f 1) = (g_a2f 1)
    · refine Go.step (fun t k => XS.icmpYes X0.here hx rfl (pc0 := 21) (pc' := 26) rfl (hb hby d16_21) rfl (teq hc4).1 (by decide) (by decide) k) ?_
      show Go p e below _ (s₁.setTop (mkF m 26 #[.val (.ref a1), .val (.ref a2), .val (.int (1 : Int32))] []))
      refine Go.step (fun t k => XS.iinc X0.here hx rfl (hb hby d16_26) rfl (l' := #[.val (.ref a1), .val (.ref a2), .val (.int (2 : Int32))]) rfl k) ?_
      show Go p e below _ (s₁.setTop (mkF m 29 #[.val (.ref a1), .val (.ref a2), .val (.int (2 : Int32))] []))
      refine Go.step (fun t k => XS.goto X0.here hx rfl (pc0 := 29) (pc' := 9) rfl (hb hby d16_29) (by decide) (by decide) k) ?_
      show Go p e below _ (s₁.setTop (mkF m 9 #[.val (.ref a1), .val (.ref a2), .val (.int (2 : Int32))] []))
      refine Go.step (fun t k => XS.iloadN X0.here hx rfl (hb hby d16_9) rfl k) ?_
      show Go p e below _ (s₁.setTop (mkF m 10 #[.val (.ref a1), .val (.ref a2), .val (.int (2 : Int32))] [(.int (2 : Int32))]))
      refine Go.step (fun t k => XS.aloadN X0.here hx rfl (hb hby d16_10) rfl rfl k) ?_
      show Go p e below _ (s₁.setTop (mkF m 11 #[.val (.ref a1), .val (.ref a2), .val (.int (2 : Int32))] [(.ref a1), (.int (2 : Int32))]))
      refine Go.step (lenA X0 hx hZ e0 A_a1 (g := (mkF m 11 #[.val (.ref a1), .val (.ref a2), .val (.int (2 : Int32))] [(.ref a1), (.int (2 : Int32))])) rfl rfl (hb hby d16_11)) ?_
      show Go p e below _ (s₁.setTop (mkF m 12 #[.val (.ref a1), .val (.ref a2), .val (.int (2 : Int32))] [(.int (2 : Int32)), (.int (2 : Int32))]))
      refine Go.step (fun t k => XS.icmpYes X0.here hx rfl (pc0 := 12) (pc' := 32) rfl (hb hby d16_12) rfl (flt (by decide : ¬ ((2 : Int32) < (2 : Int32)))).2.1 (by decide) (by decide) k) ?_
      show Go p e below _ (s₁.setTop (mkF m 32 #[.val (.ref a1), .val (.ref a2), .val (.int (2 : Int32))] []))
      refine Go.step (fun t k => XS.iconst X0.here hx rfl (hb hby d16_32)  k) ?_
      show Go p e below _ (s₁.setTop (mkF m 33 #[.val (.ref a1), .val (.ref a2), .val (.int (2 : Int32))] [(.int (1 : Int32))]))
      exact retGN X0 hx Bd.notSynchronized Bd.returns (t := .boolean) (by simp) (z' := (1 : Int32)) rfl (hb hby d16_33) ⟨by first | (simp only [f16, if_pos hc3, if_pos hc4]; done) | rfl | (simp [f16, if_pos hc3, if_pos hc4]; done), N0, e0⟩ (by decide) (by decide)
    · refine Go.step (fun t k => XS.icmpNo X0.here hx rfl (hb hby d16_21) rfl (feq hc4).1 k) ?_
      show Go p e below _ (s₁.setTop (mkF m 24 #[.val (.ref a1), .val (.ref a2), .val (.int (1 : Int32))] []))
      refine Go.step (fun t k => XS.iconst X0.here hx rfl (hb hby d16_24)  k) ?_
      show Go p e below _ (s₁.setTop (mkF m 25 #[.val (.ref a1), .val (.ref a2), .val (.int (1 : Int32))] [(.int (0 : Int32))]))
      exact retGN X0 hx Bd.notSynchronized Bd.returns (t := .boolean) (by simp) (z' := (0 : Int32)) rfl (hb hby d16_25) ⟨by first | (simp only [f16, if_pos hc3, if_neg hc4]; done) | rfl | (simp [f16, if_pos hc3, if_neg hc4]; done), N0, e0⟩ (by decide) (by decide)
  · refine Go.step (fun t k => XS.icmpNo X0.here hx rfl (hb hby d16_21) rfl (feq hc3).1 k) ?_
    show Go p e below _ (s₁.setTop (mkF m 24 #[.val (.ref a1), .val (.ref a2), .val (.int (0 : Int32))] []))
    refine Go.step (fun t k => XS.iconst X0.here hx rfl (hb hby d16_24)  k) ?_
    show Go p e below _ (s₁.setTop (mkF m 25 #[.val (.ref a1), .val (.ref a2), .val (.int (0 : Int32))] [(.int (0 : Int32))]))
    exact retGN X0 hx Bd.notSynchronized Bd.returns (t := .boolean) (by simp) (z' := (0 : Int32)) rfl (hb hby d16_25) ⟨by first | (simp only [f16, if_neg hc3]; done) | rfl | (simp [f16, if_neg hc3]; done), N0, e0⟩ (by decide) (by decide)
theorem d15_0 : decode jdk_42_method_66_code 0 = .ok (.aload_n 0, 1) := by decide +kernel
theorem d15_1 : decode jdk_42_method_66_code 1 = .ok (.aload_n 1, 1) := by decide +kernel
theorem d15_2 : decode jdk_42_method_66_code 2 = .ok (.if_acmp .ne 5, 3) := by decide +kernel
theorem d15_7 : decode jdk_42_method_66_code 7 = .ok (.aload_n 1, 1) := by decide +kernel
theorem d15_8 : decode jdk_42_method_66_code 8 = .ok (.instanceof 10, 3) := by decide +kernel
theorem d15_11 : decode jdk_42_method_66_code 11 = .ok (.ifCond .eq 43, 3) := by decide +kernel
theorem d15_14 : decode jdk_42_method_66_code 14 = .ok (.aload_n 1, 1) := by decide +kernel
theorem d15_15 : decode jdk_42_method_66_code 15 = .ok (.checkcast 10, 3) := by decide +kernel
theorem d15_18 : decode jdk_42_method_66_code 18 = .ok (.astore_n 2, 1) := by decide +kernel
theorem d15_19 : decode jdk_42_method_66_code 19 = .ok (.getstatic 38, 3) := by decide +kernel
theorem d15_22 : decode jdk_42_method_66_code 22 = .ok (.ifCond .eq 14, 3) := by decide +kernel
theorem d15_25 : decode jdk_42_method_66_code 25 = .ok (.aload_n 0, 1) := by decide +kernel
theorem d15_26 : decode jdk_42_method_66_code 26 = .ok (.getfield 15, 3) := by decide +kernel
theorem d15_29 : decode jdk_42_method_66_code 29 = .ok (.aload_n 2, 1) := by decide +kernel
theorem d15_30 : decode jdk_42_method_66_code 30 = .ok (.getfield 15, 3) := by decide +kernel
theorem d15_33 : decode jdk_42_method_66_code 33 = .ok (.if_icmp .ne 21, 3) := by decide +kernel
theorem d15_36 : decode jdk_42_method_66_code 36 = .ok (.aload_n 0, 1) := by decide +kernel
theorem d15_37 : decode jdk_42_method_66_code 37 = .ok (.getfield 9, 3) := by decide +kernel
theorem d15_40 : decode jdk_42_method_66_code 40 = .ok (.aload_n 2, 1) := by decide +kernel
theorem d15_41 : decode jdk_42_method_66_code 41 = .ok (.getfield 9, 3) := by decide +kernel
theorem d15_44 : decode jdk_42_method_66_code 44 = .ok (.invokestatic 541, 3) := by decide +kernel
theorem pd_6 : parseMethodDescriptor "([B[B)Z" = some ⟨[(.array .byte), (.array .byte)], some .boolean⟩ := by decide +kernel
theorem d15_47 : decode jdk_42_method_66_code 47 = .ok (.ifCond .eq 7, 3) := by decide +kernel
theorem d15_54 : decode jdk_42_method_66_code 54 = .ok (.iconst 0, 1) := by decide +kernel
theorem d15_55 : decode jdk_42_method_66_code 55 = .ok (.ireturn, 1) := by decide +kernel
theorem d15_50 : decode jdk_42_method_66_code 50 = .ok (.iconst 1, 1) := by decide +kernel
theorem d15_51 : decode jdk_42_method_66_code 51 = .ok (.goto 4, 3) := by decide +kernel
theorem ef_15 (m : MethodId) (a1 : Addr) (a2 : Addr) : entryFrame m #[(.ref a1), (.ref a2)] 3 = mkF m 0 #[.val (.ref a1), .val (.ref a2), .unset] [] := by first | (simp [entryFrame, mkF, argsToLocals, Value.category]; done) | rfl
def f15 (g_a1 : Nat → Int32) (g_a2 : Nat → Int32) (wC : Int32) : Int32 := (if (f16 g_a1 g_a2) = (0 : Int32) then (0 : Int32) else (1 : Int32))
set_option maxRecDepth 65536 in
set_option maxHeartbeats 40000000 in
theorem rm15 (l : Launch) (Z : State) (a0 : Array Value) (hw : ∀ d ∈ tables_1, d.before a0 Z = true) (ws : List Jvm.Cond) (a1 : Addr) (a2 : Addr) (o_value_a1 : Addr) (g_a1 : Nat → Int32) (o_value_a2 : Addr) (g_a2 : Nat → Int32) (wC : Int32) (h0 : Heap) (n0 : Nat) (Z0 : n0 ≤ h0.size) (E_a1 : Exa Z h0 a1 "java/lang/String") (F_coder_a1 : Fld Z h0 a1 "java/lang/String" "coder" "B" (.int (0 : Int32))) (F_value_a1 : Fld Z h0 a1 "java/lang/String" "value" "[B" (.ref o_value_a1)) (A_o_value_a1 : Ary Z h0 o_value_a1 .byte 2 (fun i => .int (g_a1 i))) (E_a2 : Exa Z h0 a2 "java/lang/String") (F_coder_a2 : Fld Z h0 a2 "java/lang/String" "coder" "B" (.int (0 : Int32))) (F_value_a2 : Fld Z h0 a2 "java/lang/String" "value" "[B" (.ref o_value_a2)) (A_o_value_a2 : Ary Z h0 o_value_a2 .byte 2 (fun i => .int (g_a2 i))) (hne_a1_a2 : a1 ≠ a2) (hC : ¬ (wC = (0 : Int32))) (S_COMPACT_STRINGS : Sta Z Z.heap "java/lang/String" "COMPACT_STRINGS" "Z" (.int wC)) (hO : Old Z n0 h0) :
    MetFree l (⟨"java/lang/String", "equals", "(Ljava/lang/Object;)Z"⟩ : MethodName) (head1 (Jvm.Cond.code (⟨"java/lang/String", "equals", "(Ljava/lang/Object;)Z"⟩ : MethodName) jdk_42_method_66_code 3 (some .boolean) :: ws) ({ frames := 1, cells := 0, slots := 0, locals := 14 } : Room)) (fun a U => a = #[(.ref a1), (.ref a2)] ∧ Z.Warmed39 U.vm ∧ U.heap = h0) (fun _ _ _ _ _ => True) (fun _ U o U' => ∃ v L, o = .returned v ∧ QP (.int (f15 g_a1 g_a2 wC)) h0 n0 v U'.heap L ∧ FrameEnd U o U' L ({ frames := 1, cells := 0, slots := 0, locals := 14 } : Room).cells ({ frames := 1, cells := 0, slots := 0, locals := 14 } : Room).slots) := by
  refine MetFree.of_bodySF (plainFor_of_name pn_1) hisR ?_
  intro p e s m args below meth c s₁ Bd hml0 hP hK
  obtain ⟨rfl, hZ, hh⟩ := hP
  have hx := Bd.exec
  have hby := Bd.bytes
  have hml : c.maxLocals = 3 := hml0
  have hown : s.vm.findClass "java/lang/String" = some m.cls := findClass_of_methodNamed Bd.named
  have hnm := (name_of_methodNamed Bd.named Bd.method).1
  have X0 : Stand p l e ({ frames := 1, cells := 0, slots := 0, locals := 14 } : Room) s m #[(.ref a1), (.ref a2)] below meth c s₁ [] 0 0 := Stand.of_body Bd
  have e0 : s₁.heap = h0 := by rw [← hh, Bd.state]; rfl
  have N0 := Fr.nil n0
  refine Go.done (Go.step (fun t k => castTop (ef_15 m a1 a2) k) ?_)
  have KK0 : Keep h0 h0 [] := Keep.refl _ _
  show Go p e below _ (s₁.setTop (mkF m 0 #[.val (.ref a1), .val (.ref a2), .unset] []))
  refine Go.step (fun t k => XS.aloadN X0.here hx rfl (hb hby d15_0) rfl rfl k) ?_
  show Go p e below _ (s₁.setTop (mkF m 1 #[.val (.ref a1), .val (.ref a2), .unset] [(.ref a1)]))
  refine Go.step (fun t k => XS.aloadN X0.here hx rfl (hb hby d15_1) rfl rfl k) ?_
  show Go p e below _ (s₁.setTop (mkF m 2 #[.val (.ref a1), .val (.ref a2), .unset] [(.ref a2), (.ref a1)]))
  refine Go.step (fun t k => Jvm.RoadKit.acmp (g := (mkF m 2 #[.val (.ref a1), .val (.ref a2), .unset] [(.ref a2), (.ref a1)])) X0 hx rfl rfl rfl (pc0 := 2) (pc' := 7) (same := false) rfl (hb hby d15_2) rfl (decide_eq_false fun q => hne_a1_a2 (Value.ref.inj q)) (by decide) (by decide) k) ?_
  show Go p e below _ (s₁.setTop (mkF m 7 #[.val (.ref a1), .val (.ref a2), .unset] []))
  refine Go.step (fun t k => XS.aloadN X0.here hx rfl (hb hby d15_7) rfl rfl k) ?_
  show Go p e below _ (s₁.setTop (mkF m 8 #[.val (.ref a1), .val (.ref a2), .unset] [(.ref a2)]))
  obtain ⟨T3, X3, e3, st3⟩ := instY X0 hx hZ hown (hw _ (List.mem_of_getElem? (i := 100) rfl)) e0 (Ins.self E_a2) (g := (mkF m 8 #[.val (.ref a1), .val (.ref a2), .unset] [(.ref a2)])) rfl rfl (hb hby d15_8)
  refine Go.step st3 ?_
  show Go p e below _ (T3.setTop (mkF m 11 #[.val (.ref a1), .val (.ref a2), .unset] [(.int (1 : Int32))]))
  refine Go.step (fun t k => XS.ifNo X3.here hx rfl (hb hby d15_11) rfl ((if0 _ _).trans (feq (by decide : ¬ ((1 : Int32) = (0 : Int32)))).1) k) ?_
  show Go p e below _ (T3.setTop (mkF m 14 #[.val (.ref a1), .val (.ref a2), .unset] []))
  refine Go.step (fun t k => XS.aloadN X3.here hx rfl (hb hby d15_14) rfl rfl k) ?_
  show Go p e below _ (T3.setTop (mkF m 15 #[.val (.ref a1), .val (.ref a2), .unset] [(.ref a2)]))
  obtain ⟨T4, X4, e4, st4⟩ := castY X3 hx hZ hown (hw _ (List.mem_of_getElem? (i := 100) rfl)) e3 (Ins.self E_a2) (g := (mkF m 15 #[.val (.ref a1), .val (.ref a2), .unset] [(.ref a2)])) rfl rfl (hb hby d15_15)
  refine Go.step st4 ?_
  show Go p e below _ (T4.setTop (mkF m 18 #[.val (.ref a1), .val (.ref a2), .unset] [(.ref a2)]))
  refine Go.step (fun t k => XS.astoreN X4.here hx rfl (hb hby d15_18) rfl rfl (l' := #[.val (.ref a1), .val (.ref a2), .val (.ref a2)]) rfl k) ?_
  show Go p e below _ (T4.setTop (mkF m 19 #[.val (.ref a1), .val (.ref a2), .val (.ref a2)] []))
  obtain ⟨T5, X5, e5, st5⟩ := getS2 X4 hx hZ hown (host := "") (Or.inl (hw _ (List.mem_of_getElem? (i := 17) rfl))) Via.refl e4 (S_COMPACT_STRINGS.ext hO.2) (g := (mkF m 19 #[.val (.ref a1), .val (.ref a2), .val (.ref a2)] [])) rfl (hb hby d15_19)
  refine Go.step st5 ?_
  show Go p e below _ (T5.setTop (mkF m 22 #[.val (.ref a1), .val (.ref a2), .val (.ref a2)] [(.int wC)]))
  refine Go.step (fun t k => XS.ifNo X5.here hx rfl (hb hby d15_22) rfl ((if0 _ _).trans (feq (hC : ¬ (wC = (0 : Int32)))).1) k) ?_
  show Go p e below _ (T5.setTop (mkF m 25 #[.val (.ref a1), .val (.ref a2), .val (.ref a2)] []))
  refine Go.step (fun t k => XS.aloadN X5.here hx rfl (hb hby d15_25) rfl rfl k) ?_
  show Go p e below _ (T5.setTop (mkF m 26 #[.val (.ref a1), .val (.ref a2), .val (.ref a2)] [(.ref a1)]))
  obtain ⟨T6, X6, e6, st6⟩ := getF X5 hx hZ hown (host := "") (Or.inl (hw _ (List.mem_of_getElem? (i := 29) rfl))) Via.refl e5 F_coder_a1 (g := (mkF m 26 #[.val (.ref a1), .val (.ref a2), .val (.ref a2)] [(.ref a1)])) rfl rfl (hb hby d15_26)
  refine Go.step st6 ?_
  show Go p e below _ (T6.setTop (mkF m 29 #[.val (.ref a1), .val (.ref a2), .val (.ref a2)] [(.int (0 : Int32))]))
  refine Go.step (fun t k => XS.aloadN X6.here hx rfl (hb hby d15_29) rfl rfl k) ?_
  show Go p e below _ (T6.setTop (mkF m 30 #[.val (.ref a1), .val (.ref a2), .val (.ref a2)] [(.ref a2), (.int (0 : Int32))]))
  obtain ⟨T7, X7, e7, st7⟩ := getF X6 hx hZ hown (host := "") (Or.inl (hw _ (List.mem_of_getElem? (i := 29) rfl))) Via.refl e6 F_coder_a2 (g := (mkF m 30 #[.val (.ref a1), .val (.ref a2), .val (.ref a2)] [(.ref a2), (.int (0 : Int32))])) rfl rfl (hb hby d15_30)
  refine Go.step st7 ?_
  show Go p e below _ (T7.setTop (mkF m 33 #[.val (.ref a1), .val (.ref a2), .val (.ref a2)] [(.int (0 : Int32)), (.int (0 : Int32))]))
  refine Go.step (fun t k => XS.icmpNo X7.here hx rfl (hb hby d15_33) rfl (teq (rfl : (0 : Int32) = (0 : Int32))).2 k) ?_
  show Go p e below _ (T7.setTop (mkF m 36 #[.val (.ref a1), .val (.ref a2), .val (.ref a2)] []))
  refine Go.step (fun t k => XS.aloadN X7.here hx rfl (hb hby d15_36) rfl rfl k) ?_
  show Go p e below _ (T7.setTop (mkF m 37 #[.val (.ref a1), .val (.ref a2), .val (.ref a2)] [(.ref a1)]))
  obtain ⟨T8, X8, e8, st8⟩ := getF X7 hx hZ hown (host := "") (Or.inl (hw _ (List.mem_of_getElem? (i := 31) rfl))) Via.refl e7 F_value_a1 (g := (mkF m 37 #[.val (.ref a1), .val (.ref a2), .val (.ref a2)] [(.ref a1)])) rfl rfl (hb hby d15_37)
  refine Go.step st8 ?_
  show Go p e below _ (T8.setTop (mkF m 40 #[.val (.ref a1), .val (.ref a2), .val (.ref a2)] [(.ref o_value_a1)]))
  refine Go.step (fun t k => XS.aloadN X8.here hx rfl (hb hby d15_40) rfl rfl k) ?_
  show Go p e below _ (T8.setTop (mkF m 41 #[.val (.ref a1), .val (.ref a2), .val (.ref a2)] [(.ref a2), (.ref o_value_a1)]))
  obtain ⟨T9, X9, e9, st9⟩ := getF X8 hx hZ hown (host := "") (Or.inl (hw _ (List.mem_of_getElem? (i := 31) rfl))) Via.refl e8 F_value_a2 (g := (mkF m 41 #[.val (.ref a1), .val (.ref a2), .val (.ref a2)] [(.ref a2), (.ref o_value_a1)])) rfl rfl (hb hby d15_41)
  refine Go.step st9 ?_
  show Go p e below _ (T9.setTop (mkF m 44 #[.val (.ref a1), .val (.ref a2), .val (.ref a2)] [(.ref o_value_a2), (.ref o_value_a1)]))
  obtain ⟨_, _, ⟨T10, L10, k10, n10⟩, -, X10, ⟨Lc10, hQ10, l10, y10, z10⟩, st10⟩ := Jvm.LawKit.callS X9 hx (y := (⟨"java/lang/StringLatin1", "equals", "([B[B)Z"⟩ : MethodName)) hown (mvT hZ (hw _ (List.mem_of_getElem? (i := 101) rfl))) (mvT hZ (hw _ (List.mem_of_getElem? (i := 102) rfl))) (mvT hZ (hw _ (List.mem_of_getElem? (i := 103) rfl))) (mvT hZ (hw _ (List.mem_of_getElem? (i := 104) rfl))) (by decide) (backOf (W := 0) (rm16 l Z a0 hw [] o_value_a1 o_value_a2 g_a1 g_a2 h0 n0 Z0 A_o_value_a1 A_o_value_a2) hZ (hw _ (List.mem_of_getElem? (i := 104) rfl)) (hw _ (List.mem_of_getElem? (i := 103) rfl)) (by decide) (by decide)) (g := (mkF m 44 #[.val (.ref a1), .val (.ref a2), .val (.ref a2)] [(.ref o_value_a2), (.ref o_value_a1)])) rfl (by rw [hml]; rfl) (argsL := [(.ref o_value_a1), (.ref o_value_a2)]) (rest := []) (lenOf pd_6 rfl) rfl (by show 2 * 0 + _ ≤ _; exact Nat.le_of_eq rfl) (hb hby d15_44) (fun _ _ => ⟨rfl, e9, (by decide : 0 + 0 ≤ _), (by decide : 0 + 0 ≤ _)⟩)
  dsimp only [Pt.U, Pt.locs, Pt.cells, Pt.slots] at X10 l10 y10 z10 st10 hQ10
  replace y10 : k10 = 0 := y10
  replace z10 : n10 = 0 := z10
  subst y10 z10
  obtain ⟨rfl, N10q, e10⟩ := hQ10
  have N10 : Fr n0 L10 := Eq.mpr (congrArg (Fr n0) l10) (Fr.app N0 N10q)
  refine Go.step st10 ?_
  show Go p e below _ (T10.setTop (mkF m 47 #[.val (.ref a1), .val (.ref a2), .val (.ref a2)] [(.int (f16 g_a1 g_a2))]))
  by_cases hc11 : (f16 g_a1 g_a2) = (0 : Int32)
  · refine Go.step (fun t k => XS.ifYes X10.here hx rfl (pc0 := 47) (pc' := 54) rfl (hb hby d15_47) rfl ((if0 _ _).trans (teq hc11).1) (by decide) (by decide) k) ?_
    show Go p e below _ (T10.setTop (mkF m 54 #[.val (.ref a1), .val (.ref a2), .val (.ref a2)] []))
    refine Go.step (fun t k => XS.iconst X10.here hx rfl (hb hby d15_54)  k) ?_
    show Go p e below _ (T10.setTop (mkF m 55 #[.val (.ref a1), .val (.ref a2), .val (.ref a2)] [(.int (0 : Int32))]))
    exact retGN X10 hx Bd.notSynchronized Bd.returns (t := .boolean) (by simp) (z' := (0 : Int32)) rfl (hb hby d15_55) ⟨by first | (simp only [f15, if_pos hc11]; done) | rfl | (simp [f15, if_pos hc11]; done), N10, e10⟩ (by decide) (by decide)
  · refine Go.step (fun t k => XS.ifNo X10.here hx rfl (hb hby d15_47) rfl ((if0 _ _).trans (feq hc11).1) k) ?_
    show Go p e below _ (T10.setTop (mkF m 50 #[.val (.ref a1), .val (.ref a2), .val (.ref a2)] []))
    refine Go.step (fun t k => XS.iconst X10.here hx rfl (hb hby d15_50)  k) ?_
    show Go p e below _ (T10.setTop (mkF m 51 #[.val (.ref a1), .val (.ref a2), .val (.ref a2)] [(.int (1 : Int32))]))
    refine Go.step (fun t k => XS.goto X10.here hx rfl (pc0 := 51) (pc' := 55) rfl (hb hby d15_51) (by decide) (by decide) k) ?_
    show Go p e below _ (T10.setTop (mkF m 55 #[.val (.ref a1), .val (.ref a2), .val (.ref a2)] [(.int (1 : Int32))]))
    exact retGN X10 hx Bd.notSynchronized Bd.returns (t := .boolean) (by simp) (z' := (1 : Int32)) rfl (hb hby d15_55) ⟨by first | (simp only [f15, if_neg hc11]; done) | rfl | (simp [f15, if_neg hc11]; done), N10, e10⟩ (by decide) (by decide)
theorem d14_0 : decode prog_109_method_7_code 0 = .ok (.iconst 1, 1) := by decide +kernel
theorem d14_1 : decode prog_109_method_7_code 1 = .ok (.istore_n 1, 1) := by decide +kernel
theorem d14_2 : decode prog_109_method_7_code 2 = .ok (.aload_n 0, 1) := by decide +kernel
theorem d14_3 : decode prog_109_method_7_code 3 = .ok (.getfield 51, 3) := by decide +kernel
theorem d14_6 : decode prog_109_method_7_code 6 = .ok (.astore_n 2, 1) := by decide +kernel
theorem d14_7 : decode prog_109_method_7_code 7 = .ok (.aload_n 2, 1) := by decide +kernel
theorem d14_8 : decode prog_109_method_7_code 8 = .ok (.ifnull 28, 3) := by decide +kernel
theorem d14_36 : decode prog_109_method_7_code 36 = .ok (.iload_n 1, 1) := by decide +kernel
theorem d14_37 : decode prog_109_method_7_code 37 = .ok (.ireturn, 1) := by decide +kernel
theorem ef_14_0 (m : MethodId) (a1 : Addr) : entryFrame m #[(.ref a1)] 3 = mkF m 0 #[.val (.ref a1), .unset, .unset] [] := by first | (simp [entryFrame, mkF, argsToLocals, Value.category]; done) | rfl
def f14_0  : Int32 := (1 : Int32)
set_option maxRecDepth 65536 in
set_option maxHeartbeats 40000000 in
theorem rm14_0 (l : Launch) (Z : State) (a0 : Array Value) (hw : ∀ d ∈ tables_1, d.before a0 Z = true) (ws : List Jvm.Cond) (a1 : Addr) (h0 : Heap) (n0 : Nat) (Z0 : n0 ≤ h0.size) (F_previous_a1 : Fld Z h0 a1 "com/example/dataflow_to_dispatch/dataflowtodispatch/model/document/XmlElement" "previous" "Lcom/example/dataflow_to_dispatch/dataflowtodispatch/model/document/XmlElement;" .null) :
    MetFree l (⟨"com/example/dataflow_to_dispatch/dataflowtodispatch/model/document/XmlElement", "position", "()I"⟩ : MethodName) (head1 (Jvm.Cond.code (⟨"com/example/dataflow_to_dispatch/dataflowtodispatch/model/document/XmlElement", "position", "()I"⟩ : MethodName) prog_109_method_7_code 3 (some .int) :: ws) ({ frames := 0, cells := 0, slots := 0, locals := 0 } : Room)) (fun a U => a = #[(.ref a1)] ∧ Z.Warmed39 U.vm ∧ U.heap = h0) (fun _ _ _ _ _ => True) (fun _ U o U' => ∃ v L, o = .returned v ∧ QP (.int (f14_0)) h0 n0 v U'.heap L ∧ FrameEnd U o U' L ({ frames := 0, cells := 0, slots := 0, locals := 0 } : Room).cells ({ frames := 0, cells := 0, slots := 0, locals := 0 } : Room).slots) := by
  refine MetFree.of_bodySF (plainFor_of_name pn_5) hisR ?_
  intro p e s m args below meth c s₁ Bd hml0 hP hK
  obtain ⟨rfl, hZ, hh⟩ := hP
  have hx := Bd.exec
  have hby := Bd.bytes
  have hml : c.maxLocals = 3 := hml0
  have hown : s.vm.findClass "com/example/dataflow_to_dispatch/dataflowtodispatch/model/document/XmlElement" = some m.cls := findClass_of_methodNamed Bd.named
  have hnm := (name_of_methodNamed Bd.named Bd.method).1
  have X0 : Stand p l e ({ frames := 0, cells := 0, slots := 0, locals := 0 } : Room) s m #[(.ref a1)] below meth c s₁ [] 0 0 := Stand.of_body Bd
  have e0 : s₁.heap = h0 := by rw [← hh, Bd.state]; rfl
  have N0 := Fr.nil n0
  refine Go.done (Go.step (fun t k => castTop (ef_14_0 m a1) k) ?_)
  have KK0 : Keep h0 h0 [] := Keep.refl _ _
  show Go p e below _ (s₁.setTop (mkF m 0 #[.val (.ref a1), .unset, .unset] []))
  refine Go.step (fun t k => XS.iconst X0.here hx rfl (hb hby d14_0)  k) ?_
  show Go p e below _ (s₁.setTop (mkF m 1 #[.val (.ref a1), .unset, .unset] [(.int (1 : Int32))]))
  refine Go.step (fun t k => XS.istoreN X0.here hx rfl (hb hby d14_1) rfl (l' := #[.val (.ref a1), .val (.int (1 : Int32)), .unset]) rfl k) ?_
  show Go p e below _ (s₁.setTop (mkF m 2 #[.val (.ref a1), .val (.int (1 : Int32)), .unset] []))
  refine Go.step (fun t k => XS.aloadN X0.here hx rfl (hb hby d14_2) rfl rfl k) ?_
  show Go p e below _ (s₁.setTop (mkF m 3 #[.val (.ref a1), .val (.int (1 : Int32)), .unset] [(.ref a1)]))
  obtain ⟨T2, X2, e2, st2⟩ := getF X0 hx hZ hown (host := "") (Or.inl (hw _ (List.mem_of_getElem? (i := 80) rfl))) Via.refl e0 F_previous_a1 (g := (mkF m 3 #[.val (.ref a1), .val (.int (1 : Int32)), .unset] [(.ref a1)])) rfl rfl (hb hby d14_3)
  refine Go.step st2 ?_
  show Go p e below _ (T2.setTop (mkF m 6 #[.val (.ref a1), .val (.int (1 : Int32)), .unset] [.null]))
  refine Go.step (fun t k => XS.astoreN X2.here hx rfl (hb hby d14_6) rfl rfl (l' := #[.val (.ref a1), .val (.int (1 : Int32)), .val .null]) rfl k) ?_
  show Go p e below _ (T2.setTop (mkF m 7 #[.val (.ref a1), .val (.int (1 : Int32)), .val .null] []))
  refine Go.step (fun t k => XS.aloadN X2.here hx rfl (hb hby d14_7) rfl rfl k) ?_
  show Go p e below _ (T2.setTop (mkF m 8 #[.val (.ref a1), .val (.int (1 : Int32)), .val .null] [.null]))
  refine Go.step (fun t k => XS.ifnullYes X2.here hx rfl (pc0 := 8) (pc' := 36) rfl (hb hby d14_8) rfl (by decide) (by decide) k) ?_
  show Go p e below _ (T2.setTop (mkF m 36 #[.val (.ref a1), .val (.int (1 : Int32)), .val .null] []))
  refine Go.step (fun t k => XS.iloadN X2.here hx rfl (hb hby d14_36) rfl k) ?_
  show Go p e below _ (T2.setTop (mkF m 37 #[.val (.ref a1), .val (.int (1 : Int32)), .val .null] [(.int (1 : Int32))]))
  exact retGI X2 hx Bd.notSynchronized Bd.returns (hb hby d14_37) ⟨by first | rfl | (simp only [f14_0]; done) | (simp [f14_0]; done), N0, e2⟩ (by decide) (by decide)
theorem d14_11 : decode prog_109_method_7_code 11 = .ok (.aload_n 2, 1) := by decide +kernel
theorem d14_12 : decode prog_109_method_7_code 12 = .ok (.getfield 19, 3) := by decide +kernel
theorem d14_15 : decode prog_109_method_7_code 15 = .ok (.aload_n 0, 1) := by decide +kernel
theorem d14_16 : decode prog_109_method_7_code 16 = .ok (.getfield 19, 3) := by decide +kernel
theorem d14_19 : decode prog_109_method_7_code 19 = .ok (.invokevirtual 54, 3) := by decide +kernel
theorem pd_7 : parseMethodDescriptor "(Ljava/lang/Object;)Z" = some ⟨[(.object "java/lang/Object")], some .boolean⟩ := by decide +kernel
theorem d14_22 : decode prog_109_method_7_code 22 = .ok (.ifCond .eq 6, 3) := by decide +kernel
theorem d14_25 : decode prog_109_method_7_code 25 = .ok (.iinc 1 1, 3) := by decide +kernel
theorem d14_28 : decode prog_109_method_7_code 28 = .ok (.aload_n 2, 1) := by decide +kernel
theorem d14_29 : decode prog_109_method_7_code 29 = .ok (.getfield 51, 3) := by decide +kernel
theorem d14_32 : decode prog_109_method_7_code 32 = .ok (.astore_n 2, 1) := by decide +kernel
theorem d14_33 : decode prog_109_method_7_code 33 = .ok (.goto (-26), 3) := by decide +kernel
theorem ef_14_1 (m : MethodId) (a1 : Addr) : entryFrame m #[(.ref a1)] 3 = mkF m 0 #[.val (.ref a1), .unset, .unset] [] := by first | (simp [entryFrame, mkF, argsToLocals, Value.category]; done) | rfl
def f14_1 (g_o_name_a1 : Nat → Int32) (g_o_name_x1 : Nat → Int32) (wC : Int32) : Int32 := (if (f15 g_o_name_x1 g_o_name_a1 wC) = (0 : Int32) then (1 : Int32) else (2 : Int32))
set_option maxRecDepth 65536 in
set_option maxHeartbeats 40000000 in
theorem rm14_1 (l : Launch) (Z : State) (a0 : Array Value) (hw : ∀ d ∈ tables_1, d.before a0 Z = true) (ws : List Jvm.Cond) (a1 : Addr) (x1 : Addr) (o_name_a1 : Addr) (o_value_o_name_a1 : Addr) (g_o_name_a1 : Nat → Int32) (o_name_x1 : Addr) (o_value_o_name_x1 : Addr) (g_o_name_x1 : Nat → Int32) (wC : Int32) (h0 : Heap) (n0 : Nat) (Z0 : n0 ≤ h0.size) (F_previous_a1 : Fld Z h0 a1 "com/example/dataflow_to_dispatch/dataflowtodispatch/model/document/XmlElement" "previous" "Lcom/example/dataflow_to_dispatch/dataflowtodispatch/model/document/XmlElement;" (.ref x1)) (F_name_a1 : Fld Z h0 a1 "com/example/dataflow_to_dispatch/dataflowtodispatch/model/document/XmlElement" "name" "Ljava/lang/String;" (.ref o_name_a1)) (E_o_name_a1 : Exa Z h0 o_name_a1 "java/lang/String") (F_coder_o_name_a1 : Fld Z h0 o_name_a1 "java/lang/String" "coder" "B" (.int (0 : Int32))) (F_value_o_name_a1 : Fld Z h0 o_name_a1 "java/lang/String" "value" "[B" (.ref o_value_o_name_a1)) (A_o_value_o_name_a1 : Ary Z h0 o_value_o_name_a1 .byte 2 (fun i => .int (g_o_name_a1 i))) (F_name_x1 : Fld Z h0 x1 "com/example/dataflow_to_dispatch/dataflowtodispatch/model/document/XmlElement" "name" "Ljava/lang/String;" (.ref o_name_x1)) (E_o_name_x1 : Exa Z h0 o_name_x1 "java/lang/String") (F_coder_o_name_x1 : Fld Z h0 o_name_x1 "java/lang/String" "coder" "B" (.int (0 : Int32))) (F_value_o_name_x1 : Fld Z h0 o_name_x1 "java/lang/String" "value" "[B" (.ref o_value_o_name_x1)) (A_o_value_o_name_x1 : Ary Z h0 o_value_o_name_x1 .byte 2 (fun i => .int (g_o_name_x1 i))) (F_previous_x1 : Fld Z h0 x1 "com/example/dataflow_to_dispatch/dataflowtodispatch/model/document/XmlElement" "previous" "Lcom/example/dataflow_to_dispatch/dataflowtodispatch/model/document/XmlElement;" .null) (hC : ¬ (wC = (0 : Int32))) (S_COMPACT_STRINGS : Sta Z Z.heap "java/lang/String" "COMPACT_STRINGS" "Z" (.int wC)) (hO : Old Z n0 h0) (hne_o_name_x1_o_name_a1 : o_name_x1 ≠ o_name_a1) :
    MetFree l (⟨"com/example/dataflow_to_dispatch/dataflowtodispatch/model/document/XmlElement", "position", "()I"⟩ : MethodName) (head1 (Jvm.Cond.code (⟨"com/example/dataflow_to_dispatch/dataflowtodispatch/model/document/XmlElement", "position", "()I"⟩ : MethodName) prog_109_method_7_code 3 (some .int) :: ws) ({ frames := 2, cells := 0, slots := 0, locals := 28 } : Room)) (fun a U => a = #[(.ref a1)] ∧ Z.Warmed39 U.vm ∧ U.heap = h0) (fun _ _ _ _ _ => True) (fun _ U o U' => ∃ v L, o = .returned v ∧ QP (.int (f14_1 g_o_name_a1 g_o_name_x1 wC)) h0 n0 v U'.heap L ∧ FrameEnd U o U' L ({ frames := 2, cells := 0, slots := 0, locals := 28 } : Room).cells ({ frames := 2, cells := 0, slots := 0, locals := 28 } : Room).slots) := by
  refine MetFree.of_bodySF (plainFor_of_name pn_5) hisR ?_
  intro p e s m args below meth c s₁ Bd hml0 hP hK
  obtain ⟨rfl, hZ, hh⟩ := hP
  have hx := Bd.exec
  have hby := Bd.bytes
  have hml : c.maxLocals = 3 := hml0
  have hown : s.vm.findClass "com/example/dataflow_to_dispatch/dataflowtodispatch/model/document/XmlElement" = some m.cls := findClass_of_methodNamed Bd.named
  have hnm := (name_of_methodNamed Bd.named Bd.method).1
  have X0 : Stand p l e ({ frames := 2, cells := 0, slots := 0, locals := 28 } : Room) s m #[(.ref a1)] below meth c s₁ [] 0 0 := Stand.of_body Bd
  have e0 : s₁.heap = h0 := by rw [← hh, Bd.state]; rfl
  have N0 := Fr.nil n0
  refine Go.done (Go.step (fun t k => castTop (ef_14_1 m a1) k) ?_)
  have KK0 : Keep h0 h0 [] := Keep.refl _ _
  show Go p e below _ (s₁.setTop (mkF m 0 #[.val (.ref a1), .unset, .unset] []))
  refine Go.step (fun t k => XS.iconst X0.here hx rfl (hb hby d14_0)  k) ?_
  show Go p e below _ (s₁.setTop (mkF m 1 #[.val (.ref a1), .unset, .unset] [(.int (1 : Int32))]))
  refine Go.step (fun t k => XS.istoreN X0.here hx rfl (hb hby d14_1) rfl (l' := #[.val (.ref a1), .val (.int (1 : Int32)), .unset]) rfl k) ?_
  show Go p e below _ (s₁.setTop (mkF m 2 #[.val (.ref a1), .val (.int (1 : Int32)), .unset] []))
  refine Go.step (fun t k => XS.aloadN X0.here hx rfl (hb hby d14_2) rfl rfl k) ?_
  show Go p e below _ (s₁.setTop (mkF m 3 #[.val (.ref a1), .val (.int (1 : Int32)), .unset] [(.ref a1)]))
  obtain ⟨T2, X2, e2, st2⟩ := getF X0 hx hZ hown (host := "") (Or.inl (hw _ (List.mem_of_getElem? (i := 80) rfl))) Via.refl e0 F_previous_a1 (g := (mkF m 3 #[.val (.ref a1), .val (.int (1 : Int32)), .unset] [(.ref a1)])) rfl rfl (hb hby d14_3)
  refine Go.step st2 ?_
  show Go p e below _ (T2.setTop (mkF m 6 #[.val (.ref a1), .val (.int (1 : Int32)), .unset] [(.ref x1)]))
  refine Go.step (fun t k => XS.astoreN X2.here hx rfl (hb hby d14_6) rfl rfl (l' := #[.val (.ref a1), .val (.int (1 : Int32)), .val (.ref x1)]) rfl k) ?_
  show Go p e below _ (T2.setTop (mkF m 7 #[.val (.ref a1), .val (.int (1 : Int32)), .val (.ref x1)] []))
  refine Go.step (fun t k => XS.aloadN X2.here hx rfl (hb hby d14_7) rfl rfl k) ?_
  show Go p e below _ (T2.setTop (mkF m 8 #[.val (.ref a1), .val (.int (1 : Int32)), .val (.ref x1)] [(.ref x1)]))
  refine Go.step (fun t k => XS.ifnullNo X2.here hx rfl (hb hby d14_8) rfl k) ?_
  show Go p e below _ (T2.setTop (mkF m 11 #[.val (.ref a1), .val (.int (1 : Int32)), .val (.ref x1)] []))
  refine Go.step (fun t k => XS.aloadN X2.here hx rfl (hb hby d14_11) rfl rfl k) ?_
  show Go p e below _ (T2.setTop (mkF m 12 #[.val (.ref a1), .val (.int (1 : Int32)), .val (.ref x1)] [(.ref x1)]))
  obtain ⟨T3, X3, e3, st3⟩ := getF X2 hx hZ hown (host := "") (Or.inl (hw _ (List.mem_of_getElem? (i := 65) rfl))) Via.refl e2 F_name_x1 (g := (mkF m 12 #[.val (.ref a1), .val (.int (1 : Int32)), .val (.ref x1)] [(.ref x1)])) rfl rfl (hb hby d14_12)
  refine Go.step st3 ?_
  show Go p e below _ (T3.setTop (mkF m 15 #[.val (.ref a1), .val (.int (1 : Int32)), .val (.ref x1)] [(.ref o_name_x1)]))
  refine Go.step (fun t k => XS.aloadN X3.here hx rfl (hb hby d14_15) rfl rfl k) ?_
  show Go p e below _ (T3.setTop (mkF m 16 #[.val (.ref a1), .val (.int (1 : Int32)), .val (.ref x1)] [(.ref a1), (.ref o_name_x1)]))
  obtain ⟨T4, X4, e4, st4⟩ := getF X3 hx hZ hown (host := "") (Or.inl (hw _ (List.mem_of_getElem? (i := 65) rfl))) Via.refl e3 F_name_a1 (g := (mkF m 16 #[.val (.ref a1), .val (.int (1 : Int32)), .val (.ref x1)] [(.ref a1), (.ref o_name_x1)])) rfl rfl (hb hby d14_16)
  refine Go.step st4 ?_
  show Go p e below _ (T4.setTop (mkF m 19 #[.val (.ref a1), .val (.int (1 : Int32)), .val (.ref x1)] [(.ref o_name_a1), (.ref o_name_x1)]))
  obtain ⟨cq5, kq5, q5a, q5b, q5c⟩ := isOf hZ e4 E_o_name_x1
  obtain ⟨_, _, ⟨T5, L5, k5, n5⟩, -, X5, ⟨Lc5, hQ5, l5, y5, z5⟩, st5⟩ := X4.virtualBack hx (y := (⟨"java/lang/String", "equals", "(Ljava/lang/Object;)Z"⟩ : MethodName)) (z := (⟨"java/lang/String", "equals", "(Ljava/lang/Object;)Z"⟩ : MethodName)) hown (mvT hZ (hw _ (List.mem_of_getElem? (i := 95) rfl))) (mvT hZ (hw _ (List.mem_of_getElem? (i := 96) rfl))) (notFace_of_selects (args := #[]) (mvT hZ (hw _ (List.mem_of_getElem? (i := 98) rfl)))) (mvT hZ (hw _ (List.mem_of_getElem? (i := 98) rfl))) (mvT hZ (hw _ (List.mem_of_getElem? (i := 97) rfl))) (by decide) (backOf (W := 0) (rm15 l Z a0 hw [] o_name_x1 o_name_a1 o_value_o_name_x1 g_o_name_x1 o_value_o_name_a1 g_o_name_a1 wC h0 n0 Z0 E_o_name_x1 F_coder_o_name_x1 F_value_o_name_x1 A_o_value_o_name_x1 E_o_name_a1 F_coder_o_name_a1 F_value_o_name_a1 A_o_value_o_name_a1 hne_o_name_x1_o_name_a1 hC S_COMPACT_STRINGS hO) hZ (hw _ (List.mem_of_getElem? (i := 99) rfl)) (hw _ (List.mem_of_getElem? (i := 5) rfl)) (by decide) (by decide)) q5a q5c (g := (mkF m 19 #[.val (.ref a1), .val (.int (1 : Int32)), .val (.ref x1)] [(.ref o_name_a1), (.ref o_name_x1)])) rfl (by rw [hml]; rfl) (Steps.refl _) (argsL := [(.ref o_name_a1)]) (rest := []) (lenOf pd_7 rfl) rfl (by show 2 * 0 + _ ≤ _; exact Nat.le_of_eq rfl) (hb hby d14_19) (fun _ _ => ⟨rfl, e4, (by decide : 0 + 0 ≤ _), (by decide : 0 + 0 ≤ _)⟩)
  dsimp only [Pt.U, Pt.locs, Pt.cells, Pt.slots] at X5 l5 y5 z5 st5 hQ5
  replace y5 : k5 = 0 := y5
  replace z5 : n5 = 0 := z5
  subst y5 z5
  obtain ⟨rfl, N5q, e5⟩ := hQ5
  have N5 : Fr n0 L5 := Eq.mpr (congrArg (Fr n0) l5) (Fr.app N0 N5q)
  refine Go.trans st5 ?_
  show Go p e below _ (T5.setTop (mkF m 22 #[.val (.ref a1), .val (.int (1 : Int32)), .val (.ref x1)] [(.int (f15 g_o_name_x1 g_o_name_a1 wC))]))
  obtain ⟨v7, hv7⟩ : ∃ z : Int32, z = (if (f15 g_o_name_x1 g_o_name_a1 wC) = (0 : Int32) then (1 : Int32) else (2 : Int32)) := ⟨_, rfl⟩
  have J22 : Go p e below (AtF p l e ({ frames := 2, cells := 0, slots := 0, locals := 28 } : Room) s m #[(.ref a1)] below meth c n0 0 0 h0 (mkF m 28 #[.val (.ref a1), .val (.int v7), .val (.ref x1)] [])) (T5.setTop (mkF m 22 #[.val (.ref a1), .val (.int (1 : Int32)), .val (.ref x1)] [(.int (f15 g_o_name_x1 g_o_name_a1 wC))])) := by
    by_cases hc6 : (f15 g_o_name_x1 g_o_name_a1 wC) = (0 : Int32)
    · refine Go.step (fun t k => XS.ifYes X5.here hx rfl (pc0 := 22) (pc' := 28) rfl (hb hby d14_22) rfl ((if0 _ _).trans (teq hc6).1) (by decide) (by decide) k) ?_
      show Go p e below _ (T5.setTop (mkF m 28 #[.val (.ref a1), .val (.int (1 : Int32)), .val (.ref x1)] []))
      exact Go.here ⟨_, _, by simp only [hv7, if_pos hc6], X5, N5, e5⟩
    · refine Go.step (fun t k => XS.ifNo X5.here hx rfl (hb hby d14_22) rfl ((if0 _ _).trans (feq hc6).1) k) ?_
      show Go p e below _ (T5.setTop (mkF m 25 #[.val (.ref a1), .val (.int (1 : Int32)), .val (.ref x1)] []))
      refine Go.step (fun t k => XS.iinc X5.here hx rfl (hb hby d14_25) rfl (l' := #[.val (.ref a1), .val (.int (2 : Int32)), .val (.ref x1)]) rfl k) ?_
      show Go p e below _ (T5.setTop (mkF m 28 #[.val (.ref a1), .val (.int (2 : Int32)), .val (.ref x1)] []))
      exact Go.here ⟨_, _, by simp only [hv7, if_neg hc6], X5, N5, e5⟩
  obtain ⟨_, st8, T8, Lj8, rfl, X8, N8, e8⟩ := J22
  refine Go.trans st8 ?_
  show Go p e below _ (T8.setTop (mkF m 28 #[.val (.ref a1), .val (.int v7), .val (.ref x1)] []))
  refine Go.step (fun t k => XS.aloadN X8.here hx rfl (hb hby d14_28) rfl rfl k) ?_
  show Go p e below _ (T8.setTop (mkF m 29 #[.val (.ref a1), .val (.int v7), .val (.ref x1)] [(.ref x1)]))
  obtain ⟨T9, X9, e9, st9⟩ := getF X8 hx hZ hown (host := "") (Or.inl (hw _ (List.mem_of_getElem? (i := 80) rfl))) Via.refl e8 F_previous_x1 (g := (mkF m 29 #[.val (.ref a1), .val (.int v7), .val (.ref x1)] [(.ref x1)])) rfl rfl (hb hby d14_29)
  refine Go.step st9 ?_
  show Go p e below _ (T9.setTop (mkF m 32 #[.val (.ref a1), .val (.int v7), .val (.ref x1)] [.null]))
  refine Go.step (fun t k => XS.astoreN X9.here hx rfl (hb hby d14_32) rfl rfl (l' := #[.val (.ref a1), .val (.int v7), .val .null]) rfl k) ?_
  show Go p e below _ (T9.setTop (mkF m 33 #[.val (.ref a1), .val (.int v7), .val .null] []))
  refine Go.step (fun t k => XS.goto X9.here hx rfl (pc0 := 33) (pc' := 7) rfl (hb hby d14_33) (by decide) (by decide) k) ?_
  show Go p e below _ (T9.setTop (mkF m 7 #[.val (.ref a1), .val (.int v7), .val .null] []))
  refine Go.step (fun t k => XS.aloadN X9.here hx rfl (hb hby d14_7) rfl rfl k) ?_
  show Go p e below _ (T9.setTop (mkF m 8 #[.val (.ref a1), .val (.int v7), .val .null] [.null]))
  refine Go.step (fun t k => XS.ifnullYes X9.here hx rfl (pc0 := 8) (pc' := 36) rfl (hb hby d14_8) rfl (by decide) (by decide) k) ?_
  show Go p e below _ (T9.setTop (mkF m 36 #[.val (.ref a1), .val (.int v7), .val .null] []))
  refine Go.step (fun t k => XS.iloadN X9.here hx rfl (hb hby d14_36) rfl k) ?_
  show Go p e below _ (T9.setTop (mkF m 37 #[.val (.ref a1), .val (.int v7), .val .null] [(.int v7)]))
  subst hv7
  exact retGI X9 hx Bd.notSynchronized Bd.returns (hb hby d14_37) ⟨by first | rfl | (simp only [f14_1]; done) | (simp [f14_1]; done), N8, e9⟩ (by decide) (by decide)
theorem ef_14_2 (m : MethodId) (a1 : Addr) : entryFrame m #[(.ref a1)] 3 = mkF m 0 #[.val (.ref a1), .unset, .unset] [] := by first | (simp [entryFrame, mkF, argsToLocals, Value.category]; done) | rfl
def f14_2 (g_o_name_a1 : Nat → Int32) (g_o_name_x1 : Nat → Int32) (g_o_name_x2 : Nat → Int32) (wC : Int32) : Int32 := (if (f15 g_o_name_x2 g_o_name_a1 wC) = (0 : Int32) then (if (f15 g_o_name_x1 g_o_name_a1 wC) = (0 : Int32) then (1 : Int32) else (2 : Int32)) else ((if (f15 g_o_name_x1 g_o_name_a1 wC) = (0 : Int32) then (1 : Int32) else (2 : Int32)) + (1 : Int32)))
set_option maxRecDepth 65536 in
set_option maxHeartbeats 40000000 in
theorem rm14_2 (l : Launch) (Z : State) (a0 : Array Value) (hw : ∀ d ∈ tables_1, d.before a0 Z = true) (ws : List Jvm.Cond) (a1 : Addr) (x1 : Addr) (o_name_a1 : Addr) (o_value_o_name_a1 : Addr) (g_o_name_a1 : Nat → Int32) (o_name_x1 : Addr) (o_value_o_name_x1 : Addr) (g_o_name_x1 : Nat → Int32) (x2 : Addr) (o_name_x2 : Addr) (o_value_o_name_x2 : Addr) (g_o_name_x2 : Nat → Int32) (wC : Int32) (h0 : Heap) (n0 : Nat) (Z0 : n0 ≤ h0.size) (F_previous_a1 : Fld Z h0 a1 "com/example/dataflow_to_dispatch/dataflowtodispatch/model/document/XmlElement" "previous" "Lcom/example/dataflow_to_dispatch/dataflowtodispatch/model/document/XmlElement;" (.ref x1)) (F_name_a1 : Fld Z h0 a1 "com/example/dataflow_to_dispatch/dataflowtodispatch/model/document/XmlElement" "name" "Ljava/lang/String;" (.ref o_name_a1)) (E_o_name_a1 : Exa Z h0 o_name_a1 "java/lang/String") (F_coder_o_name_a1 : Fld Z h0 o_name_a1 "java/lang/String" "coder" "B" (.int (0 : Int32))) (F_value_o_name_a1 : Fld Z h0 o_name_a1 "java/lang/String" "value" "[B" (.ref o_value_o_name_a1)) (A_o_value_o_name_a1 : Ary Z h0 o_value_o_name_a1 .byte 2 (fun i => .int (g_o_name_a1 i))) (F_name_x1 : Fld Z h0 x1 "com/example/dataflow_to_dispatch/dataflowtodispatch/model/document/XmlElement" "name" "Ljava/lang/String;" (.ref o_name_x1)) (E_o_name_x1 : Exa Z h0 o_name_x1 "java/lang/String") (F_coder_o_name_x1 : Fld Z h0 o_name_x1 "java/lang/String" "coder" "B" (.int (0 : Int32))) (F_value_o_name_x1 : Fld Z h0 o_name_x1 "java/lang/String" "value" "[B" (.ref o_value_o_name_x1)) (A_o_value_o_name_x1 : Ary Z h0 o_value_o_name_x1 .byte 2 (fun i => .int (g_o_name_x1 i))) (F_previous_x1 : Fld Z h0 x1 "com/example/dataflow_to_dispatch/dataflowtodispatch/model/document/XmlElement" "previous" "Lcom/example/dataflow_to_dispatch/dataflowtodispatch/model/document/XmlElement;" (.ref x2)) (F_name_x2 : Fld Z h0 x2 "com/example/dataflow_to_dispatch/dataflowtodispatch/model/document/XmlElement" "name" "Ljava/lang/String;" (.ref o_name_x2)) (E_o_name_x2 : Exa Z h0 o_name_x2 "java/lang/String") (F_coder_o_name_x2 : Fld Z h0 o_name_x2 "java/lang/String" "coder" "B" (.int (0 : Int32))) (F_value_o_name_x2 : Fld Z h0 o_name_x2 "java/lang/String" "value" "[B" (.ref o_value_o_name_x2)) (A_o_value_o_name_x2 : Ary Z h0 o_value_o_name_x2 .byte 2 (fun i => .int (g_o_name_x2 i))) (F_previous_x2 : Fld Z h0 x2 "com/example/dataflow_to_dispatch/dataflowtodispatch/model/document/XmlElement" "previous" "Lcom/example/dataflow_to_dispatch/dataflowtodispatch/model/document/XmlElement;" .null) (hC : ¬ (wC = (0 : Int32))) (S_COMPACT_STRINGS : Sta Z Z.heap "java/lang/String" "COMPACT_STRINGS" "Z" (.int wC)) (hO : Old Z n0 h0) (hne_o_name_x1_o_name_a1 : o_name_x1 ≠ o_name_a1) (hne_o_name_x2_o_name_a1 : o_name_x2 ≠ o_name_a1) :
    MetFree l (⟨"com/example/dataflow_to_dispatch/dataflowtodispatch/model/document/XmlElement", "position", "()I"⟩ : MethodName) (head1 (Jvm.Cond.code (⟨"com/example/dataflow_to_dispatch/dataflowtodispatch/model/document/XmlElement", "position", "()I"⟩ : MethodName) prog_109_method_7_code 3 (some .int) :: ws) ({ frames := 2, cells := 0, slots := 0, locals := 28 } : Room)) (fun a U => a = #[(.ref a1)] ∧ Z.Warmed39 U.vm ∧ U.heap = h0) (fun _ _ _ _ _ => True) (fun _ U o U' => ∃ v L, o = .returned v ∧ QP (.int (f14_2 g_o_name_a1 g_o_name_x1 g_o_name_x2 wC)) h0 n0 v U'.heap L ∧ FrameEnd U o U' L ({ frames := 2, cells := 0, slots := 0, locals := 28 } : Room).cells ({ frames := 2, cells := 0, slots := 0, locals := 28 } : Room).slots) := by
  refine MetFree.of_bodySF (plainFor_of_name pn_5) hisR ?_
  intro p e s m args below meth c s₁ Bd hml0 hP hK
  obtain ⟨rfl, hZ, hh⟩ := hP
  have hx := Bd.exec
  have hby := Bd.bytes
  have hml : c.maxLocals = 3 := hml0
  have hown : s.vm.findClass "com/example/dataflow_to_dispatch/dataflowtodispatch/model/document/XmlElement" = some m.cls := findClass_of_methodNamed Bd.named
  have hnm := (name_of_methodNamed Bd.named Bd.method).1
  have X0 : Stand p l e ({ frames := 2, cells := 0, slots := 0, locals := 28 } : Room) s m #[(.ref a1)] below meth c s₁ [] 0 0 := Stand.of_body Bd
  have e0 : s₁.heap = h0 := by rw [← hh, Bd.state]; rfl
  have N0 := Fr.nil n0
  refine Go.done (Go.step (fun t k => castTop (ef_14_2 m a1) k) ?_)
  have KK0 : Keep h0 h0 [] := Keep.refl _ _
  show Go p e below _ (s₁.setTop (mkF m 0 #[.val (.ref a1), .unset, .unset] []))
  refine Go.step (fun t k => XS.iconst X0.here hx rfl (hb hby d14_0)  k) ?_
  show Go p e below _ (s₁.setTop (mkF m 1 #[.val (.ref a1), .unset, .unset] [(.int (1 : Int32))]))
  refine Go.step (fun t k => XS.istoreN X0.here hx rfl (hb hby d14_1) rfl (l' := #[.val (.ref a1), .val (.int (1 : Int32)), .unset]) rfl k) ?_
  show Go p e below _ (s₁.setTop (mkF m 2 #[.val (.ref a1), .val (.int (1 : Int32)), .unset] []))
  refine Go.step (fun t k => XS.aloadN X0.here hx rfl (hb hby d14_2) rfl rfl k) ?_
  show Go p e below _ (s₁.setTop (mkF m 3 #[.val (.ref a1), .val (.int (1 : Int32)), .unset] [(.ref a1)]))
  obtain ⟨T2, X2, e2, st2⟩ := getF X0 hx hZ hown (host := "") (Or.inl (hw _ (List.mem_of_getElem? (i := 80) rfl))) Via.refl e0 F_previous_a1 (g := (mkF m 3 #[.val (.ref a1), .val (.int (1 : Int32)), .unset] [(.ref a1)])) rfl rfl (hb hby d14_3)
  refine Go.step st2 ?_
  show Go p e below _ (T2.setTop (mkF m 6 #[.val (.ref a1), .val (.int (1 : Int32)), .unset] [(.ref x1)]))
  refine Go.step (fun t k => XS.astoreN X2.here hx rfl (hb hby d14_6) rfl rfl (l' := #[.val (.ref a1), .val (.int (1 : Int32)), .val (.ref x1)]) rfl k) ?_
  show Go p e below _ (T2.setTop (mkF m 7 #[.val (.ref a1), .val (.int (1 : Int32)), .val (.ref x1)] []))
  refine Go.step (fun t k => XS.aloadN X2.here hx rfl (hb hby d14_7) rfl rfl k) ?_
  show Go p e below _ (T2.setTop (mkF m 8 #[.val (.ref a1), .val (.int (1 : Int32)), .val (.ref x1)] [(.ref x1)]))
  refine Go.step (fun t k => XS.ifnullNo X2.here hx rfl (hb hby d14_8) rfl k) ?_
  show Go p e below _ (T2.setTop (mkF m 11 #[.val (.ref a1), .val (.int (1 : Int32)), .val (.ref x1)] []))
  refine Go.step (fun t k => XS.aloadN X2.here hx rfl (hb hby d14_11) rfl rfl k) ?_
  show Go p e below _ (T2.setTop (mkF m 12 #[.val (.ref a1), .val (.int (1 : Int32)), .val (.ref x1)] [(.ref x1)]))
  obtain ⟨T3, X3, e3, st3⟩ := getF X2 hx hZ hown (host := "") (Or.inl (hw _ (List.mem_of_getElem? (i := 65) rfl))) Via.refl e2 F_name_x1 (g := (mkF m 12 #[.val (.ref a1), .val (.int (1 : Int32)), .val (.ref x1)] [(.ref x1)])) rfl rfl (hb hby d14_12)
  refine Go.step st3 ?_
  show Go p e below _ (T3.setTop (mkF m 15 #[.val (.ref a1), .val (.int (1 : Int32)), .val (.ref x1)] [(.ref o_name_x1)]))
  refine Go.step (fun t k => XS.aloadN X3.here hx rfl (hb hby d14_15) rfl rfl k) ?_
  show Go p e below _ (T3.setTop (mkF m 16 #[.val (.ref a1), .val (.int (1 : Int32)), .val (.ref x1)] [(.ref a1), (.ref o_name_x1)]))
  obtain ⟨T4, X4, e4, st4⟩ := getF X3 hx hZ hown (host := "") (Or.inl (hw _ (List.mem_of_getElem? (i := 65) rfl))) Via.refl e3 F_name_a1 (g := (mkF m 16 #[.val (.ref a1), .val (.int (1 : Int32)), .val (.ref x1)] [(.ref a1), (.ref o_name_x1)])) rfl rfl (hb hby d14_16)
  refine Go.step st4 ?_
  show Go p e below _ (T4.setTop (mkF m 19 #[.val (.ref a1), .val (.int (1 : Int32)), .val (.ref x1)] [(.ref o_name_a1), (.ref o_name_x1)]))
  obtain ⟨cq5, kq5, q5a, q5b, q5c⟩ := isOf hZ e4 E_o_name_x1
  obtain ⟨_, _, ⟨T5, L5, k5, n5⟩, -, X5, ⟨Lc5, hQ5, l5, y5, z5⟩, st5⟩ := X4.virtualBack hx (y := (⟨"java/lang/String", "equals", "(Ljava/lang/Object;)Z"⟩ : MethodName)) (z := (⟨"java/lang/String", "equals", "(Ljava/lang/Object;)Z"⟩ : MethodName)) hown (mvT hZ (hw _ (List.mem_of_getElem? (i := 95) rfl))) (mvT hZ (hw _ (List.mem_of_getElem? (i := 96) rfl))) (notFace_of_selects (args := #[]) (mvT hZ (hw _ (List.mem_of_getElem? (i := 98) rfl)))) (mvT hZ (hw _ (List.mem_of_getElem? (i := 98) rfl))) (mvT hZ (hw _ (List.mem_of_getElem? (i := 97) rfl))) (by decide) (backOf (W := 0) (rm15 l Z a0 hw [] o_name_x1 o_name_a1 o_value_o_name_x1 g_o_name_x1 o_value_o_name_a1 g_o_name_a1 wC h0 n0 Z0 E_o_name_x1 F_coder_o_name_x1 F_value_o_name_x1 A_o_value_o_name_x1 E_o_name_a1 F_coder_o_name_a1 F_value_o_name_a1 A_o_value_o_name_a1 hne_o_name_x1_o_name_a1 hC S_COMPACT_STRINGS hO) hZ (hw _ (List.mem_of_getElem? (i := 99) rfl)) (hw _ (List.mem_of_getElem? (i := 5) rfl)) (by decide) (by decide)) q5a q5c (g := (mkF m 19 #[.val (.ref a1), .val (.int (1 : Int32)), .val (.ref x1)] [(.ref o_name_a1), (.ref o_name_x1)])) rfl (by rw [hml]; rfl) (Steps.refl _) (argsL := [(.ref o_name_a1)]) (rest := []) (lenOf pd_7 rfl) rfl (by show 2 * 0 + _ ≤ _; exact Nat.le_of_eq rfl) (hb hby d14_19) (fun _ _ => ⟨rfl, e4, (by decide : 0 + 0 ≤ _), (by decide : 0 + 0 ≤ _)⟩)
  dsimp only [Pt.U, Pt.locs, Pt.cells, Pt.slots] at X5 l5 y5 z5 st5 hQ5
  replace y5 : k5 = 0 := y5
  replace z5 : n5 = 0 := z5
  subst y5 z5
  obtain ⟨rfl, N5q, e5⟩ := hQ5
  have N5 : Fr n0 L5 := Eq.mpr (congrArg (Fr n0) l5) (Fr.app N0 N5q)
  refine Go.trans st5 ?_
  show Go p e below _ (T5.setTop (mkF m 22 #[.val (.ref a1), .val (.int (1 : Int32)), .val (.ref x1)] [(.int (f15 g_o_name_x1 g_o_name_a1 wC))]))
  obtain ⟨v7, hv7⟩ : ∃ z : Int32, z = (if (f15 g_o_name_x1 g_o_name_a1 wC) = (0 : Int32) then (1 : Int32) else (2 : Int32)) := ⟨_, rfl⟩
  have J22 : Go p e below (AtF p l e ({ frames := 2, cells := 0, slots := 0, locals := 28 } : Room) s m #[(.ref a1)] below meth c n0 0 0 h0 (mkF m 28 #[.val (.ref a1), .val (.int v7), .val (.ref x1)] [])) (T5.setTop (mkF m 22 #[.val (.ref a1), .val (.int (1 : Int32)), .val (.ref x1)] [(.int (f15 g_o_name_x1 g_o_name_a1 wC))])) := by
    by_cases hc6 : (f15 g_o_name_x1 g_o_name_a1 wC) = (0 : Int32)
    · refine Go.step (fun t k => XS.ifYes X5.here hx rfl (pc0 := 22) (pc' := 28) rfl (hb hby d14_22) rfl ((if0 _ _).trans (teq hc6).1) (by decide) (by decide) k) ?_
      show Go p e below _ (T5.setTop (mkF m 28 #[.val (.ref a1), .val (.int (1 : Int32)), .val (.ref x1)] []))
      exact Go.here ⟨_, _, by simp only [hv7, if_pos hc6], X5, N5, e5⟩
    · refine Go.step (fun t k => XS.ifNo X5.here hx rfl (hb hby d14_22) rfl ((if0 _ _).trans (feq hc6).1) k) ?_
      show Go p e below _ (T5.setTop (mkF m 25 #[.val (.ref a1), .val (.int (1 : Int32)), .val (.ref x1)] []))
      refine Go.step (fun t k => XS.iinc X5.here hx rfl (hb hby d14_25) rfl (l' := #[.val (.ref a1), .val (.int (2 : Int32)), .val (.ref x1)]) rfl k) ?_
      show Go p e below _ (T5.setTop (mkF m 28 #[.val (.ref a1), .val (.int (2 : Int32)), .val (.ref x1)] []))
      exact Go.here ⟨_, _, by simp only [hv7, if_neg hc6], X5, N5, e5⟩
  obtain ⟨_, st8, T8, Lj8, rfl, X8, N8, e8⟩ := J22
  refine Go.trans st8 ?_
  show Go p e below _ (T8.setTop (mkF m 28 #[.val (.ref a1), .val (.int v7), .val (.ref x1)] []))
  refine Go.step (fun t k => XS.aloadN X8.here hx rfl (hb hby d14_28) rfl rfl k) ?_
  show Go p e below _ (T8.setTop (mkF m 29 #[.val (.ref a1), .val (.int v7), .val (.ref x1)] [(.ref x1)]))
  obtain ⟨T9, X9, e9, st9⟩ := getF X8 hx hZ hown (host := "") (Or.inl (hw _ (List.mem_of_getElem? (i := 80) rfl))) Via.refl e8 F_previous_x1 (g := (mkF m 29 #[.val (.ref a1), .val (.int v7), .val (.ref x1)] [(.ref x1)])) rfl rfl (hb hby d14_29)
  refine Go.step st9 ?_
  show Go p e below _ (T9.setTop (mkF m 32 #[.val (.ref a1), .val (.int v7), .val (.ref x1)] [(.ref x2)]))
  refine Go.step (fun t k => XS.astoreN X9.here hx rfl (hb hby d14_32) rfl rfl (l' := #[.val (.ref a1), .val (.int v7), .val (.ref x2)]) rfl k) ?_
  show Go p e below _ (T9.setTop (mkF m 33 #[.val (.ref a1), .val (.int v7), .val (.ref x2)] []))
  refine Go.step (fun t k => XS.goto X9.here hx rfl (pc0 := 33) (pc' := 7) rfl (hb hby d14_33) (by decide) (by decide) k) ?_
  show Go p e below _ (T9.setTop (mkF m 7 #[.val (.ref a1), .val (.int v7), .val (.ref x2)] []))
  refine Go.step (fun t k => XS.aloadN X9.here hx rfl (hb hby d14_7) rfl rfl k) ?_
  show Go p e below _ (T9.setTop (mkF m 8 #[.val (.ref a1), .val (.int v7), .val (.ref x2)] [(.ref x2)]))
  refine Go.step (fun t k => XS.ifnullNo X9.here hx rfl (hb hby d14_8) rfl k) ?_
  show Go p e below _ (T9.setTop (mkF m 11 #[.val (.ref a1), .val (.int v7), .val (.ref x2)] []))
  refine Go.step (fun t k => XS.aloadN X9.here hx rfl (hb hby d14_11) rfl rfl k) ?_
  show Go p e below _ (T9.setTop (mkF m 12 #[.val (.ref a1), .val (.int v7), .val (.ref x2)] [(.ref x2)]))
  obtain ⟨T10, X10, e10, st10⟩ := getF X9 hx hZ hown (host := "") (Or.inl (hw _ (List.mem_of_getElem? (i := 65) rfl))) Via.refl e9 F_name_x2 (g := (mkF m 12 #[.val (.ref a1), .val (.int v7), .val (.ref x2)] [(.ref x2)])) rfl rfl (hb hby d14_12)
  refine Go.step st10 ?_
  show Go p e below _ (T10.setTop (mkF m 15 #[.val (.ref a1), .val (.int v7), .val (.ref x2)] [(.ref o_name_x2)]))
  refine Go.step (fun t k => XS.aloadN X10.here hx rfl (hb hby d14_15) rfl rfl k) ?_
  show Go p e below _ (T10.setTop (mkF m 16 #[.val (.ref a1), .val (.int v7), .val (.ref x2)] [(.ref a1), (.ref o_name_x2)]))
  obtain ⟨T11, X11, e11, st11⟩ := getF X10 hx hZ hown (host := "") (Or.inl (hw _ (List.mem_of_getElem? (i := 65) rfl))) Via.refl e10 F_name_a1 (g := (mkF m 16 #[.val (.ref a1), .val (.int v7), .val (.ref x2)] [(.ref a1), (.ref o_name_x2)])) rfl rfl (hb hby d14_16)
  refine Go.step st11 ?_
  show Go p e below _ (T11.setTop (mkF m 19 #[.val (.ref a1), .val (.int v7), .val (.ref x2)] [(.ref o_name_a1), (.ref o_name_x2)]))
  obtain ⟨cq12, kq12, q12a, q12b, q12c⟩ := isOf hZ e11 E_o_name_x2
  obtain ⟨_, _, ⟨T12, L12, k12, n12⟩, -, X12, ⟨Lc12, hQ12, l12, y12, z12⟩, st12⟩ := X11.virtualBack hx (y := (⟨"java/lang/String", "equals", "(Ljava/lang/Object;)Z"⟩ : MethodName)) (z := (⟨"java/lang/String", "equals", "(Ljava/lang/Object;)Z"⟩ : MethodName)) hown (mvT hZ (hw _ (List.mem_of_getElem? (i := 95) rfl))) (mvT hZ (hw _ (List.mem_of_getElem? (i := 96) rfl))) (notFace_of_selects (args := #[]) (mvT hZ (hw _ (List.mem_of_getElem? (i := 98) rfl)))) (mvT hZ (hw _ (List.mem_of_getElem? (i := 98) rfl))) (mvT hZ (hw _ (List.mem_of_getElem? (i := 97) rfl))) (by decide) (backOf (W := 0) (rm15 l Z a0 hw [] o_name_x2 o_name_a1 o_value_o_name_x2 g_o_name_x2 o_value_o_name_a1 g_o_name_a1 wC h0 n0 Z0 E_o_name_x2 F_coder_o_name_x2 F_value_o_name_x2 A_o_value_o_name_x2 E_o_name_a1 F_coder_o_name_a1 F_value_o_name_a1 A_o_value_o_name_a1 hne_o_name_x2_o_name_a1 hC S_COMPACT_STRINGS hO) hZ (hw _ (List.mem_of_getElem? (i := 99) rfl)) (hw _ (List.mem_of_getElem? (i := 5) rfl)) (by decide) (by decide)) q12a q12c (g := (mkF m 19 #[.val (.ref a1), .val (.int v7), .val (.ref x2)] [(.ref o_name_a1), (.ref o_name_x2)])) rfl (by rw [hml]; rfl) (Steps.refl _) (argsL := [(.ref o_name_a1)]) (rest := []) (lenOf pd_7 rfl) rfl (by show 2 * 0 + _ ≤ _; exact Nat.le_of_eq rfl) (hb hby d14_19) (fun _ _ => ⟨rfl, e11, (by decide : 0 + 0 ≤ _), (by decide : 0 + 0 ≤ _)⟩)
  dsimp only [Pt.U, Pt.locs, Pt.cells, Pt.slots] at X12 l12 y12 z12 st12 hQ12
  replace y12 : k12 = 0 := y12
  replace z12 : n12 = 0 := z12
  subst y12 z12
  obtain ⟨rfl, N12q, e12⟩ := hQ12
  have N12 : Fr n0 L12 := Eq.mpr (congrArg (Fr n0) l12) (Fr.app N8 N12q)
  refine Go.trans st12 ?_
  show Go p e below _ (T12.setTop (mkF m 22 #[.val (.ref a1), .val (.int v7), .val (.ref x2)] [(.int (f15 g_o_name_x2 g_o_name_a1 wC))]))
  obtain ⟨v14, hv14⟩ : ∃ z : Int32, z = (if (f15 g_o_name_x2 g_o_name_a1 wC) = (0 : Int32) then v7 else (v7 + (1 : Int32))) := ⟨_, rfl⟩
  have J22 : Go p e below (AtF p l e ({ frames := 2, cells := 0, slots := 0, locals := 28 } : Room) s m #[(.ref a1)] below meth c n0 0 0 h0 (mkF m 28 #[.val (.ref a1), .val (.int v14), .val (.ref x2)] [])) (T12.setTop (mkF m 22 #[.val (.ref a1), .val (.int v7), .val (.ref x2)] [(.int (f15 g_o_name_x2 g_o_name_a1 wC))])) := by
    by_cases hc13 : (f15 g_o_name_x2 g_o_name_a1 wC) = (0 : Int32)
    · refine Go.step (fun t k => XS.ifYes X12.here hx rfl (pc0 := 22) (pc' := 28) rfl (hb hby d14_22) rfl ((if0 _ _).trans (teq hc13).1) (by decide) (by decide) k) ?_
      show Go p e below _ (T12.setTop (mkF m 28 #[.val (.ref a1), .val (.int v7), .val (.ref x2)] []))
      exact Go.here ⟨_, _, by simp only [hv14, if_pos hc13], X12, N12, e12⟩
    · refine Go.step (fun t k => XS.ifNo X12.here hx rfl (hb hby d14_22) rfl ((if0 _ _).trans (feq hc13).1) k) ?_
      show Go p e below _ (T12.setTop (mkF m 25 #[.val (.ref a1), .val (.int v7), .val (.ref x2)] []))
      refine Go.step (fun t k => XS.iinc X12.here hx rfl (hb hby d14_25) rfl (l' := #[.val (.ref a1), .val (.int (v7 + (1 : Int32))), .val (.ref x2)]) rfl k) ?_
      show Go p e below _ (T12.setTop (mkF m 28 #[.val (.ref a1), .val (.int (v7 + (1 : Int32))), .val (.ref x2)] []))
      exact Go.here ⟨_, _, by simp only [hv14, if_neg hc13], X12, N12, e12⟩
  obtain ⟨_, st15, T15, Lj15, rfl, X15, N15, e15⟩ := J22
  refine Go.trans st15 ?_
  show Go p e below _ (T15.setTop (mkF m 28 #[.val (.ref a1), .val (.int v14), .val (.ref x2)] []))
  refine Go.step (fun t k => XS.aloadN X15.here hx rfl (hb hby d14_28) rfl rfl k) ?_
  show Go p e below _ (T15.setTop (mkF m 29 #[.val (.ref a1), .val (.int v14), .val (.ref x2)] [(.ref x2)]))
  obtain ⟨T16, X16, e16, st16⟩ := getF X15 hx hZ hown (host := "") (Or.inl (hw _ (List.mem_of_getElem? (i := 80) rfl))) Via.refl e15 F_previous_x2 (g := (mkF m 29 #[.val (.ref a1), .val (.int v14), .val (.ref x2)] [(.ref x2)])) rfl rfl (hb hby d14_29)
  refine Go.step st16 ?_
  show Go p e below _ (T16.setTop (mkF m 32 #[.val (.ref a1), .val (.int v14), .val (.ref x2)] [.null]))
  refine Go.step (fun t k => XS.astoreN X16.here hx rfl (hb hby d14_32) rfl rfl (l' := #[.val (.ref a1), .val (.int v14), .val .null]) rfl k) ?_
  show Go p e below _ (T16.setTop (mkF m 33 #[.val (.ref a1), .val (.int v14), .val .null] []))
  refine Go.step (fun t k => XS.goto X16.here hx rfl (pc0 := 33) (pc' := 7) rfl (hb hby d14_33) (by decide) (by decide) k) ?_
  show Go p e below _ (T16.setTop (mkF m 7 #[.val (.ref a1), .val (.int v14), .val .null] []))
  refine Go.step (fun t k => XS.aloadN X16.here hx rfl (hb hby d14_7) rfl rfl k) ?_
  show Go p e below _ (T16.setTop (mkF m 8 #[.val (.ref a1), .val (.int v14), .val .null] [.null]))
  refine Go.step (fun t k => XS.ifnullYes X16.here hx rfl (pc0 := 8) (pc' := 36) rfl (hb hby d14_8) rfl (by decide) (by decide) k) ?_
  show Go p e below _ (T16.setTop (mkF m 36 #[.val (.ref a1), .val (.int v14), .val .null] []))
  refine Go.step (fun t k => XS.iloadN X16.here hx rfl (hb hby d14_36) rfl k) ?_
  show Go p e below _ (T16.setTop (mkF m 37 #[.val (.ref a1), .val (.int v14), .val .null] [(.int v14)]))
  subst hv14
  subst hv7
  exact retGI X16 hx Bd.notSynchronized Bd.returns (hb hby d14_37) ⟨by first | rfl | (simp only [f14_2]; done) | (simp [f14_2]; done), N15, e16⟩ (by decide) (by decide)
theorem pd_8 : parseMethodDescriptor "([C)V" = some ⟨[(.array .char)], none⟩ := by decide +kernel
theorem pd_9 : parseMethodDescriptor "(Ljava/lang/String;)V" = some ⟨[(.object "java/lang/String")], none⟩ := by decide +kernel
theorem pd_10 : parseMethodDescriptor "(Lcom/example/dataflow_to_dispatch/dataflowtodispatch/model/document/XmlElement;)Lcom/example/dataflow_to_dispatch/dataflowtodispatch/model/document/XmlElement;" = some ⟨[(.object "com/example/dataflow_to_dispatch/dataflowtodispatch/model/document/XmlElement")], some (.object "com/example/dataflow_to_dispatch/dataflowtodispatch/model/document/XmlElement")⟩ := by decide +kernel
theorem pd_11 : parseMethodDescriptor "(CCCC)I" = some ⟨[.char, .char, .char, .char], some .int⟩ := by decide +kernel
theorem pd_12 : parseMethodDescriptor "()I" = some ⟨[], some .int⟩ := by decide +kernel
theorem ef_0 (m : MethodId) (p1 : Int32) (p2 : Int32) (p3 : Int32) : entryFrame m #[(.int p1), (.int p2), (.int p3)] maxLocals = mkF m 0 #[.val (.int p1), .val (.int p2), .val (.int p3), .unset, .unset, .unset, .unset, .unset, .unset, .unset, .unset, .unset, .unset, .unset, .unset, .unset, .unset, .unset] [] := by first | (simp [entryFrame, mkF, argsToLocals, Value.category, maxLocals]; done) | rfl
def f0 (p1 : Int32) (p2 : Int32) (p3 : Int32) (wC : Int32) : Int32 := (if f14_0 = (1 : Int32) then (if (f14_1 (upA (upA (fun _ => (0 : Int32)) 0 (nar .byte (((upA (upA (fun _ => (0 : Int32)) 0 (nar .char (if (p3 &&& (4 : Int32)) = (0 : Int32) then ((p2 &&& (255 : Int32)).toUInt32.toUInt16.toUInt32.toInt32) else ((p1 &&& (255 : Int32)).toUInt32.toUInt16.toUInt32.toInt32)))) 1 (nar .char (if (p3 &&& (8 : Int32)) = (0 : Int32) then ((p2 &&& (255 : Int32)).toUInt32.toUInt16.toUInt32.toInt32) else ((p1 &&& (255 : Int32)).toUInt32.toUInt16.toUInt32.toInt32)))) 0).toInt8.toInt32))) 1 (nar .byte (((upA (upA (fun _ => (0 : Int32)) 0 (nar .char (if (p3 &&& (4 : Int32)) = (0 : Int32) then ((p2 &&& (255 : Int32)).toUInt32.toUInt16.toUInt32.toInt32) else ((p1 &&& (255 : Int32)).toUInt32.toUInt16.toUInt32.toInt32)))) 1 (nar .char (if (p3 &&& (8 : Int32)) = (0 : Int32) then ((p2 &&& (255 : Int32)).toUInt32.toUInt16.toUInt32.toInt32) else ((p1 &&& (255 : Int32)).toUInt32.toUInt16.toUInt32.toInt32)))) 1).toInt8.toInt32))) (upA (upA (fun _ => (0 : Int32)) 0 (nar .byte (((upA (upA (fun _ => (0 : Int32)) 0 (nar .char (if (p3 &&& (1 : Int32)) = (0 : Int32) then ((p2 &&& (255 : Int32)).toUInt32.toUInt16.toUInt32.toInt32) else ((p1 &&& (255 : Int32)).toUInt32.toUInt16.toUInt32.toInt32)))) 1 (nar .char (if (p3 &&& (2 : Int32)) = (0 : Int32) then ((p2 &&& (255 : Int32)).toUInt32.toUInt16.toUInt32.toInt32) else ((p1 &&& (255 : Int32)).toUInt32.toUInt16.toUInt32.toInt32)))) 0).toInt8.toInt32))) 1 (nar .byte (((upA (upA (fun _ => (0 : Int32)) 0 (nar .char (if (p3 &&& (1 : Int32)) = (0 : Int32) then ((p2 &&& (255 : Int32)).toUInt32.toUInt16.toUInt32.toInt32) else ((p1 &&& (255 : Int32)).toUInt32.toUInt16.toUInt32.toInt32)))) 1 (nar .char (if (p3 &&& (2 : Int32)) = (0 : Int32) then ((p2 &&& (255 : Int32)).toUInt32.toUInt16.toUInt32.toInt32) else ((p1 &&& (255 : Int32)).toUInt32.toUInt16.toUInt32.toInt32)))) 1).toInt8.toInt32))) wC) = ((1 : Int32) + (f13 (if (p3 &&& (4 : Int32)) = (0 : Int32) then ((p2 &&& (255 : Int32)).toUInt32.toUInt16.toUInt32.toInt32) else ((p1 &&& (255 : Int32)).toUInt32.toUInt16.toUInt32.toInt32)) (if (p3 &&& (8 : Int32)) = (0 : Int32) then ((p2 &&& (255 : Int32)).toUInt32.toUInt16.toUInt32.toInt32) else ((p1 &&& (255 : Int32)).toUInt32.toUInt16.toUInt32.toInt32)) (if (p3 &&& (1 : Int32)) = (0 : Int32) then ((p2 &&& (255 : Int32)).toUInt32.toUInt16.toUInt32.toInt32) else ((p1 &&& (255 : Int32)).toUInt32.toUInt16.toUInt32.toInt32)) (if (p3 &&& (2 : Int32)) = (0 : Int32) then ((p2 &&& (255 : Int32)).toUInt32.toUInt16.toUInt32.toInt32) else ((p1 &&& (255 : Int32)).toUInt32.toUInt16.toUInt32.toInt32)))) then (if (f14_2 (upA (upA (fun _ => (0 : Int32)) 0 (nar .byte (((upA (upA (fun _ => (0 : Int32)) 0 (nar .char (if (p3 &&& (16 : Int32)) = (0 : Int32) then ((p2 &&& (255 : Int32)).toUInt32.toUInt16.toUInt32.toInt32) else ((p1 &&& (255 : Int32)).toUInt32.toUInt16.toUInt32.toInt32)))) 1 (nar .char (if (p3 &&& (32 : Int32)) = (0 : Int32) then ((p2 &&& (255 : Int32)).toUInt32.toUInt16.toUInt32.toInt32) else ((p1 &&& (255 : Int32)).toUInt32.toUInt16.toUInt32.toInt32)))) 0).toInt8.toInt32))) 1 (nar .byte (((upA (upA (fun _ => (0 : Int32)) 0 (nar .char (if (p3 &&& (16 : Int32)) = (0 : Int32) then ((p2 &&& (255 : Int32)).toUInt32.toUInt16.toUInt32.toInt32) else ((p1 &&& (255 : Int32)).toUInt32.toUInt16.toUInt32.toInt32)))) 1 (nar .char (if (p3 &&& (32 : Int32)) = (0 : Int32) then ((p2 &&& (255 : Int32)).toUInt32.toUInt16.toUInt32.toInt32) else ((p1 &&& (255 : Int32)).toUInt32.toUInt16.toUInt32.toInt32)))) 1).toInt8.toInt32))) (upA (upA (fun _ => (0 : Int32)) 0 (nar .byte (((upA (upA (fun _ => (0 : Int32)) 0 (nar .char (if (p3 &&& (4 : Int32)) = (0 : Int32) then ((p2 &&& (255 : Int32)).toUInt32.toUInt16.toUInt32.toInt32) else ((p1 &&& (255 : Int32)).toUInt32.toUInt16.toUInt32.toInt32)))) 1 (nar .char (if (p3 &&& (8 : Int32)) = (0 : Int32) then ((p2 &&& (255 : Int32)).toUInt32.toUInt16.toUInt32.toInt32) else ((p1 &&& (255 : Int32)).toUInt32.toUInt16.toUInt32.toInt32)))) 0).toInt8.toInt32))) 1 (nar .byte (((upA (upA (fun _ => (0 : Int32)) 0 (nar .char (if (p3 &&& (4 : Int32)) = (0 : Int32) then ((p2 &&& (255 : Int32)).toUInt32.toUInt16.toUInt32.toInt32) else ((p1 &&& (255 : Int32)).toUInt32.toUInt16.toUInt32.toInt32)))) 1 (nar .char (if (p3 &&& (8 : Int32)) = (0 : Int32) then ((p2 &&& (255 : Int32)).toUInt32.toUInt16.toUInt32.toInt32) else ((p1 &&& (255 : Int32)).toUInt32.toUInt16.toUInt32.toInt32)))) 1).toInt8.toInt32))) (upA (upA (fun _ => (0 : Int32)) 0 (nar .byte (((upA (upA (fun _ => (0 : Int32)) 0 (nar .char (if (p3 &&& (1 : Int32)) = (0 : Int32) then ((p2 &&& (255 : Int32)).toUInt32.toUInt16.toUInt32.toInt32) else ((p1 &&& (255 : Int32)).toUInt32.toUInt16.toUInt32.toInt32)))) 1 (nar .char (if (p3 &&& (2 : Int32)) = (0 : Int32) then ((p2 &&& (255 : Int32)).toUInt32.toUInt16.toUInt32.toInt32) else ((p1 &&& (255 : Int32)).toUInt32.toUInt16.toUInt32.toInt32)))) 0).toInt8.toInt32))) 1 (nar .byte (((upA (upA (fun _ => (0 : Int32)) 0 (nar .char (if (p3 &&& (1 : Int32)) = (0 : Int32) then ((p2 &&& (255 : Int32)).toUInt32.toUInt16.toUInt32.toInt32) else ((p1 &&& (255 : Int32)).toUInt32.toUInt16.toUInt32.toInt32)))) 1 (nar .char (if (p3 &&& (2 : Int32)) = (0 : Int32) then ((p2 &&& (255 : Int32)).toUInt32.toUInt16.toUInt32.toInt32) else ((p1 &&& (255 : Int32)).toUInt32.toUInt16.toUInt32.toInt32)))) 1).toInt8.toInt32))) wC) = (((1 : Int32) + (f13 (if (p3 &&& (16 : Int32)) = (0 : Int32) then ((p2 &&& (255 : Int32)).toUInt32.toUInt16.toUInt32.toInt32) else ((p1 &&& (255 : Int32)).toUInt32.toUInt16.toUInt32.toInt32)) (if (p3 &&& (32 : Int32)) = (0 : Int32) then ((p2 &&& (255 : Int32)).toUInt32.toUInt16.toUInt32.toInt32) else ((p1 &&& (255 : Int32)).toUInt32.toUInt16.toUInt32.toInt32)) (if (p3 &&& (1 : Int32)) = (0 : Int32) then ((p2 &&& (255 : Int32)).toUInt32.toUInt16.toUInt32.toInt32) else ((p1 &&& (255 : Int32)).toUInt32.toUInt16.toUInt32.toInt32)) (if (p3 &&& (2 : Int32)) = (0 : Int32) then ((p2 &&& (255 : Int32)).toUInt32.toUInt16.toUInt32.toInt32) else ((p1 &&& (255 : Int32)).toUInt32.toUInt16.toUInt32.toInt32)))) + (f13 (if (p3 &&& (16 : Int32)) = (0 : Int32) then ((p2 &&& (255 : Int32)).toUInt32.toUInt16.toUInt32.toInt32) else ((p1 &&& (255 : Int32)).toUInt32.toUInt16.toUInt32.toInt32)) (if (p3 &&& (32 : Int32)) = (0 : Int32) then ((p2 &&& (255 : Int32)).toUInt32.toUInt16.toUInt32.toInt32) else ((p1 &&& (255 : Int32)).toUInt32.toUInt16.toUInt32.toInt32)) (if (p3 &&& (4 : Int32)) = (0 : Int32) then ((p2 &&& (255 : Int32)).toUInt32.toUInt16.toUInt32.toInt32) else ((p1 &&& (255 : Int32)).toUInt32.toUInt16.toUInt32.toInt32)) (if (p3 &&& (8 : Int32)) = (0 : Int32) then ((p2 &&& (255 : Int32)).toUInt32.toUInt16.toUInt32.toInt32) else ((p1 &&& (255 : Int32)).toUInt32.toUInt16.toUInt32.toInt32)))) then (1 : Int32) else (0 : Int32)) else (0 : Int32)) else (0 : Int32))
set_option maxRecDepth 65536 in
set_option maxHeartbeats 40000000 in
theorem rm0 (l : Launch) (Z : State) (a0 : Array Value) (hw : ∀ d ∈ tables_1, d.before a0 Z = true) (ws : List Jvm.Cond) (p1 : Int32) (p2 : Int32) (p3 : Int32) (wC : Int32) (oD : Addr) (h0 : Heap) (n0 : Nat) (Z0 : n0 ≤ h0.size) (hO : Old Z n0 h0) (hC : ¬ (wC = (0 : Int32))) (S_COMPACT_STRINGS : Sta Z Z.heap "java/lang/String" "COMPACT_STRINGS" "Z" (.int wC)) (S_DEFAULTCAPACITY_EMPTY_ELEMENTDATA : Sta Z Z.heap "java/util/ArrayList" "DEFAULTCAPACITY_EMPTY_ELEMENTDATA" "[Ljava/lang/Object;" (.ref oD)) :
    MetFree l x (head1 (Jvm.Cond.code x code maxLocals ret :: ws) room_1) (fun a U => a = #[(.int p1), (.int p2), (.int p3)] ∧ Z.Warmed39 U.vm ∧ U.heap = h0) (fun _ _ _ _ _ => True) (fun _ U o U' => ∃ v L, o = .returned v ∧ QL (.int (f0 p1 p2 p3 wC)) n0 v U'.heap L ∧ FrameEnd U o U' L room_1.cells room_1.slots) := by
  refine MetFree.of_bodySF (plainFor_of_name pn_6) hisR ?_
  intro p e s m args below meth c s₁ Bd hml0 hP hK
  obtain ⟨rfl, hZ, hh⟩ := hP
  have hx := Bd.exec
  have hby := Bd.bytes
  have hml : c.maxLocals = 18 := hml0
  have hown : s.vm.findClass "com/example/dataflow_to_dispatch/dataflowtodispatch/model/document/XmlElementPositionPinLaw" = some m.cls := findClass_of_methodNamed Bd.named
  have hnm := (name_of_methodNamed Bd.named Bd.method).1
  have X0 : Stand p l e room_1 s m #[(.int p1), (.int p2), (.int p3)] below meth c s₁ [] 0 0 := Stand.of_body Bd
  have e0 : s₁.heap = h0 := by rw [← hh, Bd.state]; rfl
  have N0 := Fr.nil n0
  refine Go.done (Go.step (fun t k => castTop (ef_0 m p1 p2 p3) k) ?_)
  have KK0 : Keep h0 h0 [] := Keep.refl _ _
  show Go p e below _ (s₁.setTop (mkF m 0 #[.val (.int p1), .val (.int p2), .val (.int p3), .unset, .unset, .unset, .unset, .unset, .unset, .unset, .unset, .unset, .unset, .unset, .unset, .unset, .unset, .unset] []))
  refine Go.step (fun t k => XS.iloadN X0.here hx rfl (hb hby at_0) rfl k) ?_
  show Go p e below _ (s₁.setTop (mkF m 1 #[.val (.int p1), .val (.int p2), .val (.int p3), .unset, .unset, .unset, .unset, .unset, .unset, .unset, .unset, .unset, .unset, .unset, .unset, .unset, .unset, .unset] [(.int p1)]))
  refine Go.step (fun t k => XS.sipush X0.here hx rfl (hb hby at_1)  k) ?_
  show Go p e below _ (s₁.setTop (mkF m 4 #[.val (.int p1), .val (.int p2), .val (.int p3), .unset, .unset, .unset, .unset, .unset, .unset, .unset, .unset, .unset, .unset, .unset, .unset, .unset, .unset, .unset] [(.int (255 : Int32)), (.int p1)]))
  refine Go.step (fun t k => XS.iand X0.here hx rfl (hb hby at_4) rfl k) ?_
  show Go p e below _ (s₁.setTop (mkF m 5 #[.val (.int p1), .val (.int p2), .val (.int p3), .unset, .unset, .unset, .unset, .unset, .unset, .unset, .unset, .unset, .unset, .unset, .unset, .unset, .unset, .unset] [(.int (p1 &&& (255 : Int32)))]))
  refine Go.step (fun t k => XS.i2c X0.here hx rfl (hb hby at_5) rfl k) ?_
  show Go p e below _ (s₁.setTop (mkF m 6 #[.val (.int p1), .val (.int p2), .val (.int p3), .unset, .unset, .unset, .unset, .unset, .unset, .unset, .unset, .unset, .unset, .unset, .unset, .unset, .unset, .unset] [(.int ((p1 &&& (255 : Int32)).toUInt32.toUInt16.toUInt32.toInt32))]))
  refine nameIt (fun zz : Int32 => Go p e below _ (s₁.setTop (mkF m 6 #[.val (.int p1), .val (.int p2), .val (.int p3), .unset, .unset, .unset, .unset, .unset, .unset, .unset, .unset, .unset, .unset, .unset, .unset, .unset, .unset, .unset] [(.int zz)]))) ((p1 &&& (255 : Int32)).toUInt32.toUInt16.toUInt32.toInt32) ?_
  intro v4 hv4
  show Go p e below _ (s₁.setTop (mkF m 6 #[.val (.int p1), .val (.int p2), .val (.int p3), .unset, .unset, .unset, .unset, .unset, .unset, .unset, .unset, .unset, .unset, .unset, .unset, .unset, .unset, .unset] [(.int v4)]))
  refine Go.step (fun t k => XS.istoreN X0.here hx rfl (hb hby at_6) rfl (l' := #[.val (.int p1), .val (.int p2), .val (.int p3), .val (.int v4), .unset, .unset, .unset, .unset, .unset, .unset, .unset, .unset, .unset, .unset, .unset, .unset, .unset, .unset]) rfl k) ?_
  show Go p e below _ (s₁.setTop (mkF m 7 #[.val (.int p1), .val (.int p2), .val (.int p3), .val (.int v4), .unset, .unset, .unset, .unset, .unset, .unset, .unset, .unset, .unset, .unset, .unset, .unset, .unset, .unset] []))
  refine Go.step (fun t k => XS.iloadN X0.here hx rfl (hb hby at_7) rfl k) ?_
  show Go p e below _ (s₁.setTop (mkF m 8 #[.val (.int p1), .val (.int p2), .val (.int p3), .val (.int v4), .unset, .unset, .unset, .unset, .unset, .unset, .unset, .unset, .unset, .unset, .unset, .unset, .unset, .unset] [(.int p2)]))
  refine Go.step (fun t k => XS.sipush X0.here hx rfl (hb hby at_8)  k) ?_
  show Go p e below _ (s₁.setTop (mkF m 11 #[.val (.int p1), .val (.int p2), .val (.int p3), .val (.int v4), .unset, .unset, .unset, .unset, .unset, .unset, .unset, .unset, .unset, .unset, .unset, .unset, .unset, .unset] [(.int (255 : Int32)), (.int p2)]))
  refine Go.step (fun t k => XS.iand X0.here hx rfl (hb hby at_11) rfl k) ?_
  show Go p e below _ (s₁.setTop (mkF m 12 #[.val (.int p1), .val (.int p2), .val (.int p3), .val (.int v4), .unset, .unset, .unset, .unset, .unset, .unset, .unset, .unset, .unset, .unset, .unset, .unset, .unset, .unset] [(.int (p2 &&& (255 : Int32)))]))
  refine Go.step (fun t k => XS.i2c X0.here hx rfl (hb hby at_12) rfl k) ?_
  show Go p e below _ (s₁.setTop (mkF m 13 #[.val (.int p1), .val (.int p2), .val (.int p3), .val (.int v4), .unset, .unset, .unset, .unset, .unset, .unset, .unset, .unset, .unset, .unset, .unset, .unset, .unset, .unset] [(.int ((p2 &&& (255 : Int32)).toUInt32.toUInt16.toUInt32.toInt32))]))
  refine nameIt (fun zz : Int32 => Go p e below _ (s₁.setTop (mkF m 13 #[.val (.int p1), .val (.int p2), .val (.int p3), .val (.int v4), .unset, .unset, .unset, .unset, .unset, .unset, .unset, .unset, .unset, .unset, .unset, .unset, .unset, .unset] [(.int zz)]))) ((p2 &&& (255 : Int32)).toUInt32.toUInt16.toUInt32.toInt32) ?_
  intro v5 hv5
  show Go p e below _ (s₁.setTop (mkF m 13 #[.val (.int p1), .val (.int p2), .val (.int p3), .val (.int v4), .unset, .unset, .unset, .unset, .unset, .unset, .unset, .unset, .unset, .unset, .unset, .unset, .unset, .unset] [(.int v5)]))
  refine Go.step (fun t k => XS.istore X0.here hx rfl (hb hby at_13) rfl (l' := #[.val (.int p1), .val (.int p2), .val (.int p3), .val (.int v4), .val (.int v5), .unset, .unset, .unset, .unset, .unset, .unset, .unset, .unset, .unset, .unset, .unset, .unset, .unset]) rfl k) ?_
  show Go p e below _ (s₁.setTop (mkF m 15 #[.val (.int p1), .val (.int p2), .val (.int p3), .val (.int v4), .val (.int v5), .unset, .unset, .unset, .unset, .unset, .unset, .unset, .unset, .unset, .unset, .unset, .unset, .unset] []))
  refine Go.step (fun t k => XS.iloadN X0.here hx rfl (hb hby at_15) rfl k) ?_
  show Go p e below _ (s₁.setTop (mkF m 16 #[.val (.int p1), .val (.int p2), .val (.int p3), .val (.int v4), .val (.int v5), .unset, .unset, .unset, .unset, .unset, .unset, .unset, .unset, .unset, .unset, .unset, .unset, .unset] [(.int p3)]))
  refine Go.step (fun t k => XS.iconst X0.here hx rfl (hb hby at_16)  k) ?_
  show Go p e below _ (s₁.setTop (mkF m 17 #[.val (.int p1), .val (.int p2), .val (.int p3), .val (.int v4), .val (.int v5), .unset, .unset, .unset, .unset, .unset, .unset, .unset, .unset, .unset, .unset, .unset, .unset, .unset] [(.int (1 : Int32)), (.int p3)]))
  refine Go.step (fun t k => XS.iand X0.here hx rfl (hb hby at_17) rfl k) ?_
  show Go p e below _ (s₁.setTop (mkF m 18 #[.val (.int p1), .val (.int p2), .val (.int p3), .val (.int v4), .val (.int v5), .unset, .unset, .unset, .unset, .unset, .unset, .unset, .unset, .unset, .unset, .unset, .unset, .unset] [(.int (p3 &&& (1 : Int32)))]))
  obtain ⟨v7, hv7⟩ : ∃ z : Int32, z = (if (p3 &&& (1 : Int32)) = (0 : Int32) then v5 else v4) := ⟨_, rfl⟩
  have J18 : Go p e below (AtF p l e room_1 s m #[(.int p1), (.int p2), (.int p3)] below meth c n0 0 0 h0 (mkF m 27 #[.val (.int p1), .val (.int p2), .val (.int p3), .val (.int v4), .val (.int v5), .unset, .unset, .unset, .unset, .unset, .unset, .unset, .unset, .unset, .unset, .unset, .unset, .unset] [(.int v7)])) (s₁.setTop (mkF m 18 #[.val (.int p1), .val (.int p2), .val (.int p3), .val (.int v4), .val (.int v5), .unset, .unset, .unset, .unset, .unset, .unset, .unset, .unset, .unset, .unset, .unset, .unset, .unset] [(.int (p3 &&& (1 : Int32)))])) := by
    by_cases hc6 : (p3 &&& (1 : Int32)) = (0 : Int32)
    · refine Go.step (fun t k => XS.ifYes X0.here hx rfl (pc0 := 18) (pc' := 25) rfl (hb hby at_18) rfl ((if0 _ _).trans (teq hc6).1) (by decide) (by decide) k) ?_
      show Go p e below _ (s₁.setTop (mkF m 25 #[.val (.int p1), .val (.int p2), .val (.int p3), .val (.int v4), .val (.int v5), .unset, .unset, .unset, .unset, .unset, .unset, .unset, .unset, .unset, .unset, .unset, .unset, .unset] []))
      refine Go.step (fun t k => XS.iload X0.here hx rfl (hb hby at_25) rfl k) ?_
      show Go p e below _ (s₁.setTop (mkF m 27 #[.val (.int p1), .val (.int p2), .val (.int p3), .val (.int v4), .val (.int v5), .unset, .unset, .unset, .unset, .unset, .unset, .unset, .unset, .unset, .unset, .unset, .unset, .unset] [(.int v5)]))
      exact Go.here ⟨_, _, by simp only [hv7, if_pos hc6], X0, N0, e0⟩
    · refine Go.step (fun t k => XS.ifNo X0.here hx rfl (hb hby at_18) rfl ((if0 _ _).trans (feq hc6).1) k) ?_
      show Go p e below _ (s₁.setTop (mkF m 21 #[.val (.int p1), .val (.int p2), .val (.int p3), .val (.int v4), .val (.int v5), .unset, .unset, .unset, .unset, .unset, .unset, .unset, .unset, .unset, .unset, .unset, .unset, .unset] []))
      refine Go.step (fun t k => XS.iloadN X0.here hx rfl (hb hby at_21) rfl k) ?_
      show Go p e below _ (s₁.setTop (mkF m 22 #[.val (.int p1), .val (.int p2), .val (.int p3), .val (.int v4), .val (.int v5), .unset, .unset, .unset, .unset, .unset, .unset, .unset, .unset, .unset, .unset, .unset, .unset, .unset] [(.int v4)]))
      refine Go.step (fun t k => XS.goto X0.here hx rfl (pc0 := 22) (pc' := 27) rfl (hb hby at_22) (by decide) (by decide) k) ?_
      show Go p e below _ (s₁.setTop (mkF m 27 #[.val (.int p1), .val (.int p2), .val (.int p3), .val (.int v4), .val (.int v5), .unset, .unset, .unset, .unset, .unset, .unset, .unset, .unset, .unset, .unset, .unset, .unset, .unset] [(.int v4)]))
      exact Go.here ⟨_, _, by simp only [hv7, if_neg hc6], X0, N0, e0⟩
  obtain ⟨_, st8, T8, Lj8, rfl, X8, N8, e8⟩ := J18
  refine Go.trans st8 ?_
  show Go p e below _ (T8.setTop (mkF m 27 #[.val (.int p1), .val (.int p2), .val (.int p3), .val (.int v4), .val (.int v5), .unset, .unset, .unset, .unset, .unset, .unset, .unset, .unset, .unset, .unset, .unset, .unset, .unset] [(.int v7)]))
  refine Go.step (fun t k => XS.istore X8.here hx rfl (hb hby at_27) rfl (l' := #[.val (.int p1), .val (.int p2), .val (.int p3), .val (.int v4), .val (.int v5), .val (.int v7), .unset, .unset, .unset, .unset, .unset, .unset, .unset, .unset, .unset, .unset, .unset, .unset]) rfl k) ?_
  show Go p e below _ (T8.setTop (mkF m 29 #[.val (.int p1), .val (.int p2), .val (.int p3), .val (.int v4), .val (.int v5), .val (.int v7), .unset, .unset, .unset, .unset, .unset, .unset, .unset, .unset, .unset, .unset, .unset, .unset] []))
  refine Go.step (fun t k => XS.iloadN X8.here hx rfl (hb hby at_29) rfl k) ?_
  show Go p e below _ (T8.setTop (mkF m 30 #[.val (.int p1), .val (.int p2), .val (.int p3), .val (.int v4), .val (.int v5), .val (.int v7), .unset, .unset, .unset, .unset, .unset, .unset, .unset, .unset, .unset, .unset, .unset, .unset] [(.int p3)]))
  refine Go.step (fun t k => XS.iconst X8.here hx rfl (hb hby at_30)  k) ?_
  show Go p e below _ (T8.setTop (mkF m 31 #[.val (.int p1), .val (.int p2), .val (.int p3), .val (.int v4), .val (.int v5), .val (.int v7), .unset, .unset, .unset, .unset, .unset, .unset, .unset, .unset, .unset, .unset, .unset, .unset] [(.int (2 : Int32)), (.int p3)]))
  refine Go.step (fun t k => XS.iand X8.here hx rfl (hb hby at_31) rfl k) ?_
  show Go p e below _ (T8.setTop (mkF m 32 #[.val (.int p1), .val (.int p2), .val (.int p3), .val (.int v4), .val (.int v5), .val (.int v7), .unset, .unset, .unset, .unset, .unset, .unset, .unset, .unset, .unset, .unset, .unset, .unset] [(.int (p3 &&& (2 : Int32)))]))
  obtain ⟨v10, hv10⟩ : ∃ z : Int32, z = (if (p3 &&& (2 : Int32)) = (0 : Int32) then v5 else v4) := ⟨_, rfl⟩
  have J32 : Go p e below (AtF p l e room_1 s m #[(.int p1), (.int p2), (.int p3)] below meth c n0 0 0 h0 (mkF m 41 #[.val (.int p1), .val (.int p2), .val (.int p3), .val (.int v4), .val (.int v5), .val (.int v7), .unset, .unset, .unset, .unset, .unset, .unset, .unset, .unset, .unset, .unset, .unset, .unset] [(.int v10)])) (T8.setTop (mkF m 32 #[.val (.int p1), .val (.int p2), .val (.int p3), .val (.int v4), .val (.int v5), .val (.int v7), .unset, .unset, .unset, .unset, .unset, .unset, .unset, .unset, .unset, .unset, .unset, .unset] [(.int (p3 &&& (2 : Int32)))])) := by
    by_cases hc9 : (p3 &&& (2 : Int32)) = (0 : Int32)
    · refine Go.step (fun t k => XS.ifYes X8.here hx rfl (pc0 := 32) (pc' := 39) rfl (hb hby at_32) rfl ((if0 _ _).trans (teq hc9).1) (by decide) (by decide) k) ?_
      show Go p e below _ (T8.setTop (mkF m 39 #[.val (.int p1), .val (.int p2), .val (.int p3), .val (.int v4), .val (.int v5), .val (.int v7), .unset, .unset, .unset, .unset, .unset, .unset, .unset, .unset, .unset, .unset, .unset, .unset] []))
      refine Go.step (fun t k => XS.iload X8.here hx rfl (hb hby at_39) rfl k) ?_
      show Go p e below _ (T8.setTop (mkF m 41 #[.val (.int p1), .val (.int p2), .val (.int p3), .val (.int v4), .val (.int v5), .val (.int v7), .unset, .unset, .unset, .unset, .unset, .unset, .unset, .unset, .unset, .unset, .unset, .unset] [(.int v5)]))
      exact Go.here ⟨_, _, by simp only [hv10, if_pos hc9], X8, N8, e8⟩
    · refine Go.step (fun t k => XS.ifNo X8.here hx rfl (hb hby at_32) rfl ((if0 _ _).trans (feq hc9).1) k) ?_
      show Go p e below _ (T8.setTop (mkF m 35 #[.val (.int p1), .val (.int p2), .val (.int p3), .val (.int v4), .val (.int v5), .val (.int v7), .unset, .unset, .unset, .unset, .unset, .unset, .unset, .unset, .unset, .unset, .unset, .unset] []))
      refine Go.step (fun t k => XS.iloadN X8.here hx rfl (hb hby at_35) rfl k) ?_
      show Go p e below _ (T8.setTop (mkF m 36 #[.val (.int p1), .val (.int p2), .val (.int p3), .val (.int v4), .val (.int v5), .val (.int v7), .unset, .unset, .unset, .unset, .unset, .unset, .unset, .unset, .unset, .unset, .unset, .unset] [(.int v4)]))
      refine Go.step (fun t k => XS.goto X8.here hx rfl (pc0 := 36) (pc' := 41) rfl (hb hby at_36) (by decide) (by decide) k) ?_
      show Go p e below _ (T8.setTop (mkF m 41 #[.val (.int p1), .val (.int p2), .val (.int p3), .val (.int v4), .val (.int v5), .val (.int v7), .unset, .unset, .unset, .unset, .unset, .unset, .unset, .unset, .unset, .unset, .unset, .unset] [(.int v4)]))
      exact Go.here ⟨_, _, by simp only [hv10, if_neg hc9], X8, N8, e8⟩
  obtain ⟨_, st11, T11, Lj11, rfl, X11, N11, e11⟩ := J32
  refine Go.trans st11 ?_
  show Go p e below _ (T11.setTop (mkF m 41 #[.val (.int p1), .val (.int p2), .val (.int p3), .val (.int v4), .val (.int v5), .val (.int v7), .unset, .unset, .unset, .unset, .unset, .unset, .unset, .unset, .unset, .unset, .unset, .unset] [(.int v10)]))
  refine Go.step (fun t k => XS.istore X11.here hx rfl (hb hby at_41) rfl (l' := #[.val (.int p1), .val (.int p2), .val (.int p3), .val (.int v4), .val (.int v5), .val (.int v7), .val (.int v10), .unset, .unset, .unset, .unset, .unset, .unset, .unset, .unset, .unset, .unset, .unset]) rfl k) ?_
  show Go p e below _ (T11.setTop (mkF m 43 #[.val (.int p1), .val (.int p2), .val (.int p3), .val (.int v4), .val (.int v5), .val (.int v7), .val (.int v10), .unset, .unset, .unset, .unset, .unset, .unset, .unset, .unset, .unset, .unset, .unset] []))
  refine Go.step (fun t k => XS.iloadN X11.here hx rfl (hb hby at_43) rfl k) ?_
  show Go p e below _ (T11.setTop (mkF m 44 #[.val (.int p1), .val (.int p2), .val (.int p3), .val (.int v4), .val (.int v5), .val (.int v7), .val (.int v10), .unset, .unset, .unset, .unset, .unset, .unset, .unset, .unset, .unset, .unset, .unset] [(.int p3)]))
  refine Go.step (fun t k => XS.iconst X11.here hx rfl (hb hby at_44)  k) ?_
  show Go p e below _ (T11.setTop (mkF m 45 #[.val (.int p1), .val (.int p2), .val (.int p3), .val (.int v4), .val (.int v5), .val (.int v7), .val (.int v10), .unset, .unset, .unset, .unset, .unset, .unset, .unset, .unset, .unset, .unset, .unset] [(.int (4 : Int32)), (.int p3)]))
  refine Go.step (fun t k => XS.iand X11.here hx rfl (hb hby at_45) rfl k) ?_
  show Go p e below _ (T11.setTop (mkF m 46 #[.val (.int p1), .val (.int p2), .val (.int p3), .val (.int v4), .val (.int v5), .val (.int v7), .val (.int v10), .unset, .unset, .unset, .unset, .unset, .unset, .unset, .unset, .unset, .unset, .unset] [(.int (p3 &&& (4 : Int32)))]))
  obtain ⟨v13, hv13⟩ : ∃ z : Int32, z = (if (p3 &&& (4 : Int32)) = (0 : Int32) then v5 else v4) := ⟨_, rfl⟩
  have J46 : Go p e below (AtF p l e room_1 s m #[(.int p1), (.int p2), (.int p3)] below meth c n0 0 0 h0 (mkF m 55 #[.val (.int p1), .val (.int p2), .val (.int p3), .val (.int v4), .val (.int v5), .val (.int v7), .val (.int v10), .unset, .unset, .unset, .unset, .unset, .unset, .unset, .unset, .unset, .unset, .unset] [(.int v13)])) (T11.setTop (mkF m 46 #[.val (.int p1), .val (.int p2), .val (.int p3), .val (.int v4), .val (.int v5), .val (.int v7), .val (.int v10), .unset, .unset, .unset, .unset, .unset, .unset, .unset, .unset, .unset, .unset, .unset] [(.int (p3 &&& (4 : Int32)))])) := by
    by_cases hc12 : (p3 &&& (4 : Int32)) = (0 : Int32)
    · refine Go.step (fun t k => XS.ifYes X11.here hx rfl (pc0 := 46) (pc' := 53) rfl (hb hby at_46) rfl ((if0 _ _).trans (teq hc12).1) (by decide) (by decide) k) ?_
      show Go p e below _ (T11.setTop (mkF m 53 #[.val (.int p1), .val (.int p2), .val (.int p3), .val (.int v4), .val (.int v5), .val (.int v7), .val (.int v10), .unset, .unset, .unset, .unset, .unset, .unset, .unset, .unset, .unset, .unset, .unset] []))
      refine Go.step (fun t k => XS.iload X11.here hx rfl (hb hby at_53) rfl k) ?_
      show Go p e below _ (T11.setTop (mkF m 55 #[.val (.int p1), .val (.int p2), .val (.int p3), .val (.int v4), .val (.int v5), .val (.int v7), .val (.int v10), .unset, .unset, .unset, .unset, .unset, .unset, .unset, .unset, .unset, .unset, .unset] [(.int v5)]))
      exact Go.here ⟨_, _, by simp only [hv13, if_pos hc12], X11, N11, e11⟩
    · refine Go.step (fun t k => XS.ifNo X11.here hx rfl (hb hby at_46) rfl ((if0 _ _).trans (feq hc12).1) k) ?_
      show Go p e below _ (T11.setTop (mkF m 49 #[.val (.int p1), .val (.int p2), .val (.int p3), .val (.int v4), .val (.int v5), .val (.int v7), .val (.int v10), .unset, .unset, .unset, .unset, .unset, .unset, .unset, .unset, .unset, .unset, .unset] []))
      refine Go.step (fun t k => XS.iloadN X11.here hx rfl (hb hby at_49) rfl k) ?_
      show Go p e below _ (T11.setTop (mkF m 50 #[.val (.int p1), .val (.int p2), .val (.int p3), .val (.int v4), .val (.int v5), .val (.int v7), .val (.int v10), .unset, .unset, .unset, .unset, .unset, .unset, .unset, .unset, .unset, .unset, .unset] [(.int v4)]))
      refine Go.step (fun t k => XS.goto X11.here hx rfl (pc0 := 50) (pc' := 55) rfl (hb hby at_50) (by decide) (by decide) k) ?_
      show Go p e below _ (T11.setTop (mkF m 55 #[.val (.int p1), .val (.int p2), .val (.int p3), .val (.int v4), .val (.int v5), .val (.int v7), .val (.int v10), .unset, .unset, .unset, .unset, .unset, .unset, .unset, .unset, .unset, .unset, .unset] [(.int v4)]))
      exact Go.here ⟨_, _, by simp only [hv13, if_neg hc12], X11, N11, e11⟩
  obtain ⟨_, st14, T14, Lj14, rfl, X14, N14, e14⟩ := J46
  refine Go.trans st14 ?_
  show Go p e below _ (T14.setTop (mkF m 55 #[.val (.int p1), .val (.int p2), .val (.int p3), .val (.int v4), .val (.int v5), .val (.int v7), .val (.int v10), .unset, .unset, .unset, .unset, .unset, .unset, .unset, .unset, .unset, .unset, .unset] [(.int v13)]))
  refine Go.step (fun t k => XS.istore X14.here hx rfl (hb hby at_55) rfl (l' := #[.val (.int p1), .val (.int p2), .val (.int p3), .val (.int v4), .val (.int v5), .val (.int v7), .val (.int v10), .val (.int v13), .unset, .unset, .unset, .unset, .unset, .unset, .unset, .unset, .unset, .unset]) rfl k) ?_
  show Go p e below _ (T14.setTop (mkF m 57 #[.val (.int p1), .val (.int p2), .val (.int p3), .val (.int v4), .val (.int v5), .val (.int v7), .val (.int v10), .val (.int v13), .unset, .unset, .unset, .unset, .unset, .unset, .unset, .unset, .unset, .unset] []))
  refine Go.step (fun t k => XS.iloadN X14.here hx rfl (hb hby at_57) rfl k) ?_
  show Go p e below _ (T14.setTop (mkF m 58 #[.val (.int p1), .val (.int p2), .val (.int p3), .val (.int v4), .val (.int v5), .val (.int v7), .val (.int v10), .val (.int v13), .unset, .unset, .unset, .unset, .unset, .unset, .unset, .unset, .unset, .unset] [(.int p3)]))
  refine Go.step (fun t k => XS.bipush X14.here hx rfl (hb hby at_58)  k) ?_
  show Go p e below _ (T14.setTop (mkF m 60 #[.val (.int p1), .val (.int p2), .val (.int p3), .val (.int v4), .val (.int v5), .val (.int v7), .val (.int v10), .val (.int v13), .unset, .unset, .unset, .unset, .unset, .unset, .unset, .unset, .unset, .unset] [(.int (8 : Int32)), (.int p3)]))
  refine Go.step (fun t k => XS.iand X14.here hx rfl (hb hby at_60) rfl k) ?_
  show Go p e below _ (T14.setTop (mkF m 61 #[.val (.int p1), .val (.int p2), .val (.int p3), .val (.int v4), .val (.int v5), .val (.int v7), .val (.int v10), .val (.int v13), .unset, .unset, .unset, .unset, .unset, .unset, .unset, .unset, .unset, .unset] [(.int (p3 &&& (8 : Int32)))]))
  obtain ⟨v16, hv16⟩ : ∃ z : Int32, z = (if (p3 &&& (8 : Int32)) = (0 : Int32) then v5 else v4) := ⟨_, rfl⟩
  have J61 : Go p e below (AtF p l e room_1 s m #[(.int p1), (.int p2), (.int p3)] below meth c n0 0 0 h0 (mkF m 70 #[.val (.int p1), .val (.int p2), .val (.int p3), .val (.int v4), .val (.int v5), .val (.int v7), .val (.int v10), .val (.int v13), .unset, .unset, .unset, .unset, .unset, .unset, .unset, .unset, .unset, .unset] [(.int v16)])) (T14.setTop (mkF m 61 #[.val (.int p1), .val (.int p2), .val (.int p3), .val (.int v4), .val (.int v5), .val (.int v7), .val (.int v10), .val (.int v13), .unset, .unset, .unset, .unset, .unset, .unset, .unset, .unset, .unset, .unset] [(.int (p3 &&& (8 : Int32)))])) := by
    by_cases hc15 : (p3 &&& (8 : Int32)) = (0 : Int32)
    · refine Go.step (fun t k => XS.ifYes X14.here hx rfl (pc0 := 61) (pc' := 68) rfl (hb hby at_61) rfl ((if0 _ _).trans (teq hc15).1) (by decide) (by decide) k) ?_
      show Go p e below _ (T14.setTop (mkF m 68 #[.val (.int p1), .val (.int p2), .val (.int p3), .val (.int v4), .val (.int v5), .val (.int v7), .val (.int v10), .val (.int v13), .unset, .unset, .unset, .unset, .unset, .unset, .unset, .unset, .unset, .unset] []))
      refine Go.step (fun t k => XS.iload X14.here hx rfl (hb hby at_68) rfl k) ?_
      show Go p e below _ (T14.setTop (mkF m 70 #[.val (.int p1), .val (.int p2), .val (.int p3), .val (.int v4), .val (.int v5), .val (.int v7), .val (.int v10), .val (.int v13), .unset, .unset, .unset, .unset, .unset, .unset, .unset, .unset, .unset, .unset] [(.int v5)]))
      exact Go.here ⟨_, _, by simp only [hv16, if_pos hc15], X14, N14, e14⟩
    · refine Go.step (fun t k => XS.ifNo X14.here hx rfl (hb hby at_61) rfl ((if0 _ _).trans (feq hc15).1) k) ?_
      show Go p e below _ (T14.setTop (mkF m 64 #[.val (.int p1), .val (.int p2), .val (.int p3), .val (.int v4), .val (.int v5), .val (.int v7), .val (.int v10), .val (.int v13), .unset, .unset, .unset, .unset, .unset, .unset, .unset, .unset, .unset, .unset] []))
      refine Go.step (fun t k => XS.iloadN X14.here hx rfl (hb hby at_64) rfl k) ?_
      show Go p e below _ (T14.setTop (mkF m 65 #[.val (.int p1), .val (.int p2), .val (.int p3), .val (.int v4), .val (.int v5), .val (.int v7), .val (.int v10), .val (.int v13), .unset, .unset, .unset, .unset, .unset, .unset, .unset, .unset, .unset, .unset] [(.int v4)]))
      refine Go.step (fun t k => XS.goto X14.here hx rfl (pc0 := 65) (pc' := 70) rfl (hb hby at_65) (by decide) (by decide) k) ?_
      show Go p e below _ (T14.setTop (mkF m 70 #[.val (.int p1), .val (.int p2), .val (.int p3), .val (.int v4), .val (.int v5), .val (.int v7), .val (.int v10), .val (.int v13), .unset, .unset, .unset, .unset, .unset, .unset, .unset, .unset, .unset, .unset] [(.int v4)]))
      exact Go.here ⟨_, _, by simp only [hv16, if_neg hc15], X14, N14, e14⟩
  obtain ⟨_, st17, T17, Lj17, rfl, X17, N17, e17⟩ := J61
  refine Go.trans st17 ?_
  show Go p e below _ (T17.setTop (mkF m 70 #[.val (.int p1), .val (.int p2), .val (.int p3), .val (.int v4), .val (.int v5), .val (.int v7), .val (.int v10), .val (.int v13), .unset, .unset, .unset, .unset, .unset, .unset, .unset, .unset, .unset, .unset] [(.int v16)]))
  refine Go.step (fun t k => XS.istore X17.here hx rfl (hb hby at_70) rfl (l' := #[.val (.int p1), .val (.int p2), .val (.int p3), .val (.int v4), .val (.int v5), .val (.int v7), .val (.int v10), .val (.int v13), .val (.int v16), .unset, .unset, .unset, .unset, .unset, .unset, .unset, .unset, .unset]) rfl k) ?_
  show Go p e below _ (T17.setTop (mkF m 72 #[.val (.int p1), .val (.int p2), .val (.int p3), .val (.int v4), .val (.int v5), .val (.int v7), .val (.int v10), .val (.int v13), .val (.int v16), .unset, .unset, .unset, .unset, .unset, .unset, .unset, .unset, .unset] []))
  refine Go.step (fun t k => XS.iloadN X17.here hx rfl (hb hby at_72) rfl k) ?_
  show Go p e below _ (T17.setTop (mkF m 73 #[.val (.int p1), .val (.int p2), .val (.int p3), .val (.int v4), .val (.int v5), .val (.int v7), .val (.int v10), .val (.int v13), .val (.int v16), .unset, .unset, .unset, .unset, .unset, .unset, .unset, .unset, .unset] [(.int p3)]))
  refine Go.step (fun t k => XS.bipush X17.here hx rfl (hb hby at_73)  k) ?_
  show Go p e below _ (T17.setTop (mkF m 75 #[.val (.int p1), .val (.int p2), .val (.int p3), .val (.int v4), .val (.int v5), .val (.int v7), .val (.int v10), .val (.int v13), .val (.int v16), .unset, .unset, .unset, .unset, .unset, .unset, .unset, .unset, .unset] [(.int (16 : Int32)), (.int p3)]))
  refine Go.step (fun t k => XS.iand X17.here hx rfl (hb hby at_75) rfl k) ?_
  show Go p e below _ (T17.setTop (mkF m 76 #[.val (.int p1), .val (.int p2), .val (.int p3), .val (.int v4), .val (.int v5), .val (.int v7), .val (.int v10), .val (.int v13), .val (.int v16), .unset, .unset, .unset, .unset, .unset, .unset, .unset, .unset, .unset] [(.int (p3 &&& (16 : Int32)))]))
  obtain ⟨v19, hv19⟩ : ∃ z : Int32, z = (if (p3 &&& (16 : Int32)) = (0 : Int32) then v5 else v4) := ⟨_, rfl⟩
  have J76 : Go p e below (AtF p l e room_1 s m #[(.int p1), (.int p2), (.int p3)] below meth c n0 0 0 h0 (mkF m 85 #[.val (.int p1), .val (.int p2), .val (.int p3), .val (.int v4), .val (.int v5), .val (.int v7), .val (.int v10), .val (.int v13), .val (.int v16), .unset, .unset, .unset, .unset, .unset, .unset, .unset, .unset, .unset] [(.int v19)])) (T17.setTop (mkF m 76 #[.val (.int p1), .val (.int p2), .val (.int p3), .val (.int v4), .val (.int v5), .val (.int v7), .val (.int v10), .val (.int v13), .val (.int v16), .unset, .unset, .unset, .unset, .unset, .unset, .unset, .unset, .unset] [(.int (p3 &&& (16 : Int32)))])) := by
    by_cases hc18 : (p3 &&& (16 : Int32)) = (0 : Int32)
    · refine Go.step (fun t k => XS.ifYes X17.here hx rfl (pc0 := 76) (pc' := 83) rfl (hb hby at_76) rfl ((if0 _ _).trans (teq hc18).1) (by decide) (by decide) k) ?_
      show Go p e below _ (T17.setTop (mkF m 83 #[.val (.int p1), .val (.int p2), .val (.int p3), .val (.int v4), .val (.int v5), .val (.int v7), .val (.int v10), .val (.int v13), .val (.int v16), .unset, .unset, .unset, .unset, .unset, .unset, .unset, .unset, .unset] []))
      refine Go.step (fun t k => XS.iload X17.here hx rfl (hb hby at_83) rfl k) ?_
      show Go p e below _ (T17.setTop (mkF m 85 #[.val (.int p1), .val (.int p2), .val (.int p3), .val (.int v4), .val (.int v5), .val (.int v7), .val (.int v10), .val (.int v13), .val (.int v16), .unset, .unset, .unset, .unset, .unset, .unset, .unset, .unset, .unset] [(.int v5)]))
      exact Go.here ⟨_, _, by simp only [hv19, if_pos hc18], X17, N17, e17⟩
    · refine Go.step (fun t k => XS.ifNo X17.here hx rfl (hb hby at_76) rfl ((if0 _ _).trans (feq hc18).1) k) ?_
      show Go p e below _ (T17.setTop (mkF m 79 #[.val (.int p1), .val (.int p2), .val (.int p3), .val (.int v4), .val (.int v5), .val (.int v7), .val (.int v10), .val (.int v13), .val (.int v16), .unset, .unset, .unset, .unset, .unset, .unset, .unset, .unset, .unset] []))
      refine Go.step (fun t k => XS.iloadN X17.here hx rfl (hb hby at_79) rfl k) ?_
      show Go p e below _ (T17.setTop (mkF m 80 #[.val (.int p1), .val (.int p2), .val (.int p3), .val (.int v4), .val (.int v5), .val (.int v7), .val (.int v10), .val (.int v13), .val (.int v16), .unset, .unset, .unset, .unset, .unset, .unset, .unset, .unset, .unset] [(.int v4)]))
      refine Go.step (fun t k => XS.goto X17.here hx rfl (pc0 := 80) (pc' := 85) rfl (hb hby at_80) (by decide) (by decide) k) ?_
      show Go p e below _ (T17.setTop (mkF m 85 #[.val (.int p1), .val (.int p2), .val (.int p3), .val (.int v4), .val (.int v5), .val (.int v7), .val (.int v10), .val (.int v13), .val (.int v16), .unset, .unset, .unset, .unset, .unset, .unset, .unset, .unset, .unset] [(.int v4)]))
      exact Go.here ⟨_, _, by simp only [hv19, if_neg hc18], X17, N17, e17⟩
  obtain ⟨_, st20, T20, Lj20, rfl, X20, N20, e20⟩ := J76
  refine Go.trans st20 ?_
  show Go p e below _ (T20.setTop (mkF m 85 #[.val (.int p1), .val (.int p2), .val (.int p3), .val (.int v4), .val (.int v5), .val (.int v7), .val (.int v10), .val (.int v13), .val (.int v16), .unset, .unset, .unset, .unset, .unset, .unset, .unset, .unset, .unset] [(.int v19)]))
  refine Go.step (fun t k => XS.istore X20.here hx rfl (hb hby at_85) rfl (l' := #[.val (.int p1), .val (.int p2), .val (.int p3), .val (.int v4), .val (.int v5), .val (.int v7), .val (.int v10), .val (.int v13), .val (.int v16), .val (.int v19), .unset, .unset, .unset, .unset, .unset, .unset, .unset, .unset]) rfl k) ?_
  show Go p e below _ (T20.setTop (mkF m 87 #[.val (.int p1), .val (.int p2), .val (.int p3), .val (.int v4), .val (.int v5), .val (.int v7), .val (.int v10), .val (.int v13), .val (.int v16), .val (.int v19), .unset, .unset, .unset, .unset, .unset, .unset, .unset, .unset] []))
  refine Go.step (fun t k => XS.iloadN X20.here hx rfl (hb hby at_87) rfl k) ?_
  show Go p e below _ (T20.setTop (mkF m 88 #[.val (.int p1), .val (.int p2), .val (.int p3), .val (.int v4), .val (.int v5), .val (.int v7), .val (.int v10), .val (.int v13), .val (.int v16), .val (.int v19), .unset, .unset, .unset, .unset, .unset, .unset, .unset, .unset] [(.int p3)]))
  refine Go.step (fun t k => XS.bipush X20.here hx rfl (hb hby at_88)  k) ?_
  show Go p e below _ (T20.setTop (mkF m 90 #[.val (.int p1), .val (.int p2), .val (.int p3), .val (.int v4), .val (.int v5), .val (.int v7), .val (.int v10), .val (.int v13), .val (.int v16), .val (.int v19), .unset, .unset, .unset, .unset, .unset, .unset, .unset, .unset] [(.int (32 : Int32)), (.int p3)]))
  refine Go.step (fun t k => XS.iand X20.here hx rfl (hb hby at_90) rfl k) ?_
  show Go p e below _ (T20.setTop (mkF m 91 #[.val (.int p1), .val (.int p2), .val (.int p3), .val (.int v4), .val (.int v5), .val (.int v7), .val (.int v10), .val (.int v13), .val (.int v16), .val (.int v19), .unset, .unset, .unset, .unset, .unset, .unset, .unset, .unset] [(.int (p3 &&& (32 : Int32)))]))
  obtain ⟨v22, hv22⟩ : ∃ z : Int32, z = (if (p3 &&& (32 : Int32)) = (0 : Int32) then v5 else v4) := ⟨_, rfl⟩
  have J91 : Go p e below (AtF p l e room_1 s m #[(.int p1), (.int p2), (.int p3)] below meth c n0 0 0 h0 (mkF m 100 #[.val (.int p1), .val (.int p2), .val (.int p3), .val (.int v4), .val (.int v5), .val (.int v7), .val (.int v10), .val (.int v13), .val (.int v16), .val (.int v19), .unset, .unset, .unset, .unset, .unset, .unset, .unset, .unset] [(.int v22)])) (T20.setTop (mkF m 91 #[.val (.int p1), .val (.int p2), .val (.int p3), .val (.int v4), .val (.int v5), .val (.int v7), .val (.int v10), .val (.int v13), .val (.int v16), .val (.int v19), .unset, .unset, .unset, .unset, .unset, .unset, .unset, .unset] [(.int (p3 &&& (32 : Int32)))])) := by
    by_cases hc21 : (p3 &&& (32 : Int32)) = (0 : Int32)
    · refine Go.step (fun t k => XS.ifYes X20.here hx rfl (pc0 := 91) (pc' := 98) rfl (hb hby at_91) rfl ((if0 _ _).trans (teq hc21).1) (by decide) (by decide) k) ?_
      show Go p e below _ (T20.setTop (mkF m 98 #[.val (.int p1), .val (.int p2), .val (.int p3), .val (.int v4), .val (.int v5), .val (.int v7), .val (.int v10), .val (.int v13), .val (.int v16), .val (.int v19), .unset, .unset, .unset, .unset, .unset, .unset, .unset, .unset] []))
      refine Go.step (fun t k => XS.iload X20.here hx rfl (hb hby at_98) rfl k) ?_
      show Go p e below _ (T20.setTop (mkF m 100 #[.val (.int p1), .val (.int p2), .val (.int p3), .val (.int v4), .val (.int v5), .val (.int v7), .val (.int v10), .val (.int v13), .val (.int v16), .val (.int v19), .unset, .unset, .unset, .unset, .unset, .unset, .unset, .unset] [(.int v5)]))
      exact Go.here ⟨_, _, by simp only [hv22, if_pos hc21], X20, N20, e20⟩
    · refine Go.step (fun t k => XS.ifNo X20.here hx rfl (hb hby at_91) rfl ((if0 _ _).trans (feq hc21).1) k) ?_
      show Go p e below _ (T20.setTop (mkF m 94 #[.val (.int p1), .val (.int p2), .val (.int p3), .val (.int v4), .val (.int v5), .val (.int v7), .val (.int v10), .val (.int v13), .val (.int v16), .val (.int v19), .unset, .unset, .unset, .unset, .unset, .unset, .unset, .unset] []))
      refine Go.step (fun t k => XS.iloadN X20.here hx rfl (hb hby at_94) rfl k) ?_
      show Go p e below _ (T20.setTop (mkF m 95 #[.val (.int p1), .val (.int p2), .val (.int p3), .val (.int v4), .val (.int v5), .val (.int v7), .val (.int v10), .val (.int v13), .val (.int v16), .val (.int v19), .unset, .unset, .unset, .unset, .unset, .unset, .unset, .unset] [(.int v4)]))
      refine Go.step (fun t k => XS.goto X20.here hx rfl (pc0 := 95) (pc' := 100) rfl (hb hby at_95) (by decide) (by decide) k) ?_
      show Go p e below _ (T20.setTop (mkF m 100 #[.val (.int p1), .val (.int p2), .val (.int p3), .val (.int v4), .val (.int v5), .val (.int v7), .val (.int v10), .val (.int v13), .val (.int v16), .val (.int v19), .unset, .unset, .unset, .unset, .unset, .unset, .unset, .unset] [(.int v4)]))
      exact Go.here ⟨_, _, by simp only [hv22, if_neg hc21], X20, N20, e20⟩
  obtain ⟨_, st23, T23, Lj23, rfl, X23, N23, e23⟩ := J91
  refine Go.trans st23 ?_
  show Go p e below _ (T23.setTop (mkF m 100 #[.val (.int p1), .val (.int p2), .val (.int p3), .val (.int v4), .val (.int v5), .val (.int v7), .val (.int v10), .val (.int v13), .val (.int v16), .val (.int v19), .unset, .unset, .unset, .unset, .unset, .unset, .unset, .unset] [(.int v22)]))
  refine Go.step (fun t k => XS.istore X23.here hx rfl (hb hby at_100) rfl (l' := #[.val (.int p1), .val (.int p2), .val (.int p3), .val (.int v4), .val (.int v5), .val (.int v7), .val (.int v10), .val (.int v13), .val (.int v16), .val (.int v19), .val (.int v22), .unset, .unset, .unset, .unset, .unset, .unset, .unset]) rfl k) ?_
  show Go p e below _ (T23.setTop (mkF m 102 #[.val (.int p1), .val (.int p2), .val (.int p3), .val (.int v4), .val (.int v5), .val (.int v7), .val (.int v10), .val (.int v13), .val (.int v16), .val (.int v19), .val (.int v22), .unset, .unset, .unset, .unset, .unset, .unset, .unset] []))
  have cv4 : Ch v4 := by rw [hv4]; exact ch_mk _
  have cv5 : Ch v5 := by rw [hv5]; exact ch_mk _
  have cv7 : Ch v7 := by rw [hv7]; split <;> first | exact cv4 | exact cv5
  have cv10 : Ch v10 := by rw [hv10]; split <;> first | exact cv4 | exact cv5
  have cv13 : Ch v13 := by rw [hv13]; split <;> first | exact cv4 | exact cv5
  have cv16 : Ch v16 := by rw [hv16]; split <;> first | exact cv4 | exact cv5
  have cv19 : Ch v19 := by rw [hv19]; split <;> first | exact cv4 | exact cv5
  have cv22 : Ch v22 := by rw [hv22]; split <;> first | exact cv4 | exact cv5
  show Go p e below _ (T23.setTop (mkF m 102 #[.val (.int p1), .val (.int p2), .val (.int p3), .val (.int v4), .val (.int v5), .val (.int v7), .val (.int v10), .val (.int v13), .val (.int v16), .val (.int v19), .val (.int v22), .unset, .unset, .unset, .unset, .unset, .unset, .unset] []))
  obtain ⟨T24, h24, X24, e24, E24, A24, D24, -, st24⟩ := newO X23 hx hZ hown (hw _ (List.mem_of_getElem? (i := 0) rfl)) (hw _ (List.mem_of_getElem? (i := 1) rfl)) (hw _ (List.mem_of_getElem? (i := 2) rfl)) e23 (g := (mkF m 102 #[.val (.int p1), .val (.int p2), .val (.int p3), .val (.int v4), .val (.int v5), .val (.int v7), .val (.int v10), .val (.int v13), .val (.int v16), .val (.int v19), .val (.int v22), .unset, .unset, .unset, .unset, .unset, .unset, .unset] [])) rfl (hb hby at_102) (by decide) (by decide)
  obtain ⟨b24, g24⟩ : ∃ z, z = h0.size := ⟨_, rfl⟩
  rw [← g24] at A24 D24 st24
  have g_b24 : n0 ≤ b24 := Nat.le_trans Z0 (Nat.le_of_eq g24.symm)
  have sz_b24 : h0.size ≤ b24 := Nat.le_trans KK0.1 (Nat.le_of_eq g24.symm)
  refine Go.step st24 ?_
  have O24 := hO.ext E24
  have Z24 := Nat.le_trans Z0 E24.1
  have KK24 : Keep h0 h24 [] := KK0.ext E24
  clear hO Z0 KK0 E24
  have F_attributes_b24 : Fld Z h24 b24 "com/example/dataflow_to_dispatch/dataflowtodispatch/model/document/XmlElement" "attributes" "Ljava/util/List;" .null := D24 (Or.inr (hw _ (List.mem_of_getElem? (i := 62) rfl))) (ty := (.object "java/util/List")) (by decide)
  have F_texts_b24 : Fld Z h24 b24 "com/example/dataflow_to_dispatch/dataflowtodispatch/model/document/XmlElement" "texts" "Ljava/util/List;" .null := D24 (Or.inr (hw _ (List.mem_of_getElem? (i := 64) rfl))) (ty := (.object "java/util/List")) (by decide)
  have F_name_b24 : Fld Z h24 b24 "com/example/dataflow_to_dispatch/dataflowtodispatch/model/document/XmlElement" "name" "Ljava/lang/String;" .null := D24 (Or.inr (hw _ (List.mem_of_getElem? (i := 66) rfl))) (ty := (.object "java/lang/String")) (by decide)
  have F_lastChild_b24 : Fld Z h24 b24 "com/example/dataflow_to_dispatch/dataflowtodispatch/model/document/XmlElement" "lastChild" "Lcom/example/dataflow_to_dispatch/dataflowtodispatch/model/document/XmlElement;" .null := D24 (Or.inl (hw _ (List.mem_of_getElem? (i := 73) rfl))) (ty := (.object "com/example/dataflow_to_dispatch/dataflowtodispatch/model/document/XmlElement")) (by decide)
  have F_parent_b24 : Fld Z h24 b24 "com/example/dataflow_to_dispatch/dataflowtodispatch/model/document/XmlElement" "parent" "Lcom/example/dataflow_to_dispatch/dataflowtodispatch/model/document/XmlElement;" .null := D24 (Or.inl (hw _ (List.mem_of_getElem? (i := 79) rfl))) (ty := (.object "com/example/dataflow_to_dispatch/dataflowtodispatch/model/document/XmlElement")) (by decide)
  have F_previous_b24 : Fld Z h24 b24 "com/example/dataflow_to_dispatch/dataflowtodispatch/model/document/XmlElement" "previous" "Lcom/example/dataflow_to_dispatch/dataflowtodispatch/model/document/XmlElement;" .null := D24 (Or.inl (hw _ (List.mem_of_getElem? (i := 81) rfl))) (ty := (.object "com/example/dataflow_to_dispatch/dataflowtodispatch/model/document/XmlElement")) (by decide)
  have F_firstChild_b24 : Fld Z h24 b24 "com/example/dataflow_to_dispatch/dataflowtodispatch/model/document/XmlElement" "firstChild" "Lcom/example/dataflow_to_dispatch/dataflowtodispatch/model/document/XmlElement;" .null := D24 (Or.inl (hw _ (List.mem_of_getElem? (i := 83) rfl))) (ty := (.object "com/example/dataflow_to_dispatch/dataflowtodispatch/model/document/XmlElement")) (by decide)
  have F_next_b24 : Fld Z h24 b24 "com/example/dataflow_to_dispatch/dataflowtodispatch/model/document/XmlElement" "next" "Lcom/example/dataflow_to_dispatch/dataflowtodispatch/model/document/XmlElement;" .null := D24 (Or.inl (hw _ (List.mem_of_getElem? (i := 85) rfl))) (ty := (.object "com/example/dataflow_to_dispatch/dataflowtodispatch/model/document/XmlElement")) (by decide)
  replace X24 : Stand p l e room_1 s m #[(.int p1), (.int p2), (.int p3)] below meth c T24 _ 1 8 := X24
  show Go p e below _ (T24.setTop (mkF m 105 #[.val (.int p1), .val (.int p2), .val (.int p3), .val (.int v4), .val (.int v5), .val (.int v7), .val (.int v10), .val (.int v13), .val (.int v16), .val (.int v19), .val (.int v22), .unset, .unset, .unset, .unset, .unset, .unset, .unset] [(.ref b24)]))
  refine Go.step (fun t k => XS.dup X24.here hx rfl (hb hby at_105) rfl rfl k) ?_
  show Go p e below _ (T24.setTop (mkF m 106 #[.val (.int p1), .val (.int p2), .val (.int p3), .val (.int v4), .val (.int v5), .val (.int v7), .val (.int v10), .val (.int v13), .val (.int v16), .val (.int v19), .val (.int v22), .unset, .unset, .unset, .unset, .unset, .unset, .unset] [(.ref b24), (.ref b24)]))
  obtain ⟨T25, h25, X25, e25, E25, A25, D25, -, st25⟩ := newO X24 hx hZ hown (hw _ (List.mem_of_getElem? (i := 3) rfl)) (hw _ (List.mem_of_getElem? (i := 4) rfl)) (hw _ (List.mem_of_getElem? (i := 5) rfl)) e24 (g := (mkF m 106 #[.val (.int p1), .val (.int p2), .val (.int p3), .val (.int v4), .val (.int v5), .val (.int v7), .val (.int v10), .val (.int v13), .val (.int v16), .val (.int v19), .val (.int v22), .unset, .unset, .unset, .unset, .unset, .unset, .unset] [(.ref b24), (.ref b24)])) rfl (hb hby at_106) (by decide) (by decide)
  obtain ⟨b25, g25⟩ : ∃ z, z = h24.size := ⟨_, rfl⟩
  rw [← g25] at A25 D25 st25
  have g_b25 : n0 ≤ b25 := Nat.le_trans Z24 (Nat.le_of_eq g25.symm)
  have sz_b25 : h0.size ≤ b25 := Nat.le_trans KK24.1 (Nat.le_of_eq g25.symm)
  have ne_b24_b25 : b24 ≠ b25 := Nat.ne_of_lt (Nat.lt_of_lt_of_le A24.lt (Nat.le_of_eq g25.symm))
  refine Go.step st25 ?_
  have E_b24_25 := A24.ext E25
  have F_attributes_b24_25 := F_attributes_b24.ext E25
  have F_texts_b24_25 := F_texts_b24.ext E25
  have F_name_b24_25 := F_name_b24.ext E25
  have F_lastChild_b24_25 := F_lastChild_b24.ext E25
  have F_parent_b24_25 := F_parent_b24.ext E25
  have F_previous_b24_25 := F_previous_b24.ext E25
  have F_firstChild_b24_25 := F_firstChild_b24.ext E25
  have F_next_b24_25 := F_next_b24.ext E25
  have O25 := O24.ext E25
  have Z25 := Nat.le_trans Z24 E25.1
  have KK25 : Keep h0 h25 [] := KK24.ext E25
  clear A24 F_attributes_b24 F_texts_b24 F_name_b24 F_lastChild_b24 F_parent_b24 F_previous_b24 F_firstChild_b24 F_next_b24 O24 Z24 KK24 E25
  have F_coder_b25 : Fld Z h25 b25 "java/lang/String" "coder" "B" (.int (0 : Int32)) := D25 (Or.inr (hw _ (List.mem_of_getElem? (i := 30) rfl))) (ty := .byte) (by decide)
  have F_value_b25 : Fld Z h25 b25 "java/lang/String" "value" "[B" .null := D25 (Or.inr (hw _ (List.mem_of_getElem? (i := 32) rfl))) (ty := (.array .byte)) (by decide)
  replace X25 : Stand p l e room_1 s m #[(.int p1), (.int p2), (.int p3)] below meth c T25 _ 2 12 := X25
  show Go p e below _ (T25.setTop (mkF m 109 #[.val (.int p1), .val (.int p2), .val (.int p3), .val (.int v4), .val (.int v5), .val (.int v7), .val (.int v10), .val (.int v13), .val (.int v16), .val (.int v19), .val (.int v22), .unset, .unset, .unset, .unset, .unset, .unset, .unset] [(.ref b25), (.ref b24), (.ref b24)]))
  refine Go.step (fun t k => XS.dup X25.here hx rfl (hb hby at_109) rfl rfl k) ?_
  show Go p e below _ (T25.setTop (mkF m 110 #[.val (.int p1), .val (.int p2), .val (.int p3), .val (.int v4), .val (.int v5), .val (.int v7), .val (.int v10), .val (.int v13), .val (.int v16), .val (.int v19), .val (.int v22), .unset, .unset, .unset, .unset, .unset, .unset, .unset] [(.ref b25), (.ref b25), (.ref b24), (.ref b24)]))
  refine Go.step (fun t k => XS.iconst X25.here hx rfl (hb hby at_110)  k) ?_
  show Go p e below _ (T25.setTop (mkF m 111 #[.val (.int p1), .val (.int p2), .val (.int p3), .val (.int v4), .val (.int v5), .val (.int v7), .val (.int v10), .val (.int v13), .val (.int v16), .val (.int v19), .val (.int v22), .unset, .unset, .unset, .unset, .unset, .unset, .unset] [(.int (1 : Int32)), (.ref b25), (.ref b25), (.ref b24), (.ref b24)]))
  obtain ⟨T26, h26, k26, X26, e26, E26, A26, st26⟩ := newP X25 hx hZ (hw _ (List.mem_of_getElem? (i := 6) rfl)) e25 (g := (mkF m 111 #[.val (.int p1), .val (.int p2), .val (.int p3), .val (.int v4), .val (.int v5), .val (.int v7), .val (.int v10), .val (.int v13), .val (.int v16), .val (.int v19), .val (.int v22), .unset, .unset, .unset, .unset, .unset, .unset, .unset] [(.int (1 : Int32)), (.ref b25), (.ref b25), (.ref b24), (.ref b24)])) rfl (hb hby at_111) rfl (by decide) (cap := 1) (by decide) (by decide) (by decide) (by decide)
  obtain ⟨b26, g26⟩ : ∃ z, z = h25.size := ⟨_, rfl⟩
  rw [← g26] at A26 st26
  have g_b26 : n0 ≤ b26 := Nat.le_trans Z25 (Nat.le_of_eq g26.symm)
  have sz_b26 : h0.size ≤ b26 := Nat.le_trans KK25.1 (Nat.le_of_eq g26.symm)
  have ne_b24_b26 : b24 ≠ b26 := Nat.ne_of_lt (Nat.lt_of_lt_of_le E_b24_25.lt (Nat.le_of_eq g26.symm))
  have ne_b25_b26 : b25 ≠ b26 := Nat.ne_of_lt (Nat.lt_of_lt_of_le A25.lt (Nat.le_of_eq g26.symm))
  refine Go.step st26 ?_
  have E_b24_26 := E_b24_25.ext E26
  have F_attributes_b24_26 := F_attributes_b24_25.ext E26
  have F_texts_b24_26 := F_texts_b24_25.ext E26
  have F_name_b24_26 := F_name_b24_25.ext E26
  have F_lastChild_b24_26 := F_lastChild_b24_25.ext E26
  have F_parent_b24_26 := F_parent_b24_25.ext E26
  have F_previous_b24_26 := F_previous_b24_25.ext E26
  have F_firstChild_b24_26 := F_firstChild_b24_25.ext E26
  have F_next_b24_26 := F_next_b24_25.ext E26
  have E_b25_26 := A25.ext E26
  have F_coder_b25_26 := F_coder_b25.ext E26
  have F_value_b25_26 := F_value_b25.ext E26
  have O26 := O25.ext E26
  have Z26 := Nat.le_trans Z25 E26.1
  have KK26 : Keep h0 h26 [] := KK25.ext E26
  clear E_b24_25 F_attributes_b24_25 F_texts_b24_25 F_name_b24_25 F_lastChild_b24_25 F_parent_b24_25 F_previous_b24_25 F_firstChild_b24_25 F_next_b24_25 A25 F_coder_b25 F_value_b25 O25 Z25 KK25 E26
  have A_b26_26 : Ary Z h26 b26 .char 1 (fun i => .int ((fun _ => (0 : Int32)) i)) := Ary.mk A26 (by decide) (by decide)
  replace X26 : Stand p l e room_1 s m #[(.int p1), (.int p2), (.int p3)] below meth c T26 _ 3 13 := X26
  show Go p e below _ (T26.setTop (mkF m 113 #[.val (.int p1), .val (.int p2), .val (.int p3), .val (.int v4), .val (.int v5), .val (.int v7), .val (.int v10), .val (.int v13), .val (.int v16), .val (.int v19), .val (.int v22), .unset, .unset, .unset, .unset, .unset, .unset, .unset] [(.ref b26), (.ref b25), (.ref b25), (.ref b24), (.ref b24)]))
  refine Go.step (fun t k => XS.dup X26.here hx rfl (hb hby at_113) rfl rfl k) ?_
  show Go p e below _ (T26.setTop (mkF m 114 #[.val (.int p1), .val (.int p2), .val (.int p3), .val (.int v4), .val (.int v5), .val (.int v7), .val (.int v10), .val (.int v13), .val (.int v16), .val (.int v19), .val (.int v22), .unset, .unset, .unset, .unset, .unset, .unset, .unset] [(.ref b26), (.ref b26), (.ref b25), (.ref b25), (.ref b24), (.ref b24)]))
  refine Go.step (fun t k => XS.iconst X26.here hx rfl (hb hby at_114)  k) ?_
  show Go p e below _ (T26.setTop (mkF m 115 #[.val (.int p1), .val (.int p2), .val (.int p3), .val (.int v4), .val (.int v5), .val (.int v7), .val (.int v10), .val (.int v13), .val (.int v16), .val (.int v19), .val (.int v22), .unset, .unset, .unset, .unset, .unset, .unset, .unset] [(.int (0 : Int32)), (.ref b26), (.ref b26), (.ref b25), (.ref b25), (.ref b24), (.ref b24)]))
  refine Go.step (fun t k => XS.iloadN X26.here hx rfl (hb hby at_115) rfl k) ?_
  show Go p e below _ (T26.setTop (mkF m 116 #[.val (.int p1), .val (.int p2), .val (.int p3), .val (.int v4), .val (.int v5), .val (.int v7), .val (.int v10), .val (.int v13), .val (.int v16), .val (.int v19), .val (.int v22), .unset, .unset, .unset, .unset, .unset, .unset, .unset] [(.int v4), (.int (0 : Int32)), (.ref b26), (.ref b26), (.ref b25), (.ref b25), (.ref b24), (.ref b24)]))
  obtain ⟨cl27, Ar27, in27, -⟩ := A_b26_26.hin (j := (0 : Int32)) (by decide) (by decide)
  obtain ⟨T27, h27, X27, e27, W27, st27⟩ := stC X26 hx hZ e26 Ar27 in27 (g := (mkF m 116 #[.val (.int p1), .val (.int p2), .val (.int p3), .val (.int v4), .val (.int v5), .val (.int v7), .val (.int v10), .val (.int v13), .val (.int v16), .val (.int v19), .val (.int v22), .unset, .unset, .unset, .unset, .unset, .unset, .unset] [(.int v4), (.int (0 : Int32)), (.ref b26), (.ref b26), (.ref b25), (.ref b25), (.ref b24), (.ref b24)])) rfl rfl (hb hby at_116)
  refine Go.step st27 ?_
  have N27 := Fr.snoc X27 N23 g_b26
  have E_b24_27 := E_b24_26.wr W27
  have F_attributes_b24_27 := F_attributes_b24_26.other W27 (Or.inl ne_b24_b26)
  have F_texts_b24_27 := F_texts_b24_26.other W27 (Or.inl ne_b24_b26)
  have F_name_b24_27 := F_name_b24_26.other W27 (Or.inl ne_b24_b26)
  have F_lastChild_b24_27 := F_lastChild_b24_26.other W27 (Or.inl ne_b24_b26)
  have F_parent_b24_27 := F_parent_b24_26.other W27 (Or.inl ne_b24_b26)
  have F_previous_b24_27 := F_previous_b24_26.other W27 (Or.inl ne_b24_b26)
  have F_firstChild_b24_27 := F_firstChild_b24_26.other W27 (Or.inl ne_b24_b26)
  have F_next_b24_27 := F_next_b24_26.other W27 (Or.inl ne_b24_b26)
  have E_b25_27 := E_b25_26.wr W27
  have F_coder_b25_27 := F_coder_b25_26.other W27 (Or.inl ne_b25_b26)
  have F_value_b25_27 := F_value_b25_26.other W27 (Or.inl ne_b25_b26)
  have O27 := O26.wr W27 g_b26
  have Z27 := Nat.le_trans Z26 (Keep.of_wr W27).1
  have KK27 : Keep h0 h27 [] := KK26.wr W27 (Or.inr sz_b26)
  clear E_b24_26 F_attributes_b24_26 F_texts_b24_26 F_name_b24_26 F_lastChild_b24_26 F_parent_b24_26 F_previous_b24_26 F_firstChild_b24_26 F_next_b24_26 E_b25_26 F_coder_b25_26 F_value_b25_26 O26 Z26 KK26
  have A_b26_27 : Ary Z h27 b26 .char 1 (fun i => .int ((upA (fun _ => (0 : Int32)) 0 (nar .char v4)) i)) := A_b26_26.setI W27 (by decide)
  show Go p e below _ (T27.setTop (mkF m 117 #[.val (.int p1), .val (.int p2), .val (.int p3), .val (.int v4), .val (.int v5), .val (.int v7), .val (.int v10), .val (.int v13), .val (.int v16), .val (.int v19), .val (.int v22), .unset, .unset, .unset, .unset, .unset, .unset, .unset] [(.ref b26), (.ref b25), (.ref b25), (.ref b24), (.ref b24)]))
  obtain ⟨_, _, ⟨T28, L28, k28, n28⟩, -, X28, ⟨Lc28, hQ28, l28, y28, z28⟩, st28⟩ := X27.specialBack hx (y := (⟨"java/lang/String", "<init>", "([C)V"⟩ : MethodName)) rfl hown (mvT hZ (hw _ (List.mem_of_getElem? (i := 7) rfl))) (mvT hZ (hw _ (List.mem_of_getElem? (i := 8) rfl))) (mvT hZ (hw _ (List.mem_of_getElem? (i := 9) rfl))) (by decide) (backOf (W := 3) (rm1_1 l Z a0 hw [] b25 b26 (upA (fun _ => (0 : Int32)) 0 (nar .char v4)) (.int (0 : Int32)) .null wC h27 n0 Z27 A_b26_27 E_b25_27 F_coder_b25_27 F_value_b25_27 hC S_COMPACT_STRINGS O27 g_b25 (by simpa [upA, (cv4).1] using (cv4).2 : ¬ ((255 : Int32) < ((upA (fun _ => (0 : Int32)) 0 (nar .char v4)) 0))) (Ne.symm ne_b25_b26)) hZ (hw _ (List.mem_of_getElem? (i := 9) rfl)) (hw _ (List.mem_of_getElem? (i := 5) rfl)) (by decide) (by decide)) (g := (mkF m 117 #[.val (.int p1), .val (.int p2), .val (.int p3), .val (.int v4), .val (.int v5), .val (.int v7), .val (.int v10), .val (.int v13), .val (.int v16), .val (.int v19), .val (.int v22), .unset, .unset, .unset, .unset, .unset, .unset, .unset] [(.ref b26), (.ref b25), (.ref b25), (.ref b24), (.ref b24)])) rfl (by rw [hml]; rfl) (Steps.refl _) (a := b25) (argsL := [(.ref b26)]) (rest := [(.ref b25), (.ref b24), (.ref b24)]) (lenOf pd_8 rfl) rfl (by show 2 * 0 + _ ≤ _; exact Nat.le_of_eq rfl) (hb hby at_117) (fun _ _ => ⟨rfl, e27, (by decide : 3 + 1 ≤ _), (by decide : 13 + 1 ≤ _)⟩)
  dsimp only [Pt.U, Pt.locs, Pt.cells, Pt.slots] at X28 l28 y28 z28 st28 hQ28
  replace y28 : k28 = 4 := y28
  replace z28 : n28 = 14 := z28
  subst y28 z28
  obtain ⟨b28_0, rfl, N28q, K28, sz28_0, Q28_0, Q28_1, Q28_2, Q28_3⟩ := hQ28
  have N28 : Fr n0 L28 := Eq.mpr (congrArg (Fr n0) l28) (Fr.app N27 N28q)
  have g_b28_0 : n0 ≤ b28_0 := Nat.le_trans Z27 sz28_0
  have sz_b28_0 : h0.size ≤ b28_0 := Nat.le_trans KK27.1 sz28_0
  have ne_b24_b28_0 : b24 ≠ b28_0 := Nat.ne_of_lt (Nat.lt_of_lt_of_le E_b24_27.lt sz28_0)
  have ne_b25_b28_0 : b25 ≠ b28_0 := Nat.ne_of_lt (Nat.lt_of_lt_of_le E_b25_27.lt sz28_0)
  have ne_b26_b28_0 : b26 ≠ b28_0 := Nat.ne_of_lt (Nat.lt_of_lt_of_le A_b26_27.lt sz28_0)
  have E_b24_28 := E_b24_27.keep K28
  have F_attributes_b24_28 := F_attributes_b24_27.keep K28 (ninS ne_b24_b25 nin0)
  have F_texts_b24_28 := F_texts_b24_27.keep K28 (ninS ne_b24_b25 nin0)
  have F_name_b24_28 := F_name_b24_27.keep K28 (ninS ne_b24_b25 nin0)
  have F_lastChild_b24_28 := F_lastChild_b24_27.keep K28 (ninS ne_b24_b25 nin0)
  have F_parent_b24_28 := F_parent_b24_27.keep K28 (ninS ne_b24_b25 nin0)
  have F_previous_b24_28 := F_previous_b24_27.keep K28 (ninS ne_b24_b25 nin0)
  have F_firstChild_b24_28 := F_firstChild_b24_27.keep K28 (ninS ne_b24_b25 nin0)
  have F_next_b24_28 := F_next_b24_27.keep K28 (ninS ne_b24_b25 nin0)
  have E_b25_28 := E_b25_27.keep K28
  have A_b26_28 := A_b26_27.keep K28 (ninS (Ne.symm ne_b25_b26) nin0)
  have O28 := O27.keep K28 (allS g_b25 all0)
  have Z28 := Nat.le_trans Z27 K28.1
  have KK28 : Keep h0 T28.heap [] := KK27.trans K28 (allS (Or.inr sz_b25) all0)
  clear E_b24_27 F_attributes_b24_27 F_texts_b24_27 F_name_b24_27 F_lastChild_b24_27 F_parent_b24_27 F_previous_b24_27 F_firstChild_b24_27 F_next_b24_27 E_b25_27 A_b26_27 O27 Z27 KK27 K28
  refine Go.trans st28 ?_
  show Go p e below _ (T28.setTop (mkF m 120 #[.val (.int p1), .val (.int p2), .val (.int p3), .val (.int v4), .val (.int v5), .val (.int v7), .val (.int v10), .val (.int v13), .val (.int v16), .val (.int v19), .val (.int v22), .unset, .unset, .unset, .unset, .unset, .unset, .unset] [(.ref b25), (.ref b24), (.ref b24)]))
  obtain ⟨_, _, ⟨T29, L29, k29, n29⟩, -, X29, ⟨Lc29, hQ29, l29, y29, z29⟩, st29⟩ := X28.specialBack hx (y := (⟨"com/example/dataflow_to_dispatch/dataflowtodispatch/model/document/XmlElement", "<init>", "(Ljava/lang/String;)V"⟩ : MethodName)) rfl hown (mvT hZ (hw _ (List.mem_of_getElem? (i := 33) rfl))) (mvT hZ (hw _ (List.mem_of_getElem? (i := 34) rfl))) (mvT hZ (hw _ (List.mem_of_getElem? (i := 35) rfl))) (by decide) (backOf (W := 1) (rm7 l Z a0 hw [] b24 b25 .null .null .null .null .null .null .null .null oD T28.heap n0 Z28 F_parent_b24_28 F_previous_b24_28 F_next_b24_28 F_firstChild_b24_28 F_lastChild_b24_28 O28 E_b24_28 F_attributes_b24_28 F_texts_b24_28 F_name_b24_28 S_DEFAULTCAPACITY_EMPTY_ELEMENTDATA g_b24) hZ (hw _ (List.mem_of_getElem? (i := 35) rfl)) (hw _ (List.mem_of_getElem? (i := 2) rfl)) (by decide) (by decide)) (g := (mkF m 120 #[.val (.int p1), .val (.int p2), .val (.int p3), .val (.int v4), .val (.int v5), .val (.int v7), .val (.int v10), .val (.int v13), .val (.int v16), .val (.int v19), .val (.int v22), .unset, .unset, .unset, .unset, .unset, .unset, .unset] [(.ref b25), (.ref b24), (.ref b24)])) rfl (by rw [hml]; rfl) (Steps.refl _) (a := b24) (argsL := [(.ref b25)]) (rest := [(.ref b24)]) (lenOf pd_9 rfl) rfl (by show 2 * 0 + _ ≤ _; exact Nat.le_of_eq rfl) (hb hby at_120) (fun _ _ => ⟨rfl, rfl, (by decide : 4 + 2 ≤ _), (by decide : 14 + 6 ≤ _)⟩)
  dsimp only [Pt.U, Pt.locs, Pt.cells, Pt.slots] at X29 l29 y29 z29 st29 hQ29
  replace y29 : k29 = 6 := y29
  replace z29 : n29 = 20 := z29
  subst y29 z29
  obtain ⟨rfl, N29q, K29, Q29_0, Q29_1, Q29_2, Q29_3, Q29_4, Q29_5, Q29_6⟩ := hQ29
  have N29 : Fr n0 L29 := Eq.mpr (congrArg (Fr n0) l29) (Fr.app N28 N29q)
  have E_b24_29 := E_b24_28.keep K29
  have E_b25_29 := Q28_0.keep K29
  have A_b26_29 := A_b26_28.keep K29 (ninS (Ne.symm ne_b24_b26) nin0)
  have F_coder_b25_29 := Q28_1.keep K29 (ninS (Ne.symm ne_b24_b25) nin0)
  have F_value_b25_29 := Q28_2.keep K29 (ninS (Ne.symm ne_b24_b25) nin0)
  have A_b28_0_29 := Q28_3.keep K29 (ninS (Ne.symm ne_b24_b28_0) nin0)
  have O29 := O28.keep K29 (allS g_b24 all0)
  have Z29 := Nat.le_trans Z28 K29.1
  have KK29 : Keep h0 T29.heap [] := KK28.trans K29 (allS (Or.inr sz_b24) all0)
  clear E_b24_28 Q28_0 A_b26_28 Q28_1 Q28_2 Q28_3 O28 Z28 KK28 K29
  refine Go.trans st29 ?_
  show Go p e below _ (T29.setTop (mkF m 123 #[.val (.int p1), .val (.int p2), .val (.int p3), .val (.int v4), .val (.int v5), .val (.int v7), .val (.int v10), .val (.int v13), .val (.int v16), .val (.int v19), .val (.int v22), .unset, .unset, .unset, .unset, .unset, .unset, .unset] [(.ref b24)]))
  show Go p e below _ (T29.setTop (mkF m 123 #[.val (.int p1), .val (.int p2), .val (.int p3), .val (.int v4), .val (.int v5), .val (.int v7), .val (.int v10), .val (.int v13), .val (.int v16), .val (.int v19), .val (.int v22), .unset, .unset, .unset, .unset, .unset, .unset, .unset] [(.ref b24)]))
  refine Go.step (fun t k => XS.astore X29.here hx rfl (hb hby at_123) rfl rfl (l' := #[.val (.int p1), .val (.int p2), .val (.int p3), .val (.int v4), .val (.int v5), .val (.int v7), .val (.int v10), .val (.int v13), .val (.int v16), .val (.int v19), .val (.int v22), .val (.ref b24), .unset, .unset, .unset, .unset, .unset, .unset]) rfl k) ?_
  show Go p e below _ (T29.setTop (mkF m 125 #[.val (.int p1), .val (.int p2), .val (.int p3), .val (.int v4), .val (.int v5), .val (.int v7), .val (.int v10), .val (.int v13), .val (.int v16), .val (.int v19), .val (.int v22), .val (.ref b24), .unset, .unset, .unset, .unset, .unset, .unset] []))
  obtain ⟨T30, h30, X30, e30, E30, A30, D30, -, st30⟩ := newO X29 hx hZ hown (hw _ (List.mem_of_getElem? (i := 0) rfl)) (hw _ (List.mem_of_getElem? (i := 1) rfl)) (hw _ (List.mem_of_getElem? (i := 2) rfl)) rfl (g := (mkF m 125 #[.val (.int p1), .val (.int p2), .val (.int p3), .val (.int v4), .val (.int v5), .val (.int v7), .val (.int v10), .val (.int v13), .val (.int v16), .val (.int v19), .val (.int v22), .val (.ref b24), .unset, .unset, .unset, .unset, .unset, .unset] [])) rfl (hb hby at_125) (by decide) (by decide)
  obtain ⟨b30, g30⟩ : ∃ z, z = T29.heap.size := ⟨_, rfl⟩
  rw [← g30] at A30 D30 st30
  have g_b30 : n0 ≤ b30 := Nat.le_trans Z29 (Nat.le_of_eq g30.symm)
  have sz_b30 : h0.size ≤ b30 := Nat.le_trans KK29.1 (Nat.le_of_eq g30.symm)
  have ne_b24_b30 : b24 ≠ b30 := Nat.ne_of_lt (Nat.lt_of_lt_of_le Q29_5.lt (Nat.le_of_eq g30.symm))
  have ne_b25_b30 : b25 ≠ b30 := Nat.ne_of_lt (Nat.lt_of_lt_of_le E_b25_29.lt (Nat.le_of_eq g30.symm))
  have ne_b28_0_b30 : b28_0 ≠ b30 := Nat.ne_of_lt (Nat.lt_of_lt_of_le A_b28_0_29.lt (Nat.le_of_eq g30.symm))
  refine Go.step st30 ?_
  have E_b24_30 := Q29_5.ext E30
  have E_b25_30 := E_b25_29.ext E30
  have F_coder_b25_30 := F_coder_b25_29.ext E30
  have F_value_b25_30 := F_value_b25_29.ext E30
  have A_b28_0_30 := A_b28_0_29.ext E30
  have F_parent_b24_30 := Q29_0.ext E30
  have F_previous_b24_30 := Q29_1.ext E30
  have F_next_b24_30 := Q29_2.ext E30
  have F_firstChild_b24_30 := Q29_3.ext E30
  have F_lastChild_b24_30 := Q29_4.ext E30
  have F_name_b24_30 := Q29_6.ext E30
  have O30 := O29.ext E30
  have Z30 := Nat.le_trans Z29 E30.1
  have KK30 : Keep h0 h30 [] := KK29.ext E30
  clear Q29_5 E_b25_29 F_coder_b25_29 F_value_b25_29 A_b28_0_29 Q29_0 Q29_1 Q29_2 Q29_3 Q29_4 Q29_6 O29 Z29 KK29 E30
  have F_attributes_b30 : Fld Z h30 b30 "com/example/dataflow_to_dispatch/dataflowtodispatch/model/document/XmlElement" "attributes" "Ljava/util/List;" .null := D30 (Or.inr (hw _ (List.mem_of_getElem? (i := 62) rfl))) (ty := (.object "java/util/List")) (by decide)
  have F_texts_b30 : Fld Z h30 b30 "com/example/dataflow_to_dispatch/dataflowtodispatch/model/document/XmlElement" "texts" "Ljava/util/List;" .null := D30 (Or.inr (hw _ (List.mem_of_getElem? (i := 64) rfl))) (ty := (.object "java/util/List")) (by decide)
  have F_name_b30 : Fld Z h30 b30 "com/example/dataflow_to_dispatch/dataflowtodispatch/model/document/XmlElement" "name" "Ljava/lang/String;" .null := D30 (Or.inr (hw _ (List.mem_of_getElem? (i := 66) rfl))) (ty := (.object "java/lang/String")) (by decide)
  have F_lastChild_b30 : Fld Z h30 b30 "com/example/dataflow_to_dispatch/dataflowtodispatch/model/document/XmlElement" "lastChild" "Lcom/example/dataflow_to_dispatch/dataflowtodispatch/model/document/XmlElement;" .null := D30 (Or.inl (hw _ (List.mem_of_getElem? (i := 73) rfl))) (ty := (.object "com/example/dataflow_to_dispatch/dataflowtodispatch/model/document/XmlElement")) (by decide)
  have F_parent_b30 : Fld Z h30 b30 "com/example/dataflow_to_dispatch/dataflowtodispatch/model/document/XmlElement" "parent" "Lcom/example/dataflow_to_dispatch/dataflowtodispatch/model/document/XmlElement;" .null := D30 (Or.inl (hw _ (List.mem_of_getElem? (i := 79) rfl))) (ty := (.object "com/example/dataflow_to_dispatch/dataflowtodispatch/model/document/XmlElement")) (by decide)
  have F_previous_b30 : Fld Z h30 b30 "com/example/dataflow_to_dispatch/dataflowtodispatch/model/document/XmlElement" "previous" "Lcom/example/dataflow_to_dispatch/dataflowtodispatch/model/document/XmlElement;" .null := D30 (Or.inl (hw _ (List.mem_of_getElem? (i := 81) rfl))) (ty := (.object "com/example/dataflow_to_dispatch/dataflowtodispatch/model/document/XmlElement")) (by decide)
  have F_firstChild_b30 : Fld Z h30 b30 "com/example/dataflow_to_dispatch/dataflowtodispatch/model/document/XmlElement" "firstChild" "Lcom/example/dataflow_to_dispatch/dataflowtodispatch/model/document/XmlElement;" .null := D30 (Or.inl (hw _ (List.mem_of_getElem? (i := 83) rfl))) (ty := (.object "com/example/dataflow_to_dispatch/dataflowtodispatch/model/document/XmlElement")) (by decide)
  have F_next_b30 : Fld Z h30 b30 "com/example/dataflow_to_dispatch/dataflowtodispatch/model/document/XmlElement" "next" "Lcom/example/dataflow_to_dispatch/dataflowtodispatch/model/document/XmlElement;" .null := D30 (Or.inl (hw _ (List.mem_of_getElem? (i := 85) rfl))) (ty := (.object "com/example/dataflow_to_dispatch/dataflowtodispatch/model/document/XmlElement")) (by decide)
  replace X30 : Stand p l e room_1 s m #[(.int p1), (.int p2), (.int p3)] below meth c T30 _ 7 28 := X30
  show Go p e below _ (T30.setTop (mkF m 128 #[.val (.int p1), .val (.int p2), .val (.int p3), .val (.int v4), .val (.int v5), .val (.int v7), .val (.int v10), .val (.int v13), .val (.int v16), .val (.int v19), .val (.int v22), .val (.ref b24), .unset, .unset, .unset, .unset, .unset, .unset] [(.ref b30)]))
  refine Go.step (fun t k => XS.dup X30.here hx rfl (hb hby at_128) rfl rfl k) ?_
  show Go p e below _ (T30.setTop (mkF m 129 #[.val (.int p1), .val (.int p2), .val (.int p3), .val (.int v4), .val (.int v5), .val (.int v7), .val (.int v10), .val (.int v13), .val (.int v16), .val (.int v19), .val (.int v22), .val (.ref b24), .unset, .unset, .unset, .unset, .unset, .unset] [(.ref b30), (.ref b30)]))
  obtain ⟨T31, h31, X31, e31, E31, A31, D31, -, st31⟩ := newO X30 hx hZ hown (hw _ (List.mem_of_getElem? (i := 3) rfl)) (hw _ (List.mem_of_getElem? (i := 4) rfl)) (hw _ (List.mem_of_getElem? (i := 5) rfl)) e30 (g := (mkF m 129 #[.val (.int p1), .val (.int p2), .val (.int p3), .val (.int v4), .val (.int v5), .val (.int v7), .val (.int v10), .val (.int v13), .val (.int v16), .val (.int v19), .val (.int v22), .val (.ref b24), .unset, .unset, .unset, .unset, .unset, .unset] [(.ref b30), (.ref b30)])) rfl (hb hby at_129) (by decide) (by decide)
  obtain ⟨b31, g31⟩ : ∃ z, z = h30.size := ⟨_, rfl⟩
  rw [← g31] at A31 D31 st31
  have g_b31 : n0 ≤ b31 := Nat.le_trans Z30 (Nat.le_of_eq g31.symm)
  have sz_b31 : h0.size ≤ b31 := Nat.le_trans KK30.1 (Nat.le_of_eq g31.symm)
  have ne_b24_b31 : b24 ≠ b31 := Nat.ne_of_lt (Nat.lt_of_lt_of_le E_b24_30.lt (Nat.le_of_eq g31.symm))
  have ne_b25_b31 : b25 ≠ b31 := Nat.ne_of_lt (Nat.lt_of_lt_of_le E_b25_30.lt (Nat.le_of_eq g31.symm))
  have ne_b28_0_b31 : b28_0 ≠ b31 := Nat.ne_of_lt (Nat.lt_of_lt_of_le A_b28_0_30.lt (Nat.le_of_eq g31.symm))
  have ne_b30_b31 : b30 ≠ b31 := Nat.ne_of_lt (Nat.lt_of_lt_of_le A30.lt (Nat.le_of_eq g31.symm))
  refine Go.step st31 ?_
  have E_b24_31 := E_b24_30.ext E31
  have E_b25_31 := E_b25_30.ext E31
  have F_coder_b25_31 := F_coder_b25_30.ext E31
  have F_value_b25_31 := F_value_b25_30.ext E31
  have A_b28_0_31 := A_b28_0_30.ext E31
  have F_parent_b24_31 := F_parent_b24_30.ext E31
  have F_previous_b24_31 := F_previous_b24_30.ext E31
  have F_next_b24_31 := F_next_b24_30.ext E31
  have F_firstChild_b24_31 := F_firstChild_b24_30.ext E31
  have F_lastChild_b24_31 := F_lastChild_b24_30.ext E31
  have F_name_b24_31 := F_name_b24_30.ext E31
  have E_b30_31 := A30.ext E31
  have F_attributes_b30_31 := F_attributes_b30.ext E31
  have F_texts_b30_31 := F_texts_b30.ext E31
  have F_name_b30_31 := F_name_b30.ext E31
  have F_lastChild_b30_31 := F_lastChild_b30.ext E31
  have F_parent_b30_31 := F_parent_b30.ext E31
  have F_previous_b30_31 := F_previous_b30.ext E31
  have F_firstChild_b30_31 := F_firstChild_b30.ext E31
  have F_next_b30_31 := F_next_b30.ext E31
  have O31 := O30.ext E31
  have Z31 := Nat.le_trans Z30 E31.1
  have KK31 : Keep h0 h31 [] := KK30.ext E31
  clear E_b24_30 E_b25_30 F_coder_b25_30 F_value_b25_30 A_b28_0_30 F_parent_b24_30 F_previous_b24_30 F_next_b24_30 F_firstChild_b24_30 F_lastChild_b24_30 F_name_b24_30 A30 F_attributes_b30 F_texts_b30 F_name_b30 F_lastChild_b30 F_parent_b30 F_previous_b30 F_firstChild_b30 F_next_b30 O30 Z30 KK30 E31
  have F_coder_b31 : Fld Z h31 b31 "java/lang/String" "coder" "B" (.int (0 : Int32)) := D31 (Or.inr (hw _ (List.mem_of_getElem? (i := 30) rfl))) (ty := .byte) (by decide)
  have F_value_b31 : Fld Z h31 b31 "java/lang/String" "value" "[B" .null := D31 (Or.inr (hw _ (List.mem_of_getElem? (i := 32) rfl))) (ty := (.array .byte)) (by decide)
  replace X31 : Stand p l e room_1 s m #[(.int p1), (.int p2), (.int p3)] below meth c T31 _ 8 32 := X31
  show Go p e below _ (T31.setTop (mkF m 132 #[.val (.int p1), .val (.int p2), .val (.int p3), .val (.int v4), .val (.int v5), .val (.int v7), .val (.int v10), .val (.int v13), .val (.int v16), .val (.int v19), .val (.int v22), .val (.ref b24), .unset, .unset, .unset, .unset, .unset, .unset] [(.ref b31), (.ref b30), (.ref b30)]))
  refine Go.step (fun t k => XS.dup X31.here hx rfl (hb hby at_132) rfl rfl k) ?_
  show Go p e below _ (T31.setTop (mkF m 133 #[.val (.int p1), .val (.int p2), .val (.int p3), .val (.int v4), .val (.int v5), .val (.int v7), .val (.int v10), .val (.int v13), .val (.int v16), .val (.int v19), .val (.int v22), .val (.ref b24), .unset, .unset, .unset, .unset, .unset, .unset] [(.ref b31), (.ref b31), (.ref b30), (.ref b30)]))
  refine Go.step (fun t k => XS.iconst X31.here hx rfl (hb hby at_133)  k) ?_
  show Go p e below _ (T31.setTop (mkF m 134 #[.val (.int p1), .val (.int p2), .val (.int p3), .val (.int v4), .val (.int v5), .val (.int v7), .val (.int v10), .val (.int v13), .val (.int v16), .val (.int v19), .val (.int v22), .val (.ref b24), .unset, .unset, .unset, .unset, .unset, .unset] [(.int (2 : Int32)), (.ref b31), (.ref b31), (.ref b30), (.ref b30)]))
  obtain ⟨T32, h32, k32, X32, e32, E32, A32, st32⟩ := newP X31 hx hZ (hw _ (List.mem_of_getElem? (i := 6) rfl)) e31 (g := (mkF m 134 #[.val (.int p1), .val (.int p2), .val (.int p3), .val (.int v4), .val (.int v5), .val (.int v7), .val (.int v10), .val (.int v13), .val (.int v16), .val (.int v19), .val (.int v22), .val (.ref b24), .unset, .unset, .unset, .unset, .unset, .unset] [(.int (2 : Int32)), (.ref b31), (.ref b31), (.ref b30), (.ref b30)])) rfl (hb hby at_134) rfl (by decide) (cap := 2) (by decide) (by decide) (by decide) (by decide)
  obtain ⟨b32, g32⟩ : ∃ z, z = h31.size := ⟨_, rfl⟩
  rw [← g32] at A32 st32
  have g_b32 : n0 ≤ b32 := Nat.le_trans Z31 (Nat.le_of_eq g32.symm)
  have sz_b32 : h0.size ≤ b32 := Nat.le_trans KK31.1 (Nat.le_of_eq g32.symm)
  have ne_b24_b32 : b24 ≠ b32 := Nat.ne_of_lt (Nat.lt_of_lt_of_le E_b24_31.lt (Nat.le_of_eq g32.symm))
  have ne_b25_b32 : b25 ≠ b32 := Nat.ne_of_lt (Nat.lt_of_lt_of_le E_b25_31.lt (Nat.le_of_eq g32.symm))
  have ne_b28_0_b32 : b28_0 ≠ b32 := Nat.ne_of_lt (Nat.lt_of_lt_of_le A_b28_0_31.lt (Nat.le_of_eq g32.symm))
  have ne_b30_b32 : b30 ≠ b32 := Nat.ne_of_lt (Nat.lt_of_lt_of_le E_b30_31.lt (Nat.le_of_eq g32.symm))
  have ne_b31_b32 : b31 ≠ b32 := Nat.ne_of_lt (Nat.lt_of_lt_of_le A31.lt (Nat.le_of_eq g32.symm))
  refine Go.step st32 ?_
  have E_b24_32 := E_b24_31.ext E32
  have E_b25_32 := E_b25_31.ext E32
  have F_coder_b25_32 := F_coder_b25_31.ext E32
  have F_value_b25_32 := F_value_b25_31.ext E32
  have A_b28_0_32 := A_b28_0_31.ext E32
  have F_parent_b24_32 := F_parent_b24_31.ext E32
  have F_previous_b24_32 := F_previous_b24_31.ext E32
  have F_next_b24_32 := F_next_b24_31.ext E32
  have F_firstChild_b24_32 := F_firstChild_b24_31.ext E32
  have F_lastChild_b24_32 := F_lastChild_b24_31.ext E32
  have F_name_b24_32 := F_name_b24_31.ext E32
  have E_b30_32 := E_b30_31.ext E32
  have F_attributes_b30_32 := F_attributes_b30_31.ext E32
  have F_texts_b30_32 := F_texts_b30_31.ext E32
  have F_name_b30_32 := F_name_b30_31.ext E32
  have F_lastChild_b30_32 := F_lastChild_b30_31.ext E32
  have F_parent_b30_32 := F_parent_b30_31.ext E32
  have F_previous_b30_32 := F_previous_b30_31.ext E32
  have F_firstChild_b30_32 := F_firstChild_b30_31.ext E32
  have F_next_b30_32 := F_next_b30_31.ext E32
  have E_b31_32 := A31.ext E32
  have F_coder_b31_32 := F_coder_b31.ext E32
  have F_value_b31_32 := F_value_b31.ext E32
  have O32 := O31.ext E32
  have Z32 := Nat.le_trans Z31 E32.1
  have KK32 : Keep h0 h32 [] := KK31.ext E32
  clear E_b24_31 E_b25_31 F_coder_b25_31 F_value_b25_31 A_b28_0_31 F_parent_b24_31 F_previous_b24_31 F_next_b24_31 F_firstChild_b24_31 F_lastChild_b24_31 F_name_b24_31 E_b30_31 F_attributes_b30_31 F_texts_b30_31 F_name_b30_31 F_lastChild_b30_31 F_parent_b30_31 F_previous_b30_31 F_firstChild_b30_31 F_next_b30_31 A31 F_coder_b31 F_value_b31 O31 Z31 KK31 E32
  have A_b32_32 : Ary Z h32 b32 .char 2 (fun i => .int ((fun _ => (0 : Int32)) i)) := Ary.mk A32 (by decide) (by decide)
  replace X32 : Stand p l e room_1 s m #[(.int p1), (.int p2), (.int p3)] below meth c T32 _ 9 34 := X32
  show Go p e below _ (T32.setTop (mkF m 136 #[.val (.int p1), .val (.int p2), .val (.int p3), .val (.int v4), .val (.int v5), .val (.int v7), .val (.int v10), .val (.int v13), .val (.int v16), .val (.int v19), .val (.int v22), .val (.ref b24), .unset, .unset, .unset, .unset, .unset, .unset] [(.ref b32), (.ref b31), (.ref b31), (.ref b30), (.ref b30)]))
  refine Go.step (fun t k => XS.dup X32.here hx rfl (hb hby at_136) rfl rfl k) ?_
  show Go p e below _ (T32.setTop (mkF m 137 #[.val (.int p1), .val (.int p2), .val (.int p3), .val (.int v4), .val (.int v5), .val (.int v7), .val (.int v10), .val (.int v13), .val (.int v16), .val (.int v19), .val (.int v22), .val (.ref b24), .unset, .unset, .unset, .unset, .unset, .unset] [(.ref b32), (.ref b32), (.ref b31), (.ref b31), (.ref b30), (.ref b30)]))
  refine Go.step (fun t k => XS.iconst X32.here hx rfl (hb hby at_137)  k) ?_
  show Go p e below _ (T32.setTop (mkF m 138 #[.val (.int p1), .val (.int p2), .val (.int p3), .val (.int v4), .val (.int v5), .val (.int v7), .val (.int v10), .val (.int v13), .val (.int v16), .val (.int v19), .val (.int v22), .val (.ref b24), .unset, .unset, .unset, .unset, .unset, .unset] [(.int (0 : Int32)), (.ref b32), (.ref b32), (.ref b31), (.ref b31), (.ref b30), (.ref b30)]))
  refine Go.step (fun t k => XS.iload X32.here hx rfl (hb hby at_138) rfl k) ?_
  show Go p e below _ (T32.setTop (mkF m 140 #[.val (.int p1), .val (.int p2), .val (.int p3), .val (.int v4), .val (.int v5), .val (.int v7), .val (.int v10), .val (.int v13), .val (.int v16), .val (.int v19), .val (.int v22), .val (.ref b24), .unset, .unset, .unset, .unset, .unset, .unset] [(.int v7), (.int (0 : Int32)), (.ref b32), (.ref b32), (.ref b31), (.ref b31), (.ref b30), (.ref b30)]))
  obtain ⟨cl33, Ar33, in33, -⟩ := A_b32_32.hin (j := (0 : Int32)) (by decide) (by decide)
  obtain ⟨T33, h33, X33, e33, W33, st33⟩ := stC X32 hx hZ e32 Ar33 in33 (g := (mkF m 140 #[.val (.int p1), .val (.int p2), .val (.int p3), .val (.int v4), .val (.int v5), .val (.int v7), .val (.int v10), .val (.int v13), .val (.int v16), .val (.int v19), .val (.int v22), .val (.ref b24), .unset, .unset, .unset, .unset, .unset, .unset] [(.int v7), (.int (0 : Int32)), (.ref b32), (.ref b32), (.ref b31), (.ref b31), (.ref b30), (.ref b30)])) rfl rfl (hb hby at_140)
  refine Go.step st33 ?_
  have N33 := Fr.snoc X33 N29 g_b32
  have E_b24_33 := E_b24_32.wr W33
  have E_b25_33 := E_b25_32.wr W33
  have F_coder_b25_33 := F_coder_b25_32.other W33 (Or.inl ne_b25_b32)
  have F_value_b25_33 := F_value_b25_32.other W33 (Or.inl ne_b25_b32)
  have A_b28_0_33 := A_b28_0_32.other W33 ne_b28_0_b32
  have F_parent_b24_33 := F_parent_b24_32.other W33 (Or.inl ne_b24_b32)
  have F_previous_b24_33 := F_previous_b24_32.other W33 (Or.inl ne_b24_b32)
  have F_next_b24_33 := F_next_b24_32.other W33 (Or.inl ne_b24_b32)
  have F_firstChild_b24_33 := F_firstChild_b24_32.other W33 (Or.inl ne_b24_b32)
  have F_lastChild_b24_33 := F_lastChild_b24_32.other W33 (Or.inl ne_b24_b32)
  have F_name_b24_33 := F_name_b24_32.other W33 (Or.inl ne_b24_b32)
  have E_b30_33 := E_b30_32.wr W33
  have F_attributes_b30_33 := F_attributes_b30_32.other W33 (Or.inl ne_b30_b32)
  have F_texts_b30_33 := F_texts_b30_32.other W33 (Or.inl ne_b30_b32)
  have F_name_b30_33 := F_name_b30_32.other W33 (Or.inl ne_b30_b32)
  have F_lastChild_b30_33 := F_lastChild_b30_32.other W33 (Or.inl ne_b30_b32)
  have F_parent_b30_33 := F_parent_b30_32.other W33 (Or.inl ne_b30_b32)
  have F_previous_b30_33 := F_previous_b30_32.other W33 (Or.inl ne_b30_b32)
  have F_firstChild_b30_33 := F_firstChild_b30_32.other W33 (Or.inl ne_b30_b32)
  have F_next_b30_33 := F_next_b30_32.other W33 (Or.inl ne_b30_b32)
  have E_b31_33 := E_b31_32.wr W33
  have F_coder_b31_33 := F_coder_b31_32.other W33 (Or.inl ne_b31_b32)
  have F_value_b31_33 := F_value_b31_32.other W33 (Or.inl ne_b31_b32)
  have O33 := O32.wr W33 g_b32
  have Z33 := Nat.le_trans Z32 (Keep.of_wr W33).1
  have KK33 : Keep h0 h33 [] := KK32.wr W33 (Or.inr sz_b32)
  clear E_b24_32 E_b25_32 F_coder_b25_32 F_value_b25_32 A_b28_0_32 F_parent_b24_32 F_previous_b24_32 F_next_b24_32 F_firstChild_b24_32 F_lastChild_b24_32 F_name_b24_32 E_b30_32 F_attributes_b30_32 F_texts_b30_32 F_name_b30_32 F_lastChild_b30_32 F_parent_b30_32 F_previous_b30_32 F_firstChild_b30_32 F_next_b30_32 E_b31_32 F_coder_b31_32 F_value_b31_32 O32 Z32 KK32
  have A_b32_33 : Ary Z h33 b32 .char 2 (fun i => .int ((upA (fun _ => (0 : Int32)) 0 (nar .char v7)) i)) := A_b32_32.setI W33 (by decide)
  show Go p e below _ (T33.setTop (mkF m 141 #[.val (.int p1), .val (.int p2), .val (.int p3), .val (.int v4), .val (.int v5), .val (.int v7), .val (.int v10), .val (.int v13), .val (.int v16), .val (.int v19), .val (.int v22), .val (.ref b24), .unset, .unset, .unset, .unset, .unset, .unset] [(.ref b32), (.ref b31), (.ref b31), (.ref b30), (.ref b30)]))
  refine Go.step (fun t k => XS.dup X33.here hx rfl (hb hby at_141) rfl rfl k) ?_
  show Go p e below _ (T33.setTop (mkF m 142 #[.val (.int p1), .val (.int p2), .val (.int p3), .val (.int v4), .val (.int v5), .val (.int v7), .val (.int v10), .val (.int v13), .val (.int v16), .val (.int v19), .val (.int v22), .val (.ref b24), .unset, .unset, .unset, .unset, .unset, .unset] [(.ref b32), (.ref b32), (.ref b31), (.ref b31), (.ref b30), (.ref b30)]))
  refine Go.step (fun t k => XS.iconst X33.here hx rfl (hb hby at_142)  k) ?_
  show Go p e below _ (T33.setTop (mkF m 143 #[.val (.int p1), .val (.int p2), .val (.int p3), .val (.int v4), .val (.int v5), .val (.int v7), .val (.int v10), .val (.int v13), .val (.int v16), .val (.int v19), .val (.int v22), .val (.ref b24), .unset, .unset, .unset, .unset, .unset, .unset] [(.int (1 : Int32)), (.ref b32), (.ref b32), (.ref b31), (.ref b31), (.ref b30), (.ref b30)]))
  refine Go.step (fun t k => XS.iload X33.here hx rfl (hb hby at_143) rfl k) ?_
  show Go p e below _ (T33.setTop (mkF m 145 #[.val (.int p1), .val (.int p2), .val (.int p3), .val (.int v4), .val (.int v5), .val (.int v7), .val (.int v10), .val (.int v13), .val (.int v16), .val (.int v19), .val (.int v22), .val (.ref b24), .unset, .unset, .unset, .unset, .unset, .unset] [(.int v10), (.int (1 : Int32)), (.ref b32), (.ref b32), (.ref b31), (.ref b31), (.ref b30), (.ref b30)]))
  obtain ⟨cl34, Ar34, in34, -⟩ := A_b32_33.hin (j := (1 : Int32)) (by decide) (by decide)
  obtain ⟨T34, h34, X34, e34, W34, st34⟩ := stC X33 hx hZ e33 Ar34 in34 (g := (mkF m 145 #[.val (.int p1), .val (.int p2), .val (.int p3), .val (.int v4), .val (.int v5), .val (.int v7), .val (.int v10), .val (.int v13), .val (.int v16), .val (.int v19), .val (.int v22), .val (.ref b24), .unset, .unset, .unset, .unset, .unset, .unset] [(.int v10), (.int (1 : Int32)), (.ref b32), (.ref b32), (.ref b31), (.ref b31), (.ref b30), (.ref b30)])) rfl rfl (hb hby at_145)
  refine Go.step st34 ?_
  have N34 := Fr.snoc X34 N33 g_b32
  have E_b24_34 := E_b24_33.wr W34
  have E_b25_34 := E_b25_33.wr W34
  have F_coder_b25_34 := F_coder_b25_33.other W34 (Or.inl ne_b25_b32)
  have F_value_b25_34 := F_value_b25_33.other W34 (Or.inl ne_b25_b32)
  have A_b28_0_34 := A_b28_0_33.other W34 ne_b28_0_b32
  have F_parent_b24_34 := F_parent_b24_33.other W34 (Or.inl ne_b24_b32)
  have F_previous_b24_34 := F_previous_b24_33.other W34 (Or.inl ne_b24_b32)
  have F_next_b24_34 := F_next_b24_33.other W34 (Or.inl ne_b24_b32)
  have F_firstChild_b24_34 := F_firstChild_b24_33.other W34 (Or.inl ne_b24_b32)
  have F_lastChild_b24_34 := F_lastChild_b24_33.other W34 (Or.inl ne_b24_b32)
  have F_name_b24_34 := F_name_b24_33.other W34 (Or.inl ne_b24_b32)
  have E_b30_34 := E_b30_33.wr W34
  have F_attributes_b30_34 := F_attributes_b30_33.other W34 (Or.inl ne_b30_b32)
  have F_texts_b30_34 := F_texts_b30_33.other W34 (Or.inl ne_b30_b32)
  have F_name_b30_34 := F_name_b30_33.other W34 (Or.inl ne_b30_b32)
  have F_lastChild_b30_34 := F_lastChild_b30_33.other W34 (Or.inl ne_b30_b32)
  have F_parent_b30_34 := F_parent_b30_33.other W34 (Or.inl ne_b30_b32)
  have F_previous_b30_34 := F_previous_b30_33.other W34 (Or.inl ne_b30_b32)
  have F_firstChild_b30_34 := F_firstChild_b30_33.other W34 (Or.inl ne_b30_b32)
  have F_next_b30_34 := F_next_b30_33.other W34 (Or.inl ne_b30_b32)
  have E_b31_34 := E_b31_33.wr W34
  have F_coder_b31_34 := F_coder_b31_33.other W34 (Or.inl ne_b31_b32)
  have F_value_b31_34 := F_value_b31_33.other W34 (Or.inl ne_b31_b32)
  have O34 := O33.wr W34 g_b32
  have Z34 := Nat.le_trans Z33 (Keep.of_wr W34).1
  have KK34 : Keep h0 h34 [] := KK33.wr W34 (Or.inr sz_b32)
  clear E_b24_33 E_b25_33 F_coder_b25_33 F_value_b25_33 A_b28_0_33 F_parent_b24_33 F_previous_b24_33 F_next_b24_33 F_firstChild_b24_33 F_lastChild_b24_33 F_name_b24_33 E_b30_33 F_attributes_b30_33 F_texts_b30_33 F_name_b30_33 F_lastChild_b30_33 F_parent_b30_33 F_previous_b30_33 F_firstChild_b30_33 F_next_b30_33 E_b31_33 F_coder_b31_33 F_value_b31_33 O33 Z33 KK33
  have A_b32_34 : Ary Z h34 b32 .char 2 (fun i => .int ((upA (upA (fun _ => (0 : Int32)) 0 (nar .char v7)) 1 (nar .char v10)) i)) := A_b32_33.setI W34 (by decide)
  show Go p e below _ (T34.setTop (mkF m 146 #[.val (.int p1), .val (.int p2), .val (.int p3), .val (.int v4), .val (.int v5), .val (.int v7), .val (.int v10), .val (.int v13), .val (.int v16), .val (.int v19), .val (.int v22), .val (.ref b24), .unset, .unset, .unset, .unset, .unset, .unset] [(.ref b32), (.ref b31), (.ref b31), (.ref b30), (.ref b30)]))
  obtain ⟨_, _, ⟨T35, L35, k35, n35⟩, -, X35, ⟨Lc35, hQ35, l35, y35, z35⟩, st35⟩ := X34.specialBack hx (y := (⟨"java/lang/String", "<init>", "([C)V"⟩ : MethodName)) rfl hown (mvT hZ (hw _ (List.mem_of_getElem? (i := 7) rfl))) (mvT hZ (hw _ (List.mem_of_getElem? (i := 8) rfl))) (mvT hZ (hw _ (List.mem_of_getElem? (i := 9) rfl))) (by decide) (backOf (W := 3) (rm1_2 l Z a0 hw [] b31 b32 (upA (upA (fun _ => (0 : Int32)) 0 (nar .char v7)) 1 (nar .char v10)) (.int (0 : Int32)) .null wC h34 n0 Z34 A_b32_34 E_b31_34 F_coder_b31_34 F_value_b31_34 hC S_COMPACT_STRINGS O34 g_b31 (by simpa [upA, (cv7).1] using (cv7).2 : ¬ ((255 : Int32) < ((upA (upA (fun _ => (0 : Int32)) 0 (nar .char v7)) 1 (nar .char v10)) 0))) (by simpa [upA, (cv10).1] using (cv10).2 : ¬ ((255 : Int32) < ((upA (upA (fun _ => (0 : Int32)) 0 (nar .char v7)) 1 (nar .char v10)) 1))) (Ne.symm ne_b31_b32)) hZ (hw _ (List.mem_of_getElem? (i := 9) rfl)) (hw _ (List.mem_of_getElem? (i := 5) rfl)) (by decide) (by decide)) (g := (mkF m 146 #[.val (.int p1), .val (.int p2), .val (.int p3), .val (.int v4), .val (.int v5), .val (.int v7), .val (.int v10), .val (.int v13), .val (.int v16), .val (.int v19), .val (.int v22), .val (.ref b24), .unset, .unset, .unset, .unset, .unset, .unset] [(.ref b32), (.ref b31), (.ref b31), (.ref b30), (.ref b30)])) rfl (by rw [hml]; rfl) (Steps.refl _) (a := b31) (argsL := [(.ref b32)]) (rest := [(.ref b31), (.ref b30), (.ref b30)]) (lenOf pd_8 rfl) rfl (by show 2 * 0 + _ ≤ _; exact Nat.le_of_eq rfl) (hb hby at_146) (fun _ _ => ⟨rfl, e34, (by decide : 9 + 1 ≤ _), (by decide : 34 + 2 ≤ _)⟩)
  dsimp only [Pt.U, Pt.locs, Pt.cells, Pt.slots] at X35 l35 y35 z35 st35 hQ35
  replace y35 : k35 = 10 := y35
  replace z35 : n35 = 36 := z35
  subst y35 z35
  obtain ⟨b35_0, rfl, N35q, K35, sz35_0, Q35_0, Q35_1, Q35_2, Q35_3⟩ := hQ35
  have N35 : Fr n0 L35 := Eq.mpr (congrArg (Fr n0) l35) (Fr.app N34 N35q)
  have g_b35_0 : n0 ≤ b35_0 := Nat.le_trans Z34 sz35_0
  have sz_b35_0 : h0.size ≤ b35_0 := Nat.le_trans KK34.1 sz35_0
  have ne_b24_b35_0 : b24 ≠ b35_0 := Nat.ne_of_lt (Nat.lt_of_lt_of_le E_b24_34.lt sz35_0)
  have ne_b25_b35_0 : b25 ≠ b35_0 := Nat.ne_of_lt (Nat.lt_of_lt_of_le E_b25_34.lt sz35_0)
  have ne_b28_0_b35_0 : b28_0 ≠ b35_0 := Nat.ne_of_lt (Nat.lt_of_lt_of_le A_b28_0_34.lt sz35_0)
  have ne_b30_b35_0 : b30 ≠ b35_0 := Nat.ne_of_lt (Nat.lt_of_lt_of_le E_b30_34.lt sz35_0)
  have ne_b31_b35_0 : b31 ≠ b35_0 := Nat.ne_of_lt (Nat.lt_of_lt_of_le E_b31_34.lt sz35_0)
  have ne_b32_b35_0 : b32 ≠ b35_0 := Nat.ne_of_lt (Nat.lt_of_lt_of_le A_b32_34.lt sz35_0)
  have E_b24_35 := E_b24_34.keep K35
  have E_b25_35 := E_b25_34.keep K35
  have F_coder_b25_35 := F_coder_b25_34.keep K35 (ninS ne_b25_b31 nin0)
  have F_value_b25_35 := F_value_b25_34.keep K35 (ninS ne_b25_b31 nin0)
  have A_b28_0_35 := A_b28_0_34.keep K35 (ninS ne_b28_0_b31 nin0)
  have F_parent_b24_35 := F_parent_b24_34.keep K35 (ninS ne_b24_b31 nin0)
  have F_previous_b24_35 := F_previous_b24_34.keep K35 (ninS ne_b24_b31 nin0)
  have F_next_b24_35 := F_next_b24_34.keep K35 (ninS ne_b24_b31 nin0)
  have F_firstChild_b24_35 := F_firstChild_b24_34.keep K35 (ninS ne_b24_b31 nin0)
  have F_lastChild_b24_35 := F_lastChild_b24_34.keep K35 (ninS ne_b24_b31 nin0)
  have F_name_b24_35 := F_name_b24_34.keep K35 (ninS ne_b24_b31 nin0)
  have E_b30_35 := E_b30_34.keep K35
  have F_attributes_b30_35 := F_attributes_b30_34.keep K35 (ninS ne_b30_b31 nin0)
  have F_texts_b30_35 := F_texts_b30_34.keep K35 (ninS ne_b30_b31 nin0)
  have F_name_b30_35 := F_name_b30_34.keep K35 (ninS ne_b30_b31 nin0)
  have F_lastChild_b30_35 := F_lastChild_b30_34.keep K35 (ninS ne_b30_b31 nin0)
  have F_parent_b30_35 := F_parent_b30_34.keep K35 (ninS ne_b30_b31 nin0)
  have F_previous_b30_35 := F_previous_b30_34.keep K35 (ninS ne_b30_b31 nin0)
  have F_firstChild_b30_35 := F_firstChild_b30_34.keep K35 (ninS ne_b30_b31 nin0)
  have F_next_b30_35 := F_next_b30_34.keep K35 (ninS ne_b30_b31 nin0)
  have E_b31_35 := E_b31_34.keep K35
  have A_b32_35 := A_b32_34.keep K35 (ninS (Ne.symm ne_b31_b32) nin0)
  have O35 := O34.keep K35 (allS g_b31 all0)
  have Z35 := Nat.le_trans Z34 K35.1
  have KK35 : Keep h0 T35.heap [] := KK34.trans K35 (allS (Or.inr sz_b31) all0)
  clear E_b24_34 E_b25_34 F_coder_b25_34 F_value_b25_34 A_b28_0_34 F_parent_b24_34 F_previous_b24_34 F_next_b24_34 F_firstChild_b24_34 F_lastChild_b24_34 F_name_b24_34 E_b30_34 F_attributes_b30_34 F_texts_b30_34 F_name_b30_34 F_lastChild_b30_34 F_parent_b30_34 F_previous_b30_34 F_firstChild_b30_34 F_next_b30_34 E_b31_34 A_b32_34 O34 Z34 KK34 K35
  refine Go.trans st35 ?_
  show Go p e below _ (T35.setTop (mkF m 149 #[.val (.int p1), .val (.int p2), .val (.int p3), .val (.int v4), .val (.int v5), .val (.int v7), .val (.int v10), .val (.int v13), .val (.int v16), .val (.int v19), .val (.int v22), .val (.ref b24), .unset, .unset, .unset, .unset, .unset, .unset] [(.ref b31), (.ref b30), (.ref b30)]))
  obtain ⟨_, _, ⟨T36, L36, k36, n36⟩, -, X36, ⟨Lc36, hQ36, l36, y36, z36⟩, st36⟩ := X35.specialBack hx (y := (⟨"com/example/dataflow_to_dispatch/dataflowtodispatch/model/document/XmlElement", "<init>", "(Ljava/lang/String;)V"⟩ : MethodName)) rfl hown (mvT hZ (hw _ (List.mem_of_getElem? (i := 33) rfl))) (mvT hZ (hw _ (List.mem_of_getElem? (i := 34) rfl))) (mvT hZ (hw _ (List.mem_of_getElem? (i := 35) rfl))) (by decide) (backOf (W := 1) (rm7 l Z a0 hw [] b30 b31 .null .null .null .null .null .null .null .null oD T35.heap n0 Z35 F_parent_b30_35 F_previous_b30_35 F_next_b30_35 F_firstChild_b30_35 F_lastChild_b30_35 O35 E_b30_35 F_attributes_b30_35 F_texts_b30_35 F_name_b30_35 S_DEFAULTCAPACITY_EMPTY_ELEMENTDATA g_b30) hZ (hw _ (List.mem_of_getElem? (i := 35) rfl)) (hw _ (List.mem_of_getElem? (i := 2) rfl)) (by decide) (by decide)) (g := (mkF m 149 #[.val (.int p1), .val (.int p2), .val (.int p3), .val (.int v4), .val (.int v5), .val (.int v7), .val (.int v10), .val (.int v13), .val (.int v16), .val (.int v19), .val (.int v22), .val (.ref b24), .unset, .unset, .unset, .unset, .unset, .unset] [(.ref b31), (.ref b30), (.ref b30)])) rfl (by rw [hml]; rfl) (Steps.refl _) (a := b30) (argsL := [(.ref b31)]) (rest := [(.ref b30)]) (lenOf pd_9 rfl) rfl (by show 2 * 0 + _ ≤ _; exact Nat.le_of_eq rfl) (hb hby at_149) (fun _ _ => ⟨rfl, rfl, (by decide : 10 + 2 ≤ _), (by decide : 36 + 6 ≤ _)⟩)
  dsimp only [Pt.U, Pt.locs, Pt.cells, Pt.slots] at X36 l36 y36 z36 st36 hQ36
  replace y36 : k36 = 12 := y36
  replace z36 : n36 = 42 := z36
  subst y36 z36
  obtain ⟨rfl, N36q, K36, Q36_0, Q36_1, Q36_2, Q36_3, Q36_4, Q36_5, Q36_6⟩ := hQ36
  have N36 : Fr n0 L36 := Eq.mpr (congrArg (Fr n0) l36) (Fr.app N35 N36q)
  have E_b24_36 := E_b24_35.keep K36
  have E_b25_36 := E_b25_35.keep K36
  have F_coder_b25_36 := F_coder_b25_35.keep K36 (ninS ne_b25_b30 nin0)
  have F_value_b25_36 := F_value_b25_35.keep K36 (ninS ne_b25_b30 nin0)
  have A_b28_0_36 := A_b28_0_35.keep K36 (ninS ne_b28_0_b30 nin0)
  have F_parent_b24_36 := F_parent_b24_35.keep K36 (ninS ne_b24_b30 nin0)
  have F_previous_b24_36 := F_previous_b24_35.keep K36 (ninS ne_b24_b30 nin0)
  have F_next_b24_36 := F_next_b24_35.keep K36 (ninS ne_b24_b30 nin0)
  have F_firstChild_b24_36 := F_firstChild_b24_35.keep K36 (ninS ne_b24_b30 nin0)
  have F_lastChild_b24_36 := F_lastChild_b24_35.keep K36 (ninS ne_b24_b30 nin0)
  have F_name_b24_36 := F_name_b24_35.keep K36 (ninS ne_b24_b30 nin0)
  have E_b30_36 := E_b30_35.keep K36
  have E_b31_36 := Q35_0.keep K36
  have A_b32_36 := A_b32_35.keep K36 (ninS (Ne.symm ne_b30_b32) nin0)
  have F_coder_b31_36 := Q35_1.keep K36 (ninS (Ne.symm ne_b30_b31) nin0)
  have F_value_b31_36 := Q35_2.keep K36 (ninS (Ne.symm ne_b30_b31) nin0)
  have A_b35_0_36 := Q35_3.keep K36 (ninS (Ne.symm ne_b30_b35_0) nin0)
  have O36 := O35.keep K36 (allS g_b30 all0)
  have Z36 := Nat.le_trans Z35 K36.1
  have KK36 : Keep h0 T36.heap [] := KK35.trans K36 (allS (Or.inr sz_b30) all0)
  clear E_b24_35 E_b25_35 F_coder_b25_35 F_value_b25_35 A_b28_0_35 F_parent_b24_35 F_previous_b24_35 F_next_b24_35 F_firstChild_b24_35 F_lastChild_b24_35 F_name_b24_35 E_b30_35 Q35_0 A_b32_35 Q35_1 Q35_2 Q35_3 O35 Z35 KK35 K36
  refine Go.trans st36 ?_
  show Go p e below _ (T36.setTop (mkF m 152 #[.val (.int p1), .val (.int p2), .val (.int p3), .val (.int v4), .val (.int v5), .val (.int v7), .val (.int v10), .val (.int v13), .val (.int v16), .val (.int v19), .val (.int v22), .val (.ref b24), .unset, .unset, .unset, .unset, .unset, .unset] [(.ref b30)]))
  show Go p e below _ (T36.setTop (mkF m 152 #[.val (.int p1), .val (.int p2), .val (.int p3), .val (.int v4), .val (.int v5), .val (.int v7), .val (.int v10), .val (.int v13), .val (.int v16), .val (.int v19), .val (.int v22), .val (.ref b24), .unset, .unset, .unset, .unset, .unset, .unset] [(.ref b30)]))
  refine Go.step (fun t k => XS.astore X36.here hx rfl (hb hby at_152) rfl rfl (l' := #[.val (.int p1), .val (.int p2), .val (.int p3), .val (.int v4), .val (.int v5), .val (.int v7), .val (.int v10), .val (.int v13), .val (.int v16), .val (.int v19), .val (.int v22), .val (.ref b24), .val (.ref b30), .unset, .unset, .unset, .unset, .unset]) rfl k) ?_
  show Go p e below _ (T36.setTop (mkF m 154 #[.val (.int p1), .val (.int p2), .val (.int p3), .val (.int v4), .val (.int v5), .val (.int v7), .val (.int v10), .val (.int v13), .val (.int v16), .val (.int v19), .val (.int v22), .val (.ref b24), .val (.ref b30), .unset, .unset, .unset, .unset, .unset] []))
  obtain ⟨T37, h37, X37, e37, E37, A37, D37, -, st37⟩ := newO X36 hx hZ hown (hw _ (List.mem_of_getElem? (i := 0) rfl)) (hw _ (List.mem_of_getElem? (i := 1) rfl)) (hw _ (List.mem_of_getElem? (i := 2) rfl)) rfl (g := (mkF m 154 #[.val (.int p1), .val (.int p2), .val (.int p3), .val (.int v4), .val (.int v5), .val (.int v7), .val (.int v10), .val (.int v13), .val (.int v16), .val (.int v19), .val (.int v22), .val (.ref b24), .val (.ref b30), .unset, .unset, .unset, .unset, .unset] [])) rfl (hb hby at_154) (by decide) (by decide)
  obtain ⟨b37, g37⟩ : ∃ z, z = T36.heap.size := ⟨_, rfl⟩
  rw [← g37] at A37 D37 st37
  have g_b37 : n0 ≤ b37 := Nat.le_trans Z36 (Nat.le_of_eq g37.symm)
  have sz_b37 : h0.size ≤ b37 := Nat.le_trans KK36.1 (Nat.le_of_eq g37.symm)
  have ne_b24_b37 : b24 ≠ b37 := Nat.ne_of_lt (Nat.lt_of_lt_of_le E_b24_36.lt (Nat.le_of_eq g37.symm))
  have ne_b25_b37 : b25 ≠ b37 := Nat.ne_of_lt (Nat.lt_of_lt_of_le E_b25_36.lt (Nat.le_of_eq g37.symm))
  have ne_b28_0_b37 : b28_0 ≠ b37 := Nat.ne_of_lt (Nat.lt_of_lt_of_le A_b28_0_36.lt (Nat.le_of_eq g37.symm))
  have ne_b30_b37 : b30 ≠ b37 := Nat.ne_of_lt (Nat.lt_of_lt_of_le Q36_5.lt (Nat.le_of_eq g37.symm))
  have ne_b31_b37 : b31 ≠ b37 := Nat.ne_of_lt (Nat.lt_of_lt_of_le E_b31_36.lt (Nat.le_of_eq g37.symm))
  have ne_b35_0_b37 : b35_0 ≠ b37 := Nat.ne_of_lt (Nat.lt_of_lt_of_le A_b35_0_36.lt (Nat.le_of_eq g37.symm))
  refine Go.step st37 ?_
  have E_b24_37 := E_b24_36.ext E37
  have E_b25_37 := E_b25_36.ext E37
  have F_coder_b25_37 := F_coder_b25_36.ext E37
  have F_value_b25_37 := F_value_b25_36.ext E37
  have A_b28_0_37 := A_b28_0_36.ext E37
  have F_parent_b24_37 := F_parent_b24_36.ext E37
  have F_previous_b24_37 := F_previous_b24_36.ext E37
  have F_next_b24_37 := F_next_b24_36.ext E37
  have F_firstChild_b24_37 := F_firstChild_b24_36.ext E37
  have F_lastChild_b24_37 := F_lastChild_b24_36.ext E37
  have F_name_b24_37 := F_name_b24_36.ext E37
  have E_b30_37 := Q36_5.ext E37
  have E_b31_37 := E_b31_36.ext E37
  have F_coder_b31_37 := F_coder_b31_36.ext E37
  have F_value_b31_37 := F_value_b31_36.ext E37
  have A_b35_0_37 := A_b35_0_36.ext E37
  have F_parent_b30_37 := Q36_0.ext E37
  have F_previous_b30_37 := Q36_1.ext E37
  have F_next_b30_37 := Q36_2.ext E37
  have F_firstChild_b30_37 := Q36_3.ext E37
  have F_lastChild_b30_37 := Q36_4.ext E37
  have F_name_b30_37 := Q36_6.ext E37
  have O37 := O36.ext E37
  have Z37 := Nat.le_trans Z36 E37.1
  have KK37 : Keep h0 h37 [] := KK36.ext E37
  clear E_b24_36 E_b25_36 F_coder_b25_36 F_value_b25_36 A_b28_0_36 F_parent_b24_36 F_previous_b24_36 F_next_b24_36 F_firstChild_b24_36 F_lastChild_b24_36 F_name_b24_36 Q36_5 E_b31_36 F_coder_b31_36 F_value_b31_36 A_b35_0_36 Q36_0 Q36_1 Q36_2 Q36_3 Q36_4 Q36_6 O36 Z36 KK36 E37
  have F_attributes_b37 : Fld Z h37 b37 "com/example/dataflow_to_dispatch/dataflowtodispatch/model/document/XmlElement" "attributes" "Ljava/util/List;" .null := D37 (Or.inr (hw _ (List.mem_of_getElem? (i := 62) rfl))) (ty := (.object "java/util/List")) (by decide)
  have F_texts_b37 : Fld Z h37 b37 "com/example/dataflow_to_dispatch/dataflowtodispatch/model/document/XmlElement" "texts" "Ljava/util/List;" .null := D37 (Or.inr (hw _ (List.mem_of_getElem? (i := 64) rfl))) (ty := (.object "java/util/List")) (by decide)
  have F_name_b37 : Fld Z h37 b37 "com/example/dataflow_to_dispatch/dataflowtodispatch/model/document/XmlElement" "name" "Ljava/lang/String;" .null := D37 (Or.inr (hw _ (List.mem_of_getElem? (i := 66) rfl))) (ty := (.object "java/lang/String")) (by decide)
  have F_lastChild_b37 : Fld Z h37 b37 "com/example/dataflow_to_dispatch/dataflowtodispatch/model/document/XmlElement" "lastChild" "Lcom/example/dataflow_to_dispatch/dataflowtodispatch/model/document/XmlElement;" .null := D37 (Or.inl (hw _ (List.mem_of_getElem? (i := 73) rfl))) (ty := (.object "com/example/dataflow_to_dispatch/dataflowtodispatch/model/document/XmlElement")) (by decide)
  have F_parent_b37 : Fld Z h37 b37 "com/example/dataflow_to_dispatch/dataflowtodispatch/model/document/XmlElement" "parent" "Lcom/example/dataflow_to_dispatch/dataflowtodispatch/model/document/XmlElement;" .null := D37 (Or.inl (hw _ (List.mem_of_getElem? (i := 79) rfl))) (ty := (.object "com/example/dataflow_to_dispatch/dataflowtodispatch/model/document/XmlElement")) (by decide)
  have F_previous_b37 : Fld Z h37 b37 "com/example/dataflow_to_dispatch/dataflowtodispatch/model/document/XmlElement" "previous" "Lcom/example/dataflow_to_dispatch/dataflowtodispatch/model/document/XmlElement;" .null := D37 (Or.inl (hw _ (List.mem_of_getElem? (i := 81) rfl))) (ty := (.object "com/example/dataflow_to_dispatch/dataflowtodispatch/model/document/XmlElement")) (by decide)
  have F_firstChild_b37 : Fld Z h37 b37 "com/example/dataflow_to_dispatch/dataflowtodispatch/model/document/XmlElement" "firstChild" "Lcom/example/dataflow_to_dispatch/dataflowtodispatch/model/document/XmlElement;" .null := D37 (Or.inl (hw _ (List.mem_of_getElem? (i := 83) rfl))) (ty := (.object "com/example/dataflow_to_dispatch/dataflowtodispatch/model/document/XmlElement")) (by decide)
  have F_next_b37 : Fld Z h37 b37 "com/example/dataflow_to_dispatch/dataflowtodispatch/model/document/XmlElement" "next" "Lcom/example/dataflow_to_dispatch/dataflowtodispatch/model/document/XmlElement;" .null := D37 (Or.inl (hw _ (List.mem_of_getElem? (i := 85) rfl))) (ty := (.object "com/example/dataflow_to_dispatch/dataflowtodispatch/model/document/XmlElement")) (by decide)
  replace X37 : Stand p l e room_1 s m #[(.int p1), (.int p2), (.int p3)] below meth c T37 _ 13 50 := X37
  show Go p e below _ (T37.setTop (mkF m 157 #[.val (.int p1), .val (.int p2), .val (.int p3), .val (.int v4), .val (.int v5), .val (.int v7), .val (.int v10), .val (.int v13), .val (.int v16), .val (.int v19), .val (.int v22), .val (.ref b24), .val (.ref b30), .unset, .unset, .unset, .unset, .unset] [(.ref b37)]))
  refine Go.step (fun t k => XS.dup X37.here hx rfl (hb hby at_157) rfl rfl k) ?_
  show Go p e below _ (T37.setTop (mkF m 158 #[.val (.int p1), .val (.int p2), .val (.int p3), .val (.int v4), .val (.int v5), .val (.int v7), .val (.int v10), .val (.int v13), .val (.int v16), .val (.int v19), .val (.int v22), .val (.ref b24), .val (.ref b30), .unset, .unset, .unset, .unset, .unset] [(.ref b37), (.ref b37)]))
  obtain ⟨T38, h38, X38, e38, E38, A38, D38, -, st38⟩ := newO X37 hx hZ hown (hw _ (List.mem_of_getElem? (i := 3) rfl)) (hw _ (List.mem_of_getElem? (i := 4) rfl)) (hw _ (List.mem_of_getElem? (i := 5) rfl)) e37 (g := (mkF m 158 #[.val (.int p1), .val (.int p2), .val (.int p3), .val (.int v4), .val (.int v5), .val (.int v7), .val (.int v10), .val (.int v13), .val (.int v16), .val (.int v19), .val (.int v22), .val (.ref b24), .val (.ref b30), .unset, .unset, .unset, .unset, .unset] [(.ref b37), (.ref b37)])) rfl (hb hby at_158) (by decide) (by decide)
  obtain ⟨b38, g38⟩ : ∃ z, z = h37.size := ⟨_, rfl⟩
  rw [← g38] at A38 D38 st38
  have g_b38 : n0 ≤ b38 := Nat.le_trans Z37 (Nat.le_of_eq g38.symm)
  have sz_b38 : h0.size ≤ b38 := Nat.le_trans KK37.1 (Nat.le_of_eq g38.symm)
  have ne_b24_b38 : b24 ≠ b38 := Nat.ne_of_lt (Nat.lt_of_lt_of_le E_b24_37.lt (Nat.le_of_eq g38.symm))
  have ne_b25_b38 : b25 ≠ b38 := Nat.ne_of_lt (Nat.lt_of_lt_of_le E_b25_37.lt (Nat.le_of_eq g38.symm))
  have ne_b28_0_b38 : b28_0 ≠ b38 := Nat.ne_of_lt (Nat.lt_of_lt_of_le A_b28_0_37.lt (Nat.le_of_eq g38.symm))
  have ne_b30_b38 : b30 ≠ b38 := Nat.ne_of_lt (Nat.lt_of_lt_of_le E_b30_37.lt (Nat.le_of_eq g38.symm))
  have ne_b31_b38 : b31 ≠ b38 := Nat.ne_of_lt (Nat.lt_of_lt_of_le E_b31_37.lt (Nat.le_of_eq g38.symm))
  have ne_b35_0_b38 : b35_0 ≠ b38 := Nat.ne_of_lt (Nat.lt_of_lt_of_le A_b35_0_37.lt (Nat.le_of_eq g38.symm))
  have ne_b37_b38 : b37 ≠ b38 := Nat.ne_of_lt (Nat.lt_of_lt_of_le A37.lt (Nat.le_of_eq g38.symm))
  refine Go.step st38 ?_
  have E_b24_38 := E_b24_37.ext E38
  have E_b25_38 := E_b25_37.ext E38
  have F_coder_b25_38 := F_coder_b25_37.ext E38
  have F_value_b25_38 := F_value_b25_37.ext E38
  have A_b28_0_38 := A_b28_0_37.ext E38
  have F_parent_b24_38 := F_parent_b24_37.ext E38
  have F_previous_b24_38 := F_previous_b24_37.ext E38
  have F_next_b24_38 := F_next_b24_37.ext E38
  have F_firstChild_b24_38 := F_firstChild_b24_37.ext E38
  have F_lastChild_b24_38 := F_lastChild_b24_37.ext E38
  have F_name_b24_38 := F_name_b24_37.ext E38
  have E_b30_38 := E_b30_37.ext E38
  have E_b31_38 := E_b31_37.ext E38
  have F_coder_b31_38 := F_coder_b31_37.ext E38
  have F_value_b31_38 := F_value_b31_37.ext E38
  have A_b35_0_38 := A_b35_0_37.ext E38
  have F_parent_b30_38 := F_parent_b30_37.ext E38
  have F_previous_b30_38 := F_previous_b30_37.ext E38
  have F_next_b30_38 := F_next_b30_37.ext E38
  have F_firstChild_b30_38 := F_firstChild_b30_37.ext E38
  have F_lastChild_b30_38 := F_lastChild_b30_37.ext E38
  have F_name_b30_38 := F_name_b30_37.ext E38
  have E_b37_38 := A37.ext E38
  have F_attributes_b37_38 := F_attributes_b37.ext E38
  have F_texts_b37_38 := F_texts_b37.ext E38
  have F_name_b37_38 := F_name_b37.ext E38
  have F_lastChild_b37_38 := F_lastChild_b37.ext E38
  have F_parent_b37_38 := F_parent_b37.ext E38
  have F_previous_b37_38 := F_previous_b37.ext E38
  have F_firstChild_b37_38 := F_firstChild_b37.ext E38
  have F_next_b37_38 := F_next_b37.ext E38
  have O38 := O37.ext E38
  have Z38 := Nat.le_trans Z37 E38.1
  have KK38 : Keep h0 h38 [] := KK37.ext E38
  clear E_b24_37 E_b25_37 F_coder_b25_37 F_value_b25_37 A_b28_0_37 F_parent_b24_37 F_previous_b24_37 F_next_b24_37 F_firstChild_b24_37 F_lastChild_b24_37 F_name_b24_37 E_b30_37 E_b31_37 F_coder_b31_37 F_value_b31_37 A_b35_0_37 F_parent_b30_37 F_previous_b30_37 F_next_b30_37 F_firstChild_b30_37 F_lastChild_b30_37 F_name_b30_37 A37 F_attributes_b37 F_texts_b37 F_name_b37 F_lastChild_b37 F_parent_b37 F_previous_b37 F_firstChild_b37 F_next_b37 O37 Z37 KK37 E38
  have F_coder_b38 : Fld Z h38 b38 "java/lang/String" "coder" "B" (.int (0 : Int32)) := D38 (Or.inr (hw _ (List.mem_of_getElem? (i := 30) rfl))) (ty := .byte) (by decide)
  have F_value_b38 : Fld Z h38 b38 "java/lang/String" "value" "[B" .null := D38 (Or.inr (hw _ (List.mem_of_getElem? (i := 32) rfl))) (ty := (.array .byte)) (by decide)
  replace X38 : Stand p l e room_1 s m #[(.int p1), (.int p2), (.int p3)] below meth c T38 _ 14 54 := X38
  show Go p e below _ (T38.setTop (mkF m 161 #[.val (.int p1), .val (.int p2), .val (.int p3), .val (.int v4), .val (.int v5), .val (.int v7), .val (.int v10), .val (.int v13), .val (.int v16), .val (.int v19), .val (.int v22), .val (.ref b24), .val (.ref b30), .unset, .unset, .unset, .unset, .unset] [(.ref b38), (.ref b37), (.ref b37)]))
  refine Go.step (fun t k => XS.dup X38.here hx rfl (hb hby at_161) rfl rfl k) ?_
  show Go p e below _ (T38.setTop (mkF m 162 #[.val (.int p1), .val (.int p2), .val (.int p3), .val (.int v4), .val (.int v5), .val (.int v7), .val (.int v10), .val (.int v13), .val (.int v16), .val (.int v19), .val (.int v22), .val (.ref b24), .val (.ref b30), .unset, .unset, .unset, .unset, .unset] [(.ref b38), (.ref b38), (.ref b37), (.ref b37)]))
  refine Go.step (fun t k => XS.iconst X38.here hx rfl (hb hby at_162)  k) ?_
  show Go p e below _ (T38.setTop (mkF m 163 #[.val (.int p1), .val (.int p2), .val (.int p3), .val (.int v4), .val (.int v5), .val (.int v7), .val (.int v10), .val (.int v13), .val (.int v16), .val (.int v19), .val (.int v22), .val (.ref b24), .val (.ref b30), .unset, .unset, .unset, .unset, .unset] [(.int (2 : Int32)), (.ref b38), (.ref b38), (.ref b37), (.ref b37)]))
  obtain ⟨T39, h39, k39, X39, e39, E39, A39, st39⟩ := newP X38 hx hZ (hw _ (List.mem_of_getElem? (i := 6) rfl)) e38 (g := (mkF m 163 #[.val (.int p1), .val (.int p2), .val (.int p3), .val (.int v4), .val (.int v5), .val (.int v7), .val (.int v10), .val (.int v13), .val (.int v16), .val (.int v19), .val (.int v22), .val (.ref b24), .val (.ref b30), .unset, .unset, .unset, .unset, .unset] [(.int (2 : Int32)), (.ref b38), (.ref b38), (.ref b37), (.ref b37)])) rfl (hb hby at_163) rfl (by decide) (cap := 2) (by decide) (by decide) (by decide) (by decide)
  obtain ⟨b39, g39⟩ : ∃ z, z = h38.size := ⟨_, rfl⟩
  rw [← g39] at A39 st39
  have g_b39 : n0 ≤ b39 := Nat.le_trans Z38 (Nat.le_of_eq g39.symm)
  have sz_b39 : h0.size ≤ b39 := Nat.le_trans KK38.1 (Nat.le_of_eq g39.symm)
  have ne_b24_b39 : b24 ≠ b39 := Nat.ne_of_lt (Nat.lt_of_lt_of_le E_b24_38.lt (Nat.le_of_eq g39.symm))
  have ne_b25_b39 : b25 ≠ b39 := Nat.ne_of_lt (Nat.lt_of_lt_of_le E_b25_38.lt (Nat.le_of_eq g39.symm))
  have ne_b28_0_b39 : b28_0 ≠ b39 := Nat.ne_of_lt (Nat.lt_of_lt_of_le A_b28_0_38.lt (Nat.le_of_eq g39.symm))
  have ne_b30_b39 : b30 ≠ b39 := Nat.ne_of_lt (Nat.lt_of_lt_of_le E_b30_38.lt (Nat.le_of_eq g39.symm))
  have ne_b31_b39 : b31 ≠ b39 := Nat.ne_of_lt (Nat.lt_of_lt_of_le E_b31_38.lt (Nat.le_of_eq g39.symm))
  have ne_b35_0_b39 : b35_0 ≠ b39 := Nat.ne_of_lt (Nat.lt_of_lt_of_le A_b35_0_38.lt (Nat.le_of_eq g39.symm))
  have ne_b37_b39 : b37 ≠ b39 := Nat.ne_of_lt (Nat.lt_of_lt_of_le E_b37_38.lt (Nat.le_of_eq g39.symm))
  have ne_b38_b39 : b38 ≠ b39 := Nat.ne_of_lt (Nat.lt_of_lt_of_le A38.lt (Nat.le_of_eq g39.symm))
  refine Go.step st39 ?_
  have E_b24_39 := E_b24_38.ext E39
  have E_b25_39 := E_b25_38.ext E39
  have F_coder_b25_39 := F_coder_b25_38.ext E39
  have F_value_b25_39 := F_value_b25_38.ext E39
  have A_b28_0_39 := A_b28_0_38.ext E39
  have F_parent_b24_39 := F_parent_b24_38.ext E39
  have F_previous_b24_39 := F_previous_b24_38.ext E39
  have F_next_b24_39 := F_next_b24_38.ext E39
  have F_firstChild_b24_39 := F_firstChild_b24_38.ext E39
  have F_lastChild_b24_39 := F_lastChild_b24_38.ext E39
  have F_name_b24_39 := F_name_b24_38.ext E39
  have E_b30_39 := E_b30_38.ext E39
  have E_b31_39 := E_b31_38.ext E39
  have F_coder_b31_39 := F_coder_b31_38.ext E39
  have F_value_b31_39 := F_value_b31_38.ext E39
  have A_b35_0_39 := A_b35_0_38.ext E39
  have F_parent_b30_39 := F_parent_b30_38.ext E39
  have F_previous_b30_39 := F_previous_b30_38.ext E39
  have F_next_b30_39 := F_next_b30_38.ext E39
  have F_firstChild_b30_39 := F_firstChild_b30_38.ext E39
  have F_lastChild_b30_39 := F_lastChild_b30_38.ext E39
  have F_name_b30_39 := F_name_b30_38.ext E39
  have E_b37_39 := E_b37_38.ext E39
  have F_attributes_b37_39 := F_attributes_b37_38.ext E39
  have F_texts_b37_39 := F_texts_b37_38.ext E39
  have F_name_b37_39 := F_name_b37_38.ext E39
  have F_lastChild_b37_39 := F_lastChild_b37_38.ext E39
  have F_parent_b37_39 := F_parent_b37_38.ext E39
  have F_previous_b37_39 := F_previous_b37_38.ext E39
  have F_firstChild_b37_39 := F_firstChild_b37_38.ext E39
  have F_next_b37_39 := F_next_b37_38.ext E39
  have E_b38_39 := A38.ext E39
  have F_coder_b38_39 := F_coder_b38.ext E39
  have F_value_b38_39 := F_value_b38.ext E39
  have O39 := O38.ext E39
  have Z39 := Nat.le_trans Z38 E39.1
  have KK39 : Keep h0 h39 [] := KK38.ext E39
  clear E_b24_38 E_b25_38 F_coder_b25_38 F_value_b25_38 A_b28_0_38 F_parent_b24_38 F_previous_b24_38 F_next_b24_38 F_firstChild_b24_38 F_lastChild_b24_38 F_name_b24_38 E_b30_38 E_b31_38 F_coder_b31_38 F_value_b31_38 A_b35_0_38 F_parent_b30_38 F_previous_b30_38 F_next_b30_38 F_firstChild_b30_38 F_lastChild_b30_38 F_name_b30_38 E_b37_38 F_attributes_b37_38 F_texts_b37_38 F_name_b37_38 F_lastChild_b37_38 F_parent_b37_38 F_previous_b37_38 F_firstChild_b37_38 F_next_b37_38 A38 F_coder_b38 F_value_b38 O38 Z38 KK38 E39
  have A_b39_39 : Ary Z h39 b39 .char 2 (fun i => .int ((fun _ => (0 : Int32)) i)) := Ary.mk A39 (by decide) (by decide)
  replace X39 : Stand p l e room_1 s m #[(.int p1), (.int p2), (.int p3)] below meth c T39 _ 15 56 := X39
  show Go p e below _ (T39.setTop (mkF m 165 #[.val (.int p1), .val (.int p2), .val (.int p3), .val (.int v4), .val (.int v5), .val (.int v7), .val (.int v10), .val (.int v13), .val (.int v16), .val (.int v19), .val (.int v22), .val (.ref b24), .val (.ref b30), .unset, .unset, .unset, .unset, .unset] [(.ref b39), (.ref b38), (.ref b38), (.ref b37), (.ref b37)]))
  refine Go.step (fun t k => XS.dup X39.here hx rfl (hb hby at_165) rfl rfl k) ?_
  show Go p e below _ (T39.setTop (mkF m 166 #[.val (.int p1), .val (.int p2), .val (.int p3), .val (.int v4), .val (.int v5), .val (.int v7), .val (.int v10), .val (.int v13), .val (.int v16), .val (.int v19), .val (.int v22), .val (.ref b24), .val (.ref b30), .unset, .unset, .unset, .unset, .unset] [(.ref b39), (.ref b39), (.ref b38), (.ref b38), (.ref b37), (.ref b37)]))
  refine Go.step (fun t k => XS.iconst X39.here hx rfl (hb hby at_166)  k) ?_
  show Go p e below _ (T39.setTop (mkF m 167 #[.val (.int p1), .val (.int p2), .val (.int p3), .val (.int v4), .val (.int v5), .val (.int v7), .val (.int v10), .val (.int v13), .val (.int v16), .val (.int v19), .val (.int v22), .val (.ref b24), .val (.ref b30), .unset, .unset, .unset, .unset, .unset] [(.int (0 : Int32)), (.ref b39), (.ref b39), (.ref b38), (.ref b38), (.ref b37), (.ref b37)]))
  refine Go.step (fun t k => XS.iload X39.here hx rfl (hb hby at_167) rfl k) ?_
  show Go p e below _ (T39.setTop (mkF m 169 #[.val (.int p1), .val (.int p2), .val (.int p3), .val (.int v4), .val (.int v5), .val (.int v7), .val (.int v10), .val (.int v13), .val (.int v16), .val (.int v19), .val (.int v22), .val (.ref b24), .val (.ref b30), .unset, .unset, .unset, .unset, .unset] [(.int v13), (.int (0 : Int32)), (.ref b39), (.ref b39), (.ref b38), (.ref b38), (.ref b37), (.ref b37)]))
  obtain ⟨cl40, Ar40, in40, -⟩ := A_b39_39.hin (j := (0 : Int32)) (by decide) (by decide)
  obtain ⟨T40, h40, X40, e40, W40, st40⟩ := stC X39 hx hZ e39 Ar40 in40 (g := (mkF m 169 #[.val (.int p1), .val (.int p2), .val (.int p3), .val (.int v4), .val (.int v5), .val (.int v7), .val (.int v10), .val (.int v13), .val (.int v16), .val (.int v19), .val (.int v22), .val (.ref b24), .val (.ref b30), .unset, .unset, .unset, .unset, .unset] [(.int v13), (.int (0 : Int32)), (.ref b39), (.ref b39), (.ref b38), (.ref b38), (.ref b37), (.ref b37)])) rfl rfl (hb hby at_169)
  refine Go.step st40 ?_
  have N40 := Fr.snoc X40 N36 g_b39
  have E_b24_40 := E_b24_39.wr W40
  have E_b25_40 := E_b25_39.wr W40
  have F_coder_b25_40 := F_coder_b25_39.other W40 (Or.inl ne_b25_b39)
  have F_value_b25_40 := F_value_b25_39.other W40 (Or.inl ne_b25_b39)
  have A_b28_0_40 := A_b28_0_39.other W40 ne_b28_0_b39
  have F_parent_b24_40 := F_parent_b24_39.other W40 (Or.inl ne_b24_b39)
  have F_previous_b24_40 := F_previous_b24_39.other W40 (Or.inl ne_b24_b39)
  have F_next_b24_40 := F_next_b24_39.other W40 (Or.inl ne_b24_b39)
  have F_firstChild_b24_40 := F_firstChild_b24_39.other W40 (Or.inl ne_b24_b39)
  have F_lastChild_b24_40 := F_lastChild_b24_39.other W40 (Or.inl ne_b24_b39)
  have F_name_b24_40 := F_name_b24_39.other W40 (Or.inl ne_b24_b39)
  have E_b30_40 := E_b30_39.wr W40
  have E_b31_40 := E_b31_39.wr W40
  have F_coder_b31_40 := F_coder_b31_39.other W40 (Or.inl ne_b31_b39)
  have F_value_b31_40 := F_value_b31_39.other W40 (Or.inl ne_b31_b39)
  have A_b35_0_40 := A_b35_0_39.other W40 ne_b35_0_b39
  have F_parent_b30_40 := F_parent_b30_39.other W40 (Or.inl ne_b30_b39)
  have F_previous_b30_40 := F_previous_b30_39.other W40 (Or.inl ne_b30_b39)
  have F_next_b30_40 := F_next_b30_39.other W40 (Or.inl ne_b30_b39)
  have F_firstChild_b30_40 := F_firstChild_b30_39.other W40 (Or.inl ne_b30_b39)
  have F_lastChild_b30_40 := F_lastChild_b30_39.other W40 (Or.inl ne_b30_b39)
  have F_name_b30_40 := F_name_b30_39.other W40 (Or.inl ne_b30_b39)
  have E_b37_40 := E_b37_39.wr W40
  have F_attributes_b37_40 := F_attributes_b37_39.other W40 (Or.inl ne_b37_b39)
  have F_texts_b37_40 := F_texts_b37_39.other W40 (Or.inl ne_b37_b39)
  have F_name_b37_40 := F_name_b37_39.other W40 (Or.inl ne_b37_b39)
  have F_lastChild_b37_40 := F_lastChild_b37_39.other W40 (Or.inl ne_b37_b39)
  have F_parent_b37_40 := F_parent_b37_39.other W40 (Or.inl ne_b37_b39)
  have F_previous_b37_40 := F_previous_b37_39.other W40 (Or.inl ne_b37_b39)
  have F_firstChild_b37_40 := F_firstChild_b37_39.other W40 (Or.inl ne_b37_b39)
  have F_next_b37_40 := F_next_b37_39.other W40 (Or.inl ne_b37_b39)
  have E_b38_40 := E_b38_39.wr W40
  have F_coder_b38_40 := F_coder_b38_39.other W40 (Or.inl ne_b38_b39)
  have F_value_b38_40 := F_value_b38_39.other W40 (Or.inl ne_b38_b39)
  have O40 := O39.wr W40 g_b39
  have Z40 := Nat.le_trans Z39 (Keep.of_wr W40).1
  have KK40 : Keep h0 h40 [] := KK39.wr W40 (Or.inr sz_b39)
  clear E_b24_39 E_b25_39 F_coder_b25_39 F_value_b25_39 A_b28_0_39 F_parent_b24_39 F_previous_b24_39 F_next_b24_39 F_firstChild_b24_39 F_lastChild_b24_39 F_name_b24_39 E_b30_39 E_b31_39 F_coder_b31_39 F_value_b31_39 A_b35_0_39 F_parent_b30_39 F_previous_b30_39 F_next_b30_39 F_firstChild_b30_39 F_lastChild_b30_39 F_name_b30_39 E_b37_39 F_attributes_b37_39 F_texts_b37_39 F_name_b37_39 F_lastChild_b37_39 F_parent_b37_39 F_previous_b37_39 F_firstChild_b37_39 F_next_b37_39 E_b38_39 F_coder_b38_39 F_value_b38_39 O39 Z39 KK39
  have A_b39_40 : Ary Z h40 b39 .char 2 (fun i => .int ((upA (fun _ => (0 : Int32)) 0 (nar .char v13)) i)) := A_b39_39.setI W40 (by decide)
  show Go p e below _ (T40.setTop (mkF m 170 #[.val (.int p1), .val (.int p2), .val (.int p3), .val (.int v4), .val (.int v5), .val (.int v7), .val (.int v10), .val (.int v13), .val (.int v16), .val (.int v19), .val (.int v22), .val (.ref b24), .val (.ref b30), .unset, .unset, .unset, .unset, .unset] [(.ref b39), (.ref b38), (.ref b38), (.ref b37), (.ref b37)]))
  refine Go.step (fun t k => XS.dup X40.here hx rfl (hb hby at_170) rfl rfl k) ?_
  show Go p e below _ (T40.setTop (mkF m 171 #[.val (.int p1), .val (.int p2), .val (.int p3), .val (.int v4), .val (.int v5), .val (.int v7), .val (.int v10), .val (.int v13), .val (.int v16), .val (.int v19), .val (.int v22), .val (.ref b24), .val (.ref b30), .unset, .unset, .unset, .unset, .unset] [(.ref b39), (.ref b39), (.ref b38), (.ref b38), (.ref b37), (.ref b37)]))
  refine Go.step (fun t k => XS.iconst X40.here hx rfl (hb hby at_171)  k) ?_
  show Go p e below _ (T40.setTop (mkF m 172 #[.val (.int p1), .val (.int p2), .val (.int p3), .val (.int v4), .val (.int v5), .val (.int v7), .val (.int v10), .val (.int v13), .val (.int v16), .val (.int v19), .val (.int v22), .val (.ref b24), .val (.ref b30), .unset, .unset, .unset, .unset, .unset] [(.int (1 : Int32)), (.ref b39), (.ref b39), (.ref b38), (.ref b38), (.ref b37), (.ref b37)]))
  refine Go.step (fun t k => XS.iload X40.here hx rfl (hb hby at_172) rfl k) ?_
  show Go p e below _ (T40.setTop (mkF m 174 #[.val (.int p1), .val (.int p2), .val (.int p3), .val (.int v4), .val (.int v5), .val (.int v7), .val (.int v10), .val (.int v13), .val (.int v16), .val (.int v19), .val (.int v22), .val (.ref b24), .val (.ref b30), .unset, .unset, .unset, .unset, .unset] [(.int v16), (.int (1 : Int32)), (.ref b39), (.ref b39), (.ref b38), (.ref b38), (.ref b37), (.ref b37)]))
  obtain ⟨cl41, Ar41, in41, -⟩ := A_b39_40.hin (j := (1 : Int32)) (by decide) (by decide)
  obtain ⟨T41, h41, X41, e41, W41, st41⟩ := stC X40 hx hZ e40 Ar41 in41 (g := (mkF m 174 #[.val (.int p1), .val (.int p2), .val (.int p3), .val (.int v4), .val (.int v5), .val (.int v7), .val (.int v10), .val (.int v13), .val (.int v16), .val (.int v19), .val (.int v22), .val (.ref b24), .val (.ref b30), .unset, .unset, .unset, .unset, .unset] [(.int v16), (.int (1 : Int32)), (.ref b39), (.ref b39), (.ref b38), (.ref b38), (.ref b37), (.ref b37)])) rfl rfl (hb hby at_174)
  refine Go.step st41 ?_
  have N41 := Fr.snoc X41 N40 g_b39
  have E_b24_41 := E_b24_40.wr W41
  have E_b25_41 := E_b25_40.wr W41
  have F_coder_b25_41 := F_coder_b25_40.other W41 (Or.inl ne_b25_b39)
  have F_value_b25_41 := F_value_b25_40.other W41 (Or.inl ne_b25_b39)
  have A_b28_0_41 := A_b28_0_40.other W41 ne_b28_0_b39
  have F_parent_b24_41 := F_parent_b24_40.other W41 (Or.inl ne_b24_b39)
  have F_previous_b24_41 := F_previous_b24_40.other W41 (Or.inl ne_b24_b39)
  have F_next_b24_41 := F_next_b24_40.other W41 (Or.inl ne_b24_b39)
  have F_firstChild_b24_41 := F_firstChild_b24_40.other W41 (Or.inl ne_b24_b39)
  have F_lastChild_b24_41 := F_lastChild_b24_40.other W41 (Or.inl ne_b24_b39)
  have F_name_b24_41 := F_name_b24_40.other W41 (Or.inl ne_b24_b39)
  have E_b30_41 := E_b30_40.wr W41
  have E_b31_41 := E_b31_40.wr W41
  have F_coder_b31_41 := F_coder_b31_40.other W41 (Or.inl ne_b31_b39)
  have F_value_b31_41 := F_value_b31_40.other W41 (Or.inl ne_b31_b39)
  have A_b35_0_41 := A_b35_0_40.other W41 ne_b35_0_b39
  have F_parent_b30_41 := F_parent_b30_40.other W41 (Or.inl ne_b30_b39)
  have F_previous_b30_41 := F_previous_b30_40.other W41 (Or.inl ne_b30_b39)
  have F_next_b30_41 := F_next_b30_40.other W41 (Or.inl ne_b30_b39)
  have F_firstChild_b30_41 := F_firstChild_b30_40.other W41 (Or.inl ne_b30_b39)
  have F_lastChild_b30_41 := F_lastChild_b30_40.other W41 (Or.inl ne_b30_b39)
  have F_name_b30_41 := F_name_b30_40.other W41 (Or.inl ne_b30_b39)
  have E_b37_41 := E_b37_40.wr W41
  have F_attributes_b37_41 := F_attributes_b37_40.other W41 (Or.inl ne_b37_b39)
  have F_texts_b37_41 := F_texts_b37_40.other W41 (Or.inl ne_b37_b39)
  have F_name_b37_41 := F_name_b37_40.other W41 (Or.inl ne_b37_b39)
  have F_lastChild_b37_41 := F_lastChild_b37_40.other W41 (Or.inl ne_b37_b39)
  have F_parent_b37_41 := F_parent_b37_40.other W41 (Or.inl ne_b37_b39)
  have F_previous_b37_41 := F_previous_b37_40.other W41 (Or.inl ne_b37_b39)
  have F_firstChild_b37_41 := F_firstChild_b37_40.other W41 (Or.inl ne_b37_b39)
  have F_next_b37_41 := F_next_b37_40.other W41 (Or.inl ne_b37_b39)
  have E_b38_41 := E_b38_40.wr W41
  have F_coder_b38_41 := F_coder_b38_40.other W41 (Or.inl ne_b38_b39)
  have F_value_b38_41 := F_value_b38_40.other W41 (Or.inl ne_b38_b39)
  have O41 := O40.wr W41 g_b39
  have Z41 := Nat.le_trans Z40 (Keep.of_wr W41).1
  have KK41 : Keep h0 h41 [] := KK40.wr W41 (Or.inr sz_b39)
  clear E_b24_40 E_b25_40 F_coder_b25_40 F_value_b25_40 A_b28_0_40 F_parent_b24_40 F_previous_b24_40 F_next_b24_40 F_firstChild_b24_40 F_lastChild_b24_40 F_name_b24_40 E_b30_40 E_b31_40 F_coder_b31_40 F_value_b31_40 A_b35_0_40 F_parent_b30_40 F_previous_b30_40 F_next_b30_40 F_firstChild_b30_40 F_lastChild_b30_40 F_name_b30_40 E_b37_40 F_attributes_b37_40 F_texts_b37_40 F_name_b37_40 F_lastChild_b37_40 F_parent_b37_40 F_previous_b37_40 F_firstChild_b37_40 F_next_b37_40 E_b38_40 F_coder_b38_40 F_value_b38_40 O40 Z40 KK40
  have A_b39_41 : Ary Z h41 b39 .char 2 (fun i => .int ((upA (upA (fun _ => (0 : Int32)) 0 (nar .char v13)) 1 (nar .char v16)) i)) := A_b39_40.setI W41 (by decide)
  show Go p e below _ (T41.setTop (mkF m 175 #[.val (.int p1), .val (.int p2), .val (.int p3), .val (.int v4), .val (.int v5), .val (.int v7), .val (.int v10), .val (.int v13), .val (.int v16), .val (.int v19), .val (.int v22), .val (.ref b24), .val (.ref b30), .unset, .unset, .unset, .unset, .unset] [(.ref b39), (.ref b38), (.ref b38), (.ref b37), (.ref b37)]))
  obtain ⟨_, _, ⟨T42, L42, k42, n42⟩, -, X42, ⟨Lc42, hQ42, l42, y42, z42⟩, st42⟩ := X41.specialBack hx (y := (⟨"java/lang/String", "<init>", "([C)V"⟩ : MethodName)) rfl hown (mvT hZ (hw _ (List.mem_of_getElem? (i := 7) rfl))) (mvT hZ (hw _ (List.mem_of_getElem? (i := 8) rfl))) (mvT hZ (hw _ (List.mem_of_getElem? (i := 9) rfl))) (by decide) (backOf (W := 3) (rm1_2 l Z a0 hw [] b38 b39 (upA (upA (fun _ => (0 : Int32)) 0 (nar .char v13)) 1 (nar .char v16)) (.int (0 : Int32)) .null wC h41 n0 Z41 A_b39_41 E_b38_41 F_coder_b38_41 F_value_b38_41 hC S_COMPACT_STRINGS O41 g_b38 (by simpa [upA, (cv13).1] using (cv13).2 : ¬ ((255 : Int32) < ((upA (upA (fun _ => (0 : Int32)) 0 (nar .char v13)) 1 (nar .char v16)) 0))) (by simpa [upA, (cv16).1] using (cv16).2 : ¬ ((255 : Int32) < ((upA (upA (fun _ => (0 : Int32)) 0 (nar .char v13)) 1 (nar .char v16)) 1))) (Ne.symm ne_b38_b39)) hZ (hw _ (List.mem_of_getElem? (i := 9) rfl)) (hw _ (List.mem_of_getElem? (i := 5) rfl)) (by decide) (by decide)) (g := (mkF m 175 #[.val (.int p1), .val (.int p2), .val (.int p3), .val (.int v4), .val (.int v5), .val (.int v7), .val (.int v10), .val (.int v13), .val (.int v16), .val (.int v19), .val (.int v22), .val (.ref b24), .val (.ref b30), .unset, .unset, .unset, .unset, .unset] [(.ref b39), (.ref b38), (.ref b38), (.ref b37), (.ref b37)])) rfl (by rw [hml]; rfl) (Steps.refl _) (a := b38) (argsL := [(.ref b39)]) (rest := [(.ref b38), (.ref b37), (.ref b37)]) (lenOf pd_8 rfl) rfl (by show 2 * 0 + _ ≤ _; exact Nat.le_of_eq rfl) (hb hby at_175) (fun _ _ => ⟨rfl, e41, (by decide : 15 + 1 ≤ _), (by decide : 56 + 2 ≤ _)⟩)
  dsimp only [Pt.U, Pt.locs, Pt.cells, Pt.slots] at X42 l42 y42 z42 st42 hQ42
  replace y42 : k42 = 16 := y42
  replace z42 : n42 = 58 := z42
  subst y42 z42
  obtain ⟨b42_0, rfl, N42q, K42, sz42_0, Q42_0, Q42_1, Q42_2, Q42_3⟩ := hQ42
  have N42 : Fr n0 L42 := Eq.mpr (congrArg (Fr n0) l42) (Fr.app N41 N42q)
  have g_b42_0 : n0 ≤ b42_0 := Nat.le_trans Z41 sz42_0
  have sz_b42_0 : h0.size ≤ b42_0 := Nat.le_trans KK41.1 sz42_0
  have ne_b24_b42_0 : b24 ≠ b42_0 := Nat.ne_of_lt (Nat.lt_of_lt_of_le E_b24_41.lt sz42_0)
  have ne_b25_b42_0 : b25 ≠ b42_0 := Nat.ne_of_lt (Nat.lt_of_lt_of_le E_b25_41.lt sz42_0)
  have ne_b28_0_b42_0 : b28_0 ≠ b42_0 := Nat.ne_of_lt (Nat.lt_of_lt_of_le A_b28_0_41.lt sz42_0)
  have ne_b30_b42_0 : b30 ≠ b42_0 := Nat.ne_of_lt (Nat.lt_of_lt_of_le E_b30_41.lt sz42_0)
  have ne_b31_b42_0 : b31 ≠ b42_0 := Nat.ne_of_lt (Nat.lt_of_lt_of_le E_b31_41.lt sz42_0)
  have ne_b35_0_b42_0 : b35_0 ≠ b42_0 := Nat.ne_of_lt (Nat.lt_of_lt_of_le A_b35_0_41.lt sz42_0)
  have ne_b37_b42_0 : b37 ≠ b42_0 := Nat.ne_of_lt (Nat.lt_of_lt_of_le E_b37_41.lt sz42_0)
  have ne_b38_b42_0 : b38 ≠ b42_0 := Nat.ne_of_lt (Nat.lt_of_lt_of_le E_b38_41.lt sz42_0)
  have ne_b39_b42_0 : b39 ≠ b42_0 := Nat.ne_of_lt (Nat.lt_of_lt_of_le A_b39_41.lt sz42_0)
  have E_b24_42 := E_b24_41.keep K42
  have E_b25_42 := E_b25_41.keep K42
  have F_coder_b25_42 := F_coder_b25_41.keep K42 (ninS ne_b25_b38 nin0)
  have F_value_b25_42 := F_value_b25_41.keep K42 (ninS ne_b25_b38 nin0)
  have A_b28_0_42 := A_b28_0_41.keep K42 (ninS ne_b28_0_b38 nin0)
  have F_parent_b24_42 := F_parent_b24_41.keep K42 (ninS ne_b24_b38 nin0)
  have F_previous_b24_42 := F_previous_b24_41.keep K42 (ninS ne_b24_b38 nin0)
  have F_next_b24_42 := F_next_b24_41.keep K42 (ninS ne_b24_b38 nin0)
  have F_firstChild_b24_42 := F_firstChild_b24_41.keep K42 (ninS ne_b24_b38 nin0)
  have F_lastChild_b24_42 := F_lastChild_b24_41.keep K42 (ninS ne_b24_b38 nin0)
  have F_name_b24_42 := F_name_b24_41.keep K42 (ninS ne_b24_b38 nin0)
  have E_b30_42 := E_b30_41.keep K42
  have E_b31_42 := E_b31_41.keep K42
  have F_coder_b31_42 := F_coder_b31_41.keep K42 (ninS ne_b31_b38 nin0)
  have F_value_b31_42 := F_value_b31_41.keep K42 (ninS ne_b31_b38 nin0)
  have A_b35_0_42 := A_b35_0_41.keep K42 (ninS ne_b35_0_b38 nin0)
  have F_parent_b30_42 := F_parent_b30_41.keep K42 (ninS ne_b30_b38 nin0)
  have F_previous_b30_42 := F_previous_b30_41.keep K42 (ninS ne_b30_b38 nin0)
  have F_next_b30_42 := F_next_b30_41.keep K42 (ninS ne_b30_b38 nin0)
  have F_firstChild_b30_42 := F_firstChild_b30_41.keep K42 (ninS ne_b30_b38 nin0)
  have F_lastChild_b30_42 := F_lastChild_b30_41.keep K42 (ninS ne_b30_b38 nin0)
  have F_name_b30_42 := F_name_b30_41.keep K42 (ninS ne_b30_b38 nin0)
  have E_b37_42 := E_b37_41.keep K42
  have F_attributes_b37_42 := F_attributes_b37_41.keep K42 (ninS ne_b37_b38 nin0)
  have F_texts_b37_42 := F_texts_b37_41.keep K42 (ninS ne_b37_b38 nin0)
  have F_name_b37_42 := F_name_b37_41.keep K42 (ninS ne_b37_b38 nin0)
  have F_lastChild_b37_42 := F_lastChild_b37_41.keep K42 (ninS ne_b37_b38 nin0)
  have F_parent_b37_42 := F_parent_b37_41.keep K42 (ninS ne_b37_b38 nin0)
  have F_previous_b37_42 := F_previous_b37_41.keep K42 (ninS ne_b37_b38 nin0)
  have F_firstChild_b37_42 := F_firstChild_b37_41.keep K42 (ninS ne_b37_b38 nin0)
  have F_next_b37_42 := F_next_b37_41.keep K42 (ninS ne_b37_b38 nin0)
  have E_b38_42 := E_b38_41.keep K42
  have A_b39_42 := A_b39_41.keep K42 (ninS (Ne.symm ne_b38_b39) nin0)
  have O42 := O41.keep K42 (allS g_b38 all0)
  have Z42 := Nat.le_trans Z41 K42.1
  have KK42 : Keep h0 T42.heap [] := KK41.trans K42 (allS (Or.inr sz_b38) all0)
  clear E_b24_41 E_b25_41 F_coder_b25_41 F_value_b25_41 A_b28_0_41 F_parent_b24_41 F_previous_b24_41 F_next_b24_41 F_firstChild_b24_41 F_lastChild_b24_41 F_name_b24_41 E_b30_41 E_b31_41 F_coder_b31_41 F_value_b31_41 A_b35_0_41 F_parent_b30_41 F_previous_b30_41 F_next_b30_41 F_firstChild_b30_41 F_lastChild_b30_41 F_name_b30_41 E_b37_41 F_attributes_b37_41 F_texts_b37_41 F_name_b37_41 F_lastChild_b37_41 F_parent_b37_41 F_previous_b37_41 F_firstChild_b37_41 F_next_b37_41 E_b38_41 A_b39_41 O41 Z41 KK41 K42
  refine Go.trans st42 ?_
  show Go p e below _ (T42.setTop (mkF m 178 #[.val (.int p1), .val (.int p2), .val (.int p3), .val (.int v4), .val (.int v5), .val (.int v7), .val (.int v10), .val (.int v13), .val (.int v16), .val (.int v19), .val (.int v22), .val (.ref b24), .val (.ref b30), .unset, .unset, .unset, .unset, .unset] [(.ref b38), (.ref b37), (.ref b37)]))
  obtain ⟨_, _, ⟨T43, L43, k43, n43⟩, -, X43, ⟨Lc43, hQ43, l43, y43, z43⟩, st43⟩ := X42.specialBack hx (y := (⟨"com/example/dataflow_to_dispatch/dataflowtodispatch/model/document/XmlElement", "<init>", "(Ljava/lang/String;)V"⟩ : MethodName)) rfl hown (mvT hZ (hw _ (List.mem_of_getElem? (i := 33) rfl))) (mvT hZ (hw _ (List.mem_of_getElem? (i := 34) rfl))) (mvT hZ (hw _ (List.mem_of_getElem? (i := 35) rfl))) (by decide) (backOf (W := 1) (rm7 l Z a0 hw [] b37 b38 .null .null .null .null .null .null .null .null oD T42.heap n0 Z42 F_parent_b37_42 F_previous_b37_42 F_next_b37_42 F_firstChild_b37_42 F_lastChild_b37_42 O42 E_b37_42 F_attributes_b37_42 F_texts_b37_42 F_name_b37_42 S_DEFAULTCAPACITY_EMPTY_ELEMENTDATA g_b37) hZ (hw _ (List.mem_of_getElem? (i := 35) rfl)) (hw _ (List.mem_of_getElem? (i := 2) rfl)) (by decide) (by decide)) (g := (mkF m 178 #[.val (.int p1), .val (.int p2), .val (.int p3), .val (.int v4), .val (.int v5), .val (.int v7), .val (.int v10), .val (.int v13), .val (.int v16), .val (.int v19), .val (.int v22), .val (.ref b24), .val (.ref b30), .unset, .unset, .unset, .unset, .unset] [(.ref b38), (.ref b37), (.ref b37)])) rfl (by rw [hml]; rfl) (Steps.refl _) (a := b37) (argsL := [(.ref b38)]) (rest := [(.ref b37)]) (lenOf pd_9 rfl) rfl (by show 2 * 0 + _ ≤ _; exact Nat.le_of_eq rfl) (hb hby at_178) (fun _ _ => ⟨rfl, rfl, (by decide : 16 + 2 ≤ _), (by decide : 58 + 6 ≤ _)⟩)
  dsimp only [Pt.U, Pt.locs, Pt.cells, Pt.slots] at X43 l43 y43 z43 st43 hQ43
  replace y43 : k43 = 18 := y43
  replace z43 : n43 = 64 := z43
  subst y43 z43
  obtain ⟨rfl, N43q, K43, Q43_0, Q43_1, Q43_2, Q43_3, Q43_4, Q43_5, Q43_6⟩ := hQ43
  have N43 : Fr n0 L43 := Eq.mpr (congrArg (Fr n0) l43) (Fr.app N42 N43q)
  have E_b24_43 := E_b24_42.keep K43
  have E_b25_43 := E_b25_42.keep K43
  have F_coder_b25_43 := F_coder_b25_42.keep K43 (ninS ne_b25_b37 nin0)
  have F_value_b25_43 := F_value_b25_42.keep K43 (ninS ne_b25_b37 nin0)
  have A_b28_0_43 := A_b28_0_42.keep K43 (ninS ne_b28_0_b37 nin0)
  have F_parent_b24_43 := F_parent_b24_42.keep K43 (ninS ne_b24_b37 nin0)
  have F_previous_b24_43 := F_previous_b24_42.keep K43 (ninS ne_b24_b37 nin0)
  have F_next_b24_43 := F_next_b24_42.keep K43 (ninS ne_b24_b37 nin0)
  have F_firstChild_b24_43 := F_firstChild_b24_42.keep K43 (ninS ne_b24_b37 nin0)
  have F_lastChild_b24_43 := F_lastChild_b24_42.keep K43 (ninS ne_b24_b37 nin0)
  have F_name_b24_43 := F_name_b24_42.keep K43 (ninS ne_b24_b37 nin0)
  have E_b30_43 := E_b30_42.keep K43
  have E_b31_43 := E_b31_42.keep K43
  have F_coder_b31_43 := F_coder_b31_42.keep K43 (ninS ne_b31_b37 nin0)
  have F_value_b31_43 := F_value_b31_42.keep K43 (ninS ne_b31_b37 nin0)
  have A_b35_0_43 := A_b35_0_42.keep K43 (ninS ne_b35_0_b37 nin0)
  have F_parent_b30_43 := F_parent_b30_42.keep K43 (ninS ne_b30_b37 nin0)
  have F_previous_b30_43 := F_previous_b30_42.keep K43 (ninS ne_b30_b37 nin0)
  have F_next_b30_43 := F_next_b30_42.keep K43 (ninS ne_b30_b37 nin0)
  have F_firstChild_b30_43 := F_firstChild_b30_42.keep K43 (ninS ne_b30_b37 nin0)
  have F_lastChild_b30_43 := F_lastChild_b30_42.keep K43 (ninS ne_b30_b37 nin0)
  have F_name_b30_43 := F_name_b30_42.keep K43 (ninS ne_b30_b37 nin0)
  have E_b37_43 := E_b37_42.keep K43
  have E_b38_43 := Q42_0.keep K43
  have A_b39_43 := A_b39_42.keep K43 (ninS (Ne.symm ne_b37_b39) nin0)
  have F_coder_b38_43 := Q42_1.keep K43 (ninS (Ne.symm ne_b37_b38) nin0)
  have F_value_b38_43 := Q42_2.keep K43 (ninS (Ne.symm ne_b37_b38) nin0)
  have A_b42_0_43 := Q42_3.keep K43 (ninS (Ne.symm ne_b37_b42_0) nin0)
  have O43 := O42.keep K43 (allS g_b37 all0)
  have Z43 := Nat.le_trans Z42 K43.1
  have KK43 : Keep h0 T43.heap [] := KK42.trans K43 (allS (Or.inr sz_b37) all0)
  clear E_b24_42 E_b25_42 F_coder_b25_42 F_value_b25_42 A_b28_0_42 F_parent_b24_42 F_previous_b24_42 F_next_b24_42 F_firstChild_b24_42 F_lastChild_b24_42 F_name_b24_42 E_b30_42 E_b31_42 F_coder_b31_42 F_value_b31_42 A_b35_0_42 F_parent_b30_42 F_previous_b30_42 F_next_b30_42 F_firstChild_b30_42 F_lastChild_b30_42 F_name_b30_42 E_b37_42 Q42_0 A_b39_42 Q42_1 Q42_2 Q42_3 O42 Z42 KK42 K43
  refine Go.trans st43 ?_
  show Go p e below _ (T43.setTop (mkF m 181 #[.val (.int p1), .val (.int p2), .val (.int p3), .val (.int v4), .val (.int v5), .val (.int v7), .val (.int v10), .val (.int v13), .val (.int v16), .val (.int v19), .val (.int v22), .val (.ref b24), .val (.ref b30), .unset, .unset, .unset, .unset, .unset] [(.ref b37)]))
  show Go p e below _ (T43.setTop (mkF m 181 #[.val (.int p1), .val (.int p2), .val (.int p3), .val (.int v4), .val (.int v5), .val (.int v7), .val (.int v10), .val (.int v13), .val (.int v16), .val (.int v19), .val (.int v22), .val (.ref b24), .val (.ref b30), .unset, .unset, .unset, .unset, .unset] [(.ref b37)]))
  refine Go.step (fun t k => XS.astore X43.here hx rfl (hb hby at_181) rfl rfl (l' := #[.val (.int p1), .val (.int p2), .val (.int p3), .val (.int v4), .val (.int v5), .val (.int v7), .val (.int v10), .val (.int v13), .val (.int v16), .val (.int v19), .val (.int v22), .val (.ref b24), .val (.ref b30), .val (.ref b37), .unset, .unset, .unset, .unset]) rfl k) ?_
  show Go p e below _ (T43.setTop (mkF m 183 #[.val (.int p1), .val (.int p2), .val (.int p3), .val (.int v4), .val (.int v5), .val (.int v7), .val (.int v10), .val (.int v13), .val (.int v16), .val (.int v19), .val (.int v22), .val (.ref b24), .val (.ref b30), .val (.ref b37), .unset, .unset, .unset, .unset] []))
  obtain ⟨T44, h44, X44, e44, E44, A44, D44, -, st44⟩ := newO X43 hx hZ hown (hw _ (List.mem_of_getElem? (i := 0) rfl)) (hw _ (List.mem_of_getElem? (i := 1) rfl)) (hw _ (List.mem_of_getElem? (i := 2) rfl)) rfl (g := (mkF m 183 #[.val (.int p1), .val (.int p2), .val (.int p3), .val (.int v4), .val (.int v5), .val (.int v7), .val (.int v10), .val (.int v13), .val (.int v16), .val (.int v19), .val (.int v22), .val (.ref b24), .val (.ref b30), .val (.ref b37), .unset, .unset, .unset, .unset] [])) rfl (hb hby at_183) (by decide) (by decide)
  obtain ⟨b44, g44⟩ : ∃ z, z = T43.heap.size := ⟨_, rfl⟩
  rw [← g44] at A44 D44 st44
  have g_b44 : n0 ≤ b44 := Nat.le_trans Z43 (Nat.le_of_eq g44.symm)
  have sz_b44 : h0.size ≤ b44 := Nat.le_trans KK43.1 (Nat.le_of_eq g44.symm)
  have ne_b24_b44 : b24 ≠ b44 := Nat.ne_of_lt (Nat.lt_of_lt_of_le E_b24_43.lt (Nat.le_of_eq g44.symm))
  have ne_b25_b44 : b25 ≠ b44 := Nat.ne_of_lt (Nat.lt_of_lt_of_le E_b25_43.lt (Nat.le_of_eq g44.symm))
  have ne_b28_0_b44 : b28_0 ≠ b44 := Nat.ne_of_lt (Nat.lt_of_lt_of_le A_b28_0_43.lt (Nat.le_of_eq g44.symm))
  have ne_b30_b44 : b30 ≠ b44 := Nat.ne_of_lt (Nat.lt_of_lt_of_le E_b30_43.lt (Nat.le_of_eq g44.symm))
  have ne_b31_b44 : b31 ≠ b44 := Nat.ne_of_lt (Nat.lt_of_lt_of_le E_b31_43.lt (Nat.le_of_eq g44.symm))
  have ne_b35_0_b44 : b35_0 ≠ b44 := Nat.ne_of_lt (Nat.lt_of_lt_of_le A_b35_0_43.lt (Nat.le_of_eq g44.symm))
  have ne_b37_b44 : b37 ≠ b44 := Nat.ne_of_lt (Nat.lt_of_lt_of_le Q43_5.lt (Nat.le_of_eq g44.symm))
  have ne_b38_b44 : b38 ≠ b44 := Nat.ne_of_lt (Nat.lt_of_lt_of_le E_b38_43.lt (Nat.le_of_eq g44.symm))
  have ne_b42_0_b44 : b42_0 ≠ b44 := Nat.ne_of_lt (Nat.lt_of_lt_of_le A_b42_0_43.lt (Nat.le_of_eq g44.symm))
  refine Go.step st44 ?_
  have E_b24_44 := E_b24_43.ext E44
  have E_b25_44 := E_b25_43.ext E44
  have F_coder_b25_44 := F_coder_b25_43.ext E44
  have F_value_b25_44 := F_value_b25_43.ext E44
  have A_b28_0_44 := A_b28_0_43.ext E44
  have F_parent_b24_44 := F_parent_b24_43.ext E44
  have F_previous_b24_44 := F_previous_b24_43.ext E44
  have F_next_b24_44 := F_next_b24_43.ext E44
  have F_firstChild_b24_44 := F_firstChild_b24_43.ext E44
  have F_lastChild_b24_44 := F_lastChild_b24_43.ext E44
  have F_name_b24_44 := F_name_b24_43.ext E44
  have E_b30_44 := E_b30_43.ext E44
  have E_b31_44 := E_b31_43.ext E44
  have F_coder_b31_44 := F_coder_b31_43.ext E44
  have F_value_b31_44 := F_value_b31_43.ext E44
  have A_b35_0_44 := A_b35_0_43.ext E44
  have F_parent_b30_44 := F_parent_b30_43.ext E44
  have F_previous_b30_44 := F_previous_b30_43.ext E44
  have F_next_b30_44 := F_next_b30_43.ext E44
  have F_firstChild_b30_44 := F_firstChild_b30_43.ext E44
  have F_lastChild_b30_44 := F_lastChild_b30_43.ext E44
  have F_name_b30_44 := F_name_b30_43.ext E44
  have E_b37_44 := Q43_5.ext E44
  have E_b38_44 := E_b38_43.ext E44
  have F_coder_b38_44 := F_coder_b38_43.ext E44
  have F_value_b38_44 := F_value_b38_43.ext E44
  have A_b42_0_44 := A_b42_0_43.ext E44
  have F_parent_b37_44 := Q43_0.ext E44
  have F_previous_b37_44 := Q43_1.ext E44
  have F_next_b37_44 := Q43_2.ext E44
  have F_firstChild_b37_44 := Q43_3.ext E44
  have F_lastChild_b37_44 := Q43_4.ext E44
  have F_name_b37_44 := Q43_6.ext E44
  have O44 := O43.ext E44
  have Z44 := Nat.le_trans Z43 E44.1
  have KK44 : Keep h0 h44 [] := KK43.ext E44
  clear E_b24_43 E_b25_43 F_coder_b25_43 F_value_b25_43 A_b28_0_43 F_parent_b24_43 F_previous_b24_43 F_next_b24_43 F_firstChild_b24_43 F_lastChild_b24_43 F_name_b24_43 E_b30_43 E_b31_43 F_coder_b31_43 F_value_b31_43 A_b35_0_43 F_parent_b30_43 F_previous_b30_43 F_next_b30_43 F_firstChild_b30_43 F_lastChild_b30_43 F_name_b30_43 Q43_5 E_b38_43 F_coder_b38_43 F_value_b38_43 A_b42_0_43 Q43_0 Q43_1 Q43_2 Q43_3 Q43_4 Q43_6 O43 Z43 KK43 E44
  have F_attributes_b44 : Fld Z h44 b44 "com/example/dataflow_to_dispatch/dataflowtodispatch/model/document/XmlElement" "attributes" "Ljava/util/List;" .null := D44 (Or.inr (hw _ (List.mem_of_getElem? (i := 62) rfl))) (ty := (.object "java/util/List")) (by decide)
  have F_texts_b44 : Fld Z h44 b44 "com/example/dataflow_to_dispatch/dataflowtodispatch/model/document/XmlElement" "texts" "Ljava/util/List;" .null := D44 (Or.inr (hw _ (List.mem_of_getElem? (i := 64) rfl))) (ty := (.object "java/util/List")) (by decide)
  have F_name_b44 : Fld Z h44 b44 "com/example/dataflow_to_dispatch/dataflowtodispatch/model/document/XmlElement" "name" "Ljava/lang/String;" .null := D44 (Or.inr (hw _ (List.mem_of_getElem? (i := 66) rfl))) (ty := (.object "java/lang/String")) (by decide)
  have F_lastChild_b44 : Fld Z h44 b44 "com/example/dataflow_to_dispatch/dataflowtodispatch/model/document/XmlElement" "lastChild" "Lcom/example/dataflow_to_dispatch/dataflowtodispatch/model/document/XmlElement;" .null := D44 (Or.inl (hw _ (List.mem_of_getElem? (i := 73) rfl))) (ty := (.object "com/example/dataflow_to_dispatch/dataflowtodispatch/model/document/XmlElement")) (by decide)
  have F_parent_b44 : Fld Z h44 b44 "com/example/dataflow_to_dispatch/dataflowtodispatch/model/document/XmlElement" "parent" "Lcom/example/dataflow_to_dispatch/dataflowtodispatch/model/document/XmlElement;" .null := D44 (Or.inl (hw _ (List.mem_of_getElem? (i := 79) rfl))) (ty := (.object "com/example/dataflow_to_dispatch/dataflowtodispatch/model/document/XmlElement")) (by decide)
  have F_previous_b44 : Fld Z h44 b44 "com/example/dataflow_to_dispatch/dataflowtodispatch/model/document/XmlElement" "previous" "Lcom/example/dataflow_to_dispatch/dataflowtodispatch/model/document/XmlElement;" .null := D44 (Or.inl (hw _ (List.mem_of_getElem? (i := 81) rfl))) (ty := (.object "com/example/dataflow_to_dispatch/dataflowtodispatch/model/document/XmlElement")) (by decide)
  have F_firstChild_b44 : Fld Z h44 b44 "com/example/dataflow_to_dispatch/dataflowtodispatch/model/document/XmlElement" "firstChild" "Lcom/example/dataflow_to_dispatch/dataflowtodispatch/model/document/XmlElement;" .null := D44 (Or.inl (hw _ (List.mem_of_getElem? (i := 83) rfl))) (ty := (.object "com/example/dataflow_to_dispatch/dataflowtodispatch/model/document/XmlElement")) (by decide)
  have F_next_b44 : Fld Z h44 b44 "com/example/dataflow_to_dispatch/dataflowtodispatch/model/document/XmlElement" "next" "Lcom/example/dataflow_to_dispatch/dataflowtodispatch/model/document/XmlElement;" .null := D44 (Or.inl (hw _ (List.mem_of_getElem? (i := 85) rfl))) (ty := (.object "com/example/dataflow_to_dispatch/dataflowtodispatch/model/document/XmlElement")) (by decide)
  replace X44 : Stand p l e room_1 s m #[(.int p1), (.int p2), (.int p3)] below meth c T44 _ 19 72 := X44
  show Go p e below _ (T44.setTop (mkF m 186 #[.val (.int p1), .val (.int p2), .val (.int p3), .val (.int v4), .val (.int v5), .val (.int v7), .val (.int v10), .val (.int v13), .val (.int v16), .val (.int v19), .val (.int v22), .val (.ref b24), .val (.ref b30), .val (.ref b37), .unset, .unset, .unset, .unset] [(.ref b44)]))
  refine Go.step (fun t k => XS.dup X44.here hx rfl (hb hby at_186) rfl rfl k) ?_
  show Go p e below _ (T44.setTop (mkF m 187 #[.val (.int p1), .val (.int p2), .val (.int p3), .val (.int v4), .val (.int v5), .val (.int v7), .val (.int v10), .val (.int v13), .val (.int v16), .val (.int v19), .val (.int v22), .val (.ref b24), .val (.ref b30), .val (.ref b37), .unset, .unset, .unset, .unset] [(.ref b44), (.ref b44)]))
  obtain ⟨T45, h45, X45, e45, E45, A45, D45, -, st45⟩ := newO X44 hx hZ hown (hw _ (List.mem_of_getElem? (i := 3) rfl)) (hw _ (List.mem_of_getElem? (i := 4) rfl)) (hw _ (List.mem_of_getElem? (i := 5) rfl)) e44 (g := (mkF m 187 #[.val (.int p1), .val (.int p2), .val (.int p3), .val (.int v4), .val (.int v5), .val (.int v7), .val (.int v10), .val (.int v13), .val (.int v16), .val (.int v19), .val (.int v22), .val (.ref b24), .val (.ref b30), .val (.ref b37), .unset, .unset, .unset, .unset] [(.ref b44), (.ref b44)])) rfl (hb hby at_187) (by decide) (by decide)
  obtain ⟨b45, g45⟩ : ∃ z, z = h44.size := ⟨_, rfl⟩
  rw [← g45] at A45 D45 st45
  have g_b45 : n0 ≤ b45 := Nat.le_trans Z44 (Nat.le_of_eq g45.symm)
  have sz_b45 : h0.size ≤ b45 := Nat.le_trans KK44.1 (Nat.le_of_eq g45.symm)
  have ne_b24_b45 : b24 ≠ b45 := Nat.ne_of_lt (Nat.lt_of_lt_of_le E_b24_44.lt (Nat.le_of_eq g45.symm))
  have ne_b25_b45 : b25 ≠ b45 := Nat.ne_of_lt (Nat.lt_of_lt_of_le E_b25_44.lt (Nat.le_of_eq g45.symm))
  have ne_b28_0_b45 : b28_0 ≠ b45 := Nat.ne_of_lt (Nat.lt_of_lt_of_le A_b28_0_44.lt (Nat.le_of_eq g45.symm))
  have ne_b30_b45 : b30 ≠ b45 := Nat.ne_of_lt (Nat.lt_of_lt_of_le E_b30_44.lt (Nat.le_of_eq g45.symm))
  have ne_b31_b45 : b31 ≠ b45 := Nat.ne_of_lt (Nat.lt_of_lt_of_le E_b31_44.lt (Nat.le_of_eq g45.symm))
  have ne_b35_0_b45 : b35_0 ≠ b45 := Nat.ne_of_lt (Nat.lt_of_lt_of_le A_b35_0_44.lt (Nat.le_of_eq g45.symm))
  have ne_b37_b45 : b37 ≠ b45 := Nat.ne_of_lt (Nat.lt_of_lt_of_le E_b37_44.lt (Nat.le_of_eq g45.symm))
  have ne_b38_b45 : b38 ≠ b45 := Nat.ne_of_lt (Nat.lt_of_lt_of_le E_b38_44.lt (Nat.le_of_eq g45.symm))
  have ne_b42_0_b45 : b42_0 ≠ b45 := Nat.ne_of_lt (Nat.lt_of_lt_of_le A_b42_0_44.lt (Nat.le_of_eq g45.symm))
  have ne_b44_b45 : b44 ≠ b45 := Nat.ne_of_lt (Nat.lt_of_lt_of_le A44.lt (Nat.le_of_eq g45.symm))
  refine Go.step st45 ?_
  have E_b24_45 := E_b24_44.ext E45
  have E_b25_45 := E_b25_44.ext E45
  have F_coder_b25_45 := F_coder_b25_44.ext E45
  have F_value_b25_45 := F_value_b25_44.ext E45
  have A_b28_0_45 := A_b28_0_44.ext E45
  have F_parent_b24_45 := F_parent_b24_44.ext E45
  have F_previous_b24_45 := F_previous_b24_44.ext E45
  have F_next_b24_45 := F_next_b24_44.ext E45
  have F_firstChild_b24_45 := F_firstChild_b24_44.ext E45
  have F_lastChild_b24_45 := F_lastChild_b24_44.ext E45
  have F_name_b24_45 := F_name_b24_44.ext E45
  have E_b30_45 := E_b30_44.ext E45
  have E_b31_45 := E_b31_44.ext E45
  have F_coder_b31_45 := F_coder_b31_44.ext E45
  have F_value_b31_45 := F_value_b31_44.ext E45
  have A_b35_0_45 := A_b35_0_44.ext E45
  have F_parent_b30_45 := F_parent_b30_44.ext E45
  have F_previous_b30_45 := F_previous_b30_44.ext E45
  have F_next_b30_45 := F_next_b30_44.ext E45
  have F_firstChild_b30_45 := F_firstChild_b30_44.ext E45
  have F_lastChild_b30_45 := F_lastChild_b30_44.ext E45
  have F_name_b30_45 := F_name_b30_44.ext E45
  have E_b37_45 := E_b37_44.ext E45
  have E_b38_45 := E_b38_44.ext E45
  have F_coder_b38_45 := F_coder_b38_44.ext E45
  have F_value_b38_45 := F_value_b38_44.ext E45
  have A_b42_0_45 := A_b42_0_44.ext E45
  have F_parent_b37_45 := F_parent_b37_44.ext E45
  have F_previous_b37_45 := F_previous_b37_44.ext E45
  have F_next_b37_45 := F_next_b37_44.ext E45
  have F_firstChild_b37_45 := F_firstChild_b37_44.ext E45
  have F_lastChild_b37_45 := F_lastChild_b37_44.ext E45
  have F_name_b37_45 := F_name_b37_44.ext E45
  have E_b44_45 := A44.ext E45
  have F_attributes_b44_45 := F_attributes_b44.ext E45
  have F_texts_b44_45 := F_texts_b44.ext E45
  have F_name_b44_45 := F_name_b44.ext E45
  have F_lastChild_b44_45 := F_lastChild_b44.ext E45
  have F_parent_b44_45 := F_parent_b44.ext E45
  have F_previous_b44_45 := F_previous_b44.ext E45
  have F_firstChild_b44_45 := F_firstChild_b44.ext E45
  have F_next_b44_45 := F_next_b44.ext E45
  have O45 := O44.ext E45
  have Z45 := Nat.le_trans Z44 E45.1
  have KK45 : Keep h0 h45 [] := KK44.ext E45
  clear E_b24_44 E_b25_44 F_coder_b25_44 F_value_b25_44 A_b28_0_44 F_parent_b24_44 F_previous_b24_44 F_next_b24_44 F_firstChild_b24_44 F_lastChild_b24_44 F_name_b24_44 E_b30_44 E_b31_44 F_coder_b31_44 F_value_b31_44 A_b35_0_44 F_parent_b30_44 F_previous_b30_44 F_next_b30_44 F_firstChild_b30_44 F_lastChild_b30_44 F_name_b30_44 E_b37_44 E_b38_44 F_coder_b38_44 F_value_b38_44 A_b42_0_44 F_parent_b37_44 F_previous_b37_44 F_next_b37_44 F_firstChild_b37_44 F_lastChild_b37_44 F_name_b37_44 A44 F_attributes_b44 F_texts_b44 F_name_b44 F_lastChild_b44 F_parent_b44 F_previous_b44 F_firstChild_b44 F_next_b44 O44 Z44 KK44 E45
  have F_coder_b45 : Fld Z h45 b45 "java/lang/String" "coder" "B" (.int (0 : Int32)) := D45 (Or.inr (hw _ (List.mem_of_getElem? (i := 30) rfl))) (ty := .byte) (by decide)
  have F_value_b45 : Fld Z h45 b45 "java/lang/String" "value" "[B" .null := D45 (Or.inr (hw _ (List.mem_of_getElem? (i := 32) rfl))) (ty := (.array .byte)) (by decide)
  replace X45 : Stand p l e room_1 s m #[(.int p1), (.int p2), (.int p3)] below meth c T45 _ 20 76 := X45
  show Go p e below _ (T45.setTop (mkF m 190 #[.val (.int p1), .val (.int p2), .val (.int p3), .val (.int v4), .val (.int v5), .val (.int v7), .val (.int v10), .val (.int v13), .val (.int v16), .val (.int v19), .val (.int v22), .val (.ref b24), .val (.ref b30), .val (.ref b37), .unset, .unset, .unset, .unset] [(.ref b45), (.ref b44), (.ref b44)]))
  refine Go.step (fun t k => XS.dup X45.here hx rfl (hb hby at_190) rfl rfl k) ?_
  show Go p e below _ (T45.setTop (mkF m 191 #[.val (.int p1), .val (.int p2), .val (.int p3), .val (.int v4), .val (.int v5), .val (.int v7), .val (.int v10), .val (.int v13), .val (.int v16), .val (.int v19), .val (.int v22), .val (.ref b24), .val (.ref b30), .val (.ref b37), .unset, .unset, .unset, .unset] [(.ref b45), (.ref b45), (.ref b44), (.ref b44)]))
  refine Go.step (fun t k => XS.iconst X45.here hx rfl (hb hby at_191)  k) ?_
  show Go p e below _ (T45.setTop (mkF m 192 #[.val (.int p1), .val (.int p2), .val (.int p3), .val (.int v4), .val (.int v5), .val (.int v7), .val (.int v10), .val (.int v13), .val (.int v16), .val (.int v19), .val (.int v22), .val (.ref b24), .val (.ref b30), .val (.ref b37), .unset, .unset, .unset, .unset] [(.int (2 : Int32)), (.ref b45), (.ref b45), (.ref b44), (.ref b44)]))
  obtain ⟨T46, h46, k46, X46, e46, E46, A46, st46⟩ := newP X45 hx hZ (hw _ (List.mem_of_getElem? (i := 6) rfl)) e45 (g := (mkF m 192 #[.val (.int p1), .val (.int p2), .val (.int p3), .val (.int v4), .val (.int v5), .val (.int v7), .val (.int v10), .val (.int v13), .val (.int v16), .val (.int v19), .val (.int v22), .val (.ref b24), .val (.ref b30), .val (.ref b37), .unset, .unset, .unset, .unset] [(.int (2 : Int32)), (.ref b45), (.ref b45), (.ref b44), (.ref b44)])) rfl (hb hby at_192) rfl (by decide) (cap := 2) (by decide) (by decide) (by decide) (by decide)
  obtain ⟨b46, g46⟩ : ∃ z, z = h45.size := ⟨_, rfl⟩
  rw [← g46] at A46 st46
  have g_b46 : n0 ≤ b46 := Nat.le_trans Z45 (Nat.le_of_eq g46.symm)
  have sz_b46 : h0.size ≤ b46 := Nat.le_trans KK45.1 (Nat.le_of_eq g46.symm)
  have ne_b24_b46 : b24 ≠ b46 := Nat.ne_of_lt (Nat.lt_of_lt_of_le E_b24_45.lt (Nat.le_of_eq g46.symm))
  have ne_b25_b46 : b25 ≠ b46 := Nat.ne_of_lt (Nat.lt_of_lt_of_le E_b25_45.lt (Nat.le_of_eq g46.symm))
  have ne_b28_0_b46 : b28_0 ≠ b46 := Nat.ne_of_lt (Nat.lt_of_lt_of_le A_b28_0_45.lt (Nat.le_of_eq g46.symm))
  have ne_b30_b46 : b30 ≠ b46 := Nat.ne_of_lt (Nat.lt_of_lt_of_le E_b30_45.lt (Nat.le_of_eq g46.symm))
  have ne_b31_b46 : b31 ≠ b46 := Nat.ne_of_lt (Nat.lt_of_lt_of_le E_b31_45.lt (Nat.le_of_eq g46.symm))
  have ne_b35_0_b46 : b35_0 ≠ b46 := Nat.ne_of_lt (Nat.lt_of_lt_of_le A_b35_0_45.lt (Nat.le_of_eq g46.symm))
  have ne_b37_b46 : b37 ≠ b46 := Nat.ne_of_lt (Nat.lt_of_lt_of_le E_b37_45.lt (Nat.le_of_eq g46.symm))
  have ne_b38_b46 : b38 ≠ b46 := Nat.ne_of_lt (Nat.lt_of_lt_of_le E_b38_45.lt (Nat.le_of_eq g46.symm))
  have ne_b42_0_b46 : b42_0 ≠ b46 := Nat.ne_of_lt (Nat.lt_of_lt_of_le A_b42_0_45.lt (Nat.le_of_eq g46.symm))
  have ne_b44_b46 : b44 ≠ b46 := Nat.ne_of_lt (Nat.lt_of_lt_of_le E_b44_45.lt (Nat.le_of_eq g46.symm))
  have ne_b45_b46 : b45 ≠ b46 := Nat.ne_of_lt (Nat.lt_of_lt_of_le A45.lt (Nat.le_of_eq g46.symm))
  refine Go.step st46 ?_
  have E_b24_46 := E_b24_45.ext E46
  have E_b25_46 := E_b25_45.ext E46
  have F_coder_b25_46 := F_coder_b25_45.ext E46
  have F_value_b25_46 := F_value_b25_45.ext E46
  have A_b28_0_46 := A_b28_0_45.ext E46
  have F_parent_b24_46 := F_parent_b24_45.ext E46
  have F_previous_b24_46 := F_previous_b24_45.ext E46
  have F_next_b24_46 := F_next_b24_45.ext E46
  have F_firstChild_b24_46 := F_firstChild_b24_45.ext E46
  have F_lastChild_b24_46 := F_lastChild_b24_45.ext E46
  have F_name_b24_46 := F_name_b24_45.ext E46
  have E_b30_46 := E_b30_45.ext E46
  have E_b31_46 := E_b31_45.ext E46
  have F_coder_b31_46 := F_coder_b31_45.ext E46
  have F_value_b31_46 := F_value_b31_45.ext E46
  have A_b35_0_46 := A_b35_0_45.ext E46
  have F_parent_b30_46 := F_parent_b30_45.ext E46
  have F_previous_b30_46 := F_previous_b30_45.ext E46
  have F_next_b30_46 := F_next_b30_45.ext E46
  have F_firstChild_b30_46 := F_firstChild_b30_45.ext E46
  have F_lastChild_b30_46 := F_lastChild_b30_45.ext E46
  have F_name_b30_46 := F_name_b30_45.ext E46
  have E_b37_46 := E_b37_45.ext E46
  have E_b38_46 := E_b38_45.ext E46
  have F_coder_b38_46 := F_coder_b38_45.ext E46
  have F_value_b38_46 := F_value_b38_45.ext E46
  have A_b42_0_46 := A_b42_0_45.ext E46
  have F_parent_b37_46 := F_parent_b37_45.ext E46
  have F_previous_b37_46 := F_previous_b37_45.ext E46
  have F_next_b37_46 := F_next_b37_45.ext E46
  have F_firstChild_b37_46 := F_firstChild_b37_45.ext E46
  have F_lastChild_b37_46 := F_lastChild_b37_45.ext E46
  have F_name_b37_46 := F_name_b37_45.ext E46
  have E_b44_46 := E_b44_45.ext E46
  have F_attributes_b44_46 := F_attributes_b44_45.ext E46
  have F_texts_b44_46 := F_texts_b44_45.ext E46
  have F_name_b44_46 := F_name_b44_45.ext E46
  have F_lastChild_b44_46 := F_lastChild_b44_45.ext E46
  have F_parent_b44_46 := F_parent_b44_45.ext E46
  have F_previous_b44_46 := F_previous_b44_45.ext E46
  have F_firstChild_b44_46 := F_firstChild_b44_45.ext E46
  have F_next_b44_46 := F_next_b44_45.ext E46
  have E_b45_46 := A45.ext E46
  have F_coder_b45_46 := F_coder_b45.ext E46
  have F_value_b45_46 := F_value_b45.ext E46
  have O46 := O45.ext E46
  have Z46 := Nat.le_trans Z45 E46.1
  have KK46 : Keep h0 h46 [] := KK45.ext E46
  clear E_b24_45 E_b25_45 F_coder_b25_45 F_value_b25_45 A_b28_0_45 F_parent_b24_45 F_previous_b24_45 F_next_b24_45 F_firstChild_b24_45 F_lastChild_b24_45 F_name_b24_45 E_b30_45 E_b31_45 F_coder_b31_45 F_value_b31_45 A_b35_0_45 F_parent_b30_45 F_previous_b30_45 F_next_b30_45 F_firstChild_b30_45 F_lastChild_b30_45 F_name_b30_45 E_b37_45 E_b38_45 F_coder_b38_45 F_value_b38_45 A_b42_0_45 F_parent_b37_45 F_previous_b37_45 F_next_b37_45 F_firstChild_b37_45 F_lastChild_b37_45 F_name_b37_45 E_b44_45 F_attributes_b44_45 F_texts_b44_45 F_name_b44_45 F_lastChild_b44_45 F_parent_b44_45 F_previous_b44_45 F_firstChild_b44_45 F_next_b44_45 A45 F_coder_b45 F_value_b45 O45 Z45 KK45 E46
  have A_b46_46 : Ary Z h46 b46 .char 2 (fun i => .int ((fun _ => (0 : Int32)) i)) := Ary.mk A46 (by decide) (by decide)
  replace X46 : Stand p l e room_1 s m #[(.int p1), (.int p2), (.int p3)] below meth c T46 _ 21 78 := X46
  show Go p e below _ (T46.setTop (mkF m 194 #[.val (.int p1), .val (.int p2), .val (.int p3), .val (.int v4), .val (.int v5), .val (.int v7), .val (.int v10), .val (.int v13), .val (.int v16), .val (.int v19), .val (.int v22), .val (.ref b24), .val (.ref b30), .val (.ref b37), .unset, .unset, .unset, .unset] [(.ref b46), (.ref b45), (.ref b45), (.ref b44), (.ref b44)]))
  refine Go.step (fun t k => XS.dup X46.here hx rfl (hb hby at_194) rfl rfl k) ?_
  show Go p e below _ (T46.setTop (mkF m 195 #[.val (.int p1), .val (.int p2), .val (.int p3), .val (.int v4), .val (.int v5), .val (.int v7), .val (.int v10), .val (.int v13), .val (.int v16), .val (.int v19), .val (.int v22), .val (.ref b24), .val (.ref b30), .val (.ref b37), .unset, .unset, .unset, .unset] [(.ref b46), (.ref b46), (.ref b45), (.ref b45), (.ref b44), (.ref b44)]))
  refine Go.step (fun t k => XS.iconst X46.here hx rfl (hb hby at_195)  k) ?_
  show Go p e below _ (T46.setTop (mkF m 196 #[.val (.int p1), .val (.int p2), .val (.int p3), .val (.int v4), .val (.int v5), .val (.int v7), .val (.int v10), .val (.int v13), .val (.int v16), .val (.int v19), .val (.int v22), .val (.ref b24), .val (.ref b30), .val (.ref b37), .unset, .unset, .unset, .unset] [(.int (0 : Int32)), (.ref b46), (.ref b46), (.ref b45), (.ref b45), (.ref b44), (.ref b44)]))
  refine Go.step (fun t k => XS.iload X46.here hx rfl (hb hby at_196) rfl k) ?_
  show Go p e below _ (T46.setTop (mkF m 198 #[.val (.int p1), .val (.int p2), .val (.int p3), .val (.int v4), .val (.int v5), .val (.int v7), .val (.int v10), .val (.int v13), .val (.int v16), .val (.int v19), .val (.int v22), .val (.ref b24), .val (.ref b30), .val (.ref b37), .unset, .unset, .unset, .unset] [(.int v19), (.int (0 : Int32)), (.ref b46), (.ref b46), (.ref b45), (.ref b45), (.ref b44), (.ref b44)]))
  obtain ⟨cl47, Ar47, in47, -⟩ := A_b46_46.hin (j := (0 : Int32)) (by decide) (by decide)
  obtain ⟨T47, h47, X47, e47, W47, st47⟩ := stC X46 hx hZ e46 Ar47 in47 (g := (mkF m 198 #[.val (.int p1), .val (.int p2), .val (.int p3), .val (.int v4), .val (.int v5), .val (.int v7), .val (.int v10), .val (.int v13), .val (.int v16), .val (.int v19), .val (.int v22), .val (.ref b24), .val (.ref b30), .val (.ref b37), .unset, .unset, .unset, .unset] [(.int v19), (.int (0 : Int32)), (.ref b46), (.ref b46), (.ref b45), (.ref b45), (.ref b44), (.ref b44)])) rfl rfl (hb hby at_198)
  refine Go.step st47 ?_
  have N47 := Fr.snoc X47 N43 g_b46
  have E_b24_47 := E_b24_46.wr W47
  have E_b25_47 := E_b25_46.wr W47
  have F_coder_b25_47 := F_coder_b25_46.other W47 (Or.inl ne_b25_b46)
  have F_value_b25_47 := F_value_b25_46.other W47 (Or.inl ne_b25_b46)
  have A_b28_0_47 := A_b28_0_46.other W47 ne_b28_0_b46
  have F_parent_b24_47 := F_parent_b24_46.other W47 (Or.inl ne_b24_b46)
  have F_previous_b24_47 := F_previous_b24_46.other W47 (Or.inl ne_b24_b46)
  have F_next_b24_47 := F_next_b24_46.other W47 (Or.inl ne_b24_b46)
  have F_firstChild_b24_47 := F_firstChild_b24_46.other W47 (Or.inl ne_b24_b46)
  have F_lastChild_b24_47 := F_lastChild_b24_46.other W47 (Or.inl ne_b24_b46)
  have F_name_b24_47 := F_name_b24_46.other W47 (Or.inl ne_b24_b46)
  have E_b30_47 := E_b30_46.wr W47
  have E_b31_47 := E_b31_46.wr W47
  have F_coder_b31_47 := F_coder_b31_46.other W47 (Or.inl ne_b31_b46)
  have F_value_b31_47 := F_value_b31_46.other W47 (Or.inl ne_b31_b46)
  have A_b35_0_47 := A_b35_0_46.other W47 ne_b35_0_b46
  have F_parent_b30_47 := F_parent_b30_46.other W47 (Or.inl ne_b30_b46)
  have F_previous_b30_47 := F_previous_b30_46.other W47 (Or.inl ne_b30_b46)
  have F_next_b30_47 := F_next_b30_46.other W47 (Or.inl ne_b30_b46)
  have F_firstChild_b30_47 := F_firstChild_b30_46.other W47 (Or.inl ne_b30_b46)
  have F_lastChild_b30_47 := F_lastChild_b30_46.other W47 (Or.inl ne_b30_b46)
  have F_name_b30_47 := F_name_b30_46.other W47 (Or.inl ne_b30_b46)
  have E_b37_47 := E_b37_46.wr W47
  have E_b38_47 := E_b38_46.wr W47
  have F_coder_b38_47 := F_coder_b38_46.other W47 (Or.inl ne_b38_b46)
  have F_value_b38_47 := F_value_b38_46.other W47 (Or.inl ne_b38_b46)
  have A_b42_0_47 := A_b42_0_46.other W47 ne_b42_0_b46
  have F_parent_b37_47 := F_parent_b37_46.other W47 (Or.inl ne_b37_b46)
  have F_previous_b37_47 := F_previous_b37_46.other W47 (Or.inl ne_b37_b46)
  have F_next_b37_47 := F_next_b37_46.other W47 (Or.inl ne_b37_b46)
  have F_firstChild_b37_47 := F_firstChild_b37_46.other W47 (Or.inl ne_b37_b46)
  have F_lastChild_b37_47 := F_lastChild_b37_46.other W47 (Or.inl ne_b37_b46)
  have F_name_b37_47 := F_name_b37_46.other W47 (Or.inl ne_b37_b46)
  have E_b44_47 := E_b44_46.wr W47
  have F_attributes_b44_47 := F_attributes_b44_46.other W47 (Or.inl ne_b44_b46)
  have F_texts_b44_47 := F_texts_b44_46.other W47 (Or.inl ne_b44_b46)
  have F_name_b44_47 := F_name_b44_46.other W47 (Or.inl ne_b44_b46)
  have F_lastChild_b44_47 := F_lastChild_b44_46.other W47 (Or.inl ne_b44_b46)
  have F_parent_b44_47 := F_parent_b44_46.other W47 (Or.inl ne_b44_b46)
  have F_previous_b44_47 := F_previous_b44_46.other W47 (Or.inl ne_b44_b46)
  have F_firstChild_b44_47 := F_firstChild_b44_46.other W47 (Or.inl ne_b44_b46)
  have F_next_b44_47 := F_next_b44_46.other W47 (Or.inl ne_b44_b46)
  have E_b45_47 := E_b45_46.wr W47
  have F_coder_b45_47 := F_coder_b45_46.other W47 (Or.inl ne_b45_b46)
  have F_value_b45_47 := F_value_b45_46.other W47 (Or.inl ne_b45_b46)
  have O47 := O46.wr W47 g_b46
  have Z47 := Nat.le_trans Z46 (Keep.of_wr W47).1
  have KK47 : Keep h0 h47 [] := KK46.wr W47 (Or.inr sz_b46)
  clear E_b24_46 E_b25_46 F_coder_b25_46 F_value_b25_46 A_b28_0_46 F_parent_b24_46 F_previous_b24_46 F_next_b24_46 F_firstChild_b24_46 F_lastChild_b24_46 F_name_b24_46 E_b30_46 E_b31_46 F_coder_b31_46 F_value_b31_46 A_b35_0_46 F_parent_b30_46 F_previous_b30_46 F_next_b30_46 F_firstChild_b30_46 F_lastChild_b30_46 F_name_b30_46 E_b37_46 E_b38_46 F_coder_b38_46 F_value_b38_46 A_b42_0_46 F_parent_b37_46 F_previous_b37_46 F_next_b37_46 F_firstChild_b37_46 F_lastChild_b37_46 F_name_b37_46 E_b44_46 F_attributes_b44_46 F_texts_b44_46 F_name_b44_46 F_lastChild_b44_46 F_parent_b44_46 F_previous_b44_46 F_firstChild_b44_46 F_next_b44_46 E_b45_46 F_coder_b45_46 F_value_b45_46 O46 Z46 KK46
  have A_b46_47 : Ary Z h47 b46 .char 2 (fun i => .int ((upA (fun _ => (0 : Int32)) 0 (nar .char v19)) i)) := A_b46_46.setI W47 (by decide)
  show Go p e below _ (T47.setTop (mkF m 199 #[.val (.int p1), .val (.int p2), .val (.int p3), .val (.int v4), .val (.int v5), .val (.int v7), .val (.int v10), .val (.int v13), .val (.int v16), .val (.int v19), .val (.int v22), .val (.ref b24), .val (.ref b30), .val (.ref b37), .unset, .unset, .unset, .unset] [(.ref b46), (.ref b45), (.ref b45), (.ref b44), (.ref b44)]))
  refine Go.step (fun t k => XS.dup X47.here hx rfl (hb hby at_199) rfl rfl k) ?_
  show Go p e below _ (T47.setTop (mkF m 200 #[.val (.int p1), .val (.int p2), .val (.int p3), .val (.int v4), .val (.int v5), .val (.int v7), .val (.int v10), .val (.int v13), .val (.int v16), .val (.int v19), .val (.int v22), .val (.ref b24), .val (.ref b30), .val (.ref b37), .unset, .unset, .unset, .unset] [(.ref b46), (.ref b46), (.ref b45), (.ref b45), (.ref b44), (.ref b44)]))
  refine Go.step (fun t k => XS.iconst X47.here hx rfl (hb hby at_200)  k) ?_
  show Go p e below _ (T47.setTop (mkF m 201 #[.val (.int p1), .val (.int p2), .val (.int p3), .val (.int v4), .val (.int v5), .val (.int v7), .val (.int v10), .val (.int v13), .val (.int v16), .val (.int v19), .val (.int v22), .val (.ref b24), .val (.ref b30), .val (.ref b37), .unset, .unset, .unset, .unset] [(.int (1 : Int32)), (.ref b46), (.ref b46), (.ref b45), (.ref b45), (.ref b44), (.ref b44)]))
  refine Go.step (fun t k => XS.iload X47.here hx rfl (hb hby at_201) rfl k) ?_
  show Go p e below _ (T47.setTop (mkF m 203 #[.val (.int p1), .val (.int p2), .val (.int p3), .val (.int v4), .val (.int v5), .val (.int v7), .val (.int v10), .val (.int v13), .val (.int v16), .val (.int v19), .val (.int v22), .val (.ref b24), .val (.ref b30), .val (.ref b37), .unset, .unset, .unset, .unset] [(.int v22), (.int (1 : Int32)), (.ref b46), (.ref b46), (.ref b45), (.ref b45), (.ref b44), (.ref b44)]))
  obtain ⟨cl48, Ar48, in48, -⟩ := A_b46_47.hin (j := (1 : Int32)) (by decide) (by decide)
  obtain ⟨T48, h48, X48, e48, W48, st48⟩ := stC X47 hx hZ e47 Ar48 in48 (g := (mkF m 203 #[.val (.int p1), .val (.int p2), .val (.int p3), .val (.int v4), .val (.int v5), .val (.int v7), .val (.int v10), .val (.int v13), .val (.int v16), .val (.int v19), .val (.int v22), .val (.ref b24), .val (.ref b30), .val (.ref b37), .unset, .unset, .unset, .unset] [(.int v22), (.int (1 : Int32)), (.ref b46), (.ref b46), (.ref b45), (.ref b45), (.ref b44), (.ref b44)])) rfl rfl (hb hby at_203)
  refine Go.step st48 ?_
  have N48 := Fr.snoc X48 N47 g_b46
  have E_b24_48 := E_b24_47.wr W48
  have E_b25_48 := E_b25_47.wr W48
  have F_coder_b25_48 := F_coder_b25_47.other W48 (Or.inl ne_b25_b46)
  have F_value_b25_48 := F_value_b25_47.other W48 (Or.inl ne_b25_b46)
  have A_b28_0_48 := A_b28_0_47.other W48 ne_b28_0_b46
  have F_parent_b24_48 := F_parent_b24_47.other W48 (Or.inl ne_b24_b46)
  have F_previous_b24_48 := F_previous_b24_47.other W48 (Or.inl ne_b24_b46)
  have F_next_b24_48 := F_next_b24_47.other W48 (Or.inl ne_b24_b46)
  have F_firstChild_b24_48 := F_firstChild_b24_47.other W48 (Or.inl ne_b24_b46)
  have F_lastChild_b24_48 := F_lastChild_b24_47.other W48 (Or.inl ne_b24_b46)
  have F_name_b24_48 := F_name_b24_47.other W48 (Or.inl ne_b24_b46)
  have E_b30_48 := E_b30_47.wr W48
  have E_b31_48 := E_b31_47.wr W48
  have F_coder_b31_48 := F_coder_b31_47.other W48 (Or.inl ne_b31_b46)
  have F_value_b31_48 := F_value_b31_47.other W48 (Or.inl ne_b31_b46)
  have A_b35_0_48 := A_b35_0_47.other W48 ne_b35_0_b46
  have F_parent_b30_48 := F_parent_b30_47.other W48 (Or.inl ne_b30_b46)
  have F_previous_b30_48 := F_previous_b30_47.other W48 (Or.inl ne_b30_b46)
  have F_next_b30_48 := F_next_b30_47.other W48 (Or.inl ne_b30_b46)
  have F_firstChild_b30_48 := F_firstChild_b30_47.other W48 (Or.inl ne_b30_b46)
  have F_lastChild_b30_48 := F_lastChild_b30_47.other W48 (Or.inl ne_b30_b46)
  have F_name_b30_48 := F_name_b30_47.other W48 (Or.inl ne_b30_b46)
  have E_b37_48 := E_b37_47.wr W48
  have E_b38_48 := E_b38_47.wr W48
  have F_coder_b38_48 := F_coder_b38_47.other W48 (Or.inl ne_b38_b46)
  have F_value_b38_48 := F_value_b38_47.other W48 (Or.inl ne_b38_b46)
  have A_b42_0_48 := A_b42_0_47.other W48 ne_b42_0_b46
  have F_parent_b37_48 := F_parent_b37_47.other W48 (Or.inl ne_b37_b46)
  have F_previous_b37_48 := F_previous_b37_47.other W48 (Or.inl ne_b37_b46)
  have F_next_b37_48 := F_next_b37_47.other W48 (Or.inl ne_b37_b46)
  have F_firstChild_b37_48 := F_firstChild_b37_47.other W48 (Or.inl ne_b37_b46)
  have F_lastChild_b37_48 := F_lastChild_b37_47.other W48 (Or.inl ne_b37_b46)
  have F_name_b37_48 := F_name_b37_47.other W48 (Or.inl ne_b37_b46)
  have E_b44_48 := E_b44_47.wr W48
  have F_attributes_b44_48 := F_attributes_b44_47.other W48 (Or.inl ne_b44_b46)
  have F_texts_b44_48 := F_texts_b44_47.other W48 (Or.inl ne_b44_b46)
  have F_name_b44_48 := F_name_b44_47.other W48 (Or.inl ne_b44_b46)
  have F_lastChild_b44_48 := F_lastChild_b44_47.other W48 (Or.inl ne_b44_b46)
  have F_parent_b44_48 := F_parent_b44_47.other W48 (Or.inl ne_b44_b46)
  have F_previous_b44_48 := F_previous_b44_47.other W48 (Or.inl ne_b44_b46)
  have F_firstChild_b44_48 := F_firstChild_b44_47.other W48 (Or.inl ne_b44_b46)
  have F_next_b44_48 := F_next_b44_47.other W48 (Or.inl ne_b44_b46)
  have E_b45_48 := E_b45_47.wr W48
  have F_coder_b45_48 := F_coder_b45_47.other W48 (Or.inl ne_b45_b46)
  have F_value_b45_48 := F_value_b45_47.other W48 (Or.inl ne_b45_b46)
  have O48 := O47.wr W48 g_b46
  have Z48 := Nat.le_trans Z47 (Keep.of_wr W48).1
  have KK48 : Keep h0 h48 [] := KK47.wr W48 (Or.inr sz_b46)
  clear E_b24_47 E_b25_47 F_coder_b25_47 F_value_b25_47 A_b28_0_47 F_parent_b24_47 F_previous_b24_47 F_next_b24_47 F_firstChild_b24_47 F_lastChild_b24_47 F_name_b24_47 E_b30_47 E_b31_47 F_coder_b31_47 F_value_b31_47 A_b35_0_47 F_parent_b30_47 F_previous_b30_47 F_next_b30_47 F_firstChild_b30_47 F_lastChild_b30_47 F_name_b30_47 E_b37_47 E_b38_47 F_coder_b38_47 F_value_b38_47 A_b42_0_47 F_parent_b37_47 F_previous_b37_47 F_next_b37_47 F_firstChild_b37_47 F_lastChild_b37_47 F_name_b37_47 E_b44_47 F_attributes_b44_47 F_texts_b44_47 F_name_b44_47 F_lastChild_b44_47 F_parent_b44_47 F_previous_b44_47 F_firstChild_b44_47 F_next_b44_47 E_b45_47 F_coder_b45_47 F_value_b45_47 O47 Z47 KK47
  have A_b46_48 : Ary Z h48 b46 .char 2 (fun i => .int ((upA (upA (fun _ => (0 : Int32)) 0 (nar .char v19)) 1 (nar .char v22)) i)) := A_b46_47.setI W48 (by decide)
  show Go p e below _ (T48.setTop (mkF m 204 #[.val (.int p1), .val (.int p2), .val (.int p3), .val (.int v4), .val (.int v5), .val (.int v7), .val (.int v10), .val (.int v13), .val (.int v16), .val (.int v19), .val (.int v22), .val (.ref b24), .val (.ref b30), .val (.ref b37), .unset, .unset, .unset, .unset] [(.ref b46), (.ref b45), (.ref b45), (.ref b44), (.ref b44)]))
  obtain ⟨_, _, ⟨T49, L49, k49, n49⟩, -, X49, ⟨Lc49, hQ49, l49, y49, z49⟩, st49⟩ := X48.specialBack hx (y := (⟨"java/lang/String", "<init>", "([C)V"⟩ : MethodName)) rfl hown (mvT hZ (hw _ (List.mem_of_getElem? (i := 7) rfl))) (mvT hZ (hw _ (List.mem_of_getElem? (i := 8) rfl))) (mvT hZ (hw _ (List.mem_of_getElem? (i := 9) rfl))) (by decide) (backOf (W := 3) (rm1_2 l Z a0 hw [] b45 b46 (upA (upA (fun _ => (0 : Int32)) 0 (nar .char v19)) 1 (nar .char v22)) (.int (0 : Int32)) .null wC h48 n0 Z48 A_b46_48 E_b45_48 F_coder_b45_48 F_value_b45_48 hC S_COMPACT_STRINGS O48 g_b45 (by simpa [upA, (cv19).1] using (cv19).2 : ¬ ((255 : Int32) < ((upA (upA (fun _ => (0 : Int32)) 0 (nar .char v19)) 1 (nar .char v22)) 0))) (by simpa [upA, (cv22).1] using (cv22).2 : ¬ ((255 : Int32) < ((upA (upA (fun _ => (0 : Int32)) 0 (nar .char v19)) 1 (nar .char v22)) 1))) (Ne.symm ne_b45_b46)) hZ (hw _ (List.mem_of_getElem? (i := 9) rfl)) (hw _ (List.mem_of_getElem? (i := 5) rfl)) (by decide) (by decide)) (g := (mkF m 204 #[.val (.int p1), .val (.int p2), .val (.int p3), .val (.int v4), .val (.int v5), .val (.int v7), .val (.int v10), .val (.int v13), .val (.int v16), .val (.int v19), .val (.int v22), .val (.ref b24), .val (.ref b30), .val (.ref b37), .unset, .unset, .unset, .unset] [(.ref b46), (.ref b45), (.ref b45), (.ref b44), (.ref b44)])) rfl (by rw [hml]; rfl) (Steps.refl _) (a := b45) (argsL := [(.ref b46)]) (rest := [(.ref b45), (.ref b44), (.ref b44)]) (lenOf pd_8 rfl) rfl (by show 2 * 0 + _ ≤ _; exact Nat.le_of_eq rfl) (hb hby at_204) (fun _ _ => ⟨rfl, e48, (by decide : 21 + 1 ≤ _), (by decide : 78 + 2 ≤ _)⟩)
  dsimp only [Pt.U, Pt.locs, Pt.cells, Pt.slots] at X49 l49 y49 z49 st49 hQ49
  replace y49 : k49 = 22 := y49
  replace z49 : n49 = 80 := z49
  subst y49 z49
  obtain ⟨b49_0, rfl, N49q, K49, sz49_0, Q49_0, Q49_1, Q49_2, Q49_3⟩ := hQ49
  have N49 : Fr n0 L49 := Eq.mpr (congrArg (Fr n0) l49) (Fr.app N48 N49q)
  have g_b49_0 : n0 ≤ b49_0 := Nat.le_trans Z48 sz49_0
  have sz_b49_0 : h0.size ≤ b49_0 := Nat.le_trans KK48.1 sz49_0
  have ne_b24_b49_0 : b24 ≠ b49_0 := Nat.ne_of_lt (Nat.lt_of_lt_of_le E_b24_48.lt sz49_0)
  have ne_b25_b49_0 : b25 ≠ b49_0 := Nat.ne_of_lt (Nat.lt_of_lt_of_le E_b25_48.lt sz49_0)
  have ne_b28_0_b49_0 : b28_0 ≠ b49_0 := Nat.ne_of_lt (Nat.lt_of_lt_of_le A_b28_0_48.lt sz49_0)
  have ne_b30_b49_0 : b30 ≠ b49_0 := Nat.ne_of_lt (Nat.lt_of_lt_of_le E_b30_48.lt sz49_0)
  have ne_b31_b49_0 : b31 ≠ b49_0 := Nat.ne_of_lt (Nat.lt_of_lt_of_le E_b31_48.lt sz49_0)
  have ne_b35_0_b49_0 : b35_0 ≠ b49_0 := Nat.ne_of_lt (Nat.lt_of_lt_of_le A_b35_0_48.lt sz49_0)
  have ne_b37_b49_0 : b37 ≠ b49_0 := Nat.ne_of_lt (Nat.lt_of_lt_of_le E_b37_48.lt sz49_0)
  have ne_b38_b49_0 : b38 ≠ b49_0 := Nat.ne_of_lt (Nat.lt_of_lt_of_le E_b38_48.lt sz49_0)
  have ne_b42_0_b49_0 : b42_0 ≠ b49_0 := Nat.ne_of_lt (Nat.lt_of_lt_of_le A_b42_0_48.lt sz49_0)
  have ne_b44_b49_0 : b44 ≠ b49_0 := Nat.ne_of_lt (Nat.lt_of_lt_of_le E_b44_48.lt sz49_0)
  have ne_b45_b49_0 : b45 ≠ b49_0 := Nat.ne_of_lt (Nat.lt_of_lt_of_le E_b45_48.lt sz49_0)
  have ne_b46_b49_0 : b46 ≠ b49_0 := Nat.ne_of_lt (Nat.lt_of_lt_of_le A_b46_48.lt sz49_0)
  have E_b24_49 := E_b24_48.keep K49
  have E_b25_49 := E_b25_48.keep K49
  have F_coder_b25_49 := F_coder_b25_48.keep K49 (ninS ne_b25_b45 nin0)
  have F_value_b25_49 := F_value_b25_48.keep K49 (ninS ne_b25_b45 nin0)
  have A_b28_0_49 := A_b28_0_48.keep K49 (ninS ne_b28_0_b45 nin0)
  have F_parent_b24_49 := F_parent_b24_48.keep K49 (ninS ne_b24_b45 nin0)
  have F_previous_b24_49 := F_previous_b24_48.keep K49 (ninS ne_b24_b45 nin0)
  have F_next_b24_49 := F_next_b24_48.keep K49 (ninS ne_b24_b45 nin0)
  have F_firstChild_b24_49 := F_firstChild_b24_48.keep K49 (ninS ne_b24_b45 nin0)
  have F_lastChild_b24_49 := F_lastChild_b24_48.keep K49 (ninS ne_b24_b45 nin0)
  have F_name_b24_49 := F_name_b24_48.keep K49 (ninS ne_b24_b45 nin0)
  have E_b30_49 := E_b30_48.keep K49
  have E_b31_49 := E_b31_48.keep K49
  have F_coder_b31_49 := F_coder_b31_48.keep K49 (ninS ne_b31_b45 nin0)
  have F_value_b31_49 := F_value_b31_48.keep K49 (ninS ne_b31_b45 nin0)
  have A_b35_0_49 := A_b35_0_48.keep K49 (ninS ne_b35_0_b45 nin0)
  have F_parent_b30_49 := F_parent_b30_48.keep K49 (ninS ne_b30_b45 nin0)
  have F_previous_b30_49 := F_previous_b30_48.keep K49 (ninS ne_b30_b45 nin0)
  have F_next_b30_49 := F_next_b30_48.keep K49 (ninS ne_b30_b45 nin0)
  have F_firstChild_b30_49 := F_firstChild_b30_48.keep K49 (ninS ne_b30_b45 nin0)
  have F_lastChild_b30_49 := F_lastChild_b30_48.keep K49 (ninS ne_b30_b45 nin0)
  have F_name_b30_49 := F_name_b30_48.keep K49 (ninS ne_b30_b45 nin0)
  have E_b37_49 := E_b37_48.keep K49
  have E_b38_49 := E_b38_48.keep K49
  have F_coder_b38_49 := F_coder_b38_48.keep K49 (ninS ne_b38_b45 nin0)
  have F_value_b38_49 := F_value_b38_48.keep K49 (ninS ne_b38_b45 nin0)
  have A_b42_0_49 := A_b42_0_48.keep K49 (ninS ne_b42_0_b45 nin0)
  have F_parent_b37_49 := F_parent_b37_48.keep K49 (ninS ne_b37_b45 nin0)
  have F_previous_b37_49 := F_previous_b37_48.keep K49 (ninS ne_b37_b45 nin0)
  have F_next_b37_49 := F_next_b37_48.keep K49 (ninS ne_b37_b45 nin0)
  have F_firstChild_b37_49 := F_firstChild_b37_48.keep K49 (ninS ne_b37_b45 nin0)
  have F_lastChild_b37_49 := F_lastChild_b37_48.keep K49 (ninS ne_b37_b45 nin0)
  have F_name_b37_49 := F_name_b37_48.keep K49 (ninS ne_b37_b45 nin0)
  have E_b44_49 := E_b44_48.keep K49
  have F_attributes_b44_49 := F_attributes_b44_48.keep K49 (ninS ne_b44_b45 nin0)
  have F_texts_b44_49 := F_texts_b44_48.keep K49 (ninS ne_b44_b45 nin0)
  have F_name_b44_49 := F_name_b44_48.keep K49 (ninS ne_b44_b45 nin0)
  have F_lastChild_b44_49 := F_lastChild_b44_48.keep K49 (ninS ne_b44_b45 nin0)
  have F_parent_b44_49 := F_parent_b44_48.keep K49 (ninS ne_b44_b45 nin0)
  have F_previous_b44_49 := F_previous_b44_48.keep K49 (ninS ne_b44_b45 nin0)
  have F_firstChild_b44_49 := F_firstChild_b44_48.keep K49 (ninS ne_b44_b45 nin0)
  have F_next_b44_49 := F_next_b44_48.keep K49 (ninS ne_b44_b45 nin0)
  have E_b45_49 := E_b45_48.keep K49
  have A_b46_49 := A_b46_48.keep K49 (ninS (Ne.symm ne_b45_b46) nin0)
  have O49 := O48.keep K49 (allS g_b45 all0)
  have Z49 := Nat.le_trans Z48 K49.1
  have KK49 : Keep h0 T49.heap [] := KK48.trans K49 (allS (Or.inr sz_b45) all0)
  clear E_b24_48 E_b25_48 F_coder_b25_48 F_value_b25_48 A_b28_0_48 F_parent_b24_48 F_previous_b24_48 F_next_b24_48 F_firstChild_b24_48 F_lastChild_b24_48 F_name_b24_48 E_b30_48 E_b31_48 F_coder_b31_48 F_value_b31_48 A_b35_0_48 F_parent_b30_48 F_previous_b30_48 F_next_b30_48 F_firstChild_b30_48 F_lastChild_b30_48 F_name_b30_48 E_b37_48 E_b38_48 F_coder_b38_48 F_value_b38_48 A_b42_0_48 F_parent_b37_48 F_previous_b37_48 F_next_b37_48 F_firstChild_b37_48 F_lastChild_b37_48 F_name_b37_48 E_b44_48 F_attributes_b44_48 F_texts_b44_48 F_name_b44_48 F_lastChild_b44_48 F_parent_b44_48 F_previous_b44_48 F_firstChild_b44_48 F_next_b44_48 E_b45_48 A_b46_48 O48 Z48 KK48 K49
  refine Go.trans st49 ?_
  show Go p e below _ (T49.setTop (mkF m 207 #[.val (.int p1), .val (.int p2), .val (.int p3), .val (.int v4), .val (.int v5), .val (.int v7), .val (.int v10), .val (.int v13), .val (.int v16), .val (.int v19), .val (.int v22), .val (.ref b24), .val (.ref b30), .val (.ref b37), .unset, .unset, .unset, .unset] [(.ref b45), (.ref b44), (.ref b44)]))
  obtain ⟨_, _, ⟨T50, L50, k50, n50⟩, -, X50, ⟨Lc50, hQ50, l50, y50, z50⟩, st50⟩ := X49.specialBack hx (y := (⟨"com/example/dataflow_to_dispatch/dataflowtodispatch/model/document/XmlElement", "<init>", "(Ljava/lang/String;)V"⟩ : MethodName)) rfl hown (mvT hZ (hw _ (List.mem_of_getElem? (i := 33) rfl))) (mvT hZ (hw _ (List.mem_of_getElem? (i := 34) rfl))) (mvT hZ (hw _ (List.mem_of_getElem? (i := 35) rfl))) (by decide) (backOf (W := 1) (rm7 l Z a0 hw [] b44 b45 .null .null .null .null .null .null .null .null oD T49.heap n0 Z49 F_parent_b44_49 F_previous_b44_49 F_next_b44_49 F_firstChild_b44_49 F_lastChild_b44_49 O49 E_b44_49 F_attributes_b44_49 F_texts_b44_49 F_name_b44_49 S_DEFAULTCAPACITY_EMPTY_ELEMENTDATA g_b44) hZ (hw _ (List.mem_of_getElem? (i := 35) rfl)) (hw _ (List.mem_of_getElem? (i := 2) rfl)) (by decide) (by decide)) (g := (mkF m 207 #[.val (.int p1), .val (.int p2), .val (.int p3), .val (.int v4), .val (.int v5), .val (.int v7), .val (.int v10), .val (.int v13), .val (.int v16), .val (.int v19), .val (.int v22), .val (.ref b24), .val (.ref b30), .val (.ref b37), .unset, .unset, .unset, .unset] [(.ref b45), (.ref b44), (.ref b44)])) rfl (by rw [hml]; rfl) (Steps.refl _) (a := b44) (argsL := [(.ref b45)]) (rest := [(.ref b44)]) (lenOf pd_9 rfl) rfl (by show 2 * 0 + _ ≤ _; exact Nat.le_of_eq rfl) (hb hby at_207) (fun _ _ => ⟨rfl, rfl, (by decide : 22 + 2 ≤ _), (by decide : 80 + 6 ≤ _)⟩)
  dsimp only [Pt.U, Pt.locs, Pt.cells, Pt.slots] at X50 l50 y50 z50 st50 hQ50
  replace y50 : k50 = 24 := y50
  replace z50 : n50 = 86 := z50
  subst y50 z50
  obtain ⟨rfl, N50q, K50, Q50_0, Q50_1, Q50_2, Q50_3, Q50_4, Q50_5, Q50_6⟩ := hQ50
  have N50 : Fr n0 L50 := Eq.mpr (congrArg (Fr n0) l50) (Fr.app N49 N50q)
  have E_b24_50 := E_b24_49.keep K50
  have E_b25_50 := E_b25_49.keep K50
  have F_coder_b25_50 := F_coder_b25_49.keep K50 (ninS ne_b25_b44 nin0)
  have F_value_b25_50 := F_value_b25_49.keep K50 (ninS ne_b25_b44 nin0)
  have A_b28_0_50 := A_b28_0_49.keep K50 (ninS ne_b28_0_b44 nin0)
  have F_parent_b24_50 := F_parent_b24_49.keep K50 (ninS ne_b24_b44 nin0)
  have F_previous_b24_50 := F_previous_b24_49.keep K50 (ninS ne_b24_b44 nin0)
  have F_next_b24_50 := F_next_b24_49.keep K50 (ninS ne_b24_b44 nin0)
  have F_firstChild_b24_50 := F_firstChild_b24_49.keep K50 (ninS ne_b24_b44 nin0)
  have F_lastChild_b24_50 := F_lastChild_b24_49.keep K50 (ninS ne_b24_b44 nin0)
  have F_name_b24_50 := F_name_b24_49.keep K50 (ninS ne_b24_b44 nin0)
  have E_b30_50 := E_b30_49.keep K50
  have E_b31_50 := E_b31_49.keep K50
  have F_coder_b31_50 := F_coder_b31_49.keep K50 (ninS ne_b31_b44 nin0)
  have F_value_b31_50 := F_value_b31_49.keep K50 (ninS ne_b31_b44 nin0)
  have A_b35_0_50 := A_b35_0_49.keep K50 (ninS ne_b35_0_b44 nin0)
  have F_parent_b30_50 := F_parent_b30_49.keep K50 (ninS ne_b30_b44 nin0)
  have F_previous_b30_50 := F_previous_b30_49.keep K50 (ninS ne_b30_b44 nin0)
  have F_next_b30_50 := F_next_b30_49.keep K50 (ninS ne_b30_b44 nin0)
  have F_firstChild_b30_50 := F_firstChild_b30_49.keep K50 (ninS ne_b30_b44 nin0)
  have F_lastChild_b30_50 := F_lastChild_b30_49.keep K50 (ninS ne_b30_b44 nin0)
  have F_name_b30_50 := F_name_b30_49.keep K50 (ninS ne_b30_b44 nin0)
  have E_b37_50 := E_b37_49.keep K50
  have E_b38_50 := E_b38_49.keep K50
  have F_coder_b38_50 := F_coder_b38_49.keep K50 (ninS ne_b38_b44 nin0)
  have F_value_b38_50 := F_value_b38_49.keep K50 (ninS ne_b38_b44 nin0)
  have A_b42_0_50 := A_b42_0_49.keep K50 (ninS ne_b42_0_b44 nin0)
  have F_parent_b37_50 := F_parent_b37_49.keep K50 (ninS ne_b37_b44 nin0)
  have F_previous_b37_50 := F_previous_b37_49.keep K50 (ninS ne_b37_b44 nin0)
  have F_next_b37_50 := F_next_b37_49.keep K50 (ninS ne_b37_b44 nin0)
  have F_firstChild_b37_50 := F_firstChild_b37_49.keep K50 (ninS ne_b37_b44 nin0)
  have F_lastChild_b37_50 := F_lastChild_b37_49.keep K50 (ninS ne_b37_b44 nin0)
  have F_name_b37_50 := F_name_b37_49.keep K50 (ninS ne_b37_b44 nin0)
  have E_b44_50 := E_b44_49.keep K50
  have E_b45_50 := Q49_0.keep K50
  have A_b46_50 := A_b46_49.keep K50 (ninS (Ne.symm ne_b44_b46) nin0)
  have F_coder_b45_50 := Q49_1.keep K50 (ninS (Ne.symm ne_b44_b45) nin0)
  have F_value_b45_50 := Q49_2.keep K50 (ninS (Ne.symm ne_b44_b45) nin0)
  have A_b49_0_50 := Q49_3.keep K50 (ninS (Ne.symm ne_b44_b49_0) nin0)
  have O50 := O49.keep K50 (allS g_b44 all0)
  have Z50 := Nat.le_trans Z49 K50.1
  have KK50 : Keep h0 T50.heap [] := KK49.trans K50 (allS (Or.inr sz_b44) all0)
  clear E_b24_49 E_b25_49 F_coder_b25_49 F_value_b25_49 A_b28_0_49 F_parent_b24_49 F_previous_b24_49 F_next_b24_49 F_firstChild_b24_49 F_lastChild_b24_49 F_name_b24_49 E_b30_49 E_b31_49 F_coder_b31_49 F_value_b31_49 A_b35_0_49 F_parent_b30_49 F_previous_b30_49 F_next_b30_49 F_firstChild_b30_49 F_lastChild_b30_49 F_name_b30_49 E_b37_49 E_b38_49 F_coder_b38_49 F_value_b38_49 A_b42_0_49 F_parent_b37_49 F_previous_b37_49 F_next_b37_49 F_firstChild_b37_49 F_lastChild_b37_49 F_name_b37_49 E_b44_49 Q49_0 A_b46_49 Q49_1 Q49_2 Q49_3 O49 Z49 KK49 K50
  refine Go.trans st50 ?_
  show Go p e below _ (T50.setTop (mkF m 210 #[.val (.int p1), .val (.int p2), .val (.int p3), .val (.int v4), .val (.int v5), .val (.int v7), .val (.int v10), .val (.int v13), .val (.int v16), .val (.int v19), .val (.int v22), .val (.ref b24), .val (.ref b30), .val (.ref b37), .unset, .unset, .unset, .unset] [(.ref b44)]))
  show Go p e below _ (T50.setTop (mkF m 210 #[.val (.int p1), .val (.int p2), .val (.int p3), .val (.int v4), .val (.int v5), .val (.int v7), .val (.int v10), .val (.int v13), .val (.int v16), .val (.int v19), .val (.int v22), .val (.ref b24), .val (.ref b30), .val (.ref b37), .unset, .unset, .unset, .unset] [(.ref b44)]))
  refine Go.step (fun t k => XS.astore X50.here hx rfl (hb hby at_210) rfl rfl (l' := #[.val (.int p1), .val (.int p2), .val (.int p3), .val (.int v4), .val (.int v5), .val (.int v7), .val (.int v10), .val (.int v13), .val (.int v16), .val (.int v19), .val (.int v22), .val (.ref b24), .val (.ref b30), .val (.ref b37), .val (.ref b44), .unset, .unset, .unset]) rfl k) ?_
  show Go p e below _ (T50.setTop (mkF m 212 #[.val (.int p1), .val (.int p2), .val (.int p3), .val (.int v4), .val (.int v5), .val (.int v7), .val (.int v10), .val (.int v13), .val (.int v16), .val (.int v19), .val (.int v22), .val (.ref b24), .val (.ref b30), .val (.ref b37), .val (.ref b44), .unset, .unset, .unset] []))
  refine Go.step (fun t k => XS.aload X50.here hx rfl (hb hby at_212) rfl rfl k) ?_
  show Go p e below _ (T50.setTop (mkF m 214 #[.val (.int p1), .val (.int p2), .val (.int p3), .val (.int v4), .val (.int v5), .val (.int v7), .val (.int v10), .val (.int v13), .val (.int v16), .val (.int v19), .val (.int v22), .val (.ref b24), .val (.ref b30), .val (.ref b37), .val (.ref b44), .unset, .unset, .unset] [(.ref b24)]))
  refine Go.step (fun t k => XS.aload X50.here hx rfl (hb hby at_214) rfl rfl k) ?_
  show Go p e below _ (T50.setTop (mkF m 216 #[.val (.int p1), .val (.int p2), .val (.int p3), .val (.int v4), .val (.int v5), .val (.int v7), .val (.int v10), .val (.int v13), .val (.int v16), .val (.int v19), .val (.int v22), .val (.ref b24), .val (.ref b30), .val (.ref b37), .val (.ref b44), .unset, .unset, .unset] [(.ref b30), (.ref b24)]))
  obtain ⟨cq51, kq51, q51a, q51b, q51c⟩ := isOf hZ rfl E_b24_50
  obtain ⟨_, _, ⟨T51, L51, k51, n51⟩, -, X51, ⟨Lc51, hQ51, l51, y51, z51⟩, st51⟩ := X50.virtualBack hx (y := (⟨"com/example/dataflow_to_dispatch/dataflowtodispatch/model/document/XmlElement", "append", "(Lcom/example/dataflow_to_dispatch/dataflowtodispatch/model/document/XmlElement;)Lcom/example/dataflow_to_dispatch/dataflowtodispatch/model/document/XmlElement;"⟩ : MethodName)) (z := (⟨"com/example/dataflow_to_dispatch/dataflowtodispatch/model/document/XmlElement", "append", "(Lcom/example/dataflow_to_dispatch/dataflowtodispatch/model/document/XmlElement;)Lcom/example/dataflow_to_dispatch/dataflowtodispatch/model/document/XmlElement;"⟩ : MethodName)) hown (mvT hZ (hw _ (List.mem_of_getElem? (i := 67) rfl))) (mvT hZ (hw _ (List.mem_of_getElem? (i := 68) rfl))) (notFace_of_selects (args := #[]) (mvT hZ (hw _ (List.mem_of_getElem? (i := 70) rfl)))) (mvT hZ (hw _ (List.mem_of_getElem? (i := 70) rfl))) (mvT hZ (hw _ (List.mem_of_getElem? (i := 69) rfl))) (by decide) (backOf (W := 0) (rm11_n l Z a0 hw [] b24 b30 .null (.ref b31) .null .null .null T50.heap n0 Z50 E_b24_50 F_firstChild_b24_50 F_lastChild_b24_50 E_b30_50 F_name_b30_50 F_parent_b30_50 F_previous_b30_50 F_next_b30_50 g_b30 g_b24 ne_b24_b30 (Ne.symm ne_b24_b30)) hZ (hw _ (List.mem_of_getElem? (i := 71) rfl)) (hw _ (List.mem_of_getElem? (i := 2) rfl)) (by decide) (by decide)) q51a q51c (g := (mkF m 216 #[.val (.int p1), .val (.int p2), .val (.int p3), .val (.int v4), .val (.int v5), .val (.int v7), .val (.int v10), .val (.int v13), .val (.int v16), .val (.int v19), .val (.int v22), .val (.ref b24), .val (.ref b30), .val (.ref b37), .val (.ref b44), .unset, .unset, .unset] [(.ref b30), (.ref b24)])) rfl (by rw [hml]; rfl) (Steps.refl _) (argsL := [(.ref b30)]) (rest := []) (lenOf pd_10 rfl) rfl (by show 2 * 0 + _ ≤ _; exact Nat.le_of_eq rfl) (hb hby at_216) (fun _ _ => ⟨rfl, rfl, (by decide : 24 + 0 ≤ _), (by decide : 86 + 0 ≤ _)⟩)
  dsimp only [Pt.U, Pt.locs, Pt.cells, Pt.slots] at X51 l51 y51 z51 st51 hQ51
  replace y51 : k51 = 24 := y51
  replace z51 : n51 = 86 := z51
  subst y51 z51
  obtain ⟨rfl, N51q, K51, Q51_0, Q51_1, Q51_2, Q51_3, Q51_4, Q51_5, Q51_6, Q51_7⟩ := hQ51
  have N51 : Fr n0 L51 := Eq.mpr (congrArg (Fr n0) l51) (Fr.app N50 N51q)
  have E_b24_51 := E_b24_50.keep K51
  have E_b25_51 := E_b25_50.keep K51
  have F_coder_b25_51 := F_coder_b25_50.keep K51 (ninS ne_b25_b30 (ninS (Ne.symm ne_b24_b25) nin0))
  have F_value_b25_51 := F_value_b25_50.keep K51 (ninS ne_b25_b30 (ninS (Ne.symm ne_b24_b25) nin0))
  have A_b28_0_51 := A_b28_0_50.keep K51 (ninS ne_b28_0_b30 (ninS (Ne.symm ne_b24_b28_0) nin0))
  have E_b30_51 := E_b30_50.keep K51
  have E_b31_51 := E_b31_50.keep K51
  have F_coder_b31_51 := F_coder_b31_50.keep K51 (ninS (Ne.symm ne_b30_b31) (ninS (Ne.symm ne_b24_b31) nin0))
  have F_value_b31_51 := F_value_b31_50.keep K51 (ninS (Ne.symm ne_b30_b31) (ninS (Ne.symm ne_b24_b31) nin0))
  have A_b35_0_51 := A_b35_0_50.keep K51 (ninS (Ne.symm ne_b30_b35_0) (ninS (Ne.symm ne_b24_b35_0) nin0))
  have E_b37_51 := E_b37_50.keep K51
  have E_b38_51 := E_b38_50.keep K51
  have F_coder_b38_51 := F_coder_b38_50.keep K51 (ninS (Ne.symm ne_b30_b38) (ninS (Ne.symm ne_b24_b38) nin0))
  have F_value_b38_51 := F_value_b38_50.keep K51 (ninS (Ne.symm ne_b30_b38) (ninS (Ne.symm ne_b24_b38) nin0))
  have A_b42_0_51 := A_b42_0_50.keep K51 (ninS (Ne.symm ne_b30_b42_0) (ninS (Ne.symm ne_b24_b42_0) nin0))
  have F_parent_b37_51 := F_parent_b37_50.keep K51 (ninS (Ne.symm ne_b30_b37) (ninS (Ne.symm ne_b24_b37) nin0))
  have F_previous_b37_51 := F_previous_b37_50.keep K51 (ninS (Ne.symm ne_b30_b37) (ninS (Ne.symm ne_b24_b37) nin0))
  have F_next_b37_51 := F_next_b37_50.keep K51 (ninS (Ne.symm ne_b30_b37) (ninS (Ne.symm ne_b24_b37) nin0))
  have F_firstChild_b37_51 := F_firstChild_b37_50.keep K51 (ninS (Ne.symm ne_b30_b37) (ninS (Ne.symm ne_b24_b37) nin0))
  have F_lastChild_b37_51 := F_lastChild_b37_50.keep K51 (ninS (Ne.symm ne_b30_b37) (ninS (Ne.symm ne_b24_b37) nin0))
  have F_name_b37_51 := F_name_b37_50.keep K51 (ninS (Ne.symm ne_b30_b37) (ninS (Ne.symm ne_b24_b37) nin0))
  have E_b44_51 := Q50_5.keep K51
  have E_b45_51 := E_b45_50.keep K51
  have F_coder_b45_51 := F_coder_b45_50.keep K51 (ninS (Ne.symm ne_b30_b45) (ninS (Ne.symm ne_b24_b45) nin0))
  have F_value_b45_51 := F_value_b45_50.keep K51 (ninS (Ne.symm ne_b30_b45) (ninS (Ne.symm ne_b24_b45) nin0))
  have A_b49_0_51 := A_b49_0_50.keep K51 (ninS (Ne.symm ne_b30_b49_0) (ninS (Ne.symm ne_b24_b49_0) nin0))
  have F_parent_b44_51 := Q50_0.keep K51 (ninS (Ne.symm ne_b30_b44) (ninS (Ne.symm ne_b24_b44) nin0))
  have F_previous_b44_51 := Q50_1.keep K51 (ninS (Ne.symm ne_b30_b44) (ninS (Ne.symm ne_b24_b44) nin0))
  have F_next_b44_51 := Q50_2.keep K51 (ninS (Ne.symm ne_b30_b44) (ninS (Ne.symm ne_b24_b44) nin0))
  have F_firstChild_b44_51 := Q50_3.keep K51 (ninS (Ne.symm ne_b30_b44) (ninS (Ne.symm ne_b24_b44) nin0))
  have F_lastChild_b44_51 := Q50_4.keep K51 (ninS (Ne.symm ne_b30_b44) (ninS (Ne.symm ne_b24_b44) nin0))
  have F_name_b44_51 := Q50_6.keep K51 (ninS (Ne.symm ne_b30_b44) (ninS (Ne.symm ne_b24_b44) nin0))
  have O51 := O50.keep K51 (allS g_b30 (allS g_b24 all0))
  have Z51 := Nat.le_trans Z50 K51.1
  have KK51 : Keep h0 T51.heap [] := KK50.trans K51 (allS (Or.inr sz_b30) (allS (Or.inr sz_b24) all0))
  clear E_b24_50 E_b25_50 F_coder_b25_50 F_value_b25_50 A_b28_0_50 E_b30_50 E_b31_50 F_coder_b31_50 F_value_b31_50 A_b35_0_50 E_b37_50 E_b38_50 F_coder_b38_50 F_value_b38_50 A_b42_0_50 F_parent_b37_50 F_previous_b37_50 F_next_b37_50 F_firstChild_b37_50 F_lastChild_b37_50 F_name_b37_50 Q50_5 E_b45_50 F_coder_b45_50 F_value_b45_50 A_b49_0_50 Q50_0 Q50_1 Q50_2 Q50_3 Q50_4 Q50_6 O50 Z50 KK50 K51
  refine Go.trans st51 ?_
  show Go p e below _ (T51.setTop (mkF m 219 #[.val (.int p1), .val (.int p2), .val (.int p3), .val (.int v4), .val (.int v5), .val (.int v7), .val (.int v10), .val (.int v13), .val (.int v16), .val (.int v19), .val (.int v22), .val (.ref b24), .val (.ref b30), .val (.ref b37), .val (.ref b44), .unset, .unset, .unset] [(.ref b30)]))
  refine Go.step (fun t k => XS.pop X51.here hx rfl (hb hby at_219) rfl rfl k) ?_
  show Go p e below _ (T51.setTop (mkF m 220 #[.val (.int p1), .val (.int p2), .val (.int p3), .val (.int v4), .val (.int v5), .val (.int v7), .val (.int v10), .val (.int v13), .val (.int v16), .val (.int v19), .val (.int v22), .val (.ref b24), .val (.ref b30), .val (.ref b37), .val (.ref b44), .unset, .unset, .unset] []))
  refine Go.step (fun t k => XS.aload X51.here hx rfl (hb hby at_220) rfl rfl k) ?_
  show Go p e below _ (T51.setTop (mkF m 222 #[.val (.int p1), .val (.int p2), .val (.int p3), .val (.int v4), .val (.int v5), .val (.int v7), .val (.int v10), .val (.int v13), .val (.int v16), .val (.int v19), .val (.int v22), .val (.ref b24), .val (.ref b30), .val (.ref b37), .val (.ref b44), .unset, .unset, .unset] [(.ref b24)]))
  refine Go.step (fun t k => XS.aload X51.here hx rfl (hb hby at_222) rfl rfl k) ?_
  show Go p e below _ (T51.setTop (mkF m 224 #[.val (.int p1), .val (.int p2), .val (.int p3), .val (.int v4), .val (.int v5), .val (.int v7), .val (.int v10), .val (.int v13), .val (.int v16), .val (.int v19), .val (.int v22), .val (.ref b24), .val (.ref b30), .val (.ref b37), .val (.ref b44), .unset, .unset, .unset] [(.ref b37), (.ref b24)]))
  obtain ⟨cq52, kq52, q52a, q52b, q52c⟩ := isOf hZ rfl Q51_0
  obtain ⟨_, _, ⟨T52, L52, k52, n52⟩, -, X52, ⟨Lc52, hQ52, l52, y52, z52⟩, st52⟩ := X51.virtualBack hx (y := (⟨"com/example/dataflow_to_dispatch/dataflowtodispatch/model/document/XmlElement", "append", "(Lcom/example/dataflow_to_dispatch/dataflowtodispatch/model/document/XmlElement;)Lcom/example/dataflow_to_dispatch/dataflowtodispatch/model/document/XmlElement;"⟩ : MethodName)) (z := (⟨"com/example/dataflow_to_dispatch/dataflowtodispatch/model/document/XmlElement", "append", "(Lcom/example/dataflow_to_dispatch/dataflowtodispatch/model/document/XmlElement;)Lcom/example/dataflow_to_dispatch/dataflowtodispatch/model/document/XmlElement;"⟩ : MethodName)) hown (mvT hZ (hw _ (List.mem_of_getElem? (i := 67) rfl))) (mvT hZ (hw _ (List.mem_of_getElem? (i := 68) rfl))) (notFace_of_selects (args := #[]) (mvT hZ (hw _ (List.mem_of_getElem? (i := 70) rfl)))) (mvT hZ (hw _ (List.mem_of_getElem? (i := 70) rfl))) (mvT hZ (hw _ (List.mem_of_getElem? (i := 69) rfl))) (by decide) (backOf (W := 0) (rm11_r l Z a0 hw [] b24 b37 b30 (.ref b31) .null .null (.ref b38) .null .null .null T51.heap n0 Z51 Q51_2 Q51_1 Q51_4 Q51_6 Q51_7 E_b37_51 F_name_b37_51 F_parent_b37_51 F_previous_b37_51 F_next_b37_51 g_b37 g_b30 ne_b30_b37 (Ne.symm ne_b30_b37) Q51_0 ne_b24_b30 ne_b24_b37 g_b24 (Ne.symm ne_b24_b30) (Ne.symm ne_b24_b37)) hZ (hw _ (List.mem_of_getElem? (i := 71) rfl)) (hw _ (List.mem_of_getElem? (i := 2) rfl)) (by decide) (by decide)) q52a q52c (g := (mkF m 224 #[.val (.int p1), .val (.int p2), .val (.int p3), .val (.int v4), .val (.int v5), .val (.int v7), .val (.int v10), .val (.int v13), .val (.int v16), .val (.int v19), .val (.int v22), .val (.ref b24), .val (.ref b30), .val (.ref b37), .val (.ref b44), .unset, .unset, .unset] [(.ref b37), (.ref b24)])) rfl (by rw [hml]; rfl) (Steps.refl _) (argsL := [(.ref b37)]) (rest := []) (lenOf pd_10 rfl) rfl (by show 2 * 0 + _ ≤ _; exact Nat.le_of_eq rfl) (hb hby at_224) (fun _ _ => ⟨rfl, rfl, (by decide : 24 + 0 ≤ _), (by decide : 86 + 0 ≤ _)⟩)
  dsimp only [Pt.U, Pt.locs, Pt.cells, Pt.slots] at X52 l52 y52 z52 st52 hQ52
  replace y52 : k52 = 24 := y52
  replace z52 : n52 = 86 := z52
  subst y52 z52
  obtain ⟨rfl, N52q, K52, Q52_0, Q52_1, Q52_2, Q52_3, Q52_4, Q52_5, Q52_6, Q52_7, Q52_8, Q52_9, Q52_10⟩ := hQ52
  have N52 : Fr n0 L52 := Eq.mpr (congrArg (Fr n0) l52) (Fr.app N51 N52q)
  have E_b24_52 := Q51_0.keep K52
  have E_b25_52 := E_b25_51.keep K52
  have F_coder_b25_52 := F_coder_b25_51.keep K52 (ninS ne_b25_b37 (ninS ne_b25_b30 (ninS (Ne.symm ne_b24_b25) nin0)))
  have F_value_b25_52 := F_value_b25_51.keep K52 (ninS ne_b25_b37 (ninS ne_b25_b30 (ninS (Ne.symm ne_b24_b25) nin0)))
  have A_b28_0_52 := A_b28_0_51.keep K52 (ninS ne_b28_0_b37 (ninS ne_b28_0_b30 (ninS (Ne.symm ne_b24_b28_0) nin0)))
  have E_b30_52 := Q51_1.keep K52
  have E_b31_52 := E_b31_51.keep K52
  have F_coder_b31_52 := F_coder_b31_51.keep K52 (ninS ne_b31_b37 (ninS (Ne.symm ne_b30_b31) (ninS (Ne.symm ne_b24_b31) nin0)))
  have F_value_b31_52 := F_value_b31_51.keep K52 (ninS ne_b31_b37 (ninS (Ne.symm ne_b30_b31) (ninS (Ne.symm ne_b24_b31) nin0)))
  have A_b35_0_52 := A_b35_0_51.keep K52 (ninS ne_b35_0_b37 (ninS (Ne.symm ne_b30_b35_0) (ninS (Ne.symm ne_b24_b35_0) nin0)))
  have E_b37_52 := E_b37_51.keep K52
  have E_b38_52 := E_b38_51.keep K52
  have F_coder_b38_52 := F_coder_b38_51.keep K52 (ninS (Ne.symm ne_b37_b38) (ninS (Ne.symm ne_b30_b38) (ninS (Ne.symm ne_b24_b38) nin0)))
  have F_value_b38_52 := F_value_b38_51.keep K52 (ninS (Ne.symm ne_b37_b38) (ninS (Ne.symm ne_b30_b38) (ninS (Ne.symm ne_b24_b38) nin0)))
  have A_b42_0_52 := A_b42_0_51.keep K52 (ninS (Ne.symm ne_b37_b42_0) (ninS (Ne.symm ne_b30_b42_0) (ninS (Ne.symm ne_b24_b42_0) nin0)))
  have E_b44_52 := E_b44_51.keep K52
  have E_b45_52 := E_b45_51.keep K52
  have F_coder_b45_52 := F_coder_b45_51.keep K52 (ninS (Ne.symm ne_b37_b45) (ninS (Ne.symm ne_b30_b45) (ninS (Ne.symm ne_b24_b45) nin0)))
  have F_value_b45_52 := F_value_b45_51.keep K52 (ninS (Ne.symm ne_b37_b45) (ninS (Ne.symm ne_b30_b45) (ninS (Ne.symm ne_b24_b45) nin0)))
  have A_b49_0_52 := A_b49_0_51.keep K52 (ninS (Ne.symm ne_b37_b49_0) (ninS (Ne.symm ne_b30_b49_0) (ninS (Ne.symm ne_b24_b49_0) nin0)))
  have F_parent_b44_52 := F_parent_b44_51.keep K52 (ninS (Ne.symm ne_b37_b44) (ninS (Ne.symm ne_b30_b44) (ninS (Ne.symm ne_b24_b44) nin0)))
  have F_previous_b44_52 := F_previous_b44_51.keep K52 (ninS (Ne.symm ne_b37_b44) (ninS (Ne.symm ne_b30_b44) (ninS (Ne.symm ne_b24_b44) nin0)))
  have F_next_b44_52 := F_next_b44_51.keep K52 (ninS (Ne.symm ne_b37_b44) (ninS (Ne.symm ne_b30_b44) (ninS (Ne.symm ne_b24_b44) nin0)))
  have F_firstChild_b44_52 := F_firstChild_b44_51.keep K52 (ninS (Ne.symm ne_b37_b44) (ninS (Ne.symm ne_b30_b44) (ninS (Ne.symm ne_b24_b44) nin0)))
  have F_lastChild_b44_52 := F_lastChild_b44_51.keep K52 (ninS (Ne.symm ne_b37_b44) (ninS (Ne.symm ne_b30_b44) (ninS (Ne.symm ne_b24_b44) nin0)))
  have F_name_b44_52 := F_name_b44_51.keep K52 (ninS (Ne.symm ne_b37_b44) (ninS (Ne.symm ne_b30_b44) (ninS (Ne.symm ne_b24_b44) nin0)))
  have O52 := O51.keep K52 (allS g_b37 (allS g_b30 (allS g_b24 all0)))
  have Z52 := Nat.le_trans Z51 K52.1
  have KK52 : Keep h0 T52.heap [] := KK51.trans K52 (allS (Or.inr sz_b37) (allS (Or.inr sz_b30) (allS (Or.inr sz_b24) all0)))
  clear Q51_0 E_b25_51 F_coder_b25_51 F_value_b25_51 A_b28_0_51 Q51_1 E_b31_51 F_coder_b31_51 F_value_b31_51 A_b35_0_51 E_b37_51 E_b38_51 F_coder_b38_51 F_value_b38_51 A_b42_0_51 E_b44_51 E_b45_51 F_coder_b45_51 F_value_b45_51 A_b49_0_51 F_parent_b44_51 F_previous_b44_51 F_next_b44_51 F_firstChild_b44_51 F_lastChild_b44_51 F_name_b44_51 O51 Z51 KK51 K52
  refine Go.trans st52 ?_
  show Go p e below _ (T52.setTop (mkF m 227 #[.val (.int p1), .val (.int p2), .val (.int p3), .val (.int v4), .val (.int v5), .val (.int v7), .val (.int v10), .val (.int v13), .val (.int v16), .val (.int v19), .val (.int v22), .val (.ref b24), .val (.ref b30), .val (.ref b37), .val (.ref b44), .unset, .unset, .unset] [(.ref b37)]))
  refine Go.step (fun t k => XS.pop X52.here hx rfl (hb hby at_227) rfl rfl k) ?_
  show Go p e below _ (T52.setTop (mkF m 228 #[.val (.int p1), .val (.int p2), .val (.int p3), .val (.int v4), .val (.int v5), .val (.int v7), .val (.int v10), .val (.int v13), .val (.int v16), .val (.int v19), .val (.int v22), .val (.ref b24), .val (.ref b30), .val (.ref b37), .val (.ref b44), .unset, .unset, .unset] []))
  refine Go.step (fun t k => XS.aload X52.here hx rfl (hb hby at_228) rfl rfl k) ?_
  show Go p e below _ (T52.setTop (mkF m 230 #[.val (.int p1), .val (.int p2), .val (.int p3), .val (.int v4), .val (.int v5), .val (.int v7), .val (.int v10), .val (.int v13), .val (.int v16), .val (.int v19), .val (.int v22), .val (.ref b24), .val (.ref b30), .val (.ref b37), .val (.ref b44), .unset, .unset, .unset] [(.ref b24)]))
  refine Go.step (fun t k => XS.aload X52.here hx rfl (hb hby at_230) rfl rfl k) ?_
  show Go p e below _ (T52.setTop (mkF m 232 #[.val (.int p1), .val (.int p2), .val (.int p3), .val (.int v4), .val (.int v5), .val (.int v7), .val (.int v10), .val (.int v13), .val (.int v16), .val (.int v19), .val (.int v22), .val (.ref b24), .val (.ref b30), .val (.ref b37), .val (.ref b44), .unset, .unset, .unset] [(.ref b44), (.ref b24)]))
  obtain ⟨cq53, kq53, q53a, q53b, q53c⟩ := isOf hZ rfl Q52_3
  obtain ⟨_, _, ⟨T53, L53, k53, n53⟩, -, X53, ⟨Lc53, hQ53, l53, y53, z53⟩, st53⟩ := X52.virtualBack hx (y := (⟨"com/example/dataflow_to_dispatch/dataflowtodispatch/model/document/XmlElement", "append", "(Lcom/example/dataflow_to_dispatch/dataflowtodispatch/model/document/XmlElement;)Lcom/example/dataflow_to_dispatch/dataflowtodispatch/model/document/XmlElement;"⟩ : MethodName)) (z := (⟨"com/example/dataflow_to_dispatch/dataflowtodispatch/model/document/XmlElement", "append", "(Lcom/example/dataflow_to_dispatch/dataflowtodispatch/model/document/XmlElement;)Lcom/example/dataflow_to_dispatch/dataflowtodispatch/model/document/XmlElement;"⟩ : MethodName)) hown (mvT hZ (hw _ (List.mem_of_getElem? (i := 67) rfl))) (mvT hZ (hw _ (List.mem_of_getElem? (i := 68) rfl))) (notFace_of_selects (args := #[]) (mvT hZ (hw _ (List.mem_of_getElem? (i := 70) rfl)))) (mvT hZ (hw _ (List.mem_of_getElem? (i := 70) rfl))) (mvT hZ (hw _ (List.mem_of_getElem? (i := 69) rfl))) (by decide) (backOf (W := 0) (rm11_r l Z a0 hw [] b24 b44 b37 (.ref b38) (.ref b30) .null (.ref b45) .null .null .null T52.heap n0 Z52 Q52_0 Q52_2 Q52_7 Q52_9 Q52_10 E_b44_52 F_name_b44_52 F_parent_b44_52 F_previous_b44_52 F_next_b44_52 g_b44 g_b37 ne_b37_b44 (Ne.symm ne_b37_b44) Q52_3 ne_b24_b37 ne_b24_b44 g_b24 (Ne.symm ne_b24_b37) (Ne.symm ne_b24_b44)) hZ (hw _ (List.mem_of_getElem? (i := 71) rfl)) (hw _ (List.mem_of_getElem? (i := 2) rfl)) (by decide) (by decide)) q53a q53c (g := (mkF m 232 #[.val (.int p1), .val (.int p2), .val (.int p3), .val (.int v4), .val (.int v5), .val (.int v7), .val (.int v10), .val (.int v13), .val (.int v16), .val (.int v19), .val (.int v22), .val (.ref b24), .val (.ref b30), .val (.ref b37), .val (.ref b44), .unset, .unset, .unset] [(.ref b44), (.ref b24)])) rfl (by rw [hml]; rfl) (Steps.refl _) (argsL := [(.ref b44)]) (rest := []) (lenOf pd_10 rfl) rfl (by show 2 * 0 + _ ≤ _; exact Nat.le_of_eq rfl) (hb hby at_232) (fun _ _ => ⟨rfl, rfl, (by decide : 24 + 0 ≤ _), (by decide : 86 + 0 ≤ _)⟩)
  dsimp only [Pt.U, Pt.locs, Pt.cells, Pt.slots] at X53 l53 y53 z53 st53 hQ53
  replace y53 : k53 = 24 := y53
  replace z53 : n53 = 86 := z53
  subst y53 z53
  obtain ⟨rfl, N53q, K53, Q53_0, Q53_1, Q53_2, Q53_3, Q53_4, Q53_5, Q53_6, Q53_7, Q53_8, Q53_9, Q53_10⟩ := hQ53
  have N53 : Fr n0 L53 := Eq.mpr (congrArg (Fr n0) l53) (Fr.app N52 N53q)
  have E_b24_53 := Q52_3.keep K53
  have E_b25_53 := E_b25_52.keep K53
  have F_coder_b25_53 := F_coder_b25_52.keep K53 (ninS ne_b25_b44 (ninS ne_b25_b37 (ninS (Ne.symm ne_b24_b25) nin0)))
  have F_value_b25_53 := F_value_b25_52.keep K53 (ninS ne_b25_b44 (ninS ne_b25_b37 (ninS (Ne.symm ne_b24_b25) nin0)))
  have A_b28_0_53 := A_b28_0_52.keep K53 (ninS ne_b28_0_b44 (ninS ne_b28_0_b37 (ninS (Ne.symm ne_b24_b28_0) nin0)))
  have E_b30_53 := Q52_1.keep K53
  have E_b31_53 := E_b31_52.keep K53
  have F_coder_b31_53 := F_coder_b31_52.keep K53 (ninS ne_b31_b44 (ninS ne_b31_b37 (ninS (Ne.symm ne_b24_b31) nin0)))
  have F_value_b31_53 := F_value_b31_52.keep K53 (ninS ne_b31_b44 (ninS ne_b31_b37 (ninS (Ne.symm ne_b24_b31) nin0)))
  have A_b35_0_53 := A_b35_0_52.keep K53 (ninS ne_b35_0_b44 (ninS ne_b35_0_b37 (ninS (Ne.symm ne_b24_b35_0) nin0)))
  have E_b37_53 := Q52_2.keep K53
  have E_b38_53 := E_b38_52.keep K53
  have F_coder_b38_53 := F_coder_b38_52.keep K53 (ninS ne_b38_b44 (ninS (Ne.symm ne_b37_b38) (ninS (Ne.symm ne_b24_b38) nin0)))
  have F_value_b38_53 := F_value_b38_52.keep K53 (ninS ne_b38_b44 (ninS (Ne.symm ne_b37_b38) (ninS (Ne.symm ne_b24_b38) nin0)))
  have A_b42_0_53 := A_b42_0_52.keep K53 (ninS ne_b42_0_b44 (ninS (Ne.symm ne_b37_b42_0) (ninS (Ne.symm ne_b24_b42_0) nin0)))
  have E_b44_53 := E_b44_52.keep K53
  have E_b45_53 := E_b45_52.keep K53
  have F_coder_b45_53 := F_coder_b45_52.keep K53 (ninS (Ne.symm ne_b44_b45) (ninS (Ne.symm ne_b37_b45) (ninS (Ne.symm ne_b24_b45) nin0)))
  have F_value_b45_53 := F_value_b45_52.keep K53 (ninS (Ne.symm ne_b44_b45) (ninS (Ne.symm ne_b37_b45) (ninS (Ne.symm ne_b24_b45) nin0)))
  have A_b49_0_53 := A_b49_0_52.keep K53 (ninS (Ne.symm ne_b44_b49_0) (ninS (Ne.symm ne_b37_b49_0) (ninS (Ne.symm ne_b24_b49_0) nin0)))
  have F_name_b30_53 := Q52_4.keep K53 (ninS ne_b30_b44 (ninS ne_b30_b37 (ninS (Ne.symm ne_b24_b30) nin0)))
  have F_previous_b30_53 := Q52_5.keep K53 (ninS ne_b30_b44 (ninS ne_b30_b37 (ninS (Ne.symm ne_b24_b30) nin0)))
  have F_next_b30_53 := Q52_6.keep K53 (ninS ne_b30_b44 (ninS ne_b30_b37 (ninS (Ne.symm ne_b24_b30) nin0)))
  have O53 := O52.keep K53 (allS g_b44 (allS g_b37 (allS g_b24 all0)))
  have Z53 := Nat.le_trans Z52 K53.1
  have KK53 : Keep h0 T53.heap [] := KK52.trans K53 (allS (Or.inr sz_b44) (allS (Or.inr sz_b37) (allS (Or.inr sz_b24) all0)))
  clear Q52_3 E_b25_52 F_coder_b25_52 F_value_b25_52 A_b28_0_52 Q52_1 E_b31_52 F_coder_b31_52 F_value_b31_52 A_b35_0_52 Q52_2 E_b38_52 F_coder_b38_52 F_value_b38_52 A_b42_0_52 E_b44_52 E_b45_52 F_coder_b45_52 F_value_b45_52 A_b49_0_52 Q52_4 Q52_5 Q52_6 O52 Z52 KK52 K53
  refine Go.trans st53 ?_
  show Go p e below _ (T53.setTop (mkF m 235 #[.val (.int p1), .val (.int p2), .val (.int p3), .val (.int v4), .val (.int v5), .val (.int v7), .val (.int v10), .val (.int v13), .val (.int v16), .val (.int v19), .val (.int v22), .val (.ref b24), .val (.ref b30), .val (.ref b37), .val (.ref b44), .unset, .unset, .unset] [(.ref b44)]))
  refine Go.step (fun t k => XS.pop X53.here hx rfl (hb hby at_235) rfl rfl k) ?_
  show Go p e below _ (T53.setTop (mkF m 236 #[.val (.int p1), .val (.int p2), .val (.int p3), .val (.int v4), .val (.int v5), .val (.int v7), .val (.int v10), .val (.int v13), .val (.int v16), .val (.int v19), .val (.int v22), .val (.ref b24), .val (.ref b30), .val (.ref b37), .val (.ref b44), .unset, .unset, .unset] []))
  refine Go.step (fun t k => XS.iconst X53.here hx rfl (hb hby at_236)  k) ?_
  show Go p e below _ (T53.setTop (mkF m 237 #[.val (.int p1), .val (.int p2), .val (.int p3), .val (.int v4), .val (.int v5), .val (.int v7), .val (.int v10), .val (.int v13), .val (.int v16), .val (.int v19), .val (.int v22), .val (.ref b24), .val (.ref b30), .val (.ref b37), .val (.ref b44), .unset, .unset, .unset] [(.int (1 : Int32))]))
  refine Go.step (fun t k => XS.istore X53.here hx rfl (hb hby at_237) rfl (l' := #[.val (.int p1), .val (.int p2), .val (.int p3), .val (.int v4), .val (.int v5), .val (.int v7), .val (.int v10), .val (.int v13), .val (.int v16), .val (.int v19), .val (.int v22), .val (.ref b24), .val (.ref b30), .val (.ref b37), .val (.ref b44), .val (.int (1 : Int32)), .unset, .unset]) rfl k) ?_
  show Go p e below _ (T53.setTop (mkF m 239 #[.val (.int p1), .val (.int p2), .val (.int p3), .val (.int v4), .val (.int v5), .val (.int v7), .val (.int v10), .val (.int v13), .val (.int v16), .val (.int v19), .val (.int v22), .val (.ref b24), .val (.ref b30), .val (.ref b37), .val (.ref b44), .val (.int (1 : Int32)), .unset, .unset] []))
  refine Go.step (fun t k => XS.iconst X53.here hx rfl (hb hby at_239)  k) ?_
  show Go p e below _ (T53.setTop (mkF m 240 #[.val (.int p1), .val (.int p2), .val (.int p3), .val (.int v4), .val (.int v5), .val (.int v7), .val (.int v10), .val (.int v13), .val (.int v16), .val (.int v19), .val (.int v22), .val (.ref b24), .val (.ref b30), .val (.ref b37), .val (.ref b44), .val (.int (1 : Int32)), .unset, .unset] [(.int (1 : Int32))]))
  refine Go.step (fun t k => XS.iload X53.here hx rfl (hb hby at_240) rfl k) ?_
  show Go p e below _ (T53.setTop (mkF m 242 #[.val (.int p1), .val (.int p2), .val (.int p3), .val (.int v4), .val (.int v5), .val (.int v7), .val (.int v10), .val (.int v13), .val (.int v16), .val (.int v19), .val (.int v22), .val (.ref b24), .val (.ref b30), .val (.ref b37), .val (.ref b44), .val (.int (1 : Int32)), .unset, .unset] [(.int v13), (.int (1 : Int32))]))
  refine Go.step (fun t k => XS.iload X53.here hx rfl (hb hby at_242) rfl k) ?_
  show Go p e below _ (T53.setTop (mkF m 244 #[.val (.int p1), .val (.int p2), .val (.int p3), .val (.int v4), .val (.int v5), .val (.int v7), .val (.int v10), .val (.int v13), .val (.int v16), .val (.int v19), .val (.int v22), .val (.ref b24), .val (.ref b30), .val (.ref b37), .val (.ref b44), .val (.int (1 : Int32)), .unset, .unset] [(.int v16), (.int v13), (.int (1 : Int32))]))
  refine Go.step (fun t k => XS.iload X53.here hx rfl (hb hby at_244) rfl k) ?_
  show Go p e below _ (T53.setTop (mkF m 246 #[.val (.int p1), .val (.int p2), .val (.int p3), .val (.int v4), .val (.int v5), .val (.int v7), .val (.int v10), .val (.int v13), .val (.int v16), .val (.int v19), .val (.int v22), .val (.ref b24), .val (.ref b30), .val (.ref b37), .val (.ref b44), .val (.int (1 : Int32)), .unset, .unset] [(.int v7), (.int v16), (.int v13), (.int (1 : Int32))]))
  refine Go.step (fun t k => XS.iload X53.here hx rfl (hb hby at_246) rfl k) ?_
  show Go p e below _ (T53.setTop (mkF m 248 #[.val (.int p1), .val (.int p2), .val (.int p3), .val (.int v4), .val (.int v5), .val (.int v7), .val (.int v10), .val (.int v13), .val (.int v16), .val (.int v19), .val (.int v22), .val (.ref b24), .val (.ref b30), .val (.ref b37), .val (.ref b44), .val (.int (1 : Int32)), .unset, .unset] [(.int v10), (.int v7), (.int v16), (.int v13), (.int (1 : Int32))]))
  obtain ⟨_, _, ⟨T54, L54, k54, n54⟩, -, X54, ⟨Lc54, hQ54, l54, y54, z54⟩, st54⟩ := Jvm.LawKit.callS X53 hx (y := (⟨"com/example/dataflow_to_dispatch/dataflowtodispatch/model/document/XmlElementPositionPinLaw", "same", "(CCCC)I"⟩ : MethodName)) hown (mvT hZ (hw _ (List.mem_of_getElem? (i := 86) rfl))) (mvT hZ (hw _ (List.mem_of_getElem? (i := 87) rfl))) (mvT hZ (hw _ (List.mem_of_getElem? (i := 88) rfl))) (mvT hZ (hw _ (List.mem_of_getElem? (i := 89) rfl))) (by decide) (backOf (W := 1) (rm13 l Z a0 hw [] v13 v16 v7 v10 T53.heap n0 Z53) hZ (hw _ (List.mem_of_getElem? (i := 89) rfl)) (hw _ (List.mem_of_getElem? (i := 88) rfl)) (by decide) (by decide)) (g := (mkF m 248 #[.val (.int p1), .val (.int p2), .val (.int p3), .val (.int v4), .val (.int v5), .val (.int v7), .val (.int v10), .val (.int v13), .val (.int v16), .val (.int v19), .val (.int v22), .val (.ref b24), .val (.ref b30), .val (.ref b37), .val (.ref b44), .val (.int (1 : Int32)), .unset, .unset] [(.int v10), (.int v7), (.int v16), (.int v13), (.int (1 : Int32))])) rfl (by rw [hml]; rfl) (argsL := [(.int v13), (.int v16), (.int v7), (.int v10)]) (rest := [(.int (1 : Int32))]) (lenOf pd_11 rfl) rfl (by show 2 * 0 + _ ≤ _; exact Nat.le_of_eq rfl) (hb hby at_248) (fun _ _ => ⟨rfl, rfl, (by decide : 24 + 0 ≤ _), (by decide : 86 + 0 ≤ _)⟩)
  dsimp only [Pt.U, Pt.locs, Pt.cells, Pt.slots] at X54 l54 y54 z54 st54 hQ54
  replace y54 : k54 = 24 := y54
  replace z54 : n54 = 86 := z54
  subst y54 z54
  obtain ⟨rfl, N54q, e54⟩ := hQ54
  have N54 : Fr n0 L54 := Eq.mpr (congrArg (Fr n0) l54) (Fr.app N53 N54q)
  refine Go.step st54 ?_
  show Go p e below _ (T54.setTop (mkF m 251 #[.val (.int p1), .val (.int p2), .val (.int p3), .val (.int v4), .val (.int v5), .val (.int v7), .val (.int v10), .val (.int v13), .val (.int v16), .val (.int v19), .val (.int v22), .val (.ref b24), .val (.ref b30), .val (.ref b37), .val (.ref b44), .val (.int (1 : Int32)), .unset, .unset] [(.int (f13 v13 v16 v7 v10)), (.int (1 : Int32))]))
  refine Go.step (fun t k => XS.iadd X54.here hx rfl (hb hby at_251) rfl k) ?_
  show Go p e below _ (T54.setTop (mkF m 252 #[.val (.int p1), .val (.int p2), .val (.int p3), .val (.int v4), .val (.int v5), .val (.int v7), .val (.int v10), .val (.int v13), .val (.int v16), .val (.int v19), .val (.int v22), .val (.ref b24), .val (.ref b30), .val (.ref b37), .val (.ref b44), .val (.int (1 : Int32)), .unset, .unset] [(.int ((1 : Int32) + (f13 v13 v16 v7 v10)))]))
  refine nameIt (fun zz : Int32 => Go p e below _ (T54.setTop (mkF m 252 #[.val (.int p1), .val (.int p2), .val (.int p3), .val (.int v4), .val (.int v5), .val (.int v7), .val (.int v10), .val (.int v13), .val (.int v16), .val (.int v19), .val (.int v22), .val (.ref b24), .val (.ref b30), .val (.ref b37), .val (.ref b44), .val (.int (1 : Int32)), .unset, .unset] [(.int zz)]))) ((1 : Int32) + (f13 v13 v16 v7 v10)) ?_
  intro v55 hv55
  show Go p e below _ (T54.setTop (mkF m 252 #[.val (.int p1), .val (.int p2), .val (.int p3), .val (.int v4), .val (.int v5), .val (.int v7), .val (.int v10), .val (.int v13), .val (.int v16), .val (.int v19), .val (.int v22), .val (.ref b24), .val (.ref b30), .val (.ref b37), .val (.ref b44), .val (.int (1 : Int32)), .unset, .unset] [(.int v55)]))
  refine Go.step (fun t k => XS.istore X54.here hx rfl (hb hby at_252) rfl (l' := #[.val (.int p1), .val (.int p2), .val (.int p3), .val (.int v4), .val (.int v5), .val (.int v7), .val (.int v10), .val (.int v13), .val (.int v16), .val (.int v19), .val (.int v22), .val (.ref b24), .val (.ref b30), .val (.ref b37), .val (.ref b44), .val (.int (1 : Int32)), .val (.int v55), .unset]) rfl k) ?_
  show Go p e below _ (T54.setTop (mkF m 254 #[.val (.int p1), .val (.int p2), .val (.int p3), .val (.int v4), .val (.int v5), .val (.int v7), .val (.int v10), .val (.int v13), .val (.int v16), .val (.int v19), .val (.int v22), .val (.ref b24), .val (.ref b30), .val (.ref b37), .val (.ref b44), .val (.int (1 : Int32)), .val (.int v55), .unset] []))
  refine Go.step (fun t k => XS.iconst X54.here hx rfl (hb hby at_254)  k) ?_
  show Go p e below _ (T54.setTop (mkF m 255 #[.val (.int p1), .val (.int p2), .val (.int p3), .val (.int v4), .val (.int v5), .val (.int v7), .val (.int v10), .val (.int v13), .val (.int v16), .val (.int v19), .val (.int v22), .val (.ref b24), .val (.ref b30), .val (.ref b37), .val (.ref b44), .val (.int (1 : Int32)), .val (.int v55), .unset] [(.int (1 : Int32))]))
  refine Go.step (fun t k => XS.iload X54.here hx rfl (hb hby at_255) rfl k) ?_
  show Go p e below _ (T54.setTop (mkF m 257 #[.val (.int p1), .val (.int p2), .val (.int p3), .val (.int v4), .val (.int v5), .val (.int v7), .val (.int v10), .val (.int v13), .val (.int v16), .val (.int v19), .val (.int v22), .val (.ref b24), .val (.ref b30), .val (.ref b37), .val (.ref b44), .val (.int (1 : Int32)), .val (.int v55), .unset] [(.int v19), (.int (1 : Int32))]))
  refine Go.step (fun t k => XS.iload X54.here hx rfl (hb hby at_257) rfl k) ?_
  show Go p e below _ (T54.setTop (mkF m 259 #[.val (.int p1), .val (.int p2), .val (.int p3), .val (.int v4), .val (.int v5), .val (.int v7), .val (.int v10), .val (.int v13), .val (.int v16), .val (.int v19), .val (.int v22), .val (.ref b24), .val (.ref b30), .val (.ref b37), .val (.ref b44), .val (.int (1 : Int32)), .val (.int v55), .unset] [(.int v22), (.int v19), (.int (1 : Int32))]))
  refine Go.step (fun t k => XS.iload X54.here hx rfl (hb hby at_259) rfl k) ?_
  show Go p e below _ (T54.setTop (mkF m 261 #[.val (.int p1), .val (.int p2), .val (.int p3), .val (.int v4), .val (.int v5), .val (.int v7), .val (.int v10), .val (.int v13), .val (.int v16), .val (.int v19), .val (.int v22), .val (.ref b24), .val (.ref b30), .val (.ref b37), .val (.ref b44), .val (.int (1 : Int32)), .val (.int v55), .unset] [(.int v7), (.int v22), (.int v19), (.int (1 : Int32))]))
  refine Go.step (fun t k => XS.iload X54.here hx rfl (hb hby at_261) rfl k) ?_
  show Go p e below _ (T54.setTop (mkF m 263 #[.val (.int p1), .val (.int p2), .val (.int p3), .val (.int v4), .val (.int v5), .val (.int v7), .val (.int v10), .val (.int v13), .val (.int v16), .val (.int v19), .val (.int v22), .val (.ref b24), .val (.ref b30), .val (.ref b37), .val (.ref b44), .val (.int (1 : Int32)), .val (.int v55), .unset] [(.int v10), (.int v7), (.int v22), (.int v19), (.int (1 : Int32))]))
  obtain ⟨_, _, ⟨T56, L56, k56, n56⟩, -, X56, ⟨Lc56, hQ56, l56, y56, z56⟩, st56⟩ := Jvm.LawKit.callS X54 hx (y := (⟨"com/example/dataflow_to_dispatch/dataflowtodispatch/model/document/XmlElementPositionPinLaw", "same", "(CCCC)I"⟩ : MethodName)) hown (mvT hZ (hw _ (List.mem_of_getElem? (i := 86) rfl))) (mvT hZ (hw _ (List.mem_of_getElem? (i := 87) rfl))) (mvT hZ (hw _ (List.mem_of_getElem? (i := 88) rfl))) (mvT hZ (hw _ (List.mem_of_getElem? (i := 89) rfl))) (by decide) (backOf (W := 1) (rm13 l Z a0 hw [] v19 v22 v7 v10 T53.heap n0 Z53) hZ (hw _ (List.mem_of_getElem? (i := 89) rfl)) (hw _ (List.mem_of_getElem? (i := 88) rfl)) (by decide) (by decide)) (g := (mkF m 263 #[.val (.int p1), .val (.int p2), .val (.int p3), .val (.int v4), .val (.int v5), .val (.int v7), .val (.int v10), .val (.int v13), .val (.int v16), .val (.int v19), .val (.int v22), .val (.ref b24), .val (.ref b30), .val (.ref b37), .val (.ref b44), .val (.int (1 : Int32)), .val (.int v55), .unset] [(.int v10), (.int v7), (.int v22), (.int v19), (.int (1 : Int32))])) rfl (by rw [hml]; rfl) (argsL := [(.int v19), (.int v22), (.int v7), (.int v10)]) (rest := [(.int (1 : Int32))]) (lenOf pd_11 rfl) rfl (by show 2 * 0 + _ ≤ _; exact Nat.le_of_eq rfl) (hb hby at_263) (fun _ _ => ⟨rfl, e54, (by decide : 24 + 0 ≤ _), (by decide : 86 + 0 ≤ _)⟩)
  dsimp only [Pt.U, Pt.locs, Pt.cells, Pt.slots] at X56 l56 y56 z56 st56 hQ56
  replace y56 : k56 = 24 := y56
  replace z56 : n56 = 86 := z56
  subst y56 z56
  obtain ⟨rfl, N56q, e56⟩ := hQ56
  have N56 : Fr n0 L56 := Eq.mpr (congrArg (Fr n0) l56) (Fr.app N54 N56q)
  refine Go.step st56 ?_
  show Go p e below _ (T56.setTop (mkF m 266 #[.val (.int p1), .val (.int p2), .val (.int p3), .val (.int v4), .val (.int v5), .val (.int v7), .val (.int v10), .val (.int v13), .val (.int v16), .val (.int v19), .val (.int v22), .val (.ref b24), .val (.ref b30), .val (.ref b37), .val (.ref b44), .val (.int (1 : Int32)), .val (.int v55), .unset] [(.int (f13 v19 v22 v7 v10)), (.int (1 : Int32))]))
  refine Go.step (fun t k => XS.iadd X56.here hx rfl (hb hby at_266) rfl k) ?_
  show Go p e below _ (T56.setTop (mkF m 267 #[.val (.int p1), .val (.int p2), .val (.int p3), .val (.int v4), .val (.int v5), .val (.int v7), .val (.int v10), .val (.int v13), .val (.int v16), .val (.int v19), .val (.int v22), .val (.ref b24), .val (.ref b30), .val (.ref b37), .val (.ref b44), .val (.int (1 : Int32)), .val (.int v55), .unset] [(.int ((1 : Int32) + (f13 v19 v22 v7 v10)))]))
  refine Go.step (fun t k => XS.iload X56.here hx rfl (hb hby at_267) rfl k) ?_
  show Go p e below _ (T56.setTop (mkF m 269 #[.val (.int p1), .val (.int p2), .val (.int p3), .val (.int v4), .val (.int v5), .val (.int v7), .val (.int v10), .val (.int v13), .val (.int v16), .val (.int v19), .val (.int v22), .val (.ref b24), .val (.ref b30), .val (.ref b37), .val (.ref b44), .val (.int (1 : Int32)), .val (.int v55), .unset] [(.int v19), (.int ((1 : Int32) + (f13 v19 v22 v7 v10)))]))
  refine Go.step (fun t k => XS.iload X56.here hx rfl (hb hby at_269) rfl k) ?_
  show Go p e below _ (T56.setTop (mkF m 271 #[.val (.int p1), .val (.int p2), .val (.int p3), .val (.int v4), .val (.int v5), .val (.int v7), .val (.int v10), .val (.int v13), .val (.int v16), .val (.int v19), .val (.int v22), .val (.ref b24), .val (.ref b30), .val (.ref b37), .val (.ref b44), .val (.int (1 : Int32)), .val (.int v55), .unset] [(.int v22), (.int v19), (.int ((1 : Int32) + (f13 v19 v22 v7 v10)))]))
  refine Go.step (fun t k => XS.iload X56.here hx rfl (hb hby at_271) rfl k) ?_
  show Go p e below _ (T56.setTop (mkF m 273 #[.val (.int p1), .val (.int p2), .val (.int p3), .val (.int v4), .val (.int v5), .val (.int v7), .val (.int v10), .val (.int v13), .val (.int v16), .val (.int v19), .val (.int v22), .val (.ref b24), .val (.ref b30), .val (.ref b37), .val (.ref b44), .val (.int (1 : Int32)), .val (.int v55), .unset] [(.int v13), (.int v22), (.int v19), (.int ((1 : Int32) + (f13 v19 v22 v7 v10)))]))
  refine Go.step (fun t k => XS.iload X56.here hx rfl (hb hby at_273) rfl k) ?_
  show Go p e below _ (T56.setTop (mkF m 275 #[.val (.int p1), .val (.int p2), .val (.int p3), .val (.int v4), .val (.int v5), .val (.int v7), .val (.int v10), .val (.int v13), .val (.int v16), .val (.int v19), .val (.int v22), .val (.ref b24), .val (.ref b30), .val (.ref b37), .val (.ref b44), .val (.int (1 : Int32)), .val (.int v55), .unset] [(.int v16), (.int v13), (.int v22), (.int v19), (.int ((1 : Int32) + (f13 v19 v22 v7 v10)))]))
  obtain ⟨_, _, ⟨T57, L57, k57, n57⟩, -, X57, ⟨Lc57, hQ57, l57, y57, z57⟩, st57⟩ := Jvm.LawKit.callS X56 hx (y := (⟨"com/example/dataflow_to_dispatch/dataflowtodispatch/model/document/XmlElementPositionPinLaw", "same", "(CCCC)I"⟩ : MethodName)) hown (mvT hZ (hw _ (List.mem_of_getElem? (i := 86) rfl))) (mvT hZ (hw _ (List.mem_of_getElem? (i := 87) rfl))) (mvT hZ (hw _ (List.mem_of_getElem? (i := 88) rfl))) (mvT hZ (hw _ (List.mem_of_getElem? (i := 89) rfl))) (by decide) (backOf (W := 1) (rm13 l Z a0 hw [] v19 v22 v13 v16 T53.heap n0 Z53) hZ (hw _ (List.mem_of_getElem? (i := 89) rfl)) (hw _ (List.mem_of_getElem? (i := 88) rfl)) (by decide) (by decide)) (g := (mkF m 275 #[.val (.int p1), .val (.int p2), .val (.int p3), .val (.int v4), .val (.int v5), .val (.int v7), .val (.int v10), .val (.int v13), .val (.int v16), .val (.int v19), .val (.int v22), .val (.ref b24), .val (.ref b30), .val (.ref b37), .val (.ref b44), .val (.int (1 : Int32)), .val (.int v55), .unset] [(.int v16), (.int v13), (.int v22), (.int v19), (.int ((1 : Int32) + (f13 v19 v22 v7 v10)))])) rfl (by rw [hml]; rfl) (argsL := [(.int v19), (.int v22), (.int v13), (.int v16)]) (rest := [(.int ((1 : Int32) + (f13 v19 v22 v7 v10)))]) (lenOf pd_11 rfl) rfl (by show 2 * 0 + _ ≤ _; exact Nat.le_of_eq rfl) (hb hby at_275) (fun _ _ => ⟨rfl, e56, (by decide : 24 + 0 ≤ _), (by decide : 86 + 0 ≤ _)⟩)
  dsimp only [Pt.U, Pt.locs, Pt.cells, Pt.slots] at X57 l57 y57 z57 st57 hQ57
  replace y57 : k57 = 24 := y57
  replace z57 : n57 = 86 := z57
  subst y57 z57
  obtain ⟨rfl, N57q, e57⟩ := hQ57
  have N57 : Fr n0 L57 := Eq.mpr (congrArg (Fr n0) l57) (Fr.app N56 N57q)
  refine Go.step st57 ?_
  show Go p e below _ (T57.setTop (mkF m 278 #[.val (.int p1), .val (.int p2), .val (.int p3), .val (.int v4), .val (.int v5), .val (.int v7), .val (.int v10), .val (.int v13), .val (.int v16), .val (.int v19), .val (.int v22), .val (.ref b24), .val (.ref b30), .val (.ref b37), .val (.ref b44), .val (.int (1 : Int32)), .val (.int v55), .unset] [(.int (f13 v19 v22 v13 v16)), (.int ((1 : Int32) + (f13 v19 v22 v7 v10)))]))
  refine Go.step (fun t k => XS.iadd X57.here hx rfl (hb hby at_278) rfl k) ?_
  show Go p e below _ (T57.setTop (mkF m 279 #[.val (.int p1), .val (.int p2), .val (.int p3), .val (.int v4), .val (.int v5), .val (.int v7), .val (.int v10), .val (.int v13), .val (.int v16), .val (.int v19), .val (.int v22), .val (.ref b24), .val (.ref b30), .val (.ref b37), .val (.ref b44), .val (.int (1 : Int32)), .val (.int v55), .unset] [(.int (((1 : Int32) + (f13 v19 v22 v7 v10)) + (f13 v19 v22 v13 v16)))]))
  refine nameIt (fun zz : Int32 => Go p e below _ (T57.setTop (mkF m 279 #[.val (.int p1), .val (.int p2), .val (.int p3), .val (.int v4), .val (.int v5), .val (.int v7), .val (.int v10), .val (.int v13), .val (.int v16), .val (.int v19), .val (.int v22), .val (.ref b24), .val (.ref b30), .val (.ref b37), .val (.ref b44), .val (.int (1 : Int32)), .val (.int v55), .unset] [(.int zz)]))) (((1 : Int32) + (f13 v19 v22 v7 v10)) + (f13 v19 v22 v13 v16)) ?_
  intro v58 hv58
  show Go p e below _ (T57.setTop (mkF m 279 #[.val (.int p1), .val (.int p2), .val (.int p3), .val (.int v4), .val (.int v5), .val (.int v7), .val (.int v10), .val (.int v13), .val (.int v16), .val (.int v19), .val (.int v22), .val (.ref b24), .val (.ref b30), .val (.ref b37), .val (.ref b44), .val (.int (1 : Int32)), .val (.int v55), .unset] [(.int v58)]))
  refine Go.step (fun t k => XS.istore X57.here hx rfl (hb hby at_279) rfl (l' := #[.val (.int p1), .val (.int p2), .val (.int p3), .val (.int v4), .val (.int v5), .val (.int v7), .val (.int v10), .val (.int v13), .val (.int v16), .val (.int v19), .val (.int v22), .val (.ref b24), .val (.ref b30), .val (.ref b37), .val (.ref b44), .val (.int (1 : Int32)), .val (.int v55), .val (.int v58)]) rfl k) ?_
  show Go p e below _ (T57.setTop (mkF m 281 #[.val (.int p1), .val (.int p2), .val (.int p3), .val (.int v4), .val (.int v5), .val (.int v7), .val (.int v10), .val (.int v13), .val (.int v16), .val (.int v19), .val (.int v22), .val (.ref b24), .val (.ref b30), .val (.ref b37), .val (.ref b44), .val (.int (1 : Int32)), .val (.int v55), .val (.int v58)] []))
  refine Go.step (fun t k => XS.aload X57.here hx rfl (hb hby at_281) rfl rfl k) ?_
  show Go p e below _ (T57.setTop (mkF m 283 #[.val (.int p1), .val (.int p2), .val (.int p3), .val (.int v4), .val (.int v5), .val (.int v7), .val (.int v10), .val (.int v13), .val (.int v16), .val (.int v19), .val (.int v22), .val (.ref b24), .val (.ref b30), .val (.ref b37), .val (.ref b44), .val (.int (1 : Int32)), .val (.int v55), .val (.int v58)] [(.ref b30)]))
  obtain ⟨cq59, kq59, q59a, q59b, q59c⟩ := isOf hZ e57 E_b30_53
  obtain ⟨_, _, ⟨T59, L59, k59, n59⟩, -, X59, ⟨Lc59, hQ59, l59, y59, z59⟩, st59⟩ := X57.virtualBack hx (y := (⟨"com/example/dataflow_to_dispatch/dataflowtodispatch/model/document/XmlElement", "position", "()I"⟩ : MethodName)) (z := (⟨"com/example/dataflow_to_dispatch/dataflowtodispatch/model/document/XmlElement", "position", "()I"⟩ : MethodName)) hown (mvT hZ (hw _ (List.mem_of_getElem? (i := 90) rfl))) (mvT hZ (hw _ (List.mem_of_getElem? (i := 91) rfl))) (notFace_of_selects (args := #[]) (mvT hZ (hw _ (List.mem_of_getElem? (i := 93) rfl)))) (mvT hZ (hw _ (List.mem_of_getElem? (i := 93) rfl))) (mvT hZ (hw _ (List.mem_of_getElem? (i := 92) rfl))) (by decide) (backOf (W := 0) (rm14_0 l Z a0 hw [] b30 T53.heap n0 Z53 F_previous_b30_53) hZ (hw _ (List.mem_of_getElem? (i := 94) rfl)) (hw _ (List.mem_of_getElem? (i := 2) rfl)) (by decide) (by decide)) q59a q59c (g := (mkF m 283 #[.val (.int p1), .val (.int p2), .val (.int p3), .val (.int v4), .val (.int v5), .val (.int v7), .val (.int v10), .val (.int v13), .val (.int v16), .val (.int v19), .val (.int v22), .val (.ref b24), .val (.ref b30), .val (.ref b37), .val (.ref b44), .val (.int (1 : Int32)), .val (.int v55), .val (.int v58)] [(.ref b30)])) rfl (by rw [hml]; rfl) (Steps.refl _) (argsL := []) (rest := []) (lenOf pd_12 rfl) rfl (by show 2 * 0 + _ ≤ _; exact Nat.le_of_eq rfl) (hb hby at_283) (fun _ _ => ⟨rfl, e57, (by decide : 24 + 0 ≤ _), (by decide : 86 + 0 ≤ _)⟩)
  dsimp only [Pt.U, Pt.locs, Pt.cells, Pt.slots] at X59 l59 y59 z59 st59 hQ59
  replace y59 : k59 = 24 := y59
  replace z59 : n59 = 86 := z59
  subst y59 z59
  obtain ⟨rfl, N59q, e59⟩ := hQ59
  have N59 : Fr n0 L59 := Eq.mpr (congrArg (Fr n0) l59) (Fr.app N57 N59q)
  refine Go.trans st59 ?_
  show Go p e below _ (T59.setTop (mkF m 286 #[.val (.int p1), .val (.int p2), .val (.int p3), .val (.int v4), .val (.int v5), .val (.int v7), .val (.int v10), .val (.int v13), .val (.int v16), .val (.int v19), .val (.int v22), .val (.ref b24), .val (.ref b30), .val (.ref b37), .val (.ref b44), .val (.int (1 : Int32)), .val (.int v55), .val (.int v58)] [(.int f14_0)]))
  refine Go.step (fun t k => XS.iload X59.here hx rfl (hb hby at_286) rfl k) ?_
  show Go p e below _ (T59.setTop (mkF m 288 #[.val (.int p1), .val (.int p2), .val (.int p3), .val (.int v4), .val (.int v5), .val (.int v7), .val (.int v10), .val (.int v13), .val (.int v16), .val (.int v19), .val (.int v22), .val (.ref b24), .val (.ref b30), .val (.ref b37), .val (.ref b44), .val (.int (1 : Int32)), .val (.int v55), .val (.int v58)] [(.int (1 : Int32)), (.int f14_0)]))
  by_cases hc60 : f14_0 = (1 : Int32)
  · refine Go.step (fun t k => XS.icmpNo X59.here hx rfl (hb hby at_288) rfl (teq hc60).2 k) ?_
    show Go p e below _ (T59.setTop (mkF m 291 #[.val (.int p1), .val (.int p2), .val (.int p3), .val (.int v4), .val (.int v5), .val (.int v7), .val (.int v10), .val (.int v13), .val (.int v16), .val (.int v19), .val (.int v22), .val (.ref b24), .val (.ref b30), .val (.ref b37), .val (.ref b44), .val (.int (1 : Int32)), .val (.int v55), .val (.int v58)] []))
    refine Go.step (fun t k => XS.aload X59.here hx rfl (hb hby at_291) rfl rfl k) ?_
    show Go p e below _ (T59.setTop (mkF m 293 #[.val (.int p1), .val (.int p2), .val (.int p3), .val (.int v4), .val (.int v5), .val (.int v7), .val (.int v10), .val (.int v13), .val (.int v16), .val (.int v19), .val (.int v22), .val (.ref b24), .val (.ref b30), .val (.ref b37), .val (.ref b44), .val (.int (1 : Int32)), .val (.int v55), .val (.int v58)] [(.ref b37)]))
    obtain ⟨cq61, kq61, q61a, q61b, q61c⟩ := isOf hZ e59 Q53_1
    obtain ⟨_, _, ⟨T61, L61, k61, n61⟩, -, X61, ⟨Lc61, hQ61, l61, y61, z61⟩, st61⟩ := X59.virtualBack hx (y := (⟨"com/example/dataflow_to_dispatch/dataflowtodispatch/model/document/XmlElement", "position", "()I"⟩ : MethodName)) (z := (⟨"com/example/dataflow_to_dispatch/dataflowtodispatch/model/document/XmlElement", "position", "()I"⟩ : MethodName)) hown (mvT hZ (hw _ (List.mem_of_getElem? (i := 90) rfl))) (mvT hZ (hw _ (List.mem_of_getElem? (i := 91) rfl))) (notFace_of_selects (args := #[]) (mvT hZ (hw _ (List.mem_of_getElem? (i := 93) rfl)))) (mvT hZ (hw _ (List.mem_of_getElem? (i := 93) rfl))) (mvT hZ (hw _ (List.mem_of_getElem? (i := 92) rfl))) (by decide) (backOf (W := 0) (rm14_1 l Z a0 hw [] b37 b30 b38 b42_0 (upA (upA (fun _ => (0 : Int32)) 0 (nar .byte (((upA (upA (fun _ => (0 : Int32)) 0 (nar .char v13)) 1 (nar .char v16)) 0).toInt8.toInt32))) 1 (nar .byte (((upA (upA (fun _ => (0 : Int32)) 0 (nar .char v13)) 1 (nar .char v16)) 1).toInt8.toInt32))) b31 b35_0 (upA (upA (fun _ => (0 : Int32)) 0 (nar .byte (((upA (upA (fun _ => (0 : Int32)) 0 (nar .char v7)) 1 (nar .char v10)) 0).toInt8.toInt32))) 1 (nar .byte (((upA (upA (fun _ => (0 : Int32)) 0 (nar .char v7)) 1 (nar .char v10)) 1).toInt8.toInt32))) wC T53.heap n0 Z53 Q53_5 Q53_4 E_b38_53 F_coder_b38_53 F_value_b38_53 A_b42_0_53 F_name_b30_53 E_b31_53 F_coder_b31_53 F_value_b31_53 A_b35_0_53 F_previous_b30_53 hC S_COMPACT_STRINGS O53 ne_b31_b38) hZ (hw _ (List.mem_of_getElem? (i := 94) rfl)) (hw _ (List.mem_of_getElem? (i := 2) rfl)) (by decide) (by decide)) q61a q61c (g := (mkF m 293 #[.val (.int p1), .val (.int p2), .val (.int p3), .val (.int v4), .val (.int v5), .val (.int v7), .val (.int v10), .val (.int v13), .val (.int v16), .val (.int v19), .val (.int v22), .val (.ref b24), .val (.ref b30), .val (.ref b37), .val (.ref b44), .val (.int (1 : Int32)), .val (.int v55), .val (.int v58)] [(.ref b37)])) rfl (by rw [hml]; rfl) (Steps.refl _) (argsL := []) (rest := []) (lenOf pd_12 rfl) rfl (by show 2 * 0 + _ ≤ _; exact Nat.le_of_eq rfl) (hb hby at_293) (fun _ _ => ⟨rfl, e59, (by decide : 24 + 0 ≤ _), (by decide : 86 + 0 ≤ _)⟩)
    dsimp only [Pt.U, Pt.locs, Pt.cells, Pt.slots] at X61 l61 y61 z61 st61 hQ61
    replace y61 : k61 = 24 := y61
    replace z61 : n61 = 86 := z61
    subst y61 z61
    obtain ⟨rfl, N61q, e61⟩ := hQ61
    have N61 : Fr n0 L61 := Eq.mpr (congrArg (Fr n0) l61) (Fr.app N59 N61q)
    refine Go.trans st61 ?_
    show Go p e below _ (T61.setTop (mkF m 296 #[.val (.int p1), .val (.int p2), .val (.int p3), .val (.int v4), .val (.int v5), .val (.int v7), .val (.int v10), .val (.int v13), .val (.int v16), .val (.int v19), .val (.int v22), .val (.ref b24), .val (.ref b30), .val (.ref b37), .val (.ref b44), .val (.int (1 : Int32)), .val (.int v55), .val (.int v58)] [(.int (f14_1 (upA (upA (fun _ => (0 : Int32)) 0 (nar .byte (((upA (upA (fun _ => (0 : Int32)) 0 (nar .char v13)) 1 (nar .char v16)) 0).toInt8.toInt32))) 1 (nar .byte (((upA (upA (fun _ => (0 : Int32)) 0 (nar .char v13)) 1 (nar .char v16)) 1).toInt8.toInt32))) (upA (upA (fun _ => (0 : Int32)) 0 (nar .byte (((upA (upA (fun _ => (0 : Int32)) 0 (nar .char v7)) 1 (nar .char v10)) 0).toInt8.toInt32))) 1 (nar .byte (((upA (upA (fun _ => (0 : Int32)) 0 (nar .char v7)) 1 (nar .char v10)) 1).toInt8.toInt32))) wC))]))
    refine Go.step (fun t k => XS.iload X61.here hx rfl (hb hby at_296) rfl k) ?_
    show Go p e below _ (T61.setTop (mkF m 298 #[.val (.int p1), .val (.int p2), .val (.int p3), .val (.int v4), .val (.int v5), .val (.int v7), .val (.int v10), .val (.int v13), .val (.int v16), .val (.int v19), .val (.int v22), .val (.ref b24), .val (.ref b30), .val (.ref b37), .val (.ref b44), .val (.int (1 : Int32)), .val (.int v55), .val (.int v58)] [(.int v55), (.int (f14_1 (upA (upA (fun _ => (0 : Int32)) 0 (nar .byte (((upA (upA (fun _ => (0 : Int32)) 0 (nar .char v13)) 1 (nar .char v16)) 0).toInt8.toInt32))) 1 (nar .byte (((upA (upA (fun _ => (0 : Int32)) 0 (nar .char v13)) 1 (nar .char v16)) 1).toInt8.toInt32))) (upA (upA (fun _ => (0 : Int32)) 0 (nar .byte (((upA (upA (fun _ => (0 : Int32)) 0 (nar .char v7)) 1 (nar .char v10)) 0).toInt8.toInt32))) 1 (nar .byte (((upA (upA (fun _ => (0 : Int32)) 0 (nar .char v7)) 1 (nar .char v10)) 1).toInt8.toInt32))) wC))]))
    by_cases hc62 : (f14_1 (upA (upA (fun _ => (0 : Int32)) 0 (nar .byte (((upA (upA (fun _ => (0 : Int32)) 0 (nar .char v13)) 1 (nar .char v16)) 0).toInt8.toInt32))) 1 (nar .byte (((upA (upA (fun _ => (0 : Int32)) 0 (nar .char v13)) 1 (nar .char v16)) 1).toInt8.toInt32))) (upA (upA (fun _ => (0 : Int32)) 0 (nar .byte (((upA (upA (fun _ => (0 : Int32)) 0 (nar .char v7)) 1 (nar .char v10)) 0).toInt8.toInt32))) 1 (nar .byte (((upA (upA (fun _ => (0 : Int32)) 0 (nar .char v7)) 1 (nar .char v10)) 1).toInt8.toInt32))) wC) = v55
    · refine Go.step (fun t k => XS.icmpNo X61.here hx rfl (hb hby at_298) rfl (teq hc62).2 k) ?_
      show Go p e below _ (T61.setTop (mkF m 301 #[.val (.int p1), .val (.int p2), .val (.int p3), .val (.int v4), .val (.int v5), .val (.int v7), .val (.int v10), .val (.int v13), .val (.int v16), .val (.int v19), .val (.int v22), .val (.ref b24), .val (.ref b30), .val (.ref b37), .val (.ref b44), .val (.int (1 : Int32)), .val (.int v55), .val (.int v58)] []))
      refine Go.step (fun t k => XS.aload X61.here hx rfl (hb hby at_301) rfl rfl k) ?_
      show Go p e below _ (T61.setTop (mkF m 303 #[.val (.int p1), .val (.int p2), .val (.int p3), .val (.int v4), .val (.int v5), .val (.int v7), .val (.int v10), .val (.int v13), .val (.int v16), .val (.int v19), .val (.int v22), .val (.ref b24), .val (.ref b30), .val (.ref b37), .val (.ref b44), .val (.int (1 : Int32)), .val (.int v55), .val (.int v58)] [(.ref b44)]))
      obtain ⟨cq63, kq63, q63a, q63b, q63c⟩ := isOf hZ e61 Q53_2
      obtain ⟨_, _, ⟨T63, L63, k63, n63⟩, -, X63, ⟨Lc63, hQ63, l63, y63, z63⟩, st63⟩ := X61.virtualBack hx (y := (⟨"com/example/dataflow_to_dispatch/dataflowtodispatch/model/document/XmlElement", "position", "()I"⟩ : MethodName)) (z := (⟨"com/example/dataflow_to_dispatch/dataflowtodispatch/model/document/XmlElement", "position", "()I"⟩ : MethodName)) hown (mvT hZ (hw _ (List.mem_of_getElem? (i := 90) rfl))) (mvT hZ (hw _ (List.mem_of_getElem? (i := 91) rfl))) (notFace_of_selects (args := #[]) (mvT hZ (hw _ (List.mem_of_getElem? (i := 93) rfl)))) (mvT hZ (hw _ (List.mem_of_getElem? (i := 93) rfl))) (mvT hZ (hw _ (List.mem_of_getElem? (i := 92) rfl))) (by decide) (backOf (W := 0) (rm14_2 l Z a0 hw [] b44 b37 b45 b49_0 (upA (upA (fun _ => (0 : Int32)) 0 (nar .byte (((upA (upA (fun _ => (0 : Int32)) 0 (nar .char v19)) 1 (nar .char v22)) 0).toInt8.toInt32))) 1 (nar .byte (((upA (upA (fun _ => (0 : Int32)) 0 (nar .char v19)) 1 (nar .char v22)) 1).toInt8.toInt32))) b38 b42_0 (upA (upA (fun _ => (0 : Int32)) 0 (nar .byte (((upA (upA (fun _ => (0 : Int32)) 0 (nar .char v13)) 1 (nar .char v16)) 0).toInt8.toInt32))) 1 (nar .byte (((upA (upA (fun _ => (0 : Int32)) 0 (nar .char v13)) 1 (nar .char v16)) 1).toInt8.toInt32))) b30 b31 b35_0 (upA (upA (fun _ => (0 : Int32)) 0 (nar .byte (((upA (upA (fun _ => (0 : Int32)) 0 (nar .char v7)) 1 (nar .char v10)) 0).toInt8.toInt32))) 1 (nar .byte (((upA (upA (fun _ => (0 : Int32)) 0 (nar .char v7)) 1 (nar .char v10)) 1).toInt8.toInt32))) wC T53.heap n0 Z53 Q53_9 Q53_7 E_b45_53 F_coder_b45_53 F_value_b45_53 A_b49_0_53 Q53_4 E_b38_53 F_coder_b38_53 F_value_b38_53 A_b42_0_53 Q53_5 F_name_b30_53 E_b31_53 F_coder_b31_53 F_value_b31_53 A_b35_0_53 F_previous_b30_53 hC S_COMPACT_STRINGS O53 ne_b38_b45 ne_b31_b45) hZ (hw _ (List.mem_of_getElem? (i := 94) rfl)) (hw _ (List.mem_of_getElem? (i := 2) rfl)) (by decide) (by decide)) q63a q63c (g := (mkF m 303 #[.val (.int p1), .val (.int p2), .val (.int p3), .val (.int v4), .val (.int v5), .val (.int v7), .val (.int v10), .val (.int v13), .val (.int v16), .val (.int v19), .val (.int v22), .val (.ref b24), .val (.ref b30), .val (.ref b37), .val (.ref b44), .val (.int (1 : Int32)), .val (.int v55), .val (.int v58)] [(.ref b44)])) rfl (by rw [hml]; rfl) (Steps.refl _) (argsL := []) (rest := []) (lenOf pd_12 rfl) rfl (by show 2 * 0 + _ ≤ _; exact Nat.le_of_eq rfl) (hb hby at_303) (fun _ _ => ⟨rfl, e61, (by decide : 24 + 0 ≤ _), (by decide : 86 + 0 ≤ _)⟩)
      dsimp only [Pt.U, Pt.locs, Pt.cells, Pt.slots] at X63 l63 y63 z63 st63 hQ63
      replace y63 : k63 = 24 := y63
      replace z63 : n63 = 86 := z63
      subst y63 z63
      obtain ⟨rfl, N63q, e63⟩ := hQ63
      have N63 : Fr n0 L63 := Eq.mpr (congrArg (Fr n0) l63) (Fr.app N61 N63q)
      refine Go.trans st63 ?_
      show Go p e below _ (T63.setTop (mkF m 306 #[.val (.int p1), .val (.int p2), .val (.int p3), .val (.int v4), .val (.int v5), .val (.int v7), .val (.int v10), .val (.int v13), .val (.int v16), .val (.int v19), .val (.int v22), .val (.ref b24), .val (.ref b30), .val (.ref b37), .val (.ref b44), .val (.int (1 : Int32)), .val (.int v55), .val (.int v58)] [(.int (f14_2 (upA (upA (fun _ => (0 : Int32)) 0 (nar .byte (((upA (upA (fun _ => (0 : Int32)) 0 (nar .char v19)) 1 (nar .char v22)) 0).toInt8.toInt32))) 1 (nar .byte (((upA (upA (fun _ => (0 : Int32)) 0 (nar .char v19)) 1 (nar .char v22)) 1).toInt8.toInt32))) (upA (upA (fun _ => (0 : Int32)) 0 (nar .byte (((upA (upA (fun _ => (0 : Int32)) 0 (nar .char v13)) 1 (nar .char v16)) 0).toInt8.toInt32))) 1 (nar .byte (((upA (upA (fun _ => (0 : Int32)) 0 (nar .char v13)) 1 (nar .char v16)) 1).toInt8.toInt32))) (upA (upA (fun _ => (0 : Int32)) 0 (nar .byte (((upA (upA (fun _ => (0 : Int32)) 0 (nar .char v7)) 1 (nar .char v10)) 0).toInt8.toInt32))) 1 (nar .byte (((upA (upA (fun _ => (0 : Int32)) 0 (nar .char v7)) 1 (nar .char v10)) 1).toInt8.toInt32))) wC))]))
      refine Go.step (fun t k => XS.iload X63.here hx rfl (hb hby at_306) rfl k) ?_
      show Go p e below _ (T63.setTop (mkF m 308 #[.val (.int p1), .val (.int p2), .val (.int p3), .val (.int v4), .val (.int v5), .val (.int v7), .val (.int v10), .val (.int v13), .val (.int v16), .val (.int v19), .val (.int v22), .val (.ref b24), .val (.ref b30), .val (.ref b37), .val (.ref b44), .val (.int (1 : Int32)), .val (.int v55), .val (.int v58)] [(.int v58), (.int (f14_2 (upA (upA (fun _ => (0 : Int32)) 0 (nar .byte (((upA (upA (fun _ => (0 : Int32)) 0 (nar .char v19)) 1 (nar .char v22)) 0).toInt8.toInt32))) 1 (nar .byte (((upA (upA (fun _ => (0 : Int32)) 0 (nar .char v19)) 1 (nar .char v22)) 1).toInt8.toInt32))) (upA (upA (fun _ => (0 : Int32)) 0 (nar .byte (((upA (upA (fun _ => (0 : Int32)) 0 (nar .char v13)) 1 (nar .char v16)) 0).toInt8.toInt32))) 1 (nar .byte (((upA (upA (fun _ => (0 : Int32)) 0 (nar .char v13)) 1 (nar .char v16)) 1).toInt8.toInt32))) (upA (upA (fun _ => (0 : Int32)) 0 (nar .byte (((upA (upA (fun _ => (0 : Int32)) 0 (nar .char v7)) 1 (nar .char v10)) 0).toInt8.toInt32))) 1 (nar .byte (((upA (upA (fun _ => (0 : Int32)) 0 (nar .char v7)) 1 (nar .char v10)) 1).toInt8.toInt32))) wC))]))
      by_cases hc64 : (f14_2 (upA (upA (fun _ => (0 : Int32)) 0 (nar .byte (((upA (upA (fun _ => (0 : Int32)) 0 (nar .char v19)) 1 (nar .char v22)) 0).toInt8.toInt32))) 1 (nar .byte (((upA (upA (fun _ => (0 : Int32)) 0 (nar .char v19)) 1 (nar .char v22)) 1).toInt8.toInt32))) (upA (upA (fun _ => (0 : Int32)) 0 (nar .byte (((upA (upA (fun _ => (0 : Int32)) 0 (nar .char v13)) 1 (nar .char v16)) 0).toInt8.toInt32))) 1 (nar .byte (((upA (upA (fun _ => (0 : Int32)) 0 (nar .char v13)) 1 (nar .char v16)) 1).toInt8.toInt32))) (upA (upA (fun _ => (0 : Int32)) 0 (nar .byte (((upA (upA (fun _ => (0 : Int32)) 0 (nar .char v7)) 1 (nar .char v10)) 0).toInt8.toInt32))) 1 (nar .byte (((upA (upA (fun _ => (0 : Int32)) 0 (nar .char v7)) 1 (nar .char v10)) 1).toInt8.toInt32))) wC) = v58
      · refine Go.step (fun t k => XS.icmpNo X63.here hx rfl (hb hby at_308) rfl (teq hc64).2 k) ?_
        show Go p e below _ (T63.setTop (mkF m 311 #[.val (.int p1), .val (.int p2), .val (.int p3), .val (.int v4), .val (.int v5), .val (.int v7), .val (.int v10), .val (.int v13), .val (.int v16), .val (.int v19), .val (.int v22), .val (.ref b24), .val (.ref b30), .val (.ref b37), .val (.ref b44), .val (.int (1 : Int32)), .val (.int v55), .val (.int v58)] []))
        refine Go.step (fun t k => XS.iconst X63.here hx rfl (hb hby at_311)  k) ?_
        show Go p e below _ (T63.setTop (mkF m 312 #[.val (.int p1), .val (.int p2), .val (.int p3), .val (.int v4), .val (.int v5), .val (.int v7), .val (.int v10), .val (.int v13), .val (.int v16), .val (.int v19), .val (.int v22), .val (.ref b24), .val (.ref b30), .val (.ref b37), .val (.ref b44), .val (.int (1 : Int32)), .val (.int v55), .val (.int v58)] [(.int (1 : Int32))]))
        refine Go.step (fun t k => XS.goto X63.here hx rfl (pc0 := 312) (pc' := 316) rfl (hb hby at_312) (by decide) (by decide) k) ?_
        show Go p e below _ (T63.setTop (mkF m 316 #[.val (.int p1), .val (.int p2), .val (.int p3), .val (.int v4), .val (.int v5), .val (.int v7), .val (.int v10), .val (.int v13), .val (.int v16), .val (.int v19), .val (.int v22), .val (.ref b24), .val (.ref b30), .val (.ref b37), .val (.ref b44), .val (.int (1 : Int32)), .val (.int v55), .val (.int v58)] [(.int (1 : Int32))]))
        subst hv58
        subst hv55
        subst hv22
        subst hv19
        subst hv16
        subst hv13
        subst hv10
        subst hv7
        subst hv5
        subst hv4
        exact retGN X63 hx Bd.notSynchronized Bd.returns (t := .boolean) (by simp) (z' := (1 : Int32)) rfl (hb hby at_316) ⟨by first | (simp only [f0, if_pos hc60, if_pos hc62, if_pos hc64]; done) | rfl | (simp [f0, if_pos hc60, if_pos hc62, if_pos hc64]; done), N63⟩ (by decide) (by decide)
      · refine Go.step (fun t k => XS.icmpYes X63.here hx rfl (pc0 := 308) (pc' := 315) rfl (hb hby at_308) rfl (feq hc64).2 (by decide) (by decide) k) ?_
        show Go p e below _ (T63.setTop (mkF m 315 #[.val (.int p1), .val (.int p2), .val (.int p3), .val (.int v4), .val (.int v5), .val (.int v7), .val (.int v10), .val (.int v13), .val (.int v16), .val (.int v19), .val (.int v22), .val (.ref b24), .val (.ref b30), .val (.ref b37), .val (.ref b44), .val (.int (1 : Int32)), .val (.int v55), .val (.int v58)] []))
        refine Go.step (fun t k => XS.iconst X63.here hx rfl (hb hby at_315)  k) ?_
        show Go p e below _ (T63.setTop (mkF m 316 #[.val (.int p1), .val (.int p2), .val (.int p3), .val (.int v4), .val (.int v5), .val (.int v7), .val (.int v10), .val (.int v13), .val (.int v16), .val (.int v19), .val (.int v22), .val (.ref b24), .val (.ref b30), .val (.ref b37), .val (.ref b44), .val (.int (1 : Int32)), .val (.int v55), .val (.int v58)] [(.int (0 : Int32))]))
        subst hv58
        subst hv55
        subst hv22
        subst hv19
        subst hv16
        subst hv13
        subst hv10
        subst hv7
        subst hv5
        subst hv4
        exact retGN X63 hx Bd.notSynchronized Bd.returns (t := .boolean) (by simp) (z' := (0 : Int32)) rfl (hb hby at_316) ⟨by first | (simp only [f0, if_pos hc60, if_pos hc62, if_neg hc64]; done) | rfl | (simp [f0, if_pos hc60, if_pos hc62, if_neg hc64]; done), N63⟩ (by decide) (by decide)
    · refine Go.step (fun t k => XS.icmpYes X61.here hx rfl (pc0 := 298) (pc' := 315) rfl (hb hby at_298) rfl (feq hc62).2 (by decide) (by decide) k) ?_
      show Go p e below _ (T61.setTop (mkF m 315 #[.val (.int p1), .val (.int p2), .val (.int p3), .val (.int v4), .val (.int v5), .val (.int v7), .val (.int v10), .val (.int v13), .val (.int v16), .val (.int v19), .val (.int v22), .val (.ref b24), .val (.ref b30), .val (.ref b37), .val (.ref b44), .val (.int (1 : Int32)), .val (.int v55), .val (.int v58)] []))
      refine Go.step (fun t k => XS.iconst X61.here hx rfl (hb hby at_315)  k) ?_
      show Go p e below _ (T61.setTop (mkF m 316 #[.val (.int p1), .val (.int p2), .val (.int p3), .val (.int v4), .val (.int v5), .val (.int v7), .val (.int v10), .val (.int v13), .val (.int v16), .val (.int v19), .val (.int v22), .val (.ref b24), .val (.ref b30), .val (.ref b37), .val (.ref b44), .val (.int (1 : Int32)), .val (.int v55), .val (.int v58)] [(.int (0 : Int32))]))
      subst hv58
      subst hv55
      subst hv22
      subst hv19
      subst hv16
      subst hv13
      subst hv10
      subst hv7
      subst hv5
      subst hv4
      exact retGN X61 hx Bd.notSynchronized Bd.returns (t := .boolean) (by simp) (z' := (0 : Int32)) rfl (hb hby at_316) ⟨by first | (simp only [f0, if_pos hc60, if_neg hc62]; done) | rfl | (simp [f0, if_pos hc60, if_neg hc62]; done), N61⟩ (by decide) (by decide)
  · refine Go.step (fun t k => XS.icmpYes X59.here hx rfl (pc0 := 288) (pc' := 315) rfl (hb hby at_288) rfl (feq hc60).2 (by decide) (by decide) k) ?_
    show Go p e below _ (T59.setTop (mkF m 315 #[.val (.int p1), .val (.int p2), .val (.int p3), .val (.int v4), .val (.int v5), .val (.int v7), .val (.int v10), .val (.int v13), .val (.int v16), .val (.int v19), .val (.int v22), .val (.ref b24), .val (.ref b30), .val (.ref b37), .val (.ref b44), .val (.int (1 : Int32)), .val (.int v55), .val (.int v58)] []))
    refine Go.step (fun t k => XS.iconst X59.here hx rfl (hb hby at_315)  k) ?_
    show Go p e below _ (T59.setTop (mkF m 316 #[.val (.int p1), .val (.int p2), .val (.int p3), .val (.int v4), .val (.int v5), .val (.int v7), .val (.int v10), .val (.int v13), .val (.int v16), .val (.int v19), .val (.int v22), .val (.ref b24), .val (.ref b30), .val (.ref b37), .val (.ref b44), .val (.int (1 : Int32)), .val (.int v55), .val (.int v58)] [(.int (0 : Int32))]))
    subst hv58
    subst hv55
    subst hv22
    subst hv19
    subst hv16
    subst hv13
    subst hv10
    subst hv7
    subst hv5
    subst hv4
    exact retGN X59 hx Bd.notSynchronized Bd.returns (t := .boolean) (by simp) (z' := (0 : Int32)) rfl (hb hby at_316) ⟨by first | (simp only [f0, if_neg hc60]; done) | rfl | (simp [f0, if_neg hc60]; done), N59⟩ (by decide) (by decide)

theorem own_eq {a b c d : Int32} (w : Int32) (ha : Ch a) (hb : Ch b) (hc : Ch c) (hd : Ch d) : f15 (st2 a b) (st2 c d) w = f13 a b c d := by
  have e : f16 (st2 a b) (st2 c d) = (if by8 a = by8 c then (if by8 b = by8 d then (1 : Int32) else (0 : Int32)) else (0 : Int32)) := rfl
  simp only [f15, e, f13, by8_inj ha hc, by8_inj hb hd]
  by_cases h1 : a = c <;> by_cases h2 : b = d <;> simp only [h1, h2, if_true, if_false] <;> decide
theorem own_sym (a b c d : Int32) : f13 a b c d = f13 c d a b := by
  simp only [f13, eq_comm]
theorem own_01 (a b c d : Int32) : f13 a b c d = 0 ∨ f13 a b c d = 1 := by
  simp only [f13]; split
  · split <;> simp
  · simp
theorem law_true (p q r w : Int32) : f0 p q r w = 1 := by
  have hp := ch_mk p
  have hq := ch_mk q
  simp only [f0]
  generalize ((p &&& (255 : Int32)).toUInt32.toUInt16.toUInt32.toInt32) = x at *
  generalize ((q &&& (255 : Int32)).toUInt32.toUInt16.toUInt32.toInt32) = y at *
  have hh : ∀ k : Int32, Ch (if k = (0 : Int32) then y else x) := fun k => by split; · exact hq
                                                                              · exact hp
  have q1 := hh (r &&& 1)
  have q2 := hh (r &&& 2)
  have q3 := hh (r &&& 4)
  have q4 := hh (r &&& 8)
  have q5 := hh (r &&& 16)
  have q6 := hh (r &&& 32)
  generalize (if (r &&& (1 : Int32)) = (0 : Int32) then y else x) = a0 at *
  generalize (if (r &&& (2 : Int32)) = (0 : Int32) then y else x) = b0 at *
  generalize (if (r &&& (4 : Int32)) = (0 : Int32) then y else x) = a1 at *
  generalize (if (r &&& (8 : Int32)) = (0 : Int32) then y else x) = b1 at *
  generalize (if (r &&& (16 : Int32)) = (0 : Int32) then y else x) = a2 at *
  generalize (if (r &&& (32 : Int32)) = (0 : Int32) then y else x) = b2 at *
  show (if f14_0 = (1 : Int32) then (if f14_1 (st2 a1 b1) (st2 a0 b0) w = ((1 : Int32) + f13 a1 b1 a0 b0) then (if f14_2 (st2 a2 b2) (st2 a1 b1) (st2 a0 b0) w = (((1 : Int32) + f13 a2 b2 a0 b0) + f13 a2 b2 a1 b1) then (1 : Int32) else (0 : Int32)) else (0 : Int32)) else (0 : Int32)) = 1
  simp only [f14_0, f14_1, f14_2, own_eq w q1 q2 q3 q4, own_eq w q1 q2 q5 q6, own_eq w q3 q4 q5 q6]
  rw [own_sym a1 b1 a0 b0, own_sym a2 b2 a0 b0, own_sym a2 b2 a1 b1]
  rcases own_01 a0 b0 a1 b1 with h1 | h1 <;> rcases own_01 a0 b0 a2 b2 with h2 | h2 <;> rcases own_01 a1 b1 a2 b2 with h3 | h3 <;> rw [h1, h2, h3] <;> decide

set_option maxRecDepth 65536 in
set_option maxHeartbeats 40000000 in
theorem comes_1 {Post : Tables → Env → Array Value → State → Outcome → State → Prop} (hpost : ∀ tb e args s v u, (limb_1_1.after args s (.returned v) u = true ∧ limb_1_2.after args s (.returned v) u = true ∧ True) → FrameEnd s (.returned v) u (Jvm.fieldLocs frame_1_writes args s ++ Jvm.arrayLocs frame_1_arrays args s ++ Jvm.staticLocs frame_1_statics s) 56 256 → Post tb e args s (.returned v) u) :
    ArmFor flags0 classFile x code maxLocals ret World_1 tables_1 room_1 Calls_1 rest_1 Pre_1 Post := by
  intro l hfl _ _ p e ha hc hk s m args below hf hA hF happ hP
  obtain ⟨hcalls, hrest, hpre⟩ := hP
  obtain ⟨-, -, -, hnamed, -, -, -, hat⟩ := (Spec.applies_iff hf).mp happ
  obtain ⟨hg, hn⟩ := and_e (Cond.before_iff.mp (show (Jvm.Cond.and given_1 narrow_1).before args s = true from hpre))
  obtain ⟨g0, hg⟩ := and_e hg
  obtain ⟨ga0, hg⟩ := and_e hg
  obtain ⟨ga1, hg⟩ := and_e hg
  have ga2 := hg
  obtain ⟨w0, w1, w2, rfl⟩ : ∃ w0 w1 w2 : Value, args = #[w0, w1, w2] := by
    have hs : args.size = 3 := by simpa [Cond.value, given_1] using g0
    obtain ⟨L⟩ := args
    match L, hs with
    | [w0, w1, w2], _ => exact ⟨w0, w1, w2, rfl⟩
  have hw := fun d (hd : d ∈ tables_1) => atoms_spec (ws := Jvm.Cond.code x code maxLocals ret :: tables_1) hat d (List.mem_cons_of_mem _ hd)
  have hfit : Fit s := fun {y c} hc i hi => by
    obtain ⟨ha, rfl⟩ := Array.getElem?_eq_some_iff.mp hc
    have q := List.all_eq_true.mp ((Array.all_eq_true_iff_forall_mem.mp hF) _ (Array.getElem_mem ha)) i (List.mem_range.mpr hi)
    simpa [Array.getElem?_eq_getElem hi] using q
  obtain ⟨i0, ei0⟩ := is_v ga0
  obtain rfl : w0 = (.int i0) := Option.some.inj ei0
  obtain ⟨i1, ei1⟩ := is_v ga1
  obtain rfl : w1 = (.int i1) := Option.some.inj ei1
  obtain ⟨i2, ei2⟩ := is_v ga2
  obtain rfl : w2 = (.int i2) := Option.some.inj ei2
  obtain ⟨hsets, hown0⟩ := atoms_of _ (rest_1_c_eq ▸ (show rest_1_c.before _ s = true from hrest))
  obtain ⟨wC, eC⟩ := is_v (Cond.before_iff.mp (hsets _ (List.mem_of_getElem? (i := 1) rfl)))
  have SC : Sta s s.heap "java/lang/String" "COMPACT_STRINGS" "Z" (.int wC) := Sta.start eC (Or.inl (hsets _ (List.mem_of_getElem? (i := 0) rfl)))
  have hC : ¬ (wC = (0 : Int32)) := gotF (Cond.eq_ints eC (Term.int_eval (0))) (not_v (Cond.before_iff.mp (hsets _ (List.mem_of_getElem? (i := 2) rfl))))
  obtain ⟨oD, eD⟩ := arr_v (Cond.before_iff.mp (hsets _ (List.mem_of_getElem? (i := 15) rfl)))
  have SD : Sta s s.heap "java/util/ArrayList" "DEFAULTCAPACITY_EMPTY_ELEMENTDATA" "[Ljava/lang/Object;" (.ref oD) := Sta.start eD (Or.inr ⟨(hw _ (List.mem_of_getElem? (i := 39) rfl)), (hsets _ (List.mem_of_getElem? (i := 11) rfl))⟩)
  obtain ⟨n, o, h1, h2, h3, v, L, rfl, hQ, hq⟩ := rm0 l s _ hw tables_1 i0 i1 i2 wC oD s.heap s.heap.size (Nat.le_refl _) (Old.start s) hC SC SD p e ha hc hk s m _ below hf ((Spec.applies_iff_loose hf).mp happ).1 ⟨rfl, State.Warmed39.refl s, rfl⟩ trivial
  obtain ⟨hv, N⟩ := hQ
  rw [law_true i0 i1 i2] at hv
  subst hv
  refine ⟨n, _, h1, h2, h3, hpost _ _ _ _ _ _ ⟨Cond.after_iff.mpr rfl, Cond.after_iff.mpr (eq_i res_at (Term.int_eval (1)) rfl), trivial⟩ ⟨hq.1, hq.2.1, (hq.2.2.sift fun y hy => Or.inr (N y hy)).mono (by decide) (by decide)⟩⟩
theorem main_1_1 : Claimed_1_1 := comes_1 fun _ _ _ _ _ _ h hF => ⟨h.1, hF⟩
theorem main_1_2 : Claimed_1_2 := comes_1 fun _ _ _ _ _ _ h hF => ⟨h.2.1, hF⟩
end Jvm.Pilot.@@N@@
namespace Jvm.Pilot.@@N@@
open Jvm Jvm.ClassFile Sem Op Lib Jvm.Free Jvm.Stand Jvm.Pilot.@@N@@.Jvm.D
/-! MADE BY PROGRAM (witnessworld.py) out of the Statement's table words and the real class files: 29 classes; the members and pool entries that the words name. The judged class is class 1, her method 2. -/
namespace start1
open Jvm.ClassFile
def u (s : String) : CpInfo := .utf8 (stringToUtf16 s)
/-- a pool by its gaps: so many unusable entries, then the entry; so many at the end -/
def gap : Nat → List CpInfo → List CpInfo
  | 0, r => r
  | n + 1, r => .unusable :: gap n r
def poolList (es : List (Nat × CpInfo)) (last : Nat) : List CpInfo := es.foldr (fun e r => gap e.1 (e.2 :: r)) (gap last [])
def pool (es : List (Nat × CpInfo)) (last : Nat) : Array CpInfo := ⟨poolList es last⟩
def fileOf (pool : Array CpInfo) (this : Nat) (attrs : Array Attribute := #[]) (ms : Array MethodInfo := #[]) (fl : Nat := 33) (sup : Nat := 0) (ifs : Array Nat := #[]) (fds : Array FieldInfo := #[]) : ClassFile where
  minorVersion := 0
  majorVersion := 65
  constantPool := pool
  accessFlags := fl
  thisClass := this
  superClass := sup
  interfaces := ifs
  fields := fds
  methods := ms
  attributes := attrs
def plain (name : String) (sup : Option ClassId) : Class where
  name := name
  kind := .ordinary
  loader := none
  accessFlags := 33
  super := sup
  interfaces := #[]
  cf := none
  fields := #[]
  methods := #[]
  instanceTypes := #[]
  staticTypes := #[]
  resolved := #[]
  callSites := []
  init := .initialized
  statics := none
  mirror := none

def pool0 : Array CpInfo := pool [(5, u "<init>"), (0, u "()V"), (1, .class_ 10), (1, u "java/lang/Object")] 113

def k0c0 : Code := { maxStack := 0, maxLocals := 1, code := object_method_1_code, exceptionTable := #[], attributes := #[] }
def k0m0 : Method := { name := "<init>", desc := "()V", sig := { parameters := [], returnType := none }, accessFlags := 1, code := some k0c0 }
/-- java/lang/Object -/
def k0 : Class := { plain "java/lang/Object" none with
  accessFlags := 33
  interfaces := #[]
  cf := some (fileOf pool0 8 #[] #[{ accessFlags := 1, nameIndex := 5, descriptorIndex := 6, attributes := #[] }] 33 0 #[] #[])
  fields := #[]
  methods := #[k0m0]
  instanceTypes := #[]
  staticTypes := #[]
  resolved := Array.replicate 124 none
  statics := none }

def pool1 : Array CpInfo := pool [(2, .class_ 4), (1, u "java/lang/Object"), (0, u "<init>"), (0, u "()V"), (0, .class_ 8), (0, u "com/example/dataflow_to_dispatch/dataflowtodispatch/model/document/XmlElement"), (0, .class_ 10), (0, u "java/lang/String"), (0, .methodref 9 12), (0, .nameAndType 5 13), (0, u "([C)V"), (0, .methodref 7 15), (0, .nameAndType 5 16), (0, u "(Ljava/lang/String;)V"), (0, .methodref 7 18), (0, .nameAndType 19 20), (0, u "append"), (0, u "(Lcom/example/dataflow_to_dispatch/dataflowtodispatch/model/document/XmlElement;)Lcom/example/dataflow_to_dispatch/dataflowtodispatch/model/document/XmlElement;"), (0, .methodref 22 23), (0, .class_ 24), (0, .nameAndType 25 26), (0, u "com/example/dataflow_to_dispatch/dataflowtodispatch/model/document/XmlElementPositionPinLaw"), (0, u "same"), (0, u "(CCCC)I"), (0, .methodref 7 28), (0, .nameAndType 29 30), (0, u "position"), (0, u "()I"), (3, u "law"), (0, u "(III)Z")] 2

def k1m0 : Method := { name := "<init>", desc := "()V", sig := { parameters := [], returnType := none }, accessFlags := 1, code := none }
def k1c1 : Code := { maxStack := 2, maxLocals := 4, code := method_2_code, exceptionTable := #[], attributes := #[] }
def k1m1 : Method := { name := "same", desc := "(CCCC)I", sig := { parameters := [.char, .char, .char, .char], returnType := some .int }, accessFlags := 10, code := some k1c1 }
def k1c2 : Code := { maxStack := 8, maxLocals := 18, code := code, exceptionTable := #[], attributes := #[] }
def k1m2 : Method := { name := "law", desc := "(III)Z", sig := { parameters := [.int, .int, .int], returnType := some .boolean }, accessFlags := 9, code := some k1c2 }
/-- com/example/dataflow_to_dispatch/dataflowtodispatch/model/document/XmlElementPositionPinLaw -/
def k1 : Class := { plain "com/example/dataflow_to_dispatch/dataflowtodispatch/model/document/XmlElementPositionPinLaw" (some 0) with
  accessFlags := 49
  interfaces := #[]
  cf := some (fileOf pool1 22 #[] #[{ accessFlags := 1, nameIndex := 5, descriptorIndex := 6, attributes := #[] }, { accessFlags := 10, nameIndex := 25, descriptorIndex := 26, attributes := #[] }, { accessFlags := 9, nameIndex := 34, descriptorIndex := 35, attributes := #[] }] 49 2 #[] #[])
  fields := #[]
  methods := #[k1m0, k1m1, k1m2]
  instanceTypes := #[]
  staticTypes := #[]
  resolved := Array.replicate 38 none
  statics := none }

def pool2 : Array CpInfo := pool [(1, .methodref 2 3), (0, .class_ 4), (0, .nameAndType 5 6), (0, u "java/lang/Object"), (0, u "<init>"), (0, u "()V"), (0, .class_ 8), (0, u "java/util/ArrayList"), (0, .methodref 7 3), (0, .fieldref 11 12), (0, .class_ 13), (0, .nameAndType 14 15), (0, u "com/example/dataflow_to_dispatch/dataflowtodispatch/model/document/XmlElement"), (0, u "attributes"), (0, u "Ljava/util/List;"), (0, .fieldref 11 17), (0, .nameAndType 18 15), (0, u "texts"), (0, .fieldref 11 20), (0, .nameAndType 21 22), (0, u "name"), (0, u "Ljava/lang/String;"), (0, .fieldref 11 24), (0, .nameAndType 25 26), (0, u "parent"), (0, u "Lcom/example/dataflow_to_dispatch/dataflowtodispatch/model/document/XmlElement;"), (12, .fieldref 11 40), (0, .nameAndType 41 26), (0, u "firstChild"), (5, u "(Ljava/lang/Object;)Z"), (0, .fieldref 11 49), (0, .nameAndType 50 26), (0, u "next"), (0, .fieldref 11 52), (0, .nameAndType 53 26), (0, u "previous"), (0, .methodref 55 56), (0, .class_ 57), (0, .nameAndType 58 47), (0, u "java/lang/String"), (0, u "equals"), (16, .class_ 76), (0, u "com/example/dataflow_to_dispatch/dataflowtodispatch/model/document/XmlElement$Piece"), (5, u "append"), (29, u "()I"), (6, .fieldref 11 120), (0, .nameAndType 121 26), (0, u "lastChild"), (0, .methodref 11 123), (0, .nameAndType 124 125), (0, u "linkAfter"), (0, u "(Lcom/example/dataflow_to_dispatch/dataflowtodispatch/model/document/XmlElement;Lcom/example/dataflow_to_dispatch/dataflowtodispatch/model/document/XmlElement;)V"), (9, u "(Ljava/lang/String;)V"), (6, u "(Lcom/example/dataflow_to_dispatch/dataflowtodispatch/model/document/XmlElement;)Lcom/example/dataflow_to_dispatch/dataflowtodispatch/model/document/XmlElement;"), (9, u "position")] 15

def k2c0 : Code := { maxStack := 3, maxLocals := 2, code := prog_109_method_1_code, exceptionTable := #[], attributes := #[] }
def k2m0 : Method := { name := "<init>", desc := "(Ljava/lang/String;)V", sig := { parameters := [(.object "java/lang/String")], returnType := none }, accessFlags := 0, code := some k2c0 }
def k2c1 : Code := { maxStack := 2, maxLocals := 3, code := prog_109_method_7_code, exceptionTable := #[], attributes := #[] }
def k2m1 : Method := { name := "position", desc := "()I", sig := { parameters := [], returnType := some .int }, accessFlags := 0, code := some k2c1 }
def k2c2 : Code := { maxStack := 3, maxLocals := 2, code := prog_109_method_14_code, exceptionTable := #[], attributes := #[] }
def k2m2 : Method := { name := "append", desc := "(Lcom/example/dataflow_to_dispatch/dataflowtodispatch/model/document/XmlElement;)Lcom/example/dataflow_to_dispatch/dataflowtodispatch/model/document/XmlElement;", sig := { parameters := [(.object "com/example/dataflow_to_dispatch/dataflowtodispatch/model/document/XmlElement")], returnType := some (.object "com/example/dataflow_to_dispatch/dataflowtodispatch/model/document/XmlElement") }, accessFlags := 0, code := some k2c2 }
def k2c3 : Code := { maxStack := 2, maxLocals := 3, code := prog_109_method_15_code, exceptionTable := #[], attributes := #[] }
def k2m3 : Method := { name := "linkAfter", desc := "(Lcom/example/dataflow_to_dispatch/dataflowtodispatch/model/document/XmlElement;Lcom/example/dataflow_to_dispatch/dataflowtodispatch/model/document/XmlElement;)V", sig := { parameters := [(.object "com/example/dataflow_to_dispatch/dataflowtodispatch/model/document/XmlElement"), (.object "com/example/dataflow_to_dispatch/dataflowtodispatch/model/document/XmlElement")], returnType := none }, accessFlags := 2, code := some k2c3 }
/-- com/example/dataflow_to_dispatch/dataflowtodispatch/model/document/XmlElement -/
def k2 : Class := { plain "com/example/dataflow_to_dispatch/dataflowtodispatch/model/document/XmlElement" (some 0) with
  accessFlags := 48
  interfaces := #[]
  cf := some (fileOf pool2 11 #[.nestMembers #[75]] #[{ accessFlags := 0, nameIndex := 5, descriptorIndex := 135, attributes := #[] }, { accessFlags := 0, nameIndex := 152, descriptorIndex := 112, attributes := #[] }, { accessFlags := 0, nameIndex := 82, descriptorIndex := 142, attributes := #[] }, { accessFlags := 2, nameIndex := 124, descriptorIndex := 125, attributes := #[] }] 48 2 #[] #[{ accessFlags := 18, nameIndex := 21, descriptorIndex := 22, attributes := #[] }, { accessFlags := 18, nameIndex := 14, descriptorIndex := 15, attributes := #[] }, { accessFlags := 18, nameIndex := 18, descriptorIndex := 15, attributes := #[] }, { accessFlags := 2, nameIndex := 25, descriptorIndex := 26, attributes := #[] }, { accessFlags := 2, nameIndex := 41, descriptorIndex := 26, attributes := #[] }, { accessFlags := 2, nameIndex := 121, descriptorIndex := 26, attributes := #[] }, { accessFlags := 2, nameIndex := 53, descriptorIndex := 26, attributes := #[] }, { accessFlags := 2, nameIndex := 50, descriptorIndex := 26, attributes := #[] }])
  fields := #[{ name := "name", type := (.object "java/lang/String"), accessFlags := 18, slot := 0, constantValue := 0 }, { name := "attributes", type := (.object "java/util/List"), accessFlags := 18, slot := 1, constantValue := 0 }, { name := "texts", type := (.object "java/util/List"), accessFlags := 18, slot := 2, constantValue := 0 }, { name := "parent", type := (.object "com/example/dataflow_to_dispatch/dataflowtodispatch/model/document/XmlElement"), accessFlags := 2, slot := 3, constantValue := 0 }, { name := "firstChild", type := (.object "com/example/dataflow_to_dispatch/dataflowtodispatch/model/document/XmlElement"), accessFlags := 2, slot := 4, constantValue := 0 }, { name := "lastChild", type := (.object "com/example/dataflow_to_dispatch/dataflowtodispatch/model/document/XmlElement"), accessFlags := 2, slot := 5, constantValue := 0 }, { name := "previous", type := (.object "com/example/dataflow_to_dispatch/dataflowtodispatch/model/document/XmlElement"), accessFlags := 2, slot := 6, constantValue := 0 }, { name := "next", type := (.object "com/example/dataflow_to_dispatch/dataflowtodispatch/model/document/XmlElement"), accessFlags := 2, slot := 7, constantValue := 0 }]
  methods := #[k2m0, k2m1, k2m2, k2m3]
  instanceTypes := #[(.object "java/lang/String"), (.object "java/util/List"), (.object "java/util/List"), (.object "com/example/dataflow_to_dispatch/dataflowtodispatch/model/document/XmlElement"), (.object "com/example/dataflow_to_dispatch/dataflowtodispatch/model/document/XmlElement"), (.object "com/example/dataflow_to_dispatch/dataflowtodispatch/model/document/XmlElement"), (.object "com/example/dataflow_to_dispatch/dataflowtodispatch/model/document/XmlElement"), (.object "com/example/dataflow_to_dispatch/dataflowtodispatch/model/document/XmlElement")]
  staticTypes := #[]
  resolved := Array.replicate 168 none
  statics := none }

def pool3 : Array CpInfo := pool [(1, .class_ 2), (0, u "java/io/Serializable"), (0, .class_ 4), (0, u "java/lang/Object")] 2

/-- java/io/Serializable -/
def k3 : Class := { plain "java/io/Serializable" (some 0) with
  accessFlags := 1537
  interfaces := #[]
  cf := some (fileOf pool3 1 #[] #[] 1537 3 #[] #[])
  fields := #[]
  methods := #[]
  instanceTypes := #[]
  staticTypes := #[]
  resolved := Array.replicate 7 none
  statics := none }

def pool4 : Array CpInfo := pool [(1, .class_ 2), (0, u "java/lang/Comparable"), (0, .class_ 4), (0, u "java/lang/Object")] 7

/-- java/lang/Comparable -/
def k4 : Class := { plain "java/lang/Comparable" (some 0) with
  accessFlags := 1537
  interfaces := #[]
  cf := some (fileOf pool4 1 #[] #[] 1537 3 #[] #[])
  fields := #[]
  methods := #[]
  instanceTypes := #[]
  staticTypes := #[]
  resolved := Array.replicate 12 none
  statics := none }

def pool5 : Array CpInfo := pool [(2, .class_ 4), (1, u "java/lang/CharSequence"), (42, .class_ 48), (0, u "java/lang/CharSequence$1CodePointIterator"), (10, .class_ 60), (0, u "java/lang/CharSequence$1CharIterator"), (5, .class_ 67), (0, u "java/lang/Object")] 63

/-- java/lang/CharSequence -/
def k5 : Class := { plain "java/lang/CharSequence" (some 0) with
  accessFlags := 1537
  interfaces := #[]
  cf := some (fileOf pool5 2 #[.nestMembers #[47, 59]] #[] 1537 66 #[] #[])
  fields := #[]
  methods := #[]
  instanceTypes := #[]
  staticTypes := #[]
  resolved := Array.replicate 131 none
  statics := none }

def pool6 : Array CpInfo := pool [(1, .class_ 2), (0, u "java/lang/constant/Constable"), (0, .class_ 4), (0, u "java/lang/Object")] 6

/-- java/lang/constant/Constable -/
def k6 : Class := { plain "java/lang/constant/Constable" (some 0) with
  accessFlags := 1537
  interfaces := #[]
  cf := some (fileOf pool6 1 #[] #[] 1537 3 #[] #[])
  fields := #[]
  methods := #[]
  instanceTypes := #[]
  staticTypes := #[]
  resolved := Array.replicate 11 none
  statics := none }

def pool7 : Array CpInfo := pool [(1, .class_ 2), (0, u "java/lang/constant/ConstantDesc"), (0, .class_ 4), (0, u "java/lang/Object")] 32

/-- java/lang/constant/ConstantDesc -/
def k7 : Class := { plain "java/lang/constant/ConstantDesc" (some 0) with
  accessFlags := 1537
  interfaces := #[]
  cf := some (fileOf pool7 1 #[] #[] 1537 3 #[] #[])
  fields := #[]
  methods := #[]
  instanceTypes := #[]
  staticTypes := #[]
  resolved := Array.replicate 37 none
  statics := none }

def pool8 : Array CpInfo := pool [(1, .methodref 2 3), (0, .class_ 4), (0, .nameAndType 5 6), (0, u "java/lang/Object"), (0, u "<init>"), (0, u "()V"), (2, .fieldref 10 11), (0, .class_ 12), (0, .nameAndType 13 14), (0, u "java/lang/String"), (0, u "value"), (0, u "[B"), (0, .fieldref 10 16), (0, .nameAndType 17 18), (0, u "coder"), (0, u "B"), (2, u "hash"), (0, u "I"), (2, u "hashIsZero"), (0, u "Z"), (0, .methodref 10 28), (0, .nameAndType 5 29), (0, u "([CIILjava/lang/Void;)V"), (8, .fieldref 10 39), (0, .nameAndType 40 26), (0, u "COMPACT_STRINGS"), (1, .class_ 44), (1, u "java/lang/StringUTF16"), (0, u "compress"), (1, .methodref 42 48), (0, .nameAndType 49 50), (0, u "coderFromArrayLen"), (0, u "([BI)B"), (56, .class_ 109), (1, u "java/lang/StringLatin1"), (67, .methodref 42 178), (0, .nameAndType 45 179), (0, u "([CII)[B"), (361, .methodref 107 542), (0, .nameAndType 543 544), (0, u "equals"), (0, u "([B[B)Z"), (28, u "(Ljava/lang/Object;)Z"), (1, .class_ 576), (0, u "java/lang/CharSequence"), (22, u "CASE_INSENSITIVE_ORDER"), (0, u "Ljava/util/Comparator;"), (409, u "([C)V"), (90, u "serialPersistentFields"), (0, u "[Ljava/io/ObjectStreamField;"), (0, .class_ 1104), (0, u "java/lang/String$CaseInsensitiveComparator"), (1, .class_ 1107), (0, u "java/io/Serializable"), (0, .class_ 1109), (0, u "java/lang/Comparable"), (0, .class_ 1111), (0, u "java/lang/constant/Constable"), (0, .class_ 1113), (0, u "java/lang/constant/ConstantDesc"), (2, u "serialVersionUID"), (0, u "J"), (3, u "REPL"), (0, u "C"), (2, u "LATIN1"), (1, u "UTF16")] 323

def k8m0 : Method := { name := "<init>", desc := "()V", sig := { parameters := [], returnType := none }, accessFlags := 1, code := none }
def k8c1 : Code := { maxStack := 5, maxLocals := 2, code := jdk_42_method_3_code, exceptionTable := #[], attributes := #[] }
def k8m1 : Method := { name := "<init>", desc := "([C)V", sig := { parameters := [(.array .char)], returnType := none }, accessFlags := 1, code := some k8c1 }
def k8c2 : Code := { maxStack := 2, maxLocals := 3, code := jdk_42_method_66_code, exceptionTable := #[], attributes := #[] }
def k8m2 : Method := { name := "equals", desc := "(Ljava/lang/Object;)Z", sig := { parameters := [(.object "java/lang/Object")], returnType := some .boolean }, accessFlags := 1, code := some k8c2 }
def k8c3 : Code := { maxStack := 4, maxLocals := 6, code := jdk_42_method_149_code, exceptionTable := #[], attributes := #[] }
def k8m3 : Method := { name := "<init>", desc := "([CIILjava/lang/Void;)V", sig := { parameters := [(.array .char), .int, .int, (.object "java/lang/Void")], returnType := none }, accessFlags := 2, code := some k8c3 }
/-- java/lang/String -/
def k8 : Class := { plain "java/lang/String" (some 0) with
  accessFlags := 49
  interfaces := #[3, 4, 5, 6, 7]
  cf := some (fileOf pool8 10 #[.nestMembers #[1103]] #[{ accessFlags := 1, nameIndex := 5, descriptorIndex := 6, attributes := #[] }, { accessFlags := 1, nameIndex := 5, descriptorIndex := 1010, attributes := #[] }, { accessFlags := 1, nameIndex := 543, descriptorIndex := 573, attributes := #[] }, { accessFlags := 2, nameIndex := 5, descriptorIndex := 29, attributes := #[] }] 49 2 #[1106, 1108, 575, 1110, 1112] #[{ accessFlags := 18, nameIndex := 13, descriptorIndex := 14, attributes := #[] }, { accessFlags := 18, nameIndex := 17, descriptorIndex := 18, attributes := #[] }, { accessFlags := 2, nameIndex := 21, descriptorIndex := 22, attributes := #[] }, { accessFlags := 2, nameIndex := 25, descriptorIndex := 26, attributes := #[] }, { accessFlags := 26, nameIndex := 1116, descriptorIndex := 1117, attributes := #[] }, { accessFlags := 24, nameIndex := 40, descriptorIndex := 26, attributes := #[] }, { accessFlags := 26, nameIndex := 1101, descriptorIndex := 1102, attributes := #[] }, { accessFlags := 26, nameIndex := 1121, descriptorIndex := 1122, attributes := #[] }, { accessFlags := 25, nameIndex := 599, descriptorIndex := 600, attributes := #[] }, { accessFlags := 24, nameIndex := 1125, descriptorIndex := 18, attributes := #[] }, { accessFlags := 24, nameIndex := 1127, descriptorIndex := 18, attributes := #[] }])
  fields := #[{ name := "value", type := (.array .byte), accessFlags := 18, slot := 0, constantValue := 0 }, { name := "coder", type := .byte, accessFlags := 18, slot := 1, constantValue := 0 }, { name := "hash", type := .int, accessFlags := 2, slot := 2, constantValue := 0 }, { name := "hashIsZero", type := .boolean, accessFlags := 2, slot := 3, constantValue := 0 }, { name := "serialVersionUID", type := .long, accessFlags := 26, slot := 0, constantValue := 0 }, { name := "COMPACT_STRINGS", type := .boolean, accessFlags := 24, slot := 1, constantValue := 0 }, { name := "serialPersistentFields", type := (.array (.object "java/io/ObjectStreamField")), accessFlags := 26, slot := 2, constantValue := 0 }, { name := "REPL", type := .char, accessFlags := 26, slot := 3, constantValue := 0 }, { name := "CASE_INSENSITIVE_ORDER", type := (.object "java/util/Comparator"), accessFlags := 25, slot := 4, constantValue := 0 }, { name := "LATIN1", type := .byte, accessFlags := 24, slot := 5, constantValue := 0 }, { name := "UTF16", type := .byte, accessFlags := 24, slot := 6, constantValue := 0 }]
  methods := #[k8m0, k8m1, k8m2, k8m3]
  instanceTypes := #[(.array .byte), .byte, .int, .boolean]
  staticTypes := #[.long, .boolean, (.array (.object "java/io/ObjectStreamField")), .char, (.object "java/util/Comparator"), .byte, .byte]
  resolved := Array.replicate 1451 none
  statics := some 0 }

def pool9 : Array CpInfo := pool [(6, .class_ 8), (1, u "java/lang/Object"), (0, u "<init>"), (0, u "()V"), (1, .class_ 14), (1, u "java/lang/StringUTF16"), (31, u "$assertionsDisabled"), (0, u "Z"), (13, u "HI_BYTE_SHIFT"), (0, u "I"), (2, u "LO_BYTE_SHIFT"), (49, .methodref 12 116), (0, .nameAndType 117 118), (0, u "compress"), (0, u "([CI[BII)I"), (3, u "([CII)[B"), (138, u "coderFromArrayLen"), (0, u "([BI)B"), (106, .class_ 371), (1, u "java/lang/StringUTF16$LinesSpliterator"), (58, u "MAX_LENGTH"), (196, .class_ 628), (0, u "java/lang/StringUTF16$CodePointsSpliterator"), (0, .class_ 630), (0, u "java/lang/StringUTF16$CharsSpliterator")] 4

def k9m0 : Method := { name := "<init>", desc := "()V", sig := { parameters := [], returnType := none }, accessFlags := 0, code := none }
def k9c1 : Code := { maxStack := 2, maxLocals := 2, code := jdk_52_method_15_code, exceptionTable := #[], attributes := #[] }
def k9m1 : Method := { name := "coderFromArrayLen", desc := "([BI)B", sig := { parameters := [(.array .byte), .int], returnType := some .byte }, accessFlags := 8, code := some k9c1 }
def k9c2 : Code := { maxStack := 5, maxLocals := 6, code := jdk_52_method_16_code, exceptionTable := #[], attributes := #[] }
def k9m2 : Method := { name := "compress", desc := "([CII)[B", sig := { parameters := [(.array .char), .int, .int], returnType := some (.array .byte) }, accessFlags := 9, code := some k9c2 }
def k9c3 : Code := { maxStack := 3, maxLocals := 7, code := jdk_52_method_21_code, exceptionTable := #[], attributes := #[] }
def k9m3 : Method := { name := "compress", desc := "([CI[BII)I", sig := { parameters := [(.array .char), .int, (.array .byte), .int, .int], returnType := some .int }, accessFlags := 9, code := some k9c3 }
/-- java/lang/StringUTF16 -/
def k9 : Class := { plain "java/lang/StringUTF16" (some 0) with
  accessFlags := 48
  interfaces := #[]
  cf := some (fileOf pool9 12 #[.nestMembers #[627, 629, 369]] #[{ accessFlags := 0, nameIndex := 9, descriptorIndex := 10, attributes := #[] }, { accessFlags := 8, nameIndex := 261, descriptorIndex := 262, attributes := #[] }, { accessFlags := 9, nameIndex := 117, descriptorIndex := 122, attributes := #[] }, { accessFlags := 9, nameIndex := 117, descriptorIndex := 118, attributes := #[] }] 48 6 #[] #[{ accessFlags := 26, nameIndex := 61, descriptorIndex := 62, attributes := #[] }, { accessFlags := 26, nameIndex := 65, descriptorIndex := 62, attributes := #[] }, { accessFlags := 24, nameIndex := 430, descriptorIndex := 62, attributes := #[] }, { accessFlags := 4120, nameIndex := 46, descriptorIndex := 47, attributes := #[] }])
  fields := #[{ name := "HI_BYTE_SHIFT", type := .int, accessFlags := 26, slot := 0, constantValue := 0 }, { name := "LO_BYTE_SHIFT", type := .int, accessFlags := 26, slot := 1, constantValue := 0 }, { name := "MAX_LENGTH", type := .int, accessFlags := 24, slot := 2, constantValue := 0 }, { name := "$assertionsDisabled", type := .boolean, accessFlags := 4120, slot := 3, constantValue := 0 }]
  methods := #[k9m0, k9m1, k9m2, k9m3]
  instanceTypes := #[]
  staticTypes := #[.int, .int, .int, .boolean]
  resolved := Array.replicate 635 none
  statics := none }

def pool10 : Array CpInfo := pool [(8, .class_ 10), (1, u "java/lang/Iterable"), (24, .class_ 36), (0, u "java/lang/Object")] 25

/-- java/lang/Iterable -/
def k10 : Class := { plain "java/lang/Iterable" (some 0) with
  accessFlags := 1537
  interfaces := #[]
  cf := some (fileOf pool10 8 #[] #[] 1537 35 #[] #[])
  fields := #[]
  methods := #[]
  instanceTypes := #[]
  staticTypes := #[]
  resolved := Array.replicate 62 none
  statics := none }

def pool11 : Array CpInfo := pool [(10, .class_ 12), (1, u "java/util/Collection"), (47, .class_ 61), (0, u "java/lang/Object"), (0, .class_ 63), (0, u "java/lang/Iterable")] 51

/-- java/util/Collection -/
def k11 : Class := { plain "java/util/Collection" (some 0) with
  accessFlags := 1537
  interfaces := #[10]
  cf := some (fileOf pool11 10 #[] #[] 1537 60 #[62] #[])
  fields := #[]
  methods := #[]
  instanceTypes := #[]
  staticTypes := #[]
  resolved := Array.replicate 115 none
  statics := none }

def pool12 : Array CpInfo := pool [(1, .methodref 2 3), (0, .class_ 4), (0, .nameAndType 5 6), (0, u "java/lang/Object"), (0, u "<init>"), (0, u "()V"), (1, .class_ 10), (1, u "java/util/AbstractCollection"), (66, .class_ 78), (0, u "java/util/Collection")] 81

def k12c0 : Code := { maxStack := 1, maxLocals := 1, code := jdk_22_method_1_code, exceptionTable := #[], attributes := #[] }
def k12m0 : Method := { name := "<init>", desc := "()V", sig := { parameters := [], returnType := none }, accessFlags := 4, code := some k12c0 }
/-- java/util/AbstractCollection -/
def k12 : Class := { plain "java/util/AbstractCollection" (some 0) with
  accessFlags := 1057
  interfaces := #[11]
  cf := some (fileOf pool12 8 #[] #[{ accessFlags := 4, nameIndex := 5, descriptorIndex := 6, attributes := #[] }] 1057 2 #[77] #[])
  fields := #[]
  methods := #[k12m0]
  instanceTypes := #[]
  staticTypes := #[]
  resolved := Array.replicate 160 none
  statics := none }

def pool13 : Array CpInfo := pool [(8, .class_ 10), (1, u "java/util/SequencedCollection"), (15, .class_ 27), (0, u "java/lang/Object"), (0, .class_ 29), (0, u "java/util/Collection")] 27

/-- java/util/SequencedCollection -/
def k13 : Class := { plain "java/util/SequencedCollection" (some 0) with
  accessFlags := 1537
  interfaces := #[11]
  cf := some (fileOf pool13 8 #[] #[] 1537 26 #[28] #[])
  fields := #[]
  methods := #[]
  instanceTypes := #[]
  staticTypes := #[]
  resolved := Array.replicate 57 none
  statics := none }

def pool14 : Array CpInfo := pool [(8, .class_ 10), (1, u "java/util/List"), (92, .class_ 104), (0, u "java/lang/Object"), (15, .class_ 121), (0, u "java/util/SequencedCollection")] 129

/-- java/util/List -/
def k14 : Class := { plain "java/util/List" (some 0) with
  accessFlags := 1537
  interfaces := #[13]
  cf := some (fileOf pool14 8 #[] #[] 1537 103 #[120] #[])
  fields := #[]
  methods := #[]
  instanceTypes := #[]
  staticTypes := #[]
  resolved := Array.replicate 251 none
  statics := none }

def pool15 : Array CpInfo := pool [(1, .methodref 2 3), (0, .class_ 4), (0, .nameAndType 5 6), (0, u "java/util/AbstractCollection"), (0, u "<init>"), (0, u "()V"), (0, .fieldref 8 9), (0, .class_ 10), (0, .nameAndType 11 12), (0, u "java/util/AbstractList"), (0, u "modCount"), (0, u "I"), (64, .class_ 78), (0, u "java/util/AbstractList$Itr"), (3, .class_ 83), (0, u "java/util/AbstractList$ListItr"), (9, .class_ 94), (0, u "java/util/AbstractList$RandomAccessSubList"), (3, .class_ 99), (0, u "java/util/AbstractList$SubList"), (33, .class_ 134), (0, u "java/util/List"), (73, .class_ 209), (0, u "java/util/AbstractList$SubList$1"), (0, .class_ 211), (0, u "java/util/AbstractList$RandomAccessSpliterator")] 6

def k15c0 : Code := { maxStack := 2, maxLocals := 1, code := jdk_39_method_1_code, exceptionTable := #[], attributes := #[] }
def k15m0 : Method := { name := "<init>", desc := "()V", sig := { parameters := [], returnType := none }, accessFlags := 4, code := some k15c0 }
/-- java/util/AbstractList -/
def k15 : Class := { plain "java/util/AbstractList" (some 12) with
  accessFlags := 1057
  interfaces := #[14]
  cf := some (fileOf pool15 8 #[.nestMembers #[93, 98, 208, 210, 82, 77]] #[{ accessFlags := 4, nameIndex := 5, descriptorIndex := 6, attributes := #[] }] 1057 2 #[133] #[{ accessFlags := 132, nameIndex := 11, descriptorIndex := 12, attributes := #[] }])
  fields := #[{ name := "modCount", type := .int, accessFlags := 132, slot := 0, constantValue := 0 }]
  methods := #[k15m0]
  instanceTypes := #[.int]
  staticTypes := #[]
  resolved := Array.replicate 218 none
  statics := none }

def pool16 : Array CpInfo := pool [(1, .class_ 2), (0, u "java/util/RandomAccess"), (0, .class_ 4), (0, u "java/lang/Object")] 2

/-- java/util/RandomAccess -/
def k16 : Class := { plain "java/util/RandomAccess" (some 0) with
  accessFlags := 1537
  interfaces := #[]
  cf := some (fileOf pool16 1 #[] #[] 1537 3 #[] #[])
  fields := #[]
  methods := #[]
  instanceTypes := #[]
  staticTypes := #[]
  resolved := Array.replicate 7 none
  statics := none }

def pool17 : Array CpInfo := pool [(1, .class_ 2), (0, u "java/lang/Cloneable"), (0, .class_ 4), (0, u "java/lang/Object")] 2

/-- java/lang/Cloneable -/
def k17 : Class := { plain "java/lang/Cloneable" (some 0) with
  accessFlags := 1537
  interfaces := #[]
  cf := some (fileOf pool17 1 #[] #[] 1537 3 #[] #[])
  fields := #[]
  methods := #[]
  instanceTypes := #[]
  staticTypes := #[]
  resolved := Array.replicate 7 none
  statics := none }

def pool18 : Array CpInfo := pool [(1, .methodref 2 3), (0, .class_ 4), (0, .nameAndType 5 6), (0, u "java/util/AbstractList"), (0, u "<init>"), (0, u "()V"), (2, .fieldref 10 11), (0, .class_ 12), (0, .nameAndType 13 14), (0, u "java/util/ArrayList"), (0, u "elementData"), (0, u "[Ljava/lang/Object;"), (2, u "EMPTY_ELEMENTDATA"), (21, .fieldref 10 40), (0, .nameAndType 41 14), (0, u "DEFAULTCAPACITY_EMPTY_ELEMENTDATA"), (8, u "size"), (0, u "I"), (96, .class_ 149), (0, u "java/util/List"), (112, .class_ 263), (0, u "java/util/ArrayList$ListItr"), (3, .class_ 268), (0, u "java/util/ArrayList$Itr"), (7, .class_ 277), (0, u "java/util/ArrayList$SubList"), (12, .class_ 291), (0, u "java/util/ArrayList$ArrayListSpliterator"), (37, .class_ 330), (0, u "java/util/RandomAccess"), (0, .class_ 332), (0, u "java/lang/Cloneable"), (0, .class_ 334), (0, u "java/io/Serializable"), (0, u "serialVersionUID"), (0, u "J"), (3, u "DEFAULT_CAPACITY"), (159, .class_ 501), (0, u "java/util/ArrayList$SubList$2"), (0, .class_ 503), (0, u "java/util/ArrayList$SubList$1")] 5

def k18c0 : Code := { maxStack := 2, maxLocals := 1, code := jdk_38_method_2_code, exceptionTable := #[], attributes := #[] }
def k18m0 : Method := { name := "<init>", desc := "()V", sig := { parameters := [], returnType := none }, accessFlags := 1, code := some k18c0 }
/-- java/util/ArrayList -/
def k18 : Class := { plain "java/util/ArrayList" (some 15) with
  accessFlags := 33
  interfaces := #[14, 16, 17, 3]
  cf := some (fileOf pool18 10 #[.nestMembers #[290, 276, 500, 502, 262, 267]] #[{ accessFlags := 1, nameIndex := 5, descriptorIndex := 6, attributes := #[] }] 33 2 #[148, 329, 331, 333] #[{ accessFlags := 26, nameIndex := 335, descriptorIndex := 336, attributes := #[] }, { accessFlags := 26, nameIndex := 340, descriptorIndex := 51, attributes := #[] }, { accessFlags := 26, nameIndex := 17, descriptorIndex := 14, attributes := #[] }, { accessFlags := 26, nameIndex := 41, descriptorIndex := 14, attributes := #[] }, { accessFlags := 128, nameIndex := 13, descriptorIndex := 14, attributes := #[] }, { accessFlags := 2, nameIndex := 50, descriptorIndex := 51, attributes := #[] }])
  fields := #[{ name := "serialVersionUID", type := .long, accessFlags := 26, slot := 0, constantValue := 0 }, { name := "DEFAULT_CAPACITY", type := .int, accessFlags := 26, slot := 1, constantValue := 0 }, { name := "EMPTY_ELEMENTDATA", type := (.array (.object "java/lang/Object")), accessFlags := 26, slot := 2, constantValue := 0 }, { name := "DEFAULTCAPACITY_EMPTY_ELEMENTDATA", type := (.array (.object "java/lang/Object")), accessFlags := 26, slot := 3, constantValue := 0 }, { name := "elementData", type := (.array (.object "java/lang/Object")), accessFlags := 128, slot := 1, constantValue := 0 }, { name := "size", type := .int, accessFlags := 2, slot := 2, constantValue := 0 }]
  methods := #[k18m0]
  instanceTypes := #[.int, (.array (.object "java/lang/Object")), .int]
  staticTypes := #[.long, .int, (.array (.object "java/lang/Object")), (.array (.object "java/lang/Object"))]
  resolved := Array.replicate 509 none
  statics := some 1 }

def pool19 : Array CpInfo := pool [(4, .class_ 6), (1, u "java/lang/Object"), (0, u "<init>"), (0, u "()V"), (5, .class_ 16), (1, u "java/lang/StringLatin1"), (104, u "$assertionsDisabled"), (0, u "Z"), (98, .class_ 223), (1, u "java/lang/StringLatin1$LinesSpliterator"), (57, u "equals"), (0, u "([B[B)Z"), (107, .class_ 391), (0, u "java/lang/StringLatin1$CharsSpliterator")] 3

def k19m0 : Method := { name := "<init>", desc := "()V", sig := { parameters := [], returnType := none }, accessFlags := 0, code := none }
def k19c1 : Code := { maxStack := 3, maxLocals := 3, code := jdk_43_method_13_code, exceptionTable := #[], attributes := #[] }
def k19m1 : Method := { name := "equals", desc := "([B[B)Z", sig := { parameters := [(.array .byte), (.array .byte)], returnType := some .boolean }, accessFlags := 9, code := some k19c1 }
/-- java/lang/StringLatin1 -/
def k19 : Class := { plain "java/lang/StringLatin1" (some 0) with
  accessFlags := 48
  interfaces := #[]
  cf := some (fileOf pool19 14 #[.nestMembers #[390, 221]] #[{ accessFlags := 0, nameIndex := 7, descriptorIndex := 8, attributes := #[] }, { accessFlags := 9, nameIndex := 281, descriptorIndex := 282, attributes := #[] }] 48 4 #[] #[{ accessFlags := 4120, nameIndex := 121, descriptorIndex := 122, attributes := #[] }])
  fields := #[{ name := "$assertionsDisabled", type := .boolean, accessFlags := 4120, slot := 0, constantValue := 0 }]
  methods := #[k19m0, k19m1]
  instanceTypes := #[]
  staticTypes := #[.boolean]
  resolved := Array.replicate 395 none
  statics := none }

def pool20 : Array CpInfo := pool [(2, .class_ 4), (1, u "java/lang/Object"), (0, u "<init>"), (0, u "()V"), (17, .class_ 26), (1, u "jdk/internal/util/Preconditions"), (28, .class_ 56), (0, u "jdk/internal/util/Preconditions$4"), (57, .class_ 115), (0, u "jdk/internal/util/Preconditions$1"), (7, u "SIOOBE_FORMATTER"), (0, u "Ljava/util/function/BiFunction;"), (0, .class_ 126), (0, u "jdk/internal/util/Preconditions$2"), (3, u "AIOOBE_FORMATTER"), (0, .class_ 132), (0, u "jdk/internal/util/Preconditions$3"), (3, u "IOOBE_FORMATTER")] 57

def k20m0 : Method := { name := "<init>", desc := "()V", sig := { parameters := [], returnType := none }, accessFlags := 1, code := none }
/-- jdk/internal/util/Preconditions -/
def k20 : Class := { plain "jdk/internal/util/Preconditions" (some 0) with
  accessFlags := 33
  interfaces := #[]
  cf := some (fileOf pool20 24 #[.nestMembers #[55, 131, 125, 114]] #[{ accessFlags := 1, nameIndex := 5, descriptorIndex := 6, attributes := #[] }] 33 2 #[] #[{ accessFlags := 25, nameIndex := 123, descriptorIndex := 124, attributes := #[] }, { accessFlags := 25, nameIndex := 130, descriptorIndex := 124, attributes := #[] }, { accessFlags := 25, nameIndex := 136, descriptorIndex := 124, attributes := #[] }])
  fields := #[{ name := "SIOOBE_FORMATTER", type := (.object "java/util/function/BiFunction"), accessFlags := 25, slot := 0, constantValue := 0 }, { name := "AIOOBE_FORMATTER", type := (.object "java/util/function/BiFunction"), accessFlags := 25, slot := 1, constantValue := 0 }, { name := "IOOBE_FORMATTER", type := (.object "java/util/function/BiFunction"), accessFlags := 25, slot := 2, constantValue := 0 }]
  methods := #[k20m0]
  instanceTypes := #[]
  staticTypes := #[(.object "java/util/function/BiFunction"), (.object "java/util/function/BiFunction"), (.object "java/util/function/BiFunction")]
  resolved := Array.replicate 194 none
  statics := some 2 }

def pool21 : Array CpInfo := pool [(9, u "<init>"), (6, .class_ 18), (1, u "java/lang/Object"), (0, u "()V"), (1, .class_ 23), (1, u "jdk/internal/util/ArraysSupport"), (0, u "LOG2_ARRAY_LONG_INDEX_SCALE"), (0, u "I"), (2, u "U"), (0, u "Ljdk/internal/misc/Unsafe;"), (8, u "BIG_ENDIAN"), (0, u "Z"), (8, u "LOG2_BYTE_BIT_SIZE"), (4, u "LOG2_ARRAY_INT_INDEX_SCALE"), (54, u "JLA"), (0, u "Ljdk/internal/access/JavaLangAccess;"), (11, u "LOG2_ARRAY_BOOLEAN_INDEX_SCALE"), (9, u "LOG2_ARRAY_BYTE_INDEX_SCALE"), (5, u "LOG2_ARRAY_CHAR_INDEX_SCALE"), (5, u "LOG2_ARRAY_SHORT_INDEX_SCALE"), (18, u "LOG2_ARRAY_FLOAT_INDEX_SCALE"), (24, u "LOG2_ARRAY_DOUBLE_INDEX_SCALE"), (89, u "T_BOOLEAN"), (2, u "T_CHAR"), (1, u "T_FLOAT"), (1, u "T_DOUBLE"), (1, u "T_BYTE"), (1, u "T_SHORT"), (1, u "T_INT"), (1, u "T_LONG"), (1, u "SOFT_MAX_ARRAY_LENGTH")] 83

def k21m0 : Method := { name := "<init>", desc := "()V", sig := { parameters := [], returnType := none }, accessFlags := 2, code := none }
/-- jdk/internal/util/ArraysSupport -/
def k21 : Class := { plain "jdk/internal/util/ArraysSupport" (some 0) with
  accessFlags := 33
  interfaces := #[]
  cf := some (fileOf pool21 21 #[] #[{ accessFlags := 2, nameIndex := 9, descriptorIndex := 19, attributes := #[] }] 33 16 #[] #[{ accessFlags := 24, nameIndex := 28, descriptorIndex := 29, attributes := #[] }, { accessFlags := 26, nameIndex := 38, descriptorIndex := 39, attributes := #[] }, { accessFlags := 25, nameIndex := 121, descriptorIndex := 25, attributes := #[] }, { accessFlags := 25, nameIndex := 131, descriptorIndex := 25, attributes := #[] }, { accessFlags := 25, nameIndex := 137, descriptorIndex := 25, attributes := #[] }, { accessFlags := 25, nameIndex := 143, descriptorIndex := 25, attributes := #[] }, { accessFlags := 25, nameIndex := 53, descriptorIndex := 25, attributes := #[] }, { accessFlags := 25, nameIndex := 24, descriptorIndex := 25, attributes := #[] }, { accessFlags := 25, nameIndex := 162, descriptorIndex := 25, attributes := #[] }, { accessFlags := 25, nameIndex := 187, descriptorIndex := 25, attributes := #[] }, { accessFlags := 26, nameIndex := 48, descriptorIndex := 25, attributes := #[] }, { accessFlags := 25, nameIndex := 277, descriptorIndex := 25, attributes := #[] }, { accessFlags := 25, nameIndex := 280, descriptorIndex := 25, attributes := #[] }, { accessFlags := 25, nameIndex := 282, descriptorIndex := 25, attributes := #[] }, { accessFlags := 25, nameIndex := 284, descriptorIndex := 25, attributes := #[] }, { accessFlags := 25, nameIndex := 286, descriptorIndex := 25, attributes := #[] }, { accessFlags := 25, nameIndex := 288, descriptorIndex := 25, attributes := #[] }, { accessFlags := 25, nameIndex := 290, descriptorIndex := 25, attributes := #[] }, { accessFlags := 25, nameIndex := 292, descriptorIndex := 25, attributes := #[] }, { accessFlags := 26, nameIndex := 108, descriptorIndex := 109, attributes := #[] }, { accessFlags := 25, nameIndex := 294, descriptorIndex := 25, attributes := #[] }])
  fields := #[{ name := "U", type := (.object "jdk/internal/misc/Unsafe"), accessFlags := 24, slot := 0, constantValue := 0 }, { name := "BIG_ENDIAN", type := .boolean, accessFlags := 26, slot := 1, constantValue := 0 }, { name := "LOG2_ARRAY_BOOLEAN_INDEX_SCALE", type := .int, accessFlags := 25, slot := 2, constantValue := 0 }, { name := "LOG2_ARRAY_BYTE_INDEX_SCALE", type := .int, accessFlags := 25, slot := 3, constantValue := 0 }, { name := "LOG2_ARRAY_CHAR_INDEX_SCALE", type := .int, accessFlags := 25, slot := 4, constantValue := 0 }, { name := "LOG2_ARRAY_SHORT_INDEX_SCALE", type := .int, accessFlags := 25, slot := 5, constantValue := 0 }, { name := "LOG2_ARRAY_INT_INDEX_SCALE", type := .int, accessFlags := 25, slot := 6, constantValue := 0 }, { name := "LOG2_ARRAY_LONG_INDEX_SCALE", type := .int, accessFlags := 25, slot := 7, constantValue := 0 }, { name := "LOG2_ARRAY_FLOAT_INDEX_SCALE", type := .int, accessFlags := 25, slot := 8, constantValue := 0 }, { name := "LOG2_ARRAY_DOUBLE_INDEX_SCALE", type := .int, accessFlags := 25, slot := 9, constantValue := 0 }, { name := "LOG2_BYTE_BIT_SIZE", type := .int, accessFlags := 26, slot := 10, constantValue := 0 }, { name := "T_BOOLEAN", type := .int, accessFlags := 25, slot := 11, constantValue := 0 }, { name := "T_CHAR", type := .int, accessFlags := 25, slot := 12, constantValue := 0 }, { name := "T_FLOAT", type := .int, accessFlags := 25, slot := 13, constantValue := 0 }, { name := "T_DOUBLE", type := .int, accessFlags := 25, slot := 14, constantValue := 0 }, { name := "T_BYTE", type := .int, accessFlags := 25, slot := 15, constantValue := 0 }, { name := "T_SHORT", type := .int, accessFlags := 25, slot := 16, constantValue := 0 }, { name := "T_INT", type := .int, accessFlags := 25, slot := 17, constantValue := 0 }, { name := "T_LONG", type := .int, accessFlags := 25, slot := 18, constantValue := 0 }, { name := "JLA", type := (.object "jdk/internal/access/JavaLangAccess"), accessFlags := 26, slot := 19, constantValue := 0 }, { name := "SOFT_MAX_ARRAY_LENGTH", type := .int, accessFlags := 25, slot := 20, constantValue := 0 }]
  methods := #[k21m0]
  instanceTypes := #[]
  staticTypes := #[(.object "jdk/internal/misc/Unsafe"), .boolean, .int, .int, .int, .int, .int, .int, .int, .int, .int, .int, .int, .int, .int, .int, .int, .int, .int, (.object "jdk/internal/access/JavaLangAccess"), .int]
  resolved := Array.replicate 378 none
  statics := none }

/-- the primitive byte -/
def k22 : Class := { plain "byte" none with kind := .primitive 'B', accessFlags := 0x411 }
/-- [B -/
def k23 : Class := { plain "[B" (some 0) with kind := .array 22 .byte, interfaces := #[17, 3], accessFlags := 1041 }

/-- the primitive char -/
def k24 : Class := { plain "char" none with kind := .primitive 'C', accessFlags := 0x411 }
/-- [C -/
def k25 : Class := { plain "[C" (some 0) with kind := .array 24 .char, interfaces := #[17, 3], accessFlags := 1041 }

/-- the primitive int -/
def k26 : Class := { plain "int" none with kind := .primitive 'I', accessFlags := 0x411 }
/-- [I -/
def k27 : Class := { plain "[I" (some 0) with kind := .array 26 .int, interfaces := #[17, 3], accessFlags := 1041 }

/-- [Ljava/lang/Object; -/
def k28 : Class := { plain "[Ljava/lang/Object;" (some 0) with kind := .array 0 (.object "java/lang/Object"), interfaces := #[17, 3], accessFlags := 1041 }

def heap : Heap := #[{ cls := 8, slots := #[.long 0, .int 1, .null, .int 0, .null, .int 0, .int 0], vm := .statics 8 },
  { cls := 18, slots := #[.long 0, .int 0, .ref 3, .ref 4], vm := .statics 18 },
  { cls := 20, slots := #[.null, .null, .null], vm := .statics 20 },
  { cls := 28, slots := #[], vm := .none },
  { cls := 28, slots := #[], vm := .none }]
def classes : Array Class := #[k0, k1, k2, k3, k4, k5, k6, k7, k8, k9, k10, k11, k12, k13, k14, k15, k16, k17, k18, k19, k20, k21, k22, k23, k24, k25, k26, k27, k28]
def interned : List (Array UInt16 × Addr) := []
def slotsUsed : Nat := 14
def theMethod : MethodId := ⟨1, 2⟩
def args0 : Array Value := #[.int 97, .int 98, .int 5]
def aboutOver (below : List Frame) : State where
  vm := { classes := classes, interned := interned.toArray }
  heap := heap
  slotsUsed := slotsUsed
  threads := #[{ frames := .invoking theMethod args0 :: below }]
def below0 : List Frame := [.native { method := ⟨0, 0⟩, args := #[] }]
def about1 : State := aboutOver below0
def p0 : Program := .bare "" "" ""
def e0 : Env := launch0.env 0 0 0
theorem w_frames : about1.frames = Frame.invoking theMethod args0 :: below0 := rfl
set_option maxRecDepth 65536 in
theorem w_args : argsFit about1.vm theMethod args0 = true := by decide +kernel
set_option maxRecDepth 65536 in
theorem w_heap : heapFits about1 = true := by decide +kernel
set_option maxRecDepth 65536 in
theorem w_runnable : about1.curStatus? = some .runnable := by decide +kernel
set_option maxRecDepth 65536 in
theorem w_alone : about1.alone = true := by decide +kernel
set_option maxRecDepth 65536 in
theorem w_named : about1.methodNamed? x = some theMethod := by decide +kernel
set_option maxRecDepth 65536 in
theorem w_hears : about1.hears theMethod below0 = true := by decide +kernel
set_option maxRecDepth 65536 in
theorem w_ripe : about1.ripe theMethod args0 below0 = true := by decide +kernel
theorem w_running : about1.status = .running := rfl
set_option maxRecDepth 65536 in
theorem w_room : about1.hasRoom e0.platform room_1 = true :=
  launch0.hasRoom_least _ room_1 (by decide +kernel) (by decide +kernel) (by decide +kernel) (by decide +kernel) (by decide +kernel) (by decide +kernel)
theorem allAtoms_all (ts : List Jvm.Cond) (a : Array Jvm.Value) (st : Jvm.State) : (allAtoms ts).before a st = ts.all (fun c => c.before a st) := by
  induction ts with
  | nil => rfl
  | cons c t ih =>
    show (Jvm.Cond.and c (allAtoms t)).before a st = _
    rw [Jvm.Cond.before_and, ih, List.all_cons]
def words1 : List Jvm.Cond := Jvm.Cond.code x code maxLocals ret :: tables_1
/-- a 'code' word, met by the world's own term for the bytes: nothing is compared byte by byte -/
theorem code_word {y : MethodName} {bytes : ByteArray} {mx : Nat} {rt : Option FieldType} {a : Array Value} {s : State} {m : MethodId} {meth : Method} {c : Code} (h1 : s.methodNamed? y = some m) (h2 : s.vm.method? m = some meth) (h3 : meth.code = some c) (h4 : c.code = bytes)
    (h5 : (c.maxLocals == mx && c.exceptionTable.isEmpty && decide (c.maxStack ≤ mostOperands) && decide (meth.sig.returnType = rt) && !meth.locks && decide (parseMethodDescriptor y.desc = some meth.sig)) = true) : (Jvm.Cond.code y bytes mx rt).before a s = true := by
  simp only [Bool.and_eq_true, beq_iff_eq, Bool.not_eq_true', decide_eq_true_eq] at h5
  obtain ⟨⟨⟨⟨⟨g1, g2⟩, g3⟩, g4⟩, g5⟩, g6⟩ := h5
  simp [Cond.before, Cond.holds, Cond.value, h1, h2, h3, h4, g1, g2, g3, g4, g5, g6]
def isCode : Jvm.Cond → Bool
  | .code _ _ _ _ => true
  | _ => false
theorem all_split {L : List Jvm.Cond} {P : Jvm.Cond → Bool} (h1 : L.all (fun c => isCode c || P c) = true) (h2 : ∀ c ∈ L.filter isCode, P c = true) : L.all P = true := by
  refine List.all_eq_true.mpr fun c hc => ?_
  have h := List.all_eq_true.mp h1 c hc
  rcases Bool.eq_false_or_eq_true (isCode c) with hi | hi
  · exact h2 c (List.mem_filter.mpr ⟨hc, hi⟩)
  · simpa [hi] using h
set_option maxRecDepth 65536 in
theorem w_c0 : (Jvm.Cond.code x code maxLocals ret).before args0 about1 = true := code_word (m := ⟨1, 2⟩) (meth := k1m2) (c := k1c2) (by decide +kernel) rfl rfl rfl (by decide +kernel)
set_option maxRecDepth 65536 in
theorem w_c1 : (Jvm.Cond.code ({ cls := "java/lang/String", name := "<init>", desc := "([C)V" } : Jvm.MethodName) jdk_42_method_3_code (2 : Nat) (Option.none : Option Jvm.ClassFile.FieldType)).before args0 about1 = true := code_word (m := ⟨8, 1⟩) (meth := k8m1) (c := k8c1) (by decide +kernel) rfl rfl rfl (by decide +kernel)
set_option maxRecDepth 65536 in
theorem w_c2 : (Jvm.Cond.code ({ cls := "java/lang/String", name := "<init>", desc := "([CIILjava/lang/Void;)V" } : Jvm.MethodName) jdk_42_method_149_code (6 : Nat) (Option.none : Option Jvm.ClassFile.FieldType)).before args0 about1 = true := code_word (m := ⟨8, 3⟩) (meth := k8m3) (c := k8c3) (by decide +kernel) rfl rfl rfl (by decide +kernel)
set_option maxRecDepth 65536 in
theorem w_c3 : (Jvm.Cond.code ({ cls := "java/lang/Object", name := "<init>", desc := "()V" } : Jvm.MethodName) object_method_1_code (1 : Nat) (Option.none : Option Jvm.ClassFile.FieldType)).before args0 about1 = true := code_word (m := ⟨0, 0⟩) (meth := k0m0) (c := k0c0) (by decide +kernel) rfl rfl rfl (by decide +kernel)
set_option maxRecDepth 65536 in
theorem w_c4 : (Jvm.Cond.code ({ cls := "java/lang/StringUTF16", name := "compress", desc := "([CII)[B" } : Jvm.MethodName) jdk_52_method_16_code (6 : Nat) (Option.some (Jvm.ClassFile.FieldType.array Jvm.ClassFile.FieldType.byte))).before args0 about1 = true := code_word (m := ⟨9, 2⟩) (meth := k9m2) (c := k9c2) (by decide +kernel) rfl rfl rfl (by decide +kernel)
set_option maxRecDepth 65536 in
theorem w_c5 : (Jvm.Cond.code ({ cls := "java/lang/StringUTF16", name := "compress", desc := "([CI[BII)I" } : Jvm.MethodName) jdk_52_method_21_code (7 : Nat) (Option.some Jvm.ClassFile.FieldType.int)).before args0 about1 = true := code_word (m := ⟨9, 3⟩) (meth := k9m3) (c := k9c3) (by decide +kernel) rfl rfl rfl (by decide +kernel)
set_option maxRecDepth 65536 in
theorem w_c6 : (Jvm.Cond.code ({ cls := "java/lang/StringUTF16", name := "coderFromArrayLen", desc := "([BI)B" } : Jvm.MethodName) jdk_52_method_15_code (2 : Nat) (Option.some Jvm.ClassFile.FieldType.byte)).before args0 about1 = true := code_word (m := ⟨9, 1⟩) (meth := k9m1) (c := k9c1) (by decide +kernel) rfl rfl rfl (by decide +kernel)
set_option maxRecDepth 65536 in
theorem w_c7 : (Jvm.Cond.code ({ cls := "com/example/dataflow_to_dispatch/dataflowtodispatch/model/document/XmlElement", name := "<init>", desc := "(Ljava/lang/String;)V" } : Jvm.MethodName) prog_109_method_1_code (2 : Nat) (Option.none : Option Jvm.ClassFile.FieldType)).before args0 about1 = true := code_word (m := ⟨2, 0⟩) (meth := k2m0) (c := k2c0) (by decide +kernel) rfl rfl rfl (by decide +kernel)
set_option maxRecDepth 65536 in
theorem w_c8 : (Jvm.Cond.code ({ cls := "java/util/ArrayList", name := "<init>", desc := "()V" } : Jvm.MethodName) jdk_38_method_2_code (1 : Nat) (Option.none : Option Jvm.ClassFile.FieldType)).before args0 about1 = true := code_word (m := ⟨18, 0⟩) (meth := k18m0) (c := k18c0) (by decide +kernel) rfl rfl rfl (by decide +kernel)
set_option maxRecDepth 65536 in
theorem w_c9 : (Jvm.Cond.code ({ cls := "java/util/AbstractList", name := "<init>", desc := "()V" } : Jvm.MethodName) jdk_39_method_1_code (1 : Nat) (Option.none : Option Jvm.ClassFile.FieldType)).before args0 about1 = true := code_word (m := ⟨15, 0⟩) (meth := k15m0) (c := k15c0) (by decide +kernel) rfl rfl rfl (by decide +kernel)
set_option maxRecDepth 65536 in
theorem w_c10 : (Jvm.Cond.code ({ cls := "java/util/AbstractCollection", name := "<init>", desc := "()V" } : Jvm.MethodName) jdk_22_method_1_code (1 : Nat) (Option.none : Option Jvm.ClassFile.FieldType)).before args0 about1 = true := code_word (m := ⟨12, 0⟩) (meth := k12m0) (c := k12c0) (by decide +kernel) rfl rfl rfl (by decide +kernel)
set_option maxRecDepth 65536 in
theorem w_c11 : (Jvm.Cond.code ({ cls := "com/example/dataflow_to_dispatch/dataflowtodispatch/model/document/XmlElement", name := "append", desc := "(Lcom/example/dataflow_to_dispatch/dataflowtodispatch/model/document/XmlElement;)Lcom/example/dataflow_to_dispatch/dataflowtodispatch/model/document/XmlElement;" } : Jvm.MethodName) prog_109_method_14_code (2 : Nat) (Option.some (Jvm.ClassFile.FieldType.object "com/example/dataflow_to_dispatch/dataflowtodispatch/model/document/XmlElement"))).before args0 about1 = true := code_word (m := ⟨2, 2⟩) (meth := k2m2) (c := k2c2) (by decide +kernel) rfl rfl rfl (by decide +kernel)
set_option maxRecDepth 65536 in
theorem w_c12 : (Jvm.Cond.code ({ cls := "com/example/dataflow_to_dispatch/dataflowtodispatch/model/document/XmlElement", name := "linkAfter", desc := "(Lcom/example/dataflow_to_dispatch/dataflowtodispatch/model/document/XmlElement;Lcom/example/dataflow_to_dispatch/dataflowtodispatch/model/document/XmlElement;)V" } : Jvm.MethodName) prog_109_method_15_code (3 : Nat) (Option.none : Option Jvm.ClassFile.FieldType)).before args0 about1 = true := code_word (m := ⟨2, 3⟩) (meth := k2m3) (c := k2c3) (by decide +kernel) rfl rfl rfl (by decide +kernel)
set_option maxRecDepth 65536 in
theorem w_c13 : (Jvm.Cond.code ({ cls := "com/example/dataflow_to_dispatch/dataflowtodispatch/model/document/XmlElementPositionPinLaw", name := "same", desc := "(CCCC)I" } : Jvm.MethodName) method_2_code (4 : Nat) (Option.some Jvm.ClassFile.FieldType.int)).before args0 about1 = true := code_word (m := ⟨1, 1⟩) (meth := k1m1) (c := k1c1) (by decide +kernel) rfl rfl rfl (by decide +kernel)
set_option maxRecDepth 65536 in
theorem w_c14 : (Jvm.Cond.code ({ cls := "com/example/dataflow_to_dispatch/dataflowtodispatch/model/document/XmlElement", name := "position", desc := "()I" } : Jvm.MethodName) prog_109_method_7_code (3 : Nat) (Option.some Jvm.ClassFile.FieldType.int)).before args0 about1 = true := code_word (m := ⟨2, 1⟩) (meth := k2m1) (c := k2c1) (by decide +kernel) rfl rfl rfl (by decide +kernel)
set_option maxRecDepth 65536 in
theorem w_c15 : (Jvm.Cond.code ({ cls := "java/lang/String", name := "equals", desc := "(Ljava/lang/Object;)Z" } : Jvm.MethodName) jdk_42_method_66_code (3 : Nat) (Option.some Jvm.ClassFile.FieldType.boolean)).before args0 about1 = true := code_word (m := ⟨8, 2⟩) (meth := k8m2) (c := k8c2) (by decide +kernel) rfl rfl rfl (by decide +kernel)
set_option maxRecDepth 65536 in
theorem w_c16 : (Jvm.Cond.code ({ cls := "java/lang/StringLatin1", name := "equals", desc := "([B[B)Z" } : Jvm.MethodName) jdk_43_method_13_code (3 : Nat) (Option.some Jvm.ClassFile.FieldType.boolean)).before args0 about1 = true := code_word (m := ⟨19, 1⟩) (meth := k19m1) (c := k19c1) (by decide +kernel) rfl rfl rfl (by decide +kernel)
def codes1 : List Jvm.Cond := [Jvm.Cond.code x code maxLocals ret, Jvm.Cond.code ({ cls := "java/lang/String", name := "<init>", desc := "([C)V" } : Jvm.MethodName) jdk_42_method_3_code (2 : Nat) (Option.none : Option Jvm.ClassFile.FieldType), Jvm.Cond.code ({ cls := "java/lang/String", name := "<init>", desc := "([CIILjava/lang/Void;)V" } : Jvm.MethodName) jdk_42_method_149_code (6 : Nat) (Option.none : Option Jvm.ClassFile.FieldType), Jvm.Cond.code ({ cls := "java/lang/Object", name := "<init>", desc := "()V" } : Jvm.MethodName) object_method_1_code (1 : Nat) (Option.none : Option Jvm.ClassFile.FieldType), Jvm.Cond.code ({ cls := "java/lang/StringUTF16", name := "compress", desc := "([CII)[B" } : Jvm.MethodName) jdk_52_method_16_code (6 : Nat) (Option.some (Jvm.ClassFile.FieldType.array Jvm.ClassFile.FieldType.byte)), Jvm.Cond.code ({ cls := "java/lang/StringUTF16", name := "compress", desc := "([CI[BII)I" } : Jvm.MethodName) jdk_52_method_21_code (7 : Nat) (Option.some Jvm.ClassFile.FieldType.int), Jvm.Cond.code ({ cls := "java/lang/StringUTF16", name := "coderFromArrayLen", desc := "([BI)B" } : Jvm.MethodName) jdk_52_method_15_code (2 : Nat) (Option.some Jvm.ClassFile.FieldType.byte), Jvm.Cond.code ({ cls := "com/example/dataflow_to_dispatch/dataflowtodispatch/model/document/XmlElement", name := "<init>", desc := "(Ljava/lang/String;)V" } : Jvm.MethodName) prog_109_method_1_code (2 : Nat) (Option.none : Option Jvm.ClassFile.FieldType), Jvm.Cond.code ({ cls := "java/util/ArrayList", name := "<init>", desc := "()V" } : Jvm.MethodName) jdk_38_method_2_code (1 : Nat) (Option.none : Option Jvm.ClassFile.FieldType), Jvm.Cond.code ({ cls := "java/util/AbstractList", name := "<init>", desc := "()V" } : Jvm.MethodName) jdk_39_method_1_code (1 : Nat) (Option.none : Option Jvm.ClassFile.FieldType), Jvm.Cond.code ({ cls := "java/util/AbstractCollection", name := "<init>", desc := "()V" } : Jvm.MethodName) jdk_22_method_1_code (1 : Nat) (Option.none : Option Jvm.ClassFile.FieldType), Jvm.Cond.code ({ cls := "com/example/dataflow_to_dispatch/dataflowtodispatch/model/document/XmlElement", name := "append", desc := "(Lcom/example/dataflow_to_dispatch/dataflowtodispatch/model/document/XmlElement;)Lcom/example/dataflow_to_dispatch/dataflowtodispatch/model/document/XmlElement;" } : Jvm.MethodName) prog_109_method_14_code (2 : Nat) (Option.some (Jvm.ClassFile.FieldType.object "com/example/dataflow_to_dispatch/dataflowtodispatch/model/document/XmlElement")), Jvm.Cond.code ({ cls := "com/example/dataflow_to_dispatch/dataflowtodispatch/model/document/XmlElement", name := "linkAfter", desc := "(Lcom/example/dataflow_to_dispatch/dataflowtodispatch/model/document/XmlElement;Lcom/example/dataflow_to_dispatch/dataflowtodispatch/model/document/XmlElement;)V" } : Jvm.MethodName) prog_109_method_15_code (3 : Nat) (Option.none : Option Jvm.ClassFile.FieldType), Jvm.Cond.code ({ cls := "com/example/dataflow_to_dispatch/dataflowtodispatch/model/document/XmlElementPositionPinLaw", name := "same", desc := "(CCCC)I" } : Jvm.MethodName) method_2_code (4 : Nat) (Option.some Jvm.ClassFile.FieldType.int), Jvm.Cond.code ({ cls := "com/example/dataflow_to_dispatch/dataflowtodispatch/model/document/XmlElement", name := "position", desc := "()I" } : Jvm.MethodName) prog_109_method_7_code (3 : Nat) (Option.some Jvm.ClassFile.FieldType.int), Jvm.Cond.code ({ cls := "java/lang/String", name := "equals", desc := "(Ljava/lang/Object;)Z" } : Jvm.MethodName) jdk_42_method_66_code (3 : Nat) (Option.some Jvm.ClassFile.FieldType.boolean), Jvm.Cond.code ({ cls := "java/lang/StringLatin1", name := "equals", desc := "([B[B)Z" } : Jvm.MethodName) jdk_43_method_13_code (3 : Nat) (Option.some Jvm.ClassFile.FieldType.boolean)]
set_option maxRecDepth 65536 in
theorem codes_eq : words1.filter isCode = codes1 := rfl
theorem w_codes : ∀ c ∈ words1.filter isCode, c.before args0 about1 = true := by
  rw [codes_eq]
  intro c hc
  simp only [codes1, List.mem_cons, List.not_mem_nil, or_false] at hc
  rcases hc with rfl | rfl | rfl | rfl | rfl | rfl | rfl | rfl | rfl | rfl | rfl | rfl | rfl | rfl | rfl | rfl | rfl
  · exact w_c0
  · exact w_c1
  · exact w_c2
  · exact w_c3
  · exact w_c4
  · exact w_c5
  · exact w_c6
  · exact w_c7
  · exact w_c8
  · exact w_c9
  · exact w_c10
  · exact w_c11
  · exact w_c12
  · exact w_c13
  · exact w_c14
  · exact w_c15
  · exact w_c16
set_option maxRecDepth 65536 in
theorem w_t1 : (words1.take 24).all (fun c => isCode c || c.before args0 about1) = true := by decide +kernel
set_option maxRecDepth 65536 in
theorem w_t2 : ((words1.drop 24).take 24).all (fun c => isCode c || c.before args0 about1) = true := by decide +kernel
set_option maxRecDepth 65536 in
theorem w_t3 : (((words1.drop 24).drop 24).take 24).all (fun c => isCode c || c.before args0 about1) = true := by decide +kernel
set_option maxRecDepth 65536 in
theorem w_t4 : ((((words1.drop 24).drop 24).drop 24).take 24).all (fun c => isCode c || c.before args0 about1) = true := by decide +kernel
set_option maxRecDepth 65536 in
theorem w_t5 : ((((words1.drop 24).drop 24).drop 24).drop 24).all (fun c => isCode c || c.before args0 about1) = true := by decide +kernel
theorem w_tables : (allAtoms (Jvm.Cond.code x code maxLocals ret :: tables_1)).before args0 about1 = true := by
  rw [allAtoms_all]
  show words1.all (fun c => c.before args0 about1) = true
  refine all_split ?_ w_codes
  rw [← List.take_append_drop 24 words1, List.all_append, w_t1, ← List.take_append_drop 24 (words1.drop 24), List.all_append, w_t2, ← List.take_append_drop 24 ((words1.drop 24).drop 24), List.all_append, w_t3, ← List.take_append_drop 24 (((words1.drop 24).drop 24).drop 24), List.all_append, w_t4, w_t5]
  rfl
set_option maxRecDepth 65536 in
theorem w_rest : rest_1_c.before args0 about1 = true := by decide +kernel
set_option maxRecDepth 65536 in
theorem w_case : (Jvm.Cond.and given_1 narrow_1).before args0 about1 = true := by decide +kernel
theorem w_applies : (headSpec (Jvm.Cond.code x code maxLocals ret :: tables_1) room_1).applies x e0.platform about1 = true :=
  (Spec.applies_iff w_frames).mpr ⟨w_running, w_runnable, w_alone, w_named, w_hears, w_ripe, w_room, w_tables⟩
theorem atStart : AtStart classFile x code maxLocals ret World_1 tables_1 room_1 Calls_1 rest_1 Pre_1 launch0 p0 e0 about1 theMethod args0 below0 :=
  ⟨lists_1, trivial, launch0.admits_env _ _ _, launch0.least_env, fairChoices_fair.cas, fairChoices_fair.clock, w_frames, w_args, w_heap, w_applies, trivial, w_rest, w_case⟩
end start1
theorem witness_1 : WitnessClaimed_1 := ⟨start1.p0, start1.e0, start1.about1, start1.theMethod, start1.args0, start1.below0, start1.atStart⟩
end Jvm.Pilot.@@N@@
