import JvmDerived
import JvmDerived.Pilot.@@N@@Statement
import JvmDerived.Pilot.@@N@@Code
set_option linter.unusedVariables false
set_option linter.unusedSimpArgs false
namespace Jvm.OwnKit
open Sem ClassFile Op Lib Jvm.Stand Jvm.Free Jvm.LawKit Jvm.RoadKit
/-- from S the run comes to a state of which Φ holds -/
def Go (p : Program) (e : Env) (below : List Frame) (Φ : State → Prop) (S : State) : Prop := ∃ u, Steps p.tables e below S u ∧ Φ u
theorem Go.step {p : Program} {e : Env} {below : List Frame} {Φ : State → Prop} {S S' : State} (h : ∀ t, Steps p.tables e below S' t → Steps p.tables e below S t) (k : Go p e below Φ S') : Go p e below Φ S := by
  obtain ⟨u, q, r⟩ := k
  exact ⟨u, h u q, r⟩
theorem Go.trans {p : Program} {e : Env} {below : List Frame} {Φ : State → Prop} {S S' : State} (h : Steps p.tables e below S S') (k : Go p e below Φ S') : Go p e below Φ S := by
  obtain ⟨u, q, r⟩ := k
  exact ⟨u, Steps.trans h q, r⟩
theorem Go.here {p : Program} {e : Env} {below : List Frame} {Φ : State → Prop} {S : State} (k : Φ S) : Go p e below Φ S := ⟨S, Steps.refl _, k⟩
/-- the end of a body -/
def FinQ (below : List Frame) (s : State) (Q : Option Value → Heap → List Loc → Prop) (k n : Nat) (u : State) : Prop :=
  ∃ o, u.status = .running ∧ Ended u below o ∧ ∃ v L, o = .returned v ∧ Q v u.heap L ∧ FrameEnd s o u L k n
theorem Go.done {p : Program} {e : Env} {below : List Frame} {s : State} {Q : Option Value → Heap → List Loc → Prop} {k n : Nat} {S : State} (h : Go p e below (FinQ below s Q k n) S) :
    ∃ s₂ o, Steps p.tables e below S s₂ ∧ s₂.status = .running ∧ Ended s₂ below o ∧ ∃ v L, o = .returned v ∧ Q v s₂.heap L ∧ FrameEnd s o s₂ L k n := by
  obtain ⟨u, q, o, r1, r2, r3⟩ := h
  exact ⟨u, o, q, r1, r2, r3⟩
section New
variable {p : Program} {l : Launch} {e : Env} {R : Room} {s : State} {m : MethodId} {args : Array Value} {below : List Frame} {meth : Method} {c : Code} {T : State} {locs : List Loc} {cells slots : Nat}
/-- the run stands at the frame F, in a heap h -/
def AtF (p : Program) (l : Launch) (e : Env) (R : Room) (s : State) (m : MethodId) (args : Array Value) (below : List Frame) (meth : Method) (c : Code) (n0 cells slots : Nat) (h : Heap) (F : JFrame) (u : State) : Prop :=
  ∃ T' locs', u = T'.setTop F ∧ Stand p l e R s m args below meth c T' locs' cells slots ∧ Fr n0 locs' ∧ T'.heap = h
theorem retG {pc : Nat} {Ls : Array Slot} {w : Value} {t : FieldType} {i : Instr} {rest : List Value} {Q : Option Value → Heap → List Loc → Prop} {k n : Nat}
    (X : Stand p l e R s m args below meth c T locs cells slots) (hx : p.tables.exec = Jvm.exec) (hlocks : meth.locks = false) (hret : meth.sig.returnType = some t) (hn : narrow t w = w)
    (hi : (i = .ireturn ∧ (t = .int ∨ t = .boolean ∨ t = .byte ∨ t = .char ∨ t = .short) ∧ ∃ z, w = .int z) ∨ (i = .lreturn ∧ t = .long ∧ ∃ z, w = .long z) ∨ (i = .dreturn ∧ t = .double ∧ ∃ z, w = .double z) ∨ (i = .freturn ∧ t = .float ∧ ∃ z, w = .float z) ∨ (i = .areturn ∧ t.isReference = true ∧ w.isRef = true))
    (hd : decode c.code pc = .ok (i, 1)) (hQ : Q (some w) T.heap locs) (hc : cells ≤ k) (hs : slots ≤ n) : Go p e below (FinQ below s Q k n) (T.setTop (mkF m pc Ls (w :: rest))) := by
  obtain ⟨fs, hr, hrun, hended, hW, hsame⟩ := X.leave (v := some w) (fun h => by rw [hret] at h; cases h) hlocks
  exact ⟨_, retOut X hx hret hn hi hd hr, _, hrun, hended, _, _, rfl, hQ, ⟨_, rfl⟩, hW, hsame.mono hc hs⟩
theorem retGI {pc : Nat} {Ls : Array Slot} {z : Int32} {rest : List Value} {Q : Option Value → Heap → List Loc → Prop} {k n : Nat}
    (X : Stand p l e R s m args below meth c T locs cells slots) (hx : p.tables.exec = Jvm.exec) (hlocks : meth.locks = false) (hret : meth.sig.returnType = some .int)
    (hd : decode c.code pc = .ok (.ireturn, 1)) (hQ : Q (some (.int z)) T.heap locs) (hc : cells ≤ k) (hs : slots ≤ n) : Go p e below (FinQ below s Q k n) (T.setTop (mkF m pc Ls (.int z :: rest))) :=
  retG X hx hlocks hret rfl (Or.inl ⟨rfl, Or.inl rfl, _, rfl⟩) hd hQ hc hs
theorem retGJ {pc : Nat} {Ls : Array Slot} {z : Int64} {rest : List Value} {Q : Option Value → Heap → List Loc → Prop} {k n : Nat}
    (X : Stand p l e R s m args below meth c T locs cells slots) (hx : p.tables.exec = Jvm.exec) (hlocks : meth.locks = false) (hret : meth.sig.returnType = some .long)
    (hd : decode c.code pc = .ok (.lreturn, 1)) (hQ : Q (some (.long z)) T.heap locs) (hc : cells ≤ k) (hs : slots ≤ n) : Go p e below (FinQ below s Q k n) (T.setTop (mkF m pc Ls (.long z :: rest))) :=
  retG X hx hlocks hret rfl (Or.inr (Or.inl ⟨rfl, rfl, _, rfl⟩)) hd hQ hc hs
theorem retGR {pc : Nat} {Ls : Array Slot} {a : Addr} {t : FieldType} {rest : List Value} {Q : Option Value → Heap → List Loc → Prop} {k n : Nat}
    (X : Stand p l e R s m args below meth c T locs cells slots) (hx : p.tables.exec = Jvm.exec) (hlocks : meth.locks = false) (hret : meth.sig.returnType = some t) (ht : t.isReference = true) (hn : narrow t (.ref a) = .ref a)
    (hd : decode c.code pc = .ok (.areturn, 1)) (hQ : Q (some (.ref a)) T.heap locs) (hc : cells ≤ k) (hs : slots ≤ n) : Go p e below (FinQ below s Q k n) (T.setTop (mkF m pc Ls (.ref a :: rest))) :=
  retG X hx hlocks hret hn (Or.inr (Or.inr (Or.inr (Or.inr ⟨rfl, ht, rfl⟩)))) hd hQ hc hs
theorem retGN {pc : Nat} {Ls : Array Slot} {z z' : Int32} {t : FieldType} {rest : List Value} {Q : Option Value → Heap → List Loc → Prop} {k n : Nat}
    (X : Stand p l e R s m args below meth c T locs cells slots) (hx : p.tables.exec = Jvm.exec) (hlocks : meth.locks = false) (hret : meth.sig.returnType = some t) (ht : t = .boolean ∨ t = .byte ∨ t = .char ∨ t = .short) (hz : nar t z = z')
    (hd : decode c.code pc = .ok (.ireturn, 1)) (hQ : Q (some (.int z')) T.heap locs) (hc : cells ≤ k) (hs : slots ≤ n) : Go p e below (FinQ below s Q k n) (T.setTop (mkF m pc Ls (.int z :: rest))) := by
  subst hz
  obtain ⟨fs, hr, hrun, hended, hW, hsame⟩ := X.leave (v := some (.int (nar t z))) (fun h => by rw [hret] at h; cases h) hlocks
  exact ⟨_, retN X hx hret ht hd hr, _, hrun, hended, _, _, rfl, hQ, ⟨_, rfl⟩, hW, hsame.mono hc hs⟩
theorem retGV {pc : Nat} {Ls : Array Slot} {Q : Option Value → Heap → List Loc → Prop} {k n : Nat}
    (X : Stand p l e R s m args below meth c T locs cells slots) (hx : p.tables.exec = Jvm.exec) (hlocks : meth.locks = false) (hret : meth.sig.returnType = none)
    (hd : decode c.code pc = .ok (.return_, 1)) (hQ : Q none T.heap locs) (hc : cells ≤ k) (hs : slots ≤ n) : Go p e below (FinQ below s Q k n) (T.setTop (mkF m pc Ls [])) := by
  obtain ⟨fs, hr, hrun, hended, hW, hsame⟩ := X.leave (v := none) (fun _ => rfl) hlocks
  exact ⟨_, X.returnOut hx hret hd hr, _, hrun, hended, _, _, rfl, hQ, ⟨_, rfl⟩, hW, hsame.mono hc hs⟩
end New
/-- a body that writes nothing and returns r -/
def QP (r : Value) (h0 : Heap) (n0 : Nat) (v : Option Value) (h : Heap) (L : List Loc) : Prop := v = some r ∧ Fr n0 L ∧ h = h0
def QV (h0 : Heap) (n0 : Nat) (v : Option Value) (h : Heap) (L : List Loc) : Prop := v = none ∧ Fr n0 L ∧ h = h0
def QAI (h0 : Heap) (n0 : Nat) (v : Option Value) (h : Heap) (L : List Loc) : Prop := (∃ z : Int32, v = some (.int z)) ∧ Fr n0 L ∧ h = h0
def QAJ (h0 : Heap) (n0 : Nat) (v : Option Value) (h : Heap) (L : List Loc) : Prop := (∃ z : Int64, v = some (.long z)) ∧ Fr n0 L ∧ h = h0
/-- a law: it returns r and writes nothing old -/
def QL (r : Value) (n0 : Nat) (v : Option Value) (h : Heap) (L : List Loc) : Prop := v = some r ∧ Fr n0 L
theorem remI (x y : Int32) : x - (x / y) * y = x % y := by
  rw [← Int32.toInt_inj, Int32.toInt_sub, Int32.toInt_mul, Int32.toInt_div, Int32.toInt_mod]
  have h := Int.tmod_add_mul_tdiv x.toInt y.toInt
  have r : (x.toInt.tmod y.toInt).bmod (2 ^ 32) = x.toInt.tmod y.toInt := by
    have := Int32.toInt_bmod (x % y)
    rwa [Int32.toInt_mod] at this
  rw [← r]
  have e : ((x.toInt.tdiv y.toInt).bmod (2 ^ 32) * y.toInt).bmod (2 ^ 32) = (x.toInt.tdiv y.toInt * y.toInt).bmod (2 ^ 32) := by simp
  rw [e, Int.sub_bmod_bmod]
  congr 1
  have := Int.mul_comm (x.toInt.tdiv y.toInt) y.toInt
  omega
theorem addI {x y : Int32} (h1 : -2147483648 ≤ x.toInt + y.toInt) (h2 : x.toInt + y.toInt < 2147483648) : (x + y).toInt = x.toInt + y.toInt := by have := c_iadd x y; have := rng32 (x + y); omega
theorem subI {x y : Int32} (h1 : -2147483648 ≤ x.toInt - y.toInt) (h2 : x.toInt - y.toInt < 2147483648) : (x - y).toInt = x.toInt - y.toInt := by have := c_isub x y; have := rng32 (x - y); omega
theorem mulI {x y : Int32} (h1 : -2147483648 ≤ x.toInt * y.toInt) (h2 : x.toInt * y.toInt < 2147483648) : (x * y).toInt = x.toInt * y.toInt := by have := c_imul x y; have := rng32 (x * y); omega
theorem addL {x y : Int64} (h1 : -9223372036854775808 ≤ x.toInt + y.toInt) (h2 : x.toInt + y.toInt < 9223372036854775808) : (x + y).toInt = x.toInt + y.toInt := by have := c_ladd x y; have := rng64 (x + y); omega
theorem subL {x y : Int64} (h1 : -9223372036854775808 ≤ x.toInt - y.toInt) (h2 : x.toInt - y.toInt < 9223372036854775808) : (x - y).toInt = x.toInt - y.toInt := by have := c_lsub x y; have := rng64 (x - y); omega
theorem mulL {x y : Int64} (h1 : -9223372036854775808 ≤ x.toInt * y.toInt) (h2 : x.toInt * y.toInt < 9223372036854775808) : (x * y).toInt = x.toInt * y.toInt := by have := c_lmul x y; have := rng64 (x * y); omega
theorem modI {x y : Int32} (d : Int) (hy : y.toInt = d) (hx : 0 ≤ x.toInt) : (x % y).toInt = x.toInt % d := by rw [Int32.toInt_mod, hy]; exact (tr _ _).1 hx
theorem modL {x y : Int64} (d : Int) (hy : y.toInt = d) (hx : 0 ≤ x.toInt) : (x % y).toInt = x.toInt % d := by rw [Int64.toInt_mod, hy]; exact (tr _ _).1 hx
end Jvm.OwnKit
namespace Jvm.OwnKit
open Sem ClassFile Op Lib Jvm.Stand Jvm.Free Jvm.LawKit Jvm.RoadKit
/-- an array: its length and its elements, by a function -/
def Ary (Z : State) (h : Heap) (a : Addr) (ty : FieldType) (n : Nat) (f : Nat → Value) : Prop := ∃ c : Cell, Arr Z h a c ty ∧ c.slots.size = n ∧ n < 2147483648 ∧ ∀ i, i < n → c.slots[i]? = some (f i)
def upA {α : Type} (f : Nat → α) (j : Nat) (v : α) : Nat → α := fun i => if i = j then v else f i
theorem upA_same {α : Type} (f : Nat → α) (j : Nat) (v : α) : upA f j v j = v := if_pos rfl
theorem upA_ne {α : Type} (f : Nat → α) {j i : Nat} (v : α) (h : i ≠ j) : upA f j v i = f i := if_neg h
section Facts
variable {Z : State} {h h' : Heap} {a b : Addr} {ty : FieldType} {n sl : Nat} {f : Nat → Value} {v : Value} {ws : List Addr} {j : Int32}
theorem Ary.lt (F : Ary Z h a ty n f) : a < h.size := by obtain ⟨c, A, -⟩ := F; exact A.lt
theorem Ary.ext (F : Ary Z h a ty n f) (E : Ext h h') : Ary Z h' a ty n f := by obtain ⟨c, A, r⟩ := F; exact ⟨c, A.ext E, r⟩
theorem Ary.other (F : Ary Z h b ty n f) (W : Wr h h' a sl v) (q : b ≠ a) : Ary Z h' b ty n f := by obtain ⟨c, A, r⟩ := F; exact ⟨c, A.other W q, r⟩
theorem Ary.keep (F : Ary Z h a ty n f) (K : Keep h h' ws) (q : a ∉ ws) : Ary Z h' a ty n f := by obtain ⟨c, A, r⟩ := F; exact ⟨c, ⟨K.2.1 a c A.1 q, A.2⟩, r⟩
theorem Ary.set (F : Ary Z h a ty n f) (W : Wr h h' a sl v) (q : sl < n) : Ary Z h' a ty n (upA f sl v) := by
  obtain ⟨c, A, hs, hn, hf⟩ := F
  obtain ⟨c', e1, -, -, e4, -, e6, e7⟩ := wr_at W A.1
  refine ⟨c', by rw [(e7 rfl).1]; exact A.same W, e4.trans hs, hn, fun i hi => ?_⟩
  by_cases e : i = sl
  · subst e; rw [(e7 rfl).2.1, upA_same]
  · rw [e6 i e, hf i hi, upA_ne _ _ e]
theorem Ary.setI {g : Nat → Int32} {x : Int32} (F : Ary Z h a ty n (fun i => .int (g i))) (W : Wr h h' a sl (.int x)) (q : sl < n) : Ary Z h' a ty n (fun i => .int (upA g sl x i)) := by
  have e : (fun i => Value.int (upA g sl x i)) = upA (fun i => Value.int (g i)) sl (.int x) := by funext i; unfold upA; split <;> rfl
  rw [e]; exact F.set W q
theorem Ary.setJ {g : Nat → Int64} {x : Int64} (F : Ary Z h a ty n (fun i => .long (g i))) (W : Wr h h' a sl (.long x)) (q : sl < n) : Ary Z h' a ty n (fun i => .long (upA g sl x i)) := by
  have e : (fun i => Value.long (upA g sl x i)) = upA (fun i => Value.long (g i)) sl (.long x) := by funext i; unfold upA; split <;> rfl
  rw [e]; exact F.set W q
theorem Ary.congr {f' : Nat → Value} (F : Ary Z h a ty n f) (q : ∀ i, i < n → f i = f' i) : Ary Z h a ty n f' := by
  obtain ⟨c, A, hs, hn, hf⟩ := F
  exact ⟨c, A, hs, hn, fun i hi => by rw [hf i hi, q i hi]⟩
theorem Ary.hin (F : Ary Z h a ty n f) (h0 : ¬ j < 0) (hj : j.toNatClampNeg < n) : ∃ cl, Arr Z h a cl ty ∧ ¬ (j < 0 ∨ cl.slots.size ≤ j.toNatClampNeg) ∧ cl.slots[j.toNatClampNeg]? = some (f j.toNatClampNeg) := by
  obtain ⟨c, A, hs, hn, hf⟩ := F
  exact ⟨c, A, fun q => q.elim h0 (fun r => by omega), hf _ hj⟩
theorem Ary.mk {k : ClassId} {z : Int32} (A : Arr Z h a (newA k ty z) ty) (q : ¬ z < 0) (hn : z.toNatClampNeg = n) : Ary Z h a ty n (fun _ => defaultValue ty) := by
  obtain ⟨c, A', -, hs, -, H, -⟩ := Arv.new A q
  have r := rng32 z
  refine ⟨c, A', hs.trans hn, ?_, fun i hi => ?_⟩
  · rw [← hn]; have := nat_of q; omega
  · have := H i (by rw [hs, hn]; exact hi); simpa using this
end Facts
theorem clamp_nat {k : Nat} (h : k < 2147483648) : (Int32.ofNat k).toNatClampNeg = k := by
  have e : (Int32.ofNat k).toInt = k := Int32.toInt_ofNat_of_lt h
  show (Int32.ofNat k).toInt.toNat = k
  rw [e]; rfl
theorem nat32 {k : Nat} (h : k < 2147483648) : k.toInt32.toInt = k := Int32.toInt_ofNat_of_lt h
section New
variable {p : Program} {l : Launch} {e : Env} {R : Room} {s : State} {m : MethodId} {args : Array Value} {below : List Frame} {meth : Method} {c : Code} {T : State} {locs : List Loc} {cells slots : Nat} {Z : State} {h : Heap} {a : Addr} {n : Nat} {rest : List Value} {g : JFrame} {j : Int32}
theorem ldI {f : Nat → Int32} (X : Stand p l e R s m args below meth c T locs cells slots) (hx : p.tables.exec = Jvm.exec) (hZ : Z.Warmed39 s.vm) (eT : T.heap = h) (F : Ary Z h a .int n (fun i => .int (f i))) (h0 : ¬ j < 0) (hj : j.toNatClampNeg < n)
    (hg : g.method = m) (hs : g.stack = .int j :: .ref a :: rest) (hd : decode c.code g.pc = .ok (.iaload, 1)) : ∀ target, Steps p.tables e below (T.setTop { g with pc := g.pc + 1, stack := .int (f j.toNatClampNeg) :: rest }) target → Steps p.tables e below (T.setTop g) target := fun t k => by
  obtain ⟨cl, A, hin, hat⟩ := F.hin h0 hj
  exact X.iaload hx (by rw [eT]; exact A.1) (State.isArrayOf_alike hZ.alike A.2.1) A.2.2 hin hat hg hs hd t k
theorem ldJ {f : Nat → Int64} (X : Stand p l e R s m args below meth c T locs cells slots) (hx : p.tables.exec = Jvm.exec) (hZ : Z.Warmed39 s.vm) (eT : T.heap = h) (F : Ary Z h a .long n (fun i => .long (f i))) (h0 : ¬ j < 0) (hj : j.toNatClampNeg < n)
    (hg : g.method = m) (hs : g.stack = .int j :: .ref a :: rest) (hd : decode c.code g.pc = .ok (.laload, 1)) : ∀ target, Steps p.tables e below (T.setTop { g with pc := g.pc + 1, stack := .long (f j.toNatClampNeg) :: rest }) target → Steps p.tables e below (T.setTop g) target := fun t k => by
  obtain ⟨cl, A, hin, hat⟩ := F.hin h0 hj
  exact X.laload hx (by rw [eT]; exact A.1) (State.isArrayOf_alike hZ.alike A.2.1) A.2.2 hin hat hg hs hd t k
theorem ldB {f : Nat → Int32} (X : Stand p l e R s m args below meth c T locs cells slots) (hx : p.tables.exec = Jvm.exec) (hZ : Z.Warmed39 s.vm) (eT : T.heap = h) (F : Ary Z h a .byte n (fun i => .int (f i))) (h0 : ¬ j < 0) (hj : j.toNatClampNeg < n)
    (hg : g.method = m) (hs : g.stack = .int j :: .ref a :: rest) (hd : decode c.code g.pc = .ok (.baload, 1)) : ∀ target, Steps p.tables e below (T.setTop { g with pc := g.pc + 1, stack := .int (f j.toNatClampNeg) :: rest }) target → Steps p.tables e below (T.setTop g) target := fun t k => by
  obtain ⟨cl, A, hin, hat⟩ := F.hin h0 hj
  exact X.baloadBytes hx (by rw [eT]; exact A.1) (State.isArrayOf_alike hZ.alike A.2.1) A.2.2 hin hat hg hs hd t k
theorem ldC {f : Nat → Int32} (X : Stand p l e R s m args below meth c T locs cells slots) (hx : p.tables.exec = Jvm.exec) (hZ : Z.Warmed39 s.vm) (eT : T.heap = h) (F : Ary Z h a .char n (fun i => .int (f i))) (h0 : ¬ j < 0) (hj : j.toNatClampNeg < n)
    (hg : g.method = m) (hs : g.stack = .int j :: .ref a :: rest) (hd : decode c.code g.pc = .ok (.caload, 1)) : ∀ target, Steps p.tables e below (T.setTop { g with pc := g.pc + 1, stack := .int (f j.toNatClampNeg) :: rest }) target → Steps p.tables e below (T.setTop g) target := fun t k => by
  obtain ⟨cl, A, hin, hat⟩ := F.hin h0 hj
  exact X.caload hx (by rw [eT]; exact A.1) (State.isArrayOf_alike hZ.alike A.2.1) A.2.2 hin hat hg hs hd t k
theorem ldR {f : Nat → Value} {ty : FieldType} (X : Stand p l e R s m args below meth c T locs cells slots) (hx : p.tables.exec = Jvm.exec) (hZ : Z.Warmed39 s.vm) (eT : T.heap = h) (F : Ary Z h a ty n f) (hty : ty.isReference = true) (h0 : ¬ j < 0) (hj : j.toNatClampNeg < n)
    (hg : g.method = m) (hs : g.stack = .int j :: .ref a :: rest) (hd : decode c.code g.pc = .ok (.aaload, 1)) : ∀ target, Steps p.tables e below (T.setTop { g with pc := g.pc + 1, stack := f j.toNatClampNeg :: rest }) target → Steps p.tables e below (T.setTop g) target := fun t k => by
  obtain ⟨cl, A, hin, hat⟩ := F.hin h0 hj
  exact X.aaload hx (by rw [eT]; exact A.1) (State.isArrayOf_alike hZ.alike A.2.1) hty A.2.2 hin hat hg hs hd t k
theorem lenA {f : Nat → Value} {ty : FieldType} (X : Stand p l e R s m args below meth c T locs cells slots) (hx : p.tables.exec = Jvm.exec) (hZ : Z.Warmed39 s.vm) (eT : T.heap = h) (F : Ary Z h a ty n f)
    (hg : g.method = m) (hs : g.stack = .ref a :: rest) (hd : decode c.code g.pc = .ok (.arraylength, 1)) : ∀ target, Steps p.tables e below (T.setTop { g with pc := g.pc + 1, stack := .int n.toInt32 :: rest }) target → Steps p.tables e below (T.setTop g) target := fun t k => by
  obtain ⟨cl, A, hs', hn, -⟩ := F
  subst hs'
  exact X.arraylength hx (by rw [eT]; exact A.1) (State.isArrayOf_alike hZ.alike A.2.1) hg hs hd t k
theorem lenAz {f : Nat → Value} {ty : FieldType} {z : Int32} (X : Stand p l e R s m args below meth c T locs cells slots) (hx : p.tables.exec = Jvm.exec) (hZ : Z.Warmed39 s.vm) (eT : T.heap = h) (F : Ary Z h a ty n f) (hz : n.toInt32 = z)
    (hg : g.method = m) (hs : g.stack = .ref a :: rest) (hd : decode c.code g.pc = .ok (.arraylength, 1)) : ∀ target, Steps p.tables e below (T.setTop { g with pc := g.pc + 1, stack := .int z :: rest }) target → Steps p.tables e below (T.setTop g) target := fun t k => by
  subst hz
  exact lenA X hx hZ eT F hg hs hd t k
end New
theorem len32 {z : Int32} (q : ¬ z < 0) : z.toNatClampNeg.toInt32 = z := by
  have r := rng32 z
  have e := nat_of q
  apply Int32.toInt_inj.mp
  rw [nat32 (by omega)]; omega
theorem succ32 (j : Nat) : Int32.ofNat j + 1 = Int32.ofNat (j + 1) := by rw [Int32.ofNat_add]; rfl
theorem of_lt {j n : Nat} (hj : j < 2147483648) (hn : n < 2147483648) : Int32.ofNat j < n.toInt32 ↔ j < n := by
  rw [Int32.lt_iff_toInt_lt, show (Int32.ofNat j).toInt = j from Int32.toInt_ofNat_of_lt hj, nat32 hn]; omega
theorem of_nn {j : Nat} (hj : j < 2147483648) : ¬ Int32.ofNat j < 0 := by
  rw [Int32.lt_iff_toInt_lt, show (Int32.ofNat j).toInt = j from Int32.toInt_ofNat_of_lt hj, show (0 : Int32).toInt = 0 by decide]; omega
theorem Ary.len {Z : State} {h : Heap} {a : Addr} {ty : FieldType} {n : Nat} {f : Nat → Value} (F : Ary Z h a ty n f) : n < 2147483648 := by obtain ⟨c, A, hs, hn, -⟩ := F; exact hn
end Jvm.OwnKit
namespace Jvm.Pilot.@@N@@
open Jvm Jvm.ClassFile Sem Op Lib Jvm.Free Jvm.Stand Jvm.LawKit Jvm.RoadKit Jvm.OwnKit Bundle Jvm.Pilot.@@N@@.Jvm.D

def primT (i : Nat) : Int32 := ([2013265921, 1811939329, 469762049] : List Int32).getD i 0
def genT (i : Nat) : Int32 := ([31, 13, 3] : List Int32).getD i 0
/-- one product, reduced as Montgomery does -/
def mpF (v f p ni : Int32) : Int32 :=
  ((((((v.toInt64 * f.toInt64) + ((((((v.toInt64 * f.toInt64)).toInt32 * ni).toInt64) &&& (4294967295 : Int64)) * (p.toInt64))).toUInt64 >>> ((32 : Int32) &&& 0x3f).toInt64.toUInt64).toInt64).toInt32) - p) + ((((((((v.toInt64 * f.toInt64) + ((((((v.toInt64 * f.toInt64)).toInt32 * ni).toInt64) &&& (4294967295 : Int64)) * (p.toInt64))).toUInt64 >>> ((32 : Int32) &&& 0x3f).toInt64.toUInt64).toInt64).toInt32) - p) >>> ((31 : Int32) &&& 31)) &&& p)
theorem own_half (e : Int64) (h : (0 : Int64) < e) : (e >>> ((1 : Int32) &&& 0x3f).toInt64).toInt.toNat < e.toInt.toNat := by
  rw [Int64.lt_iff_toInt_lt, show (0 : Int64).toInt = 0 by decide] at h
  rw [c_lshr e 1 1 (by decide)]
  omega

theorem d3_0 : decode prog_48_method_13_code 0 = .ok (.lconst 1, 1) := by decide +kernel
theorem d3_1 : decode prog_48_method_13_code 1 = .ok (.lstore 5, 2) := by decide +kernel
theorem d3_3 : decode prog_48_method_13_code 3 = .ok (.lload_n 0, 1) := by decide +kernel
theorem d3_4 : decode prog_48_method_13_code 4 = .ok (.iload 4, 2) := by decide +kernel
theorem d3_6 : decode prog_48_method_13_code 6 = .ok (.i2l, 1) := by decide +kernel
theorem d3_7 : decode prog_48_method_13_code 7 = .ok (.lrem, 1) := by decide +kernel
theorem d3_8 : decode prog_48_method_13_code 8 = .ok (.lstore 7, 2) := by decide +kernel
theorem d3_10 : decode prog_48_method_13_code 10 = .ok (.lload_n 2, 1) := by decide +kernel
theorem d3_11 : decode prog_48_method_13_code 11 = .ok (.lstore 9, 2) := by decide +kernel
theorem d3_13 : decode prog_48_method_13_code 13 = .ok (.lload 9, 2) := by decide +kernel
theorem d3_15 : decode prog_48_method_13_code 15 = .ok (.lconst 0, 1) := by decide +kernel
theorem d3_16 : decode prog_48_method_13_code 16 = .ok (.lcmp, 1) := by decide +kernel
theorem d3_17 : decode prog_48_method_13_code 17 = .ok (.ifCond .le 43, 3) := by decide +kernel
theorem d3_20 : decode prog_48_method_13_code 20 = .ok (.lload 9, 2) := by decide +kernel
theorem d3_22 : decode prog_48_method_13_code 22 = .ok (.lconst 1, 1) := by decide +kernel
theorem d3_23 : decode prog_48_method_13_code 23 = .ok (.land, 1) := by decide +kernel
theorem d3_24 : decode prog_48_method_13_code 24 = .ok (.lconst 1, 1) := by decide +kernel
theorem d3_25 : decode prog_48_method_13_code 25 = .ok (.lcmp, 1) := by decide +kernel
theorem d3_26 : decode prog_48_method_13_code 26 = .ok (.ifCond .ne 14, 3) := by decide +kernel
theorem d3_29 : decode prog_48_method_13_code 29 = .ok (.lload 5, 2) := by decide +kernel
theorem d3_31 : decode prog_48_method_13_code 31 = .ok (.lload 7, 2) := by decide +kernel
theorem d3_33 : decode prog_48_method_13_code 33 = .ok (.lmul, 1) := by decide +kernel
theorem d3_34 : decode prog_48_method_13_code 34 = .ok (.iload 4, 2) := by decide +kernel
theorem d3_36 : decode prog_48_method_13_code 36 = .ok (.i2l, 1) := by decide +kernel
theorem d3_37 : decode prog_48_method_13_code 37 = .ok (.lrem, 1) := by decide +kernel
theorem d3_38 : decode prog_48_method_13_code 38 = .ok (.lstore 5, 2) := by decide +kernel
theorem d3_40 : decode prog_48_method_13_code 40 = .ok (.lload 7, 2) := by decide +kernel
theorem d3_42 : decode prog_48_method_13_code 42 = .ok (.lload 7, 2) := by decide +kernel
theorem d3_44 : decode prog_48_method_13_code 44 = .ok (.lmul, 1) := by decide +kernel
theorem d3_45 : decode prog_48_method_13_code 45 = .ok (.iload 4, 2) := by decide +kernel
theorem d3_47 : decode prog_48_method_13_code 47 = .ok (.i2l, 1) := by decide +kernel
theorem d3_48 : decode prog_48_method_13_code 48 = .ok (.lrem, 1) := by decide +kernel
theorem d3_49 : decode prog_48_method_13_code 49 = .ok (.lstore 7, 2) := by decide +kernel
theorem d3_51 : decode prog_48_method_13_code 51 = .ok (.lload 9, 2) := by decide +kernel
theorem d3_53 : decode prog_48_method_13_code 53 = .ok (.iconst 1, 1) := by decide +kernel
theorem d3_54 : decode prog_48_method_13_code 54 = .ok (.lshr, 1) := by decide +kernel
theorem d3_55 : decode prog_48_method_13_code 55 = .ok (.lstore 9, 2) := by decide +kernel
theorem d3_57 : decode prog_48_method_13_code 57 = .ok (.goto (-44), 3) := by decide +kernel
theorem d3_60 : decode prog_48_method_13_code 60 = .ok (.lload 5, 2) := by decide +kernel
theorem d3_62 : decode prog_48_method_13_code 62 = .ok (.lreturn, 1) := by decide +kernel
theorem ef_3 (m : MethodId) (q1 : Int64) (q2 : Int64) (p3 : Int32) : entryFrame m #[(.long q1), (.long q2), (.int p3)] 11 = mkF m 0 #[.val (.long q1), .second, .val (.long q2), .second, .val (.int p3), .unset, .unset, .unset, .unset, .unset, .unset] [] := by first | (simp [entryFrame, mkF, argsToLocals, Value.category]; done) | rfl
theorem pn_0 : plainName "com/example/tinwire/tinwire/json/Transform" = true := by first | (simp [plainName, overriddenIn]; done) | decide +kernel
set_option maxRecDepth 65536 in
set_option maxHeartbeats 40000000 in
theorem rm3 (l : Launch) (Z : State) (a0 : Array Value) (hw : ∀ d ∈ tables_1, d.before a0 Z = true) (ws : List Jvm.Cond) (q1 : Int64) (q2 : Int64) (p3 : Int32) (h0 : Heap) (n0 : Nat) (Z0 : n0 ≤ h0.size) (hnz7 : ¬ ((p3.toInt64) = (0 : Int64))) (hnz37 : ¬ ((p3.toInt64) = (0 : Int64))) (hnz48 : ¬ ((p3.toInt64) = (0 : Int64))) :
    MetFree l (⟨"com/example/tinwire/tinwire/json/Transform", "power", "(JJI)J"⟩ : MethodName) (head1 (Jvm.Cond.code (⟨"com/example/tinwire/tinwire/json/Transform", "power", "(JJI)J"⟩ : MethodName) prog_48_method_13_code 11 (some .long) :: ws) ({ frames := 0, cells := 0, slots := 0, locals := 0 } : Room)) (fun a U => a = #[(.long q1), (.long q2), (.int p3)] ∧ Z.Warmed39 U.vm ∧ U.heap = h0) (fun _ _ _ _ _ => True) (fun _ U o U' => ∃ v L, o = .returned v ∧ QAJ h0 n0 v U'.heap L ∧ FrameEnd U o U' L ({ frames := 0, cells := 0, slots := 0, locals := 0 } : Room).cells ({ frames := 0, cells := 0, slots := 0, locals := 0 } : Room).slots) := by
  refine MetFree.of_bodySF (plainFor_of_name pn_0) hisR ?_
  intro p e s m args below meth c s₁ Bd hml0 hP hK
  obtain ⟨rfl, hZ, hh⟩ := hP
  have hx := Bd.exec
  have hby := Bd.bytes
  have hml : c.maxLocals = 11 := hml0
  have hown : s.vm.findClass "com/example/tinwire/tinwire/json/Transform" = some m.cls := findClass_of_methodNamed Bd.named
  have hnm := (name_of_methodNamed Bd.named Bd.method).1
  have X0 : Stand p l e ({ frames := 0, cells := 0, slots := 0, locals := 0 } : Room) s m #[(.long q1), (.long q2), (.int p3)] below meth c s₁ [] 0 0 := Stand.of_body Bd
  have e0 : s₁.heap = h0 := by rw [← hh, Bd.state]; rfl
  have N0 := Fr.nil n0
  refine Go.done (Go.step (fun t k => castTop (ef_3 m q1 q2 p3) k) ?_)
  have KK0 : Keep h0 h0 [] := Keep.refl _ _
  show Go p e below _ (s₁.setTop (mkF m 0 #[.val (.long q1), .second, .val (.long q2), .second, .val (.int p3), .unset, .unset, .unset, .unset, .unset, .unset] []))
  refine Go.step (fun t k => XS.lconst X0.here hx rfl (hb hby d3_0)  k) ?_
  show Go p e below _ (s₁.setTop (mkF m 1 #[.val (.long q1), .second, .val (.long q2), .second, .val (.int p3), .unset, .unset, .unset, .unset, .unset, .unset] [(.long (1 : Int64))]))
  refine Go.step (fun t k => XS.lstore X0.here hx rfl (hb hby d3_1) rfl (l' := #[.val (.long q1), .second, .val (.long q2), .second, .val (.int p3), .val (.long (1 : Int64)), .second, .unset, .unset, .unset, .unset]) rfl k) ?_
  show Go p e below _ (s₁.setTop (mkF m 3 #[.val (.long q1), .second, .val (.long q2), .second, .val (.int p3), .val (.long (1 : Int64)), .second, .unset, .unset, .unset, .unset] []))
  refine Go.step (fun t k => XS.lloadN X0.here hx rfl (hb hby d3_3) rfl k) ?_
  show Go p e below _ (s₁.setTop (mkF m 4 #[.val (.long q1), .second, .val (.long q2), .second, .val (.int p3), .val (.long (1 : Int64)), .second, .unset, .unset, .unset, .unset] [(.long q1)]))
  refine Go.step (fun t k => XS.iload X0.here hx rfl (hb hby d3_4) rfl k) ?_
  show Go p e below _ (s₁.setTop (mkF m 6 #[.val (.long q1), .second, .val (.long q2), .second, .val (.int p3), .val (.long (1 : Int64)), .second, .unset, .unset, .unset, .unset] [(.int p3), (.long q1)]))
  refine Go.step (fun t k => XS.i2l X0.here hx rfl (hb hby d3_6) rfl k) ?_
  show Go p e below _ (s₁.setTop (mkF m 7 #[.val (.long q1), .second, .val (.long q2), .second, .val (.int p3), .val (.long (1 : Int64)), .second, .unset, .unset, .unset, .unset] [(.long (p3.toInt64)), (.long q1)]))
  refine Go.step (fun t (k : Steps p.tables e below (s₁.setTop (mkF m 8 #[.val (.long q1), .second, .val (.long q2), .second, .val (.int p3), .val (.long (1 : Int64)), .second, .unset, .unset, .unset, .unset] [(.long (q1 % (p3.toInt64)))])) t) => XS.lrem X0.here hx rfl (hb hby d3_7) rfl hnz7 (by rw [lrem_mod]; exact k)) ?_
  show Go p e below _ (s₁.setTop (mkF m 8 #[.val (.long q1), .second, .val (.long q2), .second, .val (.int p3), .val (.long (1 : Int64)), .second, .unset, .unset, .unset, .unset] [(.long (q1 % (p3.toInt64)))]))
  obtain ⟨v4, hv4⟩ : ∃ z : Int64, z = (q1 % (p3.toInt64)) := ⟨_, rfl⟩
  rw [← hv4]
  show Go p e below _ (s₁.setTop (mkF m 8 #[.val (.long q1), .second, .val (.long q2), .second, .val (.int p3), .val (.long (1 : Int64)), .second, .unset, .unset, .unset, .unset] [(.long v4)]))
  refine Go.step (fun t k => XS.lstore X0.here hx rfl (hb hby d3_8) rfl (l' := #[.val (.long q1), .second, .val (.long q2), .second, .val (.int p3), .val (.long (1 : Int64)), .second, .val (.long v4), .second, .unset, .unset]) rfl k) ?_
  show Go p e below _ (s₁.setTop (mkF m 10 #[.val (.long q1), .second, .val (.long q2), .second, .val (.int p3), .val (.long (1 : Int64)), .second, .val (.long v4), .second, .unset, .unset] []))
  refine Go.step (fun t k => XS.lloadN X0.here hx rfl (hb hby d3_10) rfl k) ?_
  show Go p e below _ (s₁.setTop (mkF m 11 #[.val (.long q1), .second, .val (.long q2), .second, .val (.int p3), .val (.long (1 : Int64)), .second, .val (.long v4), .second, .unset, .unset] [(.long q2)]))
  refine Go.step (fun t k => XS.lstore X0.here hx rfl (hb hby d3_11) rfl (l' := #[.val (.long q1), .second, .val (.long q2), .second, .val (.int p3), .val (.long (1 : Int64)), .second, .val (.long v4), .second, .val (.long q2), .second]) rfl k) ?_
  show Go p e below _ (s₁.setTop (mkF m 13 #[.val (.long q1), .second, .val (.long q2), .second, .val (.int p3), .val (.long (1 : Int64)), .second, .val (.long v4), .second, .val (.long q2), .second] []))
  have LOOP13 : ∀ (mm : Nat) (res : Int64) (base : Int64) (ex : Int64) (Tl5 : State) (Ll5 : List Loc) (hmm : ex.toInt.toNat = mm) (Xl5 : Stand p l e ({ frames := 0, cells := 0, slots := 0, locals := 0 } : Room) s m #[(.long q1), (.long q2), (.int p3)] below meth c Tl5 Ll5 0 0) (Nl5 : Fr n0 Ll5) (el5 : Tl5.heap = h0), Go p e below (FinQ below s (QAJ h0 n0) ({ frames := 0, cells := 0, slots := 0, locals := 0 } : Room).cells ({ frames := 0, cells := 0, slots := 0, locals := 0 } : Room).slots) (Tl5.setTop (mkF m 13 #[.val (.long q1), .second, .val (.long q2), .second, .val (.int p3), .val (.long res), .second, .val (.long base), .second, .val (.long ex), .second] [])) := by
    intro mm
    induction mm using Nat.strongRecOn with
    | _ mm ih =>
      intro res base ex Tl5 Ll5 hmm Xl5 Nl5 el5
      show Go p e below _ (Tl5.setTop (mkF m 13 #[.val (.long q1), .second, .val (.long q2), .second, .val (.int p3), .val (.long res), .second, .val (.long base), .second, .val (.long ex), .second] []))
      refine Go.step (fun t k => XS.lload Xl5.here hx rfl (hb hby d3_13) rfl k) ?_
      show Go p e below _ (Tl5.setTop (mkF m 15 #[.val (.long q1), .second, .val (.long q2), .second, .val (.int p3), .val (.long res), .second, .val (.long base), .second, .val (.long ex), .second] [(.long ex)]))
      refine Go.step (fun t k => XS.lconst Xl5.here hx rfl (hb hby d3_15)  k) ?_
      show Go p e below _ (Tl5.setTop (mkF m 16 #[.val (.long q1), .second, .val (.long q2), .second, .val (.int p3), .val (.long res), .second, .val (.long base), .second, .val (.long ex), .second] [(.long (0 : Int64)), (.long ex)]))
      refine Go.step (fun t k => XS.lcmp Xl5.here hx rfl (hb hby d3_16) rfl k) ?_
      show Go p e below _ (Tl5.setTop (mkF m 17 #[.val (.long q1), .second, .val (.long q2), .second, .val (.int p3), .val (.long res), .second, .val (.long base), .second, .val (.long ex), .second] [(.int (lcmpW ex (0 : Int64)))]))
      by_cases hc6 : (0 : Int64) < ex
      · refine Go.step (fun t k => XS.ifNo Xl5.here hx rfl (hb hby d3_17) rfl ((if0 _ _).trans (tlt ((lw_gt _ _).mpr hc6)).2.2.2) k) ?_
        show Go p e below _ (Tl5.setTop (mkF m 20 #[.val (.long q1), .second, .val (.long q2), .second, .val (.int p3), .val (.long res), .second, .val (.long base), .second, .val (.long ex), .second] []))
        refine Go.step (fun t k => XS.lload Xl5.here hx rfl (hb hby d3_20) rfl k) ?_
        show Go p e below _ (Tl5.setTop (mkF m 22 #[.val (.long q1), .second, .val (.long q2), .second, .val (.int p3), .val (.long res), .second, .val (.long base), .second, .val (.long ex), .second] [(.long ex)]))
        refine Go.step (fun t k => XS.lconst Xl5.here hx rfl (hb hby d3_22)  k) ?_
        show Go p e below _ (Tl5.setTop (mkF m 23 #[.val (.long q1), .second, .val (.long q2), .second, .val (.int p3), .val (.long res), .second, .val (.long base), .second, .val (.long ex), .second] [(.long (1 : Int64)), (.long ex)]))
        refine Go.step (fun t k => XS.land Xl5.here hx rfl (hb hby d3_23) rfl k) ?_
        show Go p e below _ (Tl5.setTop (mkF m 24 #[.val (.long q1), .second, .val (.long q2), .second, .val (.int p3), .val (.long res), .second, .val (.long base), .second, .val (.long ex), .second] [(.long (ex &&& (1 : Int64)))]))
        refine Go.step (fun t k => XS.lconst Xl5.here hx rfl (hb hby d3_24)  k) ?_
        show Go p e below _ (Tl5.setTop (mkF m 25 #[.val (.long q1), .second, .val (.long q2), .second, .val (.int p3), .val (.long res), .second, .val (.long base), .second, .val (.long ex), .second] [(.long (1 : Int64)), (.long (ex &&& (1 : Int64)))]))
        refine Go.step (fun t k => XS.lcmp Xl5.here hx rfl (hb hby d3_25) rfl k) ?_
        show Go p e below _ (Tl5.setTop (mkF m 26 #[.val (.long q1), .second, .val (.long q2), .second, .val (.int p3), .val (.long res), .second, .val (.long base), .second, .val (.long ex), .second] [(.int (lcmpW (ex &&& (1 : Int64)) (1 : Int64)))]))
        obtain ⟨v9, hv9⟩ : ∃ z : Int64, z = (if (ex &&& (1 : Int64)) = (1 : Int64) then ((res * base) % (p3.toInt64)) else res) := ⟨_, rfl⟩
        have J26 : Go p e below (AtF p l e ({ frames := 0, cells := 0, slots := 0, locals := 0 } : Room) s m #[(.long q1), (.long q2), (.int p3)] below meth c n0 0 0 h0 (mkF m 40 #[.val (.long q1), .second, .val (.long q2), .second, .val (.int p3), .val (.long v9), .second, .val (.long base), .second, .val (.long ex), .second] [])) (Tl5.setTop (mkF m 26 #[.val (.long q1), .second, .val (.long q2), .second, .val (.int p3), .val (.long res), .second, .val (.long base), .second, .val (.long ex), .second] [(.int (lcmpW (ex &&& (1 : Int64)) (1 : Int64)))])) := by
          by_cases hc7 : (ex &&& (1 : Int64)) = (1 : Int64)
          · refine Go.step (fun t k => XS.ifNo Xl5.here hx rfl (hb hby d3_26) rfl ((if0 _ _).trans (teq ((lw_eq _ _).mpr hc7)).2) k) ?_
            show Go p e below _ (Tl5.setTop (mkF m 29 #[.val (.long q1), .second, .val (.long q2), .second, .val (.int p3), .val (.long res), .second, .val (.long base), .second, .val (.long ex), .second] []))
            refine Go.step (fun t k => XS.lload Xl5.here hx rfl (hb hby d3_29) rfl k) ?_
            show Go p e below _ (Tl5.setTop (mkF m 31 #[.val (.long q1), .second, .val (.long q2), .second, .val (.int p3), .val (.long res), .second, .val (.long base), .second, .val (.long ex), .second] [(.long res)]))
            refine Go.step (fun t k => XS.lload Xl5.here hx rfl (hb hby d3_31) rfl k) ?_
            show Go p e below _ (Tl5.setTop (mkF m 33 #[.val (.long q1), .second, .val (.long q2), .second, .val (.int p3), .val (.long res), .second, .val (.long base), .second, .val (.long ex), .second] [(.long base), (.long res)]))
            refine Go.step (fun t k => XS.lmul Xl5.here hx rfl (hb hby d3_33) rfl k) ?_
            show Go p e below _ (Tl5.setTop (mkF m 34 #[.val (.long q1), .second, .val (.long q2), .second, .val (.int p3), .val (.long res), .second, .val (.long base), .second, .val (.long ex), .second] [(.long (res * base))]))
            refine Go.step (fun t k => XS.iload Xl5.here hx rfl (hb hby d3_34) rfl k) ?_
            show Go p e below _ (Tl5.setTop (mkF m 36 #[.val (.long q1), .second, .val (.long q2), .second, .val (.int p3), .val (.long res), .second, .val (.long base), .second, .val (.long ex), .second] [(.int p3), (.long (res * base))]))
            refine Go.step (fun t k => XS.i2l Xl5.here hx rfl (hb hby d3_36) rfl k) ?_
            show Go p e below _ (Tl5.setTop (mkF m 37 #[.val (.long q1), .second, .val (.long q2), .second, .val (.int p3), .val (.long res), .second, .val (.long base), .second, .val (.long ex), .second] [(.long (p3.toInt64)), (.long (res * base))]))
            refine Go.step (fun t (k : Steps p.tables e below (Tl5.setTop (mkF m 38 #[.val (.long q1), .second, .val (.long q2), .second, .val (.int p3), .val (.long res), .second, .val (.long base), .second, .val (.long ex), .second] [(.long ((res * base) % (p3.toInt64)))])) t) => XS.lrem Xl5.here hx rfl (hb hby d3_37) rfl hnz37 (by rw [lrem_mod]; exact k)) ?_
            show Go p e below _ (Tl5.setTop (mkF m 38 #[.val (.long q1), .second, .val (.long q2), .second, .val (.int p3), .val (.long res), .second, .val (.long base), .second, .val (.long ex), .second] [(.long ((res * base) % (p3.toInt64)))]))
            obtain ⟨v8, hv8⟩ : ∃ z : Int64, z = ((res * base) % (p3.toInt64)) := ⟨_, rfl⟩
            rw [← hv8]
            show Go p e below _ (Tl5.setTop (mkF m 38 #[.val (.long q1), .second, .val (.long q2), .second, .val (.int p3), .val (.long res), .second, .val (.long base), .second, .val (.long ex), .second] [(.long v8)]))
            refine Go.step (fun t k => XS.lstore Xl5.here hx rfl (hb hby d3_38) rfl (l' := #[.val (.long q1), .second, .val (.long q2), .second, .val (.int p3), .val (.long v8), .second, .val (.long base), .second, .val (.long ex), .second]) rfl k) ?_
            show Go p e below _ (Tl5.setTop (mkF m 40 #[.val (.long q1), .second, .val (.long q2), .second, .val (.int p3), .val (.long v8), .second, .val (.long base), .second, .val (.long ex), .second] []))
            subst hv8
            exact Go.here ⟨_, _, by simp only [hv9, if_pos hc7], Xl5, Nl5, el5⟩
          · refine Go.step (fun t k => XS.ifYes Xl5.here hx rfl (pc0 := 26) (pc' := 40) rfl (hb hby d3_26) rfl ((if0 _ _).trans (feq (fun q => hc7 ((lw_eq _ _).mp q))).2) (by decide) (by decide) k) ?_
            show Go p e below _ (Tl5.setTop (mkF m 40 #[.val (.long q1), .second, .val (.long q2), .second, .val (.int p3), .val (.long res), .second, .val (.long base), .second, .val (.long ex), .second] []))
            exact Go.here ⟨_, _, by simp only [hv9, if_neg hc7], Xl5, Nl5, el5⟩
        obtain ⟨_, st10, T10, Lj10, rfl, X10, N10, e10⟩ := J26
        refine Go.trans st10 ?_
        show Go p e below _ (T10.setTop (mkF m 40 #[.val (.long q1), .second, .val (.long q2), .second, .val (.int p3), .val (.long v9), .second, .val (.long base), .second, .val (.long ex), .second] []))
        refine Go.step (fun t k => XS.lload X10.here hx rfl (hb hby d3_40) rfl k) ?_
        show Go p e below _ (T10.setTop (mkF m 42 #[.val (.long q1), .second, .val (.long q2), .second, .val (.int p3), .val (.long v9), .second, .val (.long base), .second, .val (.long ex), .second] [(.long base)]))
        refine Go.step (fun t k => XS.lload X10.here hx rfl (hb hby d3_42) rfl k) ?_
        show Go p e below _ (T10.setTop (mkF m 44 #[.val (.long q1), .second, .val (.long q2), .second, .val (.int p3), .val (.long v9), .second, .val (.long base), .second, .val (.long ex), .second] [(.long base), (.long base)]))
        refine Go.step (fun t k => XS.lmul X10.here hx rfl (hb hby d3_44) rfl k) ?_
        show Go p e below _ (T10.setTop (mkF m 45 #[.val (.long q1), .second, .val (.long q2), .second, .val (.int p3), .val (.long v9), .second, .val (.long base), .second, .val (.long ex), .second] [(.long (base * base))]))
        refine Go.step (fun t k => XS.iload X10.here hx rfl (hb hby d3_45) rfl k) ?_
        show Go p e below _ (T10.setTop (mkF m 47 #[.val (.long q1), .second, .val (.long q2), .second, .val (.int p3), .val (.long v9), .second, .val (.long base), .second, .val (.long ex), .second] [(.int p3), (.long (base * base))]))
        refine Go.step (fun t k => XS.i2l X10.here hx rfl (hb hby d3_47) rfl k) ?_
        show Go p e below _ (T10.setTop (mkF m 48 #[.val (.long q1), .second, .val (.long q2), .second, .val (.int p3), .val (.long v9), .second, .val (.long base), .second, .val (.long ex), .second] [(.long (p3.toInt64)), (.long (base * base))]))
        refine Go.step (fun t (k : Steps p.tables e below (T10.setTop (mkF m 49 #[.val (.long q1), .second, .val (.long q2), .second, .val (.int p3), .val (.long v9), .second, .val (.long base), .second, .val (.long ex), .second] [(.long ((base * base) % (p3.toInt64)))])) t) => XS.lrem X10.here hx rfl (hb hby d3_48) rfl hnz48 (by rw [lrem_mod]; exact k)) ?_
        show Go p e below _ (T10.setTop (mkF m 49 #[.val (.long q1), .second, .val (.long q2), .second, .val (.int p3), .val (.long v9), .second, .val (.long base), .second, .val (.long ex), .second] [(.long ((base * base) % (p3.toInt64)))]))
        obtain ⟨v11, hv11⟩ : ∃ z : Int64, z = ((base * base) % (p3.toInt64)) := ⟨_, rfl⟩
        rw [← hv11]
        show Go p e below _ (T10.setTop (mkF m 49 #[.val (.long q1), .second, .val (.long q2), .second, .val (.int p3), .val (.long v9), .second, .val (.long base), .second, .val (.long ex), .second] [(.long v11)]))
        refine Go.step (fun t k => XS.lstore X10.here hx rfl (hb hby d3_49) rfl (l' := #[.val (.long q1), .second, .val (.long q2), .second, .val (.int p3), .val (.long v9), .second, .val (.long v11), .second, .val (.long ex), .second]) rfl k) ?_
        show Go p e below _ (T10.setTop (mkF m 51 #[.val (.long q1), .second, .val (.long q2), .second, .val (.int p3), .val (.long v9), .second, .val (.long v11), .second, .val (.long ex), .second] []))
        refine Go.step (fun t k => XS.lload X10.here hx rfl (hb hby d3_51) rfl k) ?_
        show Go p e below _ (T10.setTop (mkF m 53 #[.val (.long q1), .second, .val (.long q2), .second, .val (.int p3), .val (.long v9), .second, .val (.long v11), .second, .val (.long ex), .second] [(.long ex)]))
        refine Go.step (fun t k => XS.iconst X10.here hx rfl (hb hby d3_53)  k) ?_
        show Go p e below _ (T10.setTop (mkF m 54 #[.val (.long q1), .second, .val (.long q2), .second, .val (.int p3), .val (.long v9), .second, .val (.long v11), .second, .val (.long ex), .second] [(.int (1 : Int32)), (.long ex)]))
        refine Go.step (fun t k => XS.lshr X10.here hx rfl (hb hby d3_54) rfl k) ?_
        show Go p e below _ (T10.setTop (mkF m 55 #[.val (.long q1), .second, .val (.long q2), .second, .val (.int p3), .val (.long v9), .second, .val (.long v11), .second, .val (.long ex), .second] [(.long (ex >>> ((1 : Int32) &&& 0x3f).toInt64))]))
        obtain ⟨v12, hv12⟩ : ∃ z : Int64, z = (ex >>> ((1 : Int32) &&& 0x3f).toInt64) := ⟨_, rfl⟩
        rw [← hv12]
        show Go p e below _ (T10.setTop (mkF m 55 #[.val (.long q1), .second, .val (.long q2), .second, .val (.int p3), .val (.long v9), .second, .val (.long v11), .second, .val (.long ex), .second] [(.long v12)]))
        refine Go.step (fun t k => XS.lstore X10.here hx rfl (hb hby d3_55) rfl (l' := #[.val (.long q1), .second, .val (.long q2), .second, .val (.int p3), .val (.long v9), .second, .val (.long v11), .second, .val (.long v12), .second]) rfl k) ?_
        show Go p e below _ (T10.setTop (mkF m 57 #[.val (.long q1), .second, .val (.long q2), .second, .val (.int p3), .val (.long v9), .second, .val (.long v11), .second, .val (.long v12), .second] []))
        refine Go.step (fun t k => XS.goto X10.here hx rfl (pc0 := 57) (pc' := 13) rfl (hb hby d3_57) (by decide) (by decide) k) ?_
        show Go p e below _ (T10.setTop (mkF m 13 #[.val (.long q1), .second, .val (.long q2), .second, .val (.int p3), .val (.long v9), .second, .val (.long v11), .second, .val (.long v12), .second] []))
        show Go p e below _ (T10.setTop (mkF m 13 #[.val (.long q1), .second, .val (.long q2), .second, .val (.int p3), .val (.long v9), .second, .val (.long v11), .second, .val (.long v12), .second] []))
        exact ih _ (by rw [← hmm]; subst_vars; exact own_half _ (by assumption)) v9 v11 v12 _ _ rfl X10 N10 e10
      · refine Go.step (fun t k => XS.ifYes Xl5.here hx rfl (pc0 := 17) (pc' := 60) rfl (hb hby d3_17) rfl ((if0 _ _).trans (flt (fun q => hc6 ((lw_gt _ _).mp q))).2.2.2) (by decide) (by decide) k) ?_
        show Go p e below _ (Tl5.setTop (mkF m 60 #[.val (.long q1), .second, .val (.long q2), .second, .val (.int p3), .val (.long res), .second, .val (.long base), .second, .val (.long ex), .second] []))
        refine Go.step (fun t k => XS.lload Xl5.here hx rfl (hb hby d3_60) rfl k) ?_
        show Go p e below _ (Tl5.setTop (mkF m 62 #[.val (.long q1), .second, .val (.long q2), .second, .val (.int p3), .val (.long res), .second, .val (.long base), .second, .val (.long ex), .second] [(.long res)]))
        exact retGJ Xl5 hx Bd.notSynchronized Bd.returns (hb hby d3_62) ⟨⟨_, rfl⟩, Nl5, el5⟩ (by decide) (by decide)
  exact LOOP13 _ (1 : Int64) v4 q2 _ _ rfl X0 N0 e0
theorem d4_0 : decode prog_48_method_12_code 0 = .ok (.iload_n 0, 1) := by decide +kernel
theorem d4_1 : decode prog_48_method_12_code 1 = .ok (.i2l, 1) := by decide +kernel
theorem d4_2 : decode prog_48_method_12_code 2 = .ok (.bipush 32, 2) := by decide +kernel
theorem d4_4 : decode prog_48_method_12_code 4 = .ok (.lshl, 1) := by decide +kernel
theorem d4_5 : decode prog_48_method_12_code 5 = .ok (.iload_n 1, 1) := by decide +kernel
theorem d4_6 : decode prog_48_method_12_code 6 = .ok (.i2l, 1) := by decide +kernel
theorem d4_7 : decode prog_48_method_12_code 7 = .ok (.ldiv, 1) := by decide +kernel
theorem d4_8 : decode prog_48_method_12_code 8 = .ok (.l2i, 1) := by decide +kernel
theorem d4_9 : decode prog_48_method_12_code 9 = .ok (.ireturn, 1) := by decide +kernel
theorem ef_4 (m : MethodId) (p1 : Int32) (p2 : Int32) : entryFrame m #[(.int p1), (.int p2)] 2 = mkF m 0 #[.val (.int p1), .val (.int p2)] [] := by first | (simp [entryFrame, mkF, argsToLocals, Value.category]; done) | rfl
def f4 (p1 : Int32) (p2 : Int32) : Int32 := ((((p1.toInt64) <<< ((32 : Int32) &&& 0x3f).toInt64) / (p2.toInt64)).toInt32)
set_option maxRecDepth 65536 in
set_option maxHeartbeats 40000000 in
theorem rm4 (l : Launch) (Z : State) (a0 : Array Value) (hw : ∀ d ∈ tables_1, d.before a0 Z = true) (ws : List Jvm.Cond) (p1 : Int32) (p2 : Int32) (h0 : Heap) (n0 : Nat) (Z0 : n0 ≤ h0.size) (hnz7 : ¬ ((p2.toInt64) = (0 : Int64))) :
    MetFree l (⟨"com/example/tinwire/tinwire/json/Transform", "quotient", "(II)I"⟩ : MethodName) (head1 (Jvm.Cond.code (⟨"com/example/tinwire/tinwire/json/Transform", "quotient", "(II)I"⟩ : MethodName) prog_48_method_12_code 2 (some .int) :: ws) ({ frames := 0, cells := 0, slots := 0, locals := 0 } : Room)) (fun a U => a = #[(.int p1), (.int p2)] ∧ Z.Warmed39 U.vm ∧ U.heap = h0) (fun _ _ _ _ _ => True) (fun _ U o U' => ∃ v L, o = .returned v ∧ QP (.int (f4 p1 p2)) h0 n0 v U'.heap L ∧ FrameEnd U o U' L ({ frames := 0, cells := 0, slots := 0, locals := 0 } : Room).cells ({ frames := 0, cells := 0, slots := 0, locals := 0 } : Room).slots) := by
  refine MetFree.of_bodySF (plainFor_of_name pn_0) hisR ?_
  intro p e s m args below meth c s₁ Bd hml0 hP hK
  obtain ⟨rfl, hZ, hh⟩ := hP
  have hx := Bd.exec
  have hby := Bd.bytes
  have hml : c.maxLocals = 2 := hml0
  have hown : s.vm.findClass "com/example/tinwire/tinwire/json/Transform" = some m.cls := findClass_of_methodNamed Bd.named
  have hnm := (name_of_methodNamed Bd.named Bd.method).1
  have X0 : Stand p l e ({ frames := 0, cells := 0, slots := 0, locals := 0 } : Room) s m #[(.int p1), (.int p2)] below meth c s₁ [] 0 0 := Stand.of_body Bd
  have e0 : s₁.heap = h0 := by rw [← hh, Bd.state]; rfl
  have N0 := Fr.nil n0
  refine Go.done (Go.step (fun t k => castTop (ef_4 m p1 p2) k) ?_)
  have KK0 : Keep h0 h0 [] := Keep.refl _ _
  show Go p e below _ (s₁.setTop (mkF m 0 #[.val (.int p1), .val (.int p2)] []))
  refine Go.step (fun t k => XS.iloadN X0.here hx rfl (hb hby d4_0) rfl k) ?_
  show Go p e below _ (s₁.setTop (mkF m 1 #[.val (.int p1), .val (.int p2)] [(.int p1)]))
  refine Go.step (fun t k => XS.i2l X0.here hx rfl (hb hby d4_1) rfl k) ?_
  show Go p e below _ (s₁.setTop (mkF m 2 #[.val (.int p1), .val (.int p2)] [(.long (p1.toInt64))]))
  refine Go.step (fun t k => XS.bipush X0.here hx rfl (hb hby d4_2)  k) ?_
  show Go p e below _ (s₁.setTop (mkF m 4 #[.val (.int p1), .val (.int p2)] [(.int (32 : Int32)), (.long (p1.toInt64))]))
  refine Go.step (fun t k => XS.lshl X0.here hx rfl (hb hby d4_4) rfl k) ?_
  show Go p e below _ (s₁.setTop (mkF m 5 #[.val (.int p1), .val (.int p2)] [(.long ((p1.toInt64) <<< ((32 : Int32) &&& 0x3f).toInt64))]))
  refine Go.step (fun t k => XS.iloadN X0.here hx rfl (hb hby d4_5) rfl k) ?_
  show Go p e below _ (s₁.setTop (mkF m 6 #[.val (.int p1), .val (.int p2)] [(.int p2), (.long ((p1.toInt64) <<< ((32 : Int32) &&& 0x3f).toInt64))]))
  refine Go.step (fun t k => XS.i2l X0.here hx rfl (hb hby d4_6) rfl k) ?_
  show Go p e below _ (s₁.setTop (mkF m 7 #[.val (.int p1), .val (.int p2)] [(.long (p2.toInt64)), (.long ((p1.toInt64) <<< ((32 : Int32) &&& 0x3f).toInt64))]))
  refine Go.step (fun t k => XS.ldiv X0.here hx rfl (hb hby d4_7) rfl hnz7 k) ?_
  show Go p e below _ (s₁.setTop (mkF m 8 #[.val (.int p1), .val (.int p2)] [(.long (((p1.toInt64) <<< ((32 : Int32) &&& 0x3f).toInt64) / (p2.toInt64)))]))
  refine Go.step (fun t k => XS.l2i X0.here hx rfl (hb hby d4_8) rfl k) ?_
  show Go p e below _ (s₁.setTop (mkF m 9 #[.val (.int p1), .val (.int p2)] [(.int ((((p1.toInt64) <<< ((32 : Int32) &&& 0x3f).toInt64) / (p2.toInt64)).toInt32))]))
  exact retGI X0 hx Bd.notSynchronized Bd.returns (hb hby d4_9) ⟨by first | rfl | (simp only [f4]; done) | (simp [f4]; done), N0, e0⟩ (by decide) (by decide)
theorem d1_0 : decode prog_48_method_1_code 0 = .ok (.aload_n 0, 1) := by decide +kernel
theorem d1_1 : decode prog_48_method_1_code 1 = .ok (.invokespecial 1, 3) := by decide +kernel
theorem d1_4 : decode prog_48_method_1_code 4 = .ok (.aload_n 0, 1) := by decide +kernel
theorem d1_5 : decode prog_48_method_1_code 5 = .ok (.getstatic 7, 3) := by decide +kernel
theorem d1_8 : decode prog_48_method_1_code 8 = .ok (.iload_n 1, 1) := by decide +kernel
theorem d1_9 : decode prog_48_method_1_code 9 = .ok (.iaload, 1) := by decide +kernel
theorem d1_10 : decode prog_48_method_1_code 10 = .ok (.putfield 13, 3) := by decide +kernel
theorem d1_13 : decode prog_48_method_1_code 13 = .ok (.aload_n 0, 1) := by decide +kernel
theorem d1_14 : decode prog_48_method_1_code 14 = .ok (.iload_n 2, 1) := by decide +kernel
theorem d1_15 : decode prog_48_method_1_code 15 = .ok (.putfield 17, 3) := by decide +kernel
theorem d1_18 : decode prog_48_method_1_code 18 = .ok (.aload_n 0, 1) := by decide +kernel
theorem d1_19 : decode prog_48_method_1_code 19 = .ok (.aload_n 3, 1) := by decide +kernel
theorem d1_20 : decode prog_48_method_1_code 20 = .ok (.putfield 20, 3) := by decide +kernel
theorem d1_23 : decode prog_48_method_1_code 23 = .ok (.aload_n 0, 1) := by decide +kernel
theorem d1_24 : decode prog_48_method_1_code 24 = .ok (.aload 4, 2) := by decide +kernel
theorem d1_26 : decode prog_48_method_1_code 26 = .ok (.putfield 23, 3) := by decide +kernel
theorem d1_29 : decode prog_48_method_1_code 29 = .ok (.getstatic 26, 3) := by decide +kernel
theorem d1_32 : decode prog_48_method_1_code 32 = .ok (.iload_n 1, 1) := by decide +kernel
theorem d1_33 : decode prog_48_method_1_code 33 = .ok (.iaload, 1) := by decide +kernel
theorem d1_34 : decode prog_48_method_1_code 34 = .ok (.i2l, 1) := by decide +kernel
theorem d1_35 : decode prog_48_method_1_code 35 = .ok (.aload_n 0, 1) := by decide +kernel
theorem d1_36 : decode prog_48_method_1_code 36 = .ok (.getfield 13, 3) := by decide +kernel
theorem d1_39 : decode prog_48_method_1_code 39 = .ok (.i2l, 1) := by decide +kernel
theorem d1_40 : decode prog_48_method_1_code 40 = .ok (.lconst 1, 1) := by decide +kernel
theorem d1_41 : decode prog_48_method_1_code 41 = .ok (.lsub, 1) := by decide +kernel
theorem d1_42 : decode prog_48_method_1_code 42 = .ok (.iload_n 2, 1) := by decide +kernel
theorem d1_43 : decode prog_48_method_1_code 43 = .ok (.i2l, 1) := by decide +kernel
theorem d1_44 : decode prog_48_method_1_code 44 = .ok (.ldiv, 1) := by decide +kernel
theorem d1_45 : decode prog_48_method_1_code 45 = .ok (.aload_n 0, 1) := by decide +kernel
theorem d1_46 : decode prog_48_method_1_code 46 = .ok (.getfield 13, 3) := by decide +kernel
theorem d1_49 : decode prog_48_method_1_code 49 = .ok (.invokestatic 29, 3) := by decide +kernel
theorem pd_0 : parseMethodDescriptor "(JJI)J" = some ⟨[.long, .long, .int], some .long⟩ := by decide +kernel
theorem d1_52 : decode prog_48_method_1_code 52 = .ok (.lstore 5, 2) := by decide +kernel
theorem d1_54 : decode prog_48_method_1_code 54 = .ok (.aload_n 0, 1) := by decide +kernel
theorem d1_55 : decode prog_48_method_1_code 55 = .ok (.lload 5, 2) := by decide +kernel
theorem d1_57 : decode prog_48_method_1_code 57 = .ok (.l2i, 1) := by decide +kernel
theorem d1_58 : decode prog_48_method_1_code 58 = .ok (.putfield 33, 3) := by decide +kernel
theorem d1_61 : decode prog_48_method_1_code 61 = .ok (.aload_n 0, 1) := by decide +kernel
theorem d1_62 : decode prog_48_method_1_code 62 = .ok (.aload_n 0, 1) := by decide +kernel
theorem d1_63 : decode prog_48_method_1_code 63 = .ok (.getfield 33, 3) := by decide +kernel
theorem d1_66 : decode prog_48_method_1_code 66 = .ok (.aload_n 0, 1) := by decide +kernel
theorem d1_67 : decode prog_48_method_1_code 67 = .ok (.getfield 13, 3) := by decide +kernel
theorem d1_70 : decode prog_48_method_1_code 70 = .ok (.invokestatic 36, 3) := by decide +kernel
theorem pd_1 : parseMethodDescriptor "(II)I" = some ⟨[.int, .int], some .int⟩ := by decide +kernel
theorem d1_73 : decode prog_48_method_1_code 73 = .ok (.putfield 40, 3) := by decide +kernel
theorem d1_76 : decode prog_48_method_1_code 76 = .ok (.iload_n 2, 1) := by decide +kernel
theorem d1_77 : decode prog_48_method_1_code 77 = .ok (.iconst 4, 1) := by decide +kernel
theorem d1_78 : decode prog_48_method_1_code 78 = .ok (.idiv, 1) := by decide +kernel
theorem d1_79 : decode prog_48_method_1_code 79 = .ok (.istore 7, 2) := by decide +kernel
theorem d1_81 : decode prog_48_method_1_code 81 = .ok (.lload 5, 2) := by decide +kernel
theorem d1_83 : decode prog_48_method_1_code 83 = .ok (.lload 5, 2) := by decide +kernel
theorem d1_85 : decode prog_48_method_1_code 85 = .ok (.lmul, 1) := by decide +kernel
theorem d1_86 : decode prog_48_method_1_code 86 = .ok (.aload_n 0, 1) := by decide +kernel
theorem d1_87 : decode prog_48_method_1_code 87 = .ok (.getfield 13, 3) := by decide +kernel
theorem d1_90 : decode prog_48_method_1_code 90 = .ok (.i2l, 1) := by decide +kernel
theorem d1_91 : decode prog_48_method_1_code 91 = .ok (.lrem, 1) := by decide +kernel
theorem d1_92 : decode prog_48_method_1_code 92 = .ok (.lstore 8, 2) := by decide +kernel
theorem d1_94 : decode prog_48_method_1_code 94 = .ok (.lconst 1, 1) := by decide +kernel
theorem d1_95 : decode prog_48_method_1_code 95 = .ok (.lstore 10, 2) := by decide +kernel
theorem d1_97 : decode prog_48_method_1_code 97 = .ok (.aload_n 3, 1) := by decide +kernel
theorem d1_98 : decode prog_48_method_1_code 98 = .ok (.iconst 0, 1) := by decide +kernel
theorem d1_99 : decode prog_48_method_1_code 99 = .ok (.iconst 1, 1) := by decide +kernel
theorem d1_100 : decode prog_48_method_1_code 100 = .ok (.iastore, 1) := by decide +kernel
theorem d1_101 : decode prog_48_method_1_code 101 = .ok (.aload 4, 2) := by decide +kernel
theorem d1_103 : decode prog_48_method_1_code 103 = .ok (.iconst 0, 1) := by decide +kernel
theorem d1_104 : decode prog_48_method_1_code 104 = .ok (.iconst 1, 1) := by decide +kernel
theorem d1_105 : decode prog_48_method_1_code 105 = .ok (.aload_n 0, 1) := by decide +kernel
theorem d1_106 : decode prog_48_method_1_code 106 = .ok (.getfield 13, 3) := by decide +kernel
theorem d1_109 : decode prog_48_method_1_code 109 = .ok (.invokestatic 36, 3) := by decide +kernel
theorem d1_112 : decode prog_48_method_1_code 112 = .ok (.iastore, 1) := by decide +kernel
theorem d1_113 : decode prog_48_method_1_code 113 = .ok (.iconst 0, 1) := by decide +kernel
theorem d1_114 : decode prog_48_method_1_code 114 = .ok (.istore 12, 2) := by decide +kernel
theorem d1_116 : decode prog_48_method_1_code 116 = .ok (.iload 12, 2) := by decide +kernel
theorem d1_118 : decode prog_48_method_1_code 118 = .ok (.iload 7, 2) := by decide +kernel
theorem d1_120 : decode prog_48_method_1_code 120 = .ok (.if_icmp .ge 50, 3) := by decide +kernel
theorem d1_170 : decode prog_48_method_1_code 170 = .ok (.iload 7, 2) := by decide +kernel
theorem d1_172 : decode prog_48_method_1_code 172 = .ok (.iconst 2, 1) := by decide +kernel
theorem d1_173 : decode prog_48_method_1_code 173 = .ok (.idiv, 1) := by decide +kernel
theorem d1_174 : decode prog_48_method_1_code 174 = .ok (.istore 12, 2) := by decide +kernel
theorem d1_176 : decode prog_48_method_1_code 176 = .ok (.iload 12, 2) := by decide +kernel
theorem d1_178 : decode prog_48_method_1_code 178 = .ok (.ifCond .le 66, 3) := by decide +kernel
theorem d1_244 : decode prog_48_method_1_code 244 = .ok (.aload_n 0, 1) := by decide +kernel
theorem d1_245 : decode prog_48_method_1_code 245 = .ok (.getfield 13, 3) := by decide +kernel
theorem d1_248 : decode prog_48_method_1_code 248 = .ok (.istore 12, 2) := by decide +kernel
theorem d1_250 : decode prog_48_method_1_code 250 = .ok (.iconst 0, 1) := by decide +kernel
theorem d1_251 : decode prog_48_method_1_code 251 = .ok (.istore 13, 2) := by decide +kernel
theorem d1_253 : decode prog_48_method_1_code 253 = .ok (.iload 13, 2) := by decide +kernel
theorem d1_255 : decode prog_48_method_1_code 255 = .ok (.iconst 4, 1) := by decide +kernel
theorem d1_256 : decode prog_48_method_1_code 256 = .ok (.if_icmp .ge 23, 3) := by decide +kernel
theorem d1_259 : decode prog_48_method_1_code 259 = .ok (.iload 12, 2) := by decide +kernel
theorem d1_261 : decode prog_48_method_1_code 261 = .ok (.iconst 2, 1) := by decide +kernel
theorem d1_262 : decode prog_48_method_1_code 262 = .ok (.aload_n 0, 1) := by decide +kernel
theorem d1_263 : decode prog_48_method_1_code 263 = .ok (.getfield 13, 3) := by decide +kernel
theorem d1_266 : decode prog_48_method_1_code 266 = .ok (.iload 12, 2) := by decide +kernel
theorem d1_268 : decode prog_48_method_1_code 268 = .ok (.imul, 1) := by decide +kernel
theorem d1_269 : decode prog_48_method_1_code 269 = .ok (.isub, 1) := by decide +kernel
theorem d1_270 : decode prog_48_method_1_code 270 = .ok (.imul, 1) := by decide +kernel
theorem d1_271 : decode prog_48_method_1_code 271 = .ok (.istore 12, 2) := by decide +kernel
theorem d1_273 : decode prog_48_method_1_code 273 = .ok (.iinc 13 1, 3) := by decide +kernel
theorem d1_276 : decode prog_48_method_1_code 276 = .ok (.goto (-23), 3) := by decide +kernel
theorem d1_279 : decode prog_48_method_1_code 279 = .ok (.aload_n 0, 1) := by decide +kernel
theorem d1_280 : decode prog_48_method_1_code 280 = .ok (.iload 12, 2) := by decide +kernel
theorem d1_282 : decode prog_48_method_1_code 282 = .ok (.ineg, 1) := by decide +kernel
theorem d1_283 : decode prog_48_method_1_code 283 = .ok (.putfield 43, 3) := by decide +kernel
theorem d1_286 : decode prog_48_method_1_code 286 = .ok (.aload_n 0, 1) := by decide +kernel
theorem d1_287 : decode prog_48_method_1_code 287 = .ok (.ldc2_w 46, 3) := by decide +kernel
theorem d1_290 : decode prog_48_method_1_code 290 = .ok (.aload_n 0, 1) := by decide +kernel
theorem d1_291 : decode prog_48_method_1_code 291 = .ok (.getfield 13, 3) := by decide +kernel
theorem d1_294 : decode prog_48_method_1_code 294 = .ok (.i2l, 1) := by decide +kernel
theorem d1_295 : decode prog_48_method_1_code 295 = .ok (.lrem, 1) := by decide +kernel
theorem d1_296 : decode prog_48_method_1_code 296 = .ok (.iload_n 2, 1) := by decide +kernel
theorem d1_297 : decode prog_48_method_1_code 297 = .ok (.i2l, 1) := by decide +kernel
theorem d1_298 : decode prog_48_method_1_code 298 = .ok (.aload_n 0, 1) := by decide +kernel
theorem d1_299 : decode prog_48_method_1_code 299 = .ok (.getfield 13, 3) := by decide +kernel
theorem d1_302 : decode prog_48_method_1_code 302 = .ok (.i2l, 1) := by decide +kernel
theorem d1_303 : decode prog_48_method_1_code 303 = .ok (.ldc2_w 48, 3) := by decide +kernel
theorem d1_306 : decode prog_48_method_1_code 306 = .ok (.lsub, 1) := by decide +kernel
theorem d1_307 : decode prog_48_method_1_code 307 = .ok (.aload_n 0, 1) := by decide +kernel
theorem d1_308 : decode prog_48_method_1_code 308 = .ok (.getfield 13, 3) := by decide +kernel
theorem d1_311 : decode prog_48_method_1_code 311 = .ok (.invokestatic 29, 3) := by decide +kernel
theorem d1_314 : decode prog_48_method_1_code 314 = .ok (.lmul, 1) := by decide +kernel
theorem d1_315 : decode prog_48_method_1_code 315 = .ok (.aload_n 0, 1) := by decide +kernel
theorem d1_316 : decode prog_48_method_1_code 316 = .ok (.getfield 13, 3) := by decide +kernel
theorem d1_319 : decode prog_48_method_1_code 319 = .ok (.i2l, 1) := by decide +kernel
theorem d1_320 : decode prog_48_method_1_code 320 = .ok (.lrem, 1) := by decide +kernel
theorem d1_321 : decode prog_48_method_1_code 321 = .ok (.l2i, 1) := by decide +kernel
theorem d1_322 : decode prog_48_method_1_code 322 = .ok (.putfield 50, 3) := by decide +kernel
theorem d1_325 : decode prog_48_method_1_code 325 = .ok (.aload_n 0, 1) := by decide +kernel
theorem d1_326 : decode prog_48_method_1_code 326 = .ok (.aload_n 0, 1) := by decide +kernel
theorem d1_327 : decode prog_48_method_1_code 327 = .ok (.getfield 50, 3) := by decide +kernel
theorem d1_330 : decode prog_48_method_1_code 330 = .ok (.aload_n 0, 1) := by decide +kernel
theorem d1_331 : decode prog_48_method_1_code 331 = .ok (.getfield 13, 3) := by decide +kernel
theorem d1_334 : decode prog_48_method_1_code 334 = .ok (.invokestatic 36, 3) := by decide +kernel
theorem d1_337 : decode prog_48_method_1_code 337 = .ok (.putfield 53, 3) := by decide +kernel
theorem d1_340 : decode prog_48_method_1_code 340 = .ok (.return_, 1) := by decide +kernel
theorem ef_1_0 (m : MethodId) (a1 : Addr) (a4 : Addr) (a5 : Addr) : entryFrame m #[(.ref a1), (.int (0 : Int32)), (.int (2 : Int32)), (.ref a4), (.ref a5)] 14 = mkF m 0 #[.val (.ref a1), .val (.int (0 : Int32)), .val (.int (2 : Int32)), .val (.ref a4), .val (.ref a5), .unset, .unset, .unset, .unset, .unset, .unset, .unset, .unset, .unset] [] := by first | (simp [entryFrame, mkF, argsToLocals, Value.category]; done) | rfl
def Q1_0 (Z : State) (a1 : Addr) (a4 : Addr) (a5 : Addr) (g_a4f : Nat → Int32) (g_a5f : Nat → Int32) (u_length_a1 : Value) (u_roots_a1 : Value) (u_rootQuotients_a1 : Value) (u_outerRoot_a1 : Value) (u_outerRootQuotient_a1 : Value) (u_negativeInverse_a1 : Value) (u_scale_a1 : Value) (u_scaleQuotient_a1 : Value) (oP : Addr) (u_prime_a1 : Value) (oG : Addr) (h0 : Heap) (n0 : Nat) (v : Option Value) (h : Heap) (L : List Loc) : Prop := v = none ∧ Fr n0 L ∧ Keep h0 h [a1, a4, a5] ∧ Fld Z h a1 "com/example/tinwire/tinwire/json/Transform" "length" "I" (.int (2 : Int32)) ∧ Fld Z h a1 "com/example/tinwire/tinwire/json/Transform" "negativeInverse" "I" (.int (2013265919 : Int32)) ∧ Exa Z h a1 "com/example/tinwire/tinwire/json/Transform" ∧ Fld Z h a1 "com/example/tinwire/tinwire/json/Transform" "prime" "I" (.int (2013265921 : Int32))
set_option maxRecDepth 65536 in
set_option maxHeartbeats 40000000 in
theorem rm1_0 (l : Launch) (Z : State) (a0 : Array Value) (hw : ∀ d ∈ tables_1, d.before a0 Z = true) (ws : List Jvm.Cond) (a1 : Addr) (a4 : Addr) (a5 : Addr) (g_a4f : Nat → Int32) (g_a5f : Nat → Int32) (u_length_a1 : Value) (u_roots_a1 : Value) (u_rootQuotients_a1 : Value) (u_outerRoot_a1 : Value) (u_outerRootQuotient_a1 : Value) (u_negativeInverse_a1 : Value) (u_scale_a1 : Value) (u_scaleQuotient_a1 : Value) (oP : Addr) (u_prime_a1 : Value) (oG : Addr) (h0 : Heap) (n0 : Nat) (Z0 : n0 ≤ h0.size) (A_a4 : Ary Z h0 a4 .int 1 (fun i => .int (g_a4f i))) (A_a5 : Ary Z h0 a5 .int 1 (fun i => .int (g_a5f i))) (F_length_a1 : Fld Z h0 a1 "com/example/tinwire/tinwire/json/Transform" "length" "I" u_length_a1) (F_roots_a1 : Fld Z h0 a1 "com/example/tinwire/tinwire/json/Transform" "roots" "[I" u_roots_a1) (F_rootQuotients_a1 : Fld Z h0 a1 "com/example/tinwire/tinwire/json/Transform" "rootQuotients" "[I" u_rootQuotients_a1) (F_outerRoot_a1 : Fld Z h0 a1 "com/example/tinwire/tinwire/json/Transform" "outerRoot" "I" u_outerRoot_a1) (F_outerRootQuotient_a1 : Fld Z h0 a1 "com/example/tinwire/tinwire/json/Transform" "outerRootQuotient" "I" u_outerRootQuotient_a1) (F_negativeInverse_a1 : Fld Z h0 a1 "com/example/tinwire/tinwire/json/Transform" "negativeInverse" "I" u_negativeInverse_a1) (F_scale_a1 : Fld Z h0 a1 "com/example/tinwire/tinwire/json/Transform" "scale" "I" u_scale_a1) (F_scaleQuotient_a1 : Fld Z h0 a1 "com/example/tinwire/tinwire/json/Transform" "scaleQuotient" "I" u_scaleQuotient_a1) (S_PRIMES : Sta Z Z.heap "com/example/tinwire/tinwire/json/Transform" "PRIMES" "[I" (.ref oP)) (A_PRIMES : Ary Z Z.heap oP .int 3 (fun i => .int (primT i))) (hO : Old Z n0 h0) (E_a1 : Exa Z h0 a1 "com/example/tinwire/tinwire/json/Transform") (F_prime_a1 : Fld Z h0 a1 "com/example/tinwire/tinwire/json/Transform" "prime" "I" u_prime_a1) (g_a1 : n0 ≤ a1) (hne_a4_a1 : a4 ≠ a1) (hne_a5_a1 : a5 ≠ a1) (S_GENERATORS : Sta Z Z.heap "com/example/tinwire/tinwire/json/Transform" "GENERATORS" "[I" (.ref oG)) (A_GENERATORS : Ary Z Z.heap oG .int 3 (fun i => .int (genT i))) (g_a4 : n0 ≤ a4) (hne_a5_a4 : a5 ≠ a4) (hne_a1_a4 : a1 ≠ a4) (g_a5 : n0 ≤ a5) (hne_a1_a5 : a1 ≠ a5) (hne_a4_a5 : a4 ≠ a5) :
    MetFree l (⟨"com/example/tinwire/tinwire/json/Transform", "<init>", "(II[I[I)V"⟩ : MethodName) (head1 (Jvm.Cond.code (⟨"com/example/tinwire/tinwire/json/Transform", "<init>", "(II[I[I)V"⟩ : MethodName) prog_48_method_1_code 14 none :: ws) ({ frames := 1, cells := 0, slots := 0, locals := 25 } : Room)) (fun a U => a = #[(.ref a1), (.int (0 : Int32)), (.int (2 : Int32)), (.ref a4), (.ref a5)] ∧ Z.Warmed39 U.vm ∧ U.heap = h0) (fun _ _ _ _ _ => True) (fun _ U o U' => ∃ v L, o = .returned v ∧ Q1_0 Z a1 a4 a5 g_a4f g_a5f u_length_a1 u_roots_a1 u_rootQuotients_a1 u_outerRoot_a1 u_outerRootQuotient_a1 u_negativeInverse_a1 u_scale_a1 u_scaleQuotient_a1 oP u_prime_a1 oG h0 n0 v U'.heap L ∧ FrameEnd U o U' L ({ frames := 1, cells := 0, slots := 0, locals := 25 } : Room).cells ({ frames := 1, cells := 0, slots := 0, locals := 25 } : Room).slots) := by
  refine MetFree.of_bodySF (plainFor_of_name pn_0) hisR ?_
  intro p e s m args below meth c s₁ Bd hml0 hP hK
  obtain ⟨rfl, hZ, hh⟩ := hP
  have hx := Bd.exec
  have hby := Bd.bytes
  have hml : c.maxLocals = 14 := hml0
  have hown : s.vm.findClass "com/example/tinwire/tinwire/json/Transform" = some m.cls := findClass_of_methodNamed Bd.named
  have hnm := (name_of_methodNamed Bd.named Bd.method).1
  have X0 : Stand p l e ({ frames := 1, cells := 0, slots := 0, locals := 25 } : Room) s m #[(.ref a1), (.int (0 : Int32)), (.int (2 : Int32)), (.ref a4), (.ref a5)] below meth c s₁ [] 0 0 := Stand.of_body Bd
  have e0 : s₁.heap = h0 := by rw [← hh, Bd.state]; rfl
  have N0 := Fr.nil n0
  refine Go.done (Go.step (fun t k => castTop (ef_1_0 m a1 a4 a5) k) ?_)
  have KK0 : Keep h0 h0 [a1, a4, a5] := Keep.refl _ _
  show Go p e below _ (s₁.setTop (mkF m 0 #[.val (.ref a1), .val (.int (0 : Int32)), .val (.int (2 : Int32)), .val (.ref a4), .val (.ref a5), .unset, .unset, .unset, .unset, .unset, .unset, .unset, .unset, .unset] []))
  refine Go.step (fun t k => XS.aloadN X0.here hx rfl (hb hby d1_0) rfl rfl k) ?_
  show Go p e below _ (s₁.setTop (mkF m 1 #[.val (.ref a1), .val (.int (0 : Int32)), .val (.int (2 : Int32)), .val (.ref a4), .val (.ref a5), .unset, .unset, .unset, .unset, .unset, .unset, .unset, .unset, .unset] [(.ref a1)]))
  obtain ⟨T6, X6, e6, st6⟩ := initO X0 hx hZ hown (hw _ (List.mem_of_getElem? (i := 10) rfl)) (hw _ (List.mem_of_getElem? (i := 11) rfl)) (hw _ (List.mem_of_getElem? (i := 12) rfl)) e0 (g := (mkF m 1 #[.val (.ref a1), .val (.int (0 : Int32)), .val (.int (2 : Int32)), .val (.ref a4), .val (.ref a5), .unset, .unset, .unset, .unset, .unset, .unset, .unset, .unset, .unset] [(.ref a1)])) rfl (by rw [hml]; rfl) rfl (hb hby d1_1) (by decide) (W := 0) (by show 2 * 0 + _ ≤ _; exact Nat.le_of_eq rfl) (by decide)
  refine Go.step st6 ?_
  show Go p e below _ (T6.setTop (mkF m 4 #[.val (.ref a1), .val (.int (0 : Int32)), .val (.int (2 : Int32)), .val (.ref a4), .val (.ref a5), .unset, .unset, .unset, .unset, .unset, .unset, .unset, .unset, .unset] []))
  refine Go.step (fun t k => XS.aloadN X6.here hx rfl (hb hby d1_4) rfl rfl k) ?_
  show Go p e below _ (T6.setTop (mkF m 5 #[.val (.ref a1), .val (.int (0 : Int32)), .val (.int (2 : Int32)), .val (.ref a4), .val (.ref a5), .unset, .unset, .unset, .unset, .unset, .unset, .unset, .unset, .unset] [(.ref a1)]))
  obtain ⟨T7, X7, e7, st7⟩ := getS2 X6 hx hZ hown (host := "") (Or.inl (hw _ (List.mem_of_getElem? (i := 13) rfl))) Via.refl e6 (S_PRIMES.ext hO.2) (g := (mkF m 5 #[.val (.ref a1), .val (.int (0 : Int32)), .val (.int (2 : Int32)), .val (.ref a4), .val (.ref a5), .unset, .unset, .unset, .unset, .unset, .unset, .unset, .unset, .unset] [(.ref a1)])) rfl (hb hby d1_5)
  refine Go.step st7 ?_
  show Go p e below _ (T7.setTop (mkF m 8 #[.val (.ref a1), .val (.int (0 : Int32)), .val (.int (2 : Int32)), .val (.ref a4), .val (.ref a5), .unset, .unset, .unset, .unset, .unset, .unset, .unset, .unset, .unset] [(.ref oP), (.ref a1)]))
  refine Go.step (fun t k => XS.iloadN X7.here hx rfl (hb hby d1_8) rfl k) ?_
  show Go p e below _ (T7.setTop (mkF m 9 #[.val (.ref a1), .val (.int (0 : Int32)), .val (.int (2 : Int32)), .val (.ref a4), .val (.ref a5), .unset, .unset, .unset, .unset, .unset, .unset, .unset, .unset, .unset] [(.int (0 : Int32)), (.ref oP), (.ref a1)]))
  refine Go.step (ldI X7 hx hZ e7 (A_PRIMES.ext hO.2) (j := (0 : Int32)) (by decide) (by decide) (g := (mkF m 9 #[.val (.ref a1), .val (.int (0 : Int32)), .val (.int (2 : Int32)), .val (.ref a4), .val (.ref a5), .unset, .unset, .unset, .unset, .unset, .unset, .unset, .unset, .unset] [(.int (0 : Int32)), (.ref oP), (.ref a1)])) rfl rfl (hb hby d1_9)) ?_
  show Go p e below _ (T7.setTop (mkF m 10 #[.val (.ref a1), .val (.int (0 : Int32)), .val (.int (2 : Int32)), .val (.ref a4), .val (.ref a5), .unset, .unset, .unset, .unset, .unset, .unset, .unset, .unset, .unset] [(.int (2013265921 : Int32)), (.ref a1)]))
  obtain ⟨T8, h8, X8, e8, W8, st8⟩ := putF X7 hx hZ hown (host := "") (Or.inl (hw _ (List.mem_of_getElem? (i := 14) rfl))) Via.refl e7 F_prime_a1 E_a1 (Or.inr ⟨(hw _ (List.mem_of_getElem? (i := 15) rfl)), rfl, hnm⟩) (hw _ (List.mem_of_getElem? (i := 6) rfl)) (ty := .int) (by decide) rfl rfl (g := (mkF m 10 #[.val (.ref a1), .val (.int (0 : Int32)), .val (.int (2 : Int32)), .val (.ref a4), .val (.ref a5), .unset, .unset, .unset, .unset, .unset, .unset, .unset, .unset, .unset] [(.int (2013265921 : Int32)), (.ref a1)])) rfl rfl (hb hby d1_10)
  refine Go.step st8 ?_
  have N8 := Fr.snoc X8 N0 g_a1
  have A_a4_8 := A_a4.other W8 hne_a4_a1
  have A_a5_8 := A_a5.other W8 hne_a5_a1
  have F_length_a1_8 := F_length_a1.other W8 (Or.inr (slot_ne (Or.inr (hw _ (List.mem_of_getElem? (i := 17) rfl))) (Or.inr (hw _ (List.mem_of_getElem? (i := 15) rfl))) (by decide) (t := .int) (t' := .int) (by decide) (by decide)))
  have F_roots_a1_8 := F_roots_a1.other W8 (Or.inr (slot_ne (Or.inr (hw _ (List.mem_of_getElem? (i := 19) rfl))) (Or.inr (hw _ (List.mem_of_getElem? (i := 15) rfl))) (by decide) (t := (.array .int)) (t' := .int) (by decide) (by decide)))
  have F_rootQuotients_a1_8 := F_rootQuotients_a1.other W8 (Or.inr (slot_ne (Or.inr (hw _ (List.mem_of_getElem? (i := 21) rfl))) (Or.inr (hw _ (List.mem_of_getElem? (i := 15) rfl))) (by decide) (t := (.array .int)) (t' := .int) (by decide) (by decide)))
  have F_outerRoot_a1_8 := F_outerRoot_a1.other W8 (Or.inr (slot_ne (Or.inr (hw _ (List.mem_of_getElem? (i := 28) rfl))) (Or.inr (hw _ (List.mem_of_getElem? (i := 15) rfl))) (by decide) (t := .int) (t' := .int) (by decide) (by decide)))
  have F_outerRootQuotient_a1_8 := F_outerRootQuotient_a1.other W8 (Or.inr (slot_ne (Or.inr (hw _ (List.mem_of_getElem? (i := 33) rfl))) (Or.inr (hw _ (List.mem_of_getElem? (i := 15) rfl))) (by decide) (t := .int) (t' := .int) (by decide) (by decide)))
  have F_negativeInverse_a1_8 := F_negativeInverse_a1.other W8 (Or.inr (slot_ne (Or.inr (hw _ (List.mem_of_getElem? (i := 35) rfl))) (Or.inr (hw _ (List.mem_of_getElem? (i := 15) rfl))) (by decide) (t := .int) (t' := .int) (by decide) (by decide)))
  have F_scale_a1_8 := F_scale_a1.other W8 (Or.inr (slot_ne (Or.inr (hw _ (List.mem_of_getElem? (i := 39) rfl))) (Or.inr (hw _ (List.mem_of_getElem? (i := 15) rfl))) (by decide) (t := .int) (t' := .int) (by decide) (by decide)))
  have F_scaleQuotient_a1_8 := F_scaleQuotient_a1.other W8 (Or.inr (slot_ne (Or.inr (hw _ (List.mem_of_getElem? (i := 41) rfl))) (Or.inr (hw _ (List.mem_of_getElem? (i := 15) rfl))) (by decide) (t := .int) (t' := .int) (by decide) (by decide)))
  have E_a1_8 := E_a1.wr W8
  have O8 := hO.wr W8 g_a1
  have Z8 := Nat.le_trans Z0 (Keep.of_wr W8).1
  have KK8 : Keep h0 h8 [a1, a4, a5] := KK0.wr W8 (Or.inl (by simp))
  have F_prime_a1_8 := F_prime_a1.same W8
  show Go p e below _ (T8.setTop (mkF m 13 #[.val (.ref a1), .val (.int (0 : Int32)), .val (.int (2 : Int32)), .val (.ref a4), .val (.ref a5), .unset, .unset, .unset, .unset, .unset, .unset, .unset, .unset, .unset] []))
  refine Go.step (fun t k => XS.aloadN X8.here hx rfl (hb hby d1_13) rfl rfl k) ?_
  show Go p e below _ (T8.setTop (mkF m 14 #[.val (.ref a1), .val (.int (0 : Int32)), .val (.int (2 : Int32)), .val (.ref a4), .val (.ref a5), .unset, .unset, .unset, .unset, .unset, .unset, .unset, .unset, .unset] [(.ref a1)]))
  refine Go.step (fun t k => XS.iloadN X8.here hx rfl (hb hby d1_14) rfl k) ?_
  show Go p e below _ (T8.setTop (mkF m 15 #[.val (.ref a1), .val (.int (0 : Int32)), .val (.int (2 : Int32)), .val (.ref a4), .val (.ref a5), .unset, .unset, .unset, .unset, .unset, .unset, .unset, .unset, .unset] [(.int (2 : Int32)), (.ref a1)]))
  obtain ⟨T9, h9, X9, e9, W9, st9⟩ := putF X8 hx hZ hown (host := "") (Or.inl (hw _ (List.mem_of_getElem? (i := 16) rfl))) Via.refl e8 F_length_a1_8 E_a1_8 (Or.inr ⟨(hw _ (List.mem_of_getElem? (i := 17) rfl)), rfl, hnm⟩) (hw _ (List.mem_of_getElem? (i := 6) rfl)) (ty := .int) (by decide) rfl rfl (g := (mkF m 15 #[.val (.ref a1), .val (.int (0 : Int32)), .val (.int (2 : Int32)), .val (.ref a4), .val (.ref a5), .unset, .unset, .unset, .unset, .unset, .unset, .unset, .unset, .unset] [(.int (2 : Int32)), (.ref a1)])) rfl rfl (hb hby d1_15)
  refine Go.step st9 ?_
  have N9 := Fr.snoc X9 N8 g_a1
  have A_a4_9 := A_a4_8.other W9 hne_a4_a1
  have A_a5_9 := A_a5_8.other W9 hne_a5_a1
  have F_roots_a1_9 := F_roots_a1_8.other W9 (Or.inr (slot_ne (Or.inr (hw _ (List.mem_of_getElem? (i := 19) rfl))) (Or.inr (hw _ (List.mem_of_getElem? (i := 17) rfl))) (by decide) (t := (.array .int)) (t' := .int) (by decide) (by decide)))
  have F_rootQuotients_a1_9 := F_rootQuotients_a1_8.other W9 (Or.inr (slot_ne (Or.inr (hw _ (List.mem_of_getElem? (i := 21) rfl))) (Or.inr (hw _ (List.mem_of_getElem? (i := 17) rfl))) (by decide) (t := (.array .int)) (t' := .int) (by decide) (by decide)))
  have F_outerRoot_a1_9 := F_outerRoot_a1_8.other W9 (Or.inr (slot_ne (Or.inr (hw _ (List.mem_of_getElem? (i := 28) rfl))) (Or.inr (hw _ (List.mem_of_getElem? (i := 17) rfl))) (by decide) (t := .int) (t' := .int) (by decide) (by decide)))
  have F_outerRootQuotient_a1_9 := F_outerRootQuotient_a1_8.other W9 (Or.inr (slot_ne (Or.inr (hw _ (List.mem_of_getElem? (i := 33) rfl))) (Or.inr (hw _ (List.mem_of_getElem? (i := 17) rfl))) (by decide) (t := .int) (t' := .int) (by decide) (by decide)))
  have F_negativeInverse_a1_9 := F_negativeInverse_a1_8.other W9 (Or.inr (slot_ne (Or.inr (hw _ (List.mem_of_getElem? (i := 35) rfl))) (Or.inr (hw _ (List.mem_of_getElem? (i := 17) rfl))) (by decide) (t := .int) (t' := .int) (by decide) (by decide)))
  have F_scale_a1_9 := F_scale_a1_8.other W9 (Or.inr (slot_ne (Or.inr (hw _ (List.mem_of_getElem? (i := 39) rfl))) (Or.inr (hw _ (List.mem_of_getElem? (i := 17) rfl))) (by decide) (t := .int) (t' := .int) (by decide) (by decide)))
  have F_scaleQuotient_a1_9 := F_scaleQuotient_a1_8.other W9 (Or.inr (slot_ne (Or.inr (hw _ (List.mem_of_getElem? (i := 41) rfl))) (Or.inr (hw _ (List.mem_of_getElem? (i := 17) rfl))) (by decide) (t := .int) (t' := .int) (by decide) (by decide)))
  have E_a1_9 := E_a1_8.wr W9
  have F_prime_a1_9 := F_prime_a1_8.other W9 (Or.inr (slot_ne (Or.inr (hw _ (List.mem_of_getElem? (i := 15) rfl))) (Or.inr (hw _ (List.mem_of_getElem? (i := 17) rfl))) (by decide) (t := .int) (t' := .int) (by decide) (by decide)))
  have O9 := O8.wr W9 g_a1
  have Z9 := Nat.le_trans Z8 (Keep.of_wr W9).1
  have KK9 : Keep h0 h9 [a1, a4, a5] := KK8.wr W9 (Or.inl (by simp))
  have F_length_a1_9 := F_length_a1_8.same W9
  show Go p e below _ (T9.setTop (mkF m 18 #[.val (.ref a1), .val (.int (0 : Int32)), .val (.int (2 : Int32)), .val (.ref a4), .val (.ref a5), .unset, .unset, .unset, .unset, .unset, .unset, .unset, .unset, .unset] []))
  refine Go.step (fun t k => XS.aloadN X9.here hx rfl (hb hby d1_18) rfl rfl k) ?_
  show Go p e below _ (T9.setTop (mkF m 19 #[.val (.ref a1), .val (.int (0 : Int32)), .val (.int (2 : Int32)), .val (.ref a4), .val (.ref a5), .unset, .unset, .unset, .unset, .unset, .unset, .unset, .unset, .unset] [(.ref a1)]))
  refine Go.step (fun t k => XS.aloadN X9.here hx rfl (hb hby d1_19) rfl rfl k) ?_
  show Go p e below _ (T9.setTop (mkF m 20 #[.val (.ref a1), .val (.int (0 : Int32)), .val (.int (2 : Int32)), .val (.ref a4), .val (.ref a5), .unset, .unset, .unset, .unset, .unset, .unset, .unset, .unset, .unset] [(.ref a4), (.ref a1)]))
  obtain ⟨T10, h10, X10, e10, W10, st10⟩ := putF X9 hx hZ hown (host := "") (Or.inl (hw _ (List.mem_of_getElem? (i := 18) rfl))) Via.refl e9 F_roots_a1_9 E_a1_9 (Or.inr ⟨(hw _ (List.mem_of_getElem? (i := 19) rfl)), rfl, hnm⟩) (hw _ (List.mem_of_getElem? (i := 6) rfl)) (ty := (.array .int)) (by decide) rfl rfl (g := (mkF m 20 #[.val (.ref a1), .val (.int (0 : Int32)), .val (.int (2 : Int32)), .val (.ref a4), .val (.ref a5), .unset, .unset, .unset, .unset, .unset, .unset, .unset, .unset, .unset] [(.ref a4), (.ref a1)])) rfl rfl (hb hby d1_20)
  refine Go.step st10 ?_
  have N10 := Fr.snoc X10 N9 g_a1
  have A_a4_10 := A_a4_9.other W10 hne_a4_a1
  have A_a5_10 := A_a5_9.other W10 hne_a5_a1
  have F_length_a1_10 := F_length_a1_9.other W10 (Or.inr (slot_ne (Or.inr (hw _ (List.mem_of_getElem? (i := 17) rfl))) (Or.inr (hw _ (List.mem_of_getElem? (i := 19) rfl))) (by decide) (t := .int) (t' := (.array .int)) (by decide) (by decide)))
  have F_rootQuotients_a1_10 := F_rootQuotients_a1_9.other W10 (Or.inr (slot_ne (Or.inr (hw _ (List.mem_of_getElem? (i := 21) rfl))) (Or.inr (hw _ (List.mem_of_getElem? (i := 19) rfl))) (by decide) (t := (.array .int)) (t' := (.array .int)) (by decide) (by decide)))
  have F_outerRoot_a1_10 := F_outerRoot_a1_9.other W10 (Or.inr (slot_ne (Or.inr (hw _ (List.mem_of_getElem? (i := 28) rfl))) (Or.inr (hw _ (List.mem_of_getElem? (i := 19) rfl))) (by decide) (t := .int) (t' := (.array .int)) (by decide) (by decide)))
  have F_outerRootQuotient_a1_10 := F_outerRootQuotient_a1_9.other W10 (Or.inr (slot_ne (Or.inr (hw _ (List.mem_of_getElem? (i := 33) rfl))) (Or.inr (hw _ (List.mem_of_getElem? (i := 19) rfl))) (by decide) (t := .int) (t' := (.array .int)) (by decide) (by decide)))
  have F_negativeInverse_a1_10 := F_negativeInverse_a1_9.other W10 (Or.inr (slot_ne (Or.inr (hw _ (List.mem_of_getElem? (i := 35) rfl))) (Or.inr (hw _ (List.mem_of_getElem? (i := 19) rfl))) (by decide) (t := .int) (t' := (.array .int)) (by decide) (by decide)))
  have F_scale_a1_10 := F_scale_a1_9.other W10 (Or.inr (slot_ne (Or.inr (hw _ (List.mem_of_getElem? (i := 39) rfl))) (Or.inr (hw _ (List.mem_of_getElem? (i := 19) rfl))) (by decide) (t := .int) (t' := (.array .int)) (by decide) (by decide)))
  have F_scaleQuotient_a1_10 := F_scaleQuotient_a1_9.other W10 (Or.inr (slot_ne (Or.inr (hw _ (List.mem_of_getElem? (i := 41) rfl))) (Or.inr (hw _ (List.mem_of_getElem? (i := 19) rfl))) (by decide) (t := .int) (t' := (.array .int)) (by decide) (by decide)))
  have E_a1_10 := E_a1_9.wr W10
  have F_prime_a1_10 := F_prime_a1_9.other W10 (Or.inr (slot_ne (Or.inr (hw _ (List.mem_of_getElem? (i := 15) rfl))) (Or.inr (hw _ (List.mem_of_getElem? (i := 19) rfl))) (by decide) (t := .int) (t' := (.array .int)) (by decide) (by decide)))
  have O10 := O9.wr W10 g_a1
  have Z10 := Nat.le_trans Z9 (Keep.of_wr W10).1
  have KK10 : Keep h0 h10 [a1, a4, a5] := KK9.wr W10 (Or.inl (by simp))
  have F_roots_a1_10 := F_roots_a1_9.same W10
  show Go p e below _ (T10.setTop (mkF m 23 #[.val (.ref a1), .val (.int (0 : Int32)), .val (.int (2 : Int32)), .val (.ref a4), .val (.ref a5), .unset, .unset, .unset, .unset, .unset, .unset, .unset, .unset, .unset] []))
  refine Go.step (fun t k => XS.aloadN X10.here hx rfl (hb hby d1_23) rfl rfl k) ?_
  show Go p e below _ (T10.setTop (mkF m 24 #[.val (.ref a1), .val (.int (0 : Int32)), .val (.int (2 : Int32)), .val (.ref a4), .val (.ref a5), .unset, .unset, .unset, .unset, .unset, .unset, .unset, .unset, .unset] [(.ref a1)]))
  refine Go.step (fun t k => XS.aload X10.here hx rfl (hb hby d1_24) rfl rfl k) ?_
  show Go p e below _ (T10.setTop (mkF m 26 #[.val (.ref a1), .val (.int (0 : Int32)), .val (.int (2 : Int32)), .val (.ref a4), .val (.ref a5), .unset, .unset, .unset, .unset, .unset, .unset, .unset, .unset, .unset] [(.ref a5), (.ref a1)]))
  obtain ⟨T11, h11, X11, e11, W11, st11⟩ := putF X10 hx hZ hown (host := "") (Or.inl (hw _ (List.mem_of_getElem? (i := 20) rfl))) Via.refl e10 F_rootQuotients_a1_10 E_a1_10 (Or.inr ⟨(hw _ (List.mem_of_getElem? (i := 21) rfl)), rfl, hnm⟩) (hw _ (List.mem_of_getElem? (i := 6) rfl)) (ty := (.array .int)) (by decide) rfl rfl (g := (mkF m 26 #[.val (.ref a1), .val (.int (0 : Int32)), .val (.int (2 : Int32)), .val (.ref a4), .val (.ref a5), .unset, .unset, .unset, .unset, .unset, .unset, .unset, .unset, .unset] [(.ref a5), (.ref a1)])) rfl rfl (hb hby d1_26)
  refine Go.step st11 ?_
  have N11 := Fr.snoc X11 N10 g_a1
  have A_a4_11 := A_a4_10.other W11 hne_a4_a1
  have A_a5_11 := A_a5_10.other W11 hne_a5_a1
  have F_length_a1_11 := F_length_a1_10.other W11 (Or.inr (slot_ne (Or.inr (hw _ (List.mem_of_getElem? (i := 17) rfl))) (Or.inr (hw _ (List.mem_of_getElem? (i := 21) rfl))) (by decide) (t := .int) (t' := (.array .int)) (by decide) (by decide)))
  have F_roots_a1_11 := F_roots_a1_10.other W11 (Or.inr (slot_ne (Or.inr (hw _ (List.mem_of_getElem? (i := 19) rfl))) (Or.inr (hw _ (List.mem_of_getElem? (i := 21) rfl))) (by decide) (t := (.array .int)) (t' := (.array .int)) (by decide) (by decide)))
  have F_outerRoot_a1_11 := F_outerRoot_a1_10.other W11 (Or.inr (slot_ne (Or.inr (hw _ (List.mem_of_getElem? (i := 28) rfl))) (Or.inr (hw _ (List.mem_of_getElem? (i := 21) rfl))) (by decide) (t := .int) (t' := (.array .int)) (by decide) (by decide)))
  have F_outerRootQuotient_a1_11 := F_outerRootQuotient_a1_10.other W11 (Or.inr (slot_ne (Or.inr (hw _ (List.mem_of_getElem? (i := 33) rfl))) (Or.inr (hw _ (List.mem_of_getElem? (i := 21) rfl))) (by decide) (t := .int) (t' := (.array .int)) (by decide) (by decide)))
  have F_negativeInverse_a1_11 := F_negativeInverse_a1_10.other W11 (Or.inr (slot_ne (Or.inr (hw _ (List.mem_of_getElem? (i := 35) rfl))) (Or.inr (hw _ (List.mem_of_getElem? (i := 21) rfl))) (by decide) (t := .int) (t' := (.array .int)) (by decide) (by decide)))
  have F_scale_a1_11 := F_scale_a1_10.other W11 (Or.inr (slot_ne (Or.inr (hw _ (List.mem_of_getElem? (i := 39) rfl))) (Or.inr (hw _ (List.mem_of_getElem? (i := 21) rfl))) (by decide) (t := .int) (t' := (.array .int)) (by decide) (by decide)))
  have F_scaleQuotient_a1_11 := F_scaleQuotient_a1_10.other W11 (Or.inr (slot_ne (Or.inr (hw _ (List.mem_of_getElem? (i := 41) rfl))) (Or.inr (hw _ (List.mem_of_getElem? (i := 21) rfl))) (by decide) (t := .int) (t' := (.array .int)) (by decide) (by decide)))
  have E_a1_11 := E_a1_10.wr W11
  have F_prime_a1_11 := F_prime_a1_10.other W11 (Or.inr (slot_ne (Or.inr (hw _ (List.mem_of_getElem? (i := 15) rfl))) (Or.inr (hw _ (List.mem_of_getElem? (i := 21) rfl))) (by decide) (t := .int) (t' := (.array .int)) (by decide) (by decide)))
  have O11 := O10.wr W11 g_a1
  have Z11 := Nat.le_trans Z10 (Keep.of_wr W11).1
  have KK11 : Keep h0 h11 [a1, a4, a5] := KK10.wr W11 (Or.inl (by simp))
  have F_rootQuotients_a1_11 := F_rootQuotients_a1_10.same W11
  show Go p e below _ (T11.setTop (mkF m 29 #[.val (.ref a1), .val (.int (0 : Int32)), .val (.int (2 : Int32)), .val (.ref a4), .val (.ref a5), .unset, .unset, .unset, .unset, .unset, .unset, .unset, .unset, .unset] []))
  obtain ⟨T12, X12, e12, st12⟩ := getS2 X11 hx hZ hown (host := "") (Or.inl (hw _ (List.mem_of_getElem? (i := 22) rfl))) Via.refl e11 (S_GENERATORS.ext O11.2) (g := (mkF m 29 #[.val (.ref a1), .val (.int (0 : Int32)), .val (.int (2 : Int32)), .val (.ref a4), .val (.ref a5), .unset, .unset, .unset, .unset, .unset, .unset, .unset, .unset, .unset] [])) rfl (hb hby d1_29)
  refine Go.step st12 ?_
  show Go p e below _ (T12.setTop (mkF m 32 #[.val (.ref a1), .val (.int (0 : Int32)), .val (.int (2 : Int32)), .val (.ref a4), .val (.ref a5), .unset, .unset, .unset, .unset, .unset, .unset, .unset, .unset, .unset] [(.ref oG)]))
  refine Go.step (fun t k => XS.iloadN X12.here hx rfl (hb hby d1_32) rfl k) ?_
  show Go p e below _ (T12.setTop (mkF m 33 #[.val (.ref a1), .val (.int (0 : Int32)), .val (.int (2 : Int32)), .val (.ref a4), .val (.ref a5), .unset, .unset, .unset, .unset, .unset, .unset, .unset, .unset, .unset] [(.int (0 : Int32)), (.ref oG)]))
  refine Go.step (ldI X12 hx hZ e12 (A_GENERATORS.ext O11.2) (j := (0 : Int32)) (by decide) (by decide) (g := (mkF m 33 #[.val (.ref a1), .val (.int (0 : Int32)), .val (.int (2 : Int32)), .val (.ref a4), .val (.ref a5), .unset, .unset, .unset, .unset, .unset, .unset, .unset, .unset, .unset] [(.int (0 : Int32)), (.ref oG)])) rfl rfl (hb hby d1_33)) ?_
  show Go p e below _ (T12.setTop (mkF m 34 #[.val (.ref a1), .val (.int (0 : Int32)), .val (.int (2 : Int32)), .val (.ref a4), .val (.ref a5), .unset, .unset, .unset, .unset, .unset, .unset, .unset, .unset, .unset] [(.int (31 : Int32))]))
  refine Go.step (fun t k => XS.i2l X12.here hx rfl (hb hby d1_34) rfl k) ?_
  show Go p e below _ (T12.setTop (mkF m 35 #[.val (.ref a1), .val (.int (0 : Int32)), .val (.int (2 : Int32)), .val (.ref a4), .val (.ref a5), .unset, .unset, .unset, .unset, .unset, .unset, .unset, .unset, .unset] [(.long (31 : Int64))]))
  refine Go.step (fun t k => XS.aloadN X12.here hx rfl (hb hby d1_35) rfl rfl k) ?_
  show Go p e below _ (T12.setTop (mkF m 36 #[.val (.ref a1), .val (.int (0 : Int32)), .val (.int (2 : Int32)), .val (.ref a4), .val (.ref a5), .unset, .unset, .unset, .unset, .unset, .unset, .unset, .unset, .unset] [(.ref a1), (.long (31 : Int64))]))
  obtain ⟨T13, X13, e13, st13⟩ := getF X12 hx hZ hown (host := "") (Or.inl (hw _ (List.mem_of_getElem? (i := 14) rfl))) Via.refl e12 F_prime_a1_11 (g := (mkF m 36 #[.val (.ref a1), .val (.int (0 : Int32)), .val (.int (2 : Int32)), .val (.ref a4), .val (.ref a5), .unset, .unset, .unset, .unset, .unset, .unset, .unset, .unset, .unset] [(.ref a1), (.long (31 : Int64))])) rfl rfl (hb hby d1_36)
  refine Go.step st13 ?_
  show Go p e below _ (T13.setTop (mkF m 39 #[.val (.ref a1), .val (.int (0 : Int32)), .val (.int (2 : Int32)), .val (.ref a4), .val (.ref a5), .unset, .unset, .unset, .unset, .unset, .unset, .unset, .unset, .unset] [(.int (2013265921 : Int32)), (.long (31 : Int64))]))
  refine Go.step (fun t k => XS.i2l X13.here hx rfl (hb hby d1_39) rfl k) ?_
  show Go p e below _ (T13.setTop (mkF m 40 #[.val (.ref a1), .val (.int (0 : Int32)), .val (.int (2 : Int32)), .val (.ref a4), .val (.ref a5), .unset, .unset, .unset, .unset, .unset, .unset, .unset, .unset, .unset] [(.long (2013265921 : Int64)), (.long (31 : Int64))]))
  refine Go.step (fun t k => XS.lconst X13.here hx rfl (hb hby d1_40)  k) ?_
  show Go p e below _ (T13.setTop (mkF m 41 #[.val (.ref a1), .val (.int (0 : Int32)), .val (.int (2 : Int32)), .val (.ref a4), .val (.ref a5), .unset, .unset, .unset, .unset, .unset, .unset, .unset, .unset, .unset] [(.long (1 : Int64)), (.long (2013265921 : Int64)), (.long (31 : Int64))]))
  refine Go.step (fun t k => XS.lsub X13.here hx rfl (hb hby d1_41) rfl k) ?_
  show Go p e below _ (T13.setTop (mkF m 42 #[.val (.ref a1), .val (.int (0 : Int32)), .val (.int (2 : Int32)), .val (.ref a4), .val (.ref a5), .unset, .unset, .unset, .unset, .unset, .unset, .unset, .unset, .unset] [(.long (2013265920 : Int64)), (.long (31 : Int64))]))
  refine Go.step (fun t k => XS.iloadN X13.here hx rfl (hb hby d1_42) rfl k) ?_
  show Go p e below _ (T13.setTop (mkF m 43 #[.val (.ref a1), .val (.int (0 : Int32)), .val (.int (2 : Int32)), .val (.ref a4), .val (.ref a5), .unset, .unset, .unset, .unset, .unset, .unset, .unset, .unset, .unset] [(.int (2 : Int32)), (.long (2013265920 : Int64)), (.long (31 : Int64))]))
  refine Go.step (fun t k => XS.i2l X13.here hx rfl (hb hby d1_43) rfl k) ?_
  show Go p e below _ (T13.setTop (mkF m 44 #[.val (.ref a1), .val (.int (0 : Int32)), .val (.int (2 : Int32)), .val (.ref a4), .val (.ref a5), .unset, .unset, .unset, .unset, .unset, .unset, .unset, .unset, .unset] [(.long (2 : Int64)), (.long (2013265920 : Int64)), (.long (31 : Int64))]))
  refine Go.step (fun t k => XS.ldiv X13.here hx rfl (hb hby d1_44) rfl (by decide) k) ?_
  show Go p e below _ (T13.setTop (mkF m 45 #[.val (.ref a1), .val (.int (0 : Int32)), .val (.int (2 : Int32)), .val (.ref a4), .val (.ref a5), .unset, .unset, .unset, .unset, .unset, .unset, .unset, .unset, .unset] [(.long (1006632960 : Int64)), (.long (31 : Int64))]))
  refine Go.step (fun t k => XS.aloadN X13.here hx rfl (hb hby d1_45) rfl rfl k) ?_
  show Go p e below _ (T13.setTop (mkF m 46 #[.val (.ref a1), .val (.int (0 : Int32)), .val (.int (2 : Int32)), .val (.ref a4), .val (.ref a5), .unset, .unset, .unset, .unset, .unset, .unset, .unset, .unset, .unset] [(.ref a1), (.long (1006632960 : Int64)), (.long (31 : Int64))]))
  obtain ⟨T14, X14, e14, st14⟩ := getF X13 hx hZ hown (host := "") (Or.inl (hw _ (List.mem_of_getElem? (i := 14) rfl))) Via.refl e13 F_prime_a1_11 (g := (mkF m 46 #[.val (.ref a1), .val (.int (0 : Int32)), .val (.int (2 : Int32)), .val (.ref a4), .val (.ref a5), .unset, .unset, .unset, .unset, .unset, .unset, .unset, .unset, .unset] [(.ref a1), (.long (1006632960 : Int64)), (.long (31 : Int64))])) rfl rfl (hb hby d1_46)
  refine Go.step st14 ?_
  show Go p e below _ (T14.setTop (mkF m 49 #[.val (.ref a1), .val (.int (0 : Int32)), .val (.int (2 : Int32)), .val (.ref a4), .val (.ref a5), .unset, .unset, .unset, .unset, .unset, .unset, .unset, .unset, .unset] [(.int (2013265921 : Int32)), (.long (1006632960 : Int64)), (.long (31 : Int64))]))
  obtain ⟨_, _, ⟨T15, L15, k15, n15⟩, -, X15, ⟨Lc15, hQ15, l15, y15, z15⟩, st15⟩ := Jvm.LawKit.callS X14 hx (y := (⟨"com/example/tinwire/tinwire/json/Transform", "power", "(JJI)J"⟩ : MethodName)) hown (mvT hZ (hw _ (List.mem_of_getElem? (i := 24) rfl))) (mvT hZ (hw _ (List.mem_of_getElem? (i := 25) rfl))) (mvT hZ (hw _ (List.mem_of_getElem? (i := 2) rfl))) (mvT hZ (hw _ (List.mem_of_getElem? (i := 26) rfl))) (by decide) (backOf (W := 0) (rm3 l Z a0 hw [] (31 : Int64) (1006632960 : Int64) (2013265921 : Int32) h11 n0 Z11 ((by decide) : ¬ (((2013265921 : Int32).toInt64) = (0 : Int64))) ((by decide) : ¬ (((2013265921 : Int32).toInt64) = (0 : Int64))) ((by decide) : ¬ (((2013265921 : Int32).toInt64) = (0 : Int64)))) hZ (hw _ (List.mem_of_getElem? (i := 26) rfl)) (hw _ (List.mem_of_getElem? (i := 2) rfl)) (by decide) (by decide)) (g := (mkF m 49 #[.val (.ref a1), .val (.int (0 : Int32)), .val (.int (2 : Int32)), .val (.ref a4), .val (.ref a5), .unset, .unset, .unset, .unset, .unset, .unset, .unset, .unset, .unset] [(.int (2013265921 : Int32)), (.long (1006632960 : Int64)), (.long (31 : Int64))])) rfl (by rw [hml]; rfl) (argsL := [(.long (31 : Int64)), (.long (1006632960 : Int64)), (.int (2013265921 : Int32))]) (rest := []) (lenOf pd_0 rfl) rfl (by show 2 * 0 + _ ≤ _; exact Nat.le_of_eq rfl) (hb hby d1_49) (fun _ _ => ⟨rfl, e14, (by decide : 0 + 0 ≤ _), (by decide : 0 + 0 ≤ _)⟩)
  dsimp only [Pt.U, Pt.locs, Pt.cells, Pt.slots] at X15 l15 y15 z15 st15 hQ15
  subst l15 y15 z15
  obtain ⟨⟨z15, rfl⟩, N15q, e15⟩ := hQ15
  have N15 := Fr.app N11 N15q
  refine Go.step st15 ?_
  show Go p e below _ (T15.setTop (mkF m 52 #[.val (.ref a1), .val (.int (0 : Int32)), .val (.int (2 : Int32)), .val (.ref a4), .val (.ref a5), .unset, .unset, .unset, .unset, .unset, .unset, .unset, .unset, .unset] [(.long z15)]))
  refine Go.step (fun t k => XS.lstore X15.here hx rfl (hb hby d1_52) rfl (l' := #[.val (.ref a1), .val (.int (0 : Int32)), .val (.int (2 : Int32)), .val (.ref a4), .val (.ref a5), .val (.long z15), .second, .unset, .unset, .unset, .unset, .unset, .unset, .unset]) rfl k) ?_
  show Go p e below _ (T15.setTop (mkF m 54 #[.val (.ref a1), .val (.int (0 : Int32)), .val (.int (2 : Int32)), .val (.ref a4), .val (.ref a5), .val (.long z15), .second, .unset, .unset, .unset, .unset, .unset, .unset, .unset] []))
  refine Go.step (fun t k => XS.aloadN X15.here hx rfl (hb hby d1_54) rfl rfl k) ?_
  show Go p e below _ (T15.setTop (mkF m 55 #[.val (.ref a1), .val (.int (0 : Int32)), .val (.int (2 : Int32)), .val (.ref a4), .val (.ref a5), .val (.long z15), .second, .unset, .unset, .unset, .unset, .unset, .unset, .unset] [(.ref a1)]))
  refine Go.step (fun t k => XS.lload X15.here hx rfl (hb hby d1_55) rfl k) ?_
  show Go p e below _ (T15.setTop (mkF m 57 #[.val (.ref a1), .val (.int (0 : Int32)), .val (.int (2 : Int32)), .val (.ref a4), .val (.ref a5), .val (.long z15), .second, .unset, .unset, .unset, .unset, .unset, .unset, .unset] [(.long z15), (.ref a1)]))
  refine Go.step (fun t k => XS.l2i X15.here hx rfl (hb hby d1_57) rfl k) ?_
  show Go p e below _ (T15.setTop (mkF m 58 #[.val (.ref a1), .val (.int (0 : Int32)), .val (.int (2 : Int32)), .val (.ref a4), .val (.ref a5), .val (.long z15), .second, .unset, .unset, .unset, .unset, .unset, .unset, .unset] [(.int (z15.toInt32)), (.ref a1)]))
  obtain ⟨T16, h16, X16, e16, W16, st16⟩ := putF X15 hx hZ hown (host := "") (Or.inl (hw _ (List.mem_of_getElem? (i := 27) rfl))) Via.refl e15 F_outerRoot_a1_11 E_a1_11 (Or.inr ⟨(hw _ (List.mem_of_getElem? (i := 28) rfl)), rfl, hnm⟩) (hw _ (List.mem_of_getElem? (i := 6) rfl)) (ty := .int) (by decide) rfl rfl (g := (mkF m 58 #[.val (.ref a1), .val (.int (0 : Int32)), .val (.int (2 : Int32)), .val (.ref a4), .val (.ref a5), .val (.long z15), .second, .unset, .unset, .unset, .unset, .unset, .unset, .unset] [(.int (z15.toInt32)), (.ref a1)])) rfl rfl (hb hby d1_58)
  refine Go.step st16 ?_
  have N16 := Fr.snoc X16 N15 g_a1
  have A_a4_16 := A_a4_11.other W16 hne_a4_a1
  have A_a5_16 := A_a5_11.other W16 hne_a5_a1
  have F_length_a1_16 := F_length_a1_11.other W16 (Or.inr (slot_ne (Or.inr (hw _ (List.mem_of_getElem? (i := 17) rfl))) (Or.inr (hw _ (List.mem_of_getElem? (i := 28) rfl))) (by decide) (t := .int) (t' := .int) (by decide) (by decide)))
  have F_roots_a1_16 := F_roots_a1_11.other W16 (Or.inr (slot_ne (Or.inr (hw _ (List.mem_of_getElem? (i := 19) rfl))) (Or.inr (hw _ (List.mem_of_getElem? (i := 28) rfl))) (by decide) (t := (.array .int)) (t' := .int) (by decide) (by decide)))
  have F_rootQuotients_a1_16 := F_rootQuotients_a1_11.other W16 (Or.inr (slot_ne (Or.inr (hw _ (List.mem_of_getElem? (i := 21) rfl))) (Or.inr (hw _ (List.mem_of_getElem? (i := 28) rfl))) (by decide) (t := (.array .int)) (t' := .int) (by decide) (by decide)))
  have F_outerRootQuotient_a1_16 := F_outerRootQuotient_a1_11.other W16 (Or.inr (slot_ne (Or.inr (hw _ (List.mem_of_getElem? (i := 33) rfl))) (Or.inr (hw _ (List.mem_of_getElem? (i := 28) rfl))) (by decide) (t := .int) (t' := .int) (by decide) (by decide)))
  have F_negativeInverse_a1_16 := F_negativeInverse_a1_11.other W16 (Or.inr (slot_ne (Or.inr (hw _ (List.mem_of_getElem? (i := 35) rfl))) (Or.inr (hw _ (List.mem_of_getElem? (i := 28) rfl))) (by decide) (t := .int) (t' := .int) (by decide) (by decide)))
  have F_scale_a1_16 := F_scale_a1_11.other W16 (Or.inr (slot_ne (Or.inr (hw _ (List.mem_of_getElem? (i := 39) rfl))) (Or.inr (hw _ (List.mem_of_getElem? (i := 28) rfl))) (by decide) (t := .int) (t' := .int) (by decide) (by decide)))
  have F_scaleQuotient_a1_16 := F_scaleQuotient_a1_11.other W16 (Or.inr (slot_ne (Or.inr (hw _ (List.mem_of_getElem? (i := 41) rfl))) (Or.inr (hw _ (List.mem_of_getElem? (i := 28) rfl))) (by decide) (t := .int) (t' := .int) (by decide) (by decide)))
  have E_a1_16 := E_a1_11.wr W16
  have F_prime_a1_16 := F_prime_a1_11.other W16 (Or.inr (slot_ne (Or.inr (hw _ (List.mem_of_getElem? (i := 15) rfl))) (Or.inr (hw _ (List.mem_of_getElem? (i := 28) rfl))) (by decide) (t := .int) (t' := .int) (by decide) (by decide)))
  have O16 := O11.wr W16 g_a1
  have Z16 := Nat.le_trans Z11 (Keep.of_wr W16).1
  have KK16 : Keep h0 h16 [a1, a4, a5] := KK11.wr W16 (Or.inl (by simp))
  have F_outerRoot_a1_16 := F_outerRoot_a1_11.same W16
  show Go p e below _ (T16.setTop (mkF m 61 #[.val (.ref a1), .val (.int (0 : Int32)), .val (.int (2 : Int32)), .val (.ref a4), .val (.ref a5), .val (.long z15), .second, .unset, .unset, .unset, .unset, .unset, .unset, .unset] []))
  refine Go.step (fun t k => XS.aloadN X16.here hx rfl (hb hby d1_61) rfl rfl k) ?_
  show Go p e below _ (T16.setTop (mkF m 62 #[.val (.ref a1), .val (.int (0 : Int32)), .val (.int (2 : Int32)), .val (.ref a4), .val (.ref a5), .val (.long z15), .second, .unset, .unset, .unset, .unset, .unset, .unset, .unset] [(.ref a1)]))
  refine Go.step (fun t k => XS.aloadN X16.here hx rfl (hb hby d1_62) rfl rfl k) ?_
  show Go p e below _ (T16.setTop (mkF m 63 #[.val (.ref a1), .val (.int (0 : Int32)), .val (.int (2 : Int32)), .val (.ref a4), .val (.ref a5), .val (.long z15), .second, .unset, .unset, .unset, .unset, .unset, .unset, .unset] [(.ref a1), (.ref a1)]))
  obtain ⟨T17, X17, e17, st17⟩ := getF X16 hx hZ hown (host := "") (Or.inl (hw _ (List.mem_of_getElem? (i := 27) rfl))) Via.refl e16 F_outerRoot_a1_16 (g := (mkF m 63 #[.val (.ref a1), .val (.int (0 : Int32)), .val (.int (2 : Int32)), .val (.ref a4), .val (.ref a5), .val (.long z15), .second, .unset, .unset, .unset, .unset, .unset, .unset, .unset] [(.ref a1), (.ref a1)])) rfl rfl (hb hby d1_63)
  refine Go.step st17 ?_
  show Go p e below _ (T17.setTop (mkF m 66 #[.val (.ref a1), .val (.int (0 : Int32)), .val (.int (2 : Int32)), .val (.ref a4), .val (.ref a5), .val (.long z15), .second, .unset, .unset, .unset, .unset, .unset, .unset, .unset] [(.int (z15.toInt32)), (.ref a1)]))
  refine Go.step (fun t k => XS.aloadN X17.here hx rfl (hb hby d1_66) rfl rfl k) ?_
  show Go p e below _ (T17.setTop (mkF m 67 #[.val (.ref a1), .val (.int (0 : Int32)), .val (.int (2 : Int32)), .val (.ref a4), .val (.ref a5), .val (.long z15), .second, .unset, .unset, .unset, .unset, .unset, .unset, .unset] [(.ref a1), (.int (z15.toInt32)), (.ref a1)]))
  obtain ⟨T18, X18, e18, st18⟩ := getF X17 hx hZ hown (host := "") (Or.inl (hw _ (List.mem_of_getElem? (i := 14) rfl))) Via.refl e17 F_prime_a1_16 (g := (mkF m 67 #[.val (.ref a1), .val (.int (0 : Int32)), .val (.int (2 : Int32)), .val (.ref a4), .val (.ref a5), .val (.long z15), .second, .unset, .unset, .unset, .unset, .unset, .unset, .unset] [(.ref a1), (.int (z15.toInt32)), (.ref a1)])) rfl rfl (hb hby d1_67)
  refine Go.step st18 ?_
  show Go p e below _ (T18.setTop (mkF m 70 #[.val (.ref a1), .val (.int (0 : Int32)), .val (.int (2 : Int32)), .val (.ref a4), .val (.ref a5), .val (.long z15), .second, .unset, .unset, .unset, .unset, .unset, .unset, .unset] [(.int (2013265921 : Int32)), (.int (z15.toInt32)), (.ref a1)]))
  obtain ⟨_, _, ⟨T19, L19, k19, n19⟩, -, X19, ⟨Lc19, hQ19, l19, y19, z19⟩, st19⟩ := Jvm.LawKit.callS X18 hx (y := (⟨"com/example/tinwire/tinwire/json/Transform", "quotient", "(II)I"⟩ : MethodName)) hown (mvT hZ (hw _ (List.mem_of_getElem? (i := 29) rfl))) (mvT hZ (hw _ (List.mem_of_getElem? (i := 30) rfl))) (mvT hZ (hw _ (List.mem_of_getElem? (i := 2) rfl))) (mvT hZ (hw _ (List.mem_of_getElem? (i := 31) rfl))) (by decide) (backOf (W := 1) (rm4 l Z a0 hw [] (z15.toInt32) (2013265921 : Int32) h16 n0 Z16 ((by decide) : ¬ (((2013265921 : Int32).toInt64) = (0 : Int64)))) hZ (hw _ (List.mem_of_getElem? (i := 31) rfl)) (hw _ (List.mem_of_getElem? (i := 2) rfl)) (by decide) (by decide)) (g := (mkF m 70 #[.val (.ref a1), .val (.int (0 : Int32)), .val (.int (2 : Int32)), .val (.ref a4), .val (.ref a5), .val (.long z15), .second, .unset, .unset, .unset, .unset, .unset, .unset, .unset] [(.int (2013265921 : Int32)), (.int (z15.toInt32)), (.ref a1)])) rfl (by rw [hml]; rfl) (argsL := [(.int (z15.toInt32)), (.int (2013265921 : Int32))]) (rest := [(.ref a1)]) (lenOf pd_1 rfl) rfl (by show 2 * 0 + _ ≤ _; exact Nat.le_of_eq rfl) (hb hby d1_70) (fun _ _ => ⟨rfl, e18, (by decide : 0 + 0 ≤ _), (by decide : 0 + 0 ≤ _)⟩)
  dsimp only [Pt.U, Pt.locs, Pt.cells, Pt.slots] at X19 l19 y19 z19 st19 hQ19
  subst l19 y19 z19
  obtain ⟨rfl, N19q, e19⟩ := hQ19
  have N19 := Fr.app N16 N19q
  refine Go.step st19 ?_
  show Go p e below _ (T19.setTop (mkF m 73 #[.val (.ref a1), .val (.int (0 : Int32)), .val (.int (2 : Int32)), .val (.ref a4), .val (.ref a5), .val (.long z15), .second, .unset, .unset, .unset, .unset, .unset, .unset, .unset] [(.int (f4 (z15.toInt32) (2013265921 : Int32))), (.ref a1)]))
  obtain ⟨T20, h20, X20, e20, W20, st20⟩ := putF X19 hx hZ hown (host := "") (Or.inl (hw _ (List.mem_of_getElem? (i := 32) rfl))) Via.refl e19 F_outerRootQuotient_a1_16 E_a1_16 (Or.inr ⟨(hw _ (List.mem_of_getElem? (i := 33) rfl)), rfl, hnm⟩) (hw _ (List.mem_of_getElem? (i := 6) rfl)) (ty := .int) (by decide) rfl rfl (g := (mkF m 73 #[.val (.ref a1), .val (.int (0 : Int32)), .val (.int (2 : Int32)), .val (.ref a4), .val (.ref a5), .val (.long z15), .second, .unset, .unset, .unset, .unset, .unset, .unset, .unset] [(.int (f4 (z15.toInt32) (2013265921 : Int32))), (.ref a1)])) rfl rfl (hb hby d1_73)
  refine Go.step st20 ?_
  have N20 := Fr.snoc X20 N19 g_a1
  have A_a4_20 := A_a4_16.other W20 hne_a4_a1
  have A_a5_20 := A_a5_16.other W20 hne_a5_a1
  have F_length_a1_20 := F_length_a1_16.other W20 (Or.inr (slot_ne (Or.inr (hw _ (List.mem_of_getElem? (i := 17) rfl))) (Or.inr (hw _ (List.mem_of_getElem? (i := 33) rfl))) (by decide) (t := .int) (t' := .int) (by decide) (by decide)))
  have F_roots_a1_20 := F_roots_a1_16.other W20 (Or.inr (slot_ne (Or.inr (hw _ (List.mem_of_getElem? (i := 19) rfl))) (Or.inr (hw _ (List.mem_of_getElem? (i := 33) rfl))) (by decide) (t := (.array .int)) (t' := .int) (by decide) (by decide)))
  have F_rootQuotients_a1_20 := F_rootQuotients_a1_16.other W20 (Or.inr (slot_ne (Or.inr (hw _ (List.mem_of_getElem? (i := 21) rfl))) (Or.inr (hw _ (List.mem_of_getElem? (i := 33) rfl))) (by decide) (t := (.array .int)) (t' := .int) (by decide) (by decide)))
  have F_outerRoot_a1_20 := F_outerRoot_a1_16.other W20 (Or.inr (slot_ne (Or.inr (hw _ (List.mem_of_getElem? (i := 28) rfl))) (Or.inr (hw _ (List.mem_of_getElem? (i := 33) rfl))) (by decide) (t := .int) (t' := .int) (by decide) (by decide)))
  have F_negativeInverse_a1_20 := F_negativeInverse_a1_16.other W20 (Or.inr (slot_ne (Or.inr (hw _ (List.mem_of_getElem? (i := 35) rfl))) (Or.inr (hw _ (List.mem_of_getElem? (i := 33) rfl))) (by decide) (t := .int) (t' := .int) (by decide) (by decide)))
  have F_scale_a1_20 := F_scale_a1_16.other W20 (Or.inr (slot_ne (Or.inr (hw _ (List.mem_of_getElem? (i := 39) rfl))) (Or.inr (hw _ (List.mem_of_getElem? (i := 33) rfl))) (by decide) (t := .int) (t' := .int) (by decide) (by decide)))
  have F_scaleQuotient_a1_20 := F_scaleQuotient_a1_16.other W20 (Or.inr (slot_ne (Or.inr (hw _ (List.mem_of_getElem? (i := 41) rfl))) (Or.inr (hw _ (List.mem_of_getElem? (i := 33) rfl))) (by decide) (t := .int) (t' := .int) (by decide) (by decide)))
  have E_a1_20 := E_a1_16.wr W20
  have F_prime_a1_20 := F_prime_a1_16.other W20 (Or.inr (slot_ne (Or.inr (hw _ (List.mem_of_getElem? (i := 15) rfl))) (Or.inr (hw _ (List.mem_of_getElem? (i := 33) rfl))) (by decide) (t := .int) (t' := .int) (by decide) (by decide)))
  have O20 := O16.wr W20 g_a1
  have Z20 := Nat.le_trans Z16 (Keep.of_wr W20).1
  have KK20 : Keep h0 h20 [a1, a4, a5] := KK16.wr W20 (Or.inl (by simp))
  have F_outerRootQuotient_a1_20 := F_outerRootQuotient_a1_16.same W20
  show Go p e below _ (T20.setTop (mkF m 76 #[.val (.ref a1), .val (.int (0 : Int32)), .val (.int (2 : Int32)), .val (.ref a4), .val (.ref a5), .val (.long z15), .second, .unset, .unset, .unset, .unset, .unset, .unset, .unset] []))
  refine Go.step (fun t k => XS.iloadN X20.here hx rfl (hb hby d1_76) rfl k) ?_
  show Go p e below _ (T20.setTop (mkF m 77 #[.val (.ref a1), .val (.int (0 : Int32)), .val (.int (2 : Int32)), .val (.ref a4), .val (.ref a5), .val (.long z15), .second, .unset, .unset, .unset, .unset, .unset, .unset, .unset] [(.int (2 : Int32))]))
  refine Go.step (fun t k => XS.iconst X20.here hx rfl (hb hby d1_77)  k) ?_
  show Go p e below _ (T20.setTop (mkF m 78 #[.val (.ref a1), .val (.int (0 : Int32)), .val (.int (2 : Int32)), .val (.ref a4), .val (.ref a5), .val (.long z15), .second, .unset, .unset, .unset, .unset, .unset, .unset, .unset] [(.int (4 : Int32)), (.int (2 : Int32))]))
  refine Go.step (fun t k => XS.idiv X20.here hx rfl (hb hby d1_78) rfl (by decide) k) ?_
  show Go p e below _ (T20.setTop (mkF m 79 #[.val (.ref a1), .val (.int (0 : Int32)), .val (.int (2 : Int32)), .val (.ref a4), .val (.ref a5), .val (.long z15), .second, .unset, .unset, .unset, .unset, .unset, .unset, .unset] [(.int (0 : Int32))]))
  refine Go.step (fun t k => XS.istore X20.here hx rfl (hb hby d1_79) rfl (l' := #[.val (.ref a1), .val (.int (0 : Int32)), .val (.int (2 : Int32)), .val (.ref a4), .val (.ref a5), .val (.long z15), .second, .val (.int (0 : Int32)), .unset, .unset, .unset, .unset, .unset, .unset]) rfl k) ?_
  show Go p e below _ (T20.setTop (mkF m 81 #[.val (.ref a1), .val (.int (0 : Int32)), .val (.int (2 : Int32)), .val (.ref a4), .val (.ref a5), .val (.long z15), .second, .val (.int (0 : Int32)), .unset, .unset, .unset, .unset, .unset, .unset] []))
  refine Go.step (fun t k => XS.lload X20.here hx rfl (hb hby d1_81) rfl k) ?_
  show Go p e below _ (T20.setTop (mkF m 83 #[.val (.ref a1), .val (.int (0 : Int32)), .val (.int (2 : Int32)), .val (.ref a4), .val (.ref a5), .val (.long z15), .second, .val (.int (0 : Int32)), .unset, .unset, .unset, .unset, .unset, .unset] [(.long z15)]))
  refine Go.step (fun t k => XS.lload X20.here hx rfl (hb hby d1_83) rfl k) ?_
  show Go p e below _ (T20.setTop (mkF m 85 #[.val (.ref a1), .val (.int (0 : Int32)), .val (.int (2 : Int32)), .val (.ref a4), .val (.ref a5), .val (.long z15), .second, .val (.int (0 : Int32)), .unset, .unset, .unset, .unset, .unset, .unset] [(.long z15), (.long z15)]))
  refine Go.step (fun t k => XS.lmul X20.here hx rfl (hb hby d1_85) rfl k) ?_
  show Go p e below _ (T20.setTop (mkF m 86 #[.val (.ref a1), .val (.int (0 : Int32)), .val (.int (2 : Int32)), .val (.ref a4), .val (.ref a5), .val (.long z15), .second, .val (.int (0 : Int32)), .unset, .unset, .unset, .unset, .unset, .unset] [(.long (z15 * z15))]))
  refine Go.step (fun t k => XS.aloadN X20.here hx rfl (hb hby d1_86) rfl rfl k) ?_
  show Go p e below _ (T20.setTop (mkF m 87 #[.val (.ref a1), .val (.int (0 : Int32)), .val (.int (2 : Int32)), .val (.ref a4), .val (.ref a5), .val (.long z15), .second, .val (.int (0 : Int32)), .unset, .unset, .unset, .unset, .unset, .unset] [(.ref a1), (.long (z15 * z15))]))
  obtain ⟨T21, X21, e21, st21⟩ := getF X20 hx hZ hown (host := "") (Or.inl (hw _ (List.mem_of_getElem? (i := 14) rfl))) Via.refl e20 F_prime_a1_20 (g := (mkF m 87 #[.val (.ref a1), .val (.int (0 : Int32)), .val (.int (2 : Int32)), .val (.ref a4), .val (.ref a5), .val (.long z15), .second, .val (.int (0 : Int32)), .unset, .unset, .unset, .unset, .unset, .unset] [(.ref a1), (.long (z15 * z15))])) rfl rfl (hb hby d1_87)
  refine Go.step st21 ?_
  show Go p e below _ (T21.setTop (mkF m 90 #[.val (.ref a1), .val (.int (0 : Int32)), .val (.int (2 : Int32)), .val (.ref a4), .val (.ref a5), .val (.long z15), .second, .val (.int (0 : Int32)), .unset, .unset, .unset, .unset, .unset, .unset] [(.int (2013265921 : Int32)), (.long (z15 * z15))]))
  refine Go.step (fun t k => XS.i2l X21.here hx rfl (hb hby d1_90) rfl k) ?_
  show Go p e below _ (T21.setTop (mkF m 91 #[.val (.ref a1), .val (.int (0 : Int32)), .val (.int (2 : Int32)), .val (.ref a4), .val (.ref a5), .val (.long z15), .second, .val (.int (0 : Int32)), .unset, .unset, .unset, .unset, .unset, .unset] [(.long (2013265921 : Int64)), (.long (z15 * z15))]))
  refine Go.step (fun t (k : Steps p.tables e below (T21.setTop (mkF m 92 #[.val (.ref a1), .val (.int (0 : Int32)), .val (.int (2 : Int32)), .val (.ref a4), .val (.ref a5), .val (.long z15), .second, .val (.int (0 : Int32)), .unset, .unset, .unset, .unset, .unset, .unset] [(.long ((z15 * z15) % (2013265921 : Int64)))])) t) => XS.lrem X21.here hx rfl (hb hby d1_91) rfl (by decide) (by rw [lrem_mod]; exact k)) ?_
  show Go p e below _ (T21.setTop (mkF m 92 #[.val (.ref a1), .val (.int (0 : Int32)), .val (.int (2 : Int32)), .val (.ref a4), .val (.ref a5), .val (.long z15), .second, .val (.int (0 : Int32)), .unset, .unset, .unset, .unset, .unset, .unset] [(.long ((z15 * z15) % (2013265921 : Int64)))]))
  obtain ⟨v22, hv22⟩ : ∃ z : Int64, z = ((z15 * z15) % (2013265921 : Int64)) := ⟨_, rfl⟩
  rw [← hv22]
  show Go p e below _ (T21.setTop (mkF m 92 #[.val (.ref a1), .val (.int (0 : Int32)), .val (.int (2 : Int32)), .val (.ref a4), .val (.ref a5), .val (.long z15), .second, .val (.int (0 : Int32)), .unset, .unset, .unset, .unset, .unset, .unset] [(.long v22)]))
  refine Go.step (fun t k => XS.lstore X21.here hx rfl (hb hby d1_92) rfl (l' := #[.val (.ref a1), .val (.int (0 : Int32)), .val (.int (2 : Int32)), .val (.ref a4), .val (.ref a5), .val (.long z15), .second, .val (.int (0 : Int32)), .val (.long v22), .second, .unset, .unset, .unset, .unset]) rfl k) ?_
  show Go p e below _ (T21.setTop (mkF m 94 #[.val (.ref a1), .val (.int (0 : Int32)), .val (.int (2 : Int32)), .val (.ref a4), .val (.ref a5), .val (.long z15), .second, .val (.int (0 : Int32)), .val (.long v22), .second, .unset, .unset, .unset, .unset] []))
  refine Go.step (fun t k => XS.lconst X21.here hx rfl (hb hby d1_94)  k) ?_
  show Go p e below _ (T21.setTop (mkF m 95 #[.val (.ref a1), .val (.int (0 : Int32)), .val (.int (2 : Int32)), .val (.ref a4), .val (.ref a5), .val (.long z15), .second, .val (.int (0 : Int32)), .val (.long v22), .second, .unset, .unset, .unset, .unset] [(.long (1 : Int64))]))
  refine Go.step (fun t k => XS.lstore X21.here hx rfl (hb hby d1_95) rfl (l' := #[.val (.ref a1), .val (.int (0 : Int32)), .val (.int (2 : Int32)), .val (.ref a4), .val (.ref a5), .val (.long z15), .second, .val (.int (0 : Int32)), .val (.long v22), .second, .val (.long (1 : Int64)), .second, .unset, .unset]) rfl k) ?_
  show Go p e below _ (T21.setTop (mkF m 97 #[.val (.ref a1), .val (.int (0 : Int32)), .val (.int (2 : Int32)), .val (.ref a4), .val (.ref a5), .val (.long z15), .second, .val (.int (0 : Int32)), .val (.long v22), .second, .val (.long (1 : Int64)), .second, .unset, .unset] []))
  refine Go.step (fun t k => XS.aloadN X21.here hx rfl (hb hby d1_97) rfl rfl k) ?_
  show Go p e below _ (T21.setTop (mkF m 98 #[.val (.ref a1), .val (.int (0 : Int32)), .val (.int (2 : Int32)), .val (.ref a4), .val (.ref a5), .val (.long z15), .second, .val (.int (0 : Int32)), .val (.long v22), .second, .val (.long (1 : Int64)), .second, .unset, .unset] [(.ref a4)]))
  refine Go.step (fun t k => XS.iconst X21.here hx rfl (hb hby d1_98)  k) ?_
  show Go p e below _ (T21.setTop (mkF m 99 #[.val (.ref a1), .val (.int (0 : Int32)), .val (.int (2 : Int32)), .val (.ref a4), .val (.ref a5), .val (.long z15), .second, .val (.int (0 : Int32)), .val (.long v22), .second, .val (.long (1 : Int64)), .second, .unset, .unset] [(.int (0 : Int32)), (.ref a4)]))
  refine Go.step (fun t k => XS.iconst X21.here hx rfl (hb hby d1_99)  k) ?_
  show Go p e below _ (T21.setTop (mkF m 100 #[.val (.ref a1), .val (.int (0 : Int32)), .val (.int (2 : Int32)), .val (.ref a4), .val (.ref a5), .val (.long z15), .second, .val (.int (0 : Int32)), .val (.long v22), .second, .val (.long (1 : Int64)), .second, .unset, .unset] [(.int (1 : Int32)), (.int (0 : Int32)), (.ref a4)]))
  obtain ⟨cl23, Ar23, in23, -⟩ := A_a4_20.hin (j := (0 : Int32)) (by decide) (by decide)
  obtain ⟨T23, h23, X23, e23, W23, st23⟩ := stI X21 hx hZ e21 Ar23 in23 (g := (mkF m 100 #[.val (.ref a1), .val (.int (0 : Int32)), .val (.int (2 : Int32)), .val (.ref a4), .val (.ref a5), .val (.long z15), .second, .val (.int (0 : Int32)), .val (.long v22), .second, .val (.long (1 : Int64)), .second, .unset, .unset] [(.int (1 : Int32)), (.int (0 : Int32)), (.ref a4)])) rfl rfl (hb hby d1_100)
  refine Go.step st23 ?_
  have N23 := Fr.snoc X23 N20 g_a4
  have A_a5_23 := A_a5_20.other W23 hne_a5_a4
  have F_length_a1_23 := F_length_a1_20.other W23 (Or.inl hne_a1_a4)
  have F_roots_a1_23 := F_roots_a1_20.other W23 (Or.inl hne_a1_a4)
  have F_rootQuotients_a1_23 := F_rootQuotients_a1_20.other W23 (Or.inl hne_a1_a4)
  have F_outerRoot_a1_23 := F_outerRoot_a1_20.other W23 (Or.inl hne_a1_a4)
  have F_outerRootQuotient_a1_23 := F_outerRootQuotient_a1_20.other W23 (Or.inl hne_a1_a4)
  have F_negativeInverse_a1_23 := F_negativeInverse_a1_20.other W23 (Or.inl hne_a1_a4)
  have F_scale_a1_23 := F_scale_a1_20.other W23 (Or.inl hne_a1_a4)
  have F_scaleQuotient_a1_23 := F_scaleQuotient_a1_20.other W23 (Or.inl hne_a1_a4)
  have E_a1_23 := E_a1_20.wr W23
  have F_prime_a1_23 := F_prime_a1_20.other W23 (Or.inl hne_a1_a4)
  have O23 := O20.wr W23 g_a4
  have Z23 := Nat.le_trans Z20 (Keep.of_wr W23).1
  have KK23 : Keep h0 h23 [a1, a4, a5] := KK20.wr W23 (Or.inl (by simp))
  have A_a4_23 : Ary Z h23 a4 .int 1 (fun i => .int ((upA g_a4f 0 (1 : Int32)) i)) := A_a4_20.setI W23 (by decide)
  show Go p e below _ (T23.setTop (mkF m 101 #[.val (.ref a1), .val (.int (0 : Int32)), .val (.int (2 : Int32)), .val (.ref a4), .val (.ref a5), .val (.long z15), .second, .val (.int (0 : Int32)), .val (.long v22), .second, .val (.long (1 : Int64)), .second, .unset, .unset] []))
  refine Go.step (fun t k => XS.aload X23.here hx rfl (hb hby d1_101) rfl rfl k) ?_
  show Go p e below _ (T23.setTop (mkF m 103 #[.val (.ref a1), .val (.int (0 : Int32)), .val (.int (2 : Int32)), .val (.ref a4), .val (.ref a5), .val (.long z15), .second, .val (.int (0 : Int32)), .val (.long v22), .second, .val (.long (1 : Int64)), .second, .unset, .unset] [(.ref a5)]))
  refine Go.step (fun t k => XS.iconst X23.here hx rfl (hb hby d1_103)  k) ?_
  show Go p e below _ (T23.setTop (mkF m 104 #[.val (.ref a1), .val (.int (0 : Int32)), .val (.int (2 : Int32)), .val (.ref a4), .val (.ref a5), .val (.long z15), .second, .val (.int (0 : Int32)), .val (.long v22), .second, .val (.long (1 : Int64)), .second, .unset, .unset] [(.int (0 : Int32)), (.ref a5)]))
  refine Go.step (fun t k => XS.iconst X23.here hx rfl (hb hby d1_104)  k) ?_
  show Go p e below _ (T23.setTop (mkF m 105 #[.val (.ref a1), .val (.int (0 : Int32)), .val (.int (2 : Int32)), .val (.ref a4), .val (.ref a5), .val (.long z15), .second, .val (.int (0 : Int32)), .val (.long v22), .second, .val (.long (1 : Int64)), .second, .unset, .unset] [(.int (1 : Int32)), (.int (0 : Int32)), (.ref a5)]))
  refine Go.step (fun t k => XS.aloadN X23.here hx rfl (hb hby d1_105) rfl rfl k) ?_
  show Go p e below _ (T23.setTop (mkF m 106 #[.val (.ref a1), .val (.int (0 : Int32)), .val (.int (2 : Int32)), .val (.ref a4), .val (.ref a5), .val (.long z15), .second, .val (.int (0 : Int32)), .val (.long v22), .second, .val (.long (1 : Int64)), .second, .unset, .unset] [(.ref a1), (.int (1 : Int32)), (.int (0 : Int32)), (.ref a5)]))
  obtain ⟨T24, X24, e24, st24⟩ := getF X23 hx hZ hown (host := "") (Or.inl (hw _ (List.mem_of_getElem? (i := 14) rfl))) Via.refl e23 F_prime_a1_23 (g := (mkF m 106 #[.val (.ref a1), .val (.int (0 : Int32)), .val (.int (2 : Int32)), .val (.ref a4), .val (.ref a5), .val (.long z15), .second, .val (.int (0 : Int32)), .val (.long v22), .second, .val (.long (1 : Int64)), .second, .unset, .unset] [(.ref a1), (.int (1 : Int32)), (.int (0 : Int32)), (.ref a5)])) rfl rfl (hb hby d1_106)
  refine Go.step st24 ?_
  show Go p e below _ (T24.setTop (mkF m 109 #[.val (.ref a1), .val (.int (0 : Int32)), .val (.int (2 : Int32)), .val (.ref a4), .val (.ref a5), .val (.long z15), .second, .val (.int (0 : Int32)), .val (.long v22), .second, .val (.long (1 : Int64)), .second, .unset, .unset] [(.int (2013265921 : Int32)), (.int (1 : Int32)), (.int (0 : Int32)), (.ref a5)]))
  obtain ⟨_, _, ⟨T25, L25, k25, n25⟩, -, X25, ⟨Lc25, hQ25, l25, y25, z25⟩, st25⟩ := Jvm.LawKit.callS X24 hx (y := (⟨"com/example/tinwire/tinwire/json/Transform", "quotient", "(II)I"⟩ : MethodName)) hown (mvT hZ (hw _ (List.mem_of_getElem? (i := 29) rfl))) (mvT hZ (hw _ (List.mem_of_getElem? (i := 30) rfl))) (mvT hZ (hw _ (List.mem_of_getElem? (i := 2) rfl))) (mvT hZ (hw _ (List.mem_of_getElem? (i := 31) rfl))) (by decide) (backOf (W := 2) (rm4 l Z a0 hw [] (1 : Int32) (2013265921 : Int32) h23 n0 Z23 ((by decide) : ¬ (((2013265921 : Int32).toInt64) = (0 : Int64)))) hZ (hw _ (List.mem_of_getElem? (i := 31) rfl)) (hw _ (List.mem_of_getElem? (i := 2) rfl)) (by decide) (by decide)) (g := (mkF m 109 #[.val (.ref a1), .val (.int (0 : Int32)), .val (.int (2 : Int32)), .val (.ref a4), .val (.ref a5), .val (.long z15), .second, .val (.int (0 : Int32)), .val (.long v22), .second, .val (.long (1 : Int64)), .second, .unset, .unset] [(.int (2013265921 : Int32)), (.int (1 : Int32)), (.int (0 : Int32)), (.ref a5)])) rfl (by rw [hml]; rfl) (argsL := [(.int (1 : Int32)), (.int (2013265921 : Int32))]) (rest := [(.int (0 : Int32)), (.ref a5)]) (lenOf pd_1 rfl) rfl (by show 2 * 0 + _ ≤ _; exact Nat.le_of_eq rfl) (hb hby d1_109) (fun _ _ => ⟨rfl, e24, (by decide : 0 + 0 ≤ _), (by decide : 0 + 0 ≤ _)⟩)
  dsimp only [Pt.U, Pt.locs, Pt.cells, Pt.slots] at X25 l25 y25 z25 st25 hQ25
  subst l25 y25 z25
  obtain ⟨rfl, N25q, e25⟩ := hQ25
  have N25 := Fr.app N23 N25q
  refine Go.step st25 ?_
  show Go p e below _ (T25.setTop (mkF m 112 #[.val (.ref a1), .val (.int (0 : Int32)), .val (.int (2 : Int32)), .val (.ref a4), .val (.ref a5), .val (.long z15), .second, .val (.int (0 : Int32)), .val (.long v22), .second, .val (.long (1 : Int64)), .second, .unset, .unset] [(.int (f4 (1 : Int32) (2013265921 : Int32))), (.int (0 : Int32)), (.ref a5)]))
  obtain ⟨cl26, Ar26, in26, -⟩ := A_a5_23.hin (j := (0 : Int32)) (by decide) (by decide)
  obtain ⟨T26, h26, X26, e26, W26, st26⟩ := stI X25 hx hZ e25 Ar26 in26 (g := (mkF m 112 #[.val (.ref a1), .val (.int (0 : Int32)), .val (.int (2 : Int32)), .val (.ref a4), .val (.ref a5), .val (.long z15), .second, .val (.int (0 : Int32)), .val (.long v22), .second, .val (.long (1 : Int64)), .second, .unset, .unset] [(.int (f4 (1 : Int32) (2013265921 : Int32))), (.int (0 : Int32)), (.ref a5)])) rfl rfl (hb hby d1_112)
  refine Go.step st26 ?_
  have N26 := Fr.snoc X26 N25 g_a5
  have F_length_a1_26 := F_length_a1_23.other W26 (Or.inl hne_a1_a5)
  have F_roots_a1_26 := F_roots_a1_23.other W26 (Or.inl hne_a1_a5)
  have F_rootQuotients_a1_26 := F_rootQuotients_a1_23.other W26 (Or.inl hne_a1_a5)
  have F_outerRoot_a1_26 := F_outerRoot_a1_23.other W26 (Or.inl hne_a1_a5)
  have F_outerRootQuotient_a1_26 := F_outerRootQuotient_a1_23.other W26 (Or.inl hne_a1_a5)
  have F_negativeInverse_a1_26 := F_negativeInverse_a1_23.other W26 (Or.inl hne_a1_a5)
  have F_scale_a1_26 := F_scale_a1_23.other W26 (Or.inl hne_a1_a5)
  have F_scaleQuotient_a1_26 := F_scaleQuotient_a1_23.other W26 (Or.inl hne_a1_a5)
  have E_a1_26 := E_a1_23.wr W26
  have F_prime_a1_26 := F_prime_a1_23.other W26 (Or.inl hne_a1_a5)
  have A_a4_26 := A_a4_23.other W26 hne_a4_a5
  have O26 := O23.wr W26 g_a5
  have Z26 := Nat.le_trans Z23 (Keep.of_wr W26).1
  have KK26 : Keep h0 h26 [a1, a4, a5] := KK23.wr W26 (Or.inl (by simp))
  have A_a5_26 : Ary Z h26 a5 .int 1 (fun i => .int ((upA g_a5f 0 (f4 (1 : Int32) (2013265921 : Int32))) i)) := A_a5_23.setI W26 (by decide)
  show Go p e below _ (T26.setTop (mkF m 113 #[.val (.ref a1), .val (.int (0 : Int32)), .val (.int (2 : Int32)), .val (.ref a4), .val (.ref a5), .val (.long z15), .second, .val (.int (0 : Int32)), .val (.long v22), .second, .val (.long (1 : Int64)), .second, .unset, .unset] []))
  refine Go.step (fun t k => XS.iconst X26.here hx rfl (hb hby d1_113)  k) ?_
  show Go p e below _ (T26.setTop (mkF m 114 #[.val (.ref a1), .val (.int (0 : Int32)), .val (.int (2 : Int32)), .val (.ref a4), .val (.ref a5), .val (.long z15), .second, .val (.int (0 : Int32)), .val (.long v22), .second, .val (.long (1 : Int64)), .second, .unset, .unset] [(.int (0 : Int32))]))
  refine Go.step (fun t k => XS.istore X26.here hx rfl (hb hby d1_114) rfl (l' := #[.val (.ref a1), .val (.int (0 : Int32)), .val (.int (2 : Int32)), .val (.ref a4), .val (.ref a5), .val (.long z15), .second, .val (.int (0 : Int32)), .val (.long v22), .second, .val (.long (1 : Int64)), .second, .val (.int (0 : Int32)), .unset]) rfl k) ?_
  show Go p e below _ (T26.setTop (mkF m 116 #[.val (.ref a1), .val (.int (0 : Int32)), .val (.int (2 : Int32)), .val (.ref a4), .val (.ref a5), .val (.long z15), .second, .val (.int (0 : Int32)), .val (.long v22), .second, .val (.long (1 : Int64)), .second, .val (.int (0 : Int32)), .unset] []))
  refine Go.step (fun t k => XS.iload X26.here hx rfl (hb hby d1_116) rfl k) ?_
  show Go p e below _ (T26.setTop (mkF m 118 #[.val (.ref a1), .val (.int (0 : Int32)), .val (.int (2 : Int32)), .val (.ref a4), .val (.ref a5), .val (.long z15), .second, .val (.int (0 : Int32)), .val (.long v22), .second, .val (.long (1 : Int64)), .second, .val (.int (0 : Int32)), .unset] [(.int (0 : Int32))]))
  refine Go.step (fun t k => XS.iload X26.here hx rfl (hb hby d1_118) rfl k) ?_
  show Go p e below _ (T26.setTop (mkF m 120 #[.val (.ref a1), .val (.int (0 : Int32)), .val (.int (2 : Int32)), .val (.ref a4), .val (.ref a5), .val (.long z15), .second, .val (.int (0 : Int32)), .val (.long v22), .second, .val (.long (1 : Int64)), .second, .val (.int (0 : Int32)), .unset] [(.int (0 : Int32)), (.int (0 : Int32))]))
  refine Go.step (fun t k => XS.icmpYes X26.here hx rfl (pc0 := 120) (pc' := 170) rfl (hb hby d1_120) rfl (flt (by decide : ¬ ((0 : Int32) < (0 : Int32)))).2.1 (by decide) (by decide) k) ?_
  show Go p e below _ (T26.setTop (mkF m 170 #[.val (.ref a1), .val (.int (0 : Int32)), .val (.int (2 : Int32)), .val (.ref a4), .val (.ref a5), .val (.long z15), .second, .val (.int (0 : Int32)), .val (.long v22), .second, .val (.long (1 : Int64)), .second, .val (.int (0 : Int32)), .unset] []))
  refine Go.step (fun t k => XS.iload X26.here hx rfl (hb hby d1_170) rfl k) ?_
  show Go p e below _ (T26.setTop (mkF m 172 #[.val (.ref a1), .val (.int (0 : Int32)), .val (.int (2 : Int32)), .val (.ref a4), .val (.ref a5), .val (.long z15), .second, .val (.int (0 : Int32)), .val (.long v22), .second, .val (.long (1 : Int64)), .second, .val (.int (0 : Int32)), .unset] [(.int (0 : Int32))]))
  refine Go.step (fun t k => XS.iconst X26.here hx rfl (hb hby d1_172)  k) ?_
  show Go p e below _ (T26.setTop (mkF m 173 #[.val (.ref a1), .val (.int (0 : Int32)), .val (.int (2 : Int32)), .val (.ref a4), .val (.ref a5), .val (.long z15), .second, .val (.int (0 : Int32)), .val (.long v22), .second, .val (.long (1 : Int64)), .second, .val (.int (0 : Int32)), .unset] [(.int (2 : Int32)), (.int (0 : Int32))]))
  refine Go.step (fun t k => XS.idiv X26.here hx rfl (hb hby d1_173) rfl (by decide) k) ?_
  show Go p e below _ (T26.setTop (mkF m 174 #[.val (.ref a1), .val (.int (0 : Int32)), .val (.int (2 : Int32)), .val (.ref a4), .val (.ref a5), .val (.long z15), .second, .val (.int (0 : Int32)), .val (.long v22), .second, .val (.long (1 : Int64)), .second, .val (.int (0 : Int32)), .unset] [(.int (0 : Int32))]))
  refine Go.step (fun t k => XS.istore X26.here hx rfl (hb hby d1_174) rfl (l' := #[.val (.ref a1), .val (.int (0 : Int32)), .val (.int (2 : Int32)), .val (.ref a4), .val (.ref a5), .val (.long z15), .second, .val (.int (0 : Int32)), .val (.long v22), .second, .val (.long (1 : Int64)), .second, .val (.int (0 : Int32)), .unset]) rfl k) ?_
  show Go p e below _ (T26.setTop (mkF m 176 #[.val (.ref a1), .val (.int (0 : Int32)), .val (.int (2 : Int32)), .val (.ref a4), .val (.ref a5), .val (.long z15), .second, .val (.int (0 : Int32)), .val (.long v22), .second, .val (.long (1 : Int64)), .second, .val (.int (0 : Int32)), .unset] []))
  refine Go.step (fun t k => XS.iload X26.here hx rfl (hb hby d1_176) rfl k) ?_
  show Go p e below _ (T26.setTop (mkF m 178 #[.val (.ref a1), .val (.int (0 : Int32)), .val (.int (2 : Int32)), .val (.ref a4), .val (.ref a5), .val (.long z15), .second, .val (.int (0 : Int32)), .val (.long v22), .second, .val (.long (1 : Int64)), .second, .val (.int (0 : Int32)), .unset] [(.int (0 : Int32))]))
  refine Go.step (fun t k => XS.ifYes X26.here hx rfl (pc0 := 178) (pc' := 244) rfl (hb hby d1_178) rfl ((if0 _ _).trans (flt (by decide : ¬ ((0 : Int32) < (0 : Int32)))).2.2.2) (by decide) (by decide) k) ?_
  show Go p e below _ (T26.setTop (mkF m 244 #[.val (.ref a1), .val (.int (0 : Int32)), .val (.int (2 : Int32)), .val (.ref a4), .val (.ref a5), .val (.long z15), .second, .val (.int (0 : Int32)), .val (.long v22), .second, .val (.long (1 : Int64)), .second, .val (.int (0 : Int32)), .unset] []))
  refine Go.step (fun t k => XS.aloadN X26.here hx rfl (hb hby d1_244) rfl rfl k) ?_
  show Go p e below _ (T26.setTop (mkF m 245 #[.val (.ref a1), .val (.int (0 : Int32)), .val (.int (2 : Int32)), .val (.ref a4), .val (.ref a5), .val (.long z15), .second, .val (.int (0 : Int32)), .val (.long v22), .second, .val (.long (1 : Int64)), .second, .val (.int (0 : Int32)), .unset] [(.ref a1)]))
  obtain ⟨T27, X27, e27, st27⟩ := getF X26 hx hZ hown (host := "") (Or.inl (hw _ (List.mem_of_getElem? (i := 14) rfl))) Via.refl e26 F_prime_a1_26 (g := (mkF m 245 #[.val (.ref a1), .val (.int (0 : Int32)), .val (.int (2 : Int32)), .val (.ref a4), .val (.ref a5), .val (.long z15), .second, .val (.int (0 : Int32)), .val (.long v22), .second, .val (.long (1 : Int64)), .second, .val (.int (0 : Int32)), .unset] [(.ref a1)])) rfl rfl (hb hby d1_245)
  refine Go.step st27 ?_
  show Go p e below _ (T27.setTop (mkF m 248 #[.val (.ref a1), .val (.int (0 : Int32)), .val (.int (2 : Int32)), .val (.ref a4), .val (.ref a5), .val (.long z15), .second, .val (.int (0 : Int32)), .val (.long v22), .second, .val (.long (1 : Int64)), .second, .val (.int (0 : Int32)), .unset] [(.int (2013265921 : Int32))]))
  refine Go.step (fun t k => XS.istore X27.here hx rfl (hb hby d1_248) rfl (l' := #[.val (.ref a1), .val (.int (0 : Int32)), .val (.int (2 : Int32)), .val (.ref a4), .val (.ref a5), .val (.long z15), .second, .val (.int (0 : Int32)), .val (.long v22), .second, .val (.long (1 : Int64)), .second, .val (.int (2013265921 : Int32)), .unset]) rfl k) ?_
  show Go p e below _ (T27.setTop (mkF m 250 #[.val (.ref a1), .val (.int (0 : Int32)), .val (.int (2 : Int32)), .val (.ref a4), .val (.ref a5), .val (.long z15), .second, .val (.int (0 : Int32)), .val (.long v22), .second, .val (.long (1 : Int64)), .second, .val (.int (2013265921 : Int32)), .unset] []))
  refine Go.step (fun t k => XS.iconst X27.here hx rfl (hb hby d1_250)  k) ?_
  show Go p e below _ (T27.setTop (mkF m 251 #[.val (.ref a1), .val (.int (0 : Int32)), .val (.int (2 : Int32)), .val (.ref a4), .val (.ref a5), .val (.long z15), .second, .val (.int (0 : Int32)), .val (.long v22), .second, .val (.long (1 : Int64)), .second, .val (.int (2013265921 : Int32)), .unset] [(.int (0 : Int32))]))
  refine Go.step (fun t k => XS.istore X27.here hx rfl (hb hby d1_251) rfl (l' := #[.val (.ref a1), .val (.int (0 : Int32)), .val (.int (2 : Int32)), .val (.ref a4), .val (.ref a5), .val (.long z15), .second, .val (.int (0 : Int32)), .val (.long v22), .second, .val (.long (1 : Int64)), .second, .val (.int (2013265921 : Int32)), .val (.int (0 : Int32))]) rfl k) ?_
  show Go p e below _ (T27.setTop (mkF m 253 #[.val (.ref a1), .val (.int (0 : Int32)), .val (.int (2 : Int32)), .val (.ref a4), .val (.ref a5), .val (.long z15), .second, .val (.int (0 : Int32)), .val (.long v22), .second, .val (.long (1 : Int64)), .second, .val (.int (2013265921 : Int32)), .val (.int (0 : Int32))] []))
  refine Go.step (fun t k => XS.iload X27.here hx rfl (hb hby d1_253) rfl k) ?_
  show Go p e below _ (T27.setTop (mkF m 255 #[.val (.ref a1), .val (.int (0 : Int32)), .val (.int (2 : Int32)), .val (.ref a4), .val (.ref a5), .val (.long z15), .second, .val (.int (0 : Int32)), .val (.long v22), .second, .val (.long (1 : Int64)), .second, .val (.int (2013265921 : Int32)), .val (.int (0 : Int32))] [(.int (0 : Int32))]))
  refine Go.step (fun t k => XS.iconst X27.here hx rfl (hb hby d1_255)  k) ?_
  show Go p e below _ (T27.setTop (mkF m 256 #[.val (.ref a1), .val (.int (0 : Int32)), .val (.int (2 : Int32)), .val (.ref a4), .val (.ref a5), .val (.long z15), .second, .val (.int (0 : Int32)), .val (.long v22), .second, .val (.long (1 : Int64)), .second, .val (.int (2013265921 : Int32)), .val (.int (0 : Int32))] [(.int (4 : Int32)), (.int (0 : Int32))]))
  refine Go.step (fun t k => XS.icmpNo X27.here hx rfl (hb hby d1_256) rfl (tlt (by decide : (0 : Int32) < (4 : Int32))).2.1 k) ?_
  show Go p e below _ (T27.setTop (mkF m 259 #[.val (.ref a1), .val (.int (0 : Int32)), .val (.int (2 : Int32)), .val (.ref a4), .val (.ref a5), .val (.long z15), .second, .val (.int (0 : Int32)), .val (.long v22), .second, .val (.long (1 : Int64)), .second, .val (.int (2013265921 : Int32)), .val (.int (0 : Int32))] []))
  refine Go.step (fun t k => XS.iload X27.here hx rfl (hb hby d1_259) rfl k) ?_
  show Go p e below _ (T27.setTop (mkF m 261 #[.val (.ref a1), .val (.int (0 : Int32)), .val (.int (2 : Int32)), .val (.ref a4), .val (.ref a5), .val (.long z15), .second, .val (.int (0 : Int32)), .val (.long v22), .second, .val (.long (1 : Int64)), .second, .val (.int (2013265921 : Int32)), .val (.int (0 : Int32))] [(.int (2013265921 : Int32))]))
  refine Go.step (fun t k => XS.iconst X27.here hx rfl (hb hby d1_261)  k) ?_
  show Go p e below _ (T27.setTop (mkF m 262 #[.val (.ref a1), .val (.int (0 : Int32)), .val (.int (2 : Int32)), .val (.ref a4), .val (.ref a5), .val (.long z15), .second, .val (.int (0 : Int32)), .val (.long v22), .second, .val (.long (1 : Int64)), .second, .val (.int (2013265921 : Int32)), .val (.int (0 : Int32))] [(.int (2 : Int32)), (.int (2013265921 : Int32))]))
  refine Go.step (fun t k => XS.aloadN X27.here hx rfl (hb hby d1_262) rfl rfl k) ?_
  show Go p e below _ (T27.setTop (mkF m 263 #[.val (.ref a1), .val (.int (0 : Int32)), .val (.int (2 : Int32)), .val (.ref a4), .val (.ref a5), .val (.long z15), .second, .val (.int (0 : Int32)), .val (.long v22), .second, .val (.long (1 : Int64)), .second, .val (.int (2013265921 : Int32)), .val (.int (0 : Int32))] [(.ref a1), (.int (2 : Int32)), (.int (2013265921 : Int32))]))
  obtain ⟨T28, X28, e28, st28⟩ := getF X27 hx hZ hown (host := "") (Or.inl (hw _ (List.mem_of_getElem? (i := 14) rfl))) Via.refl e27 F_prime_a1_26 (g := (mkF m 263 #[.val (.ref a1), .val (.int (0 : Int32)), .val (.int (2 : Int32)), .val (.ref a4), .val (.ref a5), .val (.long z15), .second, .val (.int (0 : Int32)), .val (.long v22), .second, .val (.long (1 : Int64)), .second, .val (.int (2013265921 : Int32)), .val (.int (0 : Int32))] [(.ref a1), (.int (2 : Int32)), (.int (2013265921 : Int32))])) rfl rfl (hb hby d1_263)
  refine Go.step st28 ?_
  show Go p e below _ (T28.setTop (mkF m 266 #[.val (.ref a1), .val (.int (0 : Int32)), .val (.int (2 : Int32)), .val (.ref a4), .val (.ref a5), .val (.long z15), .second, .val (.int (0 : Int32)), .val (.long v22), .second, .val (.long (1 : Int64)), .second, .val (.int (2013265921 : Int32)), .val (.int (0 : Int32))] [(.int (2013265921 : Int32)), (.int (2 : Int32)), (.int (2013265921 : Int32))]))
  refine Go.step (fun t k => XS.iload X28.here hx rfl (hb hby d1_266) rfl k) ?_
  show Go p e below _ (T28.setTop (mkF m 268 #[.val (.ref a1), .val (.int (0 : Int32)), .val (.int (2 : Int32)), .val (.ref a4), .val (.ref a5), .val (.long z15), .second, .val (.int (0 : Int32)), .val (.long v22), .second, .val (.long (1 : Int64)), .second, .val (.int (2013265921 : Int32)), .val (.int (0 : Int32))] [(.int (2013265921 : Int32)), (.int (2013265921 : Int32)), (.int (2 : Int32)), (.int (2013265921 : Int32))]))
  refine Go.step (fun t k => XS.imul X28.here hx rfl (hb hby d1_268) rfl k) ?_
  show Go p e below _ (T28.setTop (mkF m 269 #[.val (.ref a1), .val (.int (0 : Int32)), .val (.int (2 : Int32)), .val (.ref a4), .val (.ref a5), .val (.long z15), .second, .val (.int (0 : Int32)), .val (.long v22), .second, .val (.long (1 : Int64)), .second, .val (.int (2013265921 : Int32)), .val (.int (0 : Int32))] [(.int (-268435455 : Int32)), (.int (2 : Int32)), (.int (2013265921 : Int32))]))
  refine Go.step (fun t k => XS.isub X28.here hx rfl (hb hby d1_269) rfl k) ?_
  show Go p e below _ (T28.setTop (mkF m 270 #[.val (.ref a1), .val (.int (0 : Int32)), .val (.int (2 : Int32)), .val (.ref a4), .val (.ref a5), .val (.long z15), .second, .val (.int (0 : Int32)), .val (.long v22), .second, .val (.long (1 : Int64)), .second, .val (.int (2013265921 : Int32)), .val (.int (0 : Int32))] [(.int (268435457 : Int32)), (.int (2013265921 : Int32))]))
  refine Go.step (fun t k => XS.imul X28.here hx rfl (hb hby d1_270) rfl k) ?_
  show Go p e below _ (T28.setTop (mkF m 271 #[.val (.ref a1), .val (.int (0 : Int32)), .val (.int (2 : Int32)), .val (.ref a4), .val (.ref a5), .val (.long z15), .second, .val (.int (0 : Int32)), .val (.long v22), .second, .val (.long (1 : Int64)), .second, .val (.int (2013265921 : Int32)), .val (.int (0 : Int32))] [(.int (-2013265919 : Int32))]))
  refine Go.step (fun t k => XS.istore X28.here hx rfl (hb hby d1_271) rfl (l' := #[.val (.ref a1), .val (.int (0 : Int32)), .val (.int (2 : Int32)), .val (.ref a4), .val (.ref a5), .val (.long z15), .second, .val (.int (0 : Int32)), .val (.long v22), .second, .val (.long (1 : Int64)), .second, .val (.int (-2013265919 : Int32)), .val (.int (0 : Int32))]) rfl k) ?_
  show Go p e below _ (T28.setTop (mkF m 273 #[.val (.ref a1), .val (.int (0 : Int32)), .val (.int (2 : Int32)), .val (.ref a4), .val (.ref a5), .val (.long z15), .second, .val (.int (0 : Int32)), .val (.long v22), .second, .val (.long (1 : Int64)), .second, .val (.int (-2013265919 : Int32)), .val (.int (0 : Int32))] []))
  refine Go.step (fun t k => XS.iinc X28.here hx rfl (hb hby d1_273) rfl (l' := #[.val (.ref a1), .val (.int (0 : Int32)), .val (.int (2 : Int32)), .val (.ref a4), .val (.ref a5), .val (.long z15), .second, .val (.int (0 : Int32)), .val (.long v22), .second, .val (.long (1 : Int64)), .second, .val (.int (-2013265919 : Int32)), .val (.int (1 : Int32))]) rfl k) ?_
  show Go p e below _ (T28.setTop (mkF m 276 #[.val (.ref a1), .val (.int (0 : Int32)), .val (.int (2 : Int32)), .val (.ref a4), .val (.ref a5), .val (.long z15), .second, .val (.int (0 : Int32)), .val (.long v22), .second, .val (.long (1 : Int64)), .second, .val (.int (-2013265919 : Int32)), .val (.int (1 : Int32))] []))
  refine Go.step (fun t k => XS.goto X28.here hx rfl (pc0 := 276) (pc' := 253) rfl (hb hby d1_276) (by decide) (by decide) k) ?_
  show Go p e below _ (T28.setTop (mkF m 253 #[.val (.ref a1), .val (.int (0 : Int32)), .val (.int (2 : Int32)), .val (.ref a4), .val (.ref a5), .val (.long z15), .second, .val (.int (0 : Int32)), .val (.long v22), .second, .val (.long (1 : Int64)), .second, .val (.int (-2013265919 : Int32)), .val (.int (1 : Int32))] []))
  refine Go.step (fun t k => XS.iload X28.here hx rfl (hb hby d1_253) rfl k) ?_
  show Go p e below _ (T28.setTop (mkF m 255 #[.val (.ref a1), .val (.int (0 : Int32)), .val (.int (2 : Int32)), .val (.ref a4), .val (.ref a5), .val (.long z15), .second, .val (.int (0 : Int32)), .val (.long v22), .second, .val (.long (1 : Int64)), .second, .val (.int (-2013265919 : Int32)), .val (.int (1 : Int32))] [(.int (1 : Int32))]))
  refine Go.step (fun t k => XS.iconst X28.here hx rfl (hb hby d1_255)  k) ?_
  show Go p e below _ (T28.setTop (mkF m 256 #[.val (.ref a1), .val (.int (0 : Int32)), .val (.int (2 : Int32)), .val (.ref a4), .val (.ref a5), .val (.long z15), .second, .val (.int (0 : Int32)), .val (.long v22), .second, .val (.long (1 : Int64)), .second, .val (.int (-2013265919 : Int32)), .val (.int (1 : Int32))] [(.int (4 : Int32)), (.int (1 : Int32))]))
  refine Go.step (fun t k => XS.icmpNo X28.here hx rfl (hb hby d1_256) rfl (tlt (by decide : (1 : Int32) < (4 : Int32))).2.1 k) ?_
  show Go p e below _ (T28.setTop (mkF m 259 #[.val (.ref a1), .val (.int (0 : Int32)), .val (.int (2 : Int32)), .val (.ref a4), .val (.ref a5), .val (.long z15), .second, .val (.int (0 : Int32)), .val (.long v22), .second, .val (.long (1 : Int64)), .second, .val (.int (-2013265919 : Int32)), .val (.int (1 : Int32))] []))
  refine Go.step (fun t k => XS.iload X28.here hx rfl (hb hby d1_259) rfl k) ?_
  show Go p e below _ (T28.setTop (mkF m 261 #[.val (.ref a1), .val (.int (0 : Int32)), .val (.int (2 : Int32)), .val (.ref a4), .val (.ref a5), .val (.long z15), .second, .val (.int (0 : Int32)), .val (.long v22), .second, .val (.long (1 : Int64)), .second, .val (.int (-2013265919 : Int32)), .val (.int (1 : Int32))] [(.int (-2013265919 : Int32))]))
  refine Go.step (fun t k => XS.iconst X28.here hx rfl (hb hby d1_261)  k) ?_
  show Go p e below _ (T28.setTop (mkF m 262 #[.val (.ref a1), .val (.int (0 : Int32)), .val (.int (2 : Int32)), .val (.ref a4), .val (.ref a5), .val (.long z15), .second, .val (.int (0 : Int32)), .val (.long v22), .second, .val (.long (1 : Int64)), .second, .val (.int (-2013265919 : Int32)), .val (.int (1 : Int32))] [(.int (2 : Int32)), (.int (-2013265919 : Int32))]))
  refine Go.step (fun t k => XS.aloadN X28.here hx rfl (hb hby d1_262) rfl rfl k) ?_
  show Go p e below _ (T28.setTop (mkF m 263 #[.val (.ref a1), .val (.int (0 : Int32)), .val (.int (2 : Int32)), .val (.ref a4), .val (.ref a5), .val (.long z15), .second, .val (.int (0 : Int32)), .val (.long v22), .second, .val (.long (1 : Int64)), .second, .val (.int (-2013265919 : Int32)), .val (.int (1 : Int32))] [(.ref a1), (.int (2 : Int32)), (.int (-2013265919 : Int32))]))
  obtain ⟨T29, X29, e29, st29⟩ := getF X28 hx hZ hown (host := "") (Or.inl (hw _ (List.mem_of_getElem? (i := 14) rfl))) Via.refl e28 F_prime_a1_26 (g := (mkF m 263 #[.val (.ref a1), .val (.int (0 : Int32)), .val (.int (2 : Int32)), .val (.ref a4), .val (.ref a5), .val (.long z15), .second, .val (.int (0 : Int32)), .val (.long v22), .second, .val (.long (1 : Int64)), .second, .val (.int (-2013265919 : Int32)), .val (.int (1 : Int32))] [(.ref a1), (.int (2 : Int32)), (.int (-2013265919 : Int32))])) rfl rfl (hb hby d1_263)
  refine Go.step st29 ?_
  show Go p e below _ (T29.setTop (mkF m 266 #[.val (.ref a1), .val (.int (0 : Int32)), .val (.int (2 : Int32)), .val (.ref a4), .val (.ref a5), .val (.long z15), .second, .val (.int (0 : Int32)), .val (.long v22), .second, .val (.long (1 : Int64)), .second, .val (.int (-2013265919 : Int32)), .val (.int (1 : Int32))] [(.int (2013265921 : Int32)), (.int (2 : Int32)), (.int (-2013265919 : Int32))]))
  refine Go.step (fun t k => XS.iload X29.here hx rfl (hb hby d1_266) rfl k) ?_
  show Go p e below _ (T29.setTop (mkF m 268 #[.val (.ref a1), .val (.int (0 : Int32)), .val (.int (2 : Int32)), .val (.ref a4), .val (.ref a5), .val (.long z15), .second, .val (.int (0 : Int32)), .val (.long v22), .second, .val (.long (1 : Int64)), .second, .val (.int (-2013265919 : Int32)), .val (.int (1 : Int32))] [(.int (-2013265919 : Int32)), (.int (2013265921 : Int32)), (.int (2 : Int32)), (.int (-2013265919 : Int32))]))
  refine Go.step (fun t k => XS.imul X29.here hx rfl (hb hby d1_268) rfl k) ?_
  show Go p e below _ (T29.setTop (mkF m 269 #[.val (.ref a1), .val (.int (0 : Int32)), .val (.int (2 : Int32)), .val (.ref a4), .val (.ref a5), .val (.long z15), .second, .val (.int (0 : Int32)), .val (.long v22), .second, .val (.long (1 : Int64)), .second, .val (.int (-2013265919 : Int32)), .val (.int (1 : Int32))] [(.int (1 : Int32)), (.int (2 : Int32)), (.int (-2013265919 : Int32))]))
  refine Go.step (fun t k => XS.isub X29.here hx rfl (hb hby d1_269) rfl k) ?_
  show Go p e below _ (T29.setTop (mkF m 270 #[.val (.ref a1), .val (.int (0 : Int32)), .val (.int (2 : Int32)), .val (.ref a4), .val (.ref a5), .val (.long z15), .second, .val (.int (0 : Int32)), .val (.long v22), .second, .val (.long (1 : Int64)), .second, .val (.int (-2013265919 : Int32)), .val (.int (1 : Int32))] [(.int (1 : Int32)), (.int (-2013265919 : Int32))]))
  refine Go.step (fun t k => XS.imul X29.here hx rfl (hb hby d1_270) rfl k) ?_
  show Go p e below _ (T29.setTop (mkF m 271 #[.val (.ref a1), .val (.int (0 : Int32)), .val (.int (2 : Int32)), .val (.ref a4), .val (.ref a5), .val (.long z15), .second, .val (.int (0 : Int32)), .val (.long v22), .second, .val (.long (1 : Int64)), .second, .val (.int (-2013265919 : Int32)), .val (.int (1 : Int32))] [(.int (-2013265919 : Int32))]))
  refine Go.step (fun t k => XS.istore X29.here hx rfl (hb hby d1_271) rfl (l' := #[.val (.ref a1), .val (.int (0 : Int32)), .val (.int (2 : Int32)), .val (.ref a4), .val (.ref a5), .val (.long z15), .second, .val (.int (0 : Int32)), .val (.long v22), .second, .val (.long (1 : Int64)), .second, .val (.int (-2013265919 : Int32)), .val (.int (1 : Int32))]) rfl k) ?_
  show Go p e below _ (T29.setTop (mkF m 273 #[.val (.ref a1), .val (.int (0 : Int32)), .val (.int (2 : Int32)), .val (.ref a4), .val (.ref a5), .val (.long z15), .second, .val (.int (0 : Int32)), .val (.long v22), .second, .val (.long (1 : Int64)), .second, .val (.int (-2013265919 : Int32)), .val (.int (1 : Int32))] []))
  refine Go.step (fun t k => XS.iinc X29.here hx rfl (hb hby d1_273) rfl (l' := #[.val (.ref a1), .val (.int (0 : Int32)), .val (.int (2 : Int32)), .val (.ref a4), .val (.ref a5), .val (.long z15), .second, .val (.int (0 : Int32)), .val (.long v22), .second, .val (.long (1 : Int64)), .second, .val (.int (-2013265919 : Int32)), .val (.int (2 : Int32))]) rfl k) ?_
  show Go p e below _ (T29.setTop (mkF m 276 #[.val (.ref a1), .val (.int (0 : Int32)), .val (.int (2 : Int32)), .val (.ref a4), .val (.ref a5), .val (.long z15), .second, .val (.int (0 : Int32)), .val (.long v22), .second, .val (.long (1 : Int64)), .second, .val (.int (-2013265919 : Int32)), .val (.int (2 : Int32))] []))
  refine Go.step (fun t k => XS.goto X29.here hx rfl (pc0 := 276) (pc' := 253) rfl (hb hby d1_276) (by decide) (by decide) k) ?_
  show Go p e below _ (T29.setTop (mkF m 253 #[.val (.ref a1), .val (.int (0 : Int32)), .val (.int (2 : Int32)), .val (.ref a4), .val (.ref a5), .val (.long z15), .second, .val (.int (0 : Int32)), .val (.long v22), .second, .val (.long (1 : Int64)), .second, .val (.int (-2013265919 : Int32)), .val (.int (2 : Int32))] []))
  refine Go.step (fun t k => XS.iload X29.here hx rfl (hb hby d1_253) rfl k) ?_
  show Go p e below _ (T29.setTop (mkF m 255 #[.val (.ref a1), .val (.int (0 : Int32)), .val (.int (2 : Int32)), .val (.ref a4), .val (.ref a5), .val (.long z15), .second, .val (.int (0 : Int32)), .val (.long v22), .second, .val (.long (1 : Int64)), .second, .val (.int (-2013265919 : Int32)), .val (.int (2 : Int32))] [(.int (2 : Int32))]))
  refine Go.step (fun t k => XS.iconst X29.here hx rfl (hb hby d1_255)  k) ?_
  show Go p e below _ (T29.setTop (mkF m 256 #[.val (.ref a1), .val (.int (0 : Int32)), .val (.int (2 : Int32)), .val (.ref a4), .val (.ref a5), .val (.long z15), .second, .val (.int (0 : Int32)), .val (.long v22), .second, .val (.long (1 : Int64)), .second, .val (.int (-2013265919 : Int32)), .val (.int (2 : Int32))] [(.int (4 : Int32)), (.int (2 : Int32))]))
  refine Go.step (fun t k => XS.icmpNo X29.here hx rfl (hb hby d1_256) rfl (tlt (by decide : (2 : Int32) < (4 : Int32))).2.1 k) ?_
  show Go p e below _ (T29.setTop (mkF m 259 #[.val (.ref a1), .val (.int (0 : Int32)), .val (.int (2 : Int32)), .val (.ref a4), .val (.ref a5), .val (.long z15), .second, .val (.int (0 : Int32)), .val (.long v22), .second, .val (.long (1 : Int64)), .second, .val (.int (-2013265919 : Int32)), .val (.int (2 : Int32))] []))
  refine Go.step (fun t k => XS.iload X29.here hx rfl (hb hby d1_259) rfl k) ?_
  show Go p e below _ (T29.setTop (mkF m 261 #[.val (.ref a1), .val (.int (0 : Int32)), .val (.int (2 : Int32)), .val (.ref a4), .val (.ref a5), .val (.long z15), .second, .val (.int (0 : Int32)), .val (.long v22), .second, .val (.long (1 : Int64)), .second, .val (.int (-2013265919 : Int32)), .val (.int (2 : Int32))] [(.int (-2013265919 : Int32))]))
  refine Go.step (fun t k => XS.iconst X29.here hx rfl (hb hby d1_261)  k) ?_
  show Go p e below _ (T29.setTop (mkF m 262 #[.val (.ref a1), .val (.int (0 : Int32)), .val (.int (2 : Int32)), .val (.ref a4), .val (.ref a5), .val (.long z15), .second, .val (.int (0 : Int32)), .val (.long v22), .second, .val (.long (1 : Int64)), .second, .val (.int (-2013265919 : Int32)), .val (.int (2 : Int32))] [(.int (2 : Int32)), (.int (-2013265919 : Int32))]))
  refine Go.step (fun t k => XS.aloadN X29.here hx rfl (hb hby d1_262) rfl rfl k) ?_
  show Go p e below _ (T29.setTop (mkF m 263 #[.val (.ref a1), .val (.int (0 : Int32)), .val (.int (2 : Int32)), .val (.ref a4), .val (.ref a5), .val (.long z15), .second, .val (.int (0 : Int32)), .val (.long v22), .second, .val (.long (1 : Int64)), .second, .val (.int (-2013265919 : Int32)), .val (.int (2 : Int32))] [(.ref a1), (.int (2 : Int32)), (.int (-2013265919 : Int32))]))
  obtain ⟨T30, X30, e30, st30⟩ := getF X29 hx hZ hown (host := "") (Or.inl (hw _ (List.mem_of_getElem? (i := 14) rfl))) Via.refl e29 F_prime_a1_26 (g := (mkF m 263 #[.val (.ref a1), .val (.int (0 : Int32)), .val (.int (2 : Int32)), .val (.ref a4), .val (.ref a5), .val (.long z15), .second, .val (.int (0 : Int32)), .val (.long v22), .second, .val (.long (1 : Int64)), .second, .val (.int (-2013265919 : Int32)), .val (.int (2 : Int32))] [(.ref a1), (.int (2 : Int32)), (.int (-2013265919 : Int32))])) rfl rfl (hb hby d1_263)
  refine Go.step st30 ?_
  show Go p e below _ (T30.setTop (mkF m 266 #[.val (.ref a1), .val (.int (0 : Int32)), .val (.int (2 : Int32)), .val (.ref a4), .val (.ref a5), .val (.long z15), .second, .val (.int (0 : Int32)), .val (.long v22), .second, .val (.long (1 : Int64)), .second, .val (.int (-2013265919 : Int32)), .val (.int (2 : Int32))] [(.int (2013265921 : Int32)), (.int (2 : Int32)), (.int (-2013265919 : Int32))]))
  refine Go.step (fun t k => XS.iload X30.here hx rfl (hb hby d1_266) rfl k) ?_
  show Go p e below _ (T30.setTop (mkF m 268 #[.val (.ref a1), .val (.int (0 : Int32)), .val (.int (2 : Int32)), .val (.ref a4), .val (.ref a5), .val (.long z15), .second, .val (.int (0 : Int32)), .val (.long v22), .second, .val (.long (1 : Int64)), .second, .val (.int (-2013265919 : Int32)), .val (.int (2 : Int32))] [(.int (-2013265919 : Int32)), (.int (2013265921 : Int32)), (.int (2 : Int32)), (.int (-2013265919 : Int32))]))
  refine Go.step (fun t k => XS.imul X30.here hx rfl (hb hby d1_268) rfl k) ?_
  show Go p e below _ (T30.setTop (mkF m 269 #[.val (.ref a1), .val (.int (0 : Int32)), .val (.int (2 : Int32)), .val (.ref a4), .val (.ref a5), .val (.long z15), .second, .val (.int (0 : Int32)), .val (.long v22), .second, .val (.long (1 : Int64)), .second, .val (.int (-2013265919 : Int32)), .val (.int (2 : Int32))] [(.int (1 : Int32)), (.int (2 : Int32)), (.int (-2013265919 : Int32))]))
  refine Go.step (fun t k => XS.isub X30.here hx rfl (hb hby d1_269) rfl k) ?_
  show Go p e below _ (T30.setTop (mkF m 270 #[.val (.ref a1), .val (.int (0 : Int32)), .val (.int (2 : Int32)), .val (.ref a4), .val (.ref a5), .val (.long z15), .second, .val (.int (0 : Int32)), .val (.long v22), .second, .val (.long (1 : Int64)), .second, .val (.int (-2013265919 : Int32)), .val (.int (2 : Int32))] [(.int (1 : Int32)), (.int (-2013265919 : Int32))]))
  refine Go.step (fun t k => XS.imul X30.here hx rfl (hb hby d1_270) rfl k) ?_
  show Go p e below _ (T30.setTop (mkF m 271 #[.val (.ref a1), .val (.int (0 : Int32)), .val (.int (2 : Int32)), .val (.ref a4), .val (.ref a5), .val (.long z15), .second, .val (.int (0 : Int32)), .val (.long v22), .second, .val (.long (1 : Int64)), .second, .val (.int (-2013265919 : Int32)), .val (.int (2 : Int32))] [(.int (-2013265919 : Int32))]))
  refine Go.step (fun t k => XS.istore X30.here hx rfl (hb hby d1_271) rfl (l' := #[.val (.ref a1), .val (.int (0 : Int32)), .val (.int (2 : Int32)), .val (.ref a4), .val (.ref a5), .val (.long z15), .second, .val (.int (0 : Int32)), .val (.long v22), .second, .val (.long (1 : Int64)), .second, .val (.int (-2013265919 : Int32)), .val (.int (2 : Int32))]) rfl k) ?_
  show Go p e below _ (T30.setTop (mkF m 273 #[.val (.ref a1), .val (.int (0 : Int32)), .val (.int (2 : Int32)), .val (.ref a4), .val (.ref a5), .val (.long z15), .second, .val (.int (0 : Int32)), .val (.long v22), .second, .val (.long (1 : Int64)), .second, .val (.int (-2013265919 : Int32)), .val (.int (2 : Int32))] []))
  refine Go.step (fun t k => XS.iinc X30.here hx rfl (hb hby d1_273) rfl (l' := #[.val (.ref a1), .val (.int (0 : Int32)), .val (.int (2 : Int32)), .val (.ref a4), .val (.ref a5), .val (.long z15), .second, .val (.int (0 : Int32)), .val (.long v22), .second, .val (.long (1 : Int64)), .second, .val (.int (-2013265919 : Int32)), .val (.int (3 : Int32))]) rfl k) ?_
  show Go p e below _ (T30.setTop (mkF m 276 #[.val (.ref a1), .val (.int (0 : Int32)), .val (.int (2 : Int32)), .val (.ref a4), .val (.ref a5), .val (.long z15), .second, .val (.int (0 : Int32)), .val (.long v22), .second, .val (.long (1 : Int64)), .second, .val (.int (-2013265919 : Int32)), .val (.int (3 : Int32))] []))
  refine Go.step (fun t k => XS.goto X30.here hx rfl (pc0 := 276) (pc' := 253) rfl (hb hby d1_276) (by decide) (by decide) k) ?_
  show Go p e below _ (T30.setTop (mkF m 253 #[.val (.ref a1), .val (.int (0 : Int32)), .val (.int (2 : Int32)), .val (.ref a4), .val (.ref a5), .val (.long z15), .second, .val (.int (0 : Int32)), .val (.long v22), .second, .val (.long (1 : Int64)), .second, .val (.int (-2013265919 : Int32)), .val (.int (3 : Int32))] []))
  refine Go.step (fun t k => XS.iload X30.here hx rfl (hb hby d1_253) rfl k) ?_
  show Go p e below _ (T30.setTop (mkF m 255 #[.val (.ref a1), .val (.int (0 : Int32)), .val (.int (2 : Int32)), .val (.ref a4), .val (.ref a5), .val (.long z15), .second, .val (.int (0 : Int32)), .val (.long v22), .second, .val (.long (1 : Int64)), .second, .val (.int (-2013265919 : Int32)), .val (.int (3 : Int32))] [(.int (3 : Int32))]))
  refine Go.step (fun t k => XS.iconst X30.here hx rfl (hb hby d1_255)  k) ?_
  show Go p e below _ (T30.setTop (mkF m 256 #[.val (.ref a1), .val (.int (0 : Int32)), .val (.int (2 : Int32)), .val (.ref a4), .val (.ref a5), .val (.long z15), .second, .val (.int (0 : Int32)), .val (.long v22), .second, .val (.long (1 : Int64)), .second, .val (.int (-2013265919 : Int32)), .val (.int (3 : Int32))] [(.int (4 : Int32)), (.int (3 : Int32))]))
  refine Go.step (fun t k => XS.icmpNo X30.here hx rfl (hb hby d1_256) rfl (tlt (by decide : (3 : Int32) < (4 : Int32))).2.1 k) ?_
  show Go p e below _ (T30.setTop (mkF m 259 #[.val (.ref a1), .val (.int (0 : Int32)), .val (.int (2 : Int32)), .val (.ref a4), .val (.ref a5), .val (.long z15), .second, .val (.int (0 : Int32)), .val (.long v22), .second, .val (.long (1 : Int64)), .second, .val (.int (-2013265919 : Int32)), .val (.int (3 : Int32))] []))
  refine Go.step (fun t k => XS.iload X30.here hx rfl (hb hby d1_259) rfl k) ?_
  show Go p e below _ (T30.setTop (mkF m 261 #[.val (.ref a1), .val (.int (0 : Int32)), .val (.int (2 : Int32)), .val (.ref a4), .val (.ref a5), .val (.long z15), .second, .val (.int (0 : Int32)), .val (.long v22), .second, .val (.long (1 : Int64)), .second, .val (.int (-2013265919 : Int32)), .val (.int (3 : Int32))] [(.int (-2013265919 : Int32))]))
  refine Go.step (fun t k => XS.iconst X30.here hx rfl (hb hby d1_261)  k) ?_
  show Go p e below _ (T30.setTop (mkF m 262 #[.val (.ref a1), .val (.int (0 : Int32)), .val (.int (2 : Int32)), .val (.ref a4), .val (.ref a5), .val (.long z15), .second, .val (.int (0 : Int32)), .val (.long v22), .second, .val (.long (1 : Int64)), .second, .val (.int (-2013265919 : Int32)), .val (.int (3 : Int32))] [(.int (2 : Int32)), (.int (-2013265919 : Int32))]))
  refine Go.step (fun t k => XS.aloadN X30.here hx rfl (hb hby d1_262) rfl rfl k) ?_
  show Go p e below _ (T30.setTop (mkF m 263 #[.val (.ref a1), .val (.int (0 : Int32)), .val (.int (2 : Int32)), .val (.ref a4), .val (.ref a5), .val (.long z15), .second, .val (.int (0 : Int32)), .val (.long v22), .second, .val (.long (1 : Int64)), .second, .val (.int (-2013265919 : Int32)), .val (.int (3 : Int32))] [(.ref a1), (.int (2 : Int32)), (.int (-2013265919 : Int32))]))
  obtain ⟨T31, X31, e31, st31⟩ := getF X30 hx hZ hown (host := "") (Or.inl (hw _ (List.mem_of_getElem? (i := 14) rfl))) Via.refl e30 F_prime_a1_26 (g := (mkF m 263 #[.val (.ref a1), .val (.int (0 : Int32)), .val (.int (2 : Int32)), .val (.ref a4), .val (.ref a5), .val (.long z15), .second, .val (.int (0 : Int32)), .val (.long v22), .second, .val (.long (1 : Int64)), .second, .val (.int (-2013265919 : Int32)), .val (.int (3 : Int32))] [(.ref a1), (.int (2 : Int32)), (.int (-2013265919 : Int32))])) rfl rfl (hb hby d1_263)
  refine Go.step st31 ?_
  show Go p e below _ (T31.setTop (mkF m 266 #[.val (.ref a1), .val (.int (0 : Int32)), .val (.int (2 : Int32)), .val (.ref a4), .val (.ref a5), .val (.long z15), .second, .val (.int (0 : Int32)), .val (.long v22), .second, .val (.long (1 : Int64)), .second, .val (.int (-2013265919 : Int32)), .val (.int (3 : Int32))] [(.int (2013265921 : Int32)), (.int (2 : Int32)), (.int (-2013265919 : Int32))]))
  refine Go.step (fun t k => XS.iload X31.here hx rfl (hb hby d1_266) rfl k) ?_
  show Go p e below _ (T31.setTop (mkF m 268 #[.val (.ref a1), .val (.int (0 : Int32)), .val (.int (2 : Int32)), .val (.ref a4), .val (.ref a5), .val (.long z15), .second, .val (.int (0 : Int32)), .val (.long v22), .second, .val (.long (1 : Int64)), .second, .val (.int (-2013265919 : Int32)), .val (.int (3 : Int32))] [(.int (-2013265919 : Int32)), (.int (2013265921 : Int32)), (.int (2 : Int32)), (.int (-2013265919 : Int32))]))
  refine Go.step (fun t k => XS.imul X31.here hx rfl (hb hby d1_268) rfl k) ?_
  show Go p e below _ (T31.setTop (mkF m 269 #[.val (.ref a1), .val (.int (0 : Int32)), .val (.int (2 : Int32)), .val (.ref a4), .val (.ref a5), .val (.long z15), .second, .val (.int (0 : Int32)), .val (.long v22), .second, .val (.long (1 : Int64)), .second, .val (.int (-2013265919 : Int32)), .val (.int (3 : Int32))] [(.int (1 : Int32)), (.int (2 : Int32)), (.int (-2013265919 : Int32))]))
  refine Go.step (fun t k => XS.isub X31.here hx rfl (hb hby d1_269) rfl k) ?_
  show Go p e below _ (T31.setTop (mkF m 270 #[.val (.ref a1), .val (.int (0 : Int32)), .val (.int (2 : Int32)), .val (.ref a4), .val (.ref a5), .val (.long z15), .second, .val (.int (0 : Int32)), .val (.long v22), .second, .val (.long (1 : Int64)), .second, .val (.int (-2013265919 : Int32)), .val (.int (3 : Int32))] [(.int (1 : Int32)), (.int (-2013265919 : Int32))]))
  refine Go.step (fun t k => XS.imul X31.here hx rfl (hb hby d1_270) rfl k) ?_
  show Go p e below _ (T31.setTop (mkF m 271 #[.val (.ref a1), .val (.int (0 : Int32)), .val (.int (2 : Int32)), .val (.ref a4), .val (.ref a5), .val (.long z15), .second, .val (.int (0 : Int32)), .val (.long v22), .second, .val (.long (1 : Int64)), .second, .val (.int (-2013265919 : Int32)), .val (.int (3 : Int32))] [(.int (-2013265919 : Int32))]))
  refine Go.step (fun t k => XS.istore X31.here hx rfl (hb hby d1_271) rfl (l' := #[.val (.ref a1), .val (.int (0 : Int32)), .val (.int (2 : Int32)), .val (.ref a4), .val (.ref a5), .val (.long z15), .second, .val (.int (0 : Int32)), .val (.long v22), .second, .val (.long (1 : Int64)), .second, .val (.int (-2013265919 : Int32)), .val (.int (3 : Int32))]) rfl k) ?_
  show Go p e below _ (T31.setTop (mkF m 273 #[.val (.ref a1), .val (.int (0 : Int32)), .val (.int (2 : Int32)), .val (.ref a4), .val (.ref a5), .val (.long z15), .second, .val (.int (0 : Int32)), .val (.long v22), .second, .val (.long (1 : Int64)), .second, .val (.int (-2013265919 : Int32)), .val (.int (3 : Int32))] []))
  refine Go.step (fun t k => XS.iinc X31.here hx rfl (hb hby d1_273) rfl (l' := #[.val (.ref a1), .val (.int (0 : Int32)), .val (.int (2 : Int32)), .val (.ref a4), .val (.ref a5), .val (.long z15), .second, .val (.int (0 : Int32)), .val (.long v22), .second, .val (.long (1 : Int64)), .second, .val (.int (-2013265919 : Int32)), .val (.int (4 : Int32))]) rfl k) ?_
  show Go p e below _ (T31.setTop (mkF m 276 #[.val (.ref a1), .val (.int (0 : Int32)), .val (.int (2 : Int32)), .val (.ref a4), .val (.ref a5), .val (.long z15), .second, .val (.int (0 : Int32)), .val (.long v22), .second, .val (.long (1 : Int64)), .second, .val (.int (-2013265919 : Int32)), .val (.int (4 : Int32))] []))
  refine Go.step (fun t k => XS.goto X31.here hx rfl (pc0 := 276) (pc' := 253) rfl (hb hby d1_276) (by decide) (by decide) k) ?_
  show Go p e below _ (T31.setTop (mkF m 253 #[.val (.ref a1), .val (.int (0 : Int32)), .val (.int (2 : Int32)), .val (.ref a4), .val (.ref a5), .val (.long z15), .second, .val (.int (0 : Int32)), .val (.long v22), .second, .val (.long (1 : Int64)), .second, .val (.int (-2013265919 : Int32)), .val (.int (4 : Int32))] []))
  refine Go.step (fun t k => XS.iload X31.here hx rfl (hb hby d1_253) rfl k) ?_
  show Go p e below _ (T31.setTop (mkF m 255 #[.val (.ref a1), .val (.int (0 : Int32)), .val (.int (2 : Int32)), .val (.ref a4), .val (.ref a5), .val (.long z15), .second, .val (.int (0 : Int32)), .val (.long v22), .second, .val (.long (1 : Int64)), .second, .val (.int (-2013265919 : Int32)), .val (.int (4 : Int32))] [(.int (4 : Int32))]))
  refine Go.step (fun t k => XS.iconst X31.here hx rfl (hb hby d1_255)  k) ?_
  show Go p e below _ (T31.setTop (mkF m 256 #[.val (.ref a1), .val (.int (0 : Int32)), .val (.int (2 : Int32)), .val (.ref a4), .val (.ref a5), .val (.long z15), .second, .val (.int (0 : Int32)), .val (.long v22), .second, .val (.long (1 : Int64)), .second, .val (.int (-2013265919 : Int32)), .val (.int (4 : Int32))] [(.int (4 : Int32)), (.int (4 : Int32))]))
  refine Go.step (fun t k => XS.icmpYes X31.here hx rfl (pc0 := 256) (pc' := 279) rfl (hb hby d1_256) rfl (flt (by decide : ¬ ((4 : Int32) < (4 : Int32)))).2.1 (by decide) (by decide) k) ?_
  show Go p e below _ (T31.setTop (mkF m 279 #[.val (.ref a1), .val (.int (0 : Int32)), .val (.int (2 : Int32)), .val (.ref a4), .val (.ref a5), .val (.long z15), .second, .val (.int (0 : Int32)), .val (.long v22), .second, .val (.long (1 : Int64)), .second, .val (.int (-2013265919 : Int32)), .val (.int (4 : Int32))] []))
  refine Go.step (fun t k => XS.aloadN X31.here hx rfl (hb hby d1_279) rfl rfl k) ?_
  show Go p e below _ (T31.setTop (mkF m 280 #[.val (.ref a1), .val (.int (0 : Int32)), .val (.int (2 : Int32)), .val (.ref a4), .val (.ref a5), .val (.long z15), .second, .val (.int (0 : Int32)), .val (.long v22), .second, .val (.long (1 : Int64)), .second, .val (.int (-2013265919 : Int32)), .val (.int (4 : Int32))] [(.ref a1)]))
  refine Go.step (fun t k => XS.iload X31.here hx rfl (hb hby d1_280) rfl k) ?_
  show Go p e below _ (T31.setTop (mkF m 282 #[.val (.ref a1), .val (.int (0 : Int32)), .val (.int (2 : Int32)), .val (.ref a4), .val (.ref a5), .val (.long z15), .second, .val (.int (0 : Int32)), .val (.long v22), .second, .val (.long (1 : Int64)), .second, .val (.int (-2013265919 : Int32)), .val (.int (4 : Int32))] [(.int (-2013265919 : Int32)), (.ref a1)]))
  refine Go.step (fun t k => XS.ineg X31.here hx rfl (hb hby d1_282) rfl k) ?_
  show Go p e below _ (T31.setTop (mkF m 283 #[.val (.ref a1), .val (.int (0 : Int32)), .val (.int (2 : Int32)), .val (.ref a4), .val (.ref a5), .val (.long z15), .second, .val (.int (0 : Int32)), .val (.long v22), .second, .val (.long (1 : Int64)), .second, .val (.int (-2013265919 : Int32)), .val (.int (4 : Int32))] [(.int (2013265919 : Int32)), (.ref a1)]))
  obtain ⟨T32, h32, X32, e32, W32, st32⟩ := putF X31 hx hZ hown (host := "") (Or.inl (hw _ (List.mem_of_getElem? (i := 34) rfl))) Via.refl e31 F_negativeInverse_a1_26 E_a1_26 (Or.inr ⟨(hw _ (List.mem_of_getElem? (i := 35) rfl)), rfl, hnm⟩) (hw _ (List.mem_of_getElem? (i := 6) rfl)) (ty := .int) (by decide) rfl rfl (g := (mkF m 283 #[.val (.ref a1), .val (.int (0 : Int32)), .val (.int (2 : Int32)), .val (.ref a4), .val (.ref a5), .val (.long z15), .second, .val (.int (0 : Int32)), .val (.long v22), .second, .val (.long (1 : Int64)), .second, .val (.int (-2013265919 : Int32)), .val (.int (4 : Int32))] [(.int (2013265919 : Int32)), (.ref a1)])) rfl rfl (hb hby d1_283)
  refine Go.step st32 ?_
  have N32 := Fr.snoc X32 N26 g_a1
  have F_length_a1_32 := F_length_a1_26.other W32 (Or.inr (slot_ne (Or.inr (hw _ (List.mem_of_getElem? (i := 17) rfl))) (Or.inr (hw _ (List.mem_of_getElem? (i := 35) rfl))) (by decide) (t := .int) (t' := .int) (by decide) (by decide)))
  have F_roots_a1_32 := F_roots_a1_26.other W32 (Or.inr (slot_ne (Or.inr (hw _ (List.mem_of_getElem? (i := 19) rfl))) (Or.inr (hw _ (List.mem_of_getElem? (i := 35) rfl))) (by decide) (t := (.array .int)) (t' := .int) (by decide) (by decide)))
  have F_rootQuotients_a1_32 := F_rootQuotients_a1_26.other W32 (Or.inr (slot_ne (Or.inr (hw _ (List.mem_of_getElem? (i := 21) rfl))) (Or.inr (hw _ (List.mem_of_getElem? (i := 35) rfl))) (by decide) (t := (.array .int)) (t' := .int) (by decide) (by decide)))
  have F_outerRoot_a1_32 := F_outerRoot_a1_26.other W32 (Or.inr (slot_ne (Or.inr (hw _ (List.mem_of_getElem? (i := 28) rfl))) (Or.inr (hw _ (List.mem_of_getElem? (i := 35) rfl))) (by decide) (t := .int) (t' := .int) (by decide) (by decide)))
  have F_outerRootQuotient_a1_32 := F_outerRootQuotient_a1_26.other W32 (Or.inr (slot_ne (Or.inr (hw _ (List.mem_of_getElem? (i := 33) rfl))) (Or.inr (hw _ (List.mem_of_getElem? (i := 35) rfl))) (by decide) (t := .int) (t' := .int) (by decide) (by decide)))
  have F_scale_a1_32 := F_scale_a1_26.other W32 (Or.inr (slot_ne (Or.inr (hw _ (List.mem_of_getElem? (i := 39) rfl))) (Or.inr (hw _ (List.mem_of_getElem? (i := 35) rfl))) (by decide) (t := .int) (t' := .int) (by decide) (by decide)))
  have F_scaleQuotient_a1_32 := F_scaleQuotient_a1_26.other W32 (Or.inr (slot_ne (Or.inr (hw _ (List.mem_of_getElem? (i := 41) rfl))) (Or.inr (hw _ (List.mem_of_getElem? (i := 35) rfl))) (by decide) (t := .int) (t' := .int) (by decide) (by decide)))
  have E_a1_32 := E_a1_26.wr W32
  have F_prime_a1_32 := F_prime_a1_26.other W32 (Or.inr (slot_ne (Or.inr (hw _ (List.mem_of_getElem? (i := 15) rfl))) (Or.inr (hw _ (List.mem_of_getElem? (i := 35) rfl))) (by decide) (t := .int) (t' := .int) (by decide) (by decide)))
  have A_a4_32 := A_a4_26.other W32 hne_a4_a1
  have A_a5_32 := A_a5_26.other W32 hne_a5_a1
  have O32 := O26.wr W32 g_a1
  have Z32 := Nat.le_trans Z26 (Keep.of_wr W32).1
  have KK32 : Keep h0 h32 [a1, a4, a5] := KK26.wr W32 (Or.inl (by simp))
  have F_negativeInverse_a1_32 := F_negativeInverse_a1_26.same W32
  show Go p e below _ (T32.setTop (mkF m 286 #[.val (.ref a1), .val (.int (0 : Int32)), .val (.int (2 : Int32)), .val (.ref a4), .val (.ref a5), .val (.long z15), .second, .val (.int (0 : Int32)), .val (.long v22), .second, .val (.long (1 : Int64)), .second, .val (.int (-2013265919 : Int32)), .val (.int (4 : Int32))] []))
  refine Go.step (fun t k => XS.aloadN X32.here hx rfl (hb hby d1_286) rfl rfl k) ?_
  show Go p e below _ (T32.setTop (mkF m 287 #[.val (.ref a1), .val (.int (0 : Int32)), .val (.int (2 : Int32)), .val (.ref a4), .val (.ref a5), .val (.long z15), .second, .val (.int (0 : Int32)), .val (.long v22), .second, .val (.long (1 : Int64)), .second, .val (.int (-2013265919 : Int32)), .val (.int (4 : Int32))] [(.ref a1)]))
  refine Go.step (X32.ldc2Long hx hown (mvT hZ (hw _ (List.mem_of_getElem? (i := 36) rfl))) (g := (mkF m 287 #[.val (.ref a1), .val (.int (0 : Int32)), .val (.int (2 : Int32)), .val (.ref a4), .val (.ref a5), .val (.long z15), .second, .val (.int (0 : Int32)), .val (.long v22), .second, .val (.long (1 : Int64)), .second, .val (.int (-2013265919 : Int32)), .val (.int (4 : Int32))] [(.ref a1)])) rfl (hb hby d1_287)) ?_
  show Go p e below _ (T32.setTop (mkF m 290 #[.val (.ref a1), .val (.int (0 : Int32)), .val (.int (2 : Int32)), .val (.ref a4), .val (.ref a5), .val (.long z15), .second, .val (.int (0 : Int32)), .val (.long v22), .second, .val (.long (1 : Int64)), .second, .val (.int (-2013265919 : Int32)), .val (.int (4 : Int32))] [(.long (4294967296 : Int64)), (.ref a1)]))
  refine Go.step (fun t k => XS.aloadN X32.here hx rfl (hb hby d1_290) rfl rfl k) ?_
  show Go p e below _ (T32.setTop (mkF m 291 #[.val (.ref a1), .val (.int (0 : Int32)), .val (.int (2 : Int32)), .val (.ref a4), .val (.ref a5), .val (.long z15), .second, .val (.int (0 : Int32)), .val (.long v22), .second, .val (.long (1 : Int64)), .second, .val (.int (-2013265919 : Int32)), .val (.int (4 : Int32))] [(.ref a1), (.long (4294967296 : Int64)), (.ref a1)]))
  obtain ⟨T33, X33, e33, st33⟩ := getF X32 hx hZ hown (host := "") (Or.inl (hw _ (List.mem_of_getElem? (i := 14) rfl))) Via.refl e32 F_prime_a1_32 (g := (mkF m 291 #[.val (.ref a1), .val (.int (0 : Int32)), .val (.int (2 : Int32)), .val (.ref a4), .val (.ref a5), .val (.long z15), .second, .val (.int (0 : Int32)), .val (.long v22), .second, .val (.long (1 : Int64)), .second, .val (.int (-2013265919 : Int32)), .val (.int (4 : Int32))] [(.ref a1), (.long (4294967296 : Int64)), (.ref a1)])) rfl rfl (hb hby d1_291)
  refine Go.step st33 ?_
  show Go p e below _ (T33.setTop (mkF m 294 #[.val (.ref a1), .val (.int (0 : Int32)), .val (.int (2 : Int32)), .val (.ref a4), .val (.ref a5), .val (.long z15), .second, .val (.int (0 : Int32)), .val (.long v22), .second, .val (.long (1 : Int64)), .second, .val (.int (-2013265919 : Int32)), .val (.int (4 : Int32))] [(.int (2013265921 : Int32)), (.long (4294967296 : Int64)), (.ref a1)]))
  refine Go.step (fun t k => XS.i2l X33.here hx rfl (hb hby d1_294) rfl k) ?_
  show Go p e below _ (T33.setTop (mkF m 295 #[.val (.ref a1), .val (.int (0 : Int32)), .val (.int (2 : Int32)), .val (.ref a4), .val (.ref a5), .val (.long z15), .second, .val (.int (0 : Int32)), .val (.long v22), .second, .val (.long (1 : Int64)), .second, .val (.int (-2013265919 : Int32)), .val (.int (4 : Int32))] [(.long (2013265921 : Int64)), (.long (4294967296 : Int64)), (.ref a1)]))
  refine Go.step (fun t (k : Steps p.tables e below (T33.setTop (mkF m 296 #[.val (.ref a1), .val (.int (0 : Int32)), .val (.int (2 : Int32)), .val (.ref a4), .val (.ref a5), .val (.long z15), .second, .val (.int (0 : Int32)), .val (.long v22), .second, .val (.long (1 : Int64)), .second, .val (.int (-2013265919 : Int32)), .val (.int (4 : Int32))] [(.long (268435454 : Int64)), (.ref a1)])) t) => XS.lrem X33.here hx rfl (hb hby d1_295) rfl (by decide) (by rw [lrem_mod]; exact k)) ?_
  show Go p e below _ (T33.setTop (mkF m 296 #[.val (.ref a1), .val (.int (0 : Int32)), .val (.int (2 : Int32)), .val (.ref a4), .val (.ref a5), .val (.long z15), .second, .val (.int (0 : Int32)), .val (.long v22), .second, .val (.long (1 : Int64)), .second, .val (.int (-2013265919 : Int32)), .val (.int (4 : Int32))] [(.long (268435454 : Int64)), (.ref a1)]))
  refine Go.step (fun t k => XS.iloadN X33.here hx rfl (hb hby d1_296) rfl k) ?_
  show Go p e below _ (T33.setTop (mkF m 297 #[.val (.ref a1), .val (.int (0 : Int32)), .val (.int (2 : Int32)), .val (.ref a4), .val (.ref a5), .val (.long z15), .second, .val (.int (0 : Int32)), .val (.long v22), .second, .val (.long (1 : Int64)), .second, .val (.int (-2013265919 : Int32)), .val (.int (4 : Int32))] [(.int (2 : Int32)), (.long (268435454 : Int64)), (.ref a1)]))
  refine Go.step (fun t k => XS.i2l X33.here hx rfl (hb hby d1_297) rfl k) ?_
  show Go p e below _ (T33.setTop (mkF m 298 #[.val (.ref a1), .val (.int (0 : Int32)), .val (.int (2 : Int32)), .val (.ref a4), .val (.ref a5), .val (.long z15), .second, .val (.int (0 : Int32)), .val (.long v22), .second, .val (.long (1 : Int64)), .second, .val (.int (-2013265919 : Int32)), .val (.int (4 : Int32))] [(.long (2 : Int64)), (.long (268435454 : Int64)), (.ref a1)]))
  refine Go.step (fun t k => XS.aloadN X33.here hx rfl (hb hby d1_298) rfl rfl k) ?_
  show Go p e below _ (T33.setTop (mkF m 299 #[.val (.ref a1), .val (.int (0 : Int32)), .val (.int (2 : Int32)), .val (.ref a4), .val (.ref a5), .val (.long z15), .second, .val (.int (0 : Int32)), .val (.long v22), .second, .val (.long (1 : Int64)), .second, .val (.int (-2013265919 : Int32)), .val (.int (4 : Int32))] [(.ref a1), (.long (2 : Int64)), (.long (268435454 : Int64)), (.ref a1)]))
  obtain ⟨T34, X34, e34, st34⟩ := getF X33 hx hZ hown (host := "") (Or.inl (hw _ (List.mem_of_getElem? (i := 14) rfl))) Via.refl e33 F_prime_a1_32 (g := (mkF m 299 #[.val (.ref a1), .val (.int (0 : Int32)), .val (.int (2 : Int32)), .val (.ref a4), .val (.ref a5), .val (.long z15), .second, .val (.int (0 : Int32)), .val (.long v22), .second, .val (.long (1 : Int64)), .second, .val (.int (-2013265919 : Int32)), .val (.int (4 : Int32))] [(.ref a1), (.long (2 : Int64)), (.long (268435454 : Int64)), (.ref a1)])) rfl rfl (hb hby d1_299)
  refine Go.step st34 ?_
  show Go p e below _ (T34.setTop (mkF m 302 #[.val (.ref a1), .val (.int (0 : Int32)), .val (.int (2 : Int32)), .val (.ref a4), .val (.ref a5), .val (.long z15), .second, .val (.int (0 : Int32)), .val (.long v22), .second, .val (.long (1 : Int64)), .second, .val (.int (-2013265919 : Int32)), .val (.int (4 : Int32))] [(.int (2013265921 : Int32)), (.long (2 : Int64)), (.long (268435454 : Int64)), (.ref a1)]))
  refine Go.step (fun t k => XS.i2l X34.here hx rfl (hb hby d1_302) rfl k) ?_
  show Go p e below _ (T34.setTop (mkF m 303 #[.val (.ref a1), .val (.int (0 : Int32)), .val (.int (2 : Int32)), .val (.ref a4), .val (.ref a5), .val (.long z15), .second, .val (.int (0 : Int32)), .val (.long v22), .second, .val (.long (1 : Int64)), .second, .val (.int (-2013265919 : Int32)), .val (.int (4 : Int32))] [(.long (2013265921 : Int64)), (.long (2 : Int64)), (.long (268435454 : Int64)), (.ref a1)]))
  refine Go.step (X34.ldc2Long hx hown (mvT hZ (hw _ (List.mem_of_getElem? (i := 37) rfl))) (g := (mkF m 303 #[.val (.ref a1), .val (.int (0 : Int32)), .val (.int (2 : Int32)), .val (.ref a4), .val (.ref a5), .val (.long z15), .second, .val (.int (0 : Int32)), .val (.long v22), .second, .val (.long (1 : Int64)), .second, .val (.int (-2013265919 : Int32)), .val (.int (4 : Int32))] [(.long (2013265921 : Int64)), (.long (2 : Int64)), (.long (268435454 : Int64)), (.ref a1)])) rfl (hb hby d1_303)) ?_
  show Go p e below _ (T34.setTop (mkF m 306 #[.val (.ref a1), .val (.int (0 : Int32)), .val (.int (2 : Int32)), .val (.ref a4), .val (.ref a5), .val (.long z15), .second, .val (.int (0 : Int32)), .val (.long v22), .second, .val (.long (1 : Int64)), .second, .val (.int (-2013265919 : Int32)), .val (.int (4 : Int32))] [(.long (2 : Int64)), (.long (2013265921 : Int64)), (.long (2 : Int64)), (.long (268435454 : Int64)), (.ref a1)]))
  refine Go.step (fun t k => XS.lsub X34.here hx rfl (hb hby d1_306) rfl k) ?_
  show Go p e below _ (T34.setTop (mkF m 307 #[.val (.ref a1), .val (.int (0 : Int32)), .val (.int (2 : Int32)), .val (.ref a4), .val (.ref a5), .val (.long z15), .second, .val (.int (0 : Int32)), .val (.long v22), .second, .val (.long (1 : Int64)), .second, .val (.int (-2013265919 : Int32)), .val (.int (4 : Int32))] [(.long (2013265919 : Int64)), (.long (2 : Int64)), (.long (268435454 : Int64)), (.ref a1)]))
  refine Go.step (fun t k => XS.aloadN X34.here hx rfl (hb hby d1_307) rfl rfl k) ?_
  show Go p e below _ (T34.setTop (mkF m 308 #[.val (.ref a1), .val (.int (0 : Int32)), .val (.int (2 : Int32)), .val (.ref a4), .val (.ref a5), .val (.long z15), .second, .val (.int (0 : Int32)), .val (.long v22), .second, .val (.long (1 : Int64)), .second, .val (.int (-2013265919 : Int32)), .val (.int (4 : Int32))] [(.ref a1), (.long (2013265919 : Int64)), (.long (2 : Int64)), (.long (268435454 : Int64)), (.ref a1)]))
  obtain ⟨T35, X35, e35, st35⟩ := getF X34 hx hZ hown (host := "") (Or.inl (hw _ (List.mem_of_getElem? (i := 14) rfl))) Via.refl e34 F_prime_a1_32 (g := (mkF m 308 #[.val (.ref a1), .val (.int (0 : Int32)), .val (.int (2 : Int32)), .val (.ref a4), .val (.ref a5), .val (.long z15), .second, .val (.int (0 : Int32)), .val (.long v22), .second, .val (.long (1 : Int64)), .second, .val (.int (-2013265919 : Int32)), .val (.int (4 : Int32))] [(.ref a1), (.long (2013265919 : Int64)), (.long (2 : Int64)), (.long (268435454 : Int64)), (.ref a1)])) rfl rfl (hb hby d1_308)
  refine Go.step st35 ?_
  show Go p e below _ (T35.setTop (mkF m 311 #[.val (.ref a1), .val (.int (0 : Int32)), .val (.int (2 : Int32)), .val (.ref a4), .val (.ref a5), .val (.long z15), .second, .val (.int (0 : Int32)), .val (.long v22), .second, .val (.long (1 : Int64)), .second, .val (.int (-2013265919 : Int32)), .val (.int (4 : Int32))] [(.int (2013265921 : Int32)), (.long (2013265919 : Int64)), (.long (2 : Int64)), (.long (268435454 : Int64)), (.ref a1)]))
  obtain ⟨_, _, ⟨T36, L36, k36, n36⟩, -, X36, ⟨Lc36, hQ36, l36, y36, z36⟩, st36⟩ := Jvm.LawKit.callS X35 hx (y := (⟨"com/example/tinwire/tinwire/json/Transform", "power", "(JJI)J"⟩ : MethodName)) hown (mvT hZ (hw _ (List.mem_of_getElem? (i := 24) rfl))) (mvT hZ (hw _ (List.mem_of_getElem? (i := 25) rfl))) (mvT hZ (hw _ (List.mem_of_getElem? (i := 2) rfl))) (mvT hZ (hw _ (List.mem_of_getElem? (i := 26) rfl))) (by decide) (backOf (W := 3) (rm3 l Z a0 hw [] (2 : Int64) (2013265919 : Int64) (2013265921 : Int32) h32 n0 Z32 ((by decide) : ¬ (((2013265921 : Int32).toInt64) = (0 : Int64))) ((by decide) : ¬ (((2013265921 : Int32).toInt64) = (0 : Int64))) ((by decide) : ¬ (((2013265921 : Int32).toInt64) = (0 : Int64)))) hZ (hw _ (List.mem_of_getElem? (i := 26) rfl)) (hw _ (List.mem_of_getElem? (i := 2) rfl)) (by decide) (by decide)) (g := (mkF m 311 #[.val (.ref a1), .val (.int (0 : Int32)), .val (.int (2 : Int32)), .val (.ref a4), .val (.ref a5), .val (.long z15), .second, .val (.int (0 : Int32)), .val (.long v22), .second, .val (.long (1 : Int64)), .second, .val (.int (-2013265919 : Int32)), .val (.int (4 : Int32))] [(.int (2013265921 : Int32)), (.long (2013265919 : Int64)), (.long (2 : Int64)), (.long (268435454 : Int64)), (.ref a1)])) rfl (by rw [hml]; rfl) (argsL := [(.long (2 : Int64)), (.long (2013265919 : Int64)), (.int (2013265921 : Int32))]) (rest := [(.long (268435454 : Int64)), (.ref a1)]) (lenOf pd_0 rfl) rfl (by show 2 * 0 + _ ≤ _; exact Nat.le_of_eq rfl) (hb hby d1_311) (fun _ _ => ⟨rfl, e35, (by decide : 0 + 0 ≤ _), (by decide : 0 + 0 ≤ _)⟩)
  dsimp only [Pt.U, Pt.locs, Pt.cells, Pt.slots] at X36 l36 y36 z36 st36 hQ36
  subst l36 y36 z36
  obtain ⟨⟨z36, rfl⟩, N36q, e36⟩ := hQ36
  have N36 := Fr.app N32 N36q
  refine Go.step st36 ?_
  show Go p e below _ (T36.setTop (mkF m 314 #[.val (.ref a1), .val (.int (0 : Int32)), .val (.int (2 : Int32)), .val (.ref a4), .val (.ref a5), .val (.long z15), .second, .val (.int (0 : Int32)), .val (.long v22), .second, .val (.long (1 : Int64)), .second, .val (.int (-2013265919 : Int32)), .val (.int (4 : Int32))] [(.long z36), (.long (268435454 : Int64)), (.ref a1)]))
  refine Go.step (fun t k => XS.lmul X36.here hx rfl (hb hby d1_314) rfl k) ?_
  show Go p e below _ (T36.setTop (mkF m 315 #[.val (.ref a1), .val (.int (0 : Int32)), .val (.int (2 : Int32)), .val (.ref a4), .val (.ref a5), .val (.long z15), .second, .val (.int (0 : Int32)), .val (.long v22), .second, .val (.long (1 : Int64)), .second, .val (.int (-2013265919 : Int32)), .val (.int (4 : Int32))] [(.long ((268435454 : Int64) * z36)), (.ref a1)]))
  refine Go.step (fun t k => XS.aloadN X36.here hx rfl (hb hby d1_315) rfl rfl k) ?_
  show Go p e below _ (T36.setTop (mkF m 316 #[.val (.ref a1), .val (.int (0 : Int32)), .val (.int (2 : Int32)), .val (.ref a4), .val (.ref a5), .val (.long z15), .second, .val (.int (0 : Int32)), .val (.long v22), .second, .val (.long (1 : Int64)), .second, .val (.int (-2013265919 : Int32)), .val (.int (4 : Int32))] [(.ref a1), (.long ((268435454 : Int64) * z36)), (.ref a1)]))
  obtain ⟨T37, X37, e37, st37⟩ := getF X36 hx hZ hown (host := "") (Or.inl (hw _ (List.mem_of_getElem? (i := 14) rfl))) Via.refl e36 F_prime_a1_32 (g := (mkF m 316 #[.val (.ref a1), .val (.int (0 : Int32)), .val (.int (2 : Int32)), .val (.ref a4), .val (.ref a5), .val (.long z15), .second, .val (.int (0 : Int32)), .val (.long v22), .second, .val (.long (1 : Int64)), .second, .val (.int (-2013265919 : Int32)), .val (.int (4 : Int32))] [(.ref a1), (.long ((268435454 : Int64) * z36)), (.ref a1)])) rfl rfl (hb hby d1_316)
  refine Go.step st37 ?_
  show Go p e below _ (T37.setTop (mkF m 319 #[.val (.ref a1), .val (.int (0 : Int32)), .val (.int (2 : Int32)), .val (.ref a4), .val (.ref a5), .val (.long z15), .second, .val (.int (0 : Int32)), .val (.long v22), .second, .val (.long (1 : Int64)), .second, .val (.int (-2013265919 : Int32)), .val (.int (4 : Int32))] [(.int (2013265921 : Int32)), (.long ((268435454 : Int64) * z36)), (.ref a1)]))
  refine Go.step (fun t k => XS.i2l X37.here hx rfl (hb hby d1_319) rfl k) ?_
  show Go p e below _ (T37.setTop (mkF m 320 #[.val (.ref a1), .val (.int (0 : Int32)), .val (.int (2 : Int32)), .val (.ref a4), .val (.ref a5), .val (.long z15), .second, .val (.int (0 : Int32)), .val (.long v22), .second, .val (.long (1 : Int64)), .second, .val (.int (-2013265919 : Int32)), .val (.int (4 : Int32))] [(.long (2013265921 : Int64)), (.long ((268435454 : Int64) * z36)), (.ref a1)]))
  refine Go.step (fun t (k : Steps p.tables e below (T37.setTop (mkF m 321 #[.val (.ref a1), .val (.int (0 : Int32)), .val (.int (2 : Int32)), .val (.ref a4), .val (.ref a5), .val (.long z15), .second, .val (.int (0 : Int32)), .val (.long v22), .second, .val (.long (1 : Int64)), .second, .val (.int (-2013265919 : Int32)), .val (.int (4 : Int32))] [(.long (((268435454 : Int64) * z36) % (2013265921 : Int64))), (.ref a1)])) t) => XS.lrem X37.here hx rfl (hb hby d1_320) rfl (by decide) (by rw [lrem_mod]; exact k)) ?_
  show Go p e below _ (T37.setTop (mkF m 321 #[.val (.ref a1), .val (.int (0 : Int32)), .val (.int (2 : Int32)), .val (.ref a4), .val (.ref a5), .val (.long z15), .second, .val (.int (0 : Int32)), .val (.long v22), .second, .val (.long (1 : Int64)), .second, .val (.int (-2013265919 : Int32)), .val (.int (4 : Int32))] [(.long (((268435454 : Int64) * z36) % (2013265921 : Int64))), (.ref a1)]))
  refine Go.step (fun t k => XS.l2i X37.here hx rfl (hb hby d1_321) rfl k) ?_
  show Go p e below _ (T37.setTop (mkF m 322 #[.val (.ref a1), .val (.int (0 : Int32)), .val (.int (2 : Int32)), .val (.ref a4), .val (.ref a5), .val (.long z15), .second, .val (.int (0 : Int32)), .val (.long v22), .second, .val (.long (1 : Int64)), .second, .val (.int (-2013265919 : Int32)), .val (.int (4 : Int32))] [(.int ((((268435454 : Int64) * z36) % (2013265921 : Int64)).toInt32)), (.ref a1)]))
  obtain ⟨T38, h38, X38, e38, W38, st38⟩ := putF X37 hx hZ hown (host := "") (Or.inl (hw _ (List.mem_of_getElem? (i := 38) rfl))) Via.refl e37 F_scale_a1_32 E_a1_32 (Or.inr ⟨(hw _ (List.mem_of_getElem? (i := 39) rfl)), rfl, hnm⟩) (hw _ (List.mem_of_getElem? (i := 6) rfl)) (ty := .int) (by decide) rfl rfl (g := (mkF m 322 #[.val (.ref a1), .val (.int (0 : Int32)), .val (.int (2 : Int32)), .val (.ref a4), .val (.ref a5), .val (.long z15), .second, .val (.int (0 : Int32)), .val (.long v22), .second, .val (.long (1 : Int64)), .second, .val (.int (-2013265919 : Int32)), .val (.int (4 : Int32))] [(.int ((((268435454 : Int64) * z36) % (2013265921 : Int64)).toInt32)), (.ref a1)])) rfl rfl (hb hby d1_322)
  refine Go.step st38 ?_
  have N38 := Fr.snoc X38 N36 g_a1
  have F_length_a1_38 := F_length_a1_32.other W38 (Or.inr (slot_ne (Or.inr (hw _ (List.mem_of_getElem? (i := 17) rfl))) (Or.inr (hw _ (List.mem_of_getElem? (i := 39) rfl))) (by decide) (t := .int) (t' := .int) (by decide) (by decide)))
  have F_roots_a1_38 := F_roots_a1_32.other W38 (Or.inr (slot_ne (Or.inr (hw _ (List.mem_of_getElem? (i := 19) rfl))) (Or.inr (hw _ (List.mem_of_getElem? (i := 39) rfl))) (by decide) (t := (.array .int)) (t' := .int) (by decide) (by decide)))
  have F_rootQuotients_a1_38 := F_rootQuotients_a1_32.other W38 (Or.inr (slot_ne (Or.inr (hw _ (List.mem_of_getElem? (i := 21) rfl))) (Or.inr (hw _ (List.mem_of_getElem? (i := 39) rfl))) (by decide) (t := (.array .int)) (t' := .int) (by decide) (by decide)))
  have F_outerRoot_a1_38 := F_outerRoot_a1_32.other W38 (Or.inr (slot_ne (Or.inr (hw _ (List.mem_of_getElem? (i := 28) rfl))) (Or.inr (hw _ (List.mem_of_getElem? (i := 39) rfl))) (by decide) (t := .int) (t' := .int) (by decide) (by decide)))
  have F_outerRootQuotient_a1_38 := F_outerRootQuotient_a1_32.other W38 (Or.inr (slot_ne (Or.inr (hw _ (List.mem_of_getElem? (i := 33) rfl))) (Or.inr (hw _ (List.mem_of_getElem? (i := 39) rfl))) (by decide) (t := .int) (t' := .int) (by decide) (by decide)))
  have F_negativeInverse_a1_38 := F_negativeInverse_a1_32.other W38 (Or.inr (slot_ne (Or.inr (hw _ (List.mem_of_getElem? (i := 35) rfl))) (Or.inr (hw _ (List.mem_of_getElem? (i := 39) rfl))) (by decide) (t := .int) (t' := .int) (by decide) (by decide)))
  have F_scaleQuotient_a1_38 := F_scaleQuotient_a1_32.other W38 (Or.inr (slot_ne (Or.inr (hw _ (List.mem_of_getElem? (i := 41) rfl))) (Or.inr (hw _ (List.mem_of_getElem? (i := 39) rfl))) (by decide) (t := .int) (t' := .int) (by decide) (by decide)))
  have E_a1_38 := E_a1_32.wr W38
  have F_prime_a1_38 := F_prime_a1_32.other W38 (Or.inr (slot_ne (Or.inr (hw _ (List.mem_of_getElem? (i := 15) rfl))) (Or.inr (hw _ (List.mem_of_getElem? (i := 39) rfl))) (by decide) (t := .int) (t' := .int) (by decide) (by decide)))
  have A_a4_38 := A_a4_32.other W38 hne_a4_a1
  have A_a5_38 := A_a5_32.other W38 hne_a5_a1
  have O38 := O32.wr W38 g_a1
  have Z38 := Nat.le_trans Z32 (Keep.of_wr W38).1
  have KK38 : Keep h0 h38 [a1, a4, a5] := KK32.wr W38 (Or.inl (by simp))
  have F_scale_a1_38 := F_scale_a1_32.same W38
  show Go p e below _ (T38.setTop (mkF m 325 #[.val (.ref a1), .val (.int (0 : Int32)), .val (.int (2 : Int32)), .val (.ref a4), .val (.ref a5), .val (.long z15), .second, .val (.int (0 : Int32)), .val (.long v22), .second, .val (.long (1 : Int64)), .second, .val (.int (-2013265919 : Int32)), .val (.int (4 : Int32))] []))
  refine Go.step (fun t k => XS.aloadN X38.here hx rfl (hb hby d1_325) rfl rfl k) ?_
  show Go p e below _ (T38.setTop (mkF m 326 #[.val (.ref a1), .val (.int (0 : Int32)), .val (.int (2 : Int32)), .val (.ref a4), .val (.ref a5), .val (.long z15), .second, .val (.int (0 : Int32)), .val (.long v22), .second, .val (.long (1 : Int64)), .second, .val (.int (-2013265919 : Int32)), .val (.int (4 : Int32))] [(.ref a1)]))
  refine Go.step (fun t k => XS.aloadN X38.here hx rfl (hb hby d1_326) rfl rfl k) ?_
  show Go p e below _ (T38.setTop (mkF m 327 #[.val (.ref a1), .val (.int (0 : Int32)), .val (.int (2 : Int32)), .val (.ref a4), .val (.ref a5), .val (.long z15), .second, .val (.int (0 : Int32)), .val (.long v22), .second, .val (.long (1 : Int64)), .second, .val (.int (-2013265919 : Int32)), .val (.int (4 : Int32))] [(.ref a1), (.ref a1)]))
  obtain ⟨T39, X39, e39, st39⟩ := getF X38 hx hZ hown (host := "") (Or.inl (hw _ (List.mem_of_getElem? (i := 38) rfl))) Via.refl e38 F_scale_a1_38 (g := (mkF m 327 #[.val (.ref a1), .val (.int (0 : Int32)), .val (.int (2 : Int32)), .val (.ref a4), .val (.ref a5), .val (.long z15), .second, .val (.int (0 : Int32)), .val (.long v22), .second, .val (.long (1 : Int64)), .second, .val (.int (-2013265919 : Int32)), .val (.int (4 : Int32))] [(.ref a1), (.ref a1)])) rfl rfl (hb hby d1_327)
  refine Go.step st39 ?_
  show Go p e below _ (T39.setTop (mkF m 330 #[.val (.ref a1), .val (.int (0 : Int32)), .val (.int (2 : Int32)), .val (.ref a4), .val (.ref a5), .val (.long z15), .second, .val (.int (0 : Int32)), .val (.long v22), .second, .val (.long (1 : Int64)), .second, .val (.int (-2013265919 : Int32)), .val (.int (4 : Int32))] [(.int ((((268435454 : Int64) * z36) % (2013265921 : Int64)).toInt32)), (.ref a1)]))
  refine Go.step (fun t k => XS.aloadN X39.here hx rfl (hb hby d1_330) rfl rfl k) ?_
  show Go p e below _ (T39.setTop (mkF m 331 #[.val (.ref a1), .val (.int (0 : Int32)), .val (.int (2 : Int32)), .val (.ref a4), .val (.ref a5), .val (.long z15), .second, .val (.int (0 : Int32)), .val (.long v22), .second, .val (.long (1 : Int64)), .second, .val (.int (-2013265919 : Int32)), .val (.int (4 : Int32))] [(.ref a1), (.int ((((268435454 : Int64) * z36) % (2013265921 : Int64)).toInt32)), (.ref a1)]))
  obtain ⟨T40, X40, e40, st40⟩ := getF X39 hx hZ hown (host := "") (Or.inl (hw _ (List.mem_of_getElem? (i := 14) rfl))) Via.refl e39 F_prime_a1_38 (g := (mkF m 331 #[.val (.ref a1), .val (.int (0 : Int32)), .val (.int (2 : Int32)), .val (.ref a4), .val (.ref a5), .val (.long z15), .second, .val (.int (0 : Int32)), .val (.long v22), .second, .val (.long (1 : Int64)), .second, .val (.int (-2013265919 : Int32)), .val (.int (4 : Int32))] [(.ref a1), (.int ((((268435454 : Int64) * z36) % (2013265921 : Int64)).toInt32)), (.ref a1)])) rfl rfl (hb hby d1_331)
  refine Go.step st40 ?_
  show Go p e below _ (T40.setTop (mkF m 334 #[.val (.ref a1), .val (.int (0 : Int32)), .val (.int (2 : Int32)), .val (.ref a4), .val (.ref a5), .val (.long z15), .second, .val (.int (0 : Int32)), .val (.long v22), .second, .val (.long (1 : Int64)), .second, .val (.int (-2013265919 : Int32)), .val (.int (4 : Int32))] [(.int (2013265921 : Int32)), (.int ((((268435454 : Int64) * z36) % (2013265921 : Int64)).toInt32)), (.ref a1)]))
  obtain ⟨_, _, ⟨T41, L41, k41, n41⟩, -, X41, ⟨Lc41, hQ41, l41, y41, z41⟩, st41⟩ := Jvm.LawKit.callS X40 hx (y := (⟨"com/example/tinwire/tinwire/json/Transform", "quotient", "(II)I"⟩ : MethodName)) hown (mvT hZ (hw _ (List.mem_of_getElem? (i := 29) rfl))) (mvT hZ (hw _ (List.mem_of_getElem? (i := 30) rfl))) (mvT hZ (hw _ (List.mem_of_getElem? (i := 2) rfl))) (mvT hZ (hw _ (List.mem_of_getElem? (i := 31) rfl))) (by decide) (backOf (W := 1) (rm4 l Z a0 hw [] ((((268435454 : Int64) * z36) % (2013265921 : Int64)).toInt32) (2013265921 : Int32) h38 n0 Z38 ((by decide) : ¬ (((2013265921 : Int32).toInt64) = (0 : Int64)))) hZ (hw _ (List.mem_of_getElem? (i := 31) rfl)) (hw _ (List.mem_of_getElem? (i := 2) rfl)) (by decide) (by decide)) (g := (mkF m 334 #[.val (.ref a1), .val (.int (0 : Int32)), .val (.int (2 : Int32)), .val (.ref a4), .val (.ref a5), .val (.long z15), .second, .val (.int (0 : Int32)), .val (.long v22), .second, .val (.long (1 : Int64)), .second, .val (.int (-2013265919 : Int32)), .val (.int (4 : Int32))] [(.int (2013265921 : Int32)), (.int ((((268435454 : Int64) * z36) % (2013265921 : Int64)).toInt32)), (.ref a1)])) rfl (by rw [hml]; rfl) (argsL := [(.int ((((268435454 : Int64) * z36) % (2013265921 : Int64)).toInt32)), (.int (2013265921 : Int32))]) (rest := [(.ref a1)]) (lenOf pd_1 rfl) rfl (by show 2 * 0 + _ ≤ _; exact Nat.le_of_eq rfl) (hb hby d1_334) (fun _ _ => ⟨rfl, e40, (by decide : 0 + 0 ≤ _), (by decide : 0 + 0 ≤ _)⟩)
  dsimp only [Pt.U, Pt.locs, Pt.cells, Pt.slots] at X41 l41 y41 z41 st41 hQ41
  subst l41 y41 z41
  obtain ⟨rfl, N41q, e41⟩ := hQ41
  have N41 := Fr.app N38 N41q
  refine Go.step st41 ?_
  show Go p e below _ (T41.setTop (mkF m 337 #[.val (.ref a1), .val (.int (0 : Int32)), .val (.int (2 : Int32)), .val (.ref a4), .val (.ref a5), .val (.long z15), .second, .val (.int (0 : Int32)), .val (.long v22), .second, .val (.long (1 : Int64)), .second, .val (.int (-2013265919 : Int32)), .val (.int (4 : Int32))] [(.int (f4 ((((268435454 : Int64) * z36) % (2013265921 : Int64)).toInt32) (2013265921 : Int32))), (.ref a1)]))
  obtain ⟨T42, h42, X42, e42, W42, st42⟩ := putF X41 hx hZ hown (host := "") (Or.inl (hw _ (List.mem_of_getElem? (i := 40) rfl))) Via.refl e41 F_scaleQuotient_a1_38 E_a1_38 (Or.inr ⟨(hw _ (List.mem_of_getElem? (i := 41) rfl)), rfl, hnm⟩) (hw _ (List.mem_of_getElem? (i := 6) rfl)) (ty := .int) (by decide) rfl rfl (g := (mkF m 337 #[.val (.ref a1), .val (.int (0 : Int32)), .val (.int (2 : Int32)), .val (.ref a4), .val (.ref a5), .val (.long z15), .second, .val (.int (0 : Int32)), .val (.long v22), .second, .val (.long (1 : Int64)), .second, .val (.int (-2013265919 : Int32)), .val (.int (4 : Int32))] [(.int (f4 ((((268435454 : Int64) * z36) % (2013265921 : Int64)).toInt32) (2013265921 : Int32))), (.ref a1)])) rfl rfl (hb hby d1_337)
  refine Go.step st42 ?_
  have N42 := Fr.snoc X42 N41 g_a1
  have F_length_a1_42 := F_length_a1_38.other W42 (Or.inr (slot_ne (Or.inr (hw _ (List.mem_of_getElem? (i := 17) rfl))) (Or.inr (hw _ (List.mem_of_getElem? (i := 41) rfl))) (by decide) (t := .int) (t' := .int) (by decide) (by decide)))
  have F_roots_a1_42 := F_roots_a1_38.other W42 (Or.inr (slot_ne (Or.inr (hw _ (List.mem_of_getElem? (i := 19) rfl))) (Or.inr (hw _ (List.mem_of_getElem? (i := 41) rfl))) (by decide) (t := (.array .int)) (t' := .int) (by decide) (by decide)))
  have F_rootQuotients_a1_42 := F_rootQuotients_a1_38.other W42 (Or.inr (slot_ne (Or.inr (hw _ (List.mem_of_getElem? (i := 21) rfl))) (Or.inr (hw _ (List.mem_of_getElem? (i := 41) rfl))) (by decide) (t := (.array .int)) (t' := .int) (by decide) (by decide)))
  have F_outerRoot_a1_42 := F_outerRoot_a1_38.other W42 (Or.inr (slot_ne (Or.inr (hw _ (List.mem_of_getElem? (i := 28) rfl))) (Or.inr (hw _ (List.mem_of_getElem? (i := 41) rfl))) (by decide) (t := .int) (t' := .int) (by decide) (by decide)))
  have F_outerRootQuotient_a1_42 := F_outerRootQuotient_a1_38.other W42 (Or.inr (slot_ne (Or.inr (hw _ (List.mem_of_getElem? (i := 33) rfl))) (Or.inr (hw _ (List.mem_of_getElem? (i := 41) rfl))) (by decide) (t := .int) (t' := .int) (by decide) (by decide)))
  have F_negativeInverse_a1_42 := F_negativeInverse_a1_38.other W42 (Or.inr (slot_ne (Or.inr (hw _ (List.mem_of_getElem? (i := 35) rfl))) (Or.inr (hw _ (List.mem_of_getElem? (i := 41) rfl))) (by decide) (t := .int) (t' := .int) (by decide) (by decide)))
  have F_scale_a1_42 := F_scale_a1_38.other W42 (Or.inr (slot_ne (Or.inr (hw _ (List.mem_of_getElem? (i := 39) rfl))) (Or.inr (hw _ (List.mem_of_getElem? (i := 41) rfl))) (by decide) (t := .int) (t' := .int) (by decide) (by decide)))
  have E_a1_42 := E_a1_38.wr W42
  have F_prime_a1_42 := F_prime_a1_38.other W42 (Or.inr (slot_ne (Or.inr (hw _ (List.mem_of_getElem? (i := 15) rfl))) (Or.inr (hw _ (List.mem_of_getElem? (i := 41) rfl))) (by decide) (t := .int) (t' := .int) (by decide) (by decide)))
  have A_a4_42 := A_a4_38.other W42 hne_a4_a1
  have A_a5_42 := A_a5_38.other W42 hne_a5_a1
  have O42 := O38.wr W42 g_a1
  have Z42 := Nat.le_trans Z38 (Keep.of_wr W42).1
  have KK42 : Keep h0 h42 [a1, a4, a5] := KK38.wr W42 (Or.inl (by simp))
  have F_scaleQuotient_a1_42 := F_scaleQuotient_a1_38.same W42
  show Go p e below _ (T42.setTop (mkF m 340 #[.val (.ref a1), .val (.int (0 : Int32)), .val (.int (2 : Int32)), .val (.ref a4), .val (.ref a5), .val (.long z15), .second, .val (.int (0 : Int32)), .val (.long v22), .second, .val (.long (1 : Int64)), .second, .val (.int (-2013265919 : Int32)), .val (.int (4 : Int32))] []))
  subst hv22
  refine retGV X42 hx Bd.notSynchronized Bd.returns (hb hby d1_340) ?_ (by decide) (by decide)
  show Q1_0 Z a1 a4 a5 g_a4f g_a5f u_length_a1 u_roots_a1 u_rootQuotients_a1 u_outerRoot_a1 u_outerRootQuotient_a1 u_negativeInverse_a1 u_scale_a1 u_scaleQuotient_a1 oP u_prime_a1 oG h0 n0 _ T42.heap _
  rw [e42]
  exact ⟨rfl, N42, KK42, F_length_a1_42, F_negativeInverse_a1_42, E_a1_42, F_prime_a1_42⟩
theorem ef_1_1 (m : MethodId) (a1 : Addr) (a4 : Addr) (a5 : Addr) : entryFrame m #[(.ref a1), (.int (1 : Int32)), (.int (2 : Int32)), (.ref a4), (.ref a5)] 14 = mkF m 0 #[.val (.ref a1), .val (.int (1 : Int32)), .val (.int (2 : Int32)), .val (.ref a4), .val (.ref a5), .unset, .unset, .unset, .unset, .unset, .unset, .unset, .unset, .unset] [] := by first | (simp [entryFrame, mkF, argsToLocals, Value.category]; done) | rfl
def Q1_1 (Z : State) (a1 : Addr) (a4 : Addr) (a5 : Addr) (g_a4f : Nat → Int32) (g_a5f : Nat → Int32) (u_length_a1 : Value) (u_roots_a1 : Value) (u_rootQuotients_a1 : Value) (u_outerRoot_a1 : Value) (u_outerRootQuotient_a1 : Value) (u_negativeInverse_a1 : Value) (u_scale_a1 : Value) (u_scaleQuotient_a1 : Value) (oP : Addr) (u_prime_a1 : Value) (oG : Addr) (h0 : Heap) (n0 : Nat) (v : Option Value) (h : Heap) (L : List Loc) : Prop := v = none ∧ Fr n0 L ∧ Keep h0 h [a1, a4, a5] ∧ Fld Z h a1 "com/example/tinwire/tinwire/json/Transform" "length" "I" (.int (2 : Int32)) ∧ Fld Z h a1 "com/example/tinwire/tinwire/json/Transform" "negativeInverse" "I" (.int (1811939327 : Int32)) ∧ Exa Z h a1 "com/example/tinwire/tinwire/json/Transform" ∧ Fld Z h a1 "com/example/tinwire/tinwire/json/Transform" "prime" "I" (.int (1811939329 : Int32))
set_option maxRecDepth 65536 in
set_option maxHeartbeats 40000000 in
theorem rm1_1 (l : Launch) (Z : State) (a0 : Array Value) (hw : ∀ d ∈ tables_1, d.before a0 Z = true) (ws : List Jvm.Cond) (a1 : Addr) (a4 : Addr) (a5 : Addr) (g_a4f : Nat → Int32) (g_a5f : Nat → Int32) (u_length_a1 : Value) (u_roots_a1 : Value) (u_rootQuotients_a1 : Value) (u_outerRoot_a1 : Value) (u_outerRootQuotient_a1 : Value) (u_negativeInverse_a1 : Value) (u_scale_a1 : Value) (u_scaleQuotient_a1 : Value) (oP : Addr) (u_prime_a1 : Value) (oG : Addr) (h0 : Heap) (n0 : Nat) (Z0 : n0 ≤ h0.size) (A_a4 : Ary Z h0 a4 .int 1 (fun i => .int (g_a4f i))) (A_a5 : Ary Z h0 a5 .int 1 (fun i => .int (g_a5f i))) (F_length_a1 : Fld Z h0 a1 "com/example/tinwire/tinwire/json/Transform" "length" "I" u_length_a1) (F_roots_a1 : Fld Z h0 a1 "com/example/tinwire/tinwire/json/Transform" "roots" "[I" u_roots_a1) (F_rootQuotients_a1 : Fld Z h0 a1 "com/example/tinwire/tinwire/json/Transform" "rootQuotients" "[I" u_rootQuotients_a1) (F_outerRoot_a1 : Fld Z h0 a1 "com/example/tinwire/tinwire/json/Transform" "outerRoot" "I" u_outerRoot_a1) (F_outerRootQuotient_a1 : Fld Z h0 a1 "com/example/tinwire/tinwire/json/Transform" "outerRootQuotient" "I" u_outerRootQuotient_a1) (F_negativeInverse_a1 : Fld Z h0 a1 "com/example/tinwire/tinwire/json/Transform" "negativeInverse" "I" u_negativeInverse_a1) (F_scale_a1 : Fld Z h0 a1 "com/example/tinwire/tinwire/json/Transform" "scale" "I" u_scale_a1) (F_scaleQuotient_a1 : Fld Z h0 a1 "com/example/tinwire/tinwire/json/Transform" "scaleQuotient" "I" u_scaleQuotient_a1) (S_PRIMES : Sta Z Z.heap "com/example/tinwire/tinwire/json/Transform" "PRIMES" "[I" (.ref oP)) (A_PRIMES : Ary Z Z.heap oP .int 3 (fun i => .int (primT i))) (hO : Old Z n0 h0) (E_a1 : Exa Z h0 a1 "com/example/tinwire/tinwire/json/Transform") (F_prime_a1 : Fld Z h0 a1 "com/example/tinwire/tinwire/json/Transform" "prime" "I" u_prime_a1) (g_a1 : n0 ≤ a1) (hne_a4_a1 : a4 ≠ a1) (hne_a5_a1 : a5 ≠ a1) (S_GENERATORS : Sta Z Z.heap "com/example/tinwire/tinwire/json/Transform" "GENERATORS" "[I" (.ref oG)) (A_GENERATORS : Ary Z Z.heap oG .int 3 (fun i => .int (genT i))) (g_a4 : n0 ≤ a4) (hne_a5_a4 : a5 ≠ a4) (hne_a1_a4 : a1 ≠ a4) (g_a5 : n0 ≤ a5) (hne_a1_a5 : a1 ≠ a5) (hne_a4_a5 : a4 ≠ a5) :
    MetFree l (⟨"com/example/tinwire/tinwire/json/Transform", "<init>", "(II[I[I)V"⟩ : MethodName) (head1 (Jvm.Cond.code (⟨"com/example/tinwire/tinwire/json/Transform", "<init>", "(II[I[I)V"⟩ : MethodName) prog_48_method_1_code 14 none :: ws) ({ frames := 1, cells := 0, slots := 0, locals := 25 } : Room)) (fun a U => a = #[(.ref a1), (.int (1 : Int32)), (.int (2 : Int32)), (.ref a4), (.ref a5)] ∧ Z.Warmed39 U.vm ∧ U.heap = h0) (fun _ _ _ _ _ => True) (fun _ U o U' => ∃ v L, o = .returned v ∧ Q1_1 Z a1 a4 a5 g_a4f g_a5f u_length_a1 u_roots_a1 u_rootQuotients_a1 u_outerRoot_a1 u_outerRootQuotient_a1 u_negativeInverse_a1 u_scale_a1 u_scaleQuotient_a1 oP u_prime_a1 oG h0 n0 v U'.heap L ∧ FrameEnd U o U' L ({ frames := 1, cells := 0, slots := 0, locals := 25 } : Room).cells ({ frames := 1, cells := 0, slots := 0, locals := 25 } : Room).slots) := by
  refine MetFree.of_bodySF (plainFor_of_name pn_0) hisR ?_
  intro p e s m args below meth c s₁ Bd hml0 hP hK
  obtain ⟨rfl, hZ, hh⟩ := hP
  have hx := Bd.exec
  have hby := Bd.bytes
  have hml : c.maxLocals = 14 := hml0
  have hown : s.vm.findClass "com/example/tinwire/tinwire/json/Transform" = some m.cls := findClass_of_methodNamed Bd.named
  have hnm := (name_of_methodNamed Bd.named Bd.method).1
  have X0 : Stand p l e ({ frames := 1, cells := 0, slots := 0, locals := 25 } : Room) s m #[(.ref a1), (.int (1 : Int32)), (.int (2 : Int32)), (.ref a4), (.ref a5)] below meth c s₁ [] 0 0 := Stand.of_body Bd
  have e0 : s₁.heap = h0 := by rw [← hh, Bd.state]; rfl
  have N0 := Fr.nil n0
  refine Go.done (Go.step (fun t k => castTop (ef_1_1 m a1 a4 a5) k) ?_)
  have KK0 : Keep h0 h0 [a1, a4, a5] := Keep.refl _ _
  show Go p e below _ (s₁.setTop (mkF m 0 #[.val (.ref a1), .val (.int (1 : Int32)), .val (.int (2 : Int32)), .val (.ref a4), .val (.ref a5), .unset, .unset, .unset, .unset, .unset, .unset, .unset, .unset, .unset] []))
  refine Go.step (fun t k => XS.aloadN X0.here hx rfl (hb hby d1_0) rfl rfl k) ?_
  show Go p e below _ (s₁.setTop (mkF m 1 #[.val (.ref a1), .val (.int (1 : Int32)), .val (.int (2 : Int32)), .val (.ref a4), .val (.ref a5), .unset, .unset, .unset, .unset, .unset, .unset, .unset, .unset, .unset] [(.ref a1)]))
  obtain ⟨T6, X6, e6, st6⟩ := initO X0 hx hZ hown (hw _ (List.mem_of_getElem? (i := 10) rfl)) (hw _ (List.mem_of_getElem? (i := 11) rfl)) (hw _ (List.mem_of_getElem? (i := 12) rfl)) e0 (g := (mkF m 1 #[.val (.ref a1), .val (.int (1 : Int32)), .val (.int (2 : Int32)), .val (.ref a4), .val (.ref a5), .unset, .unset, .unset, .unset, .unset, .unset, .unset, .unset, .unset] [(.ref a1)])) rfl (by rw [hml]; rfl) rfl (hb hby d1_1) (by decide) (W := 0) (by show 2 * 0 + _ ≤ _; exact Nat.le_of_eq rfl) (by decide)
  refine Go.step st6 ?_
  show Go p e below _ (T6.setTop (mkF m 4 #[.val (.ref a1), .val (.int (1 : Int32)), .val (.int (2 : Int32)), .val (.ref a4), .val (.ref a5), .unset, .unset, .unset, .unset, .unset, .unset, .unset, .unset, .unset] []))
  refine Go.step (fun t k => XS.aloadN X6.here hx rfl (hb hby d1_4) rfl rfl k) ?_
  show Go p e below _ (T6.setTop (mkF m 5 #[.val (.ref a1), .val (.int (1 : Int32)), .val (.int (2 : Int32)), .val (.ref a4), .val (.ref a5), .unset, .unset, .unset, .unset, .unset, .unset, .unset, .unset, .unset] [(.ref a1)]))
  obtain ⟨T7, X7, e7, st7⟩ := getS2 X6 hx hZ hown (host := "") (Or.inl (hw _ (List.mem_of_getElem? (i := 13) rfl))) Via.refl e6 (S_PRIMES.ext hO.2) (g := (mkF m 5 #[.val (.ref a1), .val (.int (1 : Int32)), .val (.int (2 : Int32)), .val (.ref a4), .val (.ref a5), .unset, .unset, .unset, .unset, .unset, .unset, .unset, .unset, .unset] [(.ref a1)])) rfl (hb hby d1_5)
  refine Go.step st7 ?_
  show Go p e below _ (T7.setTop (mkF m 8 #[.val (.ref a1), .val (.int (1 : Int32)), .val (.int (2 : Int32)), .val (.ref a4), .val (.ref a5), .unset, .unset, .unset, .unset, .unset, .unset, .unset, .unset, .unset] [(.ref oP), (.ref a1)]))
  refine Go.step (fun t k => XS.iloadN X7.here hx rfl (hb hby d1_8) rfl k) ?_
  show Go p e below _ (T7.setTop (mkF m 9 #[.val (.ref a1), .val (.int (1 : Int32)), .val (.int (2 : Int32)), .val (.ref a4), .val (.ref a5), .unset, .unset, .unset, .unset, .unset, .unset, .unset, .unset, .unset] [(.int (1 : Int32)), (.ref oP), (.ref a1)]))
  refine Go.step (ldI X7 hx hZ e7 (A_PRIMES.ext hO.2) (j := (1 : Int32)) (by decide) (by decide) (g := (mkF m 9 #[.val (.ref a1), .val (.int (1 : Int32)), .val (.int (2 : Int32)), .val (.ref a4), .val (.ref a5), .unset, .unset, .unset, .unset, .unset, .unset, .unset, .unset, .unset] [(.int (1 : Int32)), (.ref oP), (.ref a1)])) rfl rfl (hb hby d1_9)) ?_
  show Go p e below _ (T7.setTop (mkF m 10 #[.val (.ref a1), .val (.int (1 : Int32)), .val (.int (2 : Int32)), .val (.ref a4), .val (.ref a5), .unset, .unset, .unset, .unset, .unset, .unset, .unset, .unset, .unset] [(.int (1811939329 : Int32)), (.ref a1)]))
  obtain ⟨T8, h8, X8, e8, W8, st8⟩ := putF X7 hx hZ hown (host := "") (Or.inl (hw _ (List.mem_of_getElem? (i := 14) rfl))) Via.refl e7 F_prime_a1 E_a1 (Or.inr ⟨(hw _ (List.mem_of_getElem? (i := 15) rfl)), rfl, hnm⟩) (hw _ (List.mem_of_getElem? (i := 6) rfl)) (ty := .int) (by decide) rfl rfl (g := (mkF m 10 #[.val (.ref a1), .val (.int (1 : Int32)), .val (.int (2 : Int32)), .val (.ref a4), .val (.ref a5), .unset, .unset, .unset, .unset, .unset, .unset, .unset, .unset, .unset] [(.int (1811939329 : Int32)), (.ref a1)])) rfl rfl (hb hby d1_10)
  refine Go.step st8 ?_
  have N8 := Fr.snoc X8 N0 g_a1
  have A_a4_8 := A_a4.other W8 hne_a4_a1
  have A_a5_8 := A_a5.other W8 hne_a5_a1
  have F_length_a1_8 := F_length_a1.other W8 (Or.inr (slot_ne (Or.inr (hw _ (List.mem_of_getElem? (i := 17) rfl))) (Or.inr (hw _ (List.mem_of_getElem? (i := 15) rfl))) (by decide) (t := .int) (t' := .int) (by decide) (by decide)))
  have F_roots_a1_8 := F_roots_a1.other W8 (Or.inr (slot_ne (Or.inr (hw _ (List.mem_of_getElem? (i := 19) rfl))) (Or.inr (hw _ (List.mem_of_getElem? (i := 15) rfl))) (by decide) (t := (.array .int)) (t' := .int) (by decide) (by decide)))
  have F_rootQuotients_a1_8 := F_rootQuotients_a1.other W8 (Or.inr (slot_ne (Or.inr (hw _ (List.mem_of_getElem? (i := 21) rfl))) (Or.inr (hw _ (List.mem_of_getElem? (i := 15) rfl))) (by decide) (t := (.array .int)) (t' := .int) (by decide) (by decide)))
  have F_outerRoot_a1_8 := F_outerRoot_a1.other W8 (Or.inr (slot_ne (Or.inr (hw _ (List.mem_of_getElem? (i := 28) rfl))) (Or.inr (hw _ (List.mem_of_getElem? (i := 15) rfl))) (by decide) (t := .int) (t' := .int) (by decide) (by decide)))
  have F_outerRootQuotient_a1_8 := F_outerRootQuotient_a1.other W8 (Or.inr (slot_ne (Or.inr (hw _ (List.mem_of_getElem? (i := 33) rfl))) (Or.inr (hw _ (List.mem_of_getElem? (i := 15) rfl))) (by decide) (t := .int) (t' := .int) (by decide) (by decide)))
  have F_negativeInverse_a1_8 := F_negativeInverse_a1.other W8 (Or.inr (slot_ne (Or.inr (hw _ (List.mem_of_getElem? (i := 35) rfl))) (Or.inr (hw _ (List.mem_of_getElem? (i := 15) rfl))) (by decide) (t := .int) (t' := .int) (by decide) (by decide)))
  have F_scale_a1_8 := F_scale_a1.other W8 (Or.inr (slot_ne (Or.inr (hw _ (List.mem_of_getElem? (i := 39) rfl))) (Or.inr (hw _ (List.mem_of_getElem? (i := 15) rfl))) (by decide) (t := .int) (t' := .int) (by decide) (by decide)))
  have F_scaleQuotient_a1_8 := F_scaleQuotient_a1.other W8 (Or.inr (slot_ne (Or.inr (hw _ (List.mem_of_getElem? (i := 41) rfl))) (Or.inr (hw _ (List.mem_of_getElem? (i := 15) rfl))) (by decide) (t := .int) (t' := .int) (by decide) (by decide)))
  have E_a1_8 := E_a1.wr W8
  have O8 := hO.wr W8 g_a1
  have Z8 := Nat.le_trans Z0 (Keep.of_wr W8).1
  have KK8 : Keep h0 h8 [a1, a4, a5] := KK0.wr W8 (Or.inl (by simp))
  have F_prime_a1_8 := F_prime_a1.same W8
  show Go p e below _ (T8.setTop (mkF m 13 #[.val (.ref a1), .val (.int (1 : Int32)), .val (.int (2 : Int32)), .val (.ref a4), .val (.ref a5), .unset, .unset, .unset, .unset, .unset, .unset, .unset, .unset, .unset] []))
  refine Go.step (fun t k => XS.aloadN X8.here hx rfl (hb hby d1_13) rfl rfl k) ?_
  show Go p e below _ (T8.setTop (mkF m 14 #[.val (.ref a1), .val (.int (1 : Int32)), .val (.int (2 : Int32)), .val (.ref a4), .val (.ref a5), .unset, .unset, .unset, .unset, .unset, .unset, .unset, .unset, .unset] [(.ref a1)]))
  refine Go.step (fun t k => XS.iloadN X8.here hx rfl (hb hby d1_14) rfl k) ?_
  show Go p e below _ (T8.setTop (mkF m 15 #[.val (.ref a1), .val (.int (1 : Int32)), .val (.int (2 : Int32)), .val (.ref a4), .val (.ref a5), .unset, .unset, .unset, .unset, .unset, .unset, .unset, .unset, .unset] [(.int (2 : Int32)), (.ref a1)]))
  obtain ⟨T9, h9, X9, e9, W9, st9⟩ := putF X8 hx hZ hown (host := "") (Or.inl (hw _ (List.mem_of_getElem? (i := 16) rfl))) Via.refl e8 F_length_a1_8 E_a1_8 (Or.inr ⟨(hw _ (List.mem_of_getElem? (i := 17) rfl)), rfl, hnm⟩) (hw _ (List.mem_of_getElem? (i := 6) rfl)) (ty := .int) (by decide) rfl rfl (g := (mkF m 15 #[.val (.ref a1), .val (.int (1 : Int32)), .val (.int (2 : Int32)), .val (.ref a4), .val (.ref a5), .unset, .unset, .unset, .unset, .unset, .unset, .unset, .unset, .unset] [(.int (2 : Int32)), (.ref a1)])) rfl rfl (hb hby d1_15)
  refine Go.step st9 ?_
  have N9 := Fr.snoc X9 N8 g_a1
  have A_a4_9 := A_a4_8.other W9 hne_a4_a1
  have A_a5_9 := A_a5_8.other W9 hne_a5_a1
  have F_roots_a1_9 := F_roots_a1_8.other W9 (Or.inr (slot_ne (Or.inr (hw _ (List.mem_of_getElem? (i := 19) rfl))) (Or.inr (hw _ (List.mem_of_getElem? (i := 17) rfl))) (by decide) (t := (.array .int)) (t' := .int) (by decide) (by decide)))
  have F_rootQuotients_a1_9 := F_rootQuotients_a1_8.other W9 (Or.inr (slot_ne (Or.inr (hw _ (List.mem_of_getElem? (i := 21) rfl))) (Or.inr (hw _ (List.mem_of_getElem? (i := 17) rfl))) (by decide) (t := (.array .int)) (t' := .int) (by decide) (by decide)))
  have F_outerRoot_a1_9 := F_outerRoot_a1_8.other W9 (Or.inr (slot_ne (Or.inr (hw _ (List.mem_of_getElem? (i := 28) rfl))) (Or.inr (hw _ (List.mem_of_getElem? (i := 17) rfl))) (by decide) (t := .int) (t' := .int) (by decide) (by decide)))
  have F_outerRootQuotient_a1_9 := F_outerRootQuotient_a1_8.other W9 (Or.inr (slot_ne (Or.inr (hw _ (List.mem_of_getElem? (i := 33) rfl))) (Or.inr (hw _ (List.mem_of_getElem? (i := 17) rfl))) (by decide) (t := .int) (t' := .int) (by decide) (by decide)))
  have F_negativeInverse_a1_9 := F_negativeInverse_a1_8.other W9 (Or.inr (slot_ne (Or.inr (hw _ (List.mem_of_getElem? (i := 35) rfl))) (Or.inr (hw _ (List.mem_of_getElem? (i := 17) rfl))) (by decide) (t := .int) (t' := .int) (by decide) (by decide)))
  have F_scale_a1_9 := F_scale_a1_8.other W9 (Or.inr (slot_ne (Or.inr (hw _ (List.mem_of_getElem? (i := 39) rfl))) (Or.inr (hw _ (List.mem_of_getElem? (i := 17) rfl))) (by decide) (t := .int) (t' := .int) (by decide) (by decide)))
  have F_scaleQuotient_a1_9 := F_scaleQuotient_a1_8.other W9 (Or.inr (slot_ne (Or.inr (hw _ (List.mem_of_getElem? (i := 41) rfl))) (Or.inr (hw _ (List.mem_of_getElem? (i := 17) rfl))) (by decide) (t := .int) (t' := .int) (by decide) (by decide)))
  have E_a1_9 := E_a1_8.wr W9
  have F_prime_a1_9 := F_prime_a1_8.other W9 (Or.inr (slot_ne (Or.inr (hw _ (List.mem_of_getElem? (i := 15) rfl))) (Or.inr (hw _ (List.mem_of_getElem? (i := 17) rfl))) (by decide) (t := .int) (t' := .int) (by decide) (by decide)))
  have O9 := O8.wr W9 g_a1
  have Z9 := Nat.le_trans Z8 (Keep.of_wr W9).1
  have KK9 : Keep h0 h9 [a1, a4, a5] := KK8.wr W9 (Or.inl (by simp))
  have F_length_a1_9 := F_length_a1_8.same W9
  show Go p e below _ (T9.setTop (mkF m 18 #[.val (.ref a1), .val (.int (1 : Int32)), .val (.int (2 : Int32)), .val (.ref a4), .val (.ref a5), .unset, .unset, .unset, .unset, .unset, .unset, .unset, .unset, .unset] []))
  refine Go.step (fun t k => XS.aloadN X9.here hx rfl (hb hby d1_18) rfl rfl k) ?_
  show Go p e below _ (T9.setTop (mkF m 19 #[.val (.ref a1), .val (.int (1 : Int32)), .val (.int (2 : Int32)), .val (.ref a4), .val (.ref a5), .unset, .unset, .unset, .unset, .unset, .unset, .unset, .unset, .unset] [(.ref a1)]))
  refine Go.step (fun t k => XS.aloadN X9.here hx rfl (hb hby d1_19) rfl rfl k) ?_
  show Go p e below _ (T9.setTop (mkF m 20 #[.val (.ref a1), .val (.int (1 : Int32)), .val (.int (2 : Int32)), .val (.ref a4), .val (.ref a5), .unset, .unset, .unset, .unset, .unset, .unset, .unset, .unset, .unset] [(.ref a4), (.ref a1)]))
  obtain ⟨T10, h10, X10, e10, W10, st10⟩ := putF X9 hx hZ hown (host := "") (Or.inl (hw _ (List.mem_of_getElem? (i := 18) rfl))) Via.refl e9 F_roots_a1_9 E_a1_9 (Or.inr ⟨(hw _ (List.mem_of_getElem? (i := 19) rfl)), rfl, hnm⟩) (hw _ (List.mem_of_getElem? (i := 6) rfl)) (ty := (.array .int)) (by decide) rfl rfl (g := (mkF m 20 #[.val (.ref a1), .val (.int (1 : Int32)), .val (.int (2 : Int32)), .val (.ref a4), .val (.ref a5), .unset, .unset, .unset, .unset, .unset, .unset, .unset, .unset, .unset] [(.ref a4), (.ref a1)])) rfl rfl (hb hby d1_20)
  refine Go.step st10 ?_
  have N10 := Fr.snoc X10 N9 g_a1
  have A_a4_10 := A_a4_9.other W10 hne_a4_a1
  have A_a5_10 := A_a5_9.other W10 hne_a5_a1
  have F_length_a1_10 := F_length_a1_9.other W10 (Or.inr (slot_ne (Or.inr (hw _ (List.mem_of_getElem? (i := 17) rfl))) (Or.inr (hw _ (List.mem_of_getElem? (i := 19) rfl))) (by decide) (t := .int) (t' := (.array .int)) (by decide) (by decide)))
  have F_rootQuotients_a1_10 := F_rootQuotients_a1_9.other W10 (Or.inr (slot_ne (Or.inr (hw _ (List.mem_of_getElem? (i := 21) rfl))) (Or.inr (hw _ (List.mem_of_getElem? (i := 19) rfl))) (by decide) (t := (.array .int)) (t' := (.array .int)) (by decide) (by decide)))
  have F_outerRoot_a1_10 := F_outerRoot_a1_9.other W10 (Or.inr (slot_ne (Or.inr (hw _ (List.mem_of_getElem? (i := 28) rfl))) (Or.inr (hw _ (List.mem_of_getElem? (i := 19) rfl))) (by decide) (t := .int) (t' := (.array .int)) (by decide) (by decide)))
  have F_outerRootQuotient_a1_10 := F_outerRootQuotient_a1_9.other W10 (Or.inr (slot_ne (Or.inr (hw _ (List.mem_of_getElem? (i := 33) rfl))) (Or.inr (hw _ (List.mem_of_getElem? (i := 19) rfl))) (by decide) (t := .int) (t' := (.array .int)) (by decide) (by decide)))
  have F_negativeInverse_a1_10 := F_negativeInverse_a1_9.other W10 (Or.inr (slot_ne (Or.inr (hw _ (List.mem_of_getElem? (i := 35) rfl))) (Or.inr (hw _ (List.mem_of_getElem? (i := 19) rfl))) (by decide) (t := .int) (t' := (.array .int)) (by decide) (by decide)))
  have F_scale_a1_10 := F_scale_a1_9.other W10 (Or.inr (slot_ne (Or.inr (hw _ (List.mem_of_getElem? (i := 39) rfl))) (Or.inr (hw _ (List.mem_of_getElem? (i := 19) rfl))) (by decide) (t := .int) (t' := (.array .int)) (by decide) (by decide)))
  have F_scaleQuotient_a1_10 := F_scaleQuotient_a1_9.other W10 (Or.inr (slot_ne (Or.inr (hw _ (List.mem_of_getElem? (i := 41) rfl))) (Or.inr (hw _ (List.mem_of_getElem? (i := 19) rfl))) (by decide) (t := .int) (t' := (.array .int)) (by decide) (by decide)))
  have E_a1_10 := E_a1_9.wr W10
  have F_prime_a1_10 := F_prime_a1_9.other W10 (Or.inr (slot_ne (Or.inr (hw _ (List.mem_of_getElem? (i := 15) rfl))) (Or.inr (hw _ (List.mem_of_getElem? (i := 19) rfl))) (by decide) (t := .int) (t' := (.array .int)) (by decide) (by decide)))
  have O10 := O9.wr W10 g_a1
  have Z10 := Nat.le_trans Z9 (Keep.of_wr W10).1
  have KK10 : Keep h0 h10 [a1, a4, a5] := KK9.wr W10 (Or.inl (by simp))
  have F_roots_a1_10 := F_roots_a1_9.same W10
  show Go p e below _ (T10.setTop (mkF m 23 #[.val (.ref a1), .val (.int (1 : Int32)), .val (.int (2 : Int32)), .val (.ref a4), .val (.ref a5), .unset, .unset, .unset, .unset, .unset, .unset, .unset, .unset, .unset] []))
  refine Go.step (fun t k => XS.aloadN X10.here hx rfl (hb hby d1_23) rfl rfl k) ?_
  show Go p e below _ (T10.setTop (mkF m 24 #[.val (.ref a1), .val (.int (1 : Int32)), .val (.int (2 : Int32)), .val (.ref a4), .val (.ref a5), .unset, .unset, .unset, .unset, .unset, .unset, .unset, .unset, .unset] [(.ref a1)]))
  refine Go.step (fun t k => XS.aload X10.here hx rfl (hb hby d1_24) rfl rfl k) ?_
  show Go p e below _ (T10.setTop (mkF m 26 #[.val (.ref a1), .val (.int (1 : Int32)), .val (.int (2 : Int32)), .val (.ref a4), .val (.ref a5), .unset, .unset, .unset, .unset, .unset, .unset, .unset, .unset, .unset] [(.ref a5), (.ref a1)]))
  obtain ⟨T11, h11, X11, e11, W11, st11⟩ := putF X10 hx hZ hown (host := "") (Or.inl (hw _ (List.mem_of_getElem? (i := 20) rfl))) Via.refl e10 F_rootQuotients_a1_10 E_a1_10 (Or.inr ⟨(hw _ (List.mem_of_getElem? (i := 21) rfl)), rfl, hnm⟩) (hw _ (List.mem_of_getElem? (i := 6) rfl)) (ty := (.array .int)) (by decide) rfl rfl (g := (mkF m 26 #[.val (.ref a1), .val (.int (1 : Int32)), .val (.int (2 : Int32)), .val (.ref a4), .val (.ref a5), .unset, .unset, .unset, .unset, .unset, .unset, .unset, .unset, .unset] [(.ref a5), (.ref a1)])) rfl rfl (hb hby d1_26)
  refine Go.step st11 ?_
  have N11 := Fr.snoc X11 N10 g_a1
  have A_a4_11 := A_a4_10.other W11 hne_a4_a1
  have A_a5_11 := A_a5_10.other W11 hne_a5_a1
  have F_length_a1_11 := F_length_a1_10.other W11 (Or.inr (slot_ne (Or.inr (hw _ (List.mem_of_getElem? (i := 17) rfl))) (Or.inr (hw _ (List.mem_of_getElem? (i := 21) rfl))) (by decide) (t := .int) (t' := (.array .int)) (by decide) (by decide)))
  have F_roots_a1_11 := F_roots_a1_10.other W11 (Or.inr (slot_ne (Or.inr (hw _ (List.mem_of_getElem? (i := 19) rfl))) (Or.inr (hw _ (List.mem_of_getElem? (i := 21) rfl))) (by decide) (t := (.array .int)) (t' := (.array .int)) (by decide) (by decide)))
  have F_outerRoot_a1_11 := F_outerRoot_a1_10.other W11 (Or.inr (slot_ne (Or.inr (hw _ (List.mem_of_getElem? (i := 28) rfl))) (Or.inr (hw _ (List.mem_of_getElem? (i := 21) rfl))) (by decide) (t := .int) (t' := (.array .int)) (by decide) (by decide)))
  have F_outerRootQuotient_a1_11 := F_outerRootQuotient_a1_10.other W11 (Or.inr (slot_ne (Or.inr (hw _ (List.mem_of_getElem? (i := 33) rfl))) (Or.inr (hw _ (List.mem_of_getElem? (i := 21) rfl))) (by decide) (t := .int) (t' := (.array .int)) (by decide) (by decide)))
  have F_negativeInverse_a1_11 := F_negativeInverse_a1_10.other W11 (Or.inr (slot_ne (Or.inr (hw _ (List.mem_of_getElem? (i := 35) rfl))) (Or.inr (hw _ (List.mem_of_getElem? (i := 21) rfl))) (by decide) (t := .int) (t' := (.array .int)) (by decide) (by decide)))
  have F_scale_a1_11 := F_scale_a1_10.other W11 (Or.inr (slot_ne (Or.inr (hw _ (List.mem_of_getElem? (i := 39) rfl))) (Or.inr (hw _ (List.mem_of_getElem? (i := 21) rfl))) (by decide) (t := .int) (t' := (.array .int)) (by decide) (by decide)))
  have F_scaleQuotient_a1_11 := F_scaleQuotient_a1_10.other W11 (Or.inr (slot_ne (Or.inr (hw _ (List.mem_of_getElem? (i := 41) rfl))) (Or.inr (hw _ (List.mem_of_getElem? (i := 21) rfl))) (by decide) (t := .int) (t' := (.array .int)) (by decide) (by decide)))
  have E_a1_11 := E_a1_10.wr W11
  have F_prime_a1_11 := F_prime_a1_10.other W11 (Or.inr (slot_ne (Or.inr (hw _ (List.mem_of_getElem? (i := 15) rfl))) (Or.inr (hw _ (List.mem_of_getElem? (i := 21) rfl))) (by decide) (t := .int) (t' := (.array .int)) (by decide) (by decide)))
  have O11 := O10.wr W11 g_a1
  have Z11 := Nat.le_trans Z10 (Keep.of_wr W11).1
  have KK11 : Keep h0 h11 [a1, a4, a5] := KK10.wr W11 (Or.inl (by simp))
  have F_rootQuotients_a1_11 := F_rootQuotients_a1_10.same W11
  show Go p e below _ (T11.setTop (mkF m 29 #[.val (.ref a1), .val (.int (1 : Int32)), .val (.int (2 : Int32)), .val (.ref a4), .val (.ref a5), .unset, .unset, .unset, .unset, .unset, .unset, .unset, .unset, .unset] []))
  obtain ⟨T12, X12, e12, st12⟩ := getS2 X11 hx hZ hown (host := "") (Or.inl (hw _ (List.mem_of_getElem? (i := 22) rfl))) Via.refl e11 (S_GENERATORS.ext O11.2) (g := (mkF m 29 #[.val (.ref a1), .val (.int (1 : Int32)), .val (.int (2 : Int32)), .val (.ref a4), .val (.ref a5), .unset, .unset, .unset, .unset, .unset, .unset, .unset, .unset, .unset] [])) rfl (hb hby d1_29)
  refine Go.step st12 ?_
  show Go p e below _ (T12.setTop (mkF m 32 #[.val (.ref a1), .val (.int (1 : Int32)), .val (.int (2 : Int32)), .val (.ref a4), .val (.ref a5), .unset, .unset, .unset, .unset, .unset, .unset, .unset, .unset, .unset] [(.ref oG)]))
  refine Go.step (fun t k => XS.iloadN X12.here hx rfl (hb hby d1_32) rfl k) ?_
  show Go p e below _ (T12.setTop (mkF m 33 #[.val (.ref a1), .val (.int (1 : Int32)), .val (.int (2 : Int32)), .val (.ref a4), .val (.ref a5), .unset, .unset, .unset, .unset, .unset, .unset, .unset, .unset, .unset] [(.int (1 : Int32)), (.ref oG)]))
  refine Go.step (ldI X12 hx hZ e12 (A_GENERATORS.ext O11.2) (j := (1 : Int32)) (by decide) (by decide) (g := (mkF m 33 #[.val (.ref a1), .val (.int (1 : Int32)), .val (.int (2 : Int32)), .val (.ref a4), .val (.ref a5), .unset, .unset, .unset, .unset, .unset, .unset, .unset, .unset, .unset] [(.int (1 : Int32)), (.ref oG)])) rfl rfl (hb hby d1_33)) ?_
  show Go p e below _ (T12.setTop (mkF m 34 #[.val (.ref a1), .val (.int (1 : Int32)), .val (.int (2 : Int32)), .val (.ref a4), .val (.ref a5), .unset, .unset, .unset, .unset, .unset, .unset, .unset, .unset, .unset] [(.int (13 : Int32))]))
  refine Go.step (fun t k => XS.i2l X12.here hx rfl (hb hby d1_34) rfl k) ?_
  show Go p e below _ (T12.setTop (mkF m 35 #[.val (.ref a1), .val (.int (1 : Int32)), .val (.int (2 : Int32)), .val (.ref a4), .val (.ref a5), .unset, .unset, .unset, .unset, .unset, .unset, .unset, .unset, .unset] [(.long (13 : Int64))]))
  refine Go.step (fun t k => XS.aloadN X12.here hx rfl (hb hby d1_35) rfl rfl k) ?_
  show Go p e below _ (T12.setTop (mkF m 36 #[.val (.ref a1), .val (.int (1 : Int32)), .val (.int (2 : Int32)), .val (.ref a4), .val (.ref a5), .unset, .unset, .unset, .unset, .unset, .unset, .unset, .unset, .unset] [(.ref a1), (.long (13 : Int64))]))
  obtain ⟨T13, X13, e13, st13⟩ := getF X12 hx hZ hown (host := "") (Or.inl (hw _ (List.mem_of_getElem? (i := 14) rfl))) Via.refl e12 F_prime_a1_11 (g := (mkF m 36 #[.val (.ref a1), .val (.int (1 : Int32)), .val (.int (2 : Int32)), .val (.ref a4), .val (.ref a5), .unset, .unset, .unset, .unset, .unset, .unset, .unset, .unset, .unset] [(.ref a1), (.long (13 : Int64))])) rfl rfl (hb hby d1_36)
  refine Go.step st13 ?_
  show Go p e below _ (T13.setTop (mkF m 39 #[.val (.ref a1), .val (.int (1 : Int32)), .val (.int (2 : Int32)), .val (.ref a4), .val (.ref a5), .unset, .unset, .unset, .unset, .unset, .unset, .unset, .unset, .unset] [(.int (1811939329 : Int32)), (.long (13 : Int64))]))
  refine Go.step (fun t k => XS.i2l X13.here hx rfl (hb hby d1_39) rfl k) ?_
  show Go p e below _ (T13.setTop (mkF m 40 #[.val (.ref a1), .val (.int (1 : Int32)), .val (.int (2 : Int32)), .val (.ref a4), .val (.ref a5), .unset, .unset, .unset, .unset, .unset, .unset, .unset, .unset, .unset] [(.long (1811939329 : Int64)), (.long (13 : Int64))]))
  refine Go.step (fun t k => XS.lconst X13.here hx rfl (hb hby d1_40)  k) ?_
  show Go p e below _ (T13.setTop (mkF m 41 #[.val (.ref a1), .val (.int (1 : Int32)), .val (.int (2 : Int32)), .val (.ref a4), .val (.ref a5), .unset, .unset, .unset, .unset, .unset, .unset, .unset, .unset, .unset] [(.long (1 : Int64)), (.long (1811939329 : Int64)), (.long (13 : Int64))]))
  refine Go.step (fun t k => XS.lsub X13.here hx rfl (hb hby d1_41) rfl k) ?_
  show Go p e below _ (T13.setTop (mkF m 42 #[.val (.ref a1), .val (.int (1 : Int32)), .val (.int (2 : Int32)), .val (.ref a4), .val (.ref a5), .unset, .unset, .unset, .unset, .unset, .unset, .unset, .unset, .unset] [(.long (1811939328 : Int64)), (.long (13 : Int64))]))
  refine Go.step (fun t k => XS.iloadN X13.here hx rfl (hb hby d1_42) rfl k) ?_
  show Go p e below _ (T13.setTop (mkF m 43 #[.val (.ref a1), .val (.int (1 : Int32)), .val (.int (2 : Int32)), .val (.ref a4), .val (.ref a5), .unset, .unset, .unset, .unset, .unset, .unset, .unset, .unset, .unset] [(.int (2 : Int32)), (.long (1811939328 : Int64)), (.long (13 : Int64))]))
  refine Go.step (fun t k => XS.i2l X13.here hx rfl (hb hby d1_43) rfl k) ?_
  show Go p e below _ (T13.setTop (mkF m 44 #[.val (.ref a1), .val (.int (1 : Int32)), .val (.int (2 : Int32)), .val (.ref a4), .val (.ref a5), .unset, .unset, .unset, .unset, .unset, .unset, .unset, .unset, .unset] [(.long (2 : Int64)), (.long (1811939328 : Int64)), (.long (13 : Int64))]))
  refine Go.step (fun t k => XS.ldiv X13.here hx rfl (hb hby d1_44) rfl (by decide) k) ?_
  show Go p e below _ (T13.setTop (mkF m 45 #[.val (.ref a1), .val (.int (1 : Int32)), .val (.int (2 : Int32)), .val (.ref a4), .val (.ref a5), .unset, .unset, .unset, .unset, .unset, .unset, .unset, .unset, .unset] [(.long (905969664 : Int64)), (.long (13 : Int64))]))
  refine Go.step (fun t k => XS.aloadN X13.here hx rfl (hb hby d1_45) rfl rfl k) ?_
  show Go p e below _ (T13.setTop (mkF m 46 #[.val (.ref a1), .val (.int (1 : Int32)), .val (.int (2 : Int32)), .val (.ref a4), .val (.ref a5), .unset, .unset, .unset, .unset, .unset, .unset, .unset, .unset, .unset] [(.ref a1), (.long (905969664 : Int64)), (.long (13 : Int64))]))
  obtain ⟨T14, X14, e14, st14⟩ := getF X13 hx hZ hown (host := "") (Or.inl (hw _ (List.mem_of_getElem? (i := 14) rfl))) Via.refl e13 F_prime_a1_11 (g := (mkF m 46 #[.val (.ref a1), .val (.int (1 : Int32)), .val (.int (2 : Int32)), .val (.ref a4), .val (.ref a5), .unset, .unset, .unset, .unset, .unset, .unset, .unset, .unset, .unset] [(.ref a1), (.long (905969664 : Int64)), (.long (13 : Int64))])) rfl rfl (hb hby d1_46)
  refine Go.step st14 ?_
  show Go p e below _ (T14.setTop (mkF m 49 #[.val (.ref a1), .val (.int (1 : Int32)), .val (.int (2 : Int32)), .val (.ref a4), .val (.ref a5), .unset, .unset, .unset, .unset, .unset, .unset, .unset, .unset, .unset] [(.int (1811939329 : Int32)), (.long (905969664 : Int64)), (.long (13 : Int64))]))
  obtain ⟨_, _, ⟨T15, L15, k15, n15⟩, -, X15, ⟨Lc15, hQ15, l15, y15, z15⟩, st15⟩ := Jvm.LawKit.callS X14 hx (y := (⟨"com/example/tinwire/tinwire/json/Transform", "power", "(JJI)J"⟩ : MethodName)) hown (mvT hZ (hw _ (List.mem_of_getElem? (i := 24) rfl))) (mvT hZ (hw _ (List.mem_of_getElem? (i := 25) rfl))) (mvT hZ (hw _ (List.mem_of_getElem? (i := 2) rfl))) (mvT hZ (hw _ (List.mem_of_getElem? (i := 26) rfl))) (by decide) (backOf (W := 0) (rm3 l Z a0 hw [] (13 : Int64) (905969664 : Int64) (1811939329 : Int32) h11 n0 Z11 ((by decide) : ¬ (((1811939329 : Int32).toInt64) = (0 : Int64))) ((by decide) : ¬ (((1811939329 : Int32).toInt64) = (0 : Int64))) ((by decide) : ¬ (((1811939329 : Int32).toInt64) = (0 : Int64)))) hZ (hw _ (List.mem_of_getElem? (i := 26) rfl)) (hw _ (List.mem_of_getElem? (i := 2) rfl)) (by decide) (by decide)) (g := (mkF m 49 #[.val (.ref a1), .val (.int (1 : Int32)), .val (.int (2 : Int32)), .val (.ref a4), .val (.ref a5), .unset, .unset, .unset, .unset, .unset, .unset, .unset, .unset, .unset] [(.int (1811939329 : Int32)), (.long (905969664 : Int64)), (.long (13 : Int64))])) rfl (by rw [hml]; rfl) (argsL := [(.long (13 : Int64)), (.long (905969664 : Int64)), (.int (1811939329 : Int32))]) (rest := []) (lenOf pd_0 rfl) rfl (by show 2 * 0 + _ ≤ _; exact Nat.le_of_eq rfl) (hb hby d1_49) (fun _ _ => ⟨rfl, e14, (by decide : 0 + 0 ≤ _), (by decide : 0 + 0 ≤ _)⟩)
  dsimp only [Pt.U, Pt.locs, Pt.cells, Pt.slots] at X15 l15 y15 z15 st15 hQ15
  subst l15 y15 z15
  obtain ⟨⟨z15, rfl⟩, N15q, e15⟩ := hQ15
  have N15 := Fr.app N11 N15q
  refine Go.step st15 ?_
  show Go p e below _ (T15.setTop (mkF m 52 #[.val (.ref a1), .val (.int (1 : Int32)), .val (.int (2 : Int32)), .val (.ref a4), .val (.ref a5), .unset, .unset, .unset, .unset, .unset, .unset, .unset, .unset, .unset] [(.long z15)]))
  refine Go.step (fun t k => XS.lstore X15.here hx rfl (hb hby d1_52) rfl (l' := #[.val (.ref a1), .val (.int (1 : Int32)), .val (.int (2 : Int32)), .val (.ref a4), .val (.ref a5), .val (.long z15), .second, .unset, .unset, .unset, .unset, .unset, .unset, .unset]) rfl k) ?_
  show Go p e below _ (T15.setTop (mkF m 54 #[.val (.ref a1), .val (.int (1 : Int32)), .val (.int (2 : Int32)), .val (.ref a4), .val (.ref a5), .val (.long z15), .second, .unset, .unset, .unset, .unset, .unset, .unset, .unset] []))
  refine Go.step (fun t k => XS.aloadN X15.here hx rfl (hb hby d1_54) rfl rfl k) ?_
  show Go p e below _ (T15.setTop (mkF m 55 #[.val (.ref a1), .val (.int (1 : Int32)), .val (.int (2 : Int32)), .val (.ref a4), .val (.ref a5), .val (.long z15), .second, .unset, .unset, .unset, .unset, .unset, .unset, .unset] [(.ref a1)]))
  refine Go.step (fun t k => XS.lload X15.here hx rfl (hb hby d1_55) rfl k) ?_
  show Go p e below _ (T15.setTop (mkF m 57 #[.val (.ref a1), .val (.int (1 : Int32)), .val (.int (2 : Int32)), .val (.ref a4), .val (.ref a5), .val (.long z15), .second, .unset, .unset, .unset, .unset, .unset, .unset, .unset] [(.long z15), (.ref a1)]))
  refine Go.step (fun t k => XS.l2i X15.here hx rfl (hb hby d1_57) rfl k) ?_
  show Go p e below _ (T15.setTop (mkF m 58 #[.val (.ref a1), .val (.int (1 : Int32)), .val (.int (2 : Int32)), .val (.ref a4), .val (.ref a5), .val (.long z15), .second, .unset, .unset, .unset, .unset, .unset, .unset, .unset] [(.int (z15.toInt32)), (.ref a1)]))
  obtain ⟨T16, h16, X16, e16, W16, st16⟩ := putF X15 hx hZ hown (host := "") (Or.inl (hw _ (List.mem_of_getElem? (i := 27) rfl))) Via.refl e15 F_outerRoot_a1_11 E_a1_11 (Or.inr ⟨(hw _ (List.mem_of_getElem? (i := 28) rfl)), rfl, hnm⟩) (hw _ (List.mem_of_getElem? (i := 6) rfl)) (ty := .int) (by decide) rfl rfl (g := (mkF m 58 #[.val (.ref a1), .val (.int (1 : Int32)), .val (.int (2 : Int32)), .val (.ref a4), .val (.ref a5), .val (.long z15), .second, .unset, .unset, .unset, .unset, .unset, .unset, .unset] [(.int (z15.toInt32)), (.ref a1)])) rfl rfl (hb hby d1_58)
  refine Go.step st16 ?_
  have N16 := Fr.snoc X16 N15 g_a1
  have A_a4_16 := A_a4_11.other W16 hne_a4_a1
  have A_a5_16 := A_a5_11.other W16 hne_a5_a1
  have F_length_a1_16 := F_length_a1_11.other W16 (Or.inr (slot_ne (Or.inr (hw _ (List.mem_of_getElem? (i := 17) rfl))) (Or.inr (hw _ (List.mem_of_getElem? (i := 28) rfl))) (by decide) (t := .int) (t' := .int) (by decide) (by decide)))
  have F_roots_a1_16 := F_roots_a1_11.other W16 (Or.inr (slot_ne (Or.inr (hw _ (List.mem_of_getElem? (i := 19) rfl))) (Or.inr (hw _ (List.mem_of_getElem? (i := 28) rfl))) (by decide) (t := (.array .int)) (t' := .int) (by decide) (by decide)))
  have F_rootQuotients_a1_16 := F_rootQuotients_a1_11.other W16 (Or.inr (slot_ne (Or.inr (hw _ (List.mem_of_getElem? (i := 21) rfl))) (Or.inr (hw _ (List.mem_of_getElem? (i := 28) rfl))) (by decide) (t := (.array .int)) (t' := .int) (by decide) (by decide)))
  have F_outerRootQuotient_a1_16 := F_outerRootQuotient_a1_11.other W16 (Or.inr (slot_ne (Or.inr (hw _ (List.mem_of_getElem? (i := 33) rfl))) (Or.inr (hw _ (List.mem_of_getElem? (i := 28) rfl))) (by decide) (t := .int) (t' := .int) (by decide) (by decide)))
  have F_negativeInverse_a1_16 := F_negativeInverse_a1_11.other W16 (Or.inr (slot_ne (Or.inr (hw _ (List.mem_of_getElem? (i := 35) rfl))) (Or.inr (hw _ (List.mem_of_getElem? (i := 28) rfl))) (by decide) (t := .int) (t' := .int) (by decide) (by decide)))
  have F_scale_a1_16 := F_scale_a1_11.other W16 (Or.inr (slot_ne (Or.inr (hw _ (List.mem_of_getElem? (i := 39) rfl))) (Or.inr (hw _ (List.mem_of_getElem? (i := 28) rfl))) (by decide) (t := .int) (t' := .int) (by decide) (by decide)))
  have F_scaleQuotient_a1_16 := F_scaleQuotient_a1_11.other W16 (Or.inr (slot_ne (Or.inr (hw _ (List.mem_of_getElem? (i := 41) rfl))) (Or.inr (hw _ (List.mem_of_getElem? (i := 28) rfl))) (by decide) (t := .int) (t' := .int) (by decide) (by decide)))
  have E_a1_16 := E_a1_11.wr W16
  have F_prime_a1_16 := F_prime_a1_11.other W16 (Or.inr (slot_ne (Or.inr (hw _ (List.mem_of_getElem? (i := 15) rfl))) (Or.inr (hw _ (List.mem_of_getElem? (i := 28) rfl))) (by decide) (t := .int) (t' := .int) (by decide) (by decide)))
  have O16 := O11.wr W16 g_a1
  have Z16 := Nat.le_trans Z11 (Keep.of_wr W16).1
  have KK16 : Keep h0 h16 [a1, a4, a5] := KK11.wr W16 (Or.inl (by simp))
  have F_outerRoot_a1_16 := F_outerRoot_a1_11.same W16
  show Go p e below _ (T16.setTop (mkF m 61 #[.val (.ref a1), .val (.int (1 : Int32)), .val (.int (2 : Int32)), .val (.ref a4), .val (.ref a5), .val (.long z15), .second, .unset, .unset, .unset, .unset, .unset, .unset, .unset] []))
  refine Go.step (fun t k => XS.aloadN X16.here hx rfl (hb hby d1_61) rfl rfl k) ?_
  show Go p e below _ (T16.setTop (mkF m 62 #[.val (.ref a1), .val (.int (1 : Int32)), .val (.int (2 : Int32)), .val (.ref a4), .val (.ref a5), .val (.long z15), .second, .unset, .unset, .unset, .unset, .unset, .unset, .unset] [(.ref a1)]))
  refine Go.step (fun t k => XS.aloadN X16.here hx rfl (hb hby d1_62) rfl rfl k) ?_
  show Go p e below _ (T16.setTop (mkF m 63 #[.val (.ref a1), .val (.int (1 : Int32)), .val (.int (2 : Int32)), .val (.ref a4), .val (.ref a5), .val (.long z15), .second, .unset, .unset, .unset, .unset, .unset, .unset, .unset] [(.ref a1), (.ref a1)]))
  obtain ⟨T17, X17, e17, st17⟩ := getF X16 hx hZ hown (host := "") (Or.inl (hw _ (List.mem_of_getElem? (i := 27) rfl))) Via.refl e16 F_outerRoot_a1_16 (g := (mkF m 63 #[.val (.ref a1), .val (.int (1 : Int32)), .val (.int (2 : Int32)), .val (.ref a4), .val (.ref a5), .val (.long z15), .second, .unset, .unset, .unset, .unset, .unset, .unset, .unset] [(.ref a1), (.ref a1)])) rfl rfl (hb hby d1_63)
  refine Go.step st17 ?_
  show Go p e below _ (T17.setTop (mkF m 66 #[.val (.ref a1), .val (.int (1 : Int32)), .val (.int (2 : Int32)), .val (.ref a4), .val (.ref a5), .val (.long z15), .second, .unset, .unset, .unset, .unset, .unset, .unset, .unset] [(.int (z15.toInt32)), (.ref a1)]))
  refine Go.step (fun t k => XS.aloadN X17.here hx rfl (hb hby d1_66) rfl rfl k) ?_
  show Go p e below _ (T17.setTop (mkF m 67 #[.val (.ref a1), .val (.int (1 : Int32)), .val (.int (2 : Int32)), .val (.ref a4), .val (.ref a5), .val (.long z15), .second, .unset, .unset, .unset, .unset, .unset, .unset, .unset] [(.ref a1), (.int (z15.toInt32)), (.ref a1)]))
  obtain ⟨T18, X18, e18, st18⟩ := getF X17 hx hZ hown (host := "") (Or.inl (hw _ (List.mem_of_getElem? (i := 14) rfl))) Via.refl e17 F_prime_a1_16 (g := (mkF m 67 #[.val (.ref a1), .val (.int (1 : Int32)), .val (.int (2 : Int32)), .val (.ref a4), .val (.ref a5), .val (.long z15), .second, .unset, .unset, .unset, .unset, .unset, .unset, .unset] [(.ref a1), (.int (z15.toInt32)), (.ref a1)])) rfl rfl (hb hby d1_67)
  refine Go.step st18 ?_
  show Go p e below _ (T18.setTop (mkF m 70 #[.val (.ref a1), .val (.int (1 : Int32)), .val (.int (2 : Int32)), .val (.ref a4), .val (.ref a5), .val (.long z15), .second, .unset, .unset, .unset, .unset, .unset, .unset, .unset] [(.int (1811939329 : Int32)), (.int (z15.toInt32)), (.ref a1)]))
  obtain ⟨_, _, ⟨T19, L19, k19, n19⟩, -, X19, ⟨Lc19, hQ19, l19, y19, z19⟩, st19⟩ := Jvm.LawKit.callS X18 hx (y := (⟨"com/example/tinwire/tinwire/json/Transform", "quotient", "(II)I"⟩ : MethodName)) hown (mvT hZ (hw _ (List.mem_of_getElem? (i := 29) rfl))) (mvT hZ (hw _ (List.mem_of_getElem? (i := 30) rfl))) (mvT hZ (hw _ (List.mem_of_getElem? (i := 2) rfl))) (mvT hZ (hw _ (List.mem_of_getElem? (i := 31) rfl))) (by decide) (backOf (W := 1) (rm4 l Z a0 hw [] (z15.toInt32) (1811939329 : Int32) h16 n0 Z16 ((by decide) : ¬ (((1811939329 : Int32).toInt64) = (0 : Int64)))) hZ (hw _ (List.mem_of_getElem? (i := 31) rfl)) (hw _ (List.mem_of_getElem? (i := 2) rfl)) (by decide) (by decide)) (g := (mkF m 70 #[.val (.ref a1), .val (.int (1 : Int32)), .val (.int (2 : Int32)), .val (.ref a4), .val (.ref a5), .val (.long z15), .second, .unset, .unset, .unset, .unset, .unset, .unset, .unset] [(.int (1811939329 : Int32)), (.int (z15.toInt32)), (.ref a1)])) rfl (by rw [hml]; rfl) (argsL := [(.int (z15.toInt32)), (.int (1811939329 : Int32))]) (rest := [(.ref a1)]) (lenOf pd_1 rfl) rfl (by show 2 * 0 + _ ≤ _; exact Nat.le_of_eq rfl) (hb hby d1_70) (fun _ _ => ⟨rfl, e18, (by decide : 0 + 0 ≤ _), (by decide : 0 + 0 ≤ _)⟩)
  dsimp only [Pt.U, Pt.locs, Pt.cells, Pt.slots] at X19 l19 y19 z19 st19 hQ19
  subst l19 y19 z19
  obtain ⟨rfl, N19q, e19⟩ := hQ19
  have N19 := Fr.app N16 N19q
  refine Go.step st19 ?_
  show Go p e below _ (T19.setTop (mkF m 73 #[.val (.ref a1), .val (.int (1 : Int32)), .val (.int (2 : Int32)), .val (.ref a4), .val (.ref a5), .val (.long z15), .second, .unset, .unset, .unset, .unset, .unset, .unset, .unset] [(.int (f4 (z15.toInt32) (1811939329 : Int32))), (.ref a1)]))
  obtain ⟨T20, h20, X20, e20, W20, st20⟩ := putF X19 hx hZ hown (host := "") (Or.inl (hw _ (List.mem_of_getElem? (i := 32) rfl))) Via.refl e19 F_outerRootQuotient_a1_16 E_a1_16 (Or.inr ⟨(hw _ (List.mem_of_getElem? (i := 33) rfl)), rfl, hnm⟩) (hw _ (List.mem_of_getElem? (i := 6) rfl)) (ty := .int) (by decide) rfl rfl (g := (mkF m 73 #[.val (.ref a1), .val (.int (1 : Int32)), .val (.int (2 : Int32)), .val (.ref a4), .val (.ref a5), .val (.long z15), .second, .unset, .unset, .unset, .unset, .unset, .unset, .unset] [(.int (f4 (z15.toInt32) (1811939329 : Int32))), (.ref a1)])) rfl rfl (hb hby d1_73)
  refine Go.step st20 ?_
  have N20 := Fr.snoc X20 N19 g_a1
  have A_a4_20 := A_a4_16.other W20 hne_a4_a1
  have A_a5_20 := A_a5_16.other W20 hne_a5_a1
  have F_length_a1_20 := F_length_a1_16.other W20 (Or.inr (slot_ne (Or.inr (hw _ (List.mem_of_getElem? (i := 17) rfl))) (Or.inr (hw _ (List.mem_of_getElem? (i := 33) rfl))) (by decide) (t := .int) (t' := .int) (by decide) (by decide)))
  have F_roots_a1_20 := F_roots_a1_16.other W20 (Or.inr (slot_ne (Or.inr (hw _ (List.mem_of_getElem? (i := 19) rfl))) (Or.inr (hw _ (List.mem_of_getElem? (i := 33) rfl))) (by decide) (t := (.array .int)) (t' := .int) (by decide) (by decide)))
  have F_rootQuotients_a1_20 := F_rootQuotients_a1_16.other W20 (Or.inr (slot_ne (Or.inr (hw _ (List.mem_of_getElem? (i := 21) rfl))) (Or.inr (hw _ (List.mem_of_getElem? (i := 33) rfl))) (by decide) (t := (.array .int)) (t' := .int) (by decide) (by decide)))
  have F_outerRoot_a1_20 := F_outerRoot_a1_16.other W20 (Or.inr (slot_ne (Or.inr (hw _ (List.mem_of_getElem? (i := 28) rfl))) (Or.inr (hw _ (List.mem_of_getElem? (i := 33) rfl))) (by decide) (t := .int) (t' := .int) (by decide) (by decide)))
  have F_negativeInverse_a1_20 := F_negativeInverse_a1_16.other W20 (Or.inr (slot_ne (Or.inr (hw _ (List.mem_of_getElem? (i := 35) rfl))) (Or.inr (hw _ (List.mem_of_getElem? (i := 33) rfl))) (by decide) (t := .int) (t' := .int) (by decide) (by decide)))
  have F_scale_a1_20 := F_scale_a1_16.other W20 (Or.inr (slot_ne (Or.inr (hw _ (List.mem_of_getElem? (i := 39) rfl))) (Or.inr (hw _ (List.mem_of_getElem? (i := 33) rfl))) (by decide) (t := .int) (t' := .int) (by decide) (by decide)))
  have F_scaleQuotient_a1_20 := F_scaleQuotient_a1_16.other W20 (Or.inr (slot_ne (Or.inr (hw _ (List.mem_of_getElem? (i := 41) rfl))) (Or.inr (hw _ (List.mem_of_getElem? (i := 33) rfl))) (by decide) (t := .int) (t' := .int) (by decide) (by decide)))
  have E_a1_20 := E_a1_16.wr W20
  have F_prime_a1_20 := F_prime_a1_16.other W20 (Or.inr (slot_ne (Or.inr (hw _ (List.mem_of_getElem? (i := 15) rfl))) (Or.inr (hw _ (List.mem_of_getElem? (i := 33) rfl))) (by decide) (t := .int) (t' := .int) (by decide) (by decide)))
  have O20 := O16.wr W20 g_a1
  have Z20 := Nat.le_trans Z16 (Keep.of_wr W20).1
  have KK20 : Keep h0 h20 [a1, a4, a5] := KK16.wr W20 (Or.inl (by simp))
  have F_outerRootQuotient_a1_20 := F_outerRootQuotient_a1_16.same W20
  show Go p e below _ (T20.setTop (mkF m 76 #[.val (.ref a1), .val (.int (1 : Int32)), .val (.int (2 : Int32)), .val (.ref a4), .val (.ref a5), .val (.long z15), .second, .unset, .unset, .unset, .unset, .unset, .unset, .unset] []))
  refine Go.step (fun t k => XS.iloadN X20.here hx rfl (hb hby d1_76) rfl k) ?_
  show Go p e below _ (T20.setTop (mkF m 77 #[.val (.ref a1), .val (.int (1 : Int32)), .val (.int (2 : Int32)), .val (.ref a4), .val (.ref a5), .val (.long z15), .second, .unset, .unset, .unset, .unset, .unset, .unset, .unset] [(.int (2 : Int32))]))
  refine Go.step (fun t k => XS.iconst X20.here hx rfl (hb hby d1_77)  k) ?_
  show Go p e below _ (T20.setTop (mkF m 78 #[.val (.ref a1), .val (.int (1 : Int32)), .val (.int (2 : Int32)), .val (.ref a4), .val (.ref a5), .val (.long z15), .second, .unset, .unset, .unset, .unset, .unset, .unset, .unset] [(.int (4 : Int32)), (.int (2 : Int32))]))
  refine Go.step (fun t k => XS.idiv X20.here hx rfl (hb hby d1_78) rfl (by decide) k) ?_
  show Go p e below _ (T20.setTop (mkF m 79 #[.val (.ref a1), .val (.int (1 : Int32)), .val (.int (2 : Int32)), .val (.ref a4), .val (.ref a5), .val (.long z15), .second, .unset, .unset, .unset, .unset, .unset, .unset, .unset] [(.int (0 : Int32))]))
  refine Go.step (fun t k => XS.istore X20.here hx rfl (hb hby d1_79) rfl (l' := #[.val (.ref a1), .val (.int (1 : Int32)), .val (.int (2 : Int32)), .val (.ref a4), .val (.ref a5), .val (.long z15), .second, .val (.int (0 : Int32)), .unset, .unset, .unset, .unset, .unset, .unset]) rfl k) ?_
  show Go p e below _ (T20.setTop (mkF m 81 #[.val (.ref a1), .val (.int (1 : Int32)), .val (.int (2 : Int32)), .val (.ref a4), .val (.ref a5), .val (.long z15), .second, .val (.int (0 : Int32)), .unset, .unset, .unset, .unset, .unset, .unset] []))
  refine Go.step (fun t k => XS.lload X20.here hx rfl (hb hby d1_81) rfl k) ?_
  show Go p e below _ (T20.setTop (mkF m 83 #[.val (.ref a1), .val (.int (1 : Int32)), .val (.int (2 : Int32)), .val (.ref a4), .val (.ref a5), .val (.long z15), .second, .val (.int (0 : Int32)), .unset, .unset, .unset, .unset, .unset, .unset] [(.long z15)]))
  refine Go.step (fun t k => XS.lload X20.here hx rfl (hb hby d1_83) rfl k) ?_
  show Go p e below _ (T20.setTop (mkF m 85 #[.val (.ref a1), .val (.int (1 : Int32)), .val (.int (2 : Int32)), .val (.ref a4), .val (.ref a5), .val (.long z15), .second, .val (.int (0 : Int32)), .unset, .unset, .unset, .unset, .unset, .unset] [(.long z15), (.long z15)]))
  refine Go.step (fun t k => XS.lmul X20.here hx rfl (hb hby d1_85) rfl k) ?_
  show Go p e below _ (T20.setTop (mkF m 86 #[.val (.ref a1), .val (.int (1 : Int32)), .val (.int (2 : Int32)), .val (.ref a4), .val (.ref a5), .val (.long z15), .second, .val (.int (0 : Int32)), .unset, .unset, .unset, .unset, .unset, .unset] [(.long (z15 * z15))]))
  refine Go.step (fun t k => XS.aloadN X20.here hx rfl (hb hby d1_86) rfl rfl k) ?_
  show Go p e below _ (T20.setTop (mkF m 87 #[.val (.ref a1), .val (.int (1 : Int32)), .val (.int (2 : Int32)), .val (.ref a4), .val (.ref a5), .val (.long z15), .second, .val (.int (0 : Int32)), .unset, .unset, .unset, .unset, .unset, .unset] [(.ref a1), (.long (z15 * z15))]))
  obtain ⟨T21, X21, e21, st21⟩ := getF X20 hx hZ hown (host := "") (Or.inl (hw _ (List.mem_of_getElem? (i := 14) rfl))) Via.refl e20 F_prime_a1_20 (g := (mkF m 87 #[.val (.ref a1), .val (.int (1 : Int32)), .val (.int (2 : Int32)), .val (.ref a4), .val (.ref a5), .val (.long z15), .second, .val (.int (0 : Int32)), .unset, .unset, .unset, .unset, .unset, .unset] [(.ref a1), (.long (z15 * z15))])) rfl rfl (hb hby d1_87)
  refine Go.step st21 ?_
  show Go p e below _ (T21.setTop (mkF m 90 #[.val (.ref a1), .val (.int (1 : Int32)), .val (.int (2 : Int32)), .val (.ref a4), .val (.ref a5), .val (.long z15), .second, .val (.int (0 : Int32)), .unset, .unset, .unset, .unset, .unset, .unset] [(.int (1811939329 : Int32)), (.long (z15 * z15))]))
  refine Go.step (fun t k => XS.i2l X21.here hx rfl (hb hby d1_90) rfl k) ?_
  show Go p e below _ (T21.setTop (mkF m 91 #[.val (.ref a1), .val (.int (1 : Int32)), .val (.int (2 : Int32)), .val (.ref a4), .val (.ref a5), .val (.long z15), .second, .val (.int (0 : Int32)), .unset, .unset, .unset, .unset, .unset, .unset] [(.long (1811939329 : Int64)), (.long (z15 * z15))]))
  refine Go.step (fun t (k : Steps p.tables e below (T21.setTop (mkF m 92 #[.val (.ref a1), .val (.int (1 : Int32)), .val (.int (2 : Int32)), .val (.ref a4), .val (.ref a5), .val (.long z15), .second, .val (.int (0 : Int32)), .unset, .unset, .unset, .unset, .unset, .unset] [(.long ((z15 * z15) % (1811939329 : Int64)))])) t) => XS.lrem X21.here hx rfl (hb hby d1_91) rfl (by decide) (by rw [lrem_mod]; exact k)) ?_
  show Go p e below _ (T21.setTop (mkF m 92 #[.val (.ref a1), .val (.int (1 : Int32)), .val (.int (2 : Int32)), .val (.ref a4), .val (.ref a5), .val (.long z15), .second, .val (.int (0 : Int32)), .unset, .unset, .unset, .unset, .unset, .unset] [(.long ((z15 * z15) % (1811939329 : Int64)))]))
  obtain ⟨v22, hv22⟩ : ∃ z : Int64, z = ((z15 * z15) % (1811939329 : Int64)) := ⟨_, rfl⟩
  rw [← hv22]
  show Go p e below _ (T21.setTop (mkF m 92 #[.val (.ref a1), .val (.int (1 : Int32)), .val (.int (2 : Int32)), .val (.ref a4), .val (.ref a5), .val (.long z15), .second, .val (.int (0 : Int32)), .unset, .unset, .unset, .unset, .unset, .unset] [(.long v22)]))
  refine Go.step (fun t k => XS.lstore X21.here hx rfl (hb hby d1_92) rfl (l' := #[.val (.ref a1), .val (.int (1 : Int32)), .val (.int (2 : Int32)), .val (.ref a4), .val (.ref a5), .val (.long z15), .second, .val (.int (0 : Int32)), .val (.long v22), .second, .unset, .unset, .unset, .unset]) rfl k) ?_
  show Go p e below _ (T21.setTop (mkF m 94 #[.val (.ref a1), .val (.int (1 : Int32)), .val (.int (2 : Int32)), .val (.ref a4), .val (.ref a5), .val (.long z15), .second, .val (.int (0 : Int32)), .val (.long v22), .second, .unset, .unset, .unset, .unset] []))
  refine Go.step (fun t k => XS.lconst X21.here hx rfl (hb hby d1_94)  k) ?_
  show Go p e below _ (T21.setTop (mkF m 95 #[.val (.ref a1), .val (.int (1 : Int32)), .val (.int (2 : Int32)), .val (.ref a4), .val (.ref a5), .val (.long z15), .second, .val (.int (0 : Int32)), .val (.long v22), .second, .unset, .unset, .unset, .unset] [(.long (1 : Int64))]))
  refine Go.step (fun t k => XS.lstore X21.here hx rfl (hb hby d1_95) rfl (l' := #[.val (.ref a1), .val (.int (1 : Int32)), .val (.int (2 : Int32)), .val (.ref a4), .val (.ref a5), .val (.long z15), .second, .val (.int (0 : Int32)), .val (.long v22), .second, .val (.long (1 : Int64)), .second, .unset, .unset]) rfl k) ?_
  show Go p e below _ (T21.setTop (mkF m 97 #[.val (.ref a1), .val (.int (1 : Int32)), .val (.int (2 : Int32)), .val (.ref a4), .val (.ref a5), .val (.long z15), .second, .val (.int (0 : Int32)), .val (.long v22), .second, .val (.long (1 : Int64)), .second, .unset, .unset] []))
  refine Go.step (fun t k => XS.aloadN X21.here hx rfl (hb hby d1_97) rfl rfl k) ?_
  show Go p e below _ (T21.setTop (mkF m 98 #[.val (.ref a1), .val (.int (1 : Int32)), .val (.int (2 : Int32)), .val (.ref a4), .val (.ref a5), .val (.long z15), .second, .val (.int (0 : Int32)), .val (.long v22), .second, .val (.long (1 : Int64)), .second, .unset, .unset] [(.ref a4)]))
  refine Go.step (fun t k => XS.iconst X21.here hx rfl (hb hby d1_98)  k) ?_
  show Go p e below _ (T21.setTop (mkF m 99 #[.val (.ref a1), .val (.int (1 : Int32)), .val (.int (2 : Int32)), .val (.ref a4), .val (.ref a5), .val (.long z15), .second, .val (.int (0 : Int32)), .val (.long v22), .second, .val (.long (1 : Int64)), .second, .unset, .unset] [(.int (0 : Int32)), (.ref a4)]))
  refine Go.step (fun t k => XS.iconst X21.here hx rfl (hb hby d1_99)  k) ?_
  show Go p e below _ (T21.setTop (mkF m 100 #[.val (.ref a1), .val (.int (1 : Int32)), .val (.int (2 : Int32)), .val (.ref a4), .val (.ref a5), .val (.long z15), .second, .val (.int (0 : Int32)), .val (.long v22), .second, .val (.long (1 : Int64)), .second, .unset, .unset] [(.int (1 : Int32)), (.int (0 : Int32)), (.ref a4)]))
  obtain ⟨cl23, Ar23, in23, -⟩ := A_a4_20.hin (j := (0 : Int32)) (by decide) (by decide)
  obtain ⟨T23, h23, X23, e23, W23, st23⟩ := stI X21 hx hZ e21 Ar23 in23 (g := (mkF m 100 #[.val (.ref a1), .val (.int (1 : Int32)), .val (.int (2 : Int32)), .val (.ref a4), .val (.ref a5), .val (.long z15), .second, .val (.int (0 : Int32)), .val (.long v22), .second, .val (.long (1 : Int64)), .second, .unset, .unset] [(.int (1 : Int32)), (.int (0 : Int32)), (.ref a4)])) rfl rfl (hb hby d1_100)
  refine Go.step st23 ?_
  have N23 := Fr.snoc X23 N20 g_a4
  have A_a5_23 := A_a5_20.other W23 hne_a5_a4
  have F_length_a1_23 := F_length_a1_20.other W23 (Or.inl hne_a1_a4)
  have F_roots_a1_23 := F_roots_a1_20.other W23 (Or.inl hne_a1_a4)
  have F_rootQuotients_a1_23 := F_rootQuotients_a1_20.other W23 (Or.inl hne_a1_a4)
  have F_outerRoot_a1_23 := F_outerRoot_a1_20.other W23 (Or.inl hne_a1_a4)
  have F_outerRootQuotient_a1_23 := F_outerRootQuotient_a1_20.other W23 (Or.inl hne_a1_a4)
  have F_negativeInverse_a1_23 := F_negativeInverse_a1_20.other W23 (Or.inl hne_a1_a4)
  have F_scale_a1_23 := F_scale_a1_20.other W23 (Or.inl hne_a1_a4)
  have F_scaleQuotient_a1_23 := F_scaleQuotient_a1_20.other W23 (Or.inl hne_a1_a4)
  have E_a1_23 := E_a1_20.wr W23
  have F_prime_a1_23 := F_prime_a1_20.other W23 (Or.inl hne_a1_a4)
  have O23 := O20.wr W23 g_a4
  have Z23 := Nat.le_trans Z20 (Keep.of_wr W23).1
  have KK23 : Keep h0 h23 [a1, a4, a5] := KK20.wr W23 (Or.inl (by simp))
  have A_a4_23 : Ary Z h23 a4 .int 1 (fun i => .int ((upA g_a4f 0 (1 : Int32)) i)) := A_a4_20.setI W23 (by decide)
  show Go p e below _ (T23.setTop (mkF m 101 #[.val (.ref a1), .val (.int (1 : Int32)), .val (.int (2 : Int32)), .val (.ref a4), .val (.ref a5), .val (.long z15), .second, .val (.int (0 : Int32)), .val (.long v22), .second, .val (.long (1 : Int64)), .second, .unset, .unset] []))
  refine Go.step (fun t k => XS.aload X23.here hx rfl (hb hby d1_101) rfl rfl k) ?_
  show Go p e below _ (T23.setTop (mkF m 103 #[.val (.ref a1), .val (.int (1 : Int32)), .val (.int (2 : Int32)), .val (.ref a4), .val (.ref a5), .val (.long z15), .second, .val (.int (0 : Int32)), .val (.long v22), .second, .val (.long (1 : Int64)), .second, .unset, .unset] [(.ref a5)]))
  refine Go.step (fun t k => XS.iconst X23.here hx rfl (hb hby d1_103)  k) ?_
  show Go p e below _ (T23.setTop (mkF m 104 #[.val (.ref a1), .val (.int (1 : Int32)), .val (.int (2 : Int32)), .val (.ref a4), .val (.ref a5), .val (.long z15), .second, .val (.int (0 : Int32)), .val (.long v22), .second, .val (.long (1 : Int64)), .second, .unset, .unset] [(.int (0 : Int32)), (.ref a5)]))
  refine Go.step (fun t k => XS.iconst X23.here hx rfl (hb hby d1_104)  k) ?_
  show Go p e below _ (T23.setTop (mkF m 105 #[.val (.ref a1), .val (.int (1 : Int32)), .val (.int (2 : Int32)), .val (.ref a4), .val (.ref a5), .val (.long z15), .second, .val (.int (0 : Int32)), .val (.long v22), .second, .val (.long (1 : Int64)), .second, .unset, .unset] [(.int (1 : Int32)), (.int (0 : Int32)), (.ref a5)]))
  refine Go.step (fun t k => XS.aloadN X23.here hx rfl (hb hby d1_105) rfl rfl k) ?_
  show Go p e below _ (T23.setTop (mkF m 106 #[.val (.ref a1), .val (.int (1 : Int32)), .val (.int (2 : Int32)), .val (.ref a4), .val (.ref a5), .val (.long z15), .second, .val (.int (0 : Int32)), .val (.long v22), .second, .val (.long (1 : Int64)), .second, .unset, .unset] [(.ref a1), (.int (1 : Int32)), (.int (0 : Int32)), (.ref a5)]))
  obtain ⟨T24, X24, e24, st24⟩ := getF X23 hx hZ hown (host := "") (Or.inl (hw _ (List.mem_of_getElem? (i := 14) rfl))) Via.refl e23 F_prime_a1_23 (g := (mkF m 106 #[.val (.ref a1), .val (.int (1 : Int32)), .val (.int (2 : Int32)), .val (.ref a4), .val (.ref a5), .val (.long z15), .second, .val (.int (0 : Int32)), .val (.long v22), .second, .val (.long (1 : Int64)), .second, .unset, .unset] [(.ref a1), (.int (1 : Int32)), (.int (0 : Int32)), (.ref a5)])) rfl rfl (hb hby d1_106)
  refine Go.step st24 ?_
  show Go p e below _ (T24.setTop (mkF m 109 #[.val (.ref a1), .val (.int (1 : Int32)), .val (.int (2 : Int32)), .val (.ref a4), .val (.ref a5), .val (.long z15), .second, .val (.int (0 : Int32)), .val (.long v22), .second, .val (.long (1 : Int64)), .second, .unset, .unset] [(.int (1811939329 : Int32)), (.int (1 : Int32)), (.int (0 : Int32)), (.ref a5)]))
  obtain ⟨_, _, ⟨T25, L25, k25, n25⟩, -, X25, ⟨Lc25, hQ25, l25, y25, z25⟩, st25⟩ := Jvm.LawKit.callS X24 hx (y := (⟨"com/example/tinwire/tinwire/json/Transform", "quotient", "(II)I"⟩ : MethodName)) hown (mvT hZ (hw _ (List.mem_of_getElem? (i := 29) rfl))) (mvT hZ (hw _ (List.mem_of_getElem? (i := 30) rfl))) (mvT hZ (hw _ (List.mem_of_getElem? (i := 2) rfl))) (mvT hZ (hw _ (List.mem_of_getElem? (i := 31) rfl))) (by decide) (backOf (W := 2) (rm4 l Z a0 hw [] (1 : Int32) (1811939329 : Int32) h23 n0 Z23 ((by decide) : ¬ (((1811939329 : Int32).toInt64) = (0 : Int64)))) hZ (hw _ (List.mem_of_getElem? (i := 31) rfl)) (hw _ (List.mem_of_getElem? (i := 2) rfl)) (by decide) (by decide)) (g := (mkF m 109 #[.val (.ref a1), .val (.int (1 : Int32)), .val (.int (2 : Int32)), .val (.ref a4), .val (.ref a5), .val (.long z15), .second, .val (.int (0 : Int32)), .val (.long v22), .second, .val (.long (1 : Int64)), .second, .unset, .unset] [(.int (1811939329 : Int32)), (.int (1 : Int32)), (.int (0 : Int32)), (.ref a5)])) rfl (by rw [hml]; rfl) (argsL := [(.int (1 : Int32)), (.int (1811939329 : Int32))]) (rest := [(.int (0 : Int32)), (.ref a5)]) (lenOf pd_1 rfl) rfl (by show 2 * 0 + _ ≤ _; exact Nat.le_of_eq rfl) (hb hby d1_109) (fun _ _ => ⟨rfl, e24, (by decide : 0 + 0 ≤ _), (by decide : 0 + 0 ≤ _)⟩)
  dsimp only [Pt.U, Pt.locs, Pt.cells, Pt.slots] at X25 l25 y25 z25 st25 hQ25
  subst l25 y25 z25
  obtain ⟨rfl, N25q, e25⟩ := hQ25
  have N25 := Fr.app N23 N25q
  refine Go.step st25 ?_
  show Go p e below _ (T25.setTop (mkF m 112 #[.val (.ref a1), .val (.int (1 : Int32)), .val (.int (2 : Int32)), .val (.ref a4), .val (.ref a5), .val (.long z15), .second, .val (.int (0 : Int32)), .val (.long v22), .second, .val (.long (1 : Int64)), .second, .unset, .unset] [(.int (f4 (1 : Int32) (1811939329 : Int32))), (.int (0 : Int32)), (.ref a5)]))
  obtain ⟨cl26, Ar26, in26, -⟩ := A_a5_23.hin (j := (0 : Int32)) (by decide) (by decide)
  obtain ⟨T26, h26, X26, e26, W26, st26⟩ := stI X25 hx hZ e25 Ar26 in26 (g := (mkF m 112 #[.val (.ref a1), .val (.int (1 : Int32)), .val (.int (2 : Int32)), .val (.ref a4), .val (.ref a5), .val (.long z15), .second, .val (.int (0 : Int32)), .val (.long v22), .second, .val (.long (1 : Int64)), .second, .unset, .unset] [(.int (f4 (1 : Int32) (1811939329 : Int32))), (.int (0 : Int32)), (.ref a5)])) rfl rfl (hb hby d1_112)
  refine Go.step st26 ?_
  have N26 := Fr.snoc X26 N25 g_a5
  have F_length_a1_26 := F_length_a1_23.other W26 (Or.inl hne_a1_a5)
  have F_roots_a1_26 := F_roots_a1_23.other W26 (Or.inl hne_a1_a5)
  have F_rootQuotients_a1_26 := F_rootQuotients_a1_23.other W26 (Or.inl hne_a1_a5)
  have F_outerRoot_a1_26 := F_outerRoot_a1_23.other W26 (Or.inl hne_a1_a5)
  have F_outerRootQuotient_a1_26 := F_outerRootQuotient_a1_23.other W26 (Or.inl hne_a1_a5)
  have F_negativeInverse_a1_26 := F_negativeInverse_a1_23.other W26 (Or.inl hne_a1_a5)
  have F_scale_a1_26 := F_scale_a1_23.other W26 (Or.inl hne_a1_a5)
  have F_scaleQuotient_a1_26 := F_scaleQuotient_a1_23.other W26 (Or.inl hne_a1_a5)
  have E_a1_26 := E_a1_23.wr W26
  have F_prime_a1_26 := F_prime_a1_23.other W26 (Or.inl hne_a1_a5)
  have A_a4_26 := A_a4_23.other W26 hne_a4_a5
  have O26 := O23.wr W26 g_a5
  have Z26 := Nat.le_trans Z23 (Keep.of_wr W26).1
  have KK26 : Keep h0 h26 [a1, a4, a5] := KK23.wr W26 (Or.inl (by simp))
  have A_a5_26 : Ary Z h26 a5 .int 1 (fun i => .int ((upA g_a5f 0 (f4 (1 : Int32) (1811939329 : Int32))) i)) := A_a5_23.setI W26 (by decide)
  show Go p e below _ (T26.setTop (mkF m 113 #[.val (.ref a1), .val (.int (1 : Int32)), .val (.int (2 : Int32)), .val (.ref a4), .val (.ref a5), .val (.long z15), .second, .val (.int (0 : Int32)), .val (.long v22), .second, .val (.long (1 : Int64)), .second, .unset, .unset] []))
  refine Go.step (fun t k => XS.iconst X26.here hx rfl (hb hby d1_113)  k) ?_
  show Go p e below _ (T26.setTop (mkF m 114 #[.val (.ref a1), .val (.int (1 : Int32)), .val (.int (2 : Int32)), .val (.ref a4), .val (.ref a5), .val (.long z15), .second, .val (.int (0 : Int32)), .val (.long v22), .second, .val (.long (1 : Int64)), .second, .unset, .unset] [(.int (0 : Int32))]))
  refine Go.step (fun t k => XS.istore X26.here hx rfl (hb hby d1_114) rfl (l' := #[.val (.ref a1), .val (.int (1 : Int32)), .val (.int (2 : Int32)), .val (.ref a4), .val (.ref a5), .val (.long z15), .second, .val (.int (0 : Int32)), .val (.long v22), .second, .val (.long (1 : Int64)), .second, .val (.int (0 : Int32)), .unset]) rfl k) ?_
  show Go p e below _ (T26.setTop (mkF m 116 #[.val (.ref a1), .val (.int (1 : Int32)), .val (.int (2 : Int32)), .val (.ref a4), .val (.ref a5), .val (.long z15), .second, .val (.int (0 : Int32)), .val (.long v22), .second, .val (.long (1 : Int64)), .second, .val (.int (0 : Int32)), .unset] []))
  refine Go.step (fun t k => XS.iload X26.here hx rfl (hb hby d1_116) rfl k) ?_
  show Go p e below _ (T26.setTop (mkF m 118 #[.val (.ref a1), .val (.int (1 : Int32)), .val (.int (2 : Int32)), .val (.ref a4), .val (.ref a5), .val (.long z15), .second, .val (.int (0 : Int32)), .val (.long v22), .second, .val (.long (1 : Int64)), .second, .val (.int (0 : Int32)), .unset] [(.int (0 : Int32))]))
  refine Go.step (fun t k => XS.iload X26.here hx rfl (hb hby d1_118) rfl k) ?_
  show Go p e below _ (T26.setTop (mkF m 120 #[.val (.ref a1), .val (.int (1 : Int32)), .val (.int (2 : Int32)), .val (.ref a4), .val (.ref a5), .val (.long z15), .second, .val (.int (0 : Int32)), .val (.long v22), .second, .val (.long (1 : Int64)), .second, .val (.int (0 : Int32)), .unset] [(.int (0 : Int32)), (.int (0 : Int32))]))
  refine Go.step (fun t k => XS.icmpYes X26.here hx rfl (pc0 := 120) (pc' := 170) rfl (hb hby d1_120) rfl (flt (by decide : ¬ ((0 : Int32) < (0 : Int32)))).2.1 (by decide) (by decide) k) ?_
  show Go p e below _ (T26.setTop (mkF m 170 #[.val (.ref a1), .val (.int (1 : Int32)), .val (.int (2 : Int32)), .val (.ref a4), .val (.ref a5), .val (.long z15), .second, .val (.int (0 : Int32)), .val (.long v22), .second, .val (.long (1 : Int64)), .second, .val (.int (0 : Int32)), .unset] []))
  refine Go.step (fun t k => XS.iload X26.here hx rfl (hb hby d1_170) rfl k) ?_
  show Go p e below _ (T26.setTop (mkF m 172 #[.val (.ref a1), .val (.int (1 : Int32)), .val (.int (2 : Int32)), .val (.ref a4), .val (.ref a5), .val (.long z15), .second, .val (.int (0 : Int32)), .val (.long v22), .second, .val (.long (1 : Int64)), .second, .val (.int (0 : Int32)), .unset] [(.int (0 : Int32))]))
  refine Go.step (fun t k => XS.iconst X26.here hx rfl (hb hby d1_172)  k) ?_
  show Go p e below _ (T26.setTop (mkF m 173 #[.val (.ref a1), .val (.int (1 : Int32)), .val (.int (2 : Int32)), .val (.ref a4), .val (.ref a5), .val (.long z15), .second, .val (.int (0 : Int32)), .val (.long v22), .second, .val (.long (1 : Int64)), .second, .val (.int (0 : Int32)), .unset] [(.int (2 : Int32)), (.int (0 : Int32))]))
  refine Go.step (fun t k => XS.idiv X26.here hx rfl (hb hby d1_173) rfl (by decide) k) ?_
  show Go p e below _ (T26.setTop (mkF m 174 #[.val (.ref a1), .val (.int (1 : Int32)), .val (.int (2 : Int32)), .val (.ref a4), .val (.ref a5), .val (.long z15), .second, .val (.int (0 : Int32)), .val (.long v22), .second, .val (.long (1 : Int64)), .second, .val (.int (0 : Int32)), .unset] [(.int (0 : Int32))]))
  refine Go.step (fun t k => XS.istore X26.here hx rfl (hb hby d1_174) rfl (l' := #[.val (.ref a1), .val (.int (1 : Int32)), .val (.int (2 : Int32)), .val (.ref a4), .val (.ref a5), .val (.long z15), .second, .val (.int (0 : Int32)), .val (.long v22), .second, .val (.long (1 : Int64)), .second, .val (.int (0 : Int32)), .unset]) rfl k) ?_
  show Go p e below _ (T26.setTop (mkF m 176 #[.val (.ref a1), .val (.int (1 : Int32)), .val (.int (2 : Int32)), .val (.ref a4), .val (.ref a5), .val (.long z15), .second, .val (.int (0 : Int32)), .val (.long v22), .second, .val (.long (1 : Int64)), .second, .val (.int (0 : Int32)), .unset] []))
  refine Go.step (fun t k => XS.iload X26.here hx rfl (hb hby d1_176) rfl k) ?_
  show Go p e below _ (T26.setTop (mkF m 178 #[.val (.ref a1), .val (.int (1 : Int32)), .val (.int (2 : Int32)), .val (.ref a4), .val (.ref a5), .val (.long z15), .second, .val (.int (0 : Int32)), .val (.long v22), .second, .val (.long (1 : Int64)), .second, .val (.int (0 : Int32)), .unset] [(.int (0 : Int32))]))
  refine Go.step (fun t k => XS.ifYes X26.here hx rfl (pc0 := 178) (pc' := 244) rfl (hb hby d1_178) rfl ((if0 _ _).trans (flt (by decide : ¬ ((0 : Int32) < (0 : Int32)))).2.2.2) (by decide) (by decide) k) ?_
  show Go p e below _ (T26.setTop (mkF m 244 #[.val (.ref a1), .val (.int (1 : Int32)), .val (.int (2 : Int32)), .val (.ref a4), .val (.ref a5), .val (.long z15), .second, .val (.int (0 : Int32)), .val (.long v22), .second, .val (.long (1 : Int64)), .second, .val (.int (0 : Int32)), .unset] []))
  refine Go.step (fun t k => XS.aloadN X26.here hx rfl (hb hby d1_244) rfl rfl k) ?_
  show Go p e below _ (T26.setTop (mkF m 245 #[.val (.ref a1), .val (.int (1 : Int32)), .val (.int (2 : Int32)), .val (.ref a4), .val (.ref a5), .val (.long z15), .second, .val (.int (0 : Int32)), .val (.long v22), .second, .val (.long (1 : Int64)), .second, .val (.int (0 : Int32)), .unset] [(.ref a1)]))
  obtain ⟨T27, X27, e27, st27⟩ := getF X26 hx hZ hown (host := "") (Or.inl (hw _ (List.mem_of_getElem? (i := 14) rfl))) Via.refl e26 F_prime_a1_26 (g := (mkF m 245 #[.val (.ref a1), .val (.int (1 : Int32)), .val (.int (2 : Int32)), .val (.ref a4), .val (.ref a5), .val (.long z15), .second, .val (.int (0 : Int32)), .val (.long v22), .second, .val (.long (1 : Int64)), .second, .val (.int (0 : Int32)), .unset] [(.ref a1)])) rfl rfl (hb hby d1_245)
  refine Go.step st27 ?_
  show Go p e below _ (T27.setTop (mkF m 248 #[.val (.ref a1), .val (.int (1 : Int32)), .val (.int (2 : Int32)), .val (.ref a4), .val (.ref a5), .val (.long z15), .second, .val (.int (0 : Int32)), .val (.long v22), .second, .val (.long (1 : Int64)), .second, .val (.int (0 : Int32)), .unset] [(.int (1811939329 : Int32))]))
  refine Go.step (fun t k => XS.istore X27.here hx rfl (hb hby d1_248) rfl (l' := #[.val (.ref a1), .val (.int (1 : Int32)), .val (.int (2 : Int32)), .val (.ref a4), .val (.ref a5), .val (.long z15), .second, .val (.int (0 : Int32)), .val (.long v22), .second, .val (.long (1 : Int64)), .second, .val (.int (1811939329 : Int32)), .unset]) rfl k) ?_
  show Go p e below _ (T27.setTop (mkF m 250 #[.val (.ref a1), .val (.int (1 : Int32)), .val (.int (2 : Int32)), .val (.ref a4), .val (.ref a5), .val (.long z15), .second, .val (.int (0 : Int32)), .val (.long v22), .second, .val (.long (1 : Int64)), .second, .val (.int (1811939329 : Int32)), .unset] []))
  refine Go.step (fun t k => XS.iconst X27.here hx rfl (hb hby d1_250)  k) ?_
  show Go p e below _ (T27.setTop (mkF m 251 #[.val (.ref a1), .val (.int (1 : Int32)), .val (.int (2 : Int32)), .val (.ref a4), .val (.ref a5), .val (.long z15), .second, .val (.int (0 : Int32)), .val (.long v22), .second, .val (.long (1 : Int64)), .second, .val (.int (1811939329 : Int32)), .unset] [(.int (0 : Int32))]))
  refine Go.step (fun t k => XS.istore X27.here hx rfl (hb hby d1_251) rfl (l' := #[.val (.ref a1), .val (.int (1 : Int32)), .val (.int (2 : Int32)), .val (.ref a4), .val (.ref a5), .val (.long z15), .second, .val (.int (0 : Int32)), .val (.long v22), .second, .val (.long (1 : Int64)), .second, .val (.int (1811939329 : Int32)), .val (.int (0 : Int32))]) rfl k) ?_
  show Go p e below _ (T27.setTop (mkF m 253 #[.val (.ref a1), .val (.int (1 : Int32)), .val (.int (2 : Int32)), .val (.ref a4), .val (.ref a5), .val (.long z15), .second, .val (.int (0 : Int32)), .val (.long v22), .second, .val (.long (1 : Int64)), .second, .val (.int (1811939329 : Int32)), .val (.int (0 : Int32))] []))
  refine Go.step (fun t k => XS.iload X27.here hx rfl (hb hby d1_253) rfl k) ?_
  show Go p e below _ (T27.setTop (mkF m 255 #[.val (.ref a1), .val (.int (1 : Int32)), .val (.int (2 : Int32)), .val (.ref a4), .val (.ref a5), .val (.long z15), .second, .val (.int (0 : Int32)), .val (.long v22), .second, .val (.long (1 : Int64)), .second, .val (.int (1811939329 : Int32)), .val (.int (0 : Int32))] [(.int (0 : Int32))]))
  refine Go.step (fun t k => XS.iconst X27.here hx rfl (hb hby d1_255)  k) ?_
  show Go p e below _ (T27.setTop (mkF m 256 #[.val (.ref a1), .val (.int (1 : Int32)), .val (.int (2 : Int32)), .val (.ref a4), .val (.ref a5), .val (.long z15), .second, .val (.int (0 : Int32)), .val (.long v22), .second, .val (.long (1 : Int64)), .second, .val (.int (1811939329 : Int32)), .val (.int (0 : Int32))] [(.int (4 : Int32)), (.int (0 : Int32))]))
  refine Go.step (fun t k => XS.icmpNo X27.here hx rfl (hb hby d1_256) rfl (tlt (by decide : (0 : Int32) < (4 : Int32))).2.1 k) ?_
  show Go p e below _ (T27.setTop (mkF m 259 #[.val (.ref a1), .val (.int (1 : Int32)), .val (.int (2 : Int32)), .val (.ref a4), .val (.ref a5), .val (.long z15), .second, .val (.int (0 : Int32)), .val (.long v22), .second, .val (.long (1 : Int64)), .second, .val (.int (1811939329 : Int32)), .val (.int (0 : Int32))] []))
  refine Go.step (fun t k => XS.iload X27.here hx rfl (hb hby d1_259) rfl k) ?_
  show Go p e below _ (T27.setTop (mkF m 261 #[.val (.ref a1), .val (.int (1 : Int32)), .val (.int (2 : Int32)), .val (.ref a4), .val (.ref a5), .val (.long z15), .second, .val (.int (0 : Int32)), .val (.long v22), .second, .val (.long (1 : Int64)), .second, .val (.int (1811939329 : Int32)), .val (.int (0 : Int32))] [(.int (1811939329 : Int32))]))
  refine Go.step (fun t k => XS.iconst X27.here hx rfl (hb hby d1_261)  k) ?_
  show Go p e below _ (T27.setTop (mkF m 262 #[.val (.ref a1), .val (.int (1 : Int32)), .val (.int (2 : Int32)), .val (.ref a4), .val (.ref a5), .val (.long z15), .second, .val (.int (0 : Int32)), .val (.long v22), .second, .val (.long (1 : Int64)), .second, .val (.int (1811939329 : Int32)), .val (.int (0 : Int32))] [(.int (2 : Int32)), (.int (1811939329 : Int32))]))
  refine Go.step (fun t k => XS.aloadN X27.here hx rfl (hb hby d1_262) rfl rfl k) ?_
  show Go p e below _ (T27.setTop (mkF m 263 #[.val (.ref a1), .val (.int (1 : Int32)), .val (.int (2 : Int32)), .val (.ref a4), .val (.ref a5), .val (.long z15), .second, .val (.int (0 : Int32)), .val (.long v22), .second, .val (.long (1 : Int64)), .second, .val (.int (1811939329 : Int32)), .val (.int (0 : Int32))] [(.ref a1), (.int (2 : Int32)), (.int (1811939329 : Int32))]))
  obtain ⟨T28, X28, e28, st28⟩ := getF X27 hx hZ hown (host := "") (Or.inl (hw _ (List.mem_of_getElem? (i := 14) rfl))) Via.refl e27 F_prime_a1_26 (g := (mkF m 263 #[.val (.ref a1), .val (.int (1 : Int32)), .val (.int (2 : Int32)), .val (.ref a4), .val (.ref a5), .val (.long z15), .second, .val (.int (0 : Int32)), .val (.long v22), .second, .val (.long (1 : Int64)), .second, .val (.int (1811939329 : Int32)), .val (.int (0 : Int32))] [(.ref a1), (.int (2 : Int32)), (.int (1811939329 : Int32))])) rfl rfl (hb hby d1_263)
  refine Go.step st28 ?_
  show Go p e below _ (T28.setTop (mkF m 266 #[.val (.ref a1), .val (.int (1 : Int32)), .val (.int (2 : Int32)), .val (.ref a4), .val (.ref a5), .val (.long z15), .second, .val (.int (0 : Int32)), .val (.long v22), .second, .val (.long (1 : Int64)), .second, .val (.int (1811939329 : Int32)), .val (.int (0 : Int32))] [(.int (1811939329 : Int32)), (.int (2 : Int32)), (.int (1811939329 : Int32))]))
  refine Go.step (fun t k => XS.iload X28.here hx rfl (hb hby d1_266) rfl k) ?_
  show Go p e below _ (T28.setTop (mkF m 268 #[.val (.ref a1), .val (.int (1 : Int32)), .val (.int (2 : Int32)), .val (.ref a4), .val (.ref a5), .val (.long z15), .second, .val (.int (0 : Int32)), .val (.long v22), .second, .val (.long (1 : Int64)), .second, .val (.int (1811939329 : Int32)), .val (.int (0 : Int32))] [(.int (1811939329 : Int32)), (.int (1811939329 : Int32)), (.int (2 : Int32)), (.int (1811939329 : Int32))]))
  refine Go.step (fun t k => XS.imul X28.here hx rfl (hb hby d1_268) rfl k) ?_
  show Go p e below _ (T28.setTop (mkF m 269 #[.val (.ref a1), .val (.int (1 : Int32)), .val (.int (2 : Int32)), .val (.ref a4), .val (.ref a5), .val (.long z15), .second, .val (.int (0 : Int32)), .val (.long v22), .second, .val (.long (1 : Int64)), .second, .val (.int (1811939329 : Int32)), .val (.int (0 : Int32))] [(.int (-671088639 : Int32)), (.int (2 : Int32)), (.int (1811939329 : Int32))]))
  refine Go.step (fun t k => XS.isub X28.here hx rfl (hb hby d1_269) rfl k) ?_
  show Go p e below _ (T28.setTop (mkF m 270 #[.val (.ref a1), .val (.int (1 : Int32)), .val (.int (2 : Int32)), .val (.ref a4), .val (.ref a5), .val (.long z15), .second, .val (.int (0 : Int32)), .val (.long v22), .second, .val (.long (1 : Int64)), .second, .val (.int (1811939329 : Int32)), .val (.int (0 : Int32))] [(.int (671088641 : Int32)), (.int (1811939329 : Int32))]))
  refine Go.step (fun t k => XS.imul X28.here hx rfl (hb hby d1_270) rfl k) ?_
  show Go p e below _ (T28.setTop (mkF m 271 #[.val (.ref a1), .val (.int (1 : Int32)), .val (.int (2 : Int32)), .val (.ref a4), .val (.ref a5), .val (.long z15), .second, .val (.int (0 : Int32)), .val (.long v22), .second, .val (.long (1 : Int64)), .second, .val (.int (1811939329 : Int32)), .val (.int (0 : Int32))] [(.int (-1811939327 : Int32))]))
  refine Go.step (fun t k => XS.istore X28.here hx rfl (hb hby d1_271) rfl (l' := #[.val (.ref a1), .val (.int (1 : Int32)), .val (.int (2 : Int32)), .val (.ref a4), .val (.ref a5), .val (.long z15), .second, .val (.int (0 : Int32)), .val (.long v22), .second, .val (.long (1 : Int64)), .second, .val (.int (-1811939327 : Int32)), .val (.int (0 : Int32))]) rfl k) ?_
  show Go p e below _ (T28.setTop (mkF m 273 #[.val (.ref a1), .val (.int (1 : Int32)), .val (.int (2 : Int32)), .val (.ref a4), .val (.ref a5), .val (.long z15), .second, .val (.int (0 : Int32)), .val (.long v22), .second, .val (.long (1 : Int64)), .second, .val (.int (-1811939327 : Int32)), .val (.int (0 : Int32))] []))
  refine Go.step (fun t k => XS.iinc X28.here hx rfl (hb hby d1_273) rfl (l' := #[.val (.ref a1), .val (.int (1 : Int32)), .val (.int (2 : Int32)), .val (.ref a4), .val (.ref a5), .val (.long z15), .second, .val (.int (0 : Int32)), .val (.long v22), .second, .val (.long (1 : Int64)), .second, .val (.int (-1811939327 : Int32)), .val (.int (1 : Int32))]) rfl k) ?_
  show Go p e below _ (T28.setTop (mkF m 276 #[.val (.ref a1), .val (.int (1 : Int32)), .val (.int (2 : Int32)), .val (.ref a4), .val (.ref a5), .val (.long z15), .second, .val (.int (0 : Int32)), .val (.long v22), .second, .val (.long (1 : Int64)), .second, .val (.int (-1811939327 : Int32)), .val (.int (1 : Int32))] []))
  refine Go.step (fun t k => XS.goto X28.here hx rfl (pc0 := 276) (pc' := 253) rfl (hb hby d1_276) (by decide) (by decide) k) ?_
  show Go p e below _ (T28.setTop (mkF m 253 #[.val (.ref a1), .val (.int (1 : Int32)), .val (.int (2 : Int32)), .val (.ref a4), .val (.ref a5), .val (.long z15), .second, .val (.int (0 : Int32)), .val (.long v22), .second, .val (.long (1 : Int64)), .second, .val (.int (-1811939327 : Int32)), .val (.int (1 : Int32))] []))
  refine Go.step (fun t k => XS.iload X28.here hx rfl (hb hby d1_253) rfl k) ?_
  show Go p e below _ (T28.setTop (mkF m 255 #[.val (.ref a1), .val (.int (1 : Int32)), .val (.int (2 : Int32)), .val (.ref a4), .val (.ref a5), .val (.long z15), .second, .val (.int (0 : Int32)), .val (.long v22), .second, .val (.long (1 : Int64)), .second, .val (.int (-1811939327 : Int32)), .val (.int (1 : Int32))] [(.int (1 : Int32))]))
  refine Go.step (fun t k => XS.iconst X28.here hx rfl (hb hby d1_255)  k) ?_
  show Go p e below _ (T28.setTop (mkF m 256 #[.val (.ref a1), .val (.int (1 : Int32)), .val (.int (2 : Int32)), .val (.ref a4), .val (.ref a5), .val (.long z15), .second, .val (.int (0 : Int32)), .val (.long v22), .second, .val (.long (1 : Int64)), .second, .val (.int (-1811939327 : Int32)), .val (.int (1 : Int32))] [(.int (4 : Int32)), (.int (1 : Int32))]))
  refine Go.step (fun t k => XS.icmpNo X28.here hx rfl (hb hby d1_256) rfl (tlt (by decide : (1 : Int32) < (4 : Int32))).2.1 k) ?_
  show Go p e below _ (T28.setTop (mkF m 259 #[.val (.ref a1), .val (.int (1 : Int32)), .val (.int (2 : Int32)), .val (.ref a4), .val (.ref a5), .val (.long z15), .second, .val (.int (0 : Int32)), .val (.long v22), .second, .val (.long (1 : Int64)), .second, .val (.int (-1811939327 : Int32)), .val (.int (1 : Int32))] []))
  refine Go.step (fun t k => XS.iload X28.here hx rfl (hb hby d1_259) rfl k) ?_
  show Go p e below _ (T28.setTop (mkF m 261 #[.val (.ref a1), .val (.int (1 : Int32)), .val (.int (2 : Int32)), .val (.ref a4), .val (.ref a5), .val (.long z15), .second, .val (.int (0 : Int32)), .val (.long v22), .second, .val (.long (1 : Int64)), .second, .val (.int (-1811939327 : Int32)), .val (.int (1 : Int32))] [(.int (-1811939327 : Int32))]))
  refine Go.step (fun t k => XS.iconst X28.here hx rfl (hb hby d1_261)  k) ?_
  show Go p e below _ (T28.setTop (mkF m 262 #[.val (.ref a1), .val (.int (1 : Int32)), .val (.int (2 : Int32)), .val (.ref a4), .val (.ref a5), .val (.long z15), .second, .val (.int (0 : Int32)), .val (.long v22), .second, .val (.long (1 : Int64)), .second, .val (.int (-1811939327 : Int32)), .val (.int (1 : Int32))] [(.int (2 : Int32)), (.int (-1811939327 : Int32))]))
  refine Go.step (fun t k => XS.aloadN X28.here hx rfl (hb hby d1_262) rfl rfl k) ?_
  show Go p e below _ (T28.setTop (mkF m 263 #[.val (.ref a1), .val (.int (1 : Int32)), .val (.int (2 : Int32)), .val (.ref a4), .val (.ref a5), .val (.long z15), .second, .val (.int (0 : Int32)), .val (.long v22), .second, .val (.long (1 : Int64)), .second, .val (.int (-1811939327 : Int32)), .val (.int (1 : Int32))] [(.ref a1), (.int (2 : Int32)), (.int (-1811939327 : Int32))]))
  obtain ⟨T29, X29, e29, st29⟩ := getF X28 hx hZ hown (host := "") (Or.inl (hw _ (List.mem_of_getElem? (i := 14) rfl))) Via.refl e28 F_prime_a1_26 (g := (mkF m 263 #[.val (.ref a1), .val (.int (1 : Int32)), .val (.int (2 : Int32)), .val (.ref a4), .val (.ref a5), .val (.long z15), .second, .val (.int (0 : Int32)), .val (.long v22), .second, .val (.long (1 : Int64)), .second, .val (.int (-1811939327 : Int32)), .val (.int (1 : Int32))] [(.ref a1), (.int (2 : Int32)), (.int (-1811939327 : Int32))])) rfl rfl (hb hby d1_263)
  refine Go.step st29 ?_
  show Go p e below _ (T29.setTop (mkF m 266 #[.val (.ref a1), .val (.int (1 : Int32)), .val (.int (2 : Int32)), .val (.ref a4), .val (.ref a5), .val (.long z15), .second, .val (.int (0 : Int32)), .val (.long v22), .second, .val (.long (1 : Int64)), .second, .val (.int (-1811939327 : Int32)), .val (.int (1 : Int32))] [(.int (1811939329 : Int32)), (.int (2 : Int32)), (.int (-1811939327 : Int32))]))
  refine Go.step (fun t k => XS.iload X29.here hx rfl (hb hby d1_266) rfl k) ?_
  show Go p e below _ (T29.setTop (mkF m 268 #[.val (.ref a1), .val (.int (1 : Int32)), .val (.int (2 : Int32)), .val (.ref a4), .val (.ref a5), .val (.long z15), .second, .val (.int (0 : Int32)), .val (.long v22), .second, .val (.long (1 : Int64)), .second, .val (.int (-1811939327 : Int32)), .val (.int (1 : Int32))] [(.int (-1811939327 : Int32)), (.int (1811939329 : Int32)), (.int (2 : Int32)), (.int (-1811939327 : Int32))]))
  refine Go.step (fun t k => XS.imul X29.here hx rfl (hb hby d1_268) rfl k) ?_
  show Go p e below _ (T29.setTop (mkF m 269 #[.val (.ref a1), .val (.int (1 : Int32)), .val (.int (2 : Int32)), .val (.ref a4), .val (.ref a5), .val (.long z15), .second, .val (.int (0 : Int32)), .val (.long v22), .second, .val (.long (1 : Int64)), .second, .val (.int (-1811939327 : Int32)), .val (.int (1 : Int32))] [(.int (1 : Int32)), (.int (2 : Int32)), (.int (-1811939327 : Int32))]))
  refine Go.step (fun t k => XS.isub X29.here hx rfl (hb hby d1_269) rfl k) ?_
  show Go p e below _ (T29.setTop (mkF m 270 #[.val (.ref a1), .val (.int (1 : Int32)), .val (.int (2 : Int32)), .val (.ref a4), .val (.ref a5), .val (.long z15), .second, .val (.int (0 : Int32)), .val (.long v22), .second, .val (.long (1 : Int64)), .second, .val (.int (-1811939327 : Int32)), .val (.int (1 : Int32))] [(.int (1 : Int32)), (.int (-1811939327 : Int32))]))
  refine Go.step (fun t k => XS.imul X29.here hx rfl (hb hby d1_270) rfl k) ?_
  show Go p e below _ (T29.setTop (mkF m 271 #[.val (.ref a1), .val (.int (1 : Int32)), .val (.int (2 : Int32)), .val (.ref a4), .val (.ref a5), .val (.long z15), .second, .val (.int (0 : Int32)), .val (.long v22), .second, .val (.long (1 : Int64)), .second, .val (.int (-1811939327 : Int32)), .val (.int (1 : Int32))] [(.int (-1811939327 : Int32))]))
  refine Go.step (fun t k => XS.istore X29.here hx rfl (hb hby d1_271) rfl (l' := #[.val (.ref a1), .val (.int (1 : Int32)), .val (.int (2 : Int32)), .val (.ref a4), .val (.ref a5), .val (.long z15), .second, .val (.int (0 : Int32)), .val (.long v22), .second, .val (.long (1 : Int64)), .second, .val (.int (-1811939327 : Int32)), .val (.int (1 : Int32))]) rfl k) ?_
  show Go p e below _ (T29.setTop (mkF m 273 #[.val (.ref a1), .val (.int (1 : Int32)), .val (.int (2 : Int32)), .val (.ref a4), .val (.ref a5), .val (.long z15), .second, .val (.int (0 : Int32)), .val (.long v22), .second, .val (.long (1 : Int64)), .second, .val (.int (-1811939327 : Int32)), .val (.int (1 : Int32))] []))
  refine Go.step (fun t k => XS.iinc X29.here hx rfl (hb hby d1_273) rfl (l' := #[.val (.ref a1), .val (.int (1 : Int32)), .val (.int (2 : Int32)), .val (.ref a4), .val (.ref a5), .val (.long z15), .second, .val (.int (0 : Int32)), .val (.long v22), .second, .val (.long (1 : Int64)), .second, .val (.int (-1811939327 : Int32)), .val (.int (2 : Int32))]) rfl k) ?_
  show Go p e below _ (T29.setTop (mkF m 276 #[.val (.ref a1), .val (.int (1 : Int32)), .val (.int (2 : Int32)), .val (.ref a4), .val (.ref a5), .val (.long z15), .second, .val (.int (0 : Int32)), .val (.long v22), .second, .val (.long (1 : Int64)), .second, .val (.int (-1811939327 : Int32)), .val (.int (2 : Int32))] []))
  refine Go.step (fun t k => XS.goto X29.here hx rfl (pc0 := 276) (pc' := 253) rfl (hb hby d1_276) (by decide) (by decide) k) ?_
  show Go p e below _ (T29.setTop (mkF m 253 #[.val (.ref a1), .val (.int (1 : Int32)), .val (.int (2 : Int32)), .val (.ref a4), .val (.ref a5), .val (.long z15), .second, .val (.int (0 : Int32)), .val (.long v22), .second, .val (.long (1 : Int64)), .second, .val (.int (-1811939327 : Int32)), .val (.int (2 : Int32))] []))
  refine Go.step (fun t k => XS.iload X29.here hx rfl (hb hby d1_253) rfl k) ?_
  show Go p e below _ (T29.setTop (mkF m 255 #[.val (.ref a1), .val (.int (1 : Int32)), .val (.int (2 : Int32)), .val (.ref a4), .val (.ref a5), .val (.long z15), .second, .val (.int (0 : Int32)), .val (.long v22), .second, .val (.long (1 : Int64)), .second, .val (.int (-1811939327 : Int32)), .val (.int (2 : Int32))] [(.int (2 : Int32))]))
  refine Go.step (fun t k => XS.iconst X29.here hx rfl (hb hby d1_255)  k) ?_
  show Go p e below _ (T29.setTop (mkF m 256 #[.val (.ref a1), .val (.int (1 : Int32)), .val (.int (2 : Int32)), .val (.ref a4), .val (.ref a5), .val (.long z15), .second, .val (.int (0 : Int32)), .val (.long v22), .second, .val (.long (1 : Int64)), .second, .val (.int (-1811939327 : Int32)), .val (.int (2 : Int32))] [(.int (4 : Int32)), (.int (2 : Int32))]))
  refine Go.step (fun t k => XS.icmpNo X29.here hx rfl (hb hby d1_256) rfl (tlt (by decide : (2 : Int32) < (4 : Int32))).2.1 k) ?_
  show Go p e below _ (T29.setTop (mkF m 259 #[.val (.ref a1), .val (.int (1 : Int32)), .val (.int (2 : Int32)), .val (.ref a4), .val (.ref a5), .val (.long z15), .second, .val (.int (0 : Int32)), .val (.long v22), .second, .val (.long (1 : Int64)), .second, .val (.int (-1811939327 : Int32)), .val (.int (2 : Int32))] []))
  refine Go.step (fun t k => XS.iload X29.here hx rfl (hb hby d1_259) rfl k) ?_
  show Go p e below _ (T29.setTop (mkF m 261 #[.val (.ref a1), .val (.int (1 : Int32)), .val (.int (2 : Int32)), .val (.ref a4), .val (.ref a5), .val (.long z15), .second, .val (.int (0 : Int32)), .val (.long v22), .second, .val (.long (1 : Int64)), .second, .val (.int (-1811939327 : Int32)), .val (.int (2 : Int32))] [(.int (-1811939327 : Int32))]))
  refine Go.step (fun t k => XS.iconst X29.here hx rfl (hb hby d1_261)  k) ?_
  show Go p e below _ (T29.setTop (mkF m 262 #[.val (.ref a1), .val (.int (1 : Int32)), .val (.int (2 : Int32)), .val (.ref a4), .val (.ref a5), .val (.long z15), .second, .val (.int (0 : Int32)), .val (.long v22), .second, .val (.long (1 : Int64)), .second, .val (.int (-1811939327 : Int32)), .val (.int (2 : Int32))] [(.int (2 : Int32)), (.int (-1811939327 : Int32))]))
  refine Go.step (fun t k => XS.aloadN X29.here hx rfl (hb hby d1_262) rfl rfl k) ?_
  show Go p e below _ (T29.setTop (mkF m 263 #[.val (.ref a1), .val (.int (1 : Int32)), .val (.int (2 : Int32)), .val (.ref a4), .val (.ref a5), .val (.long z15), .second, .val (.int (0 : Int32)), .val (.long v22), .second, .val (.long (1 : Int64)), .second, .val (.int (-1811939327 : Int32)), .val (.int (2 : Int32))] [(.ref a1), (.int (2 : Int32)), (.int (-1811939327 : Int32))]))
  obtain ⟨T30, X30, e30, st30⟩ := getF X29 hx hZ hown (host := "") (Or.inl (hw _ (List.mem_of_getElem? (i := 14) rfl))) Via.refl e29 F_prime_a1_26 (g := (mkF m 263 #[.val (.ref a1), .val (.int (1 : Int32)), .val (.int (2 : Int32)), .val (.ref a4), .val (.ref a5), .val (.long z15), .second, .val (.int (0 : Int32)), .val (.long v22), .second, .val (.long (1 : Int64)), .second, .val (.int (-1811939327 : Int32)), .val (.int (2 : Int32))] [(.ref a1), (.int (2 : Int32)), (.int (-1811939327 : Int32))])) rfl rfl (hb hby d1_263)
  refine Go.step st30 ?_
  show Go p e below _ (T30.setTop (mkF m 266 #[.val (.ref a1), .val (.int (1 : Int32)), .val (.int (2 : Int32)), .val (.ref a4), .val (.ref a5), .val (.long z15), .second, .val (.int (0 : Int32)), .val (.long v22), .second, .val (.long (1 : Int64)), .second, .val (.int (-1811939327 : Int32)), .val (.int (2 : Int32))] [(.int (1811939329 : Int32)), (.int (2 : Int32)), (.int (-1811939327 : Int32))]))
  refine Go.step (fun t k => XS.iload X30.here hx rfl (hb hby d1_266) rfl k) ?_
  show Go p e below _ (T30.setTop (mkF m 268 #[.val (.ref a1), .val (.int (1 : Int32)), .val (.int (2 : Int32)), .val (.ref a4), .val (.ref a5), .val (.long z15), .second, .val (.int (0 : Int32)), .val (.long v22), .second, .val (.long (1 : Int64)), .second, .val (.int (-1811939327 : Int32)), .val (.int (2 : Int32))] [(.int (-1811939327 : Int32)), (.int (1811939329 : Int32)), (.int (2 : Int32)), (.int (-1811939327 : Int32))]))
  refine Go.step (fun t k => XS.imul X30.here hx rfl (hb hby d1_268) rfl k) ?_
  show Go p e below _ (T30.setTop (mkF m 269 #[.val (.ref a1), .val (.int (1 : Int32)), .val (.int (2 : Int32)), .val (.ref a4), .val (.ref a5), .val (.long z15), .second, .val (.int (0 : Int32)), .val (.long v22), .second, .val (.long (1 : Int64)), .second, .val (.int (-1811939327 : Int32)), .val (.int (2 : Int32))] [(.int (1 : Int32)), (.int (2 : Int32)), (.int (-1811939327 : Int32))]))
  refine Go.step (fun t k => XS.isub X30.here hx rfl (hb hby d1_269) rfl k) ?_
  show Go p e below _ (T30.setTop (mkF m 270 #[.val (.ref a1), .val (.int (1 : Int32)), .val (.int (2 : Int32)), .val (.ref a4), .val (.ref a5), .val (.long z15), .second, .val (.int (0 : Int32)), .val (.long v22), .second, .val (.long (1 : Int64)), .second, .val (.int (-1811939327 : Int32)), .val (.int (2 : Int32))] [(.int (1 : Int32)), (.int (-1811939327 : Int32))]))
  refine Go.step (fun t k => XS.imul X30.here hx rfl (hb hby d1_270) rfl k) ?_
  show Go p e below _ (T30.setTop (mkF m 271 #[.val (.ref a1), .val (.int (1 : Int32)), .val (.int (2 : Int32)), .val (.ref a4), .val (.ref a5), .val (.long z15), .second, .val (.int (0 : Int32)), .val (.long v22), .second, .val (.long (1 : Int64)), .second, .val (.int (-1811939327 : Int32)), .val (.int (2 : Int32))] [(.int (-1811939327 : Int32))]))
  refine Go.step (fun t k => XS.istore X30.here hx rfl (hb hby d1_271) rfl (l' := #[.val (.ref a1), .val (.int (1 : Int32)), .val (.int (2 : Int32)), .val (.ref a4), .val (.ref a5), .val (.long z15), .second, .val (.int (0 : Int32)), .val (.long v22), .second, .val (.long (1 : Int64)), .second, .val (.int (-1811939327 : Int32)), .val (.int (2 : Int32))]) rfl k) ?_
  show Go p e below _ (T30.setTop (mkF m 273 #[.val (.ref a1), .val (.int (1 : Int32)), .val (.int (2 : Int32)), .val (.ref a4), .val (.ref a5), .val (.long z15), .second, .val (.int (0 : Int32)), .val (.long v22), .second, .val (.long (1 : Int64)), .second, .val (.int (-1811939327 : Int32)), .val (.int (2 : Int32))] []))
  refine Go.step (fun t k => XS.iinc X30.here hx rfl (hb hby d1_273) rfl (l' := #[.val (.ref a1), .val (.int (1 : Int32)), .val (.int (2 : Int32)), .val (.ref a4), .val (.ref a5), .val (.long z15), .second, .val (.int (0 : Int32)), .val (.long v22), .second, .val (.long (1 : Int64)), .second, .val (.int (-1811939327 : Int32)), .val (.int (3 : Int32))]) rfl k) ?_
  show Go p e below _ (T30.setTop (mkF m 276 #[.val (.ref a1), .val (.int (1 : Int32)), .val (.int (2 : Int32)), .val (.ref a4), .val (.ref a5), .val (.long z15), .second, .val (.int (0 : Int32)), .val (.long v22), .second, .val (.long (1 : Int64)), .second, .val (.int (-1811939327 : Int32)), .val (.int (3 : Int32))] []))
  refine Go.step (fun t k => XS.goto X30.here hx rfl (pc0 := 276) (pc' := 253) rfl (hb hby d1_276) (by decide) (by decide) k) ?_
  show Go p e below _ (T30.setTop (mkF m 253 #[.val (.ref a1), .val (.int (1 : Int32)), .val (.int (2 : Int32)), .val (.ref a4), .val (.ref a5), .val (.long z15), .second, .val (.int (0 : Int32)), .val (.long v22), .second, .val (.long (1 : Int64)), .second, .val (.int (-1811939327 : Int32)), .val (.int (3 : Int32))] []))
  refine Go.step (fun t k => XS.iload X30.here hx rfl (hb hby d1_253) rfl k) ?_
  show Go p e below _ (T30.setTop (mkF m 255 #[.val (.ref a1), .val (.int (1 : Int32)), .val (.int (2 : Int32)), .val (.ref a4), .val (.ref a5), .val (.long z15), .second, .val (.int (0 : Int32)), .val (.long v22), .second, .val (.long (1 : Int64)), .second, .val (.int (-1811939327 : Int32)), .val (.int (3 : Int32))] [(.int (3 : Int32))]))
  refine Go.step (fun t k => XS.iconst X30.here hx rfl (hb hby d1_255)  k) ?_
  show Go p e below _ (T30.setTop (mkF m 256 #[.val (.ref a1), .val (.int (1 : Int32)), .val (.int (2 : Int32)), .val (.ref a4), .val (.ref a5), .val (.long z15), .second, .val (.int (0 : Int32)), .val (.long v22), .second, .val (.long (1 : Int64)), .second, .val (.int (-1811939327 : Int32)), .val (.int (3 : Int32))] [(.int (4 : Int32)), (.int (3 : Int32))]))
  refine Go.step (fun t k => XS.icmpNo X30.here hx rfl (hb hby d1_256) rfl (tlt (by decide : (3 : Int32) < (4 : Int32))).2.1 k) ?_
  show Go p e below _ (T30.setTop (mkF m 259 #[.val (.ref a1), .val (.int (1 : Int32)), .val (.int (2 : Int32)), .val (.ref a4), .val (.ref a5), .val (.long z15), .second, .val (.int (0 : Int32)), .val (.long v22), .second, .val (.long (1 : Int64)), .second, .val (.int (-1811939327 : Int32)), .val (.int (3 : Int32))] []))
  refine Go.step (fun t k => XS.iload X30.here hx rfl (hb hby d1_259) rfl k) ?_
  show Go p e below _ (T30.setTop (mkF m 261 #[.val (.ref a1), .val (.int (1 : Int32)), .val (.int (2 : Int32)), .val (.ref a4), .val (.ref a5), .val (.long z15), .second, .val (.int (0 : Int32)), .val (.long v22), .second, .val (.long (1 : Int64)), .second, .val (.int (-1811939327 : Int32)), .val (.int (3 : Int32))] [(.int (-1811939327 : Int32))]))
  refine Go.step (fun t k => XS.iconst X30.here hx rfl (hb hby d1_261)  k) ?_
  show Go p e below _ (T30.setTop (mkF m 262 #[.val (.ref a1), .val (.int (1 : Int32)), .val (.int (2 : Int32)), .val (.ref a4), .val (.ref a5), .val (.long z15), .second, .val (.int (0 : Int32)), .val (.long v22), .second, .val (.long (1 : Int64)), .second, .val (.int (-1811939327 : Int32)), .val (.int (3 : Int32))] [(.int (2 : Int32)), (.int (-1811939327 : Int32))]))
  refine Go.step (fun t k => XS.aloadN X30.here hx rfl (hb hby d1_262) rfl rfl k) ?_
  show Go p e below _ (T30.setTop (mkF m 263 #[.val (.ref a1), .val (.int (1 : Int32)), .val (.int (2 : Int32)), .val (.ref a4), .val (.ref a5), .val (.long z15), .second, .val (.int (0 : Int32)), .val (.long v22), .second, .val (.long (1 : Int64)), .second, .val (.int (-1811939327 : Int32)), .val (.int (3 : Int32))] [(.ref a1), (.int (2 : Int32)), (.int (-1811939327 : Int32))]))
  obtain ⟨T31, X31, e31, st31⟩ := getF X30 hx hZ hown (host := "") (Or.inl (hw _ (List.mem_of_getElem? (i := 14) rfl))) Via.refl e30 F_prime_a1_26 (g := (mkF m 263 #[.val (.ref a1), .val (.int (1 : Int32)), .val (.int (2 : Int32)), .val (.ref a4), .val (.ref a5), .val (.long z15), .second, .val (.int (0 : Int32)), .val (.long v22), .second, .val (.long (1 : Int64)), .second, .val (.int (-1811939327 : Int32)), .val (.int (3 : Int32))] [(.ref a1), (.int (2 : Int32)), (.int (-1811939327 : Int32))])) rfl rfl (hb hby d1_263)
  refine Go.step st31 ?_
  show Go p e below _ (T31.setTop (mkF m 266 #[.val (.ref a1), .val (.int (1 : Int32)), .val (.int (2 : Int32)), .val (.ref a4), .val (.ref a5), .val (.long z15), .second, .val (.int (0 : Int32)), .val (.long v22), .second, .val (.long (1 : Int64)), .second, .val (.int (-1811939327 : Int32)), .val (.int (3 : Int32))] [(.int (1811939329 : Int32)), (.int (2 : Int32)), (.int (-1811939327 : Int32))]))
  refine Go.step (fun t k => XS.iload X31.here hx rfl (hb hby d1_266) rfl k) ?_
  show Go p e below _ (T31.setTop (mkF m 268 #[.val (.ref a1), .val (.int (1 : Int32)), .val (.int (2 : Int32)), .val (.ref a4), .val (.ref a5), .val (.long z15), .second, .val (.int (0 : Int32)), .val (.long v22), .second, .val (.long (1 : Int64)), .second, .val (.int (-1811939327 : Int32)), .val (.int (3 : Int32))] [(.int (-1811939327 : Int32)), (.int (1811939329 : Int32)), (.int (2 : Int32)), (.int (-1811939327 : Int32))]))
  refine Go.step (fun t k => XS.imul X31.here hx rfl (hb hby d1_268) rfl k) ?_
  show Go p e below _ (T31.setTop (mkF m 269 #[.val (.ref a1), .val (.int (1 : Int32)), .val (.int (2 : Int32)), .val (.ref a4), .val (.ref a5), .val (.long z15), .second, .val (.int (0 : Int32)), .val (.long v22), .second, .val (.long (1 : Int64)), .second, .val (.int (-1811939327 : Int32)), .val (.int (3 : Int32))] [(.int (1 : Int32)), (.int (2 : Int32)), (.int (-1811939327 : Int32))]))
  refine Go.step (fun t k => XS.isub X31.here hx rfl (hb hby d1_269) rfl k) ?_
  show Go p e below _ (T31.setTop (mkF m 270 #[.val (.ref a1), .val (.int (1 : Int32)), .val (.int (2 : Int32)), .val (.ref a4), .val (.ref a5), .val (.long z15), .second, .val (.int (0 : Int32)), .val (.long v22), .second, .val (.long (1 : Int64)), .second, .val (.int (-1811939327 : Int32)), .val (.int (3 : Int32))] [(.int (1 : Int32)), (.int (-1811939327 : Int32))]))
  refine Go.step (fun t k => XS.imul X31.here hx rfl (hb hby d1_270) rfl k) ?_
  show Go p e below _ (T31.setTop (mkF m 271 #[.val (.ref a1), .val (.int (1 : Int32)), .val (.int (2 : Int32)), .val (.ref a4), .val (.ref a5), .val (.long z15), .second, .val (.int (0 : Int32)), .val (.long v22), .second, .val (.long (1 : Int64)), .second, .val (.int (-1811939327 : Int32)), .val (.int (3 : Int32))] [(.int (-1811939327 : Int32))]))
  refine Go.step (fun t k => XS.istore X31.here hx rfl (hb hby d1_271) rfl (l' := #[.val (.ref a1), .val (.int (1 : Int32)), .val (.int (2 : Int32)), .val (.ref a4), .val (.ref a5), .val (.long z15), .second, .val (.int (0 : Int32)), .val (.long v22), .second, .val (.long (1 : Int64)), .second, .val (.int (-1811939327 : Int32)), .val (.int (3 : Int32))]) rfl k) ?_
  show Go p e below _ (T31.setTop (mkF m 273 #[.val (.ref a1), .val (.int (1 : Int32)), .val (.int (2 : Int32)), .val (.ref a4), .val (.ref a5), .val (.long z15), .second, .val (.int (0 : Int32)), .val (.long v22), .second, .val (.long (1 : Int64)), .second, .val (.int (-1811939327 : Int32)), .val (.int (3 : Int32))] []))
  refine Go.step (fun t k => XS.iinc X31.here hx rfl (hb hby d1_273) rfl (l' := #[.val (.ref a1), .val (.int (1 : Int32)), .val (.int (2 : Int32)), .val (.ref a4), .val (.ref a5), .val (.long z15), .second, .val (.int (0 : Int32)), .val (.long v22), .second, .val (.long (1 : Int64)), .second, .val (.int (-1811939327 : Int32)), .val (.int (4 : Int32))]) rfl k) ?_
  show Go p e below _ (T31.setTop (mkF m 276 #[.val (.ref a1), .val (.int (1 : Int32)), .val (.int (2 : Int32)), .val (.ref a4), .val (.ref a5), .val (.long z15), .second, .val (.int (0 : Int32)), .val (.long v22), .second, .val (.long (1 : Int64)), .second, .val (.int (-1811939327 : Int32)), .val (.int (4 : Int32))] []))
  refine Go.step (fun t k => XS.goto X31.here hx rfl (pc0 := 276) (pc' := 253) rfl (hb hby d1_276) (by decide) (by decide) k) ?_
  show Go p e below _ (T31.setTop (mkF m 253 #[.val (.ref a1), .val (.int (1 : Int32)), .val (.int (2 : Int32)), .val (.ref a4), .val (.ref a5), .val (.long z15), .second, .val (.int (0 : Int32)), .val (.long v22), .second, .val (.long (1 : Int64)), .second, .val (.int (-1811939327 : Int32)), .val (.int (4 : Int32))] []))
  refine Go.step (fun t k => XS.iload X31.here hx rfl (hb hby d1_253) rfl k) ?_
  show Go p e below _ (T31.setTop (mkF m 255 #[.val (.ref a1), .val (.int (1 : Int32)), .val (.int (2 : Int32)), .val (.ref a4), .val (.ref a5), .val (.long z15), .second, .val (.int (0 : Int32)), .val (.long v22), .second, .val (.long (1 : Int64)), .second, .val (.int (-1811939327 : Int32)), .val (.int (4 : Int32))] [(.int (4 : Int32))]))
  refine Go.step (fun t k => XS.iconst X31.here hx rfl (hb hby d1_255)  k) ?_
  show Go p e below _ (T31.setTop (mkF m 256 #[.val (.ref a1), .val (.int (1 : Int32)), .val (.int (2 : Int32)), .val (.ref a4), .val (.ref a5), .val (.long z15), .second, .val (.int (0 : Int32)), .val (.long v22), .second, .val (.long (1 : Int64)), .second, .val (.int (-1811939327 : Int32)), .val (.int (4 : Int32))] [(.int (4 : Int32)), (.int (4 : Int32))]))
  refine Go.step (fun t k => XS.icmpYes X31.here hx rfl (pc0 := 256) (pc' := 279) rfl (hb hby d1_256) rfl (flt (by decide : ¬ ((4 : Int32) < (4 : Int32)))).2.1 (by decide) (by decide) k) ?_
  show Go p e below _ (T31.setTop (mkF m 279 #[.val (.ref a1), .val (.int (1 : Int32)), .val (.int (2 : Int32)), .val (.ref a4), .val (.ref a5), .val (.long z15), .second, .val (.int (0 : Int32)), .val (.long v22), .second, .val (.long (1 : Int64)), .second, .val (.int (-1811939327 : Int32)), .val (.int (4 : Int32))] []))
  refine Go.step (fun t k => XS.aloadN X31.here hx rfl (hb hby d1_279) rfl rfl k) ?_
  show Go p e below _ (T31.setTop (mkF m 280 #[.val (.ref a1), .val (.int (1 : Int32)), .val (.int (2 : Int32)), .val (.ref a4), .val (.ref a5), .val (.long z15), .second, .val (.int (0 : Int32)), .val (.long v22), .second, .val (.long (1 : Int64)), .second, .val (.int (-1811939327 : Int32)), .val (.int (4 : Int32))] [(.ref a1)]))
  refine Go.step (fun t k => XS.iload X31.here hx rfl (hb hby d1_280) rfl k) ?_
  show Go p e below _ (T31.setTop (mkF m 282 #[.val (.ref a1), .val (.int (1 : Int32)), .val (.int (2 : Int32)), .val (.ref a4), .val (.ref a5), .val (.long z15), .second, .val (.int (0 : Int32)), .val (.long v22), .second, .val (.long (1 : Int64)), .second, .val (.int (-1811939327 : Int32)), .val (.int (4 : Int32))] [(.int (-1811939327 : Int32)), (.ref a1)]))
  refine Go.step (fun t k => XS.ineg X31.here hx rfl (hb hby d1_282) rfl k) ?_
  show Go p e below _ (T31.setTop (mkF m 283 #[.val (.ref a1), .val (.int (1 : Int32)), .val (.int (2 : Int32)), .val (.ref a4), .val (.ref a5), .val (.long z15), .second, .val (.int (0 : Int32)), .val (.long v22), .second, .val (.long (1 : Int64)), .second, .val (.int (-1811939327 : Int32)), .val (.int (4 : Int32))] [(.int (1811939327 : Int32)), (.ref a1)]))
  obtain ⟨T32, h32, X32, e32, W32, st32⟩ := putF X31 hx hZ hown (host := "") (Or.inl (hw _ (List.mem_of_getElem? (i := 34) rfl))) Via.refl e31 F_negativeInverse_a1_26 E_a1_26 (Or.inr ⟨(hw _ (List.mem_of_getElem? (i := 35) rfl)), rfl, hnm⟩) (hw _ (List.mem_of_getElem? (i := 6) rfl)) (ty := .int) (by decide) rfl rfl (g := (mkF m 283 #[.val (.ref a1), .val (.int (1 : Int32)), .val (.int (2 : Int32)), .val (.ref a4), .val (.ref a5), .val (.long z15), .second, .val (.int (0 : Int32)), .val (.long v22), .second, .val (.long (1 : Int64)), .second, .val (.int (-1811939327 : Int32)), .val (.int (4 : Int32))] [(.int (1811939327 : Int32)), (.ref a1)])) rfl rfl (hb hby d1_283)
  refine Go.step st32 ?_
  have N32 := Fr.snoc X32 N26 g_a1
  have F_length_a1_32 := F_length_a1_26.other W32 (Or.inr (slot_ne (Or.inr (hw _ (List.mem_of_getElem? (i := 17) rfl))) (Or.inr (hw _ (List.mem_of_getElem? (i := 35) rfl))) (by decide) (t := .int) (t' := .int) (by decide) (by decide)))
  have F_roots_a1_32 := F_roots_a1_26.other W32 (Or.inr (slot_ne (Or.inr (hw _ (List.mem_of_getElem? (i := 19) rfl))) (Or.inr (hw _ (List.mem_of_getElem? (i := 35) rfl))) (by decide) (t := (.array .int)) (t' := .int) (by decide) (by decide)))
  have F_rootQuotients_a1_32 := F_rootQuotients_a1_26.other W32 (Or.inr (slot_ne (Or.inr (hw _ (List.mem_of_getElem? (i := 21) rfl))) (Or.inr (hw _ (List.mem_of_getElem? (i := 35) rfl))) (by decide) (t := (.array .int)) (t' := .int) (by decide) (by decide)))
  have F_outerRoot_a1_32 := F_outerRoot_a1_26.other W32 (Or.inr (slot_ne (Or.inr (hw _ (List.mem_of_getElem? (i := 28) rfl))) (Or.inr (hw _ (List.mem_of_getElem? (i := 35) rfl))) (by decide) (t := .int) (t' := .int) (by decide) (by decide)))
  have F_outerRootQuotient_a1_32 := F_outerRootQuotient_a1_26.other W32 (Or.inr (slot_ne (Or.inr (hw _ (List.mem_of_getElem? (i := 33) rfl))) (Or.inr (hw _ (List.mem_of_getElem? (i := 35) rfl))) (by decide) (t := .int) (t' := .int) (by decide) (by decide)))
  have F_scale_a1_32 := F_scale_a1_26.other W32 (Or.inr (slot_ne (Or.inr (hw _ (List.mem_of_getElem? (i := 39) rfl))) (Or.inr (hw _ (List.mem_of_getElem? (i := 35) rfl))) (by decide) (t := .int) (t' := .int) (by decide) (by decide)))
  have F_scaleQuotient_a1_32 := F_scaleQuotient_a1_26.other W32 (Or.inr (slot_ne (Or.inr (hw _ (List.mem_of_getElem? (i := 41) rfl))) (Or.inr (hw _ (List.mem_of_getElem? (i := 35) rfl))) (by decide) (t := .int) (t' := .int) (by decide) (by decide)))
  have E_a1_32 := E_a1_26.wr W32
  have F_prime_a1_32 := F_prime_a1_26.other W32 (Or.inr (slot_ne (Or.inr (hw _ (List.mem_of_getElem? (i := 15) rfl))) (Or.inr (hw _ (List.mem_of_getElem? (i := 35) rfl))) (by decide) (t := .int) (t' := .int) (by decide) (by decide)))
  have A_a4_32 := A_a4_26.other W32 hne_a4_a1
  have A_a5_32 := A_a5_26.other W32 hne_a5_a1
  have O32 := O26.wr W32 g_a1
  have Z32 := Nat.le_trans Z26 (Keep.of_wr W32).1
  have KK32 : Keep h0 h32 [a1, a4, a5] := KK26.wr W32 (Or.inl (by simp))
  have F_negativeInverse_a1_32 := F_negativeInverse_a1_26.same W32
  show Go p e below _ (T32.setTop (mkF m 286 #[.val (.ref a1), .val (.int (1 : Int32)), .val (.int (2 : Int32)), .val (.ref a4), .val (.ref a5), .val (.long z15), .second, .val (.int (0 : Int32)), .val (.long v22), .second, .val (.long (1 : Int64)), .second, .val (.int (-1811939327 : Int32)), .val (.int (4 : Int32))] []))
  refine Go.step (fun t k => XS.aloadN X32.here hx rfl (hb hby d1_286) rfl rfl k) ?_
  show Go p e below _ (T32.setTop (mkF m 287 #[.val (.ref a1), .val (.int (1 : Int32)), .val (.int (2 : Int32)), .val (.ref a4), .val (.ref a5), .val (.long z15), .second, .val (.int (0 : Int32)), .val (.long v22), .second, .val (.long (1 : Int64)), .second, .val (.int (-1811939327 : Int32)), .val (.int (4 : Int32))] [(.ref a1)]))
  refine Go.step (X32.ldc2Long hx hown (mvT hZ (hw _ (List.mem_of_getElem? (i := 36) rfl))) (g := (mkF m 287 #[.val (.ref a1), .val (.int (1 : Int32)), .val (.int (2 : Int32)), .val (.ref a4), .val (.ref a5), .val (.long z15), .second, .val (.int (0 : Int32)), .val (.long v22), .second, .val (.long (1 : Int64)), .second, .val (.int (-1811939327 : Int32)), .val (.int (4 : Int32))] [(.ref a1)])) rfl (hb hby d1_287)) ?_
  show Go p e below _ (T32.setTop (mkF m 290 #[.val (.ref a1), .val (.int (1 : Int32)), .val (.int (2 : Int32)), .val (.ref a4), .val (.ref a5), .val (.long z15), .second, .val (.int (0 : Int32)), .val (.long v22), .second, .val (.long (1 : Int64)), .second, .val (.int (-1811939327 : Int32)), .val (.int (4 : Int32))] [(.long (4294967296 : Int64)), (.ref a1)]))
  refine Go.step (fun t k => XS.aloadN X32.here hx rfl (hb hby d1_290) rfl rfl k) ?_
  show Go p e below _ (T32.setTop (mkF m 291 #[.val (.ref a1), .val (.int (1 : Int32)), .val (.int (2 : Int32)), .val (.ref a4), .val (.ref a5), .val (.long z15), .second, .val (.int (0 : Int32)), .val (.long v22), .second, .val (.long (1 : Int64)), .second, .val (.int (-1811939327 : Int32)), .val (.int (4 : Int32))] [(.ref a1), (.long (4294967296 : Int64)), (.ref a1)]))
  obtain ⟨T33, X33, e33, st33⟩ := getF X32 hx hZ hown (host := "") (Or.inl (hw _ (List.mem_of_getElem? (i := 14) rfl))) Via.refl e32 F_prime_a1_32 (g := (mkF m 291 #[.val (.ref a1), .val (.int (1 : Int32)), .val (.int (2 : Int32)), .val (.ref a4), .val (.ref a5), .val (.long z15), .second, .val (.int (0 : Int32)), .val (.long v22), .second, .val (.long (1 : Int64)), .second, .val (.int (-1811939327 : Int32)), .val (.int (4 : Int32))] [(.ref a1), (.long (4294967296 : Int64)), (.ref a1)])) rfl rfl (hb hby d1_291)
  refine Go.step st33 ?_
  show Go p e below _ (T33.setTop (mkF m 294 #[.val (.ref a1), .val (.int (1 : Int32)), .val (.int (2 : Int32)), .val (.ref a4), .val (.ref a5), .val (.long z15), .second, .val (.int (0 : Int32)), .val (.long v22), .second, .val (.long (1 : Int64)), .second, .val (.int (-1811939327 : Int32)), .val (.int (4 : Int32))] [(.int (1811939329 : Int32)), (.long (4294967296 : Int64)), (.ref a1)]))
  refine Go.step (fun t k => XS.i2l X33.here hx rfl (hb hby d1_294) rfl k) ?_
  show Go p e below _ (T33.setTop (mkF m 295 #[.val (.ref a1), .val (.int (1 : Int32)), .val (.int (2 : Int32)), .val (.ref a4), .val (.ref a5), .val (.long z15), .second, .val (.int (0 : Int32)), .val (.long v22), .second, .val (.long (1 : Int64)), .second, .val (.int (-1811939327 : Int32)), .val (.int (4 : Int32))] [(.long (1811939329 : Int64)), (.long (4294967296 : Int64)), (.ref a1)]))
  refine Go.step (fun t (k : Steps p.tables e below (T33.setTop (mkF m 296 #[.val (.ref a1), .val (.int (1 : Int32)), .val (.int (2 : Int32)), .val (.ref a4), .val (.ref a5), .val (.long z15), .second, .val (.int (0 : Int32)), .val (.long v22), .second, .val (.long (1 : Int64)), .second, .val (.int (-1811939327 : Int32)), .val (.int (4 : Int32))] [(.long (671088638 : Int64)), (.ref a1)])) t) => XS.lrem X33.here hx rfl (hb hby d1_295) rfl (by decide) (by rw [lrem_mod]; exact k)) ?_
  show Go p e below _ (T33.setTop (mkF m 296 #[.val (.ref a1), .val (.int (1 : Int32)), .val (.int (2 : Int32)), .val (.ref a4), .val (.ref a5), .val (.long z15), .second, .val (.int (0 : Int32)), .val (.long v22), .second, .val (.long (1 : Int64)), .second, .val (.int (-1811939327 : Int32)), .val (.int (4 : Int32))] [(.long (671088638 : Int64)), (.ref a1)]))
  refine Go.step (fun t k => XS.iloadN X33.here hx rfl (hb hby d1_296) rfl k) ?_
  show Go p e below _ (T33.setTop (mkF m 297 #[.val (.ref a1), .val (.int (1 : Int32)), .val (.int (2 : Int32)), .val (.ref a4), .val (.ref a5), .val (.long z15), .second, .val (.int (0 : Int32)), .val (.long v22), .second, .val (.long (1 : Int64)), .second, .val (.int (-1811939327 : Int32)), .val (.int (4 : Int32))] [(.int (2 : Int32)), (.long (671088638 : Int64)), (.ref a1)]))
  refine Go.step (fun t k => XS.i2l X33.here hx rfl (hb hby d1_297) rfl k) ?_
  show Go p e below _ (T33.setTop (mkF m 298 #[.val (.ref a1), .val (.int (1 : Int32)), .val (.int (2 : Int32)), .val (.ref a4), .val (.ref a5), .val (.long z15), .second, .val (.int (0 : Int32)), .val (.long v22), .second, .val (.long (1 : Int64)), .second, .val (.int (-1811939327 : Int32)), .val (.int (4 : Int32))] [(.long (2 : Int64)), (.long (671088638 : Int64)), (.ref a1)]))
  refine Go.step (fun t k => XS.aloadN X33.here hx rfl (hb hby d1_298) rfl rfl k) ?_
  show Go p e below _ (T33.setTop (mkF m 299 #[.val (.ref a1), .val (.int (1 : Int32)), .val (.int (2 : Int32)), .val (.ref a4), .val (.ref a5), .val (.long z15), .second, .val (.int (0 : Int32)), .val (.long v22), .second, .val (.long (1 : Int64)), .second, .val (.int (-1811939327 : Int32)), .val (.int (4 : Int32))] [(.ref a1), (.long (2 : Int64)), (.long (671088638 : Int64)), (.ref a1)]))
  obtain ⟨T34, X34, e34, st34⟩ := getF X33 hx hZ hown (host := "") (Or.inl (hw _ (List.mem_of_getElem? (i := 14) rfl))) Via.refl e33 F_prime_a1_32 (g := (mkF m 299 #[.val (.ref a1), .val (.int (1 : Int32)), .val (.int (2 : Int32)), .val (.ref a4), .val (.ref a5), .val (.long z15), .second, .val (.int (0 : Int32)), .val (.long v22), .second, .val (.long (1 : Int64)), .second, .val (.int (-1811939327 : Int32)), .val (.int (4 : Int32))] [(.ref a1), (.long (2 : Int64)), (.long (671088638 : Int64)), (.ref a1)])) rfl rfl (hb hby d1_299)
  refine Go.step st34 ?_
  show Go p e below _ (T34.setTop (mkF m 302 #[.val (.ref a1), .val (.int (1 : Int32)), .val (.int (2 : Int32)), .val (.ref a4), .val (.ref a5), .val (.long z15), .second, .val (.int (0 : Int32)), .val (.long v22), .second, .val (.long (1 : Int64)), .second, .val (.int (-1811939327 : Int32)), .val (.int (4 : Int32))] [(.int (1811939329 : Int32)), (.long (2 : Int64)), (.long (671088638 : Int64)), (.ref a1)]))
  refine Go.step (fun t k => XS.i2l X34.here hx rfl (hb hby d1_302) rfl k) ?_
  show Go p e below _ (T34.setTop (mkF m 303 #[.val (.ref a1), .val (.int (1 : Int32)), .val (.int (2 : Int32)), .val (.ref a4), .val (.ref a5), .val (.long z15), .second, .val (.int (0 : Int32)), .val (.long v22), .second, .val (.long (1 : Int64)), .second, .val (.int (-1811939327 : Int32)), .val (.int (4 : Int32))] [(.long (1811939329 : Int64)), (.long (2 : Int64)), (.long (671088638 : Int64)), (.ref a1)]))
  refine Go.step (X34.ldc2Long hx hown (mvT hZ (hw _ (List.mem_of_getElem? (i := 37) rfl))) (g := (mkF m 303 #[.val (.ref a1), .val (.int (1 : Int32)), .val (.int (2 : Int32)), .val (.ref a4), .val (.ref a5), .val (.long z15), .second, .val (.int (0 : Int32)), .val (.long v22), .second, .val (.long (1 : Int64)), .second, .val (.int (-1811939327 : Int32)), .val (.int (4 : Int32))] [(.long (1811939329 : Int64)), (.long (2 : Int64)), (.long (671088638 : Int64)), (.ref a1)])) rfl (hb hby d1_303)) ?_
  show Go p e below _ (T34.setTop (mkF m 306 #[.val (.ref a1), .val (.int (1 : Int32)), .val (.int (2 : Int32)), .val (.ref a4), .val (.ref a5), .val (.long z15), .second, .val (.int (0 : Int32)), .val (.long v22), .second, .val (.long (1 : Int64)), .second, .val (.int (-1811939327 : Int32)), .val (.int (4 : Int32))] [(.long (2 : Int64)), (.long (1811939329 : Int64)), (.long (2 : Int64)), (.long (671088638 : Int64)), (.ref a1)]))
  refine Go.step (fun t k => XS.lsub X34.here hx rfl (hb hby d1_306) rfl k) ?_
  show Go p e below _ (T34.setTop (mkF m 307 #[.val (.ref a1), .val (.int (1 : Int32)), .val (.int (2 : Int32)), .val (.ref a4), .val (.ref a5), .val (.long z15), .second, .val (.int (0 : Int32)), .val (.long v22), .second, .val (.long (1 : Int64)), .second, .val (.int (-1811939327 : Int32)), .val (.int (4 : Int32))] [(.long (1811939327 : Int64)), (.long (2 : Int64)), (.long (671088638 : Int64)), (.ref a1)]))
  refine Go.step (fun t k => XS.aloadN X34.here hx rfl (hb hby d1_307) rfl rfl k) ?_
  show Go p e below _ (T34.setTop (mkF m 308 #[.val (.ref a1), .val (.int (1 : Int32)), .val (.int (2 : Int32)), .val (.ref a4), .val (.ref a5), .val (.long z15), .second, .val (.int (0 : Int32)), .val (.long v22), .second, .val (.long (1 : Int64)), .second, .val (.int (-1811939327 : Int32)), .val (.int (4 : Int32))] [(.ref a1), (.long (1811939327 : Int64)), (.long (2 : Int64)), (.long (671088638 : Int64)), (.ref a1)]))
  obtain ⟨T35, X35, e35, st35⟩ := getF X34 hx hZ hown (host := "") (Or.inl (hw _ (List.mem_of_getElem? (i := 14) rfl))) Via.refl e34 F_prime_a1_32 (g := (mkF m 308 #[.val (.ref a1), .val (.int (1 : Int32)), .val (.int (2 : Int32)), .val (.ref a4), .val (.ref a5), .val (.long z15), .second, .val (.int (0 : Int32)), .val (.long v22), .second, .val (.long (1 : Int64)), .second, .val (.int (-1811939327 : Int32)), .val (.int (4 : Int32))] [(.ref a1), (.long (1811939327 : Int64)), (.long (2 : Int64)), (.long (671088638 : Int64)), (.ref a1)])) rfl rfl (hb hby d1_308)
  refine Go.step st35 ?_
  show Go p e below _ (T35.setTop (mkF m 311 #[.val (.ref a1), .val (.int (1 : Int32)), .val (.int (2 : Int32)), .val (.ref a4), .val (.ref a5), .val (.long z15), .second, .val (.int (0 : Int32)), .val (.long v22), .second, .val (.long (1 : Int64)), .second, .val (.int (-1811939327 : Int32)), .val (.int (4 : Int32))] [(.int (1811939329 : Int32)), (.long (1811939327 : Int64)), (.long (2 : Int64)), (.long (671088638 : Int64)), (.ref a1)]))
  obtain ⟨_, _, ⟨T36, L36, k36, n36⟩, -, X36, ⟨Lc36, hQ36, l36, y36, z36⟩, st36⟩ := Jvm.LawKit.callS X35 hx (y := (⟨"com/example/tinwire/tinwire/json/Transform", "power", "(JJI)J"⟩ : MethodName)) hown (mvT hZ (hw _ (List.mem_of_getElem? (i := 24) rfl))) (mvT hZ (hw _ (List.mem_of_getElem? (i := 25) rfl))) (mvT hZ (hw _ (List.mem_of_getElem? (i := 2) rfl))) (mvT hZ (hw _ (List.mem_of_getElem? (i := 26) rfl))) (by decide) (backOf (W := 3) (rm3 l Z a0 hw [] (2 : Int64) (1811939327 : Int64) (1811939329 : Int32) h32 n0 Z32 ((by decide) : ¬ (((1811939329 : Int32).toInt64) = (0 : Int64))) ((by decide) : ¬ (((1811939329 : Int32).toInt64) = (0 : Int64))) ((by decide) : ¬ (((1811939329 : Int32).toInt64) = (0 : Int64)))) hZ (hw _ (List.mem_of_getElem? (i := 26) rfl)) (hw _ (List.mem_of_getElem? (i := 2) rfl)) (by decide) (by decide)) (g := (mkF m 311 #[.val (.ref a1), .val (.int (1 : Int32)), .val (.int (2 : Int32)), .val (.ref a4), .val (.ref a5), .val (.long z15), .second, .val (.int (0 : Int32)), .val (.long v22), .second, .val (.long (1 : Int64)), .second, .val (.int (-1811939327 : Int32)), .val (.int (4 : Int32))] [(.int (1811939329 : Int32)), (.long (1811939327 : Int64)), (.long (2 : Int64)), (.long (671088638 : Int64)), (.ref a1)])) rfl (by rw [hml]; rfl) (argsL := [(.long (2 : Int64)), (.long (1811939327 : Int64)), (.int (1811939329 : Int32))]) (rest := [(.long (671088638 : Int64)), (.ref a1)]) (lenOf pd_0 rfl) rfl (by show 2 * 0 + _ ≤ _; exact Nat.le_of_eq rfl) (hb hby d1_311) (fun _ _ => ⟨rfl, e35, (by decide : 0 + 0 ≤ _), (by decide : 0 + 0 ≤ _)⟩)
  dsimp only [Pt.U, Pt.locs, Pt.cells, Pt.slots] at X36 l36 y36 z36 st36 hQ36
  subst l36 y36 z36
  obtain ⟨⟨z36, rfl⟩, N36q, e36⟩ := hQ36
  have N36 := Fr.app N32 N36q
  refine Go.step st36 ?_
  show Go p e below _ (T36.setTop (mkF m 314 #[.val (.ref a1), .val (.int (1 : Int32)), .val (.int (2 : Int32)), .val (.ref a4), .val (.ref a5), .val (.long z15), .second, .val (.int (0 : Int32)), .val (.long v22), .second, .val (.long (1 : Int64)), .second, .val (.int (-1811939327 : Int32)), .val (.int (4 : Int32))] [(.long z36), (.long (671088638 : Int64)), (.ref a1)]))
  refine Go.step (fun t k => XS.lmul X36.here hx rfl (hb hby d1_314) rfl k) ?_
  show Go p e below _ (T36.setTop (mkF m 315 #[.val (.ref a1), .val (.int (1 : Int32)), .val (.int (2 : Int32)), .val (.ref a4), .val (.ref a5), .val (.long z15), .second, .val (.int (0 : Int32)), .val (.long v22), .second, .val (.long (1 : Int64)), .second, .val (.int (-1811939327 : Int32)), .val (.int (4 : Int32))] [(.long ((671088638 : Int64) * z36)), (.ref a1)]))
  refine Go.step (fun t k => XS.aloadN X36.here hx rfl (hb hby d1_315) rfl rfl k) ?_
  show Go p e below _ (T36.setTop (mkF m 316 #[.val (.ref a1), .val (.int (1 : Int32)), .val (.int (2 : Int32)), .val (.ref a4), .val (.ref a5), .val (.long z15), .second, .val (.int (0 : Int32)), .val (.long v22), .second, .val (.long (1 : Int64)), .second, .val (.int (-1811939327 : Int32)), .val (.int (4 : Int32))] [(.ref a1), (.long ((671088638 : Int64) * z36)), (.ref a1)]))
  obtain ⟨T37, X37, e37, st37⟩ := getF X36 hx hZ hown (host := "") (Or.inl (hw _ (List.mem_of_getElem? (i := 14) rfl))) Via.refl e36 F_prime_a1_32 (g := (mkF m 316 #[.val (.ref a1), .val (.int (1 : Int32)), .val (.int (2 : Int32)), .val (.ref a4), .val (.ref a5), .val (.long z15), .second, .val (.int (0 : Int32)), .val (.long v22), .second, .val (.long (1 : Int64)), .second, .val (.int (-1811939327 : Int32)), .val (.int (4 : Int32))] [(.ref a1), (.long ((671088638 : Int64) * z36)), (.ref a1)])) rfl rfl (hb hby d1_316)
  refine Go.step st37 ?_
  show Go p e below _ (T37.setTop (mkF m 319 #[.val (.ref a1), .val (.int (1 : Int32)), .val (.int (2 : Int32)), .val (.ref a4), .val (.ref a5), .val (.long z15), .second, .val (.int (0 : Int32)), .val (.long v22), .second, .val (.long (1 : Int64)), .second, .val (.int (-1811939327 : Int32)), .val (.int (4 : Int32))] [(.int (1811939329 : Int32)), (.long ((671088638 : Int64) * z36)), (.ref a1)]))
  refine Go.step (fun t k => XS.i2l X37.here hx rfl (hb hby d1_319) rfl k) ?_
  show Go p e below _ (T37.setTop (mkF m 320 #[.val (.ref a1), .val (.int (1 : Int32)), .val (.int (2 : Int32)), .val (.ref a4), .val (.ref a5), .val (.long z15), .second, .val (.int (0 : Int32)), .val (.long v22), .second, .val (.long (1 : Int64)), .second, .val (.int (-1811939327 : Int32)), .val (.int (4 : Int32))] [(.long (1811939329 : Int64)), (.long ((671088638 : Int64) * z36)), (.ref a1)]))
  refine Go.step (fun t (k : Steps p.tables e below (T37.setTop (mkF m 321 #[.val (.ref a1), .val (.int (1 : Int32)), .val (.int (2 : Int32)), .val (.ref a4), .val (.ref a5), .val (.long z15), .second, .val (.int (0 : Int32)), .val (.long v22), .second, .val (.long (1 : Int64)), .second, .val (.int (-1811939327 : Int32)), .val (.int (4 : Int32))] [(.long (((671088638 : Int64) * z36) % (1811939329 : Int64))), (.ref a1)])) t) => XS.lrem X37.here hx rfl (hb hby d1_320) rfl (by decide) (by rw [lrem_mod]; exact k)) ?_
  show Go p e below _ (T37.setTop (mkF m 321 #[.val (.ref a1), .val (.int (1 : Int32)), .val (.int (2 : Int32)), .val (.ref a4), .val (.ref a5), .val (.long z15), .second, .val (.int (0 : Int32)), .val (.long v22), .second, .val (.long (1 : Int64)), .second, .val (.int (-1811939327 : Int32)), .val (.int (4 : Int32))] [(.long (((671088638 : Int64) * z36) % (1811939329 : Int64))), (.ref a1)]))
  refine Go.step (fun t k => XS.l2i X37.here hx rfl (hb hby d1_321) rfl k) ?_
  show Go p e below _ (T37.setTop (mkF m 322 #[.val (.ref a1), .val (.int (1 : Int32)), .val (.int (2 : Int32)), .val (.ref a4), .val (.ref a5), .val (.long z15), .second, .val (.int (0 : Int32)), .val (.long v22), .second, .val (.long (1 : Int64)), .second, .val (.int (-1811939327 : Int32)), .val (.int (4 : Int32))] [(.int ((((671088638 : Int64) * z36) % (1811939329 : Int64)).toInt32)), (.ref a1)]))
  obtain ⟨T38, h38, X38, e38, W38, st38⟩ := putF X37 hx hZ hown (host := "") (Or.inl (hw _ (List.mem_of_getElem? (i := 38) rfl))) Via.refl e37 F_scale_a1_32 E_a1_32 (Or.inr ⟨(hw _ (List.mem_of_getElem? (i := 39) rfl)), rfl, hnm⟩) (hw _ (List.mem_of_getElem? (i := 6) rfl)) (ty := .int) (by decide) rfl rfl (g := (mkF m 322 #[.val (.ref a1), .val (.int (1 : Int32)), .val (.int (2 : Int32)), .val (.ref a4), .val (.ref a5), .val (.long z15), .second, .val (.int (0 : Int32)), .val (.long v22), .second, .val (.long (1 : Int64)), .second, .val (.int (-1811939327 : Int32)), .val (.int (4 : Int32))] [(.int ((((671088638 : Int64) * z36) % (1811939329 : Int64)).toInt32)), (.ref a1)])) rfl rfl (hb hby d1_322)
  refine Go.step st38 ?_
  have N38 := Fr.snoc X38 N36 g_a1
  have F_length_a1_38 := F_length_a1_32.other W38 (Or.inr (slot_ne (Or.inr (hw _ (List.mem_of_getElem? (i := 17) rfl))) (Or.inr (hw _ (List.mem_of_getElem? (i := 39) rfl))) (by decide) (t := .int) (t' := .int) (by decide) (by decide)))
  have F_roots_a1_38 := F_roots_a1_32.other W38 (Or.inr (slot_ne (Or.inr (hw _ (List.mem_of_getElem? (i := 19) rfl))) (Or.inr (hw _ (List.mem_of_getElem? (i := 39) rfl))) (by decide) (t := (.array .int)) (t' := .int) (by decide) (by decide)))
  have F_rootQuotients_a1_38 := F_rootQuotients_a1_32.other W38 (Or.inr (slot_ne (Or.inr (hw _ (List.mem_of_getElem? (i := 21) rfl))) (Or.inr (hw _ (List.mem_of_getElem? (i := 39) rfl))) (by decide) (t := (.array .int)) (t' := .int) (by decide) (by decide)))
  have F_outerRoot_a1_38 := F_outerRoot_a1_32.other W38 (Or.inr (slot_ne (Or.inr (hw _ (List.mem_of_getElem? (i := 28) rfl))) (Or.inr (hw _ (List.mem_of_getElem? (i := 39) rfl))) (by decide) (t := .int) (t' := .int) (by decide) (by decide)))
  have F_outerRootQuotient_a1_38 := F_outerRootQuotient_a1_32.other W38 (Or.inr (slot_ne (Or.inr (hw _ (List.mem_of_getElem? (i := 33) rfl))) (Or.inr (hw _ (List.mem_of_getElem? (i := 39) rfl))) (by decide) (t := .int) (t' := .int) (by decide) (by decide)))
  have F_negativeInverse_a1_38 := F_negativeInverse_a1_32.other W38 (Or.inr (slot_ne (Or.inr (hw _ (List.mem_of_getElem? (i := 35) rfl))) (Or.inr (hw _ (List.mem_of_getElem? (i := 39) rfl))) (by decide) (t := .int) (t' := .int) (by decide) (by decide)))
  have F_scaleQuotient_a1_38 := F_scaleQuotient_a1_32.other W38 (Or.inr (slot_ne (Or.inr (hw _ (List.mem_of_getElem? (i := 41) rfl))) (Or.inr (hw _ (List.mem_of_getElem? (i := 39) rfl))) (by decide) (t := .int) (t' := .int) (by decide) (by decide)))
  have E_a1_38 := E_a1_32.wr W38
  have F_prime_a1_38 := F_prime_a1_32.other W38 (Or.inr (slot_ne (Or.inr (hw _ (List.mem_of_getElem? (i := 15) rfl))) (Or.inr (hw _ (List.mem_of_getElem? (i := 39) rfl))) (by decide) (t := .int) (t' := .int) (by decide) (by decide)))
  have A_a4_38 := A_a4_32.other W38 hne_a4_a1
  have A_a5_38 := A_a5_32.other W38 hne_a5_a1
  have O38 := O32.wr W38 g_a1
  have Z38 := Nat.le_trans Z32 (Keep.of_wr W38).1
  have KK38 : Keep h0 h38 [a1, a4, a5] := KK32.wr W38 (Or.inl (by simp))
  have F_scale_a1_38 := F_scale_a1_32.same W38
  show Go p e below _ (T38.setTop (mkF m 325 #[.val (.ref a1), .val (.int (1 : Int32)), .val (.int (2 : Int32)), .val (.ref a4), .val (.ref a5), .val (.long z15), .second, .val (.int (0 : Int32)), .val (.long v22), .second, .val (.long (1 : Int64)), .second, .val (.int (-1811939327 : Int32)), .val (.int (4 : Int32))] []))
  refine Go.step (fun t k => XS.aloadN X38.here hx rfl (hb hby d1_325) rfl rfl k) ?_
  show Go p e below _ (T38.setTop (mkF m 326 #[.val (.ref a1), .val (.int (1 : Int32)), .val (.int (2 : Int32)), .val (.ref a4), .val (.ref a5), .val (.long z15), .second, .val (.int (0 : Int32)), .val (.long v22), .second, .val (.long (1 : Int64)), .second, .val (.int (-1811939327 : Int32)), .val (.int (4 : Int32))] [(.ref a1)]))
  refine Go.step (fun t k => XS.aloadN X38.here hx rfl (hb hby d1_326) rfl rfl k) ?_
  show Go p e below _ (T38.setTop (mkF m 327 #[.val (.ref a1), .val (.int (1 : Int32)), .val (.int (2 : Int32)), .val (.ref a4), .val (.ref a5), .val (.long z15), .second, .val (.int (0 : Int32)), .val (.long v22), .second, .val (.long (1 : Int64)), .second, .val (.int (-1811939327 : Int32)), .val (.int (4 : Int32))] [(.ref a1), (.ref a1)]))
  obtain ⟨T39, X39, e39, st39⟩ := getF X38 hx hZ hown (host := "") (Or.inl (hw _ (List.mem_of_getElem? (i := 38) rfl))) Via.refl e38 F_scale_a1_38 (g := (mkF m 327 #[.val (.ref a1), .val (.int (1 : Int32)), .val (.int (2 : Int32)), .val (.ref a4), .val (.ref a5), .val (.long z15), .second, .val (.int (0 : Int32)), .val (.long v22), .second, .val (.long (1 : Int64)), .second, .val (.int (-1811939327 : Int32)), .val (.int (4 : Int32))] [(.ref a1), (.ref a1)])) rfl rfl (hb hby d1_327)
  refine Go.step st39 ?_
  show Go p e below _ (T39.setTop (mkF m 330 #[.val (.ref a1), .val (.int (1 : Int32)), .val (.int (2 : Int32)), .val (.ref a4), .val (.ref a5), .val (.long z15), .second, .val (.int (0 : Int32)), .val (.long v22), .second, .val (.long (1 : Int64)), .second, .val (.int (-1811939327 : Int32)), .val (.int (4 : Int32))] [(.int ((((671088638 : Int64) * z36) % (1811939329 : Int64)).toInt32)), (.ref a1)]))
  refine Go.step (fun t k => XS.aloadN X39.here hx rfl (hb hby d1_330) rfl rfl k) ?_
  show Go p e below _ (T39.setTop (mkF m 331 #[.val (.ref a1), .val (.int (1 : Int32)), .val (.int (2 : Int32)), .val (.ref a4), .val (.ref a5), .val (.long z15), .second, .val (.int (0 : Int32)), .val (.long v22), .second, .val (.long (1 : Int64)), .second, .val (.int (-1811939327 : Int32)), .val (.int (4 : Int32))] [(.ref a1), (.int ((((671088638 : Int64) * z36) % (1811939329 : Int64)).toInt32)), (.ref a1)]))
  obtain ⟨T40, X40, e40, st40⟩ := getF X39 hx hZ hown (host := "") (Or.inl (hw _ (List.mem_of_getElem? (i := 14) rfl))) Via.refl e39 F_prime_a1_38 (g := (mkF m 331 #[.val (.ref a1), .val (.int (1 : Int32)), .val (.int (2 : Int32)), .val (.ref a4), .val (.ref a5), .val (.long z15), .second, .val (.int (0 : Int32)), .val (.long v22), .second, .val (.long (1 : Int64)), .second, .val (.int (-1811939327 : Int32)), .val (.int (4 : Int32))] [(.ref a1), (.int ((((671088638 : Int64) * z36) % (1811939329 : Int64)).toInt32)), (.ref a1)])) rfl rfl (hb hby d1_331)
  refine Go.step st40 ?_
  show Go p e below _ (T40.setTop (mkF m 334 #[.val (.ref a1), .val (.int (1 : Int32)), .val (.int (2 : Int32)), .val (.ref a4), .val (.ref a5), .val (.long z15), .second, .val (.int (0 : Int32)), .val (.long v22), .second, .val (.long (1 : Int64)), .second, .val (.int (-1811939327 : Int32)), .val (.int (4 : Int32))] [(.int (1811939329 : Int32)), (.int ((((671088638 : Int64) * z36) % (1811939329 : Int64)).toInt32)), (.ref a1)]))
  obtain ⟨_, _, ⟨T41, L41, k41, n41⟩, -, X41, ⟨Lc41, hQ41, l41, y41, z41⟩, st41⟩ := Jvm.LawKit.callS X40 hx (y := (⟨"com/example/tinwire/tinwire/json/Transform", "quotient", "(II)I"⟩ : MethodName)) hown (mvT hZ (hw _ (List.mem_of_getElem? (i := 29) rfl))) (mvT hZ (hw _ (List.mem_of_getElem? (i := 30) rfl))) (mvT hZ (hw _ (List.mem_of_getElem? (i := 2) rfl))) (mvT hZ (hw _ (List.mem_of_getElem? (i := 31) rfl))) (by decide) (backOf (W := 1) (rm4 l Z a0 hw [] ((((671088638 : Int64) * z36) % (1811939329 : Int64)).toInt32) (1811939329 : Int32) h38 n0 Z38 ((by decide) : ¬ (((1811939329 : Int32).toInt64) = (0 : Int64)))) hZ (hw _ (List.mem_of_getElem? (i := 31) rfl)) (hw _ (List.mem_of_getElem? (i := 2) rfl)) (by decide) (by decide)) (g := (mkF m 334 #[.val (.ref a1), .val (.int (1 : Int32)), .val (.int (2 : Int32)), .val (.ref a4), .val (.ref a5), .val (.long z15), .second, .val (.int (0 : Int32)), .val (.long v22), .second, .val (.long (1 : Int64)), .second, .val (.int (-1811939327 : Int32)), .val (.int (4 : Int32))] [(.int (1811939329 : Int32)), (.int ((((671088638 : Int64) * z36) % (1811939329 : Int64)).toInt32)), (.ref a1)])) rfl (by rw [hml]; rfl) (argsL := [(.int ((((671088638 : Int64) * z36) % (1811939329 : Int64)).toInt32)), (.int (1811939329 : Int32))]) (rest := [(.ref a1)]) (lenOf pd_1 rfl) rfl (by show 2 * 0 + _ ≤ _; exact Nat.le_of_eq rfl) (hb hby d1_334) (fun _ _ => ⟨rfl, e40, (by decide : 0 + 0 ≤ _), (by decide : 0 + 0 ≤ _)⟩)
  dsimp only [Pt.U, Pt.locs, Pt.cells, Pt.slots] at X41 l41 y41 z41 st41 hQ41
  subst l41 y41 z41
  obtain ⟨rfl, N41q, e41⟩ := hQ41
  have N41 := Fr.app N38 N41q
  refine Go.step st41 ?_
  show Go p e below _ (T41.setTop (mkF m 337 #[.val (.ref a1), .val (.int (1 : Int32)), .val (.int (2 : Int32)), .val (.ref a4), .val (.ref a5), .val (.long z15), .second, .val (.int (0 : Int32)), .val (.long v22), .second, .val (.long (1 : Int64)), .second, .val (.int (-1811939327 : Int32)), .val (.int (4 : Int32))] [(.int (f4 ((((671088638 : Int64) * z36) % (1811939329 : Int64)).toInt32) (1811939329 : Int32))), (.ref a1)]))
  obtain ⟨T42, h42, X42, e42, W42, st42⟩ := putF X41 hx hZ hown (host := "") (Or.inl (hw _ (List.mem_of_getElem? (i := 40) rfl))) Via.refl e41 F_scaleQuotient_a1_38 E_a1_38 (Or.inr ⟨(hw _ (List.mem_of_getElem? (i := 41) rfl)), rfl, hnm⟩) (hw _ (List.mem_of_getElem? (i := 6) rfl)) (ty := .int) (by decide) rfl rfl (g := (mkF m 337 #[.val (.ref a1), .val (.int (1 : Int32)), .val (.int (2 : Int32)), .val (.ref a4), .val (.ref a5), .val (.long z15), .second, .val (.int (0 : Int32)), .val (.long v22), .second, .val (.long (1 : Int64)), .second, .val (.int (-1811939327 : Int32)), .val (.int (4 : Int32))] [(.int (f4 ((((671088638 : Int64) * z36) % (1811939329 : Int64)).toInt32) (1811939329 : Int32))), (.ref a1)])) rfl rfl (hb hby d1_337)
  refine Go.step st42 ?_
  have N42 := Fr.snoc X42 N41 g_a1
  have F_length_a1_42 := F_length_a1_38.other W42 (Or.inr (slot_ne (Or.inr (hw _ (List.mem_of_getElem? (i := 17) rfl))) (Or.inr (hw _ (List.mem_of_getElem? (i := 41) rfl))) (by decide) (t := .int) (t' := .int) (by decide) (by decide)))
  have F_roots_a1_42 := F_roots_a1_38.other W42 (Or.inr (slot_ne (Or.inr (hw _ (List.mem_of_getElem? (i := 19) rfl))) (Or.inr (hw _ (List.mem_of_getElem? (i := 41) rfl))) (by decide) (t := (.array .int)) (t' := .int) (by decide) (by decide)))
  have F_rootQuotients_a1_42 := F_rootQuotients_a1_38.other W42 (Or.inr (slot_ne (Or.inr (hw _ (List.mem_of_getElem? (i := 21) rfl))) (Or.inr (hw _ (List.mem_of_getElem? (i := 41) rfl))) (by decide) (t := (.array .int)) (t' := .int) (by decide) (by decide)))
  have F_outerRoot_a1_42 := F_outerRoot_a1_38.other W42 (Or.inr (slot_ne (Or.inr (hw _ (List.mem_of_getElem? (i := 28) rfl))) (Or.inr (hw _ (List.mem_of_getElem? (i := 41) rfl))) (by decide) (t := .int) (t' := .int) (by decide) (by decide)))
  have F_outerRootQuotient_a1_42 := F_outerRootQuotient_a1_38.other W42 (Or.inr (slot_ne (Or.inr (hw _ (List.mem_of_getElem? (i := 33) rfl))) (Or.inr (hw _ (List.mem_of_getElem? (i := 41) rfl))) (by decide) (t := .int) (t' := .int) (by decide) (by decide)))
  have F_negativeInverse_a1_42 := F_negativeInverse_a1_38.other W42 (Or.inr (slot_ne (Or.inr (hw _ (List.mem_of_getElem? (i := 35) rfl))) (Or.inr (hw _ (List.mem_of_getElem? (i := 41) rfl))) (by decide) (t := .int) (t' := .int) (by decide) (by decide)))
  have F_scale_a1_42 := F_scale_a1_38.other W42 (Or.inr (slot_ne (Or.inr (hw _ (List.mem_of_getElem? (i := 39) rfl))) (Or.inr (hw _ (List.mem_of_getElem? (i := 41) rfl))) (by decide) (t := .int) (t' := .int) (by decide) (by decide)))
  have E_a1_42 := E_a1_38.wr W42
  have F_prime_a1_42 := F_prime_a1_38.other W42 (Or.inr (slot_ne (Or.inr (hw _ (List.mem_of_getElem? (i := 15) rfl))) (Or.inr (hw _ (List.mem_of_getElem? (i := 41) rfl))) (by decide) (t := .int) (t' := .int) (by decide) (by decide)))
  have A_a4_42 := A_a4_38.other W42 hne_a4_a1
  have A_a5_42 := A_a5_38.other W42 hne_a5_a1
  have O42 := O38.wr W42 g_a1
  have Z42 := Nat.le_trans Z38 (Keep.of_wr W42).1
  have KK42 : Keep h0 h42 [a1, a4, a5] := KK38.wr W42 (Or.inl (by simp))
  have F_scaleQuotient_a1_42 := F_scaleQuotient_a1_38.same W42
  show Go p e below _ (T42.setTop (mkF m 340 #[.val (.ref a1), .val (.int (1 : Int32)), .val (.int (2 : Int32)), .val (.ref a4), .val (.ref a5), .val (.long z15), .second, .val (.int (0 : Int32)), .val (.long v22), .second, .val (.long (1 : Int64)), .second, .val (.int (-1811939327 : Int32)), .val (.int (4 : Int32))] []))
  subst hv22
  refine retGV X42 hx Bd.notSynchronized Bd.returns (hb hby d1_340) ?_ (by decide) (by decide)
  show Q1_1 Z a1 a4 a5 g_a4f g_a5f u_length_a1 u_roots_a1 u_rootQuotients_a1 u_outerRoot_a1 u_outerRootQuotient_a1 u_negativeInverse_a1 u_scale_a1 u_scaleQuotient_a1 oP u_prime_a1 oG h0 n0 _ T42.heap _
  rw [e42]
  exact ⟨rfl, N42, KK42, F_length_a1_42, F_negativeInverse_a1_42, E_a1_42, F_prime_a1_42⟩
theorem ef_1_2 (m : MethodId) (a1 : Addr) (a4 : Addr) (a5 : Addr) : entryFrame m #[(.ref a1), (.int (2 : Int32)), (.int (2 : Int32)), (.ref a4), (.ref a5)] 14 = mkF m 0 #[.val (.ref a1), .val (.int (2 : Int32)), .val (.int (2 : Int32)), .val (.ref a4), .val (.ref a5), .unset, .unset, .unset, .unset, .unset, .unset, .unset, .unset, .unset] [] := by first | (simp [entryFrame, mkF, argsToLocals, Value.category]; done) | rfl
def Q1_2 (Z : State) (a1 : Addr) (a4 : Addr) (a5 : Addr) (g_a4f : Nat → Int32) (g_a5f : Nat → Int32) (u_length_a1 : Value) (u_roots_a1 : Value) (u_rootQuotients_a1 : Value) (u_outerRoot_a1 : Value) (u_outerRootQuotient_a1 : Value) (u_negativeInverse_a1 : Value) (u_scale_a1 : Value) (u_scaleQuotient_a1 : Value) (oP : Addr) (u_prime_a1 : Value) (oG : Addr) (h0 : Heap) (n0 : Nat) (v : Option Value) (h : Heap) (L : List Loc) : Prop := v = none ∧ Fr n0 L ∧ Keep h0 h [a1, a4, a5] ∧ Fld Z h a1 "com/example/tinwire/tinwire/json/Transform" "length" "I" (.int (2 : Int32)) ∧ Fld Z h a1 "com/example/tinwire/tinwire/json/Transform" "negativeInverse" "I" (.int (469762047 : Int32)) ∧ Exa Z h a1 "com/example/tinwire/tinwire/json/Transform" ∧ Fld Z h a1 "com/example/tinwire/tinwire/json/Transform" "prime" "I" (.int (469762049 : Int32))
set_option maxRecDepth 65536 in
set_option maxHeartbeats 40000000 in
theorem rm1_2 (l : Launch) (Z : State) (a0 : Array Value) (hw : ∀ d ∈ tables_1, d.before a0 Z = true) (ws : List Jvm.Cond) (a1 : Addr) (a4 : Addr) (a5 : Addr) (g_a4f : Nat → Int32) (g_a5f : Nat → Int32) (u_length_a1 : Value) (u_roots_a1 : Value) (u_rootQuotients_a1 : Value) (u_outerRoot_a1 : Value) (u_outerRootQuotient_a1 : Value) (u_negativeInverse_a1 : Value) (u_scale_a1 : Value) (u_scaleQuotient_a1 : Value) (oP : Addr) (u_prime_a1 : Value) (oG : Addr) (h0 : Heap) (n0 : Nat) (Z0 : n0 ≤ h0.size) (A_a4 : Ary Z h0 a4 .int 1 (fun i => .int (g_a4f i))) (A_a5 : Ary Z h0 a5 .int 1 (fun i => .int (g_a5f i))) (F_length_a1 : Fld Z h0 a1 "com/example/tinwire/tinwire/json/Transform" "length" "I" u_length_a1) (F_roots_a1 : Fld Z h0 a1 "com/example/tinwire/tinwire/json/Transform" "roots" "[I" u_roots_a1) (F_rootQuotients_a1 : Fld Z h0 a1 "com/example/tinwire/tinwire/json/Transform" "rootQuotients" "[I" u_rootQuotients_a1) (F_outerRoot_a1 : Fld Z h0 a1 "com/example/tinwire/tinwire/json/Transform" "outerRoot" "I" u_outerRoot_a1) (F_outerRootQuotient_a1 : Fld Z h0 a1 "com/example/tinwire/tinwire/json/Transform" "outerRootQuotient" "I" u_outerRootQuotient_a1) (F_negativeInverse_a1 : Fld Z h0 a1 "com/example/tinwire/tinwire/json/Transform" "negativeInverse" "I" u_negativeInverse_a1) (F_scale_a1 : Fld Z h0 a1 "com/example/tinwire/tinwire/json/Transform" "scale" "I" u_scale_a1) (F_scaleQuotient_a1 : Fld Z h0 a1 "com/example/tinwire/tinwire/json/Transform" "scaleQuotient" "I" u_scaleQuotient_a1) (S_PRIMES : Sta Z Z.heap "com/example/tinwire/tinwire/json/Transform" "PRIMES" "[I" (.ref oP)) (A_PRIMES : Ary Z Z.heap oP .int 3 (fun i => .int (primT i))) (hO : Old Z n0 h0) (E_a1 : Exa Z h0 a1 "com/example/tinwire/tinwire/json/Transform") (F_prime_a1 : Fld Z h0 a1 "com/example/tinwire/tinwire/json/Transform" "prime" "I" u_prime_a1) (g_a1 : n0 ≤ a1) (hne_a4_a1 : a4 ≠ a1) (hne_a5_a1 : a5 ≠ a1) (S_GENERATORS : Sta Z Z.heap "com/example/tinwire/tinwire/json/Transform" "GENERATORS" "[I" (.ref oG)) (A_GENERATORS : Ary Z Z.heap oG .int 3 (fun i => .int (genT i))) (g_a4 : n0 ≤ a4) (hne_a5_a4 : a5 ≠ a4) (hne_a1_a4 : a1 ≠ a4) (g_a5 : n0 ≤ a5) (hne_a1_a5 : a1 ≠ a5) (hne_a4_a5 : a4 ≠ a5) :
    MetFree l (⟨"com/example/tinwire/tinwire/json/Transform", "<init>", "(II[I[I)V"⟩ : MethodName) (head1 (Jvm.Cond.code (⟨"com/example/tinwire/tinwire/json/Transform", "<init>", "(II[I[I)V"⟩ : MethodName) prog_48_method_1_code 14 none :: ws) ({ frames := 1, cells := 0, slots := 0, locals := 25 } : Room)) (fun a U => a = #[(.ref a1), (.int (2 : Int32)), (.int (2 : Int32)), (.ref a4), (.ref a5)] ∧ Z.Warmed39 U.vm ∧ U.heap = h0) (fun _ _ _ _ _ => True) (fun _ U o U' => ∃ v L, o = .returned v ∧ Q1_2 Z a1 a4 a5 g_a4f g_a5f u_length_a1 u_roots_a1 u_rootQuotients_a1 u_outerRoot_a1 u_outerRootQuotient_a1 u_negativeInverse_a1 u_scale_a1 u_scaleQuotient_a1 oP u_prime_a1 oG h0 n0 v U'.heap L ∧ FrameEnd U o U' L ({ frames := 1, cells := 0, slots := 0, locals := 25 } : Room).cells ({ frames := 1, cells := 0, slots := 0, locals := 25 } : Room).slots) := by
  refine MetFree.of_bodySF (plainFor_of_name pn_0) hisR ?_
  intro p e s m args below meth c s₁ Bd hml0 hP hK
  obtain ⟨rfl, hZ, hh⟩ := hP
  have hx := Bd.exec
  have hby := Bd.bytes
  have hml : c.maxLocals = 14 := hml0
  have hown : s.vm.findClass "com/example/tinwire/tinwire/json/Transform" = some m.cls := findClass_of_methodNamed Bd.named
  have hnm := (name_of_methodNamed Bd.named Bd.method).1
  have X0 : Stand p l e ({ frames := 1, cells := 0, slots := 0, locals := 25 } : Room) s m #[(.ref a1), (.int (2 : Int32)), (.int (2 : Int32)), (.ref a4), (.ref a5)] below meth c s₁ [] 0 0 := Stand.of_body Bd
  have e0 : s₁.heap = h0 := by rw [← hh, Bd.state]; rfl
  have N0 := Fr.nil n0
  refine Go.done (Go.step (fun t k => castTop (ef_1_2 m a1 a4 a5) k) ?_)
  have KK0 : Keep h0 h0 [a1, a4, a5] := Keep.refl _ _
  show Go p e below _ (s₁.setTop (mkF m 0 #[.val (.ref a1), .val (.int (2 : Int32)), .val (.int (2 : Int32)), .val (.ref a4), .val (.ref a5), .unset, .unset, .unset, .unset, .unset, .unset, .unset, .unset, .unset] []))
  refine Go.step (fun t k => XS.aloadN X0.here hx rfl (hb hby d1_0) rfl rfl k) ?_
  show Go p e below _ (s₁.setTop (mkF m 1 #[.val (.ref a1), .val (.int (2 : Int32)), .val (.int (2 : Int32)), .val (.ref a4), .val (.ref a5), .unset, .unset, .unset, .unset, .unset, .unset, .unset, .unset, .unset] [(.ref a1)]))
  obtain ⟨T6, X6, e6, st6⟩ := initO X0 hx hZ hown (hw _ (List.mem_of_getElem? (i := 10) rfl)) (hw _ (List.mem_of_getElem? (i := 11) rfl)) (hw _ (List.mem_of_getElem? (i := 12) rfl)) e0 (g := (mkF m 1 #[.val (.ref a1), .val (.int (2 : Int32)), .val (.int (2 : Int32)), .val (.ref a4), .val (.ref a5), .unset, .unset, .unset, .unset, .unset, .unset, .unset, .unset, .unset] [(.ref a1)])) rfl (by rw [hml]; rfl) rfl (hb hby d1_1) (by decide) (W := 0) (by show 2 * 0 + _ ≤ _; exact Nat.le_of_eq rfl) (by decide)
  refine Go.step st6 ?_
  show Go p e below _ (T6.setTop (mkF m 4 #[.val (.ref a1), .val (.int (2 : Int32)), .val (.int (2 : Int32)), .val (.ref a4), .val (.ref a5), .unset, .unset, .unset, .unset, .unset, .unset, .unset, .unset, .unset] []))
  refine Go.step (fun t k => XS.aloadN X6.here hx rfl (hb hby d1_4) rfl rfl k) ?_
  show Go p e below _ (T6.setTop (mkF m 5 #[.val (.ref a1), .val (.int (2 : Int32)), .val (.int (2 : Int32)), .val (.ref a4), .val (.ref a5), .unset, .unset, .unset, .unset, .unset, .unset, .unset, .unset, .unset] [(.ref a1)]))
  obtain ⟨T7, X7, e7, st7⟩ := getS2 X6 hx hZ hown (host := "") (Or.inl (hw _ (List.mem_of_getElem? (i := 13) rfl))) Via.refl e6 (S_PRIMES.ext hO.2) (g := (mkF m 5 #[.val (.ref a1), .val (.int (2 : Int32)), .val (.int (2 : Int32)), .val (.ref a4), .val (.ref a5), .unset, .unset, .unset, .unset, .unset, .unset, .unset, .unset, .unset] [(.ref a1)])) rfl (hb hby d1_5)
  refine Go.step st7 ?_
  show Go p e below _ (T7.setTop (mkF m 8 #[.val (.ref a1), .val (.int (2 : Int32)), .val (.int (2 : Int32)), .val (.ref a4), .val (.ref a5), .unset, .unset, .unset, .unset, .unset, .unset, .unset, .unset, .unset] [(.ref oP), (.ref a1)]))
  refine Go.step (fun t k => XS.iloadN X7.here hx rfl (hb hby d1_8) rfl k) ?_
  show Go p e below _ (T7.setTop (mkF m 9 #[.val (.ref a1), .val (.int (2 : Int32)), .val (.int (2 : Int32)), .val (.ref a4), .val (.ref a5), .unset, .unset, .unset, .unset, .unset, .unset, .unset, .unset, .unset] [(.int (2 : Int32)), (.ref oP), (.ref a1)]))
  refine Go.step (ldI X7 hx hZ e7 (A_PRIMES.ext hO.2) (j := (2 : Int32)) (by decide) (by decide) (g := (mkF m 9 #[.val (.ref a1), .val (.int (2 : Int32)), .val (.int (2 : Int32)), .val (.ref a4), .val (.ref a5), .unset, .unset, .unset, .unset, .unset, .unset, .unset, .unset, .unset] [(.int (2 : Int32)), (.ref oP), (.ref a1)])) rfl rfl (hb hby d1_9)) ?_
  show Go p e below _ (T7.setTop (mkF m 10 #[.val (.ref a1), .val (.int (2 : Int32)), .val (.int (2 : Int32)), .val (.ref a4), .val (.ref a5), .unset, .unset, .unset, .unset, .unset, .unset, .unset, .unset, .unset] [(.int (469762049 : Int32)), (.ref a1)]))
  obtain ⟨T8, h8, X8, e8, W8, st8⟩ := putF X7 hx hZ hown (host := "") (Or.inl (hw _ (List.mem_of_getElem? (i := 14) rfl))) Via.refl e7 F_prime_a1 E_a1 (Or.inr ⟨(hw _ (List.mem_of_getElem? (i := 15) rfl)), rfl, hnm⟩) (hw _ (List.mem_of_getElem? (i := 6) rfl)) (ty := .int) (by decide) rfl rfl (g := (mkF m 10 #[.val (.ref a1), .val (.int (2 : Int32)), .val (.int (2 : Int32)), .val (.ref a4), .val (.ref a5), .unset, .unset, .unset, .unset, .unset, .unset, .unset, .unset, .unset] [(.int (469762049 : Int32)), (.ref a1)])) rfl rfl (hb hby d1_10)
  refine Go.step st8 ?_
  have N8 := Fr.snoc X8 N0 g_a1
  have A_a4_8 := A_a4.other W8 hne_a4_a1
  have A_a5_8 := A_a5.other W8 hne_a5_a1
  have F_length_a1_8 := F_length_a1.other W8 (Or.inr (slot_ne (Or.inr (hw _ (List.mem_of_getElem? (i := 17) rfl))) (Or.inr (hw _ (List.mem_of_getElem? (i := 15) rfl))) (by decide) (t := .int) (t' := .int) (by decide) (by decide)))
  have F_roots_a1_8 := F_roots_a1.other W8 (Or.inr (slot_ne (Or.inr (hw _ (List.mem_of_getElem? (i := 19) rfl))) (Or.inr (hw _ (List.mem_of_getElem? (i := 15) rfl))) (by decide) (t := (.array .int)) (t' := .int) (by decide) (by decide)))
  have F_rootQuotients_a1_8 := F_rootQuotients_a1.other W8 (Or.inr (slot_ne (Or.inr (hw _ (List.mem_of_getElem? (i := 21) rfl))) (Or.inr (hw _ (List.mem_of_getElem? (i := 15) rfl))) (by decide) (t := (.array .int)) (t' := .int) (by decide) (by decide)))
  have F_outerRoot_a1_8 := F_outerRoot_a1.other W8 (Or.inr (slot_ne (Or.inr (hw _ (List.mem_of_getElem? (i := 28) rfl))) (Or.inr (hw _ (List.mem_of_getElem? (i := 15) rfl))) (by decide) (t := .int) (t' := .int) (by decide) (by decide)))
  have F_outerRootQuotient_a1_8 := F_outerRootQuotient_a1.other W8 (Or.inr (slot_ne (Or.inr (hw _ (List.mem_of_getElem? (i := 33) rfl))) (Or.inr (hw _ (List.mem_of_getElem? (i := 15) rfl))) (by decide) (t := .int) (t' := .int) (by decide) (by decide)))
  have F_negativeInverse_a1_8 := F_negativeInverse_a1.other W8 (Or.inr (slot_ne (Or.inr (hw _ (List.mem_of_getElem? (i := 35) rfl))) (Or.inr (hw _ (List.mem_of_getElem? (i := 15) rfl))) (by decide) (t := .int) (t' := .int) (by decide) (by decide)))
  have F_scale_a1_8 := F_scale_a1.other W8 (Or.inr (slot_ne (Or.inr (hw _ (List.mem_of_getElem? (i := 39) rfl))) (Or.inr (hw _ (List.mem_of_getElem? (i := 15) rfl))) (by decide) (t := .int) (t' := .int) (by decide) (by decide)))
  have F_scaleQuotient_a1_8 := F_scaleQuotient_a1.other W8 (Or.inr (slot_ne (Or.inr (hw _ (List.mem_of_getElem? (i := 41) rfl))) (Or.inr (hw _ (List.mem_of_getElem? (i := 15) rfl))) (by decide) (t := .int) (t' := .int) (by decide) (by decide)))
  have E_a1_8 := E_a1.wr W8
  have O8 := hO.wr W8 g_a1
  have Z8 := Nat.le_trans Z0 (Keep.of_wr W8).1
  have KK8 : Keep h0 h8 [a1, a4, a5] := KK0.wr W8 (Or.inl (by simp))
  have F_prime_a1_8 := F_prime_a1.same W8
  show Go p e below _ (T8.setTop (mkF m 13 #[.val (.ref a1), .val (.int (2 : Int32)), .val (.int (2 : Int32)), .val (.ref a4), .val (.ref a5), .unset, .unset, .unset, .unset, .unset, .unset, .unset, .unset, .unset] []))
  refine Go.step (fun t k => XS.aloadN X8.here hx rfl (hb hby d1_13) rfl rfl k) ?_
  show Go p e below _ (T8.setTop (mkF m 14 #[.val (.ref a1), .val (.int (2 : Int32)), .val (.int (2 : Int32)), .val (.ref a4), .val (.ref a5), .unset, .unset, .unset, .unset, .unset, .unset, .unset, .unset, .unset] [(.ref a1)]))
  refine Go.step (fun t k => XS.iloadN X8.here hx rfl (hb hby d1_14) rfl k) ?_
  show Go p e below _ (T8.setTop (mkF m 15 #[.val (.ref a1), .val (.int (2 : Int32)), .val (.int (2 : Int32)), .val (.ref a4), .val (.ref a5), .unset, .unset, .unset, .unset, .unset, .unset, .unset, .unset, .unset] [(.int (2 : Int32)), (.ref a1)]))
  obtain ⟨T9, h9, X9, e9, W9, st9⟩ := putF X8 hx hZ hown (host := "") (Or.inl (hw _ (List.mem_of_getElem? (i := 16) rfl))) Via.refl e8 F_length_a1_8 E_a1_8 (Or.inr ⟨(hw _ (List.mem_of_getElem? (i := 17) rfl)), rfl, hnm⟩) (hw _ (List.mem_of_getElem? (i := 6) rfl)) (ty := .int) (by decide) rfl rfl (g := (mkF m 15 #[.val (.ref a1), .val (.int (2 : Int32)), .val (.int (2 : Int32)), .val (.ref a4), .val (.ref a5), .unset, .unset, .unset, .unset, .unset, .unset, .unset, .unset, .unset] [(.int (2 : Int32)), (.ref a1)])) rfl rfl (hb hby d1_15)
  refine Go.step st9 ?_
  have N9 := Fr.snoc X9 N8 g_a1
  have A_a4_9 := A_a4_8.other W9 hne_a4_a1
  have A_a5_9 := A_a5_8.other W9 hne_a5_a1
  have F_roots_a1_9 := F_roots_a1_8.other W9 (Or.inr (slot_ne (Or.inr (hw _ (List.mem_of_getElem? (i := 19) rfl))) (Or.inr (hw _ (List.mem_of_getElem? (i := 17) rfl))) (by decide) (t := (.array .int)) (t' := .int) (by decide) (by decide)))
  have F_rootQuotients_a1_9 := F_rootQuotients_a1_8.other W9 (Or.inr (slot_ne (Or.inr (hw _ (List.mem_of_getElem? (i := 21) rfl))) (Or.inr (hw _ (List.mem_of_getElem? (i := 17) rfl))) (by decide) (t := (.array .int)) (t' := .int) (by decide) (by decide)))
  have F_outerRoot_a1_9 := F_outerRoot_a1_8.other W9 (Or.inr (slot_ne (Or.inr (hw _ (List.mem_of_getElem? (i := 28) rfl))) (Or.inr (hw _ (List.mem_of_getElem? (i := 17) rfl))) (by decide) (t := .int) (t' := .int) (by decide) (by decide)))
  have F_outerRootQuotient_a1_9 := F_outerRootQuotient_a1_8.other W9 (Or.inr (slot_ne (Or.inr (hw _ (List.mem_of_getElem? (i := 33) rfl))) (Or.inr (hw _ (List.mem_of_getElem? (i := 17) rfl))) (by decide) (t := .int) (t' := .int) (by decide) (by decide)))
  have F_negativeInverse_a1_9 := F_negativeInverse_a1_8.other W9 (Or.inr (slot_ne (Or.inr (hw _ (List.mem_of_getElem? (i := 35) rfl))) (Or.inr (hw _ (List.mem_of_getElem? (i := 17) rfl))) (by decide) (t := .int) (t' := .int) (by decide) (by decide)))
  have F_scale_a1_9 := F_scale_a1_8.other W9 (Or.inr (slot_ne (Or.inr (hw _ (List.mem_of_getElem? (i := 39) rfl))) (Or.inr (hw _ (List.mem_of_getElem? (i := 17) rfl))) (by decide) (t := .int) (t' := .int) (by decide) (by decide)))
  have F_scaleQuotient_a1_9 := F_scaleQuotient_a1_8.other W9 (Or.inr (slot_ne (Or.inr (hw _ (List.mem_of_getElem? (i := 41) rfl))) (Or.inr (hw _ (List.mem_of_getElem? (i := 17) rfl))) (by decide) (t := .int) (t' := .int) (by decide) (by decide)))
  have E_a1_9 := E_a1_8.wr W9
  have F_prime_a1_9 := F_prime_a1_8.other W9 (Or.inr (slot_ne (Or.inr (hw _ (List.mem_of_getElem? (i := 15) rfl))) (Or.inr (hw _ (List.mem_of_getElem? (i := 17) rfl))) (by decide) (t := .int) (t' := .int) (by decide) (by decide)))
  have O9 := O8.wr W9 g_a1
  have Z9 := Nat.le_trans Z8 (Keep.of_wr W9).1
  have KK9 : Keep h0 h9 [a1, a4, a5] := KK8.wr W9 (Or.inl (by simp))
  have F_length_a1_9 := F_length_a1_8.same W9
  show Go p e below _ (T9.setTop (mkF m 18 #[.val (.ref a1), .val (.int (2 : Int32)), .val (.int (2 : Int32)), .val (.ref a4), .val (.ref a5), .unset, .unset, .unset, .unset, .unset, .unset, .unset, .unset, .unset] []))
  refine Go.step (fun t k => XS.aloadN X9.here hx rfl (hb hby d1_18) rfl rfl k) ?_
  show Go p e below _ (T9.setTop (mkF m 19 #[.val (.ref a1), .val (.int (2 : Int32)), .val (.int (2 : Int32)), .val (.ref a4), .val (.ref a5), .unset, .unset, .unset, .unset, .unset, .unset, .unset, .unset, .unset] [(.ref a1)]))
  refine Go.step (fun t k => XS.aloadN X9.here hx rfl (hb hby d1_19) rfl rfl k) ?_
  show Go p e below _ (T9.setTop (mkF m 20 #[.val (.ref a1), .val (.int (2 : Int32)), .val (.int (2 : Int32)), .val (.ref a4), .val (.ref a5), .unset, .unset, .unset, .unset, .unset, .unset, .unset, .unset, .unset] [(.ref a4), (.ref a1)]))
  obtain ⟨T10, h10, X10, e10, W10, st10⟩ := putF X9 hx hZ hown (host := "") (Or.inl (hw _ (List.mem_of_getElem? (i := 18) rfl))) Via.refl e9 F_roots_a1_9 E_a1_9 (Or.inr ⟨(hw _ (List.mem_of_getElem? (i := 19) rfl)), rfl, hnm⟩) (hw _ (List.mem_of_getElem? (i := 6) rfl)) (ty := (.array .int)) (by decide) rfl rfl (g := (mkF m 20 #[.val (.ref a1), .val (.int (2 : Int32)), .val (.int (2 : Int32)), .val (.ref a4), .val (.ref a5), .unset, .unset, .unset, .unset, .unset, .unset, .unset, .unset, .unset] [(.ref a4), (.ref a1)])) rfl rfl (hb hby d1_20)
  refine Go.step st10 ?_
  have N10 := Fr.snoc X10 N9 g_a1
  have A_a4_10 := A_a4_9.other W10 hne_a4_a1
  have A_a5_10 := A_a5_9.other W10 hne_a5_a1
  have F_length_a1_10 := F_length_a1_9.other W10 (Or.inr (slot_ne (Or.inr (hw _ (List.mem_of_getElem? (i := 17) rfl))) (Or.inr (hw _ (List.mem_of_getElem? (i := 19) rfl))) (by decide) (t := .int) (t' := (.array .int)) (by decide) (by decide)))
  have F_rootQuotients_a1_10 := F_rootQuotients_a1_9.other W10 (Or.inr (slot_ne (Or.inr (hw _ (List.mem_of_getElem? (i := 21) rfl))) (Or.inr (hw _ (List.mem_of_getElem? (i := 19) rfl))) (by decide) (t := (.array .int)) (t' := (.array .int)) (by decide) (by decide)))
  have F_outerRoot_a1_10 := F_outerRoot_a1_9.other W10 (Or.inr (slot_ne (Or.inr (hw _ (List.mem_of_getElem? (i := 28) rfl))) (Or.inr (hw _ (List.mem_of_getElem? (i := 19) rfl))) (by decide) (t := .int) (t' := (.array .int)) (by decide) (by decide)))
  have F_outerRootQuotient_a1_10 := F_outerRootQuotient_a1_9.other W10 (Or.inr (slot_ne (Or.inr (hw _ (List.mem_of_getElem? (i := 33) rfl))) (Or.inr (hw _ (List.mem_of_getElem? (i := 19) rfl))) (by decide) (t := .int) (t' := (.array .int)) (by decide) (by decide)))
  have F_negativeInverse_a1_10 := F_negativeInverse_a1_9.other W10 (Or.inr (slot_ne (Or.inr (hw _ (List.mem_of_getElem? (i := 35) rfl))) (Or.inr (hw _ (List.mem_of_getElem? (i := 19) rfl))) (by decide) (t := .int) (t' := (.array .int)) (by decide) (by decide)))
  have F_scale_a1_10 := F_scale_a1_9.other W10 (Or.inr (slot_ne (Or.inr (hw _ (List.mem_of_getElem? (i := 39) rfl))) (Or.inr (hw _ (List.mem_of_getElem? (i := 19) rfl))) (by decide) (t := .int) (t' := (.array .int)) (by decide) (by decide)))
  have F_scaleQuotient_a1_10 := F_scaleQuotient_a1_9.other W10 (Or.inr (slot_ne (Or.inr (hw _ (List.mem_of_getElem? (i := 41) rfl))) (Or.inr (hw _ (List.mem_of_getElem? (i := 19) rfl))) (by decide) (t := .int) (t' := (.array .int)) (by decide) (by decide)))
  have E_a1_10 := E_a1_9.wr W10
  have F_prime_a1_10 := F_prime_a1_9.other W10 (Or.inr (slot_ne (Or.inr (hw _ (List.mem_of_getElem? (i := 15) rfl))) (Or.inr (hw _ (List.mem_of_getElem? (i := 19) rfl))) (by decide) (t := .int) (t' := (.array .int)) (by decide) (by decide)))
  have O10 := O9.wr W10 g_a1
  have Z10 := Nat.le_trans Z9 (Keep.of_wr W10).1
  have KK10 : Keep h0 h10 [a1, a4, a5] := KK9.wr W10 (Or.inl (by simp))
  have F_roots_a1_10 := F_roots_a1_9.same W10
  show Go p e below _ (T10.setTop (mkF m 23 #[.val (.ref a1), .val (.int (2 : Int32)), .val (.int (2 : Int32)), .val (.ref a4), .val (.ref a5), .unset, .unset, .unset, .unset, .unset, .unset, .unset, .unset, .unset] []))
  refine Go.step (fun t k => XS.aloadN X10.here hx rfl (hb hby d1_23) rfl rfl k) ?_
  show Go p e below _ (T10.setTop (mkF m 24 #[.val (.ref a1), .val (.int (2 : Int32)), .val (.int (2 : Int32)), .val (.ref a4), .val (.ref a5), .unset, .unset, .unset, .unset, .unset, .unset, .unset, .unset, .unset] [(.ref a1)]))
  refine Go.step (fun t k => XS.aload X10.here hx rfl (hb hby d1_24) rfl rfl k) ?_
  show Go p e below _ (T10.setTop (mkF m 26 #[.val (.ref a1), .val (.int (2 : Int32)), .val (.int (2 : Int32)), .val (.ref a4), .val (.ref a5), .unset, .unset, .unset, .unset, .unset, .unset, .unset, .unset, .unset] [(.ref a5), (.ref a1)]))
  obtain ⟨T11, h11, X11, e11, W11, st11⟩ := putF X10 hx hZ hown (host := "") (Or.inl (hw _ (List.mem_of_getElem? (i := 20) rfl))) Via.refl e10 F_rootQuotients_a1_10 E_a1_10 (Or.inr ⟨(hw _ (List.mem_of_getElem? (i := 21) rfl)), rfl, hnm⟩) (hw _ (List.mem_of_getElem? (i := 6) rfl)) (ty := (.array .int)) (by decide) rfl rfl (g := (mkF m 26 #[.val (.ref a1), .val (.int (2 : Int32)), .val (.int (2 : Int32)), .val (.ref a4), .val (.ref a5), .unset, .unset, .unset, .unset, .unset, .unset, .unset, .unset, .unset] [(.ref a5), (.ref a1)])) rfl rfl (hb hby d1_26)
  refine Go.step st11 ?_
  have N11 := Fr.snoc X11 N10 g_a1
  have A_a4_11 := A_a4_10.other W11 hne_a4_a1
  have A_a5_11 := A_a5_10.other W11 hne_a5_a1
  have F_length_a1_11 := F_length_a1_10.other W11 (Or.inr (slot_ne (Or.inr (hw _ (List.mem_of_getElem? (i := 17) rfl))) (Or.inr (hw _ (List.mem_of_getElem? (i := 21) rfl))) (by decide) (t := .int) (t' := (.array .int)) (by decide) (by decide)))
  have F_roots_a1_11 := F_roots_a1_10.other W11 (Or.inr (slot_ne (Or.inr (hw _ (List.mem_of_getElem? (i := 19) rfl))) (Or.inr (hw _ (List.mem_of_getElem? (i := 21) rfl))) (by decide) (t := (.array .int)) (t' := (.array .int)) (by decide) (by decide)))
  have F_outerRoot_a1_11 := F_outerRoot_a1_10.other W11 (Or.inr (slot_ne (Or.inr (hw _ (List.mem_of_getElem? (i := 28) rfl))) (Or.inr (hw _ (List.mem_of_getElem? (i := 21) rfl))) (by decide) (t := .int) (t' := (.array .int)) (by decide) (by decide)))
  have F_outerRootQuotient_a1_11 := F_outerRootQuotient_a1_10.other W11 (Or.inr (slot_ne (Or.inr (hw _ (List.mem_of_getElem? (i := 33) rfl))) (Or.inr (hw _ (List.mem_of_getElem? (i := 21) rfl))) (by decide) (t := .int) (t' := (.array .int)) (by decide) (by decide)))
  have F_negativeInverse_a1_11 := F_negativeInverse_a1_10.other W11 (Or.inr (slot_ne (Or.inr (hw _ (List.mem_of_getElem? (i := 35) rfl))) (Or.inr (hw _ (List.mem_of_getElem? (i := 21) rfl))) (by decide) (t := .int) (t' := (.array .int)) (by decide) (by decide)))
  have F_scale_a1_11 := F_scale_a1_10.other W11 (Or.inr (slot_ne (Or.inr (hw _ (List.mem_of_getElem? (i := 39) rfl))) (Or.inr (hw _ (List.mem_of_getElem? (i := 21) rfl))) (by decide) (t := .int) (t' := (.array .int)) (by decide) (by decide)))
  have F_scaleQuotient_a1_11 := F_scaleQuotient_a1_10.other W11 (Or.inr (slot_ne (Or.inr (hw _ (List.mem_of_getElem? (i := 41) rfl))) (Or.inr (hw _ (List.mem_of_getElem? (i := 21) rfl))) (by decide) (t := .int) (t' := (.array .int)) (by decide) (by decide)))
  have E_a1_11 := E_a1_10.wr W11
  have F_prime_a1_11 := F_prime_a1_10.other W11 (Or.inr (slot_ne (Or.inr (hw _ (List.mem_of_getElem? (i := 15) rfl))) (Or.inr (hw _ (List.mem_of_getElem? (i := 21) rfl))) (by decide) (t := .int) (t' := (.array .int)) (by decide) (by decide)))
  have O11 := O10.wr W11 g_a1
  have Z11 := Nat.le_trans Z10 (Keep.of_wr W11).1
  have KK11 : Keep h0 h11 [a1, a4, a5] := KK10.wr W11 (Or.inl (by simp))
  have F_rootQuotients_a1_11 := F_rootQuotients_a1_10.same W11
  show Go p e below _ (T11.setTop (mkF m 29 #[.val (.ref a1), .val (.int (2 : Int32)), .val (.int (2 : Int32)), .val (.ref a4), .val (.ref a5), .unset, .unset, .unset, .unset, .unset, .unset, .unset, .unset, .unset] []))
  obtain ⟨T12, X12, e12, st12⟩ := getS2 X11 hx hZ hown (host := "") (Or.inl (hw _ (List.mem_of_getElem? (i := 22) rfl))) Via.refl e11 (S_GENERATORS.ext O11.2) (g := (mkF m 29 #[.val (.ref a1), .val (.int (2 : Int32)), .val (.int (2 : Int32)), .val (.ref a4), .val (.ref a5), .unset, .unset, .unset, .unset, .unset, .unset, .unset, .unset, .unset] [])) rfl (hb hby d1_29)
  refine Go.step st12 ?_
  show Go p e below _ (T12.setTop (mkF m 32 #[.val (.ref a1), .val (.int (2 : Int32)), .val (.int (2 : Int32)), .val (.ref a4), .val (.ref a5), .unset, .unset, .unset, .unset, .unset, .unset, .unset, .unset, .unset] [(.ref oG)]))
  refine Go.step (fun t k => XS.iloadN X12.here hx rfl (hb hby d1_32) rfl k) ?_
  show Go p e below _ (T12.setTop (mkF m 33 #[.val (.ref a1), .val (.int (2 : Int32)), .val (.int (2 : Int32)), .val (.ref a4), .val (.ref a5), .unset, .unset, .unset, .unset, .unset, .unset, .unset, .unset, .unset] [(.int (2 : Int32)), (.ref oG)]))
  refine Go.step (ldI X12 hx hZ e12 (A_GENERATORS.ext O11.2) (j := (2 : Int32)) (by decide) (by decide) (g := (mkF m 33 #[.val (.ref a1), .val (.int (2 : Int32)), .val (.int (2 : Int32)), .val (.ref a4), .val (.ref a5), .unset, .unset, .unset, .unset, .unset, .unset, .unset, .unset, .unset] [(.int (2 : Int32)), (.ref oG)])) rfl rfl (hb hby d1_33)) ?_
  show Go p e below _ (T12.setTop (mkF m 34 #[.val (.ref a1), .val (.int (2 : Int32)), .val (.int (2 : Int32)), .val (.ref a4), .val (.ref a5), .unset, .unset, .unset, .unset, .unset, .unset, .unset, .unset, .unset] [(.int (3 : Int32))]))
  refine Go.step (fun t k => XS.i2l X12.here hx rfl (hb hby d1_34) rfl k) ?_
  show Go p e below _ (T12.setTop (mkF m 35 #[.val (.ref a1), .val (.int (2 : Int32)), .val (.int (2 : Int32)), .val (.ref a4), .val (.ref a5), .unset, .unset, .unset, .unset, .unset, .unset, .unset, .unset, .unset] [(.long (3 : Int64))]))
  refine Go.step (fun t k => XS.aloadN X12.here hx rfl (hb hby d1_35) rfl rfl k) ?_
  show Go p e below _ (T12.setTop (mkF m 36 #[.val (.ref a1), .val (.int (2 : Int32)), .val (.int (2 : Int32)), .val (.ref a4), .val (.ref a5), .unset, .unset, .unset, .unset, .unset, .unset, .unset, .unset, .unset] [(.ref a1), (.long (3 : Int64))]))
  obtain ⟨T13, X13, e13, st13⟩ := getF X12 hx hZ hown (host := "") (Or.inl (hw _ (List.mem_of_getElem? (i := 14) rfl))) Via.refl e12 F_prime_a1_11 (g := (mkF m 36 #[.val (.ref a1), .val (.int (2 : Int32)), .val (.int (2 : Int32)), .val (.ref a4), .val (.ref a5), .unset, .unset, .unset, .unset, .unset, .unset, .unset, .unset, .unset] [(.ref a1), (.long (3 : Int64))])) rfl rfl (hb hby d1_36)
  refine Go.step st13 ?_
  show Go p e below _ (T13.setTop (mkF m 39 #[.val (.ref a1), .val (.int (2 : Int32)), .val (.int (2 : Int32)), .val (.ref a4), .val (.ref a5), .unset, .unset, .unset, .unset, .unset, .unset, .unset, .unset, .unset] [(.int (469762049 : Int32)), (.long (3 : Int64))]))
  refine Go.step (fun t k => XS.i2l X13.here hx rfl (hb hby d1_39) rfl k) ?_
  show Go p e below _ (T13.setTop (mkF m 40 #[.val (.ref a1), .val (.int (2 : Int32)), .val (.int (2 : Int32)), .val (.ref a4), .val (.ref a5), .unset, .unset, .unset, .unset, .unset, .unset, .unset, .unset, .unset] [(.long (469762049 : Int64)), (.long (3 : Int64))]))
  refine Go.step (fun t k => XS.lconst X13.here hx rfl (hb hby d1_40)  k) ?_
  show Go p e below _ (T13.setTop (mkF m 41 #[.val (.ref a1), .val (.int (2 : Int32)), .val (.int (2 : Int32)), .val (.ref a4), .val (.ref a5), .unset, .unset, .unset, .unset, .unset, .unset, .unset, .unset, .unset] [(.long (1 : Int64)), (.long (469762049 : Int64)), (.long (3 : Int64))]))
  refine Go.step (fun t k => XS.lsub X13.here hx rfl (hb hby d1_41) rfl k) ?_
  show Go p e below _ (T13.setTop (mkF m 42 #[.val (.ref a1), .val (.int (2 : Int32)), .val (.int (2 : Int32)), .val (.ref a4), .val (.ref a5), .unset, .unset, .unset, .unset, .unset, .unset, .unset, .unset, .unset] [(.long (469762048 : Int64)), (.long (3 : Int64))]))
  refine Go.step (fun t k => XS.iloadN X13.here hx rfl (hb hby d1_42) rfl k) ?_
  show Go p e below _ (T13.setTop (mkF m 43 #[.val (.ref a1), .val (.int (2 : Int32)), .val (.int (2 : Int32)), .val (.ref a4), .val (.ref a5), .unset, .unset, .unset, .unset, .unset, .unset, .unset, .unset, .unset] [(.int (2 : Int32)), (.long (469762048 : Int64)), (.long (3 : Int64))]))
  refine Go.step (fun t k => XS.i2l X13.here hx rfl (hb hby d1_43) rfl k) ?_
  show Go p e below _ (T13.setTop (mkF m 44 #[.val (.ref a1), .val (.int (2 : Int32)), .val (.int (2 : Int32)), .val (.ref a4), .val (.ref a5), .unset, .unset, .unset, .unset, .unset, .unset, .unset, .unset, .unset] [(.long (2 : Int64)), (.long (469762048 : Int64)), (.long (3 : Int64))]))
  refine Go.step (fun t k => XS.ldiv X13.here hx rfl (hb hby d1_44) rfl (by decide) k) ?_
  show Go p e below _ (T13.setTop (mkF m 45 #[.val (.ref a1), .val (.int (2 : Int32)), .val (.int (2 : Int32)), .val (.ref a4), .val (.ref a5), .unset, .unset, .unset, .unset, .unset, .unset, .unset, .unset, .unset] [(.long (234881024 : Int64)), (.long (3 : Int64))]))
  refine Go.step (fun t k => XS.aloadN X13.here hx rfl (hb hby d1_45) rfl rfl k) ?_
  show Go p e below _ (T13.setTop (mkF m 46 #[.val (.ref a1), .val (.int (2 : Int32)), .val (.int (2 : Int32)), .val (.ref a4), .val (.ref a5), .unset, .unset, .unset, .unset, .unset, .unset, .unset, .unset, .unset] [(.ref a1), (.long (234881024 : Int64)), (.long (3 : Int64))]))
  obtain ⟨T14, X14, e14, st14⟩ := getF X13 hx hZ hown (host := "") (Or.inl (hw _ (List.mem_of_getElem? (i := 14) rfl))) Via.refl e13 F_prime_a1_11 (g := (mkF m 46 #[.val (.ref a1), .val (.int (2 : Int32)), .val (.int (2 : Int32)), .val (.ref a4), .val (.ref a5), .unset, .unset, .unset, .unset, .unset, .unset, .unset, .unset, .unset] [(.ref a1), (.long (234881024 : Int64)), (.long (3 : Int64))])) rfl rfl (hb hby d1_46)
  refine Go.step st14 ?_
  show Go p e below _ (T14.setTop (mkF m 49 #[.val (.ref a1), .val (.int (2 : Int32)), .val (.int (2 : Int32)), .val (.ref a4), .val (.ref a5), .unset, .unset, .unset, .unset, .unset, .unset, .unset, .unset, .unset] [(.int (469762049 : Int32)), (.long (234881024 : Int64)), (.long (3 : Int64))]))
  obtain ⟨_, _, ⟨T15, L15, k15, n15⟩, -, X15, ⟨Lc15, hQ15, l15, y15, z15⟩, st15⟩ := Jvm.LawKit.callS X14 hx (y := (⟨"com/example/tinwire/tinwire/json/Transform", "power", "(JJI)J"⟩ : MethodName)) hown (mvT hZ (hw _ (List.mem_of_getElem? (i := 24) rfl))) (mvT hZ (hw _ (List.mem_of_getElem? (i := 25) rfl))) (mvT hZ (hw _ (List.mem_of_getElem? (i := 2) rfl))) (mvT hZ (hw _ (List.mem_of_getElem? (i := 26) rfl))) (by decide) (backOf (W := 0) (rm3 l Z a0 hw [] (3 : Int64) (234881024 : Int64) (469762049 : Int32) h11 n0 Z11 ((by decide) : ¬ (((469762049 : Int32).toInt64) = (0 : Int64))) ((by decide) : ¬ (((469762049 : Int32).toInt64) = (0 : Int64))) ((by decide) : ¬ (((469762049 : Int32).toInt64) = (0 : Int64)))) hZ (hw _ (List.mem_of_getElem? (i := 26) rfl)) (hw _ (List.mem_of_getElem? (i := 2) rfl)) (by decide) (by decide)) (g := (mkF m 49 #[.val (.ref a1), .val (.int (2 : Int32)), .val (.int (2 : Int32)), .val (.ref a4), .val (.ref a5), .unset, .unset, .unset, .unset, .unset, .unset, .unset, .unset, .unset] [(.int (469762049 : Int32)), (.long (234881024 : Int64)), (.long (3 : Int64))])) rfl (by rw [hml]; rfl) (argsL := [(.long (3 : Int64)), (.long (234881024 : Int64)), (.int (469762049 : Int32))]) (rest := []) (lenOf pd_0 rfl) rfl (by show 2 * 0 + _ ≤ _; exact Nat.le_of_eq rfl) (hb hby d1_49) (fun _ _ => ⟨rfl, e14, (by decide : 0 + 0 ≤ _), (by decide : 0 + 0 ≤ _)⟩)
  dsimp only [Pt.U, Pt.locs, Pt.cells, Pt.slots] at X15 l15 y15 z15 st15 hQ15
  subst l15 y15 z15
  obtain ⟨⟨z15, rfl⟩, N15q, e15⟩ := hQ15
  have N15 := Fr.app N11 N15q
  refine Go.step st15 ?_
  show Go p e below _ (T15.setTop (mkF m 52 #[.val (.ref a1), .val (.int (2 : Int32)), .val (.int (2 : Int32)), .val (.ref a4), .val (.ref a5), .unset, .unset, .unset, .unset, .unset, .unset, .unset, .unset, .unset] [(.long z15)]))
  refine Go.step (fun t k => XS.lstore X15.here hx rfl (hb hby d1_52) rfl (l' := #[.val (.ref a1), .val (.int (2 : Int32)), .val (.int (2 : Int32)), .val (.ref a4), .val (.ref a5), .val (.long z15), .second, .unset, .unset, .unset, .unset, .unset, .unset, .unset]) rfl k) ?_
  show Go p e below _ (T15.setTop (mkF m 54 #[.val (.ref a1), .val (.int (2 : Int32)), .val (.int (2 : Int32)), .val (.ref a4), .val (.ref a5), .val (.long z15), .second, .unset, .unset, .unset, .unset, .unset, .unset, .unset] []))
  refine Go.step (fun t k => XS.aloadN X15.here hx rfl (hb hby d1_54) rfl rfl k) ?_
  show Go p e below _ (T15.setTop (mkF m 55 #[.val (.ref a1), .val (.int (2 : Int32)), .val (.int (2 : Int32)), .val (.ref a4), .val (.ref a5), .val (.long z15), .second, .unset, .unset, .unset, .unset, .unset, .unset, .unset] [(.ref a1)]))
  refine Go.step (fun t k => XS.lload X15.here hx rfl (hb hby d1_55) rfl k) ?_
  show Go p e below _ (T15.setTop (mkF m 57 #[.val (.ref a1), .val (.int (2 : Int32)), .val (.int (2 : Int32)), .val (.ref a4), .val (.ref a5), .val (.long z15), .second, .unset, .unset, .unset, .unset, .unset, .unset, .unset] [(.long z15), (.ref a1)]))
  refine Go.step (fun t k => XS.l2i X15.here hx rfl (hb hby d1_57) rfl k) ?_
  show Go p e below _ (T15.setTop (mkF m 58 #[.val (.ref a1), .val (.int (2 : Int32)), .val (.int (2 : Int32)), .val (.ref a4), .val (.ref a5), .val (.long z15), .second, .unset, .unset, .unset, .unset, .unset, .unset, .unset] [(.int (z15.toInt32)), (.ref a1)]))
  obtain ⟨T16, h16, X16, e16, W16, st16⟩ := putF X15 hx hZ hown (host := "") (Or.inl (hw _ (List.mem_of_getElem? (i := 27) rfl))) Via.refl e15 F_outerRoot_a1_11 E_a1_11 (Or.inr ⟨(hw _ (List.mem_of_getElem? (i := 28) rfl)), rfl, hnm⟩) (hw _ (List.mem_of_getElem? (i := 6) rfl)) (ty := .int) (by decide) rfl rfl (g := (mkF m 58 #[.val (.ref a1), .val (.int (2 : Int32)), .val (.int (2 : Int32)), .val (.ref a4), .val (.ref a5), .val (.long z15), .second, .unset, .unset, .unset, .unset, .unset, .unset, .unset] [(.int (z15.toInt32)), (.ref a1)])) rfl rfl (hb hby d1_58)
  refine Go.step st16 ?_
  have N16 := Fr.snoc X16 N15 g_a1
  have A_a4_16 := A_a4_11.other W16 hne_a4_a1
  have A_a5_16 := A_a5_11.other W16 hne_a5_a1
  have F_length_a1_16 := F_length_a1_11.other W16 (Or.inr (slot_ne (Or.inr (hw _ (List.mem_of_getElem? (i := 17) rfl))) (Or.inr (hw _ (List.mem_of_getElem? (i := 28) rfl))) (by decide) (t := .int) (t' := .int) (by decide) (by decide)))
  have F_roots_a1_16 := F_roots_a1_11.other W16 (Or.inr (slot_ne (Or.inr (hw _ (List.mem_of_getElem? (i := 19) rfl))) (Or.inr (hw _ (List.mem_of_getElem? (i := 28) rfl))) (by decide) (t := (.array .int)) (t' := .int) (by decide) (by decide)))
  have F_rootQuotients_a1_16 := F_rootQuotients_a1_11.other W16 (Or.inr (slot_ne (Or.inr (hw _ (List.mem_of_getElem? (i := 21) rfl))) (Or.inr (hw _ (List.mem_of_getElem? (i := 28) rfl))) (by decide) (t := (.array .int)) (t' := .int) (by decide) (by decide)))
  have F_outerRootQuotient_a1_16 := F_outerRootQuotient_a1_11.other W16 (Or.inr (slot_ne (Or.inr (hw _ (List.mem_of_getElem? (i := 33) rfl))) (Or.inr (hw _ (List.mem_of_getElem? (i := 28) rfl))) (by decide) (t := .int) (t' := .int) (by decide) (by decide)))
  have F_negativeInverse_a1_16 := F_negativeInverse_a1_11.other W16 (Or.inr (slot_ne (Or.inr (hw _ (List.mem_of_getElem? (i := 35) rfl))) (Or.inr (hw _ (List.mem_of_getElem? (i := 28) rfl))) (by decide) (t := .int) (t' := .int) (by decide) (by decide)))
  have F_scale_a1_16 := F_scale_a1_11.other W16 (Or.inr (slot_ne (Or.inr (hw _ (List.mem_of_getElem? (i := 39) rfl))) (Or.inr (hw _ (List.mem_of_getElem? (i := 28) rfl))) (by decide) (t := .int) (t' := .int) (by decide) (by decide)))
  have F_scaleQuotient_a1_16 := F_scaleQuotient_a1_11.other W16 (Or.inr (slot_ne (Or.inr (hw _ (List.mem_of_getElem? (i := 41) rfl))) (Or.inr (hw _ (List.mem_of_getElem? (i := 28) rfl))) (by decide) (t := .int) (t' := .int) (by decide) (by decide)))
  have E_a1_16 := E_a1_11.wr W16
  have F_prime_a1_16 := F_prime_a1_11.other W16 (Or.inr (slot_ne (Or.inr (hw _ (List.mem_of_getElem? (i := 15) rfl))) (Or.inr (hw _ (List.mem_of_getElem? (i := 28) rfl))) (by decide) (t := .int) (t' := .int) (by decide) (by decide)))
  have O16 := O11.wr W16 g_a1
  have Z16 := Nat.le_trans Z11 (Keep.of_wr W16).1
  have KK16 : Keep h0 h16 [a1, a4, a5] := KK11.wr W16 (Or.inl (by simp))
  have F_outerRoot_a1_16 := F_outerRoot_a1_11.same W16
  show Go p e below _ (T16.setTop (mkF m 61 #[.val (.ref a1), .val (.int (2 : Int32)), .val (.int (2 : Int32)), .val (.ref a4), .val (.ref a5), .val (.long z15), .second, .unset, .unset, .unset, .unset, .unset, .unset, .unset] []))
  refine Go.step (fun t k => XS.aloadN X16.here hx rfl (hb hby d1_61) rfl rfl k) ?_
  show Go p e below _ (T16.setTop (mkF m 62 #[.val (.ref a1), .val (.int (2 : Int32)), .val (.int (2 : Int32)), .val (.ref a4), .val (.ref a5), .val (.long z15), .second, .unset, .unset, .unset, .unset, .unset, .unset, .unset] [(.ref a1)]))
  refine Go.step (fun t k => XS.aloadN X16.here hx rfl (hb hby d1_62) rfl rfl k) ?_
  show Go p e below _ (T16.setTop (mkF m 63 #[.val (.ref a1), .val (.int (2 : Int32)), .val (.int (2 : Int32)), .val (.ref a4), .val (.ref a5), .val (.long z15), .second, .unset, .unset, .unset, .unset, .unset, .unset, .unset] [(.ref a1), (.ref a1)]))
  obtain ⟨T17, X17, e17, st17⟩ := getF X16 hx hZ hown (host := "") (Or.inl (hw _ (List.mem_of_getElem? (i := 27) rfl))) Via.refl e16 F_outerRoot_a1_16 (g := (mkF m 63 #[.val (.ref a1), .val (.int (2 : Int32)), .val (.int (2 : Int32)), .val (.ref a4), .val (.ref a5), .val (.long z15), .second, .unset, .unset, .unset, .unset, .unset, .unset, .unset] [(.ref a1), (.ref a1)])) rfl rfl (hb hby d1_63)
  refine Go.step st17 ?_
  show Go p e below _ (T17.setTop (mkF m 66 #[.val (.ref a1), .val (.int (2 : Int32)), .val (.int (2 : Int32)), .val (.ref a4), .val (.ref a5), .val (.long z15), .second, .unset, .unset, .unset, .unset, .unset, .unset, .unset] [(.int (z15.toInt32)), (.ref a1)]))
  refine Go.step (fun t k => XS.aloadN X17.here hx rfl (hb hby d1_66) rfl rfl k) ?_
  show Go p e below _ (T17.setTop (mkF m 67 #[.val (.ref a1), .val (.int (2 : Int32)), .val (.int (2 : Int32)), .val (.ref a4), .val (.ref a5), .val (.long z15), .second, .unset, .unset, .unset, .unset, .unset, .unset, .unset] [(.ref a1), (.int (z15.toInt32)), (.ref a1)]))
  obtain ⟨T18, X18, e18, st18⟩ := getF X17 hx hZ hown (host := "") (Or.inl (hw _ (List.mem_of_getElem? (i := 14) rfl))) Via.refl e17 F_prime_a1_16 (g := (mkF m 67 #[.val (.ref a1), .val (.int (2 : Int32)), .val (.int (2 : Int32)), .val (.ref a4), .val (.ref a5), .val (.long z15), .second, .unset, .unset, .unset, .unset, .unset, .unset, .unset] [(.ref a1), (.int (z15.toInt32)), (.ref a1)])) rfl rfl (hb hby d1_67)
  refine Go.step st18 ?_
  show Go p e below _ (T18.setTop (mkF m 70 #[.val (.ref a1), .val (.int (2 : Int32)), .val (.int (2 : Int32)), .val (.ref a4), .val (.ref a5), .val (.long z15), .second, .unset, .unset, .unset, .unset, .unset, .unset, .unset] [(.int (469762049 : Int32)), (.int (z15.toInt32)), (.ref a1)]))
  obtain ⟨_, _, ⟨T19, L19, k19, n19⟩, -, X19, ⟨Lc19, hQ19, l19, y19, z19⟩, st19⟩ := Jvm.LawKit.callS X18 hx (y := (⟨"com/example/tinwire/tinwire/json/Transform", "quotient", "(II)I"⟩ : MethodName)) hown (mvT hZ (hw _ (List.mem_of_getElem? (i := 29) rfl))) (mvT hZ (hw _ (List.mem_of_getElem? (i := 30) rfl))) (mvT hZ (hw _ (List.mem_of_getElem? (i := 2) rfl))) (mvT hZ (hw _ (List.mem_of_getElem? (i := 31) rfl))) (by decide) (backOf (W := 1) (rm4 l Z a0 hw [] (z15.toInt32) (469762049 : Int32) h16 n0 Z16 ((by decide) : ¬ (((469762049 : Int32).toInt64) = (0 : Int64)))) hZ (hw _ (List.mem_of_getElem? (i := 31) rfl)) (hw _ (List.mem_of_getElem? (i := 2) rfl)) (by decide) (by decide)) (g := (mkF m 70 #[.val (.ref a1), .val (.int (2 : Int32)), .val (.int (2 : Int32)), .val (.ref a4), .val (.ref a5), .val (.long z15), .second, .unset, .unset, .unset, .unset, .unset, .unset, .unset] [(.int (469762049 : Int32)), (.int (z15.toInt32)), (.ref a1)])) rfl (by rw [hml]; rfl) (argsL := [(.int (z15.toInt32)), (.int (469762049 : Int32))]) (rest := [(.ref a1)]) (lenOf pd_1 rfl) rfl (by show 2 * 0 + _ ≤ _; exact Nat.le_of_eq rfl) (hb hby d1_70) (fun _ _ => ⟨rfl, e18, (by decide : 0 + 0 ≤ _), (by decide : 0 + 0 ≤ _)⟩)
  dsimp only [Pt.U, Pt.locs, Pt.cells, Pt.slots] at X19 l19 y19 z19 st19 hQ19
  subst l19 y19 z19
  obtain ⟨rfl, N19q, e19⟩ := hQ19
  have N19 := Fr.app N16 N19q
  refine Go.step st19 ?_
  show Go p e below _ (T19.setTop (mkF m 73 #[.val (.ref a1), .val (.int (2 : Int32)), .val (.int (2 : Int32)), .val (.ref a4), .val (.ref a5), .val (.long z15), .second, .unset, .unset, .unset, .unset, .unset, .unset, .unset] [(.int (f4 (z15.toInt32) (469762049 : Int32))), (.ref a1)]))
  obtain ⟨T20, h20, X20, e20, W20, st20⟩ := putF X19 hx hZ hown (host := "") (Or.inl (hw _ (List.mem_of_getElem? (i := 32) rfl))) Via.refl e19 F_outerRootQuotient_a1_16 E_a1_16 (Or.inr ⟨(hw _ (List.mem_of_getElem? (i := 33) rfl)), rfl, hnm⟩) (hw _ (List.mem_of_getElem? (i := 6) rfl)) (ty := .int) (by decide) rfl rfl (g := (mkF m 73 #[.val (.ref a1), .val (.int (2 : Int32)), .val (.int (2 : Int32)), .val (.ref a4), .val (.ref a5), .val (.long z15), .second, .unset, .unset, .unset, .unset, .unset, .unset, .unset] [(.int (f4 (z15.toInt32) (469762049 : Int32))), (.ref a1)])) rfl rfl (hb hby d1_73)
  refine Go.step st20 ?_
  have N20 := Fr.snoc X20 N19 g_a1
  have A_a4_20 := A_a4_16.other W20 hne_a4_a1
  have A_a5_20 := A_a5_16.other W20 hne_a5_a1
  have F_length_a1_20 := F_length_a1_16.other W20 (Or.inr (slot_ne (Or.inr (hw _ (List.mem_of_getElem? (i := 17) rfl))) (Or.inr (hw _ (List.mem_of_getElem? (i := 33) rfl))) (by decide) (t := .int) (t' := .int) (by decide) (by decide)))
  have F_roots_a1_20 := F_roots_a1_16.other W20 (Or.inr (slot_ne (Or.inr (hw _ (List.mem_of_getElem? (i := 19) rfl))) (Or.inr (hw _ (List.mem_of_getElem? (i := 33) rfl))) (by decide) (t := (.array .int)) (t' := .int) (by decide) (by decide)))
  have F_rootQuotients_a1_20 := F_rootQuotients_a1_16.other W20 (Or.inr (slot_ne (Or.inr (hw _ (List.mem_of_getElem? (i := 21) rfl))) (Or.inr (hw _ (List.mem_of_getElem? (i := 33) rfl))) (by decide) (t := (.array .int)) (t' := .int) (by decide) (by decide)))
  have F_outerRoot_a1_20 := F_outerRoot_a1_16.other W20 (Or.inr (slot_ne (Or.inr (hw _ (List.mem_of_getElem? (i := 28) rfl))) (Or.inr (hw _ (List.mem_of_getElem? (i := 33) rfl))) (by decide) (t := .int) (t' := .int) (by decide) (by decide)))
  have F_negativeInverse_a1_20 := F_negativeInverse_a1_16.other W20 (Or.inr (slot_ne (Or.inr (hw _ (List.mem_of_getElem? (i := 35) rfl))) (Or.inr (hw _ (List.mem_of_getElem? (i := 33) rfl))) (by decide) (t := .int) (t' := .int) (by decide) (by decide)))
  have F_scale_a1_20 := F_scale_a1_16.other W20 (Or.inr (slot_ne (Or.inr (hw _ (List.mem_of_getElem? (i := 39) rfl))) (Or.inr (hw _ (List.mem_of_getElem? (i := 33) rfl))) (by decide) (t := .int) (t' := .int) (by decide) (by decide)))
  have F_scaleQuotient_a1_20 := F_scaleQuotient_a1_16.other W20 (Or.inr (slot_ne (Or.inr (hw _ (List.mem_of_getElem? (i := 41) rfl))) (Or.inr (hw _ (List.mem_of_getElem? (i := 33) rfl))) (by decide) (t := .int) (t' := .int) (by decide) (by decide)))
  have E_a1_20 := E_a1_16.wr W20
  have F_prime_a1_20 := F_prime_a1_16.other W20 (Or.inr (slot_ne (Or.inr (hw _ (List.mem_of_getElem? (i := 15) rfl))) (Or.inr (hw _ (List.mem_of_getElem? (i := 33) rfl))) (by decide) (t := .int) (t' := .int) (by decide) (by decide)))
  have O20 := O16.wr W20 g_a1
  have Z20 := Nat.le_trans Z16 (Keep.of_wr W20).1
  have KK20 : Keep h0 h20 [a1, a4, a5] := KK16.wr W20 (Or.inl (by simp))
  have F_outerRootQuotient_a1_20 := F_outerRootQuotient_a1_16.same W20
  show Go p e below _ (T20.setTop (mkF m 76 #[.val (.ref a1), .val (.int (2 : Int32)), .val (.int (2 : Int32)), .val (.ref a4), .val (.ref a5), .val (.long z15), .second, .unset, .unset, .unset, .unset, .unset, .unset, .unset] []))
  refine Go.step (fun t k => XS.iloadN X20.here hx rfl (hb hby d1_76) rfl k) ?_
  show Go p e below _ (T20.setTop (mkF m 77 #[.val (.ref a1), .val (.int (2 : Int32)), .val (.int (2 : Int32)), .val (.ref a4), .val (.ref a5), .val (.long z15), .second, .unset, .unset, .unset, .unset, .unset, .unset, .unset] [(.int (2 : Int32))]))
  refine Go.step (fun t k => XS.iconst X20.here hx rfl (hb hby d1_77)  k) ?_
  show Go p e below _ (T20.setTop (mkF m 78 #[.val (.ref a1), .val (.int (2 : Int32)), .val (.int (2 : Int32)), .val (.ref a4), .val (.ref a5), .val (.long z15), .second, .unset, .unset, .unset, .unset, .unset, .unset, .unset] [(.int (4 : Int32)), (.int (2 : Int32))]))
  refine Go.step (fun t k => XS.idiv X20.here hx rfl (hb hby d1_78) rfl (by decide) k) ?_
  show Go p e below _ (T20.setTop (mkF m 79 #[.val (.ref a1), .val (.int (2 : Int32)), .val (.int (2 : Int32)), .val (.ref a4), .val (.ref a5), .val (.long z15), .second, .unset, .unset, .unset, .unset, .unset, .unset, .unset] [(.int (0 : Int32))]))
  refine Go.step (fun t k => XS.istore X20.here hx rfl (hb hby d1_79) rfl (l' := #[.val (.ref a1), .val (.int (2 : Int32)), .val (.int (2 : Int32)), .val (.ref a4), .val (.ref a5), .val (.long z15), .second, .val (.int (0 : Int32)), .unset, .unset, .unset, .unset, .unset, .unset]) rfl k) ?_
  show Go p e below _ (T20.setTop (mkF m 81 #[.val (.ref a1), .val (.int (2 : Int32)), .val (.int (2 : Int32)), .val (.ref a4), .val (.ref a5), .val (.long z15), .second, .val (.int (0 : Int32)), .unset, .unset, .unset, .unset, .unset, .unset] []))
  refine Go.step (fun t k => XS.lload X20.here hx rfl (hb hby d1_81) rfl k) ?_
  show Go p e below _ (T20.setTop (mkF m 83 #[.val (.ref a1), .val (.int (2 : Int32)), .val (.int (2 : Int32)), .val (.ref a4), .val (.ref a5), .val (.long z15), .second, .val (.int (0 : Int32)), .unset, .unset, .unset, .unset, .unset, .unset] [(.long z15)]))
  refine Go.step (fun t k => XS.lload X20.here hx rfl (hb hby d1_83) rfl k) ?_
  show Go p e below _ (T20.setTop (mkF m 85 #[.val (.ref a1), .val (.int (2 : Int32)), .val (.int (2 : Int32)), .val (.ref a4), .val (.ref a5), .val (.long z15), .second, .val (.int (0 : Int32)), .unset, .unset, .unset, .unset, .unset, .unset] [(.long z15), (.long z15)]))
  refine Go.step (fun t k => XS.lmul X20.here hx rfl (hb hby d1_85) rfl k) ?_
  show Go p e below _ (T20.setTop (mkF m 86 #[.val (.ref a1), .val (.int (2 : Int32)), .val (.int (2 : Int32)), .val (.ref a4), .val (.ref a5), .val (.long z15), .second, .val (.int (0 : Int32)), .unset, .unset, .unset, .unset, .unset, .unset] [(.long (z15 * z15))]))
  refine Go.step (fun t k => XS.aloadN X20.here hx rfl (hb hby d1_86) rfl rfl k) ?_
  show Go p e below _ (T20.setTop (mkF m 87 #[.val (.ref a1), .val (.int (2 : Int32)), .val (.int (2 : Int32)), .val (.ref a4), .val (.ref a5), .val (.long z15), .second, .val (.int (0 : Int32)), .unset, .unset, .unset, .unset, .unset, .unset] [(.ref a1), (.long (z15 * z15))]))
  obtain ⟨T21, X21, e21, st21⟩ := getF X20 hx hZ hown (host := "") (Or.inl (hw _ (List.mem_of_getElem? (i := 14) rfl))) Via.refl e20 F_prime_a1_20 (g := (mkF m 87 #[.val (.ref a1), .val (.int (2 : Int32)), .val (.int (2 : Int32)), .val (.ref a4), .val (.ref a5), .val (.long z15), .second, .val (.int (0 : Int32)), .unset, .unset, .unset, .unset, .unset, .unset] [(.ref a1), (.long (z15 * z15))])) rfl rfl (hb hby d1_87)
  refine Go.step st21 ?_
  show Go p e below _ (T21.setTop (mkF m 90 #[.val (.ref a1), .val (.int (2 : Int32)), .val (.int (2 : Int32)), .val (.ref a4), .val (.ref a5), .val (.long z15), .second, .val (.int (0 : Int32)), .unset, .unset, .unset, .unset, .unset, .unset] [(.int (469762049 : Int32)), (.long (z15 * z15))]))
  refine Go.step (fun t k => XS.i2l X21.here hx rfl (hb hby d1_90) rfl k) ?_
  show Go p e below _ (T21.setTop (mkF m 91 #[.val (.ref a1), .val (.int (2 : Int32)), .val (.int (2 : Int32)), .val (.ref a4), .val (.ref a5), .val (.long z15), .second, .val (.int (0 : Int32)), .unset, .unset, .unset, .unset, .unset, .unset] [(.long (469762049 : Int64)), (.long (z15 * z15))]))
  refine Go.step (fun t (k : Steps p.tables e below (T21.setTop (mkF m 92 #[.val (.ref a1), .val (.int (2 : Int32)), .val (.int (2 : Int32)), .val (.ref a4), .val (.ref a5), .val (.long z15), .second, .val (.int (0 : Int32)), .unset, .unset, .unset, .unset, .unset, .unset] [(.long ((z15 * z15) % (469762049 : Int64)))])) t) => XS.lrem X21.here hx rfl (hb hby d1_91) rfl (by decide) (by rw [lrem_mod]; exact k)) ?_
  show Go p e below _ (T21.setTop (mkF m 92 #[.val (.ref a1), .val (.int (2 : Int32)), .val (.int (2 : Int32)), .val (.ref a4), .val (.ref a5), .val (.long z15), .second, .val (.int (0 : Int32)), .unset, .unset, .unset, .unset, .unset, .unset] [(.long ((z15 * z15) % (469762049 : Int64)))]))
  obtain ⟨v22, hv22⟩ : ∃ z : Int64, z = ((z15 * z15) % (469762049 : Int64)) := ⟨_, rfl⟩
  rw [← hv22]
  show Go p e below _ (T21.setTop (mkF m 92 #[.val (.ref a1), .val (.int (2 : Int32)), .val (.int (2 : Int32)), .val (.ref a4), .val (.ref a5), .val (.long z15), .second, .val (.int (0 : Int32)), .unset, .unset, .unset, .unset, .unset, .unset] [(.long v22)]))
  refine Go.step (fun t k => XS.lstore X21.here hx rfl (hb hby d1_92) rfl (l' := #[.val (.ref a1), .val (.int (2 : Int32)), .val (.int (2 : Int32)), .val (.ref a4), .val (.ref a5), .val (.long z15), .second, .val (.int (0 : Int32)), .val (.long v22), .second, .unset, .unset, .unset, .unset]) rfl k) ?_
  show Go p e below _ (T21.setTop (mkF m 94 #[.val (.ref a1), .val (.int (2 : Int32)), .val (.int (2 : Int32)), .val (.ref a4), .val (.ref a5), .val (.long z15), .second, .val (.int (0 : Int32)), .val (.long v22), .second, .unset, .unset, .unset, .unset] []))
  refine Go.step (fun t k => XS.lconst X21.here hx rfl (hb hby d1_94)  k) ?_
  show Go p e below _ (T21.setTop (mkF m 95 #[.val (.ref a1), .val (.int (2 : Int32)), .val (.int (2 : Int32)), .val (.ref a4), .val (.ref a5), .val (.long z15), .second, .val (.int (0 : Int32)), .val (.long v22), .second, .unset, .unset, .unset, .unset] [(.long (1 : Int64))]))
  refine Go.step (fun t k => XS.lstore X21.here hx rfl (hb hby d1_95) rfl (l' := #[.val (.ref a1), .val (.int (2 : Int32)), .val (.int (2 : Int32)), .val (.ref a4), .val (.ref a5), .val (.long z15), .second, .val (.int (0 : Int32)), .val (.long v22), .second, .val (.long (1 : Int64)), .second, .unset, .unset]) rfl k) ?_
  show Go p e below _ (T21.setTop (mkF m 97 #[.val (.ref a1), .val (.int (2 : Int32)), .val (.int (2 : Int32)), .val (.ref a4), .val (.ref a5), .val (.long z15), .second, .val (.int (0 : Int32)), .val (.long v22), .second, .val (.long (1 : Int64)), .second, .unset, .unset] []))
  refine Go.step (fun t k => XS.aloadN X21.here hx rfl (hb hby d1_97) rfl rfl k) ?_
  show Go p e below _ (T21.setTop (mkF m 98 #[.val (.ref a1), .val (.int (2 : Int32)), .val (.int (2 : Int32)), .val (.ref a4), .val (.ref a5), .val (.long z15), .second, .val (.int (0 : Int32)), .val (.long v22), .second, .val (.long (1 : Int64)), .second, .unset, .unset] [(.ref a4)]))
  refine Go.step (fun t k => XS.iconst X21.here hx rfl (hb hby d1_98)  k) ?_
  show Go p e below _ (T21.setTop (mkF m 99 #[.val (.ref a1), .val (.int (2 : Int32)), .val (.int (2 : Int32)), .val (.ref a4), .val (.ref a5), .val (.long z15), .second, .val (.int (0 : Int32)), .val (.long v22), .second, .val (.long (1 : Int64)), .second, .unset, .unset] [(.int (0 : Int32)), (.ref a4)]))
  refine Go.step (fun t k => XS.iconst X21.here hx rfl (hb hby d1_99)  k) ?_
  show Go p e below _ (T21.setTop (mkF m 100 #[.val (.ref a1), .val (.int (2 : Int32)), .val (.int (2 : Int32)), .val (.ref a4), .val (.ref a5), .val (.long z15), .second, .val (.int (0 : Int32)), .val (.long v22), .second, .val (.long (1 : Int64)), .second, .unset, .unset] [(.int (1 : Int32)), (.int (0 : Int32)), (.ref a4)]))
  obtain ⟨cl23, Ar23, in23, -⟩ := A_a4_20.hin (j := (0 : Int32)) (by decide) (by decide)
  obtain ⟨T23, h23, X23, e23, W23, st23⟩ := stI X21 hx hZ e21 Ar23 in23 (g := (mkF m 100 #[.val (.ref a1), .val (.int (2 : Int32)), .val (.int (2 : Int32)), .val (.ref a4), .val (.ref a5), .val (.long z15), .second, .val (.int (0 : Int32)), .val (.long v22), .second, .val (.long (1 : Int64)), .second, .unset, .unset] [(.int (1 : Int32)), (.int (0 : Int32)), (.ref a4)])) rfl rfl (hb hby d1_100)
  refine Go.step st23 ?_
  have N23 := Fr.snoc X23 N20 g_a4
  have A_a5_23 := A_a5_20.other W23 hne_a5_a4
  have F_length_a1_23 := F_length_a1_20.other W23 (Or.inl hne_a1_a4)
  have F_roots_a1_23 := F_roots_a1_20.other W23 (Or.inl hne_a1_a4)
  have F_rootQuotients_a1_23 := F_rootQuotients_a1_20.other W23 (Or.inl hne_a1_a4)
  have F_outerRoot_a1_23 := F_outerRoot_a1_20.other W23 (Or.inl hne_a1_a4)
  have F_outerRootQuotient_a1_23 := F_outerRootQuotient_a1_20.other W23 (Or.inl hne_a1_a4)
  have F_negativeInverse_a1_23 := F_negativeInverse_a1_20.other W23 (Or.inl hne_a1_a4)
  have F_scale_a1_23 := F_scale_a1_20.other W23 (Or.inl hne_a1_a4)
  have F_scaleQuotient_a1_23 := F_scaleQuotient_a1_20.other W23 (Or.inl hne_a1_a4)
  have E_a1_23 := E_a1_20.wr W23
  have F_prime_a1_23 := F_prime_a1_20.other W23 (Or.inl hne_a1_a4)
  have O23 := O20.wr W23 g_a4
  have Z23 := Nat.le_trans Z20 (Keep.of_wr W23).1
  have KK23 : Keep h0 h23 [a1, a4, a5] := KK20.wr W23 (Or.inl (by simp))
  have A_a4_23 : Ary Z h23 a4 .int 1 (fun i => .int ((upA g_a4f 0 (1 : Int32)) i)) := A_a4_20.setI W23 (by decide)
  show Go p e below _ (T23.setTop (mkF m 101 #[.val (.ref a1), .val (.int (2 : Int32)), .val (.int (2 : Int32)), .val (.ref a4), .val (.ref a5), .val (.long z15), .second, .val (.int (0 : Int32)), .val (.long v22), .second, .val (.long (1 : Int64)), .second, .unset, .unset] []))
  refine Go.step (fun t k => XS.aload X23.here hx rfl (hb hby d1_101) rfl rfl k) ?_
  show Go p e below _ (T23.setTop (mkF m 103 #[.val (.ref a1), .val (.int (2 : Int32)), .val (.int (2 : Int32)), .val (.ref a4), .val (.ref a5), .val (.long z15), .second, .val (.int (0 : Int32)), .val (.long v22), .second, .val (.long (1 : Int64)), .second, .unset, .unset] [(.ref a5)]))
  refine Go.step (fun t k => XS.iconst X23.here hx rfl (hb hby d1_103)  k) ?_
  show Go p e below _ (T23.setTop (mkF m 104 #[.val (.ref a1), .val (.int (2 : Int32)), .val (.int (2 : Int32)), .val (.ref a4), .val (.ref a5), .val (.long z15), .second, .val (.int (0 : Int32)), .val (.long v22), .second, .val (.long (1 : Int64)), .second, .unset, .unset] [(.int (0 : Int32)), (.ref a5)]))
  refine Go.step (fun t k => XS.iconst X23.here hx rfl (hb hby d1_104)  k) ?_
  show Go p e below _ (T23.setTop (mkF m 105 #[.val (.ref a1), .val (.int (2 : Int32)), .val (.int (2 : Int32)), .val (.ref a4), .val (.ref a5), .val (.long z15), .second, .val (.int (0 : Int32)), .val (.long v22), .second, .val (.long (1 : Int64)), .second, .unset, .unset] [(.int (1 : Int32)), (.int (0 : Int32)), (.ref a5)]))
  refine Go.step (fun t k => XS.aloadN X23.here hx rfl (hb hby d1_105) rfl rfl k) ?_
  show Go p e below _ (T23.setTop (mkF m 106 #[.val (.ref a1), .val (.int (2 : Int32)), .val (.int (2 : Int32)), .val (.ref a4), .val (.ref a5), .val (.long z15), .second, .val (.int (0 : Int32)), .val (.long v22), .second, .val (.long (1 : Int64)), .second, .unset, .unset] [(.ref a1), (.int (1 : Int32)), (.int (0 : Int32)), (.ref a5)]))
  obtain ⟨T24, X24, e24, st24⟩ := getF X23 hx hZ hown (host := "") (Or.inl (hw _ (List.mem_of_getElem? (i := 14) rfl))) Via.refl e23 F_prime_a1_23 (g := (mkF m 106 #[.val (.ref a1), .val (.int (2 : Int32)), .val (.int (2 : Int32)), .val (.ref a4), .val (.ref a5), .val (.long z15), .second, .val (.int (0 : Int32)), .val (.long v22), .second, .val (.long (1 : Int64)), .second, .unset, .unset] [(.ref a1), (.int (1 : Int32)), (.int (0 : Int32)), (.ref a5)])) rfl rfl (hb hby d1_106)
  refine Go.step st24 ?_
  show Go p e below _ (T24.setTop (mkF m 109 #[.val (.ref a1), .val (.int (2 : Int32)), .val (.int (2 : Int32)), .val (.ref a4), .val (.ref a5), .val (.long z15), .second, .val (.int (0 : Int32)), .val (.long v22), .second, .val (.long (1 : Int64)), .second, .unset, .unset] [(.int (469762049 : Int32)), (.int (1 : Int32)), (.int (0 : Int32)), (.ref a5)]))
  obtain ⟨_, _, ⟨T25, L25, k25, n25⟩, -, X25, ⟨Lc25, hQ25, l25, y25, z25⟩, st25⟩ := Jvm.LawKit.callS X24 hx (y := (⟨"com/example/tinwire/tinwire/json/Transform", "quotient", "(II)I"⟩ : MethodName)) hown (mvT hZ (hw _ (List.mem_of_getElem? (i := 29) rfl))) (mvT hZ (hw _ (List.mem_of_getElem? (i := 30) rfl))) (mvT hZ (hw _ (List.mem_of_getElem? (i := 2) rfl))) (mvT hZ (hw _ (List.mem_of_getElem? (i := 31) rfl))) (by decide) (backOf (W := 2) (rm4 l Z a0 hw [] (1 : Int32) (469762049 : Int32) h23 n0 Z23 ((by decide) : ¬ (((469762049 : Int32).toInt64) = (0 : Int64)))) hZ (hw _ (List.mem_of_getElem? (i := 31) rfl)) (hw _ (List.mem_of_getElem? (i := 2) rfl)) (by decide) (by decide)) (g := (mkF m 109 #[.val (.ref a1), .val (.int (2 : Int32)), .val (.int (2 : Int32)), .val (.ref a4), .val (.ref a5), .val (.long z15), .second, .val (.int (0 : Int32)), .val (.long v22), .second, .val (.long (1 : Int64)), .second, .unset, .unset] [(.int (469762049 : Int32)), (.int (1 : Int32)), (.int (0 : Int32)), (.ref a5)])) rfl (by rw [hml]; rfl) (argsL := [(.int (1 : Int32)), (.int (469762049 : Int32))]) (rest := [(.int (0 : Int32)), (.ref a5)]) (lenOf pd_1 rfl) rfl (by show 2 * 0 + _ ≤ _; exact Nat.le_of_eq rfl) (hb hby d1_109) (fun _ _ => ⟨rfl, e24, (by decide : 0 + 0 ≤ _), (by decide : 0 + 0 ≤ _)⟩)
  dsimp only [Pt.U, Pt.locs, Pt.cells, Pt.slots] at X25 l25 y25 z25 st25 hQ25
  subst l25 y25 z25
  obtain ⟨rfl, N25q, e25⟩ := hQ25
  have N25 := Fr.app N23 N25q
  refine Go.step st25 ?_
  show Go p e below _ (T25.setTop (mkF m 112 #[.val (.ref a1), .val (.int (2 : Int32)), .val (.int (2 : Int32)), .val (.ref a4), .val (.ref a5), .val (.long z15), .second, .val (.int (0 : Int32)), .val (.long v22), .second, .val (.long (1 : Int64)), .second, .unset, .unset] [(.int (f4 (1 : Int32) (469762049 : Int32))), (.int (0 : Int32)), (.ref a5)]))
  obtain ⟨cl26, Ar26, in26, -⟩ := A_a5_23.hin (j := (0 : Int32)) (by decide) (by decide)
  obtain ⟨T26, h26, X26, e26, W26, st26⟩ := stI X25 hx hZ e25 Ar26 in26 (g := (mkF m 112 #[.val (.ref a1), .val (.int (2 : Int32)), .val (.int (2 : Int32)), .val (.ref a4), .val (.ref a5), .val (.long z15), .second, .val (.int (0 : Int32)), .val (.long v22), .second, .val (.long (1 : Int64)), .second, .unset, .unset] [(.int (f4 (1 : Int32) (469762049 : Int32))), (.int (0 : Int32)), (.ref a5)])) rfl rfl (hb hby d1_112)
  refine Go.step st26 ?_
  have N26 := Fr.snoc X26 N25 g_a5
  have F_length_a1_26 := F_length_a1_23.other W26 (Or.inl hne_a1_a5)
  have F_roots_a1_26 := F_roots_a1_23.other W26 (Or.inl hne_a1_a5)
  have F_rootQuotients_a1_26 := F_rootQuotients_a1_23.other W26 (Or.inl hne_a1_a5)
  have F_outerRoot_a1_26 := F_outerRoot_a1_23.other W26 (Or.inl hne_a1_a5)
  have F_outerRootQuotient_a1_26 := F_outerRootQuotient_a1_23.other W26 (Or.inl hne_a1_a5)
  have F_negativeInverse_a1_26 := F_negativeInverse_a1_23.other W26 (Or.inl hne_a1_a5)
  have F_scale_a1_26 := F_scale_a1_23.other W26 (Or.inl hne_a1_a5)
  have F_scaleQuotient_a1_26 := F_scaleQuotient_a1_23.other W26 (Or.inl hne_a1_a5)
  have E_a1_26 := E_a1_23.wr W26
  have F_prime_a1_26 := F_prime_a1_23.other W26 (Or.inl hne_a1_a5)
  have A_a4_26 := A_a4_23.other W26 hne_a4_a5
  have O26 := O23.wr W26 g_a5
  have Z26 := Nat.le_trans Z23 (Keep.of_wr W26).1
  have KK26 : Keep h0 h26 [a1, a4, a5] := KK23.wr W26 (Or.inl (by simp))
  have A_a5_26 : Ary Z h26 a5 .int 1 (fun i => .int ((upA g_a5f 0 (f4 (1 : Int32) (469762049 : Int32))) i)) := A_a5_23.setI W26 (by decide)
  show Go p e below _ (T26.setTop (mkF m 113 #[.val (.ref a1), .val (.int (2 : Int32)), .val (.int (2 : Int32)), .val (.ref a4), .val (.ref a5), .val (.long z15), .second, .val (.int (0 : Int32)), .val (.long v22), .second, .val (.long (1 : Int64)), .second, .unset, .unset] []))
  refine Go.step (fun t k => XS.iconst X26.here hx rfl (hb hby d1_113)  k) ?_
  show Go p e below _ (T26.setTop (mkF m 114 #[.val (.ref a1), .val (.int (2 : Int32)), .val (.int (2 : Int32)), .val (.ref a4), .val (.ref a5), .val (.long z15), .second, .val (.int (0 : Int32)), .val (.long v22), .second, .val (.long (1 : Int64)), .second, .unset, .unset] [(.int (0 : Int32))]))
  refine Go.step (fun t k => XS.istore X26.here hx rfl (hb hby d1_114) rfl (l' := #[.val (.ref a1), .val (.int (2 : Int32)), .val (.int (2 : Int32)), .val (.ref a4), .val (.ref a5), .val (.long z15), .second, .val (.int (0 : Int32)), .val (.long v22), .second, .val (.long (1 : Int64)), .second, .val (.int (0 : Int32)), .unset]) rfl k) ?_
  show Go p e below _ (T26.setTop (mkF m 116 #[.val (.ref a1), .val (.int (2 : Int32)), .val (.int (2 : Int32)), .val (.ref a4), .val (.ref a5), .val (.long z15), .second, .val (.int (0 : Int32)), .val (.long v22), .second, .val (.long (1 : Int64)), .second, .val (.int (0 : Int32)), .unset] []))
  refine Go.step (fun t k => XS.iload X26.here hx rfl (hb hby d1_116) rfl k) ?_
  show Go p e below _ (T26.setTop (mkF m 118 #[.val (.ref a1), .val (.int (2 : Int32)), .val (.int (2 : Int32)), .val (.ref a4), .val (.ref a5), .val (.long z15), .second, .val (.int (0 : Int32)), .val (.long v22), .second, .val (.long (1 : Int64)), .second, .val (.int (0 : Int32)), .unset] [(.int (0 : Int32))]))
  refine Go.step (fun t k => XS.iload X26.here hx rfl (hb hby d1_118) rfl k) ?_
  show Go p e below _ (T26.setTop (mkF m 120 #[.val (.ref a1), .val (.int (2 : Int32)), .val (.int (2 : Int32)), .val (.ref a4), .val (.ref a5), .val (.long z15), .second, .val (.int (0 : Int32)), .val (.long v22), .second, .val (.long (1 : Int64)), .second, .val (.int (0 : Int32)), .unset] [(.int (0 : Int32)), (.int (0 : Int32))]))
  refine Go.step (fun t k => XS.icmpYes X26.here hx rfl (pc0 := 120) (pc' := 170) rfl (hb hby d1_120) rfl (flt (by decide : ¬ ((0 : Int32) < (0 : Int32)))).2.1 (by decide) (by decide) k) ?_
  show Go p e below _ (T26.setTop (mkF m 170 #[.val (.ref a1), .val (.int (2 : Int32)), .val (.int (2 : Int32)), .val (.ref a4), .val (.ref a5), .val (.long z15), .second, .val (.int (0 : Int32)), .val (.long v22), .second, .val (.long (1 : Int64)), .second, .val (.int (0 : Int32)), .unset] []))
  refine Go.step (fun t k => XS.iload X26.here hx rfl (hb hby d1_170) rfl k) ?_
  show Go p e below _ (T26.setTop (mkF m 172 #[.val (.ref a1), .val (.int (2 : Int32)), .val (.int (2 : Int32)), .val (.ref a4), .val (.ref a5), .val (.long z15), .second, .val (.int (0 : Int32)), .val (.long v22), .second, .val (.long (1 : Int64)), .second, .val (.int (0 : Int32)), .unset] [(.int (0 : Int32))]))
  refine Go.step (fun t k => XS.iconst X26.here hx rfl (hb hby d1_172)  k) ?_
  show Go p e below _ (T26.setTop (mkF m 173 #[.val (.ref a1), .val (.int (2 : Int32)), .val (.int (2 : Int32)), .val (.ref a4), .val (.ref a5), .val (.long z15), .second, .val (.int (0 : Int32)), .val (.long v22), .second, .val (.long (1 : Int64)), .second, .val (.int (0 : Int32)), .unset] [(.int (2 : Int32)), (.int (0 : Int32))]))
  refine Go.step (fun t k => XS.idiv X26.here hx rfl (hb hby d1_173) rfl (by decide) k) ?_
  show Go p e below _ (T26.setTop (mkF m 174 #[.val (.ref a1), .val (.int (2 : Int32)), .val (.int (2 : Int32)), .val (.ref a4), .val (.ref a5), .val (.long z15), .second, .val (.int (0 : Int32)), .val (.long v22), .second, .val (.long (1 : Int64)), .second, .val (.int (0 : Int32)), .unset] [(.int (0 : Int32))]))
  refine Go.step (fun t k => XS.istore X26.here hx rfl (hb hby d1_174) rfl (l' := #[.val (.ref a1), .val (.int (2 : Int32)), .val (.int (2 : Int32)), .val (.ref a4), .val (.ref a5), .val (.long z15), .second, .val (.int (0 : Int32)), .val (.long v22), .second, .val (.long (1 : Int64)), .second, .val (.int (0 : Int32)), .unset]) rfl k) ?_
  show Go p e below _ (T26.setTop (mkF m 176 #[.val (.ref a1), .val (.int (2 : Int32)), .val (.int (2 : Int32)), .val (.ref a4), .val (.ref a5), .val (.long z15), .second, .val (.int (0 : Int32)), .val (.long v22), .second, .val (.long (1 : Int64)), .second, .val (.int (0 : Int32)), .unset] []))
  refine Go.step (fun t k => XS.iload X26.here hx rfl (hb hby d1_176) rfl k) ?_
  show Go p e below _ (T26.setTop (mkF m 178 #[.val (.ref a1), .val (.int (2 : Int32)), .val (.int (2 : Int32)), .val (.ref a4), .val (.ref a5), .val (.long z15), .second, .val (.int (0 : Int32)), .val (.long v22), .second, .val (.long (1 : Int64)), .second, .val (.int (0 : Int32)), .unset] [(.int (0 : Int32))]))
  refine Go.step (fun t k => XS.ifYes X26.here hx rfl (pc0 := 178) (pc' := 244) rfl (hb hby d1_178) rfl ((if0 _ _).trans (flt (by decide : ¬ ((0 : Int32) < (0 : Int32)))).2.2.2) (by decide) (by decide) k) ?_
  show Go p e below _ (T26.setTop (mkF m 244 #[.val (.ref a1), .val (.int (2 : Int32)), .val (.int (2 : Int32)), .val (.ref a4), .val (.ref a5), .val (.long z15), .second, .val (.int (0 : Int32)), .val (.long v22), .second, .val (.long (1 : Int64)), .second, .val (.int (0 : Int32)), .unset] []))
  refine Go.step (fun t k => XS.aloadN X26.here hx rfl (hb hby d1_244) rfl rfl k) ?_
  show Go p e below _ (T26.setTop (mkF m 245 #[.val (.ref a1), .val (.int (2 : Int32)), .val (.int (2 : Int32)), .val (.ref a4), .val (.ref a5), .val (.long z15), .second, .val (.int (0 : Int32)), .val (.long v22), .second, .val (.long (1 : Int64)), .second, .val (.int (0 : Int32)), .unset] [(.ref a1)]))
  obtain ⟨T27, X27, e27, st27⟩ := getF X26 hx hZ hown (host := "") (Or.inl (hw _ (List.mem_of_getElem? (i := 14) rfl))) Via.refl e26 F_prime_a1_26 (g := (mkF m 245 #[.val (.ref a1), .val (.int (2 : Int32)), .val (.int (2 : Int32)), .val (.ref a4), .val (.ref a5), .val (.long z15), .second, .val (.int (0 : Int32)), .val (.long v22), .second, .val (.long (1 : Int64)), .second, .val (.int (0 : Int32)), .unset] [(.ref a1)])) rfl rfl (hb hby d1_245)
  refine Go.step st27 ?_
  show Go p e below _ (T27.setTop (mkF m 248 #[.val (.ref a1), .val (.int (2 : Int32)), .val (.int (2 : Int32)), .val (.ref a4), .val (.ref a5), .val (.long z15), .second, .val (.int (0 : Int32)), .val (.long v22), .second, .val (.long (1 : Int64)), .second, .val (.int (0 : Int32)), .unset] [(.int (469762049 : Int32))]))
  refine Go.step (fun t k => XS.istore X27.here hx rfl (hb hby d1_248) rfl (l' := #[.val (.ref a1), .val (.int (2 : Int32)), .val (.int (2 : Int32)), .val (.ref a4), .val (.ref a5), .val (.long z15), .second, .val (.int (0 : Int32)), .val (.long v22), .second, .val (.long (1 : Int64)), .second, .val (.int (469762049 : Int32)), .unset]) rfl k) ?_
  show Go p e below _ (T27.setTop (mkF m 250 #[.val (.ref a1), .val (.int (2 : Int32)), .val (.int (2 : Int32)), .val (.ref a4), .val (.ref a5), .val (.long z15), .second, .val (.int (0 : Int32)), .val (.long v22), .second, .val (.long (1 : Int64)), .second, .val (.int (469762049 : Int32)), .unset] []))
  refine Go.step (fun t k => XS.iconst X27.here hx rfl (hb hby d1_250)  k) ?_
  show Go p e below _ (T27.setTop (mkF m 251 #[.val (.ref a1), .val (.int (2 : Int32)), .val (.int (2 : Int32)), .val (.ref a4), .val (.ref a5), .val (.long z15), .second, .val (.int (0 : Int32)), .val (.long v22), .second, .val (.long (1 : Int64)), .second, .val (.int (469762049 : Int32)), .unset] [(.int (0 : Int32))]))
  refine Go.step (fun t k => XS.istore X27.here hx rfl (hb hby d1_251) rfl (l' := #[.val (.ref a1), .val (.int (2 : Int32)), .val (.int (2 : Int32)), .val (.ref a4), .val (.ref a5), .val (.long z15), .second, .val (.int (0 : Int32)), .val (.long v22), .second, .val (.long (1 : Int64)), .second, .val (.int (469762049 : Int32)), .val (.int (0 : Int32))]) rfl k) ?_
  show Go p e below _ (T27.setTop (mkF m 253 #[.val (.ref a1), .val (.int (2 : Int32)), .val (.int (2 : Int32)), .val (.ref a4), .val (.ref a5), .val (.long z15), .second, .val (.int (0 : Int32)), .val (.long v22), .second, .val (.long (1 : Int64)), .second, .val (.int (469762049 : Int32)), .val (.int (0 : Int32))] []))
  refine Go.step (fun t k => XS.iload X27.here hx rfl (hb hby d1_253) rfl k) ?_
  show Go p e below _ (T27.setTop (mkF m 255 #[.val (.ref a1), .val (.int (2 : Int32)), .val (.int (2 : Int32)), .val (.ref a4), .val (.ref a5), .val (.long z15), .second, .val (.int (0 : Int32)), .val (.long v22), .second, .val (.long (1 : Int64)), .second, .val (.int (469762049 : Int32)), .val (.int (0 : Int32))] [(.int (0 : Int32))]))
  refine Go.step (fun t k => XS.iconst X27.here hx rfl (hb hby d1_255)  k) ?_
  show Go p e below _ (T27.setTop (mkF m 256 #[.val (.ref a1), .val (.int (2 : Int32)), .val (.int (2 : Int32)), .val (.ref a4), .val (.ref a5), .val (.long z15), .second, .val (.int (0 : Int32)), .val (.long v22), .second, .val (.long (1 : Int64)), .second, .val (.int (469762049 : Int32)), .val (.int (0 : Int32))] [(.int (4 : Int32)), (.int (0 : Int32))]))
  refine Go.step (fun t k => XS.icmpNo X27.here hx rfl (hb hby d1_256) rfl (tlt (by decide : (0 : Int32) < (4 : Int32))).2.1 k) ?_
  show Go p e below _ (T27.setTop (mkF m 259 #[.val (.ref a1), .val (.int (2 : Int32)), .val (.int (2 : Int32)), .val (.ref a4), .val (.ref a5), .val (.long z15), .second, .val (.int (0 : Int32)), .val (.long v22), .second, .val (.long (1 : Int64)), .second, .val (.int (469762049 : Int32)), .val (.int (0 : Int32))] []))
  refine Go.step (fun t k => XS.iload X27.here hx rfl (hb hby d1_259) rfl k) ?_
  show Go p e below _ (T27.setTop (mkF m 261 #[.val (.ref a1), .val (.int (2 : Int32)), .val (.int (2 : Int32)), .val (.ref a4), .val (.ref a5), .val (.long z15), .second, .val (.int (0 : Int32)), .val (.long v22), .second, .val (.long (1 : Int64)), .second, .val (.int (469762049 : Int32)), .val (.int (0 : Int32))] [(.int (469762049 : Int32))]))
  refine Go.step (fun t k => XS.iconst X27.here hx rfl (hb hby d1_261)  k) ?_
  show Go p e below _ (T27.setTop (mkF m 262 #[.val (.ref a1), .val (.int (2 : Int32)), .val (.int (2 : Int32)), .val (.ref a4), .val (.ref a5), .val (.long z15), .second, .val (.int (0 : Int32)), .val (.long v22), .second, .val (.long (1 : Int64)), .second, .val (.int (469762049 : Int32)), .val (.int (0 : Int32))] [(.int (2 : Int32)), (.int (469762049 : Int32))]))
  refine Go.step (fun t k => XS.aloadN X27.here hx rfl (hb hby d1_262) rfl rfl k) ?_
  show Go p e below _ (T27.setTop (mkF m 263 #[.val (.ref a1), .val (.int (2 : Int32)), .val (.int (2 : Int32)), .val (.ref a4), .val (.ref a5), .val (.long z15), .second, .val (.int (0 : Int32)), .val (.long v22), .second, .val (.long (1 : Int64)), .second, .val (.int (469762049 : Int32)), .val (.int (0 : Int32))] [(.ref a1), (.int (2 : Int32)), (.int (469762049 : Int32))]))
  obtain ⟨T28, X28, e28, st28⟩ := getF X27 hx hZ hown (host := "") (Or.inl (hw _ (List.mem_of_getElem? (i := 14) rfl))) Via.refl e27 F_prime_a1_26 (g := (mkF m 263 #[.val (.ref a1), .val (.int (2 : Int32)), .val (.int (2 : Int32)), .val (.ref a4), .val (.ref a5), .val (.long z15), .second, .val (.int (0 : Int32)), .val (.long v22), .second, .val (.long (1 : Int64)), .second, .val (.int (469762049 : Int32)), .val (.int (0 : Int32))] [(.ref a1), (.int (2 : Int32)), (.int (469762049 : Int32))])) rfl rfl (hb hby d1_263)
  refine Go.step st28 ?_
  show Go p e below _ (T28.setTop (mkF m 266 #[.val (.ref a1), .val (.int (2 : Int32)), .val (.int (2 : Int32)), .val (.ref a4), .val (.ref a5), .val (.long z15), .second, .val (.int (0 : Int32)), .val (.long v22), .second, .val (.long (1 : Int64)), .second, .val (.int (469762049 : Int32)), .val (.int (0 : Int32))] [(.int (469762049 : Int32)), (.int (2 : Int32)), (.int (469762049 : Int32))]))
  refine Go.step (fun t k => XS.iload X28.here hx rfl (hb hby d1_266) rfl k) ?_
  show Go p e below _ (T28.setTop (mkF m 268 #[.val (.ref a1), .val (.int (2 : Int32)), .val (.int (2 : Int32)), .val (.ref a4), .val (.ref a5), .val (.long z15), .second, .val (.int (0 : Int32)), .val (.long v22), .second, .val (.long (1 : Int64)), .second, .val (.int (469762049 : Int32)), .val (.int (0 : Int32))] [(.int (469762049 : Int32)), (.int (469762049 : Int32)), (.int (2 : Int32)), (.int (469762049 : Int32))]))
  refine Go.step (fun t k => XS.imul X28.here hx rfl (hb hby d1_268) rfl k) ?_
  show Go p e below _ (T28.setTop (mkF m 269 #[.val (.ref a1), .val (.int (2 : Int32)), .val (.int (2 : Int32)), .val (.ref a4), .val (.ref a5), .val (.long z15), .second, .val (.int (0 : Int32)), .val (.long v22), .second, .val (.long (1 : Int64)), .second, .val (.int (469762049 : Int32)), .val (.int (0 : Int32))] [(.int (939524097 : Int32)), (.int (2 : Int32)), (.int (469762049 : Int32))]))
  refine Go.step (fun t k => XS.isub X28.here hx rfl (hb hby d1_269) rfl k) ?_
  show Go p e below _ (T28.setTop (mkF m 270 #[.val (.ref a1), .val (.int (2 : Int32)), .val (.int (2 : Int32)), .val (.ref a4), .val (.ref a5), .val (.long z15), .second, .val (.int (0 : Int32)), .val (.long v22), .second, .val (.long (1 : Int64)), .second, .val (.int (469762049 : Int32)), .val (.int (0 : Int32))] [(.int (-939524095 : Int32)), (.int (469762049 : Int32))]))
  refine Go.step (fun t k => XS.imul X28.here hx rfl (hb hby d1_270) rfl k) ?_
  show Go p e below _ (T28.setTop (mkF m 271 #[.val (.ref a1), .val (.int (2 : Int32)), .val (.int (2 : Int32)), .val (.ref a4), .val (.ref a5), .val (.long z15), .second, .val (.int (0 : Int32)), .val (.long v22), .second, .val (.long (1 : Int64)), .second, .val (.int (469762049 : Int32)), .val (.int (0 : Int32))] [(.int (-469762047 : Int32))]))
  refine Go.step (fun t k => XS.istore X28.here hx rfl (hb hby d1_271) rfl (l' := #[.val (.ref a1), .val (.int (2 : Int32)), .val (.int (2 : Int32)), .val (.ref a4), .val (.ref a5), .val (.long z15), .second, .val (.int (0 : Int32)), .val (.long v22), .second, .val (.long (1 : Int64)), .second, .val (.int (-469762047 : Int32)), .val (.int (0 : Int32))]) rfl k) ?_
  show Go p e below _ (T28.setTop (mkF m 273 #[.val (.ref a1), .val (.int (2 : Int32)), .val (.int (2 : Int32)), .val (.ref a4), .val (.ref a5), .val (.long z15), .second, .val (.int (0 : Int32)), .val (.long v22), .second, .val (.long (1 : Int64)), .second, .val (.int (-469762047 : Int32)), .val (.int (0 : Int32))] []))
  refine Go.step (fun t k => XS.iinc X28.here hx rfl (hb hby d1_273) rfl (l' := #[.val (.ref a1), .val (.int (2 : Int32)), .val (.int (2 : Int32)), .val (.ref a4), .val (.ref a5), .val (.long z15), .second, .val (.int (0 : Int32)), .val (.long v22), .second, .val (.long (1 : Int64)), .second, .val (.int (-469762047 : Int32)), .val (.int (1 : Int32))]) rfl k) ?_
  show Go p e below _ (T28.setTop (mkF m 276 #[.val (.ref a1), .val (.int (2 : Int32)), .val (.int (2 : Int32)), .val (.ref a4), .val (.ref a5), .val (.long z15), .second, .val (.int (0 : Int32)), .val (.long v22), .second, .val (.long (1 : Int64)), .second, .val (.int (-469762047 : Int32)), .val (.int (1 : Int32))] []))
  refine Go.step (fun t k => XS.goto X28.here hx rfl (pc0 := 276) (pc' := 253) rfl (hb hby d1_276) (by decide) (by decide) k) ?_
  show Go p e below _ (T28.setTop (mkF m 253 #[.val (.ref a1), .val (.int (2 : Int32)), .val (.int (2 : Int32)), .val (.ref a4), .val (.ref a5), .val (.long z15), .second, .val (.int (0 : Int32)), .val (.long v22), .second, .val (.long (1 : Int64)), .second, .val (.int (-469762047 : Int32)), .val (.int (1 : Int32))] []))
  refine Go.step (fun t k => XS.iload X28.here hx rfl (hb hby d1_253) rfl k) ?_
  show Go p e below _ (T28.setTop (mkF m 255 #[.val (.ref a1), .val (.int (2 : Int32)), .val (.int (2 : Int32)), .val (.ref a4), .val (.ref a5), .val (.long z15), .second, .val (.int (0 : Int32)), .val (.long v22), .second, .val (.long (1 : Int64)), .second, .val (.int (-469762047 : Int32)), .val (.int (1 : Int32))] [(.int (1 : Int32))]))
  refine Go.step (fun t k => XS.iconst X28.here hx rfl (hb hby d1_255)  k) ?_
  show Go p e below _ (T28.setTop (mkF m 256 #[.val (.ref a1), .val (.int (2 : Int32)), .val (.int (2 : Int32)), .val (.ref a4), .val (.ref a5), .val (.long z15), .second, .val (.int (0 : Int32)), .val (.long v22), .second, .val (.long (1 : Int64)), .second, .val (.int (-469762047 : Int32)), .val (.int (1 : Int32))] [(.int (4 : Int32)), (.int (1 : Int32))]))
  refine Go.step (fun t k => XS.icmpNo X28.here hx rfl (hb hby d1_256) rfl (tlt (by decide : (1 : Int32) < (4 : Int32))).2.1 k) ?_
  show Go p e below _ (T28.setTop (mkF m 259 #[.val (.ref a1), .val (.int (2 : Int32)), .val (.int (2 : Int32)), .val (.ref a4), .val (.ref a5), .val (.long z15), .second, .val (.int (0 : Int32)), .val (.long v22), .second, .val (.long (1 : Int64)), .second, .val (.int (-469762047 : Int32)), .val (.int (1 : Int32))] []))
  refine Go.step (fun t k => XS.iload X28.here hx rfl (hb hby d1_259) rfl k) ?_
  show Go p e below _ (T28.setTop (mkF m 261 #[.val (.ref a1), .val (.int (2 : Int32)), .val (.int (2 : Int32)), .val (.ref a4), .val (.ref a5), .val (.long z15), .second, .val (.int (0 : Int32)), .val (.long v22), .second, .val (.long (1 : Int64)), .second, .val (.int (-469762047 : Int32)), .val (.int (1 : Int32))] [(.int (-469762047 : Int32))]))
  refine Go.step (fun t k => XS.iconst X28.here hx rfl (hb hby d1_261)  k) ?_
  show Go p e below _ (T28.setTop (mkF m 262 #[.val (.ref a1), .val (.int (2 : Int32)), .val (.int (2 : Int32)), .val (.ref a4), .val (.ref a5), .val (.long z15), .second, .val (.int (0 : Int32)), .val (.long v22), .second, .val (.long (1 : Int64)), .second, .val (.int (-469762047 : Int32)), .val (.int (1 : Int32))] [(.int (2 : Int32)), (.int (-469762047 : Int32))]))
  refine Go.step (fun t k => XS.aloadN X28.here hx rfl (hb hby d1_262) rfl rfl k) ?_
  show Go p e below _ (T28.setTop (mkF m 263 #[.val (.ref a1), .val (.int (2 : Int32)), .val (.int (2 : Int32)), .val (.ref a4), .val (.ref a5), .val (.long z15), .second, .val (.int (0 : Int32)), .val (.long v22), .second, .val (.long (1 : Int64)), .second, .val (.int (-469762047 : Int32)), .val (.int (1 : Int32))] [(.ref a1), (.int (2 : Int32)), (.int (-469762047 : Int32))]))
  obtain ⟨T29, X29, e29, st29⟩ := getF X28 hx hZ hown (host := "") (Or.inl (hw _ (List.mem_of_getElem? (i := 14) rfl))) Via.refl e28 F_prime_a1_26 (g := (mkF m 263 #[.val (.ref a1), .val (.int (2 : Int32)), .val (.int (2 : Int32)), .val (.ref a4), .val (.ref a5), .val (.long z15), .second, .val (.int (0 : Int32)), .val (.long v22), .second, .val (.long (1 : Int64)), .second, .val (.int (-469762047 : Int32)), .val (.int (1 : Int32))] [(.ref a1), (.int (2 : Int32)), (.int (-469762047 : Int32))])) rfl rfl (hb hby d1_263)
  refine Go.step st29 ?_
  show Go p e below _ (T29.setTop (mkF m 266 #[.val (.ref a1), .val (.int (2 : Int32)), .val (.int (2 : Int32)), .val (.ref a4), .val (.ref a5), .val (.long z15), .second, .val (.int (0 : Int32)), .val (.long v22), .second, .val (.long (1 : Int64)), .second, .val (.int (-469762047 : Int32)), .val (.int (1 : Int32))] [(.int (469762049 : Int32)), (.int (2 : Int32)), (.int (-469762047 : Int32))]))
  refine Go.step (fun t k => XS.iload X29.here hx rfl (hb hby d1_266) rfl k) ?_
  show Go p e below _ (T29.setTop (mkF m 268 #[.val (.ref a1), .val (.int (2 : Int32)), .val (.int (2 : Int32)), .val (.ref a4), .val (.ref a5), .val (.long z15), .second, .val (.int (0 : Int32)), .val (.long v22), .second, .val (.long (1 : Int64)), .second, .val (.int (-469762047 : Int32)), .val (.int (1 : Int32))] [(.int (-469762047 : Int32)), (.int (469762049 : Int32)), (.int (2 : Int32)), (.int (-469762047 : Int32))]))
  refine Go.step (fun t k => XS.imul X29.here hx rfl (hb hby d1_268) rfl k) ?_
  show Go p e below _ (T29.setTop (mkF m 269 #[.val (.ref a1), .val (.int (2 : Int32)), .val (.int (2 : Int32)), .val (.ref a4), .val (.ref a5), .val (.long z15), .second, .val (.int (0 : Int32)), .val (.long v22), .second, .val (.long (1 : Int64)), .second, .val (.int (-469762047 : Int32)), .val (.int (1 : Int32))] [(.int (1 : Int32)), (.int (2 : Int32)), (.int (-469762047 : Int32))]))
  refine Go.step (fun t k => XS.isub X29.here hx rfl (hb hby d1_269) rfl k) ?_
  show Go p e below _ (T29.setTop (mkF m 270 #[.val (.ref a1), .val (.int (2 : Int32)), .val (.int (2 : Int32)), .val (.ref a4), .val (.ref a5), .val (.long z15), .second, .val (.int (0 : Int32)), .val (.long v22), .second, .val (.long (1 : Int64)), .second, .val (.int (-469762047 : Int32)), .val (.int (1 : Int32))] [(.int (1 : Int32)), (.int (-469762047 : Int32))]))
  refine Go.step (fun t k => XS.imul X29.here hx rfl (hb hby d1_270) rfl k) ?_
  show Go p e below _ (T29.setTop (mkF m 271 #[.val (.ref a1), .val (.int (2 : Int32)), .val (.int (2 : Int32)), .val (.ref a4), .val (.ref a5), .val (.long z15), .second, .val (.int (0 : Int32)), .val (.long v22), .second, .val (.long (1 : Int64)), .second, .val (.int (-469762047 : Int32)), .val (.int (1 : Int32))] [(.int (-469762047 : Int32))]))
  refine Go.step (fun t k => XS.istore X29.here hx rfl (hb hby d1_271) rfl (l' := #[.val (.ref a1), .val (.int (2 : Int32)), .val (.int (2 : Int32)), .val (.ref a4), .val (.ref a5), .val (.long z15), .second, .val (.int (0 : Int32)), .val (.long v22), .second, .val (.long (1 : Int64)), .second, .val (.int (-469762047 : Int32)), .val (.int (1 : Int32))]) rfl k) ?_
  show Go p e below _ (T29.setTop (mkF m 273 #[.val (.ref a1), .val (.int (2 : Int32)), .val (.int (2 : Int32)), .val (.ref a4), .val (.ref a5), .val (.long z15), .second, .val (.int (0 : Int32)), .val (.long v22), .second, .val (.long (1 : Int64)), .second, .val (.int (-469762047 : Int32)), .val (.int (1 : Int32))] []))
  refine Go.step (fun t k => XS.iinc X29.here hx rfl (hb hby d1_273) rfl (l' := #[.val (.ref a1), .val (.int (2 : Int32)), .val (.int (2 : Int32)), .val (.ref a4), .val (.ref a5), .val (.long z15), .second, .val (.int (0 : Int32)), .val (.long v22), .second, .val (.long (1 : Int64)), .second, .val (.int (-469762047 : Int32)), .val (.int (2 : Int32))]) rfl k) ?_
  show Go p e below _ (T29.setTop (mkF m 276 #[.val (.ref a1), .val (.int (2 : Int32)), .val (.int (2 : Int32)), .val (.ref a4), .val (.ref a5), .val (.long z15), .second, .val (.int (0 : Int32)), .val (.long v22), .second, .val (.long (1 : Int64)), .second, .val (.int (-469762047 : Int32)), .val (.int (2 : Int32))] []))
  refine Go.step (fun t k => XS.goto X29.here hx rfl (pc0 := 276) (pc' := 253) rfl (hb hby d1_276) (by decide) (by decide) k) ?_
  show Go p e below _ (T29.setTop (mkF m 253 #[.val (.ref a1), .val (.int (2 : Int32)), .val (.int (2 : Int32)), .val (.ref a4), .val (.ref a5), .val (.long z15), .second, .val (.int (0 : Int32)), .val (.long v22), .second, .val (.long (1 : Int64)), .second, .val (.int (-469762047 : Int32)), .val (.int (2 : Int32))] []))
  refine Go.step (fun t k => XS.iload X29.here hx rfl (hb hby d1_253) rfl k) ?_
  show Go p e below _ (T29.setTop (mkF m 255 #[.val (.ref a1), .val (.int (2 : Int32)), .val (.int (2 : Int32)), .val (.ref a4), .val (.ref a5), .val (.long z15), .second, .val (.int (0 : Int32)), .val (.long v22), .second, .val (.long (1 : Int64)), .second, .val (.int (-469762047 : Int32)), .val (.int (2 : Int32))] [(.int (2 : Int32))]))
  refine Go.step (fun t k => XS.iconst X29.here hx rfl (hb hby d1_255)  k) ?_
  show Go p e below _ (T29.setTop (mkF m 256 #[.val (.ref a1), .val (.int (2 : Int32)), .val (.int (2 : Int32)), .val (.ref a4), .val (.ref a5), .val (.long z15), .second, .val (.int (0 : Int32)), .val (.long v22), .second, .val (.long (1 : Int64)), .second, .val (.int (-469762047 : Int32)), .val (.int (2 : Int32))] [(.int (4 : Int32)), (.int (2 : Int32))]))
  refine Go.step (fun t k => XS.icmpNo X29.here hx rfl (hb hby d1_256) rfl (tlt (by decide : (2 : Int32) < (4 : Int32))).2.1 k) ?_
  show Go p e below _ (T29.setTop (mkF m 259 #[.val (.ref a1), .val (.int (2 : Int32)), .val (.int (2 : Int32)), .val (.ref a4), .val (.ref a5), .val (.long z15), .second, .val (.int (0 : Int32)), .val (.long v22), .second, .val (.long (1 : Int64)), .second, .val (.int (-469762047 : Int32)), .val (.int (2 : Int32))] []))
  refine Go.step (fun t k => XS.iload X29.here hx rfl (hb hby d1_259) rfl k) ?_
  show Go p e below _ (T29.setTop (mkF m 261 #[.val (.ref a1), .val (.int (2 : Int32)), .val (.int (2 : Int32)), .val (.ref a4), .val (.ref a5), .val (.long z15), .second, .val (.int (0 : Int32)), .val (.long v22), .second, .val (.long (1 : Int64)), .second, .val (.int (-469762047 : Int32)), .val (.int (2 : Int32))] [(.int (-469762047 : Int32))]))
  refine Go.step (fun t k => XS.iconst X29.here hx rfl (hb hby d1_261)  k) ?_
  show Go p e below _ (T29.setTop (mkF m 262 #[.val (.ref a1), .val (.int (2 : Int32)), .val (.int (2 : Int32)), .val (.ref a4), .val (.ref a5), .val (.long z15), .second, .val (.int (0 : Int32)), .val (.long v22), .second, .val (.long (1 : Int64)), .second, .val (.int (-469762047 : Int32)), .val (.int (2 : Int32))] [(.int (2 : Int32)), (.int (-469762047 : Int32))]))
  refine Go.step (fun t k => XS.aloadN X29.here hx rfl (hb hby d1_262) rfl rfl k) ?_
  show Go p e below _ (T29.setTop (mkF m 263 #[.val (.ref a1), .val (.int (2 : Int32)), .val (.int (2 : Int32)), .val (.ref a4), .val (.ref a5), .val (.long z15), .second, .val (.int (0 : Int32)), .val (.long v22), .second, .val (.long (1 : Int64)), .second, .val (.int (-469762047 : Int32)), .val (.int (2 : Int32))] [(.ref a1), (.int (2 : Int32)), (.int (-469762047 : Int32))]))
  obtain ⟨T30, X30, e30, st30⟩ := getF X29 hx hZ hown (host := "") (Or.inl (hw _ (List.mem_of_getElem? (i := 14) rfl))) Via.refl e29 F_prime_a1_26 (g := (mkF m 263 #[.val (.ref a1), .val (.int (2 : Int32)), .val (.int (2 : Int32)), .val (.ref a4), .val (.ref a5), .val (.long z15), .second, .val (.int (0 : Int32)), .val (.long v22), .second, .val (.long (1 : Int64)), .second, .val (.int (-469762047 : Int32)), .val (.int (2 : Int32))] [(.ref a1), (.int (2 : Int32)), (.int (-469762047 : Int32))])) rfl rfl (hb hby d1_263)
  refine Go.step st30 ?_
  show Go p e below _ (T30.setTop (mkF m 266 #[.val (.ref a1), .val (.int (2 : Int32)), .val (.int (2 : Int32)), .val (.ref a4), .val (.ref a5), .val (.long z15), .second, .val (.int (0 : Int32)), .val (.long v22), .second, .val (.long (1 : Int64)), .second, .val (.int (-469762047 : Int32)), .val (.int (2 : Int32))] [(.int (469762049 : Int32)), (.int (2 : Int32)), (.int (-469762047 : Int32))]))
  refine Go.step (fun t k => XS.iload X30.here hx rfl (hb hby d1_266) rfl k) ?_
  show Go p e below _ (T30.setTop (mkF m 268 #[.val (.ref a1), .val (.int (2 : Int32)), .val (.int (2 : Int32)), .val (.ref a4), .val (.ref a5), .val (.long z15), .second, .val (.int (0 : Int32)), .val (.long v22), .second, .val (.long (1 : Int64)), .second, .val (.int (-469762047 : Int32)), .val (.int (2 : Int32))] [(.int (-469762047 : Int32)), (.int (469762049 : Int32)), (.int (2 : Int32)), (.int (-469762047 : Int32))]))
  refine Go.step (fun t k => XS.imul X30.here hx rfl (hb hby d1_268) rfl k) ?_
  show Go p e below _ (T30.setTop (mkF m 269 #[.val (.ref a1), .val (.int (2 : Int32)), .val (.int (2 : Int32)), .val (.ref a4), .val (.ref a5), .val (.long z15), .second, .val (.int (0 : Int32)), .val (.long v22), .second, .val (.long (1 : Int64)), .second, .val (.int (-469762047 : Int32)), .val (.int (2 : Int32))] [(.int (1 : Int32)), (.int (2 : Int32)), (.int (-469762047 : Int32))]))
  refine Go.step (fun t k => XS.isub X30.here hx rfl (hb hby d1_269) rfl k) ?_
  show Go p e below _ (T30.setTop (mkF m 270 #[.val (.ref a1), .val (.int (2 : Int32)), .val (.int (2 : Int32)), .val (.ref a4), .val (.ref a5), .val (.long z15), .second, .val (.int (0 : Int32)), .val (.long v22), .second, .val (.long (1 : Int64)), .second, .val (.int (-469762047 : Int32)), .val (.int (2 : Int32))] [(.int (1 : Int32)), (.int (-469762047 : Int32))]))
  refine Go.step (fun t k => XS.imul X30.here hx rfl (hb hby d1_270) rfl k) ?_
  show Go p e below _ (T30.setTop (mkF m 271 #[.val (.ref a1), .val (.int (2 : Int32)), .val (.int (2 : Int32)), .val (.ref a4), .val (.ref a5), .val (.long z15), .second, .val (.int (0 : Int32)), .val (.long v22), .second, .val (.long (1 : Int64)), .second, .val (.int (-469762047 : Int32)), .val (.int (2 : Int32))] [(.int (-469762047 : Int32))]))
  refine Go.step (fun t k => XS.istore X30.here hx rfl (hb hby d1_271) rfl (l' := #[.val (.ref a1), .val (.int (2 : Int32)), .val (.int (2 : Int32)), .val (.ref a4), .val (.ref a5), .val (.long z15), .second, .val (.int (0 : Int32)), .val (.long v22), .second, .val (.long (1 : Int64)), .second, .val (.int (-469762047 : Int32)), .val (.int (2 : Int32))]) rfl k) ?_
  show Go p e below _ (T30.setTop (mkF m 273 #[.val (.ref a1), .val (.int (2 : Int32)), .val (.int (2 : Int32)), .val (.ref a4), .val (.ref a5), .val (.long z15), .second, .val (.int (0 : Int32)), .val (.long v22), .second, .val (.long (1 : Int64)), .second, .val (.int (-469762047 : Int32)), .val (.int (2 : Int32))] []))
  refine Go.step (fun t k => XS.iinc X30.here hx rfl (hb hby d1_273) rfl (l' := #[.val (.ref a1), .val (.int (2 : Int32)), .val (.int (2 : Int32)), .val (.ref a4), .val (.ref a5), .val (.long z15), .second, .val (.int (0 : Int32)), .val (.long v22), .second, .val (.long (1 : Int64)), .second, .val (.int (-469762047 : Int32)), .val (.int (3 : Int32))]) rfl k) ?_
  show Go p e below _ (T30.setTop (mkF m 276 #[.val (.ref a1), .val (.int (2 : Int32)), .val (.int (2 : Int32)), .val (.ref a4), .val (.ref a5), .val (.long z15), .second, .val (.int (0 : Int32)), .val (.long v22), .second, .val (.long (1 : Int64)), .second, .val (.int (-469762047 : Int32)), .val (.int (3 : Int32))] []))
  refine Go.step (fun t k => XS.goto X30.here hx rfl (pc0 := 276) (pc' := 253) rfl (hb hby d1_276) (by decide) (by decide) k) ?_
  show Go p e below _ (T30.setTop (mkF m 253 #[.val (.ref a1), .val (.int (2 : Int32)), .val (.int (2 : Int32)), .val (.ref a4), .val (.ref a5), .val (.long z15), .second, .val (.int (0 : Int32)), .val (.long v22), .second, .val (.long (1 : Int64)), .second, .val (.int (-469762047 : Int32)), .val (.int (3 : Int32))] []))
  refine Go.step (fun t k => XS.iload X30.here hx rfl (hb hby d1_253) rfl k) ?_
  show Go p e below _ (T30.setTop (mkF m 255 #[.val (.ref a1), .val (.int (2 : Int32)), .val (.int (2 : Int32)), .val (.ref a4), .val (.ref a5), .val (.long z15), .second, .val (.int (0 : Int32)), .val (.long v22), .second, .val (.long (1 : Int64)), .second, .val (.int (-469762047 : Int32)), .val (.int (3 : Int32))] [(.int (3 : Int32))]))
  refine Go.step (fun t k => XS.iconst X30.here hx rfl (hb hby d1_255)  k) ?_
  show Go p e below _ (T30.setTop (mkF m 256 #[.val (.ref a1), .val (.int (2 : Int32)), .val (.int (2 : Int32)), .val (.ref a4), .val (.ref a5), .val (.long z15), .second, .val (.int (0 : Int32)), .val (.long v22), .second, .val (.long (1 : Int64)), .second, .val (.int (-469762047 : Int32)), .val (.int (3 : Int32))] [(.int (4 : Int32)), (.int (3 : Int32))]))
  refine Go.step (fun t k => XS.icmpNo X30.here hx rfl (hb hby d1_256) rfl (tlt (by decide : (3 : Int32) < (4 : Int32))).2.1 k) ?_
  show Go p e below _ (T30.setTop (mkF m 259 #[.val (.ref a1), .val (.int (2 : Int32)), .val (.int (2 : Int32)), .val (.ref a4), .val (.ref a5), .val (.long z15), .second, .val (.int (0 : Int32)), .val (.long v22), .second, .val (.long (1 : Int64)), .second, .val (.int (-469762047 : Int32)), .val (.int (3 : Int32))] []))
  refine Go.step (fun t k => XS.iload X30.here hx rfl (hb hby d1_259) rfl k) ?_
  show Go p e below _ (T30.setTop (mkF m 261 #[.val (.ref a1), .val (.int (2 : Int32)), .val (.int (2 : Int32)), .val (.ref a4), .val (.ref a5), .val (.long z15), .second, .val (.int (0 : Int32)), .val (.long v22), .second, .val (.long (1 : Int64)), .second, .val (.int (-469762047 : Int32)), .val (.int (3 : Int32))] [(.int (-469762047 : Int32))]))
  refine Go.step (fun t k => XS.iconst X30.here hx rfl (hb hby d1_261)  k) ?_
  show Go p e below _ (T30.setTop (mkF m 262 #[.val (.ref a1), .val (.int (2 : Int32)), .val (.int (2 : Int32)), .val (.ref a4), .val (.ref a5), .val (.long z15), .second, .val (.int (0 : Int32)), .val (.long v22), .second, .val (.long (1 : Int64)), .second, .val (.int (-469762047 : Int32)), .val (.int (3 : Int32))] [(.int (2 : Int32)), (.int (-469762047 : Int32))]))
  refine Go.step (fun t k => XS.aloadN X30.here hx rfl (hb hby d1_262) rfl rfl k) ?_
  show Go p e below _ (T30.setTop (mkF m 263 #[.val (.ref a1), .val (.int (2 : Int32)), .val (.int (2 : Int32)), .val (.ref a4), .val (.ref a5), .val (.long z15), .second, .val (.int (0 : Int32)), .val (.long v22), .second, .val (.long (1 : Int64)), .second, .val (.int (-469762047 : Int32)), .val (.int (3 : Int32))] [(.ref a1), (.int (2 : Int32)), (.int (-469762047 : Int32))]))
  obtain ⟨T31, X31, e31, st31⟩ := getF X30 hx hZ hown (host := "") (Or.inl (hw _ (List.mem_of_getElem? (i := 14) rfl))) Via.refl e30 F_prime_a1_26 (g := (mkF m 263 #[.val (.ref a1), .val (.int (2 : Int32)), .val (.int (2 : Int32)), .val (.ref a4), .val (.ref a5), .val (.long z15), .second, .val (.int (0 : Int32)), .val (.long v22), .second, .val (.long (1 : Int64)), .second, .val (.int (-469762047 : Int32)), .val (.int (3 : Int32))] [(.ref a1), (.int (2 : Int32)), (.int (-469762047 : Int32))])) rfl rfl (hb hby d1_263)
  refine Go.step st31 ?_
  show Go p e below _ (T31.setTop (mkF m 266 #[.val (.ref a1), .val (.int (2 : Int32)), .val (.int (2 : Int32)), .val (.ref a4), .val (.ref a5), .val (.long z15), .second, .val (.int (0 : Int32)), .val (.long v22), .second, .val (.long (1 : Int64)), .second, .val (.int (-469762047 : Int32)), .val (.int (3 : Int32))] [(.int (469762049 : Int32)), (.int (2 : Int32)), (.int (-469762047 : Int32))]))
  refine Go.step (fun t k => XS.iload X31.here hx rfl (hb hby d1_266) rfl k) ?_
  show Go p e below _ (T31.setTop (mkF m 268 #[.val (.ref a1), .val (.int (2 : Int32)), .val (.int (2 : Int32)), .val (.ref a4), .val (.ref a5), .val (.long z15), .second, .val (.int (0 : Int32)), .val (.long v22), .second, .val (.long (1 : Int64)), .second, .val (.int (-469762047 : Int32)), .val (.int (3 : Int32))] [(.int (-469762047 : Int32)), (.int (469762049 : Int32)), (.int (2 : Int32)), (.int (-469762047 : Int32))]))
  refine Go.step (fun t k => XS.imul X31.here hx rfl (hb hby d1_268) rfl k) ?_
  show Go p e below _ (T31.setTop (mkF m 269 #[.val (.ref a1), .val (.int (2 : Int32)), .val (.int (2 : Int32)), .val (.ref a4), .val (.ref a5), .val (.long z15), .second, .val (.int (0 : Int32)), .val (.long v22), .second, .val (.long (1 : Int64)), .second, .val (.int (-469762047 : Int32)), .val (.int (3 : Int32))] [(.int (1 : Int32)), (.int (2 : Int32)), (.int (-469762047 : Int32))]))
  refine Go.step (fun t k => XS.isub X31.here hx rfl (hb hby d1_269) rfl k) ?_
  show Go p e below _ (T31.setTop (mkF m 270 #[.val (.ref a1), .val (.int (2 : Int32)), .val (.int (2 : Int32)), .val (.ref a4), .val (.ref a5), .val (.long z15), .second, .val (.int (0 : Int32)), .val (.long v22), .second, .val (.long (1 : Int64)), .second, .val (.int (-469762047 : Int32)), .val (.int (3 : Int32))] [(.int (1 : Int32)), (.int (-469762047 : Int32))]))
  refine Go.step (fun t k => XS.imul X31.here hx rfl (hb hby d1_270) rfl k) ?_
  show Go p e below _ (T31.setTop (mkF m 271 #[.val (.ref a1), .val (.int (2 : Int32)), .val (.int (2 : Int32)), .val (.ref a4), .val (.ref a5), .val (.long z15), .second, .val (.int (0 : Int32)), .val (.long v22), .second, .val (.long (1 : Int64)), .second, .val (.int (-469762047 : Int32)), .val (.int (3 : Int32))] [(.int (-469762047 : Int32))]))
  refine Go.step (fun t k => XS.istore X31.here hx rfl (hb hby d1_271) rfl (l' := #[.val (.ref a1), .val (.int (2 : Int32)), .val (.int (2 : Int32)), .val (.ref a4), .val (.ref a5), .val (.long z15), .second, .val (.int (0 : Int32)), .val (.long v22), .second, .val (.long (1 : Int64)), .second, .val (.int (-469762047 : Int32)), .val (.int (3 : Int32))]) rfl k) ?_
  show Go p e below _ (T31.setTop (mkF m 273 #[.val (.ref a1), .val (.int (2 : Int32)), .val (.int (2 : Int32)), .val (.ref a4), .val (.ref a5), .val (.long z15), .second, .val (.int (0 : Int32)), .val (.long v22), .second, .val (.long (1 : Int64)), .second, .val (.int (-469762047 : Int32)), .val (.int (3 : Int32))] []))
  refine Go.step (fun t k => XS.iinc X31.here hx rfl (hb hby d1_273) rfl (l' := #[.val (.ref a1), .val (.int (2 : Int32)), .val (.int (2 : Int32)), .val (.ref a4), .val (.ref a5), .val (.long z15), .second, .val (.int (0 : Int32)), .val (.long v22), .second, .val (.long (1 : Int64)), .second, .val (.int (-469762047 : Int32)), .val (.int (4 : Int32))]) rfl k) ?_
  show Go p e below _ (T31.setTop (mkF m 276 #[.val (.ref a1), .val (.int (2 : Int32)), .val (.int (2 : Int32)), .val (.ref a4), .val (.ref a5), .val (.long z15), .second, .val (.int (0 : Int32)), .val (.long v22), .second, .val (.long (1 : Int64)), .second, .val (.int (-469762047 : Int32)), .val (.int (4 : Int32))] []))
  refine Go.step (fun t k => XS.goto X31.here hx rfl (pc0 := 276) (pc' := 253) rfl (hb hby d1_276) (by decide) (by decide) k) ?_
  show Go p e below _ (T31.setTop (mkF m 253 #[.val (.ref a1), .val (.int (2 : Int32)), .val (.int (2 : Int32)), .val (.ref a4), .val (.ref a5), .val (.long z15), .second, .val (.int (0 : Int32)), .val (.long v22), .second, .val (.long (1 : Int64)), .second, .val (.int (-469762047 : Int32)), .val (.int (4 : Int32))] []))
  refine Go.step (fun t k => XS.iload X31.here hx rfl (hb hby d1_253) rfl k) ?_
  show Go p e below _ (T31.setTop (mkF m 255 #[.val (.ref a1), .val (.int (2 : Int32)), .val (.int (2 : Int32)), .val (.ref a4), .val (.ref a5), .val (.long z15), .second, .val (.int (0 : Int32)), .val (.long v22), .second, .val (.long (1 : Int64)), .second, .val (.int (-469762047 : Int32)), .val (.int (4 : Int32))] [(.int (4 : Int32))]))
  refine Go.step (fun t k => XS.iconst X31.here hx rfl (hb hby d1_255)  k) ?_
  show Go p e below _ (T31.setTop (mkF m 256 #[.val (.ref a1), .val (.int (2 : Int32)), .val (.int (2 : Int32)), .val (.ref a4), .val (.ref a5), .val (.long z15), .second, .val (.int (0 : Int32)), .val (.long v22), .second, .val (.long (1 : Int64)), .second, .val (.int (-469762047 : Int32)), .val (.int (4 : Int32))] [(.int (4 : Int32)), (.int (4 : Int32))]))
  refine Go.step (fun t k => XS.icmpYes X31.here hx rfl (pc0 := 256) (pc' := 279) rfl (hb hby d1_256) rfl (flt (by decide : ¬ ((4 : Int32) < (4 : Int32)))).2.1 (by decide) (by decide) k) ?_
  show Go p e below _ (T31.setTop (mkF m 279 #[.val (.ref a1), .val (.int (2 : Int32)), .val (.int (2 : Int32)), .val (.ref a4), .val (.ref a5), .val (.long z15), .second, .val (.int (0 : Int32)), .val (.long v22), .second, .val (.long (1 : Int64)), .second, .val (.int (-469762047 : Int32)), .val (.int (4 : Int32))] []))
  refine Go.step (fun t k => XS.aloadN X31.here hx rfl (hb hby d1_279) rfl rfl k) ?_
  show Go p e below _ (T31.setTop (mkF m 280 #[.val (.ref a1), .val (.int (2 : Int32)), .val (.int (2 : Int32)), .val (.ref a4), .val (.ref a5), .val (.long z15), .second, .val (.int (0 : Int32)), .val (.long v22), .second, .val (.long (1 : Int64)), .second, .val (.int (-469762047 : Int32)), .val (.int (4 : Int32))] [(.ref a1)]))
  refine Go.step (fun t k => XS.iload X31.here hx rfl (hb hby d1_280) rfl k) ?_
  show Go p e below _ (T31.setTop (mkF m 282 #[.val (.ref a1), .val (.int (2 : Int32)), .val (.int (2 : Int32)), .val (.ref a4), .val (.ref a5), .val (.long z15), .second, .val (.int (0 : Int32)), .val (.long v22), .second, .val (.long (1 : Int64)), .second, .val (.int (-469762047 : Int32)), .val (.int (4 : Int32))] [(.int (-469762047 : Int32)), (.ref a1)]))
  refine Go.step (fun t k => XS.ineg X31.here hx rfl (hb hby d1_282) rfl k) ?_
  show Go p e below _ (T31.setTop (mkF m 283 #[.val (.ref a1), .val (.int (2 : Int32)), .val (.int (2 : Int32)), .val (.ref a4), .val (.ref a5), .val (.long z15), .second, .val (.int (0 : Int32)), .val (.long v22), .second, .val (.long (1 : Int64)), .second, .val (.int (-469762047 : Int32)), .val (.int (4 : Int32))] [(.int (469762047 : Int32)), (.ref a1)]))
  obtain ⟨T32, h32, X32, e32, W32, st32⟩ := putF X31 hx hZ hown (host := "") (Or.inl (hw _ (List.mem_of_getElem? (i := 34) rfl))) Via.refl e31 F_negativeInverse_a1_26 E_a1_26 (Or.inr ⟨(hw _ (List.mem_of_getElem? (i := 35) rfl)), rfl, hnm⟩) (hw _ (List.mem_of_getElem? (i := 6) rfl)) (ty := .int) (by decide) rfl rfl (g := (mkF m 283 #[.val (.ref a1), .val (.int (2 : Int32)), .val (.int (2 : Int32)), .val (.ref a4), .val (.ref a5), .val (.long z15), .second, .val (.int (0 : Int32)), .val (.long v22), .second, .val (.long (1 : Int64)), .second, .val (.int (-469762047 : Int32)), .val (.int (4 : Int32))] [(.int (469762047 : Int32)), (.ref a1)])) rfl rfl (hb hby d1_283)
  refine Go.step st32 ?_
  have N32 := Fr.snoc X32 N26 g_a1
  have F_length_a1_32 := F_length_a1_26.other W32 (Or.inr (slot_ne (Or.inr (hw _ (List.mem_of_getElem? (i := 17) rfl))) (Or.inr (hw _ (List.mem_of_getElem? (i := 35) rfl))) (by decide) (t := .int) (t' := .int) (by decide) (by decide)))
  have F_roots_a1_32 := F_roots_a1_26.other W32 (Or.inr (slot_ne (Or.inr (hw _ (List.mem_of_getElem? (i := 19) rfl))) (Or.inr (hw _ (List.mem_of_getElem? (i := 35) rfl))) (by decide) (t := (.array .int)) (t' := .int) (by decide) (by decide)))
  have F_rootQuotients_a1_32 := F_rootQuotients_a1_26.other W32 (Or.inr (slot_ne (Or.inr (hw _ (List.mem_of_getElem? (i := 21) rfl))) (Or.inr (hw _ (List.mem_of_getElem? (i := 35) rfl))) (by decide) (t := (.array .int)) (t' := .int) (by decide) (by decide)))
  have F_outerRoot_a1_32 := F_outerRoot_a1_26.other W32 (Or.inr (slot_ne (Or.inr (hw _ (List.mem_of_getElem? (i := 28) rfl))) (Or.inr (hw _ (List.mem_of_getElem? (i := 35) rfl))) (by decide) (t := .int) (t' := .int) (by decide) (by decide)))
  have F_outerRootQuotient_a1_32 := F_outerRootQuotient_a1_26.other W32 (Or.inr (slot_ne (Or.inr (hw _ (List.mem_of_getElem? (i := 33) rfl))) (Or.inr (hw _ (List.mem_of_getElem? (i := 35) rfl))) (by decide) (t := .int) (t' := .int) (by decide) (by decide)))
  have F_scale_a1_32 := F_scale_a1_26.other W32 (Or.inr (slot_ne (Or.inr (hw _ (List.mem_of_getElem? (i := 39) rfl))) (Or.inr (hw _ (List.mem_of_getElem? (i := 35) rfl))) (by decide) (t := .int) (t' := .int) (by decide) (by decide)))
  have F_scaleQuotient_a1_32 := F_scaleQuotient_a1_26.other W32 (Or.inr (slot_ne (Or.inr (hw _ (List.mem_of_getElem? (i := 41) rfl))) (Or.inr (hw _ (List.mem_of_getElem? (i := 35) rfl))) (by decide) (t := .int) (t' := .int) (by decide) (by decide)))
  have E_a1_32 := E_a1_26.wr W32
  have F_prime_a1_32 := F_prime_a1_26.other W32 (Or.inr (slot_ne (Or.inr (hw _ (List.mem_of_getElem? (i := 15) rfl))) (Or.inr (hw _ (List.mem_of_getElem? (i := 35) rfl))) (by decide) (t := .int) (t' := .int) (by decide) (by decide)))
  have A_a4_32 := A_a4_26.other W32 hne_a4_a1
  have A_a5_32 := A_a5_26.other W32 hne_a5_a1
  have O32 := O26.wr W32 g_a1
  have Z32 := Nat.le_trans Z26 (Keep.of_wr W32).1
  have KK32 : Keep h0 h32 [a1, a4, a5] := KK26.wr W32 (Or.inl (by simp))
  have F_negativeInverse_a1_32 := F_negativeInverse_a1_26.same W32
  show Go p e below _ (T32.setTop (mkF m 286 #[.val (.ref a1), .val (.int (2 : Int32)), .val (.int (2 : Int32)), .val (.ref a4), .val (.ref a5), .val (.long z15), .second, .val (.int (0 : Int32)), .val (.long v22), .second, .val (.long (1 : Int64)), .second, .val (.int (-469762047 : Int32)), .val (.int (4 : Int32))] []))
  refine Go.step (fun t k => XS.aloadN X32.here hx rfl (hb hby d1_286) rfl rfl k) ?_
  show Go p e below _ (T32.setTop (mkF m 287 #[.val (.ref a1), .val (.int (2 : Int32)), .val (.int (2 : Int32)), .val (.ref a4), .val (.ref a5), .val (.long z15), .second, .val (.int (0 : Int32)), .val (.long v22), .second, .val (.long (1 : Int64)), .second, .val (.int (-469762047 : Int32)), .val (.int (4 : Int32))] [(.ref a1)]))
  refine Go.step (X32.ldc2Long hx hown (mvT hZ (hw _ (List.mem_of_getElem? (i := 36) rfl))) (g := (mkF m 287 #[.val (.ref a1), .val (.int (2 : Int32)), .val (.int (2 : Int32)), .val (.ref a4), .val (.ref a5), .val (.long z15), .second, .val (.int (0 : Int32)), .val (.long v22), .second, .val (.long (1 : Int64)), .second, .val (.int (-469762047 : Int32)), .val (.int (4 : Int32))] [(.ref a1)])) rfl (hb hby d1_287)) ?_
  show Go p e below _ (T32.setTop (mkF m 290 #[.val (.ref a1), .val (.int (2 : Int32)), .val (.int (2 : Int32)), .val (.ref a4), .val (.ref a5), .val (.long z15), .second, .val (.int (0 : Int32)), .val (.long v22), .second, .val (.long (1 : Int64)), .second, .val (.int (-469762047 : Int32)), .val (.int (4 : Int32))] [(.long (4294967296 : Int64)), (.ref a1)]))
  refine Go.step (fun t k => XS.aloadN X32.here hx rfl (hb hby d1_290) rfl rfl k) ?_
  show Go p e below _ (T32.setTop (mkF m 291 #[.val (.ref a1), .val (.int (2 : Int32)), .val (.int (2 : Int32)), .val (.ref a4), .val (.ref a5), .val (.long z15), .second, .val (.int (0 : Int32)), .val (.long v22), .second, .val (.long (1 : Int64)), .second, .val (.int (-469762047 : Int32)), .val (.int (4 : Int32))] [(.ref a1), (.long (4294967296 : Int64)), (.ref a1)]))
  obtain ⟨T33, X33, e33, st33⟩ := getF X32 hx hZ hown (host := "") (Or.inl (hw _ (List.mem_of_getElem? (i := 14) rfl))) Via.refl e32 F_prime_a1_32 (g := (mkF m 291 #[.val (.ref a1), .val (.int (2 : Int32)), .val (.int (2 : Int32)), .val (.ref a4), .val (.ref a5), .val (.long z15), .second, .val (.int (0 : Int32)), .val (.long v22), .second, .val (.long (1 : Int64)), .second, .val (.int (-469762047 : Int32)), .val (.int (4 : Int32))] [(.ref a1), (.long (4294967296 : Int64)), (.ref a1)])) rfl rfl (hb hby d1_291)
  refine Go.step st33 ?_
  show Go p e below _ (T33.setTop (mkF m 294 #[.val (.ref a1), .val (.int (2 : Int32)), .val (.int (2 : Int32)), .val (.ref a4), .val (.ref a5), .val (.long z15), .second, .val (.int (0 : Int32)), .val (.long v22), .second, .val (.long (1 : Int64)), .second, .val (.int (-469762047 : Int32)), .val (.int (4 : Int32))] [(.int (469762049 : Int32)), (.long (4294967296 : Int64)), (.ref a1)]))
  refine Go.step (fun t k => XS.i2l X33.here hx rfl (hb hby d1_294) rfl k) ?_
  show Go p e below _ (T33.setTop (mkF m 295 #[.val (.ref a1), .val (.int (2 : Int32)), .val (.int (2 : Int32)), .val (.ref a4), .val (.ref a5), .val (.long z15), .second, .val (.int (0 : Int32)), .val (.long v22), .second, .val (.long (1 : Int64)), .second, .val (.int (-469762047 : Int32)), .val (.int (4 : Int32))] [(.long (469762049 : Int64)), (.long (4294967296 : Int64)), (.ref a1)]))
  refine Go.step (fun t (k : Steps p.tables e below (T33.setTop (mkF m 296 #[.val (.ref a1), .val (.int (2 : Int32)), .val (.int (2 : Int32)), .val (.ref a4), .val (.ref a5), .val (.long z15), .second, .val (.int (0 : Int32)), .val (.long v22), .second, .val (.long (1 : Int64)), .second, .val (.int (-469762047 : Int32)), .val (.int (4 : Int32))] [(.long (67108855 : Int64)), (.ref a1)])) t) => XS.lrem X33.here hx rfl (hb hby d1_295) rfl (by decide) (by rw [lrem_mod]; exact k)) ?_
  show Go p e below _ (T33.setTop (mkF m 296 #[.val (.ref a1), .val (.int (2 : Int32)), .val (.int (2 : Int32)), .val (.ref a4), .val (.ref a5), .val (.long z15), .second, .val (.int (0 : Int32)), .val (.long v22), .second, .val (.long (1 : Int64)), .second, .val (.int (-469762047 : Int32)), .val (.int (4 : Int32))] [(.long (67108855 : Int64)), (.ref a1)]))
  refine Go.step (fun t k => XS.iloadN X33.here hx rfl (hb hby d1_296) rfl k) ?_
  show Go p e below _ (T33.setTop (mkF m 297 #[.val (.ref a1), .val (.int (2 : Int32)), .val (.int (2 : Int32)), .val (.ref a4), .val (.ref a5), .val (.long z15), .second, .val (.int (0 : Int32)), .val (.long v22), .second, .val (.long (1 : Int64)), .second, .val (.int (-469762047 : Int32)), .val (.int (4 : Int32))] [(.int (2 : Int32)), (.long (67108855 : Int64)), (.ref a1)]))
  refine Go.step (fun t k => XS.i2l X33.here hx rfl (hb hby d1_297) rfl k) ?_
  show Go p e below _ (T33.setTop (mkF m 298 #[.val (.ref a1), .val (.int (2 : Int32)), .val (.int (2 : Int32)), .val (.ref a4), .val (.ref a5), .val (.long z15), .second, .val (.int (0 : Int32)), .val (.long v22), .second, .val (.long (1 : Int64)), .second, .val (.int (-469762047 : Int32)), .val (.int (4 : Int32))] [(.long (2 : Int64)), (.long (67108855 : Int64)), (.ref a1)]))
  refine Go.step (fun t k => XS.aloadN X33.here hx rfl (hb hby d1_298) rfl rfl k) ?_
  show Go p e below _ (T33.setTop (mkF m 299 #[.val (.ref a1), .val (.int (2 : Int32)), .val (.int (2 : Int32)), .val (.ref a4), .val (.ref a5), .val (.long z15), .second, .val (.int (0 : Int32)), .val (.long v22), .second, .val (.long (1 : Int64)), .second, .val (.int (-469762047 : Int32)), .val (.int (4 : Int32))] [(.ref a1), (.long (2 : Int64)), (.long (67108855 : Int64)), (.ref a1)]))
  obtain ⟨T34, X34, e34, st34⟩ := getF X33 hx hZ hown (host := "") (Or.inl (hw _ (List.mem_of_getElem? (i := 14) rfl))) Via.refl e33 F_prime_a1_32 (g := (mkF m 299 #[.val (.ref a1), .val (.int (2 : Int32)), .val (.int (2 : Int32)), .val (.ref a4), .val (.ref a5), .val (.long z15), .second, .val (.int (0 : Int32)), .val (.long v22), .second, .val (.long (1 : Int64)), .second, .val (.int (-469762047 : Int32)), .val (.int (4 : Int32))] [(.ref a1), (.long (2 : Int64)), (.long (67108855 : Int64)), (.ref a1)])) rfl rfl (hb hby d1_299)
  refine Go.step st34 ?_
  show Go p e below _ (T34.setTop (mkF m 302 #[.val (.ref a1), .val (.int (2 : Int32)), .val (.int (2 : Int32)), .val (.ref a4), .val (.ref a5), .val (.long z15), .second, .val (.int (0 : Int32)), .val (.long v22), .second, .val (.long (1 : Int64)), .second, .val (.int (-469762047 : Int32)), .val (.int (4 : Int32))] [(.int (469762049 : Int32)), (.long (2 : Int64)), (.long (67108855 : Int64)), (.ref a1)]))
  refine Go.step (fun t k => XS.i2l X34.here hx rfl (hb hby d1_302) rfl k) ?_
  show Go p e below _ (T34.setTop (mkF m 303 #[.val (.ref a1), .val (.int (2 : Int32)), .val (.int (2 : Int32)), .val (.ref a4), .val (.ref a5), .val (.long z15), .second, .val (.int (0 : Int32)), .val (.long v22), .second, .val (.long (1 : Int64)), .second, .val (.int (-469762047 : Int32)), .val (.int (4 : Int32))] [(.long (469762049 : Int64)), (.long (2 : Int64)), (.long (67108855 : Int64)), (.ref a1)]))
  refine Go.step (X34.ldc2Long hx hown (mvT hZ (hw _ (List.mem_of_getElem? (i := 37) rfl))) (g := (mkF m 303 #[.val (.ref a1), .val (.int (2 : Int32)), .val (.int (2 : Int32)), .val (.ref a4), .val (.ref a5), .val (.long z15), .second, .val (.int (0 : Int32)), .val (.long v22), .second, .val (.long (1 : Int64)), .second, .val (.int (-469762047 : Int32)), .val (.int (4 : Int32))] [(.long (469762049 : Int64)), (.long (2 : Int64)), (.long (67108855 : Int64)), (.ref a1)])) rfl (hb hby d1_303)) ?_
  show Go p e below _ (T34.setTop (mkF m 306 #[.val (.ref a1), .val (.int (2 : Int32)), .val (.int (2 : Int32)), .val (.ref a4), .val (.ref a5), .val (.long z15), .second, .val (.int (0 : Int32)), .val (.long v22), .second, .val (.long (1 : Int64)), .second, .val (.int (-469762047 : Int32)), .val (.int (4 : Int32))] [(.long (2 : Int64)), (.long (469762049 : Int64)), (.long (2 : Int64)), (.long (67108855 : Int64)), (.ref a1)]))
  refine Go.step (fun t k => XS.lsub X34.here hx rfl (hb hby d1_306) rfl k) ?_
  show Go p e below _ (T34.setTop (mkF m 307 #[.val (.ref a1), .val (.int (2 : Int32)), .val (.int (2 : Int32)), .val (.ref a4), .val (.ref a5), .val (.long z15), .second, .val (.int (0 : Int32)), .val (.long v22), .second, .val (.long (1 : Int64)), .second, .val (.int (-469762047 : Int32)), .val (.int (4 : Int32))] [(.long (469762047 : Int64)), (.long (2 : Int64)), (.long (67108855 : Int64)), (.ref a1)]))
  refine Go.step (fun t k => XS.aloadN X34.here hx rfl (hb hby d1_307) rfl rfl k) ?_
  show Go p e below _ (T34.setTop (mkF m 308 #[.val (.ref a1), .val (.int (2 : Int32)), .val (.int (2 : Int32)), .val (.ref a4), .val (.ref a5), .val (.long z15), .second, .val (.int (0 : Int32)), .val (.long v22), .second, .val (.long (1 : Int64)), .second, .val (.int (-469762047 : Int32)), .val (.int (4 : Int32))] [(.ref a1), (.long (469762047 : Int64)), (.long (2 : Int64)), (.long (67108855 : Int64)), (.ref a1)]))
  obtain ⟨T35, X35, e35, st35⟩ := getF X34 hx hZ hown (host := "") (Or.inl (hw _ (List.mem_of_getElem? (i := 14) rfl))) Via.refl e34 F_prime_a1_32 (g := (mkF m 308 #[.val (.ref a1), .val (.int (2 : Int32)), .val (.int (2 : Int32)), .val (.ref a4), .val (.ref a5), .val (.long z15), .second, .val (.int (0 : Int32)), .val (.long v22), .second, .val (.long (1 : Int64)), .second, .val (.int (-469762047 : Int32)), .val (.int (4 : Int32))] [(.ref a1), (.long (469762047 : Int64)), (.long (2 : Int64)), (.long (67108855 : Int64)), (.ref a1)])) rfl rfl (hb hby d1_308)
  refine Go.step st35 ?_
  show Go p e below _ (T35.setTop (mkF m 311 #[.val (.ref a1), .val (.int (2 : Int32)), .val (.int (2 : Int32)), .val (.ref a4), .val (.ref a5), .val (.long z15), .second, .val (.int (0 : Int32)), .val (.long v22), .second, .val (.long (1 : Int64)), .second, .val (.int (-469762047 : Int32)), .val (.int (4 : Int32))] [(.int (469762049 : Int32)), (.long (469762047 : Int64)), (.long (2 : Int64)), (.long (67108855 : Int64)), (.ref a1)]))
  obtain ⟨_, _, ⟨T36, L36, k36, n36⟩, -, X36, ⟨Lc36, hQ36, l36, y36, z36⟩, st36⟩ := Jvm.LawKit.callS X35 hx (y := (⟨"com/example/tinwire/tinwire/json/Transform", "power", "(JJI)J"⟩ : MethodName)) hown (mvT hZ (hw _ (List.mem_of_getElem? (i := 24) rfl))) (mvT hZ (hw _ (List.mem_of_getElem? (i := 25) rfl))) (mvT hZ (hw _ (List.mem_of_getElem? (i := 2) rfl))) (mvT hZ (hw _ (List.mem_of_getElem? (i := 26) rfl))) (by decide) (backOf (W := 3) (rm3 l Z a0 hw [] (2 : Int64) (469762047 : Int64) (469762049 : Int32) h32 n0 Z32 ((by decide) : ¬ (((469762049 : Int32).toInt64) = (0 : Int64))) ((by decide) : ¬ (((469762049 : Int32).toInt64) = (0 : Int64))) ((by decide) : ¬ (((469762049 : Int32).toInt64) = (0 : Int64)))) hZ (hw _ (List.mem_of_getElem? (i := 26) rfl)) (hw _ (List.mem_of_getElem? (i := 2) rfl)) (by decide) (by decide)) (g := (mkF m 311 #[.val (.ref a1), .val (.int (2 : Int32)), .val (.int (2 : Int32)), .val (.ref a4), .val (.ref a5), .val (.long z15), .second, .val (.int (0 : Int32)), .val (.long v22), .second, .val (.long (1 : Int64)), .second, .val (.int (-469762047 : Int32)), .val (.int (4 : Int32))] [(.int (469762049 : Int32)), (.long (469762047 : Int64)), (.long (2 : Int64)), (.long (67108855 : Int64)), (.ref a1)])) rfl (by rw [hml]; rfl) (argsL := [(.long (2 : Int64)), (.long (469762047 : Int64)), (.int (469762049 : Int32))]) (rest := [(.long (67108855 : Int64)), (.ref a1)]) (lenOf pd_0 rfl) rfl (by show 2 * 0 + _ ≤ _; exact Nat.le_of_eq rfl) (hb hby d1_311) (fun _ _ => ⟨rfl, e35, (by decide : 0 + 0 ≤ _), (by decide : 0 + 0 ≤ _)⟩)
  dsimp only [Pt.U, Pt.locs, Pt.cells, Pt.slots] at X36 l36 y36 z36 st36 hQ36
  subst l36 y36 z36
  obtain ⟨⟨z36, rfl⟩, N36q, e36⟩ := hQ36
  have N36 := Fr.app N32 N36q
  refine Go.step st36 ?_
  show Go p e below _ (T36.setTop (mkF m 314 #[.val (.ref a1), .val (.int (2 : Int32)), .val (.int (2 : Int32)), .val (.ref a4), .val (.ref a5), .val (.long z15), .second, .val (.int (0 : Int32)), .val (.long v22), .second, .val (.long (1 : Int64)), .second, .val (.int (-469762047 : Int32)), .val (.int (4 : Int32))] [(.long z36), (.long (67108855 : Int64)), (.ref a1)]))
  refine Go.step (fun t k => XS.lmul X36.here hx rfl (hb hby d1_314) rfl k) ?_
  show Go p e below _ (T36.setTop (mkF m 315 #[.val (.ref a1), .val (.int (2 : Int32)), .val (.int (2 : Int32)), .val (.ref a4), .val (.ref a5), .val (.long z15), .second, .val (.int (0 : Int32)), .val (.long v22), .second, .val (.long (1 : Int64)), .second, .val (.int (-469762047 : Int32)), .val (.int (4 : Int32))] [(.long ((67108855 : Int64) * z36)), (.ref a1)]))
  refine Go.step (fun t k => XS.aloadN X36.here hx rfl (hb hby d1_315) rfl rfl k) ?_
  show Go p e below _ (T36.setTop (mkF m 316 #[.val (.ref a1), .val (.int (2 : Int32)), .val (.int (2 : Int32)), .val (.ref a4), .val (.ref a5), .val (.long z15), .second, .val (.int (0 : Int32)), .val (.long v22), .second, .val (.long (1 : Int64)), .second, .val (.int (-469762047 : Int32)), .val (.int (4 : Int32))] [(.ref a1), (.long ((67108855 : Int64) * z36)), (.ref a1)]))
  obtain ⟨T37, X37, e37, st37⟩ := getF X36 hx hZ hown (host := "") (Or.inl (hw _ (List.mem_of_getElem? (i := 14) rfl))) Via.refl e36 F_prime_a1_32 (g := (mkF m 316 #[.val (.ref a1), .val (.int (2 : Int32)), .val (.int (2 : Int32)), .val (.ref a4), .val (.ref a5), .val (.long z15), .second, .val (.int (0 : Int32)), .val (.long v22), .second, .val (.long (1 : Int64)), .second, .val (.int (-469762047 : Int32)), .val (.int (4 : Int32))] [(.ref a1), (.long ((67108855 : Int64) * z36)), (.ref a1)])) rfl rfl (hb hby d1_316)
  refine Go.step st37 ?_
  show Go p e below _ (T37.setTop (mkF m 319 #[.val (.ref a1), .val (.int (2 : Int32)), .val (.int (2 : Int32)), .val (.ref a4), .val (.ref a5), .val (.long z15), .second, .val (.int (0 : Int32)), .val (.long v22), .second, .val (.long (1 : Int64)), .second, .val (.int (-469762047 : Int32)), .val (.int (4 : Int32))] [(.int (469762049 : Int32)), (.long ((67108855 : Int64) * z36)), (.ref a1)]))
  refine Go.step (fun t k => XS.i2l X37.here hx rfl (hb hby d1_319) rfl k) ?_
  show Go p e below _ (T37.setTop (mkF m 320 #[.val (.ref a1), .val (.int (2 : Int32)), .val (.int (2 : Int32)), .val (.ref a4), .val (.ref a5), .val (.long z15), .second, .val (.int (0 : Int32)), .val (.long v22), .second, .val (.long (1 : Int64)), .second, .val (.int (-469762047 : Int32)), .val (.int (4 : Int32))] [(.long (469762049 : Int64)), (.long ((67108855 : Int64) * z36)), (.ref a1)]))
  refine Go.step (fun t (k : Steps p.tables e below (T37.setTop (mkF m 321 #[.val (.ref a1), .val (.int (2 : Int32)), .val (.int (2 : Int32)), .val (.ref a4), .val (.ref a5), .val (.long z15), .second, .val (.int (0 : Int32)), .val (.long v22), .second, .val (.long (1 : Int64)), .second, .val (.int (-469762047 : Int32)), .val (.int (4 : Int32))] [(.long (((67108855 : Int64) * z36) % (469762049 : Int64))), (.ref a1)])) t) => XS.lrem X37.here hx rfl (hb hby d1_320) rfl (by decide) (by rw [lrem_mod]; exact k)) ?_
  show Go p e below _ (T37.setTop (mkF m 321 #[.val (.ref a1), .val (.int (2 : Int32)), .val (.int (2 : Int32)), .val (.ref a4), .val (.ref a5), .val (.long z15), .second, .val (.int (0 : Int32)), .val (.long v22), .second, .val (.long (1 : Int64)), .second, .val (.int (-469762047 : Int32)), .val (.int (4 : Int32))] [(.long (((67108855 : Int64) * z36) % (469762049 : Int64))), (.ref a1)]))
  refine Go.step (fun t k => XS.l2i X37.here hx rfl (hb hby d1_321) rfl k) ?_
  show Go p e below _ (T37.setTop (mkF m 322 #[.val (.ref a1), .val (.int (2 : Int32)), .val (.int (2 : Int32)), .val (.ref a4), .val (.ref a5), .val (.long z15), .second, .val (.int (0 : Int32)), .val (.long v22), .second, .val (.long (1 : Int64)), .second, .val (.int (-469762047 : Int32)), .val (.int (4 : Int32))] [(.int ((((67108855 : Int64) * z36) % (469762049 : Int64)).toInt32)), (.ref a1)]))
  obtain ⟨T38, h38, X38, e38, W38, st38⟩ := putF X37 hx hZ hown (host := "") (Or.inl (hw _ (List.mem_of_getElem? (i := 38) rfl))) Via.refl e37 F_scale_a1_32 E_a1_32 (Or.inr ⟨(hw _ (List.mem_of_getElem? (i := 39) rfl)), rfl, hnm⟩) (hw _ (List.mem_of_getElem? (i := 6) rfl)) (ty := .int) (by decide) rfl rfl (g := (mkF m 322 #[.val (.ref a1), .val (.int (2 : Int32)), .val (.int (2 : Int32)), .val (.ref a4), .val (.ref a5), .val (.long z15), .second, .val (.int (0 : Int32)), .val (.long v22), .second, .val (.long (1 : Int64)), .second, .val (.int (-469762047 : Int32)), .val (.int (4 : Int32))] [(.int ((((67108855 : Int64) * z36) % (469762049 : Int64)).toInt32)), (.ref a1)])) rfl rfl (hb hby d1_322)
  refine Go.step st38 ?_
  have N38 := Fr.snoc X38 N36 g_a1
  have F_length_a1_38 := F_length_a1_32.other W38 (Or.inr (slot_ne (Or.inr (hw _ (List.mem_of_getElem? (i := 17) rfl))) (Or.inr (hw _ (List.mem_of_getElem? (i := 39) rfl))) (by decide) (t := .int) (t' := .int) (by decide) (by decide)))
  have F_roots_a1_38 := F_roots_a1_32.other W38 (Or.inr (slot_ne (Or.inr (hw _ (List.mem_of_getElem? (i := 19) rfl))) (Or.inr (hw _ (List.mem_of_getElem? (i := 39) rfl))) (by decide) (t := (.array .int)) (t' := .int) (by decide) (by decide)))
  have F_rootQuotients_a1_38 := F_rootQuotients_a1_32.other W38 (Or.inr (slot_ne (Or.inr (hw _ (List.mem_of_getElem? (i := 21) rfl))) (Or.inr (hw _ (List.mem_of_getElem? (i := 39) rfl))) (by decide) (t := (.array .int)) (t' := .int) (by decide) (by decide)))
  have F_outerRoot_a1_38 := F_outerRoot_a1_32.other W38 (Or.inr (slot_ne (Or.inr (hw _ (List.mem_of_getElem? (i := 28) rfl))) (Or.inr (hw _ (List.mem_of_getElem? (i := 39) rfl))) (by decide) (t := .int) (t' := .int) (by decide) (by decide)))
  have F_outerRootQuotient_a1_38 := F_outerRootQuotient_a1_32.other W38 (Or.inr (slot_ne (Or.inr (hw _ (List.mem_of_getElem? (i := 33) rfl))) (Or.inr (hw _ (List.mem_of_getElem? (i := 39) rfl))) (by decide) (t := .int) (t' := .int) (by decide) (by decide)))
  have F_negativeInverse_a1_38 := F_negativeInverse_a1_32.other W38 (Or.inr (slot_ne (Or.inr (hw _ (List.mem_of_getElem? (i := 35) rfl))) (Or.inr (hw _ (List.mem_of_getElem? (i := 39) rfl))) (by decide) (t := .int) (t' := .int) (by decide) (by decide)))
  have F_scaleQuotient_a1_38 := F_scaleQuotient_a1_32.other W38 (Or.inr (slot_ne (Or.inr (hw _ (List.mem_of_getElem? (i := 41) rfl))) (Or.inr (hw _ (List.mem_of_getElem? (i := 39) rfl))) (by decide) (t := .int) (t' := .int) (by decide) (by decide)))
  have E_a1_38 := E_a1_32.wr W38
  have F_prime_a1_38 := F_prime_a1_32.other W38 (Or.inr (slot_ne (Or.inr (hw _ (List.mem_of_getElem? (i := 15) rfl))) (Or.inr (hw _ (List.mem_of_getElem? (i := 39) rfl))) (by decide) (t := .int) (t' := .int) (by decide) (by decide)))
  have A_a4_38 := A_a4_32.other W38 hne_a4_a1
  have A_a5_38 := A_a5_32.other W38 hne_a5_a1
  have O38 := O32.wr W38 g_a1
  have Z38 := Nat.le_trans Z32 (Keep.of_wr W38).1
  have KK38 : Keep h0 h38 [a1, a4, a5] := KK32.wr W38 (Or.inl (by simp))
  have F_scale_a1_38 := F_scale_a1_32.same W38
  show Go p e below _ (T38.setTop (mkF m 325 #[.val (.ref a1), .val (.int (2 : Int32)), .val (.int (2 : Int32)), .val (.ref a4), .val (.ref a5), .val (.long z15), .second, .val (.int (0 : Int32)), .val (.long v22), .second, .val (.long (1 : Int64)), .second, .val (.int (-469762047 : Int32)), .val (.int (4 : Int32))] []))
  refine Go.step (fun t k => XS.aloadN X38.here hx rfl (hb hby d1_325) rfl rfl k) ?_
  show Go p e below _ (T38.setTop (mkF m 326 #[.val (.ref a1), .val (.int (2 : Int32)), .val (.int (2 : Int32)), .val (.ref a4), .val (.ref a5), .val (.long z15), .second, .val (.int (0 : Int32)), .val (.long v22), .second, .val (.long (1 : Int64)), .second, .val (.int (-469762047 : Int32)), .val (.int (4 : Int32))] [(.ref a1)]))
  refine Go.step (fun t k => XS.aloadN X38.here hx rfl (hb hby d1_326) rfl rfl k) ?_
  show Go p e below _ (T38.setTop (mkF m 327 #[.val (.ref a1), .val (.int (2 : Int32)), .val (.int (2 : Int32)), .val (.ref a4), .val (.ref a5), .val (.long z15), .second, .val (.int (0 : Int32)), .val (.long v22), .second, .val (.long (1 : Int64)), .second, .val (.int (-469762047 : Int32)), .val (.int (4 : Int32))] [(.ref a1), (.ref a1)]))
  obtain ⟨T39, X39, e39, st39⟩ := getF X38 hx hZ hown (host := "") (Or.inl (hw _ (List.mem_of_getElem? (i := 38) rfl))) Via.refl e38 F_scale_a1_38 (g := (mkF m 327 #[.val (.ref a1), .val (.int (2 : Int32)), .val (.int (2 : Int32)), .val (.ref a4), .val (.ref a5), .val (.long z15), .second, .val (.int (0 : Int32)), .val (.long v22), .second, .val (.long (1 : Int64)), .second, .val (.int (-469762047 : Int32)), .val (.int (4 : Int32))] [(.ref a1), (.ref a1)])) rfl rfl (hb hby d1_327)
  refine Go.step st39 ?_
  show Go p e below _ (T39.setTop (mkF m 330 #[.val (.ref a1), .val (.int (2 : Int32)), .val (.int (2 : Int32)), .val (.ref a4), .val (.ref a5), .val (.long z15), .second, .val (.int (0 : Int32)), .val (.long v22), .second, .val (.long (1 : Int64)), .second, .val (.int (-469762047 : Int32)), .val (.int (4 : Int32))] [(.int ((((67108855 : Int64) * z36) % (469762049 : Int64)).toInt32)), (.ref a1)]))
  refine Go.step (fun t k => XS.aloadN X39.here hx rfl (hb hby d1_330) rfl rfl k) ?_
  show Go p e below _ (T39.setTop (mkF m 331 #[.val (.ref a1), .val (.int (2 : Int32)), .val (.int (2 : Int32)), .val (.ref a4), .val (.ref a5), .val (.long z15), .second, .val (.int (0 : Int32)), .val (.long v22), .second, .val (.long (1 : Int64)), .second, .val (.int (-469762047 : Int32)), .val (.int (4 : Int32))] [(.ref a1), (.int ((((67108855 : Int64) * z36) % (469762049 : Int64)).toInt32)), (.ref a1)]))
  obtain ⟨T40, X40, e40, st40⟩ := getF X39 hx hZ hown (host := "") (Or.inl (hw _ (List.mem_of_getElem? (i := 14) rfl))) Via.refl e39 F_prime_a1_38 (g := (mkF m 331 #[.val (.ref a1), .val (.int (2 : Int32)), .val (.int (2 : Int32)), .val (.ref a4), .val (.ref a5), .val (.long z15), .second, .val (.int (0 : Int32)), .val (.long v22), .second, .val (.long (1 : Int64)), .second, .val (.int (-469762047 : Int32)), .val (.int (4 : Int32))] [(.ref a1), (.int ((((67108855 : Int64) * z36) % (469762049 : Int64)).toInt32)), (.ref a1)])) rfl rfl (hb hby d1_331)
  refine Go.step st40 ?_
  show Go p e below _ (T40.setTop (mkF m 334 #[.val (.ref a1), .val (.int (2 : Int32)), .val (.int (2 : Int32)), .val (.ref a4), .val (.ref a5), .val (.long z15), .second, .val (.int (0 : Int32)), .val (.long v22), .second, .val (.long (1 : Int64)), .second, .val (.int (-469762047 : Int32)), .val (.int (4 : Int32))] [(.int (469762049 : Int32)), (.int ((((67108855 : Int64) * z36) % (469762049 : Int64)).toInt32)), (.ref a1)]))
  obtain ⟨_, _, ⟨T41, L41, k41, n41⟩, -, X41, ⟨Lc41, hQ41, l41, y41, z41⟩, st41⟩ := Jvm.LawKit.callS X40 hx (y := (⟨"com/example/tinwire/tinwire/json/Transform", "quotient", "(II)I"⟩ : MethodName)) hown (mvT hZ (hw _ (List.mem_of_getElem? (i := 29) rfl))) (mvT hZ (hw _ (List.mem_of_getElem? (i := 30) rfl))) (mvT hZ (hw _ (List.mem_of_getElem? (i := 2) rfl))) (mvT hZ (hw _ (List.mem_of_getElem? (i := 31) rfl))) (by decide) (backOf (W := 1) (rm4 l Z a0 hw [] ((((67108855 : Int64) * z36) % (469762049 : Int64)).toInt32) (469762049 : Int32) h38 n0 Z38 ((by decide) : ¬ (((469762049 : Int32).toInt64) = (0 : Int64)))) hZ (hw _ (List.mem_of_getElem? (i := 31) rfl)) (hw _ (List.mem_of_getElem? (i := 2) rfl)) (by decide) (by decide)) (g := (mkF m 334 #[.val (.ref a1), .val (.int (2 : Int32)), .val (.int (2 : Int32)), .val (.ref a4), .val (.ref a5), .val (.long z15), .second, .val (.int (0 : Int32)), .val (.long v22), .second, .val (.long (1 : Int64)), .second, .val (.int (-469762047 : Int32)), .val (.int (4 : Int32))] [(.int (469762049 : Int32)), (.int ((((67108855 : Int64) * z36) % (469762049 : Int64)).toInt32)), (.ref a1)])) rfl (by rw [hml]; rfl) (argsL := [(.int ((((67108855 : Int64) * z36) % (469762049 : Int64)).toInt32)), (.int (469762049 : Int32))]) (rest := [(.ref a1)]) (lenOf pd_1 rfl) rfl (by show 2 * 0 + _ ≤ _; exact Nat.le_of_eq rfl) (hb hby d1_334) (fun _ _ => ⟨rfl, e40, (by decide : 0 + 0 ≤ _), (by decide : 0 + 0 ≤ _)⟩)
  dsimp only [Pt.U, Pt.locs, Pt.cells, Pt.slots] at X41 l41 y41 z41 st41 hQ41
  subst l41 y41 z41
  obtain ⟨rfl, N41q, e41⟩ := hQ41
  have N41 := Fr.app N38 N41q
  refine Go.step st41 ?_
  show Go p e below _ (T41.setTop (mkF m 337 #[.val (.ref a1), .val (.int (2 : Int32)), .val (.int (2 : Int32)), .val (.ref a4), .val (.ref a5), .val (.long z15), .second, .val (.int (0 : Int32)), .val (.long v22), .second, .val (.long (1 : Int64)), .second, .val (.int (-469762047 : Int32)), .val (.int (4 : Int32))] [(.int (f4 ((((67108855 : Int64) * z36) % (469762049 : Int64)).toInt32) (469762049 : Int32))), (.ref a1)]))
  obtain ⟨T42, h42, X42, e42, W42, st42⟩ := putF X41 hx hZ hown (host := "") (Or.inl (hw _ (List.mem_of_getElem? (i := 40) rfl))) Via.refl e41 F_scaleQuotient_a1_38 E_a1_38 (Or.inr ⟨(hw _ (List.mem_of_getElem? (i := 41) rfl)), rfl, hnm⟩) (hw _ (List.mem_of_getElem? (i := 6) rfl)) (ty := .int) (by decide) rfl rfl (g := (mkF m 337 #[.val (.ref a1), .val (.int (2 : Int32)), .val (.int (2 : Int32)), .val (.ref a4), .val (.ref a5), .val (.long z15), .second, .val (.int (0 : Int32)), .val (.long v22), .second, .val (.long (1 : Int64)), .second, .val (.int (-469762047 : Int32)), .val (.int (4 : Int32))] [(.int (f4 ((((67108855 : Int64) * z36) % (469762049 : Int64)).toInt32) (469762049 : Int32))), (.ref a1)])) rfl rfl (hb hby d1_337)
  refine Go.step st42 ?_
  have N42 := Fr.snoc X42 N41 g_a1
  have F_length_a1_42 := F_length_a1_38.other W42 (Or.inr (slot_ne (Or.inr (hw _ (List.mem_of_getElem? (i := 17) rfl))) (Or.inr (hw _ (List.mem_of_getElem? (i := 41) rfl))) (by decide) (t := .int) (t' := .int) (by decide) (by decide)))
  have F_roots_a1_42 := F_roots_a1_38.other W42 (Or.inr (slot_ne (Or.inr (hw _ (List.mem_of_getElem? (i := 19) rfl))) (Or.inr (hw _ (List.mem_of_getElem? (i := 41) rfl))) (by decide) (t := (.array .int)) (t' := .int) (by decide) (by decide)))
  have F_rootQuotients_a1_42 := F_rootQuotients_a1_38.other W42 (Or.inr (slot_ne (Or.inr (hw _ (List.mem_of_getElem? (i := 21) rfl))) (Or.inr (hw _ (List.mem_of_getElem? (i := 41) rfl))) (by decide) (t := (.array .int)) (t' := .int) (by decide) (by decide)))
  have F_outerRoot_a1_42 := F_outerRoot_a1_38.other W42 (Or.inr (slot_ne (Or.inr (hw _ (List.mem_of_getElem? (i := 28) rfl))) (Or.inr (hw _ (List.mem_of_getElem? (i := 41) rfl))) (by decide) (t := .int) (t' := .int) (by decide) (by decide)))
  have F_outerRootQuotient_a1_42 := F_outerRootQuotient_a1_38.other W42 (Or.inr (slot_ne (Or.inr (hw _ (List.mem_of_getElem? (i := 33) rfl))) (Or.inr (hw _ (List.mem_of_getElem? (i := 41) rfl))) (by decide) (t := .int) (t' := .int) (by decide) (by decide)))
  have F_negativeInverse_a1_42 := F_negativeInverse_a1_38.other W42 (Or.inr (slot_ne (Or.inr (hw _ (List.mem_of_getElem? (i := 35) rfl))) (Or.inr (hw _ (List.mem_of_getElem? (i := 41) rfl))) (by decide) (t := .int) (t' := .int) (by decide) (by decide)))
  have F_scale_a1_42 := F_scale_a1_38.other W42 (Or.inr (slot_ne (Or.inr (hw _ (List.mem_of_getElem? (i := 39) rfl))) (Or.inr (hw _ (List.mem_of_getElem? (i := 41) rfl))) (by decide) (t := .int) (t' := .int) (by decide) (by decide)))
  have E_a1_42 := E_a1_38.wr W42
  have F_prime_a1_42 := F_prime_a1_38.other W42 (Or.inr (slot_ne (Or.inr (hw _ (List.mem_of_getElem? (i := 15) rfl))) (Or.inr (hw _ (List.mem_of_getElem? (i := 41) rfl))) (by decide) (t := .int) (t' := .int) (by decide) (by decide)))
  have A_a4_42 := A_a4_38.other W42 hne_a4_a1
  have A_a5_42 := A_a5_38.other W42 hne_a5_a1
  have O42 := O38.wr W42 g_a1
  have Z42 := Nat.le_trans Z38 (Keep.of_wr W42).1
  have KK42 : Keep h0 h42 [a1, a4, a5] := KK38.wr W42 (Or.inl (by simp))
  have F_scaleQuotient_a1_42 := F_scaleQuotient_a1_38.same W42
  show Go p e below _ (T42.setTop (mkF m 340 #[.val (.ref a1), .val (.int (2 : Int32)), .val (.int (2 : Int32)), .val (.ref a4), .val (.ref a5), .val (.long z15), .second, .val (.int (0 : Int32)), .val (.long v22), .second, .val (.long (1 : Int64)), .second, .val (.int (-469762047 : Int32)), .val (.int (4 : Int32))] []))
  subst hv22
  refine retGV X42 hx Bd.notSynchronized Bd.returns (hb hby d1_340) ?_ (by decide) (by decide)
  show Q1_2 Z a1 a4 a5 g_a4f g_a5f u_length_a1 u_roots_a1 u_rootQuotients_a1 u_outerRoot_a1 u_outerRootQuotient_a1 u_negativeInverse_a1 u_scale_a1 u_scaleQuotient_a1 oP u_prime_a1 oG h0 n0 _ T42.heap _
  rw [e42]
  exact ⟨rfl, N42, KK42, F_length_a1_42, F_negativeInverse_a1_42, E_a1_42, F_prime_a1_42⟩
theorem d5_0 : decode prog_48_method_6_code 0 = .ok (.aload_n 0, 1) := by decide +kernel
theorem d5_1 : decode prog_48_method_6_code 1 = .ok (.getfield 13, 3) := by decide +kernel
theorem d5_4 : decode prog_48_method_6_code 4 = .ok (.istore_n 3, 1) := by decide +kernel
theorem d5_5 : decode prog_48_method_6_code 5 = .ok (.iconst 0, 1) := by decide +kernel
theorem d5_6 : decode prog_48_method_6_code 6 = .ok (.istore 4, 2) := by decide +kernel
theorem d5_8 : decode prog_48_method_6_code 8 = .ok (.iload 4, 2) := by decide +kernel
theorem d5_10 : decode prog_48_method_6_code 10 = .ok (.aload_n 0, 1) := by decide +kernel
theorem d5_11 : decode prog_48_method_6_code 11 = .ok (.getfield 17, 3) := by decide +kernel
theorem d5_14 : decode prog_48_method_6_code 14 = .ok (.if_icmp .ge 67, 3) := by decide +kernel
theorem d5_17 : decode prog_48_method_6_code 17 = .ok (.aload_n 1, 1) := by decide +kernel
theorem d5_18 : decode prog_48_method_6_code 18 = .ok (.iload 4, 2) := by decide +kernel
theorem d5_20 : decode prog_48_method_6_code 20 = .ok (.iaload, 1) := by decide +kernel
theorem d5_21 : decode prog_48_method_6_code 21 = .ok (.i2l, 1) := by decide +kernel
theorem d5_22 : decode prog_48_method_6_code 22 = .ok (.aload_n 2, 1) := by decide +kernel
theorem d5_23 : decode prog_48_method_6_code 23 = .ok (.iload 4, 2) := by decide +kernel
theorem d5_25 : decode prog_48_method_6_code 25 = .ok (.iaload, 1) := by decide +kernel
theorem d5_26 : decode prog_48_method_6_code 26 = .ok (.i2l, 1) := by decide +kernel
theorem d5_27 : decode prog_48_method_6_code 27 = .ok (.lmul, 1) := by decide +kernel
theorem d5_28 : decode prog_48_method_6_code 28 = .ok (.lstore 5, 2) := by decide +kernel
theorem d5_30 : decode prog_48_method_6_code 30 = .ok (.lload 5, 2) := by decide +kernel
theorem d5_32 : decode prog_48_method_6_code 32 = .ok (.l2i, 1) := by decide +kernel
theorem d5_33 : decode prog_48_method_6_code 33 = .ok (.aload_n 0, 1) := by decide +kernel
theorem d5_34 : decode prog_48_method_6_code 34 = .ok (.getfield 43, 3) := by decide +kernel
theorem d5_37 : decode prog_48_method_6_code 37 = .ok (.imul, 1) := by decide +kernel
theorem d5_38 : decode prog_48_method_6_code 38 = .ok (.istore 7, 2) := by decide +kernel
theorem d5_40 : decode prog_48_method_6_code 40 = .ok (.lload 5, 2) := by decide +kernel
theorem d5_42 : decode prog_48_method_6_code 42 = .ok (.iload 7, 2) := by decide +kernel
theorem d5_44 : decode prog_48_method_6_code 44 = .ok (.i2l, 1) := by decide +kernel
theorem d5_45 : decode prog_48_method_6_code 45 = .ok (.ldc2_w 64, 3) := by decide +kernel
theorem d5_48 : decode prog_48_method_6_code 48 = .ok (.land, 1) := by decide +kernel
theorem d5_49 : decode prog_48_method_6_code 49 = .ok (.iload_n 3, 1) := by decide +kernel
theorem d5_50 : decode prog_48_method_6_code 50 = .ok (.i2l, 1) := by decide +kernel
theorem d5_51 : decode prog_48_method_6_code 51 = .ok (.lmul, 1) := by decide +kernel
theorem d5_52 : decode prog_48_method_6_code 52 = .ok (.ladd, 1) := by decide +kernel
theorem d5_53 : decode prog_48_method_6_code 53 = .ok (.bipush 32, 2) := by decide +kernel
theorem d5_55 : decode prog_48_method_6_code 55 = .ok (.lushr, 1) := by decide +kernel
theorem d5_56 : decode prog_48_method_6_code 56 = .ok (.l2i, 1) := by decide +kernel
theorem d5_57 : decode prog_48_method_6_code 57 = .ok (.iload_n 3, 1) := by decide +kernel
theorem d5_58 : decode prog_48_method_6_code 58 = .ok (.isub, 1) := by decide +kernel
theorem d5_59 : decode prog_48_method_6_code 59 = .ok (.istore 8, 2) := by decide +kernel
theorem d5_61 : decode prog_48_method_6_code 61 = .ok (.aload_n 1, 1) := by decide +kernel
theorem d5_62 : decode prog_48_method_6_code 62 = .ok (.iload 4, 2) := by decide +kernel
theorem d5_64 : decode prog_48_method_6_code 64 = .ok (.iload 8, 2) := by decide +kernel
theorem d5_66 : decode prog_48_method_6_code 66 = .ok (.iload 8, 2) := by decide +kernel
theorem d5_68 : decode prog_48_method_6_code 68 = .ok (.bipush 31, 2) := by decide +kernel
theorem d5_70 : decode prog_48_method_6_code 70 = .ok (.ishr, 1) := by decide +kernel
theorem d5_71 : decode prog_48_method_6_code 71 = .ok (.iload_n 3, 1) := by decide +kernel
theorem d5_72 : decode prog_48_method_6_code 72 = .ok (.iand, 1) := by decide +kernel
theorem d5_73 : decode prog_48_method_6_code 73 = .ok (.iadd, 1) := by decide +kernel
theorem d5_74 : decode prog_48_method_6_code 74 = .ok (.iastore, 1) := by decide +kernel
theorem d5_75 : decode prog_48_method_6_code 75 = .ok (.iinc 4 1, 3) := by decide +kernel
theorem d5_78 : decode prog_48_method_6_code 78 = .ok (.goto (-70), 3) := by decide +kernel
theorem d5_81 : decode prog_48_method_6_code 81 = .ok (.return_, 1) := by decide +kernel
theorem ef_5 (m : MethodId) (a1 : Addr) (a2 : Addr) (a3 : Addr) : entryFrame m #[(.ref a1), (.ref a2), (.ref a3)] 9 = mkF m 0 #[.val (.ref a1), .val (.ref a2), .val (.ref a3), .unset, .unset, .unset, .unset, .unset, .unset] [] := by first | (simp [entryFrame, mkF, argsToLocals, Value.category]; done) | rfl
def Q5 (Z : State) (a1 : Addr) (a2 : Addr) (a3 : Addr) (g_a2f : Nat → Int32) (g_a3f : Nat → Int32) (w_prime_a1 : Int32) (w_negativeInverse_a1 : Int32) (h0 : Heap) (n0 : Nat) (v : Option Value) (h : Heap) (L : List Loc) : Prop := v = none ∧ Fr n0 L ∧ Keep h0 h [a2] ∧ Ary Z h a2 .int 3 (fun i => .int ((upA (upA g_a2f 0 (mpF (g_a2f 0) (g_a3f 0) w_prime_a1 w_negativeInverse_a1)) 1 (mpF (g_a2f 1) (g_a3f 1) w_prime_a1 w_negativeInverse_a1)) i))
set_option maxRecDepth 65536 in
set_option maxHeartbeats 40000000 in
theorem rm5 (l : Launch) (Z : State) (a0 : Array Value) (hw : ∀ d ∈ tables_1, d.before a0 Z = true) (ws : List Jvm.Cond) (a1 : Addr) (a2 : Addr) (a3 : Addr) (g_a2f : Nat → Int32) (g_a3f : Nat → Int32) (w_prime_a1 : Int32) (w_negativeInverse_a1 : Int32) (h0 : Heap) (n0 : Nat) (Z0 : n0 ≤ h0.size) (F_length_a1 : Fld Z h0 a1 "com/example/tinwire/tinwire/json/Transform" "length" "I" (.int (2 : Int32))) (A_a2 : Ary Z h0 a2 .int 3 (fun i => .int (g_a2f i))) (A_a3 : Ary Z h0 a3 .int 3 (fun i => .int (g_a3f i))) (F_prime_a1 : Fld Z h0 a1 "com/example/tinwire/tinwire/json/Transform" "prime" "I" (.int w_prime_a1)) (F_negativeInverse_a1 : Fld Z h0 a1 "com/example/tinwire/tinwire/json/Transform" "negativeInverse" "I" (.int w_negativeInverse_a1)) (g_a2 : n0 ≤ a2) (hne_a1_a2 : a1 ≠ a2) (hne_a3_a2 : a3 ≠ a2) :
    MetFree l (⟨"com/example/tinwire/tinwire/json/Transform", "multiplyPointwise", "([I[I)V"⟩ : MethodName) (head1 (Jvm.Cond.code (⟨"com/example/tinwire/tinwire/json/Transform", "multiplyPointwise", "([I[I)V"⟩ : MethodName) prog_48_method_6_code 9 none :: ws) ({ frames := 0, cells := 0, slots := 0, locals := 0 } : Room)) (fun a U => a = #[(.ref a1), (.ref a2), (.ref a3)] ∧ Z.Warmed39 U.vm ∧ U.heap = h0) (fun _ _ _ _ _ => True) (fun _ U o U' => ∃ v L, o = .returned v ∧ Q5 Z a1 a2 a3 g_a2f g_a3f w_prime_a1 w_negativeInverse_a1 h0 n0 v U'.heap L ∧ FrameEnd U o U' L ({ frames := 0, cells := 0, slots := 0, locals := 0 } : Room).cells ({ frames := 0, cells := 0, slots := 0, locals := 0 } : Room).slots) := by
  refine MetFree.of_bodySF (plainFor_of_name pn_0) hisR ?_
  intro p e s m args below meth c s₁ Bd hml0 hP hK
  obtain ⟨rfl, hZ, hh⟩ := hP
  have hx := Bd.exec
  have hby := Bd.bytes
  have hml : c.maxLocals = 9 := hml0
  have hown : s.vm.findClass "com/example/tinwire/tinwire/json/Transform" = some m.cls := findClass_of_methodNamed Bd.named
  have hnm := (name_of_methodNamed Bd.named Bd.method).1
  have X0 : Stand p l e ({ frames := 0, cells := 0, slots := 0, locals := 0 } : Room) s m #[(.ref a1), (.ref a2), (.ref a3)] below meth c s₁ [] 0 0 := Stand.of_body Bd
  have e0 : s₁.heap = h0 := by rw [← hh, Bd.state]; rfl
  have N0 := Fr.nil n0
  refine Go.done (Go.step (fun t k => castTop (ef_5 m a1 a2 a3) k) ?_)
  have KK0 : Keep h0 h0 [a2] := Keep.refl _ _
  show Go p e below _ (s₁.setTop (mkF m 0 #[.val (.ref a1), .val (.ref a2), .val (.ref a3), .unset, .unset, .unset, .unset, .unset, .unset] []))
  refine Go.step (fun t k => XS.aloadN X0.here hx rfl (hb hby d5_0) rfl rfl k) ?_
  show Go p e below _ (s₁.setTop (mkF m 1 #[.val (.ref a1), .val (.ref a2), .val (.ref a3), .unset, .unset, .unset, .unset, .unset, .unset] [(.ref a1)]))
  obtain ⟨T4, X4, e4, st4⟩ := getF X0 hx hZ hown (host := "") (Or.inl (hw _ (List.mem_of_getElem? (i := 14) rfl))) Via.refl e0 F_prime_a1 (g := (mkF m 1 #[.val (.ref a1), .val (.ref a2), .val (.ref a3), .unset, .unset, .unset, .unset, .unset, .unset] [(.ref a1)])) rfl rfl (hb hby d5_1)
  refine Go.step st4 ?_
  show Go p e below _ (T4.setTop (mkF m 4 #[.val (.ref a1), .val (.ref a2), .val (.ref a3), .unset, .unset, .unset, .unset, .unset, .unset] [(.int w_prime_a1)]))
  refine Go.step (fun t k => XS.istoreN X4.here hx rfl (hb hby d5_4) rfl (l' := #[.val (.ref a1), .val (.ref a2), .val (.ref a3), .val (.int w_prime_a1), .unset, .unset, .unset, .unset, .unset]) rfl k) ?_
  show Go p e below _ (T4.setTop (mkF m 5 #[.val (.ref a1), .val (.ref a2), .val (.ref a3), .val (.int w_prime_a1), .unset, .unset, .unset, .unset, .unset] []))
  refine Go.step (fun t k => XS.iconst X4.here hx rfl (hb hby d5_5)  k) ?_
  show Go p e below _ (T4.setTop (mkF m 6 #[.val (.ref a1), .val (.ref a2), .val (.ref a3), .val (.int w_prime_a1), .unset, .unset, .unset, .unset, .unset] [(.int (0 : Int32))]))
  refine Go.step (fun t k => XS.istore X4.here hx rfl (hb hby d5_6) rfl (l' := #[.val (.ref a1), .val (.ref a2), .val (.ref a3), .val (.int w_prime_a1), .val (.int (0 : Int32)), .unset, .unset, .unset, .unset]) rfl k) ?_
  show Go p e below _ (T4.setTop (mkF m 8 #[.val (.ref a1), .val (.ref a2), .val (.ref a3), .val (.int w_prime_a1), .val (.int (0 : Int32)), .unset, .unset, .unset, .unset] []))
  refine Go.step (fun t k => XS.iload X4.here hx rfl (hb hby d5_8) rfl k) ?_
  show Go p e below _ (T4.setTop (mkF m 10 #[.val (.ref a1), .val (.ref a2), .val (.ref a3), .val (.int w_prime_a1), .val (.int (0 : Int32)), .unset, .unset, .unset, .unset] [(.int (0 : Int32))]))
  refine Go.step (fun t k => XS.aloadN X4.here hx rfl (hb hby d5_10) rfl rfl k) ?_
  show Go p e below _ (T4.setTop (mkF m 11 #[.val (.ref a1), .val (.ref a2), .val (.ref a3), .val (.int w_prime_a1), .val (.int (0 : Int32)), .unset, .unset, .unset, .unset] [(.ref a1), (.int (0 : Int32))]))
  obtain ⟨T5, X5, e5, st5⟩ := getF X4 hx hZ hown (host := "") (Or.inl (hw _ (List.mem_of_getElem? (i := 16) rfl))) Via.refl e4 F_length_a1 (g := (mkF m 11 #[.val (.ref a1), .val (.ref a2), .val (.ref a3), .val (.int w_prime_a1), .val (.int (0 : Int32)), .unset, .unset, .unset, .unset] [(.ref a1), (.int (0 : Int32))])) rfl rfl (hb hby d5_11)
  refine Go.step st5 ?_
  show Go p e below _ (T5.setTop (mkF m 14 #[.val (.ref a1), .val (.ref a2), .val (.ref a3), .val (.int w_prime_a1), .val (.int (0 : Int32)), .unset, .unset, .unset, .unset] [(.int (2 : Int32)), (.int (0 : Int32))]))
  refine Go.step (fun t k => XS.icmpNo X5.here hx rfl (hb hby d5_14) rfl (tlt (by decide : (0 : Int32) < (2 : Int32))).2.1 k) ?_
  show Go p e below _ (T5.setTop (mkF m 17 #[.val (.ref a1), .val (.ref a2), .val (.ref a3), .val (.int w_prime_a1), .val (.int (0 : Int32)), .unset, .unset, .unset, .unset] []))
  refine Go.step (fun t k => XS.aloadN X5.here hx rfl (hb hby d5_17) rfl rfl k) ?_
  show Go p e below _ (T5.setTop (mkF m 18 #[.val (.ref a1), .val (.ref a2), .val (.ref a3), .val (.int w_prime_a1), .val (.int (0 : Int32)), .unset, .unset, .unset, .unset] [(.ref a2)]))
  refine Go.step (fun t k => XS.iload X5.here hx rfl (hb hby d5_18) rfl k) ?_
  show Go p e below _ (T5.setTop (mkF m 20 #[.val (.ref a1), .val (.ref a2), .val (.ref a3), .val (.int w_prime_a1), .val (.int (0 : Int32)), .unset, .unset, .unset, .unset] [(.int (0 : Int32)), (.ref a2)]))
  refine Go.step (ldI X5 hx hZ e5 A_a2 (j := (0 : Int32)) (by decide) (by decide) (g := (mkF m 20 #[.val (.ref a1), .val (.ref a2), .val (.ref a3), .val (.int w_prime_a1), .val (.int (0 : Int32)), .unset, .unset, .unset, .unset] [(.int (0 : Int32)), (.ref a2)])) rfl rfl (hb hby d5_20)) ?_
  show Go p e below _ (T5.setTop (mkF m 21 #[.val (.ref a1), .val (.ref a2), .val (.ref a3), .val (.int w_prime_a1), .val (.int (0 : Int32)), .unset, .unset, .unset, .unset] [(.int (g_a2f 0))]))
  refine Go.step (fun t k => XS.i2l X5.here hx rfl (hb hby d5_21) rfl k) ?_
  show Go p e below _ (T5.setTop (mkF m 22 #[.val (.ref a1), .val (.ref a2), .val (.ref a3), .val (.int w_prime_a1), .val (.int (0 : Int32)), .unset, .unset, .unset, .unset] [(.long ((g_a2f 0).toInt64))]))
  refine Go.step (fun t k => XS.aloadN X5.here hx rfl (hb hby d5_22) rfl rfl k) ?_
  show Go p e below _ (T5.setTop (mkF m 23 #[.val (.ref a1), .val (.ref a2), .val (.ref a3), .val (.int w_prime_a1), .val (.int (0 : Int32)), .unset, .unset, .unset, .unset] [(.ref a3), (.long ((g_a2f 0).toInt64))]))
  refine Go.step (fun t k => XS.iload X5.here hx rfl (hb hby d5_23) rfl k) ?_
  show Go p e below _ (T5.setTop (mkF m 25 #[.val (.ref a1), .val (.ref a2), .val (.ref a3), .val (.int w_prime_a1), .val (.int (0 : Int32)), .unset, .unset, .unset, .unset] [(.int (0 : Int32)), (.ref a3), (.long ((g_a2f 0).toInt64))]))
  refine Go.step (ldI X5 hx hZ e5 A_a3 (j := (0 : Int32)) (by decide) (by decide) (g := (mkF m 25 #[.val (.ref a1), .val (.ref a2), .val (.ref a3), .val (.int w_prime_a1), .val (.int (0 : Int32)), .unset, .unset, .unset, .unset] [(.int (0 : Int32)), (.ref a3), (.long ((g_a2f 0).toInt64))])) rfl rfl (hb hby d5_25)) ?_
  show Go p e below _ (T5.setTop (mkF m 26 #[.val (.ref a1), .val (.ref a2), .val (.ref a3), .val (.int w_prime_a1), .val (.int (0 : Int32)), .unset, .unset, .unset, .unset] [(.int (g_a3f 0)), (.long ((g_a2f 0).toInt64))]))
  refine Go.step (fun t k => XS.i2l X5.here hx rfl (hb hby d5_26) rfl k) ?_
  show Go p e below _ (T5.setTop (mkF m 27 #[.val (.ref a1), .val (.ref a2), .val (.ref a3), .val (.int w_prime_a1), .val (.int (0 : Int32)), .unset, .unset, .unset, .unset] [(.long ((g_a3f 0).toInt64)), (.long ((g_a2f 0).toInt64))]))
  refine Go.step (fun t k => XS.lmul X5.here hx rfl (hb hby d5_27) rfl k) ?_
  show Go p e below _ (T5.setTop (mkF m 28 #[.val (.ref a1), .val (.ref a2), .val (.ref a3), .val (.int w_prime_a1), .val (.int (0 : Int32)), .unset, .unset, .unset, .unset] [(.long (((g_a2f 0).toInt64) * ((g_a3f 0).toInt64)))]))
  obtain ⟨v6, hv6⟩ : ∃ z : Int64, z = (((g_a2f 0).toInt64) * ((g_a3f 0).toInt64)) := ⟨_, rfl⟩
  rw [← hv6]
  show Go p e below _ (T5.setTop (mkF m 28 #[.val (.ref a1), .val (.ref a2), .val (.ref a3), .val (.int w_prime_a1), .val (.int (0 : Int32)), .unset, .unset, .unset, .unset] [(.long v6)]))
  refine Go.step (fun t k => XS.lstore X5.here hx rfl (hb hby d5_28) rfl (l' := #[.val (.ref a1), .val (.ref a2), .val (.ref a3), .val (.int w_prime_a1), .val (.int (0 : Int32)), .val (.long v6), .second, .unset, .unset]) rfl k) ?_
  show Go p e below _ (T5.setTop (mkF m 30 #[.val (.ref a1), .val (.ref a2), .val (.ref a3), .val (.int w_prime_a1), .val (.int (0 : Int32)), .val (.long v6), .second, .unset, .unset] []))
  refine Go.step (fun t k => XS.lload X5.here hx rfl (hb hby d5_30) rfl k) ?_
  show Go p e below _ (T5.setTop (mkF m 32 #[.val (.ref a1), .val (.ref a2), .val (.ref a3), .val (.int w_prime_a1), .val (.int (0 : Int32)), .val (.long v6), .second, .unset, .unset] [(.long v6)]))
  refine Go.step (fun t k => XS.l2i X5.here hx rfl (hb hby d5_32) rfl k) ?_
  show Go p e below _ (T5.setTop (mkF m 33 #[.val (.ref a1), .val (.ref a2), .val (.ref a3), .val (.int w_prime_a1), .val (.int (0 : Int32)), .val (.long v6), .second, .unset, .unset] [(.int (v6.toInt32))]))
  refine Go.step (fun t k => XS.aloadN X5.here hx rfl (hb hby d5_33) rfl rfl k) ?_
  show Go p e below _ (T5.setTop (mkF m 34 #[.val (.ref a1), .val (.ref a2), .val (.ref a3), .val (.int w_prime_a1), .val (.int (0 : Int32)), .val (.long v6), .second, .unset, .unset] [(.ref a1), (.int (v6.toInt32))]))
  obtain ⟨T7, X7, e7, st7⟩ := getF X5 hx hZ hown (host := "") (Or.inl (hw _ (List.mem_of_getElem? (i := 34) rfl))) Via.refl e5 F_negativeInverse_a1 (g := (mkF m 34 #[.val (.ref a1), .val (.ref a2), .val (.ref a3), .val (.int w_prime_a1), .val (.int (0 : Int32)), .val (.long v6), .second, .unset, .unset] [(.ref a1), (.int (v6.toInt32))])) rfl rfl (hb hby d5_34)
  refine Go.step st7 ?_
  show Go p e below _ (T7.setTop (mkF m 37 #[.val (.ref a1), .val (.ref a2), .val (.ref a3), .val (.int w_prime_a1), .val (.int (0 : Int32)), .val (.long v6), .second, .unset, .unset] [(.int w_negativeInverse_a1), (.int (v6.toInt32))]))
  refine Go.step (fun t k => XS.imul X7.here hx rfl (hb hby d5_37) rfl k) ?_
  show Go p e below _ (T7.setTop (mkF m 38 #[.val (.ref a1), .val (.ref a2), .val (.ref a3), .val (.int w_prime_a1), .val (.int (0 : Int32)), .val (.long v6), .second, .unset, .unset] [(.int ((v6.toInt32) * w_negativeInverse_a1))]))
  obtain ⟨v8, hv8⟩ : ∃ z : Int32, z = ((v6.toInt32) * w_negativeInverse_a1) := ⟨_, rfl⟩
  rw [← hv8]
  show Go p e below _ (T7.setTop (mkF m 38 #[.val (.ref a1), .val (.ref a2), .val (.ref a3), .val (.int w_prime_a1), .val (.int (0 : Int32)), .val (.long v6), .second, .unset, .unset] [(.int v8)]))
  refine Go.step (fun t k => XS.istore X7.here hx rfl (hb hby d5_38) rfl (l' := #[.val (.ref a1), .val (.ref a2), .val (.ref a3), .val (.int w_prime_a1), .val (.int (0 : Int32)), .val (.long v6), .second, .val (.int v8), .unset]) rfl k) ?_
  show Go p e below _ (T7.setTop (mkF m 40 #[.val (.ref a1), .val (.ref a2), .val (.ref a3), .val (.int w_prime_a1), .val (.int (0 : Int32)), .val (.long v6), .second, .val (.int v8), .unset] []))
  refine Go.step (fun t k => XS.lload X7.here hx rfl (hb hby d5_40) rfl k) ?_
  show Go p e below _ (T7.setTop (mkF m 42 #[.val (.ref a1), .val (.ref a2), .val (.ref a3), .val (.int w_prime_a1), .val (.int (0 : Int32)), .val (.long v6), .second, .val (.int v8), .unset] [(.long v6)]))
  refine Go.step (fun t k => XS.iload X7.here hx rfl (hb hby d5_42) rfl k) ?_
  show Go p e below _ (T7.setTop (mkF m 44 #[.val (.ref a1), .val (.ref a2), .val (.ref a3), .val (.int w_prime_a1), .val (.int (0 : Int32)), .val (.long v6), .second, .val (.int v8), .unset] [(.int v8), (.long v6)]))
  refine Go.step (fun t k => XS.i2l X7.here hx rfl (hb hby d5_44) rfl k) ?_
  show Go p e below _ (T7.setTop (mkF m 45 #[.val (.ref a1), .val (.ref a2), .val (.ref a3), .val (.int w_prime_a1), .val (.int (0 : Int32)), .val (.long v6), .second, .val (.int v8), .unset] [(.long (v8.toInt64)), (.long v6)]))
  refine Go.step (X7.ldc2Long hx hown (mvT hZ (hw _ (List.mem_of_getElem? (i := 47) rfl))) (g := (mkF m 45 #[.val (.ref a1), .val (.ref a2), .val (.ref a3), .val (.int w_prime_a1), .val (.int (0 : Int32)), .val (.long v6), .second, .val (.int v8), .unset] [(.long (v8.toInt64)), (.long v6)])) rfl (hb hby d5_45)) ?_
  show Go p e below _ (T7.setTop (mkF m 48 #[.val (.ref a1), .val (.ref a2), .val (.ref a3), .val (.int w_prime_a1), .val (.int (0 : Int32)), .val (.long v6), .second, .val (.int v8), .unset] [(.long (4294967295 : Int64)), (.long (v8.toInt64)), (.long v6)]))
  refine Go.step (fun t k => XS.land X7.here hx rfl (hb hby d5_48) rfl k) ?_
  show Go p e below _ (T7.setTop (mkF m 49 #[.val (.ref a1), .val (.ref a2), .val (.ref a3), .val (.int w_prime_a1), .val (.int (0 : Int32)), .val (.long v6), .second, .val (.int v8), .unset] [(.long ((v8.toInt64) &&& (4294967295 : Int64))), (.long v6)]))
  refine Go.step (fun t k => XS.iloadN X7.here hx rfl (hb hby d5_49) rfl k) ?_
  show Go p e below _ (T7.setTop (mkF m 50 #[.val (.ref a1), .val (.ref a2), .val (.ref a3), .val (.int w_prime_a1), .val (.int (0 : Int32)), .val (.long v6), .second, .val (.int v8), .unset] [(.int w_prime_a1), (.long ((v8.toInt64) &&& (4294967295 : Int64))), (.long v6)]))
  refine Go.step (fun t k => XS.i2l X7.here hx rfl (hb hby d5_50) rfl k) ?_
  show Go p e below _ (T7.setTop (mkF m 51 #[.val (.ref a1), .val (.ref a2), .val (.ref a3), .val (.int w_prime_a1), .val (.int (0 : Int32)), .val (.long v6), .second, .val (.int v8), .unset] [(.long (w_prime_a1.toInt64)), (.long ((v8.toInt64) &&& (4294967295 : Int64))), (.long v6)]))
  refine Go.step (fun t k => XS.lmul X7.here hx rfl (hb hby d5_51) rfl k) ?_
  show Go p e below _ (T7.setTop (mkF m 52 #[.val (.ref a1), .val (.ref a2), .val (.ref a3), .val (.int w_prime_a1), .val (.int (0 : Int32)), .val (.long v6), .second, .val (.int v8), .unset] [(.long (((v8.toInt64) &&& (4294967295 : Int64)) * (w_prime_a1.toInt64))), (.long v6)]))
  refine Go.step (fun t k => XS.ladd X7.here hx rfl (hb hby d5_52) rfl k) ?_
  show Go p e below _ (T7.setTop (mkF m 53 #[.val (.ref a1), .val (.ref a2), .val (.ref a3), .val (.int w_prime_a1), .val (.int (0 : Int32)), .val (.long v6), .second, .val (.int v8), .unset] [(.long (v6 + (((v8.toInt64) &&& (4294967295 : Int64)) * (w_prime_a1.toInt64))))]))
  refine Go.step (fun t k => XS.bipush X7.here hx rfl (hb hby d5_53)  k) ?_
  show Go p e below _ (T7.setTop (mkF m 55 #[.val (.ref a1), .val (.ref a2), .val (.ref a3), .val (.int w_prime_a1), .val (.int (0 : Int32)), .val (.long v6), .second, .val (.int v8), .unset] [(.int (32 : Int32)), (.long (v6 + (((v8.toInt64) &&& (4294967295 : Int64)) * (w_prime_a1.toInt64))))]))
  refine Go.step (fun t k => XS.lushr X7.here hx rfl (hb hby d5_55) rfl k) ?_
  show Go p e below _ (T7.setTop (mkF m 56 #[.val (.ref a1), .val (.ref a2), .val (.ref a3), .val (.int w_prime_a1), .val (.int (0 : Int32)), .val (.long v6), .second, .val (.int v8), .unset] [(.long (((v6 + (((v8.toInt64) &&& (4294967295 : Int64)) * (w_prime_a1.toInt64))).toUInt64 >>> ((32 : Int32) &&& 0x3f).toInt64.toUInt64).toInt64))]))
  refine Go.step (fun t k => XS.l2i X7.here hx rfl (hb hby d5_56) rfl k) ?_
  show Go p e below _ (T7.setTop (mkF m 57 #[.val (.ref a1), .val (.ref a2), .val (.ref a3), .val (.int w_prime_a1), .val (.int (0 : Int32)), .val (.long v6), .second, .val (.int v8), .unset] [(.int ((((v6 + (((v8.toInt64) &&& (4294967295 : Int64)) * (w_prime_a1.toInt64))).toUInt64 >>> ((32 : Int32) &&& 0x3f).toInt64.toUInt64).toInt64).toInt32))]))
  refine Go.step (fun t k => XS.iloadN X7.here hx rfl (hb hby d5_57) rfl k) ?_
  show Go p e below _ (T7.setTop (mkF m 58 #[.val (.ref a1), .val (.ref a2), .val (.ref a3), .val (.int w_prime_a1), .val (.int (0 : Int32)), .val (.long v6), .second, .val (.int v8), .unset] [(.int w_prime_a1), (.int ((((v6 + (((v8.toInt64) &&& (4294967295 : Int64)) * (w_prime_a1.toInt64))).toUInt64 >>> ((32 : Int32) &&& 0x3f).toInt64.toUInt64).toInt64).toInt32))]))
  refine Go.step (fun t k => XS.isub X7.here hx rfl (hb hby d5_58) rfl k) ?_
  show Go p e below _ (T7.setTop (mkF m 59 #[.val (.ref a1), .val (.ref a2), .val (.ref a3), .val (.int w_prime_a1), .val (.int (0 : Int32)), .val (.long v6), .second, .val (.int v8), .unset] [(.int (((((v6 + (((v8.toInt64) &&& (4294967295 : Int64)) * (w_prime_a1.toInt64))).toUInt64 >>> ((32 : Int32) &&& 0x3f).toInt64.toUInt64).toInt64).toInt32) - w_prime_a1))]))
  obtain ⟨v9, hv9⟩ : ∃ z : Int32, z = (((((v6 + (((v8.toInt64) &&& (4294967295 : Int64)) * (w_prime_a1.toInt64))).toUInt64 >>> ((32 : Int32) &&& 0x3f).toInt64.toUInt64).toInt64).toInt32) - w_prime_a1) := ⟨_, rfl⟩
  rw [← hv9]
  show Go p e below _ (T7.setTop (mkF m 59 #[.val (.ref a1), .val (.ref a2), .val (.ref a3), .val (.int w_prime_a1), .val (.int (0 : Int32)), .val (.long v6), .second, .val (.int v8), .unset] [(.int v9)]))
  refine Go.step (fun t k => XS.istore X7.here hx rfl (hb hby d5_59) rfl (l' := #[.val (.ref a1), .val (.ref a2), .val (.ref a3), .val (.int w_prime_a1), .val (.int (0 : Int32)), .val (.long v6), .second, .val (.int v8), .val (.int v9)]) rfl k) ?_
  show Go p e below _ (T7.setTop (mkF m 61 #[.val (.ref a1), .val (.ref a2), .val (.ref a3), .val (.int w_prime_a1), .val (.int (0 : Int32)), .val (.long v6), .second, .val (.int v8), .val (.int v9)] []))
  refine Go.step (fun t k => XS.aloadN X7.here hx rfl (hb hby d5_61) rfl rfl k) ?_
  show Go p e below _ (T7.setTop (mkF m 62 #[.val (.ref a1), .val (.ref a2), .val (.ref a3), .val (.int w_prime_a1), .val (.int (0 : Int32)), .val (.long v6), .second, .val (.int v8), .val (.int v9)] [(.ref a2)]))
  refine Go.step (fun t k => XS.iload X7.here hx rfl (hb hby d5_62) rfl k) ?_
  show Go p e below _ (T7.setTop (mkF m 64 #[.val (.ref a1), .val (.ref a2), .val (.ref a3), .val (.int w_prime_a1), .val (.int (0 : Int32)), .val (.long v6), .second, .val (.int v8), .val (.int v9)] [(.int (0 : Int32)), (.ref a2)]))
  refine Go.step (fun t k => XS.iload X7.here hx rfl (hb hby d5_64) rfl k) ?_
  show Go p e below _ (T7.setTop (mkF m 66 #[.val (.ref a1), .val (.ref a2), .val (.ref a3), .val (.int w_prime_a1), .val (.int (0 : Int32)), .val (.long v6), .second, .val (.int v8), .val (.int v9)] [(.int v9), (.int (0 : Int32)), (.ref a2)]))
  refine Go.step (fun t k => XS.iload X7.here hx rfl (hb hby d5_66) rfl k) ?_
  show Go p e below _ (T7.setTop (mkF m 68 #[.val (.ref a1), .val (.ref a2), .val (.ref a3), .val (.int w_prime_a1), .val (.int (0 : Int32)), .val (.long v6), .second, .val (.int v8), .val (.int v9)] [(.int v9), (.int v9), (.int (0 : Int32)), (.ref a2)]))
  refine Go.step (fun t k => XS.bipush X7.here hx rfl (hb hby d5_68)  k) ?_
  show Go p e below _ (T7.setTop (mkF m 70 #[.val (.ref a1), .val (.ref a2), .val (.ref a3), .val (.int w_prime_a1), .val (.int (0 : Int32)), .val (.long v6), .second, .val (.int v8), .val (.int v9)] [(.int (31 : Int32)), (.int v9), (.int v9), (.int (0 : Int32)), (.ref a2)]))
  refine Go.step (fun t k => XS.ishr X7.here hx rfl (hb hby d5_70) rfl k) ?_
  show Go p e below _ (T7.setTop (mkF m 71 #[.val (.ref a1), .val (.ref a2), .val (.ref a3), .val (.int w_prime_a1), .val (.int (0 : Int32)), .val (.long v6), .second, .val (.int v8), .val (.int v9)] [(.int (v9 >>> ((31 : Int32) &&& 31))), (.int v9), (.int (0 : Int32)), (.ref a2)]))
  refine Go.step (fun t k => XS.iloadN X7.here hx rfl (hb hby d5_71) rfl k) ?_
  show Go p e below _ (T7.setTop (mkF m 72 #[.val (.ref a1), .val (.ref a2), .val (.ref a3), .val (.int w_prime_a1), .val (.int (0 : Int32)), .val (.long v6), .second, .val (.int v8), .val (.int v9)] [(.int w_prime_a1), (.int (v9 >>> ((31 : Int32) &&& 31))), (.int v9), (.int (0 : Int32)), (.ref a2)]))
  refine Go.step (fun t k => XS.iand X7.here hx rfl (hb hby d5_72) rfl k) ?_
  show Go p e below _ (T7.setTop (mkF m 73 #[.val (.ref a1), .val (.ref a2), .val (.ref a3), .val (.int w_prime_a1), .val (.int (0 : Int32)), .val (.long v6), .second, .val (.int v8), .val (.int v9)] [(.int ((v9 >>> ((31 : Int32) &&& 31)) &&& w_prime_a1)), (.int v9), (.int (0 : Int32)), (.ref a2)]))
  refine Go.step (fun t k => XS.iadd X7.here hx rfl (hb hby d5_73) rfl k) ?_
  show Go p e below _ (T7.setTop (mkF m 74 #[.val (.ref a1), .val (.ref a2), .val (.ref a3), .val (.int w_prime_a1), .val (.int (0 : Int32)), .val (.long v6), .second, .val (.int v8), .val (.int v9)] [(.int (v9 + ((v9 >>> ((31 : Int32) &&& 31)) &&& w_prime_a1))), (.int (0 : Int32)), (.ref a2)]))
  obtain ⟨cl10, Ar10, in10, -⟩ := A_a2.hin (j := (0 : Int32)) (by decide) (by decide)
  obtain ⟨T10, h10, X10, e10, W10, st10⟩ := stI X7 hx hZ e7 Ar10 in10 (g := (mkF m 74 #[.val (.ref a1), .val (.ref a2), .val (.ref a3), .val (.int w_prime_a1), .val (.int (0 : Int32)), .val (.long v6), .second, .val (.int v8), .val (.int v9)] [(.int (v9 + ((v9 >>> ((31 : Int32) &&& 31)) &&& w_prime_a1))), (.int (0 : Int32)), (.ref a2)])) rfl rfl (hb hby d5_74)
  refine Go.step st10 ?_
  have N10 := Fr.snoc X10 N0 g_a2
  have F_length_a1_10 := F_length_a1.other W10 (Or.inl hne_a1_a2)
  have A_a3_10 := A_a3.other W10 hne_a3_a2
  have F_prime_a1_10 := F_prime_a1.other W10 (Or.inl hne_a1_a2)
  have F_negativeInverse_a1_10 := F_negativeInverse_a1.other W10 (Or.inl hne_a1_a2)
  have Z10 := Nat.le_trans Z0 (Keep.of_wr W10).1
  have KK10 : Keep h0 h10 [a2] := KK0.wr W10 (Or.inl (by simp))
  have A_a2_10 : Ary Z h10 a2 .int 3 (fun i => .int ((upA g_a2f 0 (mpF (g_a2f 0) (g_a3f 0) w_prime_a1 w_negativeInverse_a1)) i)) := by subst_vars; exact A_a2.setI W10 (by decide)
  show Go p e below _ (T10.setTop (mkF m 75 #[.val (.ref a1), .val (.ref a2), .val (.ref a3), .val (.int w_prime_a1), .val (.int (0 : Int32)), .val (.long v6), .second, .val (.int v8), .val (.int v9)] []))
  refine Go.step (fun t k => XS.iinc X10.here hx rfl (hb hby d5_75) rfl (l' := #[.val (.ref a1), .val (.ref a2), .val (.ref a3), .val (.int w_prime_a1), .val (.int (1 : Int32)), .val (.long v6), .second, .val (.int v8), .val (.int v9)]) rfl k) ?_
  show Go p e below _ (T10.setTop (mkF m 78 #[.val (.ref a1), .val (.ref a2), .val (.ref a3), .val (.int w_prime_a1), .val (.int (1 : Int32)), .val (.long v6), .second, .val (.int v8), .val (.int v9)] []))
  refine Go.step (fun t k => XS.goto X10.here hx rfl (pc0 := 78) (pc' := 8) rfl (hb hby d5_78) (by decide) (by decide) k) ?_
  show Go p e below _ (T10.setTop (mkF m 8 #[.val (.ref a1), .val (.ref a2), .val (.ref a3), .val (.int w_prime_a1), .val (.int (1 : Int32)), .val (.long v6), .second, .val (.int v8), .val (.int v9)] []))
  refine Go.step (fun t k => XS.iload X10.here hx rfl (hb hby d5_8) rfl k) ?_
  show Go p e below _ (T10.setTop (mkF m 10 #[.val (.ref a1), .val (.ref a2), .val (.ref a3), .val (.int w_prime_a1), .val (.int (1 : Int32)), .val (.long v6), .second, .val (.int v8), .val (.int v9)] [(.int (1 : Int32))]))
  refine Go.step (fun t k => XS.aloadN X10.here hx rfl (hb hby d5_10) rfl rfl k) ?_
  show Go p e below _ (T10.setTop (mkF m 11 #[.val (.ref a1), .val (.ref a2), .val (.ref a3), .val (.int w_prime_a1), .val (.int (1 : Int32)), .val (.long v6), .second, .val (.int v8), .val (.int v9)] [(.ref a1), (.int (1 : Int32))]))
  obtain ⟨T11, X11, e11, st11⟩ := getF X10 hx hZ hown (host := "") (Or.inl (hw _ (List.mem_of_getElem? (i := 16) rfl))) Via.refl e10 F_length_a1_10 (g := (mkF m 11 #[.val (.ref a1), .val (.ref a2), .val (.ref a3), .val (.int w_prime_a1), .val (.int (1 : Int32)), .val (.long v6), .second, .val (.int v8), .val (.int v9)] [(.ref a1), (.int (1 : Int32))])) rfl rfl (hb hby d5_11)
  refine Go.step st11 ?_
  show Go p e below _ (T11.setTop (mkF m 14 #[.val (.ref a1), .val (.ref a2), .val (.ref a3), .val (.int w_prime_a1), .val (.int (1 : Int32)), .val (.long v6), .second, .val (.int v8), .val (.int v9)] [(.int (2 : Int32)), (.int (1 : Int32))]))
  refine Go.step (fun t k => XS.icmpNo X11.here hx rfl (hb hby d5_14) rfl (tlt (by decide : (1 : Int32) < (2 : Int32))).2.1 k) ?_
  show Go p e below _ (T11.setTop (mkF m 17 #[.val (.ref a1), .val (.ref a2), .val (.ref a3), .val (.int w_prime_a1), .val (.int (1 : Int32)), .val (.long v6), .second, .val (.int v8), .val (.int v9)] []))
  refine Go.step (fun t k => XS.aloadN X11.here hx rfl (hb hby d5_17) rfl rfl k) ?_
  show Go p e below _ (T11.setTop (mkF m 18 #[.val (.ref a1), .val (.ref a2), .val (.ref a3), .val (.int w_prime_a1), .val (.int (1 : Int32)), .val (.long v6), .second, .val (.int v8), .val (.int v9)] [(.ref a2)]))
  refine Go.step (fun t k => XS.iload X11.here hx rfl (hb hby d5_18) rfl k) ?_
  show Go p e below _ (T11.setTop (mkF m 20 #[.val (.ref a1), .val (.ref a2), .val (.ref a3), .val (.int w_prime_a1), .val (.int (1 : Int32)), .val (.long v6), .second, .val (.int v8), .val (.int v9)] [(.int (1 : Int32)), (.ref a2)]))
  refine Go.step (ldI X11 hx hZ e11 A_a2_10 (j := (1 : Int32)) (by decide) (by decide) (g := (mkF m 20 #[.val (.ref a1), .val (.ref a2), .val (.ref a3), .val (.int w_prime_a1), .val (.int (1 : Int32)), .val (.long v6), .second, .val (.int v8), .val (.int v9)] [(.int (1 : Int32)), (.ref a2)])) rfl rfl (hb hby d5_20)) ?_
  show Go p e below _ (T11.setTop (mkF m 21 #[.val (.ref a1), .val (.ref a2), .val (.ref a3), .val (.int w_prime_a1), .val (.int (1 : Int32)), .val (.long v6), .second, .val (.int v8), .val (.int v9)] [(.int (g_a2f 1))]))
  refine Go.step (fun t k => XS.i2l X11.here hx rfl (hb hby d5_21) rfl k) ?_
  show Go p e below _ (T11.setTop (mkF m 22 #[.val (.ref a1), .val (.ref a2), .val (.ref a3), .val (.int w_prime_a1), .val (.int (1 : Int32)), .val (.long v6), .second, .val (.int v8), .val (.int v9)] [(.long ((g_a2f 1).toInt64))]))
  refine Go.step (fun t k => XS.aloadN X11.here hx rfl (hb hby d5_22) rfl rfl k) ?_
  show Go p e below _ (T11.setTop (mkF m 23 #[.val (.ref a1), .val (.ref a2), .val (.ref a3), .val (.int w_prime_a1), .val (.int (1 : Int32)), .val (.long v6), .second, .val (.int v8), .val (.int v9)] [(.ref a3), (.long ((g_a2f 1).toInt64))]))
  refine Go.step (fun t k => XS.iload X11.here hx rfl (hb hby d5_23) rfl k) ?_
  show Go p e below _ (T11.setTop (mkF m 25 #[.val (.ref a1), .val (.ref a2), .val (.ref a3), .val (.int w_prime_a1), .val (.int (1 : Int32)), .val (.long v6), .second, .val (.int v8), .val (.int v9)] [(.int (1 : Int32)), (.ref a3), (.long ((g_a2f 1).toInt64))]))
  refine Go.step (ldI X11 hx hZ e11 A_a3_10 (j := (1 : Int32)) (by decide) (by decide) (g := (mkF m 25 #[.val (.ref a1), .val (.ref a2), .val (.ref a3), .val (.int w_prime_a1), .val (.int (1 : Int32)), .val (.long v6), .second, .val (.int v8), .val (.int v9)] [(.int (1 : Int32)), (.ref a3), (.long ((g_a2f 1).toInt64))])) rfl rfl (hb hby d5_25)) ?_
  show Go p e below _ (T11.setTop (mkF m 26 #[.val (.ref a1), .val (.ref a2), .val (.ref a3), .val (.int w_prime_a1), .val (.int (1 : Int32)), .val (.long v6), .second, .val (.int v8), .val (.int v9)] [(.int (g_a3f 1)), (.long ((g_a2f 1).toInt64))]))
  refine Go.step (fun t k => XS.i2l X11.here hx rfl (hb hby d5_26) rfl k) ?_
  show Go p e below _ (T11.setTop (mkF m 27 #[.val (.ref a1), .val (.ref a2), .val (.ref a3), .val (.int w_prime_a1), .val (.int (1 : Int32)), .val (.long v6), .second, .val (.int v8), .val (.int v9)] [(.long ((g_a3f 1).toInt64)), (.long ((g_a2f 1).toInt64))]))
  refine Go.step (fun t k => XS.lmul X11.here hx rfl (hb hby d5_27) rfl k) ?_
  show Go p e below _ (T11.setTop (mkF m 28 #[.val (.ref a1), .val (.ref a2), .val (.ref a3), .val (.int w_prime_a1), .val (.int (1 : Int32)), .val (.long v6), .second, .val (.int v8), .val (.int v9)] [(.long (((g_a2f 1).toInt64) * ((g_a3f 1).toInt64)))]))
  obtain ⟨v12, hv12⟩ : ∃ z : Int64, z = (((g_a2f 1).toInt64) * ((g_a3f 1).toInt64)) := ⟨_, rfl⟩
  rw [← hv12]
  show Go p e below _ (T11.setTop (mkF m 28 #[.val (.ref a1), .val (.ref a2), .val (.ref a3), .val (.int w_prime_a1), .val (.int (1 : Int32)), .val (.long v6), .second, .val (.int v8), .val (.int v9)] [(.long v12)]))
  refine Go.step (fun t k => XS.lstore X11.here hx rfl (hb hby d5_28) rfl (l' := #[.val (.ref a1), .val (.ref a2), .val (.ref a3), .val (.int w_prime_a1), .val (.int (1 : Int32)), .val (.long v12), .second, .val (.int v8), .val (.int v9)]) rfl k) ?_
  show Go p e below _ (T11.setTop (mkF m 30 #[.val (.ref a1), .val (.ref a2), .val (.ref a3), .val (.int w_prime_a1), .val (.int (1 : Int32)), .val (.long v12), .second, .val (.int v8), .val (.int v9)] []))
  refine Go.step (fun t k => XS.lload X11.here hx rfl (hb hby d5_30) rfl k) ?_
  show Go p e below _ (T11.setTop (mkF m 32 #[.val (.ref a1), .val (.ref a2), .val (.ref a3), .val (.int w_prime_a1), .val (.int (1 : Int32)), .val (.long v12), .second, .val (.int v8), .val (.int v9)] [(.long v12)]))
  refine Go.step (fun t k => XS.l2i X11.here hx rfl (hb hby d5_32) rfl k) ?_
  show Go p e below _ (T11.setTop (mkF m 33 #[.val (.ref a1), .val (.ref a2), .val (.ref a3), .val (.int w_prime_a1), .val (.int (1 : Int32)), .val (.long v12), .second, .val (.int v8), .val (.int v9)] [(.int (v12.toInt32))]))
  refine Go.step (fun t k => XS.aloadN X11.here hx rfl (hb hby d5_33) rfl rfl k) ?_
  show Go p e below _ (T11.setTop (mkF m 34 #[.val (.ref a1), .val (.ref a2), .val (.ref a3), .val (.int w_prime_a1), .val (.int (1 : Int32)), .val (.long v12), .second, .val (.int v8), .val (.int v9)] [(.ref a1), (.int (v12.toInt32))]))
  obtain ⟨T13, X13, e13, st13⟩ := getF X11 hx hZ hown (host := "") (Or.inl (hw _ (List.mem_of_getElem? (i := 34) rfl))) Via.refl e11 F_negativeInverse_a1_10 (g := (mkF m 34 #[.val (.ref a1), .val (.ref a2), .val (.ref a3), .val (.int w_prime_a1), .val (.int (1 : Int32)), .val (.long v12), .second, .val (.int v8), .val (.int v9)] [(.ref a1), (.int (v12.toInt32))])) rfl rfl (hb hby d5_34)
  refine Go.step st13 ?_
  show Go p e below _ (T13.setTop (mkF m 37 #[.val (.ref a1), .val (.ref a2), .val (.ref a3), .val (.int w_prime_a1), .val (.int (1 : Int32)), .val (.long v12), .second, .val (.int v8), .val (.int v9)] [(.int w_negativeInverse_a1), (.int (v12.toInt32))]))
  refine Go.step (fun t k => XS.imul X13.here hx rfl (hb hby d5_37) rfl k) ?_
  show Go p e below _ (T13.setTop (mkF m 38 #[.val (.ref a1), .val (.ref a2), .val (.ref a3), .val (.int w_prime_a1), .val (.int (1 : Int32)), .val (.long v12), .second, .val (.int v8), .val (.int v9)] [(.int ((v12.toInt32) * w_negativeInverse_a1))]))
  obtain ⟨v14, hv14⟩ : ∃ z : Int32, z = ((v12.toInt32) * w_negativeInverse_a1) := ⟨_, rfl⟩
  rw [← hv14]
  show Go p e below _ (T13.setTop (mkF m 38 #[.val (.ref a1), .val (.ref a2), .val (.ref a3), .val (.int w_prime_a1), .val (.int (1 : Int32)), .val (.long v12), .second, .val (.int v8), .val (.int v9)] [(.int v14)]))
  refine Go.step (fun t k => XS.istore X13.here hx rfl (hb hby d5_38) rfl (l' := #[.val (.ref a1), .val (.ref a2), .val (.ref a3), .val (.int w_prime_a1), .val (.int (1 : Int32)), .val (.long v12), .second, .val (.int v14), .val (.int v9)]) rfl k) ?_
  show Go p e below _ (T13.setTop (mkF m 40 #[.val (.ref a1), .val (.ref a2), .val (.ref a3), .val (.int w_prime_a1), .val (.int (1 : Int32)), .val (.long v12), .second, .val (.int v14), .val (.int v9)] []))
  refine Go.step (fun t k => XS.lload X13.here hx rfl (hb hby d5_40) rfl k) ?_
  show Go p e below _ (T13.setTop (mkF m 42 #[.val (.ref a1), .val (.ref a2), .val (.ref a3), .val (.int w_prime_a1), .val (.int (1 : Int32)), .val (.long v12), .second, .val (.int v14), .val (.int v9)] [(.long v12)]))
  refine Go.step (fun t k => XS.iload X13.here hx rfl (hb hby d5_42) rfl k) ?_
  show Go p e below _ (T13.setTop (mkF m 44 #[.val (.ref a1), .val (.ref a2), .val (.ref a3), .val (.int w_prime_a1), .val (.int (1 : Int32)), .val (.long v12), .second, .val (.int v14), .val (.int v9)] [(.int v14), (.long v12)]))
  refine Go.step (fun t k => XS.i2l X13.here hx rfl (hb hby d5_44) rfl k) ?_
  show Go p e below _ (T13.setTop (mkF m 45 #[.val (.ref a1), .val (.ref a2), .val (.ref a3), .val (.int w_prime_a1), .val (.int (1 : Int32)), .val (.long v12), .second, .val (.int v14), .val (.int v9)] [(.long (v14.toInt64)), (.long v12)]))
  refine Go.step (X13.ldc2Long hx hown (mvT hZ (hw _ (List.mem_of_getElem? (i := 47) rfl))) (g := (mkF m 45 #[.val (.ref a1), .val (.ref a2), .val (.ref a3), .val (.int w_prime_a1), .val (.int (1 : Int32)), .val (.long v12), .second, .val (.int v14), .val (.int v9)] [(.long (v14.toInt64)), (.long v12)])) rfl (hb hby d5_45)) ?_
  show Go p e below _ (T13.setTop (mkF m 48 #[.val (.ref a1), .val (.ref a2), .val (.ref a3), .val (.int w_prime_a1), .val (.int (1 : Int32)), .val (.long v12), .second, .val (.int v14), .val (.int v9)] [(.long (4294967295 : Int64)), (.long (v14.toInt64)), (.long v12)]))
  refine Go.step (fun t k => XS.land X13.here hx rfl (hb hby d5_48) rfl k) ?_
  show Go p e below _ (T13.setTop (mkF m 49 #[.val (.ref a1), .val (.ref a2), .val (.ref a3), .val (.int w_prime_a1), .val (.int (1 : Int32)), .val (.long v12), .second, .val (.int v14), .val (.int v9)] [(.long ((v14.toInt64) &&& (4294967295 : Int64))), (.long v12)]))
  refine Go.step (fun t k => XS.iloadN X13.here hx rfl (hb hby d5_49) rfl k) ?_
  show Go p e below _ (T13.setTop (mkF m 50 #[.val (.ref a1), .val (.ref a2), .val (.ref a3), .val (.int w_prime_a1), .val (.int (1 : Int32)), .val (.long v12), .second, .val (.int v14), .val (.int v9)] [(.int w_prime_a1), (.long ((v14.toInt64) &&& (4294967295 : Int64))), (.long v12)]))
  refine Go.step (fun t k => XS.i2l X13.here hx rfl (hb hby d5_50) rfl k) ?_
  show Go p e below _ (T13.setTop (mkF m 51 #[.val (.ref a1), .val (.ref a2), .val (.ref a3), .val (.int w_prime_a1), .val (.int (1 : Int32)), .val (.long v12), .second, .val (.int v14), .val (.int v9)] [(.long (w_prime_a1.toInt64)), (.long ((v14.toInt64) &&& (4294967295 : Int64))), (.long v12)]))
  refine Go.step (fun t k => XS.lmul X13.here hx rfl (hb hby d5_51) rfl k) ?_
  show Go p e below _ (T13.setTop (mkF m 52 #[.val (.ref a1), .val (.ref a2), .val (.ref a3), .val (.int w_prime_a1), .val (.int (1 : Int32)), .val (.long v12), .second, .val (.int v14), .val (.int v9)] [(.long (((v14.toInt64) &&& (4294967295 : Int64)) * (w_prime_a1.toInt64))), (.long v12)]))
  refine Go.step (fun t k => XS.ladd X13.here hx rfl (hb hby d5_52) rfl k) ?_
  show Go p e below _ (T13.setTop (mkF m 53 #[.val (.ref a1), .val (.ref a2), .val (.ref a3), .val (.int w_prime_a1), .val (.int (1 : Int32)), .val (.long v12), .second, .val (.int v14), .val (.int v9)] [(.long (v12 + (((v14.toInt64) &&& (4294967295 : Int64)) * (w_prime_a1.toInt64))))]))
  refine Go.step (fun t k => XS.bipush X13.here hx rfl (hb hby d5_53)  k) ?_
  show Go p e below _ (T13.setTop (mkF m 55 #[.val (.ref a1), .val (.ref a2), .val (.ref a3), .val (.int w_prime_a1), .val (.int (1 : Int32)), .val (.long v12), .second, .val (.int v14), .val (.int v9)] [(.int (32 : Int32)), (.long (v12 + (((v14.toInt64) &&& (4294967295 : Int64)) * (w_prime_a1.toInt64))))]))
  refine Go.step (fun t k => XS.lushr X13.here hx rfl (hb hby d5_55) rfl k) ?_
  show Go p e below _ (T13.setTop (mkF m 56 #[.val (.ref a1), .val (.ref a2), .val (.ref a3), .val (.int w_prime_a1), .val (.int (1 : Int32)), .val (.long v12), .second, .val (.int v14), .val (.int v9)] [(.long (((v12 + (((v14.toInt64) &&& (4294967295 : Int64)) * (w_prime_a1.toInt64))).toUInt64 >>> ((32 : Int32) &&& 0x3f).toInt64.toUInt64).toInt64))]))
  refine Go.step (fun t k => XS.l2i X13.here hx rfl (hb hby d5_56) rfl k) ?_
  show Go p e below _ (T13.setTop (mkF m 57 #[.val (.ref a1), .val (.ref a2), .val (.ref a3), .val (.int w_prime_a1), .val (.int (1 : Int32)), .val (.long v12), .second, .val (.int v14), .val (.int v9)] [(.int ((((v12 + (((v14.toInt64) &&& (4294967295 : Int64)) * (w_prime_a1.toInt64))).toUInt64 >>> ((32 : Int32) &&& 0x3f).toInt64.toUInt64).toInt64).toInt32))]))
  refine Go.step (fun t k => XS.iloadN X13.here hx rfl (hb hby d5_57) rfl k) ?_
  show Go p e below _ (T13.setTop (mkF m 58 #[.val (.ref a1), .val (.ref a2), .val (.ref a3), .val (.int w_prime_a1), .val (.int (1 : Int32)), .val (.long v12), .second, .val (.int v14), .val (.int v9)] [(.int w_prime_a1), (.int ((((v12 + (((v14.toInt64) &&& (4294967295 : Int64)) * (w_prime_a1.toInt64))).toUInt64 >>> ((32 : Int32) &&& 0x3f).toInt64.toUInt64).toInt64).toInt32))]))
  refine Go.step (fun t k => XS.isub X13.here hx rfl (hb hby d5_58) rfl k) ?_
  show Go p e below _ (T13.setTop (mkF m 59 #[.val (.ref a1), .val (.ref a2), .val (.ref a3), .val (.int w_prime_a1), .val (.int (1 : Int32)), .val (.long v12), .second, .val (.int v14), .val (.int v9)] [(.int (((((v12 + (((v14.toInt64) &&& (4294967295 : Int64)) * (w_prime_a1.toInt64))).toUInt64 >>> ((32 : Int32) &&& 0x3f).toInt64.toUInt64).toInt64).toInt32) - w_prime_a1))]))
  obtain ⟨v15, hv15⟩ : ∃ z : Int32, z = (((((v12 + (((v14.toInt64) &&& (4294967295 : Int64)) * (w_prime_a1.toInt64))).toUInt64 >>> ((32 : Int32) &&& 0x3f).toInt64.toUInt64).toInt64).toInt32) - w_prime_a1) := ⟨_, rfl⟩
  rw [← hv15]
  show Go p e below _ (T13.setTop (mkF m 59 #[.val (.ref a1), .val (.ref a2), .val (.ref a3), .val (.int w_prime_a1), .val (.int (1 : Int32)), .val (.long v12), .second, .val (.int v14), .val (.int v9)] [(.int v15)]))
  refine Go.step (fun t k => XS.istore X13.here hx rfl (hb hby d5_59) rfl (l' := #[.val (.ref a1), .val (.ref a2), .val (.ref a3), .val (.int w_prime_a1), .val (.int (1 : Int32)), .val (.long v12), .second, .val (.int v14), .val (.int v15)]) rfl k) ?_
  show Go p e below _ (T13.setTop (mkF m 61 #[.val (.ref a1), .val (.ref a2), .val (.ref a3), .val (.int w_prime_a1), .val (.int (1 : Int32)), .val (.long v12), .second, .val (.int v14), .val (.int v15)] []))
  refine Go.step (fun t k => XS.aloadN X13.here hx rfl (hb hby d5_61) rfl rfl k) ?_
  show Go p e below _ (T13.setTop (mkF m 62 #[.val (.ref a1), .val (.ref a2), .val (.ref a3), .val (.int w_prime_a1), .val (.int (1 : Int32)), .val (.long v12), .second, .val (.int v14), .val (.int v15)] [(.ref a2)]))
  refine Go.step (fun t k => XS.iload X13.here hx rfl (hb hby d5_62) rfl k) ?_
  show Go p e below _ (T13.setTop (mkF m 64 #[.val (.ref a1), .val (.ref a2), .val (.ref a3), .val (.int w_prime_a1), .val (.int (1 : Int32)), .val (.long v12), .second, .val (.int v14), .val (.int v15)] [(.int (1 : Int32)), (.ref a2)]))
  refine Go.step (fun t k => XS.iload X13.here hx rfl (hb hby d5_64) rfl k) ?_
  show Go p e below _ (T13.setTop (mkF m 66 #[.val (.ref a1), .val (.ref a2), .val (.ref a3), .val (.int w_prime_a1), .val (.int (1 : Int32)), .val (.long v12), .second, .val (.int v14), .val (.int v15)] [(.int v15), (.int (1 : Int32)), (.ref a2)]))
  refine Go.step (fun t k => XS.iload X13.here hx rfl (hb hby d5_66) rfl k) ?_
  show Go p e below _ (T13.setTop (mkF m 68 #[.val (.ref a1), .val (.ref a2), .val (.ref a3), .val (.int w_prime_a1), .val (.int (1 : Int32)), .val (.long v12), .second, .val (.int v14), .val (.int v15)] [(.int v15), (.int v15), (.int (1 : Int32)), (.ref a2)]))
  refine Go.step (fun t k => XS.bipush X13.here hx rfl (hb hby d5_68)  k) ?_
  show Go p e below _ (T13.setTop (mkF m 70 #[.val (.ref a1), .val (.ref a2), .val (.ref a3), .val (.int w_prime_a1), .val (.int (1 : Int32)), .val (.long v12), .second, .val (.int v14), .val (.int v15)] [(.int (31 : Int32)), (.int v15), (.int v15), (.int (1 : Int32)), (.ref a2)]))
  refine Go.step (fun t k => XS.ishr X13.here hx rfl (hb hby d5_70) rfl k) ?_
  show Go p e below _ (T13.setTop (mkF m 71 #[.val (.ref a1), .val (.ref a2), .val (.ref a3), .val (.int w_prime_a1), .val (.int (1 : Int32)), .val (.long v12), .second, .val (.int v14), .val (.int v15)] [(.int (v15 >>> ((31 : Int32) &&& 31))), (.int v15), (.int (1 : Int32)), (.ref a2)]))
  refine Go.step (fun t k => XS.iloadN X13.here hx rfl (hb hby d5_71) rfl k) ?_
  show Go p e below _ (T13.setTop (mkF m 72 #[.val (.ref a1), .val (.ref a2), .val (.ref a3), .val (.int w_prime_a1), .val (.int (1 : Int32)), .val (.long v12), .second, .val (.int v14), .val (.int v15)] [(.int w_prime_a1), (.int (v15 >>> ((31 : Int32) &&& 31))), (.int v15), (.int (1 : Int32)), (.ref a2)]))
  refine Go.step (fun t k => XS.iand X13.here hx rfl (hb hby d5_72) rfl k) ?_
  show Go p e below _ (T13.setTop (mkF m 73 #[.val (.ref a1), .val (.ref a2), .val (.ref a3), .val (.int w_prime_a1), .val (.int (1 : Int32)), .val (.long v12), .second, .val (.int v14), .val (.int v15)] [(.int ((v15 >>> ((31 : Int32) &&& 31)) &&& w_prime_a1)), (.int v15), (.int (1 : Int32)), (.ref a2)]))
  refine Go.step (fun t k => XS.iadd X13.here hx rfl (hb hby d5_73) rfl k) ?_
  show Go p e below _ (T13.setTop (mkF m 74 #[.val (.ref a1), .val (.ref a2), .val (.ref a3), .val (.int w_prime_a1), .val (.int (1 : Int32)), .val (.long v12), .second, .val (.int v14), .val (.int v15)] [(.int (v15 + ((v15 >>> ((31 : Int32) &&& 31)) &&& w_prime_a1))), (.int (1 : Int32)), (.ref a2)]))
  obtain ⟨cl16, Ar16, in16, -⟩ := A_a2_10.hin (j := (1 : Int32)) (by decide) (by decide)
  obtain ⟨T16, h16, X16, e16, W16, st16⟩ := stI X13 hx hZ e13 Ar16 in16 (g := (mkF m 74 #[.val (.ref a1), .val (.ref a2), .val (.ref a3), .val (.int w_prime_a1), .val (.int (1 : Int32)), .val (.long v12), .second, .val (.int v14), .val (.int v15)] [(.int (v15 + ((v15 >>> ((31 : Int32) &&& 31)) &&& w_prime_a1))), (.int (1 : Int32)), (.ref a2)])) rfl rfl (hb hby d5_74)
  refine Go.step st16 ?_
  have N16 := Fr.snoc X16 N10 g_a2
  have F_length_a1_16 := F_length_a1_10.other W16 (Or.inl hne_a1_a2)
  have A_a3_16 := A_a3_10.other W16 hne_a3_a2
  have F_prime_a1_16 := F_prime_a1_10.other W16 (Or.inl hne_a1_a2)
  have F_negativeInverse_a1_16 := F_negativeInverse_a1_10.other W16 (Or.inl hne_a1_a2)
  have Z16 := Nat.le_trans Z10 (Keep.of_wr W16).1
  have KK16 : Keep h0 h16 [a2] := KK10.wr W16 (Or.inl (by simp))
  have A_a2_16 : Ary Z h16 a2 .int 3 (fun i => .int ((upA (upA g_a2f 0 (mpF (g_a2f 0) (g_a3f 0) w_prime_a1 w_negativeInverse_a1)) 1 (mpF (g_a2f 1) (g_a3f 1) w_prime_a1 w_negativeInverse_a1)) i)) := by subst_vars; exact A_a2_10.setI W16 (by decide)
  show Go p e below _ (T16.setTop (mkF m 75 #[.val (.ref a1), .val (.ref a2), .val (.ref a3), .val (.int w_prime_a1), .val (.int (1 : Int32)), .val (.long v12), .second, .val (.int v14), .val (.int v15)] []))
  refine Go.step (fun t k => XS.iinc X16.here hx rfl (hb hby d5_75) rfl (l' := #[.val (.ref a1), .val (.ref a2), .val (.ref a3), .val (.int w_prime_a1), .val (.int (2 : Int32)), .val (.long v12), .second, .val (.int v14), .val (.int v15)]) rfl k) ?_
  show Go p e below _ (T16.setTop (mkF m 78 #[.val (.ref a1), .val (.ref a2), .val (.ref a3), .val (.int w_prime_a1), .val (.int (2 : Int32)), .val (.long v12), .second, .val (.int v14), .val (.int v15)] []))
  refine Go.step (fun t k => XS.goto X16.here hx rfl (pc0 := 78) (pc' := 8) rfl (hb hby d5_78) (by decide) (by decide) k) ?_
  show Go p e below _ (T16.setTop (mkF m 8 #[.val (.ref a1), .val (.ref a2), .val (.ref a3), .val (.int w_prime_a1), .val (.int (2 : Int32)), .val (.long v12), .second, .val (.int v14), .val (.int v15)] []))
  refine Go.step (fun t k => XS.iload X16.here hx rfl (hb hby d5_8) rfl k) ?_
  show Go p e below _ (T16.setTop (mkF m 10 #[.val (.ref a1), .val (.ref a2), .val (.ref a3), .val (.int w_prime_a1), .val (.int (2 : Int32)), .val (.long v12), .second, .val (.int v14), .val (.int v15)] [(.int (2 : Int32))]))
  refine Go.step (fun t k => XS.aloadN X16.here hx rfl (hb hby d5_10) rfl rfl k) ?_
  show Go p e below _ (T16.setTop (mkF m 11 #[.val (.ref a1), .val (.ref a2), .val (.ref a3), .val (.int w_prime_a1), .val (.int (2 : Int32)), .val (.long v12), .second, .val (.int v14), .val (.int v15)] [(.ref a1), (.int (2 : Int32))]))
  obtain ⟨T17, X17, e17, st17⟩ := getF X16 hx hZ hown (host := "") (Or.inl (hw _ (List.mem_of_getElem? (i := 16) rfl))) Via.refl e16 F_length_a1_16 (g := (mkF m 11 #[.val (.ref a1), .val (.ref a2), .val (.ref a3), .val (.int w_prime_a1), .val (.int (2 : Int32)), .val (.long v12), .second, .val (.int v14), .val (.int v15)] [(.ref a1), (.int (2 : Int32))])) rfl rfl (hb hby d5_11)
  refine Go.step st17 ?_
  show Go p e below _ (T17.setTop (mkF m 14 #[.val (.ref a1), .val (.ref a2), .val (.ref a3), .val (.int w_prime_a1), .val (.int (2 : Int32)), .val (.long v12), .second, .val (.int v14), .val (.int v15)] [(.int (2 : Int32)), (.int (2 : Int32))]))
  refine Go.step (fun t k => XS.icmpYes X17.here hx rfl (pc0 := 14) (pc' := 81) rfl (hb hby d5_14) rfl (flt (by decide : ¬ ((2 : Int32) < (2 : Int32)))).2.1 (by decide) (by decide) k) ?_
  show Go p e below _ (T17.setTop (mkF m 81 #[.val (.ref a1), .val (.ref a2), .val (.ref a3), .val (.int w_prime_a1), .val (.int (2 : Int32)), .val (.long v12), .second, .val (.int v14), .val (.int v15)] []))
  subst hv15
  subst hv14
  subst hv12
  subst hv9
  subst hv8
  subst hv6
  refine retGV X17 hx Bd.notSynchronized Bd.returns (hb hby d5_81) ?_ (by decide) (by decide)
  show Q5 Z a1 a2 a3 g_a2f g_a3f w_prime_a1 w_negativeInverse_a1 h0 n0 _ T17.heap _
  rw [e17]
  exact ⟨rfl, N16, KK16, A_a2_16⟩
theorem d6_0 : decode method_3_code 0 = .ok (.iload_n 0, 1) := by decide +kernel
theorem d6_1 : decode method_3_code 1 = .ok (.ifCond .lt 8, 3) := by decide +kernel
theorem d6_9 : decode method_3_code 9 = .ok (.iconst 0, 1) := by decide +kernel
theorem d6_10 : decode method_3_code 10 = .ok (.ireturn, 1) := by decide +kernel
theorem d6_4 : decode method_3_code 4 = .ok (.iload_n 0, 1) := by decide +kernel
theorem d6_5 : decode method_3_code 5 = .ok (.iload_n 3, 1) := by decide +kernel
theorem d6_6 : decode method_3_code 6 = .ok (.if_icmp .lt 5, 3) := by decide +kernel
theorem d6_11 : decode method_3_code 11 = .ok (.iload_n 0, 1) := by decide +kernel
theorem d6_12 : decode method_3_code 12 = .ok (.i2l, 1) := by decide +kernel
theorem d6_13 : decode method_3_code 13 = .ok (.bipush 32, 2) := by decide +kernel
theorem d6_15 : decode method_3_code 15 = .ok (.lshl, 1) := by decide +kernel
theorem d6_16 : decode method_3_code 16 = .ok (.iload_n 3, 1) := by decide +kernel
theorem d6_17 : decode method_3_code 17 = .ok (.i2l, 1) := by decide +kernel
theorem d6_18 : decode method_3_code 18 = .ok (.lrem, 1) := by decide +kernel
theorem d6_19 : decode method_3_code 19 = .ok (.lstore 4, 2) := by decide +kernel
theorem d6_21 : decode method_3_code 21 = .ok (.iload_n 1, 1) := by decide +kernel
theorem d6_22 : decode method_3_code 22 = .ok (.i2l, 1) := by decide +kernel
theorem d6_23 : decode method_3_code 23 = .ok (.iload_n 2, 1) := by decide +kernel
theorem d6_24 : decode method_3_code 24 = .ok (.i2l, 1) := by decide +kernel
theorem d6_25 : decode method_3_code 25 = .ok (.lmul, 1) := by decide +kernel
theorem d6_26 : decode method_3_code 26 = .ok (.iload_n 3, 1) := by decide +kernel
theorem d6_27 : decode method_3_code 27 = .ok (.i2l, 1) := by decide +kernel
theorem d6_28 : decode method_3_code 28 = .ok (.lrem, 1) := by decide +kernel
theorem d6_29 : decode method_3_code 29 = .ok (.lstore 6, 2) := by decide +kernel
theorem d6_31 : decode method_3_code 31 = .ok (.lload 4, 2) := by decide +kernel
theorem d6_33 : decode method_3_code 33 = .ok (.lload 6, 2) := by decide +kernel
theorem d6_35 : decode method_3_code 35 = .ok (.lcmp, 1) := by decide +kernel
theorem d6_36 : decode method_3_code 36 = .ok (.ifCond .ne 7, 3) := by decide +kernel
theorem d6_39 : decode method_3_code 39 = .ok (.iconst 1, 1) := by decide +kernel
theorem d6_40 : decode method_3_code 40 = .ok (.goto 4, 3) := by decide +kernel
theorem d6_44 : decode method_3_code 44 = .ok (.ireturn, 1) := by decide +kernel
theorem d6_43 : decode method_3_code 43 = .ok (.iconst 0, 1) := by decide +kernel
theorem ef_6 (m : MethodId) (p1 : Int32) (p2 : Int32) (p3 : Int32) (p4 : Int32) : entryFrame m #[(.int p1), (.int p2), (.int p3), (.int p4)] 8 = mkF m 0 #[.val (.int p1), .val (.int p2), .val (.int p3), .val (.int p4), .unset, .unset, .unset, .unset] [] := by first | (simp [entryFrame, mkF, argsToLocals, Value.category]; done) | rfl
theorem pn_1 : plainName "com/example/tinwire/tinwire/json/TransformMultiplyPointwisePinLaw" = true := by first | (simp [plainName, overriddenIn]; done) | decide +kernel
def f6 (p1 : Int32) (p2 : Int32) (p3 : Int32) (p4 : Int32) : Int32 := (if p1 < (0 : Int32) then (0 : Int32) else (if p1 < p4 then (if (((p1.toInt64) <<< ((32 : Int32) &&& 0x3f).toInt64) % (p4.toInt64)) = (((p2.toInt64) * (p3.toInt64)) % (p4.toInt64)) then (1 : Int32) else (0 : Int32)) else (0 : Int32)))
set_option maxRecDepth 65536 in
set_option maxHeartbeats 40000000 in
theorem rm6 (l : Launch) (Z : State) (a0 : Array Value) (hw : ∀ d ∈ tables_1, d.before a0 Z = true) (ws : List Jvm.Cond) (p1 : Int32) (p2 : Int32) (p3 : Int32) (p4 : Int32) (h0 : Heap) (n0 : Nat) (Z0 : n0 ≤ h0.size) (hnz18 : ¬ ((p4.toInt64) = (0 : Int64))) (hnz28 : ¬ ((p4.toInt64) = (0 : Int64))) :
    MetFree l (⟨"com/example/tinwire/tinwire/json/TransformMultiplyPointwisePinLaw", "ok", "(IIII)Z"⟩ : MethodName) (head1 (Jvm.Cond.code (⟨"com/example/tinwire/tinwire/json/TransformMultiplyPointwisePinLaw", "ok", "(IIII)Z"⟩ : MethodName) method_3_code 8 (some .boolean) :: ws) ({ frames := 0, cells := 0, slots := 0, locals := 0 } : Room)) (fun a U => a = #[(.int p1), (.int p2), (.int p3), (.int p4)] ∧ Z.Warmed39 U.vm ∧ U.heap = h0) (fun _ _ _ _ _ => True) (fun _ U o U' => ∃ v L, o = .returned v ∧ QP (.int (f6 p1 p2 p3 p4)) h0 n0 v U'.heap L ∧ FrameEnd U o U' L ({ frames := 0, cells := 0, slots := 0, locals := 0 } : Room).cells ({ frames := 0, cells := 0, slots := 0, locals := 0 } : Room).slots) := by
  refine MetFree.of_bodySF (plainFor_of_name pn_1) hisR ?_
  intro p e s m args below meth c s₁ Bd hml0 hP hK
  obtain ⟨rfl, hZ, hh⟩ := hP
  have hx := Bd.exec
  have hby := Bd.bytes
  have hml : c.maxLocals = 8 := hml0
  have hown : s.vm.findClass "com/example/tinwire/tinwire/json/TransformMultiplyPointwisePinLaw" = some m.cls := findClass_of_methodNamed Bd.named
  have hnm := (name_of_methodNamed Bd.named Bd.method).1
  have X0 : Stand p l e ({ frames := 0, cells := 0, slots := 0, locals := 0 } : Room) s m #[(.int p1), (.int p2), (.int p3), (.int p4)] below meth c s₁ [] 0 0 := Stand.of_body Bd
  have e0 : s₁.heap = h0 := by rw [← hh, Bd.state]; rfl
  have N0 := Fr.nil n0
  refine Go.done (Go.step (fun t k => castTop (ef_6 m p1 p2 p3 p4) k) ?_)
  have KK0 : Keep h0 h0 [] := Keep.refl _ _
  show Go p e below _ (s₁.setTop (mkF m 0 #[.val (.int p1), .val (.int p2), .val (.int p3), .val (.int p4), .unset, .unset, .unset, .unset] []))
  refine Go.step (fun t k => XS.iloadN X0.here hx rfl (hb hby d6_0) rfl k) ?_
  show Go p e below _ (s₁.setTop (mkF m 1 #[.val (.int p1), .val (.int p2), .val (.int p3), .val (.int p4), .unset, .unset, .unset, .unset] [(.int p1)]))
  by_cases hc5 : p1 < (0 : Int32)
  · refine Go.step (fun t k => XS.ifYes X0.here hx rfl (pc0 := 1) (pc' := 9) rfl (hb hby d6_1) rfl ((if0 _ _).trans (tlt hc5).1) (by decide) (by decide) k) ?_
    show Go p e below _ (s₁.setTop (mkF m 9 #[.val (.int p1), .val (.int p2), .val (.int p3), .val (.int p4), .unset, .unset, .unset, .unset] []))
    refine Go.step (fun t k => XS.iconst X0.here hx rfl (hb hby d6_9)  k) ?_
    show Go p e below _ (s₁.setTop (mkF m 10 #[.val (.int p1), .val (.int p2), .val (.int p3), .val (.int p4), .unset, .unset, .unset, .unset] [(.int (0 : Int32))]))
    exact retGN X0 hx Bd.notSynchronized Bd.returns (t := .boolean) (by simp) (z' := (0 : Int32)) rfl (hb hby d6_10) ⟨by first | (simp only [f6, if_pos hc5]; done) | rfl | (simp [f6, if_pos hc5]; done), N0, e0⟩ (by decide) (by decide)
  · refine Go.step (fun t k => XS.ifNo X0.here hx rfl (hb hby d6_1) rfl ((if0 _ _).trans (flt hc5).1) k) ?_
    show Go p e below _ (s₁.setTop (mkF m 4 #[.val (.int p1), .val (.int p2), .val (.int p3), .val (.int p4), .unset, .unset, .unset, .unset] []))
    refine Go.step (fun t k => XS.iloadN X0.here hx rfl (hb hby d6_4) rfl k) ?_
    show Go p e below _ (s₁.setTop (mkF m 5 #[.val (.int p1), .val (.int p2), .val (.int p3), .val (.int p4), .unset, .unset, .unset, .unset] [(.int p1)]))
    refine Go.step (fun t k => XS.iloadN X0.here hx rfl (hb hby d6_5) rfl k) ?_
    show Go p e below _ (s₁.setTop (mkF m 6 #[.val (.int p1), .val (.int p2), .val (.int p3), .val (.int p4), .unset, .unset, .unset, .unset] [(.int p4), (.int p1)]))
    by_cases hc6 : p1 < p4
    · refine Go.step (fun t k => XS.icmpYes X0.here hx rfl (pc0 := 6) (pc' := 11) rfl (hb hby d6_6) rfl (tlt hc6).1 (by decide) (by decide) k) ?_
      show Go p e below _ (s₁.setTop (mkF m 11 #[.val (.int p1), .val (.int p2), .val (.int p3), .val (.int p4), .unset, .unset, .unset, .unset] []))
      refine Go.step (fun t k => XS.iloadN X0.here hx rfl (hb hby d6_11) rfl k) ?_
      show Go p e below _ (s₁.setTop (mkF m 12 #[.val (.int p1), .val (.int p2), .val (.int p3), .val (.int p4), .unset, .unset, .unset, .unset] [(.int p1)]))
      refine Go.step (fun t k => XS.i2l X0.here hx rfl (hb hby d6_12) rfl k) ?_
      show Go p e below _ (s₁.setTop (mkF m 13 #[.val (.int p1), .val (.int p2), .val (.int p3), .val (.int p4), .unset, .unset, .unset, .unset] [(.long (p1.toInt64))]))
      refine Go.step (fun t k => XS.bipush X0.here hx rfl (hb hby d6_13)  k) ?_
      show Go p e below _ (s₁.setTop (mkF m 15 #[.val (.int p1), .val (.int p2), .val (.int p3), .val (.int p4), .unset, .unset, .unset, .unset] [(.int (32 : Int32)), (.long (p1.toInt64))]))
      refine Go.step (fun t k => XS.lshl X0.here hx rfl (hb hby d6_15) rfl k) ?_
      show Go p e below _ (s₁.setTop (mkF m 16 #[.val (.int p1), .val (.int p2), .val (.int p3), .val (.int p4), .unset, .unset, .unset, .unset] [(.long ((p1.toInt64) <<< ((32 : Int32) &&& 0x3f).toInt64))]))
      refine Go.step (fun t k => XS.iloadN X0.here hx rfl (hb hby d6_16) rfl k) ?_
      show Go p e below _ (s₁.setTop (mkF m 17 #[.val (.int p1), .val (.int p2), .val (.int p3), .val (.int p4), .unset, .unset, .unset, .unset] [(.int p4), (.long ((p1.toInt64) <<< ((32 : Int32) &&& 0x3f).toInt64))]))
      refine Go.step (fun t k => XS.i2l X0.here hx rfl (hb hby d6_17) rfl k) ?_
      show Go p e below _ (s₁.setTop (mkF m 18 #[.val (.int p1), .val (.int p2), .val (.int p3), .val (.int p4), .unset, .unset, .unset, .unset] [(.long (p4.toInt64)), (.long ((p1.toInt64) <<< ((32 : Int32) &&& 0x3f).toInt64))]))
      refine Go.step (fun t (k : Steps p.tables e below (s₁.setTop (mkF m 19 #[.val (.int p1), .val (.int p2), .val (.int p3), .val (.int p4), .unset, .unset, .unset, .unset] [(.long (((p1.toInt64) <<< ((32 : Int32) &&& 0x3f).toInt64) % (p4.toInt64)))])) t) => XS.lrem X0.here hx rfl (hb hby d6_18) rfl hnz18 (by rw [lrem_mod]; exact k)) ?_
      show Go p e below _ (s₁.setTop (mkF m 19 #[.val (.int p1), .val (.int p2), .val (.int p3), .val (.int p4), .unset, .unset, .unset, .unset] [(.long (((p1.toInt64) <<< ((32 : Int32) &&& 0x3f).toInt64) % (p4.toInt64)))]))
      obtain ⟨v7, hv7⟩ : ∃ z : Int64, z = (((p1.toInt64) <<< ((32 : Int32) &&& 0x3f).toInt64) % (p4.toInt64)) := ⟨_, rfl⟩
      rw [← hv7]
      show Go p e below _ (s₁.setTop (mkF m 19 #[.val (.int p1), .val (.int p2), .val (.int p3), .val (.int p4), .unset, .unset, .unset, .unset] [(.long v7)]))
      refine Go.step (fun t k => XS.lstore X0.here hx rfl (hb hby d6_19) rfl (l' := #[.val (.int p1), .val (.int p2), .val (.int p3), .val (.int p4), .val (.long v7), .second, .unset, .unset]) rfl k) ?_
      show Go p e below _ (s₁.setTop (mkF m 21 #[.val (.int p1), .val (.int p2), .val (.int p3), .val (.int p4), .val (.long v7), .second, .unset, .unset] []))
      refine Go.step (fun t k => XS.iloadN X0.here hx rfl (hb hby d6_21) rfl k) ?_
      show Go p e below _ (s₁.setTop (mkF m 22 #[.val (.int p1), .val (.int p2), .val (.int p3), .val (.int p4), .val (.long v7), .second, .unset, .unset] [(.int p2)]))
      refine Go.step (fun t k => XS.i2l X0.here hx rfl (hb hby d6_22) rfl k) ?_
      show Go p e below _ (s₁.setTop (mkF m 23 #[.val (.int p1), .val (.int p2), .val (.int p3), .val (.int p4), .val (.long v7), .second, .unset, .unset] [(.long (p2.toInt64))]))
      refine Go.step (fun t k => XS.iloadN X0.here hx rfl (hb hby d6_23) rfl k) ?_
      show Go p e below _ (s₁.setTop (mkF m 24 #[.val (.int p1), .val (.int p2), .val (.int p3), .val (.int p4), .val (.long v7), .second, .unset, .unset] [(.int p3), (.long (p2.toInt64))]))
      refine Go.step (fun t k => XS.i2l X0.here hx rfl (hb hby d6_24) rfl k) ?_
      show Go p e below _ (s₁.setTop (mkF m 25 #[.val (.int p1), .val (.int p2), .val (.int p3), .val (.int p4), .val (.long v7), .second, .unset, .unset] [(.long (p3.toInt64)), (.long (p2.toInt64))]))
      refine Go.step (fun t k => XS.lmul X0.here hx rfl (hb hby d6_25) rfl k) ?_
      show Go p e below _ (s₁.setTop (mkF m 26 #[.val (.int p1), .val (.int p2), .val (.int p3), .val (.int p4), .val (.long v7), .second, .unset, .unset] [(.long ((p2.toInt64) * (p3.toInt64)))]))
      refine Go.step (fun t k => XS.iloadN X0.here hx rfl (hb hby d6_26) rfl k) ?_
      show Go p e below _ (s₁.setTop (mkF m 27 #[.val (.int p1), .val (.int p2), .val (.int p3), .val (.int p4), .val (.long v7), .second, .unset, .unset] [(.int p4), (.long ((p2.toInt64) * (p3.toInt64)))]))
      refine Go.step (fun t k => XS.i2l X0.here hx rfl (hb hby d6_27) rfl k) ?_
      show Go p e below _ (s₁.setTop (mkF m 28 #[.val (.int p1), .val (.int p2), .val (.int p3), .val (.int p4), .val (.long v7), .second, .unset, .unset] [(.long (p4.toInt64)), (.long ((p2.toInt64) * (p3.toInt64)))]))
      refine Go.step (fun t (k : Steps p.tables e below (s₁.setTop (mkF m 29 #[.val (.int p1), .val (.int p2), .val (.int p3), .val (.int p4), .val (.long v7), .second, .unset, .unset] [(.long (((p2.toInt64) * (p3.toInt64)) % (p4.toInt64)))])) t) => XS.lrem X0.here hx rfl (hb hby d6_28) rfl hnz28 (by rw [lrem_mod]; exact k)) ?_
      show Go p e below _ (s₁.setTop (mkF m 29 #[.val (.int p1), .val (.int p2), .val (.int p3), .val (.int p4), .val (.long v7), .second, .unset, .unset] [(.long (((p2.toInt64) * (p3.toInt64)) % (p4.toInt64)))]))
      obtain ⟨v8, hv8⟩ : ∃ z : Int64, z = (((p2.toInt64) * (p3.toInt64)) % (p4.toInt64)) := ⟨_, rfl⟩
      rw [← hv8]
      show Go p e below _ (s₁.setTop (mkF m 29 #[.val (.int p1), .val (.int p2), .val (.int p3), .val (.int p4), .val (.long v7), .second, .unset, .unset] [(.long v8)]))
      refine Go.step (fun t k => XS.lstore X0.here hx rfl (hb hby d6_29) rfl (l' := #[.val (.int p1), .val (.int p2), .val (.int p3), .val (.int p4), .val (.long v7), .second, .val (.long v8), .second]) rfl k) ?_
      show Go p e below _ (s₁.setTop (mkF m 31 #[.val (.int p1), .val (.int p2), .val (.int p3), .val (.int p4), .val (.long v7), .second, .val (.long v8), .second] []))
      refine Go.step (fun t k => XS.lload X0.here hx rfl (hb hby d6_31) rfl k) ?_
      show Go p e below _ (s₁.setTop (mkF m 33 #[.val (.int p1), .val (.int p2), .val (.int p3), .val (.int p4), .val (.long v7), .second, .val (.long v8), .second] [(.long v7)]))
      refine Go.step (fun t k => XS.lload X0.here hx rfl (hb hby d6_33) rfl k) ?_
      show Go p e below _ (s₁.setTop (mkF m 35 #[.val (.int p1), .val (.int p2), .val (.int p3), .val (.int p4), .val (.long v7), .second, .val (.long v8), .second] [(.long v8), (.long v7)]))
      refine Go.step (fun t k => XS.lcmp X0.here hx rfl (hb hby d6_35) rfl k) ?_
      show Go p e below _ (s₁.setTop (mkF m 36 #[.val (.int p1), .val (.int p2), .val (.int p3), .val (.int p4), .val (.long v7), .second, .val (.long v8), .second] [(.int (lcmpW v7 v8))]))
      by_cases hc9 : v7 = v8
      · refine Go.step (fun t k => XS.ifNo X0.here hx rfl (hb hby d6_36) rfl ((if0 _ _).trans (teq ((lw_eq _ _).mpr hc9)).2) k) ?_
        show Go p e below _ (s₁.setTop (mkF m 39 #[.val (.int p1), .val (.int p2), .val (.int p3), .val (.int p4), .val (.long v7), .second, .val (.long v8), .second] []))
        refine Go.step (fun t k => XS.iconst X0.here hx rfl (hb hby d6_39)  k) ?_
        show Go p e below _ (s₁.setTop (mkF m 40 #[.val (.int p1), .val (.int p2), .val (.int p3), .val (.int p4), .val (.long v7), .second, .val (.long v8), .second] [(.int (1 : Int32))]))
        refine Go.step (fun t k => XS.goto X0.here hx rfl (pc0 := 40) (pc' := 44) rfl (hb hby d6_40) (by decide) (by decide) k) ?_
        show Go p e below _ (s₁.setTop (mkF m 44 #[.val (.int p1), .val (.int p2), .val (.int p3), .val (.int p4), .val (.long v7), .second, .val (.long v8), .second] [(.int (1 : Int32))]))
        subst hv8
        subst hv7
        exact retGN X0 hx Bd.notSynchronized Bd.returns (t := .boolean) (by simp) (z' := (1 : Int32)) rfl (hb hby d6_44) ⟨by first | (simp only [f6, if_neg hc5, if_pos hc6, if_pos hc9]; done) | rfl | (simp [f6, if_neg hc5, if_pos hc6, if_pos hc9]; done), N0, e0⟩ (by decide) (by decide)
      · refine Go.step (fun t k => XS.ifYes X0.here hx rfl (pc0 := 36) (pc' := 43) rfl (hb hby d6_36) rfl ((if0 _ _).trans (feq (fun q => hc9 ((lw_eq _ _).mp q))).2) (by decide) (by decide) k) ?_
        show Go p e below _ (s₁.setTop (mkF m 43 #[.val (.int p1), .val (.int p2), .val (.int p3), .val (.int p4), .val (.long v7), .second, .val (.long v8), .second] []))
        refine Go.step (fun t k => XS.iconst X0.here hx rfl (hb hby d6_43)  k) ?_
        show Go p e below _ (s₁.setTop (mkF m 44 #[.val (.int p1), .val (.int p2), .val (.int p3), .val (.int p4), .val (.long v7), .second, .val (.long v8), .second] [(.int (0 : Int32))]))
        subst hv8
        subst hv7
        exact retGN X0 hx Bd.notSynchronized Bd.returns (t := .boolean) (by simp) (z' := (0 : Int32)) rfl (hb hby d6_44) ⟨by first | (simp only [f6, if_neg hc5, if_pos hc6, if_neg hc9]; done) | rfl | (simp [f6, if_neg hc5, if_pos hc6, if_neg hc9]; done), N0, e0⟩ (by decide) (by decide)
    · refine Go.step (fun t k => XS.icmpNo X0.here hx rfl (hb hby d6_6) rfl (flt hc6).1 k) ?_
      show Go p e below _ (s₁.setTop (mkF m 9 #[.val (.int p1), .val (.int p2), .val (.int p3), .val (.int p4), .unset, .unset, .unset, .unset] []))
      refine Go.step (fun t k => XS.iconst X0.here hx rfl (hb hby d6_9)  k) ?_
      show Go p e below _ (s₁.setTop (mkF m 10 #[.val (.int p1), .val (.int p2), .val (.int p3), .val (.int p4), .unset, .unset, .unset, .unset] [(.int (0 : Int32))]))
      exact retGN X0 hx Bd.notSynchronized Bd.returns (t := .boolean) (by simp) (z' := (0 : Int32)) rfl (hb hby d6_10) ⟨by first | (simp only [f6, if_neg hc5, if_neg hc6]; done) | rfl | (simp [f6, if_neg hc5, if_neg hc6]; done), N0, e0⟩ (by decide) (by decide)

theorem own_dead (x v : Int32) (hv : v = (x &&& (2147483647 : Int32)) % (3 : Int32)) (h0 : ¬ v = 0) (h1 : ¬ v = 1) (h2 : ¬ v = 2) : False := by
  have h := c_and x 2147483647 (by decide)
  have m := modI (x := x &&& 2147483647) (y := 3) 3 (by decide) h.1
  rw [← hv] at m
  simp only [← Int32.toInt_inj, show (0 : Int32).toInt = 0 by decide, show (1 : Int32).toInt = 1 by decide, show (2 : Int32).toInt = 2 by decide] at h0 h1 h2
  omega

theorem pd_2 : parseMethodDescriptor "(II[I[I)V" = some ⟨[.int, .int, (.array .int), (.array .int)], none⟩ := by decide +kernel
theorem pd_3 : parseMethodDescriptor "([I[I)V" = some ⟨[(.array .int), (.array .int)], none⟩ := by decide +kernel
theorem pd_4 : parseMethodDescriptor "(IIII)Z" = some ⟨[.int, .int, .int, .int], some .boolean⟩ := by decide +kernel
theorem ef_0 (m : MethodId) (p1 : Int32) (p2 : Int32) (p3 : Int32) (p4 : Int32) (p5 : Int32) (p6 : Int32) : entryFrame m #[(.int p1), (.int p2), (.int p3), (.int p4), (.int p5), (.int p6)] maxLocals = mkF m 0 #[.val (.int p1), .val (.int p2), .val (.int p3), .val (.int p4), .val (.int p5), .val (.int p6), .unset, .unset, .unset, .unset, .unset, .unset, .unset, .unset, .unset, .unset, .unset] [] := by first | (simp [entryFrame, mkF, argsToLocals, Value.category, maxLocals]; done) | rfl
def f0 (p1 : Int32) (p2 : Int32) (p3 : Int32) (p4 : Int32) (p5 : Int32) (p6 : Int32) : Int32 := (if ((p1 &&& (2147483647 : Int32)) % (3 : Int32)) = (0 : Int32) then (if (f6 ((upA (upA (upA (upA (upA (fun _ => (0 : Int32)) 0 ((p2 &&& (2147483647 : Int32)) % (2013265921 : Int32))) 1 ((p4 &&& (2147483647 : Int32)) % (2013265921 : Int32))) 2 p6) 0 (mpF ((upA (upA (upA (fun _ => (0 : Int32)) 0 ((p2 &&& (2147483647 : Int32)) % (2013265921 : Int32))) 1 ((p4 &&& (2147483647 : Int32)) % (2013265921 : Int32))) 2 p6) 0) ((upA (upA (upA (fun _ => (0 : Int32)) 0 ((p3 &&& (2147483647 : Int32)) % (2013265921 : Int32))) 1 ((p5 &&& (2147483647 : Int32)) % (2013265921 : Int32))) 2 p6) 0) (2013265921 : Int32) (2013265919 : Int32))) 1 (mpF ((upA (upA (upA (fun _ => (0 : Int32)) 0 ((p2 &&& (2147483647 : Int32)) % (2013265921 : Int32))) 1 ((p4 &&& (2147483647 : Int32)) % (2013265921 : Int32))) 2 p6) 1) ((upA (upA (upA (fun _ => (0 : Int32)) 0 ((p3 &&& (2147483647 : Int32)) % (2013265921 : Int32))) 1 ((p5 &&& (2147483647 : Int32)) % (2013265921 : Int32))) 2 p6) 1) (2013265921 : Int32) (2013265919 : Int32))) 0) ((p2 &&& (2147483647 : Int32)) % (2013265921 : Int32)) ((p3 &&& (2147483647 : Int32)) % (2013265921 : Int32)) (2013265921 : Int32)) = (0 : Int32) then (0 : Int32) else (if (f6 ((upA (upA (upA (upA (upA (fun _ => (0 : Int32)) 0 ((p2 &&& (2147483647 : Int32)) % (2013265921 : Int32))) 1 ((p4 &&& (2147483647 : Int32)) % (2013265921 : Int32))) 2 p6) 0 (mpF ((upA (upA (upA (fun _ => (0 : Int32)) 0 ((p2 &&& (2147483647 : Int32)) % (2013265921 : Int32))) 1 ((p4 &&& (2147483647 : Int32)) % (2013265921 : Int32))) 2 p6) 0) ((upA (upA (upA (fun _ => (0 : Int32)) 0 ((p3 &&& (2147483647 : Int32)) % (2013265921 : Int32))) 1 ((p5 &&& (2147483647 : Int32)) % (2013265921 : Int32))) 2 p6) 0) (2013265921 : Int32) (2013265919 : Int32))) 1 (mpF ((upA (upA (upA (fun _ => (0 : Int32)) 0 ((p2 &&& (2147483647 : Int32)) % (2013265921 : Int32))) 1 ((p4 &&& (2147483647 : Int32)) % (2013265921 : Int32))) 2 p6) 1) ((upA (upA (upA (fun _ => (0 : Int32)) 0 ((p3 &&& (2147483647 : Int32)) % (2013265921 : Int32))) 1 ((p5 &&& (2147483647 : Int32)) % (2013265921 : Int32))) 2 p6) 1) (2013265921 : Int32) (2013265919 : Int32))) 1) ((p4 &&& (2147483647 : Int32)) % (2013265921 : Int32)) ((p5 &&& (2147483647 : Int32)) % (2013265921 : Int32)) (2013265921 : Int32)) = (0 : Int32) then (0 : Int32) else (if ((upA (upA (upA (upA (upA (fun _ => (0 : Int32)) 0 ((p2 &&& (2147483647 : Int32)) % (2013265921 : Int32))) 1 ((p4 &&& (2147483647 : Int32)) % (2013265921 : Int32))) 2 p6) 0 (mpF ((upA (upA (upA (fun _ => (0 : Int32)) 0 ((p2 &&& (2147483647 : Int32)) % (2013265921 : Int32))) 1 ((p4 &&& (2147483647 : Int32)) % (2013265921 : Int32))) 2 p6) 0) ((upA (upA (upA (fun _ => (0 : Int32)) 0 ((p3 &&& (2147483647 : Int32)) % (2013265921 : Int32))) 1 ((p5 &&& (2147483647 : Int32)) % (2013265921 : Int32))) 2 p6) 0) (2013265921 : Int32) (2013265919 : Int32))) 1 (mpF ((upA (upA (upA (fun _ => (0 : Int32)) 0 ((p2 &&& (2147483647 : Int32)) % (2013265921 : Int32))) 1 ((p4 &&& (2147483647 : Int32)) % (2013265921 : Int32))) 2 p6) 1) ((upA (upA (upA (fun _ => (0 : Int32)) 0 ((p3 &&& (2147483647 : Int32)) % (2013265921 : Int32))) 1 ((p5 &&& (2147483647 : Int32)) % (2013265921 : Int32))) 2 p6) 1) (2013265921 : Int32) (2013265919 : Int32))) 2) = p6 then (1 : Int32) else (0 : Int32)))) else (if ((p1 &&& (2147483647 : Int32)) % (3 : Int32)) = (1 : Int32) then (if (f6 ((upA (upA (upA (upA (upA (fun _ => (0 : Int32)) 0 ((p2 &&& (2147483647 : Int32)) % (1811939329 : Int32))) 1 ((p4 &&& (2147483647 : Int32)) % (1811939329 : Int32))) 2 p6) 0 (mpF ((upA (upA (upA (fun _ => (0 : Int32)) 0 ((p2 &&& (2147483647 : Int32)) % (1811939329 : Int32))) 1 ((p4 &&& (2147483647 : Int32)) % (1811939329 : Int32))) 2 p6) 0) ((upA (upA (upA (fun _ => (0 : Int32)) 0 ((p3 &&& (2147483647 : Int32)) % (1811939329 : Int32))) 1 ((p5 &&& (2147483647 : Int32)) % (1811939329 : Int32))) 2 p6) 0) (1811939329 : Int32) (1811939327 : Int32))) 1 (mpF ((upA (upA (upA (fun _ => (0 : Int32)) 0 ((p2 &&& (2147483647 : Int32)) % (1811939329 : Int32))) 1 ((p4 &&& (2147483647 : Int32)) % (1811939329 : Int32))) 2 p6) 1) ((upA (upA (upA (fun _ => (0 : Int32)) 0 ((p3 &&& (2147483647 : Int32)) % (1811939329 : Int32))) 1 ((p5 &&& (2147483647 : Int32)) % (1811939329 : Int32))) 2 p6) 1) (1811939329 : Int32) (1811939327 : Int32))) 0) ((p2 &&& (2147483647 : Int32)) % (1811939329 : Int32)) ((p3 &&& (2147483647 : Int32)) % (1811939329 : Int32)) (1811939329 : Int32)) = (0 : Int32) then (0 : Int32) else (if (f6 ((upA (upA (upA (upA (upA (fun _ => (0 : Int32)) 0 ((p2 &&& (2147483647 : Int32)) % (1811939329 : Int32))) 1 ((p4 &&& (2147483647 : Int32)) % (1811939329 : Int32))) 2 p6) 0 (mpF ((upA (upA (upA (fun _ => (0 : Int32)) 0 ((p2 &&& (2147483647 : Int32)) % (1811939329 : Int32))) 1 ((p4 &&& (2147483647 : Int32)) % (1811939329 : Int32))) 2 p6) 0) ((upA (upA (upA (fun _ => (0 : Int32)) 0 ((p3 &&& (2147483647 : Int32)) % (1811939329 : Int32))) 1 ((p5 &&& (2147483647 : Int32)) % (1811939329 : Int32))) 2 p6) 0) (1811939329 : Int32) (1811939327 : Int32))) 1 (mpF ((upA (upA (upA (fun _ => (0 : Int32)) 0 ((p2 &&& (2147483647 : Int32)) % (1811939329 : Int32))) 1 ((p4 &&& (2147483647 : Int32)) % (1811939329 : Int32))) 2 p6) 1) ((upA (upA (upA (fun _ => (0 : Int32)) 0 ((p3 &&& (2147483647 : Int32)) % (1811939329 : Int32))) 1 ((p5 &&& (2147483647 : Int32)) % (1811939329 : Int32))) 2 p6) 1) (1811939329 : Int32) (1811939327 : Int32))) 1) ((p4 &&& (2147483647 : Int32)) % (1811939329 : Int32)) ((p5 &&& (2147483647 : Int32)) % (1811939329 : Int32)) (1811939329 : Int32)) = (0 : Int32) then (0 : Int32) else (if ((upA (upA (upA (upA (upA (fun _ => (0 : Int32)) 0 ((p2 &&& (2147483647 : Int32)) % (1811939329 : Int32))) 1 ((p4 &&& (2147483647 : Int32)) % (1811939329 : Int32))) 2 p6) 0 (mpF ((upA (upA (upA (fun _ => (0 : Int32)) 0 ((p2 &&& (2147483647 : Int32)) % (1811939329 : Int32))) 1 ((p4 &&& (2147483647 : Int32)) % (1811939329 : Int32))) 2 p6) 0) ((upA (upA (upA (fun _ => (0 : Int32)) 0 ((p3 &&& (2147483647 : Int32)) % (1811939329 : Int32))) 1 ((p5 &&& (2147483647 : Int32)) % (1811939329 : Int32))) 2 p6) 0) (1811939329 : Int32) (1811939327 : Int32))) 1 (mpF ((upA (upA (upA (fun _ => (0 : Int32)) 0 ((p2 &&& (2147483647 : Int32)) % (1811939329 : Int32))) 1 ((p4 &&& (2147483647 : Int32)) % (1811939329 : Int32))) 2 p6) 1) ((upA (upA (upA (fun _ => (0 : Int32)) 0 ((p3 &&& (2147483647 : Int32)) % (1811939329 : Int32))) 1 ((p5 &&& (2147483647 : Int32)) % (1811939329 : Int32))) 2 p6) 1) (1811939329 : Int32) (1811939327 : Int32))) 2) = p6 then (1 : Int32) else (0 : Int32)))) else (if (f6 ((upA (upA (upA (upA (upA (fun _ => (0 : Int32)) 0 ((p2 &&& (2147483647 : Int32)) % (469762049 : Int32))) 1 ((p4 &&& (2147483647 : Int32)) % (469762049 : Int32))) 2 p6) 0 (mpF ((upA (upA (upA (fun _ => (0 : Int32)) 0 ((p2 &&& (2147483647 : Int32)) % (469762049 : Int32))) 1 ((p4 &&& (2147483647 : Int32)) % (469762049 : Int32))) 2 p6) 0) ((upA (upA (upA (fun _ => (0 : Int32)) 0 ((p3 &&& (2147483647 : Int32)) % (469762049 : Int32))) 1 ((p5 &&& (2147483647 : Int32)) % (469762049 : Int32))) 2 p6) 0) (469762049 : Int32) (469762047 : Int32))) 1 (mpF ((upA (upA (upA (fun _ => (0 : Int32)) 0 ((p2 &&& (2147483647 : Int32)) % (469762049 : Int32))) 1 ((p4 &&& (2147483647 : Int32)) % (469762049 : Int32))) 2 p6) 1) ((upA (upA (upA (fun _ => (0 : Int32)) 0 ((p3 &&& (2147483647 : Int32)) % (469762049 : Int32))) 1 ((p5 &&& (2147483647 : Int32)) % (469762049 : Int32))) 2 p6) 1) (469762049 : Int32) (469762047 : Int32))) 0) ((p2 &&& (2147483647 : Int32)) % (469762049 : Int32)) ((p3 &&& (2147483647 : Int32)) % (469762049 : Int32)) (469762049 : Int32)) = (0 : Int32) then (0 : Int32) else (if (f6 ((upA (upA (upA (upA (upA (fun _ => (0 : Int32)) 0 ((p2 &&& (2147483647 : Int32)) % (469762049 : Int32))) 1 ((p4 &&& (2147483647 : Int32)) % (469762049 : Int32))) 2 p6) 0 (mpF ((upA (upA (upA (fun _ => (0 : Int32)) 0 ((p2 &&& (2147483647 : Int32)) % (469762049 : Int32))) 1 ((p4 &&& (2147483647 : Int32)) % (469762049 : Int32))) 2 p6) 0) ((upA (upA (upA (fun _ => (0 : Int32)) 0 ((p3 &&& (2147483647 : Int32)) % (469762049 : Int32))) 1 ((p5 &&& (2147483647 : Int32)) % (469762049 : Int32))) 2 p6) 0) (469762049 : Int32) (469762047 : Int32))) 1 (mpF ((upA (upA (upA (fun _ => (0 : Int32)) 0 ((p2 &&& (2147483647 : Int32)) % (469762049 : Int32))) 1 ((p4 &&& (2147483647 : Int32)) % (469762049 : Int32))) 2 p6) 1) ((upA (upA (upA (fun _ => (0 : Int32)) 0 ((p3 &&& (2147483647 : Int32)) % (469762049 : Int32))) 1 ((p5 &&& (2147483647 : Int32)) % (469762049 : Int32))) 2 p6) 1) (469762049 : Int32) (469762047 : Int32))) 1) ((p4 &&& (2147483647 : Int32)) % (469762049 : Int32)) ((p5 &&& (2147483647 : Int32)) % (469762049 : Int32)) (469762049 : Int32)) = (0 : Int32) then (0 : Int32) else (if ((upA (upA (upA (upA (upA (fun _ => (0 : Int32)) 0 ((p2 &&& (2147483647 : Int32)) % (469762049 : Int32))) 1 ((p4 &&& (2147483647 : Int32)) % (469762049 : Int32))) 2 p6) 0 (mpF ((upA (upA (upA (fun _ => (0 : Int32)) 0 ((p2 &&& (2147483647 : Int32)) % (469762049 : Int32))) 1 ((p4 &&& (2147483647 : Int32)) % (469762049 : Int32))) 2 p6) 0) ((upA (upA (upA (fun _ => (0 : Int32)) 0 ((p3 &&& (2147483647 : Int32)) % (469762049 : Int32))) 1 ((p5 &&& (2147483647 : Int32)) % (469762049 : Int32))) 2 p6) 0) (469762049 : Int32) (469762047 : Int32))) 1 (mpF ((upA (upA (upA (fun _ => (0 : Int32)) 0 ((p2 &&& (2147483647 : Int32)) % (469762049 : Int32))) 1 ((p4 &&& (2147483647 : Int32)) % (469762049 : Int32))) 2 p6) 1) ((upA (upA (upA (fun _ => (0 : Int32)) 0 ((p3 &&& (2147483647 : Int32)) % (469762049 : Int32))) 1 ((p5 &&& (2147483647 : Int32)) % (469762049 : Int32))) 2 p6) 1) (469762049 : Int32) (469762047 : Int32))) 2) = p6 then (1 : Int32) else (0 : Int32))))))
set_option maxRecDepth 65536 in
set_option maxHeartbeats 40000000 in
theorem rm0 (l : Launch) (Z : State) (a0 : Array Value) (hw : ∀ d ∈ tables_1, d.before a0 Z = true) (ws : List Jvm.Cond) (p1 : Int32) (p2 : Int32) (p3 : Int32) (p4 : Int32) (p5 : Int32) (p6 : Int32) (oP : Addr) (oG : Addr) (h0 : Heap) (n0 : Nat) (Z0 : n0 ≤ h0.size) (S_PRIMES : Sta Z Z.heap "com/example/tinwire/tinwire/json/Transform" "PRIMES" "[I" (.ref oP)) (A_PRIMES : Ary Z Z.heap oP .int 3 (fun i => .int (primT i))) (hO : Old Z n0 h0) (S_GENERATORS : Sta Z Z.heap "com/example/tinwire/tinwire/json/Transform" "GENERATORS" "[I" (.ref oG)) (A_GENERATORS : Ary Z Z.heap oG .int 3 (fun i => .int (genT i))) :
    MetFree l x (head1 (Jvm.Cond.code x code maxLocals ret :: ws) room_1) (fun a U => a = #[(.int p1), (.int p2), (.int p3), (.int p4), (.int p5), (.int p6)] ∧ Z.Warmed39 U.vm ∧ U.heap = h0) (fun _ _ _ _ _ => True) (fun _ U o U' => ∃ v L, o = .returned v ∧ QL (.int (f0 p1 p2 p3 p4 p5 p6)) n0 v U'.heap L ∧ FrameEnd U o U' L room_1.cells room_1.slots) := by
  refine MetFree.of_bodySF (plainFor_of_name pn_1) hisR ?_
  intro p e s m args below meth c s₁ Bd hml0 hP hK
  obtain ⟨rfl, hZ, hh⟩ := hP
  have hx := Bd.exec
  have hby := Bd.bytes
  have hml : c.maxLocals = 17 := hml0
  have hown : s.vm.findClass "com/example/tinwire/tinwire/json/TransformMultiplyPointwisePinLaw" = some m.cls := findClass_of_methodNamed Bd.named
  have hnm := (name_of_methodNamed Bd.named Bd.method).1
  have X0 : Stand p l e room_1 s m #[(.int p1), (.int p2), (.int p3), (.int p4), (.int p5), (.int p6)] below meth c s₁ [] 0 0 := Stand.of_body Bd
  have e0 : s₁.heap = h0 := by rw [← hh, Bd.state]; rfl
  have N0 := Fr.nil n0
  refine Go.done (Go.step (fun t k => castTop (ef_0 m p1 p2 p3 p4 p5 p6) k) ?_)
  have KK0 : Keep h0 h0 [] := Keep.refl _ _
  show Go p e below _ (s₁.setTop (mkF m 0 #[.val (.int p1), .val (.int p2), .val (.int p3), .val (.int p4), .val (.int p5), .val (.int p6), .unset, .unset, .unset, .unset, .unset, .unset, .unset, .unset, .unset, .unset, .unset] []))
  refine Go.step (fun t k => XS.iloadN X0.here hx rfl (hb hby at_0) rfl k) ?_
  show Go p e below _ (s₁.setTop (mkF m 1 #[.val (.int p1), .val (.int p2), .val (.int p3), .val (.int p4), .val (.int p5), .val (.int p6), .unset, .unset, .unset, .unset, .unset, .unset, .unset, .unset, .unset, .unset, .unset] [(.int p1)]))
  refine Go.step (X0.ldcInt hx hown (mvT hZ (hw _ (List.mem_of_getElem? (i := 0) rfl))) (g := (mkF m 1 #[.val (.int p1), .val (.int p2), .val (.int p3), .val (.int p4), .val (.int p5), .val (.int p6), .unset, .unset, .unset, .unset, .unset, .unset, .unset, .unset, .unset, .unset, .unset] [(.int p1)])) rfl (hb hby at_1)) ?_
  show Go p e below _ (s₁.setTop (mkF m 3 #[.val (.int p1), .val (.int p2), .val (.int p3), .val (.int p4), .val (.int p5), .val (.int p6), .unset, .unset, .unset, .unset, .unset, .unset, .unset, .unset, .unset, .unset, .unset] [(.int (2147483647 : Int32)), (.int p1)]))
  refine Go.step (fun t k => XS.iand X0.here hx rfl (hb hby at_3) rfl k) ?_
  show Go p e below _ (s₁.setTop (mkF m 4 #[.val (.int p1), .val (.int p2), .val (.int p3), .val (.int p4), .val (.int p5), .val (.int p6), .unset, .unset, .unset, .unset, .unset, .unset, .unset, .unset, .unset, .unset, .unset] [(.int (p1 &&& (2147483647 : Int32)))]))
  refine Go.step (fun t k => XS.iconst X0.here hx rfl (hb hby at_4)  k) ?_
  show Go p e below _ (s₁.setTop (mkF m 5 #[.val (.int p1), .val (.int p2), .val (.int p3), .val (.int p4), .val (.int p5), .val (.int p6), .unset, .unset, .unset, .unset, .unset, .unset, .unset, .unset, .unset, .unset, .unset] [(.int (3 : Int32)), (.int (p1 &&& (2147483647 : Int32)))]))
  refine Go.step (fun t (k : Steps p.tables e below (s₁.setTop (mkF m 6 #[.val (.int p1), .val (.int p2), .val (.int p3), .val (.int p4), .val (.int p5), .val (.int p6), .unset, .unset, .unset, .unset, .unset, .unset, .unset, .unset, .unset, .unset, .unset] [(.int ((p1 &&& (2147483647 : Int32)) % (3 : Int32)))])) t) => XS.irem X0.here hx rfl (hb hby at_5) rfl (by decide) (by rw [remI]; exact k)) ?_
  show Go p e below _ (s₁.setTop (mkF m 6 #[.val (.int p1), .val (.int p2), .val (.int p3), .val (.int p4), .val (.int p5), .val (.int p6), .unset, .unset, .unset, .unset, .unset, .unset, .unset, .unset, .unset, .unset, .unset] [(.int ((p1 &&& (2147483647 : Int32)) % (3 : Int32)))]))
  obtain ⟨v7, hv7⟩ : ∃ z : Int32, z = ((p1 &&& (2147483647 : Int32)) % (3 : Int32)) := ⟨_, rfl⟩
  rw [← hv7]
  show Go p e below _ (s₁.setTop (mkF m 6 #[.val (.int p1), .val (.int p2), .val (.int p3), .val (.int p4), .val (.int p5), .val (.int p6), .unset, .unset, .unset, .unset, .unset, .unset, .unset, .unset, .unset, .unset, .unset] [(.int v7)]))
  refine Go.step (fun t k => XS.istore X0.here hx rfl (hb hby at_6) rfl (l' := #[.val (.int p1), .val (.int p2), .val (.int p3), .val (.int p4), .val (.int p5), .val (.int p6), .val (.int v7), .unset, .unset, .unset, .unset, .unset, .unset, .unset, .unset, .unset, .unset]) rfl k) ?_
  show Go p e below _ (s₁.setTop (mkF m 8 #[.val (.int p1), .val (.int p2), .val (.int p3), .val (.int p4), .val (.int p5), .val (.int p6), .val (.int v7), .unset, .unset, .unset, .unset, .unset, .unset, .unset, .unset, .unset, .unset] []))
  by_cases hc8 : v7 = (0 : Int32)
  · rw [hc8]
    show Go p e below _ (s₁.setTop (mkF m 8 #[.val (.int p1), .val (.int p2), .val (.int p3), .val (.int p4), .val (.int p5), .val (.int p6), .val (.int (0 : Int32)), .unset, .unset, .unset, .unset, .unset, .unset, .unset, .unset, .unset, .unset] []))
    obtain ⟨T9, X9, e9, st9⟩ := getS2 X0 hx hZ hown (host := "") (Or.inl (hw _ (List.mem_of_getElem? (i := 1) rfl))) Via.refl e0 (S_PRIMES.ext hO.2) (g := (mkF m 8 #[.val (.int p1), .val (.int p2), .val (.int p3), .val (.int p4), .val (.int p5), .val (.int p6), .val (.int (0 : Int32)), .unset, .unset, .unset, .unset, .unset, .unset, .unset, .unset, .unset, .unset] [])) rfl (hb hby at_8)
    refine Go.step st9 ?_
    show Go p e below _ (T9.setTop (mkF m 11 #[.val (.int p1), .val (.int p2), .val (.int p3), .val (.int p4), .val (.int p5), .val (.int p6), .val (.int (0 : Int32)), .unset, .unset, .unset, .unset, .unset, .unset, .unset, .unset, .unset, .unset] [(.ref oP)]))
    refine Go.step (fun t k => XS.iload X9.here hx rfl (hb hby at_11) rfl k) ?_
    show Go p e below _ (T9.setTop (mkF m 13 #[.val (.int p1), .val (.int p2), .val (.int p3), .val (.int p4), .val (.int p5), .val (.int p6), .val (.int (0 : Int32)), .unset, .unset, .unset, .unset, .unset, .unset, .unset, .unset, .unset, .unset] [(.int (0 : Int32)), (.ref oP)]))
    refine Go.step (ldI X9 hx hZ e9 (A_PRIMES.ext hO.2) (j := (0 : Int32)) (by decide) (by decide) (g := (mkF m 13 #[.val (.int p1), .val (.int p2), .val (.int p3), .val (.int p4), .val (.int p5), .val (.int p6), .val (.int (0 : Int32)), .unset, .unset, .unset, .unset, .unset, .unset, .unset, .unset, .unset, .unset] [(.int (0 : Int32)), (.ref oP)])) rfl rfl (hb hby at_13)) ?_
    show Go p e below _ (T9.setTop (mkF m 14 #[.val (.int p1), .val (.int p2), .val (.int p3), .val (.int p4), .val (.int p5), .val (.int p6), .val (.int (0 : Int32)), .unset, .unset, .unset, .unset, .unset, .unset, .unset, .unset, .unset, .unset] [(.int (2013265921 : Int32))]))
    refine Go.step (fun t k => XS.istore X9.here hx rfl (hb hby at_14) rfl (l' := #[.val (.int p1), .val (.int p2), .val (.int p3), .val (.int p4), .val (.int p5), .val (.int p6), .val (.int (0 : Int32)), .val (.int (2013265921 : Int32)), .unset, .unset, .unset, .unset, .unset, .unset, .unset, .unset, .unset]) rfl k) ?_
    show Go p e below _ (T9.setTop (mkF m 16 #[.val (.int p1), .val (.int p2), .val (.int p3), .val (.int p4), .val (.int p5), .val (.int p6), .val (.int (0 : Int32)), .val (.int (2013265921 : Int32)), .unset, .unset, .unset, .unset, .unset, .unset, .unset, .unset, .unset] []))
    refine Go.step (fun t k => XS.iconst X9.here hx rfl (hb hby at_16)  k) ?_
    show Go p e below _ (T9.setTop (mkF m 17 #[.val (.int p1), .val (.int p2), .val (.int p3), .val (.int p4), .val (.int p5), .val (.int p6), .val (.int (0 : Int32)), .val (.int (2013265921 : Int32)), .unset, .unset, .unset, .unset, .unset, .unset, .unset, .unset, .unset] [(.int (1 : Int32))]))
    obtain ⟨T10, h10, k10, X10, e10, E10, A10, st10⟩ := newP X9 hx hZ (hw _ (List.mem_of_getElem? (i := 4) rfl)) e9 (g := (mkF m 17 #[.val (.int p1), .val (.int p2), .val (.int p3), .val (.int p4), .val (.int p5), .val (.int p6), .val (.int (0 : Int32)), .val (.int (2013265921 : Int32)), .unset, .unset, .unset, .unset, .unset, .unset, .unset, .unset, .unset] [(.int (1 : Int32))])) rfl (hb hby at_17) rfl (by decide) (cap := 1) (by decide) (by decide) (by decide) (by decide)
    obtain ⟨b10, g10⟩ : ∃ z, z = h0.size := ⟨_, rfl⟩
    rw [← g10] at A10 st10
    have g_b10 : n0 ≤ b10 := Nat.le_trans Z0 (Nat.le_of_eq g10.symm)
    have sz_b10 : h0.size ≤ b10 := Nat.le_trans KK0.1 (Nat.le_of_eq g10.symm)
    refine Go.step st10 ?_
    have O10 := hO.ext E10
    have Z10 := Nat.le_trans Z0 E10.1
    have KK10 : Keep h0 h10 [] := KK0.ext E10
    have A_b10_10 : Ary Z h10 b10 .int 1 (fun i => .int ((fun _ => (0 : Int32)) i)) := Ary.mk A10 (by decide) (by decide)
    show Go p e below _ (T10.setTop (mkF m 19 #[.val (.int p1), .val (.int p2), .val (.int p3), .val (.int p4), .val (.int p5), .val (.int p6), .val (.int (0 : Int32)), .val (.int (2013265921 : Int32)), .unset, .unset, .unset, .unset, .unset, .unset, .unset, .unset, .unset] [(.ref b10)]))
    refine Go.step (fun t k => XS.astore X10.here hx rfl (hb hby at_19) rfl rfl (l' := #[.val (.int p1), .val (.int p2), .val (.int p3), .val (.int p4), .val (.int p5), .val (.int p6), .val (.int (0 : Int32)), .val (.int (2013265921 : Int32)), .val (.ref b10), .unset, .unset, .unset, .unset, .unset, .unset, .unset, .unset]) rfl k) ?_
    show Go p e below _ (T10.setTop (mkF m 21 #[.val (.int p1), .val (.int p2), .val (.int p3), .val (.int p4), .val (.int p5), .val (.int p6), .val (.int (0 : Int32)), .val (.int (2013265921 : Int32)), .val (.ref b10), .unset, .unset, .unset, .unset, .unset, .unset, .unset, .unset] []))
    refine Go.step (fun t k => XS.iconst X10.here hx rfl (hb hby at_21)  k) ?_
    show Go p e below _ (T10.setTop (mkF m 22 #[.val (.int p1), .val (.int p2), .val (.int p3), .val (.int p4), .val (.int p5), .val (.int p6), .val (.int (0 : Int32)), .val (.int (2013265921 : Int32)), .val (.ref b10), .unset, .unset, .unset, .unset, .unset, .unset, .unset, .unset] [(.int (1 : Int32))]))
    obtain ⟨T11, h11, k11, X11, e11, E11, A11, st11⟩ := newP X10 hx hZ (hw _ (List.mem_of_getElem? (i := 4) rfl)) e10 (g := (mkF m 22 #[.val (.int p1), .val (.int p2), .val (.int p3), .val (.int p4), .val (.int p5), .val (.int p6), .val (.int (0 : Int32)), .val (.int (2013265921 : Int32)), .val (.ref b10), .unset, .unset, .unset, .unset, .unset, .unset, .unset, .unset] [(.int (1 : Int32))])) rfl (hb hby at_22) rfl (by decide) (cap := 1) (by decide) (by decide) (by decide) (by decide)
    obtain ⟨b11, g11⟩ : ∃ z, z = h10.size := ⟨_, rfl⟩
    rw [← g11] at A11 st11
    have g_b11 : n0 ≤ b11 := Nat.le_trans Z10 (Nat.le_of_eq g11.symm)
    have sz_b11 : h0.size ≤ b11 := Nat.le_trans KK10.1 (Nat.le_of_eq g11.symm)
    have ne_b10_b11 : b10 ≠ b11 := Nat.ne_of_lt (Nat.lt_of_lt_of_le A_b10_10.lt (Nat.le_of_eq g11.symm))
    refine Go.step st11 ?_
    have A_b10_11 := A_b10_10.ext E11
    have O11 := O10.ext E11
    have Z11 := Nat.le_trans Z10 E11.1
    have KK11 : Keep h0 h11 [] := KK10.ext E11
    have A_b11_11 : Ary Z h11 b11 .int 1 (fun i => .int ((fun _ => (0 : Int32)) i)) := Ary.mk A11 (by decide) (by decide)
    show Go p e below _ (T11.setTop (mkF m 24 #[.val (.int p1), .val (.int p2), .val (.int p3), .val (.int p4), .val (.int p5), .val (.int p6), .val (.int (0 : Int32)), .val (.int (2013265921 : Int32)), .val (.ref b10), .unset, .unset, .unset, .unset, .unset, .unset, .unset, .unset] [(.ref b11)]))
    refine Go.step (fun t k => XS.astore X11.here hx rfl (hb hby at_24) rfl rfl (l' := #[.val (.int p1), .val (.int p2), .val (.int p3), .val (.int p4), .val (.int p5), .val (.int p6), .val (.int (0 : Int32)), .val (.int (2013265921 : Int32)), .val (.ref b10), .val (.ref b11), .unset, .unset, .unset, .unset, .unset, .unset, .unset]) rfl k) ?_
    show Go p e below _ (T11.setTop (mkF m 26 #[.val (.int p1), .val (.int p2), .val (.int p3), .val (.int p4), .val (.int p5), .val (.int p6), .val (.int (0 : Int32)), .val (.int (2013265921 : Int32)), .val (.ref b10), .val (.ref b11), .unset, .unset, .unset, .unset, .unset, .unset, .unset] []))
    obtain ⟨T12, h12, X12, e12, E12, A12, D12, -, st12⟩ := newO X11 hx hZ hown (hw _ (List.mem_of_getElem? (i := 5) rfl)) (hw _ (List.mem_of_getElem? (i := 6) rfl)) (hw _ (List.mem_of_getElem? (i := 2) rfl)) e11 (g := (mkF m 26 #[.val (.int p1), .val (.int p2), .val (.int p3), .val (.int p4), .val (.int p5), .val (.int p6), .val (.int (0 : Int32)), .val (.int (2013265921 : Int32)), .val (.ref b10), .val (.ref b11), .unset, .unset, .unset, .unset, .unset, .unset, .unset] [])) rfl (hb hby at_26) (by decide) (by decide)
    obtain ⟨b12, g12⟩ : ∃ z, z = h11.size := ⟨_, rfl⟩
    rw [← g12] at A12 D12 st12
    have g_b12 : n0 ≤ b12 := Nat.le_trans Z11 (Nat.le_of_eq g12.symm)
    have sz_b12 : h0.size ≤ b12 := Nat.le_trans KK11.1 (Nat.le_of_eq g12.symm)
    have ne_b10_b12 : b10 ≠ b12 := Nat.ne_of_lt (Nat.lt_of_lt_of_le A_b10_11.lt (Nat.le_of_eq g12.symm))
    have ne_b11_b12 : b11 ≠ b12 := Nat.ne_of_lt (Nat.lt_of_lt_of_le A_b11_11.lt (Nat.le_of_eq g12.symm))
    refine Go.step st12 ?_
    have A_b10_12 := A_b10_11.ext E12
    have A_b11_12 := A_b11_11.ext E12
    have O12 := O11.ext E12
    have Z12 := Nat.le_trans Z11 E12.1
    have KK12 : Keep h0 h12 [] := KK11.ext E12
    have F_prime_b12 : Fld Z h12 b12 "com/example/tinwire/tinwire/json/Transform" "prime" "I" (.int (0 : Int32)) := D12 (Or.inr (hw _ (List.mem_of_getElem? (i := 15) rfl))) (ty := .int) (by decide)
    have F_length_b12 : Fld Z h12 b12 "com/example/tinwire/tinwire/json/Transform" "length" "I" (.int (0 : Int32)) := D12 (Or.inr (hw _ (List.mem_of_getElem? (i := 17) rfl))) (ty := .int) (by decide)
    have F_roots_b12 : Fld Z h12 b12 "com/example/tinwire/tinwire/json/Transform" "roots" "[I" .null := D12 (Or.inr (hw _ (List.mem_of_getElem? (i := 19) rfl))) (ty := (.array .int)) (by decide)
    have F_rootQuotients_b12 : Fld Z h12 b12 "com/example/tinwire/tinwire/json/Transform" "rootQuotients" "[I" .null := D12 (Or.inr (hw _ (List.mem_of_getElem? (i := 21) rfl))) (ty := (.array .int)) (by decide)
    have F_outerRoot_b12 : Fld Z h12 b12 "com/example/tinwire/tinwire/json/Transform" "outerRoot" "I" (.int (0 : Int32)) := D12 (Or.inr (hw _ (List.mem_of_getElem? (i := 28) rfl))) (ty := .int) (by decide)
    have F_outerRootQuotient_b12 : Fld Z h12 b12 "com/example/tinwire/tinwire/json/Transform" "outerRootQuotient" "I" (.int (0 : Int32)) := D12 (Or.inr (hw _ (List.mem_of_getElem? (i := 33) rfl))) (ty := .int) (by decide)
    have F_negativeInverse_b12 : Fld Z h12 b12 "com/example/tinwire/tinwire/json/Transform" "negativeInverse" "I" (.int (0 : Int32)) := D12 (Or.inr (hw _ (List.mem_of_getElem? (i := 35) rfl))) (ty := .int) (by decide)
    have F_scale_b12 : Fld Z h12 b12 "com/example/tinwire/tinwire/json/Transform" "scale" "I" (.int (0 : Int32)) := D12 (Or.inr (hw _ (List.mem_of_getElem? (i := 39) rfl))) (ty := .int) (by decide)
    have F_scaleQuotient_b12 : Fld Z h12 b12 "com/example/tinwire/tinwire/json/Transform" "scaleQuotient" "I" (.int (0 : Int32)) := D12 (Or.inr (hw _ (List.mem_of_getElem? (i := 41) rfl))) (ty := .int) (by decide)
    show Go p e below _ (T12.setTop (mkF m 29 #[.val (.int p1), .val (.int p2), .val (.int p3), .val (.int p4), .val (.int p5), .val (.int p6), .val (.int (0 : Int32)), .val (.int (2013265921 : Int32)), .val (.ref b10), .val (.ref b11), .unset, .unset, .unset, .unset, .unset, .unset, .unset] [(.ref b12)]))
    refine Go.step (fun t k => XS.dup X12.here hx rfl (hb hby at_29) rfl rfl k) ?_
    show Go p e below _ (T12.setTop (mkF m 30 #[.val (.int p1), .val (.int p2), .val (.int p3), .val (.int p4), .val (.int p5), .val (.int p6), .val (.int (0 : Int32)), .val (.int (2013265921 : Int32)), .val (.ref b10), .val (.ref b11), .unset, .unset, .unset, .unset, .unset, .unset, .unset] [(.ref b12), (.ref b12)]))
    refine Go.step (fun t k => XS.iload X12.here hx rfl (hb hby at_30) rfl k) ?_
    show Go p e below _ (T12.setTop (mkF m 32 #[.val (.int p1), .val (.int p2), .val (.int p3), .val (.int p4), .val (.int p5), .val (.int p6), .val (.int (0 : Int32)), .val (.int (2013265921 : Int32)), .val (.ref b10), .val (.ref b11), .unset, .unset, .unset, .unset, .unset, .unset, .unset] [(.int (0 : Int32)), (.ref b12), (.ref b12)]))
    refine Go.step (fun t k => XS.iconst X12.here hx rfl (hb hby at_32)  k) ?_
    show Go p e below _ (T12.setTop (mkF m 33 #[.val (.int p1), .val (.int p2), .val (.int p3), .val (.int p4), .val (.int p5), .val (.int p6), .val (.int (0 : Int32)), .val (.int (2013265921 : Int32)), .val (.ref b10), .val (.ref b11), .unset, .unset, .unset, .unset, .unset, .unset, .unset] [(.int (2 : Int32)), (.int (0 : Int32)), (.ref b12), (.ref b12)]))
    refine Go.step (fun t k => XS.aload X12.here hx rfl (hb hby at_33) rfl rfl k) ?_
    show Go p e below _ (T12.setTop (mkF m 35 #[.val (.int p1), .val (.int p2), .val (.int p3), .val (.int p4), .val (.int p5), .val (.int p6), .val (.int (0 : Int32)), .val (.int (2013265921 : Int32)), .val (.ref b10), .val (.ref b11), .unset, .unset, .unset, .unset, .unset, .unset, .unset] [(.ref b10), (.int (2 : Int32)), (.int (0 : Int32)), (.ref b12), (.ref b12)]))
    refine Go.step (fun t k => XS.aload X12.here hx rfl (hb hby at_35) rfl rfl k) ?_
    show Go p e below _ (T12.setTop (mkF m 37 #[.val (.int p1), .val (.int p2), .val (.int p3), .val (.int p4), .val (.int p5), .val (.int p6), .val (.int (0 : Int32)), .val (.int (2013265921 : Int32)), .val (.ref b10), .val (.ref b11), .unset, .unset, .unset, .unset, .unset, .unset, .unset] [(.ref b11), (.ref b10), (.int (2 : Int32)), (.int (0 : Int32)), (.ref b12), (.ref b12)]))
    obtain ⟨_, _, ⟨T13, L13, k13, n13⟩, -, X13, ⟨Lc13, hQ13, l13, y13, z13⟩, st13⟩ := X12.specialBack hx (y := (⟨"com/example/tinwire/tinwire/json/Transform", "<init>", "(II[I[I)V"⟩ : MethodName)) rfl hown (mvT hZ (hw _ (List.mem_of_getElem? (i := 7) rfl))) (mvT hZ (hw _ (List.mem_of_getElem? (i := 8) rfl))) (mvT hZ (hw _ (List.mem_of_getElem? (i := 9) rfl))) (by decide) (backOf (W := 1) (rm1_0 l Z a0 hw [] b12 b10 b11 (fun _ => (0 : Int32)) (fun _ => (0 : Int32)) (.int (0 : Int32)) .null .null (.int (0 : Int32)) (.int (0 : Int32)) (.int (0 : Int32)) (.int (0 : Int32)) (.int (0 : Int32)) oP (.int (0 : Int32)) oG h12 n0 Z12 A_b10_12 A_b11_12 F_length_b12 F_roots_b12 F_rootQuotients_b12 F_outerRoot_b12 F_outerRootQuotient_b12 F_negativeInverse_b12 F_scale_b12 F_scaleQuotient_b12 S_PRIMES A_PRIMES O12 A12 F_prime_b12 g_b12 ne_b10_b12 ne_b11_b12 S_GENERATORS A_GENERATORS g_b10 (Ne.symm ne_b10_b11) (Ne.symm ne_b10_b12) g_b11 (Ne.symm ne_b11_b12) ne_b10_b11) hZ (hw _ (List.mem_of_getElem? (i := 9) rfl)) (hw _ (List.mem_of_getElem? (i := 2) rfl)) (by decide) (by decide)) (g := (mkF m 37 #[.val (.int p1), .val (.int p2), .val (.int p3), .val (.int p4), .val (.int p5), .val (.int p6), .val (.int (0 : Int32)), .val (.int (2013265921 : Int32)), .val (.ref b10), .val (.ref b11), .unset, .unset, .unset, .unset, .unset, .unset, .unset] [(.ref b11), (.ref b10), (.int (2 : Int32)), (.int (0 : Int32)), (.ref b12), (.ref b12)])) rfl (by rw [hml]; rfl) (Steps.refl _) (a := b12) (argsL := [(.int (0 : Int32)), (.int (2 : Int32)), (.ref b10), (.ref b11)]) (rest := [(.ref b12)]) (lenOf pd_2 rfl) rfl (by show 2 * 0 + _ ≤ _; exact Nat.le_of_eq rfl) (hb hby at_37) (fun _ _ => ⟨rfl, e12, (by decide : 3 + 0 ≤ _), (by decide : 11 + 0 ≤ _)⟩)
    dsimp only [Pt.U, Pt.locs, Pt.cells, Pt.slots] at X13 l13 y13 z13 st13 hQ13
    subst l13 y13 z13
    obtain ⟨rfl, N13q, K13, Q13_0, Q13_1, Q13_2, Q13_3⟩ := hQ13
    have N13 := Fr.app N0 N13q
    have E_b12_13 := A12.keep K13
    have O13 := O12.keep K13 (allS g_b12 (allS g_b10 (allS g_b11 all0)))
    have Z13 := Nat.le_trans Z12 K13.1
    have KK13 : Keep h0 T13.heap [] := KK12.trans K13 (allS (Or.inr sz_b12) (allS (Or.inr sz_b10) (allS (Or.inr sz_b11) all0)))
    refine Go.trans st13 ?_
    show Go p e below _ (T13.setTop (mkF m 40 #[.val (.int p1), .val (.int p2), .val (.int p3), .val (.int p4), .val (.int p5), .val (.int p6), .val (.int (0 : Int32)), .val (.int (2013265921 : Int32)), .val (.ref b10), .val (.ref b11), .unset, .unset, .unset, .unset, .unset, .unset, .unset] [(.ref b12)]))
    refine Go.step (fun t k => XS.astore X13.here hx rfl (hb hby at_40) rfl rfl (l' := #[.val (.int p1), .val (.int p2), .val (.int p3), .val (.int p4), .val (.int p5), .val (.int p6), .val (.int (0 : Int32)), .val (.int (2013265921 : Int32)), .val (.ref b10), .val (.ref b11), .val (.ref b12), .unset, .unset, .unset, .unset, .unset, .unset]) rfl k) ?_
    show Go p e below _ (T13.setTop (mkF m 42 #[.val (.int p1), .val (.int p2), .val (.int p3), .val (.int p4), .val (.int p5), .val (.int p6), .val (.int (0 : Int32)), .val (.int (2013265921 : Int32)), .val (.ref b10), .val (.ref b11), .val (.ref b12), .unset, .unset, .unset, .unset, .unset, .unset] []))
    refine Go.step (fun t k => XS.iloadN X13.here hx rfl (hb hby at_42) rfl k) ?_
    show Go p e below _ (T13.setTop (mkF m 43 #[.val (.int p1), .val (.int p2), .val (.int p3), .val (.int p4), .val (.int p5), .val (.int p6), .val (.int (0 : Int32)), .val (.int (2013265921 : Int32)), .val (.ref b10), .val (.ref b11), .val (.ref b12), .unset, .unset, .unset, .unset, .unset, .unset] [(.int p2)]))
    refine Go.step (X13.ldcInt hx hown (mvT hZ (hw _ (List.mem_of_getElem? (i := 0) rfl))) (g := (mkF m 43 #[.val (.int p1), .val (.int p2), .val (.int p3), .val (.int p4), .val (.int p5), .val (.int p6), .val (.int (0 : Int32)), .val (.int (2013265921 : Int32)), .val (.ref b10), .val (.ref b11), .val (.ref b12), .unset, .unset, .unset, .unset, .unset, .unset] [(.int p2)])) rfl (hb hby at_43)) ?_
    show Go p e below _ (T13.setTop (mkF m 45 #[.val (.int p1), .val (.int p2), .val (.int p3), .val (.int p4), .val (.int p5), .val (.int p6), .val (.int (0 : Int32)), .val (.int (2013265921 : Int32)), .val (.ref b10), .val (.ref b11), .val (.ref b12), .unset, .unset, .unset, .unset, .unset, .unset] [(.int (2147483647 : Int32)), (.int p2)]))
    refine Go.step (fun t k => XS.iand X13.here hx rfl (hb hby at_45) rfl k) ?_
    show Go p e below _ (T13.setTop (mkF m 46 #[.val (.int p1), .val (.int p2), .val (.int p3), .val (.int p4), .val (.int p5), .val (.int p6), .val (.int (0 : Int32)), .val (.int (2013265921 : Int32)), .val (.ref b10), .val (.ref b11), .val (.ref b12), .unset, .unset, .unset, .unset, .unset, .unset] [(.int (p2 &&& (2147483647 : Int32)))]))
    refine Go.step (fun t k => XS.iload X13.here hx rfl (hb hby at_46) rfl k) ?_
    show Go p e below _ (T13.setTop (mkF m 48 #[.val (.int p1), .val (.int p2), .val (.int p3), .val (.int p4), .val (.int p5), .val (.int p6), .val (.int (0 : Int32)), .val (.int (2013265921 : Int32)), .val (.ref b10), .val (.ref b11), .val (.ref b12), .unset, .unset, .unset, .unset, .unset, .unset] [(.int (2013265921 : Int32)), (.int (p2 &&& (2147483647 : Int32)))]))
    refine Go.step (fun t (k : Steps p.tables e below (T13.setTop (mkF m 49 #[.val (.int p1), .val (.int p2), .val (.int p3), .val (.int p4), .val (.int p5), .val (.int p6), .val (.int (0 : Int32)), .val (.int (2013265921 : Int32)), .val (.ref b10), .val (.ref b11), .val (.ref b12), .unset, .unset, .unset, .unset, .unset, .unset] [(.int ((p2 &&& (2147483647 : Int32)) % (2013265921 : Int32)))])) t) => XS.irem X13.here hx rfl (hb hby at_48) rfl (by decide) (by rw [remI]; exact k)) ?_
    show Go p e below _ (T13.setTop (mkF m 49 #[.val (.int p1), .val (.int p2), .val (.int p3), .val (.int p4), .val (.int p5), .val (.int p6), .val (.int (0 : Int32)), .val (.int (2013265921 : Int32)), .val (.ref b10), .val (.ref b11), .val (.ref b12), .unset, .unset, .unset, .unset, .unset, .unset] [(.int ((p2 &&& (2147483647 : Int32)) % (2013265921 : Int32)))]))
    obtain ⟨v14, hv14⟩ : ∃ z : Int32, z = ((p2 &&& (2147483647 : Int32)) % (2013265921 : Int32)) := ⟨_, rfl⟩
    rw [← hv14]
    show Go p e below _ (T13.setTop (mkF m 49 #[.val (.int p1), .val (.int p2), .val (.int p3), .val (.int p4), .val (.int p5), .val (.int p6), .val (.int (0 : Int32)), .val (.int (2013265921 : Int32)), .val (.ref b10), .val (.ref b11), .val (.ref b12), .unset, .unset, .unset, .unset, .unset, .unset] [(.int v14)]))
    refine Go.step (fun t k => XS.istore X13.here hx rfl (hb hby at_49) rfl (l' := #[.val (.int p1), .val (.int p2), .val (.int p3), .val (.int p4), .val (.int p5), .val (.int p6), .val (.int (0 : Int32)), .val (.int (2013265921 : Int32)), .val (.ref b10), .val (.ref b11), .val (.ref b12), .val (.int v14), .unset, .unset, .unset, .unset, .unset]) rfl k) ?_
    show Go p e below _ (T13.setTop (mkF m 51 #[.val (.int p1), .val (.int p2), .val (.int p3), .val (.int p4), .val (.int p5), .val (.int p6), .val (.int (0 : Int32)), .val (.int (2013265921 : Int32)), .val (.ref b10), .val (.ref b11), .val (.ref b12), .val (.int v14), .unset, .unset, .unset, .unset, .unset] []))
    refine Go.step (fun t k => XS.iloadN X13.here hx rfl (hb hby at_51) rfl k) ?_
    show Go p e below _ (T13.setTop (mkF m 52 #[.val (.int p1), .val (.int p2), .val (.int p3), .val (.int p4), .val (.int p5), .val (.int p6), .val (.int (0 : Int32)), .val (.int (2013265921 : Int32)), .val (.ref b10), .val (.ref b11), .val (.ref b12), .val (.int v14), .unset, .unset, .unset, .unset, .unset] [(.int p3)]))
    refine Go.step (X13.ldcInt hx hown (mvT hZ (hw _ (List.mem_of_getElem? (i := 0) rfl))) (g := (mkF m 52 #[.val (.int p1), .val (.int p2), .val (.int p3), .val (.int p4), .val (.int p5), .val (.int p6), .val (.int (0 : Int32)), .val (.int (2013265921 : Int32)), .val (.ref b10), .val (.ref b11), .val (.ref b12), .val (.int v14), .unset, .unset, .unset, .unset, .unset] [(.int p3)])) rfl (hb hby at_52)) ?_
    show Go p e below _ (T13.setTop (mkF m 54 #[.val (.int p1), .val (.int p2), .val (.int p3), .val (.int p4), .val (.int p5), .val (.int p6), .val (.int (0 : Int32)), .val (.int (2013265921 : Int32)), .val (.ref b10), .val (.ref b11), .val (.ref b12), .val (.int v14), .unset, .unset, .unset, .unset, .unset] [(.int (2147483647 : Int32)), (.int p3)]))
    refine Go.step (fun t k => XS.iand X13.here hx rfl (hb hby at_54) rfl k) ?_
    show Go p e below _ (T13.setTop (mkF m 55 #[.val (.int p1), .val (.int p2), .val (.int p3), .val (.int p4), .val (.int p5), .val (.int p6), .val (.int (0 : Int32)), .val (.int (2013265921 : Int32)), .val (.ref b10), .val (.ref b11), .val (.ref b12), .val (.int v14), .unset, .unset, .unset, .unset, .unset] [(.int (p3 &&& (2147483647 : Int32)))]))
    refine Go.step (fun t k => XS.iload X13.here hx rfl (hb hby at_55) rfl k) ?_
    show Go p e below _ (T13.setTop (mkF m 57 #[.val (.int p1), .val (.int p2), .val (.int p3), .val (.int p4), .val (.int p5), .val (.int p6), .val (.int (0 : Int32)), .val (.int (2013265921 : Int32)), .val (.ref b10), .val (.ref b11), .val (.ref b12), .val (.int v14), .unset, .unset, .unset, .unset, .unset] [(.int (2013265921 : Int32)), (.int (p3 &&& (2147483647 : Int32)))]))
    refine Go.step (fun t (k : Steps p.tables e below (T13.setTop (mkF m 58 #[.val (.int p1), .val (.int p2), .val (.int p3), .val (.int p4), .val (.int p5), .val (.int p6), .val (.int (0 : Int32)), .val (.int (2013265921 : Int32)), .val (.ref b10), .val (.ref b11), .val (.ref b12), .val (.int v14), .unset, .unset, .unset, .unset, .unset] [(.int ((p3 &&& (2147483647 : Int32)) % (2013265921 : Int32)))])) t) => XS.irem X13.here hx rfl (hb hby at_57) rfl (by decide) (by rw [remI]; exact k)) ?_
    show Go p e below _ (T13.setTop (mkF m 58 #[.val (.int p1), .val (.int p2), .val (.int p3), .val (.int p4), .val (.int p5), .val (.int p6), .val (.int (0 : Int32)), .val (.int (2013265921 : Int32)), .val (.ref b10), .val (.ref b11), .val (.ref b12), .val (.int v14), .unset, .unset, .unset, .unset, .unset] [(.int ((p3 &&& (2147483647 : Int32)) % (2013265921 : Int32)))]))
    obtain ⟨v15, hv15⟩ : ∃ z : Int32, z = ((p3 &&& (2147483647 : Int32)) % (2013265921 : Int32)) := ⟨_, rfl⟩
    rw [← hv15]
    show Go p e below _ (T13.setTop (mkF m 58 #[.val (.int p1), .val (.int p2), .val (.int p3), .val (.int p4), .val (.int p5), .val (.int p6), .val (.int (0 : Int32)), .val (.int (2013265921 : Int32)), .val (.ref b10), .val (.ref b11), .val (.ref b12), .val (.int v14), .unset, .unset, .unset, .unset, .unset] [(.int v15)]))
    refine Go.step (fun t k => XS.istore X13.here hx rfl (hb hby at_58) rfl (l' := #[.val (.int p1), .val (.int p2), .val (.int p3), .val (.int p4), .val (.int p5), .val (.int p6), .val (.int (0 : Int32)), .val (.int (2013265921 : Int32)), .val (.ref b10), .val (.ref b11), .val (.ref b12), .val (.int v14), .val (.int v15), .unset, .unset, .unset, .unset]) rfl k) ?_
    show Go p e below _ (T13.setTop (mkF m 60 #[.val (.int p1), .val (.int p2), .val (.int p3), .val (.int p4), .val (.int p5), .val (.int p6), .val (.int (0 : Int32)), .val (.int (2013265921 : Int32)), .val (.ref b10), .val (.ref b11), .val (.ref b12), .val (.int v14), .val (.int v15), .unset, .unset, .unset, .unset] []))
    refine Go.step (fun t k => XS.iloadN X13.here hx rfl (hb hby at_60) rfl k) ?_
    show Go p e below _ (T13.setTop (mkF m 61 #[.val (.int p1), .val (.int p2), .val (.int p3), .val (.int p4), .val (.int p5), .val (.int p6), .val (.int (0 : Int32)), .val (.int (2013265921 : Int32)), .val (.ref b10), .val (.ref b11), .val (.ref b12), .val (.int v14), .val (.int v15), .unset, .unset, .unset, .unset] [(.int p4)]))
    refine Go.step (X13.ldcInt hx hown (mvT hZ (hw _ (List.mem_of_getElem? (i := 0) rfl))) (g := (mkF m 61 #[.val (.int p1), .val (.int p2), .val (.int p3), .val (.int p4), .val (.int p5), .val (.int p6), .val (.int (0 : Int32)), .val (.int (2013265921 : Int32)), .val (.ref b10), .val (.ref b11), .val (.ref b12), .val (.int v14), .val (.int v15), .unset, .unset, .unset, .unset] [(.int p4)])) rfl (hb hby at_61)) ?_
    show Go p e below _ (T13.setTop (mkF m 63 #[.val (.int p1), .val (.int p2), .val (.int p3), .val (.int p4), .val (.int p5), .val (.int p6), .val (.int (0 : Int32)), .val (.int (2013265921 : Int32)), .val (.ref b10), .val (.ref b11), .val (.ref b12), .val (.int v14), .val (.int v15), .unset, .unset, .unset, .unset] [(.int (2147483647 : Int32)), (.int p4)]))
    refine Go.step (fun t k => XS.iand X13.here hx rfl (hb hby at_63) rfl k) ?_
    show Go p e below _ (T13.setTop (mkF m 64 #[.val (.int p1), .val (.int p2), .val (.int p3), .val (.int p4), .val (.int p5), .val (.int p6), .val (.int (0 : Int32)), .val (.int (2013265921 : Int32)), .val (.ref b10), .val (.ref b11), .val (.ref b12), .val (.int v14), .val (.int v15), .unset, .unset, .unset, .unset] [(.int (p4 &&& (2147483647 : Int32)))]))
    refine Go.step (fun t k => XS.iload X13.here hx rfl (hb hby at_64) rfl k) ?_
    show Go p e below _ (T13.setTop (mkF m 66 #[.val (.int p1), .val (.int p2), .val (.int p3), .val (.int p4), .val (.int p5), .val (.int p6), .val (.int (0 : Int32)), .val (.int (2013265921 : Int32)), .val (.ref b10), .val (.ref b11), .val (.ref b12), .val (.int v14), .val (.int v15), .unset, .unset, .unset, .unset] [(.int (2013265921 : Int32)), (.int (p4 &&& (2147483647 : Int32)))]))
    refine Go.step (fun t (k : Steps p.tables e below (T13.setTop (mkF m 67 #[.val (.int p1), .val (.int p2), .val (.int p3), .val (.int p4), .val (.int p5), .val (.int p6), .val (.int (0 : Int32)), .val (.int (2013265921 : Int32)), .val (.ref b10), .val (.ref b11), .val (.ref b12), .val (.int v14), .val (.int v15), .unset, .unset, .unset, .unset] [(.int ((p4 &&& (2147483647 : Int32)) % (2013265921 : Int32)))])) t) => XS.irem X13.here hx rfl (hb hby at_66) rfl (by decide) (by rw [remI]; exact k)) ?_
    show Go p e below _ (T13.setTop (mkF m 67 #[.val (.int p1), .val (.int p2), .val (.int p3), .val (.int p4), .val (.int p5), .val (.int p6), .val (.int (0 : Int32)), .val (.int (2013265921 : Int32)), .val (.ref b10), .val (.ref b11), .val (.ref b12), .val (.int v14), .val (.int v15), .unset, .unset, .unset, .unset] [(.int ((p4 &&& (2147483647 : Int32)) % (2013265921 : Int32)))]))
    obtain ⟨v16, hv16⟩ : ∃ z : Int32, z = ((p4 &&& (2147483647 : Int32)) % (2013265921 : Int32)) := ⟨_, rfl⟩
    rw [← hv16]
    show Go p e below _ (T13.setTop (mkF m 67 #[.val (.int p1), .val (.int p2), .val (.int p3), .val (.int p4), .val (.int p5), .val (.int p6), .val (.int (0 : Int32)), .val (.int (2013265921 : Int32)), .val (.ref b10), .val (.ref b11), .val (.ref b12), .val (.int v14), .val (.int v15), .unset, .unset, .unset, .unset] [(.int v16)]))
    refine Go.step (fun t k => XS.istore X13.here hx rfl (hb hby at_67) rfl (l' := #[.val (.int p1), .val (.int p2), .val (.int p3), .val (.int p4), .val (.int p5), .val (.int p6), .val (.int (0 : Int32)), .val (.int (2013265921 : Int32)), .val (.ref b10), .val (.ref b11), .val (.ref b12), .val (.int v14), .val (.int v15), .val (.int v16), .unset, .unset, .unset]) rfl k) ?_
    show Go p e below _ (T13.setTop (mkF m 69 #[.val (.int p1), .val (.int p2), .val (.int p3), .val (.int p4), .val (.int p5), .val (.int p6), .val (.int (0 : Int32)), .val (.int (2013265921 : Int32)), .val (.ref b10), .val (.ref b11), .val (.ref b12), .val (.int v14), .val (.int v15), .val (.int v16), .unset, .unset, .unset] []))
    refine Go.step (fun t k => XS.iload X13.here hx rfl (hb hby at_69) rfl k) ?_
    show Go p e below _ (T13.setTop (mkF m 71 #[.val (.int p1), .val (.int p2), .val (.int p3), .val (.int p4), .val (.int p5), .val (.int p6), .val (.int (0 : Int32)), .val (.int (2013265921 : Int32)), .val (.ref b10), .val (.ref b11), .val (.ref b12), .val (.int v14), .val (.int v15), .val (.int v16), .unset, .unset, .unset] [(.int p5)]))
    refine Go.step (X13.ldcInt hx hown (mvT hZ (hw _ (List.mem_of_getElem? (i := 0) rfl))) (g := (mkF m 71 #[.val (.int p1), .val (.int p2), .val (.int p3), .val (.int p4), .val (.int p5), .val (.int p6), .val (.int (0 : Int32)), .val (.int (2013265921 : Int32)), .val (.ref b10), .val (.ref b11), .val (.ref b12), .val (.int v14), .val (.int v15), .val (.int v16), .unset, .unset, .unset] [(.int p5)])) rfl (hb hby at_71)) ?_
    show Go p e below _ (T13.setTop (mkF m 73 #[.val (.int p1), .val (.int p2), .val (.int p3), .val (.int p4), .val (.int p5), .val (.int p6), .val (.int (0 : Int32)), .val (.int (2013265921 : Int32)), .val (.ref b10), .val (.ref b11), .val (.ref b12), .val (.int v14), .val (.int v15), .val (.int v16), .unset, .unset, .unset] [(.int (2147483647 : Int32)), (.int p5)]))
    refine Go.step (fun t k => XS.iand X13.here hx rfl (hb hby at_73) rfl k) ?_
    show Go p e below _ (T13.setTop (mkF m 74 #[.val (.int p1), .val (.int p2), .val (.int p3), .val (.int p4), .val (.int p5), .val (.int p6), .val (.int (0 : Int32)), .val (.int (2013265921 : Int32)), .val (.ref b10), .val (.ref b11), .val (.ref b12), .val (.int v14), .val (.int v15), .val (.int v16), .unset, .unset, .unset] [(.int (p5 &&& (2147483647 : Int32)))]))
    refine Go.step (fun t k => XS.iload X13.here hx rfl (hb hby at_74) rfl k) ?_
    show Go p e below _ (T13.setTop (mkF m 76 #[.val (.int p1), .val (.int p2), .val (.int p3), .val (.int p4), .val (.int p5), .val (.int p6), .val (.int (0 : Int32)), .val (.int (2013265921 : Int32)), .val (.ref b10), .val (.ref b11), .val (.ref b12), .val (.int v14), .val (.int v15), .val (.int v16), .unset, .unset, .unset] [(.int (2013265921 : Int32)), (.int (p5 &&& (2147483647 : Int32)))]))
    refine Go.step (fun t (k : Steps p.tables e below (T13.setTop (mkF m 77 #[.val (.int p1), .val (.int p2), .val (.int p3), .val (.int p4), .val (.int p5), .val (.int p6), .val (.int (0 : Int32)), .val (.int (2013265921 : Int32)), .val (.ref b10), .val (.ref b11), .val (.ref b12), .val (.int v14), .val (.int v15), .val (.int v16), .unset, .unset, .unset] [(.int ((p5 &&& (2147483647 : Int32)) % (2013265921 : Int32)))])) t) => XS.irem X13.here hx rfl (hb hby at_76) rfl (by decide) (by rw [remI]; exact k)) ?_
    show Go p e below _ (T13.setTop (mkF m 77 #[.val (.int p1), .val (.int p2), .val (.int p3), .val (.int p4), .val (.int p5), .val (.int p6), .val (.int (0 : Int32)), .val (.int (2013265921 : Int32)), .val (.ref b10), .val (.ref b11), .val (.ref b12), .val (.int v14), .val (.int v15), .val (.int v16), .unset, .unset, .unset] [(.int ((p5 &&& (2147483647 : Int32)) % (2013265921 : Int32)))]))
    obtain ⟨v17, hv17⟩ : ∃ z : Int32, z = ((p5 &&& (2147483647 : Int32)) % (2013265921 : Int32)) := ⟨_, rfl⟩
    rw [← hv17]
    show Go p e below _ (T13.setTop (mkF m 77 #[.val (.int p1), .val (.int p2), .val (.int p3), .val (.int p4), .val (.int p5), .val (.int p6), .val (.int (0 : Int32)), .val (.int (2013265921 : Int32)), .val (.ref b10), .val (.ref b11), .val (.ref b12), .val (.int v14), .val (.int v15), .val (.int v16), .unset, .unset, .unset] [(.int v17)]))
    refine Go.step (fun t k => XS.istore X13.here hx rfl (hb hby at_77) rfl (l' := #[.val (.int p1), .val (.int p2), .val (.int p3), .val (.int p4), .val (.int p5), .val (.int p6), .val (.int (0 : Int32)), .val (.int (2013265921 : Int32)), .val (.ref b10), .val (.ref b11), .val (.ref b12), .val (.int v14), .val (.int v15), .val (.int v16), .val (.int v17), .unset, .unset]) rfl k) ?_
    show Go p e below _ (T13.setTop (mkF m 79 #[.val (.int p1), .val (.int p2), .val (.int p3), .val (.int p4), .val (.int p5), .val (.int p6), .val (.int (0 : Int32)), .val (.int (2013265921 : Int32)), .val (.ref b10), .val (.ref b11), .val (.ref b12), .val (.int v14), .val (.int v15), .val (.int v16), .val (.int v17), .unset, .unset] []))
    refine Go.step (fun t k => XS.iconst X13.here hx rfl (hb hby at_79)  k) ?_
    show Go p e below _ (T13.setTop (mkF m 80 #[.val (.int p1), .val (.int p2), .val (.int p3), .val (.int p4), .val (.int p5), .val (.int p6), .val (.int (0 : Int32)), .val (.int (2013265921 : Int32)), .val (.ref b10), .val (.ref b11), .val (.ref b12), .val (.int v14), .val (.int v15), .val (.int v16), .val (.int v17), .unset, .unset] [(.int (3 : Int32))]))
    obtain ⟨T18, h18, k18, X18, e18, E18, A18, st18⟩ := newP X13 hx hZ (hw _ (List.mem_of_getElem? (i := 4) rfl)) rfl (g := (mkF m 80 #[.val (.int p1), .val (.int p2), .val (.int p3), .val (.int p4), .val (.int p5), .val (.int p6), .val (.int (0 : Int32)), .val (.int (2013265921 : Int32)), .val (.ref b10), .val (.ref b11), .val (.ref b12), .val (.int v14), .val (.int v15), .val (.int v16), .val (.int v17), .unset, .unset] [(.int (3 : Int32))])) rfl (hb hby at_80) rfl (by decide) (cap := 3) (by decide) (by decide) (by decide) (by decide)
    obtain ⟨b18, g18⟩ : ∃ z, z = T13.heap.size := ⟨_, rfl⟩
    rw [← g18] at A18 st18
    have g_b18 : n0 ≤ b18 := Nat.le_trans Z13 (Nat.le_of_eq g18.symm)
    have sz_b18 : h0.size ≤ b18 := Nat.le_trans KK13.1 (Nat.le_of_eq g18.symm)
    have ne_b12_b18 : b12 ≠ b18 := Nat.ne_of_lt (Nat.lt_of_lt_of_le Q13_2.lt (Nat.le_of_eq g18.symm))
    refine Go.step st18 ?_
    have E_b12_18 := Q13_2.ext E18
    have F_length_b12_18 := Q13_0.ext E18
    have F_negativeInverse_b12_18 := Q13_1.ext E18
    have F_prime_b12_18 := Q13_3.ext E18
    have O18 := O13.ext E18
    have Z18 := Nat.le_trans Z13 E18.1
    have KK18 : Keep h0 h18 [] := KK13.ext E18
    have A_b18_18 : Ary Z h18 b18 .int 3 (fun i => .int ((fun _ => (0 : Int32)) i)) := Ary.mk A18 (by decide) (by decide)
    show Go p e below _ (T18.setTop (mkF m 82 #[.val (.int p1), .val (.int p2), .val (.int p3), .val (.int p4), .val (.int p5), .val (.int p6), .val (.int (0 : Int32)), .val (.int (2013265921 : Int32)), .val (.ref b10), .val (.ref b11), .val (.ref b12), .val (.int v14), .val (.int v15), .val (.int v16), .val (.int v17), .unset, .unset] [(.ref b18)]))
    refine Go.step (fun t k => XS.dup X18.here hx rfl (hb hby at_82) rfl rfl k) ?_
    show Go p e below _ (T18.setTop (mkF m 83 #[.val (.int p1), .val (.int p2), .val (.int p3), .val (.int p4), .val (.int p5), .val (.int p6), .val (.int (0 : Int32)), .val (.int (2013265921 : Int32)), .val (.ref b10), .val (.ref b11), .val (.ref b12), .val (.int v14), .val (.int v15), .val (.int v16), .val (.int v17), .unset, .unset] [(.ref b18), (.ref b18)]))
    refine Go.step (fun t k => XS.iconst X18.here hx rfl (hb hby at_83)  k) ?_
    show Go p e below _ (T18.setTop (mkF m 84 #[.val (.int p1), .val (.int p2), .val (.int p3), .val (.int p4), .val (.int p5), .val (.int p6), .val (.int (0 : Int32)), .val (.int (2013265921 : Int32)), .val (.ref b10), .val (.ref b11), .val (.ref b12), .val (.int v14), .val (.int v15), .val (.int v16), .val (.int v17), .unset, .unset] [(.int (0 : Int32)), (.ref b18), (.ref b18)]))
    refine Go.step (fun t k => XS.iload X18.here hx rfl (hb hby at_84) rfl k) ?_
    show Go p e below _ (T18.setTop (mkF m 86 #[.val (.int p1), .val (.int p2), .val (.int p3), .val (.int p4), .val (.int p5), .val (.int p6), .val (.int (0 : Int32)), .val (.int (2013265921 : Int32)), .val (.ref b10), .val (.ref b11), .val (.ref b12), .val (.int v14), .val (.int v15), .val (.int v16), .val (.int v17), .unset, .unset] [(.int v14), (.int (0 : Int32)), (.ref b18), (.ref b18)]))
    obtain ⟨cl19, Ar19, in19, -⟩ := A_b18_18.hin (j := (0 : Int32)) (by decide) (by decide)
    obtain ⟨T19, h19, X19, e19, W19, st19⟩ := stI X18 hx hZ e18 Ar19 in19 (g := (mkF m 86 #[.val (.int p1), .val (.int p2), .val (.int p3), .val (.int p4), .val (.int p5), .val (.int p6), .val (.int (0 : Int32)), .val (.int (2013265921 : Int32)), .val (.ref b10), .val (.ref b11), .val (.ref b12), .val (.int v14), .val (.int v15), .val (.int v16), .val (.int v17), .unset, .unset] [(.int v14), (.int (0 : Int32)), (.ref b18), (.ref b18)])) rfl rfl (hb hby at_86)
    refine Go.step st19 ?_
    have N19 := Fr.snoc X19 N13 g_b18
    have E_b12_19 := E_b12_18.wr W19
    have F_length_b12_19 := F_length_b12_18.other W19 (Or.inl ne_b12_b18)
    have F_negativeInverse_b12_19 := F_negativeInverse_b12_18.other W19 (Or.inl ne_b12_b18)
    have F_prime_b12_19 := F_prime_b12_18.other W19 (Or.inl ne_b12_b18)
    have O19 := O18.wr W19 g_b18
    have Z19 := Nat.le_trans Z18 (Keep.of_wr W19).1
    have KK19 : Keep h0 h19 [] := KK18.wr W19 (Or.inr sz_b18)
    have A_b18_19 : Ary Z h19 b18 .int 3 (fun i => .int ((upA (fun _ => (0 : Int32)) 0 v14) i)) := A_b18_18.setI W19 (by decide)
    show Go p e below _ (T19.setTop (mkF m 87 #[.val (.int p1), .val (.int p2), .val (.int p3), .val (.int p4), .val (.int p5), .val (.int p6), .val (.int (0 : Int32)), .val (.int (2013265921 : Int32)), .val (.ref b10), .val (.ref b11), .val (.ref b12), .val (.int v14), .val (.int v15), .val (.int v16), .val (.int v17), .unset, .unset] [(.ref b18)]))
    refine Go.step (fun t k => XS.dup X19.here hx rfl (hb hby at_87) rfl rfl k) ?_
    show Go p e below _ (T19.setTop (mkF m 88 #[.val (.int p1), .val (.int p2), .val (.int p3), .val (.int p4), .val (.int p5), .val (.int p6), .val (.int (0 : Int32)), .val (.int (2013265921 : Int32)), .val (.ref b10), .val (.ref b11), .val (.ref b12), .val (.int v14), .val (.int v15), .val (.int v16), .val (.int v17), .unset, .unset] [(.ref b18), (.ref b18)]))
    refine Go.step (fun t k => XS.iconst X19.here hx rfl (hb hby at_88)  k) ?_
    show Go p e below _ (T19.setTop (mkF m 89 #[.val (.int p1), .val (.int p2), .val (.int p3), .val (.int p4), .val (.int p5), .val (.int p6), .val (.int (0 : Int32)), .val (.int (2013265921 : Int32)), .val (.ref b10), .val (.ref b11), .val (.ref b12), .val (.int v14), .val (.int v15), .val (.int v16), .val (.int v17), .unset, .unset] [(.int (1 : Int32)), (.ref b18), (.ref b18)]))
    refine Go.step (fun t k => XS.iload X19.here hx rfl (hb hby at_89) rfl k) ?_
    show Go p e below _ (T19.setTop (mkF m 91 #[.val (.int p1), .val (.int p2), .val (.int p3), .val (.int p4), .val (.int p5), .val (.int p6), .val (.int (0 : Int32)), .val (.int (2013265921 : Int32)), .val (.ref b10), .val (.ref b11), .val (.ref b12), .val (.int v14), .val (.int v15), .val (.int v16), .val (.int v17), .unset, .unset] [(.int v16), (.int (1 : Int32)), (.ref b18), (.ref b18)]))
    obtain ⟨cl20, Ar20, in20, -⟩ := A_b18_19.hin (j := (1 : Int32)) (by decide) (by decide)
    obtain ⟨T20, h20, X20, e20, W20, st20⟩ := stI X19 hx hZ e19 Ar20 in20 (g := (mkF m 91 #[.val (.int p1), .val (.int p2), .val (.int p3), .val (.int p4), .val (.int p5), .val (.int p6), .val (.int (0 : Int32)), .val (.int (2013265921 : Int32)), .val (.ref b10), .val (.ref b11), .val (.ref b12), .val (.int v14), .val (.int v15), .val (.int v16), .val (.int v17), .unset, .unset] [(.int v16), (.int (1 : Int32)), (.ref b18), (.ref b18)])) rfl rfl (hb hby at_91)
    refine Go.step st20 ?_
    have N20 := Fr.snoc X20 N19 g_b18
    have E_b12_20 := E_b12_19.wr W20
    have F_length_b12_20 := F_length_b12_19.other W20 (Or.inl ne_b12_b18)
    have F_negativeInverse_b12_20 := F_negativeInverse_b12_19.other W20 (Or.inl ne_b12_b18)
    have F_prime_b12_20 := F_prime_b12_19.other W20 (Or.inl ne_b12_b18)
    have O20 := O19.wr W20 g_b18
    have Z20 := Nat.le_trans Z19 (Keep.of_wr W20).1
    have KK20 : Keep h0 h20 [] := KK19.wr W20 (Or.inr sz_b18)
    have A_b18_20 : Ary Z h20 b18 .int 3 (fun i => .int ((upA (upA (fun _ => (0 : Int32)) 0 v14) 1 v16) i)) := A_b18_19.setI W20 (by decide)
    show Go p e below _ (T20.setTop (mkF m 92 #[.val (.int p1), .val (.int p2), .val (.int p3), .val (.int p4), .val (.int p5), .val (.int p6), .val (.int (0 : Int32)), .val (.int (2013265921 : Int32)), .val (.ref b10), .val (.ref b11), .val (.ref b12), .val (.int v14), .val (.int v15), .val (.int v16), .val (.int v17), .unset, .unset] [(.ref b18)]))
    refine Go.step (fun t k => XS.dup X20.here hx rfl (hb hby at_92) rfl rfl k) ?_
    show Go p e below _ (T20.setTop (mkF m 93 #[.val (.int p1), .val (.int p2), .val (.int p3), .val (.int p4), .val (.int p5), .val (.int p6), .val (.int (0 : Int32)), .val (.int (2013265921 : Int32)), .val (.ref b10), .val (.ref b11), .val (.ref b12), .val (.int v14), .val (.int v15), .val (.int v16), .val (.int v17), .unset, .unset] [(.ref b18), (.ref b18)]))
    refine Go.step (fun t k => XS.iconst X20.here hx rfl (hb hby at_93)  k) ?_
    show Go p e below _ (T20.setTop (mkF m 94 #[.val (.int p1), .val (.int p2), .val (.int p3), .val (.int p4), .val (.int p5), .val (.int p6), .val (.int (0 : Int32)), .val (.int (2013265921 : Int32)), .val (.ref b10), .val (.ref b11), .val (.ref b12), .val (.int v14), .val (.int v15), .val (.int v16), .val (.int v17), .unset, .unset] [(.int (2 : Int32)), (.ref b18), (.ref b18)]))
    refine Go.step (fun t k => XS.iload X20.here hx rfl (hb hby at_94) rfl k) ?_
    show Go p e below _ (T20.setTop (mkF m 96 #[.val (.int p1), .val (.int p2), .val (.int p3), .val (.int p4), .val (.int p5), .val (.int p6), .val (.int (0 : Int32)), .val (.int (2013265921 : Int32)), .val (.ref b10), .val (.ref b11), .val (.ref b12), .val (.int v14), .val (.int v15), .val (.int v16), .val (.int v17), .unset, .unset] [(.int p6), (.int (2 : Int32)), (.ref b18), (.ref b18)]))
    obtain ⟨cl21, Ar21, in21, -⟩ := A_b18_20.hin (j := (2 : Int32)) (by decide) (by decide)
    obtain ⟨T21, h21, X21, e21, W21, st21⟩ := stI X20 hx hZ e20 Ar21 in21 (g := (mkF m 96 #[.val (.int p1), .val (.int p2), .val (.int p3), .val (.int p4), .val (.int p5), .val (.int p6), .val (.int (0 : Int32)), .val (.int (2013265921 : Int32)), .val (.ref b10), .val (.ref b11), .val (.ref b12), .val (.int v14), .val (.int v15), .val (.int v16), .val (.int v17), .unset, .unset] [(.int p6), (.int (2 : Int32)), (.ref b18), (.ref b18)])) rfl rfl (hb hby at_96)
    refine Go.step st21 ?_
    have N21 := Fr.snoc X21 N20 g_b18
    have E_b12_21 := E_b12_20.wr W21
    have F_length_b12_21 := F_length_b12_20.other W21 (Or.inl ne_b12_b18)
    have F_negativeInverse_b12_21 := F_negativeInverse_b12_20.other W21 (Or.inl ne_b12_b18)
    have F_prime_b12_21 := F_prime_b12_20.other W21 (Or.inl ne_b12_b18)
    have O21 := O20.wr W21 g_b18
    have Z21 := Nat.le_trans Z20 (Keep.of_wr W21).1
    have KK21 : Keep h0 h21 [] := KK20.wr W21 (Or.inr sz_b18)
    have A_b18_21 : Ary Z h21 b18 .int 3 (fun i => .int ((upA (upA (upA (fun _ => (0 : Int32)) 0 v14) 1 v16) 2 p6) i)) := A_b18_20.setI W21 (by decide)
    show Go p e below _ (T21.setTop (mkF m 97 #[.val (.int p1), .val (.int p2), .val (.int p3), .val (.int p4), .val (.int p5), .val (.int p6), .val (.int (0 : Int32)), .val (.int (2013265921 : Int32)), .val (.ref b10), .val (.ref b11), .val (.ref b12), .val (.int v14), .val (.int v15), .val (.int v16), .val (.int v17), .unset, .unset] [(.ref b18)]))
    refine Go.step (fun t k => XS.astore X21.here hx rfl (hb hby at_97) rfl rfl (l' := #[.val (.int p1), .val (.int p2), .val (.int p3), .val (.int p4), .val (.int p5), .val (.int p6), .val (.int (0 : Int32)), .val (.int (2013265921 : Int32)), .val (.ref b10), .val (.ref b11), .val (.ref b12), .val (.int v14), .val (.int v15), .val (.int v16), .val (.int v17), .val (.ref b18), .unset]) rfl k) ?_
    show Go p e below _ (T21.setTop (mkF m 99 #[.val (.int p1), .val (.int p2), .val (.int p3), .val (.int p4), .val (.int p5), .val (.int p6), .val (.int (0 : Int32)), .val (.int (2013265921 : Int32)), .val (.ref b10), .val (.ref b11), .val (.ref b12), .val (.int v14), .val (.int v15), .val (.int v16), .val (.int v17), .val (.ref b18), .unset] []))
    refine Go.step (fun t k => XS.iconst X21.here hx rfl (hb hby at_99)  k) ?_
    show Go p e below _ (T21.setTop (mkF m 100 #[.val (.int p1), .val (.int p2), .val (.int p3), .val (.int p4), .val (.int p5), .val (.int p6), .val (.int (0 : Int32)), .val (.int (2013265921 : Int32)), .val (.ref b10), .val (.ref b11), .val (.ref b12), .val (.int v14), .val (.int v15), .val (.int v16), .val (.int v17), .val (.ref b18), .unset] [(.int (3 : Int32))]))
    obtain ⟨T22, h22, k22, X22, e22, E22, A22, st22⟩ := newP X21 hx hZ (hw _ (List.mem_of_getElem? (i := 4) rfl)) e21 (g := (mkF m 100 #[.val (.int p1), .val (.int p2), .val (.int p3), .val (.int p4), .val (.int p5), .val (.int p6), .val (.int (0 : Int32)), .val (.int (2013265921 : Int32)), .val (.ref b10), .val (.ref b11), .val (.ref b12), .val (.int v14), .val (.int v15), .val (.int v16), .val (.int v17), .val (.ref b18), .unset] [(.int (3 : Int32))])) rfl (hb hby at_100) rfl (by decide) (cap := 3) (by decide) (by decide) (by decide) (by decide)
    obtain ⟨b22, g22⟩ : ∃ z, z = h21.size := ⟨_, rfl⟩
    rw [← g22] at A22 st22
    have g_b22 : n0 ≤ b22 := Nat.le_trans Z21 (Nat.le_of_eq g22.symm)
    have sz_b22 : h0.size ≤ b22 := Nat.le_trans KK21.1 (Nat.le_of_eq g22.symm)
    have ne_b12_b22 : b12 ≠ b22 := Nat.ne_of_lt (Nat.lt_of_lt_of_le E_b12_21.lt (Nat.le_of_eq g22.symm))
    have ne_b18_b22 : b18 ≠ b22 := Nat.ne_of_lt (Nat.lt_of_lt_of_le A_b18_21.lt (Nat.le_of_eq g22.symm))
    refine Go.step st22 ?_
    have E_b12_22 := E_b12_21.ext E22
    have F_length_b12_22 := F_length_b12_21.ext E22
    have F_negativeInverse_b12_22 := F_negativeInverse_b12_21.ext E22
    have F_prime_b12_22 := F_prime_b12_21.ext E22
    have A_b18_22 := A_b18_21.ext E22
    have O22 := O21.ext E22
    have Z22 := Nat.le_trans Z21 E22.1
    have KK22 : Keep h0 h22 [] := KK21.ext E22
    have A_b22_22 : Ary Z h22 b22 .int 3 (fun i => .int ((fun _ => (0 : Int32)) i)) := Ary.mk A22 (by decide) (by decide)
    show Go p e below _ (T22.setTop (mkF m 102 #[.val (.int p1), .val (.int p2), .val (.int p3), .val (.int p4), .val (.int p5), .val (.int p6), .val (.int (0 : Int32)), .val (.int (2013265921 : Int32)), .val (.ref b10), .val (.ref b11), .val (.ref b12), .val (.int v14), .val (.int v15), .val (.int v16), .val (.int v17), .val (.ref b18), .unset] [(.ref b22)]))
    refine Go.step (fun t k => XS.dup X22.here hx rfl (hb hby at_102) rfl rfl k) ?_
    show Go p e below _ (T22.setTop (mkF m 103 #[.val (.int p1), .val (.int p2), .val (.int p3), .val (.int p4), .val (.int p5), .val (.int p6), .val (.int (0 : Int32)), .val (.int (2013265921 : Int32)), .val (.ref b10), .val (.ref b11), .val (.ref b12), .val (.int v14), .val (.int v15), .val (.int v16), .val (.int v17), .val (.ref b18), .unset] [(.ref b22), (.ref b22)]))
    refine Go.step (fun t k => XS.iconst X22.here hx rfl (hb hby at_103)  k) ?_
    show Go p e below _ (T22.setTop (mkF m 104 #[.val (.int p1), .val (.int p2), .val (.int p3), .val (.int p4), .val (.int p5), .val (.int p6), .val (.int (0 : Int32)), .val (.int (2013265921 : Int32)), .val (.ref b10), .val (.ref b11), .val (.ref b12), .val (.int v14), .val (.int v15), .val (.int v16), .val (.int v17), .val (.ref b18), .unset] [(.int (0 : Int32)), (.ref b22), (.ref b22)]))
    refine Go.step (fun t k => XS.iload X22.here hx rfl (hb hby at_104) rfl k) ?_
    show Go p e below _ (T22.setTop (mkF m 106 #[.val (.int p1), .val (.int p2), .val (.int p3), .val (.int p4), .val (.int p5), .val (.int p6), .val (.int (0 : Int32)), .val (.int (2013265921 : Int32)), .val (.ref b10), .val (.ref b11), .val (.ref b12), .val (.int v14), .val (.int v15), .val (.int v16), .val (.int v17), .val (.ref b18), .unset] [(.int v15), (.int (0 : Int32)), (.ref b22), (.ref b22)]))
    obtain ⟨cl23, Ar23, in23, -⟩ := A_b22_22.hin (j := (0 : Int32)) (by decide) (by decide)
    obtain ⟨T23, h23, X23, e23, W23, st23⟩ := stI X22 hx hZ e22 Ar23 in23 (g := (mkF m 106 #[.val (.int p1), .val (.int p2), .val (.int p3), .val (.int p4), .val (.int p5), .val (.int p6), .val (.int (0 : Int32)), .val (.int (2013265921 : Int32)), .val (.ref b10), .val (.ref b11), .val (.ref b12), .val (.int v14), .val (.int v15), .val (.int v16), .val (.int v17), .val (.ref b18), .unset] [(.int v15), (.int (0 : Int32)), (.ref b22), (.ref b22)])) rfl rfl (hb hby at_106)
    refine Go.step st23 ?_
    have N23 := Fr.snoc X23 N21 g_b22
    have E_b12_23 := E_b12_22.wr W23
    have F_length_b12_23 := F_length_b12_22.other W23 (Or.inl ne_b12_b22)
    have F_negativeInverse_b12_23 := F_negativeInverse_b12_22.other W23 (Or.inl ne_b12_b22)
    have F_prime_b12_23 := F_prime_b12_22.other W23 (Or.inl ne_b12_b22)
    have A_b18_23 := A_b18_22.other W23 ne_b18_b22
    have O23 := O22.wr W23 g_b22
    have Z23 := Nat.le_trans Z22 (Keep.of_wr W23).1
    have KK23 : Keep h0 h23 [] := KK22.wr W23 (Or.inr sz_b22)
    have A_b22_23 : Ary Z h23 b22 .int 3 (fun i => .int ((upA (fun _ => (0 : Int32)) 0 v15) i)) := A_b22_22.setI W23 (by decide)
    show Go p e below _ (T23.setTop (mkF m 107 #[.val (.int p1), .val (.int p2), .val (.int p3), .val (.int p4), .val (.int p5), .val (.int p6), .val (.int (0 : Int32)), .val (.int (2013265921 : Int32)), .val (.ref b10), .val (.ref b11), .val (.ref b12), .val (.int v14), .val (.int v15), .val (.int v16), .val (.int v17), .val (.ref b18), .unset] [(.ref b22)]))
    refine Go.step (fun t k => XS.dup X23.here hx rfl (hb hby at_107) rfl rfl k) ?_
    show Go p e below _ (T23.setTop (mkF m 108 #[.val (.int p1), .val (.int p2), .val (.int p3), .val (.int p4), .val (.int p5), .val (.int p6), .val (.int (0 : Int32)), .val (.int (2013265921 : Int32)), .val (.ref b10), .val (.ref b11), .val (.ref b12), .val (.int v14), .val (.int v15), .val (.int v16), .val (.int v17), .val (.ref b18), .unset] [(.ref b22), (.ref b22)]))
    refine Go.step (fun t k => XS.iconst X23.here hx rfl (hb hby at_108)  k) ?_
    show Go p e below _ (T23.setTop (mkF m 109 #[.val (.int p1), .val (.int p2), .val (.int p3), .val (.int p4), .val (.int p5), .val (.int p6), .val (.int (0 : Int32)), .val (.int (2013265921 : Int32)), .val (.ref b10), .val (.ref b11), .val (.ref b12), .val (.int v14), .val (.int v15), .val (.int v16), .val (.int v17), .val (.ref b18), .unset] [(.int (1 : Int32)), (.ref b22), (.ref b22)]))
    refine Go.step (fun t k => XS.iload X23.here hx rfl (hb hby at_109) rfl k) ?_
    show Go p e below _ (T23.setTop (mkF m 111 #[.val (.int p1), .val (.int p2), .val (.int p3), .val (.int p4), .val (.int p5), .val (.int p6), .val (.int (0 : Int32)), .val (.int (2013265921 : Int32)), .val (.ref b10), .val (.ref b11), .val (.ref b12), .val (.int v14), .val (.int v15), .val (.int v16), .val (.int v17), .val (.ref b18), .unset] [(.int v17), (.int (1 : Int32)), (.ref b22), (.ref b22)]))
    obtain ⟨cl24, Ar24, in24, -⟩ := A_b22_23.hin (j := (1 : Int32)) (by decide) (by decide)
    obtain ⟨T24, h24, X24, e24, W24, st24⟩ := stI X23 hx hZ e23 Ar24 in24 (g := (mkF m 111 #[.val (.int p1), .val (.int p2), .val (.int p3), .val (.int p4), .val (.int p5), .val (.int p6), .val (.int (0 : Int32)), .val (.int (2013265921 : Int32)), .val (.ref b10), .val (.ref b11), .val (.ref b12), .val (.int v14), .val (.int v15), .val (.int v16), .val (.int v17), .val (.ref b18), .unset] [(.int v17), (.int (1 : Int32)), (.ref b22), (.ref b22)])) rfl rfl (hb hby at_111)
    refine Go.step st24 ?_
    have N24 := Fr.snoc X24 N23 g_b22
    have E_b12_24 := E_b12_23.wr W24
    have F_length_b12_24 := F_length_b12_23.other W24 (Or.inl ne_b12_b22)
    have F_negativeInverse_b12_24 := F_negativeInverse_b12_23.other W24 (Or.inl ne_b12_b22)
    have F_prime_b12_24 := F_prime_b12_23.other W24 (Or.inl ne_b12_b22)
    have A_b18_24 := A_b18_23.other W24 ne_b18_b22
    have O24 := O23.wr W24 g_b22
    have Z24 := Nat.le_trans Z23 (Keep.of_wr W24).1
    have KK24 : Keep h0 h24 [] := KK23.wr W24 (Or.inr sz_b22)
    have A_b22_24 : Ary Z h24 b22 .int 3 (fun i => .int ((upA (upA (fun _ => (0 : Int32)) 0 v15) 1 v17) i)) := A_b22_23.setI W24 (by decide)
    show Go p e below _ (T24.setTop (mkF m 112 #[.val (.int p1), .val (.int p2), .val (.int p3), .val (.int p4), .val (.int p5), .val (.int p6), .val (.int (0 : Int32)), .val (.int (2013265921 : Int32)), .val (.ref b10), .val (.ref b11), .val (.ref b12), .val (.int v14), .val (.int v15), .val (.int v16), .val (.int v17), .val (.ref b18), .unset] [(.ref b22)]))
    refine Go.step (fun t k => XS.dup X24.here hx rfl (hb hby at_112) rfl rfl k) ?_
    show Go p e below _ (T24.setTop (mkF m 113 #[.val (.int p1), .val (.int p2), .val (.int p3), .val (.int p4), .val (.int p5), .val (.int p6), .val (.int (0 : Int32)), .val (.int (2013265921 : Int32)), .val (.ref b10), .val (.ref b11), .val (.ref b12), .val (.int v14), .val (.int v15), .val (.int v16), .val (.int v17), .val (.ref b18), .unset] [(.ref b22), (.ref b22)]))
    refine Go.step (fun t k => XS.iconst X24.here hx rfl (hb hby at_113)  k) ?_
    show Go p e below _ (T24.setTop (mkF m 114 #[.val (.int p1), .val (.int p2), .val (.int p3), .val (.int p4), .val (.int p5), .val (.int p6), .val (.int (0 : Int32)), .val (.int (2013265921 : Int32)), .val (.ref b10), .val (.ref b11), .val (.ref b12), .val (.int v14), .val (.int v15), .val (.int v16), .val (.int v17), .val (.ref b18), .unset] [(.int (2 : Int32)), (.ref b22), (.ref b22)]))
    refine Go.step (fun t k => XS.iload X24.here hx rfl (hb hby at_114) rfl k) ?_
    show Go p e below _ (T24.setTop (mkF m 116 #[.val (.int p1), .val (.int p2), .val (.int p3), .val (.int p4), .val (.int p5), .val (.int p6), .val (.int (0 : Int32)), .val (.int (2013265921 : Int32)), .val (.ref b10), .val (.ref b11), .val (.ref b12), .val (.int v14), .val (.int v15), .val (.int v16), .val (.int v17), .val (.ref b18), .unset] [(.int p6), (.int (2 : Int32)), (.ref b22), (.ref b22)]))
    obtain ⟨cl25, Ar25, in25, -⟩ := A_b22_24.hin (j := (2 : Int32)) (by decide) (by decide)
    obtain ⟨T25, h25, X25, e25, W25, st25⟩ := stI X24 hx hZ e24 Ar25 in25 (g := (mkF m 116 #[.val (.int p1), .val (.int p2), .val (.int p3), .val (.int p4), .val (.int p5), .val (.int p6), .val (.int (0 : Int32)), .val (.int (2013265921 : Int32)), .val (.ref b10), .val (.ref b11), .val (.ref b12), .val (.int v14), .val (.int v15), .val (.int v16), .val (.int v17), .val (.ref b18), .unset] [(.int p6), (.int (2 : Int32)), (.ref b22), (.ref b22)])) rfl rfl (hb hby at_116)
    refine Go.step st25 ?_
    have N25 := Fr.snoc X25 N24 g_b22
    have E_b12_25 := E_b12_24.wr W25
    have F_length_b12_25 := F_length_b12_24.other W25 (Or.inl ne_b12_b22)
    have F_negativeInverse_b12_25 := F_negativeInverse_b12_24.other W25 (Or.inl ne_b12_b22)
    have F_prime_b12_25 := F_prime_b12_24.other W25 (Or.inl ne_b12_b22)
    have A_b18_25 := A_b18_24.other W25 ne_b18_b22
    have O25 := O24.wr W25 g_b22
    have Z25 := Nat.le_trans Z24 (Keep.of_wr W25).1
    have KK25 : Keep h0 h25 [] := KK24.wr W25 (Or.inr sz_b22)
    have A_b22_25 : Ary Z h25 b22 .int 3 (fun i => .int ((upA (upA (upA (fun _ => (0 : Int32)) 0 v15) 1 v17) 2 p6) i)) := A_b22_24.setI W25 (by decide)
    show Go p e below _ (T25.setTop (mkF m 117 #[.val (.int p1), .val (.int p2), .val (.int p3), .val (.int p4), .val (.int p5), .val (.int p6), .val (.int (0 : Int32)), .val (.int (2013265921 : Int32)), .val (.ref b10), .val (.ref b11), .val (.ref b12), .val (.int v14), .val (.int v15), .val (.int v16), .val (.int v17), .val (.ref b18), .unset] [(.ref b22)]))
    refine Go.step (fun t k => XS.astore X25.here hx rfl (hb hby at_117) rfl rfl (l' := #[.val (.int p1), .val (.int p2), .val (.int p3), .val (.int p4), .val (.int p5), .val (.int p6), .val (.int (0 : Int32)), .val (.int (2013265921 : Int32)), .val (.ref b10), .val (.ref b11), .val (.ref b12), .val (.int v14), .val (.int v15), .val (.int v16), .val (.int v17), .val (.ref b18), .val (.ref b22)]) rfl k) ?_
    show Go p e below _ (T25.setTop (mkF m 119 #[.val (.int p1), .val (.int p2), .val (.int p3), .val (.int p4), .val (.int p5), .val (.int p6), .val (.int (0 : Int32)), .val (.int (2013265921 : Int32)), .val (.ref b10), .val (.ref b11), .val (.ref b12), .val (.int v14), .val (.int v15), .val (.int v16), .val (.int v17), .val (.ref b18), .val (.ref b22)] []))
    refine Go.step (fun t k => XS.aload X25.here hx rfl (hb hby at_119) rfl rfl k) ?_
    show Go p e below _ (T25.setTop (mkF m 121 #[.val (.int p1), .val (.int p2), .val (.int p3), .val (.int p4), .val (.int p5), .val (.int p6), .val (.int (0 : Int32)), .val (.int (2013265921 : Int32)), .val (.ref b10), .val (.ref b11), .val (.ref b12), .val (.int v14), .val (.int v15), .val (.int v16), .val (.int v17), .val (.ref b18), .val (.ref b22)] [(.ref b12)]))
    refine Go.step (fun t k => XS.aload X25.here hx rfl (hb hby at_121) rfl rfl k) ?_
    show Go p e below _ (T25.setTop (mkF m 123 #[.val (.int p1), .val (.int p2), .val (.int p3), .val (.int p4), .val (.int p5), .val (.int p6), .val (.int (0 : Int32)), .val (.int (2013265921 : Int32)), .val (.ref b10), .val (.ref b11), .val (.ref b12), .val (.int v14), .val (.int v15), .val (.int v16), .val (.int v17), .val (.ref b18), .val (.ref b22)] [(.ref b18), (.ref b12)]))
    refine Go.step (fun t k => XS.aload X25.here hx rfl (hb hby at_123) rfl rfl k) ?_
    show Go p e below _ (T25.setTop (mkF m 125 #[.val (.int p1), .val (.int p2), .val (.int p3), .val (.int p4), .val (.int p5), .val (.int p6), .val (.int (0 : Int32)), .val (.int (2013265921 : Int32)), .val (.ref b10), .val (.ref b11), .val (.ref b12), .val (.int v14), .val (.int v15), .val (.int v16), .val (.int v17), .val (.ref b18), .val (.ref b22)] [(.ref b22), (.ref b18), (.ref b12)]))
    obtain ⟨cq26, kq26, q26a, q26b, q26c⟩ := isOf hZ e25 E_b12_25
    obtain ⟨_, _, ⟨T26, L26, k26, n26⟩, -, X26, ⟨Lc26, hQ26, l26, y26, z26⟩, st26⟩ := X25.virtualBack hx (y := (⟨"com/example/tinwire/tinwire/json/Transform", "multiplyPointwise", "([I[I)V"⟩ : MethodName)) (z := (⟨"com/example/tinwire/tinwire/json/Transform", "multiplyPointwise", "([I[I)V"⟩ : MethodName)) hown (mvT hZ (hw _ (List.mem_of_getElem? (i := 42) rfl))) (mvT hZ (hw _ (List.mem_of_getElem? (i := 43) rfl))) (notFace_of_selects (args := #[]) (mvT hZ (hw _ (List.mem_of_getElem? (i := 45) rfl)))) (mvT hZ (hw _ (List.mem_of_getElem? (i := 45) rfl))) (mvT hZ (hw _ (List.mem_of_getElem? (i := 44) rfl))) (by decide) (backOf (W := 0) (rm5 l Z a0 hw [] b12 b18 b22 (upA (upA (upA (fun _ => (0 : Int32)) 0 v14) 1 v16) 2 p6) (upA (upA (upA (fun _ => (0 : Int32)) 0 v15) 1 v17) 2 p6) (2013265921 : Int32) (2013265919 : Int32) h25 n0 Z25 F_length_b12_25 A_b18_25 A_b22_25 F_prime_b12_25 F_negativeInverse_b12_25 g_b18 ne_b12_b18 (Ne.symm ne_b18_b22)) hZ (hw _ (List.mem_of_getElem? (i := 46) rfl)) (hw _ (List.mem_of_getElem? (i := 2) rfl)) (by decide) (by decide)) q26a q26c (g := (mkF m 125 #[.val (.int p1), .val (.int p2), .val (.int p3), .val (.int p4), .val (.int p5), .val (.int p6), .val (.int (0 : Int32)), .val (.int (2013265921 : Int32)), .val (.ref b10), .val (.ref b11), .val (.ref b12), .val (.int v14), .val (.int v15), .val (.int v16), .val (.int v17), .val (.ref b18), .val (.ref b22)] [(.ref b22), (.ref b18), (.ref b12)])) rfl (by rw [hml]; rfl) (Steps.refl _) (argsL := [(.ref b18), (.ref b22)]) (rest := []) (lenOf pd_3 rfl) rfl (by show 2 * 0 + _ ≤ _; exact Nat.le_of_eq rfl) (hb hby at_125) (fun _ _ => ⟨rfl, e25, (by decide : 5 + 0 ≤ _), (by decide : 17 + 0 ≤ _)⟩)
    dsimp only [Pt.U, Pt.locs, Pt.cells, Pt.slots] at X26 l26 y26 z26 st26 hQ26
    subst l26 y26 z26
    obtain ⟨rfl, N26q, K26, Q26_0⟩ := hQ26
    have N26 := Fr.app N25 N26q
    have E_b12_26 := E_b12_25.keep K26
    have F_length_b12_26 := F_length_b12_25.keep K26 (ninS ne_b12_b18 nin0)
    have F_negativeInverse_b12_26 := F_negativeInverse_b12_25.keep K26 (ninS ne_b12_b18 nin0)
    have F_prime_b12_26 := F_prime_b12_25.keep K26 (ninS ne_b12_b18 nin0)
    have A_b22_26 := A_b22_25.keep K26 (ninS (Ne.symm ne_b18_b22) nin0)
    have O26 := O25.keep K26 (allS g_b18 all0)
    have Z26 := Nat.le_trans Z25 K26.1
    have KK26 : Keep h0 T26.heap [] := KK25.trans K26 (allS (Or.inr sz_b18) all0)
    refine Go.trans st26 ?_
    show Go p e below _ (T26.setTop (mkF m 128 #[.val (.int p1), .val (.int p2), .val (.int p3), .val (.int p4), .val (.int p5), .val (.int p6), .val (.int (0 : Int32)), .val (.int (2013265921 : Int32)), .val (.ref b10), .val (.ref b11), .val (.ref b12), .val (.int v14), .val (.int v15), .val (.int v16), .val (.int v17), .val (.ref b18), .val (.ref b22)] []))
    refine Go.step (fun t k => XS.aload X26.here hx rfl (hb hby at_128) rfl rfl k) ?_
    show Go p e below _ (T26.setTop (mkF m 130 #[.val (.int p1), .val (.int p2), .val (.int p3), .val (.int p4), .val (.int p5), .val (.int p6), .val (.int (0 : Int32)), .val (.int (2013265921 : Int32)), .val (.ref b10), .val (.ref b11), .val (.ref b12), .val (.int v14), .val (.int v15), .val (.int v16), .val (.int v17), .val (.ref b18), .val (.ref b22)] [(.ref b18)]))
    refine Go.step (fun t k => XS.iconst X26.here hx rfl (hb hby at_130)  k) ?_
    show Go p e below _ (T26.setTop (mkF m 131 #[.val (.int p1), .val (.int p2), .val (.int p3), .val (.int p4), .val (.int p5), .val (.int p6), .val (.int (0 : Int32)), .val (.int (2013265921 : Int32)), .val (.ref b10), .val (.ref b11), .val (.ref b12), .val (.int v14), .val (.int v15), .val (.int v16), .val (.int v17), .val (.ref b18), .val (.ref b22)] [(.int (0 : Int32)), (.ref b18)]))
    refine Go.step (ldI X26 hx hZ rfl Q26_0 (j := (0 : Int32)) (by decide) (by decide) (g := (mkF m 131 #[.val (.int p1), .val (.int p2), .val (.int p3), .val (.int p4), .val (.int p5), .val (.int p6), .val (.int (0 : Int32)), .val (.int (2013265921 : Int32)), .val (.ref b10), .val (.ref b11), .val (.ref b12), .val (.int v14), .val (.int v15), .val (.int v16), .val (.int v17), .val (.ref b18), .val (.ref b22)] [(.int (0 : Int32)), (.ref b18)])) rfl rfl (hb hby at_131)) ?_
    show Go p e below _ (T26.setTop (mkF m 132 #[.val (.int p1), .val (.int p2), .val (.int p3), .val (.int p4), .val (.int p5), .val (.int p6), .val (.int (0 : Int32)), .val (.int (2013265921 : Int32)), .val (.ref b10), .val (.ref b11), .val (.ref b12), .val (.int v14), .val (.int v15), .val (.int v16), .val (.int v17), .val (.ref b18), .val (.ref b22)] [(.int ((upA (upA (upA (upA (upA (fun _ => (0 : Int32)) 0 v14) 1 v16) 2 p6) 0 (mpF ((upA (upA (upA (fun _ => (0 : Int32)) 0 v14) 1 v16) 2 p6) 0) ((upA (upA (upA (fun _ => (0 : Int32)) 0 v15) 1 v17) 2 p6) 0) (2013265921 : Int32) (2013265919 : Int32))) 1 (mpF ((upA (upA (upA (fun _ => (0 : Int32)) 0 v14) 1 v16) 2 p6) 1) ((upA (upA (upA (fun _ => (0 : Int32)) 0 v15) 1 v17) 2 p6) 1) (2013265921 : Int32) (2013265919 : Int32))) 0))]))
    refine Go.step (fun t k => XS.iload X26.here hx rfl (hb hby at_132) rfl k) ?_
    show Go p e below _ (T26.setTop (mkF m 134 #[.val (.int p1), .val (.int p2), .val (.int p3), .val (.int p4), .val (.int p5), .val (.int p6), .val (.int (0 : Int32)), .val (.int (2013265921 : Int32)), .val (.ref b10), .val (.ref b11), .val (.ref b12), .val (.int v14), .val (.int v15), .val (.int v16), .val (.int v17), .val (.ref b18), .val (.ref b22)] [(.int v14), (.int ((upA (upA (upA (upA (upA (fun _ => (0 : Int32)) 0 v14) 1 v16) 2 p6) 0 (mpF ((upA (upA (upA (fun _ => (0 : Int32)) 0 v14) 1 v16) 2 p6) 0) ((upA (upA (upA (fun _ => (0 : Int32)) 0 v15) 1 v17) 2 p6) 0) (2013265921 : Int32) (2013265919 : Int32))) 1 (mpF ((upA (upA (upA (fun _ => (0 : Int32)) 0 v14) 1 v16) 2 p6) 1) ((upA (upA (upA (fun _ => (0 : Int32)) 0 v15) 1 v17) 2 p6) 1) (2013265921 : Int32) (2013265919 : Int32))) 0))]))
    refine Go.step (fun t k => XS.iload X26.here hx rfl (hb hby at_134) rfl k) ?_
    show Go p e below _ (T26.setTop (mkF m 136 #[.val (.int p1), .val (.int p2), .val (.int p3), .val (.int p4), .val (.int p5), .val (.int p6), .val (.int (0 : Int32)), .val (.int (2013265921 : Int32)), .val (.ref b10), .val (.ref b11), .val (.ref b12), .val (.int v14), .val (.int v15), .val (.int v16), .val (.int v17), .val (.ref b18), .val (.ref b22)] [(.int v15), (.int v14), (.int ((upA (upA (upA (upA (upA (fun _ => (0 : Int32)) 0 v14) 1 v16) 2 p6) 0 (mpF ((upA (upA (upA (fun _ => (0 : Int32)) 0 v14) 1 v16) 2 p6) 0) ((upA (upA (upA (fun _ => (0 : Int32)) 0 v15) 1 v17) 2 p6) 0) (2013265921 : Int32) (2013265919 : Int32))) 1 (mpF ((upA (upA (upA (fun _ => (0 : Int32)) 0 v14) 1 v16) 2 p6) 1) ((upA (upA (upA (fun _ => (0 : Int32)) 0 v15) 1 v17) 2 p6) 1) (2013265921 : Int32) (2013265919 : Int32))) 0))]))
    refine Go.step (fun t k => XS.iload X26.here hx rfl (hb hby at_136) rfl k) ?_
    show Go p e below _ (T26.setTop (mkF m 138 #[.val (.int p1), .val (.int p2), .val (.int p3), .val (.int p4), .val (.int p5), .val (.int p6), .val (.int (0 : Int32)), .val (.int (2013265921 : Int32)), .val (.ref b10), .val (.ref b11), .val (.ref b12), .val (.int v14), .val (.int v15), .val (.int v16), .val (.int v17), .val (.ref b18), .val (.ref b22)] [(.int (2013265921 : Int32)), (.int v15), (.int v14), (.int ((upA (upA (upA (upA (upA (fun _ => (0 : Int32)) 0 v14) 1 v16) 2 p6) 0 (mpF ((upA (upA (upA (fun _ => (0 : Int32)) 0 v14) 1 v16) 2 p6) 0) ((upA (upA (upA (fun _ => (0 : Int32)) 0 v15) 1 v17) 2 p6) 0) (2013265921 : Int32) (2013265919 : Int32))) 1 (mpF ((upA (upA (upA (fun _ => (0 : Int32)) 0 v14) 1 v16) 2 p6) 1) ((upA (upA (upA (fun _ => (0 : Int32)) 0 v15) 1 v17) 2 p6) 1) (2013265921 : Int32) (2013265919 : Int32))) 0))]))
    obtain ⟨_, _, ⟨T27, L27, k27, n27⟩, -, X27, ⟨Lc27, hQ27, l27, y27, z27⟩, st27⟩ := Jvm.LawKit.callS X26 hx (y := (⟨"com/example/tinwire/tinwire/json/TransformMultiplyPointwisePinLaw", "ok", "(IIII)Z"⟩ : MethodName)) hown (mvT hZ (hw _ (List.mem_of_getElem? (i := 48) rfl))) (mvT hZ (hw _ (List.mem_of_getElem? (i := 49) rfl))) (mvT hZ (hw _ (List.mem_of_getElem? (i := 50) rfl))) (mvT hZ (hw _ (List.mem_of_getElem? (i := 51) rfl))) (by decide) (backOf (W := 0) (rm6 l Z a0 hw [] ((upA (upA (upA (upA (upA (fun _ => (0 : Int32)) 0 v14) 1 v16) 2 p6) 0 (mpF ((upA (upA (upA (fun _ => (0 : Int32)) 0 v14) 1 v16) 2 p6) 0) ((upA (upA (upA (fun _ => (0 : Int32)) 0 v15) 1 v17) 2 p6) 0) (2013265921 : Int32) (2013265919 : Int32))) 1 (mpF ((upA (upA (upA (fun _ => (0 : Int32)) 0 v14) 1 v16) 2 p6) 1) ((upA (upA (upA (fun _ => (0 : Int32)) 0 v15) 1 v17) 2 p6) 1) (2013265921 : Int32) (2013265919 : Int32))) 0) v14 v15 (2013265921 : Int32) T26.heap n0 Z26 ((by decide) : ¬ (((2013265921 : Int32).toInt64) = (0 : Int64))) ((by decide) : ¬ (((2013265921 : Int32).toInt64) = (0 : Int64)))) hZ (hw _ (List.mem_of_getElem? (i := 51) rfl)) (hw _ (List.mem_of_getElem? (i := 50) rfl)) (by decide) (by decide)) (g := (mkF m 138 #[.val (.int p1), .val (.int p2), .val (.int p3), .val (.int p4), .val (.int p5), .val (.int p6), .val (.int (0 : Int32)), .val (.int (2013265921 : Int32)), .val (.ref b10), .val (.ref b11), .val (.ref b12), .val (.int v14), .val (.int v15), .val (.int v16), .val (.int v17), .val (.ref b18), .val (.ref b22)] [(.int (2013265921 : Int32)), (.int v15), (.int v14), (.int ((upA (upA (upA (upA (upA (fun _ => (0 : Int32)) 0 v14) 1 v16) 2 p6) 0 (mpF ((upA (upA (upA (fun _ => (0 : Int32)) 0 v14) 1 v16) 2 p6) 0) ((upA (upA (upA (fun _ => (0 : Int32)) 0 v15) 1 v17) 2 p6) 0) (2013265921 : Int32) (2013265919 : Int32))) 1 (mpF ((upA (upA (upA (fun _ => (0 : Int32)) 0 v14) 1 v16) 2 p6) 1) ((upA (upA (upA (fun _ => (0 : Int32)) 0 v15) 1 v17) 2 p6) 1) (2013265921 : Int32) (2013265919 : Int32))) 0))])) rfl (by rw [hml]; rfl) (argsL := [(.int ((upA (upA (upA (upA (upA (fun _ => (0 : Int32)) 0 v14) 1 v16) 2 p6) 0 (mpF ((upA (upA (upA (fun _ => (0 : Int32)) 0 v14) 1 v16) 2 p6) 0) ((upA (upA (upA (fun _ => (0 : Int32)) 0 v15) 1 v17) 2 p6) 0) (2013265921 : Int32) (2013265919 : Int32))) 1 (mpF ((upA (upA (upA (fun _ => (0 : Int32)) 0 v14) 1 v16) 2 p6) 1) ((upA (upA (upA (fun _ => (0 : Int32)) 0 v15) 1 v17) 2 p6) 1) (2013265921 : Int32) (2013265919 : Int32))) 0)), (.int v14), (.int v15), (.int (2013265921 : Int32))]) (rest := []) (lenOf pd_4 rfl) rfl (by show 2 * 0 + _ ≤ _; exact Nat.le_of_eq rfl) (hb hby at_138) (fun _ _ => ⟨rfl, rfl, (by decide : 5 + 0 ≤ _), (by decide : 17 + 0 ≤ _)⟩)
    dsimp only [Pt.U, Pt.locs, Pt.cells, Pt.slots] at X27 l27 y27 z27 st27 hQ27
    subst l27 y27 z27
    obtain ⟨rfl, N27q, e27⟩ := hQ27
    have N27 := Fr.app N26 N27q
    refine Go.step st27 ?_
    show Go p e below _ (T27.setTop (mkF m 141 #[.val (.int p1), .val (.int p2), .val (.int p3), .val (.int p4), .val (.int p5), .val (.int p6), .val (.int (0 : Int32)), .val (.int (2013265921 : Int32)), .val (.ref b10), .val (.ref b11), .val (.ref b12), .val (.int v14), .val (.int v15), .val (.int v16), .val (.int v17), .val (.ref b18), .val (.ref b22)] [(.int (f6 ((upA (upA (upA (upA (upA (fun _ => (0 : Int32)) 0 v14) 1 v16) 2 p6) 0 (mpF ((upA (upA (upA (fun _ => (0 : Int32)) 0 v14) 1 v16) 2 p6) 0) ((upA (upA (upA (fun _ => (0 : Int32)) 0 v15) 1 v17) 2 p6) 0) (2013265921 : Int32) (2013265919 : Int32))) 1 (mpF ((upA (upA (upA (fun _ => (0 : Int32)) 0 v14) 1 v16) 2 p6) 1) ((upA (upA (upA (fun _ => (0 : Int32)) 0 v15) 1 v17) 2 p6) 1) (2013265921 : Int32) (2013265919 : Int32))) 0) v14 v15 (2013265921 : Int32)))]))
    by_cases hc28 : (f6 ((upA (upA (upA (upA (upA (fun _ => (0 : Int32)) 0 v14) 1 v16) 2 p6) 0 (mpF ((upA (upA (upA (fun _ => (0 : Int32)) 0 v14) 1 v16) 2 p6) 0) ((upA (upA (upA (fun _ => (0 : Int32)) 0 v15) 1 v17) 2 p6) 0) (2013265921 : Int32) (2013265919 : Int32))) 1 (mpF ((upA (upA (upA (fun _ => (0 : Int32)) 0 v14) 1 v16) 2 p6) 1) ((upA (upA (upA (fun _ => (0 : Int32)) 0 v15) 1 v17) 2 p6) 1) (2013265921 : Int32) (2013265919 : Int32))) 0) v14 v15 (2013265921 : Int32)) = (0 : Int32)
    · refine Go.step (fun t k => XS.ifYes X27.here hx rfl (pc0 := 141) (pc' := 200) rfl (hb hby at_141) rfl ((if0 _ _).trans (teq hc28).1) (by decide) (by decide) k) ?_
      show Go p e below _ (T27.setTop (mkF m 200 #[.val (.int p1), .val (.int p2), .val (.int p3), .val (.int p4), .val (.int p5), .val (.int p6), .val (.int (0 : Int32)), .val (.int (2013265921 : Int32)), .val (.ref b10), .val (.ref b11), .val (.ref b12), .val (.int v14), .val (.int v15), .val (.int v16), .val (.int v17), .val (.ref b18), .val (.ref b22)] []))
      refine Go.step (fun t k => XS.iconst X27.here hx rfl (hb hby at_200)  k) ?_
      show Go p e below _ (T27.setTop (mkF m 201 #[.val (.int p1), .val (.int p2), .val (.int p3), .val (.int p4), .val (.int p5), .val (.int p6), .val (.int (0 : Int32)), .val (.int (2013265921 : Int32)), .val (.ref b10), .val (.ref b11), .val (.ref b12), .val (.int v14), .val (.int v15), .val (.int v16), .val (.int v17), .val (.ref b18), .val (.ref b22)] [(.int (0 : Int32))]))
      subst hv17
      subst hv16
      subst hv15
      subst hv14
      subst hv7
      exact retGN X27 hx Bd.notSynchronized Bd.returns (t := .boolean) (by simp) (z' := (0 : Int32)) rfl (hb hby at_201) ⟨by first | (simp only [f0, if_pos hc8, if_pos hc28]; done) | rfl | (simp [f0, if_pos hc8, if_pos hc28]; done), N27⟩ (by decide) (by decide)
    · refine Go.step (fun t k => XS.ifNo X27.here hx rfl (hb hby at_141) rfl ((if0 _ _).trans (feq hc28).1) k) ?_
      show Go p e below _ (T27.setTop (mkF m 144 #[.val (.int p1), .val (.int p2), .val (.int p3), .val (.int p4), .val (.int p5), .val (.int p6), .val (.int (0 : Int32)), .val (.int (2013265921 : Int32)), .val (.ref b10), .val (.ref b11), .val (.ref b12), .val (.int v14), .val (.int v15), .val (.int v16), .val (.int v17), .val (.ref b18), .val (.ref b22)] []))
      refine Go.step (fun t k => XS.aload X27.here hx rfl (hb hby at_144) rfl rfl k) ?_
      show Go p e below _ (T27.setTop (mkF m 146 #[.val (.int p1), .val (.int p2), .val (.int p3), .val (.int p4), .val (.int p5), .val (.int p6), .val (.int (0 : Int32)), .val (.int (2013265921 : Int32)), .val (.ref b10), .val (.ref b11), .val (.ref b12), .val (.int v14), .val (.int v15), .val (.int v16), .val (.int v17), .val (.ref b18), .val (.ref b22)] [(.ref b18)]))
      refine Go.step (fun t k => XS.iconst X27.here hx rfl (hb hby at_146)  k) ?_
      show Go p e below _ (T27.setTop (mkF m 147 #[.val (.int p1), .val (.int p2), .val (.int p3), .val (.int p4), .val (.int p5), .val (.int p6), .val (.int (0 : Int32)), .val (.int (2013265921 : Int32)), .val (.ref b10), .val (.ref b11), .val (.ref b12), .val (.int v14), .val (.int v15), .val (.int v16), .val (.int v17), .val (.ref b18), .val (.ref b22)] [(.int (1 : Int32)), (.ref b18)]))
      refine Go.step (ldI X27 hx hZ e27 Q26_0 (j := (1 : Int32)) (by decide) (by decide) (g := (mkF m 147 #[.val (.int p1), .val (.int p2), .val (.int p3), .val (.int p4), .val (.int p5), .val (.int p6), .val (.int (0 : Int32)), .val (.int (2013265921 : Int32)), .val (.ref b10), .val (.ref b11), .val (.ref b12), .val (.int v14), .val (.int v15), .val (.int v16), .val (.int v17), .val (.ref b18), .val (.ref b22)] [(.int (1 : Int32)), (.ref b18)])) rfl rfl (hb hby at_147)) ?_
      show Go p e below _ (T27.setTop (mkF m 148 #[.val (.int p1), .val (.int p2), .val (.int p3), .val (.int p4), .val (.int p5), .val (.int p6), .val (.int (0 : Int32)), .val (.int (2013265921 : Int32)), .val (.ref b10), .val (.ref b11), .val (.ref b12), .val (.int v14), .val (.int v15), .val (.int v16), .val (.int v17), .val (.ref b18), .val (.ref b22)] [(.int ((upA (upA (upA (upA (upA (fun _ => (0 : Int32)) 0 v14) 1 v16) 2 p6) 0 (mpF ((upA (upA (upA (fun _ => (0 : Int32)) 0 v14) 1 v16) 2 p6) 0) ((upA (upA (upA (fun _ => (0 : Int32)) 0 v15) 1 v17) 2 p6) 0) (2013265921 : Int32) (2013265919 : Int32))) 1 (mpF ((upA (upA (upA (fun _ => (0 : Int32)) 0 v14) 1 v16) 2 p6) 1) ((upA (upA (upA (fun _ => (0 : Int32)) 0 v15) 1 v17) 2 p6) 1) (2013265921 : Int32) (2013265919 : Int32))) 1))]))
      refine Go.step (fun t k => XS.iload X27.here hx rfl (hb hby at_148) rfl k) ?_
      show Go p e below _ (T27.setTop (mkF m 150 #[.val (.int p1), .val (.int p2), .val (.int p3), .val (.int p4), .val (.int p5), .val (.int p6), .val (.int (0 : Int32)), .val (.int (2013265921 : Int32)), .val (.ref b10), .val (.ref b11), .val (.ref b12), .val (.int v14), .val (.int v15), .val (.int v16), .val (.int v17), .val (.ref b18), .val (.ref b22)] [(.int v16), (.int ((upA (upA (upA (upA (upA (fun _ => (0 : Int32)) 0 v14) 1 v16) 2 p6) 0 (mpF ((upA (upA (upA (fun _ => (0 : Int32)) 0 v14) 1 v16) 2 p6) 0) ((upA (upA (upA (fun _ => (0 : Int32)) 0 v15) 1 v17) 2 p6) 0) (2013265921 : Int32) (2013265919 : Int32))) 1 (mpF ((upA (upA (upA (fun _ => (0 : Int32)) 0 v14) 1 v16) 2 p6) 1) ((upA (upA (upA (fun _ => (0 : Int32)) 0 v15) 1 v17) 2 p6) 1) (2013265921 : Int32) (2013265919 : Int32))) 1))]))
      refine Go.step (fun t k => XS.iload X27.here hx rfl (hb hby at_150) rfl k) ?_
      show Go p e below _ (T27.setTop (mkF m 152 #[.val (.int p1), .val (.int p2), .val (.int p3), .val (.int p4), .val (.int p5), .val (.int p6), .val (.int (0 : Int32)), .val (.int (2013265921 : Int32)), .val (.ref b10), .val (.ref b11), .val (.ref b12), .val (.int v14), .val (.int v15), .val (.int v16), .val (.int v17), .val (.ref b18), .val (.ref b22)] [(.int v17), (.int v16), (.int ((upA (upA (upA (upA (upA (fun _ => (0 : Int32)) 0 v14) 1 v16) 2 p6) 0 (mpF ((upA (upA (upA (fun _ => (0 : Int32)) 0 v14) 1 v16) 2 p6) 0) ((upA (upA (upA (fun _ => (0 : Int32)) 0 v15) 1 v17) 2 p6) 0) (2013265921 : Int32) (2013265919 : Int32))) 1 (mpF ((upA (upA (upA (fun _ => (0 : Int32)) 0 v14) 1 v16) 2 p6) 1) ((upA (upA (upA (fun _ => (0 : Int32)) 0 v15) 1 v17) 2 p6) 1) (2013265921 : Int32) (2013265919 : Int32))) 1))]))
      refine Go.step (fun t k => XS.iload X27.here hx rfl (hb hby at_152) rfl k) ?_
      show Go p e below _ (T27.setTop (mkF m 154 #[.val (.int p1), .val (.int p2), .val (.int p3), .val (.int p4), .val (.int p5), .val (.int p6), .val (.int (0 : Int32)), .val (.int (2013265921 : Int32)), .val (.ref b10), .val (.ref b11), .val (.ref b12), .val (.int v14), .val (.int v15), .val (.int v16), .val (.int v17), .val (.ref b18), .val (.ref b22)] [(.int (2013265921 : Int32)), (.int v17), (.int v16), (.int ((upA (upA (upA (upA (upA (fun _ => (0 : Int32)) 0 v14) 1 v16) 2 p6) 0 (mpF ((upA (upA (upA (fun _ => (0 : Int32)) 0 v14) 1 v16) 2 p6) 0) ((upA (upA (upA (fun _ => (0 : Int32)) 0 v15) 1 v17) 2 p6) 0) (2013265921 : Int32) (2013265919 : Int32))) 1 (mpF ((upA (upA (upA (fun _ => (0 : Int32)) 0 v14) 1 v16) 2 p6) 1) ((upA (upA (upA (fun _ => (0 : Int32)) 0 v15) 1 v17) 2 p6) 1) (2013265921 : Int32) (2013265919 : Int32))) 1))]))
      obtain ⟨_, _, ⟨T29, L29, k29, n29⟩, -, X29, ⟨Lc29, hQ29, l29, y29, z29⟩, st29⟩ := Jvm.LawKit.callS X27 hx (y := (⟨"com/example/tinwire/tinwire/json/TransformMultiplyPointwisePinLaw", "ok", "(IIII)Z"⟩ : MethodName)) hown (mvT hZ (hw _ (List.mem_of_getElem? (i := 48) rfl))) (mvT hZ (hw _ (List.mem_of_getElem? (i := 49) rfl))) (mvT hZ (hw _ (List.mem_of_getElem? (i := 50) rfl))) (mvT hZ (hw _ (List.mem_of_getElem? (i := 51) rfl))) (by decide) (backOf (W := 0) (rm6 l Z a0 hw [] ((upA (upA (upA (upA (upA (fun _ => (0 : Int32)) 0 v14) 1 v16) 2 p6) 0 (mpF ((upA (upA (upA (fun _ => (0 : Int32)) 0 v14) 1 v16) 2 p6) 0) ((upA (upA (upA (fun _ => (0 : Int32)) 0 v15) 1 v17) 2 p6) 0) (2013265921 : Int32) (2013265919 : Int32))) 1 (mpF ((upA (upA (upA (fun _ => (0 : Int32)) 0 v14) 1 v16) 2 p6) 1) ((upA (upA (upA (fun _ => (0 : Int32)) 0 v15) 1 v17) 2 p6) 1) (2013265921 : Int32) (2013265919 : Int32))) 1) v16 v17 (2013265921 : Int32) T26.heap n0 Z26 ((by decide) : ¬ (((2013265921 : Int32).toInt64) = (0 : Int64))) ((by decide) : ¬ (((2013265921 : Int32).toInt64) = (0 : Int64)))) hZ (hw _ (List.mem_of_getElem? (i := 51) rfl)) (hw _ (List.mem_of_getElem? (i := 50) rfl)) (by decide) (by decide)) (g := (mkF m 154 #[.val (.int p1), .val (.int p2), .val (.int p3), .val (.int p4), .val (.int p5), .val (.int p6), .val (.int (0 : Int32)), .val (.int (2013265921 : Int32)), .val (.ref b10), .val (.ref b11), .val (.ref b12), .val (.int v14), .val (.int v15), .val (.int v16), .val (.int v17), .val (.ref b18), .val (.ref b22)] [(.int (2013265921 : Int32)), (.int v17), (.int v16), (.int ((upA (upA (upA (upA (upA (fun _ => (0 : Int32)) 0 v14) 1 v16) 2 p6) 0 (mpF ((upA (upA (upA (fun _ => (0 : Int32)) 0 v14) 1 v16) 2 p6) 0) ((upA (upA (upA (fun _ => (0 : Int32)) 0 v15) 1 v17) 2 p6) 0) (2013265921 : Int32) (2013265919 : Int32))) 1 (mpF ((upA (upA (upA (fun _ => (0 : Int32)) 0 v14) 1 v16) 2 p6) 1) ((upA (upA (upA (fun _ => (0 : Int32)) 0 v15) 1 v17) 2 p6) 1) (2013265921 : Int32) (2013265919 : Int32))) 1))])) rfl (by rw [hml]; rfl) (argsL := [(.int ((upA (upA (upA (upA (upA (fun _ => (0 : Int32)) 0 v14) 1 v16) 2 p6) 0 (mpF ((upA (upA (upA (fun _ => (0 : Int32)) 0 v14) 1 v16) 2 p6) 0) ((upA (upA (upA (fun _ => (0 : Int32)) 0 v15) 1 v17) 2 p6) 0) (2013265921 : Int32) (2013265919 : Int32))) 1 (mpF ((upA (upA (upA (fun _ => (0 : Int32)) 0 v14) 1 v16) 2 p6) 1) ((upA (upA (upA (fun _ => (0 : Int32)) 0 v15) 1 v17) 2 p6) 1) (2013265921 : Int32) (2013265919 : Int32))) 1)), (.int v16), (.int v17), (.int (2013265921 : Int32))]) (rest := []) (lenOf pd_4 rfl) rfl (by show 2 * 0 + _ ≤ _; exact Nat.le_of_eq rfl) (hb hby at_154) (fun _ _ => ⟨rfl, e27, (by decide : 5 + 0 ≤ _), (by decide : 17 + 0 ≤ _)⟩)
      dsimp only [Pt.U, Pt.locs, Pt.cells, Pt.slots] at X29 l29 y29 z29 st29 hQ29
      subst l29 y29 z29
      obtain ⟨rfl, N29q, e29⟩ := hQ29
      have N29 := Fr.app N27 N29q
      refine Go.step st29 ?_
      show Go p e below _ (T29.setTop (mkF m 157 #[.val (.int p1), .val (.int p2), .val (.int p3), .val (.int p4), .val (.int p5), .val (.int p6), .val (.int (0 : Int32)), .val (.int (2013265921 : Int32)), .val (.ref b10), .val (.ref b11), .val (.ref b12), .val (.int v14), .val (.int v15), .val (.int v16), .val (.int v17), .val (.ref b18), .val (.ref b22)] [(.int (f6 ((upA (upA (upA (upA (upA (fun _ => (0 : Int32)) 0 v14) 1 v16) 2 p6) 0 (mpF ((upA (upA (upA (fun _ => (0 : Int32)) 0 v14) 1 v16) 2 p6) 0) ((upA (upA (upA (fun _ => (0 : Int32)) 0 v15) 1 v17) 2 p6) 0) (2013265921 : Int32) (2013265919 : Int32))) 1 (mpF ((upA (upA (upA (fun _ => (0 : Int32)) 0 v14) 1 v16) 2 p6) 1) ((upA (upA (upA (fun _ => (0 : Int32)) 0 v15) 1 v17) 2 p6) 1) (2013265921 : Int32) (2013265919 : Int32))) 1) v16 v17 (2013265921 : Int32)))]))
      by_cases hc30 : (f6 ((upA (upA (upA (upA (upA (fun _ => (0 : Int32)) 0 v14) 1 v16) 2 p6) 0 (mpF ((upA (upA (upA (fun _ => (0 : Int32)) 0 v14) 1 v16) 2 p6) 0) ((upA (upA (upA (fun _ => (0 : Int32)) 0 v15) 1 v17) 2 p6) 0) (2013265921 : Int32) (2013265919 : Int32))) 1 (mpF ((upA (upA (upA (fun _ => (0 : Int32)) 0 v14) 1 v16) 2 p6) 1) ((upA (upA (upA (fun _ => (0 : Int32)) 0 v15) 1 v17) 2 p6) 1) (2013265921 : Int32) (2013265919 : Int32))) 1) v16 v17 (2013265921 : Int32)) = (0 : Int32)
      · refine Go.step (fun t k => XS.ifYes X29.here hx rfl (pc0 := 157) (pc' := 200) rfl (hb hby at_157) rfl ((if0 _ _).trans (teq hc30).1) (by decide) (by decide) k) ?_
        show Go p e below _ (T29.setTop (mkF m 200 #[.val (.int p1), .val (.int p2), .val (.int p3), .val (.int p4), .val (.int p5), .val (.int p6), .val (.int (0 : Int32)), .val (.int (2013265921 : Int32)), .val (.ref b10), .val (.ref b11), .val (.ref b12), .val (.int v14), .val (.int v15), .val (.int v16), .val (.int v17), .val (.ref b18), .val (.ref b22)] []))
        refine Go.step (fun t k => XS.iconst X29.here hx rfl (hb hby at_200)  k) ?_
        show Go p e below _ (T29.setTop (mkF m 201 #[.val (.int p1), .val (.int p2), .val (.int p3), .val (.int p4), .val (.int p5), .val (.int p6), .val (.int (0 : Int32)), .val (.int (2013265921 : Int32)), .val (.ref b10), .val (.ref b11), .val (.ref b12), .val (.int v14), .val (.int v15), .val (.int v16), .val (.int v17), .val (.ref b18), .val (.ref b22)] [(.int (0 : Int32))]))
        subst hv17
        subst hv16
        subst hv15
        subst hv14
        subst hv7
        exact retGN X29 hx Bd.notSynchronized Bd.returns (t := .boolean) (by simp) (z' := (0 : Int32)) rfl (hb hby at_201) ⟨by first | (simp only [f0, if_pos hc8, if_neg hc28, if_pos hc30]; done) | rfl | (simp [f0, if_pos hc8, if_neg hc28, if_pos hc30]; done), N29⟩ (by decide) (by decide)
      · refine Go.step (fun t k => XS.ifNo X29.here hx rfl (hb hby at_157) rfl ((if0 _ _).trans (feq hc30).1) k) ?_
        show Go p e below _ (T29.setTop (mkF m 160 #[.val (.int p1), .val (.int p2), .val (.int p3), .val (.int p4), .val (.int p5), .val (.int p6), .val (.int (0 : Int32)), .val (.int (2013265921 : Int32)), .val (.ref b10), .val (.ref b11), .val (.ref b12), .val (.int v14), .val (.int v15), .val (.int v16), .val (.int v17), .val (.ref b18), .val (.ref b22)] []))
        refine Go.step (fun t k => XS.aload X29.here hx rfl (hb hby at_160) rfl rfl k) ?_
        show Go p e below _ (T29.setTop (mkF m 162 #[.val (.int p1), .val (.int p2), .val (.int p3), .val (.int p4), .val (.int p5), .val (.int p6), .val (.int (0 : Int32)), .val (.int (2013265921 : Int32)), .val (.ref b10), .val (.ref b11), .val (.ref b12), .val (.int v14), .val (.int v15), .val (.int v16), .val (.int v17), .val (.ref b18), .val (.ref b22)] [(.ref b18)]))
        refine Go.step (fun t k => XS.iconst X29.here hx rfl (hb hby at_162)  k) ?_
        show Go p e below _ (T29.setTop (mkF m 163 #[.val (.int p1), .val (.int p2), .val (.int p3), .val (.int p4), .val (.int p5), .val (.int p6), .val (.int (0 : Int32)), .val (.int (2013265921 : Int32)), .val (.ref b10), .val (.ref b11), .val (.ref b12), .val (.int v14), .val (.int v15), .val (.int v16), .val (.int v17), .val (.ref b18), .val (.ref b22)] [(.int (2 : Int32)), (.ref b18)]))
        refine Go.step (ldI X29 hx hZ e29 Q26_0 (j := (2 : Int32)) (by decide) (by decide) (g := (mkF m 163 #[.val (.int p1), .val (.int p2), .val (.int p3), .val (.int p4), .val (.int p5), .val (.int p6), .val (.int (0 : Int32)), .val (.int (2013265921 : Int32)), .val (.ref b10), .val (.ref b11), .val (.ref b12), .val (.int v14), .val (.int v15), .val (.int v16), .val (.int v17), .val (.ref b18), .val (.ref b22)] [(.int (2 : Int32)), (.ref b18)])) rfl rfl (hb hby at_163)) ?_
        show Go p e below _ (T29.setTop (mkF m 164 #[.val (.int p1), .val (.int p2), .val (.int p3), .val (.int p4), .val (.int p5), .val (.int p6), .val (.int (0 : Int32)), .val (.int (2013265921 : Int32)), .val (.ref b10), .val (.ref b11), .val (.ref b12), .val (.int v14), .val (.int v15), .val (.int v16), .val (.int v17), .val (.ref b18), .val (.ref b22)] [(.int ((upA (upA (upA (upA (upA (fun _ => (0 : Int32)) 0 v14) 1 v16) 2 p6) 0 (mpF ((upA (upA (upA (fun _ => (0 : Int32)) 0 v14) 1 v16) 2 p6) 0) ((upA (upA (upA (fun _ => (0 : Int32)) 0 v15) 1 v17) 2 p6) 0) (2013265921 : Int32) (2013265919 : Int32))) 1 (mpF ((upA (upA (upA (fun _ => (0 : Int32)) 0 v14) 1 v16) 2 p6) 1) ((upA (upA (upA (fun _ => (0 : Int32)) 0 v15) 1 v17) 2 p6) 1) (2013265921 : Int32) (2013265919 : Int32))) 2))]))
        refine Go.step (fun t k => XS.iload X29.here hx rfl (hb hby at_164) rfl k) ?_
        show Go p e below _ (T29.setTop (mkF m 166 #[.val (.int p1), .val (.int p2), .val (.int p3), .val (.int p4), .val (.int p5), .val (.int p6), .val (.int (0 : Int32)), .val (.int (2013265921 : Int32)), .val (.ref b10), .val (.ref b11), .val (.ref b12), .val (.int v14), .val (.int v15), .val (.int v16), .val (.int v17), .val (.ref b18), .val (.ref b22)] [(.int p6), (.int ((upA (upA (upA (upA (upA (fun _ => (0 : Int32)) 0 v14) 1 v16) 2 p6) 0 (mpF ((upA (upA (upA (fun _ => (0 : Int32)) 0 v14) 1 v16) 2 p6) 0) ((upA (upA (upA (fun _ => (0 : Int32)) 0 v15) 1 v17) 2 p6) 0) (2013265921 : Int32) (2013265919 : Int32))) 1 (mpF ((upA (upA (upA (fun _ => (0 : Int32)) 0 v14) 1 v16) 2 p6) 1) ((upA (upA (upA (fun _ => (0 : Int32)) 0 v15) 1 v17) 2 p6) 1) (2013265921 : Int32) (2013265919 : Int32))) 2))]))
        by_cases hc31 : ((upA (upA (upA (upA (upA (fun _ => (0 : Int32)) 0 v14) 1 v16) 2 p6) 0 (mpF ((upA (upA (upA (fun _ => (0 : Int32)) 0 v14) 1 v16) 2 p6) 0) ((upA (upA (upA (fun _ => (0 : Int32)) 0 v15) 1 v17) 2 p6) 0) (2013265921 : Int32) (2013265919 : Int32))) 1 (mpF ((upA (upA (upA (fun _ => (0 : Int32)) 0 v14) 1 v16) 2 p6) 1) ((upA (upA (upA (fun _ => (0 : Int32)) 0 v15) 1 v17) 2 p6) 1) (2013265921 : Int32) (2013265919 : Int32))) 2) = p6
        · refine Go.step (fun t k => XS.icmpNo X29.here hx rfl (hb hby at_166) rfl (teq hc31).2 k) ?_
          show Go p e below _ (T29.setTop (mkF m 169 #[.val (.int p1), .val (.int p2), .val (.int p3), .val (.int p4), .val (.int p5), .val (.int p6), .val (.int (0 : Int32)), .val (.int (2013265921 : Int32)), .val (.ref b10), .val (.ref b11), .val (.ref b12), .val (.int v14), .val (.int v15), .val (.int v16), .val (.int v17), .val (.ref b18), .val (.ref b22)] []))
          refine Go.step (fun t k => XS.aload X29.here hx rfl (hb hby at_169) rfl rfl k) ?_
          show Go p e below _ (T29.setTop (mkF m 171 #[.val (.int p1), .val (.int p2), .val (.int p3), .val (.int p4), .val (.int p5), .val (.int p6), .val (.int (0 : Int32)), .val (.int (2013265921 : Int32)), .val (.ref b10), .val (.ref b11), .val (.ref b12), .val (.int v14), .val (.int v15), .val (.int v16), .val (.int v17), .val (.ref b18), .val (.ref b22)] [(.ref b22)]))
          refine Go.step (fun t k => XS.iconst X29.here hx rfl (hb hby at_171)  k) ?_
          show Go p e below _ (T29.setTop (mkF m 172 #[.val (.int p1), .val (.int p2), .val (.int p3), .val (.int p4), .val (.int p5), .val (.int p6), .val (.int (0 : Int32)), .val (.int (2013265921 : Int32)), .val (.ref b10), .val (.ref b11), .val (.ref b12), .val (.int v14), .val (.int v15), .val (.int v16), .val (.int v17), .val (.ref b18), .val (.ref b22)] [(.int (0 : Int32)), (.ref b22)]))
          refine Go.step (ldI X29 hx hZ e29 A_b22_26 (j := (0 : Int32)) (by decide) (by decide) (g := (mkF m 172 #[.val (.int p1), .val (.int p2), .val (.int p3), .val (.int p4), .val (.int p5), .val (.int p6), .val (.int (0 : Int32)), .val (.int (2013265921 : Int32)), .val (.ref b10), .val (.ref b11), .val (.ref b12), .val (.int v14), .val (.int v15), .val (.int v16), .val (.int v17), .val (.ref b18), .val (.ref b22)] [(.int (0 : Int32)), (.ref b22)])) rfl rfl (hb hby at_172)) ?_
          show Go p e below _ (T29.setTop (mkF m 173 #[.val (.int p1), .val (.int p2), .val (.int p3), .val (.int p4), .val (.int p5), .val (.int p6), .val (.int (0 : Int32)), .val (.int (2013265921 : Int32)), .val (.ref b10), .val (.ref b11), .val (.ref b12), .val (.int v14), .val (.int v15), .val (.int v16), .val (.int v17), .val (.ref b18), .val (.ref b22)] [(.int v15)]))
          refine Go.step (fun t k => XS.iload X29.here hx rfl (hb hby at_173) rfl k) ?_
          show Go p e below _ (T29.setTop (mkF m 175 #[.val (.int p1), .val (.int p2), .val (.int p3), .val (.int p4), .val (.int p5), .val (.int p6), .val (.int (0 : Int32)), .val (.int (2013265921 : Int32)), .val (.ref b10), .val (.ref b11), .val (.ref b12), .val (.int v14), .val (.int v15), .val (.int v16), .val (.int v17), .val (.ref b18), .val (.ref b22)] [(.int v15), (.int v15)]))
          refine Go.step (fun t k => XS.icmpNo X29.here hx rfl (hb hby at_175) rfl (teq (rfl : v15 = v15)).2 k) ?_
          show Go p e below _ (T29.setTop (mkF m 178 #[.val (.int p1), .val (.int p2), .val (.int p3), .val (.int p4), .val (.int p5), .val (.int p6), .val (.int (0 : Int32)), .val (.int (2013265921 : Int32)), .val (.ref b10), .val (.ref b11), .val (.ref b12), .val (.int v14), .val (.int v15), .val (.int v16), .val (.int v17), .val (.ref b18), .val (.ref b22)] []))
          refine Go.step (fun t k => XS.aload X29.here hx rfl (hb hby at_178) rfl rfl k) ?_
          show Go p e below _ (T29.setTop (mkF m 180 #[.val (.int p1), .val (.int p2), .val (.int p3), .val (.int p4), .val (.int p5), .val (.int p6), .val (.int (0 : Int32)), .val (.int (2013265921 : Int32)), .val (.ref b10), .val (.ref b11), .val (.ref b12), .val (.int v14), .val (.int v15), .val (.int v16), .val (.int v17), .val (.ref b18), .val (.ref b22)] [(.ref b22)]))
          refine Go.step (fun t k => XS.iconst X29.here hx rfl (hb hby at_180)  k) ?_
          show Go p e below _ (T29.setTop (mkF m 181 #[.val (.int p1), .val (.int p2), .val (.int p3), .val (.int p4), .val (.int p5), .val (.int p6), .val (.int (0 : Int32)), .val (.int (2013265921 : Int32)), .val (.ref b10), .val (.ref b11), .val (.ref b12), .val (.int v14), .val (.int v15), .val (.int v16), .val (.int v17), .val (.ref b18), .val (.ref b22)] [(.int (1 : Int32)), (.ref b22)]))
          refine Go.step (ldI X29 hx hZ e29 A_b22_26 (j := (1 : Int32)) (by decide) (by decide) (g := (mkF m 181 #[.val (.int p1), .val (.int p2), .val (.int p3), .val (.int p4), .val (.int p5), .val (.int p6), .val (.int (0 : Int32)), .val (.int (2013265921 : Int32)), .val (.ref b10), .val (.ref b11), .val (.ref b12), .val (.int v14), .val (.int v15), .val (.int v16), .val (.int v17), .val (.ref b18), .val (.ref b22)] [(.int (1 : Int32)), (.ref b22)])) rfl rfl (hb hby at_181)) ?_
          show Go p e below _ (T29.setTop (mkF m 182 #[.val (.int p1), .val (.int p2), .val (.int p3), .val (.int p4), .val (.int p5), .val (.int p6), .val (.int (0 : Int32)), .val (.int (2013265921 : Int32)), .val (.ref b10), .val (.ref b11), .val (.ref b12), .val (.int v14), .val (.int v15), .val (.int v16), .val (.int v17), .val (.ref b18), .val (.ref b22)] [(.int v17)]))
          refine Go.step (fun t k => XS.iload X29.here hx rfl (hb hby at_182) rfl k) ?_
          show Go p e below _ (T29.setTop (mkF m 184 #[.val (.int p1), .val (.int p2), .val (.int p3), .val (.int p4), .val (.int p5), .val (.int p6), .val (.int (0 : Int32)), .val (.int (2013265921 : Int32)), .val (.ref b10), .val (.ref b11), .val (.ref b12), .val (.int v14), .val (.int v15), .val (.int v16), .val (.int v17), .val (.ref b18), .val (.ref b22)] [(.int v17), (.int v17)]))
          refine Go.step (fun t k => XS.icmpNo X29.here hx rfl (hb hby at_184) rfl (teq (rfl : v17 = v17)).2 k) ?_
          show Go p e below _ (T29.setTop (mkF m 187 #[.val (.int p1), .val (.int p2), .val (.int p3), .val (.int p4), .val (.int p5), .val (.int p6), .val (.int (0 : Int32)), .val (.int (2013265921 : Int32)), .val (.ref b10), .val (.ref b11), .val (.ref b12), .val (.int v14), .val (.int v15), .val (.int v16), .val (.int v17), .val (.ref b18), .val (.ref b22)] []))
          refine Go.step (fun t k => XS.aload X29.here hx rfl (hb hby at_187) rfl rfl k) ?_
          show Go p e below _ (T29.setTop (mkF m 189 #[.val (.int p1), .val (.int p2), .val (.int p3), .val (.int p4), .val (.int p5), .val (.int p6), .val (.int (0 : Int32)), .val (.int (2013265921 : Int32)), .val (.ref b10), .val (.ref b11), .val (.ref b12), .val (.int v14), .val (.int v15), .val (.int v16), .val (.int v17), .val (.ref b18), .val (.ref b22)] [(.ref b22)]))
          refine Go.step (fun t k => XS.iconst X29.here hx rfl (hb hby at_189)  k) ?_
          show Go p e below _ (T29.setTop (mkF m 190 #[.val (.int p1), .val (.int p2), .val (.int p3), .val (.int p4), .val (.int p5), .val (.int p6), .val (.int (0 : Int32)), .val (.int (2013265921 : Int32)), .val (.ref b10), .val (.ref b11), .val (.ref b12), .val (.int v14), .val (.int v15), .val (.int v16), .val (.int v17), .val (.ref b18), .val (.ref b22)] [(.int (2 : Int32)), (.ref b22)]))
          refine Go.step (ldI X29 hx hZ e29 A_b22_26 (j := (2 : Int32)) (by decide) (by decide) (g := (mkF m 190 #[.val (.int p1), .val (.int p2), .val (.int p3), .val (.int p4), .val (.int p5), .val (.int p6), .val (.int (0 : Int32)), .val (.int (2013265921 : Int32)), .val (.ref b10), .val (.ref b11), .val (.ref b12), .val (.int v14), .val (.int v15), .val (.int v16), .val (.int v17), .val (.ref b18), .val (.ref b22)] [(.int (2 : Int32)), (.ref b22)])) rfl rfl (hb hby at_190)) ?_
          show Go p e below _ (T29.setTop (mkF m 191 #[.val (.int p1), .val (.int p2), .val (.int p3), .val (.int p4), .val (.int p5), .val (.int p6), .val (.int (0 : Int32)), .val (.int (2013265921 : Int32)), .val (.ref b10), .val (.ref b11), .val (.ref b12), .val (.int v14), .val (.int v15), .val (.int v16), .val (.int v17), .val (.ref b18), .val (.ref b22)] [(.int p6)]))
          refine Go.step (fun t k => XS.iload X29.here hx rfl (hb hby at_191) rfl k) ?_
          show Go p e below _ (T29.setTop (mkF m 193 #[.val (.int p1), .val (.int p2), .val (.int p3), .val (.int p4), .val (.int p5), .val (.int p6), .val (.int (0 : Int32)), .val (.int (2013265921 : Int32)), .val (.ref b10), .val (.ref b11), .val (.ref b12), .val (.int v14), .val (.int v15), .val (.int v16), .val (.int v17), .val (.ref b18), .val (.ref b22)] [(.int p6), (.int p6)]))
          refine Go.step (fun t k => XS.icmpNo X29.here hx rfl (hb hby at_193) rfl (teq (rfl : p6 = p6)).2 k) ?_
          show Go p e below _ (T29.setTop (mkF m 196 #[.val (.int p1), .val (.int p2), .val (.int p3), .val (.int p4), .val (.int p5), .val (.int p6), .val (.int (0 : Int32)), .val (.int (2013265921 : Int32)), .val (.ref b10), .val (.ref b11), .val (.ref b12), .val (.int v14), .val (.int v15), .val (.int v16), .val (.int v17), .val (.ref b18), .val (.ref b22)] []))
          refine Go.step (fun t k => XS.iconst X29.here hx rfl (hb hby at_196)  k) ?_
          show Go p e below _ (T29.setTop (mkF m 197 #[.val (.int p1), .val (.int p2), .val (.int p3), .val (.int p4), .val (.int p5), .val (.int p6), .val (.int (0 : Int32)), .val (.int (2013265921 : Int32)), .val (.ref b10), .val (.ref b11), .val (.ref b12), .val (.int v14), .val (.int v15), .val (.int v16), .val (.int v17), .val (.ref b18), .val (.ref b22)] [(.int (1 : Int32))]))
          refine Go.step (fun t k => XS.goto X29.here hx rfl (pc0 := 197) (pc' := 201) rfl (hb hby at_197) (by decide) (by decide) k) ?_
          show Go p e below _ (T29.setTop (mkF m 201 #[.val (.int p1), .val (.int p2), .val (.int p3), .val (.int p4), .val (.int p5), .val (.int p6), .val (.int (0 : Int32)), .val (.int (2013265921 : Int32)), .val (.ref b10), .val (.ref b11), .val (.ref b12), .val (.int v14), .val (.int v15), .val (.int v16), .val (.int v17), .val (.ref b18), .val (.ref b22)] [(.int (1 : Int32))]))
          subst hv17
          subst hv16
          subst hv15
          subst hv14
          subst hv7
          exact retGN X29 hx Bd.notSynchronized Bd.returns (t := .boolean) (by simp) (z' := (1 : Int32)) rfl (hb hby at_201) ⟨by first | (simp only [f0, if_pos hc8, if_neg hc28, if_neg hc30, if_pos hc31]; done) | rfl | (simp [f0, if_pos hc8, if_neg hc28, if_neg hc30, if_pos hc31]; done), N29⟩ (by decide) (by decide)
        · refine Go.step (fun t k => XS.icmpYes X29.here hx rfl (pc0 := 166) (pc' := 200) rfl (hb hby at_166) rfl (feq hc31).2 (by decide) (by decide) k) ?_
          show Go p e below _ (T29.setTop (mkF m 200 #[.val (.int p1), .val (.int p2), .val (.int p3), .val (.int p4), .val (.int p5), .val (.int p6), .val (.int (0 : Int32)), .val (.int (2013265921 : Int32)), .val (.ref b10), .val (.ref b11), .val (.ref b12), .val (.int v14), .val (.int v15), .val (.int v16), .val (.int v17), .val (.ref b18), .val (.ref b22)] []))
          refine Go.step (fun t k => XS.iconst X29.here hx rfl (hb hby at_200)  k) ?_
          show Go p e below _ (T29.setTop (mkF m 201 #[.val (.int p1), .val (.int p2), .val (.int p3), .val (.int p4), .val (.int p5), .val (.int p6), .val (.int (0 : Int32)), .val (.int (2013265921 : Int32)), .val (.ref b10), .val (.ref b11), .val (.ref b12), .val (.int v14), .val (.int v15), .val (.int v16), .val (.int v17), .val (.ref b18), .val (.ref b22)] [(.int (0 : Int32))]))
          subst hv17
          subst hv16
          subst hv15
          subst hv14
          subst hv7
          exact retGN X29 hx Bd.notSynchronized Bd.returns (t := .boolean) (by simp) (z' := (0 : Int32)) rfl (hb hby at_201) ⟨by first | (simp only [f0, if_pos hc8, if_neg hc28, if_neg hc30, if_neg hc31]; done) | rfl | (simp [f0, if_pos hc8, if_neg hc28, if_neg hc30, if_neg hc31]; done), N29⟩ (by decide) (by decide)
  · skip
    by_cases hc32 : v7 = (1 : Int32)
    · rw [hc32]
      show Go p e below _ (s₁.setTop (mkF m 8 #[.val (.int p1), .val (.int p2), .val (.int p3), .val (.int p4), .val (.int p5), .val (.int p6), .val (.int (1 : Int32)), .unset, .unset, .unset, .unset, .unset, .unset, .unset, .unset, .unset, .unset] []))
      obtain ⟨T33, X33, e33, st33⟩ := getS2 X0 hx hZ hown (host := "") (Or.inl (hw _ (List.mem_of_getElem? (i := 1) rfl))) Via.refl e0 (S_PRIMES.ext hO.2) (g := (mkF m 8 #[.val (.int p1), .val (.int p2), .val (.int p3), .val (.int p4), .val (.int p5), .val (.int p6), .val (.int (1 : Int32)), .unset, .unset, .unset, .unset, .unset, .unset, .unset, .unset, .unset, .unset] [])) rfl (hb hby at_8)
      refine Go.step st33 ?_
      show Go p e below _ (T33.setTop (mkF m 11 #[.val (.int p1), .val (.int p2), .val (.int p3), .val (.int p4), .val (.int p5), .val (.int p6), .val (.int (1 : Int32)), .unset, .unset, .unset, .unset, .unset, .unset, .unset, .unset, .unset, .unset] [(.ref oP)]))
      refine Go.step (fun t k => XS.iload X33.here hx rfl (hb hby at_11) rfl k) ?_
      show Go p e below _ (T33.setTop (mkF m 13 #[.val (.int p1), .val (.int p2), .val (.int p3), .val (.int p4), .val (.int p5), .val (.int p6), .val (.int (1 : Int32)), .unset, .unset, .unset, .unset, .unset, .unset, .unset, .unset, .unset, .unset] [(.int (1 : Int32)), (.ref oP)]))
      refine Go.step (ldI X33 hx hZ e33 (A_PRIMES.ext hO.2) (j := (1 : Int32)) (by decide) (by decide) (g := (mkF m 13 #[.val (.int p1), .val (.int p2), .val (.int p3), .val (.int p4), .val (.int p5), .val (.int p6), .val (.int (1 : Int32)), .unset, .unset, .unset, .unset, .unset, .unset, .unset, .unset, .unset, .unset] [(.int (1 : Int32)), (.ref oP)])) rfl rfl (hb hby at_13)) ?_
      show Go p e below _ (T33.setTop (mkF m 14 #[.val (.int p1), .val (.int p2), .val (.int p3), .val (.int p4), .val (.int p5), .val (.int p6), .val (.int (1 : Int32)), .unset, .unset, .unset, .unset, .unset, .unset, .unset, .unset, .unset, .unset] [(.int (1811939329 : Int32))]))
      refine Go.step (fun t k => XS.istore X33.here hx rfl (hb hby at_14) rfl (l' := #[.val (.int p1), .val (.int p2), .val (.int p3), .val (.int p4), .val (.int p5), .val (.int p6), .val (.int (1 : Int32)), .val (.int (1811939329 : Int32)), .unset, .unset, .unset, .unset, .unset, .unset, .unset, .unset, .unset]) rfl k) ?_
      show Go p e below _ (T33.setTop (mkF m 16 #[.val (.int p1), .val (.int p2), .val (.int p3), .val (.int p4), .val (.int p5), .val (.int p6), .val (.int (1 : Int32)), .val (.int (1811939329 : Int32)), .unset, .unset, .unset, .unset, .unset, .unset, .unset, .unset, .unset] []))
      refine Go.step (fun t k => XS.iconst X33.here hx rfl (hb hby at_16)  k) ?_
      show Go p e below _ (T33.setTop (mkF m 17 #[.val (.int p1), .val (.int p2), .val (.int p3), .val (.int p4), .val (.int p5), .val (.int p6), .val (.int (1 : Int32)), .val (.int (1811939329 : Int32)), .unset, .unset, .unset, .unset, .unset, .unset, .unset, .unset, .unset] [(.int (1 : Int32))]))
      obtain ⟨T34, h34, k34, X34, e34, E34, A34, st34⟩ := newP X33 hx hZ (hw _ (List.mem_of_getElem? (i := 4) rfl)) e33 (g := (mkF m 17 #[.val (.int p1), .val (.int p2), .val (.int p3), .val (.int p4), .val (.int p5), .val (.int p6), .val (.int (1 : Int32)), .val (.int (1811939329 : Int32)), .unset, .unset, .unset, .unset, .unset, .unset, .unset, .unset, .unset] [(.int (1 : Int32))])) rfl (hb hby at_17) rfl (by decide) (cap := 1) (by decide) (by decide) (by decide) (by decide)
      obtain ⟨b34, g34⟩ : ∃ z, z = h0.size := ⟨_, rfl⟩
      rw [← g34] at A34 st34
      have g_b34 : n0 ≤ b34 := Nat.le_trans Z0 (Nat.le_of_eq g34.symm)
      have sz_b34 : h0.size ≤ b34 := Nat.le_trans KK0.1 (Nat.le_of_eq g34.symm)
      refine Go.step st34 ?_
      have O34 := hO.ext E34
      have Z34 := Nat.le_trans Z0 E34.1
      have KK34 : Keep h0 h34 [] := KK0.ext E34
      have A_b34_34 : Ary Z h34 b34 .int 1 (fun i => .int ((fun _ => (0 : Int32)) i)) := Ary.mk A34 (by decide) (by decide)
      show Go p e below _ (T34.setTop (mkF m 19 #[.val (.int p1), .val (.int p2), .val (.int p3), .val (.int p4), .val (.int p5), .val (.int p6), .val (.int (1 : Int32)), .val (.int (1811939329 : Int32)), .unset, .unset, .unset, .unset, .unset, .unset, .unset, .unset, .unset] [(.ref b34)]))
      refine Go.step (fun t k => XS.astore X34.here hx rfl (hb hby at_19) rfl rfl (l' := #[.val (.int p1), .val (.int p2), .val (.int p3), .val (.int p4), .val (.int p5), .val (.int p6), .val (.int (1 : Int32)), .val (.int (1811939329 : Int32)), .val (.ref b34), .unset, .unset, .unset, .unset, .unset, .unset, .unset, .unset]) rfl k) ?_
      show Go p e below _ (T34.setTop (mkF m 21 #[.val (.int p1), .val (.int p2), .val (.int p3), .val (.int p4), .val (.int p5), .val (.int p6), .val (.int (1 : Int32)), .val (.int (1811939329 : Int32)), .val (.ref b34), .unset, .unset, .unset, .unset, .unset, .unset, .unset, .unset] []))
      refine Go.step (fun t k => XS.iconst X34.here hx rfl (hb hby at_21)  k) ?_
      show Go p e below _ (T34.setTop (mkF m 22 #[.val (.int p1), .val (.int p2), .val (.int p3), .val (.int p4), .val (.int p5), .val (.int p6), .val (.int (1 : Int32)), .val (.int (1811939329 : Int32)), .val (.ref b34), .unset, .unset, .unset, .unset, .unset, .unset, .unset, .unset] [(.int (1 : Int32))]))
      obtain ⟨T35, h35, k35, X35, e35, E35, A35, st35⟩ := newP X34 hx hZ (hw _ (List.mem_of_getElem? (i := 4) rfl)) e34 (g := (mkF m 22 #[.val (.int p1), .val (.int p2), .val (.int p3), .val (.int p4), .val (.int p5), .val (.int p6), .val (.int (1 : Int32)), .val (.int (1811939329 : Int32)), .val (.ref b34), .unset, .unset, .unset, .unset, .unset, .unset, .unset, .unset] [(.int (1 : Int32))])) rfl (hb hby at_22) rfl (by decide) (cap := 1) (by decide) (by decide) (by decide) (by decide)
      obtain ⟨b35, g35⟩ : ∃ z, z = h34.size := ⟨_, rfl⟩
      rw [← g35] at A35 st35
      have g_b35 : n0 ≤ b35 := Nat.le_trans Z34 (Nat.le_of_eq g35.symm)
      have sz_b35 : h0.size ≤ b35 := Nat.le_trans KK34.1 (Nat.le_of_eq g35.symm)
      have ne_b34_b35 : b34 ≠ b35 := Nat.ne_of_lt (Nat.lt_of_lt_of_le A_b34_34.lt (Nat.le_of_eq g35.symm))
      refine Go.step st35 ?_
      have A_b34_35 := A_b34_34.ext E35
      have O35 := O34.ext E35
      have Z35 := Nat.le_trans Z34 E35.1
      have KK35 : Keep h0 h35 [] := KK34.ext E35
      have A_b35_35 : Ary Z h35 b35 .int 1 (fun i => .int ((fun _ => (0 : Int32)) i)) := Ary.mk A35 (by decide) (by decide)
      show Go p e below _ (T35.setTop (mkF m 24 #[.val (.int p1), .val (.int p2), .val (.int p3), .val (.int p4), .val (.int p5), .val (.int p6), .val (.int (1 : Int32)), .val (.int (1811939329 : Int32)), .val (.ref b34), .unset, .unset, .unset, .unset, .unset, .unset, .unset, .unset] [(.ref b35)]))
      refine Go.step (fun t k => XS.astore X35.here hx rfl (hb hby at_24) rfl rfl (l' := #[.val (.int p1), .val (.int p2), .val (.int p3), .val (.int p4), .val (.int p5), .val (.int p6), .val (.int (1 : Int32)), .val (.int (1811939329 : Int32)), .val (.ref b34), .val (.ref b35), .unset, .unset, .unset, .unset, .unset, .unset, .unset]) rfl k) ?_
      show Go p e below _ (T35.setTop (mkF m 26 #[.val (.int p1), .val (.int p2), .val (.int p3), .val (.int p4), .val (.int p5), .val (.int p6), .val (.int (1 : Int32)), .val (.int (1811939329 : Int32)), .val (.ref b34), .val (.ref b35), .unset, .unset, .unset, .unset, .unset, .unset, .unset] []))
      obtain ⟨T36, h36, X36, e36, E36, A36, D36, -, st36⟩ := newO X35 hx hZ hown (hw _ (List.mem_of_getElem? (i := 5) rfl)) (hw _ (List.mem_of_getElem? (i := 6) rfl)) (hw _ (List.mem_of_getElem? (i := 2) rfl)) e35 (g := (mkF m 26 #[.val (.int p1), .val (.int p2), .val (.int p3), .val (.int p4), .val (.int p5), .val (.int p6), .val (.int (1 : Int32)), .val (.int (1811939329 : Int32)), .val (.ref b34), .val (.ref b35), .unset, .unset, .unset, .unset, .unset, .unset, .unset] [])) rfl (hb hby at_26) (by decide) (by decide)
      obtain ⟨b36, g36⟩ : ∃ z, z = h35.size := ⟨_, rfl⟩
      rw [← g36] at A36 D36 st36
      have g_b36 : n0 ≤ b36 := Nat.le_trans Z35 (Nat.le_of_eq g36.symm)
      have sz_b36 : h0.size ≤ b36 := Nat.le_trans KK35.1 (Nat.le_of_eq g36.symm)
      have ne_b34_b36 : b34 ≠ b36 := Nat.ne_of_lt (Nat.lt_of_lt_of_le A_b34_35.lt (Nat.le_of_eq g36.symm))
      have ne_b35_b36 : b35 ≠ b36 := Nat.ne_of_lt (Nat.lt_of_lt_of_le A_b35_35.lt (Nat.le_of_eq g36.symm))
      refine Go.step st36 ?_
      have A_b34_36 := A_b34_35.ext E36
      have A_b35_36 := A_b35_35.ext E36
      have O36 := O35.ext E36
      have Z36 := Nat.le_trans Z35 E36.1
      have KK36 : Keep h0 h36 [] := KK35.ext E36
      have F_prime_b36 : Fld Z h36 b36 "com/example/tinwire/tinwire/json/Transform" "prime" "I" (.int (0 : Int32)) := D36 (Or.inr (hw _ (List.mem_of_getElem? (i := 15) rfl))) (ty := .int) (by decide)
      have F_length_b36 : Fld Z h36 b36 "com/example/tinwire/tinwire/json/Transform" "length" "I" (.int (0 : Int32)) := D36 (Or.inr (hw _ (List.mem_of_getElem? (i := 17) rfl))) (ty := .int) (by decide)
      have F_roots_b36 : Fld Z h36 b36 "com/example/tinwire/tinwire/json/Transform" "roots" "[I" .null := D36 (Or.inr (hw _ (List.mem_of_getElem? (i := 19) rfl))) (ty := (.array .int)) (by decide)
      have F_rootQuotients_b36 : Fld Z h36 b36 "com/example/tinwire/tinwire/json/Transform" "rootQuotients" "[I" .null := D36 (Or.inr (hw _ (List.mem_of_getElem? (i := 21) rfl))) (ty := (.array .int)) (by decide)
      have F_outerRoot_b36 : Fld Z h36 b36 "com/example/tinwire/tinwire/json/Transform" "outerRoot" "I" (.int (0 : Int32)) := D36 (Or.inr (hw _ (List.mem_of_getElem? (i := 28) rfl))) (ty := .int) (by decide)
      have F_outerRootQuotient_b36 : Fld Z h36 b36 "com/example/tinwire/tinwire/json/Transform" "outerRootQuotient" "I" (.int (0 : Int32)) := D36 (Or.inr (hw _ (List.mem_of_getElem? (i := 33) rfl))) (ty := .int) (by decide)
      have F_negativeInverse_b36 : Fld Z h36 b36 "com/example/tinwire/tinwire/json/Transform" "negativeInverse" "I" (.int (0 : Int32)) := D36 (Or.inr (hw _ (List.mem_of_getElem? (i := 35) rfl))) (ty := .int) (by decide)
      have F_scale_b36 : Fld Z h36 b36 "com/example/tinwire/tinwire/json/Transform" "scale" "I" (.int (0 : Int32)) := D36 (Or.inr (hw _ (List.mem_of_getElem? (i := 39) rfl))) (ty := .int) (by decide)
      have F_scaleQuotient_b36 : Fld Z h36 b36 "com/example/tinwire/tinwire/json/Transform" "scaleQuotient" "I" (.int (0 : Int32)) := D36 (Or.inr (hw _ (List.mem_of_getElem? (i := 41) rfl))) (ty := .int) (by decide)
      show Go p e below _ (T36.setTop (mkF m 29 #[.val (.int p1), .val (.int p2), .val (.int p3), .val (.int p4), .val (.int p5), .val (.int p6), .val (.int (1 : Int32)), .val (.int (1811939329 : Int32)), .val (.ref b34), .val (.ref b35), .unset, .unset, .unset, .unset, .unset, .unset, .unset] [(.ref b36)]))
      refine Go.step (fun t k => XS.dup X36.here hx rfl (hb hby at_29) rfl rfl k) ?_
      show Go p e below _ (T36.setTop (mkF m 30 #[.val (.int p1), .val (.int p2), .val (.int p3), .val (.int p4), .val (.int p5), .val (.int p6), .val (.int (1 : Int32)), .val (.int (1811939329 : Int32)), .val (.ref b34), .val (.ref b35), .unset, .unset, .unset, .unset, .unset, .unset, .unset] [(.ref b36), (.ref b36)]))
      refine Go.step (fun t k => XS.iload X36.here hx rfl (hb hby at_30) rfl k) ?_
      show Go p e below _ (T36.setTop (mkF m 32 #[.val (.int p1), .val (.int p2), .val (.int p3), .val (.int p4), .val (.int p5), .val (.int p6), .val (.int (1 : Int32)), .val (.int (1811939329 : Int32)), .val (.ref b34), .val (.ref b35), .unset, .unset, .unset, .unset, .unset, .unset, .unset] [(.int (1 : Int32)), (.ref b36), (.ref b36)]))
      refine Go.step (fun t k => XS.iconst X36.here hx rfl (hb hby at_32)  k) ?_
      show Go p e below _ (T36.setTop (mkF m 33 #[.val (.int p1), .val (.int p2), .val (.int p3), .val (.int p4), .val (.int p5), .val (.int p6), .val (.int (1 : Int32)), .val (.int (1811939329 : Int32)), .val (.ref b34), .val (.ref b35), .unset, .unset, .unset, .unset, .unset, .unset, .unset] [(.int (2 : Int32)), (.int (1 : Int32)), (.ref b36), (.ref b36)]))
      refine Go.step (fun t k => XS.aload X36.here hx rfl (hb hby at_33) rfl rfl k) ?_
      show Go p e below _ (T36.setTop (mkF m 35 #[.val (.int p1), .val (.int p2), .val (.int p3), .val (.int p4), .val (.int p5), .val (.int p6), .val (.int (1 : Int32)), .val (.int (1811939329 : Int32)), .val (.ref b34), .val (.ref b35), .unset, .unset, .unset, .unset, .unset, .unset, .unset] [(.ref b34), (.int (2 : Int32)), (.int (1 : Int32)), (.ref b36), (.ref b36)]))
      refine Go.step (fun t k => XS.aload X36.here hx rfl (hb hby at_35) rfl rfl k) ?_
      show Go p e below _ (T36.setTop (mkF m 37 #[.val (.int p1), .val (.int p2), .val (.int p3), .val (.int p4), .val (.int p5), .val (.int p6), .val (.int (1 : Int32)), .val (.int (1811939329 : Int32)), .val (.ref b34), .val (.ref b35), .unset, .unset, .unset, .unset, .unset, .unset, .unset] [(.ref b35), (.ref b34), (.int (2 : Int32)), (.int (1 : Int32)), (.ref b36), (.ref b36)]))
      obtain ⟨_, _, ⟨T37, L37, k37, n37⟩, -, X37, ⟨Lc37, hQ37, l37, y37, z37⟩, st37⟩ := X36.specialBack hx (y := (⟨"com/example/tinwire/tinwire/json/Transform", "<init>", "(II[I[I)V"⟩ : MethodName)) rfl hown (mvT hZ (hw _ (List.mem_of_getElem? (i := 7) rfl))) (mvT hZ (hw _ (List.mem_of_getElem? (i := 8) rfl))) (mvT hZ (hw _ (List.mem_of_getElem? (i := 9) rfl))) (by decide) (backOf (W := 1) (rm1_1 l Z a0 hw [] b36 b34 b35 (fun _ => (0 : Int32)) (fun _ => (0 : Int32)) (.int (0 : Int32)) .null .null (.int (0 : Int32)) (.int (0 : Int32)) (.int (0 : Int32)) (.int (0 : Int32)) (.int (0 : Int32)) oP (.int (0 : Int32)) oG h36 n0 Z36 A_b34_36 A_b35_36 F_length_b36 F_roots_b36 F_rootQuotients_b36 F_outerRoot_b36 F_outerRootQuotient_b36 F_negativeInverse_b36 F_scale_b36 F_scaleQuotient_b36 S_PRIMES A_PRIMES O36 A36 F_prime_b36 g_b36 ne_b34_b36 ne_b35_b36 S_GENERATORS A_GENERATORS g_b34 (Ne.symm ne_b34_b35) (Ne.symm ne_b34_b36) g_b35 (Ne.symm ne_b35_b36) ne_b34_b35) hZ (hw _ (List.mem_of_getElem? (i := 9) rfl)) (hw _ (List.mem_of_getElem? (i := 2) rfl)) (by decide) (by decide)) (g := (mkF m 37 #[.val (.int p1), .val (.int p2), .val (.int p3), .val (.int p4), .val (.int p5), .val (.int p6), .val (.int (1 : Int32)), .val (.int (1811939329 : Int32)), .val (.ref b34), .val (.ref b35), .unset, .unset, .unset, .unset, .unset, .unset, .unset] [(.ref b35), (.ref b34), (.int (2 : Int32)), (.int (1 : Int32)), (.ref b36), (.ref b36)])) rfl (by rw [hml]; rfl) (Steps.refl _) (a := b36) (argsL := [(.int (1 : Int32)), (.int (2 : Int32)), (.ref b34), (.ref b35)]) (rest := [(.ref b36)]) (lenOf pd_2 rfl) rfl (by show 2 * 0 + _ ≤ _; exact Nat.le_of_eq rfl) (hb hby at_37) (fun _ _ => ⟨rfl, e36, (by decide : 3 + 0 ≤ _), (by decide : 11 + 0 ≤ _)⟩)
      dsimp only [Pt.U, Pt.locs, Pt.cells, Pt.slots] at X37 l37 y37 z37 st37 hQ37
      subst l37 y37 z37
      obtain ⟨rfl, N37q, K37, Q37_0, Q37_1, Q37_2, Q37_3⟩ := hQ37
      have N37 := Fr.app N0 N37q
      have E_b36_37 := A36.keep K37
      have O37 := O36.keep K37 (allS g_b36 (allS g_b34 (allS g_b35 all0)))
      have Z37 := Nat.le_trans Z36 K37.1
      have KK37 : Keep h0 T37.heap [] := KK36.trans K37 (allS (Or.inr sz_b36) (allS (Or.inr sz_b34) (allS (Or.inr sz_b35) all0)))
      refine Go.trans st37 ?_
      show Go p e below _ (T37.setTop (mkF m 40 #[.val (.int p1), .val (.int p2), .val (.int p3), .val (.int p4), .val (.int p5), .val (.int p6), .val (.int (1 : Int32)), .val (.int (1811939329 : Int32)), .val (.ref b34), .val (.ref b35), .unset, .unset, .unset, .unset, .unset, .unset, .unset] [(.ref b36)]))
      refine Go.step (fun t k => XS.astore X37.here hx rfl (hb hby at_40) rfl rfl (l' := #[.val (.int p1), .val (.int p2), .val (.int p3), .val (.int p4), .val (.int p5), .val (.int p6), .val (.int (1 : Int32)), .val (.int (1811939329 : Int32)), .val (.ref b34), .val (.ref b35), .val (.ref b36), .unset, .unset, .unset, .unset, .unset, .unset]) rfl k) ?_
      show Go p e below _ (T37.setTop (mkF m 42 #[.val (.int p1), .val (.int p2), .val (.int p3), .val (.int p4), .val (.int p5), .val (.int p6), .val (.int (1 : Int32)), .val (.int (1811939329 : Int32)), .val (.ref b34), .val (.ref b35), .val (.ref b36), .unset, .unset, .unset, .unset, .unset, .unset] []))
      refine Go.step (fun t k => XS.iloadN X37.here hx rfl (hb hby at_42) rfl k) ?_
      show Go p e below _ (T37.setTop (mkF m 43 #[.val (.int p1), .val (.int p2), .val (.int p3), .val (.int p4), .val (.int p5), .val (.int p6), .val (.int (1 : Int32)), .val (.int (1811939329 : Int32)), .val (.ref b34), .val (.ref b35), .val (.ref b36), .unset, .unset, .unset, .unset, .unset, .unset] [(.int p2)]))
      refine Go.step (X37.ldcInt hx hown (mvT hZ (hw _ (List.mem_of_getElem? (i := 0) rfl))) (g := (mkF m 43 #[.val (.int p1), .val (.int p2), .val (.int p3), .val (.int p4), .val (.int p5), .val (.int p6), .val (.int (1 : Int32)), .val (.int (1811939329 : Int32)), .val (.ref b34), .val (.ref b35), .val (.ref b36), .unset, .unset, .unset, .unset, .unset, .unset] [(.int p2)])) rfl (hb hby at_43)) ?_
      show Go p e below _ (T37.setTop (mkF m 45 #[.val (.int p1), .val (.int p2), .val (.int p3), .val (.int p4), .val (.int p5), .val (.int p6), .val (.int (1 : Int32)), .val (.int (1811939329 : Int32)), .val (.ref b34), .val (.ref b35), .val (.ref b36), .unset, .unset, .unset, .unset, .unset, .unset] [(.int (2147483647 : Int32)), (.int p2)]))
      refine Go.step (fun t k => XS.iand X37.here hx rfl (hb hby at_45) rfl k) ?_
      show Go p e below _ (T37.setTop (mkF m 46 #[.val (.int p1), .val (.int p2), .val (.int p3), .val (.int p4), .val (.int p5), .val (.int p6), .val (.int (1 : Int32)), .val (.int (1811939329 : Int32)), .val (.ref b34), .val (.ref b35), .val (.ref b36), .unset, .unset, .unset, .unset, .unset, .unset] [(.int (p2 &&& (2147483647 : Int32)))]))
      refine Go.step (fun t k => XS.iload X37.here hx rfl (hb hby at_46) rfl k) ?_
      show Go p e below _ (T37.setTop (mkF m 48 #[.val (.int p1), .val (.int p2), .val (.int p3), .val (.int p4), .val (.int p5), .val (.int p6), .val (.int (1 : Int32)), .val (.int (1811939329 : Int32)), .val (.ref b34), .val (.ref b35), .val (.ref b36), .unset, .unset, .unset, .unset, .unset, .unset] [(.int (1811939329 : Int32)), (.int (p2 &&& (2147483647 : Int32)))]))
      refine Go.step (fun t (k : Steps p.tables e below (T37.setTop (mkF m 49 #[.val (.int p1), .val (.int p2), .val (.int p3), .val (.int p4), .val (.int p5), .val (.int p6), .val (.int (1 : Int32)), .val (.int (1811939329 : Int32)), .val (.ref b34), .val (.ref b35), .val (.ref b36), .unset, .unset, .unset, .unset, .unset, .unset] [(.int ((p2 &&& (2147483647 : Int32)) % (1811939329 : Int32)))])) t) => XS.irem X37.here hx rfl (hb hby at_48) rfl (by decide) (by rw [remI]; exact k)) ?_
      show Go p e below _ (T37.setTop (mkF m 49 #[.val (.int p1), .val (.int p2), .val (.int p3), .val (.int p4), .val (.int p5), .val (.int p6), .val (.int (1 : Int32)), .val (.int (1811939329 : Int32)), .val (.ref b34), .val (.ref b35), .val (.ref b36), .unset, .unset, .unset, .unset, .unset, .unset] [(.int ((p2 &&& (2147483647 : Int32)) % (1811939329 : Int32)))]))
      obtain ⟨v38, hv38⟩ : ∃ z : Int32, z = ((p2 &&& (2147483647 : Int32)) % (1811939329 : Int32)) := ⟨_, rfl⟩
      rw [← hv38]
      show Go p e below _ (T37.setTop (mkF m 49 #[.val (.int p1), .val (.int p2), .val (.int p3), .val (.int p4), .val (.int p5), .val (.int p6), .val (.int (1 : Int32)), .val (.int (1811939329 : Int32)), .val (.ref b34), .val (.ref b35), .val (.ref b36), .unset, .unset, .unset, .unset, .unset, .unset] [(.int v38)]))
      refine Go.step (fun t k => XS.istore X37.here hx rfl (hb hby at_49) rfl (l' := #[.val (.int p1), .val (.int p2), .val (.int p3), .val (.int p4), .val (.int p5), .val (.int p6), .val (.int (1 : Int32)), .val (.int (1811939329 : Int32)), .val (.ref b34), .val (.ref b35), .val (.ref b36), .val (.int v38), .unset, .unset, .unset, .unset, .unset]) rfl k) ?_
      show Go p e below _ (T37.setTop (mkF m 51 #[.val (.int p1), .val (.int p2), .val (.int p3), .val (.int p4), .val (.int p5), .val (.int p6), .val (.int (1 : Int32)), .val (.int (1811939329 : Int32)), .val (.ref b34), .val (.ref b35), .val (.ref b36), .val (.int v38), .unset, .unset, .unset, .unset, .unset] []))
      refine Go.step (fun t k => XS.iloadN X37.here hx rfl (hb hby at_51) rfl k) ?_
      show Go p e below _ (T37.setTop (mkF m 52 #[.val (.int p1), .val (.int p2), .val (.int p3), .val (.int p4), .val (.int p5), .val (.int p6), .val (.int (1 : Int32)), .val (.int (1811939329 : Int32)), .val (.ref b34), .val (.ref b35), .val (.ref b36), .val (.int v38), .unset, .unset, .unset, .unset, .unset] [(.int p3)]))
      refine Go.step (X37.ldcInt hx hown (mvT hZ (hw _ (List.mem_of_getElem? (i := 0) rfl))) (g := (mkF m 52 #[.val (.int p1), .val (.int p2), .val (.int p3), .val (.int p4), .val (.int p5), .val (.int p6), .val (.int (1 : Int32)), .val (.int (1811939329 : Int32)), .val (.ref b34), .val (.ref b35), .val (.ref b36), .val (.int v38), .unset, .unset, .unset, .unset, .unset] [(.int p3)])) rfl (hb hby at_52)) ?_
      show Go p e below _ (T37.setTop (mkF m 54 #[.val (.int p1), .val (.int p2), .val (.int p3), .val (.int p4), .val (.int p5), .val (.int p6), .val (.int (1 : Int32)), .val (.int (1811939329 : Int32)), .val (.ref b34), .val (.ref b35), .val (.ref b36), .val (.int v38), .unset, .unset, .unset, .unset, .unset] [(.int (2147483647 : Int32)), (.int p3)]))
      refine Go.step (fun t k => XS.iand X37.here hx rfl (hb hby at_54) rfl k) ?_
      show Go p e below _ (T37.setTop (mkF m 55 #[.val (.int p1), .val (.int p2), .val (.int p3), .val (.int p4), .val (.int p5), .val (.int p6), .val (.int (1 : Int32)), .val (.int (1811939329 : Int32)), .val (.ref b34), .val (.ref b35), .val (.ref b36), .val (.int v38), .unset, .unset, .unset, .unset, .unset] [(.int (p3 &&& (2147483647 : Int32)))]))
      refine Go.step (fun t k => XS.iload X37.here hx rfl (hb hby at_55) rfl k) ?_
      show Go p e below _ (T37.setTop (mkF m 57 #[.val (.int p1), .val (.int p2), .val (.int p3), .val (.int p4), .val (.int p5), .val (.int p6), .val (.int (1 : Int32)), .val (.int (1811939329 : Int32)), .val (.ref b34), .val (.ref b35), .val (.ref b36), .val (.int v38), .unset, .unset, .unset, .unset, .unset] [(.int (1811939329 : Int32)), (.int (p3 &&& (2147483647 : Int32)))]))
      refine Go.step (fun t (k : Steps p.tables e below (T37.setTop (mkF m 58 #[.val (.int p1), .val (.int p2), .val (.int p3), .val (.int p4), .val (.int p5), .val (.int p6), .val (.int (1 : Int32)), .val (.int (1811939329 : Int32)), .val (.ref b34), .val (.ref b35), .val (.ref b36), .val (.int v38), .unset, .unset, .unset, .unset, .unset] [(.int ((p3 &&& (2147483647 : Int32)) % (1811939329 : Int32)))])) t) => XS.irem X37.here hx rfl (hb hby at_57) rfl (by decide) (by rw [remI]; exact k)) ?_
      show Go p e below _ (T37.setTop (mkF m 58 #[.val (.int p1), .val (.int p2), .val (.int p3), .val (.int p4), .val (.int p5), .val (.int p6), .val (.int (1 : Int32)), .val (.int (1811939329 : Int32)), .val (.ref b34), .val (.ref b35), .val (.ref b36), .val (.int v38), .unset, .unset, .unset, .unset, .unset] [(.int ((p3 &&& (2147483647 : Int32)) % (1811939329 : Int32)))]))
      obtain ⟨v39, hv39⟩ : ∃ z : Int32, z = ((p3 &&& (2147483647 : Int32)) % (1811939329 : Int32)) := ⟨_, rfl⟩
      rw [← hv39]
      show Go p e below _ (T37.setTop (mkF m 58 #[.val (.int p1), .val (.int p2), .val (.int p3), .val (.int p4), .val (.int p5), .val (.int p6), .val (.int (1 : Int32)), .val (.int (1811939329 : Int32)), .val (.ref b34), .val (.ref b35), .val (.ref b36), .val (.int v38), .unset, .unset, .unset, .unset, .unset] [(.int v39)]))
      refine Go.step (fun t k => XS.istore X37.here hx rfl (hb hby at_58) rfl (l' := #[.val (.int p1), .val (.int p2), .val (.int p3), .val (.int p4), .val (.int p5), .val (.int p6), .val (.int (1 : Int32)), .val (.int (1811939329 : Int32)), .val (.ref b34), .val (.ref b35), .val (.ref b36), .val (.int v38), .val (.int v39), .unset, .unset, .unset, .unset]) rfl k) ?_
      show Go p e below _ (T37.setTop (mkF m 60 #[.val (.int p1), .val (.int p2), .val (.int p3), .val (.int p4), .val (.int p5), .val (.int p6), .val (.int (1 : Int32)), .val (.int (1811939329 : Int32)), .val (.ref b34), .val (.ref b35), .val (.ref b36), .val (.int v38), .val (.int v39), .unset, .unset, .unset, .unset] []))
      refine Go.step (fun t k => XS.iloadN X37.here hx rfl (hb hby at_60) rfl k) ?_
      show Go p e below _ (T37.setTop (mkF m 61 #[.val (.int p1), .val (.int p2), .val (.int p3), .val (.int p4), .val (.int p5), .val (.int p6), .val (.int (1 : Int32)), .val (.int (1811939329 : Int32)), .val (.ref b34), .val (.ref b35), .val (.ref b36), .val (.int v38), .val (.int v39), .unset, .unset, .unset, .unset] [(.int p4)]))
      refine Go.step (X37.ldcInt hx hown (mvT hZ (hw _ (List.mem_of_getElem? (i := 0) rfl))) (g := (mkF m 61 #[.val (.int p1), .val (.int p2), .val (.int p3), .val (.int p4), .val (.int p5), .val (.int p6), .val (.int (1 : Int32)), .val (.int (1811939329 : Int32)), .val (.ref b34), .val (.ref b35), .val (.ref b36), .val (.int v38), .val (.int v39), .unset, .unset, .unset, .unset] [(.int p4)])) rfl (hb hby at_61)) ?_
      show Go p e below _ (T37.setTop (mkF m 63 #[.val (.int p1), .val (.int p2), .val (.int p3), .val (.int p4), .val (.int p5), .val (.int p6), .val (.int (1 : Int32)), .val (.int (1811939329 : Int32)), .val (.ref b34), .val (.ref b35), .val (.ref b36), .val (.int v38), .val (.int v39), .unset, .unset, .unset, .unset] [(.int (2147483647 : Int32)), (.int p4)]))
      refine Go.step (fun t k => XS.iand X37.here hx rfl (hb hby at_63) rfl k) ?_
      show Go p e below _ (T37.setTop (mkF m 64 #[.val (.int p1), .val (.int p2), .val (.int p3), .val (.int p4), .val (.int p5), .val (.int p6), .val (.int (1 : Int32)), .val (.int (1811939329 : Int32)), .val (.ref b34), .val (.ref b35), .val (.ref b36), .val (.int v38), .val (.int v39), .unset, .unset, .unset, .unset] [(.int (p4 &&& (2147483647 : Int32)))]))
      refine Go.step (fun t k => XS.iload X37.here hx rfl (hb hby at_64) rfl k) ?_
      show Go p e below _ (T37.setTop (mkF m 66 #[.val (.int p1), .val (.int p2), .val (.int p3), .val (.int p4), .val (.int p5), .val (.int p6), .val (.int (1 : Int32)), .val (.int (1811939329 : Int32)), .val (.ref b34), .val (.ref b35), .val (.ref b36), .val (.int v38), .val (.int v39), .unset, .unset, .unset, .unset] [(.int (1811939329 : Int32)), (.int (p4 &&& (2147483647 : Int32)))]))
      refine Go.step (fun t (k : Steps p.tables e below (T37.setTop (mkF m 67 #[.val (.int p1), .val (.int p2), .val (.int p3), .val (.int p4), .val (.int p5), .val (.int p6), .val (.int (1 : Int32)), .val (.int (1811939329 : Int32)), .val (.ref b34), .val (.ref b35), .val (.ref b36), .val (.int v38), .val (.int v39), .unset, .unset, .unset, .unset] [(.int ((p4 &&& (2147483647 : Int32)) % (1811939329 : Int32)))])) t) => XS.irem X37.here hx rfl (hb hby at_66) rfl (by decide) (by rw [remI]; exact k)) ?_
      show Go p e below _ (T37.setTop (mkF m 67 #[.val (.int p1), .val (.int p2), .val (.int p3), .val (.int p4), .val (.int p5), .val (.int p6), .val (.int (1 : Int32)), .val (.int (1811939329 : Int32)), .val (.ref b34), .val (.ref b35), .val (.ref b36), .val (.int v38), .val (.int v39), .unset, .unset, .unset, .unset] [(.int ((p4 &&& (2147483647 : Int32)) % (1811939329 : Int32)))]))
      obtain ⟨v40, hv40⟩ : ∃ z : Int32, z = ((p4 &&& (2147483647 : Int32)) % (1811939329 : Int32)) := ⟨_, rfl⟩
      rw [← hv40]
      show Go p e below _ (T37.setTop (mkF m 67 #[.val (.int p1), .val (.int p2), .val (.int p3), .val (.int p4), .val (.int p5), .val (.int p6), .val (.int (1 : Int32)), .val (.int (1811939329 : Int32)), .val (.ref b34), .val (.ref b35), .val (.ref b36), .val (.int v38), .val (.int v39), .unset, .unset, .unset, .unset] [(.int v40)]))
      refine Go.step (fun t k => XS.istore X37.here hx rfl (hb hby at_67) rfl (l' := #[.val (.int p1), .val (.int p2), .val (.int p3), .val (.int p4), .val (.int p5), .val (.int p6), .val (.int (1 : Int32)), .val (.int (1811939329 : Int32)), .val (.ref b34), .val (.ref b35), .val (.ref b36), .val (.int v38), .val (.int v39), .val (.int v40), .unset, .unset, .unset]) rfl k) ?_
      show Go p e below _ (T37.setTop (mkF m 69 #[.val (.int p1), .val (.int p2), .val (.int p3), .val (.int p4), .val (.int p5), .val (.int p6), .val (.int (1 : Int32)), .val (.int (1811939329 : Int32)), .val (.ref b34), .val (.ref b35), .val (.ref b36), .val (.int v38), .val (.int v39), .val (.int v40), .unset, .unset, .unset] []))
      refine Go.step (fun t k => XS.iload X37.here hx rfl (hb hby at_69) rfl k) ?_
      show Go p e below _ (T37.setTop (mkF m 71 #[.val (.int p1), .val (.int p2), .val (.int p3), .val (.int p4), .val (.int p5), .val (.int p6), .val (.int (1 : Int32)), .val (.int (1811939329 : Int32)), .val (.ref b34), .val (.ref b35), .val (.ref b36), .val (.int v38), .val (.int v39), .val (.int v40), .unset, .unset, .unset] [(.int p5)]))
      refine Go.step (X37.ldcInt hx hown (mvT hZ (hw _ (List.mem_of_getElem? (i := 0) rfl))) (g := (mkF m 71 #[.val (.int p1), .val (.int p2), .val (.int p3), .val (.int p4), .val (.int p5), .val (.int p6), .val (.int (1 : Int32)), .val (.int (1811939329 : Int32)), .val (.ref b34), .val (.ref b35), .val (.ref b36), .val (.int v38), .val (.int v39), .val (.int v40), .unset, .unset, .unset] [(.int p5)])) rfl (hb hby at_71)) ?_
      show Go p e below _ (T37.setTop (mkF m 73 #[.val (.int p1), .val (.int p2), .val (.int p3), .val (.int p4), .val (.int p5), .val (.int p6), .val (.int (1 : Int32)), .val (.int (1811939329 : Int32)), .val (.ref b34), .val (.ref b35), .val (.ref b36), .val (.int v38), .val (.int v39), .val (.int v40), .unset, .unset, .unset] [(.int (2147483647 : Int32)), (.int p5)]))
      refine Go.step (fun t k => XS.iand X37.here hx rfl (hb hby at_73) rfl k) ?_
      show Go p e below _ (T37.setTop (mkF m 74 #[.val (.int p1), .val (.int p2), .val (.int p3), .val (.int p4), .val (.int p5), .val (.int p6), .val (.int (1 : Int32)), .val (.int (1811939329 : Int32)), .val (.ref b34), .val (.ref b35), .val (.ref b36), .val (.int v38), .val (.int v39), .val (.int v40), .unset, .unset, .unset] [(.int (p5 &&& (2147483647 : Int32)))]))
      refine Go.step (fun t k => XS.iload X37.here hx rfl (hb hby at_74) rfl k) ?_
      show Go p e below _ (T37.setTop (mkF m 76 #[.val (.int p1), .val (.int p2), .val (.int p3), .val (.int p4), .val (.int p5), .val (.int p6), .val (.int (1 : Int32)), .val (.int (1811939329 : Int32)), .val (.ref b34), .val (.ref b35), .val (.ref b36), .val (.int v38), .val (.int v39), .val (.int v40), .unset, .unset, .unset] [(.int (1811939329 : Int32)), (.int (p5 &&& (2147483647 : Int32)))]))
      refine Go.step (fun t (k : Steps p.tables e below (T37.setTop (mkF m 77 #[.val (.int p1), .val (.int p2), .val (.int p3), .val (.int p4), .val (.int p5), .val (.int p6), .val (.int (1 : Int32)), .val (.int (1811939329 : Int32)), .val (.ref b34), .val (.ref b35), .val (.ref b36), .val (.int v38), .val (.int v39), .val (.int v40), .unset, .unset, .unset] [(.int ((p5 &&& (2147483647 : Int32)) % (1811939329 : Int32)))])) t) => XS.irem X37.here hx rfl (hb hby at_76) rfl (by decide) (by rw [remI]; exact k)) ?_
      show Go p e below _ (T37.setTop (mkF m 77 #[.val (.int p1), .val (.int p2), .val (.int p3), .val (.int p4), .val (.int p5), .val (.int p6), .val (.int (1 : Int32)), .val (.int (1811939329 : Int32)), .val (.ref b34), .val (.ref b35), .val (.ref b36), .val (.int v38), .val (.int v39), .val (.int v40), .unset, .unset, .unset] [(.int ((p5 &&& (2147483647 : Int32)) % (1811939329 : Int32)))]))
      obtain ⟨v41, hv41⟩ : ∃ z : Int32, z = ((p5 &&& (2147483647 : Int32)) % (1811939329 : Int32)) := ⟨_, rfl⟩
      rw [← hv41]
      show Go p e below _ (T37.setTop (mkF m 77 #[.val (.int p1), .val (.int p2), .val (.int p3), .val (.int p4), .val (.int p5), .val (.int p6), .val (.int (1 : Int32)), .val (.int (1811939329 : Int32)), .val (.ref b34), .val (.ref b35), .val (.ref b36), .val (.int v38), .val (.int v39), .val (.int v40), .unset, .unset, .unset] [(.int v41)]))
      refine Go.step (fun t k => XS.istore X37.here hx rfl (hb hby at_77) rfl (l' := #[.val (.int p1), .val (.int p2), .val (.int p3), .val (.int p4), .val (.int p5), .val (.int p6), .val (.int (1 : Int32)), .val (.int (1811939329 : Int32)), .val (.ref b34), .val (.ref b35), .val (.ref b36), .val (.int v38), .val (.int v39), .val (.int v40), .val (.int v41), .unset, .unset]) rfl k) ?_
      show Go p e below _ (T37.setTop (mkF m 79 #[.val (.int p1), .val (.int p2), .val (.int p3), .val (.int p4), .val (.int p5), .val (.int p6), .val (.int (1 : Int32)), .val (.int (1811939329 : Int32)), .val (.ref b34), .val (.ref b35), .val (.ref b36), .val (.int v38), .val (.int v39), .val (.int v40), .val (.int v41), .unset, .unset] []))
      refine Go.step (fun t k => XS.iconst X37.here hx rfl (hb hby at_79)  k) ?_
      show Go p e below _ (T37.setTop (mkF m 80 #[.val (.int p1), .val (.int p2), .val (.int p3), .val (.int p4), .val (.int p5), .val (.int p6), .val (.int (1 : Int32)), .val (.int (1811939329 : Int32)), .val (.ref b34), .val (.ref b35), .val (.ref b36), .val (.int v38), .val (.int v39), .val (.int v40), .val (.int v41), .unset, .unset] [(.int (3 : Int32))]))
      obtain ⟨T42, h42, k42, X42, e42, E42, A42, st42⟩ := newP X37 hx hZ (hw _ (List.mem_of_getElem? (i := 4) rfl)) rfl (g := (mkF m 80 #[.val (.int p1), .val (.int p2), .val (.int p3), .val (.int p4), .val (.int p5), .val (.int p6), .val (.int (1 : Int32)), .val (.int (1811939329 : Int32)), .val (.ref b34), .val (.ref b35), .val (.ref b36), .val (.int v38), .val (.int v39), .val (.int v40), .val (.int v41), .unset, .unset] [(.int (3 : Int32))])) rfl (hb hby at_80) rfl (by decide) (cap := 3) (by decide) (by decide) (by decide) (by decide)
      obtain ⟨b42, g42⟩ : ∃ z, z = T37.heap.size := ⟨_, rfl⟩
      rw [← g42] at A42 st42
      have g_b42 : n0 ≤ b42 := Nat.le_trans Z37 (Nat.le_of_eq g42.symm)
      have sz_b42 : h0.size ≤ b42 := Nat.le_trans KK37.1 (Nat.le_of_eq g42.symm)
      have ne_b36_b42 : b36 ≠ b42 := Nat.ne_of_lt (Nat.lt_of_lt_of_le Q37_2.lt (Nat.le_of_eq g42.symm))
      refine Go.step st42 ?_
      have E_b36_42 := Q37_2.ext E42
      have F_length_b36_42 := Q37_0.ext E42
      have F_negativeInverse_b36_42 := Q37_1.ext E42
      have F_prime_b36_42 := Q37_3.ext E42
      have O42 := O37.ext E42
      have Z42 := Nat.le_trans Z37 E42.1
      have KK42 : Keep h0 h42 [] := KK37.ext E42
      have A_b42_42 : Ary Z h42 b42 .int 3 (fun i => .int ((fun _ => (0 : Int32)) i)) := Ary.mk A42 (by decide) (by decide)
      show Go p e below _ (T42.setTop (mkF m 82 #[.val (.int p1), .val (.int p2), .val (.int p3), .val (.int p4), .val (.int p5), .val (.int p6), .val (.int (1 : Int32)), .val (.int (1811939329 : Int32)), .val (.ref b34), .val (.ref b35), .val (.ref b36), .val (.int v38), .val (.int v39), .val (.int v40), .val (.int v41), .unset, .unset] [(.ref b42)]))
      refine Go.step (fun t k => XS.dup X42.here hx rfl (hb hby at_82) rfl rfl k) ?_
      show Go p e below _ (T42.setTop (mkF m 83 #[.val (.int p1), .val (.int p2), .val (.int p3), .val (.int p4), .val (.int p5), .val (.int p6), .val (.int (1 : Int32)), .val (.int (1811939329 : Int32)), .val (.ref b34), .val (.ref b35), .val (.ref b36), .val (.int v38), .val (.int v39), .val (.int v40), .val (.int v41), .unset, .unset] [(.ref b42), (.ref b42)]))
      refine Go.step (fun t k => XS.iconst X42.here hx rfl (hb hby at_83)  k) ?_
      show Go p e below _ (T42.setTop (mkF m 84 #[.val (.int p1), .val (.int p2), .val (.int p3), .val (.int p4), .val (.int p5), .val (.int p6), .val (.int (1 : Int32)), .val (.int (1811939329 : Int32)), .val (.ref b34), .val (.ref b35), .val (.ref b36), .val (.int v38), .val (.int v39), .val (.int v40), .val (.int v41), .unset, .unset] [(.int (0 : Int32)), (.ref b42), (.ref b42)]))
      refine Go.step (fun t k => XS.iload X42.here hx rfl (hb hby at_84) rfl k) ?_
      show Go p e below _ (T42.setTop (mkF m 86 #[.val (.int p1), .val (.int p2), .val (.int p3), .val (.int p4), .val (.int p5), .val (.int p6), .val (.int (1 : Int32)), .val (.int (1811939329 : Int32)), .val (.ref b34), .val (.ref b35), .val (.ref b36), .val (.int v38), .val (.int v39), .val (.int v40), .val (.int v41), .unset, .unset] [(.int v38), (.int (0 : Int32)), (.ref b42), (.ref b42)]))
      obtain ⟨cl43, Ar43, in43, -⟩ := A_b42_42.hin (j := (0 : Int32)) (by decide) (by decide)
      obtain ⟨T43, h43, X43, e43, W43, st43⟩ := stI X42 hx hZ e42 Ar43 in43 (g := (mkF m 86 #[.val (.int p1), .val (.int p2), .val (.int p3), .val (.int p4), .val (.int p5), .val (.int p6), .val (.int (1 : Int32)), .val (.int (1811939329 : Int32)), .val (.ref b34), .val (.ref b35), .val (.ref b36), .val (.int v38), .val (.int v39), .val (.int v40), .val (.int v41), .unset, .unset] [(.int v38), (.int (0 : Int32)), (.ref b42), (.ref b42)])) rfl rfl (hb hby at_86)
      refine Go.step st43 ?_
      have N43 := Fr.snoc X43 N37 g_b42
      have E_b36_43 := E_b36_42.wr W43
      have F_length_b36_43 := F_length_b36_42.other W43 (Or.inl ne_b36_b42)
      have F_negativeInverse_b36_43 := F_negativeInverse_b36_42.other W43 (Or.inl ne_b36_b42)
      have F_prime_b36_43 := F_prime_b36_42.other W43 (Or.inl ne_b36_b42)
      have O43 := O42.wr W43 g_b42
      have Z43 := Nat.le_trans Z42 (Keep.of_wr W43).1
      have KK43 : Keep h0 h43 [] := KK42.wr W43 (Or.inr sz_b42)
      have A_b42_43 : Ary Z h43 b42 .int 3 (fun i => .int ((upA (fun _ => (0 : Int32)) 0 v38) i)) := A_b42_42.setI W43 (by decide)
      show Go p e below _ (T43.setTop (mkF m 87 #[.val (.int p1), .val (.int p2), .val (.int p3), .val (.int p4), .val (.int p5), .val (.int p6), .val (.int (1 : Int32)), .val (.int (1811939329 : Int32)), .val (.ref b34), .val (.ref b35), .val (.ref b36), .val (.int v38), .val (.int v39), .val (.int v40), .val (.int v41), .unset, .unset] [(.ref b42)]))
      refine Go.step (fun t k => XS.dup X43.here hx rfl (hb hby at_87) rfl rfl k) ?_
      show Go p e below _ (T43.setTop (mkF m 88 #[.val (.int p1), .val (.int p2), .val (.int p3), .val (.int p4), .val (.int p5), .val (.int p6), .val (.int (1 : Int32)), .val (.int (1811939329 : Int32)), .val (.ref b34), .val (.ref b35), .val (.ref b36), .val (.int v38), .val (.int v39), .val (.int v40), .val (.int v41), .unset, .unset] [(.ref b42), (.ref b42)]))
      refine Go.step (fun t k => XS.iconst X43.here hx rfl (hb hby at_88)  k) ?_
      show Go p e below _ (T43.setTop (mkF m 89 #[.val (.int p1), .val (.int p2), .val (.int p3), .val (.int p4), .val (.int p5), .val (.int p6), .val (.int (1 : Int32)), .val (.int (1811939329 : Int32)), .val (.ref b34), .val (.ref b35), .val (.ref b36), .val (.int v38), .val (.int v39), .val (.int v40), .val (.int v41), .unset, .unset] [(.int (1 : Int32)), (.ref b42), (.ref b42)]))
      refine Go.step (fun t k => XS.iload X43.here hx rfl (hb hby at_89) rfl k) ?_
      show Go p e below _ (T43.setTop (mkF m 91 #[.val (.int p1), .val (.int p2), .val (.int p3), .val (.int p4), .val (.int p5), .val (.int p6), .val (.int (1 : Int32)), .val (.int (1811939329 : Int32)), .val (.ref b34), .val (.ref b35), .val (.ref b36), .val (.int v38), .val (.int v39), .val (.int v40), .val (.int v41), .unset, .unset] [(.int v40), (.int (1 : Int32)), (.ref b42), (.ref b42)]))
      obtain ⟨cl44, Ar44, in44, -⟩ := A_b42_43.hin (j := (1 : Int32)) (by decide) (by decide)
      obtain ⟨T44, h44, X44, e44, W44, st44⟩ := stI X43 hx hZ e43 Ar44 in44 (g := (mkF m 91 #[.val (.int p1), .val (.int p2), .val (.int p3), .val (.int p4), .val (.int p5), .val (.int p6), .val (.int (1 : Int32)), .val (.int (1811939329 : Int32)), .val (.ref b34), .val (.ref b35), .val (.ref b36), .val (.int v38), .val (.int v39), .val (.int v40), .val (.int v41), .unset, .unset] [(.int v40), (.int (1 : Int32)), (.ref b42), (.ref b42)])) rfl rfl (hb hby at_91)
      refine Go.step st44 ?_
      have N44 := Fr.snoc X44 N43 g_b42
      have E_b36_44 := E_b36_43.wr W44
      have F_length_b36_44 := F_length_b36_43.other W44 (Or.inl ne_b36_b42)
      have F_negativeInverse_b36_44 := F_negativeInverse_b36_43.other W44 (Or.inl ne_b36_b42)
      have F_prime_b36_44 := F_prime_b36_43.other W44 (Or.inl ne_b36_b42)
      have O44 := O43.wr W44 g_b42
      have Z44 := Nat.le_trans Z43 (Keep.of_wr W44).1
      have KK44 : Keep h0 h44 [] := KK43.wr W44 (Or.inr sz_b42)
      have A_b42_44 : Ary Z h44 b42 .int 3 (fun i => .int ((upA (upA (fun _ => (0 : Int32)) 0 v38) 1 v40) i)) := A_b42_43.setI W44 (by decide)
      show Go p e below _ (T44.setTop (mkF m 92 #[.val (.int p1), .val (.int p2), .val (.int p3), .val (.int p4), .val (.int p5), .val (.int p6), .val (.int (1 : Int32)), .val (.int (1811939329 : Int32)), .val (.ref b34), .val (.ref b35), .val (.ref b36), .val (.int v38), .val (.int v39), .val (.int v40), .val (.int v41), .unset, .unset] [(.ref b42)]))
      refine Go.step (fun t k => XS.dup X44.here hx rfl (hb hby at_92) rfl rfl k) ?_
      show Go p e below _ (T44.setTop (mkF m 93 #[.val (.int p1), .val (.int p2), .val (.int p3), .val (.int p4), .val (.int p5), .val (.int p6), .val (.int (1 : Int32)), .val (.int (1811939329 : Int32)), .val (.ref b34), .val (.ref b35), .val (.ref b36), .val (.int v38), .val (.int v39), .val (.int v40), .val (.int v41), .unset, .unset] [(.ref b42), (.ref b42)]))
      refine Go.step (fun t k => XS.iconst X44.here hx rfl (hb hby at_93)  k) ?_
      show Go p e below _ (T44.setTop (mkF m 94 #[.val (.int p1), .val (.int p2), .val (.int p3), .val (.int p4), .val (.int p5), .val (.int p6), .val (.int (1 : Int32)), .val (.int (1811939329 : Int32)), .val (.ref b34), .val (.ref b35), .val (.ref b36), .val (.int v38), .val (.int v39), .val (.int v40), .val (.int v41), .unset, .unset] [(.int (2 : Int32)), (.ref b42), (.ref b42)]))
      refine Go.step (fun t k => XS.iload X44.here hx rfl (hb hby at_94) rfl k) ?_
      show Go p e below _ (T44.setTop (mkF m 96 #[.val (.int p1), .val (.int p2), .val (.int p3), .val (.int p4), .val (.int p5), .val (.int p6), .val (.int (1 : Int32)), .val (.int (1811939329 : Int32)), .val (.ref b34), .val (.ref b35), .val (.ref b36), .val (.int v38), .val (.int v39), .val (.int v40), .val (.int v41), .unset, .unset] [(.int p6), (.int (2 : Int32)), (.ref b42), (.ref b42)]))
      obtain ⟨cl45, Ar45, in45, -⟩ := A_b42_44.hin (j := (2 : Int32)) (by decide) (by decide)
      obtain ⟨T45, h45, X45, e45, W45, st45⟩ := stI X44 hx hZ e44 Ar45 in45 (g := (mkF m 96 #[.val (.int p1), .val (.int p2), .val (.int p3), .val (.int p4), .val (.int p5), .val (.int p6), .val (.int (1 : Int32)), .val (.int (1811939329 : Int32)), .val (.ref b34), .val (.ref b35), .val (.ref b36), .val (.int v38), .val (.int v39), .val (.int v40), .val (.int v41), .unset, .unset] [(.int p6), (.int (2 : Int32)), (.ref b42), (.ref b42)])) rfl rfl (hb hby at_96)
      refine Go.step st45 ?_
      have N45 := Fr.snoc X45 N44 g_b42
      have E_b36_45 := E_b36_44.wr W45
      have F_length_b36_45 := F_length_b36_44.other W45 (Or.inl ne_b36_b42)
      have F_negativeInverse_b36_45 := F_negativeInverse_b36_44.other W45 (Or.inl ne_b36_b42)
      have F_prime_b36_45 := F_prime_b36_44.other W45 (Or.inl ne_b36_b42)
      have O45 := O44.wr W45 g_b42
      have Z45 := Nat.le_trans Z44 (Keep.of_wr W45).1
      have KK45 : Keep h0 h45 [] := KK44.wr W45 (Or.inr sz_b42)
      have A_b42_45 : Ary Z h45 b42 .int 3 (fun i => .int ((upA (upA (upA (fun _ => (0 : Int32)) 0 v38) 1 v40) 2 p6) i)) := A_b42_44.setI W45 (by decide)
      show Go p e below _ (T45.setTop (mkF m 97 #[.val (.int p1), .val (.int p2), .val (.int p3), .val (.int p4), .val (.int p5), .val (.int p6), .val (.int (1 : Int32)), .val (.int (1811939329 : Int32)), .val (.ref b34), .val (.ref b35), .val (.ref b36), .val (.int v38), .val (.int v39), .val (.int v40), .val (.int v41), .unset, .unset] [(.ref b42)]))
      refine Go.step (fun t k => XS.astore X45.here hx rfl (hb hby at_97) rfl rfl (l' := #[.val (.int p1), .val (.int p2), .val (.int p3), .val (.int p4), .val (.int p5), .val (.int p6), .val (.int (1 : Int32)), .val (.int (1811939329 : Int32)), .val (.ref b34), .val (.ref b35), .val (.ref b36), .val (.int v38), .val (.int v39), .val (.int v40), .val (.int v41), .val (.ref b42), .unset]) rfl k) ?_
      show Go p e below _ (T45.setTop (mkF m 99 #[.val (.int p1), .val (.int p2), .val (.int p3), .val (.int p4), .val (.int p5), .val (.int p6), .val (.int (1 : Int32)), .val (.int (1811939329 : Int32)), .val (.ref b34), .val (.ref b35), .val (.ref b36), .val (.int v38), .val (.int v39), .val (.int v40), .val (.int v41), .val (.ref b42), .unset] []))
      refine Go.step (fun t k => XS.iconst X45.here hx rfl (hb hby at_99)  k) ?_
      show Go p e below _ (T45.setTop (mkF m 100 #[.val (.int p1), .val (.int p2), .val (.int p3), .val (.int p4), .val (.int p5), .val (.int p6), .val (.int (1 : Int32)), .val (.int (1811939329 : Int32)), .val (.ref b34), .val (.ref b35), .val (.ref b36), .val (.int v38), .val (.int v39), .val (.int v40), .val (.int v41), .val (.ref b42), .unset] [(.int (3 : Int32))]))
      obtain ⟨T46, h46, k46, X46, e46, E46, A46, st46⟩ := newP X45 hx hZ (hw _ (List.mem_of_getElem? (i := 4) rfl)) e45 (g := (mkF m 100 #[.val (.int p1), .val (.int p2), .val (.int p3), .val (.int p4), .val (.int p5), .val (.int p6), .val (.int (1 : Int32)), .val (.int (1811939329 : Int32)), .val (.ref b34), .val (.ref b35), .val (.ref b36), .val (.int v38), .val (.int v39), .val (.int v40), .val (.int v41), .val (.ref b42), .unset] [(.int (3 : Int32))])) rfl (hb hby at_100) rfl (by decide) (cap := 3) (by decide) (by decide) (by decide) (by decide)
      obtain ⟨b46, g46⟩ : ∃ z, z = h45.size := ⟨_, rfl⟩
      rw [← g46] at A46 st46
      have g_b46 : n0 ≤ b46 := Nat.le_trans Z45 (Nat.le_of_eq g46.symm)
      have sz_b46 : h0.size ≤ b46 := Nat.le_trans KK45.1 (Nat.le_of_eq g46.symm)
      have ne_b36_b46 : b36 ≠ b46 := Nat.ne_of_lt (Nat.lt_of_lt_of_le E_b36_45.lt (Nat.le_of_eq g46.symm))
      have ne_b42_b46 : b42 ≠ b46 := Nat.ne_of_lt (Nat.lt_of_lt_of_le A_b42_45.lt (Nat.le_of_eq g46.symm))
      refine Go.step st46 ?_
      have E_b36_46 := E_b36_45.ext E46
      have F_length_b36_46 := F_length_b36_45.ext E46
      have F_negativeInverse_b36_46 := F_negativeInverse_b36_45.ext E46
      have F_prime_b36_46 := F_prime_b36_45.ext E46
      have A_b42_46 := A_b42_45.ext E46
      have O46 := O45.ext E46
      have Z46 := Nat.le_trans Z45 E46.1
      have KK46 : Keep h0 h46 [] := KK45.ext E46
      have A_b46_46 : Ary Z h46 b46 .int 3 (fun i => .int ((fun _ => (0 : Int32)) i)) := Ary.mk A46 (by decide) (by decide)
      show Go p e below _ (T46.setTop (mkF m 102 #[.val (.int p1), .val (.int p2), .val (.int p3), .val (.int p4), .val (.int p5), .val (.int p6), .val (.int (1 : Int32)), .val (.int (1811939329 : Int32)), .val (.ref b34), .val (.ref b35), .val (.ref b36), .val (.int v38), .val (.int v39), .val (.int v40), .val (.int v41), .val (.ref b42), .unset] [(.ref b46)]))
      refine Go.step (fun t k => XS.dup X46.here hx rfl (hb hby at_102) rfl rfl k) ?_
      show Go p e below _ (T46.setTop (mkF m 103 #[.val (.int p1), .val (.int p2), .val (.int p3), .val (.int p4), .val (.int p5), .val (.int p6), .val (.int (1 : Int32)), .val (.int (1811939329 : Int32)), .val (.ref b34), .val (.ref b35), .val (.ref b36), .val (.int v38), .val (.int v39), .val (.int v40), .val (.int v41), .val (.ref b42), .unset] [(.ref b46), (.ref b46)]))
      refine Go.step (fun t k => XS.iconst X46.here hx rfl (hb hby at_103)  k) ?_
      show Go p e below _ (T46.setTop (mkF m 104 #[.val (.int p1), .val (.int p2), .val (.int p3), .val (.int p4), .val (.int p5), .val (.int p6), .val (.int (1 : Int32)), .val (.int (1811939329 : Int32)), .val (.ref b34), .val (.ref b35), .val (.ref b36), .val (.int v38), .val (.int v39), .val (.int v40), .val (.int v41), .val (.ref b42), .unset] [(.int (0 : Int32)), (.ref b46), (.ref b46)]))
      refine Go.step (fun t k => XS.iload X46.here hx rfl (hb hby at_104) rfl k) ?_
      show Go p e below _ (T46.setTop (mkF m 106 #[.val (.int p1), .val (.int p2), .val (.int p3), .val (.int p4), .val (.int p5), .val (.int p6), .val (.int (1 : Int32)), .val (.int (1811939329 : Int32)), .val (.ref b34), .val (.ref b35), .val (.ref b36), .val (.int v38), .val (.int v39), .val (.int v40), .val (.int v41), .val (.ref b42), .unset] [(.int v39), (.int (0 : Int32)), (.ref b46), (.ref b46)]))
      obtain ⟨cl47, Ar47, in47, -⟩ := A_b46_46.hin (j := (0 : Int32)) (by decide) (by decide)
      obtain ⟨T47, h47, X47, e47, W47, st47⟩ := stI X46 hx hZ e46 Ar47 in47 (g := (mkF m 106 #[.val (.int p1), .val (.int p2), .val (.int p3), .val (.int p4), .val (.int p5), .val (.int p6), .val (.int (1 : Int32)), .val (.int (1811939329 : Int32)), .val (.ref b34), .val (.ref b35), .val (.ref b36), .val (.int v38), .val (.int v39), .val (.int v40), .val (.int v41), .val (.ref b42), .unset] [(.int v39), (.int (0 : Int32)), (.ref b46), (.ref b46)])) rfl rfl (hb hby at_106)
      refine Go.step st47 ?_
      have N47 := Fr.snoc X47 N45 g_b46
      have E_b36_47 := E_b36_46.wr W47
      have F_length_b36_47 := F_length_b36_46.other W47 (Or.inl ne_b36_b46)
      have F_negativeInverse_b36_47 := F_negativeInverse_b36_46.other W47 (Or.inl ne_b36_b46)
      have F_prime_b36_47 := F_prime_b36_46.other W47 (Or.inl ne_b36_b46)
      have A_b42_47 := A_b42_46.other W47 ne_b42_b46
      have O47 := O46.wr W47 g_b46
      have Z47 := Nat.le_trans Z46 (Keep.of_wr W47).1
      have KK47 : Keep h0 h47 [] := KK46.wr W47 (Or.inr sz_b46)
      have A_b46_47 : Ary Z h47 b46 .int 3 (fun i => .int ((upA (fun _ => (0 : Int32)) 0 v39) i)) := A_b46_46.setI W47 (by decide)
      show Go p e below _ (T47.setTop (mkF m 107 #[.val (.int p1), .val (.int p2), .val (.int p3), .val (.int p4), .val (.int p5), .val (.int p6), .val (.int (1 : Int32)), .val (.int (1811939329 : Int32)), .val (.ref b34), .val (.ref b35), .val (.ref b36), .val (.int v38), .val (.int v39), .val (.int v40), .val (.int v41), .val (.ref b42), .unset] [(.ref b46)]))
      refine Go.step (fun t k => XS.dup X47.here hx rfl (hb hby at_107) rfl rfl k) ?_
      show Go p e below _ (T47.setTop (mkF m 108 #[.val (.int p1), .val (.int p2), .val (.int p3), .val (.int p4), .val (.int p5), .val (.int p6), .val (.int (1 : Int32)), .val (.int (1811939329 : Int32)), .val (.ref b34), .val (.ref b35), .val (.ref b36), .val (.int v38), .val (.int v39), .val (.int v40), .val (.int v41), .val (.ref b42), .unset] [(.ref b46), (.ref b46)]))
      refine Go.step (fun t k => XS.iconst X47.here hx rfl (hb hby at_108)  k) ?_
      show Go p e below _ (T47.setTop (mkF m 109 #[.val (.int p1), .val (.int p2), .val (.int p3), .val (.int p4), .val (.int p5), .val (.int p6), .val (.int (1 : Int32)), .val (.int (1811939329 : Int32)), .val (.ref b34), .val (.ref b35), .val (.ref b36), .val (.int v38), .val (.int v39), .val (.int v40), .val (.int v41), .val (.ref b42), .unset] [(.int (1 : Int32)), (.ref b46), (.ref b46)]))
      refine Go.step (fun t k => XS.iload X47.here hx rfl (hb hby at_109) rfl k) ?_
      show Go p e below _ (T47.setTop (mkF m 111 #[.val (.int p1), .val (.int p2), .val (.int p3), .val (.int p4), .val (.int p5), .val (.int p6), .val (.int (1 : Int32)), .val (.int (1811939329 : Int32)), .val (.ref b34), .val (.ref b35), .val (.ref b36), .val (.int v38), .val (.int v39), .val (.int v40), .val (.int v41), .val (.ref b42), .unset] [(.int v41), (.int (1 : Int32)), (.ref b46), (.ref b46)]))
      obtain ⟨cl48, Ar48, in48, -⟩ := A_b46_47.hin (j := (1 : Int32)) (by decide) (by decide)
      obtain ⟨T48, h48, X48, e48, W48, st48⟩ := stI X47 hx hZ e47 Ar48 in48 (g := (mkF m 111 #[.val (.int p1), .val (.int p2), .val (.int p3), .val (.int p4), .val (.int p5), .val (.int p6), .val (.int (1 : Int32)), .val (.int (1811939329 : Int32)), .val (.ref b34), .val (.ref b35), .val (.ref b36), .val (.int v38), .val (.int v39), .val (.int v40), .val (.int v41), .val (.ref b42), .unset] [(.int v41), (.int (1 : Int32)), (.ref b46), (.ref b46)])) rfl rfl (hb hby at_111)
      refine Go.step st48 ?_
      have N48 := Fr.snoc X48 N47 g_b46
      have E_b36_48 := E_b36_47.wr W48
      have F_length_b36_48 := F_length_b36_47.other W48 (Or.inl ne_b36_b46)
      have F_negativeInverse_b36_48 := F_negativeInverse_b36_47.other W48 (Or.inl ne_b36_b46)
      have F_prime_b36_48 := F_prime_b36_47.other W48 (Or.inl ne_b36_b46)
      have A_b42_48 := A_b42_47.other W48 ne_b42_b46
      have O48 := O47.wr W48 g_b46
      have Z48 := Nat.le_trans Z47 (Keep.of_wr W48).1
      have KK48 : Keep h0 h48 [] := KK47.wr W48 (Or.inr sz_b46)
      have A_b46_48 : Ary Z h48 b46 .int 3 (fun i => .int ((upA (upA (fun _ => (0 : Int32)) 0 v39) 1 v41) i)) := A_b46_47.setI W48 (by decide)
      show Go p e below _ (T48.setTop (mkF m 112 #[.val (.int p1), .val (.int p2), .val (.int p3), .val (.int p4), .val (.int p5), .val (.int p6), .val (.int (1 : Int32)), .val (.int (1811939329 : Int32)), .val (.ref b34), .val (.ref b35), .val (.ref b36), .val (.int v38), .val (.int v39), .val (.int v40), .val (.int v41), .val (.ref b42), .unset] [(.ref b46)]))
      refine Go.step (fun t k => XS.dup X48.here hx rfl (hb hby at_112) rfl rfl k) ?_
      show Go p e below _ (T48.setTop (mkF m 113 #[.val (.int p1), .val (.int p2), .val (.int p3), .val (.int p4), .val (.int p5), .val (.int p6), .val (.int (1 : Int32)), .val (.int (1811939329 : Int32)), .val (.ref b34), .val (.ref b35), .val (.ref b36), .val (.int v38), .val (.int v39), .val (.int v40), .val (.int v41), .val (.ref b42), .unset] [(.ref b46), (.ref b46)]))
      refine Go.step (fun t k => XS.iconst X48.here hx rfl (hb hby at_113)  k) ?_
      show Go p e below _ (T48.setTop (mkF m 114 #[.val (.int p1), .val (.int p2), .val (.int p3), .val (.int p4), .val (.int p5), .val (.int p6), .val (.int (1 : Int32)), .val (.int (1811939329 : Int32)), .val (.ref b34), .val (.ref b35), .val (.ref b36), .val (.int v38), .val (.int v39), .val (.int v40), .val (.int v41), .val (.ref b42), .unset] [(.int (2 : Int32)), (.ref b46), (.ref b46)]))
      refine Go.step (fun t k => XS.iload X48.here hx rfl (hb hby at_114) rfl k) ?_
      show Go p e below _ (T48.setTop (mkF m 116 #[.val (.int p1), .val (.int p2), .val (.int p3), .val (.int p4), .val (.int p5), .val (.int p6), .val (.int (1 : Int32)), .val (.int (1811939329 : Int32)), .val (.ref b34), .val (.ref b35), .val (.ref b36), .val (.int v38), .val (.int v39), .val (.int v40), .val (.int v41), .val (.ref b42), .unset] [(.int p6), (.int (2 : Int32)), (.ref b46), (.ref b46)]))
      obtain ⟨cl49, Ar49, in49, -⟩ := A_b46_48.hin (j := (2 : Int32)) (by decide) (by decide)
      obtain ⟨T49, h49, X49, e49, W49, st49⟩ := stI X48 hx hZ e48 Ar49 in49 (g := (mkF m 116 #[.val (.int p1), .val (.int p2), .val (.int p3), .val (.int p4), .val (.int p5), .val (.int p6), .val (.int (1 : Int32)), .val (.int (1811939329 : Int32)), .val (.ref b34), .val (.ref b35), .val (.ref b36), .val (.int v38), .val (.int v39), .val (.int v40), .val (.int v41), .val (.ref b42), .unset] [(.int p6), (.int (2 : Int32)), (.ref b46), (.ref b46)])) rfl rfl (hb hby at_116)
      refine Go.step st49 ?_
      have N49 := Fr.snoc X49 N48 g_b46
      have E_b36_49 := E_b36_48.wr W49
      have F_length_b36_49 := F_length_b36_48.other W49 (Or.inl ne_b36_b46)
      have F_negativeInverse_b36_49 := F_negativeInverse_b36_48.other W49 (Or.inl ne_b36_b46)
      have F_prime_b36_49 := F_prime_b36_48.other W49 (Or.inl ne_b36_b46)
      have A_b42_49 := A_b42_48.other W49 ne_b42_b46
      have O49 := O48.wr W49 g_b46
      have Z49 := Nat.le_trans Z48 (Keep.of_wr W49).1
      have KK49 : Keep h0 h49 [] := KK48.wr W49 (Or.inr sz_b46)
      have A_b46_49 : Ary Z h49 b46 .int 3 (fun i => .int ((upA (upA (upA (fun _ => (0 : Int32)) 0 v39) 1 v41) 2 p6) i)) := A_b46_48.setI W49 (by decide)
      show Go p e below _ (T49.setTop (mkF m 117 #[.val (.int p1), .val (.int p2), .val (.int p3), .val (.int p4), .val (.int p5), .val (.int p6), .val (.int (1 : Int32)), .val (.int (1811939329 : Int32)), .val (.ref b34), .val (.ref b35), .val (.ref b36), .val (.int v38), .val (.int v39), .val (.int v40), .val (.int v41), .val (.ref b42), .unset] [(.ref b46)]))
      refine Go.step (fun t k => XS.astore X49.here hx rfl (hb hby at_117) rfl rfl (l' := #[.val (.int p1), .val (.int p2), .val (.int p3), .val (.int p4), .val (.int p5), .val (.int p6), .val (.int (1 : Int32)), .val (.int (1811939329 : Int32)), .val (.ref b34), .val (.ref b35), .val (.ref b36), .val (.int v38), .val (.int v39), .val (.int v40), .val (.int v41), .val (.ref b42), .val (.ref b46)]) rfl k) ?_
      show Go p e below _ (T49.setTop (mkF m 119 #[.val (.int p1), .val (.int p2), .val (.int p3), .val (.int p4), .val (.int p5), .val (.int p6), .val (.int (1 : Int32)), .val (.int (1811939329 : Int32)), .val (.ref b34), .val (.ref b35), .val (.ref b36), .val (.int v38), .val (.int v39), .val (.int v40), .val (.int v41), .val (.ref b42), .val (.ref b46)] []))
      refine Go.step (fun t k => XS.aload X49.here hx rfl (hb hby at_119) rfl rfl k) ?_
      show Go p e below _ (T49.setTop (mkF m 121 #[.val (.int p1), .val (.int p2), .val (.int p3), .val (.int p4), .val (.int p5), .val (.int p6), .val (.int (1 : Int32)), .val (.int (1811939329 : Int32)), .val (.ref b34), .val (.ref b35), .val (.ref b36), .val (.int v38), .val (.int v39), .val (.int v40), .val (.int v41), .val (.ref b42), .val (.ref b46)] [(.ref b36)]))
      refine Go.step (fun t k => XS.aload X49.here hx rfl (hb hby at_121) rfl rfl k) ?_
      show Go p e below _ (T49.setTop (mkF m 123 #[.val (.int p1), .val (.int p2), .val (.int p3), .val (.int p4), .val (.int p5), .val (.int p6), .val (.int (1 : Int32)), .val (.int (1811939329 : Int32)), .val (.ref b34), .val (.ref b35), .val (.ref b36), .val (.int v38), .val (.int v39), .val (.int v40), .val (.int v41), .val (.ref b42), .val (.ref b46)] [(.ref b42), (.ref b36)]))
      refine Go.step (fun t k => XS.aload X49.here hx rfl (hb hby at_123) rfl rfl k) ?_
      show Go p e below _ (T49.setTop (mkF m 125 #[.val (.int p1), .val (.int p2), .val (.int p3), .val (.int p4), .val (.int p5), .val (.int p6), .val (.int (1 : Int32)), .val (.int (1811939329 : Int32)), .val (.ref b34), .val (.ref b35), .val (.ref b36), .val (.int v38), .val (.int v39), .val (.int v40), .val (.int v41), .val (.ref b42), .val (.ref b46)] [(.ref b46), (.ref b42), (.ref b36)]))
      obtain ⟨cq50, kq50, q50a, q50b, q50c⟩ := isOf hZ e49 E_b36_49
      obtain ⟨_, _, ⟨T50, L50, k50, n50⟩, -, X50, ⟨Lc50, hQ50, l50, y50, z50⟩, st50⟩ := X49.virtualBack hx (y := (⟨"com/example/tinwire/tinwire/json/Transform", "multiplyPointwise", "([I[I)V"⟩ : MethodName)) (z := (⟨"com/example/tinwire/tinwire/json/Transform", "multiplyPointwise", "([I[I)V"⟩ : MethodName)) hown (mvT hZ (hw _ (List.mem_of_getElem? (i := 42) rfl))) (mvT hZ (hw _ (List.mem_of_getElem? (i := 43) rfl))) (notFace_of_selects (args := #[]) (mvT hZ (hw _ (List.mem_of_getElem? (i := 45) rfl)))) (mvT hZ (hw _ (List.mem_of_getElem? (i := 45) rfl))) (mvT hZ (hw _ (List.mem_of_getElem? (i := 44) rfl))) (by decide) (backOf (W := 0) (rm5 l Z a0 hw [] b36 b42 b46 (upA (upA (upA (fun _ => (0 : Int32)) 0 v38) 1 v40) 2 p6) (upA (upA (upA (fun _ => (0 : Int32)) 0 v39) 1 v41) 2 p6) (1811939329 : Int32) (1811939327 : Int32) h49 n0 Z49 F_length_b36_49 A_b42_49 A_b46_49 F_prime_b36_49 F_negativeInverse_b36_49 g_b42 ne_b36_b42 (Ne.symm ne_b42_b46)) hZ (hw _ (List.mem_of_getElem? (i := 46) rfl)) (hw _ (List.mem_of_getElem? (i := 2) rfl)) (by decide) (by decide)) q50a q50c (g := (mkF m 125 #[.val (.int p1), .val (.int p2), .val (.int p3), .val (.int p4), .val (.int p5), .val (.int p6), .val (.int (1 : Int32)), .val (.int (1811939329 : Int32)), .val (.ref b34), .val (.ref b35), .val (.ref b36), .val (.int v38), .val (.int v39), .val (.int v40), .val (.int v41), .val (.ref b42), .val (.ref b46)] [(.ref b46), (.ref b42), (.ref b36)])) rfl (by rw [hml]; rfl) (Steps.refl _) (argsL := [(.ref b42), (.ref b46)]) (rest := []) (lenOf pd_3 rfl) rfl (by show 2 * 0 + _ ≤ _; exact Nat.le_of_eq rfl) (hb hby at_125) (fun _ _ => ⟨rfl, e49, (by decide : 5 + 0 ≤ _), (by decide : 17 + 0 ≤ _)⟩)
      dsimp only [Pt.U, Pt.locs, Pt.cells, Pt.slots] at X50 l50 y50 z50 st50 hQ50
      subst l50 y50 z50
      obtain ⟨rfl, N50q, K50, Q50_0⟩ := hQ50
      have N50 := Fr.app N49 N50q
      have E_b36_50 := E_b36_49.keep K50
      have F_length_b36_50 := F_length_b36_49.keep K50 (ninS ne_b36_b42 nin0)
      have F_negativeInverse_b36_50 := F_negativeInverse_b36_49.keep K50 (ninS ne_b36_b42 nin0)
      have F_prime_b36_50 := F_prime_b36_49.keep K50 (ninS ne_b36_b42 nin0)
      have A_b46_50 := A_b46_49.keep K50 (ninS (Ne.symm ne_b42_b46) nin0)
      have O50 := O49.keep K50 (allS g_b42 all0)
      have Z50 := Nat.le_trans Z49 K50.1
      have KK50 : Keep h0 T50.heap [] := KK49.trans K50 (allS (Or.inr sz_b42) all0)
      refine Go.trans st50 ?_
      show Go p e below _ (T50.setTop (mkF m 128 #[.val (.int p1), .val (.int p2), .val (.int p3), .val (.int p4), .val (.int p5), .val (.int p6), .val (.int (1 : Int32)), .val (.int (1811939329 : Int32)), .val (.ref b34), .val (.ref b35), .val (.ref b36), .val (.int v38), .val (.int v39), .val (.int v40), .val (.int v41), .val (.ref b42), .val (.ref b46)] []))
      refine Go.step (fun t k => XS.aload X50.here hx rfl (hb hby at_128) rfl rfl k) ?_
      show Go p e below _ (T50.setTop (mkF m 130 #[.val (.int p1), .val (.int p2), .val (.int p3), .val (.int p4), .val (.int p5), .val (.int p6), .val (.int (1 : Int32)), .val (.int (1811939329 : Int32)), .val (.ref b34), .val (.ref b35), .val (.ref b36), .val (.int v38), .val (.int v39), .val (.int v40), .val (.int v41), .val (.ref b42), .val (.ref b46)] [(.ref b42)]))
      refine Go.step (fun t k => XS.iconst X50.here hx rfl (hb hby at_130)  k) ?_
      show Go p e below _ (T50.setTop (mkF m 131 #[.val (.int p1), .val (.int p2), .val (.int p3), .val (.int p4), .val (.int p5), .val (.int p6), .val (.int (1 : Int32)), .val (.int (1811939329 : Int32)), .val (.ref b34), .val (.ref b35), .val (.ref b36), .val (.int v38), .val (.int v39), .val (.int v40), .val (.int v41), .val (.ref b42), .val (.ref b46)] [(.int (0 : Int32)), (.ref b42)]))
      refine Go.step (ldI X50 hx hZ rfl Q50_0 (j := (0 : Int32)) (by decide) (by decide) (g := (mkF m 131 #[.val (.int p1), .val (.int p2), .val (.int p3), .val (.int p4), .val (.int p5), .val (.int p6), .val (.int (1 : Int32)), .val (.int (1811939329 : Int32)), .val (.ref b34), .val (.ref b35), .val (.ref b36), .val (.int v38), .val (.int v39), .val (.int v40), .val (.int v41), .val (.ref b42), .val (.ref b46)] [(.int (0 : Int32)), (.ref b42)])) rfl rfl (hb hby at_131)) ?_
      show Go p e below _ (T50.setTop (mkF m 132 #[.val (.int p1), .val (.int p2), .val (.int p3), .val (.int p4), .val (.int p5), .val (.int p6), .val (.int (1 : Int32)), .val (.int (1811939329 : Int32)), .val (.ref b34), .val (.ref b35), .val (.ref b36), .val (.int v38), .val (.int v39), .val (.int v40), .val (.int v41), .val (.ref b42), .val (.ref b46)] [(.int ((upA (upA (upA (upA (upA (fun _ => (0 : Int32)) 0 v38) 1 v40) 2 p6) 0 (mpF ((upA (upA (upA (fun _ => (0 : Int32)) 0 v38) 1 v40) 2 p6) 0) ((upA (upA (upA (fun _ => (0 : Int32)) 0 v39) 1 v41) 2 p6) 0) (1811939329 : Int32) (1811939327 : Int32))) 1 (mpF ((upA (upA (upA (fun _ => (0 : Int32)) 0 v38) 1 v40) 2 p6) 1) ((upA (upA (upA (fun _ => (0 : Int32)) 0 v39) 1 v41) 2 p6) 1) (1811939329 : Int32) (1811939327 : Int32))) 0))]))
      refine Go.step (fun t k => XS.iload X50.here hx rfl (hb hby at_132) rfl k) ?_
      show Go p e below _ (T50.setTop (mkF m 134 #[.val (.int p1), .val (.int p2), .val (.int p3), .val (.int p4), .val (.int p5), .val (.int p6), .val (.int (1 : Int32)), .val (.int (1811939329 : Int32)), .val (.ref b34), .val (.ref b35), .val (.ref b36), .val (.int v38), .val (.int v39), .val (.int v40), .val (.int v41), .val (.ref b42), .val (.ref b46)] [(.int v38), (.int ((upA (upA (upA (upA (upA (fun _ => (0 : Int32)) 0 v38) 1 v40) 2 p6) 0 (mpF ((upA (upA (upA (fun _ => (0 : Int32)) 0 v38) 1 v40) 2 p6) 0) ((upA (upA (upA (fun _ => (0 : Int32)) 0 v39) 1 v41) 2 p6) 0) (1811939329 : Int32) (1811939327 : Int32))) 1 (mpF ((upA (upA (upA (fun _ => (0 : Int32)) 0 v38) 1 v40) 2 p6) 1) ((upA (upA (upA (fun _ => (0 : Int32)) 0 v39) 1 v41) 2 p6) 1) (1811939329 : Int32) (1811939327 : Int32))) 0))]))
      refine Go.step (fun t k => XS.iload X50.here hx rfl (hb hby at_134) rfl k) ?_
      show Go p e below _ (T50.setTop (mkF m 136 #[.val (.int p1), .val (.int p2), .val (.int p3), .val (.int p4), .val (.int p5), .val (.int p6), .val (.int (1 : Int32)), .val (.int (1811939329 : Int32)), .val (.ref b34), .val (.ref b35), .val (.ref b36), .val (.int v38), .val (.int v39), .val (.int v40), .val (.int v41), .val (.ref b42), .val (.ref b46)] [(.int v39), (.int v38), (.int ((upA (upA (upA (upA (upA (fun _ => (0 : Int32)) 0 v38) 1 v40) 2 p6) 0 (mpF ((upA (upA (upA (fun _ => (0 : Int32)) 0 v38) 1 v40) 2 p6) 0) ((upA (upA (upA (fun _ => (0 : Int32)) 0 v39) 1 v41) 2 p6) 0) (1811939329 : Int32) (1811939327 : Int32))) 1 (mpF ((upA (upA (upA (fun _ => (0 : Int32)) 0 v38) 1 v40) 2 p6) 1) ((upA (upA (upA (fun _ => (0 : Int32)) 0 v39) 1 v41) 2 p6) 1) (1811939329 : Int32) (1811939327 : Int32))) 0))]))
      refine Go.step (fun t k => XS.iload X50.here hx rfl (hb hby at_136) rfl k) ?_
      show Go p e below _ (T50.setTop (mkF m 138 #[.val (.int p1), .val (.int p2), .val (.int p3), .val (.int p4), .val (.int p5), .val (.int p6), .val (.int (1 : Int32)), .val (.int (1811939329 : Int32)), .val (.ref b34), .val (.ref b35), .val (.ref b36), .val (.int v38), .val (.int v39), .val (.int v40), .val (.int v41), .val (.ref b42), .val (.ref b46)] [(.int (1811939329 : Int32)), (.int v39), (.int v38), (.int ((upA (upA (upA (upA (upA (fun _ => (0 : Int32)) 0 v38) 1 v40) 2 p6) 0 (mpF ((upA (upA (upA (fun _ => (0 : Int32)) 0 v38) 1 v40) 2 p6) 0) ((upA (upA (upA (fun _ => (0 : Int32)) 0 v39) 1 v41) 2 p6) 0) (1811939329 : Int32) (1811939327 : Int32))) 1 (mpF ((upA (upA (upA (fun _ => (0 : Int32)) 0 v38) 1 v40) 2 p6) 1) ((upA (upA (upA (fun _ => (0 : Int32)) 0 v39) 1 v41) 2 p6) 1) (1811939329 : Int32) (1811939327 : Int32))) 0))]))
      obtain ⟨_, _, ⟨T51, L51, k51, n51⟩, -, X51, ⟨Lc51, hQ51, l51, y51, z51⟩, st51⟩ := Jvm.LawKit.callS X50 hx (y := (⟨"com/example/tinwire/tinwire/json/TransformMultiplyPointwisePinLaw", "ok", "(IIII)Z"⟩ : MethodName)) hown (mvT hZ (hw _ (List.mem_of_getElem? (i := 48) rfl))) (mvT hZ (hw _ (List.mem_of_getElem? (i := 49) rfl))) (mvT hZ (hw _ (List.mem_of_getElem? (i := 50) rfl))) (mvT hZ (hw _ (List.mem_of_getElem? (i := 51) rfl))) (by decide) (backOf (W := 0) (rm6 l Z a0 hw [] ((upA (upA (upA (upA (upA (fun _ => (0 : Int32)) 0 v38) 1 v40) 2 p6) 0 (mpF ((upA (upA (upA (fun _ => (0 : Int32)) 0 v38) 1 v40) 2 p6) 0) ((upA (upA (upA (fun _ => (0 : Int32)) 0 v39) 1 v41) 2 p6) 0) (1811939329 : Int32) (1811939327 : Int32))) 1 (mpF ((upA (upA (upA (fun _ => (0 : Int32)) 0 v38) 1 v40) 2 p6) 1) ((upA (upA (upA (fun _ => (0 : Int32)) 0 v39) 1 v41) 2 p6) 1) (1811939329 : Int32) (1811939327 : Int32))) 0) v38 v39 (1811939329 : Int32) T50.heap n0 Z50 ((by decide) : ¬ (((1811939329 : Int32).toInt64) = (0 : Int64))) ((by decide) : ¬ (((1811939329 : Int32).toInt64) = (0 : Int64)))) hZ (hw _ (List.mem_of_getElem? (i := 51) rfl)) (hw _ (List.mem_of_getElem? (i := 50) rfl)) (by decide) (by decide)) (g := (mkF m 138 #[.val (.int p1), .val (.int p2), .val (.int p3), .val (.int p4), .val (.int p5), .val (.int p6), .val (.int (1 : Int32)), .val (.int (1811939329 : Int32)), .val (.ref b34), .val (.ref b35), .val (.ref b36), .val (.int v38), .val (.int v39), .val (.int v40), .val (.int v41), .val (.ref b42), .val (.ref b46)] [(.int (1811939329 : Int32)), (.int v39), (.int v38), (.int ((upA (upA (upA (upA (upA (fun _ => (0 : Int32)) 0 v38) 1 v40) 2 p6) 0 (mpF ((upA (upA (upA (fun _ => (0 : Int32)) 0 v38) 1 v40) 2 p6) 0) ((upA (upA (upA (fun _ => (0 : Int32)) 0 v39) 1 v41) 2 p6) 0) (1811939329 : Int32) (1811939327 : Int32))) 1 (mpF ((upA (upA (upA (fun _ => (0 : Int32)) 0 v38) 1 v40) 2 p6) 1) ((upA (upA (upA (fun _ => (0 : Int32)) 0 v39) 1 v41) 2 p6) 1) (1811939329 : Int32) (1811939327 : Int32))) 0))])) rfl (by rw [hml]; rfl) (argsL := [(.int ((upA (upA (upA (upA (upA (fun _ => (0 : Int32)) 0 v38) 1 v40) 2 p6) 0 (mpF ((upA (upA (upA (fun _ => (0 : Int32)) 0 v38) 1 v40) 2 p6) 0) ((upA (upA (upA (fun _ => (0 : Int32)) 0 v39) 1 v41) 2 p6) 0) (1811939329 : Int32) (1811939327 : Int32))) 1 (mpF ((upA (upA (upA (fun _ => (0 : Int32)) 0 v38) 1 v40) 2 p6) 1) ((upA (upA (upA (fun _ => (0 : Int32)) 0 v39) 1 v41) 2 p6) 1) (1811939329 : Int32) (1811939327 : Int32))) 0)), (.int v38), (.int v39), (.int (1811939329 : Int32))]) (rest := []) (lenOf pd_4 rfl) rfl (by show 2 * 0 + _ ≤ _; exact Nat.le_of_eq rfl) (hb hby at_138) (fun _ _ => ⟨rfl, rfl, (by decide : 5 + 0 ≤ _), (by decide : 17 + 0 ≤ _)⟩)
      dsimp only [Pt.U, Pt.locs, Pt.cells, Pt.slots] at X51 l51 y51 z51 st51 hQ51
      subst l51 y51 z51
      obtain ⟨rfl, N51q, e51⟩ := hQ51
      have N51 := Fr.app N50 N51q
      refine Go.step st51 ?_
      show Go p e below _ (T51.setTop (mkF m 141 #[.val (.int p1), .val (.int p2), .val (.int p3), .val (.int p4), .val (.int p5), .val (.int p6), .val (.int (1 : Int32)), .val (.int (1811939329 : Int32)), .val (.ref b34), .val (.ref b35), .val (.ref b36), .val (.int v38), .val (.int v39), .val (.int v40), .val (.int v41), .val (.ref b42), .val (.ref b46)] [(.int (f6 ((upA (upA (upA (upA (upA (fun _ => (0 : Int32)) 0 v38) 1 v40) 2 p6) 0 (mpF ((upA (upA (upA (fun _ => (0 : Int32)) 0 v38) 1 v40) 2 p6) 0) ((upA (upA (upA (fun _ => (0 : Int32)) 0 v39) 1 v41) 2 p6) 0) (1811939329 : Int32) (1811939327 : Int32))) 1 (mpF ((upA (upA (upA (fun _ => (0 : Int32)) 0 v38) 1 v40) 2 p6) 1) ((upA (upA (upA (fun _ => (0 : Int32)) 0 v39) 1 v41) 2 p6) 1) (1811939329 : Int32) (1811939327 : Int32))) 0) v38 v39 (1811939329 : Int32)))]))
      by_cases hc52 : (f6 ((upA (upA (upA (upA (upA (fun _ => (0 : Int32)) 0 v38) 1 v40) 2 p6) 0 (mpF ((upA (upA (upA (fun _ => (0 : Int32)) 0 v38) 1 v40) 2 p6) 0) ((upA (upA (upA (fun _ => (0 : Int32)) 0 v39) 1 v41) 2 p6) 0) (1811939329 : Int32) (1811939327 : Int32))) 1 (mpF ((upA (upA (upA (fun _ => (0 : Int32)) 0 v38) 1 v40) 2 p6) 1) ((upA (upA (upA (fun _ => (0 : Int32)) 0 v39) 1 v41) 2 p6) 1) (1811939329 : Int32) (1811939327 : Int32))) 0) v38 v39 (1811939329 : Int32)) = (0 : Int32)
      · refine Go.step (fun t k => XS.ifYes X51.here hx rfl (pc0 := 141) (pc' := 200) rfl (hb hby at_141) rfl ((if0 _ _).trans (teq hc52).1) (by decide) (by decide) k) ?_
        show Go p e below _ (T51.setTop (mkF m 200 #[.val (.int p1), .val (.int p2), .val (.int p3), .val (.int p4), .val (.int p5), .val (.int p6), .val (.int (1 : Int32)), .val (.int (1811939329 : Int32)), .val (.ref b34), .val (.ref b35), .val (.ref b36), .val (.int v38), .val (.int v39), .val (.int v40), .val (.int v41), .val (.ref b42), .val (.ref b46)] []))
        refine Go.step (fun t k => XS.iconst X51.here hx rfl (hb hby at_200)  k) ?_
        show Go p e below _ (T51.setTop (mkF m 201 #[.val (.int p1), .val (.int p2), .val (.int p3), .val (.int p4), .val (.int p5), .val (.int p6), .val (.int (1 : Int32)), .val (.int (1811939329 : Int32)), .val (.ref b34), .val (.ref b35), .val (.ref b36), .val (.int v38), .val (.int v39), .val (.int v40), .val (.int v41), .val (.ref b42), .val (.ref b46)] [(.int (0 : Int32))]))
        subst hv41
        subst hv40
        subst hv39
        subst hv38
        subst hv7
        exact retGN X51 hx Bd.notSynchronized Bd.returns (t := .boolean) (by simp) (z' := (0 : Int32)) rfl (hb hby at_201) ⟨by first | (simp only [f0, if_neg hc8, if_pos hc32, if_pos hc52]; done) | rfl | (simp [f0, if_neg hc8, if_pos hc32, if_pos hc52]; done), N51⟩ (by decide) (by decide)
      · refine Go.step (fun t k => XS.ifNo X51.here hx rfl (hb hby at_141) rfl ((if0 _ _).trans (feq hc52).1) k) ?_
        show Go p e below _ (T51.setTop (mkF m 144 #[.val (.int p1), .val (.int p2), .val (.int p3), .val (.int p4), .val (.int p5), .val (.int p6), .val (.int (1 : Int32)), .val (.int (1811939329 : Int32)), .val (.ref b34), .val (.ref b35), .val (.ref b36), .val (.int v38), .val (.int v39), .val (.int v40), .val (.int v41), .val (.ref b42), .val (.ref b46)] []))
        refine Go.step (fun t k => XS.aload X51.here hx rfl (hb hby at_144) rfl rfl k) ?_
        show Go p e below _ (T51.setTop (mkF m 146 #[.val (.int p1), .val (.int p2), .val (.int p3), .val (.int p4), .val (.int p5), .val (.int p6), .val (.int (1 : Int32)), .val (.int (1811939329 : Int32)), .val (.ref b34), .val (.ref b35), .val (.ref b36), .val (.int v38), .val (.int v39), .val (.int v40), .val (.int v41), .val (.ref b42), .val (.ref b46)] [(.ref b42)]))
        refine Go.step (fun t k => XS.iconst X51.here hx rfl (hb hby at_146)  k) ?_
        show Go p e below _ (T51.setTop (mkF m 147 #[.val (.int p1), .val (.int p2), .val (.int p3), .val (.int p4), .val (.int p5), .val (.int p6), .val (.int (1 : Int32)), .val (.int (1811939329 : Int32)), .val (.ref b34), .val (.ref b35), .val (.ref b36), .val (.int v38), .val (.int v39), .val (.int v40), .val (.int v41), .val (.ref b42), .val (.ref b46)] [(.int (1 : Int32)), (.ref b42)]))
        refine Go.step (ldI X51 hx hZ e51 Q50_0 (j := (1 : Int32)) (by decide) (by decide) (g := (mkF m 147 #[.val (.int p1), .val (.int p2), .val (.int p3), .val (.int p4), .val (.int p5), .val (.int p6), .val (.int (1 : Int32)), .val (.int (1811939329 : Int32)), .val (.ref b34), .val (.ref b35), .val (.ref b36), .val (.int v38), .val (.int v39), .val (.int v40), .val (.int v41), .val (.ref b42), .val (.ref b46)] [(.int (1 : Int32)), (.ref b42)])) rfl rfl (hb hby at_147)) ?_
        show Go p e below _ (T51.setTop (mkF m 148 #[.val (.int p1), .val (.int p2), .val (.int p3), .val (.int p4), .val (.int p5), .val (.int p6), .val (.int (1 : Int32)), .val (.int (1811939329 : Int32)), .val (.ref b34), .val (.ref b35), .val (.ref b36), .val (.int v38), .val (.int v39), .val (.int v40), .val (.int v41), .val (.ref b42), .val (.ref b46)] [(.int ((upA (upA (upA (upA (upA (fun _ => (0 : Int32)) 0 v38) 1 v40) 2 p6) 0 (mpF ((upA (upA (upA (fun _ => (0 : Int32)) 0 v38) 1 v40) 2 p6) 0) ((upA (upA (upA (fun _ => (0 : Int32)) 0 v39) 1 v41) 2 p6) 0) (1811939329 : Int32) (1811939327 : Int32))) 1 (mpF ((upA (upA (upA (fun _ => (0 : Int32)) 0 v38) 1 v40) 2 p6) 1) ((upA (upA (upA (fun _ => (0 : Int32)) 0 v39) 1 v41) 2 p6) 1) (1811939329 : Int32) (1811939327 : Int32))) 1))]))
        refine Go.step (fun t k => XS.iload X51.here hx rfl (hb hby at_148) rfl k) ?_
        show Go p e below _ (T51.setTop (mkF m 150 #[.val (.int p1), .val (.int p2), .val (.int p3), .val (.int p4), .val (.int p5), .val (.int p6), .val (.int (1 : Int32)), .val (.int (1811939329 : Int32)), .val (.ref b34), .val (.ref b35), .val (.ref b36), .val (.int v38), .val (.int v39), .val (.int v40), .val (.int v41), .val (.ref b42), .val (.ref b46)] [(.int v40), (.int ((upA (upA (upA (upA (upA (fun _ => (0 : Int32)) 0 v38) 1 v40) 2 p6) 0 (mpF ((upA (upA (upA (fun _ => (0 : Int32)) 0 v38) 1 v40) 2 p6) 0) ((upA (upA (upA (fun _ => (0 : Int32)) 0 v39) 1 v41) 2 p6) 0) (1811939329 : Int32) (1811939327 : Int32))) 1 (mpF ((upA (upA (upA (fun _ => (0 : Int32)) 0 v38) 1 v40) 2 p6) 1) ((upA (upA (upA (fun _ => (0 : Int32)) 0 v39) 1 v41) 2 p6) 1) (1811939329 : Int32) (1811939327 : Int32))) 1))]))
        refine Go.step (fun t k => XS.iload X51.here hx rfl (hb hby at_150) rfl k) ?_
        show Go p e below _ (T51.setTop (mkF m 152 #[.val (.int p1), .val (.int p2), .val (.int p3), .val (.int p4), .val (.int p5), .val (.int p6), .val (.int (1 : Int32)), .val (.int (1811939329 : Int32)), .val (.ref b34), .val (.ref b35), .val (.ref b36), .val (.int v38), .val (.int v39), .val (.int v40), .val (.int v41), .val (.ref b42), .val (.ref b46)] [(.int v41), (.int v40), (.int ((upA (upA (upA (upA (upA (fun _ => (0 : Int32)) 0 v38) 1 v40) 2 p6) 0 (mpF ((upA (upA (upA (fun _ => (0 : Int32)) 0 v38) 1 v40) 2 p6) 0) ((upA (upA (upA (fun _ => (0 : Int32)) 0 v39) 1 v41) 2 p6) 0) (1811939329 : Int32) (1811939327 : Int32))) 1 (mpF ((upA (upA (upA (fun _ => (0 : Int32)) 0 v38) 1 v40) 2 p6) 1) ((upA (upA (upA (fun _ => (0 : Int32)) 0 v39) 1 v41) 2 p6) 1) (1811939329 : Int32) (1811939327 : Int32))) 1))]))
        refine Go.step (fun t k => XS.iload X51.here hx rfl (hb hby at_152) rfl k) ?_
        show Go p e below _ (T51.setTop (mkF m 154 #[.val (.int p1), .val (.int p2), .val (.int p3), .val (.int p4), .val (.int p5), .val (.int p6), .val (.int (1 : Int32)), .val (.int (1811939329 : Int32)), .val (.ref b34), .val (.ref b35), .val (.ref b36), .val (.int v38), .val (.int v39), .val (.int v40), .val (.int v41), .val (.ref b42), .val (.ref b46)] [(.int (1811939329 : Int32)), (.int v41), (.int v40), (.int ((upA (upA (upA (upA (upA (fun _ => (0 : Int32)) 0 v38) 1 v40) 2 p6) 0 (mpF ((upA (upA (upA (fun _ => (0 : Int32)) 0 v38) 1 v40) 2 p6) 0) ((upA (upA (upA (fun _ => (0 : Int32)) 0 v39) 1 v41) 2 p6) 0) (1811939329 : Int32) (1811939327 : Int32))) 1 (mpF ((upA (upA (upA (fun _ => (0 : Int32)) 0 v38) 1 v40) 2 p6) 1) ((upA (upA (upA (fun _ => (0 : Int32)) 0 v39) 1 v41) 2 p6) 1) (1811939329 : Int32) (1811939327 : Int32))) 1))]))
        obtain ⟨_, _, ⟨T53, L53, k53, n53⟩, -, X53, ⟨Lc53, hQ53, l53, y53, z53⟩, st53⟩ := Jvm.LawKit.callS X51 hx (y := (⟨"com/example/tinwire/tinwire/json/TransformMultiplyPointwisePinLaw", "ok", "(IIII)Z"⟩ : MethodName)) hown (mvT hZ (hw _ (List.mem_of_getElem? (i := 48) rfl))) (mvT hZ (hw _ (List.mem_of_getElem? (i := 49) rfl))) (mvT hZ (hw _ (List.mem_of_getElem? (i := 50) rfl))) (mvT hZ (hw _ (List.mem_of_getElem? (i := 51) rfl))) (by decide) (backOf (W := 0) (rm6 l Z a0 hw [] ((upA (upA (upA (upA (upA (fun _ => (0 : Int32)) 0 v38) 1 v40) 2 p6) 0 (mpF ((upA (upA (upA (fun _ => (0 : Int32)) 0 v38) 1 v40) 2 p6) 0) ((upA (upA (upA (fun _ => (0 : Int32)) 0 v39) 1 v41) 2 p6) 0) (1811939329 : Int32) (1811939327 : Int32))) 1 (mpF ((upA (upA (upA (fun _ => (0 : Int32)) 0 v38) 1 v40) 2 p6) 1) ((upA (upA (upA (fun _ => (0 : Int32)) 0 v39) 1 v41) 2 p6) 1) (1811939329 : Int32) (1811939327 : Int32))) 1) v40 v41 (1811939329 : Int32) T50.heap n0 Z50 ((by decide) : ¬ (((1811939329 : Int32).toInt64) = (0 : Int64))) ((by decide) : ¬ (((1811939329 : Int32).toInt64) = (0 : Int64)))) hZ (hw _ (List.mem_of_getElem? (i := 51) rfl)) (hw _ (List.mem_of_getElem? (i := 50) rfl)) (by decide) (by decide)) (g := (mkF m 154 #[.val (.int p1), .val (.int p2), .val (.int p3), .val (.int p4), .val (.int p5), .val (.int p6), .val (.int (1 : Int32)), .val (.int (1811939329 : Int32)), .val (.ref b34), .val (.ref b35), .val (.ref b36), .val (.int v38), .val (.int v39), .val (.int v40), .val (.int v41), .val (.ref b42), .val (.ref b46)] [(.int (1811939329 : Int32)), (.int v41), (.int v40), (.int ((upA (upA (upA (upA (upA (fun _ => (0 : Int32)) 0 v38) 1 v40) 2 p6) 0 (mpF ((upA (upA (upA (fun _ => (0 : Int32)) 0 v38) 1 v40) 2 p6) 0) ((upA (upA (upA (fun _ => (0 : Int32)) 0 v39) 1 v41) 2 p6) 0) (1811939329 : Int32) (1811939327 : Int32))) 1 (mpF ((upA (upA (upA (fun _ => (0 : Int32)) 0 v38) 1 v40) 2 p6) 1) ((upA (upA (upA (fun _ => (0 : Int32)) 0 v39) 1 v41) 2 p6) 1) (1811939329 : Int32) (1811939327 : Int32))) 1))])) rfl (by rw [hml]; rfl) (argsL := [(.int ((upA (upA (upA (upA (upA (fun _ => (0 : Int32)) 0 v38) 1 v40) 2 p6) 0 (mpF ((upA (upA (upA (fun _ => (0 : Int32)) 0 v38) 1 v40) 2 p6) 0) ((upA (upA (upA (fun _ => (0 : Int32)) 0 v39) 1 v41) 2 p6) 0) (1811939329 : Int32) (1811939327 : Int32))) 1 (mpF ((upA (upA (upA (fun _ => (0 : Int32)) 0 v38) 1 v40) 2 p6) 1) ((upA (upA (upA (fun _ => (0 : Int32)) 0 v39) 1 v41) 2 p6) 1) (1811939329 : Int32) (1811939327 : Int32))) 1)), (.int v40), (.int v41), (.int (1811939329 : Int32))]) (rest := []) (lenOf pd_4 rfl) rfl (by show 2 * 0 + _ ≤ _; exact Nat.le_of_eq rfl) (hb hby at_154) (fun _ _ => ⟨rfl, e51, (by decide : 5 + 0 ≤ _), (by decide : 17 + 0 ≤ _)⟩)
        dsimp only [Pt.U, Pt.locs, Pt.cells, Pt.slots] at X53 l53 y53 z53 st53 hQ53
        subst l53 y53 z53
        obtain ⟨rfl, N53q, e53⟩ := hQ53
        have N53 := Fr.app N51 N53q
        refine Go.step st53 ?_
        show Go p e below _ (T53.setTop (mkF m 157 #[.val (.int p1), .val (.int p2), .val (.int p3), .val (.int p4), .val (.int p5), .val (.int p6), .val (.int (1 : Int32)), .val (.int (1811939329 : Int32)), .val (.ref b34), .val (.ref b35), .val (.ref b36), .val (.int v38), .val (.int v39), .val (.int v40), .val (.int v41), .val (.ref b42), .val (.ref b46)] [(.int (f6 ((upA (upA (upA (upA (upA (fun _ => (0 : Int32)) 0 v38) 1 v40) 2 p6) 0 (mpF ((upA (upA (upA (fun _ => (0 : Int32)) 0 v38) 1 v40) 2 p6) 0) ((upA (upA (upA (fun _ => (0 : Int32)) 0 v39) 1 v41) 2 p6) 0) (1811939329 : Int32) (1811939327 : Int32))) 1 (mpF ((upA (upA (upA (fun _ => (0 : Int32)) 0 v38) 1 v40) 2 p6) 1) ((upA (upA (upA (fun _ => (0 : Int32)) 0 v39) 1 v41) 2 p6) 1) (1811939329 : Int32) (1811939327 : Int32))) 1) v40 v41 (1811939329 : Int32)))]))
        by_cases hc54 : (f6 ((upA (upA (upA (upA (upA (fun _ => (0 : Int32)) 0 v38) 1 v40) 2 p6) 0 (mpF ((upA (upA (upA (fun _ => (0 : Int32)) 0 v38) 1 v40) 2 p6) 0) ((upA (upA (upA (fun _ => (0 : Int32)) 0 v39) 1 v41) 2 p6) 0) (1811939329 : Int32) (1811939327 : Int32))) 1 (mpF ((upA (upA (upA (fun _ => (0 : Int32)) 0 v38) 1 v40) 2 p6) 1) ((upA (upA (upA (fun _ => (0 : Int32)) 0 v39) 1 v41) 2 p6) 1) (1811939329 : Int32) (1811939327 : Int32))) 1) v40 v41 (1811939329 : Int32)) = (0 : Int32)
        · refine Go.step (fun t k => XS.ifYes X53.here hx rfl (pc0 := 157) (pc' := 200) rfl (hb hby at_157) rfl ((if0 _ _).trans (teq hc54).1) (by decide) (by decide) k) ?_
          show Go p e below _ (T53.setTop (mkF m 200 #[.val (.int p1), .val (.int p2), .val (.int p3), .val (.int p4), .val (.int p5), .val (.int p6), .val (.int (1 : Int32)), .val (.int (1811939329 : Int32)), .val (.ref b34), .val (.ref b35), .val (.ref b36), .val (.int v38), .val (.int v39), .val (.int v40), .val (.int v41), .val (.ref b42), .val (.ref b46)] []))
          refine Go.step (fun t k => XS.iconst X53.here hx rfl (hb hby at_200)  k) ?_
          show Go p e below _ (T53.setTop (mkF m 201 #[.val (.int p1), .val (.int p2), .val (.int p3), .val (.int p4), .val (.int p5), .val (.int p6), .val (.int (1 : Int32)), .val (.int (1811939329 : Int32)), .val (.ref b34), .val (.ref b35), .val (.ref b36), .val (.int v38), .val (.int v39), .val (.int v40), .val (.int v41), .val (.ref b42), .val (.ref b46)] [(.int (0 : Int32))]))
          subst hv41
          subst hv40
          subst hv39
          subst hv38
          subst hv7
          exact retGN X53 hx Bd.notSynchronized Bd.returns (t := .boolean) (by simp) (z' := (0 : Int32)) rfl (hb hby at_201) ⟨by first | (simp only [f0, if_neg hc8, if_pos hc32, if_neg hc52, if_pos hc54]; done) | rfl | (simp [f0, if_neg hc8, if_pos hc32, if_neg hc52, if_pos hc54]; done), N53⟩ (by decide) (by decide)
        · refine Go.step (fun t k => XS.ifNo X53.here hx rfl (hb hby at_157) rfl ((if0 _ _).trans (feq hc54).1) k) ?_
          show Go p e below _ (T53.setTop (mkF m 160 #[.val (.int p1), .val (.int p2), .val (.int p3), .val (.int p4), .val (.int p5), .val (.int p6), .val (.int (1 : Int32)), .val (.int (1811939329 : Int32)), .val (.ref b34), .val (.ref b35), .val (.ref b36), .val (.int v38), .val (.int v39), .val (.int v40), .val (.int v41), .val (.ref b42), .val (.ref b46)] []))
          refine Go.step (fun t k => XS.aload X53.here hx rfl (hb hby at_160) rfl rfl k) ?_
          show Go p e below _ (T53.setTop (mkF m 162 #[.val (.int p1), .val (.int p2), .val (.int p3), .val (.int p4), .val (.int p5), .val (.int p6), .val (.int (1 : Int32)), .val (.int (1811939329 : Int32)), .val (.ref b34), .val (.ref b35), .val (.ref b36), .val (.int v38), .val (.int v39), .val (.int v40), .val (.int v41), .val (.ref b42), .val (.ref b46)] [(.ref b42)]))
          refine Go.step (fun t k => XS.iconst X53.here hx rfl (hb hby at_162)  k) ?_
          show Go p e below _ (T53.setTop (mkF m 163 #[.val (.int p1), .val (.int p2), .val (.int p3), .val (.int p4), .val (.int p5), .val (.int p6), .val (.int (1 : Int32)), .val (.int (1811939329 : Int32)), .val (.ref b34), .val (.ref b35), .val (.ref b36), .val (.int v38), .val (.int v39), .val (.int v40), .val (.int v41), .val (.ref b42), .val (.ref b46)] [(.int (2 : Int32)), (.ref b42)]))
          refine Go.step (ldI X53 hx hZ e53 Q50_0 (j := (2 : Int32)) (by decide) (by decide) (g := (mkF m 163 #[.val (.int p1), .val (.int p2), .val (.int p3), .val (.int p4), .val (.int p5), .val (.int p6), .val (.int (1 : Int32)), .val (.int (1811939329 : Int32)), .val (.ref b34), .val (.ref b35), .val (.ref b36), .val (.int v38), .val (.int v39), .val (.int v40), .val (.int v41), .val (.ref b42), .val (.ref b46)] [(.int (2 : Int32)), (.ref b42)])) rfl rfl (hb hby at_163)) ?_
          show Go p e below _ (T53.setTop (mkF m 164 #[.val (.int p1), .val (.int p2), .val (.int p3), .val (.int p4), .val (.int p5), .val (.int p6), .val (.int (1 : Int32)), .val (.int (1811939329 : Int32)), .val (.ref b34), .val (.ref b35), .val (.ref b36), .val (.int v38), .val (.int v39), .val (.int v40), .val (.int v41), .val (.ref b42), .val (.ref b46)] [(.int ((upA (upA (upA (upA (upA (fun _ => (0 : Int32)) 0 v38) 1 v40) 2 p6) 0 (mpF ((upA (upA (upA (fun _ => (0 : Int32)) 0 v38) 1 v40) 2 p6) 0) ((upA (upA (upA (fun _ => (0 : Int32)) 0 v39) 1 v41) 2 p6) 0) (1811939329 : Int32) (1811939327 : Int32))) 1 (mpF ((upA (upA (upA (fun _ => (0 : Int32)) 0 v38) 1 v40) 2 p6) 1) ((upA (upA (upA (fun _ => (0 : Int32)) 0 v39) 1 v41) 2 p6) 1) (1811939329 : Int32) (1811939327 : Int32))) 2))]))
          refine Go.step (fun t k => XS.iload X53.here hx rfl (hb hby at_164) rfl k) ?_
          show Go p e below _ (T53.setTop (mkF m 166 #[.val (.int p1), .val (.int p2), .val (.int p3), .val (.int p4), .val (.int p5), .val (.int p6), .val (.int (1 : Int32)), .val (.int (1811939329 : Int32)), .val (.ref b34), .val (.ref b35), .val (.ref b36), .val (.int v38), .val (.int v39), .val (.int v40), .val (.int v41), .val (.ref b42), .val (.ref b46)] [(.int p6), (.int ((upA (upA (upA (upA (upA (fun _ => (0 : Int32)) 0 v38) 1 v40) 2 p6) 0 (mpF ((upA (upA (upA (fun _ => (0 : Int32)) 0 v38) 1 v40) 2 p6) 0) ((upA (upA (upA (fun _ => (0 : Int32)) 0 v39) 1 v41) 2 p6) 0) (1811939329 : Int32) (1811939327 : Int32))) 1 (mpF ((upA (upA (upA (fun _ => (0 : Int32)) 0 v38) 1 v40) 2 p6) 1) ((upA (upA (upA (fun _ => (0 : Int32)) 0 v39) 1 v41) 2 p6) 1) (1811939329 : Int32) (1811939327 : Int32))) 2))]))
          by_cases hc55 : ((upA (upA (upA (upA (upA (fun _ => (0 : Int32)) 0 v38) 1 v40) 2 p6) 0 (mpF ((upA (upA (upA (fun _ => (0 : Int32)) 0 v38) 1 v40) 2 p6) 0) ((upA (upA (upA (fun _ => (0 : Int32)) 0 v39) 1 v41) 2 p6) 0) (1811939329 : Int32) (1811939327 : Int32))) 1 (mpF ((upA (upA (upA (fun _ => (0 : Int32)) 0 v38) 1 v40) 2 p6) 1) ((upA (upA (upA (fun _ => (0 : Int32)) 0 v39) 1 v41) 2 p6) 1) (1811939329 : Int32) (1811939327 : Int32))) 2) = p6
          · refine Go.step (fun t k => XS.icmpNo X53.here hx rfl (hb hby at_166) rfl (teq hc55).2 k) ?_
            show Go p e below _ (T53.setTop (mkF m 169 #[.val (.int p1), .val (.int p2), .val (.int p3), .val (.int p4), .val (.int p5), .val (.int p6), .val (.int (1 : Int32)), .val (.int (1811939329 : Int32)), .val (.ref b34), .val (.ref b35), .val (.ref b36), .val (.int v38), .val (.int v39), .val (.int v40), .val (.int v41), .val (.ref b42), .val (.ref b46)] []))
            refine Go.step (fun t k => XS.aload X53.here hx rfl (hb hby at_169) rfl rfl k) ?_
            show Go p e below _ (T53.setTop (mkF m 171 #[.val (.int p1), .val (.int p2), .val (.int p3), .val (.int p4), .val (.int p5), .val (.int p6), .val (.int (1 : Int32)), .val (.int (1811939329 : Int32)), .val (.ref b34), .val (.ref b35), .val (.ref b36), .val (.int v38), .val (.int v39), .val (.int v40), .val (.int v41), .val (.ref b42), .val (.ref b46)] [(.ref b46)]))
            refine Go.step (fun t k => XS.iconst X53.here hx rfl (hb hby at_171)  k) ?_
            show Go p e below _ (T53.setTop (mkF m 172 #[.val (.int p1), .val (.int p2), .val (.int p3), .val (.int p4), .val (.int p5), .val (.int p6), .val (.int (1 : Int32)), .val (.int (1811939329 : Int32)), .val (.ref b34), .val (.ref b35), .val (.ref b36), .val (.int v38), .val (.int v39), .val (.int v40), .val (.int v41), .val (.ref b42), .val (.ref b46)] [(.int (0 : Int32)), (.ref b46)]))
            refine Go.step (ldI X53 hx hZ e53 A_b46_50 (j := (0 : Int32)) (by decide) (by decide) (g := (mkF m 172 #[.val (.int p1), .val (.int p2), .val (.int p3), .val (.int p4), .val (.int p5), .val (.int p6), .val (.int (1 : Int32)), .val (.int (1811939329 : Int32)), .val (.ref b34), .val (.ref b35), .val (.ref b36), .val (.int v38), .val (.int v39), .val (.int v40), .val (.int v41), .val (.ref b42), .val (.ref b46)] [(.int (0 : Int32)), (.ref b46)])) rfl rfl (hb hby at_172)) ?_
            show Go p e below _ (T53.setTop (mkF m 173 #[.val (.int p1), .val (.int p2), .val (.int p3), .val (.int p4), .val (.int p5), .val (.int p6), .val (.int (1 : Int32)), .val (.int (1811939329 : Int32)), .val (.ref b34), .val (.ref b35), .val (.ref b36), .val (.int v38), .val (.int v39), .val (.int v40), .val (.int v41), .val (.ref b42), .val (.ref b46)] [(.int v39)]))
            refine Go.step (fun t k => XS.iload X53.here hx rfl (hb hby at_173) rfl k) ?_
            show Go p e below _ (T53.setTop (mkF m 175 #[.val (.int p1), .val (.int p2), .val (.int p3), .val (.int p4), .val (.int p5), .val (.int p6), .val (.int (1 : Int32)), .val (.int (1811939329 : Int32)), .val (.ref b34), .val (.ref b35), .val (.ref b36), .val (.int v38), .val (.int v39), .val (.int v40), .val (.int v41), .val (.ref b42), .val (.ref b46)] [(.int v39), (.int v39)]))
            refine Go.step (fun t k => XS.icmpNo X53.here hx rfl (hb hby at_175) rfl (teq (rfl : v39 = v39)).2 k) ?_
            show Go p e below _ (T53.setTop (mkF m 178 #[.val (.int p1), .val (.int p2), .val (.int p3), .val (.int p4), .val (.int p5), .val (.int p6), .val (.int (1 : Int32)), .val (.int (1811939329 : Int32)), .val (.ref b34), .val (.ref b35), .val (.ref b36), .val (.int v38), .val (.int v39), .val (.int v40), .val (.int v41), .val (.ref b42), .val (.ref b46)] []))
            refine Go.step (fun t k => XS.aload X53.here hx rfl (hb hby at_178) rfl rfl k) ?_
            show Go p e below _ (T53.setTop (mkF m 180 #[.val (.int p1), .val (.int p2), .val (.int p3), .val (.int p4), .val (.int p5), .val (.int p6), .val (.int (1 : Int32)), .val (.int (1811939329 : Int32)), .val (.ref b34), .val (.ref b35), .val (.ref b36), .val (.int v38), .val (.int v39), .val (.int v40), .val (.int v41), .val (.ref b42), .val (.ref b46)] [(.ref b46)]))
            refine Go.step (fun t k => XS.iconst X53.here hx rfl (hb hby at_180)  k) ?_
            show Go p e below _ (T53.setTop (mkF m 181 #[.val (.int p1), .val (.int p2), .val (.int p3), .val (.int p4), .val (.int p5), .val (.int p6), .val (.int (1 : Int32)), .val (.int (1811939329 : Int32)), .val (.ref b34), .val (.ref b35), .val (.ref b36), .val (.int v38), .val (.int v39), .val (.int v40), .val (.int v41), .val (.ref b42), .val (.ref b46)] [(.int (1 : Int32)), (.ref b46)]))
            refine Go.step (ldI X53 hx hZ e53 A_b46_50 (j := (1 : Int32)) (by decide) (by decide) (g := (mkF m 181 #[.val (.int p1), .val (.int p2), .val (.int p3), .val (.int p4), .val (.int p5), .val (.int p6), .val (.int (1 : Int32)), .val (.int (1811939329 : Int32)), .val (.ref b34), .val (.ref b35), .val (.ref b36), .val (.int v38), .val (.int v39), .val (.int v40), .val (.int v41), .val (.ref b42), .val (.ref b46)] [(.int (1 : Int32)), (.ref b46)])) rfl rfl (hb hby at_181)) ?_
            show Go p e below _ (T53.setTop (mkF m 182 #[.val (.int p1), .val (.int p2), .val (.int p3), .val (.int p4), .val (.int p5), .val (.int p6), .val (.int (1 : Int32)), .val (.int (1811939329 : Int32)), .val (.ref b34), .val (.ref b35), .val (.ref b36), .val (.int v38), .val (.int v39), .val (.int v40), .val (.int v41), .val (.ref b42), .val (.ref b46)] [(.int v41)]))
            refine Go.step (fun t k => XS.iload X53.here hx rfl (hb hby at_182) rfl k) ?_
            show Go p e below _ (T53.setTop (mkF m 184 #[.val (.int p1), .val (.int p2), .val (.int p3), .val (.int p4), .val (.int p5), .val (.int p6), .val (.int (1 : Int32)), .val (.int (1811939329 : Int32)), .val (.ref b34), .val (.ref b35), .val (.ref b36), .val (.int v38), .val (.int v39), .val (.int v40), .val (.int v41), .val (.ref b42), .val (.ref b46)] [(.int v41), (.int v41)]))
            refine Go.step (fun t k => XS.icmpNo X53.here hx rfl (hb hby at_184) rfl (teq (rfl : v41 = v41)).2 k) ?_
            show Go p e below _ (T53.setTop (mkF m 187 #[.val (.int p1), .val (.int p2), .val (.int p3), .val (.int p4), .val (.int p5), .val (.int p6), .val (.int (1 : Int32)), .val (.int (1811939329 : Int32)), .val (.ref b34), .val (.ref b35), .val (.ref b36), .val (.int v38), .val (.int v39), .val (.int v40), .val (.int v41), .val (.ref b42), .val (.ref b46)] []))
            refine Go.step (fun t k => XS.aload X53.here hx rfl (hb hby at_187) rfl rfl k) ?_
            show Go p e below _ (T53.setTop (mkF m 189 #[.val (.int p1), .val (.int p2), .val (.int p3), .val (.int p4), .val (.int p5), .val (.int p6), .val (.int (1 : Int32)), .val (.int (1811939329 : Int32)), .val (.ref b34), .val (.ref b35), .val (.ref b36), .val (.int v38), .val (.int v39), .val (.int v40), .val (.int v41), .val (.ref b42), .val (.ref b46)] [(.ref b46)]))
            refine Go.step (fun t k => XS.iconst X53.here hx rfl (hb hby at_189)  k) ?_
            show Go p e below _ (T53.setTop (mkF m 190 #[.val (.int p1), .val (.int p2), .val (.int p3), .val (.int p4), .val (.int p5), .val (.int p6), .val (.int (1 : Int32)), .val (.int (1811939329 : Int32)), .val (.ref b34), .val (.ref b35), .val (.ref b36), .val (.int v38), .val (.int v39), .val (.int v40), .val (.int v41), .val (.ref b42), .val (.ref b46)] [(.int (2 : Int32)), (.ref b46)]))
            refine Go.step (ldI X53 hx hZ e53 A_b46_50 (j := (2 : Int32)) (by decide) (by decide) (g := (mkF m 190 #[.val (.int p1), .val (.int p2), .val (.int p3), .val (.int p4), .val (.int p5), .val (.int p6), .val (.int (1 : Int32)), .val (.int (1811939329 : Int32)), .val (.ref b34), .val (.ref b35), .val (.ref b36), .val (.int v38), .val (.int v39), .val (.int v40), .val (.int v41), .val (.ref b42), .val (.ref b46)] [(.int (2 : Int32)), (.ref b46)])) rfl rfl (hb hby at_190)) ?_
            show Go p e below _ (T53.setTop (mkF m 191 #[.val (.int p1), .val (.int p2), .val (.int p3), .val (.int p4), .val (.int p5), .val (.int p6), .val (.int (1 : Int32)), .val (.int (1811939329 : Int32)), .val (.ref b34), .val (.ref b35), .val (.ref b36), .val (.int v38), .val (.int v39), .val (.int v40), .val (.int v41), .val (.ref b42), .val (.ref b46)] [(.int p6)]))
            refine Go.step (fun t k => XS.iload X53.here hx rfl (hb hby at_191) rfl k) ?_
            show Go p e below _ (T53.setTop (mkF m 193 #[.val (.int p1), .val (.int p2), .val (.int p3), .val (.int p4), .val (.int p5), .val (.int p6), .val (.int (1 : Int32)), .val (.int (1811939329 : Int32)), .val (.ref b34), .val (.ref b35), .val (.ref b36), .val (.int v38), .val (.int v39), .val (.int v40), .val (.int v41), .val (.ref b42), .val (.ref b46)] [(.int p6), (.int p6)]))
            refine Go.step (fun t k => XS.icmpNo X53.here hx rfl (hb hby at_193) rfl (teq (rfl : p6 = p6)).2 k) ?_
            show Go p e below _ (T53.setTop (mkF m 196 #[.val (.int p1), .val (.int p2), .val (.int p3), .val (.int p4), .val (.int p5), .val (.int p6), .val (.int (1 : Int32)), .val (.int (1811939329 : Int32)), .val (.ref b34), .val (.ref b35), .val (.ref b36), .val (.int v38), .val (.int v39), .val (.int v40), .val (.int v41), .val (.ref b42), .val (.ref b46)] []))
            refine Go.step (fun t k => XS.iconst X53.here hx rfl (hb hby at_196)  k) ?_
            show Go p e below _ (T53.setTop (mkF m 197 #[.val (.int p1), .val (.int p2), .val (.int p3), .val (.int p4), .val (.int p5), .val (.int p6), .val (.int (1 : Int32)), .val (.int (1811939329 : Int32)), .val (.ref b34), .val (.ref b35), .val (.ref b36), .val (.int v38), .val (.int v39), .val (.int v40), .val (.int v41), .val (.ref b42), .val (.ref b46)] [(.int (1 : Int32))]))
            refine Go.step (fun t k => XS.goto X53.here hx rfl (pc0 := 197) (pc' := 201) rfl (hb hby at_197) (by decide) (by decide) k) ?_
            show Go p e below _ (T53.setTop (mkF m 201 #[.val (.int p1), .val (.int p2), .val (.int p3), .val (.int p4), .val (.int p5), .val (.int p6), .val (.int (1 : Int32)), .val (.int (1811939329 : Int32)), .val (.ref b34), .val (.ref b35), .val (.ref b36), .val (.int v38), .val (.int v39), .val (.int v40), .val (.int v41), .val (.ref b42), .val (.ref b46)] [(.int (1 : Int32))]))
            subst hv41
            subst hv40
            subst hv39
            subst hv38
            subst hv7
            exact retGN X53 hx Bd.notSynchronized Bd.returns (t := .boolean) (by simp) (z' := (1 : Int32)) rfl (hb hby at_201) ⟨by first | (simp only [f0, if_neg hc8, if_pos hc32, if_neg hc52, if_neg hc54, if_pos hc55]; done) | rfl | (simp [f0, if_neg hc8, if_pos hc32, if_neg hc52, if_neg hc54, if_pos hc55]; done), N53⟩ (by decide) (by decide)
          · refine Go.step (fun t k => XS.icmpYes X53.here hx rfl (pc0 := 166) (pc' := 200) rfl (hb hby at_166) rfl (feq hc55).2 (by decide) (by decide) k) ?_
            show Go p e below _ (T53.setTop (mkF m 200 #[.val (.int p1), .val (.int p2), .val (.int p3), .val (.int p4), .val (.int p5), .val (.int p6), .val (.int (1 : Int32)), .val (.int (1811939329 : Int32)), .val (.ref b34), .val (.ref b35), .val (.ref b36), .val (.int v38), .val (.int v39), .val (.int v40), .val (.int v41), .val (.ref b42), .val (.ref b46)] []))
            refine Go.step (fun t k => XS.iconst X53.here hx rfl (hb hby at_200)  k) ?_
            show Go p e below _ (T53.setTop (mkF m 201 #[.val (.int p1), .val (.int p2), .val (.int p3), .val (.int p4), .val (.int p5), .val (.int p6), .val (.int (1 : Int32)), .val (.int (1811939329 : Int32)), .val (.ref b34), .val (.ref b35), .val (.ref b36), .val (.int v38), .val (.int v39), .val (.int v40), .val (.int v41), .val (.ref b42), .val (.ref b46)] [(.int (0 : Int32))]))
            subst hv41
            subst hv40
            subst hv39
            subst hv38
            subst hv7
            exact retGN X53 hx Bd.notSynchronized Bd.returns (t := .boolean) (by simp) (z' := (0 : Int32)) rfl (hb hby at_201) ⟨by first | (simp only [f0, if_neg hc8, if_pos hc32, if_neg hc52, if_neg hc54, if_neg hc55]; done) | rfl | (simp [f0, if_neg hc8, if_pos hc32, if_neg hc52, if_neg hc54, if_neg hc55]; done), N53⟩ (by decide) (by decide)
    · skip
      by_cases hc56 : v7 = (2 : Int32)
      · rw [hc56]
        show Go p e below _ (s₁.setTop (mkF m 8 #[.val (.int p1), .val (.int p2), .val (.int p3), .val (.int p4), .val (.int p5), .val (.int p6), .val (.int (2 : Int32)), .unset, .unset, .unset, .unset, .unset, .unset, .unset, .unset, .unset, .unset] []))
        obtain ⟨T57, X57, e57, st57⟩ := getS2 X0 hx hZ hown (host := "") (Or.inl (hw _ (List.mem_of_getElem? (i := 1) rfl))) Via.refl e0 (S_PRIMES.ext hO.2) (g := (mkF m 8 #[.val (.int p1), .val (.int p2), .val (.int p3), .val (.int p4), .val (.int p5), .val (.int p6), .val (.int (2 : Int32)), .unset, .unset, .unset, .unset, .unset, .unset, .unset, .unset, .unset, .unset] [])) rfl (hb hby at_8)
        refine Go.step st57 ?_
        show Go p e below _ (T57.setTop (mkF m 11 #[.val (.int p1), .val (.int p2), .val (.int p3), .val (.int p4), .val (.int p5), .val (.int p6), .val (.int (2 : Int32)), .unset, .unset, .unset, .unset, .unset, .unset, .unset, .unset, .unset, .unset] [(.ref oP)]))
        refine Go.step (fun t k => XS.iload X57.here hx rfl (hb hby at_11) rfl k) ?_
        show Go p e below _ (T57.setTop (mkF m 13 #[.val (.int p1), .val (.int p2), .val (.int p3), .val (.int p4), .val (.int p5), .val (.int p6), .val (.int (2 : Int32)), .unset, .unset, .unset, .unset, .unset, .unset, .unset, .unset, .unset, .unset] [(.int (2 : Int32)), (.ref oP)]))
        refine Go.step (ldI X57 hx hZ e57 (A_PRIMES.ext hO.2) (j := (2 : Int32)) (by decide) (by decide) (g := (mkF m 13 #[.val (.int p1), .val (.int p2), .val (.int p3), .val (.int p4), .val (.int p5), .val (.int p6), .val (.int (2 : Int32)), .unset, .unset, .unset, .unset, .unset, .unset, .unset, .unset, .unset, .unset] [(.int (2 : Int32)), (.ref oP)])) rfl rfl (hb hby at_13)) ?_
        show Go p e below _ (T57.setTop (mkF m 14 #[.val (.int p1), .val (.int p2), .val (.int p3), .val (.int p4), .val (.int p5), .val (.int p6), .val (.int (2 : Int32)), .unset, .unset, .unset, .unset, .unset, .unset, .unset, .unset, .unset, .unset] [(.int (469762049 : Int32))]))
        refine Go.step (fun t k => XS.istore X57.here hx rfl (hb hby at_14) rfl (l' := #[.val (.int p1), .val (.int p2), .val (.int p3), .val (.int p4), .val (.int p5), .val (.int p6), .val (.int (2 : Int32)), .val (.int (469762049 : Int32)), .unset, .unset, .unset, .unset, .unset, .unset, .unset, .unset, .unset]) rfl k) ?_
        show Go p e below _ (T57.setTop (mkF m 16 #[.val (.int p1), .val (.int p2), .val (.int p3), .val (.int p4), .val (.int p5), .val (.int p6), .val (.int (2 : Int32)), .val (.int (469762049 : Int32)), .unset, .unset, .unset, .unset, .unset, .unset, .unset, .unset, .unset] []))
        refine Go.step (fun t k => XS.iconst X57.here hx rfl (hb hby at_16)  k) ?_
        show Go p e below _ (T57.setTop (mkF m 17 #[.val (.int p1), .val (.int p2), .val (.int p3), .val (.int p4), .val (.int p5), .val (.int p6), .val (.int (2 : Int32)), .val (.int (469762049 : Int32)), .unset, .unset, .unset, .unset, .unset, .unset, .unset, .unset, .unset] [(.int (1 : Int32))]))
        obtain ⟨T58, h58, k58, X58, e58, E58, A58, st58⟩ := newP X57 hx hZ (hw _ (List.mem_of_getElem? (i := 4) rfl)) e57 (g := (mkF m 17 #[.val (.int p1), .val (.int p2), .val (.int p3), .val (.int p4), .val (.int p5), .val (.int p6), .val (.int (2 : Int32)), .val (.int (469762049 : Int32)), .unset, .unset, .unset, .unset, .unset, .unset, .unset, .unset, .unset] [(.int (1 : Int32))])) rfl (hb hby at_17) rfl (by decide) (cap := 1) (by decide) (by decide) (by decide) (by decide)
        obtain ⟨b58, g58⟩ : ∃ z, z = h0.size := ⟨_, rfl⟩
        rw [← g58] at A58 st58
        have g_b58 : n0 ≤ b58 := Nat.le_trans Z0 (Nat.le_of_eq g58.symm)
        have sz_b58 : h0.size ≤ b58 := Nat.le_trans KK0.1 (Nat.le_of_eq g58.symm)
        refine Go.step st58 ?_
        have O58 := hO.ext E58
        have Z58 := Nat.le_trans Z0 E58.1
        have KK58 : Keep h0 h58 [] := KK0.ext E58
        have A_b58_58 : Ary Z h58 b58 .int 1 (fun i => .int ((fun _ => (0 : Int32)) i)) := Ary.mk A58 (by decide) (by decide)
        show Go p e below _ (T58.setTop (mkF m 19 #[.val (.int p1), .val (.int p2), .val (.int p3), .val (.int p4), .val (.int p5), .val (.int p6), .val (.int (2 : Int32)), .val (.int (469762049 : Int32)), .unset, .unset, .unset, .unset, .unset, .unset, .unset, .unset, .unset] [(.ref b58)]))
        refine Go.step (fun t k => XS.astore X58.here hx rfl (hb hby at_19) rfl rfl (l' := #[.val (.int p1), .val (.int p2), .val (.int p3), .val (.int p4), .val (.int p5), .val (.int p6), .val (.int (2 : Int32)), .val (.int (469762049 : Int32)), .val (.ref b58), .unset, .unset, .unset, .unset, .unset, .unset, .unset, .unset]) rfl k) ?_
        show Go p e below _ (T58.setTop (mkF m 21 #[.val (.int p1), .val (.int p2), .val (.int p3), .val (.int p4), .val (.int p5), .val (.int p6), .val (.int (2 : Int32)), .val (.int (469762049 : Int32)), .val (.ref b58), .unset, .unset, .unset, .unset, .unset, .unset, .unset, .unset] []))
        refine Go.step (fun t k => XS.iconst X58.here hx rfl (hb hby at_21)  k) ?_
        show Go p e below _ (T58.setTop (mkF m 22 #[.val (.int p1), .val (.int p2), .val (.int p3), .val (.int p4), .val (.int p5), .val (.int p6), .val (.int (2 : Int32)), .val (.int (469762049 : Int32)), .val (.ref b58), .unset, .unset, .unset, .unset, .unset, .unset, .unset, .unset] [(.int (1 : Int32))]))
        obtain ⟨T59, h59, k59, X59, e59, E59, A59, st59⟩ := newP X58 hx hZ (hw _ (List.mem_of_getElem? (i := 4) rfl)) e58 (g := (mkF m 22 #[.val (.int p1), .val (.int p2), .val (.int p3), .val (.int p4), .val (.int p5), .val (.int p6), .val (.int (2 : Int32)), .val (.int (469762049 : Int32)), .val (.ref b58), .unset, .unset, .unset, .unset, .unset, .unset, .unset, .unset] [(.int (1 : Int32))])) rfl (hb hby at_22) rfl (by decide) (cap := 1) (by decide) (by decide) (by decide) (by decide)
        obtain ⟨b59, g59⟩ : ∃ z, z = h58.size := ⟨_, rfl⟩
        rw [← g59] at A59 st59
        have g_b59 : n0 ≤ b59 := Nat.le_trans Z58 (Nat.le_of_eq g59.symm)
        have sz_b59 : h0.size ≤ b59 := Nat.le_trans KK58.1 (Nat.le_of_eq g59.symm)
        have ne_b58_b59 : b58 ≠ b59 := Nat.ne_of_lt (Nat.lt_of_lt_of_le A_b58_58.lt (Nat.le_of_eq g59.symm))
        refine Go.step st59 ?_
        have A_b58_59 := A_b58_58.ext E59
        have O59 := O58.ext E59
        have Z59 := Nat.le_trans Z58 E59.1
        have KK59 : Keep h0 h59 [] := KK58.ext E59
        have A_b59_59 : Ary Z h59 b59 .int 1 (fun i => .int ((fun _ => (0 : Int32)) i)) := Ary.mk A59 (by decide) (by decide)
        show Go p e below _ (T59.setTop (mkF m 24 #[.val (.int p1), .val (.int p2), .val (.int p3), .val (.int p4), .val (.int p5), .val (.int p6), .val (.int (2 : Int32)), .val (.int (469762049 : Int32)), .val (.ref b58), .unset, .unset, .unset, .unset, .unset, .unset, .unset, .unset] [(.ref b59)]))
        refine Go.step (fun t k => XS.astore X59.here hx rfl (hb hby at_24) rfl rfl (l' := #[.val (.int p1), .val (.int p2), .val (.int p3), .val (.int p4), .val (.int p5), .val (.int p6), .val (.int (2 : Int32)), .val (.int (469762049 : Int32)), .val (.ref b58), .val (.ref b59), .unset, .unset, .unset, .unset, .unset, .unset, .unset]) rfl k) ?_
        show Go p e below _ (T59.setTop (mkF m 26 #[.val (.int p1), .val (.int p2), .val (.int p3), .val (.int p4), .val (.int p5), .val (.int p6), .val (.int (2 : Int32)), .val (.int (469762049 : Int32)), .val (.ref b58), .val (.ref b59), .unset, .unset, .unset, .unset, .unset, .unset, .unset] []))
        obtain ⟨T60, h60, X60, e60, E60, A60, D60, -, st60⟩ := newO X59 hx hZ hown (hw _ (List.mem_of_getElem? (i := 5) rfl)) (hw _ (List.mem_of_getElem? (i := 6) rfl)) (hw _ (List.mem_of_getElem? (i := 2) rfl)) e59 (g := (mkF m 26 #[.val (.int p1), .val (.int p2), .val (.int p3), .val (.int p4), .val (.int p5), .val (.int p6), .val (.int (2 : Int32)), .val (.int (469762049 : Int32)), .val (.ref b58), .val (.ref b59), .unset, .unset, .unset, .unset, .unset, .unset, .unset] [])) rfl (hb hby at_26) (by decide) (by decide)
        obtain ⟨b60, g60⟩ : ∃ z, z = h59.size := ⟨_, rfl⟩
        rw [← g60] at A60 D60 st60
        have g_b60 : n0 ≤ b60 := Nat.le_trans Z59 (Nat.le_of_eq g60.symm)
        have sz_b60 : h0.size ≤ b60 := Nat.le_trans KK59.1 (Nat.le_of_eq g60.symm)
        have ne_b58_b60 : b58 ≠ b60 := Nat.ne_of_lt (Nat.lt_of_lt_of_le A_b58_59.lt (Nat.le_of_eq g60.symm))
        have ne_b59_b60 : b59 ≠ b60 := Nat.ne_of_lt (Nat.lt_of_lt_of_le A_b59_59.lt (Nat.le_of_eq g60.symm))
        refine Go.step st60 ?_
        have A_b58_60 := A_b58_59.ext E60
        have A_b59_60 := A_b59_59.ext E60
        have O60 := O59.ext E60
        have Z60 := Nat.le_trans Z59 E60.1
        have KK60 : Keep h0 h60 [] := KK59.ext E60
        have F_prime_b60 : Fld Z h60 b60 "com/example/tinwire/tinwire/json/Transform" "prime" "I" (.int (0 : Int32)) := D60 (Or.inr (hw _ (List.mem_of_getElem? (i := 15) rfl))) (ty := .int) (by decide)
        have F_length_b60 : Fld Z h60 b60 "com/example/tinwire/tinwire/json/Transform" "length" "I" (.int (0 : Int32)) := D60 (Or.inr (hw _ (List.mem_of_getElem? (i := 17) rfl))) (ty := .int) (by decide)
        have F_roots_b60 : Fld Z h60 b60 "com/example/tinwire/tinwire/json/Transform" "roots" "[I" .null := D60 (Or.inr (hw _ (List.mem_of_getElem? (i := 19) rfl))) (ty := (.array .int)) (by decide)
        have F_rootQuotients_b60 : Fld Z h60 b60 "com/example/tinwire/tinwire/json/Transform" "rootQuotients" "[I" .null := D60 (Or.inr (hw _ (List.mem_of_getElem? (i := 21) rfl))) (ty := (.array .int)) (by decide)
        have F_outerRoot_b60 : Fld Z h60 b60 "com/example/tinwire/tinwire/json/Transform" "outerRoot" "I" (.int (0 : Int32)) := D60 (Or.inr (hw _ (List.mem_of_getElem? (i := 28) rfl))) (ty := .int) (by decide)
        have F_outerRootQuotient_b60 : Fld Z h60 b60 "com/example/tinwire/tinwire/json/Transform" "outerRootQuotient" "I" (.int (0 : Int32)) := D60 (Or.inr (hw _ (List.mem_of_getElem? (i := 33) rfl))) (ty := .int) (by decide)
        have F_negativeInverse_b60 : Fld Z h60 b60 "com/example/tinwire/tinwire/json/Transform" "negativeInverse" "I" (.int (0 : Int32)) := D60 (Or.inr (hw _ (List.mem_of_getElem? (i := 35) rfl))) (ty := .int) (by decide)
        have F_scale_b60 : Fld Z h60 b60 "com/example/tinwire/tinwire/json/Transform" "scale" "I" (.int (0 : Int32)) := D60 (Or.inr (hw _ (List.mem_of_getElem? (i := 39) rfl))) (ty := .int) (by decide)
        have F_scaleQuotient_b60 : Fld Z h60 b60 "com/example/tinwire/tinwire/json/Transform" "scaleQuotient" "I" (.int (0 : Int32)) := D60 (Or.inr (hw _ (List.mem_of_getElem? (i := 41) rfl))) (ty := .int) (by decide)
        show Go p e below _ (T60.setTop (mkF m 29 #[.val (.int p1), .val (.int p2), .val (.int p3), .val (.int p4), .val (.int p5), .val (.int p6), .val (.int (2 : Int32)), .val (.int (469762049 : Int32)), .val (.ref b58), .val (.ref b59), .unset, .unset, .unset, .unset, .unset, .unset, .unset] [(.ref b60)]))
        refine Go.step (fun t k => XS.dup X60.here hx rfl (hb hby at_29) rfl rfl k) ?_
        show Go p e below _ (T60.setTop (mkF m 30 #[.val (.int p1), .val (.int p2), .val (.int p3), .val (.int p4), .val (.int p5), .val (.int p6), .val (.int (2 : Int32)), .val (.int (469762049 : Int32)), .val (.ref b58), .val (.ref b59), .unset, .unset, .unset, .unset, .unset, .unset, .unset] [(.ref b60), (.ref b60)]))
        refine Go.step (fun t k => XS.iload X60.here hx rfl (hb hby at_30) rfl k) ?_
        show Go p e below _ (T60.setTop (mkF m 32 #[.val (.int p1), .val (.int p2), .val (.int p3), .val (.int p4), .val (.int p5), .val (.int p6), .val (.int (2 : Int32)), .val (.int (469762049 : Int32)), .val (.ref b58), .val (.ref b59), .unset, .unset, .unset, .unset, .unset, .unset, .unset] [(.int (2 : Int32)), (.ref b60), (.ref b60)]))
        refine Go.step (fun t k => XS.iconst X60.here hx rfl (hb hby at_32)  k) ?_
        show Go p e below _ (T60.setTop (mkF m 33 #[.val (.int p1), .val (.int p2), .val (.int p3), .val (.int p4), .val (.int p5), .val (.int p6), .val (.int (2 : Int32)), .val (.int (469762049 : Int32)), .val (.ref b58), .val (.ref b59), .unset, .unset, .unset, .unset, .unset, .unset, .unset] [(.int (2 : Int32)), (.int (2 : Int32)), (.ref b60), (.ref b60)]))
        refine Go.step (fun t k => XS.aload X60.here hx rfl (hb hby at_33) rfl rfl k) ?_
        show Go p e below _ (T60.setTop (mkF m 35 #[.val (.int p1), .val (.int p2), .val (.int p3), .val (.int p4), .val (.int p5), .val (.int p6), .val (.int (2 : Int32)), .val (.int (469762049 : Int32)), .val (.ref b58), .val (.ref b59), .unset, .unset, .unset, .unset, .unset, .unset, .unset] [(.ref b58), (.int (2 : Int32)), (.int (2 : Int32)), (.ref b60), (.ref b60)]))
        refine Go.step (fun t k => XS.aload X60.here hx rfl (hb hby at_35) rfl rfl k) ?_
        show Go p e below _ (T60.setTop (mkF m 37 #[.val (.int p1), .val (.int p2), .val (.int p3), .val (.int p4), .val (.int p5), .val (.int p6), .val (.int (2 : Int32)), .val (.int (469762049 : Int32)), .val (.ref b58), .val (.ref b59), .unset, .unset, .unset, .unset, .unset, .unset, .unset] [(.ref b59), (.ref b58), (.int (2 : Int32)), (.int (2 : Int32)), (.ref b60), (.ref b60)]))
        obtain ⟨_, _, ⟨T61, L61, k61, n61⟩, -, X61, ⟨Lc61, hQ61, l61, y61, z61⟩, st61⟩ := X60.specialBack hx (y := (⟨"com/example/tinwire/tinwire/json/Transform", "<init>", "(II[I[I)V"⟩ : MethodName)) rfl hown (mvT hZ (hw _ (List.mem_of_getElem? (i := 7) rfl))) (mvT hZ (hw _ (List.mem_of_getElem? (i := 8) rfl))) (mvT hZ (hw _ (List.mem_of_getElem? (i := 9) rfl))) (by decide) (backOf (W := 1) (rm1_2 l Z a0 hw [] b60 b58 b59 (fun _ => (0 : Int32)) (fun _ => (0 : Int32)) (.int (0 : Int32)) .null .null (.int (0 : Int32)) (.int (0 : Int32)) (.int (0 : Int32)) (.int (0 : Int32)) (.int (0 : Int32)) oP (.int (0 : Int32)) oG h60 n0 Z60 A_b58_60 A_b59_60 F_length_b60 F_roots_b60 F_rootQuotients_b60 F_outerRoot_b60 F_outerRootQuotient_b60 F_negativeInverse_b60 F_scale_b60 F_scaleQuotient_b60 S_PRIMES A_PRIMES O60 A60 F_prime_b60 g_b60 ne_b58_b60 ne_b59_b60 S_GENERATORS A_GENERATORS g_b58 (Ne.symm ne_b58_b59) (Ne.symm ne_b58_b60) g_b59 (Ne.symm ne_b59_b60) ne_b58_b59) hZ (hw _ (List.mem_of_getElem? (i := 9) rfl)) (hw _ (List.mem_of_getElem? (i := 2) rfl)) (by decide) (by decide)) (g := (mkF m 37 #[.val (.int p1), .val (.int p2), .val (.int p3), .val (.int p4), .val (.int p5), .val (.int p6), .val (.int (2 : Int32)), .val (.int (469762049 : Int32)), .val (.ref b58), .val (.ref b59), .unset, .unset, .unset, .unset, .unset, .unset, .unset] [(.ref b59), (.ref b58), (.int (2 : Int32)), (.int (2 : Int32)), (.ref b60), (.ref b60)])) rfl (by rw [hml]; rfl) (Steps.refl _) (a := b60) (argsL := [(.int (2 : Int32)), (.int (2 : Int32)), (.ref b58), (.ref b59)]) (rest := [(.ref b60)]) (lenOf pd_2 rfl) rfl (by show 2 * 0 + _ ≤ _; exact Nat.le_of_eq rfl) (hb hby at_37) (fun _ _ => ⟨rfl, e60, (by decide : 3 + 0 ≤ _), (by decide : 11 + 0 ≤ _)⟩)
        dsimp only [Pt.U, Pt.locs, Pt.cells, Pt.slots] at X61 l61 y61 z61 st61 hQ61
        subst l61 y61 z61
        obtain ⟨rfl, N61q, K61, Q61_0, Q61_1, Q61_2, Q61_3⟩ := hQ61
        have N61 := Fr.app N0 N61q
        have E_b60_61 := A60.keep K61
        have O61 := O60.keep K61 (allS g_b60 (allS g_b58 (allS g_b59 all0)))
        have Z61 := Nat.le_trans Z60 K61.1
        have KK61 : Keep h0 T61.heap [] := KK60.trans K61 (allS (Or.inr sz_b60) (allS (Or.inr sz_b58) (allS (Or.inr sz_b59) all0)))
        refine Go.trans st61 ?_
        show Go p e below _ (T61.setTop (mkF m 40 #[.val (.int p1), .val (.int p2), .val (.int p3), .val (.int p4), .val (.int p5), .val (.int p6), .val (.int (2 : Int32)), .val (.int (469762049 : Int32)), .val (.ref b58), .val (.ref b59), .unset, .unset, .unset, .unset, .unset, .unset, .unset] [(.ref b60)]))
        refine Go.step (fun t k => XS.astore X61.here hx rfl (hb hby at_40) rfl rfl (l' := #[.val (.int p1), .val (.int p2), .val (.int p3), .val (.int p4), .val (.int p5), .val (.int p6), .val (.int (2 : Int32)), .val (.int (469762049 : Int32)), .val (.ref b58), .val (.ref b59), .val (.ref b60), .unset, .unset, .unset, .unset, .unset, .unset]) rfl k) ?_
        show Go p e below _ (T61.setTop (mkF m 42 #[.val (.int p1), .val (.int p2), .val (.int p3), .val (.int p4), .val (.int p5), .val (.int p6), .val (.int (2 : Int32)), .val (.int (469762049 : Int32)), .val (.ref b58), .val (.ref b59), .val (.ref b60), .unset, .unset, .unset, .unset, .unset, .unset] []))
        refine Go.step (fun t k => XS.iloadN X61.here hx rfl (hb hby at_42) rfl k) ?_
        show Go p e below _ (T61.setTop (mkF m 43 #[.val (.int p1), .val (.int p2), .val (.int p3), .val (.int p4), .val (.int p5), .val (.int p6), .val (.int (2 : Int32)), .val (.int (469762049 : Int32)), .val (.ref b58), .val (.ref b59), .val (.ref b60), .unset, .unset, .unset, .unset, .unset, .unset] [(.int p2)]))
        refine Go.step (X61.ldcInt hx hown (mvT hZ (hw _ (List.mem_of_getElem? (i := 0) rfl))) (g := (mkF m 43 #[.val (.int p1), .val (.int p2), .val (.int p3), .val (.int p4), .val (.int p5), .val (.int p6), .val (.int (2 : Int32)), .val (.int (469762049 : Int32)), .val (.ref b58), .val (.ref b59), .val (.ref b60), .unset, .unset, .unset, .unset, .unset, .unset] [(.int p2)])) rfl (hb hby at_43)) ?_
        show Go p e below _ (T61.setTop (mkF m 45 #[.val (.int p1), .val (.int p2), .val (.int p3), .val (.int p4), .val (.int p5), .val (.int p6), .val (.int (2 : Int32)), .val (.int (469762049 : Int32)), .val (.ref b58), .val (.ref b59), .val (.ref b60), .unset, .unset, .unset, .unset, .unset, .unset] [(.int (2147483647 : Int32)), (.int p2)]))
        refine Go.step (fun t k => XS.iand X61.here hx rfl (hb hby at_45) rfl k) ?_
        show Go p e below _ (T61.setTop (mkF m 46 #[.val (.int p1), .val (.int p2), .val (.int p3), .val (.int p4), .val (.int p5), .val (.int p6), .val (.int (2 : Int32)), .val (.int (469762049 : Int32)), .val (.ref b58), .val (.ref b59), .val (.ref b60), .unset, .unset, .unset, .unset, .unset, .unset] [(.int (p2 &&& (2147483647 : Int32)))]))
        refine Go.step (fun t k => XS.iload X61.here hx rfl (hb hby at_46) rfl k) ?_
        show Go p e below _ (T61.setTop (mkF m 48 #[.val (.int p1), .val (.int p2), .val (.int p3), .val (.int p4), .val (.int p5), .val (.int p6), .val (.int (2 : Int32)), .val (.int (469762049 : Int32)), .val (.ref b58), .val (.ref b59), .val (.ref b60), .unset, .unset, .unset, .unset, .unset, .unset] [(.int (469762049 : Int32)), (.int (p2 &&& (2147483647 : Int32)))]))
        refine Go.step (fun t (k : Steps p.tables e below (T61.setTop (mkF m 49 #[.val (.int p1), .val (.int p2), .val (.int p3), .val (.int p4), .val (.int p5), .val (.int p6), .val (.int (2 : Int32)), .val (.int (469762049 : Int32)), .val (.ref b58), .val (.ref b59), .val (.ref b60), .unset, .unset, .unset, .unset, .unset, .unset] [(.int ((p2 &&& (2147483647 : Int32)) % (469762049 : Int32)))])) t) => XS.irem X61.here hx rfl (hb hby at_48) rfl (by decide) (by rw [remI]; exact k)) ?_
        show Go p e below _ (T61.setTop (mkF m 49 #[.val (.int p1), .val (.int p2), .val (.int p3), .val (.int p4), .val (.int p5), .val (.int p6), .val (.int (2 : Int32)), .val (.int (469762049 : Int32)), .val (.ref b58), .val (.ref b59), .val (.ref b60), .unset, .unset, .unset, .unset, .unset, .unset] [(.int ((p2 &&& (2147483647 : Int32)) % (469762049 : Int32)))]))
        obtain ⟨v62, hv62⟩ : ∃ z : Int32, z = ((p2 &&& (2147483647 : Int32)) % (469762049 : Int32)) := ⟨_, rfl⟩
        rw [← hv62]
        show Go p e below _ (T61.setTop (mkF m 49 #[.val (.int p1), .val (.int p2), .val (.int p3), .val (.int p4), .val (.int p5), .val (.int p6), .val (.int (2 : Int32)), .val (.int (469762049 : Int32)), .val (.ref b58), .val (.ref b59), .val (.ref b60), .unset, .unset, .unset, .unset, .unset, .unset] [(.int v62)]))
        refine Go.step (fun t k => XS.istore X61.here hx rfl (hb hby at_49) rfl (l' := #[.val (.int p1), .val (.int p2), .val (.int p3), .val (.int p4), .val (.int p5), .val (.int p6), .val (.int (2 : Int32)), .val (.int (469762049 : Int32)), .val (.ref b58), .val (.ref b59), .val (.ref b60), .val (.int v62), .unset, .unset, .unset, .unset, .unset]) rfl k) ?_
        show Go p e below _ (T61.setTop (mkF m 51 #[.val (.int p1), .val (.int p2), .val (.int p3), .val (.int p4), .val (.int p5), .val (.int p6), .val (.int (2 : Int32)), .val (.int (469762049 : Int32)), .val (.ref b58), .val (.ref b59), .val (.ref b60), .val (.int v62), .unset, .unset, .unset, .unset, .unset] []))
        refine Go.step (fun t k => XS.iloadN X61.here hx rfl (hb hby at_51) rfl k) ?_
        show Go p e below _ (T61.setTop (mkF m 52 #[.val (.int p1), .val (.int p2), .val (.int p3), .val (.int p4), .val (.int p5), .val (.int p6), .val (.int (2 : Int32)), .val (.int (469762049 : Int32)), .val (.ref b58), .val (.ref b59), .val (.ref b60), .val (.int v62), .unset, .unset, .unset, .unset, .unset] [(.int p3)]))
        refine Go.step (X61.ldcInt hx hown (mvT hZ (hw _ (List.mem_of_getElem? (i := 0) rfl))) (g := (mkF m 52 #[.val (.int p1), .val (.int p2), .val (.int p3), .val (.int p4), .val (.int p5), .val (.int p6), .val (.int (2 : Int32)), .val (.int (469762049 : Int32)), .val (.ref b58), .val (.ref b59), .val (.ref b60), .val (.int v62), .unset, .unset, .unset, .unset, .unset] [(.int p3)])) rfl (hb hby at_52)) ?_
        show Go p e below _ (T61.setTop (mkF m 54 #[.val (.int p1), .val (.int p2), .val (.int p3), .val (.int p4), .val (.int p5), .val (.int p6), .val (.int (2 : Int32)), .val (.int (469762049 : Int32)), .val (.ref b58), .val (.ref b59), .val (.ref b60), .val (.int v62), .unset, .unset, .unset, .unset, .unset] [(.int (2147483647 : Int32)), (.int p3)]))
        refine Go.step (fun t k => XS.iand X61.here hx rfl (hb hby at_54) rfl k) ?_
        show Go p e below _ (T61.setTop (mkF m 55 #[.val (.int p1), .val (.int p2), .val (.int p3), .val (.int p4), .val (.int p5), .val (.int p6), .val (.int (2 : Int32)), .val (.int (469762049 : Int32)), .val (.ref b58), .val (.ref b59), .val (.ref b60), .val (.int v62), .unset, .unset, .unset, .unset, .unset] [(.int (p3 &&& (2147483647 : Int32)))]))
        refine Go.step (fun t k => XS.iload X61.here hx rfl (hb hby at_55) rfl k) ?_
        show Go p e below _ (T61.setTop (mkF m 57 #[.val (.int p1), .val (.int p2), .val (.int p3), .val (.int p4), .val (.int p5), .val (.int p6), .val (.int (2 : Int32)), .val (.int (469762049 : Int32)), .val (.ref b58), .val (.ref b59), .val (.ref b60), .val (.int v62), .unset, .unset, .unset, .unset, .unset] [(.int (469762049 : Int32)), (.int (p3 &&& (2147483647 : Int32)))]))
        refine Go.step (fun t (k : Steps p.tables e below (T61.setTop (mkF m 58 #[.val (.int p1), .val (.int p2), .val (.int p3), .val (.int p4), .val (.int p5), .val (.int p6), .val (.int (2 : Int32)), .val (.int (469762049 : Int32)), .val (.ref b58), .val (.ref b59), .val (.ref b60), .val (.int v62), .unset, .unset, .unset, .unset, .unset] [(.int ((p3 &&& (2147483647 : Int32)) % (469762049 : Int32)))])) t) => XS.irem X61.here hx rfl (hb hby at_57) rfl (by decide) (by rw [remI]; exact k)) ?_
        show Go p e below _ (T61.setTop (mkF m 58 #[.val (.int p1), .val (.int p2), .val (.int p3), .val (.int p4), .val (.int p5), .val (.int p6), .val (.int (2 : Int32)), .val (.int (469762049 : Int32)), .val (.ref b58), .val (.ref b59), .val (.ref b60), .val (.int v62), .unset, .unset, .unset, .unset, .unset] [(.int ((p3 &&& (2147483647 : Int32)) % (469762049 : Int32)))]))
        obtain ⟨v63, hv63⟩ : ∃ z : Int32, z = ((p3 &&& (2147483647 : Int32)) % (469762049 : Int32)) := ⟨_, rfl⟩
        rw [← hv63]
        show Go p e below _ (T61.setTop (mkF m 58 #[.val (.int p1), .val (.int p2), .val (.int p3), .val (.int p4), .val (.int p5), .val (.int p6), .val (.int (2 : Int32)), .val (.int (469762049 : Int32)), .val (.ref b58), .val (.ref b59), .val (.ref b60), .val (.int v62), .unset, .unset, .unset, .unset, .unset] [(.int v63)]))
        refine Go.step (fun t k => XS.istore X61.here hx rfl (hb hby at_58) rfl (l' := #[.val (.int p1), .val (.int p2), .val (.int p3), .val (.int p4), .val (.int p5), .val (.int p6), .val (.int (2 : Int32)), .val (.int (469762049 : Int32)), .val (.ref b58), .val (.ref b59), .val (.ref b60), .val (.int v62), .val (.int v63), .unset, .unset, .unset, .unset]) rfl k) ?_
        show Go p e below _ (T61.setTop (mkF m 60 #[.val (.int p1), .val (.int p2), .val (.int p3), .val (.int p4), .val (.int p5), .val (.int p6), .val (.int (2 : Int32)), .val (.int (469762049 : Int32)), .val (.ref b58), .val (.ref b59), .val (.ref b60), .val (.int v62), .val (.int v63), .unset, .unset, .unset, .unset] []))
        refine Go.step (fun t k => XS.iloadN X61.here hx rfl (hb hby at_60) rfl k) ?_
        show Go p e below _ (T61.setTop (mkF m 61 #[.val (.int p1), .val (.int p2), .val (.int p3), .val (.int p4), .val (.int p5), .val (.int p6), .val (.int (2 : Int32)), .val (.int (469762049 : Int32)), .val (.ref b58), .val (.ref b59), .val (.ref b60), .val (.int v62), .val (.int v63), .unset, .unset, .unset, .unset] [(.int p4)]))
        refine Go.step (X61.ldcInt hx hown (mvT hZ (hw _ (List.mem_of_getElem? (i := 0) rfl))) (g := (mkF m 61 #[.val (.int p1), .val (.int p2), .val (.int p3), .val (.int p4), .val (.int p5), .val (.int p6), .val (.int (2 : Int32)), .val (.int (469762049 : Int32)), .val (.ref b58), .val (.ref b59), .val (.ref b60), .val (.int v62), .val (.int v63), .unset, .unset, .unset, .unset] [(.int p4)])) rfl (hb hby at_61)) ?_
        show Go p e below _ (T61.setTop (mkF m 63 #[.val (.int p1), .val (.int p2), .val (.int p3), .val (.int p4), .val (.int p5), .val (.int p6), .val (.int (2 : Int32)), .val (.int (469762049 : Int32)), .val (.ref b58), .val (.ref b59), .val (.ref b60), .val (.int v62), .val (.int v63), .unset, .unset, .unset, .unset] [(.int (2147483647 : Int32)), (.int p4)]))
        refine Go.step (fun t k => XS.iand X61.here hx rfl (hb hby at_63) rfl k) ?_
        show Go p e below _ (T61.setTop (mkF m 64 #[.val (.int p1), .val (.int p2), .val (.int p3), .val (.int p4), .val (.int p5), .val (.int p6), .val (.int (2 : Int32)), .val (.int (469762049 : Int32)), .val (.ref b58), .val (.ref b59), .val (.ref b60), .val (.int v62), .val (.int v63), .unset, .unset, .unset, .unset] [(.int (p4 &&& (2147483647 : Int32)))]))
        refine Go.step (fun t k => XS.iload X61.here hx rfl (hb hby at_64) rfl k) ?_
        show Go p e below _ (T61.setTop (mkF m 66 #[.val (.int p1), .val (.int p2), .val (.int p3), .val (.int p4), .val (.int p5), .val (.int p6), .val (.int (2 : Int32)), .val (.int (469762049 : Int32)), .val (.ref b58), .val (.ref b59), .val (.ref b60), .val (.int v62), .val (.int v63), .unset, .unset, .unset, .unset] [(.int (469762049 : Int32)), (.int (p4 &&& (2147483647 : Int32)))]))
        refine Go.step (fun t (k : Steps p.tables e below (T61.setTop (mkF m 67 #[.val (.int p1), .val (.int p2), .val (.int p3), .val (.int p4), .val (.int p5), .val (.int p6), .val (.int (2 : Int32)), .val (.int (469762049 : Int32)), .val (.ref b58), .val (.ref b59), .val (.ref b60), .val (.int v62), .val (.int v63), .unset, .unset, .unset, .unset] [(.int ((p4 &&& (2147483647 : Int32)) % (469762049 : Int32)))])) t) => XS.irem X61.here hx rfl (hb hby at_66) rfl (by decide) (by rw [remI]; exact k)) ?_
        show Go p e below _ (T61.setTop (mkF m 67 #[.val (.int p1), .val (.int p2), .val (.int p3), .val (.int p4), .val (.int p5), .val (.int p6), .val (.int (2 : Int32)), .val (.int (469762049 : Int32)), .val (.ref b58), .val (.ref b59), .val (.ref b60), .val (.int v62), .val (.int v63), .unset, .unset, .unset, .unset] [(.int ((p4 &&& (2147483647 : Int32)) % (469762049 : Int32)))]))
        obtain ⟨v64, hv64⟩ : ∃ z : Int32, z = ((p4 &&& (2147483647 : Int32)) % (469762049 : Int32)) := ⟨_, rfl⟩
        rw [← hv64]
        show Go p e below _ (T61.setTop (mkF m 67 #[.val (.int p1), .val (.int p2), .val (.int p3), .val (.int p4), .val (.int p5), .val (.int p6), .val (.int (2 : Int32)), .val (.int (469762049 : Int32)), .val (.ref b58), .val (.ref b59), .val (.ref b60), .val (.int v62), .val (.int v63), .unset, .unset, .unset, .unset] [(.int v64)]))
        refine Go.step (fun t k => XS.istore X61.here hx rfl (hb hby at_67) rfl (l' := #[.val (.int p1), .val (.int p2), .val (.int p3), .val (.int p4), .val (.int p5), .val (.int p6), .val (.int (2 : Int32)), .val (.int (469762049 : Int32)), .val (.ref b58), .val (.ref b59), .val (.ref b60), .val (.int v62), .val (.int v63), .val (.int v64), .unset, .unset, .unset]) rfl k) ?_
        show Go p e below _ (T61.setTop (mkF m 69 #[.val (.int p1), .val (.int p2), .val (.int p3), .val (.int p4), .val (.int p5), .val (.int p6), .val (.int (2 : Int32)), .val (.int (469762049 : Int32)), .val (.ref b58), .val (.ref b59), .val (.ref b60), .val (.int v62), .val (.int v63), .val (.int v64), .unset, .unset, .unset] []))
        refine Go.step (fun t k => XS.iload X61.here hx rfl (hb hby at_69) rfl k) ?_
        show Go p e below _ (T61.setTop (mkF m 71 #[.val (.int p1), .val (.int p2), .val (.int p3), .val (.int p4), .val (.int p5), .val (.int p6), .val (.int (2 : Int32)), .val (.int (469762049 : Int32)), .val (.ref b58), .val (.ref b59), .val (.ref b60), .val (.int v62), .val (.int v63), .val (.int v64), .unset, .unset, .unset] [(.int p5)]))
        refine Go.step (X61.ldcInt hx hown (mvT hZ (hw _ (List.mem_of_getElem? (i := 0) rfl))) (g := (mkF m 71 #[.val (.int p1), .val (.int p2), .val (.int p3), .val (.int p4), .val (.int p5), .val (.int p6), .val (.int (2 : Int32)), .val (.int (469762049 : Int32)), .val (.ref b58), .val (.ref b59), .val (.ref b60), .val (.int v62), .val (.int v63), .val (.int v64), .unset, .unset, .unset] [(.int p5)])) rfl (hb hby at_71)) ?_
        show Go p e below _ (T61.setTop (mkF m 73 #[.val (.int p1), .val (.int p2), .val (.int p3), .val (.int p4), .val (.int p5), .val (.int p6), .val (.int (2 : Int32)), .val (.int (469762049 : Int32)), .val (.ref b58), .val (.ref b59), .val (.ref b60), .val (.int v62), .val (.int v63), .val (.int v64), .unset, .unset, .unset] [(.int (2147483647 : Int32)), (.int p5)]))
        refine Go.step (fun t k => XS.iand X61.here hx rfl (hb hby at_73) rfl k) ?_
        show Go p e below _ (T61.setTop (mkF m 74 #[.val (.int p1), .val (.int p2), .val (.int p3), .val (.int p4), .val (.int p5), .val (.int p6), .val (.int (2 : Int32)), .val (.int (469762049 : Int32)), .val (.ref b58), .val (.ref b59), .val (.ref b60), .val (.int v62), .val (.int v63), .val (.int v64), .unset, .unset, .unset] [(.int (p5 &&& (2147483647 : Int32)))]))
        refine Go.step (fun t k => XS.iload X61.here hx rfl (hb hby at_74) rfl k) ?_
        show Go p e below _ (T61.setTop (mkF m 76 #[.val (.int p1), .val (.int p2), .val (.int p3), .val (.int p4), .val (.int p5), .val (.int p6), .val (.int (2 : Int32)), .val (.int (469762049 : Int32)), .val (.ref b58), .val (.ref b59), .val (.ref b60), .val (.int v62), .val (.int v63), .val (.int v64), .unset, .unset, .unset] [(.int (469762049 : Int32)), (.int (p5 &&& (2147483647 : Int32)))]))
        refine Go.step (fun t (k : Steps p.tables e below (T61.setTop (mkF m 77 #[.val (.int p1), .val (.int p2), .val (.int p3), .val (.int p4), .val (.int p5), .val (.int p6), .val (.int (2 : Int32)), .val (.int (469762049 : Int32)), .val (.ref b58), .val (.ref b59), .val (.ref b60), .val (.int v62), .val (.int v63), .val (.int v64), .unset, .unset, .unset] [(.int ((p5 &&& (2147483647 : Int32)) % (469762049 : Int32)))])) t) => XS.irem X61.here hx rfl (hb hby at_76) rfl (by decide) (by rw [remI]; exact k)) ?_
        show Go p e below _ (T61.setTop (mkF m 77 #[.val (.int p1), .val (.int p2), .val (.int p3), .val (.int p4), .val (.int p5), .val (.int p6), .val (.int (2 : Int32)), .val (.int (469762049 : Int32)), .val (.ref b58), .val (.ref b59), .val (.ref b60), .val (.int v62), .val (.int v63), .val (.int v64), .unset, .unset, .unset] [(.int ((p5 &&& (2147483647 : Int32)) % (469762049 : Int32)))]))
        obtain ⟨v65, hv65⟩ : ∃ z : Int32, z = ((p5 &&& (2147483647 : Int32)) % (469762049 : Int32)) := ⟨_, rfl⟩
        rw [← hv65]
        show Go p e below _ (T61.setTop (mkF m 77 #[.val (.int p1), .val (.int p2), .val (.int p3), .val (.int p4), .val (.int p5), .val (.int p6), .val (.int (2 : Int32)), .val (.int (469762049 : Int32)), .val (.ref b58), .val (.ref b59), .val (.ref b60), .val (.int v62), .val (.int v63), .val (.int v64), .unset, .unset, .unset] [(.int v65)]))
        refine Go.step (fun t k => XS.istore X61.here hx rfl (hb hby at_77) rfl (l' := #[.val (.int p1), .val (.int p2), .val (.int p3), .val (.int p4), .val (.int p5), .val (.int p6), .val (.int (2 : Int32)), .val (.int (469762049 : Int32)), .val (.ref b58), .val (.ref b59), .val (.ref b60), .val (.int v62), .val (.int v63), .val (.int v64), .val (.int v65), .unset, .unset]) rfl k) ?_
        show Go p e below _ (T61.setTop (mkF m 79 #[.val (.int p1), .val (.int p2), .val (.int p3), .val (.int p4), .val (.int p5), .val (.int p6), .val (.int (2 : Int32)), .val (.int (469762049 : Int32)), .val (.ref b58), .val (.ref b59), .val (.ref b60), .val (.int v62), .val (.int v63), .val (.int v64), .val (.int v65), .unset, .unset] []))
        refine Go.step (fun t k => XS.iconst X61.here hx rfl (hb hby at_79)  k) ?_
        show Go p e below _ (T61.setTop (mkF m 80 #[.val (.int p1), .val (.int p2), .val (.int p3), .val (.int p4), .val (.int p5), .val (.int p6), .val (.int (2 : Int32)), .val (.int (469762049 : Int32)), .val (.ref b58), .val (.ref b59), .val (.ref b60), .val (.int v62), .val (.int v63), .val (.int v64), .val (.int v65), .unset, .unset] [(.int (3 : Int32))]))
        obtain ⟨T66, h66, k66, X66, e66, E66, A66, st66⟩ := newP X61 hx hZ (hw _ (List.mem_of_getElem? (i := 4) rfl)) rfl (g := (mkF m 80 #[.val (.int p1), .val (.int p2), .val (.int p3), .val (.int p4), .val (.int p5), .val (.int p6), .val (.int (2 : Int32)), .val (.int (469762049 : Int32)), .val (.ref b58), .val (.ref b59), .val (.ref b60), .val (.int v62), .val (.int v63), .val (.int v64), .val (.int v65), .unset, .unset] [(.int (3 : Int32))])) rfl (hb hby at_80) rfl (by decide) (cap := 3) (by decide) (by decide) (by decide) (by decide)
        obtain ⟨b66, g66⟩ : ∃ z, z = T61.heap.size := ⟨_, rfl⟩
        rw [← g66] at A66 st66
        have g_b66 : n0 ≤ b66 := Nat.le_trans Z61 (Nat.le_of_eq g66.symm)
        have sz_b66 : h0.size ≤ b66 := Nat.le_trans KK61.1 (Nat.le_of_eq g66.symm)
        have ne_b60_b66 : b60 ≠ b66 := Nat.ne_of_lt (Nat.lt_of_lt_of_le Q61_2.lt (Nat.le_of_eq g66.symm))
        refine Go.step st66 ?_
        have E_b60_66 := Q61_2.ext E66
        have F_length_b60_66 := Q61_0.ext E66
        have F_negativeInverse_b60_66 := Q61_1.ext E66
        have F_prime_b60_66 := Q61_3.ext E66
        have O66 := O61.ext E66
        have Z66 := Nat.le_trans Z61 E66.1
        have KK66 : Keep h0 h66 [] := KK61.ext E66
        have A_b66_66 : Ary Z h66 b66 .int 3 (fun i => .int ((fun _ => (0 : Int32)) i)) := Ary.mk A66 (by decide) (by decide)
        show Go p e below _ (T66.setTop (mkF m 82 #[.val (.int p1), .val (.int p2), .val (.int p3), .val (.int p4), .val (.int p5), .val (.int p6), .val (.int (2 : Int32)), .val (.int (469762049 : Int32)), .val (.ref b58), .val (.ref b59), .val (.ref b60), .val (.int v62), .val (.int v63), .val (.int v64), .val (.int v65), .unset, .unset] [(.ref b66)]))
        refine Go.step (fun t k => XS.dup X66.here hx rfl (hb hby at_82) rfl rfl k) ?_
        show Go p e below _ (T66.setTop (mkF m 83 #[.val (.int p1), .val (.int p2), .val (.int p3), .val (.int p4), .val (.int p5), .val (.int p6), .val (.int (2 : Int32)), .val (.int (469762049 : Int32)), .val (.ref b58), .val (.ref b59), .val (.ref b60), .val (.int v62), .val (.int v63), .val (.int v64), .val (.int v65), .unset, .unset] [(.ref b66), (.ref b66)]))
        refine Go.step (fun t k => XS.iconst X66.here hx rfl (hb hby at_83)  k) ?_
        show Go p e below _ (T66.setTop (mkF m 84 #[.val (.int p1), .val (.int p2), .val (.int p3), .val (.int p4), .val (.int p5), .val (.int p6), .val (.int (2 : Int32)), .val (.int (469762049 : Int32)), .val (.ref b58), .val (.ref b59), .val (.ref b60), .val (.int v62), .val (.int v63), .val (.int v64), .val (.int v65), .unset, .unset] [(.int (0 : Int32)), (.ref b66), (.ref b66)]))
        refine Go.step (fun t k => XS.iload X66.here hx rfl (hb hby at_84) rfl k) ?_
        show Go p e below _ (T66.setTop (mkF m 86 #[.val (.int p1), .val (.int p2), .val (.int p3), .val (.int p4), .val (.int p5), .val (.int p6), .val (.int (2 : Int32)), .val (.int (469762049 : Int32)), .val (.ref b58), .val (.ref b59), .val (.ref b60), .val (.int v62), .val (.int v63), .val (.int v64), .val (.int v65), .unset, .unset] [(.int v62), (.int (0 : Int32)), (.ref b66), (.ref b66)]))
        obtain ⟨cl67, Ar67, in67, -⟩ := A_b66_66.hin (j := (0 : Int32)) (by decide) (by decide)
        obtain ⟨T67, h67, X67, e67, W67, st67⟩ := stI X66 hx hZ e66 Ar67 in67 (g := (mkF m 86 #[.val (.int p1), .val (.int p2), .val (.int p3), .val (.int p4), .val (.int p5), .val (.int p6), .val (.int (2 : Int32)), .val (.int (469762049 : Int32)), .val (.ref b58), .val (.ref b59), .val (.ref b60), .val (.int v62), .val (.int v63), .val (.int v64), .val (.int v65), .unset, .unset] [(.int v62), (.int (0 : Int32)), (.ref b66), (.ref b66)])) rfl rfl (hb hby at_86)
        refine Go.step st67 ?_
        have N67 := Fr.snoc X67 N61 g_b66
        have E_b60_67 := E_b60_66.wr W67
        have F_length_b60_67 := F_length_b60_66.other W67 (Or.inl ne_b60_b66)
        have F_negativeInverse_b60_67 := F_negativeInverse_b60_66.other W67 (Or.inl ne_b60_b66)
        have F_prime_b60_67 := F_prime_b60_66.other W67 (Or.inl ne_b60_b66)
        have O67 := O66.wr W67 g_b66
        have Z67 := Nat.le_trans Z66 (Keep.of_wr W67).1
        have KK67 : Keep h0 h67 [] := KK66.wr W67 (Or.inr sz_b66)
        have A_b66_67 : Ary Z h67 b66 .int 3 (fun i => .int ((upA (fun _ => (0 : Int32)) 0 v62) i)) := A_b66_66.setI W67 (by decide)
        show Go p e below _ (T67.setTop (mkF m 87 #[.val (.int p1), .val (.int p2), .val (.int p3), .val (.int p4), .val (.int p5), .val (.int p6), .val (.int (2 : Int32)), .val (.int (469762049 : Int32)), .val (.ref b58), .val (.ref b59), .val (.ref b60), .val (.int v62), .val (.int v63), .val (.int v64), .val (.int v65), .unset, .unset] [(.ref b66)]))
        refine Go.step (fun t k => XS.dup X67.here hx rfl (hb hby at_87) rfl rfl k) ?_
        show Go p e below _ (T67.setTop (mkF m 88 #[.val (.int p1), .val (.int p2), .val (.int p3), .val (.int p4), .val (.int p5), .val (.int p6), .val (.int (2 : Int32)), .val (.int (469762049 : Int32)), .val (.ref b58), .val (.ref b59), .val (.ref b60), .val (.int v62), .val (.int v63), .val (.int v64), .val (.int v65), .unset, .unset] [(.ref b66), (.ref b66)]))
        refine Go.step (fun t k => XS.iconst X67.here hx rfl (hb hby at_88)  k) ?_
        show Go p e below _ (T67.setTop (mkF m 89 #[.val (.int p1), .val (.int p2), .val (.int p3), .val (.int p4), .val (.int p5), .val (.int p6), .val (.int (2 : Int32)), .val (.int (469762049 : Int32)), .val (.ref b58), .val (.ref b59), .val (.ref b60), .val (.int v62), .val (.int v63), .val (.int v64), .val (.int v65), .unset, .unset] [(.int (1 : Int32)), (.ref b66), (.ref b66)]))
        refine Go.step (fun t k => XS.iload X67.here hx rfl (hb hby at_89) rfl k) ?_
        show Go p e below _ (T67.setTop (mkF m 91 #[.val (.int p1), .val (.int p2), .val (.int p3), .val (.int p4), .val (.int p5), .val (.int p6), .val (.int (2 : Int32)), .val (.int (469762049 : Int32)), .val (.ref b58), .val (.ref b59), .val (.ref b60), .val (.int v62), .val (.int v63), .val (.int v64), .val (.int v65), .unset, .unset] [(.int v64), (.int (1 : Int32)), (.ref b66), (.ref b66)]))
        obtain ⟨cl68, Ar68, in68, -⟩ := A_b66_67.hin (j := (1 : Int32)) (by decide) (by decide)
        obtain ⟨T68, h68, X68, e68, W68, st68⟩ := stI X67 hx hZ e67 Ar68 in68 (g := (mkF m 91 #[.val (.int p1), .val (.int p2), .val (.int p3), .val (.int p4), .val (.int p5), .val (.int p6), .val (.int (2 : Int32)), .val (.int (469762049 : Int32)), .val (.ref b58), .val (.ref b59), .val (.ref b60), .val (.int v62), .val (.int v63), .val (.int v64), .val (.int v65), .unset, .unset] [(.int v64), (.int (1 : Int32)), (.ref b66), (.ref b66)])) rfl rfl (hb hby at_91)
        refine Go.step st68 ?_
        have N68 := Fr.snoc X68 N67 g_b66
        have E_b60_68 := E_b60_67.wr W68
        have F_length_b60_68 := F_length_b60_67.other W68 (Or.inl ne_b60_b66)
        have F_negativeInverse_b60_68 := F_negativeInverse_b60_67.other W68 (Or.inl ne_b60_b66)
        have F_prime_b60_68 := F_prime_b60_67.other W68 (Or.inl ne_b60_b66)
        have O68 := O67.wr W68 g_b66
        have Z68 := Nat.le_trans Z67 (Keep.of_wr W68).1
        have KK68 : Keep h0 h68 [] := KK67.wr W68 (Or.inr sz_b66)
        have A_b66_68 : Ary Z h68 b66 .int 3 (fun i => .int ((upA (upA (fun _ => (0 : Int32)) 0 v62) 1 v64) i)) := A_b66_67.setI W68 (by decide)
        show Go p e below _ (T68.setTop (mkF m 92 #[.val (.int p1), .val (.int p2), .val (.int p3), .val (.int p4), .val (.int p5), .val (.int p6), .val (.int (2 : Int32)), .val (.int (469762049 : Int32)), .val (.ref b58), .val (.ref b59), .val (.ref b60), .val (.int v62), .val (.int v63), .val (.int v64), .val (.int v65), .unset, .unset] [(.ref b66)]))
        refine Go.step (fun t k => XS.dup X68.here hx rfl (hb hby at_92) rfl rfl k) ?_
        show Go p e below _ (T68.setTop (mkF m 93 #[.val (.int p1), .val (.int p2), .val (.int p3), .val (.int p4), .val (.int p5), .val (.int p6), .val (.int (2 : Int32)), .val (.int (469762049 : Int32)), .val (.ref b58), .val (.ref b59), .val (.ref b60), .val (.int v62), .val (.int v63), .val (.int v64), .val (.int v65), .unset, .unset] [(.ref b66), (.ref b66)]))
        refine Go.step (fun t k => XS.iconst X68.here hx rfl (hb hby at_93)  k) ?_
        show Go p e below _ (T68.setTop (mkF m 94 #[.val (.int p1), .val (.int p2), .val (.int p3), .val (.int p4), .val (.int p5), .val (.int p6), .val (.int (2 : Int32)), .val (.int (469762049 : Int32)), .val (.ref b58), .val (.ref b59), .val (.ref b60), .val (.int v62), .val (.int v63), .val (.int v64), .val (.int v65), .unset, .unset] [(.int (2 : Int32)), (.ref b66), (.ref b66)]))
        refine Go.step (fun t k => XS.iload X68.here hx rfl (hb hby at_94) rfl k) ?_
        show Go p e below _ (T68.setTop (mkF m 96 #[.val (.int p1), .val (.int p2), .val (.int p3), .val (.int p4), .val (.int p5), .val (.int p6), .val (.int (2 : Int32)), .val (.int (469762049 : Int32)), .val (.ref b58), .val (.ref b59), .val (.ref b60), .val (.int v62), .val (.int v63), .val (.int v64), .val (.int v65), .unset, .unset] [(.int p6), (.int (2 : Int32)), (.ref b66), (.ref b66)]))
        obtain ⟨cl69, Ar69, in69, -⟩ := A_b66_68.hin (j := (2 : Int32)) (by decide) (by decide)
        obtain ⟨T69, h69, X69, e69, W69, st69⟩ := stI X68 hx hZ e68 Ar69 in69 (g := (mkF m 96 #[.val (.int p1), .val (.int p2), .val (.int p3), .val (.int p4), .val (.int p5), .val (.int p6), .val (.int (2 : Int32)), .val (.int (469762049 : Int32)), .val (.ref b58), .val (.ref b59), .val (.ref b60), .val (.int v62), .val (.int v63), .val (.int v64), .val (.int v65), .unset, .unset] [(.int p6), (.int (2 : Int32)), (.ref b66), (.ref b66)])) rfl rfl (hb hby at_96)
        refine Go.step st69 ?_
        have N69 := Fr.snoc X69 N68 g_b66
        have E_b60_69 := E_b60_68.wr W69
        have F_length_b60_69 := F_length_b60_68.other W69 (Or.inl ne_b60_b66)
        have F_negativeInverse_b60_69 := F_negativeInverse_b60_68.other W69 (Or.inl ne_b60_b66)
        have F_prime_b60_69 := F_prime_b60_68.other W69 (Or.inl ne_b60_b66)
        have O69 := O68.wr W69 g_b66
        have Z69 := Nat.le_trans Z68 (Keep.of_wr W69).1
        have KK69 : Keep h0 h69 [] := KK68.wr W69 (Or.inr sz_b66)
        have A_b66_69 : Ary Z h69 b66 .int 3 (fun i => .int ((upA (upA (upA (fun _ => (0 : Int32)) 0 v62) 1 v64) 2 p6) i)) := A_b66_68.setI W69 (by decide)
        show Go p e below _ (T69.setTop (mkF m 97 #[.val (.int p1), .val (.int p2), .val (.int p3), .val (.int p4), .val (.int p5), .val (.int p6), .val (.int (2 : Int32)), .val (.int (469762049 : Int32)), .val (.ref b58), .val (.ref b59), .val (.ref b60), .val (.int v62), .val (.int v63), .val (.int v64), .val (.int v65), .unset, .unset] [(.ref b66)]))
        refine Go.step (fun t k => XS.astore X69.here hx rfl (hb hby at_97) rfl rfl (l' := #[.val (.int p1), .val (.int p2), .val (.int p3), .val (.int p4), .val (.int p5), .val (.int p6), .val (.int (2 : Int32)), .val (.int (469762049 : Int32)), .val (.ref b58), .val (.ref b59), .val (.ref b60), .val (.int v62), .val (.int v63), .val (.int v64), .val (.int v65), .val (.ref b66), .unset]) rfl k) ?_
        show Go p e below _ (T69.setTop (mkF m 99 #[.val (.int p1), .val (.int p2), .val (.int p3), .val (.int p4), .val (.int p5), .val (.int p6), .val (.int (2 : Int32)), .val (.int (469762049 : Int32)), .val (.ref b58), .val (.ref b59), .val (.ref b60), .val (.int v62), .val (.int v63), .val (.int v64), .val (.int v65), .val (.ref b66), .unset] []))
        refine Go.step (fun t k => XS.iconst X69.here hx rfl (hb hby at_99)  k) ?_
        show Go p e below _ (T69.setTop (mkF m 100 #[.val (.int p1), .val (.int p2), .val (.int p3), .val (.int p4), .val (.int p5), .val (.int p6), .val (.int (2 : Int32)), .val (.int (469762049 : Int32)), .val (.ref b58), .val (.ref b59), .val (.ref b60), .val (.int v62), .val (.int v63), .val (.int v64), .val (.int v65), .val (.ref b66), .unset] [(.int (3 : Int32))]))
        obtain ⟨T70, h70, k70, X70, e70, E70, A70, st70⟩ := newP X69 hx hZ (hw _ (List.mem_of_getElem? (i := 4) rfl)) e69 (g := (mkF m 100 #[.val (.int p1), .val (.int p2), .val (.int p3), .val (.int p4), .val (.int p5), .val (.int p6), .val (.int (2 : Int32)), .val (.int (469762049 : Int32)), .val (.ref b58), .val (.ref b59), .val (.ref b60), .val (.int v62), .val (.int v63), .val (.int v64), .val (.int v65), .val (.ref b66), .unset] [(.int (3 : Int32))])) rfl (hb hby at_100) rfl (by decide) (cap := 3) (by decide) (by decide) (by decide) (by decide)
        obtain ⟨b70, g70⟩ : ∃ z, z = h69.size := ⟨_, rfl⟩
        rw [← g70] at A70 st70
        have g_b70 : n0 ≤ b70 := Nat.le_trans Z69 (Nat.le_of_eq g70.symm)
        have sz_b70 : h0.size ≤ b70 := Nat.le_trans KK69.1 (Nat.le_of_eq g70.symm)
        have ne_b60_b70 : b60 ≠ b70 := Nat.ne_of_lt (Nat.lt_of_lt_of_le E_b60_69.lt (Nat.le_of_eq g70.symm))
        have ne_b66_b70 : b66 ≠ b70 := Nat.ne_of_lt (Nat.lt_of_lt_of_le A_b66_69.lt (Nat.le_of_eq g70.symm))
        refine Go.step st70 ?_
        have E_b60_70 := E_b60_69.ext E70
        have F_length_b60_70 := F_length_b60_69.ext E70
        have F_negativeInverse_b60_70 := F_negativeInverse_b60_69.ext E70
        have F_prime_b60_70 := F_prime_b60_69.ext E70
        have A_b66_70 := A_b66_69.ext E70
        have O70 := O69.ext E70
        have Z70 := Nat.le_trans Z69 E70.1
        have KK70 : Keep h0 h70 [] := KK69.ext E70
        have A_b70_70 : Ary Z h70 b70 .int 3 (fun i => .int ((fun _ => (0 : Int32)) i)) := Ary.mk A70 (by decide) (by decide)
        show Go p e below _ (T70.setTop (mkF m 102 #[.val (.int p1), .val (.int p2), .val (.int p3), .val (.int p4), .val (.int p5), .val (.int p6), .val (.int (2 : Int32)), .val (.int (469762049 : Int32)), .val (.ref b58), .val (.ref b59), .val (.ref b60), .val (.int v62), .val (.int v63), .val (.int v64), .val (.int v65), .val (.ref b66), .unset] [(.ref b70)]))
        refine Go.step (fun t k => XS.dup X70.here hx rfl (hb hby at_102) rfl rfl k) ?_
        show Go p e below _ (T70.setTop (mkF m 103 #[.val (.int p1), .val (.int p2), .val (.int p3), .val (.int p4), .val (.int p5), .val (.int p6), .val (.int (2 : Int32)), .val (.int (469762049 : Int32)), .val (.ref b58), .val (.ref b59), .val (.ref b60), .val (.int v62), .val (.int v63), .val (.int v64), .val (.int v65), .val (.ref b66), .unset] [(.ref b70), (.ref b70)]))
        refine Go.step (fun t k => XS.iconst X70.here hx rfl (hb hby at_103)  k) ?_
        show Go p e below _ (T70.setTop (mkF m 104 #[.val (.int p1), .val (.int p2), .val (.int p3), .val (.int p4), .val (.int p5), .val (.int p6), .val (.int (2 : Int32)), .val (.int (469762049 : Int32)), .val (.ref b58), .val (.ref b59), .val (.ref b60), .val (.int v62), .val (.int v63), .val (.int v64), .val (.int v65), .val (.ref b66), .unset] [(.int (0 : Int32)), (.ref b70), (.ref b70)]))
        refine Go.step (fun t k => XS.iload X70.here hx rfl (hb hby at_104) rfl k) ?_
        show Go p e below _ (T70.setTop (mkF m 106 #[.val (.int p1), .val (.int p2), .val (.int p3), .val (.int p4), .val (.int p5), .val (.int p6), .val (.int (2 : Int32)), .val (.int (469762049 : Int32)), .val (.ref b58), .val (.ref b59), .val (.ref b60), .val (.int v62), .val (.int v63), .val (.int v64), .val (.int v65), .val (.ref b66), .unset] [(.int v63), (.int (0 : Int32)), (.ref b70), (.ref b70)]))
        obtain ⟨cl71, Ar71, in71, -⟩ := A_b70_70.hin (j := (0 : Int32)) (by decide) (by decide)
        obtain ⟨T71, h71, X71, e71, W71, st71⟩ := stI X70 hx hZ e70 Ar71 in71 (g := (mkF m 106 #[.val (.int p1), .val (.int p2), .val (.int p3), .val (.int p4), .val (.int p5), .val (.int p6), .val (.int (2 : Int32)), .val (.int (469762049 : Int32)), .val (.ref b58), .val (.ref b59), .val (.ref b60), .val (.int v62), .val (.int v63), .val (.int v64), .val (.int v65), .val (.ref b66), .unset] [(.int v63), (.int (0 : Int32)), (.ref b70), (.ref b70)])) rfl rfl (hb hby at_106)
        refine Go.step st71 ?_
        have N71 := Fr.snoc X71 N69 g_b70
        have E_b60_71 := E_b60_70.wr W71
        have F_length_b60_71 := F_length_b60_70.other W71 (Or.inl ne_b60_b70)
        have F_negativeInverse_b60_71 := F_negativeInverse_b60_70.other W71 (Or.inl ne_b60_b70)
        have F_prime_b60_71 := F_prime_b60_70.other W71 (Or.inl ne_b60_b70)
        have A_b66_71 := A_b66_70.other W71 ne_b66_b70
        have O71 := O70.wr W71 g_b70
        have Z71 := Nat.le_trans Z70 (Keep.of_wr W71).1
        have KK71 : Keep h0 h71 [] := KK70.wr W71 (Or.inr sz_b70)
        have A_b70_71 : Ary Z h71 b70 .int 3 (fun i => .int ((upA (fun _ => (0 : Int32)) 0 v63) i)) := A_b70_70.setI W71 (by decide)
        show Go p e below _ (T71.setTop (mkF m 107 #[.val (.int p1), .val (.int p2), .val (.int p3), .val (.int p4), .val (.int p5), .val (.int p6), .val (.int (2 : Int32)), .val (.int (469762049 : Int32)), .val (.ref b58), .val (.ref b59), .val (.ref b60), .val (.int v62), .val (.int v63), .val (.int v64), .val (.int v65), .val (.ref b66), .unset] [(.ref b70)]))
        refine Go.step (fun t k => XS.dup X71.here hx rfl (hb hby at_107) rfl rfl k) ?_
        show Go p e below _ (T71.setTop (mkF m 108 #[.val (.int p1), .val (.int p2), .val (.int p3), .val (.int p4), .val (.int p5), .val (.int p6), .val (.int (2 : Int32)), .val (.int (469762049 : Int32)), .val (.ref b58), .val (.ref b59), .val (.ref b60), .val (.int v62), .val (.int v63), .val (.int v64), .val (.int v65), .val (.ref b66), .unset] [(.ref b70), (.ref b70)]))
        refine Go.step (fun t k => XS.iconst X71.here hx rfl (hb hby at_108)  k) ?_
        show Go p e below _ (T71.setTop (mkF m 109 #[.val (.int p1), .val (.int p2), .val (.int p3), .val (.int p4), .val (.int p5), .val (.int p6), .val (.int (2 : Int32)), .val (.int (469762049 : Int32)), .val (.ref b58), .val (.ref b59), .val (.ref b60), .val (.int v62), .val (.int v63), .val (.int v64), .val (.int v65), .val (.ref b66), .unset] [(.int (1 : Int32)), (.ref b70), (.ref b70)]))
        refine Go.step (fun t k => XS.iload X71.here hx rfl (hb hby at_109) rfl k) ?_
        show Go p e below _ (T71.setTop (mkF m 111 #[.val (.int p1), .val (.int p2), .val (.int p3), .val (.int p4), .val (.int p5), .val (.int p6), .val (.int (2 : Int32)), .val (.int (469762049 : Int32)), .val (.ref b58), .val (.ref b59), .val (.ref b60), .val (.int v62), .val (.int v63), .val (.int v64), .val (.int v65), .val (.ref b66), .unset] [(.int v65), (.int (1 : Int32)), (.ref b70), (.ref b70)]))
        obtain ⟨cl72, Ar72, in72, -⟩ := A_b70_71.hin (j := (1 : Int32)) (by decide) (by decide)
        obtain ⟨T72, h72, X72, e72, W72, st72⟩ := stI X71 hx hZ e71 Ar72 in72 (g := (mkF m 111 #[.val (.int p1), .val (.int p2), .val (.int p3), .val (.int p4), .val (.int p5), .val (.int p6), .val (.int (2 : Int32)), .val (.int (469762049 : Int32)), .val (.ref b58), .val (.ref b59), .val (.ref b60), .val (.int v62), .val (.int v63), .val (.int v64), .val (.int v65), .val (.ref b66), .unset] [(.int v65), (.int (1 : Int32)), (.ref b70), (.ref b70)])) rfl rfl (hb hby at_111)
        refine Go.step st72 ?_
        have N72 := Fr.snoc X72 N71 g_b70
        have E_b60_72 := E_b60_71.wr W72
        have F_length_b60_72 := F_length_b60_71.other W72 (Or.inl ne_b60_b70)
        have F_negativeInverse_b60_72 := F_negativeInverse_b60_71.other W72 (Or.inl ne_b60_b70)
        have F_prime_b60_72 := F_prime_b60_71.other W72 (Or.inl ne_b60_b70)
        have A_b66_72 := A_b66_71.other W72 ne_b66_b70
        have O72 := O71.wr W72 g_b70
        have Z72 := Nat.le_trans Z71 (Keep.of_wr W72).1
        have KK72 : Keep h0 h72 [] := KK71.wr W72 (Or.inr sz_b70)
        have A_b70_72 : Ary Z h72 b70 .int 3 (fun i => .int ((upA (upA (fun _ => (0 : Int32)) 0 v63) 1 v65) i)) := A_b70_71.setI W72 (by decide)
        show Go p e below _ (T72.setTop (mkF m 112 #[.val (.int p1), .val (.int p2), .val (.int p3), .val (.int p4), .val (.int p5), .val (.int p6), .val (.int (2 : Int32)), .val (.int (469762049 : Int32)), .val (.ref b58), .val (.ref b59), .val (.ref b60), .val (.int v62), .val (.int v63), .val (.int v64), .val (.int v65), .val (.ref b66), .unset] [(.ref b70)]))
        refine Go.step (fun t k => XS.dup X72.here hx rfl (hb hby at_112) rfl rfl k) ?_
        show Go p e below _ (T72.setTop (mkF m 113 #[.val (.int p1), .val (.int p2), .val (.int p3), .val (.int p4), .val (.int p5), .val (.int p6), .val (.int (2 : Int32)), .val (.int (469762049 : Int32)), .val (.ref b58), .val (.ref b59), .val (.ref b60), .val (.int v62), .val (.int v63), .val (.int v64), .val (.int v65), .val (.ref b66), .unset] [(.ref b70), (.ref b70)]))
        refine Go.step (fun t k => XS.iconst X72.here hx rfl (hb hby at_113)  k) ?_
        show Go p e below _ (T72.setTop (mkF m 114 #[.val (.int p1), .val (.int p2), .val (.int p3), .val (.int p4), .val (.int p5), .val (.int p6), .val (.int (2 : Int32)), .val (.int (469762049 : Int32)), .val (.ref b58), .val (.ref b59), .val (.ref b60), .val (.int v62), .val (.int v63), .val (.int v64), .val (.int v65), .val (.ref b66), .unset] [(.int (2 : Int32)), (.ref b70), (.ref b70)]))
        refine Go.step (fun t k => XS.iload X72.here hx rfl (hb hby at_114) rfl k) ?_
        show Go p e below _ (T72.setTop (mkF m 116 #[.val (.int p1), .val (.int p2), .val (.int p3), .val (.int p4), .val (.int p5), .val (.int p6), .val (.int (2 : Int32)), .val (.int (469762049 : Int32)), .val (.ref b58), .val (.ref b59), .val (.ref b60), .val (.int v62), .val (.int v63), .val (.int v64), .val (.int v65), .val (.ref b66), .unset] [(.int p6), (.int (2 : Int32)), (.ref b70), (.ref b70)]))
        obtain ⟨cl73, Ar73, in73, -⟩ := A_b70_72.hin (j := (2 : Int32)) (by decide) (by decide)
        obtain ⟨T73, h73, X73, e73, W73, st73⟩ := stI X72 hx hZ e72 Ar73 in73 (g := (mkF m 116 #[.val (.int p1), .val (.int p2), .val (.int p3), .val (.int p4), .val (.int p5), .val (.int p6), .val (.int (2 : Int32)), .val (.int (469762049 : Int32)), .val (.ref b58), .val (.ref b59), .val (.ref b60), .val (.int v62), .val (.int v63), .val (.int v64), .val (.int v65), .val (.ref b66), .unset] [(.int p6), (.int (2 : Int32)), (.ref b70), (.ref b70)])) rfl rfl (hb hby at_116)
        refine Go.step st73 ?_
        have N73 := Fr.snoc X73 N72 g_b70
        have E_b60_73 := E_b60_72.wr W73
        have F_length_b60_73 := F_length_b60_72.other W73 (Or.inl ne_b60_b70)
        have F_negativeInverse_b60_73 := F_negativeInverse_b60_72.other W73 (Or.inl ne_b60_b70)
        have F_prime_b60_73 := F_prime_b60_72.other W73 (Or.inl ne_b60_b70)
        have A_b66_73 := A_b66_72.other W73 ne_b66_b70
        have O73 := O72.wr W73 g_b70
        have Z73 := Nat.le_trans Z72 (Keep.of_wr W73).1
        have KK73 : Keep h0 h73 [] := KK72.wr W73 (Or.inr sz_b70)
        have A_b70_73 : Ary Z h73 b70 .int 3 (fun i => .int ((upA (upA (upA (fun _ => (0 : Int32)) 0 v63) 1 v65) 2 p6) i)) := A_b70_72.setI W73 (by decide)
        show Go p e below _ (T73.setTop (mkF m 117 #[.val (.int p1), .val (.int p2), .val (.int p3), .val (.int p4), .val (.int p5), .val (.int p6), .val (.int (2 : Int32)), .val (.int (469762049 : Int32)), .val (.ref b58), .val (.ref b59), .val (.ref b60), .val (.int v62), .val (.int v63), .val (.int v64), .val (.int v65), .val (.ref b66), .unset] [(.ref b70)]))
        refine Go.step (fun t k => XS.astore X73.here hx rfl (hb hby at_117) rfl rfl (l' := #[.val (.int p1), .val (.int p2), .val (.int p3), .val (.int p4), .val (.int p5), .val (.int p6), .val (.int (2 : Int32)), .val (.int (469762049 : Int32)), .val (.ref b58), .val (.ref b59), .val (.ref b60), .val (.int v62), .val (.int v63), .val (.int v64), .val (.int v65), .val (.ref b66), .val (.ref b70)]) rfl k) ?_
        show Go p e below _ (T73.setTop (mkF m 119 #[.val (.int p1), .val (.int p2), .val (.int p3), .val (.int p4), .val (.int p5), .val (.int p6), .val (.int (2 : Int32)), .val (.int (469762049 : Int32)), .val (.ref b58), .val (.ref b59), .val (.ref b60), .val (.int v62), .val (.int v63), .val (.int v64), .val (.int v65), .val (.ref b66), .val (.ref b70)] []))
        refine Go.step (fun t k => XS.aload X73.here hx rfl (hb hby at_119) rfl rfl k) ?_
        show Go p e below _ (T73.setTop (mkF m 121 #[.val (.int p1), .val (.int p2), .val (.int p3), .val (.int p4), .val (.int p5), .val (.int p6), .val (.int (2 : Int32)), .val (.int (469762049 : Int32)), .val (.ref b58), .val (.ref b59), .val (.ref b60), .val (.int v62), .val (.int v63), .val (.int v64), .val (.int v65), .val (.ref b66), .val (.ref b70)] [(.ref b60)]))
        refine Go.step (fun t k => XS.aload X73.here hx rfl (hb hby at_121) rfl rfl k) ?_
        show Go p e below _ (T73.setTop (mkF m 123 #[.val (.int p1), .val (.int p2), .val (.int p3), .val (.int p4), .val (.int p5), .val (.int p6), .val (.int (2 : Int32)), .val (.int (469762049 : Int32)), .val (.ref b58), .val (.ref b59), .val (.ref b60), .val (.int v62), .val (.int v63), .val (.int v64), .val (.int v65), .val (.ref b66), .val (.ref b70)] [(.ref b66), (.ref b60)]))
        refine Go.step (fun t k => XS.aload X73.here hx rfl (hb hby at_123) rfl rfl k) ?_
        show Go p e below _ (T73.setTop (mkF m 125 #[.val (.int p1), .val (.int p2), .val (.int p3), .val (.int p4), .val (.int p5), .val (.int p6), .val (.int (2 : Int32)), .val (.int (469762049 : Int32)), .val (.ref b58), .val (.ref b59), .val (.ref b60), .val (.int v62), .val (.int v63), .val (.int v64), .val (.int v65), .val (.ref b66), .val (.ref b70)] [(.ref b70), (.ref b66), (.ref b60)]))
        obtain ⟨cq74, kq74, q74a, q74b, q74c⟩ := isOf hZ e73 E_b60_73
        obtain ⟨_, _, ⟨T74, L74, k74, n74⟩, -, X74, ⟨Lc74, hQ74, l74, y74, z74⟩, st74⟩ := X73.virtualBack hx (y := (⟨"com/example/tinwire/tinwire/json/Transform", "multiplyPointwise", "([I[I)V"⟩ : MethodName)) (z := (⟨"com/example/tinwire/tinwire/json/Transform", "multiplyPointwise", "([I[I)V"⟩ : MethodName)) hown (mvT hZ (hw _ (List.mem_of_getElem? (i := 42) rfl))) (mvT hZ (hw _ (List.mem_of_getElem? (i := 43) rfl))) (notFace_of_selects (args := #[]) (mvT hZ (hw _ (List.mem_of_getElem? (i := 45) rfl)))) (mvT hZ (hw _ (List.mem_of_getElem? (i := 45) rfl))) (mvT hZ (hw _ (List.mem_of_getElem? (i := 44) rfl))) (by decide) (backOf (W := 0) (rm5 l Z a0 hw [] b60 b66 b70 (upA (upA (upA (fun _ => (0 : Int32)) 0 v62) 1 v64) 2 p6) (upA (upA (upA (fun _ => (0 : Int32)) 0 v63) 1 v65) 2 p6) (469762049 : Int32) (469762047 : Int32) h73 n0 Z73 F_length_b60_73 A_b66_73 A_b70_73 F_prime_b60_73 F_negativeInverse_b60_73 g_b66 ne_b60_b66 (Ne.symm ne_b66_b70)) hZ (hw _ (List.mem_of_getElem? (i := 46) rfl)) (hw _ (List.mem_of_getElem? (i := 2) rfl)) (by decide) (by decide)) q74a q74c (g := (mkF m 125 #[.val (.int p1), .val (.int p2), .val (.int p3), .val (.int p4), .val (.int p5), .val (.int p6), .val (.int (2 : Int32)), .val (.int (469762049 : Int32)), .val (.ref b58), .val (.ref b59), .val (.ref b60), .val (.int v62), .val (.int v63), .val (.int v64), .val (.int v65), .val (.ref b66), .val (.ref b70)] [(.ref b70), (.ref b66), (.ref b60)])) rfl (by rw [hml]; rfl) (Steps.refl _) (argsL := [(.ref b66), (.ref b70)]) (rest := []) (lenOf pd_3 rfl) rfl (by show 2 * 0 + _ ≤ _; exact Nat.le_of_eq rfl) (hb hby at_125) (fun _ _ => ⟨rfl, e73, (by decide : 5 + 0 ≤ _), (by decide : 17 + 0 ≤ _)⟩)
        dsimp only [Pt.U, Pt.locs, Pt.cells, Pt.slots] at X74 l74 y74 z74 st74 hQ74
        subst l74 y74 z74
        obtain ⟨rfl, N74q, K74, Q74_0⟩ := hQ74
        have N74 := Fr.app N73 N74q
        have E_b60_74 := E_b60_73.keep K74
        have F_length_b60_74 := F_length_b60_73.keep K74 (ninS ne_b60_b66 nin0)
        have F_negativeInverse_b60_74 := F_negativeInverse_b60_73.keep K74 (ninS ne_b60_b66 nin0)
        have F_prime_b60_74 := F_prime_b60_73.keep K74 (ninS ne_b60_b66 nin0)
        have A_b70_74 := A_b70_73.keep K74 (ninS (Ne.symm ne_b66_b70) nin0)
        have O74 := O73.keep K74 (allS g_b66 all0)
        have Z74 := Nat.le_trans Z73 K74.1
        have KK74 : Keep h0 T74.heap [] := KK73.trans K74 (allS (Or.inr sz_b66) all0)
        refine Go.trans st74 ?_
        show Go p e below _ (T74.setTop (mkF m 128 #[.val (.int p1), .val (.int p2), .val (.int p3), .val (.int p4), .val (.int p5), .val (.int p6), .val (.int (2 : Int32)), .val (.int (469762049 : Int32)), .val (.ref b58), .val (.ref b59), .val (.ref b60), .val (.int v62), .val (.int v63), .val (.int v64), .val (.int v65), .val (.ref b66), .val (.ref b70)] []))
        refine Go.step (fun t k => XS.aload X74.here hx rfl (hb hby at_128) rfl rfl k) ?_
        show Go p e below _ (T74.setTop (mkF m 130 #[.val (.int p1), .val (.int p2), .val (.int p3), .val (.int p4), .val (.int p5), .val (.int p6), .val (.int (2 : Int32)), .val (.int (469762049 : Int32)), .val (.ref b58), .val (.ref b59), .val (.ref b60), .val (.int v62), .val (.int v63), .val (.int v64), .val (.int v65), .val (.ref b66), .val (.ref b70)] [(.ref b66)]))
        refine Go.step (fun t k => XS.iconst X74.here hx rfl (hb hby at_130)  k) ?_
        show Go p e below _ (T74.setTop (mkF m 131 #[.val (.int p1), .val (.int p2), .val (.int p3), .val (.int p4), .val (.int p5), .val (.int p6), .val (.int (2 : Int32)), .val (.int (469762049 : Int32)), .val (.ref b58), .val (.ref b59), .val (.ref b60), .val (.int v62), .val (.int v63), .val (.int v64), .val (.int v65), .val (.ref b66), .val (.ref b70)] [(.int (0 : Int32)), (.ref b66)]))
        refine Go.step (ldI X74 hx hZ rfl Q74_0 (j := (0 : Int32)) (by decide) (by decide) (g := (mkF m 131 #[.val (.int p1), .val (.int p2), .val (.int p3), .val (.int p4), .val (.int p5), .val (.int p6), .val (.int (2 : Int32)), .val (.int (469762049 : Int32)), .val (.ref b58), .val (.ref b59), .val (.ref b60), .val (.int v62), .val (.int v63), .val (.int v64), .val (.int v65), .val (.ref b66), .val (.ref b70)] [(.int (0 : Int32)), (.ref b66)])) rfl rfl (hb hby at_131)) ?_
        show Go p e below _ (T74.setTop (mkF m 132 #[.val (.int p1), .val (.int p2), .val (.int p3), .val (.int p4), .val (.int p5), .val (.int p6), .val (.int (2 : Int32)), .val (.int (469762049 : Int32)), .val (.ref b58), .val (.ref b59), .val (.ref b60), .val (.int v62), .val (.int v63), .val (.int v64), .val (.int v65), .val (.ref b66), .val (.ref b70)] [(.int ((upA (upA (upA (upA (upA (fun _ => (0 : Int32)) 0 v62) 1 v64) 2 p6) 0 (mpF ((upA (upA (upA (fun _ => (0 : Int32)) 0 v62) 1 v64) 2 p6) 0) ((upA (upA (upA (fun _ => (0 : Int32)) 0 v63) 1 v65) 2 p6) 0) (469762049 : Int32) (469762047 : Int32))) 1 (mpF ((upA (upA (upA (fun _ => (0 : Int32)) 0 v62) 1 v64) 2 p6) 1) ((upA (upA (upA (fun _ => (0 : Int32)) 0 v63) 1 v65) 2 p6) 1) (469762049 : Int32) (469762047 : Int32))) 0))]))
        refine Go.step (fun t k => XS.iload X74.here hx rfl (hb hby at_132) rfl k) ?_
        show Go p e below _ (T74.setTop (mkF m 134 #[.val (.int p1), .val (.int p2), .val (.int p3), .val (.int p4), .val (.int p5), .val (.int p6), .val (.int (2 : Int32)), .val (.int (469762049 : Int32)), .val (.ref b58), .val (.ref b59), .val (.ref b60), .val (.int v62), .val (.int v63), .val (.int v64), .val (.int v65), .val (.ref b66), .val (.ref b70)] [(.int v62), (.int ((upA (upA (upA (upA (upA (fun _ => (0 : Int32)) 0 v62) 1 v64) 2 p6) 0 (mpF ((upA (upA (upA (fun _ => (0 : Int32)) 0 v62) 1 v64) 2 p6) 0) ((upA (upA (upA (fun _ => (0 : Int32)) 0 v63) 1 v65) 2 p6) 0) (469762049 : Int32) (469762047 : Int32))) 1 (mpF ((upA (upA (upA (fun _ => (0 : Int32)) 0 v62) 1 v64) 2 p6) 1) ((upA (upA (upA (fun _ => (0 : Int32)) 0 v63) 1 v65) 2 p6) 1) (469762049 : Int32) (469762047 : Int32))) 0))]))
        refine Go.step (fun t k => XS.iload X74.here hx rfl (hb hby at_134) rfl k) ?_
        show Go p e below _ (T74.setTop (mkF m 136 #[.val (.int p1), .val (.int p2), .val (.int p3), .val (.int p4), .val (.int p5), .val (.int p6), .val (.int (2 : Int32)), .val (.int (469762049 : Int32)), .val (.ref b58), .val (.ref b59), .val (.ref b60), .val (.int v62), .val (.int v63), .val (.int v64), .val (.int v65), .val (.ref b66), .val (.ref b70)] [(.int v63), (.int v62), (.int ((upA (upA (upA (upA (upA (fun _ => (0 : Int32)) 0 v62) 1 v64) 2 p6) 0 (mpF ((upA (upA (upA (fun _ => (0 : Int32)) 0 v62) 1 v64) 2 p6) 0) ((upA (upA (upA (fun _ => (0 : Int32)) 0 v63) 1 v65) 2 p6) 0) (469762049 : Int32) (469762047 : Int32))) 1 (mpF ((upA (upA (upA (fun _ => (0 : Int32)) 0 v62) 1 v64) 2 p6) 1) ((upA (upA (upA (fun _ => (0 : Int32)) 0 v63) 1 v65) 2 p6) 1) (469762049 : Int32) (469762047 : Int32))) 0))]))
        refine Go.step (fun t k => XS.iload X74.here hx rfl (hb hby at_136) rfl k) ?_
        show Go p e below _ (T74.setTop (mkF m 138 #[.val (.int p1), .val (.int p2), .val (.int p3), .val (.int p4), .val (.int p5), .val (.int p6), .val (.int (2 : Int32)), .val (.int (469762049 : Int32)), .val (.ref b58), .val (.ref b59), .val (.ref b60), .val (.int v62), .val (.int v63), .val (.int v64), .val (.int v65), .val (.ref b66), .val (.ref b70)] [(.int (469762049 : Int32)), (.int v63), (.int v62), (.int ((upA (upA (upA (upA (upA (fun _ => (0 : Int32)) 0 v62) 1 v64) 2 p6) 0 (mpF ((upA (upA (upA (fun _ => (0 : Int32)) 0 v62) 1 v64) 2 p6) 0) ((upA (upA (upA (fun _ => (0 : Int32)) 0 v63) 1 v65) 2 p6) 0) (469762049 : Int32) (469762047 : Int32))) 1 (mpF ((upA (upA (upA (fun _ => (0 : Int32)) 0 v62) 1 v64) 2 p6) 1) ((upA (upA (upA (fun _ => (0 : Int32)) 0 v63) 1 v65) 2 p6) 1) (469762049 : Int32) (469762047 : Int32))) 0))]))
        obtain ⟨_, _, ⟨T75, L75, k75, n75⟩, -, X75, ⟨Lc75, hQ75, l75, y75, z75⟩, st75⟩ := Jvm.LawKit.callS X74 hx (y := (⟨"com/example/tinwire/tinwire/json/TransformMultiplyPointwisePinLaw", "ok", "(IIII)Z"⟩ : MethodName)) hown (mvT hZ (hw _ (List.mem_of_getElem? (i := 48) rfl))) (mvT hZ (hw _ (List.mem_of_getElem? (i := 49) rfl))) (mvT hZ (hw _ (List.mem_of_getElem? (i := 50) rfl))) (mvT hZ (hw _ (List.mem_of_getElem? (i := 51) rfl))) (by decide) (backOf (W := 0) (rm6 l Z a0 hw [] ((upA (upA (upA (upA (upA (fun _ => (0 : Int32)) 0 v62) 1 v64) 2 p6) 0 (mpF ((upA (upA (upA (fun _ => (0 : Int32)) 0 v62) 1 v64) 2 p6) 0) ((upA (upA (upA (fun _ => (0 : Int32)) 0 v63) 1 v65) 2 p6) 0) (469762049 : Int32) (469762047 : Int32))) 1 (mpF ((upA (upA (upA (fun _ => (0 : Int32)) 0 v62) 1 v64) 2 p6) 1) ((upA (upA (upA (fun _ => (0 : Int32)) 0 v63) 1 v65) 2 p6) 1) (469762049 : Int32) (469762047 : Int32))) 0) v62 v63 (469762049 : Int32) T74.heap n0 Z74 ((by decide) : ¬ (((469762049 : Int32).toInt64) = (0 : Int64))) ((by decide) : ¬ (((469762049 : Int32).toInt64) = (0 : Int64)))) hZ (hw _ (List.mem_of_getElem? (i := 51) rfl)) (hw _ (List.mem_of_getElem? (i := 50) rfl)) (by decide) (by decide)) (g := (mkF m 138 #[.val (.int p1), .val (.int p2), .val (.int p3), .val (.int p4), .val (.int p5), .val (.int p6), .val (.int (2 : Int32)), .val (.int (469762049 : Int32)), .val (.ref b58), .val (.ref b59), .val (.ref b60), .val (.int v62), .val (.int v63), .val (.int v64), .val (.int v65), .val (.ref b66), .val (.ref b70)] [(.int (469762049 : Int32)), (.int v63), (.int v62), (.int ((upA (upA (upA (upA (upA (fun _ => (0 : Int32)) 0 v62) 1 v64) 2 p6) 0 (mpF ((upA (upA (upA (fun _ => (0 : Int32)) 0 v62) 1 v64) 2 p6) 0) ((upA (upA (upA (fun _ => (0 : Int32)) 0 v63) 1 v65) 2 p6) 0) (469762049 : Int32) (469762047 : Int32))) 1 (mpF ((upA (upA (upA (fun _ => (0 : Int32)) 0 v62) 1 v64) 2 p6) 1) ((upA (upA (upA (fun _ => (0 : Int32)) 0 v63) 1 v65) 2 p6) 1) (469762049 : Int32) (469762047 : Int32))) 0))])) rfl (by rw [hml]; rfl) (argsL := [(.int ((upA (upA (upA (upA (upA (fun _ => (0 : Int32)) 0 v62) 1 v64) 2 p6) 0 (mpF ((upA (upA (upA (fun _ => (0 : Int32)) 0 v62) 1 v64) 2 p6) 0) ((upA (upA (upA (fun _ => (0 : Int32)) 0 v63) 1 v65) 2 p6) 0) (469762049 : Int32) (469762047 : Int32))) 1 (mpF ((upA (upA (upA (fun _ => (0 : Int32)) 0 v62) 1 v64) 2 p6) 1) ((upA (upA (upA (fun _ => (0 : Int32)) 0 v63) 1 v65) 2 p6) 1) (469762049 : Int32) (469762047 : Int32))) 0)), (.int v62), (.int v63), (.int (469762049 : Int32))]) (rest := []) (lenOf pd_4 rfl) rfl (by show 2 * 0 + _ ≤ _; exact Nat.le_of_eq rfl) (hb hby at_138) (fun _ _ => ⟨rfl, rfl, (by decide : 5 + 0 ≤ _), (by decide : 17 + 0 ≤ _)⟩)
        dsimp only [Pt.U, Pt.locs, Pt.cells, Pt.slots] at X75 l75 y75 z75 st75 hQ75
        subst l75 y75 z75
        obtain ⟨rfl, N75q, e75⟩ := hQ75
        have N75 := Fr.app N74 N75q
        refine Go.step st75 ?_
        show Go p e below _ (T75.setTop (mkF m 141 #[.val (.int p1), .val (.int p2), .val (.int p3), .val (.int p4), .val (.int p5), .val (.int p6), .val (.int (2 : Int32)), .val (.int (469762049 : Int32)), .val (.ref b58), .val (.ref b59), .val (.ref b60), .val (.int v62), .val (.int v63), .val (.int v64), .val (.int v65), .val (.ref b66), .val (.ref b70)] [(.int (f6 ((upA (upA (upA (upA (upA (fun _ => (0 : Int32)) 0 v62) 1 v64) 2 p6) 0 (mpF ((upA (upA (upA (fun _ => (0 : Int32)) 0 v62) 1 v64) 2 p6) 0) ((upA (upA (upA (fun _ => (0 : Int32)) 0 v63) 1 v65) 2 p6) 0) (469762049 : Int32) (469762047 : Int32))) 1 (mpF ((upA (upA (upA (fun _ => (0 : Int32)) 0 v62) 1 v64) 2 p6) 1) ((upA (upA (upA (fun _ => (0 : Int32)) 0 v63) 1 v65) 2 p6) 1) (469762049 : Int32) (469762047 : Int32))) 0) v62 v63 (469762049 : Int32)))]))
        by_cases hc76 : (f6 ((upA (upA (upA (upA (upA (fun _ => (0 : Int32)) 0 v62) 1 v64) 2 p6) 0 (mpF ((upA (upA (upA (fun _ => (0 : Int32)) 0 v62) 1 v64) 2 p6) 0) ((upA (upA (upA (fun _ => (0 : Int32)) 0 v63) 1 v65) 2 p6) 0) (469762049 : Int32) (469762047 : Int32))) 1 (mpF ((upA (upA (upA (fun _ => (0 : Int32)) 0 v62) 1 v64) 2 p6) 1) ((upA (upA (upA (fun _ => (0 : Int32)) 0 v63) 1 v65) 2 p6) 1) (469762049 : Int32) (469762047 : Int32))) 0) v62 v63 (469762049 : Int32)) = (0 : Int32)
        · refine Go.step (fun t k => XS.ifYes X75.here hx rfl (pc0 := 141) (pc' := 200) rfl (hb hby at_141) rfl ((if0 _ _).trans (teq hc76).1) (by decide) (by decide) k) ?_
          show Go p e below _ (T75.setTop (mkF m 200 #[.val (.int p1), .val (.int p2), .val (.int p3), .val (.int p4), .val (.int p5), .val (.int p6), .val (.int (2 : Int32)), .val (.int (469762049 : Int32)), .val (.ref b58), .val (.ref b59), .val (.ref b60), .val (.int v62), .val (.int v63), .val (.int v64), .val (.int v65), .val (.ref b66), .val (.ref b70)] []))
          refine Go.step (fun t k => XS.iconst X75.here hx rfl (hb hby at_200)  k) ?_
          show Go p e below _ (T75.setTop (mkF m 201 #[.val (.int p1), .val (.int p2), .val (.int p3), .val (.int p4), .val (.int p5), .val (.int p6), .val (.int (2 : Int32)), .val (.int (469762049 : Int32)), .val (.ref b58), .val (.ref b59), .val (.ref b60), .val (.int v62), .val (.int v63), .val (.int v64), .val (.int v65), .val (.ref b66), .val (.ref b70)] [(.int (0 : Int32))]))
          subst hv65
          subst hv64
          subst hv63
          subst hv62
          subst hv7
          exact retGN X75 hx Bd.notSynchronized Bd.returns (t := .boolean) (by simp) (z' := (0 : Int32)) rfl (hb hby at_201) ⟨by first | (simp only [f0, if_neg hc8, if_neg hc32, if_pos hc56, if_pos hc76]; done) | rfl | (simp [f0, if_neg hc8, if_neg hc32, if_pos hc56, if_pos hc76]; done), N75⟩ (by decide) (by decide)
        · refine Go.step (fun t k => XS.ifNo X75.here hx rfl (hb hby at_141) rfl ((if0 _ _).trans (feq hc76).1) k) ?_
          show Go p e below _ (T75.setTop (mkF m 144 #[.val (.int p1), .val (.int p2), .val (.int p3), .val (.int p4), .val (.int p5), .val (.int p6), .val (.int (2 : Int32)), .val (.int (469762049 : Int32)), .val (.ref b58), .val (.ref b59), .val (.ref b60), .val (.int v62), .val (.int v63), .val (.int v64), .val (.int v65), .val (.ref b66), .val (.ref b70)] []))
          refine Go.step (fun t k => XS.aload X75.here hx rfl (hb hby at_144) rfl rfl k) ?_
          show Go p e below _ (T75.setTop (mkF m 146 #[.val (.int p1), .val (.int p2), .val (.int p3), .val (.int p4), .val (.int p5), .val (.int p6), .val (.int (2 : Int32)), .val (.int (469762049 : Int32)), .val (.ref b58), .val (.ref b59), .val (.ref b60), .val (.int v62), .val (.int v63), .val (.int v64), .val (.int v65), .val (.ref b66), .val (.ref b70)] [(.ref b66)]))
          refine Go.step (fun t k => XS.iconst X75.here hx rfl (hb hby at_146)  k) ?_
          show Go p e below _ (T75.setTop (mkF m 147 #[.val (.int p1), .val (.int p2), .val (.int p3), .val (.int p4), .val (.int p5), .val (.int p6), .val (.int (2 : Int32)), .val (.int (469762049 : Int32)), .val (.ref b58), .val (.ref b59), .val (.ref b60), .val (.int v62), .val (.int v63), .val (.int v64), .val (.int v65), .val (.ref b66), .val (.ref b70)] [(.int (1 : Int32)), (.ref b66)]))
          refine Go.step (ldI X75 hx hZ e75 Q74_0 (j := (1 : Int32)) (by decide) (by decide) (g := (mkF m 147 #[.val (.int p1), .val (.int p2), .val (.int p3), .val (.int p4), .val (.int p5), .val (.int p6), .val (.int (2 : Int32)), .val (.int (469762049 : Int32)), .val (.ref b58), .val (.ref b59), .val (.ref b60), .val (.int v62), .val (.int v63), .val (.int v64), .val (.int v65), .val (.ref b66), .val (.ref b70)] [(.int (1 : Int32)), (.ref b66)])) rfl rfl (hb hby at_147)) ?_
          show Go p e below _ (T75.setTop (mkF m 148 #[.val (.int p1), .val (.int p2), .val (.int p3), .val (.int p4), .val (.int p5), .val (.int p6), .val (.int (2 : Int32)), .val (.int (469762049 : Int32)), .val (.ref b58), .val (.ref b59), .val (.ref b60), .val (.int v62), .val (.int v63), .val (.int v64), .val (.int v65), .val (.ref b66), .val (.ref b70)] [(.int ((upA (upA (upA (upA (upA (fun _ => (0 : Int32)) 0 v62) 1 v64) 2 p6) 0 (mpF ((upA (upA (upA (fun _ => (0 : Int32)) 0 v62) 1 v64) 2 p6) 0) ((upA (upA (upA (fun _ => (0 : Int32)) 0 v63) 1 v65) 2 p6) 0) (469762049 : Int32) (469762047 : Int32))) 1 (mpF ((upA (upA (upA (fun _ => (0 : Int32)) 0 v62) 1 v64) 2 p6) 1) ((upA (upA (upA (fun _ => (0 : Int32)) 0 v63) 1 v65) 2 p6) 1) (469762049 : Int32) (469762047 : Int32))) 1))]))
          refine Go.step (fun t k => XS.iload X75.here hx rfl (hb hby at_148) rfl k) ?_
          show Go p e below _ (T75.setTop (mkF m 150 #[.val (.int p1), .val (.int p2), .val (.int p3), .val (.int p4), .val (.int p5), .val (.int p6), .val (.int (2 : Int32)), .val (.int (469762049 : Int32)), .val (.ref b58), .val (.ref b59), .val (.ref b60), .val (.int v62), .val (.int v63), .val (.int v64), .val (.int v65), .val (.ref b66), .val (.ref b70)] [(.int v64), (.int ((upA (upA (upA (upA (upA (fun _ => (0 : Int32)) 0 v62) 1 v64) 2 p6) 0 (mpF ((upA (upA (upA (fun _ => (0 : Int32)) 0 v62) 1 v64) 2 p6) 0) ((upA (upA (upA (fun _ => (0 : Int32)) 0 v63) 1 v65) 2 p6) 0) (469762049 : Int32) (469762047 : Int32))) 1 (mpF ((upA (upA (upA (fun _ => (0 : Int32)) 0 v62) 1 v64) 2 p6) 1) ((upA (upA (upA (fun _ => (0 : Int32)) 0 v63) 1 v65) 2 p6) 1) (469762049 : Int32) (469762047 : Int32))) 1))]))
          refine Go.step (fun t k => XS.iload X75.here hx rfl (hb hby at_150) rfl k) ?_
          show Go p e below _ (T75.setTop (mkF m 152 #[.val (.int p1), .val (.int p2), .val (.int p3), .val (.int p4), .val (.int p5), .val (.int p6), .val (.int (2 : Int32)), .val (.int (469762049 : Int32)), .val (.ref b58), .val (.ref b59), .val (.ref b60), .val (.int v62), .val (.int v63), .val (.int v64), .val (.int v65), .val (.ref b66), .val (.ref b70)] [(.int v65), (.int v64), (.int ((upA (upA (upA (upA (upA (fun _ => (0 : Int32)) 0 v62) 1 v64) 2 p6) 0 (mpF ((upA (upA (upA (fun _ => (0 : Int32)) 0 v62) 1 v64) 2 p6) 0) ((upA (upA (upA (fun _ => (0 : Int32)) 0 v63) 1 v65) 2 p6) 0) (469762049 : Int32) (469762047 : Int32))) 1 (mpF ((upA (upA (upA (fun _ => (0 : Int32)) 0 v62) 1 v64) 2 p6) 1) ((upA (upA (upA (fun _ => (0 : Int32)) 0 v63) 1 v65) 2 p6) 1) (469762049 : Int32) (469762047 : Int32))) 1))]))
          refine Go.step (fun t k => XS.iload X75.here hx rfl (hb hby at_152) rfl k) ?_
          show Go p e below _ (T75.setTop (mkF m 154 #[.val (.int p1), .val (.int p2), .val (.int p3), .val (.int p4), .val (.int p5), .val (.int p6), .val (.int (2 : Int32)), .val (.int (469762049 : Int32)), .val (.ref b58), .val (.ref b59), .val (.ref b60), .val (.int v62), .val (.int v63), .val (.int v64), .val (.int v65), .val (.ref b66), .val (.ref b70)] [(.int (469762049 : Int32)), (.int v65), (.int v64), (.int ((upA (upA (upA (upA (upA (fun _ => (0 : Int32)) 0 v62) 1 v64) 2 p6) 0 (mpF ((upA (upA (upA (fun _ => (0 : Int32)) 0 v62) 1 v64) 2 p6) 0) ((upA (upA (upA (fun _ => (0 : Int32)) 0 v63) 1 v65) 2 p6) 0) (469762049 : Int32) (469762047 : Int32))) 1 (mpF ((upA (upA (upA (fun _ => (0 : Int32)) 0 v62) 1 v64) 2 p6) 1) ((upA (upA (upA (fun _ => (0 : Int32)) 0 v63) 1 v65) 2 p6) 1) (469762049 : Int32) (469762047 : Int32))) 1))]))
          obtain ⟨_, _, ⟨T77, L77, k77, n77⟩, -, X77, ⟨Lc77, hQ77, l77, y77, z77⟩, st77⟩ := Jvm.LawKit.callS X75 hx (y := (⟨"com/example/tinwire/tinwire/json/TransformMultiplyPointwisePinLaw", "ok", "(IIII)Z"⟩ : MethodName)) hown (mvT hZ (hw _ (List.mem_of_getElem? (i := 48) rfl))) (mvT hZ (hw _ (List.mem_of_getElem? (i := 49) rfl))) (mvT hZ (hw _ (List.mem_of_getElem? (i := 50) rfl))) (mvT hZ (hw _ (List.mem_of_getElem? (i := 51) rfl))) (by decide) (backOf (W := 0) (rm6 l Z a0 hw [] ((upA (upA (upA (upA (upA (fun _ => (0 : Int32)) 0 v62) 1 v64) 2 p6) 0 (mpF ((upA (upA (upA (fun _ => (0 : Int32)) 0 v62) 1 v64) 2 p6) 0) ((upA (upA (upA (fun _ => (0 : Int32)) 0 v63) 1 v65) 2 p6) 0) (469762049 : Int32) (469762047 : Int32))) 1 (mpF ((upA (upA (upA (fun _ => (0 : Int32)) 0 v62) 1 v64) 2 p6) 1) ((upA (upA (upA (fun _ => (0 : Int32)) 0 v63) 1 v65) 2 p6) 1) (469762049 : Int32) (469762047 : Int32))) 1) v64 v65 (469762049 : Int32) T74.heap n0 Z74 ((by decide) : ¬ (((469762049 : Int32).toInt64) = (0 : Int64))) ((by decide) : ¬ (((469762049 : Int32).toInt64) = (0 : Int64)))) hZ (hw _ (List.mem_of_getElem? (i := 51) rfl)) (hw _ (List.mem_of_getElem? (i := 50) rfl)) (by decide) (by decide)) (g := (mkF m 154 #[.val (.int p1), .val (.int p2), .val (.int p3), .val (.int p4), .val (.int p5), .val (.int p6), .val (.int (2 : Int32)), .val (.int (469762049 : Int32)), .val (.ref b58), .val (.ref b59), .val (.ref b60), .val (.int v62), .val (.int v63), .val (.int v64), .val (.int v65), .val (.ref b66), .val (.ref b70)] [(.int (469762049 : Int32)), (.int v65), (.int v64), (.int ((upA (upA (upA (upA (upA (fun _ => (0 : Int32)) 0 v62) 1 v64) 2 p6) 0 (mpF ((upA (upA (upA (fun _ => (0 : Int32)) 0 v62) 1 v64) 2 p6) 0) ((upA (upA (upA (fun _ => (0 : Int32)) 0 v63) 1 v65) 2 p6) 0) (469762049 : Int32) (469762047 : Int32))) 1 (mpF ((upA (upA (upA (fun _ => (0 : Int32)) 0 v62) 1 v64) 2 p6) 1) ((upA (upA (upA (fun _ => (0 : Int32)) 0 v63) 1 v65) 2 p6) 1) (469762049 : Int32) (469762047 : Int32))) 1))])) rfl (by rw [hml]; rfl) (argsL := [(.int ((upA (upA (upA (upA (upA (fun _ => (0 : Int32)) 0 v62) 1 v64) 2 p6) 0 (mpF ((upA (upA (upA (fun _ => (0 : Int32)) 0 v62) 1 v64) 2 p6) 0) ((upA (upA (upA (fun _ => (0 : Int32)) 0 v63) 1 v65) 2 p6) 0) (469762049 : Int32) (469762047 : Int32))) 1 (mpF ((upA (upA (upA (fun _ => (0 : Int32)) 0 v62) 1 v64) 2 p6) 1) ((upA (upA (upA (fun _ => (0 : Int32)) 0 v63) 1 v65) 2 p6) 1) (469762049 : Int32) (469762047 : Int32))) 1)), (.int v64), (.int v65), (.int (469762049 : Int32))]) (rest := []) (lenOf pd_4 rfl) rfl (by show 2 * 0 + _ ≤ _; exact Nat.le_of_eq rfl) (hb hby at_154) (fun _ _ => ⟨rfl, e75, (by decide : 5 + 0 ≤ _), (by decide : 17 + 0 ≤ _)⟩)
          dsimp only [Pt.U, Pt.locs, Pt.cells, Pt.slots] at X77 l77 y77 z77 st77 hQ77
          subst l77 y77 z77
          obtain ⟨rfl, N77q, e77⟩ := hQ77
          have N77 := Fr.app N75 N77q
          refine Go.step st77 ?_
          show Go p e below _ (T77.setTop (mkF m 157 #[.val (.int p1), .val (.int p2), .val (.int p3), .val (.int p4), .val (.int p5), .val (.int p6), .val (.int (2 : Int32)), .val (.int (469762049 : Int32)), .val (.ref b58), .val (.ref b59), .val (.ref b60), .val (.int v62), .val (.int v63), .val (.int v64), .val (.int v65), .val (.ref b66), .val (.ref b70)] [(.int (f6 ((upA (upA (upA (upA (upA (fun _ => (0 : Int32)) 0 v62) 1 v64) 2 p6) 0 (mpF ((upA (upA (upA (fun _ => (0 : Int32)) 0 v62) 1 v64) 2 p6) 0) ((upA (upA (upA (fun _ => (0 : Int32)) 0 v63) 1 v65) 2 p6) 0) (469762049 : Int32) (469762047 : Int32))) 1 (mpF ((upA (upA (upA (fun _ => (0 : Int32)) 0 v62) 1 v64) 2 p6) 1) ((upA (upA (upA (fun _ => (0 : Int32)) 0 v63) 1 v65) 2 p6) 1) (469762049 : Int32) (469762047 : Int32))) 1) v64 v65 (469762049 : Int32)))]))
          by_cases hc78 : (f6 ((upA (upA (upA (upA (upA (fun _ => (0 : Int32)) 0 v62) 1 v64) 2 p6) 0 (mpF ((upA (upA (upA (fun _ => (0 : Int32)) 0 v62) 1 v64) 2 p6) 0) ((upA (upA (upA (fun _ => (0 : Int32)) 0 v63) 1 v65) 2 p6) 0) (469762049 : Int32) (469762047 : Int32))) 1 (mpF ((upA (upA (upA (fun _ => (0 : Int32)) 0 v62) 1 v64) 2 p6) 1) ((upA (upA (upA (fun _ => (0 : Int32)) 0 v63) 1 v65) 2 p6) 1) (469762049 : Int32) (469762047 : Int32))) 1) v64 v65 (469762049 : Int32)) = (0 : Int32)
          · refine Go.step (fun t k => XS.ifYes X77.here hx rfl (pc0 := 157) (pc' := 200) rfl (hb hby at_157) rfl ((if0 _ _).trans (teq hc78).1) (by decide) (by decide) k) ?_
            show Go p e below _ (T77.setTop (mkF m 200 #[.val (.int p1), .val (.int p2), .val (.int p3), .val (.int p4), .val (.int p5), .val (.int p6), .val (.int (2 : Int32)), .val (.int (469762049 : Int32)), .val (.ref b58), .val (.ref b59), .val (.ref b60), .val (.int v62), .val (.int v63), .val (.int v64), .val (.int v65), .val (.ref b66), .val (.ref b70)] []))
            refine Go.step (fun t k => XS.iconst X77.here hx rfl (hb hby at_200)  k) ?_
            show Go p e below _ (T77.setTop (mkF m 201 #[.val (.int p1), .val (.int p2), .val (.int p3), .val (.int p4), .val (.int p5), .val (.int p6), .val (.int (2 : Int32)), .val (.int (469762049 : Int32)), .val (.ref b58), .val (.ref b59), .val (.ref b60), .val (.int v62), .val (.int v63), .val (.int v64), .val (.int v65), .val (.ref b66), .val (.ref b70)] [(.int (0 : Int32))]))
            subst hv65
            subst hv64
            subst hv63
            subst hv62
            subst hv7
            exact retGN X77 hx Bd.notSynchronized Bd.returns (t := .boolean) (by simp) (z' := (0 : Int32)) rfl (hb hby at_201) ⟨by first | (simp only [f0, if_neg hc8, if_neg hc32, if_pos hc56, if_neg hc76, if_pos hc78]; done) | rfl | (simp [f0, if_neg hc8, if_neg hc32, if_pos hc56, if_neg hc76, if_pos hc78]; done), N77⟩ (by decide) (by decide)
          · refine Go.step (fun t k => XS.ifNo X77.here hx rfl (hb hby at_157) rfl ((if0 _ _).trans (feq hc78).1) k) ?_
            show Go p e below _ (T77.setTop (mkF m 160 #[.val (.int p1), .val (.int p2), .val (.int p3), .val (.int p4), .val (.int p5), .val (.int p6), .val (.int (2 : Int32)), .val (.int (469762049 : Int32)), .val (.ref b58), .val (.ref b59), .val (.ref b60), .val (.int v62), .val (.int v63), .val (.int v64), .val (.int v65), .val (.ref b66), .val (.ref b70)] []))
            refine Go.step (fun t k => XS.aload X77.here hx rfl (hb hby at_160) rfl rfl k) ?_
            show Go p e below _ (T77.setTop (mkF m 162 #[.val (.int p1), .val (.int p2), .val (.int p3), .val (.int p4), .val (.int p5), .val (.int p6), .val (.int (2 : Int32)), .val (.int (469762049 : Int32)), .val (.ref b58), .val (.ref b59), .val (.ref b60), .val (.int v62), .val (.int v63), .val (.int v64), .val (.int v65), .val (.ref b66), .val (.ref b70)] [(.ref b66)]))
            refine Go.step (fun t k => XS.iconst X77.here hx rfl (hb hby at_162)  k) ?_
            show Go p e below _ (T77.setTop (mkF m 163 #[.val (.int p1), .val (.int p2), .val (.int p3), .val (.int p4), .val (.int p5), .val (.int p6), .val (.int (2 : Int32)), .val (.int (469762049 : Int32)), .val (.ref b58), .val (.ref b59), .val (.ref b60), .val (.int v62), .val (.int v63), .val (.int v64), .val (.int v65), .val (.ref b66), .val (.ref b70)] [(.int (2 : Int32)), (.ref b66)]))
            refine Go.step (ldI X77 hx hZ e77 Q74_0 (j := (2 : Int32)) (by decide) (by decide) (g := (mkF m 163 #[.val (.int p1), .val (.int p2), .val (.int p3), .val (.int p4), .val (.int p5), .val (.int p6), .val (.int (2 : Int32)), .val (.int (469762049 : Int32)), .val (.ref b58), .val (.ref b59), .val (.ref b60), .val (.int v62), .val (.int v63), .val (.int v64), .val (.int v65), .val (.ref b66), .val (.ref b70)] [(.int (2 : Int32)), (.ref b66)])) rfl rfl (hb hby at_163)) ?_
            show Go p e below _ (T77.setTop (mkF m 164 #[.val (.int p1), .val (.int p2), .val (.int p3), .val (.int p4), .val (.int p5), .val (.int p6), .val (.int (2 : Int32)), .val (.int (469762049 : Int32)), .val (.ref b58), .val (.ref b59), .val (.ref b60), .val (.int v62), .val (.int v63), .val (.int v64), .val (.int v65), .val (.ref b66), .val (.ref b70)] [(.int ((upA (upA (upA (upA (upA (fun _ => (0 : Int32)) 0 v62) 1 v64) 2 p6) 0 (mpF ((upA (upA (upA (fun _ => (0 : Int32)) 0 v62) 1 v64) 2 p6) 0) ((upA (upA (upA (fun _ => (0 : Int32)) 0 v63) 1 v65) 2 p6) 0) (469762049 : Int32) (469762047 : Int32))) 1 (mpF ((upA (upA (upA (fun _ => (0 : Int32)) 0 v62) 1 v64) 2 p6) 1) ((upA (upA (upA (fun _ => (0 : Int32)) 0 v63) 1 v65) 2 p6) 1) (469762049 : Int32) (469762047 : Int32))) 2))]))
            refine Go.step (fun t k => XS.iload X77.here hx rfl (hb hby at_164) rfl k) ?_
            show Go p e below _ (T77.setTop (mkF m 166 #[.val (.int p1), .val (.int p2), .val (.int p3), .val (.int p4), .val (.int p5), .val (.int p6), .val (.int (2 : Int32)), .val (.int (469762049 : Int32)), .val (.ref b58), .val (.ref b59), .val (.ref b60), .val (.int v62), .val (.int v63), .val (.int v64), .val (.int v65), .val (.ref b66), .val (.ref b70)] [(.int p6), (.int ((upA (upA (upA (upA (upA (fun _ => (0 : Int32)) 0 v62) 1 v64) 2 p6) 0 (mpF ((upA (upA (upA (fun _ => (0 : Int32)) 0 v62) 1 v64) 2 p6) 0) ((upA (upA (upA (fun _ => (0 : Int32)) 0 v63) 1 v65) 2 p6) 0) (469762049 : Int32) (469762047 : Int32))) 1 (mpF ((upA (upA (upA (fun _ => (0 : Int32)) 0 v62) 1 v64) 2 p6) 1) ((upA (upA (upA (fun _ => (0 : Int32)) 0 v63) 1 v65) 2 p6) 1) (469762049 : Int32) (469762047 : Int32))) 2))]))
            by_cases hc79 : ((upA (upA (upA (upA (upA (fun _ => (0 : Int32)) 0 v62) 1 v64) 2 p6) 0 (mpF ((upA (upA (upA (fun _ => (0 : Int32)) 0 v62) 1 v64) 2 p6) 0) ((upA (upA (upA (fun _ => (0 : Int32)) 0 v63) 1 v65) 2 p6) 0) (469762049 : Int32) (469762047 : Int32))) 1 (mpF ((upA (upA (upA (fun _ => (0 : Int32)) 0 v62) 1 v64) 2 p6) 1) ((upA (upA (upA (fun _ => (0 : Int32)) 0 v63) 1 v65) 2 p6) 1) (469762049 : Int32) (469762047 : Int32))) 2) = p6
            · refine Go.step (fun t k => XS.icmpNo X77.here hx rfl (hb hby at_166) rfl (teq hc79).2 k) ?_
              show Go p e below _ (T77.setTop (mkF m 169 #[.val (.int p1), .val (.int p2), .val (.int p3), .val (.int p4), .val (.int p5), .val (.int p6), .val (.int (2 : Int32)), .val (.int (469762049 : Int32)), .val (.ref b58), .val (.ref b59), .val (.ref b60), .val (.int v62), .val (.int v63), .val (.int v64), .val (.int v65), .val (.ref b66), .val (.ref b70)] []))
              refine Go.step (fun t k => XS.aload X77.here hx rfl (hb hby at_169) rfl rfl k) ?_
              show Go p e below _ (T77.setTop (mkF m 171 #[.val (.int p1), .val (.int p2), .val (.int p3), .val (.int p4), .val (.int p5), .val (.int p6), .val (.int (2 : Int32)), .val (.int (469762049 : Int32)), .val (.ref b58), .val (.ref b59), .val (.ref b60), .val (.int v62), .val (.int v63), .val (.int v64), .val (.int v65), .val (.ref b66), .val (.ref b70)] [(.ref b70)]))
              refine Go.step (fun t k => XS.iconst X77.here hx rfl (hb hby at_171)  k) ?_
              show Go p e below _ (T77.setTop (mkF m 172 #[.val (.int p1), .val (.int p2), .val (.int p3), .val (.int p4), .val (.int p5), .val (.int p6), .val (.int (2 : Int32)), .val (.int (469762049 : Int32)), .val (.ref b58), .val (.ref b59), .val (.ref b60), .val (.int v62), .val (.int v63), .val (.int v64), .val (.int v65), .val (.ref b66), .val (.ref b70)] [(.int (0 : Int32)), (.ref b70)]))
              refine Go.step (ldI X77 hx hZ e77 A_b70_74 (j := (0 : Int32)) (by decide) (by decide) (g := (mkF m 172 #[.val (.int p1), .val (.int p2), .val (.int p3), .val (.int p4), .val (.int p5), .val (.int p6), .val (.int (2 : Int32)), .val (.int (469762049 : Int32)), .val (.ref b58), .val (.ref b59), .val (.ref b60), .val (.int v62), .val (.int v63), .val (.int v64), .val (.int v65), .val (.ref b66), .val (.ref b70)] [(.int (0 : Int32)), (.ref b70)])) rfl rfl (hb hby at_172)) ?_
              show Go p e below _ (T77.setTop (mkF m 173 #[.val (.int p1), .val (.int p2), .val (.int p3), .val (.int p4), .val (.int p5), .val (.int p6), .val (.int (2 : Int32)), .val (.int (469762049 : Int32)), .val (.ref b58), .val (.ref b59), .val (.ref b60), .val (.int v62), .val (.int v63), .val (.int v64), .val (.int v65), .val (.ref b66), .val (.ref b70)] [(.int v63)]))
              refine Go.step (fun t k => XS.iload X77.here hx rfl (hb hby at_173) rfl k) ?_
              show Go p e below _ (T77.setTop (mkF m 175 #[.val (.int p1), .val (.int p2), .val (.int p3), .val (.int p4), .val (.int p5), .val (.int p6), .val (.int (2 : Int32)), .val (.int (469762049 : Int32)), .val (.ref b58), .val (.ref b59), .val (.ref b60), .val (.int v62), .val (.int v63), .val (.int v64), .val (.int v65), .val (.ref b66), .val (.ref b70)] [(.int v63), (.int v63)]))
              refine Go.step (fun t k => XS.icmpNo X77.here hx rfl (hb hby at_175) rfl (teq (rfl : v63 = v63)).2 k) ?_
              show Go p e below _ (T77.setTop (mkF m 178 #[.val (.int p1), .val (.int p2), .val (.int p3), .val (.int p4), .val (.int p5), .val (.int p6), .val (.int (2 : Int32)), .val (.int (469762049 : Int32)), .val (.ref b58), .val (.ref b59), .val (.ref b60), .val (.int v62), .val (.int v63), .val (.int v64), .val (.int v65), .val (.ref b66), .val (.ref b70)] []))
              refine Go.step (fun t k => XS.aload X77.here hx rfl (hb hby at_178) rfl rfl k) ?_
              show Go p e below _ (T77.setTop (mkF m 180 #[.val (.int p1), .val (.int p2), .val (.int p3), .val (.int p4), .val (.int p5), .val (.int p6), .val (.int (2 : Int32)), .val (.int (469762049 : Int32)), .val (.ref b58), .val (.ref b59), .val (.ref b60), .val (.int v62), .val (.int v63), .val (.int v64), .val (.int v65), .val (.ref b66), .val (.ref b70)] [(.ref b70)]))
              refine Go.step (fun t k => XS.iconst X77.here hx rfl (hb hby at_180)  k) ?_
              show Go p e below _ (T77.setTop (mkF m 181 #[.val (.int p1), .val (.int p2), .val (.int p3), .val (.int p4), .val (.int p5), .val (.int p6), .val (.int (2 : Int32)), .val (.int (469762049 : Int32)), .val (.ref b58), .val (.ref b59), .val (.ref b60), .val (.int v62), .val (.int v63), .val (.int v64), .val (.int v65), .val (.ref b66), .val (.ref b70)] [(.int (1 : Int32)), (.ref b70)]))
              refine Go.step (ldI X77 hx hZ e77 A_b70_74 (j := (1 : Int32)) (by decide) (by decide) (g := (mkF m 181 #[.val (.int p1), .val (.int p2), .val (.int p3), .val (.int p4), .val (.int p5), .val (.int p6), .val (.int (2 : Int32)), .val (.int (469762049 : Int32)), .val (.ref b58), .val (.ref b59), .val (.ref b60), .val (.int v62), .val (.int v63), .val (.int v64), .val (.int v65), .val (.ref b66), .val (.ref b70)] [(.int (1 : Int32)), (.ref b70)])) rfl rfl (hb hby at_181)) ?_
              show Go p e below _ (T77.setTop (mkF m 182 #[.val (.int p1), .val (.int p2), .val (.int p3), .val (.int p4), .val (.int p5), .val (.int p6), .val (.int (2 : Int32)), .val (.int (469762049 : Int32)), .val (.ref b58), .val (.ref b59), .val (.ref b60), .val (.int v62), .val (.int v63), .val (.int v64), .val (.int v65), .val (.ref b66), .val (.ref b70)] [(.int v65)]))
              refine Go.step (fun t k => XS.iload X77.here hx rfl (hb hby at_182) rfl k) ?_
              show Go p e below _ (T77.setTop (mkF m 184 #[.val (.int p1), .val (.int p2), .val (.int p3), .val (.int p4), .val (.int p5), .val (.int p6), .val (.int (2 : Int32)), .val (.int (469762049 : Int32)), .val (.ref b58), .val (.ref b59), .val (.ref b60), .val (.int v62), .val (.int v63), .val (.int v64), .val (.int v65), .val (.ref b66), .val (.ref b70)] [(.int v65), (.int v65)]))
              refine Go.step (fun t k => XS.icmpNo X77.here hx rfl (hb hby at_184) rfl (teq (rfl : v65 = v65)).2 k) ?_
              show Go p e below _ (T77.setTop (mkF m 187 #[.val (.int p1), .val (.int p2), .val (.int p3), .val (.int p4), .val (.int p5), .val (.int p6), .val (.int (2 : Int32)), .val (.int (469762049 : Int32)), .val (.ref b58), .val (.ref b59), .val (.ref b60), .val (.int v62), .val (.int v63), .val (.int v64), .val (.int v65), .val (.ref b66), .val (.ref b70)] []))
              refine Go.step (fun t k => XS.aload X77.here hx rfl (hb hby at_187) rfl rfl k) ?_
              show Go p e below _ (T77.setTop (mkF m 189 #[.val (.int p1), .val (.int p2), .val (.int p3), .val (.int p4), .val (.int p5), .val (.int p6), .val (.int (2 : Int32)), .val (.int (469762049 : Int32)), .val (.ref b58), .val (.ref b59), .val (.ref b60), .val (.int v62), .val (.int v63), .val (.int v64), .val (.int v65), .val (.ref b66), .val (.ref b70)] [(.ref b70)]))
              refine Go.step (fun t k => XS.iconst X77.here hx rfl (hb hby at_189)  k) ?_
              show Go p e below _ (T77.setTop (mkF m 190 #[.val (.int p1), .val (.int p2), .val (.int p3), .val (.int p4), .val (.int p5), .val (.int p6), .val (.int (2 : Int32)), .val (.int (469762049 : Int32)), .val (.ref b58), .val (.ref b59), .val (.ref b60), .val (.int v62), .val (.int v63), .val (.int v64), .val (.int v65), .val (.ref b66), .val (.ref b70)] [(.int (2 : Int32)), (.ref b70)]))
              refine Go.step (ldI X77 hx hZ e77 A_b70_74 (j := (2 : Int32)) (by decide) (by decide) (g := (mkF m 190 #[.val (.int p1), .val (.int p2), .val (.int p3), .val (.int p4), .val (.int p5), .val (.int p6), .val (.int (2 : Int32)), .val (.int (469762049 : Int32)), .val (.ref b58), .val (.ref b59), .val (.ref b60), .val (.int v62), .val (.int v63), .val (.int v64), .val (.int v65), .val (.ref b66), .val (.ref b70)] [(.int (2 : Int32)), (.ref b70)])) rfl rfl (hb hby at_190)) ?_
              show Go p e below _ (T77.setTop (mkF m 191 #[.val (.int p1), .val (.int p2), .val (.int p3), .val (.int p4), .val (.int p5), .val (.int p6), .val (.int (2 : Int32)), .val (.int (469762049 : Int32)), .val (.ref b58), .val (.ref b59), .val (.ref b60), .val (.int v62), .val (.int v63), .val (.int v64), .val (.int v65), .val (.ref b66), .val (.ref b70)] [(.int p6)]))
              refine Go.step (fun t k => XS.iload X77.here hx rfl (hb hby at_191) rfl k) ?_
              show Go p e below _ (T77.setTop (mkF m 193 #[.val (.int p1), .val (.int p2), .val (.int p3), .val (.int p4), .val (.int p5), .val (.int p6), .val (.int (2 : Int32)), .val (.int (469762049 : Int32)), .val (.ref b58), .val (.ref b59), .val (.ref b60), .val (.int v62), .val (.int v63), .val (.int v64), .val (.int v65), .val (.ref b66), .val (.ref b70)] [(.int p6), (.int p6)]))
              refine Go.step (fun t k => XS.icmpNo X77.here hx rfl (hb hby at_193) rfl (teq (rfl : p6 = p6)).2 k) ?_
              show Go p e below _ (T77.setTop (mkF m 196 #[.val (.int p1), .val (.int p2), .val (.int p3), .val (.int p4), .val (.int p5), .val (.int p6), .val (.int (2 : Int32)), .val (.int (469762049 : Int32)), .val (.ref b58), .val (.ref b59), .val (.ref b60), .val (.int v62), .val (.int v63), .val (.int v64), .val (.int v65), .val (.ref b66), .val (.ref b70)] []))
              refine Go.step (fun t k => XS.iconst X77.here hx rfl (hb hby at_196)  k) ?_
              show Go p e below _ (T77.setTop (mkF m 197 #[.val (.int p1), .val (.int p2), .val (.int p3), .val (.int p4), .val (.int p5), .val (.int p6), .val (.int (2 : Int32)), .val (.int (469762049 : Int32)), .val (.ref b58), .val (.ref b59), .val (.ref b60), .val (.int v62), .val (.int v63), .val (.int v64), .val (.int v65), .val (.ref b66), .val (.ref b70)] [(.int (1 : Int32))]))
              refine Go.step (fun t k => XS.goto X77.here hx rfl (pc0 := 197) (pc' := 201) rfl (hb hby at_197) (by decide) (by decide) k) ?_
              show Go p e below _ (T77.setTop (mkF m 201 #[.val (.int p1), .val (.int p2), .val (.int p3), .val (.int p4), .val (.int p5), .val (.int p6), .val (.int (2 : Int32)), .val (.int (469762049 : Int32)), .val (.ref b58), .val (.ref b59), .val (.ref b60), .val (.int v62), .val (.int v63), .val (.int v64), .val (.int v65), .val (.ref b66), .val (.ref b70)] [(.int (1 : Int32))]))
              subst hv65
              subst hv64
              subst hv63
              subst hv62
              subst hv7
              exact retGN X77 hx Bd.notSynchronized Bd.returns (t := .boolean) (by simp) (z' := (1 : Int32)) rfl (hb hby at_201) ⟨by first | (simp only [f0, if_neg hc8, if_neg hc32, if_pos hc56, if_neg hc76, if_neg hc78, if_pos hc79]; done) | rfl | (simp [f0, if_neg hc8, if_neg hc32, if_pos hc56, if_neg hc76, if_neg hc78, if_pos hc79]; done), N77⟩ (by decide) (by decide)
            · refine Go.step (fun t k => XS.icmpYes X77.here hx rfl (pc0 := 166) (pc' := 200) rfl (hb hby at_166) rfl (feq hc79).2 (by decide) (by decide) k) ?_
              show Go p e below _ (T77.setTop (mkF m 200 #[.val (.int p1), .val (.int p2), .val (.int p3), .val (.int p4), .val (.int p5), .val (.int p6), .val (.int (2 : Int32)), .val (.int (469762049 : Int32)), .val (.ref b58), .val (.ref b59), .val (.ref b60), .val (.int v62), .val (.int v63), .val (.int v64), .val (.int v65), .val (.ref b66), .val (.ref b70)] []))
              refine Go.step (fun t k => XS.iconst X77.here hx rfl (hb hby at_200)  k) ?_
              show Go p e below _ (T77.setTop (mkF m 201 #[.val (.int p1), .val (.int p2), .val (.int p3), .val (.int p4), .val (.int p5), .val (.int p6), .val (.int (2 : Int32)), .val (.int (469762049 : Int32)), .val (.ref b58), .val (.ref b59), .val (.ref b60), .val (.int v62), .val (.int v63), .val (.int v64), .val (.int v65), .val (.ref b66), .val (.ref b70)] [(.int (0 : Int32))]))
              subst hv65
              subst hv64
              subst hv63
              subst hv62
              subst hv7
              exact retGN X77 hx Bd.notSynchronized Bd.returns (t := .boolean) (by simp) (z' := (0 : Int32)) rfl (hb hby at_201) ⟨by first | (simp only [f0, if_neg hc8, if_neg hc32, if_pos hc56, if_neg hc76, if_neg hc78, if_neg hc79]; done) | rfl | (simp [f0, if_neg hc8, if_neg hc32, if_pos hc56, if_neg hc76, if_neg hc78, if_neg hc79]; done), N77⟩ (by decide) (by decide)
      · skip
        exfalso
        exact own_dead _ _ hv7 (by assumption) (by assumption) (by assumption)
theorem own_ni (z : Int) (m ni p : Int) (hm : (m - z * ni) % 4294967296 = 0) (hn : (p * ni + 1) % 4294967296 = 0) : (z + m * p) % 4294967296 = 0 := by
  obtain ⟨k, hk⟩ : ∃ k, m = z * ni + 4294967296 * k := ⟨(m - z * ni) / 4294967296, by omega⟩
  obtain ⟨j, hj⟩ : ∃ j, p * ni = 4294967296 * j - 1 := ⟨(p * ni + 1) / 4294967296, by omega⟩
  have e : z + m * p = 4294967296 * (z * j + k * p) := by
    rw [hk, Int.add_mul, Int.mul_assoc z ni p, Int.mul_comm ni p, hj, Int.mul_sub, Int.mul_one, Int.mul_add, Int.mul_assoc 4294967296 k p, Int.mul_left_comm z 4294967296 j]
    omega
  rw [e]; omega
theorem own_mp (v f p ni : Int32) (hv : 0 ≤ v.toInt ∧ v.toInt < p.toInt) (hf : 0 ≤ f.toInt ∧ f.toInt < p.toInt) (hp : 1 ≤ p.toInt) (hn : (p.toInt * ni.toInt + 1) % 4294967296 = 0) :
    ∃ c, 0 ≤ (mpF v f p ni).toInt ∧ (mpF v f p ni).toInt < p.toInt ∧ (mpF v f p ni).toInt * 4294967296 = v.toInt * f.toInt + c * p.toInt := by
  have rp := rng32 p
  have tb0 : 0 ≤ v.toInt * f.toInt := Int.mul_nonneg hv.1 hf.1
  have tb1 : v.toInt * f.toInt ≤ 2147483646 * 2147483646 := Int.mul_le_mul (by omega) (by omega) hf.1 (by decide)
  have tb2 : v.toInt * f.toInt ≤ p.toInt * p.toInt := Int.mul_le_mul (by omega) (by omega) hf.1 (by omega)
  have pb : p.toInt * p.toInt ≤ 2147483647 * p.toInt := Int.mul_le_mul_of_nonneg_right (by omega) (by omega)
  have i1 := c_i2l v
  have i2 := c_i2l f
  have i3 := c_i2l p
  have t : (v.toInt64 * f.toInt64).toInt = v.toInt * f.toInt := by rw [mulL] <;> rw [i1, i2] <;> omega
  unfold mpF
  generalize v.toInt64 * f.toInt64 = tt at *
  have t32 := c_l2i tt
  have m1 := c_imul tt.toInt32 ni
  have m2 := c_maskL (tt.toInt32 * ni).toInt64 4294967295 32 (by decide) (by decide)
  rw [c_i2l, show ((2 ^ 32 : Nat) : Int) = 4294967296 by decide] at m2
  have j1 : ((tt.toInt32 * ni).toInt - v.toInt * f.toInt * ni.toInt) % 4294967296 = 0 := by
    have : (tt.toInt32.toInt * ni.toInt - v.toInt * f.toInt * ni.toInt) % 4294967296 = 0 := by
      rw [← Int.sub_mul]
      have : tt.toInt32.toInt - v.toInt * f.toInt = 4294967296 * ((tt.toInt32.toInt - v.toInt * f.toInt) / 4294967296) := by omega
      rw [this, Int.mul_assoc]; omega
    omega
  generalize tt.toInt32 * ni = mi at *
  generalize mi.toInt64 &&& (4294967295 : Int64) = m at *
  have mb : 0 ≤ m.toInt ∧ m.toInt ≤ 4294967295 := by omega
  have z := own_ni (v.toInt * f.toInt) m.toInt ni.toInt p.toInt (by omega) hn
  have mp0 : 0 ≤ m.toInt * p.toInt := Int.mul_nonneg mb.1 (by omega)
  have mp1 : m.toInt * p.toInt ≤ 4294967295 * p.toInt := Int.mul_le_mul_of_nonneg_right mb.2 (by omega)
  have k1 : (m * p.toInt64).toInt = m.toInt * p.toInt := by rw [mulL] <;> rw [i3] <;> omega
  have k2 := c_ladd tt (m * p.toInt64)
  have k3 := c_lushr (tt + m * p.toInt64) 32 32 (by decide) (by decide)
  rw [show ((2 ^ 32 : Nat) : Int) = 4294967296 by decide] at k3
  rw [k1, t] at k2
  generalize tt + m * p.toInt64 = s at *
  have u : ((s.toUInt64 >>> ((32 : Int32) &&& 0x3f).toInt64.toUInt64).toInt64).toInt * 4294967296 = v.toInt * f.toInt + m.toInt * p.toInt := by rw [k3]; omega
  have k4 := c_l2i ((s.toUInt64 >>> ((32 : Int32) &&& 0x3f).toInt64.toUInt64).toInt64)
  generalize (s.toUInt64 >>> ((32 : Int32) &&& 0x3f).toInt64.toUInt64).toInt64 = w at *
  have k5 := c_isub w.toInt32 p
  have r5 := rng32 (w.toInt32 - p)
  have wb : 0 ≤ w.toInt ∧ w.toInt < 2 * p.toInt := by
    constructor
    · omega
    · generalize v.toInt * f.toInt = a at *
      generalize m.toInt * p.toInt = b at *
      generalize p.toInt * p.toInt = cc at *
      omega
  have d : (w.toInt32 - p).toInt = w.toInt - p.toInt := by omega
  generalize w.toInt32 - p = q at *
  have sh := c_ishr q 31 31 (by decide)
  by_cases hneg : q.toInt < 0
  · have e1 : q >>> ((31 : Int32) &&& 31) = -1 := by
      apply Int32.toInt_inj.mp
      rw [sh, show (-1 : Int32).toInt = -1 by decide]; have := rng32 q; omega
    rw [e1, Int32.neg_one_and]
    have e2 : (q + p).toInt = w.toInt := by rw [addI] <;> omega
    exact ⟨m.toInt, by omega, by omega, by rw [e2]; exact u⟩
  · have e1 : q >>> ((31 : Int32) &&& 31) = 0 := by
      apply Int32.toInt_inj.mp
      rw [sh, show (0 : Int32).toInt = 0 by decide]; have := rng32 q; omega
    rw [e1, Int32.zero_and, Int32.add_zero]
    refine ⟨m.toInt - 4294967296, by omega, by omega, ?_⟩
    rw [Int.sub_mul, d]
    generalize v.toInt * f.toInt = a at *
    generalize m.toInt * p.toInt = b at *
    omega
theorem own_ok (v f p ni : Int32) (hv : 0 ≤ v.toInt ∧ v.toInt < p.toInt) (hf : 0 ≤ f.toInt ∧ f.toInt < p.toInt) (hp : 1 ≤ p.toInt) (hn : (p.toInt * ni.toInt + 1) % 4294967296 = 0) : f6 (mpF v f p ni) v f p = 1 := by
  obtain ⟨c, h0, h1, h2⟩ := own_mp v f p ni hv hf hp hn
  have rp := rng32 p
  generalize mpF v f p ni = r at *
  unfold f6
  rw [if_neg (by rw [Int32.lt_iff_toInt_lt, show (0 : Int32).toInt = 0 by decide]; omega), if_pos (by rw [Int32.lt_iff_toInt_lt]; exact h1), if_pos]
  apply Int64.toInt_inj.mp
  have s1 := c_lshl r.toInt64 32 32 (by decide)
  have s2 := rng64 (r.toInt64 <<< ((32 : Int32) &&& 0x3f).toInt64)
  have s3 : (r.toInt64 <<< ((32 : Int32) &&& 0x3f).toInt64).toInt = r.toInt * 4294967296 := by rw [c_i2l] at s1; omega
  have tb0 : 0 ≤ v.toInt * f.toInt := Int.mul_nonneg hv.1 hf.1
  have tb1 : v.toInt * f.toInt ≤ 2147483646 * 2147483646 := Int.mul_le_mul (by omega) (by omega) hf.1 (by decide)
  have t : (v.toInt64 * f.toInt64).toInt = v.toInt * f.toInt := by rw [mulL] <;> rw [c_i2l, c_i2l] <;> omega
  rw [modL p.toInt (c_i2l p) (by omega), modL p.toInt (c_i2l p) (by omega), s3, t, h2, Int.add_mul_emod_self_right]
theorem own_red (a p : Int32) (hp : 1 ≤ p.toInt) : 0 ≤ ((a &&& (2147483647 : Int32)) % p).toInt ∧ ((a &&& (2147483647 : Int32)) % p).toInt < p.toInt := by
  have h := c_and a 2147483647 (by decide)
  have m := modI (x := a &&& 2147483647) (y := p) p.toInt rfl h.1
  rw [m]
  exact ⟨Int.emod_nonneg _ (by omega), Int.emod_lt_of_pos _ (by omega)⟩
/-- what is left of the law where the prime is p -/
def bodyP (v0 f0' v1 f1' s p ni : Int32) : Int32 :=
  (if (f6 ((upA (upA (upA (upA (upA (fun _ => (0 : Int32)) 0 v0) 1 v1) 2 s) 0 (mpF v0 f0' p ni)) 1 (mpF v1 f1' p ni)) 0) v0 f0' p) = (0 : Int32) then (0 : Int32) else (if (f6 ((upA (upA (upA (upA (upA (fun _ => (0 : Int32)) 0 v0) 1 v1) 2 s) 0 (mpF v0 f0' p ni)) 1 (mpF v1 f1' p ni)) 1) v1 f1' p) = (0 : Int32) then (0 : Int32) else (if ((upA (upA (upA (upA (upA (fun _ => (0 : Int32)) 0 v0) 1 v1) 2 s) 0 (mpF v0 f0' p ni)) 1 (mpF v1 f1' p ni)) 2) = s then (1 : Int32) else (0 : Int32))))
theorem own_body (a b c d s p ni : Int32) (hp : 1 ≤ p.toInt) (hn : (p.toInt * ni.toInt + 1) % 4294967296 = 0) :
    bodyP ((a &&& (2147483647 : Int32)) % p) ((b &&& (2147483647 : Int32)) % p) ((c &&& (2147483647 : Int32)) % p) ((d &&& (2147483647 : Int32)) % p) s p ni = 1 := by
  have k1 := own_ok _ _ p ni (own_red a p hp) (own_red b p hp) hp hn
  have k2 := own_ok _ _ p ni (own_red c p hp) (own_red d p hp) hp hn
  generalize (a &&& (2147483647 : Int32)) % p = v0 at *
  generalize (b &&& (2147483647 : Int32)) % p = w0 at *
  generalize (c &&& (2147483647 : Int32)) % p = v1 at *
  generalize (d &&& (2147483647 : Int32)) % p = w1 at *
  have e0 : (upA (upA (upA (upA (upA (fun _ => (0 : Int32)) 0 v0) 1 v1) 2 s) 0 (mpF v0 w0 p ni)) 1 (mpF v1 w1 p ni)) 0 = mpF v0 w0 p ni := by simp [upA]
  have e1 : (upA (upA (upA (upA (upA (fun _ => (0 : Int32)) 0 v0) 1 v1) 2 s) 0 (mpF v0 w0 p ni)) 1 (mpF v1 w1 p ni)) 1 = mpF v1 w1 p ni := by simp [upA]
  have e2 : (upA (upA (upA (upA (upA (fun _ => (0 : Int32)) 0 v0) 1 v1) 2 s) 0 (mpF v0 w0 p ni)) 1 (mpF v1 w1 p ni)) 2 = s := by simp [upA]
  unfold bodyP
  rw [e0, e1, e2, k1, k2, if_neg (by decide), if_neg (by decide), if_pos rfl]
theorem law_true (w a b c d s : Int32) : f0 w a b c d s = 1 := by
  unfold f0
  by_cases h0 : (w &&& (2147483647 : Int32)) % (3 : Int32) = 0
  · rw [if_pos h0]
    exact own_body a b c d s 2013265921 2013265919 (by decide) (by decide)
  · rw [if_neg h0]
    by_cases h1 : (w &&& (2147483647 : Int32)) % (3 : Int32) = 1
    · rw [if_pos h1]
      exact own_body a b c d s 1811939329 1811939327 (by decide) (by decide)
    · rw [if_neg h1]
      exact own_body a b c d s 469762049 469762047 (by decide) (by decide)


theorem own_el {args : Array Value} {s : State} {t : Term} {x : Addr} {cl : Cell} {j : Int32} {v : Int32} (Ar : Arr s s.heap x cl .int) (ev : t.eval args s none [] s = some (.ref x)) (h : (Jvm.Cond.eq (Jvm.Term.elem t (Jvm.Term.int j)) (Jvm.Term.int v)).value args s none s [] = some true) : cl.slots[j.toNatClampNeg]? = some (.int v) := by
  obtain ⟨a, b, ha, hb, k1, k2⟩ := cmp_v (Or.inl h)
  have hb' : b = .int v := by simpa [Term.eval] using hb.symm
  subst hb'
  obtain ⟨z, rfl⟩ : ∃ z, a = .int z := k2
  have e := (elem_in ha ev (Term.int_eval j) Ar.1).2
  have : (Jvm.Cond.eq (Jvm.Term.elem t (Jvm.Term.int j)) (Jvm.Term.int v)).value args s none s [] = some (decide (z = v)) := by simp [Cond.value, ha, hb]
  have := gotT this h
  rw [e, this]
theorem own_len {args : Array Value} {s : State} {t : Term} {x : Addr} {cl : Cell} {ty : FieldType} {v : Int32} (Ar : Arr s s.heap x cl ty) (ev : t.eval args s none [] s = some (.ref x)) (h : (Jvm.Cond.eq (Jvm.Term.length t) (Jvm.Term.int v)).value args s none s [] = some true) (hv : 0 ≤ v.toInt) : cl.slots.size = v.toNatClampNeg := by
  obtain ⟨a, b, ha, hb, k1, k2⟩ := cmp_v (Or.inl h)
  have hat := Ar.fin (Vm.Alike.refl _)
  by_cases hl : cl.slots.size < 2 ^ 31
  · have e := len_f (idx := []) (first := s) (o := none) ev hat hl
    cases ha.symm.trans e
    have hb' : b = .int v := by simpa [Term.eval] using hb.symm
    subst hb'
    have q : (Jvm.Cond.eq (Jvm.Term.length t) (Jvm.Term.int v)).value args s none s [] = some (decide (cl.slots.size.toInt32 = v)) := by simp [Cond.value, ha, hb]
    have := gotT q h
    have e2 := len_toInt hl
    rw [this] at e2
    have : v.toNatClampNeg = cl.slots.size := by show v.toInt.toNat = _; omega
    omega
  · exfalso
    simp [Term.eval, ev, hat, hl] at ha
theorem own_ary3 {args : Array Value} {s : State} {t : Term} {x : Addr} {cl : Cell} {g : Nat → Int32} {v0 v1 v2 : Int32} (Ar : Arr s s.heap x cl .int) (ev : t.eval args s none [] s = some (.ref x))
    (nl : (Jvm.Cond.eq (Jvm.Term.length t) (Jvm.Term.int 3)).value args s none s [] = some true)
    (n0 : (Jvm.Cond.eq (Jvm.Term.elem t (Jvm.Term.int 0)) (Jvm.Term.int v0)).value args s none s [] = some true)
    (n1 : (Jvm.Cond.eq (Jvm.Term.elem t (Jvm.Term.int 1)) (Jvm.Term.int v1)).value args s none s [] = some true)
    (n2 : (Jvm.Cond.eq (Jvm.Term.elem t (Jvm.Term.int 2)) (Jvm.Term.int v2)).value args s none s [] = some true)
    (e0 : g 0 = v0 := by rfl) (e1 : g 1 = v1 := by rfl) (e2 : g 2 = v2 := by rfl) : Ary s s.heap x .int 3 (fun i => .int (g i)) := by
  have el := own_len Ar ev nl (by decide)
  subst e0 e1 e2
  refine ⟨cl, Ar, el, by decide, fun i hi => ?_⟩
  match i, hi with
  | 0, _ => exact own_el Ar ev n0
  | 1, _ => exact own_el Ar ev n1
  | 2, _ => exact own_el Ar ev n2
  | k + 3, h => exact absurd h (by omega)

set_option maxRecDepth 65536 in
set_option maxHeartbeats 40000000 in
theorem comes_1 {Post : Tables → Env → Array Value → State → Outcome → State → Prop} (hpost : ∀ tb e args s v u, (limb_1_1.after args s (.returned v) u = true ∧ limb_1_2.after args s (.returned v) u = true ∧ True) → FrameEnd s (.returned v) u (Jvm.fieldLocs frame_1_writes args s ++ Jvm.arrayLocs frame_1_arrays args s ++ Jvm.staticLocs frame_1_statics s) 24 128 → Post tb e args s (.returned v) u) :
    ArmFor flags0 classFile x code maxLocals ret World_1 tables_1 room_1 Calls_1 rest_1 Pre_1 Post := by
  intro l hfl _ _ p e ha hc hk s m args below hf hA hF happ hP
  obtain ⟨hcalls, hrest, hpre⟩ := hP
  obtain ⟨-, -, -, hnamed, -, -, -, hat⟩ := (Spec.applies_iff hf).mp happ
  obtain ⟨hg, hn⟩ := and_e (Cond.before_iff.mp (show (Jvm.Cond.and given_1 narrow_1).before args s = true from hpre))
  obtain ⟨g0, hg⟩ := and_e hg
  obtain ⟨ga0, hg⟩ := and_e hg
  obtain ⟨ga1, hg⟩ := and_e hg
  obtain ⟨ga2, hg⟩ := and_e hg
  obtain ⟨ga3, hg⟩ := and_e hg
  obtain ⟨ga4, hg⟩ := and_e hg
  have ga5 := hg
  obtain ⟨w0, w1, w2, w3, w4, w5, rfl⟩ : ∃ w0 w1 w2 w3 w4 w5 : Value, args = #[w0, w1, w2, w3, w4, w5] := by
    have hs : args.size = 6 := by simpa [Cond.value, given_1] using g0
    obtain ⟨L⟩ := args
    match L, hs with
    | [w0, w1, w2, w3, w4, w5], _ => exact ⟨w0, w1, w2, w3, w4, w5, rfl⟩
  have hw := fun d (hd : d ∈ tables_1) => atoms_spec (ws := Jvm.Cond.code x code maxLocals ret :: tables_1) hat d (List.mem_cons_of_mem _ hd)
  have hfit : Fit s := fun {y c} hc i hi => by
    obtain ⟨ha, rfl⟩ := Array.getElem?_eq_some_iff.mp hc
    have q := List.all_eq_true.mp ((Array.all_eq_true_iff_forall_mem.mp hF) _ (Array.getElem_mem ha)) i (List.mem_range.mpr hi)
    simpa [Array.getElem?_eq_getElem hi] using q
  obtain ⟨i0, ei0⟩ := is_v ga0
  obtain rfl : w0 = (.int i0) := Option.some.inj ei0
  obtain ⟨i1, ei1⟩ := is_v ga1
  obtain rfl : w1 = (.int i1) := Option.some.inj ei1
  obtain ⟨i2, ei2⟩ := is_v ga2
  obtain rfl : w2 = (.int i2) := Option.some.inj ei2
  obtain ⟨i3, ei3⟩ := is_v ga3
  obtain rfl : w3 = (.int i3) := Option.some.inj ei3
  obtain ⟨i4, ei4⟩ := is_v ga4
  obtain rfl : w4 = (.int i4) := Option.some.inj ei4
  obtain ⟨i5, ei5⟩ := is_v ga5
  obtain rfl : w5 = (.int i5) := Option.some.inj ei5
  obtain ⟨pa, hn⟩ := and_e hn
  obtain ⟨pl, hn⟩ := and_e hn
  obtain ⟨p0, hn⟩ := and_e hn
  obtain ⟨ga, hn⟩ := and_e hn
  obtain ⟨gl, hn⟩ := and_e hn
  obtain ⟨g0', hn⟩ := and_e hn
  obtain ⟨p1, hn⟩ := and_e hn
  obtain ⟨g1', hn⟩ := and_e hn
  obtain ⟨p2, hn⟩ := and_e hn
  have g2' := hn
  obtain ⟨oP, evp⟩ := arr_v pa
  have Sp : Sta s s.heap "com/example/tinwire/tinwire/json/Transform" "PRIMES" "[I" (.ref oP) := Sta.start evp (Or.inr ⟨hw _ (List.mem_of_getElem? (i := 2) rfl), hw _ (List.mem_of_getElem? (i := 3) rfl)⟩)
  obtain ⟨clp, Arp⟩ := Arr.start evp pa
  have Ap : Ary s s.heap oP .int 3 (fun i => .int (primT i)) := own_ary3 Arp evp pl p0 p1 p2
  obtain ⟨oG, evg⟩ := arr_v ga
  have Sg : Sta s s.heap "com/example/tinwire/tinwire/json/Transform" "GENERATORS" "[I" (.ref oG) := Sta.start evg (Or.inr ⟨hw _ (List.mem_of_getElem? (i := 2) rfl), hw _ (List.mem_of_getElem? (i := 23) rfl)⟩)
  obtain ⟨clg, Arg⟩ := Arr.start evg ga
  have Ag : Ary s s.heap oG .int 3 (fun i => .int (genT i)) := own_ary3 Arg evg gl g0' g1' g2'
  obtain ⟨n, o, h1, h2, h3, v, L, rfl, hQ, hq⟩ := rm0 l s _ hw tables_1 i0 i1 i2 i3 i4 i5 oP oG s.heap s.heap.size (Nat.le_refl _) Sp Ap (Old.start s) Sg Ag p e ha hc hk s m _ below hf ((Spec.applies_iff_loose hf).mp happ).1 ⟨rfl, State.Warmed39.refl s, rfl⟩ trivial
  obtain ⟨hv, N⟩ := hQ
  rw [law_true i0 i1 i2 i3 i4 i5] at hv
  subst hv
  refine ⟨n, _, h1, h2, h3, hpost _ _ _ _ _ _ ⟨Cond.after_iff.mpr rfl, Cond.after_iff.mpr (eq_i res_at (Term.int_eval (1)) rfl), trivial⟩ ⟨hq.1, hq.2.1, (hq.2.2.sift fun y hy => Or.inr (N y hy)).mono (by decide) (by decide)⟩⟩
theorem main_1_1 : Claimed_1_1 := comes_1 fun _ _ _ _ _ _ h hF => ⟨h.1, hF⟩
theorem main_1_2 : Claimed_1_2 := comes_1 fun _ _ _ _ _ _ h hF => ⟨h.2.1, hF⟩
end Jvm.Pilot.@@N@@
namespace Jvm.Pilot.@@N@@
open Jvm Jvm.ClassFile Sem Op Lib Jvm.Free Jvm.Stand Jvm.Pilot.@@N@@.Jvm.D
/-! MADE BY PROGRAM (witnessworld.py) out of the Statement's table words and the real class files: 9 classes; the members and pool entries that the words name. The judged class is class 1, her method 1. -/
namespace start1
open Jvm.ClassFile
def u (s : String) : CpInfo := .utf8 (stringToUtf16 s)
/-- a pool by its gaps: so many unusable entries, then the entry; so many at the end -/
def gap : Nat → List CpInfo → List CpInfo
  | 0, r => r
  | n + 1, r => .unusable :: gap n r
def poolList (es : List (Nat × CpInfo)) (last : Nat) : List CpInfo := es.foldr (fun e r => gap e.1 (e.2 :: r)) (gap last [])
def pool (es : List (Nat × CpInfo)) (last : Nat) : Array CpInfo := ⟨poolList es last⟩
def fileOf (pool : Array CpInfo) (this : Nat) (attrs : Array Attribute := #[]) (ms : Array MethodInfo := #[]) (fl : Nat := 33) (sup : Nat := 0) (ifs : Array Nat := #[]) (fds : Array FieldInfo := #[]) : ClassFile where
  minorVersion := 0
  majorVersion := 65
  constantPool := pool
  accessFlags := fl
  thisClass := this
  superClass := sup
  interfaces := ifs
  fields := fds
  methods := ms
  attributes := attrs
def plain (name : String) (sup : Option ClassId) : Class where
  name := name
  kind := .ordinary
  loader := none
  accessFlags := 33
  super := sup
  interfaces := #[]
  cf := none
  fields := #[]
  methods := #[]
  instanceTypes := #[]
  staticTypes := #[]
  resolved := #[]
  callSites := []
  init := .initialized
  statics := none
  mirror := none

def pool0 : Array CpInfo := pool [(5, u "<init>"), (0, u "()V"), (1, .class_ 10), (1, u "java/lang/Object")] 113

def k0c0 : Code := { maxStack := 0, maxLocals := 1, code := object_method_1_code, exceptionTable := #[], attributes := #[] }
def k0m0 : Method := { name := "<init>", desc := "()V", sig := { parameters := [], returnType := none }, accessFlags := 1, code := some k0c0 }
/-- java/lang/Object -/
def k0 : Class := { plain "java/lang/Object" none with
  accessFlags := 33
  interfaces := #[]
  cf := some (fileOf pool0 8 #[] #[{ accessFlags := 1, nameIndex := 5, descriptorIndex := 6, attributes := #[] }] 33 0 #[] #[])
  fields := #[]
  methods := #[k0m0]
  instanceTypes := #[]
  staticTypes := #[]
  resolved := Array.replicate 124 none
  statics := none }

def pool1 : Array CpInfo := pool [(2, .class_ 4), (1, u "java/lang/Object"), (0, u "<init>"), (0, u "()V"), (0, .integer 2147483647), (0, .fieldref 9 10), (0, .class_ 11), (0, .nameAndType 12 13), (0, u "com/example/tinwire/tinwire/json/Transform"), (0, u "PRIMES"), (0, u "[I"), (0, .methodref 9 15), (0, .nameAndType 5 16), (0, u "(II[I[I)V"), (0, .methodref 9 18), (0, .nameAndType 19 20), (0, u "multiplyPointwise"), (0, u "([I[I)V"), (0, .methodref 22 23), (0, .class_ 24), (0, .nameAndType 25 26), (0, u "com/example/tinwire/tinwire/json/TransformMultiplyPointwisePinLaw"), (0, u "ok"), (0, u "(IIII)Z"), (2, u "law"), (0, u "(IIIIII)Z")] 4

def k1m0 : Method := { name := "<init>", desc := "()V", sig := { parameters := [], returnType := none }, accessFlags := 1, code := none }
def k1c1 : Code := { maxStack := 6, maxLocals := 17, code := code, exceptionTable := #[], attributes := #[] }
def k1m1 : Method := { name := "law", desc := "(IIIIII)Z", sig := { parameters := [.int, .int, .int, .int, .int, .int], returnType := some .boolean }, accessFlags := 9, code := some k1c1 }
def k1c2 : Code := { maxStack := 4, maxLocals := 8, code := method_3_code, exceptionTable := #[], attributes := #[] }
def k1m2 : Method := { name := "ok", desc := "(IIII)Z", sig := { parameters := [.int, .int, .int, .int], returnType := some .boolean }, accessFlags := 10, code := some k1c2 }
/-- com/example/tinwire/tinwire/json/TransformMultiplyPointwisePinLaw -/
def k1 : Class := { plain "com/example/tinwire/tinwire/json/TransformMultiplyPointwisePinLaw" (some 0) with
  accessFlags := 49
  interfaces := #[]
  cf := some (fileOf pool1 22 #[] #[{ accessFlags := 1, nameIndex := 5, descriptorIndex := 6, attributes := #[] }, { accessFlags := 9, nameIndex := 29, descriptorIndex := 30, attributes := #[] }, { accessFlags := 10, nameIndex := 25, descriptorIndex := 26, attributes := #[] }] 49 2 #[] #[])
  fields := #[]
  methods := #[k1m0, k1m1, k1m2]
  instanceTypes := #[]
  staticTypes := #[]
  resolved := Array.replicate 35 none
  statics := none }

def pool2 : Array CpInfo := pool [(1, .methodref 2 3), (0, .class_ 4), (0, .nameAndType 5 6), (0, u "java/lang/Object"), (0, u "<init>"), (0, u "()V"), (0, .fieldref 8 9), (0, .class_ 10), (0, .nameAndType 11 12), (0, u "com/example/tinwire/tinwire/json/Transform"), (0, u "PRIMES"), (0, u "[I"), (0, .fieldref 8 14), (0, .nameAndType 15 16), (0, u "prime"), (0, u "I"), (0, .fieldref 8 18), (0, .nameAndType 19 16), (0, u "length"), (0, .fieldref 8 21), (0, .nameAndType 22 12), (0, u "roots"), (0, .fieldref 8 24), (0, .nameAndType 25 12), (0, u "rootQuotients"), (0, .fieldref 8 27), (0, .nameAndType 28 12), (0, u "GENERATORS"), (0, .methodref 8 30), (0, .nameAndType 31 32), (0, u "power"), (0, u "(JJI)J"), (0, .fieldref 8 34), (0, .nameAndType 35 16), (0, u "outerRoot"), (0, .methodref 8 37), (0, .nameAndType 38 39), (0, u "quotient"), (0, u "(II)I"), (0, .fieldref 8 41), (0, .nameAndType 42 16), (0, u "outerRootQuotient"), (0, .fieldref 8 44), (0, .nameAndType 45 16), (0, u "negativeInverse"), (0, .long 4294967296), (1, .long 2), (1, .fieldref 8 51), (0, .nameAndType 52 16), (0, u "scale"), (0, .fieldref 8 54), (0, .nameAndType 55 16), (0, u "scaleQuotient"), (8, .long 4294967295), (13, u "MAX_LENGTH"), (2, u "MASK"), (0, u "J"), (0, u "(II[I[I)V"), (8, u "multiplyPointwise"), (0, u "([I[I)V")] 7

def k2c0 : Code := { maxStack := 9, maxLocals := 14, code := prog_48_method_1_code, exceptionTable := #[], attributes := #[] }
def k2m0 : Method := { name := "<init>", desc := "(II[I[I)V", sig := { parameters := [.int, .int, (.array .int), (.array .int)], returnType := none }, accessFlags := 0, code := some k2c0 }
def k2c1 : Code := { maxStack := 6, maxLocals := 9, code := prog_48_method_6_code, exceptionTable := #[], attributes := #[] }
def k2m1 : Method := { name := "multiplyPointwise", desc := "([I[I)V", sig := { parameters := [(.array .int), (.array .int)], returnType := none }, accessFlags := 0, code := some k2c1 }
def k2c2 : Code := { maxStack := 4, maxLocals := 2, code := prog_48_method_12_code, exceptionTable := #[], attributes := #[] }
def k2m2 : Method := { name := "quotient", desc := "(II)I", sig := { parameters := [.int, .int], returnType := some .int }, accessFlags := 8, code := some k2c2 }
def k2c3 : Code := { maxStack := 4, maxLocals := 11, code := prog_48_method_13_code, exceptionTable := #[], attributes := #[] }
def k2m3 : Method := { name := "power", desc := "(JJI)J", sig := { parameters := [.long, .long, .int], returnType := some .long }, accessFlags := 10, code := some k2c3 }
/-- com/example/tinwire/tinwire/json/Transform -/
def k2 : Class := { plain "com/example/tinwire/tinwire/json/Transform" (some 0) with
  accessFlags := 48
  interfaces := #[]
  cf := some (fileOf pool2 8 #[] #[{ accessFlags := 0, nameIndex := 5, descriptorIndex := 83, attributes := #[] }, { accessFlags := 0, nameIndex := 92, descriptorIndex := 93, attributes := #[] }, { accessFlags := 8, nameIndex := 38, descriptorIndex := 39, attributes := #[] }, { accessFlags := 10, nameIndex := 31, descriptorIndex := 32, attributes := #[] }] 48 2 #[] #[{ accessFlags := 24, nameIndex := 11, descriptorIndex := 12, attributes := #[] }, { accessFlags := 26, nameIndex := 28, descriptorIndex := 12, attributes := #[] }, { accessFlags := 24, nameIndex := 78, descriptorIndex := 16, attributes := #[] }, { accessFlags := 26, nameIndex := 81, descriptorIndex := 82, attributes := #[] }, { accessFlags := 18, nameIndex := 15, descriptorIndex := 16, attributes := #[] }, { accessFlags := 18, nameIndex := 19, descriptorIndex := 16, attributes := #[] }, { accessFlags := 18, nameIndex := 22, descriptorIndex := 12, attributes := #[] }, { accessFlags := 18, nameIndex := 25, descriptorIndex := 12, attributes := #[] }, { accessFlags := 18, nameIndex := 35, descriptorIndex := 16, attributes := #[] }, { accessFlags := 18, nameIndex := 42, descriptorIndex := 16, attributes := #[] }, { accessFlags := 18, nameIndex := 45, descriptorIndex := 16, attributes := #[] }, { accessFlags := 18, nameIndex := 52, descriptorIndex := 16, attributes := #[] }, { accessFlags := 18, nameIndex := 55, descriptorIndex := 16, attributes := #[] }])
  fields := #[{ name := "PRIMES", type := (.array .int), accessFlags := 24, slot := 0, constantValue := 0 }, { name := "GENERATORS", type := (.array .int), accessFlags := 26, slot := 1, constantValue := 0 }, { name := "MAX_LENGTH", type := .int, accessFlags := 24, slot := 2, constantValue := 0 }, { name := "MASK", type := .long, accessFlags := 26, slot := 3, constantValue := 0 }, { name := "prime", type := .int, accessFlags := 18, slot := 0, constantValue := 0 }, { name := "length", type := .int, accessFlags := 18, slot := 1, constantValue := 0 }, { name := "roots", type := (.array .int), accessFlags := 18, slot := 2, constantValue := 0 }, { name := "rootQuotients", type := (.array .int), accessFlags := 18, slot := 3, constantValue := 0 }, { name := "outerRoot", type := .int, accessFlags := 18, slot := 4, constantValue := 0 }, { name := "outerRootQuotient", type := .int, accessFlags := 18, slot := 5, constantValue := 0 }, { name := "negativeInverse", type := .int, accessFlags := 18, slot := 6, constantValue := 0 }, { name := "scale", type := .int, accessFlags := 18, slot := 7, constantValue := 0 }, { name := "scaleQuotient", type := .int, accessFlags := 18, slot := 8, constantValue := 0 }]
  methods := #[k2m0, k2m1, k2m2, k2m3]
  instanceTypes := #[.int, .int, (.array .int), (.array .int), .int, .int, .int, .int, .int]
  staticTypes := #[(.array .int), (.array .int), .int, .long]
  resolved := Array.replicate 101 none
  statics := some 0 }

def pool3 : Array CpInfo := pool [(1, u "java/lang/Cloneable"), (0, .class_ 1), (0, u "java/lang/Object"), (0, .class_ 3)] 3

/-- java/lang/Cloneable -/
def k3 : Class := { plain "java/lang/Cloneable" (some 0) with
  accessFlags := 1537
  interfaces := #[]
  cf := some (fileOf pool3 2 #[] #[] 1537 4 #[] #[])
  fields := #[]
  methods := #[]
  instanceTypes := #[]
  staticTypes := #[]
  resolved := Array.replicate 8 none
  statics := none }

def pool4 : Array CpInfo := pool [(1, u "java/io/Serializable"), (0, .class_ 1), (0, u "java/lang/Object"), (0, .class_ 3)] 3

/-- java/io/Serializable -/
def k4 : Class := { plain "java/io/Serializable" (some 0) with
  accessFlags := 1537
  interfaces := #[]
  cf := some (fileOf pool4 2 #[] #[] 1537 4 #[] #[])
  fields := #[]
  methods := #[]
  instanceTypes := #[]
  staticTypes := #[]
  resolved := Array.replicate 8 none
  statics := none }

/-- the primitive byte -/
def k5 : Class := { plain "byte" none with kind := .primitive 'B', accessFlags := 0x411 }
/-- [B -/
def k6 : Class := { plain "[B" (some 0) with kind := .array 5 .byte, interfaces := #[3, 4], accessFlags := 1041 }

/-- the primitive int -/
def k7 : Class := { plain "int" none with kind := .primitive 'I', accessFlags := 0x411 }
/-- [I -/
def k8 : Class := { plain "[I" (some 0) with kind := .array 7 .int, interfaces := #[3, 4], accessFlags := 1041 }

def heap : Heap := #[{ cls := 2, slots := #[.ref 1, .ref 2, .int 0, .long 0], vm := .statics 2 },
  { cls := 8, slots := #[.int 2013265921, .int 1811939329, .int 469762049], vm := .none },
  { cls := 8, slots := #[.int 31, .int 13, .int 3], vm := .none }]
def classes : Array Class := #[k0, k1, k2, k3, k4, k5, k6, k7, k8]
def interned : List (Array UInt16 × Addr) := []
def slotsUsed : Nat := 10
def theMethod : MethodId := ⟨1, 1⟩
def args0 : Array Value := #[.int 4, .int 7, .int 40, .int 9, .int 40, .int 3]
def aboutOver (below : List Frame) : State where
  vm := { classes := classes, interned := interned.toArray }
  heap := heap
  slotsUsed := slotsUsed
  threads := #[{ frames := .invoking theMethod args0 :: below }]
def below0 : List Frame := [.native { method := ⟨0, 0⟩, args := #[] }]
def about1 : State := aboutOver below0
def p0 : Program := .bare "" "" ""
def e0 : Env := launch0.env 0 0 0
theorem w_frames : about1.frames = Frame.invoking theMethod args0 :: below0 := rfl
set_option maxRecDepth 65536 in
theorem w_args : argsFit about1.vm theMethod args0 = true := by decide +kernel
set_option maxRecDepth 65536 in
theorem w_heap : heapFits about1 = true := by decide +kernel
set_option maxRecDepth 65536 in
theorem w_runnable : about1.curStatus? = some .runnable := by decide +kernel
set_option maxRecDepth 65536 in
theorem w_alone : about1.alone = true := by decide +kernel
set_option maxRecDepth 65536 in
theorem w_named : about1.methodNamed? x = some theMethod := by decide +kernel
set_option maxRecDepth 65536 in
theorem w_hears : about1.hears theMethod below0 = true := by decide +kernel
set_option maxRecDepth 65536 in
theorem w_ripe : about1.ripe theMethod args0 below0 = true := by decide +kernel
theorem w_running : about1.status = .running := rfl
set_option maxRecDepth 65536 in
theorem w_room : about1.hasRoom e0.platform room_1 = true :=
  launch0.hasRoom_least _ room_1 (by decide +kernel) (by decide +kernel) (by decide +kernel) (by decide +kernel) (by decide +kernel) (by decide +kernel)
theorem allAtoms_all (ts : List Jvm.Cond) (a : Array Jvm.Value) (st : Jvm.State) : (allAtoms ts).before a st = ts.all (fun c => c.before a st) := by
  induction ts with
  | nil => rfl
  | cons c t ih =>
    show (Jvm.Cond.and c (allAtoms t)).before a st = _
    rw [Jvm.Cond.before_and, ih, List.all_cons]
def words1 : List Jvm.Cond := Jvm.Cond.code x code maxLocals ret :: tables_1
/-- a 'code' word, met by the world's own term for the bytes: nothing is compared byte by byte -/
theorem code_word {y : MethodName} {bytes : ByteArray} {mx : Nat} {rt : Option FieldType} {a : Array Value} {s : State} {m : MethodId} {meth : Method} {c : Code} (h1 : s.methodNamed? y = some m) (h2 : s.vm.method? m = some meth) (h3 : meth.code = some c) (h4 : c.code = bytes)
    (h5 : (c.maxLocals == mx && c.exceptionTable.isEmpty && decide (c.maxStack ≤ mostOperands) && decide (meth.sig.returnType = rt) && !meth.locks && decide (parseMethodDescriptor y.desc = some meth.sig)) = true) : (Jvm.Cond.code y bytes mx rt).before a s = true := by
  simp only [Bool.and_eq_true, beq_iff_eq, Bool.not_eq_true', decide_eq_true_eq] at h5
  obtain ⟨⟨⟨⟨⟨g1, g2⟩, g3⟩, g4⟩, g5⟩, g6⟩ := h5
  simp [Cond.before, Cond.holds, Cond.value, h1, h2, h3, h4, g1, g2, g3, g4, g5, g6]
def isCode : Jvm.Cond → Bool
  | .code _ _ _ _ => true
  | _ => false
theorem all_split {L : List Jvm.Cond} {P : Jvm.Cond → Bool} (h1 : L.all (fun c => isCode c || P c) = true) (h2 : ∀ c ∈ L.filter isCode, P c = true) : L.all P = true := by
  refine List.all_eq_true.mpr fun c hc => ?_
  have h := List.all_eq_true.mp h1 c hc
  rcases Bool.eq_false_or_eq_true (isCode c) with hi | hi
  · exact h2 c (List.mem_filter.mpr ⟨hc, hi⟩)
  · simpa [hi] using h
set_option maxRecDepth 65536 in
theorem w_c0 : (Jvm.Cond.code x code maxLocals ret).before args0 about1 = true := code_word (m := ⟨1, 1⟩) (meth := k1m1) (c := k1c1) (by decide +kernel) rfl rfl rfl (by decide +kernel)
set_option maxRecDepth 65536 in
theorem w_c1 : (Jvm.Cond.code ({ cls := "com/example/tinwire/tinwire/json/Transform", name := "<init>", desc := "(II[I[I)V" } : Jvm.MethodName) prog_48_method_1_code (14 : Nat) (Option.none : Option Jvm.ClassFile.FieldType)).before args0 about1 = true := code_word (m := ⟨2, 0⟩) (meth := k2m0) (c := k2c0) (by decide +kernel) rfl rfl rfl (by decide +kernel)
set_option maxRecDepth 65536 in
theorem w_c2 : (Jvm.Cond.code ({ cls := "java/lang/Object", name := "<init>", desc := "()V" } : Jvm.MethodName) object_method_1_code (1 : Nat) (Option.none : Option Jvm.ClassFile.FieldType)).before args0 about1 = true := code_word (m := ⟨0, 0⟩) (meth := k0m0) (c := k0c0) (by decide +kernel) rfl rfl rfl (by decide +kernel)
set_option maxRecDepth 65536 in
theorem w_c3 : (Jvm.Cond.code ({ cls := "com/example/tinwire/tinwire/json/Transform", name := "power", desc := "(JJI)J" } : Jvm.MethodName) prog_48_method_13_code (11 : Nat) (Option.some Jvm.ClassFile.FieldType.long)).before args0 about1 = true := code_word (m := ⟨2, 3⟩) (meth := k2m3) (c := k2c3) (by decide +kernel) rfl rfl rfl (by decide +kernel)
set_option maxRecDepth 65536 in
theorem w_c4 : (Jvm.Cond.code ({ cls := "com/example/tinwire/tinwire/json/Transform", name := "quotient", desc := "(II)I" } : Jvm.MethodName) prog_48_method_12_code (2 : Nat) (Option.some Jvm.ClassFile.FieldType.int)).before args0 about1 = true := code_word (m := ⟨2, 2⟩) (meth := k2m2) (c := k2c2) (by decide +kernel) rfl rfl rfl (by decide +kernel)
set_option maxRecDepth 65536 in
theorem w_c5 : (Jvm.Cond.code ({ cls := "com/example/tinwire/tinwire/json/Transform", name := "multiplyPointwise", desc := "([I[I)V" } : Jvm.MethodName) prog_48_method_6_code (9 : Nat) (Option.none : Option Jvm.ClassFile.FieldType)).before args0 about1 = true := code_word (m := ⟨2, 1⟩) (meth := k2m1) (c := k2c1) (by decide +kernel) rfl rfl rfl (by decide +kernel)
set_option maxRecDepth 65536 in
theorem w_c6 : (Jvm.Cond.code ({ cls := "com/example/tinwire/tinwire/json/TransformMultiplyPointwisePinLaw", name := "ok", desc := "(IIII)Z" } : Jvm.MethodName) method_3_code (8 : Nat) (Option.some Jvm.ClassFile.FieldType.boolean)).before args0 about1 = true := code_word (m := ⟨1, 2⟩) (meth := k1m2) (c := k1c2) (by decide +kernel) rfl rfl rfl (by decide +kernel)
def codes1 : List Jvm.Cond := [Jvm.Cond.code x code maxLocals ret, Jvm.Cond.code ({ cls := "com/example/tinwire/tinwire/json/Transform", name := "<init>", desc := "(II[I[I)V" } : Jvm.MethodName) prog_48_method_1_code (14 : Nat) (Option.none : Option Jvm.ClassFile.FieldType), Jvm.Cond.code ({ cls := "java/lang/Object", name := "<init>", desc := "()V" } : Jvm.MethodName) object_method_1_code (1 : Nat) (Option.none : Option Jvm.ClassFile.FieldType), Jvm.Cond.code ({ cls := "com/example/tinwire/tinwire/json/Transform", name := "power", desc := "(JJI)J" } : Jvm.MethodName) prog_48_method_13_code (11 : Nat) (Option.some Jvm.ClassFile.FieldType.long), Jvm.Cond.code ({ cls := "com/example/tinwire/tinwire/json/Transform", name := "quotient", desc := "(II)I" } : Jvm.MethodName) prog_48_method_12_code (2 : Nat) (Option.some Jvm.ClassFile.FieldType.int), Jvm.Cond.code ({ cls := "com/example/tinwire/tinwire/json/Transform", name := "multiplyPointwise", desc := "([I[I)V" } : Jvm.MethodName) prog_48_method_6_code (9 : Nat) (Option.none : Option Jvm.ClassFile.FieldType), Jvm.Cond.code ({ cls := "com/example/tinwire/tinwire/json/TransformMultiplyPointwisePinLaw", name := "ok", desc := "(IIII)Z" } : Jvm.MethodName) method_3_code (8 : Nat) (Option.some Jvm.ClassFile.FieldType.boolean)]
set_option maxRecDepth 65536 in
theorem codes_eq : words1.filter isCode = codes1 := rfl
theorem w_codes : ∀ c ∈ words1.filter isCode, c.before args0 about1 = true := by
  rw [codes_eq]
  intro c hc
  simp only [codes1, List.mem_cons, List.not_mem_nil, or_false] at hc
  rcases hc with rfl | rfl | rfl | rfl | rfl | rfl | rfl
  · exact w_c0
  · exact w_c1
  · exact w_c2
  · exact w_c3
  · exact w_c4
  · exact w_c5
  · exact w_c6
set_option maxRecDepth 65536 in
theorem w_t1 : (words1.take 24).all (fun c => isCode c || c.before args0 about1) = true := by decide +kernel
set_option maxRecDepth 65536 in
theorem w_t2 : ((words1.drop 24).take 24).all (fun c => isCode c || c.before args0 about1) = true := by decide +kernel
set_option maxRecDepth 65536 in
theorem w_t3 : ((words1.drop 24).drop 24).all (fun c => isCode c || c.before args0 about1) = true := by decide +kernel
theorem w_tables : (allAtoms (Jvm.Cond.code x code maxLocals ret :: tables_1)).before args0 about1 = true := by
  rw [allAtoms_all]
  show words1.all (fun c => c.before args0 about1) = true
  refine all_split ?_ w_codes
  rw [← List.take_append_drop 24 words1, List.all_append, w_t1, ← List.take_append_drop 24 (words1.drop 24), List.all_append, w_t2, w_t3]
  rfl
set_option maxRecDepth 65536 in
theorem w_case : (Jvm.Cond.and given_1 narrow_1).before args0 about1 = true := by decide +kernel
theorem w_applies : (headSpec (Jvm.Cond.code x code maxLocals ret :: tables_1) room_1).applies x e0.platform about1 = true :=
  (Spec.applies_iff w_frames).mpr ⟨w_running, w_runnable, w_alone, w_named, w_hears, w_ripe, w_room, w_tables⟩
theorem atStart : AtStart classFile x code maxLocals ret World_1 tables_1 room_1 Calls_1 rest_1 Pre_1 launch0 p0 e0 about1 theMethod args0 below0 :=
  ⟨lists_1, trivial, launch0.admits_env _ _ _, launch0.least_env, fairChoices_fair.cas, fairChoices_fair.clock, w_frames, w_args, w_heap, w_applies, trivial, trivial, w_case⟩
end start1
theorem witness_1 : WitnessClaimed_1 := ⟨start1.p0, start1.e0, start1.about1, start1.theMethod, start1.args0, start1.below0, start1.atStart⟩
end Jvm.Pilot.@@N@@
