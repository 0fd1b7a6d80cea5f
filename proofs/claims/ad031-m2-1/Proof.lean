import JvmDerived
import JvmDerived.Pilot.@@N@@Statement
import JvmDerived.Pilot.@@N@@Code
set_option linter.unusedVariables false
set_option linter.unusedSimpArgs false
namespace Jvm.OwnKit
open Sem ClassFile Op Lib Jvm.Stand Jvm.Free Jvm.LawKit Jvm.RoadKit
/-- from S the run comes to a state of which Φ holds -/
def Go (p : Program) (e : Env) (below : List Frame) (Φ : State → Prop) (S : State) : Prop := ∃ u, Steps p.tables e below S u ∧ Φ u
theorem Go.step {p : Program} {e : Env} {below : List Frame} {Φ : State → Prop} {S S' : State} (h : ∀ t, Steps p.tables e below S' t → Steps p.tables e below S t) (k : Go p e below Φ S') : Go p e below Φ S := by
  obtain ⟨u, q, r⟩ := k
  exact ⟨u, h u q, r⟩
theorem Go.trans {p : Program} {e : Env} {below : List Frame} {Φ : State → Prop} {S S' : State} (h : Steps p.tables e below S S') (k : Go p e below Φ S') : Go p e below Φ S := by
  obtain ⟨u, q, r⟩ := k
  exact ⟨u, Steps.trans h q, r⟩
theorem Go.here {p : Program} {e : Env} {below : List Frame} {Φ : State → Prop} {S : State} (k : Φ S) : Go p e below Φ S := ⟨S, Steps.refl _, k⟩
/-- the end of a body -/
def FinQ (below : List Frame) (s : State) (Q : Option Value → Heap → List Loc → Prop) (k n : Nat) (u : State) : Prop :=
  ∃ o, u.status = .running ∧ Ended u below o ∧ ∃ v L, o = .returned v ∧ Q v u.heap L ∧ FrameEnd s o u L k n
theorem Go.done {p : Program} {e : Env} {below : List Frame} {s : State} {Q : Option Value → Heap → List Loc → Prop} {k n : Nat} {S : State} (h : Go p e below (FinQ below s Q k n) S) :
    ∃ s₂ o, Steps p.tables e below S s₂ ∧ s₂.status = .running ∧ Ended s₂ below o ∧ ∃ v L, o = .returned v ∧ Q v s₂.heap L ∧ FrameEnd s o s₂ L k n := by
  obtain ⟨u, q, o, r1, r2, r3⟩ := h
  exact ⟨u, o, q, r1, r2, r3⟩
section New
variable {p : Program} {l : Launch} {e : Env} {R : Room} {s : State} {m : MethodId} {args : Array Value} {below : List Frame} {meth : Method} {c : Code} {T : State} {locs : List Loc} {cells slots : Nat}
/-- the run stands at the frame F, in a heap h -/
def AtF (p : Program) (l : Launch) (e : Env) (R : Room) (s : State) (m : MethodId) (args : Array Value) (below : List Frame) (meth : Method) (c : Code) (n0 cells slots : Nat) (h : Heap) (F : JFrame) (u : State) : Prop :=
  ∃ T' locs', u = T'.setTop F ∧ Stand p l e R s m args below meth c T' locs' cells slots ∧ Fr n0 locs' ∧ T'.heap = h
theorem retG {pc : Nat} {Ls : Array Slot} {w : Value} {t : FieldType} {i : Instr} {rest : List Value} {Q : Option Value → Heap → List Loc → Prop} {k n : Nat}
    (X : Stand p l e R s m args below meth c T locs cells slots) (hx : p.tables.exec = Jvm.exec) (hlocks : meth.locks = false) (hret : meth.sig.returnType = some t) (hn : narrow t w = w)
    (hi : (i = .ireturn ∧ (t = .int ∨ t = .boolean ∨ t = .byte ∨ t = .char ∨ t = .short) ∧ ∃ z, w = .int z) ∨ (i = .lreturn ∧ t = .long ∧ ∃ z, w = .long z) ∨ (i = .dreturn ∧ t = .double ∧ ∃ z, w = .double z) ∨ (i = .freturn ∧ t = .float ∧ ∃ z, w = .float z) ∨ (i = .areturn ∧ t.isReference = true ∧ w.isRef = true))
    (hd : decode c.code pc = .ok (i, 1)) (hQ : Q (some w) T.heap locs) (hc : cells ≤ k) (hs : slots ≤ n) : Go p e below (FinQ below s Q k n) (T.setTop (mkF m pc Ls (w :: rest))) := by
  obtain ⟨fs, hr, hrun, hended, hW, hsame⟩ := X.leave (v := some w) (fun h => by rw [hret] at h; cases h) hlocks
  exact ⟨_, retOut X hx hret hn hi hd hr, _, hrun, hended, _, _, rfl, hQ, ⟨_, rfl⟩, hW, hsame.mono hc hs⟩
theorem retGI {pc : Nat} {Ls : Array Slot} {z : Int32} {rest : List Value} {Q : Option Value → Heap → List Loc → Prop} {k n : Nat}
    (X : Stand p l e R s m args below meth c T locs cells slots) (hx : p.tables.exec = Jvm.exec) (hlocks : meth.locks = false) (hret : meth.sig.returnType = some .int)
    (hd : decode c.code pc = .ok (.ireturn, 1)) (hQ : Q (some (.int z)) T.heap locs) (hc : cells ≤ k) (hs : slots ≤ n) : Go p e below (FinQ below s Q k n) (T.setTop (mkF m pc Ls (.int z :: rest))) :=
  retG X hx hlocks hret rfl (Or.inl ⟨rfl, Or.inl rfl, _, rfl⟩) hd hQ hc hs
theorem retGJ {pc : Nat} {Ls : Array Slot} {z : Int64} {rest : List Value} {Q : Option Value → Heap → List Loc → Prop} {k n : Nat}
    (X : Stand p l e R s m args below meth c T locs cells slots) (hx : p.tables.exec = Jvm.exec) (hlocks : meth.locks = false) (hret : meth.sig.returnType = some .long)
    (hd : decode c.code pc = .ok (.lreturn, 1)) (hQ : Q (some (.long z)) T.heap locs) (hc : cells ≤ k) (hs : slots ≤ n) : Go p e below (FinQ below s Q k n) (T.setTop (mkF m pc Ls (.long z :: rest))) :=
  retG X hx hlocks hret rfl (Or.inr (Or.inl ⟨rfl, rfl, _, rfl⟩)) hd hQ hc hs
theorem retGR {pc : Nat} {Ls : Array Slot} {a : Addr} {t : FieldType} {rest : List Value} {Q : Option Value → Heap → List Loc → Prop} {k n : Nat}
    (X : Stand p l e R s m args below meth c T locs cells slots) (hx : p.tables.exec = Jvm.exec) (hlocks : meth.locks = false) (hret : meth.sig.returnType = some t) (ht : t.isReference = true) (hn : narrow t (.ref a) = .ref a)
    (hd : decode c.code pc = .ok (.areturn, 1)) (hQ : Q (some (.ref a)) T.heap locs) (hc : cells ≤ k) (hs : slots ≤ n) : Go p e below (FinQ below s Q k n) (T.setTop (mkF m pc Ls (.ref a :: rest))) :=
  retG X hx hlocks hret hn (Or.inr (Or.inr (Or.inr (Or.inr ⟨rfl, ht, rfl⟩)))) hd hQ hc hs
theorem retGN {pc : Nat} {Ls : Array Slot} {z z' : Int32} {t : FieldType} {rest : List Value} {Q : Option Value → Heap → List Loc → Prop} {k n : Nat}
    (X : Stand p l e R s m args below meth c T locs cells slots) (hx : p.tables.exec = Jvm.exec) (hlocks : meth.locks = false) (hret : meth.sig.returnType = some t) (ht : t = .boolean ∨ t = .byte ∨ t = .char ∨ t = .short) (hz : nar t z = z')
    (hd : decode c.code pc = .ok (.ireturn, 1)) (hQ : Q (some (.int z')) T.heap locs) (hc : cells ≤ k) (hs : slots ≤ n) : Go p e below (FinQ below s Q k n) (T.setTop (mkF m pc Ls (.int z :: rest))) := by
  subst hz
  obtain ⟨fs, hr, hrun, hended, hW, hsame⟩ := X.leave (v := some (.int (nar t z))) (fun h => by rw [hret] at h; cases h) hlocks
  exact ⟨_, retN X hx hret ht hd hr, _, hrun, hended, _, _, rfl, hQ, ⟨_, rfl⟩, hW, hsame.mono hc hs⟩
theorem retGV {pc : Nat} {Ls : Array Slot} {Q : Option Value → Heap → List Loc → Prop} {k n : Nat}
    (X : Stand p l e R s m args below meth c T locs cells slots) (hx : p.tables.exec = Jvm.exec) (hlocks : meth.locks = false) (hret : meth.sig.returnType = none)
    (hd : decode c.code pc = .ok (.return_, 1)) (hQ : Q none T.heap locs) (hc : cells ≤ k) (hs : slots ≤ n) : Go p e below (FinQ below s Q k n) (T.setTop (mkF m pc Ls [])) := by
  obtain ⟨fs, hr, hrun, hended, hW, hsame⟩ := X.leave (v := none) (fun _ => rfl) hlocks
  exact ⟨_, X.returnOut hx hret hd hr, _, hrun, hended, _, _, rfl, hQ, ⟨_, rfl⟩, hW, hsame.mono hc hs⟩
end New
/-- a body that writes nothing and returns r -/
def QP (r : Value) (h0 : Heap) (n0 : Nat) (v : Option Value) (h : Heap) (L : List Loc) : Prop := v = some r ∧ Fr n0 L ∧ h = h0
def QV (h0 : Heap) (n0 : Nat) (v : Option Value) (h : Heap) (L : List Loc) : Prop := v = none ∧ Fr n0 L ∧ h = h0
/-- a law: it returns r and writes nothing old -/
def QL (r : Value) (n0 : Nat) (v : Option Value) (h : Heap) (L : List Loc) : Prop := v = some r ∧ Fr n0 L
theorem remI (x y : Int32) : x - (x / y) * y = x % y := by
  rw [← Int32.toInt_inj, Int32.toInt_sub, Int32.toInt_mul, Int32.toInt_div, Int32.toInt_mod]
  have h := Int.tmod_add_mul_tdiv x.toInt y.toInt
  have r : (x.toInt.tmod y.toInt).bmod (2 ^ 32) = x.toInt.tmod y.toInt := by
    have := Int32.toInt_bmod (x % y)
    rwa [Int32.toInt_mod] at this
  rw [← r]
  have e : ((x.toInt.tdiv y.toInt).bmod (2 ^ 32) * y.toInt).bmod (2 ^ 32) = (x.toInt.tdiv y.toInt * y.toInt).bmod (2 ^ 32) := by simp
  rw [e, Int.sub_bmod_bmod]
  congr 1
  have := Int.mul_comm (x.toInt.tdiv y.toInt) y.toInt
  omega
theorem addI {x y : Int32} (h1 : -2147483648 ≤ x.toInt + y.toInt) (h2 : x.toInt + y.toInt < 2147483648) : (x + y).toInt = x.toInt + y.toInt := by have := c_iadd x y; have := rng32 (x + y); omega
theorem subI {x y : Int32} (h1 : -2147483648 ≤ x.toInt - y.toInt) (h2 : x.toInt - y.toInt < 2147483648) : (x - y).toInt = x.toInt - y.toInt := by have := c_isub x y; have := rng32 (x - y); omega
theorem mulI {x y : Int32} (h1 : -2147483648 ≤ x.toInt * y.toInt) (h2 : x.toInt * y.toInt < 2147483648) : (x * y).toInt = x.toInt * y.toInt := by have := c_imul x y; have := rng32 (x * y); omega
theorem addL {x y : Int64} (h1 : -9223372036854775808 ≤ x.toInt + y.toInt) (h2 : x.toInt + y.toInt < 9223372036854775808) : (x + y).toInt = x.toInt + y.toInt := by have := c_ladd x y; have := rng64 (x + y); omega
theorem subL {x y : Int64} (h1 : -9223372036854775808 ≤ x.toInt - y.toInt) (h2 : x.toInt - y.toInt < 9223372036854775808) : (x - y).toInt = x.toInt - y.toInt := by have := c_lsub x y; have := rng64 (x - y); omega
theorem mulL {x y : Int64} (h1 : -9223372036854775808 ≤ x.toInt * y.toInt) (h2 : x.toInt * y.toInt < 9223372036854775808) : (x * y).toInt = x.toInt * y.toInt := by have := c_lmul x y; have := rng64 (x * y); omega
theorem modI {x y : Int32} (d : Int) (hy : y.toInt = d) (hx : 0 ≤ x.toInt) : (x % y).toInt = x.toInt % d := by rw [Int32.toInt_mod, hy]; exact (tr _ _).1 hx
theorem modL {x y : Int64} (d : Int) (hy : y.toInt = d) (hx : 0 ≤ x.toInt) : (x % y).toInt = x.toInt % d := by rw [Int64.toInt_mod, hy]; exact (tr _ _).1 hx
end Jvm.OwnKit
namespace Jvm.OwnKit
open Sem ClassFile Op Lib Jvm.Stand Jvm.Free Jvm.LawKit Jvm.RoadKit
/-- an array: its length and its elements, by a function -/
def Ary (Z : State) (h : Heap) (a : Addr) (ty : FieldType) (n : Nat) (f : Nat → Value) : Prop := ∃ c : Cell, Arr Z h a c ty ∧ c.slots.size = n ∧ n < 2147483648 ∧ ∀ i, i < n → c.slots[i]? = some (f i)
def upA {α : Type} (f : Nat → α) (j : Nat) (v : α) : Nat → α := fun i => if i = j then v else f i
theorem upA_same {α : Type} (f : Nat → α) (j : Nat) (v : α) : upA f j v j = v := if_pos rfl
theorem upA_ne {α : Type} (f : Nat → α) {j i : Nat} (v : α) (h : i ≠ j) : upA f j v i = f i := if_neg h
section Facts
variable {Z : State} {h h' : Heap} {a b : Addr} {ty : FieldType} {n sl : Nat} {f : Nat → Value} {v : Value} {ws : List Addr} {j : Int32}
theorem Ary.lt (F : Ary Z h a ty n f) : a < h.size := by obtain ⟨c, A, -⟩ := F; exact A.lt
theorem Ary.ext (F : Ary Z h a ty n f) (E : Ext h h') : Ary Z h' a ty n f := by obtain ⟨c, A, r⟩ := F; exact ⟨c, A.ext E, r⟩
theorem Ary.other (F : Ary Z h b ty n f) (W : Wr h h' a sl v) (q : b ≠ a) : Ary Z h' b ty n f := by obtain ⟨c, A, r⟩ := F; exact ⟨c, A.other W q, r⟩
theorem Ary.keep (F : Ary Z h a ty n f) (K : Keep h h' ws) (q : a ∉ ws) : Ary Z h' a ty n f := by obtain ⟨c, A, r⟩ := F; exact ⟨c, ⟨K.2.1 a c A.1 q, A.2⟩, r⟩
theorem Ary.set (F : Ary Z h a ty n f) (W : Wr h h' a sl v) (q : sl < n) : Ary Z h' a ty n (upA f sl v) := by
  obtain ⟨c, A, hs, hn, hf⟩ := F
  obtain ⟨c', e1, -, -, e4, -, e6, e7⟩ := wr_at W A.1
  refine ⟨c', by rw [(e7 rfl).1]; exact A.same W, e4.trans hs, hn, fun i hi => ?_⟩
  by_cases e : i = sl
  · subst e; rw [(e7 rfl).2.1, upA_same]
  · rw [e6 i e, hf i hi, upA_ne _ _ e]
theorem Ary.setI {g : Nat → Int32} {x : Int32} (F : Ary Z h a ty n (fun i => .int (g i))) (W : Wr h h' a sl (.int x)) (q : sl < n) : Ary Z h' a ty n (fun i => .int (upA g sl x i)) := by
  have e : (fun i => Value.int (upA g sl x i)) = upA (fun i => Value.int (g i)) sl (.int x) := by funext i; unfold upA; split <;> rfl
  rw [e]; exact F.set W q
theorem Ary.setJ {g : Nat → Int64} {x : Int64} (F : Ary Z h a ty n (fun i => .long (g i))) (W : Wr h h' a sl (.long x)) (q : sl < n) : Ary Z h' a ty n (fun i => .long (upA g sl x i)) := by
  have e : (fun i => Value.long (upA g sl x i)) = upA (fun i => Value.long (g i)) sl (.long x) := by funext i; unfold upA; split <;> rfl
  rw [e]; exact F.set W q
theorem Ary.congr {f' : Nat → Value} (F : Ary Z h a ty n f) (q : ∀ i, i < n → f i = f' i) : Ary Z h a ty n f' := by
  obtain ⟨c, A, hs, hn, hf⟩ := F
  exact ⟨c, A, hs, hn, fun i hi => by rw [hf i hi, q i hi]⟩
theorem Ary.hin (F : Ary Z h a ty n f) (h0 : ¬ j < 0) (hj : j.toNatClampNeg < n) : ∃ cl, Arr Z h a cl ty ∧ ¬ (j < 0 ∨ cl.slots.size ≤ j.toNatClampNeg) ∧ cl.slots[j.toNatClampNeg]? = some (f j.toNatClampNeg) := by
  obtain ⟨c, A, hs, hn, hf⟩ := F
  exact ⟨c, A, fun q => q.elim h0 (fun r => by omega), hf _ hj⟩
theorem Ary.mk {k : ClassId} {z : Int32} (A : Arr Z h a (newA k ty z) ty) (q : ¬ z < 0) (hn : z.toNatClampNeg = n) : Ary Z h a ty n (fun _ => defaultValue ty) := by
  obtain ⟨c, A', -, hs, -, H, -⟩ := Arv.new A q
  have r := rng32 z
  refine ⟨c, A', hs.trans hn, ?_, fun i hi => ?_⟩
  · rw [← hn]; have := nat_of q; omega
  · have := H i (by rw [hs, hn]; exact hi); simpa using this
end Facts
theorem clamp_nat {k : Nat} (h : k < 2147483648) : (Int32.ofNat k).toNatClampNeg = k := by
  have e : (Int32.ofNat k).toInt = k := Int32.toInt_ofNat_of_lt h
  show (Int32.ofNat k).toInt.toNat = k
  rw [e]; rfl
theorem nat32 {k : Nat} (h : k < 2147483648) : k.toInt32.toInt = k := Int32.toInt_ofNat_of_lt h
section New
variable {p : Program} {l : Launch} {e : Env} {R : Room} {s : State} {m : MethodId} {args : Array Value} {below : List Frame} {meth : Method} {c : Code} {T : State} {locs : List Loc} {cells slots : Nat} {Z : State} {h : Heap} {a : Addr} {n : Nat} {rest : List Value} {g : JFrame} {j : Int32}
theorem ldI {f : Nat → Int32} (X : Stand p l e R s m args below meth c T locs cells slots) (hx : p.tables.exec = Jvm.exec) (hZ : Z.Warmed39 s.vm) (eT : T.heap = h) (F : Ary Z h a .int n (fun i => .int (f i))) (h0 : ¬ j < 0) (hj : j.toNatClampNeg < n)
    (hg : g.method = m) (hs : g.stack = .int j :: .ref a :: rest) (hd : decode c.code g.pc = .ok (.iaload, 1)) : ∀ target, Steps p.tables e below (T.setTop { g with pc := g.pc + 1, stack := .int (f j.toNatClampNeg) :: rest }) target → Steps p.tables e below (T.setTop g) target := fun t k => by
  obtain ⟨cl, A, hin, hat⟩ := F.hin h0 hj
  exact X.iaload hx (by rw [eT]; exact A.1) (State.isArrayOf_alike hZ.alike A.2.1) A.2.2 hin hat hg hs hd t k
theorem ldJ {f : Nat → Int64} (X : Stand p l e R s m args below meth c T locs cells slots) (hx : p.tables.exec = Jvm.exec) (hZ : Z.Warmed39 s.vm) (eT : T.heap = h) (F : Ary Z h a .long n (fun i => .long (f i))) (h0 : ¬ j < 0) (hj : j.toNatClampNeg < n)
    (hg : g.method = m) (hs : g.stack = .int j :: .ref a :: rest) (hd : decode c.code g.pc = .ok (.laload, 1)) : ∀ target, Steps p.tables e below (T.setTop { g with pc := g.pc + 1, stack := .long (f j.toNatClampNeg) :: rest }) target → Steps p.tables e below (T.setTop g) target := fun t k => by
  obtain ⟨cl, A, hin, hat⟩ := F.hin h0 hj
  exact X.laload hx (by rw [eT]; exact A.1) (State.isArrayOf_alike hZ.alike A.2.1) A.2.2 hin hat hg hs hd t k
theorem ldB {f : Nat → Int32} (X : Stand p l e R s m args below meth c T locs cells slots) (hx : p.tables.exec = Jvm.exec) (hZ : Z.Warmed39 s.vm) (eT : T.heap = h) (F : Ary Z h a .byte n (fun i => .int (f i))) (h0 : ¬ j < 0) (hj : j.toNatClampNeg < n)
    (hg : g.method = m) (hs : g.stack = .int j :: .ref a :: rest) (hd : decode c.code g.pc = .ok (.baload, 1)) : ∀ target, Steps p.tables e below (T.setTop { g with pc := g.pc + 1, stack := .int (f j.toNatClampNeg) :: rest }) target → Steps p.tables e below (T.setTop g) target := fun t k => by
  obtain ⟨cl, A, hin, hat⟩ := F.hin h0 hj
  exact X.baloadBytes hx (by rw [eT]; exact A.1) (State.isArrayOf_alike hZ.alike A.2.1) A.2.2 hin hat hg hs hd t k
theorem ldC {f : Nat → Int32} (X : Stand p l e R s m args below meth c T locs cells slots) (hx : p.tables.exec = Jvm.exec) (hZ : Z.Warmed39 s.vm) (eT : T.heap = h) (F : Ary Z h a .char n (fun i => .int (f i))) (h0 : ¬ j < 0) (hj : j.toNatClampNeg < n)
    (hg : g.method = m) (hs : g.stack = .int j :: .ref a :: rest) (hd : decode c.code g.pc = .ok (.caload, 1)) : ∀ target, Steps p.tables e below (T.setTop { g with pc := g.pc + 1, stack := .int (f j.toNatClampNeg) :: rest }) target → Steps p.tables e below (T.setTop g) target := fun t k => by
  obtain ⟨cl, A, hin, hat⟩ := F.hin h0 hj
  exact X.caload hx (by rw [eT]; exact A.1) (State.isArrayOf_alike hZ.alike A.2.1) A.2.2 hin hat hg hs hd t k
theorem ldR {f : Nat → Value} {ty : FieldType} (X : Stand p l e R s m args below meth c T locs cells slots) (hx : p.tables.exec = Jvm.exec) (hZ : Z.Warmed39 s.vm) (eT : T.heap = h) (F : Ary Z h a ty n f) (hty : ty.isReference = true) (h0 : ¬ j < 0) (hj : j.toNatClampNeg < n)
    (hg : g.method = m) (hs : g.stack = .int j :: .ref a :: rest) (hd : decode c.code g.pc = .ok (.aaload, 1)) : ∀ target, Steps p.tables e below (T.setTop { g with pc := g.pc + 1, stack := f j.toNatClampNeg :: rest }) target → Steps p.tables e below (T.setTop g) target := fun t k => by
  obtain ⟨cl, A, hin, hat⟩ := F.hin h0 hj
  exact X.aaload hx (by rw [eT]; exact A.1) (State.isArrayOf_alike hZ.alike A.2.1) hty A.2.2 hin hat hg hs hd t k
theorem lenA {f : Nat → Value} {ty : FieldType} (X : Stand p l e R s m args below meth c T locs cells slots) (hx : p.tables.exec = Jvm.exec) (hZ : Z.Warmed39 s.vm) (eT : T.heap = h) (F : Ary Z h a ty n f)
    (hg : g.method = m) (hs : g.stack = .ref a :: rest) (hd : decode c.code g.pc = .ok (.arraylength, 1)) : ∀ target, Steps p.tables e below (T.setTop { g with pc := g.pc + 1, stack := .int n.toInt32 :: rest }) target → Steps p.tables e below (T.setTop g) target := fun t k => by
  obtain ⟨cl, A, hs', hn, -⟩ := F
  subst hs'
  exact X.arraylength hx (by rw [eT]; exact A.1) (State.isArrayOf_alike hZ.alike A.2.1) hg hs hd t k
theorem lenAz {f : Nat → Value} {ty : FieldType} {z : Int32} (X : Stand p l e R s m args below meth c T locs cells slots) (hx : p.tables.exec = Jvm.exec) (hZ : Z.Warmed39 s.vm) (eT : T.heap = h) (F : Ary Z h a ty n f) (hz : n.toInt32 = z)
    (hg : g.method = m) (hs : g.stack = .ref a :: rest) (hd : decode c.code g.pc = .ok (.arraylength, 1)) : ∀ target, Steps p.tables e below (T.setTop { g with pc := g.pc + 1, stack := .int z :: rest }) target → Steps p.tables e below (T.setTop g) target := fun t k => by
  subst hz
  exact lenA X hx hZ eT F hg hs hd t k
end New
theorem len32 {z : Int32} (q : ¬ z < 0) : z.toNatClampNeg.toInt32 = z := by
  have r := rng32 z
  have e := nat_of q
  apply Int32.toInt_inj.mp
  rw [nat32 (by omega)]; omega
theorem succ32 (j : Nat) : Int32.ofNat j + 1 = Int32.ofNat (j + 1) := by rw [Int32.ofNat_add]; rfl
theorem of_lt {j n : Nat} (hj : j < 2147483648) (hn : n < 2147483648) : Int32.ofNat j < n.toInt32 ↔ j < n := by
  rw [Int32.lt_iff_toInt_lt, show (Int32.ofNat j).toInt = j from Int32.toInt_ofNat_of_lt hj, nat32 hn]; omega
theorem of_nn {j : Nat} (hj : j < 2147483648) : ¬ Int32.ofNat j < 0 := by
  rw [Int32.lt_iff_toInt_lt, show (Int32.ofNat j).toInt = j from Int32.toInt_ofNat_of_lt hj, show (0 : Int32).toInt = 0 by decide]; omega
theorem Ary.len {Z : State} {h : Heap} {a : Addr} {ty : FieldType} {n : Nat} {f : Nat → Value} (F : Ary Z h a ty n f) : n < 2147483648 := by obtain ⟨c, A, hs, hn, -⟩ := F; exact hn
end Jvm.OwnKit
namespace Jvm.Pilot.@@N@@
open Jvm Jvm.ClassFile Sem Op Lib Jvm.Free Jvm.Stand Jvm.LawKit Jvm.RoadKit Jvm.OwnKit Bundle Jvm.Pilot.@@N@@.Jvm.D
theorem d6_0 : decode jdk_29_method_65_code 0 = .ok (.iload_n 0, 1) := by decide +kernel
theorem d6_1 : decode jdk_29_method_65_code 1 = .ok (.iload_n 1, 1) := by decide +kernel
theorem d6_2 : decode jdk_29_method_65_code 2 = .ok (.if_icmp .lt 7, 3) := by decide +kernel
theorem d6_9 : decode jdk_29_method_65_code 9 = .ok (.iload_n 1, 1) := by decide +kernel
theorem d6_10 : decode jdk_29_method_65_code 10 = .ok (.ireturn, 1) := by decide +kernel
theorem d6_5 : decode jdk_29_method_65_code 5 = .ok (.iload_n 0, 1) := by decide +kernel
theorem d6_6 : decode jdk_29_method_65_code 6 = .ok (.goto 4, 3) := by decide +kernel
theorem ef_6 (m : MethodId) (p1 : Int32) (p2 : Int32) : entryFrame m #[(.int p1), (.int p2)] 2 = mkF m 0 #[.val (.int p1), .val (.int p2)] [] := by first | (simp [entryFrame, mkF, argsToLocals, Value.category]; done) | rfl
def f6 (p1 : Int32) (p2 : Int32) : Int32 := (if p1 < p2 then p2 else p1)
set_option maxRecDepth 65536 in
set_option maxHeartbeats 40000000 in
theorem rm6 (l : Launch) (Z : State) (a0 : Array Value) (hw : ∀ d ∈ tables_1, d.before a0 Z = true) (ws : List Jvm.Cond) (p1 : Int32) (p2 : Int32) (h0 : Heap) (n0 : Nat) (Z0 : n0 ≤ h0.size) :
    MetFree l (⟨"java/lang/Math", "max", "(II)I"⟩ : MethodName) (head1 (Jvm.Cond.code (⟨"java/lang/Math", "max", "(II)I"⟩ : MethodName) jdk_29_method_65_code 2 (some .int) :: ws) ({ frames := 0, cells := 0, slots := 0, locals := 0 } : Room)) (fun a U => a = #[(.int p1), (.int p2)] ∧ Z.Warmed39 U.vm ∧ U.heap = h0) (fun _ _ _ _ _ => True) (fun _ U o U' => ∃ v L, o = .returned v ∧ QP (.int (f6 p1 p2)) h0 n0 v U'.heap L ∧ FrameEnd U o U' L ({ frames := 0, cells := 0, slots := 0, locals := 0 } : Room).cells ({ frames := 0, cells := 0, slots := 0, locals := 0 } : Room).slots) := by
  refine MetFree.of_bodySF (Jvm.Free.JP.mathPlain rfl (by decide +kernel)) hisR ?_
  intro p e s m args below meth c s₁ Bd hml0 hP hK
  obtain ⟨rfl, hZ, hh⟩ := hP
  have hx := Bd.exec
  have hby := Bd.bytes
  have hml : c.maxLocals = 2 := hml0
  have hown : s.vm.findClass "java/lang/Math" = some m.cls := findClass_of_methodNamed Bd.named
  have hnm := (name_of_methodNamed Bd.named Bd.method).1
  have X0 : Stand p l e ({ frames := 0, cells := 0, slots := 0, locals := 0 } : Room) s m #[(.int p1), (.int p2)] below meth c s₁ [] 0 0 := Stand.of_body Bd
  have e0 : s₁.heap = h0 := by rw [← hh, Bd.state]; rfl
  have N0 := Fr.nil n0
  refine Go.done (Go.step (fun t k => castTop (ef_6 m p1 p2) k) ?_)
  have KK0 : Keep h0 h0 [] := Keep.refl _ _
  show Go p e below _ (s₁.setTop (mkF m 0 #[.val (.int p1), .val (.int p2)] []))
  refine Go.step (fun t k => XS.iloadN X0.here hx rfl (hb hby d6_0) rfl k) ?_
  show Go p e below _ (s₁.setTop (mkF m 1 #[.val (.int p1), .val (.int p2)] [(.int p1)]))
  refine Go.step (fun t k => XS.iloadN X0.here hx rfl (hb hby d6_1) rfl k) ?_
  show Go p e below _ (s₁.setTop (mkF m 2 #[.val (.int p1), .val (.int p2)] [(.int p2), (.int p1)]))
  by_cases hc3 : p1 < p2
  · refine Go.step (fun t k => XS.icmpYes X0.here hx rfl (pc0 := 2) (pc' := 9) rfl (hb hby d6_2) rfl (tlt hc3).1 (by decide) (by decide) k) ?_
    show Go p e below _ (s₁.setTop (mkF m 9 #[.val (.int p1), .val (.int p2)] []))
    refine Go.step (fun t k => XS.iloadN X0.here hx rfl (hb hby d6_9) rfl k) ?_
    show Go p e below _ (s₁.setTop (mkF m 10 #[.val (.int p1), .val (.int p2)] [(.int p2)]))
    exact retGI X0 hx Bd.notSynchronized Bd.returns (hb hby d6_10) ⟨by first | (simp only [f6, if_pos hc3]; done) | rfl | (simp [f6, if_pos hc3]; done), N0, e0⟩ (by decide) (by decide)
  · refine Go.step (fun t k => XS.icmpNo X0.here hx rfl (hb hby d6_2) rfl (flt hc3).1 k) ?_
    show Go p e below _ (s₁.setTop (mkF m 5 #[.val (.int p1), .val (.int p2)] []))
    refine Go.step (fun t k => XS.iloadN X0.here hx rfl (hb hby d6_5) rfl k) ?_
    show Go p e below _ (s₁.setTop (mkF m 6 #[.val (.int p1), .val (.int p2)] [(.int p1)]))
    refine Go.step (fun t k => XS.goto X0.here hx rfl (pc0 := 6) (pc' := 10) rfl (hb hby d6_6) (by decide) (by decide) k) ?_
    show Go p e below _ (s₁.setTop (mkF m 10 #[.val (.int p1), .val (.int p2)] [(.int p1)]))
    exact retGI X0 hx Bd.notSynchronized Bd.returns (hb hby d6_10) ⟨by first | (simp only [f6, if_neg hc3]; done) | rfl | (simp [f6, if_neg hc3]; done), N0, e0⟩ (by decide) (by decide)
theorem d7_0 : decode prog_20_method_13_code 0 = .ok (.iload_n 0, 1) := by decide +kernel
theorem d7_1 : decode prog_20_method_13_code 1 = .ok (.ifCond .lt 10, 3) := by decide +kernel
theorem d7_4 : decode prog_20_method_13_code 4 = .ok (.iload_n 0, 1) := by decide +kernel
theorem d7_5 : decode prog_20_method_13_code 5 = .ok (.sipush 4096, 3) := by decide +kernel
theorem d7_8 : decode prog_20_method_13_code 8 = .ok (.if_icmp .lt 17, 3) := by decide +kernel
theorem d7_25 : decode prog_20_method_13_code 25 = .ok (.return_, 1) := by decide +kernel
theorem ef_7 (m : MethodId) (p1 : Int32) : entryFrame m #[(.int p1)] 1 = mkF m 0 #[.val (.int p1)] [] := by first | (simp [entryFrame, mkF, argsToLocals, Value.category]; done) | rfl
theorem pn_0 : plainName "com/example/menshen/menshen/core/PermissionSet" = true := by first | (simp [plainName, overriddenIn]; done) | decide +kernel
set_option maxRecDepth 65536 in
set_option maxHeartbeats 40000000 in
theorem rm7 (l : Launch) (Z : State) (a0 : Array Value) (hw : ∀ d ∈ tables_1, d.before a0 Z = true) (ws : List Jvm.Cond) (p1 : Int32) (h0 : Heap) (n0 : Nat) (Z0 : n0 ≤ h0.size) (hp1 : ¬ (p1 < (0 : Int32))) (hp8 : p1 < (4096 : Int32)) :
    MetFree l (⟨"com/example/menshen/menshen/core/PermissionSet", "checkBit", "(I)V"⟩ : MethodName) (head1 (Jvm.Cond.code (⟨"com/example/menshen/menshen/core/PermissionSet", "checkBit", "(I)V"⟩ : MethodName) prog_20_method_13_code 1 none :: ws) ({ frames := 0, cells := 0, slots := 0, locals := 0 } : Room)) (fun a U => a = #[(.int p1)] ∧ Z.Warmed39 U.vm ∧ U.heap = h0) (fun _ _ _ _ _ => True) (fun _ U o U' => ∃ v L, o = .returned v ∧ QV h0 n0 v U'.heap L ∧ FrameEnd U o U' L ({ frames := 0, cells := 0, slots := 0, locals := 0 } : Room).cells ({ frames := 0, cells := 0, slots := 0, locals := 0 } : Room).slots) := by
  refine MetFree.of_bodySF (plainFor_of_name pn_0) hisR ?_
  intro p e s m args below meth c s₁ Bd hml0 hP hK
  obtain ⟨rfl, hZ, hh⟩ := hP
  have hx := Bd.exec
  have hby := Bd.bytes
  have hml : c.maxLocals = 1 := hml0
  have hown : s.vm.findClass "com/example/menshen/menshen/core/PermissionSet" = some m.cls := findClass_of_methodNamed Bd.named
  have hnm := (name_of_methodNamed Bd.named Bd.method).1
  have X0 : Stand p l e ({ frames := 0, cells := 0, slots := 0, locals := 0 } : Room) s m #[(.int p1)] below meth c s₁ [] 0 0 := Stand.of_body Bd
  have e0 : s₁.heap = h0 := by rw [← hh, Bd.state]; rfl
  have N0 := Fr.nil n0
  refine Go.done (Go.step (fun t k => castTop (ef_7 m p1) k) ?_)
  have KK0 : Keep h0 h0 [] := Keep.refl _ _
  show Go p e below _ (s₁.setTop (mkF m 0 #[.val (.int p1)] []))
  refine Go.step (fun t k => XS.iloadN X0.here hx rfl (hb hby d7_0) rfl k) ?_
  show Go p e below _ (s₁.setTop (mkF m 1 #[.val (.int p1)] [(.int p1)]))
  refine Go.step (fun t k => XS.ifNo X0.here hx rfl (hb hby d7_1) rfl ((if0 _ _).trans (flt hp1).1) k) ?_
  show Go p e below _ (s₁.setTop (mkF m 4 #[.val (.int p1)] []))
  refine Go.step (fun t k => XS.iloadN X0.here hx rfl (hb hby d7_4) rfl k) ?_
  show Go p e below _ (s₁.setTop (mkF m 5 #[.val (.int p1)] [(.int p1)]))
  refine Go.step (fun t k => XS.sipush X0.here hx rfl (hb hby d7_5)  k) ?_
  show Go p e below _ (s₁.setTop (mkF m 8 #[.val (.int p1)] [(.int (4096 : Int32)), (.int p1)]))
  refine Go.step (fun t k => XS.icmpYes X0.here hx rfl (pc0 := 8) (pc' := 25) rfl (hb hby d7_8) rfl (tlt hp8).1 (by decide) (by decide) k) ?_
  show Go p e below _ (s₁.setTop (mkF m 25 #[.val (.int p1)] []))
  exact retGV X0 hx Bd.notSynchronized Bd.returns (hb hby d7_25) ⟨rfl, N0, e0⟩ (by decide) (by decide)
theorem d8_0 : decode jdk_33_method_42_code 0 = .ok (.iload_n 0, 1) := by decide +kernel
theorem d8_1 : decode jdk_33_method_42_code 1 = .ok (.i2l, 1) := by decide +kernel
theorem d8_2 : decode jdk_33_method_42_code 2 = .ok (.ldc2_w 262, 3) := by decide +kernel
theorem d8_5 : decode jdk_33_method_42_code 5 = .ok (.land, 1) := by decide +kernel
theorem d8_6 : decode jdk_33_method_42_code 6 = .ok (.lreturn, 1) := by decide +kernel
theorem ef_8 (m : MethodId) (p1 : Int32) : entryFrame m #[(.int p1)] 1 = mkF m 0 #[.val (.int p1)] [] := by first | (simp [entryFrame, mkF, argsToLocals, Value.category]; done) | rfl
theorem pn_1 : plainName "java/lang/Integer" = true := by first | (simp [plainName, overriddenIn]; done) | decide +kernel
def f8 (p1 : Int32) : Int64 := ((p1.toInt64) &&& (4294967295 : Int64))
set_option maxRecDepth 65536 in
set_option maxHeartbeats 40000000 in
theorem rm8 (l : Launch) (Z : State) (a0 : Array Value) (hw : ∀ d ∈ tables_1, d.before a0 Z = true) (ws : List Jvm.Cond) (p1 : Int32) (h0 : Heap) (n0 : Nat) (Z0 : n0 ≤ h0.size) :
    MetFree l (⟨"java/lang/Integer", "toUnsignedLong", "(I)J"⟩ : MethodName) (head1 (Jvm.Cond.code (⟨"java/lang/Integer", "toUnsignedLong", "(I)J"⟩ : MethodName) jdk_33_method_42_code 1 (some .long) :: ws) ({ frames := 0, cells := 0, slots := 0, locals := 0 } : Room)) (fun a U => a = #[(.int p1)] ∧ Z.Warmed39 U.vm ∧ U.heap = h0) (fun _ _ _ _ _ => True) (fun _ U o U' => ∃ v L, o = .returned v ∧ QP (.long (f8 p1)) h0 n0 v U'.heap L ∧ FrameEnd U o U' L ({ frames := 0, cells := 0, slots := 0, locals := 0 } : Room).cells ({ frames := 0, cells := 0, slots := 0, locals := 0 } : Room).slots) := by
  refine MetFree.of_bodySF (plainFor_of_name pn_1) hisR ?_
  intro p e s m args below meth c s₁ Bd hml0 hP hK
  obtain ⟨rfl, hZ, hh⟩ := hP
  have hx := Bd.exec
  have hby := Bd.bytes
  have hml : c.maxLocals = 1 := hml0
  have hown : s.vm.findClass "java/lang/Integer" = some m.cls := findClass_of_methodNamed Bd.named
  have hnm := (name_of_methodNamed Bd.named Bd.method).1
  have X0 : Stand p l e ({ frames := 0, cells := 0, slots := 0, locals := 0 } : Room) s m #[(.int p1)] below meth c s₁ [] 0 0 := Stand.of_body Bd
  have e0 : s₁.heap = h0 := by rw [← hh, Bd.state]; rfl
  have N0 := Fr.nil n0
  refine Go.done (Go.step (fun t k => castTop (ef_8 m p1) k) ?_)
  have KK0 : Keep h0 h0 [] := Keep.refl _ _
  show Go p e below _ (s₁.setTop (mkF m 0 #[.val (.int p1)] []))
  refine Go.step (fun t k => XS.iloadN X0.here hx rfl (hb hby d8_0) rfl k) ?_
  show Go p e below _ (s₁.setTop (mkF m 1 #[.val (.int p1)] [(.int p1)]))
  refine Go.step (fun t k => XS.i2l X0.here hx rfl (hb hby d8_1) rfl k) ?_
  show Go p e below _ (s₁.setTop (mkF m 2 #[.val (.int p1)] [(.long (p1.toInt64))]))
  refine Go.step (X0.ldc2Long hx hown (mvT hZ (hw _ (List.mem_of_getElem? (i := 38) rfl))) (g := (mkF m 2 #[.val (.int p1)] [(.long (p1.toInt64))])) rfl (hb hby d8_2)) ?_
  show Go p e below _ (s₁.setTop (mkF m 5 #[.val (.int p1)] [(.long (4294967295 : Int64)), (.long (p1.toInt64))]))
  refine Go.step (fun t k => XS.land X0.here hx rfl (hb hby d8_5) rfl k) ?_
  show Go p e below _ (s₁.setTop (mkF m 6 #[.val (.int p1)] [(.long ((p1.toInt64) &&& (4294967295 : Int64)))]))
  exact retGJ X0 hx Bd.notSynchronized Bd.returns (hb hby d8_6) ⟨by first | rfl | (simp only [f8]; done) | (simp [f8]; done), N0, e0⟩ (by decide) (by decide)

def orW (g : Nat → Int32) (x : Int32) : Nat → Int32 := upA g (x / (32 : Int32)).toNatClampNeg ((g (x / (32 : Int32)).toNatClampNeg) ||| ((1 : Int32) <<< ((x % (32 : Int32)) &&& 31)))
def zW : Nat → Int32 := fun _ => 0
theorem clamp_of {x : Int32} (h : 0 ≤ x.toInt) : (x.toNatClampNeg : Int) = x.toInt := by
  show (x.toInt.toNat : Int) = x.toInt
  omega
theorem nn_iff (x : Int32) : ¬ x < 0 ↔ 0 ≤ x.toInt := by
  rw [Int32.lt_iff_toInt_lt, show (0 : Int32).toInt = 0 by decide]; omega
theorem divI {x y : Int32} (d : Int) (hy : y.toInt = d) (hd : d ≠ -1) (hx : 0 ≤ x.toInt) : (x / y).toInt = x.toInt / d := by
  refine (c_idiv x y d hy ?_).1 hx
  intro h; rw [h] at hy; exact hd (hy.symm.trans (by decide))
/-- a number of a permission -/
def Bit (x : Int32) : Prop := 0 ≤ x.toInt ∧ x.toInt < 4096
theorem Bit.ge {x : Int32} (h : Bit x) : ¬ x < (0 : Int32) := (nn_iff x).mpr h.1
theorem Bit.lt {x : Int32} (h : Bit x) : x < (4096 : Int32) := by rw [Int32.lt_iff_toInt_lt]; exact h.2
/-- the highest so far -/
def Hi (x : Int32) : Prop := -1 ≤ x.toInt ∧ x.toInt < 4096
theorem Hi.m1 : Hi (-1) := by constructor <;> decide
theorem Hi.max {h x : Int32} (H : Hi h) (B : Bit x) : Hi (f6 h x) ∧ h.toInt ≤ (f6 h x).toInt ∧ x.toInt ≤ (f6 h x).toInt := by
  unfold f6; split
  · rename_i q; rw [Int32.lt_iff_toInt_lt] at q; exact ⟨⟨by have := B.1; omega, B.2⟩, by omega, by omega⟩
  · rename_i q; rw [Int32.lt_iff_toInt_lt] at q; exact ⟨H, by omega, by omega⟩
theorem Hi.size {h : Int32} (H : Hi h) : ((h + (32 : Int32)) / (32 : Int32)).toInt = (h.toInt + 32) / 32 := by
  have e : (32 : Int32).toInt = 32 := by decide
  have h1 := H.1; have h2 := H.2
  have k : (h + 32).toInt = h.toInt + 32 := by rw [addI] <;> rw [e] <;> omega
  rw [divI 32 e (by decide) (by omega), k]
theorem Hi.sz {h : Int32} (H : Hi h) : ¬ ((h + (32 : Int32)) / (32 : Int32)) < 0 ∧ ((h + (32 : Int32)) / (32 : Int32)).toNatClampNeg ≤ 128 ∧ (((h + (32 : Int32)) / (32 : Int32)).toNatClampNeg : Int) = (h.toInt + 32) / 32 := by
  have k := H.size
  have h1 := H.1; have h2 := H.2
  have c := clamp_of (x := (h + (32 : Int32)) / (32 : Int32)) (by omega)
  exact ⟨(nn_iff _).mpr (by omega), by omega, by omega⟩
theorem Bit.word {x : Int32} (B : Bit x) : (x / (32 : Int32)).toInt = x.toInt / 32 := divI 32 (by decide) (by decide) B.1
theorem Bit.at {h x : Int32} (H : Hi h) (B : Bit x) (q : x.toInt ≤ h.toInt) : ¬ (x / (32 : Int32)) < 0 ∧ (x / (32 : Int32)).toNatClampNeg < ((h + (32 : Int32)) / (32 : Int32)).toNatClampNeg := by
  have k := B.word
  have b1 := B.1; have b2 := B.2
  have c := clamp_of (x := x / (32 : Int32)) (by omega)
  have z := H.sz.2.2
  exact ⟨(nn_iff _).mpr (by omega), by omega⟩

theorem d3_0 : decode prog_20_method_1_code 0 = .ok (.aload_n 0, 1) := by decide +kernel
theorem d3_1 : decode prog_20_method_1_code 1 = .ok (.invokespecial 3, 3) := by decide +kernel
theorem d3_4 : decode prog_20_method_1_code 4 = .ok (.aload_n 0, 1) := by decide +kernel
theorem d3_5 : decode prog_20_method_1_code 5 = .ok (.aload_n 1, 1) := by decide +kernel
theorem d3_6 : decode prog_20_method_1_code 6 = .ok (.putfield 9, 3) := by decide +kernel
theorem d3_9 : decode prog_20_method_1_code 9 = .ok (.return_, 1) := by decide +kernel
theorem ef_3 (m : MethodId) (a1 : Addr) (a2 : Addr) : entryFrame m #[(.ref a1), (.ref a2)] 2 = mkF m 0 #[.val (.ref a1), .val (.ref a2)] [] := by first | (simp [entryFrame, mkF, argsToLocals, Value.category]; done) | rfl
def Q3 (Z : State) (a1 : Addr) (a2 : Addr) (u_words_a1 : Value) (h0 : Heap) (n0 : Nat) (v : Option Value) (h : Heap) (L : List Loc) : Prop := v = none ∧ Fr n0 L ∧ Keep h0 h [a1] ∧ Exa Z h a1 "com/example/menshen/menshen/core/PermissionSet" ∧ Fld Z h a1 "com/example/menshen/menshen/core/PermissionSet" "words" "[I" (.ref a2)
set_option maxRecDepth 65536 in
set_option maxHeartbeats 40000000 in
theorem rm3 (l : Launch) (Z : State) (a0 : Array Value) (hw : ∀ d ∈ tables_1, d.before a0 Z = true) (ws : List Jvm.Cond) (a1 : Addr) (a2 : Addr) (u_words_a1 : Value) (h0 : Heap) (n0 : Nat) (Z0 : n0 ≤ h0.size) (E_a1 : Exa Z h0 a1 "com/example/menshen/menshen/core/PermissionSet") (F_words_a1 : Fld Z h0 a1 "com/example/menshen/menshen/core/PermissionSet" "words" "[I" u_words_a1) (g_a1 : n0 ≤ a1) :
    MetFree l (⟨"com/example/menshen/menshen/core/PermissionSet", "<init>", "([I)V"⟩ : MethodName) (head1 (Jvm.Cond.code (⟨"com/example/menshen/menshen/core/PermissionSet", "<init>", "([I)V"⟩ : MethodName) prog_20_method_1_code 2 none :: ws) ({ frames := 1, cells := 0, slots := 0, locals := 12 } : Room)) (fun a U => a = #[(.ref a1), (.ref a2)] ∧ Z.Warmed39 U.vm ∧ U.heap = h0) (fun _ _ _ _ _ => True) (fun _ U o U' => ∃ v L, o = .returned v ∧ Q3 Z a1 a2 u_words_a1 h0 n0 v U'.heap L ∧ FrameEnd U o U' L ({ frames := 1, cells := 0, slots := 0, locals := 12 } : Room).cells ({ frames := 1, cells := 0, slots := 0, locals := 12 } : Room).slots) := by
  refine MetFree.of_bodySF (plainFor_of_name pn_0) hisR ?_
  intro p e s m args below meth c s₁ Bd hml0 hP hK
  obtain ⟨rfl, hZ, hh⟩ := hP
  have hx := Bd.exec
  have hby := Bd.bytes
  have hml : c.maxLocals = 2 := hml0
  have hown : s.vm.findClass "com/example/menshen/menshen/core/PermissionSet" = some m.cls := findClass_of_methodNamed Bd.named
  have hnm := (name_of_methodNamed Bd.named Bd.method).1
  have X0 : Stand p l e ({ frames := 1, cells := 0, slots := 0, locals := 12 } : Room) s m #[(.ref a1), (.ref a2)] below meth c s₁ [] 0 0 := Stand.of_body Bd
  have e0 : s₁.heap = h0 := by rw [← hh, Bd.state]; rfl
  have N0 := Fr.nil n0
  refine Go.done (Go.step (fun t k => castTop (ef_3 m a1 a2) k) ?_)
  have KK0 : Keep h0 h0 [a1] := Keep.refl _ _
  show Go p e below _ (s₁.setTop (mkF m 0 #[.val (.ref a1), .val (.ref a2)] []))
  refine Go.step (fun t k => XS.aloadN X0.here hx rfl (hb hby d3_0) rfl rfl k) ?_
  show Go p e below _ (s₁.setTop (mkF m 1 #[.val (.ref a1), .val (.ref a2)] [(.ref a1)]))
  obtain ⟨T3, X3, e3, st3⟩ := initO X0 hx hZ hown (hw _ (List.mem_of_getElem? (i := 14) rfl)) (hw _ (List.mem_of_getElem? (i := 15) rfl)) (hw _ (List.mem_of_getElem? (i := 16) rfl)) e0 (g := (mkF m 1 #[.val (.ref a1), .val (.ref a2)] [(.ref a1)])) rfl (by rw [hml]; rfl) rfl (hb hby d3_1) (by decide) (W := 0) (by show 2 * 0 + _ ≤ _; exact Nat.le_of_eq rfl) (by decide)
  refine Go.step st3 ?_
  show Go p e below _ (T3.setTop (mkF m 4 #[.val (.ref a1), .val (.ref a2)] []))
  refine Go.step (fun t k => XS.aloadN X3.here hx rfl (hb hby d3_4) rfl rfl k) ?_
  show Go p e below _ (T3.setTop (mkF m 5 #[.val (.ref a1), .val (.ref a2)] [(.ref a1)]))
  refine Go.step (fun t k => XS.aloadN X3.here hx rfl (hb hby d3_5) rfl rfl k) ?_
  show Go p e below _ (T3.setTop (mkF m 6 #[.val (.ref a1), .val (.ref a2)] [(.ref a2), (.ref a1)]))
  obtain ⟨T4, h4, X4, e4, W4, st4⟩ := putF X3 hx hZ hown (host := "") (Or.inl (hw _ (List.mem_of_getElem? (i := 17) rfl))) Via.refl e3 F_words_a1 E_a1 (Or.inr ⟨(hw _ (List.mem_of_getElem? (i := 18) rfl)), rfl, hnm⟩) (hw _ (List.mem_of_getElem? (i := 10) rfl)) (ty := (.array .int)) (by decide) rfl rfl (g := (mkF m 6 #[.val (.ref a1), .val (.ref a2)] [(.ref a2), (.ref a1)])) rfl rfl (hb hby d3_6)
  refine Go.step st4 ?_
  have N4 := Fr.snoc X4 N0 g_a1
  have E_a1_4 := E_a1.wr W4
  have Z4 := Nat.le_trans Z0 (Keep.of_wr W4).1
  have KK4 : Keep h0 h4 [a1] := KK0.wr W4 (Or.inl (by simp))
  have F_words_a1_4 := F_words_a1.same W4
  show Go p e below _ (T4.setTop (mkF m 9 #[.val (.ref a1), .val (.ref a2)] []))
  refine retGV X4 hx Bd.notSynchronized Bd.returns (hb hby d3_9) ?_ (by decide) (by decide)
  show Q3 Z a1 a2 u_words_a1 h0 n0 _ T4.heap _
  rw [e4]
  exact ⟨rfl, N4, KK4, E_a1_4, F_words_a1_4⟩
theorem d2_0 : decode prog_20_method_3_code 0 = .ok (.iconst (-1), 1) := by decide +kernel
theorem d2_1 : decode prog_20_method_3_code 1 = .ok (.istore_n 1, 1) := by decide +kernel
theorem d2_2 : decode prog_20_method_3_code 2 = .ok (.aload_n 0, 1) := by decide +kernel
theorem d2_3 : decode prog_20_method_3_code 3 = .ok (.astore_n 2, 1) := by decide +kernel
theorem d2_4 : decode prog_20_method_3_code 4 = .ok (.aload_n 2, 1) := by decide +kernel
theorem d2_5 : decode prog_20_method_3_code 5 = .ok (.arraylength, 1) := by decide +kernel
theorem d2_6 : decode prog_20_method_3_code 6 = .ok (.istore_n 3, 1) := by decide +kernel
theorem d2_7 : decode prog_20_method_3_code 7 = .ok (.iconst 0, 1) := by decide +kernel
theorem d2_8 : decode prog_20_method_3_code 8 = .ok (.istore 4, 2) := by decide +kernel
theorem d2_10 : decode prog_20_method_3_code 10 = .ok (.iload 4, 2) := by decide +kernel
theorem d2_12 : decode prog_20_method_3_code 12 = .ok (.iload_n 3, 1) := by decide +kernel
theorem d2_13 : decode prog_20_method_3_code 13 = .ok (.if_icmp .ge 27, 3) := by decide +kernel
theorem d2_40 : decode prog_20_method_3_code 40 = .ok (.iload_n 1, 1) := by decide +kernel
theorem d2_41 : decode prog_20_method_3_code 41 = .ok (.bipush 32, 2) := by decide +kernel
theorem d2_43 : decode prog_20_method_3_code 43 = .ok (.iadd, 1) := by decide +kernel
theorem d2_44 : decode prog_20_method_3_code 44 = .ok (.bipush 32, 2) := by decide +kernel
theorem d2_46 : decode prog_20_method_3_code 46 = .ok (.idiv, 1) := by decide +kernel
theorem d2_47 : decode prog_20_method_3_code 47 = .ok (.newarray .int, 2) := by decide +kernel
theorem d2_49 : decode prog_20_method_3_code 49 = .ok (.astore_n 2, 1) := by decide +kernel
theorem d2_50 : decode prog_20_method_3_code 50 = .ok (.aload_n 0, 1) := by decide +kernel
theorem d2_51 : decode prog_20_method_3_code 51 = .ok (.astore_n 3, 1) := by decide +kernel
theorem d2_52 : decode prog_20_method_3_code 52 = .ok (.aload_n 3, 1) := by decide +kernel
theorem d2_53 : decode prog_20_method_3_code 53 = .ok (.arraylength, 1) := by decide +kernel
theorem d2_54 : decode prog_20_method_3_code 54 = .ok (.istore 4, 2) := by decide +kernel
theorem d2_56 : decode prog_20_method_3_code 56 = .ok (.iconst 0, 1) := by decide +kernel
theorem d2_57 : decode prog_20_method_3_code 57 = .ok (.istore 5, 2) := by decide +kernel
theorem d2_59 : decode prog_20_method_3_code 59 = .ok (.iload 5, 2) := by decide +kernel
theorem d2_61 : decode prog_20_method_3_code 61 = .ok (.iload 4, 2) := by decide +kernel
theorem d2_63 : decode prog_20_method_3_code 63 = .ok (.if_icmp .ge 32, 3) := by decide +kernel
theorem d2_95 : decode prog_20_method_3_code 95 = .ok (.new 10, 3) := by decide +kernel
theorem d2_98 : decode prog_20_method_3_code 98 = .ok (.dup, 1) := by decide +kernel
theorem d2_99 : decode prog_20_method_3_code 99 = .ok (.aload_n 2, 1) := by decide +kernel
theorem d2_100 : decode prog_20_method_3_code 100 = .ok (.invokespecial 29, 3) := by decide +kernel
theorem pd_0 : parseMethodDescriptor "([I)V" = some ⟨[(.array .int)], none⟩ := by decide +kernel
theorem d2_103 : decode prog_20_method_3_code 103 = .ok (.areturn, 1) := by decide +kernel
theorem ef_2_0 (m : MethodId) (a1 : Addr) : entryFrame m #[(.ref a1)] 7 = mkF m 0 #[.val (.ref a1), .unset, .unset, .unset, .unset, .unset, .unset] [] := by first | (simp [entryFrame, mkF, argsToLocals, Value.category]; done) | rfl
def Q2_0 (Z : State) (a1 : Addr) (g_a1f : Nat → Int32) (h0 : Heap) (n0 : Nat) (v : Option Value) (h : Heap) (L : List Loc) : Prop := ∃ (b3 : Addr) (b2 : Addr), v = some (.ref b3) ∧ Fr n0 L ∧ Keep h0 h [] ∧ h0.size ≤ b3 ∧ h0.size ≤ b2 ∧ Ary Z h b2 .int 0 (fun i => .int ((fun _ => (0 : Int32)) i)) ∧ Exa Z h b3 "com/example/menshen/menshen/core/PermissionSet" ∧ Fld Z h b3 "com/example/menshen/menshen/core/PermissionSet" "words" "[I" (.ref b2)
set_option maxRecDepth 65536 in
set_option maxHeartbeats 40000000 in
theorem rm2_0 (l : Launch) (Z : State) (a0 : Array Value) (hw : ∀ d ∈ tables_1, d.before a0 Z = true) (ws : List Jvm.Cond) (a1 : Addr) (g_a1f : Nat → Int32) (h0 : Heap) (n0 : Nat) (Z0 : n0 ≤ h0.size) (A_a1 : Ary Z h0 a1 .int 0 (fun i => .int (g_a1f i))) :
    MetFree l (⟨"com/example/menshen/menshen/core/PermissionSet", "of", "([I)Lcom/example/menshen/menshen/core/PermissionSet;"⟩ : MethodName) (head1 (Jvm.Cond.code (⟨"com/example/menshen/menshen/core/PermissionSet", "of", "([I)Lcom/example/menshen/menshen/core/PermissionSet;"⟩ : MethodName) prog_20_method_3_code 7 (some (.object "com/example/menshen/menshen/core/PermissionSet")) :: ws) ({ frames := 2, cells := 2, slots := 1, locals := 26 } : Room)) (fun a U => a = #[(.ref a1)] ∧ Z.Warmed39 U.vm ∧ U.heap = h0) (fun _ _ _ _ _ => True) (fun _ U o U' => ∃ v L, o = .returned v ∧ Q2_0 Z a1 g_a1f h0 n0 v U'.heap L ∧ FrameEnd U o U' L ({ frames := 2, cells := 2, slots := 1, locals := 26 } : Room).cells ({ frames := 2, cells := 2, slots := 1, locals := 26 } : Room).slots) := by
  refine MetFree.of_bodySF (plainFor_of_name pn_0) hisR ?_
  intro p e s m args below meth c s₁ Bd hml0 hP hK
  obtain ⟨rfl, hZ, hh⟩ := hP
  have hx := Bd.exec
  have hby := Bd.bytes
  have hml : c.maxLocals = 7 := hml0
  have hown : s.vm.findClass "com/example/menshen/menshen/core/PermissionSet" = some m.cls := findClass_of_methodNamed Bd.named
  have hnm := (name_of_methodNamed Bd.named Bd.method).1
  have X0 : Stand p l e ({ frames := 2, cells := 2, slots := 1, locals := 26 } : Room) s m #[(.ref a1)] below meth c s₁ [] 0 0 := Stand.of_body Bd
  have e0 : s₁.heap = h0 := by rw [← hh, Bd.state]; rfl
  have N0 := Fr.nil n0
  refine Go.done (Go.step (fun t k => castTop (ef_2_0 m a1) k) ?_)
  have KK0 : Keep h0 h0 [] := Keep.refl _ _
  show Go p e below _ (s₁.setTop (mkF m 0 #[.val (.ref a1), .unset, .unset, .unset, .unset, .unset, .unset] []))
  refine Go.step (fun t k => XS.iconst X0.here hx rfl (hb hby d2_0)  k) ?_
  show Go p e below _ (s₁.setTop (mkF m 1 #[.val (.ref a1), .unset, .unset, .unset, .unset, .unset, .unset] [(.int (-1 : Int32))]))
  refine Go.step (fun t k => XS.istoreN X0.here hx rfl (hb hby d2_1) rfl (l' := #[.val (.ref a1), .val (.int (-1 : Int32)), .unset, .unset, .unset, .unset, .unset]) rfl k) ?_
  show Go p e below _ (s₁.setTop (mkF m 2 #[.val (.ref a1), .val (.int (-1 : Int32)), .unset, .unset, .unset, .unset, .unset] []))
  refine Go.step (fun t k => XS.aloadN X0.here hx rfl (hb hby d2_2) rfl rfl k) ?_
  show Go p e below _ (s₁.setTop (mkF m 3 #[.val (.ref a1), .val (.int (-1 : Int32)), .unset, .unset, .unset, .unset, .unset] [(.ref a1)]))
  refine Go.step (fun t k => XS.astoreN X0.here hx rfl (hb hby d2_3) rfl rfl (l' := #[.val (.ref a1), .val (.int (-1 : Int32)), .val (.ref a1), .unset, .unset, .unset, .unset]) rfl k) ?_
  show Go p e below _ (s₁.setTop (mkF m 4 #[.val (.ref a1), .val (.int (-1 : Int32)), .val (.ref a1), .unset, .unset, .unset, .unset] []))
  refine Go.step (fun t k => XS.aloadN X0.here hx rfl (hb hby d2_4) rfl rfl k) ?_
  show Go p e below _ (s₁.setTop (mkF m 5 #[.val (.ref a1), .val (.int (-1 : Int32)), .val (.ref a1), .unset, .unset, .unset, .unset] [(.ref a1)]))
  refine Go.step (lenA X0 hx hZ e0 A_a1 (g := (mkF m 5 #[.val (.ref a1), .val (.int (-1 : Int32)), .val (.ref a1), .unset, .unset, .unset, .unset] [(.ref a1)])) rfl rfl (hb hby d2_5)) ?_
  show Go p e below _ (s₁.setTop (mkF m 6 #[.val (.ref a1), .val (.int (-1 : Int32)), .val (.ref a1), .unset, .unset, .unset, .unset] [(.int (0 : Int32))]))
  refine Go.step (fun t k => XS.istoreN X0.here hx rfl (hb hby d2_6) rfl (l' := #[.val (.ref a1), .val (.int (-1 : Int32)), .val (.ref a1), .val (.int (0 : Int32)), .unset, .unset, .unset]) rfl k) ?_
  show Go p e below _ (s₁.setTop (mkF m 7 #[.val (.ref a1), .val (.int (-1 : Int32)), .val (.ref a1), .val (.int (0 : Int32)), .unset, .unset, .unset] []))
  refine Go.step (fun t k => XS.iconst X0.here hx rfl (hb hby d2_7)  k) ?_
  show Go p e below _ (s₁.setTop (mkF m 8 #[.val (.ref a1), .val (.int (-1 : Int32)), .val (.ref a1), .val (.int (0 : Int32)), .unset, .unset, .unset] [(.int (0 : Int32))]))
  refine Go.step (fun t k => XS.istore X0.here hx rfl (hb hby d2_8) rfl (l' := #[.val (.ref a1), .val (.int (-1 : Int32)), .val (.ref a1), .val (.int (0 : Int32)), .val (.int (0 : Int32)), .unset, .unset]) rfl k) ?_
  show Go p e below _ (s₁.setTop (mkF m 10 #[.val (.ref a1), .val (.int (-1 : Int32)), .val (.ref a1), .val (.int (0 : Int32)), .val (.int (0 : Int32)), .unset, .unset] []))
  refine Go.step (fun t k => XS.iload X0.here hx rfl (hb hby d2_10) rfl k) ?_
  show Go p e below _ (s₁.setTop (mkF m 12 #[.val (.ref a1), .val (.int (-1 : Int32)), .val (.ref a1), .val (.int (0 : Int32)), .val (.int (0 : Int32)), .unset, .unset] [(.int (0 : Int32))]))
  refine Go.step (fun t k => XS.iloadN X0.here hx rfl (hb hby d2_12) rfl k) ?_
  show Go p e below _ (s₁.setTop (mkF m 13 #[.val (.ref a1), .val (.int (-1 : Int32)), .val (.ref a1), .val (.int (0 : Int32)), .val (.int (0 : Int32)), .unset, .unset] [(.int (0 : Int32)), (.int (0 : Int32))]))
  refine Go.step (fun t k => XS.icmpYes X0.here hx rfl (pc0 := 13) (pc' := 40) rfl (hb hby d2_13) rfl (flt (by decide : ¬ ((0 : Int32) < (0 : Int32)))).2.1 (by decide) (by decide) k) ?_
  show Go p e below _ (s₁.setTop (mkF m 40 #[.val (.ref a1), .val (.int (-1 : Int32)), .val (.ref a1), .val (.int (0 : Int32)), .val (.int (0 : Int32)), .unset, .unset] []))
  refine Go.step (fun t k => XS.iloadN X0.here hx rfl (hb hby d2_40) rfl k) ?_
  show Go p e below _ (s₁.setTop (mkF m 41 #[.val (.ref a1), .val (.int (-1 : Int32)), .val (.ref a1), .val (.int (0 : Int32)), .val (.int (0 : Int32)), .unset, .unset] [(.int (-1 : Int32))]))
  refine Go.step (fun t k => XS.bipush X0.here hx rfl (hb hby d2_41)  k) ?_
  show Go p e below _ (s₁.setTop (mkF m 43 #[.val (.ref a1), .val (.int (-1 : Int32)), .val (.ref a1), .val (.int (0 : Int32)), .val (.int (0 : Int32)), .unset, .unset] [(.int (32 : Int32)), (.int (-1 : Int32))]))
  refine Go.step (fun t k => XS.iadd X0.here hx rfl (hb hby d2_43) rfl k) ?_
  show Go p e below _ (s₁.setTop (mkF m 44 #[.val (.ref a1), .val (.int (-1 : Int32)), .val (.ref a1), .val (.int (0 : Int32)), .val (.int (0 : Int32)), .unset, .unset] [(.int (31 : Int32))]))
  refine Go.step (fun t k => XS.bipush X0.here hx rfl (hb hby d2_44)  k) ?_
  show Go p e below _ (s₁.setTop (mkF m 46 #[.val (.ref a1), .val (.int (-1 : Int32)), .val (.ref a1), .val (.int (0 : Int32)), .val (.int (0 : Int32)), .unset, .unset] [(.int (32 : Int32)), (.int (31 : Int32))]))
  refine Go.step (fun t k => XS.idiv X0.here hx rfl (hb hby d2_46) rfl (by decide) k) ?_
  show Go p e below _ (s₁.setTop (mkF m 47 #[.val (.ref a1), .val (.int (-1 : Int32)), .val (.ref a1), .val (.int (0 : Int32)), .val (.int (0 : Int32)), .unset, .unset] [(.int (0 : Int32))]))
  obtain ⟨T2, h2, k2, X2, e2, E2, A2, st2⟩ := newP X0 hx hZ (hw _ (List.mem_of_getElem? (i := 4) rfl)) e0 (g := (mkF m 47 #[.val (.ref a1), .val (.int (-1 : Int32)), .val (.ref a1), .val (.int (0 : Int32)), .val (.int (0 : Int32)), .unset, .unset] [(.int (0 : Int32))])) rfl (hb hby d2_47) rfl (by decide) (cap := 0) (by decide) (by decide) (by decide) (by decide)
  obtain ⟨b2, g2⟩ : ∃ z, z = h0.size := ⟨_, rfl⟩
  rw [← g2] at A2 st2
  have g_b2 : n0 ≤ b2 := Nat.le_trans Z0 (Nat.le_of_eq g2.symm)
  have sz_b2 : h0.size ≤ b2 := Nat.le_trans KK0.1 (Nat.le_of_eq g2.symm)
  have ne_a1_b2 : a1 ≠ b2 := Nat.ne_of_lt (Nat.lt_of_lt_of_le A_a1.lt (Nat.le_of_eq g2.symm))
  refine Go.step st2 ?_
  have A_a1_2 := A_a1.ext E2
  have Z2 := Nat.le_trans Z0 E2.1
  have KK2 : Keep h0 h2 [] := KK0.ext E2
  have A_b2_2 : Ary Z h2 b2 .int 0 (fun i => .int ((fun _ => (0 : Int32)) i)) := Ary.mk A2 (by decide) (by decide)
  show Go p e below _ (T2.setTop (mkF m 49 #[.val (.ref a1), .val (.int (-1 : Int32)), .val (.ref a1), .val (.int (0 : Int32)), .val (.int (0 : Int32)), .unset, .unset] [(.ref b2)]))
  refine Go.step (fun t k => XS.astoreN X2.here hx rfl (hb hby d2_49) rfl rfl (l' := #[.val (.ref a1), .val (.int (-1 : Int32)), .val (.ref b2), .val (.int (0 : Int32)), .val (.int (0 : Int32)), .unset, .unset]) rfl k) ?_
  show Go p e below _ (T2.setTop (mkF m 50 #[.val (.ref a1), .val (.int (-1 : Int32)), .val (.ref b2), .val (.int (0 : Int32)), .val (.int (0 : Int32)), .unset, .unset] []))
  refine Go.step (fun t k => XS.aloadN X2.here hx rfl (hb hby d2_50) rfl rfl k) ?_
  show Go p e below _ (T2.setTop (mkF m 51 #[.val (.ref a1), .val (.int (-1 : Int32)), .val (.ref b2), .val (.int (0 : Int32)), .val (.int (0 : Int32)), .unset, .unset] [(.ref a1)]))
  refine Go.step (fun t k => XS.astoreN X2.here hx rfl (hb hby d2_51) rfl rfl (l' := #[.val (.ref a1), .val (.int (-1 : Int32)), .val (.ref b2), .val (.ref a1), .val (.int (0 : Int32)), .unset, .unset]) rfl k) ?_
  show Go p e below _ (T2.setTop (mkF m 52 #[.val (.ref a1), .val (.int (-1 : Int32)), .val (.ref b2), .val (.ref a1), .val (.int (0 : Int32)), .unset, .unset] []))
  refine Go.step (fun t k => XS.aloadN X2.here hx rfl (hb hby d2_52) rfl rfl k) ?_
  show Go p e below _ (T2.setTop (mkF m 53 #[.val (.ref a1), .val (.int (-1 : Int32)), .val (.ref b2), .val (.ref a1), .val (.int (0 : Int32)), .unset, .unset] [(.ref a1)]))
  refine Go.step (lenA X2 hx hZ e2 A_a1_2 (g := (mkF m 53 #[.val (.ref a1), .val (.int (-1 : Int32)), .val (.ref b2), .val (.ref a1), .val (.int (0 : Int32)), .unset, .unset] [(.ref a1)])) rfl rfl (hb hby d2_53)) ?_
  show Go p e below _ (T2.setTop (mkF m 54 #[.val (.ref a1), .val (.int (-1 : Int32)), .val (.ref b2), .val (.ref a1), .val (.int (0 : Int32)), .unset, .unset] [(.int (0 : Int32))]))
  refine Go.step (fun t k => XS.istore X2.here hx rfl (hb hby d2_54) rfl (l' := #[.val (.ref a1), .val (.int (-1 : Int32)), .val (.ref b2), .val (.ref a1), .val (.int (0 : Int32)), .unset, .unset]) rfl k) ?_
  show Go p e below _ (T2.setTop (mkF m 56 #[.val (.ref a1), .val (.int (-1 : Int32)), .val (.ref b2), .val (.ref a1), .val (.int (0 : Int32)), .unset, .unset] []))
  refine Go.step (fun t k => XS.iconst X2.here hx rfl (hb hby d2_56)  k) ?_
  show Go p e below _ (T2.setTop (mkF m 57 #[.val (.ref a1), .val (.int (-1 : Int32)), .val (.ref b2), .val (.ref a1), .val (.int (0 : Int32)), .unset, .unset] [(.int (0 : Int32))]))
  refine Go.step (fun t k => XS.istore X2.here hx rfl (hb hby d2_57) rfl (l' := #[.val (.ref a1), .val (.int (-1 : Int32)), .val (.ref b2), .val (.ref a1), .val (.int (0 : Int32)), .val (.int (0 : Int32)), .unset]) rfl k) ?_
  show Go p e below _ (T2.setTop (mkF m 59 #[.val (.ref a1), .val (.int (-1 : Int32)), .val (.ref b2), .val (.ref a1), .val (.int (0 : Int32)), .val (.int (0 : Int32)), .unset] []))
  refine Go.step (fun t k => XS.iload X2.here hx rfl (hb hby d2_59) rfl k) ?_
  show Go p e below _ (T2.setTop (mkF m 61 #[.val (.ref a1), .val (.int (-1 : Int32)), .val (.ref b2), .val (.ref a1), .val (.int (0 : Int32)), .val (.int (0 : Int32)), .unset] [(.int (0 : Int32))]))
  refine Go.step (fun t k => XS.iload X2.here hx rfl (hb hby d2_61) rfl k) ?_
  show Go p e below _ (T2.setTop (mkF m 63 #[.val (.ref a1), .val (.int (-1 : Int32)), .val (.ref b2), .val (.ref a1), .val (.int (0 : Int32)), .val (.int (0 : Int32)), .unset] [(.int (0 : Int32)), (.int (0 : Int32))]))
  refine Go.step (fun t k => XS.icmpYes X2.here hx rfl (pc0 := 63) (pc' := 95) rfl (hb hby d2_63) rfl (flt (by decide : ¬ ((0 : Int32) < (0 : Int32)))).2.1 (by decide) (by decide) k) ?_
  show Go p e below _ (T2.setTop (mkF m 95 #[.val (.ref a1), .val (.int (-1 : Int32)), .val (.ref b2), .val (.ref a1), .val (.int (0 : Int32)), .val (.int (0 : Int32)), .unset] []))
  obtain ⟨T3, h3, X3, e3, E3, A3, D3, -, st3⟩ := newO X2 hx hZ hown (hw _ (List.mem_of_getElem? (i := 9) rfl)) (hw _ (List.mem_of_getElem? (i := 10) rfl)) (hw _ (List.mem_of_getElem? (i := 7) rfl)) e2 (g := (mkF m 95 #[.val (.ref a1), .val (.int (-1 : Int32)), .val (.ref b2), .val (.ref a1), .val (.int (0 : Int32)), .val (.int (0 : Int32)), .unset] [])) rfl (hb hby d2_95) (by decide) (by decide)
  obtain ⟨b3, g3⟩ : ∃ z, z = h2.size := ⟨_, rfl⟩
  rw [← g3] at A3 D3 st3
  have g_b3 : n0 ≤ b3 := Nat.le_trans Z2 (Nat.le_of_eq g3.symm)
  have sz_b3 : h0.size ≤ b3 := Nat.le_trans KK2.1 (Nat.le_of_eq g3.symm)
  have ne_a1_b3 : a1 ≠ b3 := Nat.ne_of_lt (Nat.lt_of_lt_of_le A_a1_2.lt (Nat.le_of_eq g3.symm))
  have ne_b2_b3 : b2 ≠ b3 := Nat.ne_of_lt (Nat.lt_of_lt_of_le A_b2_2.lt (Nat.le_of_eq g3.symm))
  refine Go.step st3 ?_
  have A_a1_3 := A_a1_2.ext E3
  have A_b2_3 := A_b2_2.ext E3
  have Z3 := Nat.le_trans Z2 E3.1
  have KK3 : Keep h0 h3 [] := KK2.ext E3
  have F_words_b3 : Fld Z h3 b3 "com/example/menshen/menshen/core/PermissionSet" "words" "[I" .null := D3 (Or.inr (hw _ (List.mem_of_getElem? (i := 18) rfl))) (ty := (.array .int)) (by decide)
  show Go p e below _ (T3.setTop (mkF m 98 #[.val (.ref a1), .val (.int (-1 : Int32)), .val (.ref b2), .val (.ref a1), .val (.int (0 : Int32)), .val (.int (0 : Int32)), .unset] [(.ref b3)]))
  refine Go.step (fun t k => XS.dup X3.here hx rfl (hb hby d2_98) rfl rfl k) ?_
  show Go p e below _ (T3.setTop (mkF m 99 #[.val (.ref a1), .val (.int (-1 : Int32)), .val (.ref b2), .val (.ref a1), .val (.int (0 : Int32)), .val (.int (0 : Int32)), .unset] [(.ref b3), (.ref b3)]))
  refine Go.step (fun t k => XS.aloadN X3.here hx rfl (hb hby d2_99) rfl rfl k) ?_
  show Go p e below _ (T3.setTop (mkF m 100 #[.val (.ref a1), .val (.int (-1 : Int32)), .val (.ref b2), .val (.ref a1), .val (.int (0 : Int32)), .val (.int (0 : Int32)), .unset] [(.ref b2), (.ref b3), (.ref b3)]))
  obtain ⟨_, _, ⟨T4, L4, k4, n4⟩, -, X4, ⟨Lc4, hQ4, l4, y4, z4⟩, st4⟩ := X3.specialBack hx (y := (⟨"com/example/menshen/menshen/core/PermissionSet", "<init>", "([I)V"⟩ : MethodName)) rfl hown (mvT hZ (hw _ (List.mem_of_getElem? (i := 11) rfl))) (mvT hZ (hw _ (List.mem_of_getElem? (i := 12) rfl))) (mvT hZ (hw _ (List.mem_of_getElem? (i := 13) rfl))) (by decide) (backOf (W := 1) (rm3 l Z a0 hw [] b3 b2 .null h3 n0 Z3 A3 F_words_b3 g_b3) hZ (hw _ (List.mem_of_getElem? (i := 13) rfl)) (hw _ (List.mem_of_getElem? (i := 7) rfl)) (by decide) (by decide)) (g := (mkF m 100 #[.val (.ref a1), .val (.int (-1 : Int32)), .val (.ref b2), .val (.ref a1), .val (.int (0 : Int32)), .val (.int (0 : Int32)), .unset] [(.ref b2), (.ref b3), (.ref b3)])) rfl (by rw [hml]; rfl) (Steps.refl _) (a := b3) (argsL := [(.ref b2)]) (rest := [(.ref b3)]) (lenOf pd_0 rfl) rfl (by show 2 * 0 + _ ≤ _; exact Nat.le_of_eq rfl) (hb hby d2_100) (fun _ _ => ⟨rfl, e3, (by decide : 2 + 0 ≤ _), (by decide : 1 + 0 ≤ _)⟩)
  dsimp only [Pt.U, Pt.locs, Pt.cells, Pt.slots] at X4 l4 y4 z4 st4 hQ4
  subst l4 y4 z4
  obtain ⟨rfl, N4q, K4, Q4_0, Q4_1⟩ := hQ4
  have N4 := Fr.app N0 N4q
  have A_a1_4 := A_a1_3.keep K4 (ninS ne_a1_b3 nin0)
  have A_b2_4 := A_b2_3.keep K4 (ninS ne_b2_b3 nin0)
  have E_b3_4 := A3.keep K4
  have Z4 := Nat.le_trans Z3 K4.1
  have KK4 : Keep h0 T4.heap [] := KK3.trans K4 (allS (Or.inr sz_b3) all0)
  refine Go.trans st4 ?_
  show Go p e below _ (T4.setTop (mkF m 103 #[.val (.ref a1), .val (.int (-1 : Int32)), .val (.ref b2), .val (.ref a1), .val (.int (0 : Int32)), .val (.int (0 : Int32)), .unset] [(.ref b3)]))
  refine retGR X4 hx Bd.notSynchronized Bd.returns rfl rfl (hb hby d2_103) ?_ (by decide) (by decide)
  show Q2_0 Z a1 g_a1f h0 n0 _ T4.heap _
  exact ⟨b3, b2, rfl, N4, KK4, sz_b3, sz_b2, A_b2_4, Q4_0, Q4_1⟩
theorem d2_16 : decode prog_20_method_3_code 16 = .ok (.aload_n 2, 1) := by decide +kernel
theorem d2_17 : decode prog_20_method_3_code 17 = .ok (.iload 4, 2) := by decide +kernel
theorem d2_19 : decode prog_20_method_3_code 19 = .ok (.iaload, 1) := by decide +kernel
theorem d2_20 : decode prog_20_method_3_code 20 = .ok (.istore 5, 2) := by decide +kernel
theorem d2_22 : decode prog_20_method_3_code 22 = .ok (.iload 5, 2) := by decide +kernel
theorem d2_24 : decode prog_20_method_3_code 24 = .ok (.invokestatic 19, 3) := by decide +kernel
theorem pd_1 : parseMethodDescriptor "(I)V" = some ⟨[.int], none⟩ := by decide +kernel
theorem d2_27 : decode prog_20_method_3_code 27 = .ok (.iload_n 1, 1) := by decide +kernel
theorem d2_28 : decode prog_20_method_3_code 28 = .ok (.iload 5, 2) := by decide +kernel
theorem d2_30 : decode prog_20_method_3_code 30 = .ok (.invokestatic 23, 3) := by decide +kernel
theorem pd_2 : parseMethodDescriptor "(II)I" = some ⟨[.int, .int], some .int⟩ := by decide +kernel
theorem d2_33 : decode prog_20_method_3_code 33 = .ok (.istore_n 1, 1) := by decide +kernel
theorem d2_34 : decode prog_20_method_3_code 34 = .ok (.iinc 4 1, 3) := by decide +kernel
theorem d2_37 : decode prog_20_method_3_code 37 = .ok (.goto (-27), 3) := by decide +kernel
theorem d2_66 : decode prog_20_method_3_code 66 = .ok (.aload_n 3, 1) := by decide +kernel
theorem d2_67 : decode prog_20_method_3_code 67 = .ok (.iload 5, 2) := by decide +kernel
theorem d2_69 : decode prog_20_method_3_code 69 = .ok (.iaload, 1) := by decide +kernel
theorem d2_70 : decode prog_20_method_3_code 70 = .ok (.istore 6, 2) := by decide +kernel
theorem d2_72 : decode prog_20_method_3_code 72 = .ok (.aload_n 2, 1) := by decide +kernel
theorem d2_73 : decode prog_20_method_3_code 73 = .ok (.iload 6, 2) := by decide +kernel
theorem d2_75 : decode prog_20_method_3_code 75 = .ok (.bipush 32, 2) := by decide +kernel
theorem d2_77 : decode prog_20_method_3_code 77 = .ok (.idiv, 1) := by decide +kernel
theorem d2_78 : decode prog_20_method_3_code 78 = .ok (.dup2, 1) := by decide +kernel
theorem d2_79 : decode prog_20_method_3_code 79 = .ok (.iaload, 1) := by decide +kernel
theorem d2_80 : decode prog_20_method_3_code 80 = .ok (.iconst 1, 1) := by decide +kernel
theorem d2_81 : decode prog_20_method_3_code 81 = .ok (.iload 6, 2) := by decide +kernel
theorem d2_83 : decode prog_20_method_3_code 83 = .ok (.bipush 32, 2) := by decide +kernel
theorem d2_85 : decode prog_20_method_3_code 85 = .ok (.irem, 1) := by decide +kernel
theorem d2_86 : decode prog_20_method_3_code 86 = .ok (.ishl, 1) := by decide +kernel
theorem d2_87 : decode prog_20_method_3_code 87 = .ok (.ior, 1) := by decide +kernel
theorem d2_88 : decode prog_20_method_3_code 88 = .ok (.iastore, 1) := by decide +kernel
theorem d2_89 : decode prog_20_method_3_code 89 = .ok (.iinc 5 1, 3) := by decide +kernel
theorem d2_92 : decode prog_20_method_3_code 92 = .ok (.goto (-33), 3) := by decide +kernel
theorem ef_2_1 (m : MethodId) (a1 : Addr) : entryFrame m #[(.ref a1)] 7 = mkF m 0 #[.val (.ref a1), .unset, .unset, .unset, .unset, .unset, .unset] [] := by first | (simp [entryFrame, mkF, argsToLocals, Value.category]; done) | rfl
def Q2_1 (Z : State) (a1 : Addr) (g_a1f : Nat → Int32) (h0 : Heap) (n0 : Nat) (v : Option Value) (h : Heap) (L : List Loc) : Prop := ∃ (b7 : Addr) (b5 : Addr), v = some (.ref b7) ∧ Fr n0 L ∧ Keep h0 h [] ∧ h0.size ≤ b7 ∧ h0.size ≤ b5 ∧ Ary Z h b5 .int (((f6 (-1 : Int32) (g_a1f 0)) + (32 : Int32)) / (32 : Int32)).toNatClampNeg (fun i => .int ((orW (fun _ => (0 : Int32)) (g_a1f 0)) i)) ∧ Exa Z h b7 "com/example/menshen/menshen/core/PermissionSet" ∧ Fld Z h b7 "com/example/menshen/menshen/core/PermissionSet" "words" "[I" (.ref b5)
set_option maxRecDepth 65536 in
set_option maxHeartbeats 40000000 in
theorem rm2_1 (l : Launch) (Z : State) (a0 : Array Value) (hw : ∀ d ∈ tables_1, d.before a0 Z = true) (ws : List Jvm.Cond) (a1 : Addr) (g_a1f : Nat → Int32) (h0 : Heap) (n0 : Nat) (Z0 : n0 ≤ h0.size) (hB0 : Bit (g_a1f 0)) (A_a1 : Ary Z h0 a1 .int 1 (fun i => .int (g_a1f i))) :
    MetFree l (⟨"com/example/menshen/menshen/core/PermissionSet", "of", "([I)Lcom/example/menshen/menshen/core/PermissionSet;"⟩ : MethodName) (head1 (Jvm.Cond.code (⟨"com/example/menshen/menshen/core/PermissionSet", "of", "([I)Lcom/example/menshen/menshen/core/PermissionSet;"⟩ : MethodName) prog_20_method_3_code 7 (some (.object "com/example/menshen/menshen/core/PermissionSet")) :: ws) ({ frames := 2, cells := 2, slots := 129, locals := 26 } : Room)) (fun a U => a = #[(.ref a1)] ∧ Z.Warmed39 U.vm ∧ U.heap = h0) (fun _ _ _ _ _ => True) (fun _ U o U' => ∃ v L, o = .returned v ∧ Q2_1 Z a1 g_a1f h0 n0 v U'.heap L ∧ FrameEnd U o U' L ({ frames := 2, cells := 2, slots := 129, locals := 26 } : Room).cells ({ frames := 2, cells := 2, slots := 129, locals := 26 } : Room).slots) := by
  refine MetFree.of_bodySF (plainFor_of_name pn_0) hisR ?_
  intro p e s m args below meth c s₁ Bd hml0 hP hK
  obtain ⟨rfl, hZ, hh⟩ := hP
  have hx := Bd.exec
  have hby := Bd.bytes
  have hml : c.maxLocals = 7 := hml0
  have hown : s.vm.findClass "com/example/menshen/menshen/core/PermissionSet" = some m.cls := findClass_of_methodNamed Bd.named
  have hnm := (name_of_methodNamed Bd.named Bd.method).1
  have X0 : Stand p l e ({ frames := 2, cells := 2, slots := 129, locals := 26 } : Room) s m #[(.ref a1)] below meth c s₁ [] 0 0 := Stand.of_body Bd
  have e0 : s₁.heap = h0 := by rw [← hh, Bd.state]; rfl
  have N0 := Fr.nil n0
  refine Go.done (Go.step (fun t k => castTop (ef_2_1 m a1) k) ?_)
  have KK0 : Keep h0 h0 [] := Keep.refl _ _
  show Go p e below _ (s₁.setTop (mkF m 0 #[.val (.ref a1), .unset, .unset, .unset, .unset, .unset, .unset] []))
  refine Go.step (fun t k => XS.iconst X0.here hx rfl (hb hby d2_0)  k) ?_
  show Go p e below _ (s₁.setTop (mkF m 1 #[.val (.ref a1), .unset, .unset, .unset, .unset, .unset, .unset] [(.int (-1 : Int32))]))
  refine Go.step (fun t k => XS.istoreN X0.here hx rfl (hb hby d2_1) rfl (l' := #[.val (.ref a1), .val (.int (-1 : Int32)), .unset, .unset, .unset, .unset, .unset]) rfl k) ?_
  show Go p e below _ (s₁.setTop (mkF m 2 #[.val (.ref a1), .val (.int (-1 : Int32)), .unset, .unset, .unset, .unset, .unset] []))
  refine Go.step (fun t k => XS.aloadN X0.here hx rfl (hb hby d2_2) rfl rfl k) ?_
  show Go p e below _ (s₁.setTop (mkF m 3 #[.val (.ref a1), .val (.int (-1 : Int32)), .unset, .unset, .unset, .unset, .unset] [(.ref a1)]))
  refine Go.step (fun t k => XS.astoreN X0.here hx rfl (hb hby d2_3) rfl rfl (l' := #[.val (.ref a1), .val (.int (-1 : Int32)), .val (.ref a1), .unset, .unset, .unset, .unset]) rfl k) ?_
  show Go p e below _ (s₁.setTop (mkF m 4 #[.val (.ref a1), .val (.int (-1 : Int32)), .val (.ref a1), .unset, .unset, .unset, .unset] []))
  refine Go.step (fun t k => XS.aloadN X0.here hx rfl (hb hby d2_4) rfl rfl k) ?_
  show Go p e below _ (s₁.setTop (mkF m 5 #[.val (.ref a1), .val (.int (-1 : Int32)), .val (.ref a1), .unset, .unset, .unset, .unset] [(.ref a1)]))
  refine Go.step (lenA X0 hx hZ e0 A_a1 (g := (mkF m 5 #[.val (.ref a1), .val (.int (-1 : Int32)), .val (.ref a1), .unset, .unset, .unset, .unset] [(.ref a1)])) rfl rfl (hb hby d2_5)) ?_
  show Go p e below _ (s₁.setTop (mkF m 6 #[.val (.ref a1), .val (.int (-1 : Int32)), .val (.ref a1), .unset, .unset, .unset, .unset] [(.int (1 : Int32))]))
  refine Go.step (fun t k => XS.istoreN X0.here hx rfl (hb hby d2_6) rfl (l' := #[.val (.ref a1), .val (.int (-1 : Int32)), .val (.ref a1), .val (.int (1 : Int32)), .unset, .unset, .unset]) rfl k) ?_
  show Go p e below _ (s₁.setTop (mkF m 7 #[.val (.ref a1), .val (.int (-1 : Int32)), .val (.ref a1), .val (.int (1 : Int32)), .unset, .unset, .unset] []))
  refine Go.step (fun t k => XS.iconst X0.here hx rfl (hb hby d2_7)  k) ?_
  show Go p e below _ (s₁.setTop (mkF m 8 #[.val (.ref a1), .val (.int (-1 : Int32)), .val (.ref a1), .val (.int (1 : Int32)), .unset, .unset, .unset] [(.int (0 : Int32))]))
  refine Go.step (fun t k => XS.istore X0.here hx rfl (hb hby d2_8) rfl (l' := #[.val (.ref a1), .val (.int (-1 : Int32)), .val (.ref a1), .val (.int (1 : Int32)), .val (.int (0 : Int32)), .unset, .unset]) rfl k) ?_
  show Go p e below _ (s₁.setTop (mkF m 10 #[.val (.ref a1), .val (.int (-1 : Int32)), .val (.ref a1), .val (.int (1 : Int32)), .val (.int (0 : Int32)), .unset, .unset] []))
  refine Go.step (fun t k => XS.iload X0.here hx rfl (hb hby d2_10) rfl k) ?_
  show Go p e below _ (s₁.setTop (mkF m 12 #[.val (.ref a1), .val (.int (-1 : Int32)), .val (.ref a1), .val (.int (1 : Int32)), .val (.int (0 : Int32)), .unset, .unset] [(.int (0 : Int32))]))
  refine Go.step (fun t k => XS.iloadN X0.here hx rfl (hb hby d2_12) rfl k) ?_
  show Go p e below _ (s₁.setTop (mkF m 13 #[.val (.ref a1), .val (.int (-1 : Int32)), .val (.ref a1), .val (.int (1 : Int32)), .val (.int (0 : Int32)), .unset, .unset] [(.int (1 : Int32)), (.int (0 : Int32))]))
  refine Go.step (fun t k => XS.icmpNo X0.here hx rfl (hb hby d2_13) rfl (tlt (by decide : (0 : Int32) < (1 : Int32))).2.1 k) ?_
  show Go p e below _ (s₁.setTop (mkF m 16 #[.val (.ref a1), .val (.int (-1 : Int32)), .val (.ref a1), .val (.int (1 : Int32)), .val (.int (0 : Int32)), .unset, .unset] []))
  refine Go.step (fun t k => XS.aloadN X0.here hx rfl (hb hby d2_16) rfl rfl k) ?_
  show Go p e below _ (s₁.setTop (mkF m 17 #[.val (.ref a1), .val (.int (-1 : Int32)), .val (.ref a1), .val (.int (1 : Int32)), .val (.int (0 : Int32)), .unset, .unset] [(.ref a1)]))
  refine Go.step (fun t k => XS.iload X0.here hx rfl (hb hby d2_17) rfl k) ?_
  show Go p e below _ (s₁.setTop (mkF m 19 #[.val (.ref a1), .val (.int (-1 : Int32)), .val (.ref a1), .val (.int (1 : Int32)), .val (.int (0 : Int32)), .unset, .unset] [(.int (0 : Int32)), (.ref a1)]))
  refine Go.step (ldI X0 hx hZ e0 A_a1 (j := (0 : Int32)) (by decide) (by decide) (g := (mkF m 19 #[.val (.ref a1), .val (.int (-1 : Int32)), .val (.ref a1), .val (.int (1 : Int32)), .val (.int (0 : Int32)), .unset, .unset] [(.int (0 : Int32)), (.ref a1)])) rfl rfl (hb hby d2_19)) ?_
  show Go p e below _ (s₁.setTop (mkF m 20 #[.val (.ref a1), .val (.int (-1 : Int32)), .val (.ref a1), .val (.int (1 : Int32)), .val (.int (0 : Int32)), .unset, .unset] [(.int (g_a1f 0))]))
  refine Go.step (fun t k => XS.istore X0.here hx rfl (hb hby d2_20) rfl (l' := #[.val (.ref a1), .val (.int (-1 : Int32)), .val (.ref a1), .val (.int (1 : Int32)), .val (.int (0 : Int32)), .val (.int (g_a1f 0)), .unset]) rfl k) ?_
  show Go p e below _ (s₁.setTop (mkF m 22 #[.val (.ref a1), .val (.int (-1 : Int32)), .val (.ref a1), .val (.int (1 : Int32)), .val (.int (0 : Int32)), .val (.int (g_a1f 0)), .unset] []))
  refine Go.step (fun t k => XS.iload X0.here hx rfl (hb hby d2_22) rfl k) ?_
  show Go p e below _ (s₁.setTop (mkF m 24 #[.val (.ref a1), .val (.int (-1 : Int32)), .val (.ref a1), .val (.int (1 : Int32)), .val (.int (0 : Int32)), .val (.int (g_a1f 0)), .unset] [(.int (g_a1f 0))]))
  obtain ⟨_, _, ⟨T2, L2, k2, n2⟩, -, X2, ⟨Lc2, hQ2, l2, y2, z2⟩, st2⟩ := Jvm.LawKit.callS X0 hx (y := (⟨"com/example/menshen/menshen/core/PermissionSet", "checkBit", "(I)V"⟩ : MethodName)) hown (mvT hZ (hw _ (List.mem_of_getElem? (i := 30) rfl))) (mvT hZ (hw _ (List.mem_of_getElem? (i := 31) rfl))) (mvT hZ (hw _ (List.mem_of_getElem? (i := 7) rfl))) (mvT hZ (hw _ (List.mem_of_getElem? (i := 32) rfl))) (by decide) (backOf (W := 0) (rm7 l Z a0 hw [] (g_a1f 0) h0 n0 Z0 ((by subst_vars; first | exact hB0.ge | exact hB0.lt) : ¬ ((g_a1f 0) < (0 : Int32))) ((by subst_vars; first | exact hB0.ge | exact hB0.lt) : (g_a1f 0) < (4096 : Int32))) hZ (hw _ (List.mem_of_getElem? (i := 32) rfl)) (hw _ (List.mem_of_getElem? (i := 7) rfl)) (by decide) (by decide)) (g := (mkF m 24 #[.val (.ref a1), .val (.int (-1 : Int32)), .val (.ref a1), .val (.int (1 : Int32)), .val (.int (0 : Int32)), .val (.int (g_a1f 0)), .unset] [(.int (g_a1f 0))])) rfl (by rw [hml]; rfl) (argsL := [(.int (g_a1f 0))]) (rest := []) (lenOf pd_1 rfl) rfl (by show 2 * 0 + _ ≤ _; exact Nat.le_of_eq rfl) (hb hby d2_24) (fun _ _ => ⟨rfl, e0, (by decide : 0 + 0 ≤ _), (by decide : 0 + 0 ≤ _)⟩)
  dsimp only [Pt.U, Pt.locs, Pt.cells, Pt.slots] at X2 l2 y2 z2 st2 hQ2
  subst l2 y2 z2
  obtain ⟨rfl, N2q, e2⟩ := hQ2
  have N2 := Fr.app N0 N2q
  refine Go.step st2 ?_
  show Go p e below _ (T2.setTop (mkF m 27 #[.val (.ref a1), .val (.int (-1 : Int32)), .val (.ref a1), .val (.int (1 : Int32)), .val (.int (0 : Int32)), .val (.int (g_a1f 0)), .unset] []))
  refine Go.step (fun t k => XS.iloadN X2.here hx rfl (hb hby d2_27) rfl k) ?_
  show Go p e below _ (T2.setTop (mkF m 28 #[.val (.ref a1), .val (.int (-1 : Int32)), .val (.ref a1), .val (.int (1 : Int32)), .val (.int (0 : Int32)), .val (.int (g_a1f 0)), .unset] [(.int (-1 : Int32))]))
  refine Go.step (fun t k => XS.iload X2.here hx rfl (hb hby d2_28) rfl k) ?_
  show Go p e below _ (T2.setTop (mkF m 30 #[.val (.ref a1), .val (.int (-1 : Int32)), .val (.ref a1), .val (.int (1 : Int32)), .val (.int (0 : Int32)), .val (.int (g_a1f 0)), .unset] [(.int (g_a1f 0)), (.int (-1 : Int32))]))
  obtain ⟨_, _, ⟨T3, L3, k3, n3⟩, -, X3, ⟨Lc3, hQ3, l3, y3, z3⟩, st3⟩ := Jvm.LawKit.callS X2 hx (y := (⟨"java/lang/Math", "max", "(II)I"⟩ : MethodName)) hown (mvT hZ (hw _ (List.mem_of_getElem? (i := 24) rfl))) (mvT hZ (hw _ (List.mem_of_getElem? (i := 25) rfl))) (mvT hZ (hw _ (List.mem_of_getElem? (i := 26) rfl))) (mvT hZ (hw _ (List.mem_of_getElem? (i := 27) rfl))) (by decide) (backOf (W := 0) (rm6 l Z a0 hw [] (-1 : Int32) (g_a1f 0) h0 n0 Z0) hZ (hw _ (List.mem_of_getElem? (i := 27) rfl)) (hw _ (List.mem_of_getElem? (i := 26) rfl)) (by decide) (by decide)) (g := (mkF m 30 #[.val (.ref a1), .val (.int (-1 : Int32)), .val (.ref a1), .val (.int (1 : Int32)), .val (.int (0 : Int32)), .val (.int (g_a1f 0)), .unset] [(.int (g_a1f 0)), (.int (-1 : Int32))])) rfl (by rw [hml]; rfl) (argsL := [(.int (-1 : Int32)), (.int (g_a1f 0))]) (rest := []) (lenOf pd_2 rfl) rfl (by show 2 * 0 + _ ≤ _; exact Nat.le_of_eq rfl) (hb hby d2_30) (fun _ _ => ⟨rfl, e2, (by decide : 0 + 0 ≤ _), (by decide : 0 + 0 ≤ _)⟩)
  dsimp only [Pt.U, Pt.locs, Pt.cells, Pt.slots] at X3 l3 y3 z3 st3 hQ3
  subst l3 y3 z3
  obtain ⟨rfl, N3q, e3⟩ := hQ3
  have N3 := Fr.app N2 N3q
  refine Go.step st3 ?_
  show Go p e below _ (T3.setTop (mkF m 33 #[.val (.ref a1), .val (.int (-1 : Int32)), .val (.ref a1), .val (.int (1 : Int32)), .val (.int (0 : Int32)), .val (.int (g_a1f 0)), .unset] [(.int (f6 (-1 : Int32) (g_a1f 0)))]))
  obtain ⟨v4, hv4⟩ : ∃ z : Int32, z = (f6 (-1 : Int32) (g_a1f 0)) := ⟨_, rfl⟩
  rw [← hv4]
  show Go p e below _ (T3.setTop (mkF m 33 #[.val (.ref a1), .val (.int (-1 : Int32)), .val (.ref a1), .val (.int (1 : Int32)), .val (.int (0 : Int32)), .val (.int (g_a1f 0)), .unset] [(.int v4)]))
  refine Go.step (fun t k => XS.istoreN X3.here hx rfl (hb hby d2_33) rfl (l' := #[.val (.ref a1), .val (.int v4), .val (.ref a1), .val (.int (1 : Int32)), .val (.int (0 : Int32)), .val (.int (g_a1f 0)), .unset]) rfl k) ?_
  show Go p e below _ (T3.setTop (mkF m 34 #[.val (.ref a1), .val (.int v4), .val (.ref a1), .val (.int (1 : Int32)), .val (.int (0 : Int32)), .val (.int (g_a1f 0)), .unset] []))
  refine Go.step (fun t k => XS.iinc X3.here hx rfl (hb hby d2_34) rfl (l' := #[.val (.ref a1), .val (.int v4), .val (.ref a1), .val (.int (1 : Int32)), .val (.int (1 : Int32)), .val (.int (g_a1f 0)), .unset]) rfl k) ?_
  show Go p e below _ (T3.setTop (mkF m 37 #[.val (.ref a1), .val (.int v4), .val (.ref a1), .val (.int (1 : Int32)), .val (.int (1 : Int32)), .val (.int (g_a1f 0)), .unset] []))
  refine Go.step (fun t k => XS.goto X3.here hx rfl (pc0 := 37) (pc' := 10) rfl (hb hby d2_37) (by decide) (by decide) k) ?_
  show Go p e below _ (T3.setTop (mkF m 10 #[.val (.ref a1), .val (.int v4), .val (.ref a1), .val (.int (1 : Int32)), .val (.int (1 : Int32)), .val (.int (g_a1f 0)), .unset] []))
  refine Go.step (fun t k => XS.iload X3.here hx rfl (hb hby d2_10) rfl k) ?_
  show Go p e below _ (T3.setTop (mkF m 12 #[.val (.ref a1), .val (.int v4), .val (.ref a1), .val (.int (1 : Int32)), .val (.int (1 : Int32)), .val (.int (g_a1f 0)), .unset] [(.int (1 : Int32))]))
  refine Go.step (fun t k => XS.iloadN X3.here hx rfl (hb hby d2_12) rfl k) ?_
  show Go p e below _ (T3.setTop (mkF m 13 #[.val (.ref a1), .val (.int v4), .val (.ref a1), .val (.int (1 : Int32)), .val (.int (1 : Int32)), .val (.int (g_a1f 0)), .unset] [(.int (1 : Int32)), (.int (1 : Int32))]))
  refine Go.step (fun t k => XS.icmpYes X3.here hx rfl (pc0 := 13) (pc' := 40) rfl (hb hby d2_13) rfl (flt (by decide : ¬ ((1 : Int32) < (1 : Int32)))).2.1 (by decide) (by decide) k) ?_
  show Go p e below _ (T3.setTop (mkF m 40 #[.val (.ref a1), .val (.int v4), .val (.ref a1), .val (.int (1 : Int32)), .val (.int (1 : Int32)), .val (.int (g_a1f 0)), .unset] []))
  refine Go.step (fun t k => XS.iloadN X3.here hx rfl (hb hby d2_40) rfl k) ?_
  show Go p e below _ (T3.setTop (mkF m 41 #[.val (.ref a1), .val (.int v4), .val (.ref a1), .val (.int (1 : Int32)), .val (.int (1 : Int32)), .val (.int (g_a1f 0)), .unset] [(.int v4)]))
  refine Go.step (fun t k => XS.bipush X3.here hx rfl (hb hby d2_41)  k) ?_
  show Go p e below _ (T3.setTop (mkF m 43 #[.val (.ref a1), .val (.int v4), .val (.ref a1), .val (.int (1 : Int32)), .val (.int (1 : Int32)), .val (.int (g_a1f 0)), .unset] [(.int (32 : Int32)), (.int v4)]))
  refine Go.step (fun t k => XS.iadd X3.here hx rfl (hb hby d2_43) rfl k) ?_
  show Go p e below _ (T3.setTop (mkF m 44 #[.val (.ref a1), .val (.int v4), .val (.ref a1), .val (.int (1 : Int32)), .val (.int (1 : Int32)), .val (.int (g_a1f 0)), .unset] [(.int (v4 + (32 : Int32)))]))
  refine Go.step (fun t k => XS.bipush X3.here hx rfl (hb hby d2_44)  k) ?_
  show Go p e below _ (T3.setTop (mkF m 46 #[.val (.ref a1), .val (.int v4), .val (.ref a1), .val (.int (1 : Int32)), .val (.int (1 : Int32)), .val (.int (g_a1f 0)), .unset] [(.int (32 : Int32)), (.int (v4 + (32 : Int32)))]))
  refine Go.step (fun t k => XS.idiv X3.here hx rfl (hb hby d2_46) rfl (by decide) k) ?_
  show Go p e below _ (T3.setTop (mkF m 47 #[.val (.ref a1), .val (.int v4), .val (.ref a1), .val (.int (1 : Int32)), .val (.int (1 : Int32)), .val (.int (g_a1f 0)), .unset] [(.int ((v4 + (32 : Int32)) / (32 : Int32)))]))
  obtain ⟨T5, h5, k5, X5, e5, E5, A5, st5⟩ := newP X3 hx hZ (hw _ (List.mem_of_getElem? (i := 4) rfl)) e3 (g := (mkF m 47 #[.val (.ref a1), .val (.int v4), .val (.ref a1), .val (.int (1 : Int32)), .val (.int (1 : Int32)), .val (.int (g_a1f 0)), .unset] [(.int ((v4 + (32 : Int32)) / (32 : Int32)))])) rfl (hb hby d2_47) rfl ((by subst_vars; exact (Hi.sz (Hi.max Hi.m1 hB0).1).1) : ¬ ((v4 + (32 : Int32)) / (32 : Int32)) < 0) (cap := 128) ((by subst_vars; exact (Hi.sz (Hi.max Hi.m1 hB0).1).2.1) : ((v4 + (32 : Int32)) / (32 : Int32)).toNatClampNeg ≤ 128) (by decide) (by decide) (by decide)
  obtain ⟨b5, g5⟩ : ∃ z, z = h0.size := ⟨_, rfl⟩
  rw [← g5] at A5 st5
  have g_b5 : n0 ≤ b5 := Nat.le_trans Z0 (Nat.le_of_eq g5.symm)
  have sz_b5 : h0.size ≤ b5 := Nat.le_trans KK0.1 (Nat.le_of_eq g5.symm)
  have ne_a1_b5 : a1 ≠ b5 := Nat.ne_of_lt (Nat.lt_of_lt_of_le A_a1.lt (Nat.le_of_eq g5.symm))
  refine Go.step st5 ?_
  have A_a1_5 := A_a1.ext E5
  have Z5 := Nat.le_trans Z0 E5.1
  have KK5 : Keep h0 h5 [] := KK0.ext E5
  have A_b5_5 : Ary Z h5 b5 .int ((v4 + (32 : Int32)) / (32 : Int32)).toNatClampNeg (fun i => .int ((fun _ => (0 : Int32)) i)) := Ary.mk A5 ((by subst_vars; exact (Hi.sz (Hi.max Hi.m1 hB0).1).1) : ¬ ((v4 + (32 : Int32)) / (32 : Int32)) < 0) rfl
  show Go p e below _ (T5.setTop (mkF m 49 #[.val (.ref a1), .val (.int v4), .val (.ref a1), .val (.int (1 : Int32)), .val (.int (1 : Int32)), .val (.int (g_a1f 0)), .unset] [(.ref b5)]))
  refine Go.step (fun t k => XS.astoreN X5.here hx rfl (hb hby d2_49) rfl rfl (l' := #[.val (.ref a1), .val (.int v4), .val (.ref b5), .val (.int (1 : Int32)), .val (.int (1 : Int32)), .val (.int (g_a1f 0)), .unset]) rfl k) ?_
  show Go p e below _ (T5.setTop (mkF m 50 #[.val (.ref a1), .val (.int v4), .val (.ref b5), .val (.int (1 : Int32)), .val (.int (1 : Int32)), .val (.int (g_a1f 0)), .unset] []))
  refine Go.step (fun t k => XS.aloadN X5.here hx rfl (hb hby d2_50) rfl rfl k) ?_
  show Go p e below _ (T5.setTop (mkF m 51 #[.val (.ref a1), .val (.int v4), .val (.ref b5), .val (.int (1 : Int32)), .val (.int (1 : Int32)), .val (.int (g_a1f 0)), .unset] [(.ref a1)]))
  refine Go.step (fun t k => XS.astoreN X5.here hx rfl (hb hby d2_51) rfl rfl (l' := #[.val (.ref a1), .val (.int v4), .val (.ref b5), .val (.ref a1), .val (.int (1 : Int32)), .val (.int (g_a1f 0)), .unset]) rfl k) ?_
  show Go p e below _ (T5.setTop (mkF m 52 #[.val (.ref a1), .val (.int v4), .val (.ref b5), .val (.ref a1), .val (.int (1 : Int32)), .val (.int (g_a1f 0)), .unset] []))
  refine Go.step (fun t k => XS.aloadN X5.here hx rfl (hb hby d2_52) rfl rfl k) ?_
  show Go p e below _ (T5.setTop (mkF m 53 #[.val (.ref a1), .val (.int v4), .val (.ref b5), .val (.ref a1), .val (.int (1 : Int32)), .val (.int (g_a1f 0)), .unset] [(.ref a1)]))
  refine Go.step (lenA X5 hx hZ e5 A_a1_5 (g := (mkF m 53 #[.val (.ref a1), .val (.int v4), .val (.ref b5), .val (.ref a1), .val (.int (1 : Int32)), .val (.int (g_a1f 0)), .unset] [(.ref a1)])) rfl rfl (hb hby d2_53)) ?_
  show Go p e below _ (T5.setTop (mkF m 54 #[.val (.ref a1), .val (.int v4), .val (.ref b5), .val (.ref a1), .val (.int (1 : Int32)), .val (.int (g_a1f 0)), .unset] [(.int (1 : Int32))]))
  refine Go.step (fun t k => XS.istore X5.here hx rfl (hb hby d2_54) rfl (l' := #[.val (.ref a1), .val (.int v4), .val (.ref b5), .val (.ref a1), .val (.int (1 : Int32)), .val (.int (g_a1f 0)), .unset]) rfl k) ?_
  show Go p e below _ (T5.setTop (mkF m 56 #[.val (.ref a1), .val (.int v4), .val (.ref b5), .val (.ref a1), .val (.int (1 : Int32)), .val (.int (g_a1f 0)), .unset] []))
  refine Go.step (fun t k => XS.iconst X5.here hx rfl (hb hby d2_56)  k) ?_
  show Go p e below _ (T5.setTop (mkF m 57 #[.val (.ref a1), .val (.int v4), .val (.ref b5), .val (.ref a1), .val (.int (1 : Int32)), .val (.int (g_a1f 0)), .unset] [(.int (0 : Int32))]))
  refine Go.step (fun t k => XS.istore X5.here hx rfl (hb hby d2_57) rfl (l' := #[.val (.ref a1), .val (.int v4), .val (.ref b5), .val (.ref a1), .val (.int (1 : Int32)), .val (.int (0 : Int32)), .unset]) rfl k) ?_
  show Go p e below _ (T5.setTop (mkF m 59 #[.val (.ref a1), .val (.int v4), .val (.ref b5), .val (.ref a1), .val (.int (1 : Int32)), .val (.int (0 : Int32)), .unset] []))
  refine Go.step (fun t k => XS.iload X5.here hx rfl (hb hby d2_59) rfl k) ?_
  show Go p e below _ (T5.setTop (mkF m 61 #[.val (.ref a1), .val (.int v4), .val (.ref b5), .val (.ref a1), .val (.int (1 : Int32)), .val (.int (0 : Int32)), .unset] [(.int (0 : Int32))]))
  refine Go.step (fun t k => XS.iload X5.here hx rfl (hb hby d2_61) rfl k) ?_
  show Go p e below _ (T5.setTop (mkF m 63 #[.val (.ref a1), .val (.int v4), .val (.ref b5), .val (.ref a1), .val (.int (1 : Int32)), .val (.int (0 : Int32)), .unset] [(.int (1 : Int32)), (.int (0 : Int32))]))
  refine Go.step (fun t k => XS.icmpNo X5.here hx rfl (hb hby d2_63) rfl (tlt (by decide : (0 : Int32) < (1 : Int32))).2.1 k) ?_
  show Go p e below _ (T5.setTop (mkF m 66 #[.val (.ref a1), .val (.int v4), .val (.ref b5), .val (.ref a1), .val (.int (1 : Int32)), .val (.int (0 : Int32)), .unset] []))
  refine Go.step (fun t k => XS.aloadN X5.here hx rfl (hb hby d2_66) rfl rfl k) ?_
  show Go p e below _ (T5.setTop (mkF m 67 #[.val (.ref a1), .val (.int v4), .val (.ref b5), .val (.ref a1), .val (.int (1 : Int32)), .val (.int (0 : Int32)), .unset] [(.ref a1)]))
  refine Go.step (fun t k => XS.iload X5.here hx rfl (hb hby d2_67) rfl k) ?_
  show Go p e below _ (T5.setTop (mkF m 69 #[.val (.ref a1), .val (.int v4), .val (.ref b5), .val (.ref a1), .val (.int (1 : Int32)), .val (.int (0 : Int32)), .unset] [(.int (0 : Int32)), (.ref a1)]))
  refine Go.step (ldI X5 hx hZ e5 A_a1_5 (j := (0 : Int32)) (by decide) (by decide) (g := (mkF m 69 #[.val (.ref a1), .val (.int v4), .val (.ref b5), .val (.ref a1), .val (.int (1 : Int32)), .val (.int (0 : Int32)), .unset] [(.int (0 : Int32)), (.ref a1)])) rfl rfl (hb hby d2_69)) ?_
  show Go p e below _ (T5.setTop (mkF m 70 #[.val (.ref a1), .val (.int v4), .val (.ref b5), .val (.ref a1), .val (.int (1 : Int32)), .val (.int (0 : Int32)), .unset] [(.int (g_a1f 0))]))
  refine Go.step (fun t k => XS.istore X5.here hx rfl (hb hby d2_70) rfl (l' := #[.val (.ref a1), .val (.int v4), .val (.ref b5), .val (.ref a1), .val (.int (1 : Int32)), .val (.int (0 : Int32)), .val (.int (g_a1f 0))]) rfl k) ?_
  show Go p e below _ (T5.setTop (mkF m 72 #[.val (.ref a1), .val (.int v4), .val (.ref b5), .val (.ref a1), .val (.int (1 : Int32)), .val (.int (0 : Int32)), .val (.int (g_a1f 0))] []))
  refine Go.step (fun t k => XS.aloadN X5.here hx rfl (hb hby d2_72) rfl rfl k) ?_
  show Go p e below _ (T5.setTop (mkF m 73 #[.val (.ref a1), .val (.int v4), .val (.ref b5), .val (.ref a1), .val (.int (1 : Int32)), .val (.int (0 : Int32)), .val (.int (g_a1f 0))] [(.ref b5)]))
  refine Go.step (fun t k => XS.iload X5.here hx rfl (hb hby d2_73) rfl k) ?_
  show Go p e below _ (T5.setTop (mkF m 75 #[.val (.ref a1), .val (.int v4), .val (.ref b5), .val (.ref a1), .val (.int (1 : Int32)), .val (.int (0 : Int32)), .val (.int (g_a1f 0))] [(.int (g_a1f 0)), (.ref b5)]))
  refine Go.step (fun t k => XS.bipush X5.here hx rfl (hb hby d2_75)  k) ?_
  show Go p e below _ (T5.setTop (mkF m 77 #[.val (.ref a1), .val (.int v4), .val (.ref b5), .val (.ref a1), .val (.int (1 : Int32)), .val (.int (0 : Int32)), .val (.int (g_a1f 0))] [(.int (32 : Int32)), (.int (g_a1f 0)), (.ref b5)]))
  refine Go.step (fun t k => XS.idiv X5.here hx rfl (hb hby d2_77) rfl (by decide) k) ?_
  show Go p e below _ (T5.setTop (mkF m 78 #[.val (.ref a1), .val (.int v4), .val (.ref b5), .val (.ref a1), .val (.int (1 : Int32)), .val (.int (0 : Int32)), .val (.int (g_a1f 0))] [(.int ((g_a1f 0) / (32 : Int32))), (.ref b5)]))
  refine Go.step (S' := T5.setTop (mkF m 79 #[.val (.ref a1), .val (.int v4), .val (.ref b5), .val (.ref a1), .val (.int (1 : Int32)), .val (.int (0 : Int32)), .val (.int (g_a1f 0))] [(.int ((g_a1f 0) / (32 : Int32))), (.ref b5), (.int ((g_a1f 0) / (32 : Int32))), (.ref b5)])) (fun t k => ?_) ?_
  · jvm_step X5.here [X5.here.top, hx, (hb hby d2_78), Value.category]
    exact k
  show Go p e below _ (T5.setTop (mkF m 79 #[.val (.ref a1), .val (.int v4), .val (.ref b5), .val (.ref a1), .val (.int (1 : Int32)), .val (.int (0 : Int32)), .val (.int (g_a1f 0))] [(.int ((g_a1f 0) / (32 : Int32))), (.ref b5), (.int ((g_a1f 0) / (32 : Int32))), (.ref b5)]))
  refine Go.step (ldI X5 hx hZ e5 A_b5_5 (j := ((g_a1f 0) / (32 : Int32))) ((by subst_vars; first | exact (Bit.at (Hi.max Hi.m1 hB0).1 hB0 (Hi.max Hi.m1 hB0).2.2).1) : ¬ ((g_a1f 0) / (32 : Int32)) < 0) ((by subst_vars; first | exact (Bit.at (Hi.max Hi.m1 hB0).1 hB0 (Hi.max Hi.m1 hB0).2.2).2) : ((g_a1f 0) / (32 : Int32)).toNatClampNeg < ((v4 + (32 : Int32)) / (32 : Int32)).toNatClampNeg) (g := (mkF m 79 #[.val (.ref a1), .val (.int v4), .val (.ref b5), .val (.ref a1), .val (.int (1 : Int32)), .val (.int (0 : Int32)), .val (.int (g_a1f 0))] [(.int ((g_a1f 0) / (32 : Int32))), (.ref b5), (.int ((g_a1f 0) / (32 : Int32))), (.ref b5)])) rfl rfl (hb hby d2_79)) ?_
  show Go p e below _ (T5.setTop (mkF m 80 #[.val (.ref a1), .val (.int v4), .val (.ref b5), .val (.ref a1), .val (.int (1 : Int32)), .val (.int (0 : Int32)), .val (.int (g_a1f 0))] [(.int ((fun _ => (0 : Int32)) ((g_a1f 0) / (32 : Int32)).toNatClampNeg)), (.int ((g_a1f 0) / (32 : Int32))), (.ref b5)]))
  refine Go.step (fun t k => XS.iconst X5.here hx rfl (hb hby d2_80)  k) ?_
  show Go p e below _ (T5.setTop (mkF m 81 #[.val (.ref a1), .val (.int v4), .val (.ref b5), .val (.ref a1), .val (.int (1 : Int32)), .val (.int (0 : Int32)), .val (.int (g_a1f 0))] [(.int (1 : Int32)), (.int ((fun _ => (0 : Int32)) ((g_a1f 0) / (32 : Int32)).toNatClampNeg)), (.int ((g_a1f 0) / (32 : Int32))), (.ref b5)]))
  refine Go.step (fun t k => XS.iload X5.here hx rfl (hb hby d2_81) rfl k) ?_
  show Go p e below _ (T5.setTop (mkF m 83 #[.val (.ref a1), .val (.int v4), .val (.ref b5), .val (.ref a1), .val (.int (1 : Int32)), .val (.int (0 : Int32)), .val (.int (g_a1f 0))] [(.int (g_a1f 0)), (.int (1 : Int32)), (.int ((fun _ => (0 : Int32)) ((g_a1f 0) / (32 : Int32)).toNatClampNeg)), (.int ((g_a1f 0) / (32 : Int32))), (.ref b5)]))
  refine Go.step (fun t k => XS.bipush X5.here hx rfl (hb hby d2_83)  k) ?_
  show Go p e below _ (T5.setTop (mkF m 85 #[.val (.ref a1), .val (.int v4), .val (.ref b5), .val (.ref a1), .val (.int (1 : Int32)), .val (.int (0 : Int32)), .val (.int (g_a1f 0))] [(.int (32 : Int32)), (.int (g_a1f 0)), (.int (1 : Int32)), (.int ((fun _ => (0 : Int32)) ((g_a1f 0) / (32 : Int32)).toNatClampNeg)), (.int ((g_a1f 0) / (32 : Int32))), (.ref b5)]))
  refine Go.step (fun t (k : Steps p.tables e below (T5.setTop (mkF m 86 #[.val (.ref a1), .val (.int v4), .val (.ref b5), .val (.ref a1), .val (.int (1 : Int32)), .val (.int (0 : Int32)), .val (.int (g_a1f 0))] [(.int ((g_a1f 0) % (32 : Int32))), (.int (1 : Int32)), (.int ((fun _ => (0 : Int32)) ((g_a1f 0) / (32 : Int32)).toNatClampNeg)), (.int ((g_a1f 0) / (32 : Int32))), (.ref b5)])) t) => XS.irem X5.here hx rfl (hb hby d2_85) rfl (by decide) (by rw [remI]; exact k)) ?_
  show Go p e below _ (T5.setTop (mkF m 86 #[.val (.ref a1), .val (.int v4), .val (.ref b5), .val (.ref a1), .val (.int (1 : Int32)), .val (.int (0 : Int32)), .val (.int (g_a1f 0))] [(.int ((g_a1f 0) % (32 : Int32))), (.int (1 : Int32)), (.int ((fun _ => (0 : Int32)) ((g_a1f 0) / (32 : Int32)).toNatClampNeg)), (.int ((g_a1f 0) / (32 : Int32))), (.ref b5)]))
  refine Go.step (fun t k => XS.ishl X5.here hx rfl (hb hby d2_86) rfl k) ?_
  show Go p e below _ (T5.setTop (mkF m 87 #[.val (.ref a1), .val (.int v4), .val (.ref b5), .val (.ref a1), .val (.int (1 : Int32)), .val (.int (0 : Int32)), .val (.int (g_a1f 0))] [(.int ((1 : Int32) <<< (((g_a1f 0) % (32 : Int32)) &&& 31))), (.int ((fun _ => (0 : Int32)) ((g_a1f 0) / (32 : Int32)).toNatClampNeg)), (.int ((g_a1f 0) / (32 : Int32))), (.ref b5)]))
  refine Go.step (fun t k => XS.ior X5.here hx rfl (hb hby d2_87) rfl k) ?_
  show Go p e below _ (T5.setTop (mkF m 88 #[.val (.ref a1), .val (.int v4), .val (.ref b5), .val (.ref a1), .val (.int (1 : Int32)), .val (.int (0 : Int32)), .val (.int (g_a1f 0))] [(.int (((fun _ => (0 : Int32)) ((g_a1f 0) / (32 : Int32)).toNatClampNeg) ||| ((1 : Int32) <<< (((g_a1f 0) % (32 : Int32)) &&& 31)))), (.int ((g_a1f 0) / (32 : Int32))), (.ref b5)]))
  obtain ⟨cl6, Ar6, in6, -⟩ := A_b5_5.hin (j := ((g_a1f 0) / (32 : Int32))) ((by subst_vars; first | exact (Bit.at (Hi.max Hi.m1 hB0).1 hB0 (Hi.max Hi.m1 hB0).2.2).1) : ¬ ((g_a1f 0) / (32 : Int32)) < 0) ((by subst_vars; first | exact (Bit.at (Hi.max Hi.m1 hB0).1 hB0 (Hi.max Hi.m1 hB0).2.2).2) : ((g_a1f 0) / (32 : Int32)).toNatClampNeg < ((v4 + (32 : Int32)) / (32 : Int32)).toNatClampNeg)
  obtain ⟨T6, h6, X6, e6, W6, st6⟩ := stI X5 hx hZ e5 Ar6 in6 (g := (mkF m 88 #[.val (.ref a1), .val (.int v4), .val (.ref b5), .val (.ref a1), .val (.int (1 : Int32)), .val (.int (0 : Int32)), .val (.int (g_a1f 0))] [(.int (((fun _ => (0 : Int32)) ((g_a1f 0) / (32 : Int32)).toNatClampNeg) ||| ((1 : Int32) <<< (((g_a1f 0) % (32 : Int32)) &&& 31)))), (.int ((g_a1f 0) / (32 : Int32))), (.ref b5)])) rfl rfl (hb hby d2_88)
  refine Go.step st6 ?_
  have N6 := Fr.snoc X6 N3 g_b5
  have A_a1_6 := A_a1_5.other W6 ne_a1_b5
  have Z6 := Nat.le_trans Z5 (Keep.of_wr W6).1
  have KK6 : Keep h0 h6 [] := KK5.wr W6 (Or.inr sz_b5)
  have A_b5_6 : Ary Z h6 b5 .int ((v4 + (32 : Int32)) / (32 : Int32)).toNatClampNeg (fun i => .int ((orW (fun _ => (0 : Int32)) (g_a1f 0)) i)) := A_b5_5.setI W6 ((by subst_vars; first | exact (Bit.at (Hi.max Hi.m1 hB0).1 hB0 (Hi.max Hi.m1 hB0).2.2).2) : ((g_a1f 0) / (32 : Int32)).toNatClampNeg < ((v4 + (32 : Int32)) / (32 : Int32)).toNatClampNeg)
  show Go p e below _ (T6.setTop (mkF m 89 #[.val (.ref a1), .val (.int v4), .val (.ref b5), .val (.ref a1), .val (.int (1 : Int32)), .val (.int (0 : Int32)), .val (.int (g_a1f 0))] []))
  refine Go.step (fun t k => XS.iinc X6.here hx rfl (hb hby d2_89) rfl (l' := #[.val (.ref a1), .val (.int v4), .val (.ref b5), .val (.ref a1), .val (.int (1 : Int32)), .val (.int (1 : Int32)), .val (.int (g_a1f 0))]) rfl k) ?_
  show Go p e below _ (T6.setTop (mkF m 92 #[.val (.ref a1), .val (.int v4), .val (.ref b5), .val (.ref a1), .val (.int (1 : Int32)), .val (.int (1 : Int32)), .val (.int (g_a1f 0))] []))
  refine Go.step (fun t k => XS.goto X6.here hx rfl (pc0 := 92) (pc' := 59) rfl (hb hby d2_92) (by decide) (by decide) k) ?_
  show Go p e below _ (T6.setTop (mkF m 59 #[.val (.ref a1), .val (.int v4), .val (.ref b5), .val (.ref a1), .val (.int (1 : Int32)), .val (.int (1 : Int32)), .val (.int (g_a1f 0))] []))
  refine Go.step (fun t k => XS.iload X6.here hx rfl (hb hby d2_59) rfl k) ?_
  show Go p e below _ (T6.setTop (mkF m 61 #[.val (.ref a1), .val (.int v4), .val (.ref b5), .val (.ref a1), .val (.int (1 : Int32)), .val (.int (1 : Int32)), .val (.int (g_a1f 0))] [(.int (1 : Int32))]))
  refine Go.step (fun t k => XS.iload X6.here hx rfl (hb hby d2_61) rfl k) ?_
  show Go p e below _ (T6.setTop (mkF m 63 #[.val (.ref a1), .val (.int v4), .val (.ref b5), .val (.ref a1), .val (.int (1 : Int32)), .val (.int (1 : Int32)), .val (.int (g_a1f 0))] [(.int (1 : Int32)), (.int (1 : Int32))]))
  refine Go.step (fun t k => XS.icmpYes X6.here hx rfl (pc0 := 63) (pc' := 95) rfl (hb hby d2_63) rfl (flt (by decide : ¬ ((1 : Int32) < (1 : Int32)))).2.1 (by decide) (by decide) k) ?_
  show Go p e below _ (T6.setTop (mkF m 95 #[.val (.ref a1), .val (.int v4), .val (.ref b5), .val (.ref a1), .val (.int (1 : Int32)), .val (.int (1 : Int32)), .val (.int (g_a1f 0))] []))
  obtain ⟨T7, h7, X7, e7, E7, A7, D7, -, st7⟩ := newO X6 hx hZ hown (hw _ (List.mem_of_getElem? (i := 9) rfl)) (hw _ (List.mem_of_getElem? (i := 10) rfl)) (hw _ (List.mem_of_getElem? (i := 7) rfl)) e6 (g := (mkF m 95 #[.val (.ref a1), .val (.int v4), .val (.ref b5), .val (.ref a1), .val (.int (1 : Int32)), .val (.int (1 : Int32)), .val (.int (g_a1f 0))] [])) rfl (hb hby d2_95) (by decide) (by decide)
  obtain ⟨b7, g7⟩ : ∃ z, z = h6.size := ⟨_, rfl⟩
  rw [← g7] at A7 D7 st7
  have g_b7 : n0 ≤ b7 := Nat.le_trans Z6 (Nat.le_of_eq g7.symm)
  have sz_b7 : h0.size ≤ b7 := Nat.le_trans KK6.1 (Nat.le_of_eq g7.symm)
  have ne_a1_b7 : a1 ≠ b7 := Nat.ne_of_lt (Nat.lt_of_lt_of_le A_a1_6.lt (Nat.le_of_eq g7.symm))
  have ne_b5_b7 : b5 ≠ b7 := Nat.ne_of_lt (Nat.lt_of_lt_of_le A_b5_6.lt (Nat.le_of_eq g7.symm))
  refine Go.step st7 ?_
  have A_a1_7 := A_a1_6.ext E7
  have A_b5_7 := A_b5_6.ext E7
  have Z7 := Nat.le_trans Z6 E7.1
  have KK7 : Keep h0 h7 [] := KK6.ext E7
  have F_words_b7 : Fld Z h7 b7 "com/example/menshen/menshen/core/PermissionSet" "words" "[I" .null := D7 (Or.inr (hw _ (List.mem_of_getElem? (i := 18) rfl))) (ty := (.array .int)) (by decide)
  show Go p e below _ (T7.setTop (mkF m 98 #[.val (.ref a1), .val (.int v4), .val (.ref b5), .val (.ref a1), .val (.int (1 : Int32)), .val (.int (1 : Int32)), .val (.int (g_a1f 0))] [(.ref b7)]))
  refine Go.step (fun t k => XS.dup X7.here hx rfl (hb hby d2_98) rfl rfl k) ?_
  show Go p e below _ (T7.setTop (mkF m 99 #[.val (.ref a1), .val (.int v4), .val (.ref b5), .val (.ref a1), .val (.int (1 : Int32)), .val (.int (1 : Int32)), .val (.int (g_a1f 0))] [(.ref b7), (.ref b7)]))
  refine Go.step (fun t k => XS.aloadN X7.here hx rfl (hb hby d2_99) rfl rfl k) ?_
  show Go p e below _ (T7.setTop (mkF m 100 #[.val (.ref a1), .val (.int v4), .val (.ref b5), .val (.ref a1), .val (.int (1 : Int32)), .val (.int (1 : Int32)), .val (.int (g_a1f 0))] [(.ref b5), (.ref b7), (.ref b7)]))
  obtain ⟨_, _, ⟨T8, L8, k8, n8⟩, -, X8, ⟨Lc8, hQ8, l8, y8, z8⟩, st8⟩ := X7.specialBack hx (y := (⟨"com/example/menshen/menshen/core/PermissionSet", "<init>", "([I)V"⟩ : MethodName)) rfl hown (mvT hZ (hw _ (List.mem_of_getElem? (i := 11) rfl))) (mvT hZ (hw _ (List.mem_of_getElem? (i := 12) rfl))) (mvT hZ (hw _ (List.mem_of_getElem? (i := 13) rfl))) (by decide) (backOf (W := 1) (rm3 l Z a0 hw [] b7 b5 .null h7 n0 Z7 A7 F_words_b7 g_b7) hZ (hw _ (List.mem_of_getElem? (i := 13) rfl)) (hw _ (List.mem_of_getElem? (i := 7) rfl)) (by decide) (by decide)) (g := (mkF m 100 #[.val (.ref a1), .val (.int v4), .val (.ref b5), .val (.ref a1), .val (.int (1 : Int32)), .val (.int (1 : Int32)), .val (.int (g_a1f 0))] [(.ref b5), (.ref b7), (.ref b7)])) rfl (by rw [hml]; rfl) (Steps.refl _) (a := b7) (argsL := [(.ref b5)]) (rest := [(.ref b7)]) (lenOf pd_0 rfl) rfl (by show 2 * 0 + _ ≤ _; exact Nat.le_of_eq rfl) (hb hby d2_100) (fun _ _ => ⟨rfl, e7, (by decide : 2 + 0 ≤ _), (by decide : 129 + 0 ≤ _)⟩)
  dsimp only [Pt.U, Pt.locs, Pt.cells, Pt.slots] at X8 l8 y8 z8 st8 hQ8
  subst l8 y8 z8
  obtain ⟨rfl, N8q, K8, Q8_0, Q8_1⟩ := hQ8
  have N8 := Fr.app N6 N8q
  have A_a1_8 := A_a1_7.keep K8 (ninS ne_a1_b7 nin0)
  have A_b5_8 := A_b5_7.keep K8 (ninS ne_b5_b7 nin0)
  have E_b7_8 := A7.keep K8
  have Z8 := Nat.le_trans Z7 K8.1
  have KK8 : Keep h0 T8.heap [] := KK7.trans K8 (allS (Or.inr sz_b7) all0)
  refine Go.trans st8 ?_
  show Go p e below _ (T8.setTop (mkF m 103 #[.val (.ref a1), .val (.int v4), .val (.ref b5), .val (.ref a1), .val (.int (1 : Int32)), .val (.int (1 : Int32)), .val (.int (g_a1f 0))] [(.ref b7)]))
  subst hv4
  refine retGR X8 hx Bd.notSynchronized Bd.returns rfl rfl (hb hby d2_103) ?_ (by decide) (by decide)
  show Q2_1 Z a1 g_a1f h0 n0 _ T8.heap _
  exact ⟨b7, b5, rfl, N8, KK8, sz_b7, sz_b5, A_b5_8, Q8_0, Q8_1⟩
theorem ef_2_2 (m : MethodId) (a1 : Addr) : entryFrame m #[(.ref a1)] 7 = mkF m 0 #[.val (.ref a1), .unset, .unset, .unset, .unset, .unset, .unset] [] := by first | (simp [entryFrame, mkF, argsToLocals, Value.category]; done) | rfl
def Q2_2 (Z : State) (a1 : Addr) (g_a1f : Nat → Int32) (h0 : Heap) (n0 : Nat) (v : Option Value) (h : Heap) (L : List Loc) : Prop := ∃ (b11 : Addr) (b8 : Addr), v = some (.ref b11) ∧ Fr n0 L ∧ Keep h0 h [] ∧ h0.size ≤ b11 ∧ h0.size ≤ b8 ∧ Ary Z h b8 .int (((f6 (f6 (-1 : Int32) (g_a1f 0)) (g_a1f 1)) + (32 : Int32)) / (32 : Int32)).toNatClampNeg (fun i => .int ((orW (orW (fun _ => (0 : Int32)) (g_a1f 0)) (g_a1f 1)) i)) ∧ Exa Z h b11 "com/example/menshen/menshen/core/PermissionSet" ∧ Fld Z h b11 "com/example/menshen/menshen/core/PermissionSet" "words" "[I" (.ref b8)
set_option maxRecDepth 65536 in
set_option maxHeartbeats 40000000 in
theorem rm2_2 (l : Launch) (Z : State) (a0 : Array Value) (hw : ∀ d ∈ tables_1, d.before a0 Z = true) (ws : List Jvm.Cond) (a1 : Addr) (g_a1f : Nat → Int32) (h0 : Heap) (n0 : Nat) (Z0 : n0 ≤ h0.size) (hB0 : Bit (g_a1f 0)) (hB1 : Bit (g_a1f 1)) (A_a1 : Ary Z h0 a1 .int 2 (fun i => .int (g_a1f i))) :
    MetFree l (⟨"com/example/menshen/menshen/core/PermissionSet", "of", "([I)Lcom/example/menshen/menshen/core/PermissionSet;"⟩ : MethodName) (head1 (Jvm.Cond.code (⟨"com/example/menshen/menshen/core/PermissionSet", "of", "([I)Lcom/example/menshen/menshen/core/PermissionSet;"⟩ : MethodName) prog_20_method_3_code 7 (some (.object "com/example/menshen/menshen/core/PermissionSet")) :: ws) ({ frames := 2, cells := 2, slots := 129, locals := 26 } : Room)) (fun a U => a = #[(.ref a1)] ∧ Z.Warmed39 U.vm ∧ U.heap = h0) (fun _ _ _ _ _ => True) (fun _ U o U' => ∃ v L, o = .returned v ∧ Q2_2 Z a1 g_a1f h0 n0 v U'.heap L ∧ FrameEnd U o U' L ({ frames := 2, cells := 2, slots := 129, locals := 26 } : Room).cells ({ frames := 2, cells := 2, slots := 129, locals := 26 } : Room).slots) := by
  refine MetFree.of_bodySF (plainFor_of_name pn_0) hisR ?_
  intro p e s m args below meth c s₁ Bd hml0 hP hK
  obtain ⟨rfl, hZ, hh⟩ := hP
  have hx := Bd.exec
  have hby := Bd.bytes
  have hml : c.maxLocals = 7 := hml0
  have hown : s.vm.findClass "com/example/menshen/menshen/core/PermissionSet" = some m.cls := findClass_of_methodNamed Bd.named
  have hnm := (name_of_methodNamed Bd.named Bd.method).1
  have X0 : Stand p l e ({ frames := 2, cells := 2, slots := 129, locals := 26 } : Room) s m #[(.ref a1)] below meth c s₁ [] 0 0 := Stand.of_body Bd
  have e0 : s₁.heap = h0 := by rw [← hh, Bd.state]; rfl
  have N0 := Fr.nil n0
  refine Go.done (Go.step (fun t k => castTop (ef_2_2 m a1) k) ?_)
  have KK0 : Keep h0 h0 [] := Keep.refl _ _
  show Go p e below _ (s₁.setTop (mkF m 0 #[.val (.ref a1), .unset, .unset, .unset, .unset, .unset, .unset] []))
  refine Go.step (fun t k => XS.iconst X0.here hx rfl (hb hby d2_0)  k) ?_
  show Go p e below _ (s₁.setTop (mkF m 1 #[.val (.ref a1), .unset, .unset, .unset, .unset, .unset, .unset] [(.int (-1 : Int32))]))
  refine Go.step (fun t k => XS.istoreN X0.here hx rfl (hb hby d2_1) rfl (l' := #[.val (.ref a1), .val (.int (-1 : Int32)), .unset, .unset, .unset, .unset, .unset]) rfl k) ?_
  show Go p e below _ (s₁.setTop (mkF m 2 #[.val (.ref a1), .val (.int (-1 : Int32)), .unset, .unset, .unset, .unset, .unset] []))
  refine Go.step (fun t k => XS.aloadN X0.here hx rfl (hb hby d2_2) rfl rfl k) ?_
  show Go p e below _ (s₁.setTop (mkF m 3 #[.val (.ref a1), .val (.int (-1 : Int32)), .unset, .unset, .unset, .unset, .unset] [(.ref a1)]))
  refine Go.step (fun t k => XS.astoreN X0.here hx rfl (hb hby d2_3) rfl rfl (l' := #[.val (.ref a1), .val (.int (-1 : Int32)), .val (.ref a1), .unset, .unset, .unset, .unset]) rfl k) ?_
  show Go p e below _ (s₁.setTop (mkF m 4 #[.val (.ref a1), .val (.int (-1 : Int32)), .val (.ref a1), .unset, .unset, .unset, .unset] []))
  refine Go.step (fun t k => XS.aloadN X0.here hx rfl (hb hby d2_4) rfl rfl k) ?_
  show Go p e below _ (s₁.setTop (mkF m 5 #[.val (.ref a1), .val (.int (-1 : Int32)), .val (.ref a1), .unset, .unset, .unset, .unset] [(.ref a1)]))
  refine Go.step (lenA X0 hx hZ e0 A_a1 (g := (mkF m 5 #[.val (.ref a1), .val (.int (-1 : Int32)), .val (.ref a1), .unset, .unset, .unset, .unset] [(.ref a1)])) rfl rfl (hb hby d2_5)) ?_
  show Go p e below _ (s₁.setTop (mkF m 6 #[.val (.ref a1), .val (.int (-1 : Int32)), .val (.ref a1), .unset, .unset, .unset, .unset] [(.int (2 : Int32))]))
  refine Go.step (fun t k => XS.istoreN X0.here hx rfl (hb hby d2_6) rfl (l' := #[.val (.ref a1), .val (.int (-1 : Int32)), .val (.ref a1), .val (.int (2 : Int32)), .unset, .unset, .unset]) rfl k) ?_
  show Go p e below _ (s₁.setTop (mkF m 7 #[.val (.ref a1), .val (.int (-1 : Int32)), .val (.ref a1), .val (.int (2 : Int32)), .unset, .unset, .unset] []))
  refine Go.step (fun t k => XS.iconst X0.here hx rfl (hb hby d2_7)  k) ?_
  show Go p e below _ (s₁.setTop (mkF m 8 #[.val (.ref a1), .val (.int (-1 : Int32)), .val (.ref a1), .val (.int (2 : Int32)), .unset, .unset, .unset] [(.int (0 : Int32))]))
  refine Go.step (fun t k => XS.istore X0.here hx rfl (hb hby d2_8) rfl (l' := #[.val (.ref a1), .val (.int (-1 : Int32)), .val (.ref a1), .val (.int (2 : Int32)), .val (.int (0 : Int32)), .unset, .unset]) rfl k) ?_
  show Go p e below _ (s₁.setTop (mkF m 10 #[.val (.ref a1), .val (.int (-1 : Int32)), .val (.ref a1), .val (.int (2 : Int32)), .val (.int (0 : Int32)), .unset, .unset] []))
  refine Go.step (fun t k => XS.iload X0.here hx rfl (hb hby d2_10) rfl k) ?_
  show Go p e below _ (s₁.setTop (mkF m 12 #[.val (.ref a1), .val (.int (-1 : Int32)), .val (.ref a1), .val (.int (2 : Int32)), .val (.int (0 : Int32)), .unset, .unset] [(.int (0 : Int32))]))
  refine Go.step (fun t k => XS.iloadN X0.here hx rfl (hb hby d2_12) rfl k) ?_
  show Go p e below _ (s₁.setTop (mkF m 13 #[.val (.ref a1), .val (.int (-1 : Int32)), .val (.ref a1), .val (.int (2 : Int32)), .val (.int (0 : Int32)), .unset, .unset] [(.int (2 : Int32)), (.int (0 : Int32))]))
  refine Go.step (fun t k => XS.icmpNo X0.here hx rfl (hb hby d2_13) rfl (tlt (by decide : (0 : Int32) < (2 : Int32))).2.1 k) ?_
  show Go p e below _ (s₁.setTop (mkF m 16 #[.val (.ref a1), .val (.int (-1 : Int32)), .val (.ref a1), .val (.int (2 : Int32)), .val (.int (0 : Int32)), .unset, .unset] []))
  refine Go.step (fun t k => XS.aloadN X0.here hx rfl (hb hby d2_16) rfl rfl k) ?_
  show Go p e below _ (s₁.setTop (mkF m 17 #[.val (.ref a1), .val (.int (-1 : Int32)), .val (.ref a1), .val (.int (2 : Int32)), .val (.int (0 : Int32)), .unset, .unset] [(.ref a1)]))
  refine Go.step (fun t k => XS.iload X0.here hx rfl (hb hby d2_17) rfl k) ?_
  show Go p e below _ (s₁.setTop (mkF m 19 #[.val (.ref a1), .val (.int (-1 : Int32)), .val (.ref a1), .val (.int (2 : Int32)), .val (.int (0 : Int32)), .unset, .unset] [(.int (0 : Int32)), (.ref a1)]))
  refine Go.step (ldI X0 hx hZ e0 A_a1 (j := (0 : Int32)) (by decide) (by decide) (g := (mkF m 19 #[.val (.ref a1), .val (.int (-1 : Int32)), .val (.ref a1), .val (.int (2 : Int32)), .val (.int (0 : Int32)), .unset, .unset] [(.int (0 : Int32)), (.ref a1)])) rfl rfl (hb hby d2_19)) ?_
  show Go p e below _ (s₁.setTop (mkF m 20 #[.val (.ref a1), .val (.int (-1 : Int32)), .val (.ref a1), .val (.int (2 : Int32)), .val (.int (0 : Int32)), .unset, .unset] [(.int (g_a1f 0))]))
  refine Go.step (fun t k => XS.istore X0.here hx rfl (hb hby d2_20) rfl (l' := #[.val (.ref a1), .val (.int (-1 : Int32)), .val (.ref a1), .val (.int (2 : Int32)), .val (.int (0 : Int32)), .val (.int (g_a1f 0)), .unset]) rfl k) ?_
  show Go p e below _ (s₁.setTop (mkF m 22 #[.val (.ref a1), .val (.int (-1 : Int32)), .val (.ref a1), .val (.int (2 : Int32)), .val (.int (0 : Int32)), .val (.int (g_a1f 0)), .unset] []))
  refine Go.step (fun t k => XS.iload X0.here hx rfl (hb hby d2_22) rfl k) ?_
  show Go p e below _ (s₁.setTop (mkF m 24 #[.val (.ref a1), .val (.int (-1 : Int32)), .val (.ref a1), .val (.int (2 : Int32)), .val (.int (0 : Int32)), .val (.int (g_a1f 0)), .unset] [(.int (g_a1f 0))]))
  obtain ⟨_, _, ⟨T2, L2, k2, n2⟩, -, X2, ⟨Lc2, hQ2, l2, y2, z2⟩, st2⟩ := Jvm.LawKit.callS X0 hx (y := (⟨"com/example/menshen/menshen/core/PermissionSet", "checkBit", "(I)V"⟩ : MethodName)) hown (mvT hZ (hw _ (List.mem_of_getElem? (i := 30) rfl))) (mvT hZ (hw _ (List.mem_of_getElem? (i := 31) rfl))) (mvT hZ (hw _ (List.mem_of_getElem? (i := 7) rfl))) (mvT hZ (hw _ (List.mem_of_getElem? (i := 32) rfl))) (by decide) (backOf (W := 0) (rm7 l Z a0 hw [] (g_a1f 0) h0 n0 Z0 ((by subst_vars; first | exact hB0.ge | exact hB0.lt | exact hB1.ge | exact hB1.lt) : ¬ ((g_a1f 0) < (0 : Int32))) ((by subst_vars; first | exact hB0.ge | exact hB0.lt | exact hB1.ge | exact hB1.lt) : (g_a1f 0) < (4096 : Int32))) hZ (hw _ (List.mem_of_getElem? (i := 32) rfl)) (hw _ (List.mem_of_getElem? (i := 7) rfl)) (by decide) (by decide)) (g := (mkF m 24 #[.val (.ref a1), .val (.int (-1 : Int32)), .val (.ref a1), .val (.int (2 : Int32)), .val (.int (0 : Int32)), .val (.int (g_a1f 0)), .unset] [(.int (g_a1f 0))])) rfl (by rw [hml]; rfl) (argsL := [(.int (g_a1f 0))]) (rest := []) (lenOf pd_1 rfl) rfl (by show 2 * 0 + _ ≤ _; exact Nat.le_of_eq rfl) (hb hby d2_24) (fun _ _ => ⟨rfl, e0, (by decide : 0 + 0 ≤ _), (by decide : 0 + 0 ≤ _)⟩)
  dsimp only [Pt.U, Pt.locs, Pt.cells, Pt.slots] at X2 l2 y2 z2 st2 hQ2
  subst l2 y2 z2
  obtain ⟨rfl, N2q, e2⟩ := hQ2
  have N2 := Fr.app N0 N2q
  refine Go.step st2 ?_
  show Go p e below _ (T2.setTop (mkF m 27 #[.val (.ref a1), .val (.int (-1 : Int32)), .val (.ref a1), .val (.int (2 : Int32)), .val (.int (0 : Int32)), .val (.int (g_a1f 0)), .unset] []))
  refine Go.step (fun t k => XS.iloadN X2.here hx rfl (hb hby d2_27) rfl k) ?_
  show Go p e below _ (T2.setTop (mkF m 28 #[.val (.ref a1), .val (.int (-1 : Int32)), .val (.ref a1), .val (.int (2 : Int32)), .val (.int (0 : Int32)), .val (.int (g_a1f 0)), .unset] [(.int (-1 : Int32))]))
  refine Go.step (fun t k => XS.iload X2.here hx rfl (hb hby d2_28) rfl k) ?_
  show Go p e below _ (T2.setTop (mkF m 30 #[.val (.ref a1), .val (.int (-1 : Int32)), .val (.ref a1), .val (.int (2 : Int32)), .val (.int (0 : Int32)), .val (.int (g_a1f 0)), .unset] [(.int (g_a1f 0)), (.int (-1 : Int32))]))
  obtain ⟨_, _, ⟨T3, L3, k3, n3⟩, -, X3, ⟨Lc3, hQ3, l3, y3, z3⟩, st3⟩ := Jvm.LawKit.callS X2 hx (y := (⟨"java/lang/Math", "max", "(II)I"⟩ : MethodName)) hown (mvT hZ (hw _ (List.mem_of_getElem? (i := 24) rfl))) (mvT hZ (hw _ (List.mem_of_getElem? (i := 25) rfl))) (mvT hZ (hw _ (List.mem_of_getElem? (i := 26) rfl))) (mvT hZ (hw _ (List.mem_of_getElem? (i := 27) rfl))) (by decide) (backOf (W := 0) (rm6 l Z a0 hw [] (-1 : Int32) (g_a1f 0) h0 n0 Z0) hZ (hw _ (List.mem_of_getElem? (i := 27) rfl)) (hw _ (List.mem_of_getElem? (i := 26) rfl)) (by decide) (by decide)) (g := (mkF m 30 #[.val (.ref a1), .val (.int (-1 : Int32)), .val (.ref a1), .val (.int (2 : Int32)), .val (.int (0 : Int32)), .val (.int (g_a1f 0)), .unset] [(.int (g_a1f 0)), (.int (-1 : Int32))])) rfl (by rw [hml]; rfl) (argsL := [(.int (-1 : Int32)), (.int (g_a1f 0))]) (rest := []) (lenOf pd_2 rfl) rfl (by show 2 * 0 + _ ≤ _; exact Nat.le_of_eq rfl) (hb hby d2_30) (fun _ _ => ⟨rfl, e2, (by decide : 0 + 0 ≤ _), (by decide : 0 + 0 ≤ _)⟩)
  dsimp only [Pt.U, Pt.locs, Pt.cells, Pt.slots] at X3 l3 y3 z3 st3 hQ3
  subst l3 y3 z3
  obtain ⟨rfl, N3q, e3⟩ := hQ3
  have N3 := Fr.app N2 N3q
  refine Go.step st3 ?_
  show Go p e below _ (T3.setTop (mkF m 33 #[.val (.ref a1), .val (.int (-1 : Int32)), .val (.ref a1), .val (.int (2 : Int32)), .val (.int (0 : Int32)), .val (.int (g_a1f 0)), .unset] [(.int (f6 (-1 : Int32) (g_a1f 0)))]))
  obtain ⟨v4, hv4⟩ : ∃ z : Int32, z = (f6 (-1 : Int32) (g_a1f 0)) := ⟨_, rfl⟩
  rw [← hv4]
  show Go p e below _ (T3.setTop (mkF m 33 #[.val (.ref a1), .val (.int (-1 : Int32)), .val (.ref a1), .val (.int (2 : Int32)), .val (.int (0 : Int32)), .val (.int (g_a1f 0)), .unset] [(.int v4)]))
  refine Go.step (fun t k => XS.istoreN X3.here hx rfl (hb hby d2_33) rfl (l' := #[.val (.ref a1), .val (.int v4), .val (.ref a1), .val (.int (2 : Int32)), .val (.int (0 : Int32)), .val (.int (g_a1f 0)), .unset]) rfl k) ?_
  show Go p e below _ (T3.setTop (mkF m 34 #[.val (.ref a1), .val (.int v4), .val (.ref a1), .val (.int (2 : Int32)), .val (.int (0 : Int32)), .val (.int (g_a1f 0)), .unset] []))
  refine Go.step (fun t k => XS.iinc X3.here hx rfl (hb hby d2_34) rfl (l' := #[.val (.ref a1), .val (.int v4), .val (.ref a1), .val (.int (2 : Int32)), .val (.int (1 : Int32)), .val (.int (g_a1f 0)), .unset]) rfl k) ?_
  show Go p e below _ (T3.setTop (mkF m 37 #[.val (.ref a1), .val (.int v4), .val (.ref a1), .val (.int (2 : Int32)), .val (.int (1 : Int32)), .val (.int (g_a1f 0)), .unset] []))
  refine Go.step (fun t k => XS.goto X3.here hx rfl (pc0 := 37) (pc' := 10) rfl (hb hby d2_37) (by decide) (by decide) k) ?_
  show Go p e below _ (T3.setTop (mkF m 10 #[.val (.ref a1), .val (.int v4), .val (.ref a1), .val (.int (2 : Int32)), .val (.int (1 : Int32)), .val (.int (g_a1f 0)), .unset] []))
  refine Go.step (fun t k => XS.iload X3.here hx rfl (hb hby d2_10) rfl k) ?_
  show Go p e below _ (T3.setTop (mkF m 12 #[.val (.ref a1), .val (.int v4), .val (.ref a1), .val (.int (2 : Int32)), .val (.int (1 : Int32)), .val (.int (g_a1f 0)), .unset] [(.int (1 : Int32))]))
  refine Go.step (fun t k => XS.iloadN X3.here hx rfl (hb hby d2_12) rfl k) ?_
  show Go p e below _ (T3.setTop (mkF m 13 #[.val (.ref a1), .val (.int v4), .val (.ref a1), .val (.int (2 : Int32)), .val (.int (1 : Int32)), .val (.int (g_a1f 0)), .unset] [(.int (2 : Int32)), (.int (1 : Int32))]))
  refine Go.step (fun t k => XS.icmpNo X3.here hx rfl (hb hby d2_13) rfl (tlt (by decide : (1 : Int32) < (2 : Int32))).2.1 k) ?_
  show Go p e below _ (T3.setTop (mkF m 16 #[.val (.ref a1), .val (.int v4), .val (.ref a1), .val (.int (2 : Int32)), .val (.int (1 : Int32)), .val (.int (g_a1f 0)), .unset] []))
  refine Go.step (fun t k => XS.aloadN X3.here hx rfl (hb hby d2_16) rfl rfl k) ?_
  show Go p e below _ (T3.setTop (mkF m 17 #[.val (.ref a1), .val (.int v4), .val (.ref a1), .val (.int (2 : Int32)), .val (.int (1 : Int32)), .val (.int (g_a1f 0)), .unset] [(.ref a1)]))
  refine Go.step (fun t k => XS.iload X3.here hx rfl (hb hby d2_17) rfl k) ?_
  show Go p e below _ (T3.setTop (mkF m 19 #[.val (.ref a1), .val (.int v4), .val (.ref a1), .val (.int (2 : Int32)), .val (.int (1 : Int32)), .val (.int (g_a1f 0)), .unset] [(.int (1 : Int32)), (.ref a1)]))
  refine Go.step (ldI X3 hx hZ e3 A_a1 (j := (1 : Int32)) (by decide) (by decide) (g := (mkF m 19 #[.val (.ref a1), .val (.int v4), .val (.ref a1), .val (.int (2 : Int32)), .val (.int (1 : Int32)), .val (.int (g_a1f 0)), .unset] [(.int (1 : Int32)), (.ref a1)])) rfl rfl (hb hby d2_19)) ?_
  show Go p e below _ (T3.setTop (mkF m 20 #[.val (.ref a1), .val (.int v4), .val (.ref a1), .val (.int (2 : Int32)), .val (.int (1 : Int32)), .val (.int (g_a1f 0)), .unset] [(.int (g_a1f 1))]))
  refine Go.step (fun t k => XS.istore X3.here hx rfl (hb hby d2_20) rfl (l' := #[.val (.ref a1), .val (.int v4), .val (.ref a1), .val (.int (2 : Int32)), .val (.int (1 : Int32)), .val (.int (g_a1f 1)), .unset]) rfl k) ?_
  show Go p e below _ (T3.setTop (mkF m 22 #[.val (.ref a1), .val (.int v4), .val (.ref a1), .val (.int (2 : Int32)), .val (.int (1 : Int32)), .val (.int (g_a1f 1)), .unset] []))
  refine Go.step (fun t k => XS.iload X3.here hx rfl (hb hby d2_22) rfl k) ?_
  show Go p e below _ (T3.setTop (mkF m 24 #[.val (.ref a1), .val (.int v4), .val (.ref a1), .val (.int (2 : Int32)), .val (.int (1 : Int32)), .val (.int (g_a1f 1)), .unset] [(.int (g_a1f 1))]))
  obtain ⟨_, _, ⟨T5, L5, k5, n5⟩, -, X5, ⟨Lc5, hQ5, l5, y5, z5⟩, st5⟩ := Jvm.LawKit.callS X3 hx (y := (⟨"com/example/menshen/menshen/core/PermissionSet", "checkBit", "(I)V"⟩ : MethodName)) hown (mvT hZ (hw _ (List.mem_of_getElem? (i := 30) rfl))) (mvT hZ (hw _ (List.mem_of_getElem? (i := 31) rfl))) (mvT hZ (hw _ (List.mem_of_getElem? (i := 7) rfl))) (mvT hZ (hw _ (List.mem_of_getElem? (i := 32) rfl))) (by decide) (backOf (W := 0) (rm7 l Z a0 hw [] (g_a1f 1) h0 n0 Z0 ((by subst_vars; first | exact hB0.ge | exact hB0.lt | exact hB1.ge | exact hB1.lt) : ¬ ((g_a1f 1) < (0 : Int32))) ((by subst_vars; first | exact hB0.ge | exact hB0.lt | exact hB1.ge | exact hB1.lt) : (g_a1f 1) < (4096 : Int32))) hZ (hw _ (List.mem_of_getElem? (i := 32) rfl)) (hw _ (List.mem_of_getElem? (i := 7) rfl)) (by decide) (by decide)) (g := (mkF m 24 #[.val (.ref a1), .val (.int v4), .val (.ref a1), .val (.int (2 : Int32)), .val (.int (1 : Int32)), .val (.int (g_a1f 1)), .unset] [(.int (g_a1f 1))])) rfl (by rw [hml]; rfl) (argsL := [(.int (g_a1f 1))]) (rest := []) (lenOf pd_1 rfl) rfl (by show 2 * 0 + _ ≤ _; exact Nat.le_of_eq rfl) (hb hby d2_24) (fun _ _ => ⟨rfl, e3, (by decide : 0 + 0 ≤ _), (by decide : 0 + 0 ≤ _)⟩)
  dsimp only [Pt.U, Pt.locs, Pt.cells, Pt.slots] at X5 l5 y5 z5 st5 hQ5
  subst l5 y5 z5
  obtain ⟨rfl, N5q, e5⟩ := hQ5
  have N5 := Fr.app N3 N5q
  refine Go.step st5 ?_
  show Go p e below _ (T5.setTop (mkF m 27 #[.val (.ref a1), .val (.int v4), .val (.ref a1), .val (.int (2 : Int32)), .val (.int (1 : Int32)), .val (.int (g_a1f 1)), .unset] []))
  refine Go.step (fun t k => XS.iloadN X5.here hx rfl (hb hby d2_27) rfl k) ?_
  show Go p e below _ (T5.setTop (mkF m 28 #[.val (.ref a1), .val (.int v4), .val (.ref a1), .val (.int (2 : Int32)), .val (.int (1 : Int32)), .val (.int (g_a1f 1)), .unset] [(.int v4)]))
  refine Go.step (fun t k => XS.iload X5.here hx rfl (hb hby d2_28) rfl k) ?_
  show Go p e below _ (T5.setTop (mkF m 30 #[.val (.ref a1), .val (.int v4), .val (.ref a1), .val (.int (2 : Int32)), .val (.int (1 : Int32)), .val (.int (g_a1f 1)), .unset] [(.int (g_a1f 1)), (.int v4)]))
  obtain ⟨_, _, ⟨T6, L6, k6, n6⟩, -, X6, ⟨Lc6, hQ6, l6, y6, z6⟩, st6⟩ := Jvm.LawKit.callS X5 hx (y := (⟨"java/lang/Math", "max", "(II)I"⟩ : MethodName)) hown (mvT hZ (hw _ (List.mem_of_getElem? (i := 24) rfl))) (mvT hZ (hw _ (List.mem_of_getElem? (i := 25) rfl))) (mvT hZ (hw _ (List.mem_of_getElem? (i := 26) rfl))) (mvT hZ (hw _ (List.mem_of_getElem? (i := 27) rfl))) (by decide) (backOf (W := 0) (rm6 l Z a0 hw [] v4 (g_a1f 1) h0 n0 Z0) hZ (hw _ (List.mem_of_getElem? (i := 27) rfl)) (hw _ (List.mem_of_getElem? (i := 26) rfl)) (by decide) (by decide)) (g := (mkF m 30 #[.val (.ref a1), .val (.int v4), .val (.ref a1), .val (.int (2 : Int32)), .val (.int (1 : Int32)), .val (.int (g_a1f 1)), .unset] [(.int (g_a1f 1)), (.int v4)])) rfl (by rw [hml]; rfl) (argsL := [(.int v4), (.int (g_a1f 1))]) (rest := []) (lenOf pd_2 rfl) rfl (by show 2 * 0 + _ ≤ _; exact Nat.le_of_eq rfl) (hb hby d2_30) (fun _ _ => ⟨rfl, e5, (by decide : 0 + 0 ≤ _), (by decide : 0 + 0 ≤ _)⟩)
  dsimp only [Pt.U, Pt.locs, Pt.cells, Pt.slots] at X6 l6 y6 z6 st6 hQ6
  subst l6 y6 z6
  obtain ⟨rfl, N6q, e6⟩ := hQ6
  have N6 := Fr.app N5 N6q
  refine Go.step st6 ?_
  show Go p e below _ (T6.setTop (mkF m 33 #[.val (.ref a1), .val (.int v4), .val (.ref a1), .val (.int (2 : Int32)), .val (.int (1 : Int32)), .val (.int (g_a1f 1)), .unset] [(.int (f6 v4 (g_a1f 1)))]))
  obtain ⟨v7, hv7⟩ : ∃ z : Int32, z = (f6 v4 (g_a1f 1)) := ⟨_, rfl⟩
  rw [← hv7]
  show Go p e below _ (T6.setTop (mkF m 33 #[.val (.ref a1), .val (.int v4), .val (.ref a1), .val (.int (2 : Int32)), .val (.int (1 : Int32)), .val (.int (g_a1f 1)), .unset] [(.int v7)]))
  refine Go.step (fun t k => XS.istoreN X6.here hx rfl (hb hby d2_33) rfl (l' := #[.val (.ref a1), .val (.int v7), .val (.ref a1), .val (.int (2 : Int32)), .val (.int (1 : Int32)), .val (.int (g_a1f 1)), .unset]) rfl k) ?_
  show Go p e below _ (T6.setTop (mkF m 34 #[.val (.ref a1), .val (.int v7), .val (.ref a1), .val (.int (2 : Int32)), .val (.int (1 : Int32)), .val (.int (g_a1f 1)), .unset] []))
  refine Go.step (fun t k => XS.iinc X6.here hx rfl (hb hby d2_34) rfl (l' := #[.val (.ref a1), .val (.int v7), .val (.ref a1), .val (.int (2 : Int32)), .val (.int (2 : Int32)), .val (.int (g_a1f 1)), .unset]) rfl k) ?_
  show Go p e below _ (T6.setTop (mkF m 37 #[.val (.ref a1), .val (.int v7), .val (.ref a1), .val (.int (2 : Int32)), .val (.int (2 : Int32)), .val (.int (g_a1f 1)), .unset] []))
  refine Go.step (fun t k => XS.goto X6.here hx rfl (pc0 := 37) (pc' := 10) rfl (hb hby d2_37) (by decide) (by decide) k) ?_
  show Go p e below _ (T6.setTop (mkF m 10 #[.val (.ref a1), .val (.int v7), .val (.ref a1), .val (.int (2 : Int32)), .val (.int (2 : Int32)), .val (.int (g_a1f 1)), .unset] []))
  refine Go.step (fun t k => XS.iload X6.here hx rfl (hb hby d2_10) rfl k) ?_
  show Go p e below _ (T6.setTop (mkF m 12 #[.val (.ref a1), .val (.int v7), .val (.ref a1), .val (.int (2 : Int32)), .val (.int (2 : Int32)), .val (.int (g_a1f 1)), .unset] [(.int (2 : Int32))]))
  refine Go.step (fun t k => XS.iloadN X6.here hx rfl (hb hby d2_12) rfl k) ?_
  show Go p e below _ (T6.setTop (mkF m 13 #[.val (.ref a1), .val (.int v7), .val (.ref a1), .val (.int (2 : Int32)), .val (.int (2 : Int32)), .val (.int (g_a1f 1)), .unset] [(.int (2 : Int32)), (.int (2 : Int32))]))
  refine Go.step (fun t k => XS.icmpYes X6.here hx rfl (pc0 := 13) (pc' := 40) rfl (hb hby d2_13) rfl (flt (by decide : ¬ ((2 : Int32) < (2 : Int32)))).2.1 (by decide) (by decide) k) ?_
  show Go p e below _ (T6.setTop (mkF m 40 #[.val (.ref a1), .val (.int v7), .val (.ref a1), .val (.int (2 : Int32)), .val (.int (2 : Int32)), .val (.int (g_a1f 1)), .unset] []))
  refine Go.step (fun t k => XS.iloadN X6.here hx rfl (hb hby d2_40) rfl k) ?_
  show Go p e below _ (T6.setTop (mkF m 41 #[.val (.ref a1), .val (.int v7), .val (.ref a1), .val (.int (2 : Int32)), .val (.int (2 : Int32)), .val (.int (g_a1f 1)), .unset] [(.int v7)]))
  refine Go.step (fun t k => XS.bipush X6.here hx rfl (hb hby d2_41)  k) ?_
  show Go p e below _ (T6.setTop (mkF m 43 #[.val (.ref a1), .val (.int v7), .val (.ref a1), .val (.int (2 : Int32)), .val (.int (2 : Int32)), .val (.int (g_a1f 1)), .unset] [(.int (32 : Int32)), (.int v7)]))
  refine Go.step (fun t k => XS.iadd X6.here hx rfl (hb hby d2_43) rfl k) ?_
  show Go p e below _ (T6.setTop (mkF m 44 #[.val (.ref a1), .val (.int v7), .val (.ref a1), .val (.int (2 : Int32)), .val (.int (2 : Int32)), .val (.int (g_a1f 1)), .unset] [(.int (v7 + (32 : Int32)))]))
  refine Go.step (fun t k => XS.bipush X6.here hx rfl (hb hby d2_44)  k) ?_
  show Go p e below _ (T6.setTop (mkF m 46 #[.val (.ref a1), .val (.int v7), .val (.ref a1), .val (.int (2 : Int32)), .val (.int (2 : Int32)), .val (.int (g_a1f 1)), .unset] [(.int (32 : Int32)), (.int (v7 + (32 : Int32)))]))
  refine Go.step (fun t k => XS.idiv X6.here hx rfl (hb hby d2_46) rfl (by decide) k) ?_
  show Go p e below _ (T6.setTop (mkF m 47 #[.val (.ref a1), .val (.int v7), .val (.ref a1), .val (.int (2 : Int32)), .val (.int (2 : Int32)), .val (.int (g_a1f 1)), .unset] [(.int ((v7 + (32 : Int32)) / (32 : Int32)))]))
  obtain ⟨T8, h8, k8, X8, e8, E8, A8, st8⟩ := newP X6 hx hZ (hw _ (List.mem_of_getElem? (i := 4) rfl)) e6 (g := (mkF m 47 #[.val (.ref a1), .val (.int v7), .val (.ref a1), .val (.int (2 : Int32)), .val (.int (2 : Int32)), .val (.int (g_a1f 1)), .unset] [(.int ((v7 + (32 : Int32)) / (32 : Int32)))])) rfl (hb hby d2_47) rfl ((by subst_vars; exact (Hi.sz (Hi.max (Hi.max Hi.m1 hB0).1 hB1).1).1) : ¬ ((v7 + (32 : Int32)) / (32 : Int32)) < 0) (cap := 128) ((by subst_vars; exact (Hi.sz (Hi.max (Hi.max Hi.m1 hB0).1 hB1).1).2.1) : ((v7 + (32 : Int32)) / (32 : Int32)).toNatClampNeg ≤ 128) (by decide) (by decide) (by decide)
  obtain ⟨b8, g8⟩ : ∃ z, z = h0.size := ⟨_, rfl⟩
  rw [← g8] at A8 st8
  have g_b8 : n0 ≤ b8 := Nat.le_trans Z0 (Nat.le_of_eq g8.symm)
  have sz_b8 : h0.size ≤ b8 := Nat.le_trans KK0.1 (Nat.le_of_eq g8.symm)
  have ne_a1_b8 : a1 ≠ b8 := Nat.ne_of_lt (Nat.lt_of_lt_of_le A_a1.lt (Nat.le_of_eq g8.symm))
  refine Go.step st8 ?_
  have A_a1_8 := A_a1.ext E8
  have Z8 := Nat.le_trans Z0 E8.1
  have KK8 : Keep h0 h8 [] := KK0.ext E8
  have A_b8_8 : Ary Z h8 b8 .int ((v7 + (32 : Int32)) / (32 : Int32)).toNatClampNeg (fun i => .int ((fun _ => (0 : Int32)) i)) := Ary.mk A8 ((by subst_vars; exact (Hi.sz (Hi.max (Hi.max Hi.m1 hB0).1 hB1).1).1) : ¬ ((v7 + (32 : Int32)) / (32 : Int32)) < 0) rfl
  show Go p e below _ (T8.setTop (mkF m 49 #[.val (.ref a1), .val (.int v7), .val (.ref a1), .val (.int (2 : Int32)), .val (.int (2 : Int32)), .val (.int (g_a1f 1)), .unset] [(.ref b8)]))
  refine Go.step (fun t k => XS.astoreN X8.here hx rfl (hb hby d2_49) rfl rfl (l' := #[.val (.ref a1), .val (.int v7), .val (.ref b8), .val (.int (2 : Int32)), .val (.int (2 : Int32)), .val (.int (g_a1f 1)), .unset]) rfl k) ?_
  show Go p e below _ (T8.setTop (mkF m 50 #[.val (.ref a1), .val (.int v7), .val (.ref b8), .val (.int (2 : Int32)), .val (.int (2 : Int32)), .val (.int (g_a1f 1)), .unset] []))
  refine Go.step (fun t k => XS.aloadN X8.here hx rfl (hb hby d2_50) rfl rfl k) ?_
  show Go p e below _ (T8.setTop (mkF m 51 #[.val (.ref a1), .val (.int v7), .val (.ref b8), .val (.int (2 : Int32)), .val (.int (2 : Int32)), .val (.int (g_a1f 1)), .unset] [(.ref a1)]))
  refine Go.step (fun t k => XS.astoreN X8.here hx rfl (hb hby d2_51) rfl rfl (l' := #[.val (.ref a1), .val (.int v7), .val (.ref b8), .val (.ref a1), .val (.int (2 : Int32)), .val (.int (g_a1f 1)), .unset]) rfl k) ?_
  show Go p e below _ (T8.setTop (mkF m 52 #[.val (.ref a1), .val (.int v7), .val (.ref b8), .val (.ref a1), .val (.int (2 : Int32)), .val (.int (g_a1f 1)), .unset] []))
  refine Go.step (fun t k => XS.aloadN X8.here hx rfl (hb hby d2_52) rfl rfl k) ?_
  show Go p e below _ (T8.setTop (mkF m 53 #[.val (.ref a1), .val (.int v7), .val (.ref b8), .val (.ref a1), .val (.int (2 : Int32)), .val (.int (g_a1f 1)), .unset] [(.ref a1)]))
  refine Go.step (lenA X8 hx hZ e8 A_a1_8 (g := (mkF m 53 #[.val (.ref a1), .val (.int v7), .val (.ref b8), .val (.ref a1), .val (.int (2 : Int32)), .val (.int (g_a1f 1)), .unset] [(.ref a1)])) rfl rfl (hb hby d2_53)) ?_
  show Go p e below _ (T8.setTop (mkF m 54 #[.val (.ref a1), .val (.int v7), .val (.ref b8), .val (.ref a1), .val (.int (2 : Int32)), .val (.int (g_a1f 1)), .unset] [(.int (2 : Int32))]))
  refine Go.step (fun t k => XS.istore X8.here hx rfl (hb hby d2_54) rfl (l' := #[.val (.ref a1), .val (.int v7), .val (.ref b8), .val (.ref a1), .val (.int (2 : Int32)), .val (.int (g_a1f 1)), .unset]) rfl k) ?_
  show Go p e below _ (T8.setTop (mkF m 56 #[.val (.ref a1), .val (.int v7), .val (.ref b8), .val (.ref a1), .val (.int (2 : Int32)), .val (.int (g_a1f 1)), .unset] []))
  refine Go.step (fun t k => XS.iconst X8.here hx rfl (hb hby d2_56)  k) ?_
  show Go p e below _ (T8.setTop (mkF m 57 #[.val (.ref a1), .val (.int v7), .val (.ref b8), .val (.ref a1), .val (.int (2 : Int32)), .val (.int (g_a1f 1)), .unset] [(.int (0 : Int32))]))
  refine Go.step (fun t k => XS.istore X8.here hx rfl (hb hby d2_57) rfl (l' := #[.val (.ref a1), .val (.int v7), .val (.ref b8), .val (.ref a1), .val (.int (2 : Int32)), .val (.int (0 : Int32)), .unset]) rfl k) ?_
  show Go p e below _ (T8.setTop (mkF m 59 #[.val (.ref a1), .val (.int v7), .val (.ref b8), .val (.ref a1), .val (.int (2 : Int32)), .val (.int (0 : Int32)), .unset] []))
  refine Go.step (fun t k => XS.iload X8.here hx rfl (hb hby d2_59) rfl k) ?_
  show Go p e below _ (T8.setTop (mkF m 61 #[.val (.ref a1), .val (.int v7), .val (.ref b8), .val (.ref a1), .val (.int (2 : Int32)), .val (.int (0 : Int32)), .unset] [(.int (0 : Int32))]))
  refine Go.step (fun t k => XS.iload X8.here hx rfl (hb hby d2_61) rfl k) ?_
  show Go p e below _ (T8.setTop (mkF m 63 #[.val (.ref a1), .val (.int v7), .val (.ref b8), .val (.ref a1), .val (.int (2 : Int32)), .val (.int (0 : Int32)), .unset] [(.int (2 : Int32)), (.int (0 : Int32))]))
  refine Go.step (fun t k => XS.icmpNo X8.here hx rfl (hb hby d2_63) rfl (tlt (by decide : (0 : Int32) < (2 : Int32))).2.1 k) ?_
  show Go p e below _ (T8.setTop (mkF m 66 #[.val (.ref a1), .val (.int v7), .val (.ref b8), .val (.ref a1), .val (.int (2 : Int32)), .val (.int (0 : Int32)), .unset] []))
  refine Go.step (fun t k => XS.aloadN X8.here hx rfl (hb hby d2_66) rfl rfl k) ?_
  show Go p e below _ (T8.setTop (mkF m 67 #[.val (.ref a1), .val (.int v7), .val (.ref b8), .val (.ref a1), .val (.int (2 : Int32)), .val (.int (0 : Int32)), .unset] [(.ref a1)]))
  refine Go.step (fun t k => XS.iload X8.here hx rfl (hb hby d2_67) rfl k) ?_
  show Go p e below _ (T8.setTop (mkF m 69 #[.val (.ref a1), .val (.int v7), .val (.ref b8), .val (.ref a1), .val (.int (2 : Int32)), .val (.int (0 : Int32)), .unset] [(.int (0 : Int32)), (.ref a1)]))
  refine Go.step (ldI X8 hx hZ e8 A_a1_8 (j := (0 : Int32)) (by decide) (by decide) (g := (mkF m 69 #[.val (.ref a1), .val (.int v7), .val (.ref b8), .val (.ref a1), .val (.int (2 : Int32)), .val (.int (0 : Int32)), .unset] [(.int (0 : Int32)), (.ref a1)])) rfl rfl (hb hby d2_69)) ?_
  show Go p e below _ (T8.setTop (mkF m 70 #[.val (.ref a1), .val (.int v7), .val (.ref b8), .val (.ref a1), .val (.int (2 : Int32)), .val (.int (0 : Int32)), .unset] [(.int (g_a1f 0))]))
  refine Go.step (fun t k => XS.istore X8.here hx rfl (hb hby d2_70) rfl (l' := #[.val (.ref a1), .val (.int v7), .val (.ref b8), .val (.ref a1), .val (.int (2 : Int32)), .val (.int (0 : Int32)), .val (.int (g_a1f 0))]) rfl k) ?_
  show Go p e below _ (T8.setTop (mkF m 72 #[.val (.ref a1), .val (.int v7), .val (.ref b8), .val (.ref a1), .val (.int (2 : Int32)), .val (.int (0 : Int32)), .val (.int (g_a1f 0))] []))
  refine Go.step (fun t k => XS.aloadN X8.here hx rfl (hb hby d2_72) rfl rfl k) ?_
  show Go p e below _ (T8.setTop (mkF m 73 #[.val (.ref a1), .val (.int v7), .val (.ref b8), .val (.ref a1), .val (.int (2 : Int32)), .val (.int (0 : Int32)), .val (.int (g_a1f 0))] [(.ref b8)]))
  refine Go.step (fun t k => XS.iload X8.here hx rfl (hb hby d2_73) rfl k) ?_
  show Go p e below _ (T8.setTop (mkF m 75 #[.val (.ref a1), .val (.int v7), .val (.ref b8), .val (.ref a1), .val (.int (2 : Int32)), .val (.int (0 : Int32)), .val (.int (g_a1f 0))] [(.int (g_a1f 0)), (.ref b8)]))
  refine Go.step (fun t k => XS.bipush X8.here hx rfl (hb hby d2_75)  k) ?_
  show Go p e below _ (T8.setTop (mkF m 77 #[.val (.ref a1), .val (.int v7), .val (.ref b8), .val (.ref a1), .val (.int (2 : Int32)), .val (.int (0 : Int32)), .val (.int (g_a1f 0))] [(.int (32 : Int32)), (.int (g_a1f 0)), (.ref b8)]))
  refine Go.step (fun t k => XS.idiv X8.here hx rfl (hb hby d2_77) rfl (by decide) k) ?_
  show Go p e below _ (T8.setTop (mkF m 78 #[.val (.ref a1), .val (.int v7), .val (.ref b8), .val (.ref a1), .val (.int (2 : Int32)), .val (.int (0 : Int32)), .val (.int (g_a1f 0))] [(.int ((g_a1f 0) / (32 : Int32))), (.ref b8)]))
  refine Go.step (S' := T8.setTop (mkF m 79 #[.val (.ref a1), .val (.int v7), .val (.ref b8), .val (.ref a1), .val (.int (2 : Int32)), .val (.int (0 : Int32)), .val (.int (g_a1f 0))] [(.int ((g_a1f 0) / (32 : Int32))), (.ref b8), (.int ((g_a1f 0) / (32 : Int32))), (.ref b8)])) (fun t k => ?_) ?_
  · jvm_step X8.here [X8.here.top, hx, (hb hby d2_78), Value.category]
    exact k
  show Go p e below _ (T8.setTop (mkF m 79 #[.val (.ref a1), .val (.int v7), .val (.ref b8), .val (.ref a1), .val (.int (2 : Int32)), .val (.int (0 : Int32)), .val (.int (g_a1f 0))] [(.int ((g_a1f 0) / (32 : Int32))), (.ref b8), (.int ((g_a1f 0) / (32 : Int32))), (.ref b8)]))
  refine Go.step (ldI X8 hx hZ e8 A_b8_8 (j := ((g_a1f 0) / (32 : Int32))) ((by subst_vars; first | exact (Bit.at (Hi.max (Hi.max Hi.m1 hB0).1 hB1).1 hB0 (Int.le_trans (Hi.max Hi.m1 hB0).2.2 (Hi.max (Hi.max Hi.m1 hB0).1 hB1).2.1)).1 | exact (Bit.at (Hi.max (Hi.max Hi.m1 hB0).1 hB1).1 hB1 (Hi.max (Hi.max Hi.m1 hB0).1 hB1).2.2).1) : ¬ ((g_a1f 0) / (32 : Int32)) < 0) ((by subst_vars; first | exact (Bit.at (Hi.max (Hi.max Hi.m1 hB0).1 hB1).1 hB0 (Int.le_trans (Hi.max Hi.m1 hB0).2.2 (Hi.max (Hi.max Hi.m1 hB0).1 hB1).2.1)).2 | exact (Bit.at (Hi.max (Hi.max Hi.m1 hB0).1 hB1).1 hB1 (Hi.max (Hi.max Hi.m1 hB0).1 hB1).2.2).2) : ((g_a1f 0) / (32 : Int32)).toNatClampNeg < ((v7 + (32 : Int32)) / (32 : Int32)).toNatClampNeg) (g := (mkF m 79 #[.val (.ref a1), .val (.int v7), .val (.ref b8), .val (.ref a1), .val (.int (2 : Int32)), .val (.int (0 : Int32)), .val (.int (g_a1f 0))] [(.int ((g_a1f 0) / (32 : Int32))), (.ref b8), (.int ((g_a1f 0) / (32 : Int32))), (.ref b8)])) rfl rfl (hb hby d2_79)) ?_
  show Go p e below _ (T8.setTop (mkF m 80 #[.val (.ref a1), .val (.int v7), .val (.ref b8), .val (.ref a1), .val (.int (2 : Int32)), .val (.int (0 : Int32)), .val (.int (g_a1f 0))] [(.int ((fun _ => (0 : Int32)) ((g_a1f 0) / (32 : Int32)).toNatClampNeg)), (.int ((g_a1f 0) / (32 : Int32))), (.ref b8)]))
  refine Go.step (fun t k => XS.iconst X8.here hx rfl (hb hby d2_80)  k) ?_
  show Go p e below _ (T8.setTop (mkF m 81 #[.val (.ref a1), .val (.int v7), .val (.ref b8), .val (.ref a1), .val (.int (2 : Int32)), .val (.int (0 : Int32)), .val (.int (g_a1f 0))] [(.int (1 : Int32)), (.int ((fun _ => (0 : Int32)) ((g_a1f 0) / (32 : Int32)).toNatClampNeg)), (.int ((g_a1f 0) / (32 : Int32))), (.ref b8)]))
  refine Go.step (fun t k => XS.iload X8.here hx rfl (hb hby d2_81) rfl k) ?_
  show Go p e below _ (T8.setTop (mkF m 83 #[.val (.ref a1), .val (.int v7), .val (.ref b8), .val (.ref a1), .val (.int (2 : Int32)), .val (.int (0 : Int32)), .val (.int (g_a1f 0))] [(.int (g_a1f 0)), (.int (1 : Int32)), (.int ((fun _ => (0 : Int32)) ((g_a1f 0) / (32 : Int32)).toNatClampNeg)), (.int ((g_a1f 0) / (32 : Int32))), (.ref b8)]))
  refine Go.step (fun t k => XS.bipush X8.here hx rfl (hb hby d2_83)  k) ?_
  show Go p e below _ (T8.setTop (mkF m 85 #[.val (.ref a1), .val (.int v7), .val (.ref b8), .val (.ref a1), .val (.int (2 : Int32)), .val (.int (0 : Int32)), .val (.int (g_a1f 0))] [(.int (32 : Int32)), (.int (g_a1f 0)), (.int (1 : Int32)), (.int ((fun _ => (0 : Int32)) ((g_a1f 0) / (32 : Int32)).toNatClampNeg)), (.int ((g_a1f 0) / (32 : Int32))), (.ref b8)]))
  refine Go.step (fun t (k : Steps p.tables e below (T8.setTop (mkF m 86 #[.val (.ref a1), .val (.int v7), .val (.ref b8), .val (.ref a1), .val (.int (2 : Int32)), .val (.int (0 : Int32)), .val (.int (g_a1f 0))] [(.int ((g_a1f 0) % (32 : Int32))), (.int (1 : Int32)), (.int ((fun _ => (0 : Int32)) ((g_a1f 0) / (32 : Int32)).toNatClampNeg)), (.int ((g_a1f 0) / (32 : Int32))), (.ref b8)])) t) => XS.irem X8.here hx rfl (hb hby d2_85) rfl (by decide) (by rw [remI]; exact k)) ?_
  show Go p e below _ (T8.setTop (mkF m 86 #[.val (.ref a1), .val (.int v7), .val (.ref b8), .val (.ref a1), .val (.int (2 : Int32)), .val (.int (0 : Int32)), .val (.int (g_a1f 0))] [(.int ((g_a1f 0) % (32 : Int32))), (.int (1 : Int32)), (.int ((fun _ => (0 : Int32)) ((g_a1f 0) / (32 : Int32)).toNatClampNeg)), (.int ((g_a1f 0) / (32 : Int32))), (.ref b8)]))
  refine Go.step (fun t k => XS.ishl X8.here hx rfl (hb hby d2_86) rfl k) ?_
  show Go p e below _ (T8.setTop (mkF m 87 #[.val (.ref a1), .val (.int v7), .val (.ref b8), .val (.ref a1), .val (.int (2 : Int32)), .val (.int (0 : Int32)), .val (.int (g_a1f 0))] [(.int ((1 : Int32) <<< (((g_a1f 0) % (32 : Int32)) &&& 31))), (.int ((fun _ => (0 : Int32)) ((g_a1f 0) / (32 : Int32)).toNatClampNeg)), (.int ((g_a1f 0) / (32 : Int32))), (.ref b8)]))
  refine Go.step (fun t k => XS.ior X8.here hx rfl (hb hby d2_87) rfl k) ?_
  show Go p e below _ (T8.setTop (mkF m 88 #[.val (.ref a1), .val (.int v7), .val (.ref b8), .val (.ref a1), .val (.int (2 : Int32)), .val (.int (0 : Int32)), .val (.int (g_a1f 0))] [(.int (((fun _ => (0 : Int32)) ((g_a1f 0) / (32 : Int32)).toNatClampNeg) ||| ((1 : Int32) <<< (((g_a1f 0) % (32 : Int32)) &&& 31)))), (.int ((g_a1f 0) / (32 : Int32))), (.ref b8)]))
  obtain ⟨cl9, Ar9, in9, -⟩ := A_b8_8.hin (j := ((g_a1f 0) / (32 : Int32))) ((by subst_vars; first | exact (Bit.at (Hi.max (Hi.max Hi.m1 hB0).1 hB1).1 hB0 (Int.le_trans (Hi.max Hi.m1 hB0).2.2 (Hi.max (Hi.max Hi.m1 hB0).1 hB1).2.1)).1 | exact (Bit.at (Hi.max (Hi.max Hi.m1 hB0).1 hB1).1 hB1 (Hi.max (Hi.max Hi.m1 hB0).1 hB1).2.2).1) : ¬ ((g_a1f 0) / (32 : Int32)) < 0) ((by subst_vars; first | exact (Bit.at (Hi.max (Hi.max Hi.m1 hB0).1 hB1).1 hB0 (Int.le_trans (Hi.max Hi.m1 hB0).2.2 (Hi.max (Hi.max Hi.m1 hB0).1 hB1).2.1)).2 | exact (Bit.at (Hi.max (Hi.max Hi.m1 hB0).1 hB1).1 hB1 (Hi.max (Hi.max Hi.m1 hB0).1 hB1).2.2).2) : ((g_a1f 0) / (32 : Int32)).toNatClampNeg < ((v7 + (32 : Int32)) / (32 : Int32)).toNatClampNeg)
  obtain ⟨T9, h9, X9, e9, W9, st9⟩ := stI X8 hx hZ e8 Ar9 in9 (g := (mkF m 88 #[.val (.ref a1), .val (.int v7), .val (.ref b8), .val (.ref a1), .val (.int (2 : Int32)), .val (.int (0 : Int32)), .val (.int (g_a1f 0))] [(.int (((fun _ => (0 : Int32)) ((g_a1f 0) / (32 : Int32)).toNatClampNeg) ||| ((1 : Int32) <<< (((g_a1f 0) % (32 : Int32)) &&& 31)))), (.int ((g_a1f 0) / (32 : Int32))), (.ref b8)])) rfl rfl (hb hby d2_88)
  refine Go.step st9 ?_
  have N9 := Fr.snoc X9 N6 g_b8
  have A_a1_9 := A_a1_8.other W9 ne_a1_b8
  have Z9 := Nat.le_trans Z8 (Keep.of_wr W9).1
  have KK9 : Keep h0 h9 [] := KK8.wr W9 (Or.inr sz_b8)
  have A_b8_9 : Ary Z h9 b8 .int ((v7 + (32 : Int32)) / (32 : Int32)).toNatClampNeg (fun i => .int ((orW (fun _ => (0 : Int32)) (g_a1f 0)) i)) := A_b8_8.setI W9 ((by subst_vars; first | exact (Bit.at (Hi.max (Hi.max Hi.m1 hB0).1 hB1).1 hB0 (Int.le_trans (Hi.max Hi.m1 hB0).2.2 (Hi.max (Hi.max Hi.m1 hB0).1 hB1).2.1)).2 | exact (Bit.at (Hi.max (Hi.max Hi.m1 hB0).1 hB1).1 hB1 (Hi.max (Hi.max Hi.m1 hB0).1 hB1).2.2).2) : ((g_a1f 0) / (32 : Int32)).toNatClampNeg < ((v7 + (32 : Int32)) / (32 : Int32)).toNatClampNeg)
  show Go p e below _ (T9.setTop (mkF m 89 #[.val (.ref a1), .val (.int v7), .val (.ref b8), .val (.ref a1), .val (.int (2 : Int32)), .val (.int (0 : Int32)), .val (.int (g_a1f 0))] []))
  refine Go.step (fun t k => XS.iinc X9.here hx rfl (hb hby d2_89) rfl (l' := #[.val (.ref a1), .val (.int v7), .val (.ref b8), .val (.ref a1), .val (.int (2 : Int32)), .val (.int (1 : Int32)), .val (.int (g_a1f 0))]) rfl k) ?_
  show Go p e below _ (T9.setTop (mkF m 92 #[.val (.ref a1), .val (.int v7), .val (.ref b8), .val (.ref a1), .val (.int (2 : Int32)), .val (.int (1 : Int32)), .val (.int (g_a1f 0))] []))
  refine Go.step (fun t k => XS.goto X9.here hx rfl (pc0 := 92) (pc' := 59) rfl (hb hby d2_92) (by decide) (by decide) k) ?_
  show Go p e below _ (T9.setTop (mkF m 59 #[.val (.ref a1), .val (.int v7), .val (.ref b8), .val (.ref a1), .val (.int (2 : Int32)), .val (.int (1 : Int32)), .val (.int (g_a1f 0))] []))
  refine Go.step (fun t k => XS.iload X9.here hx rfl (hb hby d2_59) rfl k) ?_
  show Go p e below _ (T9.setTop (mkF m 61 #[.val (.ref a1), .val (.int v7), .val (.ref b8), .val (.ref a1), .val (.int (2 : Int32)), .val (.int (1 : Int32)), .val (.int (g_a1f 0))] [(.int (1 : Int32))]))
  refine Go.step (fun t k => XS.iload X9.here hx rfl (hb hby d2_61) rfl k) ?_
  show Go p e below _ (T9.setTop (mkF m 63 #[.val (.ref a1), .val (.int v7), .val (.ref b8), .val (.ref a1), .val (.int (2 : Int32)), .val (.int (1 : Int32)), .val (.int (g_a1f 0))] [(.int (2 : Int32)), (.int (1 : Int32))]))
  refine Go.step (fun t k => XS.icmpNo X9.here hx rfl (hb hby d2_63) rfl (tlt (by decide : (1 : Int32) < (2 : Int32))).2.1 k) ?_
  show Go p e below _ (T9.setTop (mkF m 66 #[.val (.ref a1), .val (.int v7), .val (.ref b8), .val (.ref a1), .val (.int (2 : Int32)), .val (.int (1 : Int32)), .val (.int (g_a1f 0))] []))
  refine Go.step (fun t k => XS.aloadN X9.here hx rfl (hb hby d2_66) rfl rfl k) ?_
  show Go p e below _ (T9.setTop (mkF m 67 #[.val (.ref a1), .val (.int v7), .val (.ref b8), .val (.ref a1), .val (.int (2 : Int32)), .val (.int (1 : Int32)), .val (.int (g_a1f 0))] [(.ref a1)]))
  refine Go.step (fun t k => XS.iload X9.here hx rfl (hb hby d2_67) rfl k) ?_
  show Go p e below _ (T9.setTop (mkF m 69 #[.val (.ref a1), .val (.int v7), .val (.ref b8), .val (.ref a1), .val (.int (2 : Int32)), .val (.int (1 : Int32)), .val (.int (g_a1f 0))] [(.int (1 : Int32)), (.ref a1)]))
  refine Go.step (ldI X9 hx hZ e9 A_a1_9 (j := (1 : Int32)) (by decide) (by decide) (g := (mkF m 69 #[.val (.ref a1), .val (.int v7), .val (.ref b8), .val (.ref a1), .val (.int (2 : Int32)), .val (.int (1 : Int32)), .val (.int (g_a1f 0))] [(.int (1 : Int32)), (.ref a1)])) rfl rfl (hb hby d2_69)) ?_
  show Go p e below _ (T9.setTop (mkF m 70 #[.val (.ref a1), .val (.int v7), .val (.ref b8), .val (.ref a1), .val (.int (2 : Int32)), .val (.int (1 : Int32)), .val (.int (g_a1f 0))] [(.int (g_a1f 1))]))
  refine Go.step (fun t k => XS.istore X9.here hx rfl (hb hby d2_70) rfl (l' := #[.val (.ref a1), .val (.int v7), .val (.ref b8), .val (.ref a1), .val (.int (2 : Int32)), .val (.int (1 : Int32)), .val (.int (g_a1f 1))]) rfl k) ?_
  show Go p e below _ (T9.setTop (mkF m 72 #[.val (.ref a1), .val (.int v7), .val (.ref b8), .val (.ref a1), .val (.int (2 : Int32)), .val (.int (1 : Int32)), .val (.int (g_a1f 1))] []))
  refine Go.step (fun t k => XS.aloadN X9.here hx rfl (hb hby d2_72) rfl rfl k) ?_
  show Go p e below _ (T9.setTop (mkF m 73 #[.val (.ref a1), .val (.int v7), .val (.ref b8), .val (.ref a1), .val (.int (2 : Int32)), .val (.int (1 : Int32)), .val (.int (g_a1f 1))] [(.ref b8)]))
  refine Go.step (fun t k => XS.iload X9.here hx rfl (hb hby d2_73) rfl k) ?_
  show Go p e below _ (T9.setTop (mkF m 75 #[.val (.ref a1), .val (.int v7), .val (.ref b8), .val (.ref a1), .val (.int (2 : Int32)), .val (.int (1 : Int32)), .val (.int (g_a1f 1))] [(.int (g_a1f 1)), (.ref b8)]))
  refine Go.step (fun t k => XS.bipush X9.here hx rfl (hb hby d2_75)  k) ?_
  show Go p e below _ (T9.setTop (mkF m 77 #[.val (.ref a1), .val (.int v7), .val (.ref b8), .val (.ref a1), .val (.int (2 : Int32)), .val (.int (1 : Int32)), .val (.int (g_a1f 1))] [(.int (32 : Int32)), (.int (g_a1f 1)), (.ref b8)]))
  refine Go.step (fun t k => XS.idiv X9.here hx rfl (hb hby d2_77) rfl (by decide) k) ?_
  show Go p e below _ (T9.setTop (mkF m 78 #[.val (.ref a1), .val (.int v7), .val (.ref b8), .val (.ref a1), .val (.int (2 : Int32)), .val (.int (1 : Int32)), .val (.int (g_a1f 1))] [(.int ((g_a1f 1) / (32 : Int32))), (.ref b8)]))
  refine Go.step (S' := T9.setTop (mkF m 79 #[.val (.ref a1), .val (.int v7), .val (.ref b8), .val (.ref a1), .val (.int (2 : Int32)), .val (.int (1 : Int32)), .val (.int (g_a1f 1))] [(.int ((g_a1f 1) / (32 : Int32))), (.ref b8), (.int ((g_a1f 1) / (32 : Int32))), (.ref b8)])) (fun t k => ?_) ?_
  · jvm_step X9.here [X9.here.top, hx, (hb hby d2_78), Value.category]
    exact k
  show Go p e below _ (T9.setTop (mkF m 79 #[.val (.ref a1), .val (.int v7), .val (.ref b8), .val (.ref a1), .val (.int (2 : Int32)), .val (.int (1 : Int32)), .val (.int (g_a1f 1))] [(.int ((g_a1f 1) / (32 : Int32))), (.ref b8), (.int ((g_a1f 1) / (32 : Int32))), (.ref b8)]))
  refine Go.step (ldI X9 hx hZ e9 A_b8_9 (j := ((g_a1f 1) / (32 : Int32))) ((by subst_vars; first | exact (Bit.at (Hi.max (Hi.max Hi.m1 hB0).1 hB1).1 hB0 (Int.le_trans (Hi.max Hi.m1 hB0).2.2 (Hi.max (Hi.max Hi.m1 hB0).1 hB1).2.1)).1 | exact (Bit.at (Hi.max (Hi.max Hi.m1 hB0).1 hB1).1 hB1 (Hi.max (Hi.max Hi.m1 hB0).1 hB1).2.2).1) : ¬ ((g_a1f 1) / (32 : Int32)) < 0) ((by subst_vars; first | exact (Bit.at (Hi.max (Hi.max Hi.m1 hB0).1 hB1).1 hB0 (Int.le_trans (Hi.max Hi.m1 hB0).2.2 (Hi.max (Hi.max Hi.m1 hB0).1 hB1).2.1)).2 | exact (Bit.at (Hi.max (Hi.max Hi.m1 hB0).1 hB1).1 hB1 (Hi.max (Hi.max Hi.m1 hB0).1 hB1).2.2).2) : ((g_a1f 1) / (32 : Int32)).toNatClampNeg < ((v7 + (32 : Int32)) / (32 : Int32)).toNatClampNeg) (g := (mkF m 79 #[.val (.ref a1), .val (.int v7), .val (.ref b8), .val (.ref a1), .val (.int (2 : Int32)), .val (.int (1 : Int32)), .val (.int (g_a1f 1))] [(.int ((g_a1f 1) / (32 : Int32))), (.ref b8), (.int ((g_a1f 1) / (32 : Int32))), (.ref b8)])) rfl rfl (hb hby d2_79)) ?_
  show Go p e below _ (T9.setTop (mkF m 80 #[.val (.ref a1), .val (.int v7), .val (.ref b8), .val (.ref a1), .val (.int (2 : Int32)), .val (.int (1 : Int32)), .val (.int (g_a1f 1))] [(.int ((orW (fun _ => (0 : Int32)) (g_a1f 0)) ((g_a1f 1) / (32 : Int32)).toNatClampNeg)), (.int ((g_a1f 1) / (32 : Int32))), (.ref b8)]))
  refine Go.step (fun t k => XS.iconst X9.here hx rfl (hb hby d2_80)  k) ?_
  show Go p e below _ (T9.setTop (mkF m 81 #[.val (.ref a1), .val (.int v7), .val (.ref b8), .val (.ref a1), .val (.int (2 : Int32)), .val (.int (1 : Int32)), .val (.int (g_a1f 1))] [(.int (1 : Int32)), (.int ((orW (fun _ => (0 : Int32)) (g_a1f 0)) ((g_a1f 1) / (32 : Int32)).toNatClampNeg)), (.int ((g_a1f 1) / (32 : Int32))), (.ref b8)]))
  refine Go.step (fun t k => XS.iload X9.here hx rfl (hb hby d2_81) rfl k) ?_
  show Go p e below _ (T9.setTop (mkF m 83 #[.val (.ref a1), .val (.int v7), .val (.ref b8), .val (.ref a1), .val (.int (2 : Int32)), .val (.int (1 : Int32)), .val (.int (g_a1f 1))] [(.int (g_a1f 1)), (.int (1 : Int32)), (.int ((orW (fun _ => (0 : Int32)) (g_a1f 0)) ((g_a1f 1) / (32 : Int32)).toNatClampNeg)), (.int ((g_a1f 1) / (32 : Int32))), (.ref b8)]))
  refine Go.step (fun t k => XS.bipush X9.here hx rfl (hb hby d2_83)  k) ?_
  show Go p e below _ (T9.setTop (mkF m 85 #[.val (.ref a1), .val (.int v7), .val (.ref b8), .val (.ref a1), .val (.int (2 : Int32)), .val (.int (1 : Int32)), .val (.int (g_a1f 1))] [(.int (32 : Int32)), (.int (g_a1f 1)), (.int (1 : Int32)), (.int ((orW (fun _ => (0 : Int32)) (g_a1f 0)) ((g_a1f 1) / (32 : Int32)).toNatClampNeg)), (.int ((g_a1f 1) / (32 : Int32))), (.ref b8)]))
  refine Go.step (fun t (k : Steps p.tables e below (T9.setTop (mkF m 86 #[.val (.ref a1), .val (.int v7), .val (.ref b8), .val (.ref a1), .val (.int (2 : Int32)), .val (.int (1 : Int32)), .val (.int (g_a1f 1))] [(.int ((g_a1f 1) % (32 : Int32))), (.int (1 : Int32)), (.int ((orW (fun _ => (0 : Int32)) (g_a1f 0)) ((g_a1f 1) / (32 : Int32)).toNatClampNeg)), (.int ((g_a1f 1) / (32 : Int32))), (.ref b8)])) t) => XS.irem X9.here hx rfl (hb hby d2_85) rfl (by decide) (by rw [remI]; exact k)) ?_
  show Go p e below _ (T9.setTop (mkF m 86 #[.val (.ref a1), .val (.int v7), .val (.ref b8), .val (.ref a1), .val (.int (2 : Int32)), .val (.int (1 : Int32)), .val (.int (g_a1f 1))] [(.int ((g_a1f 1) % (32 : Int32))), (.int (1 : Int32)), (.int ((orW (fun _ => (0 : Int32)) (g_a1f 0)) ((g_a1f 1) / (32 : Int32)).toNatClampNeg)), (.int ((g_a1f 1) / (32 : Int32))), (.ref b8)]))
  refine Go.step (fun t k => XS.ishl X9.here hx rfl (hb hby d2_86) rfl k) ?_
  show Go p e below _ (T9.setTop (mkF m 87 #[.val (.ref a1), .val (.int v7), .val (.ref b8), .val (.ref a1), .val (.int (2 : Int32)), .val (.int (1 : Int32)), .val (.int (g_a1f 1))] [(.int ((1 : Int32) <<< (((g_a1f 1) % (32 : Int32)) &&& 31))), (.int ((orW (fun _ => (0 : Int32)) (g_a1f 0)) ((g_a1f 1) / (32 : Int32)).toNatClampNeg)), (.int ((g_a1f 1) / (32 : Int32))), (.ref b8)]))
  refine Go.step (fun t k => XS.ior X9.here hx rfl (hb hby d2_87) rfl k) ?_
  show Go p e below _ (T9.setTop (mkF m 88 #[.val (.ref a1), .val (.int v7), .val (.ref b8), .val (.ref a1), .val (.int (2 : Int32)), .val (.int (1 : Int32)), .val (.int (g_a1f 1))] [(.int (((orW (fun _ => (0 : Int32)) (g_a1f 0)) ((g_a1f 1) / (32 : Int32)).toNatClampNeg) ||| ((1 : Int32) <<< (((g_a1f 1) % (32 : Int32)) &&& 31)))), (.int ((g_a1f 1) / (32 : Int32))), (.ref b8)]))
  obtain ⟨cl10, Ar10, in10, -⟩ := A_b8_9.hin (j := ((g_a1f 1) / (32 : Int32))) ((by subst_vars; first | exact (Bit.at (Hi.max (Hi.max Hi.m1 hB0).1 hB1).1 hB0 (Int.le_trans (Hi.max Hi.m1 hB0).2.2 (Hi.max (Hi.max Hi.m1 hB0).1 hB1).2.1)).1 | exact (Bit.at (Hi.max (Hi.max Hi.m1 hB0).1 hB1).1 hB1 (Hi.max (Hi.max Hi.m1 hB0).1 hB1).2.2).1) : ¬ ((g_a1f 1) / (32 : Int32)) < 0) ((by subst_vars; first | exact (Bit.at (Hi.max (Hi.max Hi.m1 hB0).1 hB1).1 hB0 (Int.le_trans (Hi.max Hi.m1 hB0).2.2 (Hi.max (Hi.max Hi.m1 hB0).1 hB1).2.1)).2 | exact (Bit.at (Hi.max (Hi.max Hi.m1 hB0).1 hB1).1 hB1 (Hi.max (Hi.max Hi.m1 hB0).1 hB1).2.2).2) : ((g_a1f 1) / (32 : Int32)).toNatClampNeg < ((v7 + (32 : Int32)) / (32 : Int32)).toNatClampNeg)
  obtain ⟨T10, h10, X10, e10, W10, st10⟩ := stI X9 hx hZ e9 Ar10 in10 (g := (mkF m 88 #[.val (.ref a1), .val (.int v7), .val (.ref b8), .val (.ref a1), .val (.int (2 : Int32)), .val (.int (1 : Int32)), .val (.int (g_a1f 1))] [(.int (((orW (fun _ => (0 : Int32)) (g_a1f 0)) ((g_a1f 1) / (32 : Int32)).toNatClampNeg) ||| ((1 : Int32) <<< (((g_a1f 1) % (32 : Int32)) &&& 31)))), (.int ((g_a1f 1) / (32 : Int32))), (.ref b8)])) rfl rfl (hb hby d2_88)
  refine Go.step st10 ?_
  have N10 := Fr.snoc X10 N9 g_b8
  have A_a1_10 := A_a1_9.other W10 ne_a1_b8
  have Z10 := Nat.le_trans Z9 (Keep.of_wr W10).1
  have KK10 : Keep h0 h10 [] := KK9.wr W10 (Or.inr sz_b8)
  have A_b8_10 : Ary Z h10 b8 .int ((v7 + (32 : Int32)) / (32 : Int32)).toNatClampNeg (fun i => .int ((orW (orW (fun _ => (0 : Int32)) (g_a1f 0)) (g_a1f 1)) i)) := A_b8_9.setI W10 ((by subst_vars; first | exact (Bit.at (Hi.max (Hi.max Hi.m1 hB0).1 hB1).1 hB0 (Int.le_trans (Hi.max Hi.m1 hB0).2.2 (Hi.max (Hi.max Hi.m1 hB0).1 hB1).2.1)).2 | exact (Bit.at (Hi.max (Hi.max Hi.m1 hB0).1 hB1).1 hB1 (Hi.max (Hi.max Hi.m1 hB0).1 hB1).2.2).2) : ((g_a1f 1) / (32 : Int32)).toNatClampNeg < ((v7 + (32 : Int32)) / (32 : Int32)).toNatClampNeg)
  show Go p e below _ (T10.setTop (mkF m 89 #[.val (.ref a1), .val (.int v7), .val (.ref b8), .val (.ref a1), .val (.int (2 : Int32)), .val (.int (1 : Int32)), .val (.int (g_a1f 1))] []))
  refine Go.step (fun t k => XS.iinc X10.here hx rfl (hb hby d2_89) rfl (l' := #[.val (.ref a1), .val (.int v7), .val (.ref b8), .val (.ref a1), .val (.int (2 : Int32)), .val (.int (2 : Int32)), .val (.int (g_a1f 1))]) rfl k) ?_
  show Go p e below _ (T10.setTop (mkF m 92 #[.val (.ref a1), .val (.int v7), .val (.ref b8), .val (.ref a1), .val (.int (2 : Int32)), .val (.int (2 : Int32)), .val (.int (g_a1f 1))] []))
  refine Go.step (fun t k => XS.goto X10.here hx rfl (pc0 := 92) (pc' := 59) rfl (hb hby d2_92) (by decide) (by decide) k) ?_
  show Go p e below _ (T10.setTop (mkF m 59 #[.val (.ref a1), .val (.int v7), .val (.ref b8), .val (.ref a1), .val (.int (2 : Int32)), .val (.int (2 : Int32)), .val (.int (g_a1f 1))] []))
  refine Go.step (fun t k => XS.iload X10.here hx rfl (hb hby d2_59) rfl k) ?_
  show Go p e below _ (T10.setTop (mkF m 61 #[.val (.ref a1), .val (.int v7), .val (.ref b8), .val (.ref a1), .val (.int (2 : Int32)), .val (.int (2 : Int32)), .val (.int (g_a1f 1))] [(.int (2 : Int32))]))
  refine Go.step (fun t k => XS.iload X10.here hx rfl (hb hby d2_61) rfl k) ?_
  show Go p e below _ (T10.setTop (mkF m 63 #[.val (.ref a1), .val (.int v7), .val (.ref b8), .val (.ref a1), .val (.int (2 : Int32)), .val (.int (2 : Int32)), .val (.int (g_a1f 1))] [(.int (2 : Int32)), (.int (2 : Int32))]))
  refine Go.step (fun t k => XS.icmpYes X10.here hx rfl (pc0 := 63) (pc' := 95) rfl (hb hby d2_63) rfl (flt (by decide : ¬ ((2 : Int32) < (2 : Int32)))).2.1 (by decide) (by decide) k) ?_
  show Go p e below _ (T10.setTop (mkF m 95 #[.val (.ref a1), .val (.int v7), .val (.ref b8), .val (.ref a1), .val (.int (2 : Int32)), .val (.int (2 : Int32)), .val (.int (g_a1f 1))] []))
  obtain ⟨T11, h11, X11, e11, E11, A11, D11, -, st11⟩ := newO X10 hx hZ hown (hw _ (List.mem_of_getElem? (i := 9) rfl)) (hw _ (List.mem_of_getElem? (i := 10) rfl)) (hw _ (List.mem_of_getElem? (i := 7) rfl)) e10 (g := (mkF m 95 #[.val (.ref a1), .val (.int v7), .val (.ref b8), .val (.ref a1), .val (.int (2 : Int32)), .val (.int (2 : Int32)), .val (.int (g_a1f 1))] [])) rfl (hb hby d2_95) (by decide) (by decide)
  obtain ⟨b11, g11⟩ : ∃ z, z = h10.size := ⟨_, rfl⟩
  rw [← g11] at A11 D11 st11
  have g_b11 : n0 ≤ b11 := Nat.le_trans Z10 (Nat.le_of_eq g11.symm)
  have sz_b11 : h0.size ≤ b11 := Nat.le_trans KK10.1 (Nat.le_of_eq g11.symm)
  have ne_a1_b11 : a1 ≠ b11 := Nat.ne_of_lt (Nat.lt_of_lt_of_le A_a1_10.lt (Nat.le_of_eq g11.symm))
  have ne_b8_b11 : b8 ≠ b11 := Nat.ne_of_lt (Nat.lt_of_lt_of_le A_b8_10.lt (Nat.le_of_eq g11.symm))
  refine Go.step st11 ?_
  have A_a1_11 := A_a1_10.ext E11
  have A_b8_11 := A_b8_10.ext E11
  have Z11 := Nat.le_trans Z10 E11.1
  have KK11 : Keep h0 h11 [] := KK10.ext E11
  have F_words_b11 : Fld Z h11 b11 "com/example/menshen/menshen/core/PermissionSet" "words" "[I" .null := D11 (Or.inr (hw _ (List.mem_of_getElem? (i := 18) rfl))) (ty := (.array .int)) (by decide)
  show Go p e below _ (T11.setTop (mkF m 98 #[.val (.ref a1), .val (.int v7), .val (.ref b8), .val (.ref a1), .val (.int (2 : Int32)), .val (.int (2 : Int32)), .val (.int (g_a1f 1))] [(.ref b11)]))
  refine Go.step (fun t k => XS.dup X11.here hx rfl (hb hby d2_98) rfl rfl k) ?_
  show Go p e below _ (T11.setTop (mkF m 99 #[.val (.ref a1), .val (.int v7), .val (.ref b8), .val (.ref a1), .val (.int (2 : Int32)), .val (.int (2 : Int32)), .val (.int (g_a1f 1))] [(.ref b11), (.ref b11)]))
  refine Go.step (fun t k => XS.aloadN X11.here hx rfl (hb hby d2_99) rfl rfl k) ?_
  show Go p e below _ (T11.setTop (mkF m 100 #[.val (.ref a1), .val (.int v7), .val (.ref b8), .val (.ref a1), .val (.int (2 : Int32)), .val (.int (2 : Int32)), .val (.int (g_a1f 1))] [(.ref b8), (.ref b11), (.ref b11)]))
  obtain ⟨_, _, ⟨T12, L12, k12, n12⟩, -, X12, ⟨Lc12, hQ12, l12, y12, z12⟩, st12⟩ := X11.specialBack hx (y := (⟨"com/example/menshen/menshen/core/PermissionSet", "<init>", "([I)V"⟩ : MethodName)) rfl hown (mvT hZ (hw _ (List.mem_of_getElem? (i := 11) rfl))) (mvT hZ (hw _ (List.mem_of_getElem? (i := 12) rfl))) (mvT hZ (hw _ (List.mem_of_getElem? (i := 13) rfl))) (by decide) (backOf (W := 1) (rm3 l Z a0 hw [] b11 b8 .null h11 n0 Z11 A11 F_words_b11 g_b11) hZ (hw _ (List.mem_of_getElem? (i := 13) rfl)) (hw _ (List.mem_of_getElem? (i := 7) rfl)) (by decide) (by decide)) (g := (mkF m 100 #[.val (.ref a1), .val (.int v7), .val (.ref b8), .val (.ref a1), .val (.int (2 : Int32)), .val (.int (2 : Int32)), .val (.int (g_a1f 1))] [(.ref b8), (.ref b11), (.ref b11)])) rfl (by rw [hml]; rfl) (Steps.refl _) (a := b11) (argsL := [(.ref b8)]) (rest := [(.ref b11)]) (lenOf pd_0 rfl) rfl (by show 2 * 0 + _ ≤ _; exact Nat.le_of_eq rfl) (hb hby d2_100) (fun _ _ => ⟨rfl, e11, (by decide : 2 + 0 ≤ _), (by decide : 129 + 0 ≤ _)⟩)
  dsimp only [Pt.U, Pt.locs, Pt.cells, Pt.slots] at X12 l12 y12 z12 st12 hQ12
  subst l12 y12 z12
  obtain ⟨rfl, N12q, K12, Q12_0, Q12_1⟩ := hQ12
  have N12 := Fr.app N10 N12q
  have A_a1_12 := A_a1_11.keep K12 (ninS ne_a1_b11 nin0)
  have A_b8_12 := A_b8_11.keep K12 (ninS ne_b8_b11 nin0)
  have E_b11_12 := A11.keep K12
  have Z12 := Nat.le_trans Z11 K12.1
  have KK12 : Keep h0 T12.heap [] := KK11.trans K12 (allS (Or.inr sz_b11) all0)
  refine Go.trans st12 ?_
  show Go p e below _ (T12.setTop (mkF m 103 #[.val (.ref a1), .val (.int v7), .val (.ref b8), .val (.ref a1), .val (.int (2 : Int32)), .val (.int (2 : Int32)), .val (.int (g_a1f 1))] [(.ref b11)]))
  subst hv7
  subst hv4
  refine retGR X12 hx Bd.notSynchronized Bd.returns rfl rfl (hb hby d2_103) ?_ (by decide) (by decide)
  show Q2_2 Z a1 g_a1f h0 n0 _ T12.heap _
  exact ⟨b11, b8, rfl, N12, KK12, sz_b11, sz_b8, A_b8_12, Q12_0, Q12_1⟩
theorem ef_2_3 (m : MethodId) (a1 : Addr) : entryFrame m #[(.ref a1)] 7 = mkF m 0 #[.val (.ref a1), .unset, .unset, .unset, .unset, .unset, .unset] [] := by first | (simp [entryFrame, mkF, argsToLocals, Value.category]; done) | rfl
def Q2_3 (Z : State) (a1 : Addr) (g_a1f : Nat → Int32) (h0 : Heap) (n0 : Nat) (v : Option Value) (h : Heap) (L : List Loc) : Prop := ∃ (b15 : Addr) (b11 : Addr), v = some (.ref b15) ∧ Fr n0 L ∧ Keep h0 h [] ∧ h0.size ≤ b15 ∧ h0.size ≤ b11 ∧ Ary Z h b11 .int (((f6 (f6 (f6 (-1 : Int32) (g_a1f 0)) (g_a1f 1)) (g_a1f 2)) + (32 : Int32)) / (32 : Int32)).toNatClampNeg (fun i => .int ((orW (orW (orW (fun _ => (0 : Int32)) (g_a1f 0)) (g_a1f 1)) (g_a1f 2)) i)) ∧ Exa Z h b15 "com/example/menshen/menshen/core/PermissionSet" ∧ Fld Z h b15 "com/example/menshen/menshen/core/PermissionSet" "words" "[I" (.ref b11)
set_option maxRecDepth 65536 in
set_option maxHeartbeats 40000000 in
theorem rm2_3 (l : Launch) (Z : State) (a0 : Array Value) (hw : ∀ d ∈ tables_1, d.before a0 Z = true) (ws : List Jvm.Cond) (a1 : Addr) (g_a1f : Nat → Int32) (h0 : Heap) (n0 : Nat) (Z0 : n0 ≤ h0.size) (hB0 : Bit (g_a1f 0)) (hB1 : Bit (g_a1f 1)) (hB2 : Bit (g_a1f 2)) (A_a1 : Ary Z h0 a1 .int 3 (fun i => .int (g_a1f i))) :
    MetFree l (⟨"com/example/menshen/menshen/core/PermissionSet", "of", "([I)Lcom/example/menshen/menshen/core/PermissionSet;"⟩ : MethodName) (head1 (Jvm.Cond.code (⟨"com/example/menshen/menshen/core/PermissionSet", "of", "([I)Lcom/example/menshen/menshen/core/PermissionSet;"⟩ : MethodName) prog_20_method_3_code 7 (some (.object "com/example/menshen/menshen/core/PermissionSet")) :: ws) ({ frames := 2, cells := 2, slots := 129, locals := 26 } : Room)) (fun a U => a = #[(.ref a1)] ∧ Z.Warmed39 U.vm ∧ U.heap = h0) (fun _ _ _ _ _ => True) (fun _ U o U' => ∃ v L, o = .returned v ∧ Q2_3 Z a1 g_a1f h0 n0 v U'.heap L ∧ FrameEnd U o U' L ({ frames := 2, cells := 2, slots := 129, locals := 26 } : Room).cells ({ frames := 2, cells := 2, slots := 129, locals := 26 } : Room).slots) := by
  refine MetFree.of_bodySF (plainFor_of_name pn_0) hisR ?_
  intro p e s m args below meth c s₁ Bd hml0 hP hK
  obtain ⟨rfl, hZ, hh⟩ := hP
  have hx := Bd.exec
  have hby := Bd.bytes
  have hml : c.maxLocals = 7 := hml0
  have hown : s.vm.findClass "com/example/menshen/menshen/core/PermissionSet" = some m.cls := findClass_of_methodNamed Bd.named
  have hnm := (name_of_methodNamed Bd.named Bd.method).1
  have X0 : Stand p l e ({ frames := 2, cells := 2, slots := 129, locals := 26 } : Room) s m #[(.ref a1)] below meth c s₁ [] 0 0 := Stand.of_body Bd
  have e0 : s₁.heap = h0 := by rw [← hh, Bd.state]; rfl
  have N0 := Fr.nil n0
  refine Go.done (Go.step (fun t k => castTop (ef_2_3 m a1) k) ?_)
  have KK0 : Keep h0 h0 [] := Keep.refl _ _
  show Go p e below _ (s₁.setTop (mkF m 0 #[.val (.ref a1), .unset, .unset, .unset, .unset, .unset, .unset] []))
  refine Go.step (fun t k => XS.iconst X0.here hx rfl (hb hby d2_0)  k) ?_
  show Go p e below _ (s₁.setTop (mkF m 1 #[.val (.ref a1), .unset, .unset, .unset, .unset, .unset, .unset] [(.int (-1 : Int32))]))
  refine Go.step (fun t k => XS.istoreN X0.here hx rfl (hb hby d2_1) rfl (l' := #[.val (.ref a1), .val (.int (-1 : Int32)), .unset, .unset, .unset, .unset, .unset]) rfl k) ?_
  show Go p e below _ (s₁.setTop (mkF m 2 #[.val (.ref a1), .val (.int (-1 : Int32)), .unset, .unset, .unset, .unset, .unset] []))
  refine Go.step (fun t k => XS.aloadN X0.here hx rfl (hb hby d2_2) rfl rfl k) ?_
  show Go p e below _ (s₁.setTop (mkF m 3 #[.val (.ref a1), .val (.int (-1 : Int32)), .unset, .unset, .unset, .unset, .unset] [(.ref a1)]))
  refine Go.step (fun t k => XS.astoreN X0.here hx rfl (hb hby d2_3) rfl rfl (l' := #[.val (.ref a1), .val (.int (-1 : Int32)), .val (.ref a1), .unset, .unset, .unset, .unset]) rfl k) ?_
  show Go p e below _ (s₁.setTop (mkF m 4 #[.val (.ref a1), .val (.int (-1 : Int32)), .val (.ref a1), .unset, .unset, .unset, .unset] []))
  refine Go.step (fun t k => XS.aloadN X0.here hx rfl (hb hby d2_4) rfl rfl k) ?_
  show Go p e below _ (s₁.setTop (mkF m 5 #[.val (.ref a1), .val (.int (-1 : Int32)), .val (.ref a1), .unset, .unset, .unset, .unset] [(.ref a1)]))
  refine Go.step (lenA X0 hx hZ e0 A_a1 (g := (mkF m 5 #[.val (.ref a1), .val (.int (-1 : Int32)), .val (.ref a1), .unset, .unset, .unset, .unset] [(.ref a1)])) rfl rfl (hb hby d2_5)) ?_
  show Go p e below _ (s₁.setTop (mkF m 6 #[.val (.ref a1), .val (.int (-1 : Int32)), .val (.ref a1), .unset, .unset, .unset, .unset] [(.int (3 : Int32))]))
  refine Go.step (fun t k => XS.istoreN X0.here hx rfl (hb hby d2_6) rfl (l' := #[.val (.ref a1), .val (.int (-1 : Int32)), .val (.ref a1), .val (.int (3 : Int32)), .unset, .unset, .unset]) rfl k) ?_
  show Go p e below _ (s₁.setTop (mkF m 7 #[.val (.ref a1), .val (.int (-1 : Int32)), .val (.ref a1), .val (.int (3 : Int32)), .unset, .unset, .unset] []))
  refine Go.step (fun t k => XS.iconst X0.here hx rfl (hb hby d2_7)  k) ?_
  show Go p e below _ (s₁.setTop (mkF m 8 #[.val (.ref a1), .val (.int (-1 : Int32)), .val (.ref a1), .val (.int (3 : Int32)), .unset, .unset, .unset] [(.int (0 : Int32))]))
  refine Go.step (fun t k => XS.istore X0.here hx rfl (hb hby d2_8) rfl (l' := #[.val (.ref a1), .val (.int (-1 : Int32)), .val (.ref a1), .val (.int (3 : Int32)), .val (.int (0 : Int32)), .unset, .unset]) rfl k) ?_
  show Go p e below _ (s₁.setTop (mkF m 10 #[.val (.ref a1), .val (.int (-1 : Int32)), .val (.ref a1), .val (.int (3 : Int32)), .val (.int (0 : Int32)), .unset, .unset] []))
  refine Go.step (fun t k => XS.iload X0.here hx rfl (hb hby d2_10) rfl k) ?_
  show Go p e below _ (s₁.setTop (mkF m 12 #[.val (.ref a1), .val (.int (-1 : Int32)), .val (.ref a1), .val (.int (3 : Int32)), .val (.int (0 : Int32)), .unset, .unset] [(.int (0 : Int32))]))
  refine Go.step (fun t k => XS.iloadN X0.here hx rfl (hb hby d2_12) rfl k) ?_
  show Go p e below _ (s₁.setTop (mkF m 13 #[.val (.ref a1), .val (.int (-1 : Int32)), .val (.ref a1), .val (.int (3 : Int32)), .val (.int (0 : Int32)), .unset, .unset] [(.int (3 : Int32)), (.int (0 : Int32))]))
  refine Go.step (fun t k => XS.icmpNo X0.here hx rfl (hb hby d2_13) rfl (tlt (by decide : (0 : Int32) < (3 : Int32))).2.1 k) ?_
  show Go p e below _ (s₁.setTop (mkF m 16 #[.val (.ref a1), .val (.int (-1 : Int32)), .val (.ref a1), .val (.int (3 : Int32)), .val (.int (0 : Int32)), .unset, .unset] []))
  refine Go.step (fun t k => XS.aloadN X0.here hx rfl (hb hby d2_16) rfl rfl k) ?_
  show Go p e below _ (s₁.setTop (mkF m 17 #[.val (.ref a1), .val (.int (-1 : Int32)), .val (.ref a1), .val (.int (3 : Int32)), .val (.int (0 : Int32)), .unset, .unset] [(.ref a1)]))
  refine Go.step (fun t k => XS.iload X0.here hx rfl (hb hby d2_17) rfl k) ?_
  show Go p e below _ (s₁.setTop (mkF m 19 #[.val (.ref a1), .val (.int (-1 : Int32)), .val (.ref a1), .val (.int (3 : Int32)), .val (.int (0 : Int32)), .unset, .unset] [(.int (0 : Int32)), (.ref a1)]))
  refine Go.step (ldI X0 hx hZ e0 A_a1 (j := (0 : Int32)) (by decide) (by decide) (g := (mkF m 19 #[.val (.ref a1), .val (.int (-1 : Int32)), .val (.ref a1), .val (.int (3 : Int32)), .val (.int (0 : Int32)), .unset, .unset] [(.int (0 : Int32)), (.ref a1)])) rfl rfl (hb hby d2_19)) ?_
  show Go p e below _ (s₁.setTop (mkF m 20 #[.val (.ref a1), .val (.int (-1 : Int32)), .val (.ref a1), .val (.int (3 : Int32)), .val (.int (0 : Int32)), .unset, .unset] [(.int (g_a1f 0))]))
  refine Go.step (fun t k => XS.istore X0.here hx rfl (hb hby d2_20) rfl (l' := #[.val (.ref a1), .val (.int (-1 : Int32)), .val (.ref a1), .val (.int (3 : Int32)), .val (.int (0 : Int32)), .val (.int (g_a1f 0)), .unset]) rfl k) ?_
  show Go p e below _ (s₁.setTop (mkF m 22 #[.val (.ref a1), .val (.int (-1 : Int32)), .val (.ref a1), .val (.int (3 : Int32)), .val (.int (0 : Int32)), .val (.int (g_a1f 0)), .unset] []))
  refine Go.step (fun t k => XS.iload X0.here hx rfl (hb hby d2_22) rfl k) ?_
  show Go p e below _ (s₁.setTop (mkF m 24 #[.val (.ref a1), .val (.int (-1 : Int32)), .val (.ref a1), .val (.int (3 : Int32)), .val (.int (0 : Int32)), .val (.int (g_a1f 0)), .unset] [(.int (g_a1f 0))]))
  obtain ⟨_, _, ⟨T2, L2, k2, n2⟩, -, X2, ⟨Lc2, hQ2, l2, y2, z2⟩, st2⟩ := Jvm.LawKit.callS X0 hx (y := (⟨"com/example/menshen/menshen/core/PermissionSet", "checkBit", "(I)V"⟩ : MethodName)) hown (mvT hZ (hw _ (List.mem_of_getElem? (i := 30) rfl))) (mvT hZ (hw _ (List.mem_of_getElem? (i := 31) rfl))) (mvT hZ (hw _ (List.mem_of_getElem? (i := 7) rfl))) (mvT hZ (hw _ (List.mem_of_getElem? (i := 32) rfl))) (by decide) (backOf (W := 0) (rm7 l Z a0 hw [] (g_a1f 0) h0 n0 Z0 ((by subst_vars; first | exact hB0.ge | exact hB0.lt | exact hB1.ge | exact hB1.lt | exact hB2.ge | exact hB2.lt) : ¬ ((g_a1f 0) < (0 : Int32))) ((by subst_vars; first | exact hB0.ge | exact hB0.lt | exact hB1.ge | exact hB1.lt | exact hB2.ge | exact hB2.lt) : (g_a1f 0) < (4096 : Int32))) hZ (hw _ (List.mem_of_getElem? (i := 32) rfl)) (hw _ (List.mem_of_getElem? (i := 7) rfl)) (by decide) (by decide)) (g := (mkF m 24 #[.val (.ref a1), .val (.int (-1 : Int32)), .val (.ref a1), .val (.int (3 : Int32)), .val (.int (0 : Int32)), .val (.int (g_a1f 0)), .unset] [(.int (g_a1f 0))])) rfl (by rw [hml]; rfl) (argsL := [(.int (g_a1f 0))]) (rest := []) (lenOf pd_1 rfl) rfl (by show 2 * 0 + _ ≤ _; exact Nat.le_of_eq rfl) (hb hby d2_24) (fun _ _ => ⟨rfl, e0, (by decide : 0 + 0 ≤ _), (by decide : 0 + 0 ≤ _)⟩)
  dsimp only [Pt.U, Pt.locs, Pt.cells, Pt.slots] at X2 l2 y2 z2 st2 hQ2
  subst l2 y2 z2
  obtain ⟨rfl, N2q, e2⟩ := hQ2
  have N2 := Fr.app N0 N2q
  refine Go.step st2 ?_
  show Go p e below _ (T2.setTop (mkF m 27 #[.val (.ref a1), .val (.int (-1 : Int32)), .val (.ref a1), .val (.int (3 : Int32)), .val (.int (0 : Int32)), .val (.int (g_a1f 0)), .unset] []))
  refine Go.step (fun t k => XS.iloadN X2.here hx rfl (hb hby d2_27) rfl k) ?_
  show Go p e below _ (T2.setTop (mkF m 28 #[.val (.ref a1), .val (.int (-1 : Int32)), .val (.ref a1), .val (.int (3 : Int32)), .val (.int (0 : Int32)), .val (.int (g_a1f 0)), .unset] [(.int (-1 : Int32))]))
  refine Go.step (fun t k => XS.iload X2.here hx rfl (hb hby d2_28) rfl k) ?_
  show Go p e below _ (T2.setTop (mkF m 30 #[.val (.ref a1), .val (.int (-1 : Int32)), .val (.ref a1), .val (.int (3 : Int32)), .val (.int (0 : Int32)), .val (.int (g_a1f 0)), .unset] [(.int (g_a1f 0)), (.int (-1 : Int32))]))
  obtain ⟨_, _, ⟨T3, L3, k3, n3⟩, -, X3, ⟨Lc3, hQ3, l3, y3, z3⟩, st3⟩ := Jvm.LawKit.callS X2 hx (y := (⟨"java/lang/Math", "max", "(II)I"⟩ : MethodName)) hown (mvT hZ (hw _ (List.mem_of_getElem? (i := 24) rfl))) (mvT hZ (hw _ (List.mem_of_getElem? (i := 25) rfl))) (mvT hZ (hw _ (List.mem_of_getElem? (i := 26) rfl))) (mvT hZ (hw _ (List.mem_of_getElem? (i := 27) rfl))) (by decide) (backOf (W := 0) (rm6 l Z a0 hw [] (-1 : Int32) (g_a1f 0) h0 n0 Z0) hZ (hw _ (List.mem_of_getElem? (i := 27) rfl)) (hw _ (List.mem_of_getElem? (i := 26) rfl)) (by decide) (by decide)) (g := (mkF m 30 #[.val (.ref a1), .val (.int (-1 : Int32)), .val (.ref a1), .val (.int (3 : Int32)), .val (.int (0 : Int32)), .val (.int (g_a1f 0)), .unset] [(.int (g_a1f 0)), (.int (-1 : Int32))])) rfl (by rw [hml]; rfl) (argsL := [(.int (-1 : Int32)), (.int (g_a1f 0))]) (rest := []) (lenOf pd_2 rfl) rfl (by show 2 * 0 + _ ≤ _; exact Nat.le_of_eq rfl) (hb hby d2_30) (fun _ _ => ⟨rfl, e2, (by decide : 0 + 0 ≤ _), (by decide : 0 + 0 ≤ _)⟩)
  dsimp only [Pt.U, Pt.locs, Pt.cells, Pt.slots] at X3 l3 y3 z3 st3 hQ3
  subst l3 y3 z3
  obtain ⟨rfl, N3q, e3⟩ := hQ3
  have N3 := Fr.app N2 N3q
  refine Go.step st3 ?_
  show Go p e below _ (T3.setTop (mkF m 33 #[.val (.ref a1), .val (.int (-1 : Int32)), .val (.ref a1), .val (.int (3 : Int32)), .val (.int (0 : Int32)), .val (.int (g_a1f 0)), .unset] [(.int (f6 (-1 : Int32) (g_a1f 0)))]))
  obtain ⟨v4, hv4⟩ : ∃ z : Int32, z = (f6 (-1 : Int32) (g_a1f 0)) := ⟨_, rfl⟩
  rw [← hv4]
  show Go p e below _ (T3.setTop (mkF m 33 #[.val (.ref a1), .val (.int (-1 : Int32)), .val (.ref a1), .val (.int (3 : Int32)), .val (.int (0 : Int32)), .val (.int (g_a1f 0)), .unset] [(.int v4)]))
  refine Go.step (fun t k => XS.istoreN X3.here hx rfl (hb hby d2_33) rfl (l' := #[.val (.ref a1), .val (.int v4), .val (.ref a1), .val (.int (3 : Int32)), .val (.int (0 : Int32)), .val (.int (g_a1f 0)), .unset]) rfl k) ?_
  show Go p e below _ (T3.setTop (mkF m 34 #[.val (.ref a1), .val (.int v4), .val (.ref a1), .val (.int (3 : Int32)), .val (.int (0 : Int32)), .val (.int (g_a1f 0)), .unset] []))
  refine Go.step (fun t k => XS.iinc X3.here hx rfl (hb hby d2_34) rfl (l' := #[.val (.ref a1), .val (.int v4), .val (.ref a1), .val (.int (3 : Int32)), .val (.int (1 : Int32)), .val (.int (g_a1f 0)), .unset]) rfl k) ?_
  show Go p e below _ (T3.setTop (mkF m 37 #[.val (.ref a1), .val (.int v4), .val (.ref a1), .val (.int (3 : Int32)), .val (.int (1 : Int32)), .val (.int (g_a1f 0)), .unset] []))
  refine Go.step (fun t k => XS.goto X3.here hx rfl (pc0 := 37) (pc' := 10) rfl (hb hby d2_37) (by decide) (by decide) k) ?_
  show Go p e below _ (T3.setTop (mkF m 10 #[.val (.ref a1), .val (.int v4), .val (.ref a1), .val (.int (3 : Int32)), .val (.int (1 : Int32)), .val (.int (g_a1f 0)), .unset] []))
  refine Go.step (fun t k => XS.iload X3.here hx rfl (hb hby d2_10) rfl k) ?_
  show Go p e below _ (T3.setTop (mkF m 12 #[.val (.ref a1), .val (.int v4), .val (.ref a1), .val (.int (3 : Int32)), .val (.int (1 : Int32)), .val (.int (g_a1f 0)), .unset] [(.int (1 : Int32))]))
  refine Go.step (fun t k => XS.iloadN X3.here hx rfl (hb hby d2_12) rfl k) ?_
  show Go p e below _ (T3.setTop (mkF m 13 #[.val (.ref a1), .val (.int v4), .val (.ref a1), .val (.int (3 : Int32)), .val (.int (1 : Int32)), .val (.int (g_a1f 0)), .unset] [(.int (3 : Int32)), (.int (1 : Int32))]))
  refine Go.step (fun t k => XS.icmpNo X3.here hx rfl (hb hby d2_13) rfl (tlt (by decide : (1 : Int32) < (3 : Int32))).2.1 k) ?_
  show Go p e below _ (T3.setTop (mkF m 16 #[.val (.ref a1), .val (.int v4), .val (.ref a1), .val (.int (3 : Int32)), .val (.int (1 : Int32)), .val (.int (g_a1f 0)), .unset] []))
  refine Go.step (fun t k => XS.aloadN X3.here hx rfl (hb hby d2_16) rfl rfl k) ?_
  show Go p e below _ (T3.setTop (mkF m 17 #[.val (.ref a1), .val (.int v4), .val (.ref a1), .val (.int (3 : Int32)), .val (.int (1 : Int32)), .val (.int (g_a1f 0)), .unset] [(.ref a1)]))
  refine Go.step (fun t k => XS.iload X3.here hx rfl (hb hby d2_17) rfl k) ?_
  show Go p e below _ (T3.setTop (mkF m 19 #[.val (.ref a1), .val (.int v4), .val (.ref a1), .val (.int (3 : Int32)), .val (.int (1 : Int32)), .val (.int (g_a1f 0)), .unset] [(.int (1 : Int32)), (.ref a1)]))
  refine Go.step (ldI X3 hx hZ e3 A_a1 (j := (1 : Int32)) (by decide) (by decide) (g := (mkF m 19 #[.val (.ref a1), .val (.int v4), .val (.ref a1), .val (.int (3 : Int32)), .val (.int (1 : Int32)), .val (.int (g_a1f 0)), .unset] [(.int (1 : Int32)), (.ref a1)])) rfl rfl (hb hby d2_19)) ?_
  show Go p e below _ (T3.setTop (mkF m 20 #[.val (.ref a1), .val (.int v4), .val (.ref a1), .val (.int (3 : Int32)), .val (.int (1 : Int32)), .val (.int (g_a1f 0)), .unset] [(.int (g_a1f 1))]))
  refine Go.step (fun t k => XS.istore X3.here hx rfl (hb hby d2_20) rfl (l' := #[.val (.ref a1), .val (.int v4), .val (.ref a1), .val (.int (3 : Int32)), .val (.int (1 : Int32)), .val (.int (g_a1f 1)), .unset]) rfl k) ?_
  show Go p e below _ (T3.setTop (mkF m 22 #[.val (.ref a1), .val (.int v4), .val (.ref a1), .val (.int (3 : Int32)), .val (.int (1 : Int32)), .val (.int (g_a1f 1)), .unset] []))
  refine Go.step (fun t k => XS.iload X3.here hx rfl (hb hby d2_22) rfl k) ?_
  show Go p e below _ (T3.setTop (mkF m 24 #[.val (.ref a1), .val (.int v4), .val (.ref a1), .val (.int (3 : Int32)), .val (.int (1 : Int32)), .val (.int (g_a1f 1)), .unset] [(.int (g_a1f 1))]))
  obtain ⟨_, _, ⟨T5, L5, k5, n5⟩, -, X5, ⟨Lc5, hQ5, l5, y5, z5⟩, st5⟩ := Jvm.LawKit.callS X3 hx (y := (⟨"com/example/menshen/menshen/core/PermissionSet", "checkBit", "(I)V"⟩ : MethodName)) hown (mvT hZ (hw _ (List.mem_of_getElem? (i := 30) rfl))) (mvT hZ (hw _ (List.mem_of_getElem? (i := 31) rfl))) (mvT hZ (hw _ (List.mem_of_getElem? (i := 7) rfl))) (mvT hZ (hw _ (List.mem_of_getElem? (i := 32) rfl))) (by decide) (backOf (W := 0) (rm7 l Z a0 hw [] (g_a1f 1) h0 n0 Z0 ((by subst_vars; first | exact hB0.ge | exact hB0.lt | exact hB1.ge | exact hB1.lt | exact hB2.ge | exact hB2.lt) : ¬ ((g_a1f 1) < (0 : Int32))) ((by subst_vars; first | exact hB0.ge | exact hB0.lt | exact hB1.ge | exact hB1.lt | exact hB2.ge | exact hB2.lt) : (g_a1f 1) < (4096 : Int32))) hZ (hw _ (List.mem_of_getElem? (i := 32) rfl)) (hw _ (List.mem_of_getElem? (i := 7) rfl)) (by decide) (by decide)) (g := (mkF m 24 #[.val (.ref a1), .val (.int v4), .val (.ref a1), .val (.int (3 : Int32)), .val (.int (1 : Int32)), .val (.int (g_a1f 1)), .unset] [(.int (g_a1f 1))])) rfl (by rw [hml]; rfl) (argsL := [(.int (g_a1f 1))]) (rest := []) (lenOf pd_1 rfl) rfl (by show 2 * 0 + _ ≤ _; exact Nat.le_of_eq rfl) (hb hby d2_24) (fun _ _ => ⟨rfl, e3, (by decide : 0 + 0 ≤ _), (by decide : 0 + 0 ≤ _)⟩)
  dsimp only [Pt.U, Pt.locs, Pt.cells, Pt.slots] at X5 l5 y5 z5 st5 hQ5
  subst l5 y5 z5
  obtain ⟨rfl, N5q, e5⟩ := hQ5
  have N5 := Fr.app N3 N5q
  refine Go.step st5 ?_
  show Go p e below _ (T5.setTop (mkF m 27 #[.val (.ref a1), .val (.int v4), .val (.ref a1), .val (.int (3 : Int32)), .val (.int (1 : Int32)), .val (.int (g_a1f 1)), .unset] []))
  refine Go.step (fun t k => XS.iloadN X5.here hx rfl (hb hby d2_27) rfl k) ?_
  show Go p e below _ (T5.setTop (mkF m 28 #[.val (.ref a1), .val (.int v4), .val (.ref a1), .val (.int (3 : Int32)), .val (.int (1 : Int32)), .val (.int (g_a1f 1)), .unset] [(.int v4)]))
  refine Go.step (fun t k => XS.iload X5.here hx rfl (hb hby d2_28) rfl k) ?_
  show Go p e below _ (T5.setTop (mkF m 30 #[.val (.ref a1), .val (.int v4), .val (.ref a1), .val (.int (3 : Int32)), .val (.int (1 : Int32)), .val (.int (g_a1f 1)), .unset] [(.int (g_a1f 1)), (.int v4)]))
  obtain ⟨_, _, ⟨T6, L6, k6, n6⟩, -, X6, ⟨Lc6, hQ6, l6, y6, z6⟩, st6⟩ := Jvm.LawKit.callS X5 hx (y := (⟨"java/lang/Math", "max", "(II)I"⟩ : MethodName)) hown (mvT hZ (hw _ (List.mem_of_getElem? (i := 24) rfl))) (mvT hZ (hw _ (List.mem_of_getElem? (i := 25) rfl))) (mvT hZ (hw _ (List.mem_of_getElem? (i := 26) rfl))) (mvT hZ (hw _ (List.mem_of_getElem? (i := 27) rfl))) (by decide) (backOf (W := 0) (rm6 l Z a0 hw [] v4 (g_a1f 1) h0 n0 Z0) hZ (hw _ (List.mem_of_getElem? (i := 27) rfl)) (hw _ (List.mem_of_getElem? (i := 26) rfl)) (by decide) (by decide)) (g := (mkF m 30 #[.val (.ref a1), .val (.int v4), .val (.ref a1), .val (.int (3 : Int32)), .val (.int (1 : Int32)), .val (.int (g_a1f 1)), .unset] [(.int (g_a1f 1)), (.int v4)])) rfl (by rw [hml]; rfl) (argsL := [(.int v4), (.int (g_a1f 1))]) (rest := []) (lenOf pd_2 rfl) rfl (by show 2 * 0 + _ ≤ _; exact Nat.le_of_eq rfl) (hb hby d2_30) (fun _ _ => ⟨rfl, e5, (by decide : 0 + 0 ≤ _), (by decide : 0 + 0 ≤ _)⟩)
  dsimp only [Pt.U, Pt.locs, Pt.cells, Pt.slots] at X6 l6 y6 z6 st6 hQ6
  subst l6 y6 z6
  obtain ⟨rfl, N6q, e6⟩ := hQ6
  have N6 := Fr.app N5 N6q
  refine Go.step st6 ?_
  show Go p e below _ (T6.setTop (mkF m 33 #[.val (.ref a1), .val (.int v4), .val (.ref a1), .val (.int (3 : Int32)), .val (.int (1 : Int32)), .val (.int (g_a1f 1)), .unset] [(.int (f6 v4 (g_a1f 1)))]))
  obtain ⟨v7, hv7⟩ : ∃ z : Int32, z = (f6 v4 (g_a1f 1)) := ⟨_, rfl⟩
  rw [← hv7]
  show Go p e below _ (T6.setTop (mkF m 33 #[.val (.ref a1), .val (.int v4), .val (.ref a1), .val (.int (3 : Int32)), .val (.int (1 : Int32)), .val (.int (g_a1f 1)), .unset] [(.int v7)]))
  refine Go.step (fun t k => XS.istoreN X6.here hx rfl (hb hby d2_33) rfl (l' := #[.val (.ref a1), .val (.int v7), .val (.ref a1), .val (.int (3 : Int32)), .val (.int (1 : Int32)), .val (.int (g_a1f 1)), .unset]) rfl k) ?_
  show Go p e below _ (T6.setTop (mkF m 34 #[.val (.ref a1), .val (.int v7), .val (.ref a1), .val (.int (3 : Int32)), .val (.int (1 : Int32)), .val (.int (g_a1f 1)), .unset] []))
  refine Go.step (fun t k => XS.iinc X6.here hx rfl (hb hby d2_34) rfl (l' := #[.val (.ref a1), .val (.int v7), .val (.ref a1), .val (.int (3 : Int32)), .val (.int (2 : Int32)), .val (.int (g_a1f 1)), .unset]) rfl k) ?_
  show Go p e below _ (T6.setTop (mkF m 37 #[.val (.ref a1), .val (.int v7), .val (.ref a1), .val (.int (3 : Int32)), .val (.int (2 : Int32)), .val (.int (g_a1f 1)), .unset] []))
  refine Go.step (fun t k => XS.goto X6.here hx rfl (pc0 := 37) (pc' := 10) rfl (hb hby d2_37) (by decide) (by decide) k) ?_
  show Go p e below _ (T6.setTop (mkF m 10 #[.val (.ref a1), .val (.int v7), .val (.ref a1), .val (.int (3 : Int32)), .val (.int (2 : Int32)), .val (.int (g_a1f 1)), .unset] []))
  refine Go.step (fun t k => XS.iload X6.here hx rfl (hb hby d2_10) rfl k) ?_
  show Go p e below _ (T6.setTop (mkF m 12 #[.val (.ref a1), .val (.int v7), .val (.ref a1), .val (.int (3 : Int32)), .val (.int (2 : Int32)), .val (.int (g_a1f 1)), .unset] [(.int (2 : Int32))]))
  refine Go.step (fun t k => XS.iloadN X6.here hx rfl (hb hby d2_12) rfl k) ?_
  show Go p e below _ (T6.setTop (mkF m 13 #[.val (.ref a1), .val (.int v7), .val (.ref a1), .val (.int (3 : Int32)), .val (.int (2 : Int32)), .val (.int (g_a1f 1)), .unset] [(.int (3 : Int32)), (.int (2 : Int32))]))
  refine Go.step (fun t k => XS.icmpNo X6.here hx rfl (hb hby d2_13) rfl (tlt (by decide : (2 : Int32) < (3 : Int32))).2.1 k) ?_
  show Go p e below _ (T6.setTop (mkF m 16 #[.val (.ref a1), .val (.int v7), .val (.ref a1), .val (.int (3 : Int32)), .val (.int (2 : Int32)), .val (.int (g_a1f 1)), .unset] []))
  refine Go.step (fun t k => XS.aloadN X6.here hx rfl (hb hby d2_16) rfl rfl k) ?_
  show Go p e below _ (T6.setTop (mkF m 17 #[.val (.ref a1), .val (.int v7), .val (.ref a1), .val (.int (3 : Int32)), .val (.int (2 : Int32)), .val (.int (g_a1f 1)), .unset] [(.ref a1)]))
  refine Go.step (fun t k => XS.iload X6.here hx rfl (hb hby d2_17) rfl k) ?_
  show Go p e below _ (T6.setTop (mkF m 19 #[.val (.ref a1), .val (.int v7), .val (.ref a1), .val (.int (3 : Int32)), .val (.int (2 : Int32)), .val (.int (g_a1f 1)), .unset] [(.int (2 : Int32)), (.ref a1)]))
  refine Go.step (ldI X6 hx hZ e6 A_a1 (j := (2 : Int32)) (by decide) (by decide) (g := (mkF m 19 #[.val (.ref a1), .val (.int v7), .val (.ref a1), .val (.int (3 : Int32)), .val (.int (2 : Int32)), .val (.int (g_a1f 1)), .unset] [(.int (2 : Int32)), (.ref a1)])) rfl rfl (hb hby d2_19)) ?_
  show Go p e below _ (T6.setTop (mkF m 20 #[.val (.ref a1), .val (.int v7), .val (.ref a1), .val (.int (3 : Int32)), .val (.int (2 : Int32)), .val (.int (g_a1f 1)), .unset] [(.int (g_a1f 2))]))
  refine Go.step (fun t k => XS.istore X6.here hx rfl (hb hby d2_20) rfl (l' := #[.val (.ref a1), .val (.int v7), .val (.ref a1), .val (.int (3 : Int32)), .val (.int (2 : Int32)), .val (.int (g_a1f 2)), .unset]) rfl k) ?_
  show Go p e below _ (T6.setTop (mkF m 22 #[.val (.ref a1), .val (.int v7), .val (.ref a1), .val (.int (3 : Int32)), .val (.int (2 : Int32)), .val (.int (g_a1f 2)), .unset] []))
  refine Go.step (fun t k => XS.iload X6.here hx rfl (hb hby d2_22) rfl k) ?_
  show Go p e below _ (T6.setTop (mkF m 24 #[.val (.ref a1), .val (.int v7), .val (.ref a1), .val (.int (3 : Int32)), .val (.int (2 : Int32)), .val (.int (g_a1f 2)), .unset] [(.int (g_a1f 2))]))
  obtain ⟨_, _, ⟨T8, L8, k8, n8⟩, -, X8, ⟨Lc8, hQ8, l8, y8, z8⟩, st8⟩ := Jvm.LawKit.callS X6 hx (y := (⟨"com/example/menshen/menshen/core/PermissionSet", "checkBit", "(I)V"⟩ : MethodName)) hown (mvT hZ (hw _ (List.mem_of_getElem? (i := 30) rfl))) (mvT hZ (hw _ (List.mem_of_getElem? (i := 31) rfl))) (mvT hZ (hw _ (List.mem_of_getElem? (i := 7) rfl))) (mvT hZ (hw _ (List.mem_of_getElem? (i := 32) rfl))) (by decide) (backOf (W := 0) (rm7 l Z a0 hw [] (g_a1f 2) h0 n0 Z0 ((by subst_vars; first | exact hB0.ge | exact hB0.lt | exact hB1.ge | exact hB1.lt | exact hB2.ge | exact hB2.lt) : ¬ ((g_a1f 2) < (0 : Int32))) ((by subst_vars; first | exact hB0.ge | exact hB0.lt | exact hB1.ge | exact hB1.lt | exact hB2.ge | exact hB2.lt) : (g_a1f 2) < (4096 : Int32))) hZ (hw _ (List.mem_of_getElem? (i := 32) rfl)) (hw _ (List.mem_of_getElem? (i := 7) rfl)) (by decide) (by decide)) (g := (mkF m 24 #[.val (.ref a1), .val (.int v7), .val (.ref a1), .val (.int (3 : Int32)), .val (.int (2 : Int32)), .val (.int (g_a1f 2)), .unset] [(.int (g_a1f 2))])) rfl (by rw [hml]; rfl) (argsL := [(.int (g_a1f 2))]) (rest := []) (lenOf pd_1 rfl) rfl (by show 2 * 0 + _ ≤ _; exact Nat.le_of_eq rfl) (hb hby d2_24) (fun _ _ => ⟨rfl, e6, (by decide : 0 + 0 ≤ _), (by decide : 0 + 0 ≤ _)⟩)
  dsimp only [Pt.U, Pt.locs, Pt.cells, Pt.slots] at X8 l8 y8 z8 st8 hQ8
  subst l8 y8 z8
  obtain ⟨rfl, N8q, e8⟩ := hQ8
  have N8 := Fr.app N6 N8q
  refine Go.step st8 ?_
  show Go p e below _ (T8.setTop (mkF m 27 #[.val (.ref a1), .val (.int v7), .val (.ref a1), .val (.int (3 : Int32)), .val (.int (2 : Int32)), .val (.int (g_a1f 2)), .unset] []))
  refine Go.step (fun t k => XS.iloadN X8.here hx rfl (hb hby d2_27) rfl k) ?_
  show Go p e below _ (T8.setTop (mkF m 28 #[.val (.ref a1), .val (.int v7), .val (.ref a1), .val (.int (3 : Int32)), .val (.int (2 : Int32)), .val (.int (g_a1f 2)), .unset] [(.int v7)]))
  refine Go.step (fun t k => XS.iload X8.here hx rfl (hb hby d2_28) rfl k) ?_
  show Go p e below _ (T8.setTop (mkF m 30 #[.val (.ref a1), .val (.int v7), .val (.ref a1), .val (.int (3 : Int32)), .val (.int (2 : Int32)), .val (.int (g_a1f 2)), .unset] [(.int (g_a1f 2)), (.int v7)]))
  obtain ⟨_, _, ⟨T9, L9, k9, n9⟩, -, X9, ⟨Lc9, hQ9, l9, y9, z9⟩, st9⟩ := Jvm.LawKit.callS X8 hx (y := (⟨"java/lang/Math", "max", "(II)I"⟩ : MethodName)) hown (mvT hZ (hw _ (List.mem_of_getElem? (i := 24) rfl))) (mvT hZ (hw _ (List.mem_of_getElem? (i := 25) rfl))) (mvT hZ (hw _ (List.mem_of_getElem? (i := 26) rfl))) (mvT hZ (hw _ (List.mem_of_getElem? (i := 27) rfl))) (by decide) (backOf (W := 0) (rm6 l Z a0 hw [] v7 (g_a1f 2) h0 n0 Z0) hZ (hw _ (List.mem_of_getElem? (i := 27) rfl)) (hw _ (List.mem_of_getElem? (i := 26) rfl)) (by decide) (by decide)) (g := (mkF m 30 #[.val (.ref a1), .val (.int v7), .val (.ref a1), .val (.int (3 : Int32)), .val (.int (2 : Int32)), .val (.int (g_a1f 2)), .unset] [(.int (g_a1f 2)), (.int v7)])) rfl (by rw [hml]; rfl) (argsL := [(.int v7), (.int (g_a1f 2))]) (rest := []) (lenOf pd_2 rfl) rfl (by show 2 * 0 + _ ≤ _; exact Nat.le_of_eq rfl) (hb hby d2_30) (fun _ _ => ⟨rfl, e8, (by decide : 0 + 0 ≤ _), (by decide : 0 + 0 ≤ _)⟩)
  dsimp only [Pt.U, Pt.locs, Pt.cells, Pt.slots] at X9 l9 y9 z9 st9 hQ9
  subst l9 y9 z9
  obtain ⟨rfl, N9q, e9⟩ := hQ9
  have N9 := Fr.app N8 N9q
  refine Go.step st9 ?_
  show Go p e below _ (T9.setTop (mkF m 33 #[.val (.ref a1), .val (.int v7), .val (.ref a1), .val (.int (3 : Int32)), .val (.int (2 : Int32)), .val (.int (g_a1f 2)), .unset] [(.int (f6 v7 (g_a1f 2)))]))
  obtain ⟨v10, hv10⟩ : ∃ z : Int32, z = (f6 v7 (g_a1f 2)) := ⟨_, rfl⟩
  rw [← hv10]
  show Go p e below _ (T9.setTop (mkF m 33 #[.val (.ref a1), .val (.int v7), .val (.ref a1), .val (.int (3 : Int32)), .val (.int (2 : Int32)), .val (.int (g_a1f 2)), .unset] [(.int v10)]))
  refine Go.step (fun t k => XS.istoreN X9.here hx rfl (hb hby d2_33) rfl (l' := #[.val (.ref a1), .val (.int v10), .val (.ref a1), .val (.int (3 : Int32)), .val (.int (2 : Int32)), .val (.int (g_a1f 2)), .unset]) rfl k) ?_
  show Go p e below _ (T9.setTop (mkF m 34 #[.val (.ref a1), .val (.int v10), .val (.ref a1), .val (.int (3 : Int32)), .val (.int (2 : Int32)), .val (.int (g_a1f 2)), .unset] []))
  refine Go.step (fun t k => XS.iinc X9.here hx rfl (hb hby d2_34) rfl (l' := #[.val (.ref a1), .val (.int v10), .val (.ref a1), .val (.int (3 : Int32)), .val (.int (3 : Int32)), .val (.int (g_a1f 2)), .unset]) rfl k) ?_
  show Go p e below _ (T9.setTop (mkF m 37 #[.val (.ref a1), .val (.int v10), .val (.ref a1), .val (.int (3 : Int32)), .val (.int (3 : Int32)), .val (.int (g_a1f 2)), .unset] []))
  refine Go.step (fun t k => XS.goto X9.here hx rfl (pc0 := 37) (pc' := 10) rfl (hb hby d2_37) (by decide) (by decide) k) ?_
  show Go p e below _ (T9.setTop (mkF m 10 #[.val (.ref a1), .val (.int v10), .val (.ref a1), .val (.int (3 : Int32)), .val (.int (3 : Int32)), .val (.int (g_a1f 2)), .unset] []))
  refine Go.step (fun t k => XS.iload X9.here hx rfl (hb hby d2_10) rfl k) ?_
  show Go p e below _ (T9.setTop (mkF m 12 #[.val (.ref a1), .val (.int v10), .val (.ref a1), .val (.int (3 : Int32)), .val (.int (3 : Int32)), .val (.int (g_a1f 2)), .unset] [(.int (3 : Int32))]))
  refine Go.step (fun t k => XS.iloadN X9.here hx rfl (hb hby d2_12) rfl k) ?_
  show Go p e below _ (T9.setTop (mkF m 13 #[.val (.ref a1), .val (.int v10), .val (.ref a1), .val (.int (3 : Int32)), .val (.int (3 : Int32)), .val (.int (g_a1f 2)), .unset] [(.int (3 : Int32)), (.int (3 : Int32))]))
  refine Go.step (fun t k => XS.icmpYes X9.here hx rfl (pc0 := 13) (pc' := 40) rfl (hb hby d2_13) rfl (flt (by decide : ¬ ((3 : Int32) < (3 : Int32)))).2.1 (by decide) (by decide) k) ?_
  show Go p e below _ (T9.setTop (mkF m 40 #[.val (.ref a1), .val (.int v10), .val (.ref a1), .val (.int (3 : Int32)), .val (.int (3 : Int32)), .val (.int (g_a1f 2)), .unset] []))
  refine Go.step (fun t k => XS.iloadN X9.here hx rfl (hb hby d2_40) rfl k) ?_
  show Go p e below _ (T9.setTop (mkF m 41 #[.val (.ref a1), .val (.int v10), .val (.ref a1), .val (.int (3 : Int32)), .val (.int (3 : Int32)), .val (.int (g_a1f 2)), .unset] [(.int v10)]))
  refine Go.step (fun t k => XS.bipush X9.here hx rfl (hb hby d2_41)  k) ?_
  show Go p e below _ (T9.setTop (mkF m 43 #[.val (.ref a1), .val (.int v10), .val (.ref a1), .val (.int (3 : Int32)), .val (.int (3 : Int32)), .val (.int (g_a1f 2)), .unset] [(.int (32 : Int32)), (.int v10)]))
  refine Go.step (fun t k => XS.iadd X9.here hx rfl (hb hby d2_43) rfl k) ?_
  show Go p e below _ (T9.setTop (mkF m 44 #[.val (.ref a1), .val (.int v10), .val (.ref a1), .val (.int (3 : Int32)), .val (.int (3 : Int32)), .val (.int (g_a1f 2)), .unset] [(.int (v10 + (32 : Int32)))]))
  refine Go.step (fun t k => XS.bipush X9.here hx rfl (hb hby d2_44)  k) ?_
  show Go p e below _ (T9.setTop (mkF m 46 #[.val (.ref a1), .val (.int v10), .val (.ref a1), .val (.int (3 : Int32)), .val (.int (3 : Int32)), .val (.int (g_a1f 2)), .unset] [(.int (32 : Int32)), (.int (v10 + (32 : Int32)))]))
  refine Go.step (fun t k => XS.idiv X9.here hx rfl (hb hby d2_46) rfl (by decide) k) ?_
  show Go p e below _ (T9.setTop (mkF m 47 #[.val (.ref a1), .val (.int v10), .val (.ref a1), .val (.int (3 : Int32)), .val (.int (3 : Int32)), .val (.int (g_a1f 2)), .unset] [(.int ((v10 + (32 : Int32)) / (32 : Int32)))]))
  obtain ⟨T11, h11, k11, X11, e11, E11, A11, st11⟩ := newP X9 hx hZ (hw _ (List.mem_of_getElem? (i := 4) rfl)) e9 (g := (mkF m 47 #[.val (.ref a1), .val (.int v10), .val (.ref a1), .val (.int (3 : Int32)), .val (.int (3 : Int32)), .val (.int (g_a1f 2)), .unset] [(.int ((v10 + (32 : Int32)) / (32 : Int32)))])) rfl (hb hby d2_47) rfl ((by subst_vars; exact (Hi.sz (Hi.max (Hi.max (Hi.max Hi.m1 hB0).1 hB1).1 hB2).1).1) : ¬ ((v10 + (32 : Int32)) / (32 : Int32)) < 0) (cap := 128) ((by subst_vars; exact (Hi.sz (Hi.max (Hi.max (Hi.max Hi.m1 hB0).1 hB1).1 hB2).1).2.1) : ((v10 + (32 : Int32)) / (32 : Int32)).toNatClampNeg ≤ 128) (by decide) (by decide) (by decide)
  obtain ⟨b11, g11⟩ : ∃ z, z = h0.size := ⟨_, rfl⟩
  rw [← g11] at A11 st11
  have g_b11 : n0 ≤ b11 := Nat.le_trans Z0 (Nat.le_of_eq g11.symm)
  have sz_b11 : h0.size ≤ b11 := Nat.le_trans KK0.1 (Nat.le_of_eq g11.symm)
  have ne_a1_b11 : a1 ≠ b11 := Nat.ne_of_lt (Nat.lt_of_lt_of_le A_a1.lt (Nat.le_of_eq g11.symm))
  refine Go.step st11 ?_
  have A_a1_11 := A_a1.ext E11
  have Z11 := Nat.le_trans Z0 E11.1
  have KK11 : Keep h0 h11 [] := KK0.ext E11
  have A_b11_11 : Ary Z h11 b11 .int ((v10 + (32 : Int32)) / (32 : Int32)).toNatClampNeg (fun i => .int ((fun _ => (0 : Int32)) i)) := Ary.mk A11 ((by subst_vars; exact (Hi.sz (Hi.max (Hi.max (Hi.max Hi.m1 hB0).1 hB1).1 hB2).1).1) : ¬ ((v10 + (32 : Int32)) / (32 : Int32)) < 0) rfl
  show Go p e below _ (T11.setTop (mkF m 49 #[.val (.ref a1), .val (.int v10), .val (.ref a1), .val (.int (3 : Int32)), .val (.int (3 : Int32)), .val (.int (g_a1f 2)), .unset] [(.ref b11)]))
  refine Go.step (fun t k => XS.astoreN X11.here hx rfl (hb hby d2_49) rfl rfl (l' := #[.val (.ref a1), .val (.int v10), .val (.ref b11), .val (.int (3 : Int32)), .val (.int (3 : Int32)), .val (.int (g_a1f 2)), .unset]) rfl k) ?_
  show Go p e below _ (T11.setTop (mkF m 50 #[.val (.ref a1), .val (.int v10), .val (.ref b11), .val (.int (3 : Int32)), .val (.int (3 : Int32)), .val (.int (g_a1f 2)), .unset] []))
  refine Go.step (fun t k => XS.aloadN X11.here hx rfl (hb hby d2_50) rfl rfl k) ?_
  show Go p e below _ (T11.setTop (mkF m 51 #[.val (.ref a1), .val (.int v10), .val (.ref b11), .val (.int (3 : Int32)), .val (.int (3 : Int32)), .val (.int (g_a1f 2)), .unset] [(.ref a1)]))
  refine Go.step (fun t k => XS.astoreN X11.here hx rfl (hb hby d2_51) rfl rfl (l' := #[.val (.ref a1), .val (.int v10), .val (.ref b11), .val (.ref a1), .val (.int (3 : Int32)), .val (.int (g_a1f 2)), .unset]) rfl k) ?_
  show Go p e below _ (T11.setTop (mkF m 52 #[.val (.ref a1), .val (.int v10), .val (.ref b11), .val (.ref a1), .val (.int (3 : Int32)), .val (.int (g_a1f 2)), .unset] []))
  refine Go.step (fun t k => XS.aloadN X11.here hx rfl (hb hby d2_52) rfl rfl k) ?_
  show Go p e below _ (T11.setTop (mkF m 53 #[.val (.ref a1), .val (.int v10), .val (.ref b11), .val (.ref a1), .val (.int (3 : Int32)), .val (.int (g_a1f 2)), .unset] [(.ref a1)]))
  refine Go.step (lenA X11 hx hZ e11 A_a1_11 (g := (mkF m 53 #[.val (.ref a1), .val (.int v10), .val (.ref b11), .val (.ref a1), .val (.int (3 : Int32)), .val (.int (g_a1f 2)), .unset] [(.ref a1)])) rfl rfl (hb hby d2_53)) ?_
  show Go p e below _ (T11.setTop (mkF m 54 #[.val (.ref a1), .val (.int v10), .val (.ref b11), .val (.ref a1), .val (.int (3 : Int32)), .val (.int (g_a1f 2)), .unset] [(.int (3 : Int32))]))
  refine Go.step (fun t k => XS.istore X11.here hx rfl (hb hby d2_54) rfl (l' := #[.val (.ref a1), .val (.int v10), .val (.ref b11), .val (.ref a1), .val (.int (3 : Int32)), .val (.int (g_a1f 2)), .unset]) rfl k) ?_
  show Go p e below _ (T11.setTop (mkF m 56 #[.val (.ref a1), .val (.int v10), .val (.ref b11), .val (.ref a1), .val (.int (3 : Int32)), .val (.int (g_a1f 2)), .unset] []))
  refine Go.step (fun t k => XS.iconst X11.here hx rfl (hb hby d2_56)  k) ?_
  show Go p e below _ (T11.setTop (mkF m 57 #[.val (.ref a1), .val (.int v10), .val (.ref b11), .val (.ref a1), .val (.int (3 : Int32)), .val (.int (g_a1f 2)), .unset] [(.int (0 : Int32))]))
  refine Go.step (fun t k => XS.istore X11.here hx rfl (hb hby d2_57) rfl (l' := #[.val (.ref a1), .val (.int v10), .val (.ref b11), .val (.ref a1), .val (.int (3 : Int32)), .val (.int (0 : Int32)), .unset]) rfl k) ?_
  show Go p e below _ (T11.setTop (mkF m 59 #[.val (.ref a1), .val (.int v10), .val (.ref b11), .val (.ref a1), .val (.int (3 : Int32)), .val (.int (0 : Int32)), .unset] []))
  refine Go.step (fun t k => XS.iload X11.here hx rfl (hb hby d2_59) rfl k) ?_
  show Go p e below _ (T11.setTop (mkF m 61 #[.val (.ref a1), .val (.int v10), .val (.ref b11), .val (.ref a1), .val (.int (3 : Int32)), .val (.int (0 : Int32)), .unset] [(.int (0 : Int32))]))
  refine Go.step (fun t k => XS.iload X11.here hx rfl (hb hby d2_61) rfl k) ?_
  show Go p e below _ (T11.setTop (mkF m 63 #[.val (.ref a1), .val (.int v10), .val (.ref b11), .val (.ref a1), .val (.int (3 : Int32)), .val (.int (0 : Int32)), .unset] [(.int (3 : Int32)), (.int (0 : Int32))]))
  refine Go.step (fun t k => XS.icmpNo X11.here hx rfl (hb hby d2_63) rfl (tlt (by decide : (0 : Int32) < (3 : Int32))).2.1 k) ?_
  show Go p e below _ (T11.setTop (mkF m 66 #[.val (.ref a1), .val (.int v10), .val (.ref b11), .val (.ref a1), .val (.int (3 : Int32)), .val (.int (0 : Int32)), .unset] []))
  refine Go.step (fun t k => XS.aloadN X11.here hx rfl (hb hby d2_66) rfl rfl k) ?_
  show Go p e below _ (T11.setTop (mkF m 67 #[.val (.ref a1), .val (.int v10), .val (.ref b11), .val (.ref a1), .val (.int (3 : Int32)), .val (.int (0 : Int32)), .unset] [(.ref a1)]))
  refine Go.step (fun t k => XS.iload X11.here hx rfl (hb hby d2_67) rfl k) ?_
  show Go p e below _ (T11.setTop (mkF m 69 #[.val (.ref a1), .val (.int v10), .val (.ref b11), .val (.ref a1), .val (.int (3 : Int32)), .val (.int (0 : Int32)), .unset] [(.int (0 : Int32)), (.ref a1)]))
  refine Go.step (ldI X11 hx hZ e11 A_a1_11 (j := (0 : Int32)) (by decide) (by decide) (g := (mkF m 69 #[.val (.ref a1), .val (.int v10), .val (.ref b11), .val (.ref a1), .val (.int (3 : Int32)), .val (.int (0 : Int32)), .unset] [(.int (0 : Int32)), (.ref a1)])) rfl rfl (hb hby d2_69)) ?_
  show Go p e below _ (T11.setTop (mkF m 70 #[.val (.ref a1), .val (.int v10), .val (.ref b11), .val (.ref a1), .val (.int (3 : Int32)), .val (.int (0 : Int32)), .unset] [(.int (g_a1f 0))]))
  refine Go.step (fun t k => XS.istore X11.here hx rfl (hb hby d2_70) rfl (l' := #[.val (.ref a1), .val (.int v10), .val (.ref b11), .val (.ref a1), .val (.int (3 : Int32)), .val (.int (0 : Int32)), .val (.int (g_a1f 0))]) rfl k) ?_
  show Go p e below _ (T11.setTop (mkF m 72 #[.val (.ref a1), .val (.int v10), .val (.ref b11), .val (.ref a1), .val (.int (3 : Int32)), .val (.int (0 : Int32)), .val (.int (g_a1f 0))] []))
  refine Go.step (fun t k => XS.aloadN X11.here hx rfl (hb hby d2_72) rfl rfl k) ?_
  show Go p e below _ (T11.setTop (mkF m 73 #[.val (.ref a1), .val (.int v10), .val (.ref b11), .val (.ref a1), .val (.int (3 : Int32)), .val (.int (0 : Int32)), .val (.int (g_a1f 0))] [(.ref b11)]))
  refine Go.step (fun t k => XS.iload X11.here hx rfl (hb hby d2_73) rfl k) ?_
  show Go p e below _ (T11.setTop (mkF m 75 #[.val (.ref a1), .val (.int v10), .val (.ref b11), .val (.ref a1), .val (.int (3 : Int32)), .val (.int (0 : Int32)), .val (.int (g_a1f 0))] [(.int (g_a1f 0)), (.ref b11)]))
  refine Go.step (fun t k => XS.bipush X11.here hx rfl (hb hby d2_75)  k) ?_
  show Go p e below _ (T11.setTop (mkF m 77 #[.val (.ref a1), .val (.int v10), .val (.ref b11), .val (.ref a1), .val (.int (3 : Int32)), .val (.int (0 : Int32)), .val (.int (g_a1f 0))] [(.int (32 : Int32)), (.int (g_a1f 0)), (.ref b11)]))
  refine Go.step (fun t k => XS.idiv X11.here hx rfl (hb hby d2_77) rfl (by decide) k) ?_
  show Go p e below _ (T11.setTop (mkF m 78 #[.val (.ref a1), .val (.int v10), .val (.ref b11), .val (.ref a1), .val (.int (3 : Int32)), .val (.int (0 : Int32)), .val (.int (g_a1f 0))] [(.int ((g_a1f 0) / (32 : Int32))), (.ref b11)]))
  refine Go.step (S' := T11.setTop (mkF m 79 #[.val (.ref a1), .val (.int v10), .val (.ref b11), .val (.ref a1), .val (.int (3 : Int32)), .val (.int (0 : Int32)), .val (.int (g_a1f 0))] [(.int ((g_a1f 0) / (32 : Int32))), (.ref b11), (.int ((g_a1f 0) / (32 : Int32))), (.ref b11)])) (fun t k => ?_) ?_
  · jvm_step X11.here [X11.here.top, hx, (hb hby d2_78), Value.category]
    exact k
  show Go p e below _ (T11.setTop (mkF m 79 #[.val (.ref a1), .val (.int v10), .val (.ref b11), .val (.ref a1), .val (.int (3 : Int32)), .val (.int (0 : Int32)), .val (.int (g_a1f 0))] [(.int ((g_a1f 0) / (32 : Int32))), (.ref b11), (.int ((g_a1f 0) / (32 : Int32))), (.ref b11)]))
  refine Go.step (ldI X11 hx hZ e11 A_b11_11 (j := ((g_a1f 0) / (32 : Int32))) ((by subst_vars; first | exact (Bit.at (Hi.max (Hi.max (Hi.max Hi.m1 hB0).1 hB1).1 hB2).1 hB0 (Int.le_trans (Int.le_trans (Hi.max Hi.m1 hB0).2.2 (Hi.max (Hi.max Hi.m1 hB0).1 hB1).2.1) (Hi.max (Hi.max (Hi.max Hi.m1 hB0).1 hB1).1 hB2).2.1)).1 | exact (Bit.at (Hi.max (Hi.max (Hi.max Hi.m1 hB0).1 hB1).1 hB2).1 hB1 (Int.le_trans (Hi.max (Hi.max Hi.m1 hB0).1 hB1).2.2 (Hi.max (Hi.max (Hi.max Hi.m1 hB0).1 hB1).1 hB2).2.1)).1 | exact (Bit.at (Hi.max (Hi.max (Hi.max Hi.m1 hB0).1 hB1).1 hB2).1 hB2 (Hi.max (Hi.max (Hi.max Hi.m1 hB0).1 hB1).1 hB2).2.2).1) : ¬ ((g_a1f 0) / (32 : Int32)) < 0) ((by subst_vars; first | exact (Bit.at (Hi.max (Hi.max (Hi.max Hi.m1 hB0).1 hB1).1 hB2).1 hB0 (Int.le_trans (Int.le_trans (Hi.max Hi.m1 hB0).2.2 (Hi.max (Hi.max Hi.m1 hB0).1 hB1).2.1) (Hi.max (Hi.max (Hi.max Hi.m1 hB0).1 hB1).1 hB2).2.1)).2 | exact (Bit.at (Hi.max (Hi.max (Hi.max Hi.m1 hB0).1 hB1).1 hB2).1 hB1 (Int.le_trans (Hi.max (Hi.max Hi.m1 hB0).1 hB1).2.2 (Hi.max (Hi.max (Hi.max Hi.m1 hB0).1 hB1).1 hB2).2.1)).2 | exact (Bit.at (Hi.max (Hi.max (Hi.max Hi.m1 hB0).1 hB1).1 hB2).1 hB2 (Hi.max (Hi.max (Hi.max Hi.m1 hB0).1 hB1).1 hB2).2.2).2) : ((g_a1f 0) / (32 : Int32)).toNatClampNeg < ((v10 + (32 : Int32)) / (32 : Int32)).toNatClampNeg) (g := (mkF m 79 #[.val (.ref a1), .val (.int v10), .val (.ref b11), .val (.ref a1), .val (.int (3 : Int32)), .val (.int (0 : Int32)), .val (.int (g_a1f 0))] [(.int ((g_a1f 0) / (32 : Int32))), (.ref b11), (.int ((g_a1f 0) / (32 : Int32))), (.ref b11)])) rfl rfl (hb hby d2_79)) ?_
  show Go p e below _ (T11.setTop (mkF m 80 #[.val (.ref a1), .val (.int v10), .val (.ref b11), .val (.ref a1), .val (.int (3 : Int32)), .val (.int (0 : Int32)), .val (.int (g_a1f 0))] [(.int ((fun _ => (0 : Int32)) ((g_a1f 0) / (32 : Int32)).toNatClampNeg)), (.int ((g_a1f 0) / (32 : Int32))), (.ref b11)]))
  refine Go.step (fun t k => XS.iconst X11.here hx rfl (hb hby d2_80)  k) ?_
  show Go p e below _ (T11.setTop (mkF m 81 #[.val (.ref a1), .val (.int v10), .val (.ref b11), .val (.ref a1), .val (.int (3 : Int32)), .val (.int (0 : Int32)), .val (.int (g_a1f 0))] [(.int (1 : Int32)), (.int ((fun _ => (0 : Int32)) ((g_a1f 0) / (32 : Int32)).toNatClampNeg)), (.int ((g_a1f 0) / (32 : Int32))), (.ref b11)]))
  refine Go.step (fun t k => XS.iload X11.here hx rfl (hb hby d2_81) rfl k) ?_
  show Go p e below _ (T11.setTop (mkF m 83 #[.val (.ref a1), .val (.int v10), .val (.ref b11), .val (.ref a1), .val (.int (3 : Int32)), .val (.int (0 : Int32)), .val (.int (g_a1f 0))] [(.int (g_a1f 0)), (.int (1 : Int32)), (.int ((fun _ => (0 : Int32)) ((g_a1f 0) / (32 : Int32)).toNatClampNeg)), (.int ((g_a1f 0) / (32 : Int32))), (.ref b11)]))
  refine Go.step (fun t k => XS.bipush X11.here hx rfl (hb hby d2_83)  k) ?_
  show Go p e below _ (T11.setTop (mkF m 85 #[.val (.ref a1), .val (.int v10), .val (.ref b11), .val (.ref a1), .val (.int (3 : Int32)), .val (.int (0 : Int32)), .val (.int (g_a1f 0))] [(.int (32 : Int32)), (.int (g_a1f 0)), (.int (1 : Int32)), (.int ((fun _ => (0 : Int32)) ((g_a1f 0) / (32 : Int32)).toNatClampNeg)), (.int ((g_a1f 0) / (32 : Int32))), (.ref b11)]))
  refine Go.step (fun t (k : Steps p.tables e below (T11.setTop (mkF m 86 #[.val (.ref a1), .val (.int v10), .val (.ref b11), .val (.ref a1), .val (.int (3 : Int32)), .val (.int (0 : Int32)), .val (.int (g_a1f 0))] [(.int ((g_a1f 0) % (32 : Int32))), (.int (1 : Int32)), (.int ((fun _ => (0 : Int32)) ((g_a1f 0) / (32 : Int32)).toNatClampNeg)), (.int ((g_a1f 0) / (32 : Int32))), (.ref b11)])) t) => XS.irem X11.here hx rfl (hb hby d2_85) rfl (by decide) (by rw [remI]; exact k)) ?_
  show Go p e below _ (T11.setTop (mkF m 86 #[.val (.ref a1), .val (.int v10), .val (.ref b11), .val (.ref a1), .val (.int (3 : Int32)), .val (.int (0 : Int32)), .val (.int (g_a1f 0))] [(.int ((g_a1f 0) % (32 : Int32))), (.int (1 : Int32)), (.int ((fun _ => (0 : Int32)) ((g_a1f 0) / (32 : Int32)).toNatClampNeg)), (.int ((g_a1f 0) / (32 : Int32))), (.ref b11)]))
  refine Go.step (fun t k => XS.ishl X11.here hx rfl (hb hby d2_86) rfl k) ?_
  show Go p e below _ (T11.setTop (mkF m 87 #[.val (.ref a1), .val (.int v10), .val (.ref b11), .val (.ref a1), .val (.int (3 : Int32)), .val (.int (0 : Int32)), .val (.int (g_a1f 0))] [(.int ((1 : Int32) <<< (((g_a1f 0) % (32 : Int32)) &&& 31))), (.int ((fun _ => (0 : Int32)) ((g_a1f 0) / (32 : Int32)).toNatClampNeg)), (.int ((g_a1f 0) / (32 : Int32))), (.ref b11)]))
  refine Go.step (fun t k => XS.ior X11.here hx rfl (hb hby d2_87) rfl k) ?_
  show Go p e below _ (T11.setTop (mkF m 88 #[.val (.ref a1), .val (.int v10), .val (.ref b11), .val (.ref a1), .val (.int (3 : Int32)), .val (.int (0 : Int32)), .val (.int (g_a1f 0))] [(.int (((fun _ => (0 : Int32)) ((g_a1f 0) / (32 : Int32)).toNatClampNeg) ||| ((1 : Int32) <<< (((g_a1f 0) % (32 : Int32)) &&& 31)))), (.int ((g_a1f 0) / (32 : Int32))), (.ref b11)]))
  obtain ⟨cl12, Ar12, in12, -⟩ := A_b11_11.hin (j := ((g_a1f 0) / (32 : Int32))) ((by subst_vars; first | exact (Bit.at (Hi.max (Hi.max (Hi.max Hi.m1 hB0).1 hB1).1 hB2).1 hB0 (Int.le_trans (Int.le_trans (Hi.max Hi.m1 hB0).2.2 (Hi.max (Hi.max Hi.m1 hB0).1 hB1).2.1) (Hi.max (Hi.max (Hi.max Hi.m1 hB0).1 hB1).1 hB2).2.1)).1 | exact (Bit.at (Hi.max (Hi.max (Hi.max Hi.m1 hB0).1 hB1).1 hB2).1 hB1 (Int.le_trans (Hi.max (Hi.max Hi.m1 hB0).1 hB1).2.2 (Hi.max (Hi.max (Hi.max Hi.m1 hB0).1 hB1).1 hB2).2.1)).1 | exact (Bit.at (Hi.max (Hi.max (Hi.max Hi.m1 hB0).1 hB1).1 hB2).1 hB2 (Hi.max (Hi.max (Hi.max Hi.m1 hB0).1 hB1).1 hB2).2.2).1) : ¬ ((g_a1f 0) / (32 : Int32)) < 0) ((by subst_vars; first | exact (Bit.at (Hi.max (Hi.max (Hi.max Hi.m1 hB0).1 hB1).1 hB2).1 hB0 (Int.le_trans (Int.le_trans (Hi.max Hi.m1 hB0).2.2 (Hi.max (Hi.max Hi.m1 hB0).1 hB1).2.1) (Hi.max (Hi.max (Hi.max Hi.m1 hB0).1 hB1).1 hB2).2.1)).2 | exact (Bit.at (Hi.max (Hi.max (Hi.max Hi.m1 hB0).1 hB1).1 hB2).1 hB1 (Int.le_trans (Hi.max (Hi.max Hi.m1 hB0).1 hB1).2.2 (Hi.max (Hi.max (Hi.max Hi.m1 hB0).1 hB1).1 hB2).2.1)).2 | exact (Bit.at (Hi.max (Hi.max (Hi.max Hi.m1 hB0).1 hB1).1 hB2).1 hB2 (Hi.max (Hi.max (Hi.max Hi.m1 hB0).1 hB1).1 hB2).2.2).2) : ((g_a1f 0) / (32 : Int32)).toNatClampNeg < ((v10 + (32 : Int32)) / (32 : Int32)).toNatClampNeg)
  obtain ⟨T12, h12, X12, e12, W12, st12⟩ := stI X11 hx hZ e11 Ar12 in12 (g := (mkF m 88 #[.val (.ref a1), .val (.int v10), .val (.ref b11), .val (.ref a1), .val (.int (3 : Int32)), .val (.int (0 : Int32)), .val (.int (g_a1f 0))] [(.int (((fun _ => (0 : Int32)) ((g_a1f 0) / (32 : Int32)).toNatClampNeg) ||| ((1 : Int32) <<< (((g_a1f 0) % (32 : Int32)) &&& 31)))), (.int ((g_a1f 0) / (32 : Int32))), (.ref b11)])) rfl rfl (hb hby d2_88)
  refine Go.step st12 ?_
  have N12 := Fr.snoc X12 N9 g_b11
  have A_a1_12 := A_a1_11.other W12 ne_a1_b11
  have Z12 := Nat.le_trans Z11 (Keep.of_wr W12).1
  have KK12 : Keep h0 h12 [] := KK11.wr W12 (Or.inr sz_b11)
  have A_b11_12 : Ary Z h12 b11 .int ((v10 + (32 : Int32)) / (32 : Int32)).toNatClampNeg (fun i => .int ((orW (fun _ => (0 : Int32)) (g_a1f 0)) i)) := A_b11_11.setI W12 ((by subst_vars; first | exact (Bit.at (Hi.max (Hi.max (Hi.max Hi.m1 hB0).1 hB1).1 hB2).1 hB0 (Int.le_trans (Int.le_trans (Hi.max Hi.m1 hB0).2.2 (Hi.max (Hi.max Hi.m1 hB0).1 hB1).2.1) (Hi.max (Hi.max (Hi.max Hi.m1 hB0).1 hB1).1 hB2).2.1)).2 | exact (Bit.at (Hi.max (Hi.max (Hi.max Hi.m1 hB0).1 hB1).1 hB2).1 hB1 (Int.le_trans (Hi.max (Hi.max Hi.m1 hB0).1 hB1).2.2 (Hi.max (Hi.max (Hi.max Hi.m1 hB0).1 hB1).1 hB2).2.1)).2 | exact (Bit.at (Hi.max (Hi.max (Hi.max Hi.m1 hB0).1 hB1).1 hB2).1 hB2 (Hi.max (Hi.max (Hi.max Hi.m1 hB0).1 hB1).1 hB2).2.2).2) : ((g_a1f 0) / (32 : Int32)).toNatClampNeg < ((v10 + (32 : Int32)) / (32 : Int32)).toNatClampNeg)
  show Go p e below _ (T12.setTop (mkF m 89 #[.val (.ref a1), .val (.int v10), .val (.ref b11), .val (.ref a1), .val (.int (3 : Int32)), .val (.int (0 : Int32)), .val (.int (g_a1f 0))] []))
  refine Go.step (fun t k => XS.iinc X12.here hx rfl (hb hby d2_89) rfl (l' := #[.val (.ref a1), .val (.int v10), .val (.ref b11), .val (.ref a1), .val (.int (3 : Int32)), .val (.int (1 : Int32)), .val (.int (g_a1f 0))]) rfl k) ?_
  show Go p e below _ (T12.setTop (mkF m 92 #[.val (.ref a1), .val (.int v10), .val (.ref b11), .val (.ref a1), .val (.int (3 : Int32)), .val (.int (1 : Int32)), .val (.int (g_a1f 0))] []))
  refine Go.step (fun t k => XS.goto X12.here hx rfl (pc0 := 92) (pc' := 59) rfl (hb hby d2_92) (by decide) (by decide) k) ?_
  show Go p e below _ (T12.setTop (mkF m 59 #[.val (.ref a1), .val (.int v10), .val (.ref b11), .val (.ref a1), .val (.int (3 : Int32)), .val (.int (1 : Int32)), .val (.int (g_a1f 0))] []))
  refine Go.step (fun t k => XS.iload X12.here hx rfl (hb hby d2_59) rfl k) ?_
  show Go p e below _ (T12.setTop (mkF m 61 #[.val (.ref a1), .val (.int v10), .val (.ref b11), .val (.ref a1), .val (.int (3 : Int32)), .val (.int (1 : Int32)), .val (.int (g_a1f 0))] [(.int (1 : Int32))]))
  refine Go.step (fun t k => XS.iload X12.here hx rfl (hb hby d2_61) rfl k) ?_
  show Go p e below _ (T12.setTop (mkF m 63 #[.val (.ref a1), .val (.int v10), .val (.ref b11), .val (.ref a1), .val (.int (3 : Int32)), .val (.int (1 : Int32)), .val (.int (g_a1f 0))] [(.int (3 : Int32)), (.int (1 : Int32))]))
  refine Go.step (fun t k => XS.icmpNo X12.here hx rfl (hb hby d2_63) rfl (tlt (by decide : (1 : Int32) < (3 : Int32))).2.1 k) ?_
  show Go p e below _ (T12.setTop (mkF m 66 #[.val (.ref a1), .val (.int v10), .val (.ref b11), .val (.ref a1), .val (.int (3 : Int32)), .val (.int (1 : Int32)), .val (.int (g_a1f 0))] []))
  refine Go.step (fun t k => XS.aloadN X12.here hx rfl (hb hby d2_66) rfl rfl k) ?_
  show Go p e below _ (T12.setTop (mkF m 67 #[.val (.ref a1), .val (.int v10), .val (.ref b11), .val (.ref a1), .val (.int (3 : Int32)), .val (.int (1 : Int32)), .val (.int (g_a1f 0))] [(.ref a1)]))
  refine Go.step (fun t k => XS.iload X12.here hx rfl (hb hby d2_67) rfl k) ?_
  show Go p e below _ (T12.setTop (mkF m 69 #[.val (.ref a1), .val (.int v10), .val (.ref b11), .val (.ref a1), .val (.int (3 : Int32)), .val (.int (1 : Int32)), .val (.int (g_a1f 0))] [(.int (1 : Int32)), (.ref a1)]))
  refine Go.step (ldI X12 hx hZ e12 A_a1_12 (j := (1 : Int32)) (by decide) (by decide) (g := (mkF m 69 #[.val (.ref a1), .val (.int v10), .val (.ref b11), .val (.ref a1), .val (.int (3 : Int32)), .val (.int (1 : Int32)), .val (.int (g_a1f 0))] [(.int (1 : Int32)), (.ref a1)])) rfl rfl (hb hby d2_69)) ?_
  show Go p e below _ (T12.setTop (mkF m 70 #[.val (.ref a1), .val (.int v10), .val (.ref b11), .val (.ref a1), .val (.int (3 : Int32)), .val (.int (1 : Int32)), .val (.int (g_a1f 0))] [(.int (g_a1f 1))]))
  refine Go.step (fun t k => XS.istore X12.here hx rfl (hb hby d2_70) rfl (l' := #[.val (.ref a1), .val (.int v10), .val (.ref b11), .val (.ref a1), .val (.int (3 : Int32)), .val (.int (1 : Int32)), .val (.int (g_a1f 1))]) rfl k) ?_
  show Go p e below _ (T12.setTop (mkF m 72 #[.val (.ref a1), .val (.int v10), .val (.ref b11), .val (.ref a1), .val (.int (3 : Int32)), .val (.int (1 : Int32)), .val (.int (g_a1f 1))] []))
  refine Go.step (fun t k => XS.aloadN X12.here hx rfl (hb hby d2_72) rfl rfl k) ?_
  show Go p e below _ (T12.setTop (mkF m 73 #[.val (.ref a1), .val (.int v10), .val (.ref b11), .val (.ref a1), .val (.int (3 : Int32)), .val (.int (1 : Int32)), .val (.int (g_a1f 1))] [(.ref b11)]))
  refine Go.step (fun t k => XS.iload X12.here hx rfl (hb hby d2_73) rfl k) ?_
  show Go p e below _ (T12.setTop (mkF m 75 #[.val (.ref a1), .val (.int v10), .val (.ref b11), .val (.ref a1), .val (.int (3 : Int32)), .val (.int (1 : Int32)), .val (.int (g_a1f 1))] [(.int (g_a1f 1)), (.ref b11)]))
  refine Go.step (fun t k => XS.bipush X12.here hx rfl (hb hby d2_75)  k) ?_
  show Go p e below _ (T12.setTop (mkF m 77 #[.val (.ref a1), .val (.int v10), .val (.ref b11), .val (.ref a1), .val (.int (3 : Int32)), .val (.int (1 : Int32)), .val (.int (g_a1f 1))] [(.int (32 : Int32)), (.int (g_a1f 1)), (.ref b11)]))
  refine Go.step (fun t k => XS.idiv X12.here hx rfl (hb hby d2_77) rfl (by decide) k) ?_
  show Go p e below _ (T12.setTop (mkF m 78 #[.val (.ref a1), .val (.int v10), .val (.ref b11), .val (.ref a1), .val (.int (3 : Int32)), .val (.int (1 : Int32)), .val (.int (g_a1f 1))] [(.int ((g_a1f 1) / (32 : Int32))), (.ref b11)]))
  refine Go.step (S' := T12.setTop (mkF m 79 #[.val (.ref a1), .val (.int v10), .val (.ref b11), .val (.ref a1), .val (.int (3 : Int32)), .val (.int (1 : Int32)), .val (.int (g_a1f 1))] [(.int ((g_a1f 1) / (32 : Int32))), (.ref b11), (.int ((g_a1f 1) / (32 : Int32))), (.ref b11)])) (fun t k => ?_) ?_
  · jvm_step X12.here [X12.here.top, hx, (hb hby d2_78), Value.category]
    exact k
  show Go p e below _ (T12.setTop (mkF m 79 #[.val (.ref a1), .val (.int v10), .val (.ref b11), .val (.ref a1), .val (.int (3 : Int32)), .val (.int (1 : Int32)), .val (.int (g_a1f 1))] [(.int ((g_a1f 1) / (32 : Int32))), (.ref b11), (.int ((g_a1f 1) / (32 : Int32))), (.ref b11)]))
  refine Go.step (ldI X12 hx hZ e12 A_b11_12 (j := ((g_a1f 1) / (32 : Int32))) ((by subst_vars; first | exact (Bit.at (Hi.max (Hi.max (Hi.max Hi.m1 hB0).1 hB1).1 hB2).1 hB0 (Int.le_trans (Int.le_trans (Hi.max Hi.m1 hB0).2.2 (Hi.max (Hi.max Hi.m1 hB0).1 hB1).2.1) (Hi.max (Hi.max (Hi.max Hi.m1 hB0).1 hB1).1 hB2).2.1)).1 | exact (Bit.at (Hi.max (Hi.max (Hi.max Hi.m1 hB0).1 hB1).1 hB2).1 hB1 (Int.le_trans (Hi.max (Hi.max Hi.m1 hB0).1 hB1).2.2 (Hi.max (Hi.max (Hi.max Hi.m1 hB0).1 hB1).1 hB2).2.1)).1 | exact (Bit.at (Hi.max (Hi.max (Hi.max Hi.m1 hB0).1 hB1).1 hB2).1 hB2 (Hi.max (Hi.max (Hi.max Hi.m1 hB0).1 hB1).1 hB2).2.2).1) : ¬ ((g_a1f 1) / (32 : Int32)) < 0) ((by subst_vars; first | exact (Bit.at (Hi.max (Hi.max (Hi.max Hi.m1 hB0).1 hB1).1 hB2).1 hB0 (Int.le_trans (Int.le_trans (Hi.max Hi.m1 hB0).2.2 (Hi.max (Hi.max Hi.m1 hB0).1 hB1).2.1) (Hi.max (Hi.max (Hi.max Hi.m1 hB0).1 hB1).1 hB2).2.1)).2 | exact (Bit.at (Hi.max (Hi.max (Hi.max Hi.m1 hB0).1 hB1).1 hB2).1 hB1 (Int.le_trans (Hi.max (Hi.max Hi.m1 hB0).1 hB1).2.2 (Hi.max (Hi.max (Hi.max Hi.m1 hB0).1 hB1).1 hB2).2.1)).2 | exact (Bit.at (Hi.max (Hi.max (Hi.max Hi.m1 hB0).1 hB1).1 hB2).1 hB2 (Hi.max (Hi.max (Hi.max Hi.m1 hB0).1 hB1).1 hB2).2.2).2) : ((g_a1f 1) / (32 : Int32)).toNatClampNeg < ((v10 + (32 : Int32)) / (32 : Int32)).toNatClampNeg) (g := (mkF m 79 #[.val (.ref a1), .val (.int v10), .val (.ref b11), .val (.ref a1), .val (.int (3 : Int32)), .val (.int (1 : Int32)), .val (.int (g_a1f 1))] [(.int ((g_a1f 1) / (32 : Int32))), (.ref b11), (.int ((g_a1f 1) / (32 : Int32))), (.ref b11)])) rfl rfl (hb hby d2_79)) ?_
  show Go p e below _ (T12.setTop (mkF m 80 #[.val (.ref a1), .val (.int v10), .val (.ref b11), .val (.ref a1), .val (.int (3 : Int32)), .val (.int (1 : Int32)), .val (.int (g_a1f 1))] [(.int ((orW (fun _ => (0 : Int32)) (g_a1f 0)) ((g_a1f 1) / (32 : Int32)).toNatClampNeg)), (.int ((g_a1f 1) / (32 : Int32))), (.ref b11)]))
  refine Go.step (fun t k => XS.iconst X12.here hx rfl (hb hby d2_80)  k) ?_
  show Go p e below _ (T12.setTop (mkF m 81 #[.val (.ref a1), .val (.int v10), .val (.ref b11), .val (.ref a1), .val (.int (3 : Int32)), .val (.int (1 : Int32)), .val (.int (g_a1f 1))] [(.int (1 : Int32)), (.int ((orW (fun _ => (0 : Int32)) (g_a1f 0)) ((g_a1f 1) / (32 : Int32)).toNatClampNeg)), (.int ((g_a1f 1) / (32 : Int32))), (.ref b11)]))
  refine Go.step (fun t k => XS.iload X12.here hx rfl (hb hby d2_81) rfl k) ?_
  show Go p e below _ (T12.setTop (mkF m 83 #[.val (.ref a1), .val (.int v10), .val (.ref b11), .val (.ref a1), .val (.int (3 : Int32)), .val (.int (1 : Int32)), .val (.int (g_a1f 1))] [(.int (g_a1f 1)), (.int (1 : Int32)), (.int ((orW (fun _ => (0 : Int32)) (g_a1f 0)) ((g_a1f 1) / (32 : Int32)).toNatClampNeg)), (.int ((g_a1f 1) / (32 : Int32))), (.ref b11)]))
  refine Go.step (fun t k => XS.bipush X12.here hx rfl (hb hby d2_83)  k) ?_
  show Go p e below _ (T12.setTop (mkF m 85 #[.val (.ref a1), .val (.int v10), .val (.ref b11), .val (.ref a1), .val (.int (3 : Int32)), .val (.int (1 : Int32)), .val (.int (g_a1f 1))] [(.int (32 : Int32)), (.int (g_a1f 1)), (.int (1 : Int32)), (.int ((orW (fun _ => (0 : Int32)) (g_a1f 0)) ((g_a1f 1) / (32 : Int32)).toNatClampNeg)), (.int ((g_a1f 1) / (32 : Int32))), (.ref b11)]))
  refine Go.step (fun t (k : Steps p.tables e below (T12.setTop (mkF m 86 #[.val (.ref a1), .val (.int v10), .val (.ref b11), .val (.ref a1), .val (.int (3 : Int32)), .val (.int (1 : Int32)), .val (.int (g_a1f 1))] [(.int ((g_a1f 1) % (32 : Int32))), (.int (1 : Int32)), (.int ((orW (fun _ => (0 : Int32)) (g_a1f 0)) ((g_a1f 1) / (32 : Int32)).toNatClampNeg)), (.int ((g_a1f 1) / (32 : Int32))), (.ref b11)])) t) => XS.irem X12.here hx rfl (hb hby d2_85) rfl (by decide) (by rw [remI]; exact k)) ?_
  show Go p e below _ (T12.setTop (mkF m 86 #[.val (.ref a1), .val (.int v10), .val (.ref b11), .val (.ref a1), .val (.int (3 : Int32)), .val (.int (1 : Int32)), .val (.int (g_a1f 1))] [(.int ((g_a1f 1) % (32 : Int32))), (.int (1 : Int32)), (.int ((orW (fun _ => (0 : Int32)) (g_a1f 0)) ((g_a1f 1) / (32 : Int32)).toNatClampNeg)), (.int ((g_a1f 1) / (32 : Int32))), (.ref b11)]))
  refine Go.step (fun t k => XS.ishl X12.here hx rfl (hb hby d2_86) rfl k) ?_
  show Go p e below _ (T12.setTop (mkF m 87 #[.val (.ref a1), .val (.int v10), .val (.ref b11), .val (.ref a1), .val (.int (3 : Int32)), .val (.int (1 : Int32)), .val (.int (g_a1f 1))] [(.int ((1 : Int32) <<< (((g_a1f 1) % (32 : Int32)) &&& 31))), (.int ((orW (fun _ => (0 : Int32)) (g_a1f 0)) ((g_a1f 1) / (32 : Int32)).toNatClampNeg)), (.int ((g_a1f 1) / (32 : Int32))), (.ref b11)]))
  refine Go.step (fun t k => XS.ior X12.here hx rfl (hb hby d2_87) rfl k) ?_
  show Go p e below _ (T12.setTop (mkF m 88 #[.val (.ref a1), .val (.int v10), .val (.ref b11), .val (.ref a1), .val (.int (3 : Int32)), .val (.int (1 : Int32)), .val (.int (g_a1f 1))] [(.int (((orW (fun _ => (0 : Int32)) (g_a1f 0)) ((g_a1f 1) / (32 : Int32)).toNatClampNeg) ||| ((1 : Int32) <<< (((g_a1f 1) % (32 : Int32)) &&& 31)))), (.int ((g_a1f 1) / (32 : Int32))), (.ref b11)]))
  obtain ⟨cl13, Ar13, in13, -⟩ := A_b11_12.hin (j := ((g_a1f 1) / (32 : Int32))) ((by subst_vars; first | exact (Bit.at (Hi.max (Hi.max (Hi.max Hi.m1 hB0).1 hB1).1 hB2).1 hB0 (Int.le_trans (Int.le_trans (Hi.max Hi.m1 hB0).2.2 (Hi.max (Hi.max Hi.m1 hB0).1 hB1).2.1) (Hi.max (Hi.max (Hi.max Hi.m1 hB0).1 hB1).1 hB2).2.1)).1 | exact (Bit.at (Hi.max (Hi.max (Hi.max Hi.m1 hB0).1 hB1).1 hB2).1 hB1 (Int.le_trans (Hi.max (Hi.max Hi.m1 hB0).1 hB1).2.2 (Hi.max (Hi.max (Hi.max Hi.m1 hB0).1 hB1).1 hB2).2.1)).1 | exact (Bit.at (Hi.max (Hi.max (Hi.max Hi.m1 hB0).1 hB1).1 hB2).1 hB2 (Hi.max (Hi.max (Hi.max Hi.m1 hB0).1 hB1).1 hB2).2.2).1) : ¬ ((g_a1f 1) / (32 : Int32)) < 0) ((by subst_vars; first | exact (Bit.at (Hi.max (Hi.max (Hi.max Hi.m1 hB0).1 hB1).1 hB2).1 hB0 (Int.le_trans (Int.le_trans (Hi.max Hi.m1 hB0).2.2 (Hi.max (Hi.max Hi.m1 hB0).1 hB1).2.1) (Hi.max (Hi.max (Hi.max Hi.m1 hB0).1 hB1).1 hB2).2.1)).2 | exact (Bit.at (Hi.max (Hi.max (Hi.max Hi.m1 hB0).1 hB1).1 hB2).1 hB1 (Int.le_trans (Hi.max (Hi.max Hi.m1 hB0).1 hB1).2.2 (Hi.max (Hi.max (Hi.max Hi.m1 hB0).1 hB1).1 hB2).2.1)).2 | exact (Bit.at (Hi.max (Hi.max (Hi.max Hi.m1 hB0).1 hB1).1 hB2).1 hB2 (Hi.max (Hi.max (Hi.max Hi.m1 hB0).1 hB1).1 hB2).2.2).2) : ((g_a1f 1) / (32 : Int32)).toNatClampNeg < ((v10 + (32 : Int32)) / (32 : Int32)).toNatClampNeg)
  obtain ⟨T13, h13, X13, e13, W13, st13⟩ := stI X12 hx hZ e12 Ar13 in13 (g := (mkF m 88 #[.val (.ref a1), .val (.int v10), .val (.ref b11), .val (.ref a1), .val (.int (3 : Int32)), .val (.int (1 : Int32)), .val (.int (g_a1f 1))] [(.int (((orW (fun _ => (0 : Int32)) (g_a1f 0)) ((g_a1f 1) / (32 : Int32)).toNatClampNeg) ||| ((1 : Int32) <<< (((g_a1f 1) % (32 : Int32)) &&& 31)))), (.int ((g_a1f 1) / (32 : Int32))), (.ref b11)])) rfl rfl (hb hby d2_88)
  refine Go.step st13 ?_
  have N13 := Fr.snoc X13 N12 g_b11
  have A_a1_13 := A_a1_12.other W13 ne_a1_b11
  have Z13 := Nat.le_trans Z12 (Keep.of_wr W13).1
  have KK13 : Keep h0 h13 [] := KK12.wr W13 (Or.inr sz_b11)
  have A_b11_13 : Ary Z h13 b11 .int ((v10 + (32 : Int32)) / (32 : Int32)).toNatClampNeg (fun i => .int ((orW (orW (fun _ => (0 : Int32)) (g_a1f 0)) (g_a1f 1)) i)) := A_b11_12.setI W13 ((by subst_vars; first | exact (Bit.at (Hi.max (Hi.max (Hi.max Hi.m1 hB0).1 hB1).1 hB2).1 hB0 (Int.le_trans (Int.le_trans (Hi.max Hi.m1 hB0).2.2 (Hi.max (Hi.max Hi.m1 hB0).1 hB1).2.1) (Hi.max (Hi.max (Hi.max Hi.m1 hB0).1 hB1).1 hB2).2.1)).2 | exact (Bit.at (Hi.max (Hi.max (Hi.max Hi.m1 hB0).1 hB1).1 hB2).1 hB1 (Int.le_trans (Hi.max (Hi.max Hi.m1 hB0).1 hB1).2.2 (Hi.max (Hi.max (Hi.max Hi.m1 hB0).1 hB1).1 hB2).2.1)).2 | exact (Bit.at (Hi.max (Hi.max (Hi.max Hi.m1 hB0).1 hB1).1 hB2).1 hB2 (Hi.max (Hi.max (Hi.max Hi.m1 hB0).1 hB1).1 hB2).2.2).2) : ((g_a1f 1) / (32 : Int32)).toNatClampNeg < ((v10 + (32 : Int32)) / (32 : Int32)).toNatClampNeg)
  show Go p e below _ (T13.setTop (mkF m 89 #[.val (.ref a1), .val (.int v10), .val (.ref b11), .val (.ref a1), .val (.int (3 : Int32)), .val (.int (1 : Int32)), .val (.int (g_a1f 1))] []))
  refine Go.step (fun t k => XS.iinc X13.here hx rfl (hb hby d2_89) rfl (l' := #[.val (.ref a1), .val (.int v10), .val (.ref b11), .val (.ref a1), .val (.int (3 : Int32)), .val (.int (2 : Int32)), .val (.int (g_a1f 1))]) rfl k) ?_
  show Go p e below _ (T13.setTop (mkF m 92 #[.val (.ref a1), .val (.int v10), .val (.ref b11), .val (.ref a1), .val (.int (3 : Int32)), .val (.int (2 : Int32)), .val (.int (g_a1f 1))] []))
  refine Go.step (fun t k => XS.goto X13.here hx rfl (pc0 := 92) (pc' := 59) rfl (hb hby d2_92) (by decide) (by decide) k) ?_
  show Go p e below _ (T13.setTop (mkF m 59 #[.val (.ref a1), .val (.int v10), .val (.ref b11), .val (.ref a1), .val (.int (3 : Int32)), .val (.int (2 : Int32)), .val (.int (g_a1f 1))] []))
  refine Go.step (fun t k => XS.iload X13.here hx rfl (hb hby d2_59) rfl k) ?_
  show Go p e below _ (T13.setTop (mkF m 61 #[.val (.ref a1), .val (.int v10), .val (.ref b11), .val (.ref a1), .val (.int (3 : Int32)), .val (.int (2 : Int32)), .val (.int (g_a1f 1))] [(.int (2 : Int32))]))
  refine Go.step (fun t k => XS.iload X13.here hx rfl (hb hby d2_61) rfl k) ?_
  show Go p e below _ (T13.setTop (mkF m 63 #[.val (.ref a1), .val (.int v10), .val (.ref b11), .val (.ref a1), .val (.int (3 : Int32)), .val (.int (2 : Int32)), .val (.int (g_a1f 1))] [(.int (3 : Int32)), (.int (2 : Int32))]))
  refine Go.step (fun t k => XS.icmpNo X13.here hx rfl (hb hby d2_63) rfl (tlt (by decide : (2 : Int32) < (3 : Int32))).2.1 k) ?_
  show Go p e below _ (T13.setTop (mkF m 66 #[.val (.ref a1), .val (.int v10), .val (.ref b11), .val (.ref a1), .val (.int (3 : Int32)), .val (.int (2 : Int32)), .val (.int (g_a1f 1))] []))
  refine Go.step (fun t k => XS.aloadN X13.here hx rfl (hb hby d2_66) rfl rfl k) ?_
  show Go p e below _ (T13.setTop (mkF m 67 #[.val (.ref a1), .val (.int v10), .val (.ref b11), .val (.ref a1), .val (.int (3 : Int32)), .val (.int (2 : Int32)), .val (.int (g_a1f 1))] [(.ref a1)]))
  refine Go.step (fun t k => XS.iload X13.here hx rfl (hb hby d2_67) rfl k) ?_
  show Go p e below _ (T13.setTop (mkF m 69 #[.val (.ref a1), .val (.int v10), .val (.ref b11), .val (.ref a1), .val (.int (3 : Int32)), .val (.int (2 : Int32)), .val (.int (g_a1f 1))] [(.int (2 : Int32)), (.ref a1)]))
  refine Go.step (ldI X13 hx hZ e13 A_a1_13 (j := (2 : Int32)) (by decide) (by decide) (g := (mkF m 69 #[.val (.ref a1), .val (.int v10), .val (.ref b11), .val (.ref a1), .val (.int (3 : Int32)), .val (.int (2 : Int32)), .val (.int (g_a1f 1))] [(.int (2 : Int32)), (.ref a1)])) rfl rfl (hb hby d2_69)) ?_
  show Go p e below _ (T13.setTop (mkF m 70 #[.val (.ref a1), .val (.int v10), .val (.ref b11), .val (.ref a1), .val (.int (3 : Int32)), .val (.int (2 : Int32)), .val (.int (g_a1f 1))] [(.int (g_a1f 2))]))
  refine Go.step (fun t k => XS.istore X13.here hx rfl (hb hby d2_70) rfl (l' := #[.val (.ref a1), .val (.int v10), .val (.ref b11), .val (.ref a1), .val (.int (3 : Int32)), .val (.int (2 : Int32)), .val (.int (g_a1f 2))]) rfl k) ?_
  show Go p e below _ (T13.setTop (mkF m 72 #[.val (.ref a1), .val (.int v10), .val (.ref b11), .val (.ref a1), .val (.int (3 : Int32)), .val (.int (2 : Int32)), .val (.int (g_a1f 2))] []))
  refine Go.step (fun t k => XS.aloadN X13.here hx rfl (hb hby d2_72) rfl rfl k) ?_
  show Go p e below _ (T13.setTop (mkF m 73 #[.val (.ref a1), .val (.int v10), .val (.ref b11), .val (.ref a1), .val (.int (3 : Int32)), .val (.int (2 : Int32)), .val (.int (g_a1f 2))] [(.ref b11)]))
  refine Go.step (fun t k => XS.iload X13.here hx rfl (hb hby d2_73) rfl k) ?_
  show Go p e below _ (T13.setTop (mkF m 75 #[.val (.ref a1), .val (.int v10), .val (.ref b11), .val (.ref a1), .val (.int (3 : Int32)), .val (.int (2 : Int32)), .val (.int (g_a1f 2))] [(.int (g_a1f 2)), (.ref b11)]))
  refine Go.step (fun t k => XS.bipush X13.here hx rfl (hb hby d2_75)  k) ?_
  show Go p e below _ (T13.setTop (mkF m 77 #[.val (.ref a1), .val (.int v10), .val (.ref b11), .val (.ref a1), .val (.int (3 : Int32)), .val (.int (2 : Int32)), .val (.int (g_a1f 2))] [(.int (32 : Int32)), (.int (g_a1f 2)), (.ref b11)]))
  refine Go.step (fun t k => XS.idiv X13.here hx rfl (hb hby d2_77) rfl (by decide) k) ?_
  show Go p e below _ (T13.setTop (mkF m 78 #[.val (.ref a1), .val (.int v10), .val (.ref b11), .val (.ref a1), .val (.int (3 : Int32)), .val (.int (2 : Int32)), .val (.int (g_a1f 2))] [(.int ((g_a1f 2) / (32 : Int32))), (.ref b11)]))
  refine Go.step (S' := T13.setTop (mkF m 79 #[.val (.ref a1), .val (.int v10), .val (.ref b11), .val (.ref a1), .val (.int (3 : Int32)), .val (.int (2 : Int32)), .val (.int (g_a1f 2))] [(.int ((g_a1f 2) / (32 : Int32))), (.ref b11), (.int ((g_a1f 2) / (32 : Int32))), (.ref b11)])) (fun t k => ?_) ?_
  · jvm_step X13.here [X13.here.top, hx, (hb hby d2_78), Value.category]
    exact k
  show Go p e below _ (T13.setTop (mkF m 79 #[.val (.ref a1), .val (.int v10), .val (.ref b11), .val (.ref a1), .val (.int (3 : Int32)), .val (.int (2 : Int32)), .val (.int (g_a1f 2))] [(.int ((g_a1f 2) / (32 : Int32))), (.ref b11), (.int ((g_a1f 2) / (32 : Int32))), (.ref b11)]))
  refine Go.step (ldI X13 hx hZ e13 A_b11_13 (j := ((g_a1f 2) / (32 : Int32))) ((by subst_vars; first | exact (Bit.at (Hi.max (Hi.max (Hi.max Hi.m1 hB0).1 hB1).1 hB2).1 hB0 (Int.le_trans (Int.le_trans (Hi.max Hi.m1 hB0).2.2 (Hi.max (Hi.max Hi.m1 hB0).1 hB1).2.1) (Hi.max (Hi.max (Hi.max Hi.m1 hB0).1 hB1).1 hB2).2.1)).1 | exact (Bit.at (Hi.max (Hi.max (Hi.max Hi.m1 hB0).1 hB1).1 hB2).1 hB1 (Int.le_trans (Hi.max (Hi.max Hi.m1 hB0).1 hB1).2.2 (Hi.max (Hi.max (Hi.max Hi.m1 hB0).1 hB1).1 hB2).2.1)).1 | exact (Bit.at (Hi.max (Hi.max (Hi.max Hi.m1 hB0).1 hB1).1 hB2).1 hB2 (Hi.max (Hi.max (Hi.max Hi.m1 hB0).1 hB1).1 hB2).2.2).1) : ¬ ((g_a1f 2) / (32 : Int32)) < 0) ((by subst_vars; first | exact (Bit.at (Hi.max (Hi.max (Hi.max Hi.m1 hB0).1 hB1).1 hB2).1 hB0 (Int.le_trans (Int.le_trans (Hi.max Hi.m1 hB0).2.2 (Hi.max (Hi.max Hi.m1 hB0).1 hB1).2.1) (Hi.max (Hi.max (Hi.max Hi.m1 hB0).1 hB1).1 hB2).2.1)).2 | exact (Bit.at (Hi.max (Hi.max (Hi.max Hi.m1 hB0).1 hB1).1 hB2).1 hB1 (Int.le_trans (Hi.max (Hi.max Hi.m1 hB0).1 hB1).2.2 (Hi.max (Hi.max (Hi.max Hi.m1 hB0).1 hB1).1 hB2).2.1)).2 | exact (Bit.at (Hi.max (Hi.max (Hi.max Hi.m1 hB0).1 hB1).1 hB2).1 hB2 (Hi.max (Hi.max (Hi.max Hi.m1 hB0).1 hB1).1 hB2).2.2).2) : ((g_a1f 2) / (32 : Int32)).toNatClampNeg < ((v10 + (32 : Int32)) / (32 : Int32)).toNatClampNeg) (g := (mkF m 79 #[.val (.ref a1), .val (.int v10), .val (.ref b11), .val (.ref a1), .val (.int (3 : Int32)), .val (.int (2 : Int32)), .val (.int (g_a1f 2))] [(.int ((g_a1f 2) / (32 : Int32))), (.ref b11), (.int ((g_a1f 2) / (32 : Int32))), (.ref b11)])) rfl rfl (hb hby d2_79)) ?_
  show Go p e below _ (T13.setTop (mkF m 80 #[.val (.ref a1), .val (.int v10), .val (.ref b11), .val (.ref a1), .val (.int (3 : Int32)), .val (.int (2 : Int32)), .val (.int (g_a1f 2))] [(.int ((orW (orW (fun _ => (0 : Int32)) (g_a1f 0)) (g_a1f 1)) ((g_a1f 2) / (32 : Int32)).toNatClampNeg)), (.int ((g_a1f 2) / (32 : Int32))), (.ref b11)]))
  refine Go.step (fun t k => XS.iconst X13.here hx rfl (hb hby d2_80)  k) ?_
  show Go p e below _ (T13.setTop (mkF m 81 #[.val (.ref a1), .val (.int v10), .val (.ref b11), .val (.ref a1), .val (.int (3 : Int32)), .val (.int (2 : Int32)), .val (.int (g_a1f 2))] [(.int (1 : Int32)), (.int ((orW (orW (fun _ => (0 : Int32)) (g_a1f 0)) (g_a1f 1)) ((g_a1f 2) / (32 : Int32)).toNatClampNeg)), (.int ((g_a1f 2) / (32 : Int32))), (.ref b11)]))
  refine Go.step (fun t k => XS.iload X13.here hx rfl (hb hby d2_81) rfl k) ?_
  show Go p e below _ (T13.setTop (mkF m 83 #[.val (.ref a1), .val (.int v10), .val (.ref b11), .val (.ref a1), .val (.int (3 : Int32)), .val (.int (2 : Int32)), .val (.int (g_a1f 2))] [(.int (g_a1f 2)), (.int (1 : Int32)), (.int ((orW (orW (fun _ => (0 : Int32)) (g_a1f 0)) (g_a1f 1)) ((g_a1f 2) / (32 : Int32)).toNatClampNeg)), (.int ((g_a1f 2) / (32 : Int32))), (.ref b11)]))
  refine Go.step (fun t k => XS.bipush X13.here hx rfl (hb hby d2_83)  k) ?_
  show Go p e below _ (T13.setTop (mkF m 85 #[.val (.ref a1), .val (.int v10), .val (.ref b11), .val (.ref a1), .val (.int (3 : Int32)), .val (.int (2 : Int32)), .val (.int (g_a1f 2))] [(.int (32 : Int32)), (.int (g_a1f 2)), (.int (1 : Int32)), (.int ((orW (orW (fun _ => (0 : Int32)) (g_a1f 0)) (g_a1f 1)) ((g_a1f 2) / (32 : Int32)).toNatClampNeg)), (.int ((g_a1f 2) / (32 : Int32))), (.ref b11)]))
  refine Go.step (fun t (k : Steps p.tables e below (T13.setTop (mkF m 86 #[.val (.ref a1), .val (.int v10), .val (.ref b11), .val (.ref a1), .val (.int (3 : Int32)), .val (.int (2 : Int32)), .val (.int (g_a1f 2))] [(.int ((g_a1f 2) % (32 : Int32))), (.int (1 : Int32)), (.int ((orW (orW (fun _ => (0 : Int32)) (g_a1f 0)) (g_a1f 1)) ((g_a1f 2) / (32 : Int32)).toNatClampNeg)), (.int ((g_a1f 2) / (32 : Int32))), (.ref b11)])) t) => XS.irem X13.here hx rfl (hb hby d2_85) rfl (by decide) (by rw [remI]; exact k)) ?_
  show Go p e below _ (T13.setTop (mkF m 86 #[.val (.ref a1), .val (.int v10), .val (.ref b11), .val (.ref a1), .val (.int (3 : Int32)), .val (.int (2 : Int32)), .val (.int (g_a1f 2))] [(.int ((g_a1f 2) % (32 : Int32))), (.int (1 : Int32)), (.int ((orW (orW (fun _ => (0 : Int32)) (g_a1f 0)) (g_a1f 1)) ((g_a1f 2) / (32 : Int32)).toNatClampNeg)), (.int ((g_a1f 2) / (32 : Int32))), (.ref b11)]))
  refine Go.step (fun t k => XS.ishl X13.here hx rfl (hb hby d2_86) rfl k) ?_
  show Go p e below _ (T13.setTop (mkF m 87 #[.val (.ref a1), .val (.int v10), .val (.ref b11), .val (.ref a1), .val (.int (3 : Int32)), .val (.int (2 : Int32)), .val (.int (g_a1f 2))] [(.int ((1 : Int32) <<< (((g_a1f 2) % (32 : Int32)) &&& 31))), (.int ((orW (orW (fun _ => (0 : Int32)) (g_a1f 0)) (g_a1f 1)) ((g_a1f 2) / (32 : Int32)).toNatClampNeg)), (.int ((g_a1f 2) / (32 : Int32))), (.ref b11)]))
  refine Go.step (fun t k => XS.ior X13.here hx rfl (hb hby d2_87) rfl k) ?_
  show Go p e below _ (T13.setTop (mkF m 88 #[.val (.ref a1), .val (.int v10), .val (.ref b11), .val (.ref a1), .val (.int (3 : Int32)), .val (.int (2 : Int32)), .val (.int (g_a1f 2))] [(.int (((orW (orW (fun _ => (0 : Int32)) (g_a1f 0)) (g_a1f 1)) ((g_a1f 2) / (32 : Int32)).toNatClampNeg) ||| ((1 : Int32) <<< (((g_a1f 2) % (32 : Int32)) &&& 31)))), (.int ((g_a1f 2) / (32 : Int32))), (.ref b11)]))
  obtain ⟨cl14, Ar14, in14, -⟩ := A_b11_13.hin (j := ((g_a1f 2) / (32 : Int32))) ((by subst_vars; first | exact (Bit.at (Hi.max (Hi.max (Hi.max Hi.m1 hB0).1 hB1).1 hB2).1 hB0 (Int.le_trans (Int.le_trans (Hi.max Hi.m1 hB0).2.2 (Hi.max (Hi.max Hi.m1 hB0).1 hB1).2.1) (Hi.max (Hi.max (Hi.max Hi.m1 hB0).1 hB1).1 hB2).2.1)).1 | exact (Bit.at (Hi.max (Hi.max (Hi.max Hi.m1 hB0).1 hB1).1 hB2).1 hB1 (Int.le_trans (Hi.max (Hi.max Hi.m1 hB0).1 hB1).2.2 (Hi.max (Hi.max (Hi.max Hi.m1 hB0).1 hB1).1 hB2).2.1)).1 | exact (Bit.at (Hi.max (Hi.max (Hi.max Hi.m1 hB0).1 hB1).1 hB2).1 hB2 (Hi.max (Hi.max (Hi.max Hi.m1 hB0).1 hB1).1 hB2).2.2).1) : ¬ ((g_a1f 2) / (32 : Int32)) < 0) ((by subst_vars; first | exact (Bit.at (Hi.max (Hi.max (Hi.max Hi.m1 hB0).1 hB1).1 hB2).1 hB0 (Int.le_trans (Int.le_trans (Hi.max Hi.m1 hB0).2.2 (Hi.max (Hi.max Hi.m1 hB0).1 hB1).2.1) (Hi.max (Hi.max (Hi.max Hi.m1 hB0).1 hB1).1 hB2).2.1)).2 | exact (Bit.at (Hi.max (Hi.max (Hi.max Hi.m1 hB0).1 hB1).1 hB2).1 hB1 (Int.le_trans (Hi.max (Hi.max Hi.m1 hB0).1 hB1).2.2 (Hi.max (Hi.max (Hi.max Hi.m1 hB0).1 hB1).1 hB2).2.1)).2 | exact (Bit.at (Hi.max (Hi.max (Hi.max Hi.m1 hB0).1 hB1).1 hB2).1 hB2 (Hi.max (Hi.max (Hi.max Hi.m1 hB0).1 hB1).1 hB2).2.2).2) : ((g_a1f 2) / (32 : Int32)).toNatClampNeg < ((v10 + (32 : Int32)) / (32 : Int32)).toNatClampNeg)
  obtain ⟨T14, h14, X14, e14, W14, st14⟩ := stI X13 hx hZ e13 Ar14 in14 (g := (mkF m 88 #[.val (.ref a1), .val (.int v10), .val (.ref b11), .val (.ref a1), .val (.int (3 : Int32)), .val (.int (2 : Int32)), .val (.int (g_a1f 2))] [(.int (((orW (orW (fun _ => (0 : Int32)) (g_a1f 0)) (g_a1f 1)) ((g_a1f 2) / (32 : Int32)).toNatClampNeg) ||| ((1 : Int32) <<< (((g_a1f 2) % (32 : Int32)) &&& 31)))), (.int ((g_a1f 2) / (32 : Int32))), (.ref b11)])) rfl rfl (hb hby d2_88)
  refine Go.step st14 ?_
  have N14 := Fr.snoc X14 N13 g_b11
  have A_a1_14 := A_a1_13.other W14 ne_a1_b11
  have Z14 := Nat.le_trans Z13 (Keep.of_wr W14).1
  have KK14 : Keep h0 h14 [] := KK13.wr W14 (Or.inr sz_b11)
  have A_b11_14 : Ary Z h14 b11 .int ((v10 + (32 : Int32)) / (32 : Int32)).toNatClampNeg (fun i => .int ((orW (orW (orW (fun _ => (0 : Int32)) (g_a1f 0)) (g_a1f 1)) (g_a1f 2)) i)) := A_b11_13.setI W14 ((by subst_vars; first | exact (Bit.at (Hi.max (Hi.max (Hi.max Hi.m1 hB0).1 hB1).1 hB2).1 hB0 (Int.le_trans (Int.le_trans (Hi.max Hi.m1 hB0).2.2 (Hi.max (Hi.max Hi.m1 hB0).1 hB1).2.1) (Hi.max (Hi.max (Hi.max Hi.m1 hB0).1 hB1).1 hB2).2.1)).2 | exact (Bit.at (Hi.max (Hi.max (Hi.max Hi.m1 hB0).1 hB1).1 hB2).1 hB1 (Int.le_trans (Hi.max (Hi.max Hi.m1 hB0).1 hB1).2.2 (Hi.max (Hi.max (Hi.max Hi.m1 hB0).1 hB1).1 hB2).2.1)).2 | exact (Bit.at (Hi.max (Hi.max (Hi.max Hi.m1 hB0).1 hB1).1 hB2).1 hB2 (Hi.max (Hi.max (Hi.max Hi.m1 hB0).1 hB1).1 hB2).2.2).2) : ((g_a1f 2) / (32 : Int32)).toNatClampNeg < ((v10 + (32 : Int32)) / (32 : Int32)).toNatClampNeg)
  show Go p e below _ (T14.setTop (mkF m 89 #[.val (.ref a1), .val (.int v10), .val (.ref b11), .val (.ref a1), .val (.int (3 : Int32)), .val (.int (2 : Int32)), .val (.int (g_a1f 2))] []))
  refine Go.step (fun t k => XS.iinc X14.here hx rfl (hb hby d2_89) rfl (l' := #[.val (.ref a1), .val (.int v10), .val (.ref b11), .val (.ref a1), .val (.int (3 : Int32)), .val (.int (3 : Int32)), .val (.int (g_a1f 2))]) rfl k) ?_
  show Go p e below _ (T14.setTop (mkF m 92 #[.val (.ref a1), .val (.int v10), .val (.ref b11), .val (.ref a1), .val (.int (3 : Int32)), .val (.int (3 : Int32)), .val (.int (g_a1f 2))] []))
  refine Go.step (fun t k => XS.goto X14.here hx rfl (pc0 := 92) (pc' := 59) rfl (hb hby d2_92) (by decide) (by decide) k) ?_
  show Go p e below _ (T14.setTop (mkF m 59 #[.val (.ref a1), .val (.int v10), .val (.ref b11), .val (.ref a1), .val (.int (3 : Int32)), .val (.int (3 : Int32)), .val (.int (g_a1f 2))] []))
  refine Go.step (fun t k => XS.iload X14.here hx rfl (hb hby d2_59) rfl k) ?_
  show Go p e below _ (T14.setTop (mkF m 61 #[.val (.ref a1), .val (.int v10), .val (.ref b11), .val (.ref a1), .val (.int (3 : Int32)), .val (.int (3 : Int32)), .val (.int (g_a1f 2))] [(.int (3 : Int32))]))
  refine Go.step (fun t k => XS.iload X14.here hx rfl (hb hby d2_61) rfl k) ?_
  show Go p e below _ (T14.setTop (mkF m 63 #[.val (.ref a1), .val (.int v10), .val (.ref b11), .val (.ref a1), .val (.int (3 : Int32)), .val (.int (3 : Int32)), .val (.int (g_a1f 2))] [(.int (3 : Int32)), (.int (3 : Int32))]))
  refine Go.step (fun t k => XS.icmpYes X14.here hx rfl (pc0 := 63) (pc' := 95) rfl (hb hby d2_63) rfl (flt (by decide : ¬ ((3 : Int32) < (3 : Int32)))).2.1 (by decide) (by decide) k) ?_
  show Go p e below _ (T14.setTop (mkF m 95 #[.val (.ref a1), .val (.int v10), .val (.ref b11), .val (.ref a1), .val (.int (3 : Int32)), .val (.int (3 : Int32)), .val (.int (g_a1f 2))] []))
  obtain ⟨T15, h15, X15, e15, E15, A15, D15, -, st15⟩ := newO X14 hx hZ hown (hw _ (List.mem_of_getElem? (i := 9) rfl)) (hw _ (List.mem_of_getElem? (i := 10) rfl)) (hw _ (List.mem_of_getElem? (i := 7) rfl)) e14 (g := (mkF m 95 #[.val (.ref a1), .val (.int v10), .val (.ref b11), .val (.ref a1), .val (.int (3 : Int32)), .val (.int (3 : Int32)), .val (.int (g_a1f 2))] [])) rfl (hb hby d2_95) (by decide) (by decide)
  obtain ⟨b15, g15⟩ : ∃ z, z = h14.size := ⟨_, rfl⟩
  rw [← g15] at A15 D15 st15
  have g_b15 : n0 ≤ b15 := Nat.le_trans Z14 (Nat.le_of_eq g15.symm)
  have sz_b15 : h0.size ≤ b15 := Nat.le_trans KK14.1 (Nat.le_of_eq g15.symm)
  have ne_a1_b15 : a1 ≠ b15 := Nat.ne_of_lt (Nat.lt_of_lt_of_le A_a1_14.lt (Nat.le_of_eq g15.symm))
  have ne_b11_b15 : b11 ≠ b15 := Nat.ne_of_lt (Nat.lt_of_lt_of_le A_b11_14.lt (Nat.le_of_eq g15.symm))
  refine Go.step st15 ?_
  have A_a1_15 := A_a1_14.ext E15
  have A_b11_15 := A_b11_14.ext E15
  have Z15 := Nat.le_trans Z14 E15.1
  have KK15 : Keep h0 h15 [] := KK14.ext E15
  have F_words_b15 : Fld Z h15 b15 "com/example/menshen/menshen/core/PermissionSet" "words" "[I" .null := D15 (Or.inr (hw _ (List.mem_of_getElem? (i := 18) rfl))) (ty := (.array .int)) (by decide)
  show Go p e below _ (T15.setTop (mkF m 98 #[.val (.ref a1), .val (.int v10), .val (.ref b11), .val (.ref a1), .val (.int (3 : Int32)), .val (.int (3 : Int32)), .val (.int (g_a1f 2))] [(.ref b15)]))
  refine Go.step (fun t k => XS.dup X15.here hx rfl (hb hby d2_98) rfl rfl k) ?_
  show Go p e below _ (T15.setTop (mkF m 99 #[.val (.ref a1), .val (.int v10), .val (.ref b11), .val (.ref a1), .val (.int (3 : Int32)), .val (.int (3 : Int32)), .val (.int (g_a1f 2))] [(.ref b15), (.ref b15)]))
  refine Go.step (fun t k => XS.aloadN X15.here hx rfl (hb hby d2_99) rfl rfl k) ?_
  show Go p e below _ (T15.setTop (mkF m 100 #[.val (.ref a1), .val (.int v10), .val (.ref b11), .val (.ref a1), .val (.int (3 : Int32)), .val (.int (3 : Int32)), .val (.int (g_a1f 2))] [(.ref b11), (.ref b15), (.ref b15)]))
  obtain ⟨_, _, ⟨T16, L16, k16, n16⟩, -, X16, ⟨Lc16, hQ16, l16, y16, z16⟩, st16⟩ := X15.specialBack hx (y := (⟨"com/example/menshen/menshen/core/PermissionSet", "<init>", "([I)V"⟩ : MethodName)) rfl hown (mvT hZ (hw _ (List.mem_of_getElem? (i := 11) rfl))) (mvT hZ (hw _ (List.mem_of_getElem? (i := 12) rfl))) (mvT hZ (hw _ (List.mem_of_getElem? (i := 13) rfl))) (by decide) (backOf (W := 1) (rm3 l Z a0 hw [] b15 b11 .null h15 n0 Z15 A15 F_words_b15 g_b15) hZ (hw _ (List.mem_of_getElem? (i := 13) rfl)) (hw _ (List.mem_of_getElem? (i := 7) rfl)) (by decide) (by decide)) (g := (mkF m 100 #[.val (.ref a1), .val (.int v10), .val (.ref b11), .val (.ref a1), .val (.int (3 : Int32)), .val (.int (3 : Int32)), .val (.int (g_a1f 2))] [(.ref b11), (.ref b15), (.ref b15)])) rfl (by rw [hml]; rfl) (Steps.refl _) (a := b15) (argsL := [(.ref b11)]) (rest := [(.ref b15)]) (lenOf pd_0 rfl) rfl (by show 2 * 0 + _ ≤ _; exact Nat.le_of_eq rfl) (hb hby d2_100) (fun _ _ => ⟨rfl, e15, (by decide : 2 + 0 ≤ _), (by decide : 129 + 0 ≤ _)⟩)
  dsimp only [Pt.U, Pt.locs, Pt.cells, Pt.slots] at X16 l16 y16 z16 st16 hQ16
  subst l16 y16 z16
  obtain ⟨rfl, N16q, K16, Q16_0, Q16_1⟩ := hQ16
  have N16 := Fr.app N14 N16q
  have A_a1_16 := A_a1_15.keep K16 (ninS ne_a1_b15 nin0)
  have A_b11_16 := A_b11_15.keep K16 (ninS ne_b11_b15 nin0)
  have E_b15_16 := A15.keep K16
  have Z16 := Nat.le_trans Z15 K16.1
  have KK16 : Keep h0 T16.heap [] := KK15.trans K16 (allS (Or.inr sz_b15) all0)
  refine Go.trans st16 ?_
  show Go p e below _ (T16.setTop (mkF m 103 #[.val (.ref a1), .val (.int v10), .val (.ref b11), .val (.ref a1), .val (.int (3 : Int32)), .val (.int (3 : Int32)), .val (.int (g_a1f 2))] [(.ref b15)]))
  subst hv10
  subst hv7
  subst hv4
  refine retGR X16 hx Bd.notSynchronized Bd.returns rfl rfl (hb hby d2_103) ?_ (by decide) (by decide)
  show Q2_3 Z a1 g_a1f h0 n0 _ T16.heap _
  exact ⟨b15, b11, rfl, N16, KK16, sz_b15, sz_b11, A_b11_16, Q16_0, Q16_1⟩
theorem d1_0 : decode method_2_code 0 = .ok (.iload_n 0, 1) := by decide +kernel
theorem d1_1 : decode method_2_code 1 = .ok (.ifCond .ne 10, 3) := by decide +kernel
theorem d1_4 : decode method_2_code 4 = .ok (.iconst 0, 1) := by decide +kernel
theorem d1_5 : decode method_2_code 5 = .ok (.newarray .int, 2) := by decide +kernel
theorem d1_7 : decode method_2_code 7 = .ok (.invokestatic 7, 3) := by decide +kernel
theorem pd_3 : parseMethodDescriptor "([I)Lcom/example/menshen/menshen/core/PermissionSet;" = some ⟨[(.array .int)], some (.object "com/example/menshen/menshen/core/PermissionSet")⟩ := by decide +kernel
theorem d1_10 : decode method_2_code 10 = .ok (.areturn, 1) := by decide +kernel
theorem ef_1_0 (m : MethodId) (p2 : Int32) (p3 : Int32) (p4 : Int32) : entryFrame m #[(.int (0 : Int32)), (.int p2), (.int p3), (.int p4)] 4 = mkF m 0 #[.val (.int (0 : Int32)), .val (.int p2), .val (.int p3), .val (.int p4)] [] := by first | (simp [entryFrame, mkF, argsToLocals, Value.category]; done) | rfl
theorem pn_2 : plainName "com/example/menshen/menshen/core/PermissionSetOfPinLaw" = true := by first | (simp [plainName, overriddenIn]; done) | decide +kernel
def Q1_0 (Z : State) (p2 : Int32) (p3 : Int32) (p4 : Int32) (h0 : Heap) (n0 : Nat) (v : Option Value) (h : Heap) (L : List Loc) : Prop := ∃ (b6_0 : Addr) (b6_1 : Addr), v = some (.ref b6_0) ∧ Fr n0 L ∧ Keep h0 h [] ∧ h0.size ≤ b6_0 ∧ h0.size ≤ b6_1 ∧ Ary Z h b6_1 .int 0 (fun i => .int ((fun _ => (0 : Int32)) i)) ∧ Exa Z h b6_0 "com/example/menshen/menshen/core/PermissionSet" ∧ Fld Z h b6_0 "com/example/menshen/menshen/core/PermissionSet" "words" "[I" (.ref b6_1)
set_option maxRecDepth 65536 in
set_option maxHeartbeats 40000000 in
theorem rm1_0 (l : Launch) (Z : State) (a0 : Array Value) (hw : ∀ d ∈ tables_1, d.before a0 Z = true) (ws : List Jvm.Cond) (p2 : Int32) (p3 : Int32) (p4 : Int32) (h0 : Heap) (n0 : Nat) (Z0 : n0 ≤ h0.size) :
    MetFree l (⟨"com/example/menshen/menshen/core/PermissionSetOfPinLaw", "build", "(IIII)Lcom/example/menshen/menshen/core/PermissionSet;"⟩ : MethodName) (head1 (Jvm.Cond.code (⟨"com/example/menshen/menshen/core/PermissionSetOfPinLaw", "build", "(IIII)Lcom/example/menshen/menshen/core/PermissionSet;"⟩ : MethodName) method_2_code 4 (some (.object "com/example/menshen/menshen/core/PermissionSet")) :: ws) ({ frames := 3, cells := 3, slots := 1, locals := 44 } : Room)) (fun a U => a = #[(.int (0 : Int32)), (.int p2), (.int p3), (.int p4)] ∧ Z.Warmed39 U.vm ∧ U.heap = h0) (fun _ _ _ _ _ => True) (fun _ U o U' => ∃ v L, o = .returned v ∧ Q1_0 Z p2 p3 p4 h0 n0 v U'.heap L ∧ FrameEnd U o U' L ({ frames := 3, cells := 3, slots := 1, locals := 44 } : Room).cells ({ frames := 3, cells := 3, slots := 1, locals := 44 } : Room).slots) := by
  refine MetFree.of_bodySF (plainFor_of_name pn_2) hisR ?_
  intro p e s m args below meth c s₁ Bd hml0 hP hK
  obtain ⟨rfl, hZ, hh⟩ := hP
  have hx := Bd.exec
  have hby := Bd.bytes
  have hml : c.maxLocals = 4 := hml0
  have hown : s.vm.findClass "com/example/menshen/menshen/core/PermissionSetOfPinLaw" = some m.cls := findClass_of_methodNamed Bd.named
  have hnm := (name_of_methodNamed Bd.named Bd.method).1
  have X0 : Stand p l e ({ frames := 3, cells := 3, slots := 1, locals := 44 } : Room) s m #[(.int (0 : Int32)), (.int p2), (.int p3), (.int p4)] below meth c s₁ [] 0 0 := Stand.of_body Bd
  have e0 : s₁.heap = h0 := by rw [← hh, Bd.state]; rfl
  have N0 := Fr.nil n0
  refine Go.done (Go.step (fun t k => castTop (ef_1_0 m p2 p3 p4) k) ?_)
  have KK0 : Keep h0 h0 [] := Keep.refl _ _
  show Go p e below _ (s₁.setTop (mkF m 0 #[.val (.int (0 : Int32)), .val (.int p2), .val (.int p3), .val (.int p4)] []))
  refine Go.step (fun t k => XS.iloadN X0.here hx rfl (hb hby d1_0) rfl k) ?_
  show Go p e below _ (s₁.setTop (mkF m 1 #[.val (.int (0 : Int32)), .val (.int p2), .val (.int p3), .val (.int p4)] [(.int (0 : Int32))]))
  refine Go.step (fun t k => XS.ifNo X0.here hx rfl (hb hby d1_1) rfl ((if0 _ _).trans (teq (by decide : (0 : Int32) = (0 : Int32))).2) k) ?_
  show Go p e below _ (s₁.setTop (mkF m 4 #[.val (.int (0 : Int32)), .val (.int p2), .val (.int p3), .val (.int p4)] []))
  refine Go.step (fun t k => XS.iconst X0.here hx rfl (hb hby d1_4)  k) ?_
  show Go p e below _ (s₁.setTop (mkF m 5 #[.val (.int (0 : Int32)), .val (.int p2), .val (.int p3), .val (.int p4)] [(.int (0 : Int32))]))
  obtain ⟨T5, h5, k5, X5, e5, E5, A5, st5⟩ := newP X0 hx hZ (hw _ (List.mem_of_getElem? (i := 4) rfl)) e0 (g := (mkF m 5 #[.val (.int (0 : Int32)), .val (.int p2), .val (.int p3), .val (.int p4)] [(.int (0 : Int32))])) rfl (hb hby d1_5) rfl (by decide) (cap := 0) (by decide) (by decide) (by decide) (by decide)
  obtain ⟨b5, g5⟩ : ∃ z, z = h0.size := ⟨_, rfl⟩
  rw [← g5] at A5 st5
  have g_b5 : n0 ≤ b5 := Nat.le_trans Z0 (Nat.le_of_eq g5.symm)
  have sz_b5 : h0.size ≤ b5 := Nat.le_trans KK0.1 (Nat.le_of_eq g5.symm)
  refine Go.step st5 ?_
  have Z5 := Nat.le_trans Z0 E5.1
  have KK5 : Keep h0 h5 [] := KK0.ext E5
  have A_b5_5 : Ary Z h5 b5 .int 0 (fun i => .int ((fun _ => (0 : Int32)) i)) := Ary.mk A5 (by decide) (by decide)
  show Go p e below _ (T5.setTop (mkF m 7 #[.val (.int (0 : Int32)), .val (.int p2), .val (.int p3), .val (.int p4)] [(.ref b5)]))
  obtain ⟨_, _, ⟨T6, L6, k6, n6⟩, -, X6, ⟨Lc6, hQ6, l6, y6, z6⟩, st6⟩ := Jvm.LawKit.callS X5 hx (y := (⟨"com/example/menshen/menshen/core/PermissionSet", "of", "([I)Lcom/example/menshen/menshen/core/PermissionSet;"⟩ : MethodName)) hown (mvT hZ (hw _ (List.mem_of_getElem? (i := 5) rfl))) (mvT hZ (hw _ (List.mem_of_getElem? (i := 6) rfl))) (mvT hZ (hw _ (List.mem_of_getElem? (i := 7) rfl))) (mvT hZ (hw _ (List.mem_of_getElem? (i := 8) rfl))) (by decide) (backOf (W := 0) (rm2_0 l Z a0 hw [] b5 (fun _ => (0 : Int32)) h5 n0 Z5 A_b5_5) hZ (hw _ (List.mem_of_getElem? (i := 8) rfl)) (hw _ (List.mem_of_getElem? (i := 7) rfl)) (by decide) (by decide)) (g := (mkF m 7 #[.val (.int (0 : Int32)), .val (.int p2), .val (.int p3), .val (.int p4)] [(.ref b5)])) rfl (by rw [hml]; rfl) (argsL := [(.ref b5)]) (rest := []) (lenOf pd_3 rfl) rfl (by show 2 * 0 + _ ≤ _; exact Nat.le_of_eq rfl) (hb hby d1_7) (fun _ _ => ⟨rfl, e5, (by decide : 1 + 2 ≤ _), (by decide : 0 + 1 ≤ _)⟩)
  dsimp only [Pt.U, Pt.locs, Pt.cells, Pt.slots] at X6 l6 y6 z6 st6 hQ6
  subst l6 y6 z6
  obtain ⟨b6_0, b6_1, rfl, N6q, K6, sz6_0, sz6_1, Q6_0, Q6_1, Q6_2⟩ := hQ6
  have N6 := Fr.app N0 N6q
  have g_b6_0 : n0 ≤ b6_0 := Nat.le_trans Z5 sz6_0
  have sz_b6_0 : h0.size ≤ b6_0 := Nat.le_trans KK5.1 sz6_0
  have ne_b5_b6_0 : b5 ≠ b6_0 := Nat.ne_of_lt (Nat.lt_of_lt_of_le A_b5_5.lt sz6_0)
  have g_b6_1 : n0 ≤ b6_1 := Nat.le_trans Z5 sz6_1
  have sz_b6_1 : h0.size ≤ b6_1 := Nat.le_trans KK5.1 sz6_1
  have ne_b5_b6_1 : b5 ≠ b6_1 := Nat.ne_of_lt (Nat.lt_of_lt_of_le A_b5_5.lt sz6_1)
  have A_b5_6 := A_b5_5.keep K6 nin0
  have Z6 := Nat.le_trans Z5 K6.1
  have KK6 : Keep h0 T6.heap [] := KK5.trans K6 all0
  refine Go.step st6 ?_
  show Go p e below _ (T6.setTop (mkF m 10 #[.val (.int (0 : Int32)), .val (.int p2), .val (.int p3), .val (.int p4)] [(.ref b6_0)]))
  refine retGR X6 hx Bd.notSynchronized Bd.returns rfl rfl (hb hby d1_10) ?_ (by decide) (by decide)
  show Q1_0 Z p2 p3 p4 h0 n0 _ T6.heap _
  exact ⟨b6_0, b6_1, rfl, N6, KK6, sz_b6_0, sz_b6_1, Q6_0, Q6_1, Q6_2⟩
theorem d1_11 : decode method_2_code 11 = .ok (.iload_n 0, 1) := by decide +kernel
theorem d1_12 : decode method_2_code 12 = .ok (.iconst 1, 1) := by decide +kernel
theorem d1_13 : decode method_2_code 13 = .ok (.if_icmp .ne 14, 3) := by decide +kernel
theorem d1_16 : decode method_2_code 16 = .ok (.iconst 1, 1) := by decide +kernel
theorem d1_17 : decode method_2_code 17 = .ok (.newarray .int, 2) := by decide +kernel
theorem d1_19 : decode method_2_code 19 = .ok (.dup, 1) := by decide +kernel
theorem d1_20 : decode method_2_code 20 = .ok (.iconst 0, 1) := by decide +kernel
theorem d1_21 : decode method_2_code 21 = .ok (.iload_n 1, 1) := by decide +kernel
theorem d1_22 : decode method_2_code 22 = .ok (.iastore, 1) := by decide +kernel
theorem d1_23 : decode method_2_code 23 = .ok (.invokestatic 7, 3) := by decide +kernel
theorem d1_26 : decode method_2_code 26 = .ok (.areturn, 1) := by decide +kernel
theorem ef_1_1 (m : MethodId) (p2 : Int32) (p3 : Int32) (p4 : Int32) : entryFrame m #[(.int (1 : Int32)), (.int p2), (.int p3), (.int p4)] 4 = mkF m 0 #[.val (.int (1 : Int32)), .val (.int p2), .val (.int p3), .val (.int p4)] [] := by first | (simp [entryFrame, mkF, argsToLocals, Value.category]; done) | rfl
def Q1_1 (Z : State) (p2 : Int32) (p3 : Int32) (p4 : Int32) (h0 : Heap) (n0 : Nat) (v : Option Value) (h : Heap) (L : List Loc) : Prop := ∃ (b7_0 : Addr) (b7_1 : Addr), v = some (.ref b7_0) ∧ Fr n0 L ∧ Keep h0 h [] ∧ h0.size ≤ b7_0 ∧ h0.size ≤ b7_1 ∧ Ary Z h b7_1 .int (((f6 (-1 : Int32) p2) + (32 : Int32)) / (32 : Int32)).toNatClampNeg (fun i => .int ((orW (fun _ => (0 : Int32)) p2) i)) ∧ Exa Z h b7_0 "com/example/menshen/menshen/core/PermissionSet" ∧ Fld Z h b7_0 "com/example/menshen/menshen/core/PermissionSet" "words" "[I" (.ref b7_1)
set_option maxRecDepth 65536 in
set_option maxHeartbeats 40000000 in
theorem rm1_1 (l : Launch) (Z : State) (a0 : Array Value) (hw : ∀ d ∈ tables_1, d.before a0 Z = true) (ws : List Jvm.Cond) (p2 : Int32) (p3 : Int32) (p4 : Int32) (h0 : Heap) (n0 : Nat) (Z0 : n0 ≤ h0.size) (hB0 : Bit p2) :
    MetFree l (⟨"com/example/menshen/menshen/core/PermissionSetOfPinLaw", "build", "(IIII)Lcom/example/menshen/menshen/core/PermissionSet;"⟩ : MethodName) (head1 (Jvm.Cond.code (⟨"com/example/menshen/menshen/core/PermissionSetOfPinLaw", "build", "(IIII)Lcom/example/menshen/menshen/core/PermissionSet;"⟩ : MethodName) method_2_code 4 (some (.object "com/example/menshen/menshen/core/PermissionSet")) :: ws) ({ frames := 3, cells := 3, slots := 130, locals := 44 } : Room)) (fun a U => a = #[(.int (1 : Int32)), (.int p2), (.int p3), (.int p4)] ∧ Z.Warmed39 U.vm ∧ U.heap = h0) (fun _ _ _ _ _ => True) (fun _ U o U' => ∃ v L, o = .returned v ∧ Q1_1 Z p2 p3 p4 h0 n0 v U'.heap L ∧ FrameEnd U o U' L ({ frames := 3, cells := 3, slots := 130, locals := 44 } : Room).cells ({ frames := 3, cells := 3, slots := 130, locals := 44 } : Room).slots) := by
  refine MetFree.of_bodySF (plainFor_of_name pn_2) hisR ?_
  intro p e s m args below meth c s₁ Bd hml0 hP hK
  obtain ⟨rfl, hZ, hh⟩ := hP
  have hx := Bd.exec
  have hby := Bd.bytes
  have hml : c.maxLocals = 4 := hml0
  have hown : s.vm.findClass "com/example/menshen/menshen/core/PermissionSetOfPinLaw" = some m.cls := findClass_of_methodNamed Bd.named
  have hnm := (name_of_methodNamed Bd.named Bd.method).1
  have X0 : Stand p l e ({ frames := 3, cells := 3, slots := 130, locals := 44 } : Room) s m #[(.int (1 : Int32)), (.int p2), (.int p3), (.int p4)] below meth c s₁ [] 0 0 := Stand.of_body Bd
  have e0 : s₁.heap = h0 := by rw [← hh, Bd.state]; rfl
  have N0 := Fr.nil n0
  refine Go.done (Go.step (fun t k => castTop (ef_1_1 m p2 p3 p4) k) ?_)
  have KK0 : Keep h0 h0 [] := Keep.refl _ _
  show Go p e below _ (s₁.setTop (mkF m 0 #[.val (.int (1 : Int32)), .val (.int p2), .val (.int p3), .val (.int p4)] []))
  refine Go.step (fun t k => XS.iloadN X0.here hx rfl (hb hby d1_0) rfl k) ?_
  show Go p e below _ (s₁.setTop (mkF m 1 #[.val (.int (1 : Int32)), .val (.int p2), .val (.int p3), .val (.int p4)] [(.int (1 : Int32))]))
  refine Go.step (fun t k => XS.ifYes X0.here hx rfl (pc0 := 1) (pc' := 11) rfl (hb hby d1_1) rfl ((if0 _ _).trans (feq (by decide : ¬ ((1 : Int32) = (0 : Int32)))).2) (by decide) (by decide) k) ?_
  show Go p e below _ (s₁.setTop (mkF m 11 #[.val (.int (1 : Int32)), .val (.int p2), .val (.int p3), .val (.int p4)] []))
  refine Go.step (fun t k => XS.iloadN X0.here hx rfl (hb hby d1_11) rfl k) ?_
  show Go p e below _ (s₁.setTop (mkF m 12 #[.val (.int (1 : Int32)), .val (.int p2), .val (.int p3), .val (.int p4)] [(.int (1 : Int32))]))
  refine Go.step (fun t k => XS.iconst X0.here hx rfl (hb hby d1_12)  k) ?_
  show Go p e below _ (s₁.setTop (mkF m 13 #[.val (.int (1 : Int32)), .val (.int p2), .val (.int p3), .val (.int p4)] [(.int (1 : Int32)), (.int (1 : Int32))]))
  refine Go.step (fun t k => XS.icmpNo X0.here hx rfl (hb hby d1_13) rfl (teq (by decide : (1 : Int32) = (1 : Int32))).2 k) ?_
  show Go p e below _ (s₁.setTop (mkF m 16 #[.val (.int (1 : Int32)), .val (.int p2), .val (.int p3), .val (.int p4)] []))
  refine Go.step (fun t k => XS.iconst X0.here hx rfl (hb hby d1_16)  k) ?_
  show Go p e below _ (s₁.setTop (mkF m 17 #[.val (.int (1 : Int32)), .val (.int p2), .val (.int p3), .val (.int p4)] [(.int (1 : Int32))]))
  obtain ⟨T5, h5, k5, X5, e5, E5, A5, st5⟩ := newP X0 hx hZ (hw _ (List.mem_of_getElem? (i := 4) rfl)) e0 (g := (mkF m 17 #[.val (.int (1 : Int32)), .val (.int p2), .val (.int p3), .val (.int p4)] [(.int (1 : Int32))])) rfl (hb hby d1_17) rfl (by decide) (cap := 1) (by decide) (by decide) (by decide) (by decide)
  obtain ⟨b5, g5⟩ : ∃ z, z = h0.size := ⟨_, rfl⟩
  rw [← g5] at A5 st5
  have g_b5 : n0 ≤ b5 := Nat.le_trans Z0 (Nat.le_of_eq g5.symm)
  have sz_b5 : h0.size ≤ b5 := Nat.le_trans KK0.1 (Nat.le_of_eq g5.symm)
  refine Go.step st5 ?_
  have Z5 := Nat.le_trans Z0 E5.1
  have KK5 : Keep h0 h5 [] := KK0.ext E5
  have A_b5_5 : Ary Z h5 b5 .int 1 (fun i => .int ((fun _ => (0 : Int32)) i)) := Ary.mk A5 (by decide) (by decide)
  show Go p e below _ (T5.setTop (mkF m 19 #[.val (.int (1 : Int32)), .val (.int p2), .val (.int p3), .val (.int p4)] [(.ref b5)]))
  refine Go.step (fun t k => XS.dup X5.here hx rfl (hb hby d1_19) rfl rfl k) ?_
  show Go p e below _ (T5.setTop (mkF m 20 #[.val (.int (1 : Int32)), .val (.int p2), .val (.int p3), .val (.int p4)] [(.ref b5), (.ref b5)]))
  refine Go.step (fun t k => XS.iconst X5.here hx rfl (hb hby d1_20)  k) ?_
  show Go p e below _ (T5.setTop (mkF m 21 #[.val (.int (1 : Int32)), .val (.int p2), .val (.int p3), .val (.int p4)] [(.int (0 : Int32)), (.ref b5), (.ref b5)]))
  refine Go.step (fun t k => XS.iloadN X5.here hx rfl (hb hby d1_21) rfl k) ?_
  show Go p e below _ (T5.setTop (mkF m 22 #[.val (.int (1 : Int32)), .val (.int p2), .val (.int p3), .val (.int p4)] [(.int p2), (.int (0 : Int32)), (.ref b5), (.ref b5)]))
  obtain ⟨cl6, Ar6, in6, -⟩ := A_b5_5.hin (j := (0 : Int32)) (by decide) (by decide)
  obtain ⟨T6, h6, X6, e6, W6, st6⟩ := stI X5 hx hZ e5 Ar6 in6 (g := (mkF m 22 #[.val (.int (1 : Int32)), .val (.int p2), .val (.int p3), .val (.int p4)] [(.int p2), (.int (0 : Int32)), (.ref b5), (.ref b5)])) rfl rfl (hb hby d1_22)
  refine Go.step st6 ?_
  have N6 := Fr.snoc X6 N0 g_b5
  have Z6 := Nat.le_trans Z5 (Keep.of_wr W6).1
  have KK6 : Keep h0 h6 [] := KK5.wr W6 (Or.inr sz_b5)
  have A_b5_6 : Ary Z h6 b5 .int 1 (fun i => .int ((upA (fun _ => (0 : Int32)) 0 p2) i)) := A_b5_5.setI W6 (by decide)
  show Go p e below _ (T6.setTop (mkF m 23 #[.val (.int (1 : Int32)), .val (.int p2), .val (.int p3), .val (.int p4)] [(.ref b5)]))
  obtain ⟨_, _, ⟨T7, L7, k7, n7⟩, -, X7, ⟨Lc7, hQ7, l7, y7, z7⟩, st7⟩ := Jvm.LawKit.callS X6 hx (y := (⟨"com/example/menshen/menshen/core/PermissionSet", "of", "([I)Lcom/example/menshen/menshen/core/PermissionSet;"⟩ : MethodName)) hown (mvT hZ (hw _ (List.mem_of_getElem? (i := 5) rfl))) (mvT hZ (hw _ (List.mem_of_getElem? (i := 6) rfl))) (mvT hZ (hw _ (List.mem_of_getElem? (i := 7) rfl))) (mvT hZ (hw _ (List.mem_of_getElem? (i := 8) rfl))) (by decide) (backOf (W := 0) (rm2_1 l Z a0 hw [] b5 (upA (fun _ => (0 : Int32)) 0 p2) h6 n0 Z6 ((by first | exact hB0) : Bit ((upA (fun _ => (0 : Int32)) 0 p2) 0)) A_b5_6) hZ (hw _ (List.mem_of_getElem? (i := 8) rfl)) (hw _ (List.mem_of_getElem? (i := 7) rfl)) (by decide) (by decide)) (g := (mkF m 23 #[.val (.int (1 : Int32)), .val (.int p2), .val (.int p3), .val (.int p4)] [(.ref b5)])) rfl (by rw [hml]; rfl) (argsL := [(.ref b5)]) (rest := []) (lenOf pd_3 rfl) rfl (by show 2 * 0 + _ ≤ _; exact Nat.le_of_eq rfl) (hb hby d1_23) (fun _ _ => ⟨rfl, e6, (by decide : 1 + 2 ≤ _), (by decide : 1 + 129 ≤ _)⟩)
  dsimp only [Pt.U, Pt.locs, Pt.cells, Pt.slots] at X7 l7 y7 z7 st7 hQ7
  subst l7 y7 z7
  obtain ⟨b7_0, b7_1, rfl, N7q, K7, sz7_0, sz7_1, Q7_0, Q7_1, Q7_2⟩ := hQ7
  have N7 := Fr.app N6 N7q
  have g_b7_0 : n0 ≤ b7_0 := Nat.le_trans Z6 sz7_0
  have sz_b7_0 : h0.size ≤ b7_0 := Nat.le_trans KK6.1 sz7_0
  have ne_b5_b7_0 : b5 ≠ b7_0 := Nat.ne_of_lt (Nat.lt_of_lt_of_le A_b5_6.lt sz7_0)
  have g_b7_1 : n0 ≤ b7_1 := Nat.le_trans Z6 sz7_1
  have sz_b7_1 : h0.size ≤ b7_1 := Nat.le_trans KK6.1 sz7_1
  have ne_b5_b7_1 : b5 ≠ b7_1 := Nat.ne_of_lt (Nat.lt_of_lt_of_le A_b5_6.lt sz7_1)
  have A_b5_7 := A_b5_6.keep K7 nin0
  have Z7 := Nat.le_trans Z6 K7.1
  have KK7 : Keep h0 T7.heap [] := KK6.trans K7 all0
  refine Go.step st7 ?_
  show Go p e below _ (T7.setTop (mkF m 26 #[.val (.int (1 : Int32)), .val (.int p2), .val (.int p3), .val (.int p4)] [(.ref b7_0)]))
  refine retGR X7 hx Bd.notSynchronized Bd.returns rfl rfl (hb hby d1_26) ?_ (by decide) (by decide)
  show Q1_1 Z p2 p3 p4 h0 n0 _ T7.heap _
  exact ⟨b7_0, b7_1, rfl, N7, KK7, sz_b7_0, sz_b7_1, Q7_0, Q7_1, Q7_2⟩
theorem d1_27 : decode method_2_code 27 = .ok (.iload_n 0, 1) := by decide +kernel
theorem d1_28 : decode method_2_code 28 = .ok (.iconst 2, 1) := by decide +kernel
theorem d1_29 : decode method_2_code 29 = .ok (.if_icmp .ne 18, 3) := by decide +kernel
theorem d1_32 : decode method_2_code 32 = .ok (.iconst 2, 1) := by decide +kernel
theorem d1_33 : decode method_2_code 33 = .ok (.newarray .int, 2) := by decide +kernel
theorem d1_35 : decode method_2_code 35 = .ok (.dup, 1) := by decide +kernel
theorem d1_36 : decode method_2_code 36 = .ok (.iconst 0, 1) := by decide +kernel
theorem d1_37 : decode method_2_code 37 = .ok (.iload_n 1, 1) := by decide +kernel
theorem d1_38 : decode method_2_code 38 = .ok (.iastore, 1) := by decide +kernel
theorem d1_39 : decode method_2_code 39 = .ok (.dup, 1) := by decide +kernel
theorem d1_40 : decode method_2_code 40 = .ok (.iconst 1, 1) := by decide +kernel
theorem d1_41 : decode method_2_code 41 = .ok (.iload_n 2, 1) := by decide +kernel
theorem d1_42 : decode method_2_code 42 = .ok (.iastore, 1) := by decide +kernel
theorem d1_43 : decode method_2_code 43 = .ok (.invokestatic 7, 3) := by decide +kernel
theorem d1_46 : decode method_2_code 46 = .ok (.areturn, 1) := by decide +kernel
theorem ef_1_2 (m : MethodId) (p2 : Int32) (p3 : Int32) (p4 : Int32) : entryFrame m #[(.int (2 : Int32)), (.int p2), (.int p3), (.int p4)] 4 = mkF m 0 #[.val (.int (2 : Int32)), .val (.int p2), .val (.int p3), .val (.int p4)] [] := by first | (simp [entryFrame, mkF, argsToLocals, Value.category]; done) | rfl
def Q1_2 (Z : State) (p2 : Int32) (p3 : Int32) (p4 : Int32) (h0 : Heap) (n0 : Nat) (v : Option Value) (h : Heap) (L : List Loc) : Prop := ∃ (b8_0 : Addr) (b8_1 : Addr), v = some (.ref b8_0) ∧ Fr n0 L ∧ Keep h0 h [] ∧ h0.size ≤ b8_0 ∧ h0.size ≤ b8_1 ∧ Ary Z h b8_1 .int (((f6 (f6 (-1 : Int32) p2) p3) + (32 : Int32)) / (32 : Int32)).toNatClampNeg (fun i => .int ((orW (orW (fun _ => (0 : Int32)) p2) p3) i)) ∧ Exa Z h b8_0 "com/example/menshen/menshen/core/PermissionSet" ∧ Fld Z h b8_0 "com/example/menshen/menshen/core/PermissionSet" "words" "[I" (.ref b8_1)
set_option maxRecDepth 65536 in
set_option maxHeartbeats 40000000 in
theorem rm1_2 (l : Launch) (Z : State) (a0 : Array Value) (hw : ∀ d ∈ tables_1, d.before a0 Z = true) (ws : List Jvm.Cond) (p2 : Int32) (p3 : Int32) (p4 : Int32) (h0 : Heap) (n0 : Nat) (Z0 : n0 ≤ h0.size) (hB0 : Bit p2) (hB1 : Bit p3) :
    MetFree l (⟨"com/example/menshen/menshen/core/PermissionSetOfPinLaw", "build", "(IIII)Lcom/example/menshen/menshen/core/PermissionSet;"⟩ : MethodName) (head1 (Jvm.Cond.code (⟨"com/example/menshen/menshen/core/PermissionSetOfPinLaw", "build", "(IIII)Lcom/example/menshen/menshen/core/PermissionSet;"⟩ : MethodName) method_2_code 4 (some (.object "com/example/menshen/menshen/core/PermissionSet")) :: ws) ({ frames := 3, cells := 3, slots := 131, locals := 44 } : Room)) (fun a U => a = #[(.int (2 : Int32)), (.int p2), (.int p3), (.int p4)] ∧ Z.Warmed39 U.vm ∧ U.heap = h0) (fun _ _ _ _ _ => True) (fun _ U o U' => ∃ v L, o = .returned v ∧ Q1_2 Z p2 p3 p4 h0 n0 v U'.heap L ∧ FrameEnd U o U' L ({ frames := 3, cells := 3, slots := 131, locals := 44 } : Room).cells ({ frames := 3, cells := 3, slots := 131, locals := 44 } : Room).slots) := by
  refine MetFree.of_bodySF (plainFor_of_name pn_2) hisR ?_
  intro p e s m args below meth c s₁ Bd hml0 hP hK
  obtain ⟨rfl, hZ, hh⟩ := hP
  have hx := Bd.exec
  have hby := Bd.bytes
  have hml : c.maxLocals = 4 := hml0
  have hown : s.vm.findClass "com/example/menshen/menshen/core/PermissionSetOfPinLaw" = some m.cls := findClass_of_methodNamed Bd.named
  have hnm := (name_of_methodNamed Bd.named Bd.method).1
  have X0 : Stand p l e ({ frames := 3, cells := 3, slots := 131, locals := 44 } : Room) s m #[(.int (2 : Int32)), (.int p2), (.int p3), (.int p4)] below meth c s₁ [] 0 0 := Stand.of_body Bd
  have e0 : s₁.heap = h0 := by rw [← hh, Bd.state]; rfl
  have N0 := Fr.nil n0
  refine Go.done (Go.step (fun t k => castTop (ef_1_2 m p2 p3 p4) k) ?_)
  have KK0 : Keep h0 h0 [] := Keep.refl _ _
  show Go p e below _ (s₁.setTop (mkF m 0 #[.val (.int (2 : Int32)), .val (.int p2), .val (.int p3), .val (.int p4)] []))
  refine Go.step (fun t k => XS.iloadN X0.here hx rfl (hb hby d1_0) rfl k) ?_
  show Go p e below _ (s₁.setTop (mkF m 1 #[.val (.int (2 : Int32)), .val (.int p2), .val (.int p3), .val (.int p4)] [(.int (2 : Int32))]))
  refine Go.step (fun t k => XS.ifYes X0.here hx rfl (pc0 := 1) (pc' := 11) rfl (hb hby d1_1) rfl ((if0 _ _).trans (feq (by decide : ¬ ((2 : Int32) = (0 : Int32)))).2) (by decide) (by decide) k) ?_
  show Go p e below _ (s₁.setTop (mkF m 11 #[.val (.int (2 : Int32)), .val (.int p2), .val (.int p3), .val (.int p4)] []))
  refine Go.step (fun t k => XS.iloadN X0.here hx rfl (hb hby d1_11) rfl k) ?_
  show Go p e below _ (s₁.setTop (mkF m 12 #[.val (.int (2 : Int32)), .val (.int p2), .val (.int p3), .val (.int p4)] [(.int (2 : Int32))]))
  refine Go.step (fun t k => XS.iconst X0.here hx rfl (hb hby d1_12)  k) ?_
  show Go p e below _ (s₁.setTop (mkF m 13 #[.val (.int (2 : Int32)), .val (.int p2), .val (.int p3), .val (.int p4)] [(.int (1 : Int32)), (.int (2 : Int32))]))
  refine Go.step (fun t k => XS.icmpYes X0.here hx rfl (pc0 := 13) (pc' := 27) rfl (hb hby d1_13) rfl (feq (by decide : ¬ ((2 : Int32) = (1 : Int32)))).2 (by decide) (by decide) k) ?_
  show Go p e below _ (s₁.setTop (mkF m 27 #[.val (.int (2 : Int32)), .val (.int p2), .val (.int p3), .val (.int p4)] []))
  refine Go.step (fun t k => XS.iloadN X0.here hx rfl (hb hby d1_27) rfl k) ?_
  show Go p e below _ (s₁.setTop (mkF m 28 #[.val (.int (2 : Int32)), .val (.int p2), .val (.int p3), .val (.int p4)] [(.int (2 : Int32))]))
  refine Go.step (fun t k => XS.iconst X0.here hx rfl (hb hby d1_28)  k) ?_
  show Go p e below _ (s₁.setTop (mkF m 29 #[.val (.int (2 : Int32)), .val (.int p2), .val (.int p3), .val (.int p4)] [(.int (2 : Int32)), (.int (2 : Int32))]))
  refine Go.step (fun t k => XS.icmpNo X0.here hx rfl (hb hby d1_29) rfl (teq (by decide : (2 : Int32) = (2 : Int32))).2 k) ?_
  show Go p e below _ (s₁.setTop (mkF m 32 #[.val (.int (2 : Int32)), .val (.int p2), .val (.int p3), .val (.int p4)] []))
  refine Go.step (fun t k => XS.iconst X0.here hx rfl (hb hby d1_32)  k) ?_
  show Go p e below _ (s₁.setTop (mkF m 33 #[.val (.int (2 : Int32)), .val (.int p2), .val (.int p3), .val (.int p4)] [(.int (2 : Int32))]))
  obtain ⟨T5, h5, k5, X5, e5, E5, A5, st5⟩ := newP X0 hx hZ (hw _ (List.mem_of_getElem? (i := 4) rfl)) e0 (g := (mkF m 33 #[.val (.int (2 : Int32)), .val (.int p2), .val (.int p3), .val (.int p4)] [(.int (2 : Int32))])) rfl (hb hby d1_33) rfl (by decide) (cap := 2) (by decide) (by decide) (by decide) (by decide)
  obtain ⟨b5, g5⟩ : ∃ z, z = h0.size := ⟨_, rfl⟩
  rw [← g5] at A5 st5
  have g_b5 : n0 ≤ b5 := Nat.le_trans Z0 (Nat.le_of_eq g5.symm)
  have sz_b5 : h0.size ≤ b5 := Nat.le_trans KK0.1 (Nat.le_of_eq g5.symm)
  refine Go.step st5 ?_
  have Z5 := Nat.le_trans Z0 E5.1
  have KK5 : Keep h0 h5 [] := KK0.ext E5
  have A_b5_5 : Ary Z h5 b5 .int 2 (fun i => .int ((fun _ => (0 : Int32)) i)) := Ary.mk A5 (by decide) (by decide)
  show Go p e below _ (T5.setTop (mkF m 35 #[.val (.int (2 : Int32)), .val (.int p2), .val (.int p3), .val (.int p4)] [(.ref b5)]))
  refine Go.step (fun t k => XS.dup X5.here hx rfl (hb hby d1_35) rfl rfl k) ?_
  show Go p e below _ (T5.setTop (mkF m 36 #[.val (.int (2 : Int32)), .val (.int p2), .val (.int p3), .val (.int p4)] [(.ref b5), (.ref b5)]))
  refine Go.step (fun t k => XS.iconst X5.here hx rfl (hb hby d1_36)  k) ?_
  show Go p e below _ (T5.setTop (mkF m 37 #[.val (.int (2 : Int32)), .val (.int p2), .val (.int p3), .val (.int p4)] [(.int (0 : Int32)), (.ref b5), (.ref b5)]))
  refine Go.step (fun t k => XS.iloadN X5.here hx rfl (hb hby d1_37) rfl k) ?_
  show Go p e below _ (T5.setTop (mkF m 38 #[.val (.int (2 : Int32)), .val (.int p2), .val (.int p3), .val (.int p4)] [(.int p2), (.int (0 : Int32)), (.ref b5), (.ref b5)]))
  obtain ⟨cl6, Ar6, in6, -⟩ := A_b5_5.hin (j := (0 : Int32)) (by decide) (by decide)
  obtain ⟨T6, h6, X6, e6, W6, st6⟩ := stI X5 hx hZ e5 Ar6 in6 (g := (mkF m 38 #[.val (.int (2 : Int32)), .val (.int p2), .val (.int p3), .val (.int p4)] [(.int p2), (.int (0 : Int32)), (.ref b5), (.ref b5)])) rfl rfl (hb hby d1_38)
  refine Go.step st6 ?_
  have N6 := Fr.snoc X6 N0 g_b5
  have Z6 := Nat.le_trans Z5 (Keep.of_wr W6).1
  have KK6 : Keep h0 h6 [] := KK5.wr W6 (Or.inr sz_b5)
  have A_b5_6 : Ary Z h6 b5 .int 2 (fun i => .int ((upA (fun _ => (0 : Int32)) 0 p2) i)) := A_b5_5.setI W6 (by decide)
  show Go p e below _ (T6.setTop (mkF m 39 #[.val (.int (2 : Int32)), .val (.int p2), .val (.int p3), .val (.int p4)] [(.ref b5)]))
  refine Go.step (fun t k => XS.dup X6.here hx rfl (hb hby d1_39) rfl rfl k) ?_
  show Go p e below _ (T6.setTop (mkF m 40 #[.val (.int (2 : Int32)), .val (.int p2), .val (.int p3), .val (.int p4)] [(.ref b5), (.ref b5)]))
  refine Go.step (fun t k => XS.iconst X6.here hx rfl (hb hby d1_40)  k) ?_
  show Go p e below _ (T6.setTop (mkF m 41 #[.val (.int (2 : Int32)), .val (.int p2), .val (.int p3), .val (.int p4)] [(.int (1 : Int32)), (.ref b5), (.ref b5)]))
  refine Go.step (fun t k => XS.iloadN X6.here hx rfl (hb hby d1_41) rfl k) ?_
  show Go p e below _ (T6.setTop (mkF m 42 #[.val (.int (2 : Int32)), .val (.int p2), .val (.int p3), .val (.int p4)] [(.int p3), (.int (1 : Int32)), (.ref b5), (.ref b5)]))
  obtain ⟨cl7, Ar7, in7, -⟩ := A_b5_6.hin (j := (1 : Int32)) (by decide) (by decide)
  obtain ⟨T7, h7, X7, e7, W7, st7⟩ := stI X6 hx hZ e6 Ar7 in7 (g := (mkF m 42 #[.val (.int (2 : Int32)), .val (.int p2), .val (.int p3), .val (.int p4)] [(.int p3), (.int (1 : Int32)), (.ref b5), (.ref b5)])) rfl rfl (hb hby d1_42)
  refine Go.step st7 ?_
  have N7 := Fr.snoc X7 N6 g_b5
  have Z7 := Nat.le_trans Z6 (Keep.of_wr W7).1
  have KK7 : Keep h0 h7 [] := KK6.wr W7 (Or.inr sz_b5)
  have A_b5_7 : Ary Z h7 b5 .int 2 (fun i => .int ((upA (upA (fun _ => (0 : Int32)) 0 p2) 1 p3) i)) := A_b5_6.setI W7 (by decide)
  show Go p e below _ (T7.setTop (mkF m 43 #[.val (.int (2 : Int32)), .val (.int p2), .val (.int p3), .val (.int p4)] [(.ref b5)]))
  obtain ⟨_, _, ⟨T8, L8, k8, n8⟩, -, X8, ⟨Lc8, hQ8, l8, y8, z8⟩, st8⟩ := Jvm.LawKit.callS X7 hx (y := (⟨"com/example/menshen/menshen/core/PermissionSet", "of", "([I)Lcom/example/menshen/menshen/core/PermissionSet;"⟩ : MethodName)) hown (mvT hZ (hw _ (List.mem_of_getElem? (i := 5) rfl))) (mvT hZ (hw _ (List.mem_of_getElem? (i := 6) rfl))) (mvT hZ (hw _ (List.mem_of_getElem? (i := 7) rfl))) (mvT hZ (hw _ (List.mem_of_getElem? (i := 8) rfl))) (by decide) (backOf (W := 0) (rm2_2 l Z a0 hw [] b5 (upA (upA (fun _ => (0 : Int32)) 0 p2) 1 p3) h7 n0 Z7 ((by first | exact hB0 | exact hB1) : Bit ((upA (upA (fun _ => (0 : Int32)) 0 p2) 1 p3) 0)) ((by first | exact hB0 | exact hB1) : Bit ((upA (upA (fun _ => (0 : Int32)) 0 p2) 1 p3) 1)) A_b5_7) hZ (hw _ (List.mem_of_getElem? (i := 8) rfl)) (hw _ (List.mem_of_getElem? (i := 7) rfl)) (by decide) (by decide)) (g := (mkF m 43 #[.val (.int (2 : Int32)), .val (.int p2), .val (.int p3), .val (.int p4)] [(.ref b5)])) rfl (by rw [hml]; rfl) (argsL := [(.ref b5)]) (rest := []) (lenOf pd_3 rfl) rfl (by show 2 * 0 + _ ≤ _; exact Nat.le_of_eq rfl) (hb hby d1_43) (fun _ _ => ⟨rfl, e7, (by decide : 1 + 2 ≤ _), (by decide : 2 + 129 ≤ _)⟩)
  dsimp only [Pt.U, Pt.locs, Pt.cells, Pt.slots] at X8 l8 y8 z8 st8 hQ8
  subst l8 y8 z8
  obtain ⟨b8_0, b8_1, rfl, N8q, K8, sz8_0, sz8_1, Q8_0, Q8_1, Q8_2⟩ := hQ8
  have N8 := Fr.app N7 N8q
  have g_b8_0 : n0 ≤ b8_0 := Nat.le_trans Z7 sz8_0
  have sz_b8_0 : h0.size ≤ b8_0 := Nat.le_trans KK7.1 sz8_0
  have ne_b5_b8_0 : b5 ≠ b8_0 := Nat.ne_of_lt (Nat.lt_of_lt_of_le A_b5_7.lt sz8_0)
  have g_b8_1 : n0 ≤ b8_1 := Nat.le_trans Z7 sz8_1
  have sz_b8_1 : h0.size ≤ b8_1 := Nat.le_trans KK7.1 sz8_1
  have ne_b5_b8_1 : b5 ≠ b8_1 := Nat.ne_of_lt (Nat.lt_of_lt_of_le A_b5_7.lt sz8_1)
  have A_b5_8 := A_b5_7.keep K8 nin0
  have Z8 := Nat.le_trans Z7 K8.1
  have KK8 : Keep h0 T8.heap [] := KK7.trans K8 all0
  refine Go.step st8 ?_
  show Go p e below _ (T8.setTop (mkF m 46 #[.val (.int (2 : Int32)), .val (.int p2), .val (.int p3), .val (.int p4)] [(.ref b8_0)]))
  refine retGR X8 hx Bd.notSynchronized Bd.returns rfl rfl (hb hby d1_46) ?_ (by decide) (by decide)
  show Q1_2 Z p2 p3 p4 h0 n0 _ T8.heap _
  exact ⟨b8_0, b8_1, rfl, N8, KK8, sz_b8_0, sz_b8_1, Q8_0, Q8_1, Q8_2⟩
theorem d1_47 : decode method_2_code 47 = .ok (.iconst 3, 1) := by decide +kernel
theorem d1_48 : decode method_2_code 48 = .ok (.newarray .int, 2) := by decide +kernel
theorem d1_50 : decode method_2_code 50 = .ok (.dup, 1) := by decide +kernel
theorem d1_51 : decode method_2_code 51 = .ok (.iconst 0, 1) := by decide +kernel
theorem d1_52 : decode method_2_code 52 = .ok (.iload_n 1, 1) := by decide +kernel
theorem d1_53 : decode method_2_code 53 = .ok (.iastore, 1) := by decide +kernel
theorem d1_54 : decode method_2_code 54 = .ok (.dup, 1) := by decide +kernel
theorem d1_55 : decode method_2_code 55 = .ok (.iconst 1, 1) := by decide +kernel
theorem d1_56 : decode method_2_code 56 = .ok (.iload_n 2, 1) := by decide +kernel
theorem d1_57 : decode method_2_code 57 = .ok (.iastore, 1) := by decide +kernel
theorem d1_58 : decode method_2_code 58 = .ok (.dup, 1) := by decide +kernel
theorem d1_59 : decode method_2_code 59 = .ok (.iconst 2, 1) := by decide +kernel
theorem d1_60 : decode method_2_code 60 = .ok (.iload_n 3, 1) := by decide +kernel
theorem d1_61 : decode method_2_code 61 = .ok (.iastore, 1) := by decide +kernel
theorem d1_62 : decode method_2_code 62 = .ok (.invokestatic 7, 3) := by decide +kernel
theorem d1_65 : decode method_2_code 65 = .ok (.areturn, 1) := by decide +kernel
theorem ef_1_3 (m : MethodId) (p2 : Int32) (p3 : Int32) (p4 : Int32) : entryFrame m #[(.int (3 : Int32)), (.int p2), (.int p3), (.int p4)] 4 = mkF m 0 #[.val (.int (3 : Int32)), .val (.int p2), .val (.int p3), .val (.int p4)] [] := by first | (simp [entryFrame, mkF, argsToLocals, Value.category]; done) | rfl
def Q1_3 (Z : State) (p2 : Int32) (p3 : Int32) (p4 : Int32) (h0 : Heap) (n0 : Nat) (v : Option Value) (h : Heap) (L : List Loc) : Prop := ∃ (b9_0 : Addr) (b9_1 : Addr), v = some (.ref b9_0) ∧ Fr n0 L ∧ Keep h0 h [] ∧ h0.size ≤ b9_0 ∧ h0.size ≤ b9_1 ∧ Ary Z h b9_1 .int (((f6 (f6 (f6 (-1 : Int32) p2) p3) p4) + (32 : Int32)) / (32 : Int32)).toNatClampNeg (fun i => .int ((orW (orW (orW (fun _ => (0 : Int32)) p2) p3) p4) i)) ∧ Exa Z h b9_0 "com/example/menshen/menshen/core/PermissionSet" ∧ Fld Z h b9_0 "com/example/menshen/menshen/core/PermissionSet" "words" "[I" (.ref b9_1)
set_option maxRecDepth 65536 in
set_option maxHeartbeats 40000000 in
theorem rm1_3 (l : Launch) (Z : State) (a0 : Array Value) (hw : ∀ d ∈ tables_1, d.before a0 Z = true) (ws : List Jvm.Cond) (p2 : Int32) (p3 : Int32) (p4 : Int32) (h0 : Heap) (n0 : Nat) (Z0 : n0 ≤ h0.size) (hB0 : Bit p2) (hB1 : Bit p3) (hB2 : Bit p4) :
    MetFree l (⟨"com/example/menshen/menshen/core/PermissionSetOfPinLaw", "build", "(IIII)Lcom/example/menshen/menshen/core/PermissionSet;"⟩ : MethodName) (head1 (Jvm.Cond.code (⟨"com/example/menshen/menshen/core/PermissionSetOfPinLaw", "build", "(IIII)Lcom/example/menshen/menshen/core/PermissionSet;"⟩ : MethodName) method_2_code 4 (some (.object "com/example/menshen/menshen/core/PermissionSet")) :: ws) ({ frames := 3, cells := 3, slots := 132, locals := 44 } : Room)) (fun a U => a = #[(.int (3 : Int32)), (.int p2), (.int p3), (.int p4)] ∧ Z.Warmed39 U.vm ∧ U.heap = h0) (fun _ _ _ _ _ => True) (fun _ U o U' => ∃ v L, o = .returned v ∧ Q1_3 Z p2 p3 p4 h0 n0 v U'.heap L ∧ FrameEnd U o U' L ({ frames := 3, cells := 3, slots := 132, locals := 44 } : Room).cells ({ frames := 3, cells := 3, slots := 132, locals := 44 } : Room).slots) := by
  refine MetFree.of_bodySF (plainFor_of_name pn_2) hisR ?_
  intro p e s m args below meth c s₁ Bd hml0 hP hK
  obtain ⟨rfl, hZ, hh⟩ := hP
  have hx := Bd.exec
  have hby := Bd.bytes
  have hml : c.maxLocals = 4 := hml0
  have hown : s.vm.findClass "com/example/menshen/menshen/core/PermissionSetOfPinLaw" = some m.cls := findClass_of_methodNamed Bd.named
  have hnm := (name_of_methodNamed Bd.named Bd.method).1
  have X0 : Stand p l e ({ frames := 3, cells := 3, slots := 132, locals := 44 } : Room) s m #[(.int (3 : Int32)), (.int p2), (.int p3), (.int p4)] below meth c s₁ [] 0 0 := Stand.of_body Bd
  have e0 : s₁.heap = h0 := by rw [← hh, Bd.state]; rfl
  have N0 := Fr.nil n0
  refine Go.done (Go.step (fun t k => castTop (ef_1_3 m p2 p3 p4) k) ?_)
  have KK0 : Keep h0 h0 [] := Keep.refl _ _
  show Go p e below _ (s₁.setTop (mkF m 0 #[.val (.int (3 : Int32)), .val (.int p2), .val (.int p3), .val (.int p4)] []))
  refine Go.step (fun t k => XS.iloadN X0.here hx rfl (hb hby d1_0) rfl k) ?_
  show Go p e below _ (s₁.setTop (mkF m 1 #[.val (.int (3 : Int32)), .val (.int p2), .val (.int p3), .val (.int p4)] [(.int (3 : Int32))]))
  refine Go.step (fun t k => XS.ifYes X0.here hx rfl (pc0 := 1) (pc' := 11) rfl (hb hby d1_1) rfl ((if0 _ _).trans (feq (by decide : ¬ ((3 : Int32) = (0 : Int32)))).2) (by decide) (by decide) k) ?_
  show Go p e below _ (s₁.setTop (mkF m 11 #[.val (.int (3 : Int32)), .val (.int p2), .val (.int p3), .val (.int p4)] []))
  refine Go.step (fun t k => XS.iloadN X0.here hx rfl (hb hby d1_11) rfl k) ?_
  show Go p e below _ (s₁.setTop (mkF m 12 #[.val (.int (3 : Int32)), .val (.int p2), .val (.int p3), .val (.int p4)] [(.int (3 : Int32))]))
  refine Go.step (fun t k => XS.iconst X0.here hx rfl (hb hby d1_12)  k) ?_
  show Go p e below _ (s₁.setTop (mkF m 13 #[.val (.int (3 : Int32)), .val (.int p2), .val (.int p3), .val (.int p4)] [(.int (1 : Int32)), (.int (3 : Int32))]))
  refine Go.step (fun t k => XS.icmpYes X0.here hx rfl (pc0 := 13) (pc' := 27) rfl (hb hby d1_13) rfl (feq (by decide : ¬ ((3 : Int32) = (1 : Int32)))).2 (by decide) (by decide) k) ?_
  show Go p e below _ (s₁.setTop (mkF m 27 #[.val (.int (3 : Int32)), .val (.int p2), .val (.int p3), .val (.int p4)] []))
  refine Go.step (fun t k => XS.iloadN X0.here hx rfl (hb hby d1_27) rfl k) ?_
  show Go p e below _ (s₁.setTop (mkF m 28 #[.val (.int (3 : Int32)), .val (.int p2), .val (.int p3), .val (.int p4)] [(.int (3 : Int32))]))
  refine Go.step (fun t k => XS.iconst X0.here hx rfl (hb hby d1_28)  k) ?_
  show Go p e below _ (s₁.setTop (mkF m 29 #[.val (.int (3 : Int32)), .val (.int p2), .val (.int p3), .val (.int p4)] [(.int (2 : Int32)), (.int (3 : Int32))]))
  refine Go.step (fun t k => XS.icmpYes X0.here hx rfl (pc0 := 29) (pc' := 47) rfl (hb hby d1_29) rfl (feq (by decide : ¬ ((3 : Int32) = (2 : Int32)))).2 (by decide) (by decide) k) ?_
  show Go p e below _ (s₁.setTop (mkF m 47 #[.val (.int (3 : Int32)), .val (.int p2), .val (.int p3), .val (.int p4)] []))
  refine Go.step (fun t k => XS.iconst X0.here hx rfl (hb hby d1_47)  k) ?_
  show Go p e below _ (s₁.setTop (mkF m 48 #[.val (.int (3 : Int32)), .val (.int p2), .val (.int p3), .val (.int p4)] [(.int (3 : Int32))]))
  obtain ⟨T5, h5, k5, X5, e5, E5, A5, st5⟩ := newP X0 hx hZ (hw _ (List.mem_of_getElem? (i := 4) rfl)) e0 (g := (mkF m 48 #[.val (.int (3 : Int32)), .val (.int p2), .val (.int p3), .val (.int p4)] [(.int (3 : Int32))])) rfl (hb hby d1_48) rfl (by decide) (cap := 3) (by decide) (by decide) (by decide) (by decide)
  obtain ⟨b5, g5⟩ : ∃ z, z = h0.size := ⟨_, rfl⟩
  rw [← g5] at A5 st5
  have g_b5 : n0 ≤ b5 := Nat.le_trans Z0 (Nat.le_of_eq g5.symm)
  have sz_b5 : h0.size ≤ b5 := Nat.le_trans KK0.1 (Nat.le_of_eq g5.symm)
  refine Go.step st5 ?_
  have Z5 := Nat.le_trans Z0 E5.1
  have KK5 : Keep h0 h5 [] := KK0.ext E5
  have A_b5_5 : Ary Z h5 b5 .int 3 (fun i => .int ((fun _ => (0 : Int32)) i)) := Ary.mk A5 (by decide) (by decide)
  show Go p e below _ (T5.setTop (mkF m 50 #[.val (.int (3 : Int32)), .val (.int p2), .val (.int p3), .val (.int p4)] [(.ref b5)]))
  refine Go.step (fun t k => XS.dup X5.here hx rfl (hb hby d1_50) rfl rfl k) ?_
  show Go p e below _ (T5.setTop (mkF m 51 #[.val (.int (3 : Int32)), .val (.int p2), .val (.int p3), .val (.int p4)] [(.ref b5), (.ref b5)]))
  refine Go.step (fun t k => XS.iconst X5.here hx rfl (hb hby d1_51)  k) ?_
  show Go p e below _ (T5.setTop (mkF m 52 #[.val (.int (3 : Int32)), .val (.int p2), .val (.int p3), .val (.int p4)] [(.int (0 : Int32)), (.ref b5), (.ref b5)]))
  refine Go.step (fun t k => XS.iloadN X5.here hx rfl (hb hby d1_52) rfl k) ?_
  show Go p e below _ (T5.setTop (mkF m 53 #[.val (.int (3 : Int32)), .val (.int p2), .val (.int p3), .val (.int p4)] [(.int p2), (.int (0 : Int32)), (.ref b5), (.ref b5)]))
  obtain ⟨cl6, Ar6, in6, -⟩ := A_b5_5.hin (j := (0 : Int32)) (by decide) (by decide)
  obtain ⟨T6, h6, X6, e6, W6, st6⟩ := stI X5 hx hZ e5 Ar6 in6 (g := (mkF m 53 #[.val (.int (3 : Int32)), .val (.int p2), .val (.int p3), .val (.int p4)] [(.int p2), (.int (0 : Int32)), (.ref b5), (.ref b5)])) rfl rfl (hb hby d1_53)
  refine Go.step st6 ?_
  have N6 := Fr.snoc X6 N0 g_b5
  have Z6 := Nat.le_trans Z5 (Keep.of_wr W6).1
  have KK6 : Keep h0 h6 [] := KK5.wr W6 (Or.inr sz_b5)
  have A_b5_6 : Ary Z h6 b5 .int 3 (fun i => .int ((upA (fun _ => (0 : Int32)) 0 p2) i)) := A_b5_5.setI W6 (by decide)
  show Go p e below _ (T6.setTop (mkF m 54 #[.val (.int (3 : Int32)), .val (.int p2), .val (.int p3), .val (.int p4)] [(.ref b5)]))
  refine Go.step (fun t k => XS.dup X6.here hx rfl (hb hby d1_54) rfl rfl k) ?_
  show Go p e below _ (T6.setTop (mkF m 55 #[.val (.int (3 : Int32)), .val (.int p2), .val (.int p3), .val (.int p4)] [(.ref b5), (.ref b5)]))
  refine Go.step (fun t k => XS.iconst X6.here hx rfl (hb hby d1_55)  k) ?_
  show Go p e below _ (T6.setTop (mkF m 56 #[.val (.int (3 : Int32)), .val (.int p2), .val (.int p3), .val (.int p4)] [(.int (1 : Int32)), (.ref b5), (.ref b5)]))
  refine Go.step (fun t k => XS.iloadN X6.here hx rfl (hb hby d1_56) rfl k) ?_
  show Go p e below _ (T6.setTop (mkF m 57 #[.val (.int (3 : Int32)), .val (.int p2), .val (.int p3), .val (.int p4)] [(.int p3), (.int (1 : Int32)), (.ref b5), (.ref b5)]))
  obtain ⟨cl7, Ar7, in7, -⟩ := A_b5_6.hin (j := (1 : Int32)) (by decide) (by decide)
  obtain ⟨T7, h7, X7, e7, W7, st7⟩ := stI X6 hx hZ e6 Ar7 in7 (g := (mkF m 57 #[.val (.int (3 : Int32)), .val (.int p2), .val (.int p3), .val (.int p4)] [(.int p3), (.int (1 : Int32)), (.ref b5), (.ref b5)])) rfl rfl (hb hby d1_57)
  refine Go.step st7 ?_
  have N7 := Fr.snoc X7 N6 g_b5
  have Z7 := Nat.le_trans Z6 (Keep.of_wr W7).1
  have KK7 : Keep h0 h7 [] := KK6.wr W7 (Or.inr sz_b5)
  have A_b5_7 : Ary Z h7 b5 .int 3 (fun i => .int ((upA (upA (fun _ => (0 : Int32)) 0 p2) 1 p3) i)) := A_b5_6.setI W7 (by decide)
  show Go p e below _ (T7.setTop (mkF m 58 #[.val (.int (3 : Int32)), .val (.int p2), .val (.int p3), .val (.int p4)] [(.ref b5)]))
  refine Go.step (fun t k => XS.dup X7.here hx rfl (hb hby d1_58) rfl rfl k) ?_
  show Go p e below _ (T7.setTop (mkF m 59 #[.val (.int (3 : Int32)), .val (.int p2), .val (.int p3), .val (.int p4)] [(.ref b5), (.ref b5)]))
  refine Go.step (fun t k => XS.iconst X7.here hx rfl (hb hby d1_59)  k) ?_
  show Go p e below _ (T7.setTop (mkF m 60 #[.val (.int (3 : Int32)), .val (.int p2), .val (.int p3), .val (.int p4)] [(.int (2 : Int32)), (.ref b5), (.ref b5)]))
  refine Go.step (fun t k => XS.iloadN X7.here hx rfl (hb hby d1_60) rfl k) ?_
  show Go p e below _ (T7.setTop (mkF m 61 #[.val (.int (3 : Int32)), .val (.int p2), .val (.int p3), .val (.int p4)] [(.int p4), (.int (2 : Int32)), (.ref b5), (.ref b5)]))
  obtain ⟨cl8, Ar8, in8, -⟩ := A_b5_7.hin (j := (2 : Int32)) (by decide) (by decide)
  obtain ⟨T8, h8, X8, e8, W8, st8⟩ := stI X7 hx hZ e7 Ar8 in8 (g := (mkF m 61 #[.val (.int (3 : Int32)), .val (.int p2), .val (.int p3), .val (.int p4)] [(.int p4), (.int (2 : Int32)), (.ref b5), (.ref b5)])) rfl rfl (hb hby d1_61)
  refine Go.step st8 ?_
  have N8 := Fr.snoc X8 N7 g_b5
  have Z8 := Nat.le_trans Z7 (Keep.of_wr W8).1
  have KK8 : Keep h0 h8 [] := KK7.wr W8 (Or.inr sz_b5)
  have A_b5_8 : Ary Z h8 b5 .int 3 (fun i => .int ((upA (upA (upA (fun _ => (0 : Int32)) 0 p2) 1 p3) 2 p4) i)) := A_b5_7.setI W8 (by decide)
  show Go p e below _ (T8.setTop (mkF m 62 #[.val (.int (3 : Int32)), .val (.int p2), .val (.int p3), .val (.int p4)] [(.ref b5)]))
  obtain ⟨_, _, ⟨T9, L9, k9, n9⟩, -, X9, ⟨Lc9, hQ9, l9, y9, z9⟩, st9⟩ := Jvm.LawKit.callS X8 hx (y := (⟨"com/example/menshen/menshen/core/PermissionSet", "of", "([I)Lcom/example/menshen/menshen/core/PermissionSet;"⟩ : MethodName)) hown (mvT hZ (hw _ (List.mem_of_getElem? (i := 5) rfl))) (mvT hZ (hw _ (List.mem_of_getElem? (i := 6) rfl))) (mvT hZ (hw _ (List.mem_of_getElem? (i := 7) rfl))) (mvT hZ (hw _ (List.mem_of_getElem? (i := 8) rfl))) (by decide) (backOf (W := 0) (rm2_3 l Z a0 hw [] b5 (upA (upA (upA (fun _ => (0 : Int32)) 0 p2) 1 p3) 2 p4) h8 n0 Z8 ((by first | exact hB0 | exact hB1 | exact hB2) : Bit ((upA (upA (upA (fun _ => (0 : Int32)) 0 p2) 1 p3) 2 p4) 0)) ((by first | exact hB0 | exact hB1 | exact hB2) : Bit ((upA (upA (upA (fun _ => (0 : Int32)) 0 p2) 1 p3) 2 p4) 1)) ((by first | exact hB0 | exact hB1 | exact hB2) : Bit ((upA (upA (upA (fun _ => (0 : Int32)) 0 p2) 1 p3) 2 p4) 2)) A_b5_8) hZ (hw _ (List.mem_of_getElem? (i := 8) rfl)) (hw _ (List.mem_of_getElem? (i := 7) rfl)) (by decide) (by decide)) (g := (mkF m 62 #[.val (.int (3 : Int32)), .val (.int p2), .val (.int p3), .val (.int p4)] [(.ref b5)])) rfl (by rw [hml]; rfl) (argsL := [(.ref b5)]) (rest := []) (lenOf pd_3 rfl) rfl (by show 2 * 0 + _ ≤ _; exact Nat.le_of_eq rfl) (hb hby d1_62) (fun _ _ => ⟨rfl, e8, (by decide : 1 + 2 ≤ _), (by decide : 3 + 129 ≤ _)⟩)
  dsimp only [Pt.U, Pt.locs, Pt.cells, Pt.slots] at X9 l9 y9 z9 st9 hQ9
  subst l9 y9 z9
  obtain ⟨b9_0, b9_1, rfl, N9q, K9, sz9_0, sz9_1, Q9_0, Q9_1, Q9_2⟩ := hQ9
  have N9 := Fr.app N8 N9q
  have g_b9_0 : n0 ≤ b9_0 := Nat.le_trans Z8 sz9_0
  have sz_b9_0 : h0.size ≤ b9_0 := Nat.le_trans KK8.1 sz9_0
  have ne_b5_b9_0 : b5 ≠ b9_0 := Nat.ne_of_lt (Nat.lt_of_lt_of_le A_b5_8.lt sz9_0)
  have g_b9_1 : n0 ≤ b9_1 := Nat.le_trans Z8 sz9_1
  have sz_b9_1 : h0.size ≤ b9_1 := Nat.le_trans KK8.1 sz9_1
  have ne_b5_b9_1 : b5 ≠ b9_1 := Nat.ne_of_lt (Nat.lt_of_lt_of_le A_b5_8.lt sz9_1)
  have A_b5_9 := A_b5_8.keep K9 nin0
  have Z9 := Nat.le_trans Z8 K9.1
  have KK9 : Keep h0 T9.heap [] := KK8.trans K9 all0
  refine Go.step st9 ?_
  show Go p e below _ (T9.setTop (mkF m 65 #[.val (.int (3 : Int32)), .val (.int p2), .val (.int p3), .val (.int p4)] [(.ref b9_0)]))
  refine retGR X9 hx Bd.notSynchronized Bd.returns rfl rfl (hb hby d1_65) ?_ (by decide) (by decide)
  show Q1_3 Z p2 p3 p4 h0 n0 _ T9.heap _
  exact ⟨b9_0, b9_1, rfl, N9, KK9, sz_b9_0, sz_b9_1, Q9_0, Q9_1, Q9_2⟩

def cpW (g : Nat → Int32) (j : Nat) : Nat → Int64 := fun i => if i < j then f8 (g i) else 0
theorem cp0 (g : Nat → Int32) (n : Nat) : ∀ i, i < n → (fun i => Value.long ((fun _ => (0 : Int64)) i)) i = (fun i => Value.long (cpW g 0 i)) i := fun i _ => by simp [cpW]
theorem cpS (g : Nat → Int32) (j n : Nat) (hj : j < 2147483648) : ∀ i, i < n → (fun i => Value.long ((upA (cpW g j) (Int32.ofNat j).toNatClampNeg (f8 (g (Int32.ofNat j).toNatClampNeg))) i)) i = (fun i => Value.long (cpW g (j + 1) i)) i := fun i _ => by
  simp only [clamp_nat hj, upA, cpW]
  by_cases e : i = j
  · subst e; simp
  · by_cases e2 : i < j
    · simp [e, e2, show i < j + 1 by omega]
    · simp [e, e2, show ¬ i < j + 1 by omega]
theorem mx1 (n : Nat) (hn : n ≤ 128) : ¬ (f6 (1 : Int32) n.toInt32) < 0 ∧ (f6 (1 : Int32) n.toInt32).toNatClampNeg ≤ 128 ∧ (n ≤ (f6 (1 : Int32) n.toInt32).toNatClampNeg) := by
  have e := nat32 (k := n) (by omega)
  have e1 : (1 : Int32).toInt = 1 := by decide
  have h : 0 ≤ (f6 (1 : Int32) n.toInt32).toInt ∧ (f6 (1 : Int32) n.toInt32).toInt ≤ 128 ∧ n ≤ (f6 (1 : Int32) n.toInt32).toInt := by
    unfold f6; split
    · rename_i q; rw [Int32.lt_iff_toInt_lt] at q; omega
    · rename_i q; rw [Int32.lt_iff_toInt_lt] at q; omega
  have c := clamp_of h.1
  exact ⟨(nn_iff _).mpr h.1, by omega, by omega⟩

theorem d5_0 : decode prog_20_method_8_code 0 = .ok (.iconst 1, 1) := by decide +kernel
theorem d5_1 : decode prog_20_method_8_code 1 = .ok (.aload_n 0, 1) := by decide +kernel
theorem d5_2 : decode prog_20_method_8_code 2 = .ok (.getfield 9, 3) := by decide +kernel
theorem d5_5 : decode prog_20_method_8_code 5 = .ok (.arraylength, 1) := by decide +kernel
theorem d5_6 : decode prog_20_method_8_code 6 = .ok (.invokestatic 23, 3) := by decide +kernel
theorem d5_9 : decode prog_20_method_8_code 9 = .ok (.newarray .long, 2) := by decide +kernel
theorem d5_11 : decode prog_20_method_8_code 11 = .ok (.astore_n 1, 1) := by decide +kernel
theorem d5_12 : decode prog_20_method_8_code 12 = .ok (.iconst 0, 1) := by decide +kernel
theorem d5_13 : decode prog_20_method_8_code 13 = .ok (.istore_n 2, 1) := by decide +kernel
theorem d5_14 : decode prog_20_method_8_code 14 = .ok (.iload_n 2, 1) := by decide +kernel
theorem d5_15 : decode prog_20_method_8_code 15 = .ok (.aload_n 0, 1) := by decide +kernel
theorem d5_16 : decode prog_20_method_8_code 16 = .ok (.getfield 9, 3) := by decide +kernel
theorem d5_19 : decode prog_20_method_8_code 19 = .ok (.arraylength, 1) := by decide +kernel
theorem d5_20 : decode prog_20_method_8_code 20 = .ok (.if_icmp .ge 21, 3) := by decide +kernel
theorem d5_23 : decode prog_20_method_8_code 23 = .ok (.aload_n 1, 1) := by decide +kernel
theorem d5_24 : decode prog_20_method_8_code 24 = .ok (.iload_n 2, 1) := by decide +kernel
theorem d5_25 : decode prog_20_method_8_code 25 = .ok (.aload_n 0, 1) := by decide +kernel
theorem d5_26 : decode prog_20_method_8_code 26 = .ok (.getfield 9, 3) := by decide +kernel
theorem d5_29 : decode prog_20_method_8_code 29 = .ok (.iload_n 2, 1) := by decide +kernel
theorem d5_30 : decode prog_20_method_8_code 30 = .ok (.iaload, 1) := by decide +kernel
theorem d5_31 : decode prog_20_method_8_code 31 = .ok (.invokestatic 64, 3) := by decide +kernel
theorem pd_4 : parseMethodDescriptor "(I)J" = some ⟨[.int], some .long⟩ := by decide +kernel
theorem d5_34 : decode prog_20_method_8_code 34 = .ok (.lastore, 1) := by decide +kernel
theorem d5_35 : decode prog_20_method_8_code 35 = .ok (.iinc 2 1, 3) := by decide +kernel
theorem d5_38 : decode prog_20_method_8_code 38 = .ok (.goto (-24), 3) := by decide +kernel
theorem d5_41 : decode prog_20_method_8_code 41 = .ok (.aload_n 1, 1) := by decide +kernel
theorem d5_42 : decode prog_20_method_8_code 42 = .ok (.areturn, 1) := by decide +kernel
theorem ef_5 (m : MethodId) (a1 : Addr) : entryFrame m #[(.ref a1)] 3 = mkF m 0 #[.val (.ref a1), .unset, .unset] [] := by first | (simp [entryFrame, mkF, argsToLocals, Value.category]; done) | rfl
def Q5 (Z : State) (a1 : Addr) (o_words_a1 : Addr) (n_o_words_a1 : Nat) (g_o_words_a1f : Nat → Int32) (h0 : Heap) (n0 : Nat) (v : Option Value) (h : Heap) (L : List Loc) : Prop := ∃ (b4 : Addr), v = some (.ref b4) ∧ Fr n0 L ∧ Keep h0 h [] ∧ h0.size ≤ b4 ∧ Ary Z h b4 .long (f6 (1 : Int32) n_o_words_a1.toInt32).toNatClampNeg (fun i => .long ((cpW g_o_words_a1f n_o_words_a1) i))
set_option maxRecDepth 65536 in
set_option maxHeartbeats 40000000 in
theorem rm5 (l : Launch) (Z : State) (a0 : Array Value) (hw : ∀ d ∈ tables_1, d.before a0 Z = true) (ws : List Jvm.Cond) (a1 : Addr) (o_words_a1 : Addr) (n_o_words_a1 : Nat) (g_o_words_a1f : Nat → Int32) (h0 : Heap) (n0 : Nat) (Z0 : n0 ≤ h0.size) (hn : n_o_words_a1 ≤ 128) (F_words_a1 : Fld Z h0 a1 "com/example/menshen/menshen/core/PermissionSet" "words" "[I" (.ref o_words_a1)) (A_o_words_a1 : Ary Z h0 o_words_a1 .int n_o_words_a1 (fun i => .int (g_o_words_a1f i))) :
    MetFree l (⟨"com/example/menshen/menshen/core/PermissionSet", "words", "()[J"⟩ : MethodName) (head1 (Jvm.Cond.code (⟨"com/example/menshen/menshen/core/PermissionSet", "words", "()[J"⟩ : MethodName) prog_20_method_8_code 3 (some (.array .long)) :: ws) ({ frames := 1, cells := 1, slots := 128, locals := 14 } : Room)) (fun a U => a = #[(.ref a1)] ∧ Z.Warmed39 U.vm ∧ U.heap = h0) (fun _ _ _ _ _ => True) (fun _ U o U' => ∃ v L, o = .returned v ∧ Q5 Z a1 o_words_a1 n_o_words_a1 g_o_words_a1f h0 n0 v U'.heap L ∧ FrameEnd U o U' L ({ frames := 1, cells := 1, slots := 128, locals := 14 } : Room).cells ({ frames := 1, cells := 1, slots := 128, locals := 14 } : Room).slots) := by
  refine MetFree.of_bodySF (plainFor_of_name pn_0) hisR ?_
  intro p e s m args below meth c s₁ Bd hml0 hP hK
  obtain ⟨rfl, hZ, hh⟩ := hP
  have hx := Bd.exec
  have hby := Bd.bytes
  have hml : c.maxLocals = 3 := hml0
  have hown : s.vm.findClass "com/example/menshen/menshen/core/PermissionSet" = some m.cls := findClass_of_methodNamed Bd.named
  have hnm := (name_of_methodNamed Bd.named Bd.method).1
  have X0 : Stand p l e ({ frames := 1, cells := 1, slots := 128, locals := 14 } : Room) s m #[(.ref a1)] below meth c s₁ [] 0 0 := Stand.of_body Bd
  have e0 : s₁.heap = h0 := by rw [← hh, Bd.state]; rfl
  have N0 := Fr.nil n0
  refine Go.done (Go.step (fun t k => castTop (ef_5 m a1) k) ?_)
  have KK0 : Keep h0 h0 [] := Keep.refl _ _
  show Go p e below _ (s₁.setTop (mkF m 0 #[.val (.ref a1), .unset, .unset] []))
  refine Go.step (fun t k => XS.iconst X0.here hx rfl (hb hby d5_0)  k) ?_
  show Go p e below _ (s₁.setTop (mkF m 1 #[.val (.ref a1), .unset, .unset] [(.int (1 : Int32))]))
  refine Go.step (fun t k => XS.aloadN X0.here hx rfl (hb hby d5_1) rfl rfl k) ?_
  show Go p e below _ (s₁.setTop (mkF m 2 #[.val (.ref a1), .unset, .unset] [(.ref a1), (.int (1 : Int32))]))
  obtain ⟨T2, X2, e2, st2⟩ := getF X0 hx hZ hown (host := "") (Or.inl (hw _ (List.mem_of_getElem? (i := 17) rfl))) Via.refl e0 F_words_a1 (g := (mkF m 2 #[.val (.ref a1), .unset, .unset] [(.ref a1), (.int (1 : Int32))])) rfl rfl (hb hby d5_2)
  refine Go.step st2 ?_
  show Go p e below _ (T2.setTop (mkF m 5 #[.val (.ref a1), .unset, .unset] [(.ref o_words_a1), (.int (1 : Int32))]))
  refine Go.step (lenA X2 hx hZ e2 A_o_words_a1 (g := (mkF m 5 #[.val (.ref a1), .unset, .unset] [(.ref o_words_a1), (.int (1 : Int32))])) rfl rfl (hb hby d5_5)) ?_
  show Go p e below _ (T2.setTop (mkF m 6 #[.val (.ref a1), .unset, .unset] [(.int n_o_words_a1.toInt32), (.int (1 : Int32))]))
  obtain ⟨_, _, ⟨T3, L3, k3, n3⟩, -, X3, ⟨Lc3, hQ3, l3, y3, z3⟩, st3⟩ := Jvm.LawKit.callS X2 hx (y := (⟨"java/lang/Math", "max", "(II)I"⟩ : MethodName)) hown (mvT hZ (hw _ (List.mem_of_getElem? (i := 24) rfl))) (mvT hZ (hw _ (List.mem_of_getElem? (i := 25) rfl))) (mvT hZ (hw _ (List.mem_of_getElem? (i := 26) rfl))) (mvT hZ (hw _ (List.mem_of_getElem? (i := 27) rfl))) (by decide) (backOf (W := 0) (rm6 l Z a0 hw [] (1 : Int32) n_o_words_a1.toInt32 h0 n0 Z0) hZ (hw _ (List.mem_of_getElem? (i := 27) rfl)) (hw _ (List.mem_of_getElem? (i := 26) rfl)) (by decide) (by decide)) (g := (mkF m 6 #[.val (.ref a1), .unset, .unset] [(.int n_o_words_a1.toInt32), (.int (1 : Int32))])) rfl (by rw [hml]; rfl) (argsL := [(.int (1 : Int32)), (.int n_o_words_a1.toInt32)]) (rest := []) (lenOf pd_2 rfl) rfl (by show 2 * 0 + _ ≤ _; exact Nat.le_of_eq rfl) (hb hby d5_6) (fun _ _ => ⟨rfl, e2, (by decide : 0 + 0 ≤ _), (by decide : 0 + 0 ≤ _)⟩)
  dsimp only [Pt.U, Pt.locs, Pt.cells, Pt.slots] at X3 l3 y3 z3 st3 hQ3
  subst l3 y3 z3
  obtain ⟨rfl, N3q, e3⟩ := hQ3
  have N3 := Fr.app N0 N3q
  refine Go.step st3 ?_
  show Go p e below _ (T3.setTop (mkF m 9 #[.val (.ref a1), .unset, .unset] [(.int (f6 (1 : Int32) n_o_words_a1.toInt32))]))
  obtain ⟨T4, h4, k4, X4, e4, E4, A4, st4⟩ := newP X3 hx hZ (hw _ (List.mem_of_getElem? (i := 28) rfl)) e3 (g := (mkF m 9 #[.val (.ref a1), .unset, .unset] [(.int (f6 (1 : Int32) n_o_words_a1.toInt32))])) rfl (hb hby d5_9) rfl ((mx1 _ hn).1 : ¬ (f6 (1 : Int32) n_o_words_a1.toInt32) < 0) (cap := 128) ((mx1 _ hn).2.1 : (f6 (1 : Int32) n_o_words_a1.toInt32).toNatClampNeg ≤ 128) (by decide) (by decide) (by decide)
  obtain ⟨b4, g4⟩ : ∃ z, z = h0.size := ⟨_, rfl⟩
  rw [← g4] at A4 st4
  have g_b4 : n0 ≤ b4 := Nat.le_trans Z0 (Nat.le_of_eq g4.symm)
  have sz_b4 : h0.size ≤ b4 := Nat.le_trans KK0.1 (Nat.le_of_eq g4.symm)
  have ne_a1_b4 : a1 ≠ b4 := Nat.ne_of_lt (Nat.lt_of_lt_of_le F_words_a1.lt (Nat.le_of_eq g4.symm))
  have ne_o_words_a1_b4 : o_words_a1 ≠ b4 := Nat.ne_of_lt (Nat.lt_of_lt_of_le A_o_words_a1.lt (Nat.le_of_eq g4.symm))
  refine Go.step st4 ?_
  have F_words_a1_4 := F_words_a1.ext E4
  have A_o_words_a1_4 := A_o_words_a1.ext E4
  have Z4 := Nat.le_trans Z0 E4.1
  have KK4 : Keep h0 h4 [] := KK0.ext E4
  have A_b4_4 : Ary Z h4 b4 .long (f6 (1 : Int32) n_o_words_a1.toInt32).toNatClampNeg (fun i => .long ((fun _ => (0 : Int64)) i)) := Ary.mk A4 ((mx1 _ hn).1 : ¬ (f6 (1 : Int32) n_o_words_a1.toInt32) < 0) rfl
  show Go p e below _ (T4.setTop (mkF m 11 #[.val (.ref a1), .unset, .unset] [(.ref b4)]))
  refine Go.step (fun t k => XS.astoreN X4.here hx rfl (hb hby d5_11) rfl rfl (l' := #[.val (.ref a1), .val (.ref b4), .unset]) rfl k) ?_
  show Go p e below _ (T4.setTop (mkF m 12 #[.val (.ref a1), .val (.ref b4), .unset] []))
  refine Go.step (fun t k => XS.iconst X4.here hx rfl (hb hby d5_12)  k) ?_
  show Go p e below _ (T4.setTop (mkF m 13 #[.val (.ref a1), .val (.ref b4), .unset] [(.int (0 : Int32))]))
  refine Go.step (fun t k => XS.istoreN X4.here hx rfl (hb hby d5_13) rfl (l' := #[.val (.ref a1), .val (.ref b4), .val (.int (0 : Int32))]) rfl k) ?_
  show Go p e below _ (T4.setTop (mkF m 14 #[.val (.ref a1), .val (.ref b4), .val (.int (0 : Int32))] []))
  have LOOP14 : ∀ (mm : Nat) (j : Nat) (Tl5 : State) (Ll5 : List Loc) (hl5 : Heap) (hmm : n_o_words_a1 - j = mm) (hj : j ≤ n_o_words_a1) (Xl5 : Stand p l e ({ frames := 1, cells := 1, slots := 128, locals := 14 } : Room) s m #[(.ref a1)] below meth c Tl5 Ll5 1 128) (Nl5 : Fr n0 Ll5) (el5 : Tl5.heap = hl5) (KKl5 : Keep h0 hl5 []) (Zl5 : n0 ≤ hl5.size) (F_words_a1_l5 : Fld Z hl5 a1 "com/example/menshen/menshen/core/PermissionSet" "words" "[I" (.ref o_words_a1)) (A_o_words_a1_l5 : Ary Z hl5 o_words_a1 .int n_o_words_a1 (fun i => .int (g_o_words_a1f i))) (A_b4_l5 : Ary Z hl5 b4 .long (f6 (1 : Int32) n_o_words_a1.toInt32).toNatClampNeg (fun i => .long ((cpW g_o_words_a1f j) i))), Go p e below (FinQ below s (Q5 Z a1 o_words_a1 n_o_words_a1 g_o_words_a1f h0 n0) ({ frames := 1, cells := 1, slots := 128, locals := 14 } : Room).cells ({ frames := 1, cells := 1, slots := 128, locals := 14 } : Room).slots) (Tl5.setTop (mkF m 14 #[.val (.ref a1), .val (.ref b4), .val (.int (Int32.ofNat j))] [])) := by
    intro mm
    induction mm using Nat.strongRecOn with
    | _ mm ih =>
      intro j Tl5 Ll5 hl5 hmm hj Xl5 Nl5 el5 KKl5 Zl5 F_words_a1_l5 A_o_words_a1_l5 A_b4_l5
      show Go p e below _ (Tl5.setTop (mkF m 14 #[.val (.ref a1), .val (.ref b4), .val (.int (Int32.ofNat j))] []))
      refine Go.step (fun t k => XS.iloadN Xl5.here hx rfl (hb hby d5_14) rfl k) ?_
      show Go p e below _ (Tl5.setTop (mkF m 15 #[.val (.ref a1), .val (.ref b4), .val (.int (Int32.ofNat j))] [(.int (Int32.ofNat j))]))
      refine Go.step (fun t k => XS.aloadN Xl5.here hx rfl (hb hby d5_15) rfl rfl k) ?_
      show Go p e below _ (Tl5.setTop (mkF m 16 #[.val (.ref a1), .val (.ref b4), .val (.int (Int32.ofNat j))] [(.ref a1), (.int (Int32.ofNat j))]))
      obtain ⟨T6, X6, e6, st6⟩ := getF Xl5 hx hZ hown (host := "") (Or.inl (hw _ (List.mem_of_getElem? (i := 17) rfl))) Via.refl el5 F_words_a1_l5 (g := (mkF m 16 #[.val (.ref a1), .val (.ref b4), .val (.int (Int32.ofNat j))] [(.ref a1), (.int (Int32.ofNat j))])) rfl rfl (hb hby d5_16)
      refine Go.step st6 ?_
      show Go p e below _ (T6.setTop (mkF m 19 #[.val (.ref a1), .val (.ref b4), .val (.int (Int32.ofNat j))] [(.ref o_words_a1), (.int (Int32.ofNat j))]))
      refine Go.step (lenA X6 hx hZ e6 A_o_words_a1_l5 (g := (mkF m 19 #[.val (.ref a1), .val (.ref b4), .val (.int (Int32.ofNat j))] [(.ref o_words_a1), (.int (Int32.ofNat j))])) rfl rfl (hb hby d5_19)) ?_
      show Go p e below _ (T6.setTop (mkF m 20 #[.val (.ref a1), .val (.ref b4), .val (.int (Int32.ofNat j))] [(.int n_o_words_a1.toInt32), (.int (Int32.ofNat j))]))
      by_cases hc7 : (Int32.ofNat j) < n_o_words_a1.toInt32
      · refine Go.step (fun t k => XS.icmpNo X6.here hx rfl (hb hby d5_20) rfl (tlt hc7).2.1 k) ?_
        show Go p e below _ (T6.setTop (mkF m 23 #[.val (.ref a1), .val (.ref b4), .val (.int (Int32.ofNat j))] []))
        refine Go.step (fun t k => XS.aloadN X6.here hx rfl (hb hby d5_23) rfl rfl k) ?_
        show Go p e below _ (T6.setTop (mkF m 24 #[.val (.ref a1), .val (.ref b4), .val (.int (Int32.ofNat j))] [(.ref b4)]))
        refine Go.step (fun t k => XS.iloadN X6.here hx rfl (hb hby d5_24) rfl k) ?_
        show Go p e below _ (T6.setTop (mkF m 25 #[.val (.ref a1), .val (.ref b4), .val (.int (Int32.ofNat j))] [(.int (Int32.ofNat j)), (.ref b4)]))
        refine Go.step (fun t k => XS.aloadN X6.here hx rfl (hb hby d5_25) rfl rfl k) ?_
        show Go p e below _ (T6.setTop (mkF m 26 #[.val (.ref a1), .val (.ref b4), .val (.int (Int32.ofNat j))] [(.ref a1), (.int (Int32.ofNat j)), (.ref b4)]))
        obtain ⟨T8, X8, e8, st8⟩ := getF X6 hx hZ hown (host := "") (Or.inl (hw _ (List.mem_of_getElem? (i := 17) rfl))) Via.refl e6 F_words_a1_l5 (g := (mkF m 26 #[.val (.ref a1), .val (.ref b4), .val (.int (Int32.ofNat j))] [(.ref a1), (.int (Int32.ofNat j)), (.ref b4)])) rfl rfl (hb hby d5_26)
        refine Go.step st8 ?_
        show Go p e below _ (T8.setTop (mkF m 29 #[.val (.ref a1), .val (.ref b4), .val (.int (Int32.ofNat j))] [(.ref o_words_a1), (.int (Int32.ofNat j)), (.ref b4)]))
        refine Go.step (fun t k => XS.iloadN X8.here hx rfl (hb hby d5_29) rfl k) ?_
        show Go p e below _ (T8.setTop (mkF m 30 #[.val (.ref a1), .val (.ref b4), .val (.int (Int32.ofNat j))] [(.int (Int32.ofNat j)), (.ref o_words_a1), (.int (Int32.ofNat j)), (.ref b4)]))
        refine Go.step (ldI X8 hx hZ e8 A_o_words_a1_l5 (j := (Int32.ofNat j)) (of_nn (by omega)) (by rw [clamp_nat (by omega)]; have hjl := (of_lt (j := j) (n := n_o_words_a1) (by omega) (by omega)).mp (by assumption); exact hjl) (g := (mkF m 30 #[.val (.ref a1), .val (.ref b4), .val (.int (Int32.ofNat j))] [(.int (Int32.ofNat j)), (.ref o_words_a1), (.int (Int32.ofNat j)), (.ref b4)])) rfl rfl (hb hby d5_30)) ?_
        show Go p e below _ (T8.setTop (mkF m 31 #[.val (.ref a1), .val (.ref b4), .val (.int (Int32.ofNat j))] [(.int (g_o_words_a1f (Int32.ofNat j).toNatClampNeg)), (.int (Int32.ofNat j)), (.ref b4)]))
        obtain ⟨_, _, ⟨T9, L9, k9, n9⟩, -, X9, ⟨Lc9, hQ9, l9, y9, z9⟩, st9⟩ := Jvm.LawKit.callS X8 hx (y := (⟨"java/lang/Integer", "toUnsignedLong", "(I)J"⟩ : MethodName)) hown (mvT hZ (hw _ (List.mem_of_getElem? (i := 34) rfl))) (mvT hZ (hw _ (List.mem_of_getElem? (i := 35) rfl))) (mvT hZ (hw _ (List.mem_of_getElem? (i := 36) rfl))) (mvT hZ (hw _ (List.mem_of_getElem? (i := 37) rfl))) (by decide) (backOf (W := 2) (rm8 l Z a0 hw [] (g_o_words_a1f (Int32.ofNat j).toNatClampNeg) hl5 n0 Zl5) hZ (hw _ (List.mem_of_getElem? (i := 37) rfl)) (hw _ (List.mem_of_getElem? (i := 36) rfl)) (by decide) (by decide)) (g := (mkF m 31 #[.val (.ref a1), .val (.ref b4), .val (.int (Int32.ofNat j))] [(.int (g_o_words_a1f (Int32.ofNat j).toNatClampNeg)), (.int (Int32.ofNat j)), (.ref b4)])) rfl (by rw [hml]; rfl) (argsL := [(.int (g_o_words_a1f (Int32.ofNat j).toNatClampNeg))]) (rest := [(.int (Int32.ofNat j)), (.ref b4)]) (lenOf pd_4 rfl) rfl (by show 2 * 0 + _ ≤ _; exact Nat.le_of_eq rfl) (hb hby d5_31) (fun _ _ => ⟨rfl, e8, (by decide : 1 + 0 ≤ _), (by decide : 128 + 0 ≤ _)⟩)
        dsimp only [Pt.U, Pt.locs, Pt.cells, Pt.slots] at X9 l9 y9 z9 st9 hQ9
        subst l9 y9 z9
        obtain ⟨rfl, N9q, e9⟩ := hQ9
        have N9 := Fr.app Nl5 N9q
        refine Go.step st9 ?_
        show Go p e below _ (T9.setTop (mkF m 34 #[.val (.ref a1), .val (.ref b4), .val (.int (Int32.ofNat j))] [(.long (f8 (g_o_words_a1f (Int32.ofNat j).toNatClampNeg))), (.int (Int32.ofNat j)), (.ref b4)]))
        obtain ⟨cl10, Ar10, in10, -⟩ := A_b4_l5.hin (j := (Int32.ofNat j)) (of_nn (by omega)) (by rw [clamp_nat (by omega)]; have hjl := (of_lt (j := j) (n := n_o_words_a1) (by omega) (by omega)).mp (by assumption); exact Nat.lt_of_lt_of_le hjl (mx1 _ hn).2.2)
        obtain ⟨T10, h10, X10, e10, W10, st10⟩ := stJ X9 hx hZ e9 Ar10 in10 (g := (mkF m 34 #[.val (.ref a1), .val (.ref b4), .val (.int (Int32.ofNat j))] [(.long (f8 (g_o_words_a1f (Int32.ofNat j).toNatClampNeg))), (.int (Int32.ofNat j)), (.ref b4)])) rfl rfl (hb hby d5_34)
        refine Go.step st10 ?_
        have N10 := Fr.snoc X10 N9 g_b4
        have F_words_a1_10 := F_words_a1_l5.other W10 (Or.inl ne_a1_b4)
        have A_o_words_a1_10 := A_o_words_a1_l5.other W10 ne_o_words_a1_b4
        have Z10 := Nat.le_trans Zl5 (Keep.of_wr W10).1
        have KK10 : Keep h0 h10 [] := KKl5.wr W10 (Or.inr sz_b4)
        have A_b4_10 : Ary Z h10 b4 .long (f6 (1 : Int32) n_o_words_a1.toInt32).toNatClampNeg (fun i => .long ((upA (cpW g_o_words_a1f j) (Int32.ofNat j).toNatClampNeg (f8 (g_o_words_a1f (Int32.ofNat j).toNatClampNeg))) i)) := A_b4_l5.setJ W10 (by rw [clamp_nat (by omega)]; have hjl := (of_lt (j := j) (n := n_o_words_a1) (by omega) (by omega)).mp (by assumption); exact Nat.lt_of_lt_of_le hjl (mx1 _ hn).2.2)
        show Go p e below _ (T10.setTop (mkF m 35 #[.val (.ref a1), .val (.ref b4), .val (.int (Int32.ofNat j))] []))
        refine Go.step (fun t k => XS.iinc X10.here hx rfl (hb hby d5_35) rfl (l' := #[.val (.ref a1), .val (.ref b4), .val (.int ((Int32.ofNat j) + (1 : Int32)))]) rfl k) ?_
        show Go p e below _ (T10.setTop (mkF m 38 #[.val (.ref a1), .val (.ref b4), .val (.int ((Int32.ofNat j) + (1 : Int32)))] []))
        refine Go.step (fun t k => XS.goto X10.here hx rfl (pc0 := 38) (pc' := 14) rfl (hb hby d5_38) (by decide) (by decide) k) ?_
        show Go p e below _ (T10.setTop (mkF m 14 #[.val (.ref a1), .val (.ref b4), .val (.int ((Int32.ofNat j) + (1 : Int32)))] []))
        show Go p e below _ (T10.setTop (mkF m 14 #[.val (.ref a1), .val (.ref b4), .val (.int ((Int32.ofNat j) + (1 : Int32)))] []))
        have hjl : j < n_o_words_a1 := (of_lt (j := j) (n := n_o_words_a1) (by omega) (by omega)).mp (by assumption)
        rw [succ32]
        exact ih _ (by omega) (j + 1) _ _ _ rfl (by omega) X10 N10 e10 KK10 Z10 F_words_a1_10 A_o_words_a1_10 (A_b4_10.congr (cpS g_o_words_a1f j _ (by omega)))
      · refine Go.step (fun t k => XS.icmpYes X6.here hx rfl (pc0 := 20) (pc' := 41) rfl (hb hby d5_20) rfl (flt hc7).2.1 (by decide) (by decide) k) ?_
        show Go p e below _ (T6.setTop (mkF m 41 #[.val (.ref a1), .val (.ref b4), .val (.int (Int32.ofNat j))] []))
        have hjn : n_o_words_a1 = j := by have hnl : ¬ j < n_o_words_a1 := fun q => ‹¬ Int32.ofNat j < (n_o_words_a1).toInt32› ((of_lt (j := j) (n := n_o_words_a1) (by omega) (by omega)).mpr q); omega
        subst hjn
        show Go p e below _ (T6.setTop (mkF m 41 #[.val (.ref a1), .val (.ref b4), .val (.int (Int32.ofNat n_o_words_a1))] []))
        refine Go.step (fun t k => XS.aloadN X6.here hx rfl (hb hby d5_41) rfl rfl k) ?_
        show Go p e below _ (T6.setTop (mkF m 42 #[.val (.ref a1), .val (.ref b4), .val (.int (Int32.ofNat n_o_words_a1))] [(.ref b4)]))
        refine retGR X6 hx Bd.notSynchronized Bd.returns rfl rfl (hb hby d5_42) ?_ (by decide) (by decide)
        show Q5 Z a1 o_words_a1 n_o_words_a1 g_o_words_a1f h0 n0 _ T6.heap _
        rw [e6]
        exact ⟨b4, rfl, Nl5, KKl5, sz_b4, A_b4_l5⟩
  exact LOOP14 _ 0 _ _ _ rfl (Nat.zero_le _) X4 N3 e4 KK4 Z4 F_words_a1_4 A_o_words_a1_4 (A_b4_4.congr (cp0 g_o_words_a1f _))

theorem own_bit (x : Int32) : Bit (x &&& (4095 : Int32)) := by
  have h := c_mask x 4095 12 (by decide) (by decide)
  rw [show ((2 ^ 12 : Nat) : Int) = 4096 by decide] at h
  constructor <;> omega
theorem own_k (x : Int32) : (x &&& (3 : Int32)) = 0 ∨ (x &&& (3 : Int32)) = 1 ∨ (x &&& (3 : Int32)) = 2 ∨ (x &&& (3 : Int32)) = 3 := by
  have h := c_mask x 3 2 (by decide) (by decide)
  rw [show ((2 ^ 2 : Nat) : Int) = 4 by decide] at h
  simp only [← Int32.toInt_inj, show (0 : Int32).toInt = 0 by decide, show (1 : Int32).toInt = 1 by decide, show (2 : Int32).toInt = 2 by decide, show (3 : Int32).toInt = 3 by decide]
  omega
theorem own_dead (x v : Int32) (hv : v = x &&& (3 : Int32)) (h0 : ¬ v = 0) (h1 : ¬ v = 1) (h2 : ¬ v = 2) (h3 : ¬ v = 3) : False := by
  subst hv
  rcases own_k x with h | h | h | h
  · exact h0 h
  · exact h1 h
  · exact h2 h
  · exact h3 h
theorem own_ix (q : Int32) (n : Nat) (hn : n < 2147483648) (h : (q &&& (4095 : Int32)) / (32 : Int32) < n.toInt32) : ¬ ((q &&& (4095 : Int32)) / (32 : Int32)) < 0 ∧ ((q &&& (4095 : Int32)) / (32 : Int32)).toNatClampNeg < n := by
  have B := own_bit q
  have w := B.word
  have b1 := B.1
  have c := clamp_of (x := (q &&& (4095 : Int32)) / (32 : Int32)) (by omega)
  rw [Int32.lt_iff_toInt_lt, nat32 hn] at h
  exact ⟨(nn_iff _).mpr (by omega), by omega⟩

theorem pd_5 : parseMethodDescriptor "(IIII)Lcom/example/menshen/menshen/core/PermissionSet;" = some ⟨[.int, .int, .int, .int], some (.object "com/example/menshen/menshen/core/PermissionSet")⟩ := by decide +kernel
theorem pd_6 : parseMethodDescriptor "()[J" = some ⟨[], some (.array .long)⟩ := by decide +kernel
theorem ef_0 (m : MethodId) (p1 : Int32) (p2 : Int32) (p3 : Int32) (p4 : Int32) (p5 : Int32) : entryFrame m #[(.int p1), (.int p2), (.int p3), (.int p4), (.int p5)] maxLocals = mkF m 0 #[.val (.int p1), .val (.int p2), .val (.int p3), .val (.int p4), .val (.int p5), .unset, .unset, .unset, .unset, .unset, .unset, .unset, .unset, .unset, .unset, .unset, .unset, .unset, .unset] [] := by first | (simp [entryFrame, mkF, argsToLocals, Value.category, maxLocals]; done) | rfl
def f0 (p1 : Int32) (p2 : Int32) (p3 : Int32) (p4 : Int32) (p5 : Int32) : Int32 := (if (p1 &&& (3 : Int32)) = (0 : Int32) then (if (f6 (1 : Int32) (0 : Nat).toInt32).toNatClampNeg.toInt32 = (1 : Int32) then (if ((p5 &&& (4095 : Int32)) / (32 : Int32)) < (f6 (1 : Int32) (0 : Nat).toInt32).toNatClampNeg.toInt32 then (if ((cpW (fun _ => (0 : Int32)) (0 : Nat)) ((p5 &&& (4095 : Int32)) / (32 : Int32)).toNatClampNeg) < (0 : Int64) then (0 : Int32) else (if (4294967295 : Int64) < ((cpW (fun _ => (0 : Int32)) (0 : Nat)) ((p5 &&& (4095 : Int32)) / (32 : Int32)).toNatClampNeg) then (0 : Int32) else (if (if (((((cpW (fun _ => (0 : Int32)) (0 : Nat)) ((p5 &&& (4095 : Int32)) / (32 : Int32)).toNatClampNeg).toUInt64 >>> (((p5 &&& (4095 : Int32)) % (32 : Int32)) &&& 0x3f).toInt64.toUInt64).toInt64) &&& (1 : Int64)) = (0 : Int64) then (0 : Int32) else (1 : Int32)) = (0 : Int32) then (1 : Int32) else (0 : Int32)))) else (1 : Int32)) else (0 : Int32)) else (if (p1 &&& (3 : Int32)) = (1 : Int32) then (if (f6 (1 : Int32) (((f6 (-1 : Int32) (p2 &&& (4095 : Int32))) + (32 : Int32)) / (32 : Int32)).toNatClampNeg.toInt32).toNatClampNeg.toInt32 = (if (p2 &&& (4095 : Int32)) < (0 : Int32) then (1 : Int32) else (((p2 &&& (4095 : Int32)) / (32 : Int32)) + (1 : Int32))) then (if ((p5 &&& (4095 : Int32)) / (32 : Int32)) < (f6 (1 : Int32) (((f6 (-1 : Int32) (p2 &&& (4095 : Int32))) + (32 : Int32)) / (32 : Int32)).toNatClampNeg.toInt32).toNatClampNeg.toInt32 then (if ((cpW (orW (fun _ => (0 : Int32)) (p2 &&& (4095 : Int32))) (((f6 (-1 : Int32) (p2 &&& (4095 : Int32))) + (32 : Int32)) / (32 : Int32)).toNatClampNeg) ((p5 &&& (4095 : Int32)) / (32 : Int32)).toNatClampNeg) < (0 : Int64) then (0 : Int32) else (if (4294967295 : Int64) < ((cpW (orW (fun _ => (0 : Int32)) (p2 &&& (4095 : Int32))) (((f6 (-1 : Int32) (p2 &&& (4095 : Int32))) + (32 : Int32)) / (32 : Int32)).toNatClampNeg) ((p5 &&& (4095 : Int32)) / (32 : Int32)).toNatClampNeg) then (0 : Int32) else (if (if (((((cpW (orW (fun _ => (0 : Int32)) (p2 &&& (4095 : Int32))) (((f6 (-1 : Int32) (p2 &&& (4095 : Int32))) + (32 : Int32)) / (32 : Int32)).toNatClampNeg) ((p5 &&& (4095 : Int32)) / (32 : Int32)).toNatClampNeg).toUInt64 >>> (((p5 &&& (4095 : Int32)) % (32 : Int32)) &&& 0x3f).toInt64.toUInt64).toInt64) &&& (1 : Int64)) = (0 : Int64) then (0 : Int32) else (1 : Int32)) = (if (p5 &&& (4095 : Int32)) = (p2 &&& (4095 : Int32)) then (1 : Int32) else (0 : Int32)) then (1 : Int32) else (0 : Int32)))) else (if (if (p5 &&& (4095 : Int32)) = (p2 &&& (4095 : Int32)) then (1 : Int32) else (0 : Int32)) = (0 : Int32) then (1 : Int32) else (0 : Int32))) else (0 : Int32)) else (if (p1 &&& (3 : Int32)) = (2 : Int32) then (if (f6 (1 : Int32) (((f6 (f6 (-1 : Int32) (p2 &&& (4095 : Int32))) (p3 &&& (4095 : Int32))) + (32 : Int32)) / (32 : Int32)).toNatClampNeg.toInt32).toNatClampNeg.toInt32 = (if (f6 (p2 &&& (4095 : Int32)) (p3 &&& (4095 : Int32))) < (0 : Int32) then (1 : Int32) else (((f6 (p2 &&& (4095 : Int32)) (p3 &&& (4095 : Int32))) / (32 : Int32)) + (1 : Int32))) then (if ((p5 &&& (4095 : Int32)) / (32 : Int32)) < (f6 (1 : Int32) (((f6 (f6 (-1 : Int32) (p2 &&& (4095 : Int32))) (p3 &&& (4095 : Int32))) + (32 : Int32)) / (32 : Int32)).toNatClampNeg.toInt32).toNatClampNeg.toInt32 then (if ((cpW (orW (orW (fun _ => (0 : Int32)) (p2 &&& (4095 : Int32))) (p3 &&& (4095 : Int32))) (((f6 (f6 (-1 : Int32) (p2 &&& (4095 : Int32))) (p3 &&& (4095 : Int32))) + (32 : Int32)) / (32 : Int32)).toNatClampNeg) ((p5 &&& (4095 : Int32)) / (32 : Int32)).toNatClampNeg) < (0 : Int64) then (0 : Int32) else (if (4294967295 : Int64) < ((cpW (orW (orW (fun _ => (0 : Int32)) (p2 &&& (4095 : Int32))) (p3 &&& (4095 : Int32))) (((f6 (f6 (-1 : Int32) (p2 &&& (4095 : Int32))) (p3 &&& (4095 : Int32))) + (32 : Int32)) / (32 : Int32)).toNatClampNeg) ((p5 &&& (4095 : Int32)) / (32 : Int32)).toNatClampNeg) then (0 : Int32) else (if (if (((((cpW (orW (orW (fun _ => (0 : Int32)) (p2 &&& (4095 : Int32))) (p3 &&& (4095 : Int32))) (((f6 (f6 (-1 : Int32) (p2 &&& (4095 : Int32))) (p3 &&& (4095 : Int32))) + (32 : Int32)) / (32 : Int32)).toNatClampNeg) ((p5 &&& (4095 : Int32)) / (32 : Int32)).toNatClampNeg).toUInt64 >>> (((p5 &&& (4095 : Int32)) % (32 : Int32)) &&& 0x3f).toInt64.toUInt64).toInt64) &&& (1 : Int64)) = (0 : Int64) then (0 : Int32) else (1 : Int32)) = (if (p5 &&& (4095 : Int32)) = (p2 &&& (4095 : Int32)) then (1 : Int32) else (if (p5 &&& (4095 : Int32)) = (p3 &&& (4095 : Int32)) then (1 : Int32) else (0 : Int32))) then (1 : Int32) else (0 : Int32)))) else (if (if (p5 &&& (4095 : Int32)) = (p2 &&& (4095 : Int32)) then (1 : Int32) else (if (p5 &&& (4095 : Int32)) = (p3 &&& (4095 : Int32)) then (1 : Int32) else (0 : Int32))) = (0 : Int32) then (1 : Int32) else (0 : Int32))) else (0 : Int32)) else (if (f6 (1 : Int32) (((f6 (f6 (f6 (-1 : Int32) (p2 &&& (4095 : Int32))) (p3 &&& (4095 : Int32))) (p4 &&& (4095 : Int32))) + (32 : Int32)) / (32 : Int32)).toNatClampNeg.toInt32).toNatClampNeg.toInt32 = (if (f6 (f6 (p2 &&& (4095 : Int32)) (p3 &&& (4095 : Int32))) (p4 &&& (4095 : Int32))) < (0 : Int32) then (1 : Int32) else (((f6 (f6 (p2 &&& (4095 : Int32)) (p3 &&& (4095 : Int32))) (p4 &&& (4095 : Int32))) / (32 : Int32)) + (1 : Int32))) then (if ((p5 &&& (4095 : Int32)) / (32 : Int32)) < (f6 (1 : Int32) (((f6 (f6 (f6 (-1 : Int32) (p2 &&& (4095 : Int32))) (p3 &&& (4095 : Int32))) (p4 &&& (4095 : Int32))) + (32 : Int32)) / (32 : Int32)).toNatClampNeg.toInt32).toNatClampNeg.toInt32 then (if ((cpW (orW (orW (orW (fun _ => (0 : Int32)) (p2 &&& (4095 : Int32))) (p3 &&& (4095 : Int32))) (p4 &&& (4095 : Int32))) (((f6 (f6 (f6 (-1 : Int32) (p2 &&& (4095 : Int32))) (p3 &&& (4095 : Int32))) (p4 &&& (4095 : Int32))) + (32 : Int32)) / (32 : Int32)).toNatClampNeg) ((p5 &&& (4095 : Int32)) / (32 : Int32)).toNatClampNeg) < (0 : Int64) then (0 : Int32) else (if (4294967295 : Int64) < ((cpW (orW (orW (orW (fun _ => (0 : Int32)) (p2 &&& (4095 : Int32))) (p3 &&& (4095 : Int32))) (p4 &&& (4095 : Int32))) (((f6 (f6 (f6 (-1 : Int32) (p2 &&& (4095 : Int32))) (p3 &&& (4095 : Int32))) (p4 &&& (4095 : Int32))) + (32 : Int32)) / (32 : Int32)).toNatClampNeg) ((p5 &&& (4095 : Int32)) / (32 : Int32)).toNatClampNeg) then (0 : Int32) else (if (if (((((cpW (orW (orW (orW (fun _ => (0 : Int32)) (p2 &&& (4095 : Int32))) (p3 &&& (4095 : Int32))) (p4 &&& (4095 : Int32))) (((f6 (f6 (f6 (-1 : Int32) (p2 &&& (4095 : Int32))) (p3 &&& (4095 : Int32))) (p4 &&& (4095 : Int32))) + (32 : Int32)) / (32 : Int32)).toNatClampNeg) ((p5 &&& (4095 : Int32)) / (32 : Int32)).toNatClampNeg).toUInt64 >>> (((p5 &&& (4095 : Int32)) % (32 : Int32)) &&& 0x3f).toInt64.toUInt64).toInt64) &&& (1 : Int64)) = (0 : Int64) then (0 : Int32) else (1 : Int32)) = (if (p5 &&& (4095 : Int32)) = (p2 &&& (4095 : Int32)) then (1 : Int32) else (if (p5 &&& (4095 : Int32)) = (p3 &&& (4095 : Int32)) then (1 : Int32) else (if (p5 &&& (4095 : Int32)) = (p4 &&& (4095 : Int32)) then (1 : Int32) else (0 : Int32)))) then (1 : Int32) else (0 : Int32)))) else (if (if (p5 &&& (4095 : Int32)) = (p2 &&& (4095 : Int32)) then (1 : Int32) else (if (p5 &&& (4095 : Int32)) = (p3 &&& (4095 : Int32)) then (1 : Int32) else (if (p5 &&& (4095 : Int32)) = (p4 &&& (4095 : Int32)) then (1 : Int32) else (0 : Int32)))) = (0 : Int32) then (1 : Int32) else (0 : Int32))) else (0 : Int32)))))
set_option maxRecDepth 65536 in
set_option maxHeartbeats 40000000 in
theorem rm0 (l : Launch) (Z : State) (a0 : Array Value) (hw : ∀ d ∈ tables_1, d.before a0 Z = true) (ws : List Jvm.Cond) (p1 : Int32) (p2 : Int32) (p3 : Int32) (p4 : Int32) (p5 : Int32) (h0 : Heap) (n0 : Nat) (Z0 : n0 ≤ h0.size) :
    MetFree l x (head1 (Jvm.Cond.code x code maxLocals ret :: ws) room_1) (fun a U => a = #[(.int p1), (.int p2), (.int p3), (.int p4), (.int p5)] ∧ Z.Warmed39 U.vm ∧ U.heap = h0) (fun _ _ _ _ _ => True) (fun _ U o U' => ∃ v L, o = .returned v ∧ QL (.int (f0 p1 p2 p3 p4 p5)) n0 v U'.heap L ∧ FrameEnd U o U' L room_1.cells room_1.slots) := by
  refine MetFree.of_bodySF (plainFor_of_name pn_2) hisR ?_
  intro p e s m args below meth c s₁ Bd hml0 hP hK
  obtain ⟨rfl, hZ, hh⟩ := hP
  have hx := Bd.exec
  have hby := Bd.bytes
  have hml : c.maxLocals = 19 := hml0
  have hown : s.vm.findClass "com/example/menshen/menshen/core/PermissionSetOfPinLaw" = some m.cls := findClass_of_methodNamed Bd.named
  have hnm := (name_of_methodNamed Bd.named Bd.method).1
  have X0 : Stand p l e room_1 s m #[(.int p1), (.int p2), (.int p3), (.int p4), (.int p5)] below meth c s₁ [] 0 0 := Stand.of_body Bd
  have e0 : s₁.heap = h0 := by rw [← hh, Bd.state]; rfl
  have N0 := Fr.nil n0
  refine Go.done (Go.step (fun t k => castTop (ef_0 m p1 p2 p3 p4 p5) k) ?_)
  have KK0 : Keep h0 h0 [] := Keep.refl _ _
  show Go p e below _ (s₁.setTop (mkF m 0 #[.val (.int p1), .val (.int p2), .val (.int p3), .val (.int p4), .val (.int p5), .unset, .unset, .unset, .unset, .unset, .unset, .unset, .unset, .unset, .unset, .unset, .unset, .unset, .unset] []))
  refine Go.step (fun t k => XS.iloadN X0.here hx rfl (hb hby at_0) rfl k) ?_
  show Go p e below _ (s₁.setTop (mkF m 1 #[.val (.int p1), .val (.int p2), .val (.int p3), .val (.int p4), .val (.int p5), .unset, .unset, .unset, .unset, .unset, .unset, .unset, .unset, .unset, .unset, .unset, .unset, .unset, .unset] [(.int p1)]))
  refine Go.step (fun t k => XS.iconst X0.here hx rfl (hb hby at_1)  k) ?_
  show Go p e below _ (s₁.setTop (mkF m 2 #[.val (.int p1), .val (.int p2), .val (.int p3), .val (.int p4), .val (.int p5), .unset, .unset, .unset, .unset, .unset, .unset, .unset, .unset, .unset, .unset, .unset, .unset, .unset, .unset] [(.int (3 : Int32)), (.int p1)]))
  refine Go.step (fun t k => XS.iand X0.here hx rfl (hb hby at_2) rfl k) ?_
  show Go p e below _ (s₁.setTop (mkF m 3 #[.val (.int p1), .val (.int p2), .val (.int p3), .val (.int p4), .val (.int p5), .unset, .unset, .unset, .unset, .unset, .unset, .unset, .unset, .unset, .unset, .unset, .unset, .unset, .unset] [(.int (p1 &&& (3 : Int32)))]))
  obtain ⟨v6, hv6⟩ : ∃ z : Int32, z = (p1 &&& (3 : Int32)) := ⟨_, rfl⟩
  rw [← hv6]
  show Go p e below _ (s₁.setTop (mkF m 3 #[.val (.int p1), .val (.int p2), .val (.int p3), .val (.int p4), .val (.int p5), .unset, .unset, .unset, .unset, .unset, .unset, .unset, .unset, .unset, .unset, .unset, .unset, .unset, .unset] [(.int v6)]))
  refine Go.step (fun t k => XS.istore X0.here hx rfl (hb hby at_3) rfl (l' := #[.val (.int p1), .val (.int p2), .val (.int p3), .val (.int p4), .val (.int p5), .val (.int v6), .unset, .unset, .unset, .unset, .unset, .unset, .unset, .unset, .unset, .unset, .unset, .unset, .unset]) rfl k) ?_
  show Go p e below _ (s₁.setTop (mkF m 5 #[.val (.int p1), .val (.int p2), .val (.int p3), .val (.int p4), .val (.int p5), .val (.int v6), .unset, .unset, .unset, .unset, .unset, .unset, .unset, .unset, .unset, .unset, .unset, .unset, .unset] []))
  refine Go.step (fun t k => XS.iloadN X0.here hx rfl (hb hby at_5) rfl k) ?_
  show Go p e below _ (s₁.setTop (mkF m 6 #[.val (.int p1), .val (.int p2), .val (.int p3), .val (.int p4), .val (.int p5), .val (.int v6), .unset, .unset, .unset, .unset, .unset, .unset, .unset, .unset, .unset, .unset, .unset, .unset, .unset] [(.int p2)]))
  refine Go.step (fun t k => XS.sipush X0.here hx rfl (hb hby at_6)  k) ?_
  show Go p e below _ (s₁.setTop (mkF m 9 #[.val (.int p1), .val (.int p2), .val (.int p3), .val (.int p4), .val (.int p5), .val (.int v6), .unset, .unset, .unset, .unset, .unset, .unset, .unset, .unset, .unset, .unset, .unset, .unset, .unset] [(.int (4095 : Int32)), (.int p2)]))
  refine Go.step (fun t k => XS.iand X0.here hx rfl (hb hby at_9) rfl k) ?_
  show Go p e below _ (s₁.setTop (mkF m 10 #[.val (.int p1), .val (.int p2), .val (.int p3), .val (.int p4), .val (.int p5), .val (.int v6), .unset, .unset, .unset, .unset, .unset, .unset, .unset, .unset, .unset, .unset, .unset, .unset, .unset] [(.int (p2 &&& (4095 : Int32)))]))
  obtain ⟨v7, hv7⟩ : ∃ z : Int32, z = (p2 &&& (4095 : Int32)) := ⟨_, rfl⟩
  rw [← hv7]
  show Go p e below _ (s₁.setTop (mkF m 10 #[.val (.int p1), .val (.int p2), .val (.int p3), .val (.int p4), .val (.int p5), .val (.int v6), .unset, .unset, .unset, .unset, .unset, .unset, .unset, .unset, .unset, .unset, .unset, .unset, .unset] [(.int v7)]))
  refine Go.step (fun t k => XS.istore X0.here hx rfl (hb hby at_10) rfl (l' := #[.val (.int p1), .val (.int p2), .val (.int p3), .val (.int p4), .val (.int p5), .val (.int v6), .val (.int v7), .unset, .unset, .unset, .unset, .unset, .unset, .unset, .unset, .unset, .unset, .unset, .unset]) rfl k) ?_
  show Go p e below _ (s₁.setTop (mkF m 12 #[.val (.int p1), .val (.int p2), .val (.int p3), .val (.int p4), .val (.int p5), .val (.int v6), .val (.int v7), .unset, .unset, .unset, .unset, .unset, .unset, .unset, .unset, .unset, .unset, .unset, .unset] []))
  refine Go.step (fun t k => XS.iloadN X0.here hx rfl (hb hby at_12) rfl k) ?_
  show Go p e below _ (s₁.setTop (mkF m 13 #[.val (.int p1), .val (.int p2), .val (.int p3), .val (.int p4), .val (.int p5), .val (.int v6), .val (.int v7), .unset, .unset, .unset, .unset, .unset, .unset, .unset, .unset, .unset, .unset, .unset, .unset] [(.int p3)]))
  refine Go.step (fun t k => XS.sipush X0.here hx rfl (hb hby at_13)  k) ?_
  show Go p e below _ (s₁.setTop (mkF m 16 #[.val (.int p1), .val (.int p2), .val (.int p3), .val (.int p4), .val (.int p5), .val (.int v6), .val (.int v7), .unset, .unset, .unset, .unset, .unset, .unset, .unset, .unset, .unset, .unset, .unset, .unset] [(.int (4095 : Int32)), (.int p3)]))
  refine Go.step (fun t k => XS.iand X0.here hx rfl (hb hby at_16) rfl k) ?_
  show Go p e below _ (s₁.setTop (mkF m 17 #[.val (.int p1), .val (.int p2), .val (.int p3), .val (.int p4), .val (.int p5), .val (.int v6), .val (.int v7), .unset, .unset, .unset, .unset, .unset, .unset, .unset, .unset, .unset, .unset, .unset, .unset] [(.int (p3 &&& (4095 : Int32)))]))
  obtain ⟨v8, hv8⟩ : ∃ z : Int32, z = (p3 &&& (4095 : Int32)) := ⟨_, rfl⟩
  rw [← hv8]
  show Go p e below _ (s₁.setTop (mkF m 17 #[.val (.int p1), .val (.int p2), .val (.int p3), .val (.int p4), .val (.int p5), .val (.int v6), .val (.int v7), .unset, .unset, .unset, .unset, .unset, .unset, .unset, .unset, .unset, .unset, .unset, .unset] [(.int v8)]))
  refine Go.step (fun t k => XS.istore X0.here hx rfl (hb hby at_17) rfl (l' := #[.val (.int p1), .val (.int p2), .val (.int p3), .val (.int p4), .val (.int p5), .val (.int v6), .val (.int v7), .val (.int v8), .unset, .unset, .unset, .unset, .unset, .unset, .unset, .unset, .unset, .unset, .unset]) rfl k) ?_
  show Go p e below _ (s₁.setTop (mkF m 19 #[.val (.int p1), .val (.int p2), .val (.int p3), .val (.int p4), .val (.int p5), .val (.int v6), .val (.int v7), .val (.int v8), .unset, .unset, .unset, .unset, .unset, .unset, .unset, .unset, .unset, .unset, .unset] []))
  refine Go.step (fun t k => XS.iloadN X0.here hx rfl (hb hby at_19) rfl k) ?_
  show Go p e below _ (s₁.setTop (mkF m 20 #[.val (.int p1), .val (.int p2), .val (.int p3), .val (.int p4), .val (.int p5), .val (.int v6), .val (.int v7), .val (.int v8), .unset, .unset, .unset, .unset, .unset, .unset, .unset, .unset, .unset, .unset, .unset] [(.int p4)]))
  refine Go.step (fun t k => XS.sipush X0.here hx rfl (hb hby at_20)  k) ?_
  show Go p e below _ (s₁.setTop (mkF m 23 #[.val (.int p1), .val (.int p2), .val (.int p3), .val (.int p4), .val (.int p5), .val (.int v6), .val (.int v7), .val (.int v8), .unset, .unset, .unset, .unset, .unset, .unset, .unset, .unset, .unset, .unset, .unset] [(.int (4095 : Int32)), (.int p4)]))
  refine Go.step (fun t k => XS.iand X0.here hx rfl (hb hby at_23) rfl k) ?_
  show Go p e below _ (s₁.setTop (mkF m 24 #[.val (.int p1), .val (.int p2), .val (.int p3), .val (.int p4), .val (.int p5), .val (.int v6), .val (.int v7), .val (.int v8), .unset, .unset, .unset, .unset, .unset, .unset, .unset, .unset, .unset, .unset, .unset] [(.int (p4 &&& (4095 : Int32)))]))
  obtain ⟨v9, hv9⟩ : ∃ z : Int32, z = (p4 &&& (4095 : Int32)) := ⟨_, rfl⟩
  rw [← hv9]
  show Go p e below _ (s₁.setTop (mkF m 24 #[.val (.int p1), .val (.int p2), .val (.int p3), .val (.int p4), .val (.int p5), .val (.int v6), .val (.int v7), .val (.int v8), .unset, .unset, .unset, .unset, .unset, .unset, .unset, .unset, .unset, .unset, .unset] [(.int v9)]))
  refine Go.step (fun t k => XS.istore X0.here hx rfl (hb hby at_24) rfl (l' := #[.val (.int p1), .val (.int p2), .val (.int p3), .val (.int p4), .val (.int p5), .val (.int v6), .val (.int v7), .val (.int v8), .val (.int v9), .unset, .unset, .unset, .unset, .unset, .unset, .unset, .unset, .unset, .unset]) rfl k) ?_
  show Go p e below _ (s₁.setTop (mkF m 26 #[.val (.int p1), .val (.int p2), .val (.int p3), .val (.int p4), .val (.int p5), .val (.int v6), .val (.int v7), .val (.int v8), .val (.int v9), .unset, .unset, .unset, .unset, .unset, .unset, .unset, .unset, .unset, .unset] []))
  refine Go.step (fun t k => XS.iload X0.here hx rfl (hb hby at_26) rfl k) ?_
  show Go p e below _ (s₁.setTop (mkF m 28 #[.val (.int p1), .val (.int p2), .val (.int p3), .val (.int p4), .val (.int p5), .val (.int v6), .val (.int v7), .val (.int v8), .val (.int v9), .unset, .unset, .unset, .unset, .unset, .unset, .unset, .unset, .unset, .unset] [(.int p5)]))
  refine Go.step (fun t k => XS.sipush X0.here hx rfl (hb hby at_28)  k) ?_
  show Go p e below _ (s₁.setTop (mkF m 31 #[.val (.int p1), .val (.int p2), .val (.int p3), .val (.int p4), .val (.int p5), .val (.int v6), .val (.int v7), .val (.int v8), .val (.int v9), .unset, .unset, .unset, .unset, .unset, .unset, .unset, .unset, .unset, .unset] [(.int (4095 : Int32)), (.int p5)]))
  refine Go.step (fun t k => XS.iand X0.here hx rfl (hb hby at_31) rfl k) ?_
  show Go p e below _ (s₁.setTop (mkF m 32 #[.val (.int p1), .val (.int p2), .val (.int p3), .val (.int p4), .val (.int p5), .val (.int v6), .val (.int v7), .val (.int v8), .val (.int v9), .unset, .unset, .unset, .unset, .unset, .unset, .unset, .unset, .unset, .unset] [(.int (p5 &&& (4095 : Int32)))]))
  obtain ⟨v10, hv10⟩ : ∃ z : Int32, z = (p5 &&& (4095 : Int32)) := ⟨_, rfl⟩
  rw [← hv10]
  show Go p e below _ (s₁.setTop (mkF m 32 #[.val (.int p1), .val (.int p2), .val (.int p3), .val (.int p4), .val (.int p5), .val (.int v6), .val (.int v7), .val (.int v8), .val (.int v9), .unset, .unset, .unset, .unset, .unset, .unset, .unset, .unset, .unset, .unset] [(.int v10)]))
  refine Go.step (fun t k => XS.istore X0.here hx rfl (hb hby at_32) rfl (l' := #[.val (.int p1), .val (.int p2), .val (.int p3), .val (.int p4), .val (.int p5), .val (.int v6), .val (.int v7), .val (.int v8), .val (.int v9), .val (.int v10), .unset, .unset, .unset, .unset, .unset, .unset, .unset, .unset, .unset]) rfl k) ?_
  show Go p e below _ (s₁.setTop (mkF m 34 #[.val (.int p1), .val (.int p2), .val (.int p3), .val (.int p4), .val (.int p5), .val (.int v6), .val (.int v7), .val (.int v8), .val (.int v9), .val (.int v10), .unset, .unset, .unset, .unset, .unset, .unset, .unset, .unset, .unset] []))
  by_cases hc11 : v6 = (0 : Int32)
  · rw [hc11]
    show Go p e below _ (s₁.setTop (mkF m 34 #[.val (.int p1), .val (.int p2), .val (.int p3), .val (.int p4), .val (.int p5), .val (.int (0 : Int32)), .val (.int v7), .val (.int v8), .val (.int v9), .val (.int v10), .unset, .unset, .unset, .unset, .unset, .unset, .unset, .unset, .unset] []))
    refine Go.step (fun t k => XS.iload X0.here hx rfl (hb hby at_34) rfl k) ?_
    show Go p e below _ (s₁.setTop (mkF m 36 #[.val (.int p1), .val (.int p2), .val (.int p3), .val (.int p4), .val (.int p5), .val (.int (0 : Int32)), .val (.int v7), .val (.int v8), .val (.int v9), .val (.int v10), .unset, .unset, .unset, .unset, .unset, .unset, .unset, .unset, .unset] [(.int (0 : Int32))]))
    refine Go.step (fun t k => XS.iload X0.here hx rfl (hb hby at_36) rfl k) ?_
    show Go p e below _ (s₁.setTop (mkF m 38 #[.val (.int p1), .val (.int p2), .val (.int p3), .val (.int p4), .val (.int p5), .val (.int (0 : Int32)), .val (.int v7), .val (.int v8), .val (.int v9), .val (.int v10), .unset, .unset, .unset, .unset, .unset, .unset, .unset, .unset, .unset] [(.int v7), (.int (0 : Int32))]))
    refine Go.step (fun t k => XS.iload X0.here hx rfl (hb hby at_38) rfl k) ?_
    show Go p e below _ (s₁.setTop (mkF m 40 #[.val (.int p1), .val (.int p2), .val (.int p3), .val (.int p4), .val (.int p5), .val (.int (0 : Int32)), .val (.int v7), .val (.int v8), .val (.int v9), .val (.int v10), .unset, .unset, .unset, .unset, .unset, .unset, .unset, .unset, .unset] [(.int v8), (.int v7), (.int (0 : Int32))]))
    refine Go.step (fun t k => XS.iload X0.here hx rfl (hb hby at_40) rfl k) ?_
    show Go p e below _ (s₁.setTop (mkF m 42 #[.val (.int p1), .val (.int p2), .val (.int p3), .val (.int p4), .val (.int p5), .val (.int (0 : Int32)), .val (.int v7), .val (.int v8), .val (.int v9), .val (.int v10), .unset, .unset, .unset, .unset, .unset, .unset, .unset, .unset, .unset] [(.int v9), (.int v8), (.int v7), (.int (0 : Int32))]))
    obtain ⟨_, _, ⟨T12, L12, k12, n12⟩, -, X12, ⟨Lc12, hQ12, l12, y12, z12⟩, st12⟩ := Jvm.LawKit.callS X0 hx (y := (⟨"com/example/menshen/menshen/core/PermissionSetOfPinLaw", "build", "(IIII)Lcom/example/menshen/menshen/core/PermissionSet;"⟩ : MethodName)) hown (mvT hZ (hw _ (List.mem_of_getElem? (i := 0) rfl))) (mvT hZ (hw _ (List.mem_of_getElem? (i := 1) rfl))) (mvT hZ (hw _ (List.mem_of_getElem? (i := 2) rfl))) (mvT hZ (hw _ (List.mem_of_getElem? (i := 3) rfl))) (by decide) (backOf (W := 0) (rm1_0 l Z a0 hw [] v7 v8 v9 h0 n0 Z0) hZ (hw _ (List.mem_of_getElem? (i := 3) rfl)) (hw _ (List.mem_of_getElem? (i := 2) rfl)) (by decide) (by decide)) (g := (mkF m 42 #[.val (.int p1), .val (.int p2), .val (.int p3), .val (.int p4), .val (.int p5), .val (.int (0 : Int32)), .val (.int v7), .val (.int v8), .val (.int v9), .val (.int v10), .unset, .unset, .unset, .unset, .unset, .unset, .unset, .unset, .unset] [(.int v9), (.int v8), (.int v7), (.int (0 : Int32))])) rfl (by rw [hml]; rfl) (argsL := [(.int (0 : Int32)), (.int v7), (.int v8), (.int v9)]) (rest := []) (lenOf pd_5 rfl) rfl (by show 2 * 0 + _ ≤ _; exact Nat.le_of_eq rfl) (hb hby at_42) (fun _ _ => ⟨rfl, e0, (by decide : 0 + 3 ≤ _), (by decide : 0 + 1 ≤ _)⟩)
    dsimp only [Pt.U, Pt.locs, Pt.cells, Pt.slots] at X12 l12 y12 z12 st12 hQ12
    subst l12 y12 z12
    obtain ⟨b12_0, b12_1, rfl, N12q, K12, sz12_0, sz12_1, Q12_0, Q12_1, Q12_2⟩ := hQ12
    have N12 := Fr.app N0 N12q
    have g_b12_0 : n0 ≤ b12_0 := Nat.le_trans Z0 sz12_0
    have sz_b12_0 : h0.size ≤ b12_0 := Nat.le_trans KK0.1 sz12_0
    have g_b12_1 : n0 ≤ b12_1 := Nat.le_trans Z0 sz12_1
    have sz_b12_1 : h0.size ≤ b12_1 := Nat.le_trans KK0.1 sz12_1
    have Z12 := Nat.le_trans Z0 K12.1
    have KK12 : Keep h0 T12.heap [] := KK0.trans K12 all0
    refine Go.step st12 ?_
    show Go p e below _ (T12.setTop (mkF m 45 #[.val (.int p1), .val (.int p2), .val (.int p3), .val (.int p4), .val (.int p5), .val (.int (0 : Int32)), .val (.int v7), .val (.int v8), .val (.int v9), .val (.int v10), .unset, .unset, .unset, .unset, .unset, .unset, .unset, .unset, .unset] [(.ref b12_0)]))
    refine Go.step (fun t k => XS.astore X12.here hx rfl (hb hby at_45) rfl rfl (l' := #[.val (.int p1), .val (.int p2), .val (.int p3), .val (.int p4), .val (.int p5), .val (.int (0 : Int32)), .val (.int v7), .val (.int v8), .val (.int v9), .val (.int v10), .val (.ref b12_0), .unset, .unset, .unset, .unset, .unset, .unset, .unset, .unset]) rfl k) ?_
    show Go p e below _ (T12.setTop (mkF m 47 #[.val (.int p1), .val (.int p2), .val (.int p3), .val (.int p4), .val (.int p5), .val (.int (0 : Int32)), .val (.int v7), .val (.int v8), .val (.int v9), .val (.int v10), .val (.ref b12_0), .unset, .unset, .unset, .unset, .unset, .unset, .unset, .unset] []))
    refine Go.step (fun t k => XS.iconst X12.here hx rfl (hb hby at_47)  k) ?_
    show Go p e below _ (T12.setTop (mkF m 48 #[.val (.int p1), .val (.int p2), .val (.int p3), .val (.int p4), .val (.int p5), .val (.int (0 : Int32)), .val (.int v7), .val (.int v8), .val (.int v9), .val (.int v10), .val (.ref b12_0), .unset, .unset, .unset, .unset, .unset, .unset, .unset, .unset] [(.int (-1 : Int32))]))
    refine Go.step (fun t k => XS.istore X12.here hx rfl (hb hby at_48) rfl (l' := #[.val (.int p1), .val (.int p2), .val (.int p3), .val (.int p4), .val (.int p5), .val (.int (0 : Int32)), .val (.int v7), .val (.int v8), .val (.int v9), .val (.int v10), .val (.ref b12_0), .val (.int (-1 : Int32)), .unset, .unset, .unset, .unset, .unset, .unset, .unset]) rfl k) ?_
    show Go p e below _ (T12.setTop (mkF m 50 #[.val (.int p1), .val (.int p2), .val (.int p3), .val (.int p4), .val (.int p5), .val (.int (0 : Int32)), .val (.int v7), .val (.int v8), .val (.int v9), .val (.int v10), .val (.ref b12_0), .val (.int (-1 : Int32)), .unset, .unset, .unset, .unset, .unset, .unset, .unset] []))
    refine Go.step (fun t k => XS.iload X12.here hx rfl (hb hby at_50) rfl k) ?_
    show Go p e below _ (T12.setTop (mkF m 52 #[.val (.int p1), .val (.int p2), .val (.int p3), .val (.int p4), .val (.int p5), .val (.int (0 : Int32)), .val (.int v7), .val (.int v8), .val (.int v9), .val (.int v10), .val (.ref b12_0), .val (.int (-1 : Int32)), .unset, .unset, .unset, .unset, .unset, .unset, .unset] [(.int (0 : Int32))]))
    refine Go.step (fun t k => XS.iconst X12.here hx rfl (hb hby at_52)  k) ?_
    show Go p e below _ (T12.setTop (mkF m 53 #[.val (.int p1), .val (.int p2), .val (.int p3), .val (.int p4), .val (.int p5), .val (.int (0 : Int32)), .val (.int v7), .val (.int v8), .val (.int v9), .val (.int v10), .val (.ref b12_0), .val (.int (-1 : Int32)), .unset, .unset, .unset, .unset, .unset, .unset, .unset] [(.int (1 : Int32)), (.int (0 : Int32))]))
    refine Go.step (fun t k => XS.icmpYes X12.here hx rfl (pc0 := 53) (pc' := 60) rfl (hb hby at_53) rfl (tlt (by decide : (0 : Int32) < (1 : Int32))).1 (by decide) (by decide) k) ?_
    show Go p e below _ (T12.setTop (mkF m 60 #[.val (.int p1), .val (.int p2), .val (.int p3), .val (.int p4), .val (.int p5), .val (.int (0 : Int32)), .val (.int v7), .val (.int v8), .val (.int v9), .val (.int v10), .val (.ref b12_0), .val (.int (-1 : Int32)), .unset, .unset, .unset, .unset, .unset, .unset, .unset] []))
    refine Go.step (fun t k => XS.iload X12.here hx rfl (hb hby at_60) rfl k) ?_
    show Go p e below _ (T12.setTop (mkF m 62 #[.val (.int p1), .val (.int p2), .val (.int p3), .val (.int p4), .val (.int p5), .val (.int (0 : Int32)), .val (.int v7), .val (.int v8), .val (.int v9), .val (.int v10), .val (.ref b12_0), .val (.int (-1 : Int32)), .unset, .unset, .unset, .unset, .unset, .unset, .unset] [(.int (0 : Int32))]))
    refine Go.step (fun t k => XS.iconst X12.here hx rfl (hb hby at_62)  k) ?_
    show Go p e below _ (T12.setTop (mkF m 63 #[.val (.int p1), .val (.int p2), .val (.int p3), .val (.int p4), .val (.int p5), .val (.int (0 : Int32)), .val (.int v7), .val (.int v8), .val (.int v9), .val (.int v10), .val (.ref b12_0), .val (.int (-1 : Int32)), .unset, .unset, .unset, .unset, .unset, .unset, .unset] [(.int (2 : Int32)), (.int (0 : Int32))]))
    refine Go.step (fun t k => XS.icmpYes X12.here hx rfl (pc0 := 63) (pc' := 75) rfl (hb hby at_63) rfl (tlt (by decide : (0 : Int32) < (2 : Int32))).1 (by decide) (by decide) k) ?_
    show Go p e below _ (T12.setTop (mkF m 75 #[.val (.int p1), .val (.int p2), .val (.int p3), .val (.int p4), .val (.int p5), .val (.int (0 : Int32)), .val (.int v7), .val (.int v8), .val (.int v9), .val (.int v10), .val (.ref b12_0), .val (.int (-1 : Int32)), .unset, .unset, .unset, .unset, .unset, .unset, .unset] []))
    refine Go.step (fun t k => XS.iload X12.here hx rfl (hb hby at_75) rfl k) ?_
    show Go p e below _ (T12.setTop (mkF m 77 #[.val (.int p1), .val (.int p2), .val (.int p3), .val (.int p4), .val (.int p5), .val (.int (0 : Int32)), .val (.int v7), .val (.int v8), .val (.int v9), .val (.int v10), .val (.ref b12_0), .val (.int (-1 : Int32)), .unset, .unset, .unset, .unset, .unset, .unset, .unset] [(.int (0 : Int32))]))
    refine Go.step (fun t k => XS.iconst X12.here hx rfl (hb hby at_77)  k) ?_
    show Go p e below _ (T12.setTop (mkF m 78 #[.val (.int p1), .val (.int p2), .val (.int p3), .val (.int p4), .val (.int p5), .val (.int (0 : Int32)), .val (.int v7), .val (.int v8), .val (.int v9), .val (.int v10), .val (.ref b12_0), .val (.int (-1 : Int32)), .unset, .unset, .unset, .unset, .unset, .unset, .unset] [(.int (3 : Int32)), (.int (0 : Int32))]))
    refine Go.step (fun t k => XS.icmpYes X12.here hx rfl (pc0 := 78) (pc' := 90) rfl (hb hby at_78) rfl (tlt (by decide : (0 : Int32) < (3 : Int32))).1 (by decide) (by decide) k) ?_
    show Go p e below _ (T12.setTop (mkF m 90 #[.val (.int p1), .val (.int p2), .val (.int p3), .val (.int p4), .val (.int p5), .val (.int (0 : Int32)), .val (.int v7), .val (.int v8), .val (.int v9), .val (.int v10), .val (.ref b12_0), .val (.int (-1 : Int32)), .unset, .unset, .unset, .unset, .unset, .unset, .unset] []))
    refine Go.step (fun t k => XS.iload X12.here hx rfl (hb hby at_90) rfl k) ?_
    show Go p e below _ (T12.setTop (mkF m 92 #[.val (.int p1), .val (.int p2), .val (.int p3), .val (.int p4), .val (.int p5), .val (.int (0 : Int32)), .val (.int v7), .val (.int v8), .val (.int v9), .val (.int v10), .val (.ref b12_0), .val (.int (-1 : Int32)), .unset, .unset, .unset, .unset, .unset, .unset, .unset] [(.int (-1 : Int32))]))
    refine Go.step (fun t k => XS.ifNo X12.here hx rfl (hb hby at_92) rfl ((if0 _ _).trans (tlt (by decide : (-1 : Int32) < (0 : Int32))).2.1) k) ?_
    show Go p e below _ (T12.setTop (mkF m 95 #[.val (.int p1), .val (.int p2), .val (.int p3), .val (.int p4), .val (.int p5), .val (.int (0 : Int32)), .val (.int v7), .val (.int v8), .val (.int v9), .val (.int v10), .val (.ref b12_0), .val (.int (-1 : Int32)), .unset, .unset, .unset, .unset, .unset, .unset, .unset] []))
    refine Go.step (fun t k => XS.iconst X12.here hx rfl (hb hby at_95)  k) ?_
    show Go p e below _ (T12.setTop (mkF m 96 #[.val (.int p1), .val (.int p2), .val (.int p3), .val (.int p4), .val (.int p5), .val (.int (0 : Int32)), .val (.int v7), .val (.int v8), .val (.int v9), .val (.int v10), .val (.ref b12_0), .val (.int (-1 : Int32)), .unset, .unset, .unset, .unset, .unset, .unset, .unset] [(.int (1 : Int32))]))
    refine Go.step (fun t k => XS.goto X12.here hx rfl (pc0 := 96) (pc' := 106) rfl (hb hby at_96) (by decide) (by decide) k) ?_
    show Go p e below _ (T12.setTop (mkF m 106 #[.val (.int p1), .val (.int p2), .val (.int p3), .val (.int p4), .val (.int p5), .val (.int (0 : Int32)), .val (.int v7), .val (.int v8), .val (.int v9), .val (.int v10), .val (.ref b12_0), .val (.int (-1 : Int32)), .unset, .unset, .unset, .unset, .unset, .unset, .unset] [(.int (1 : Int32))]))
    refine Go.step (fun t k => XS.istore X12.here hx rfl (hb hby at_106) rfl (l' := #[.val (.int p1), .val (.int p2), .val (.int p3), .val (.int p4), .val (.int p5), .val (.int (0 : Int32)), .val (.int v7), .val (.int v8), .val (.int v9), .val (.int v10), .val (.ref b12_0), .val (.int (-1 : Int32)), .val (.int (1 : Int32)), .unset, .unset, .unset, .unset, .unset, .unset]) rfl k) ?_
    show Go p e below _ (T12.setTop (mkF m 108 #[.val (.int p1), .val (.int p2), .val (.int p3), .val (.int p4), .val (.int p5), .val (.int (0 : Int32)), .val (.int v7), .val (.int v8), .val (.int v9), .val (.int v10), .val (.ref b12_0), .val (.int (-1 : Int32)), .val (.int (1 : Int32)), .unset, .unset, .unset, .unset, .unset, .unset] []))
    refine Go.step (fun t k => XS.aload X12.here hx rfl (hb hby at_108) rfl rfl k) ?_
    show Go p e below _ (T12.setTop (mkF m 110 #[.val (.int p1), .val (.int p2), .val (.int p3), .val (.int p4), .val (.int p5), .val (.int (0 : Int32)), .val (.int v7), .val (.int v8), .val (.int v9), .val (.int v10), .val (.ref b12_0), .val (.int (-1 : Int32)), .val (.int (1 : Int32)), .unset, .unset, .unset, .unset, .unset, .unset] [(.ref b12_0)]))
    obtain ⟨cq13, kq13, q13a, q13b, q13c⟩ := isOf hZ rfl Q12_1
    obtain ⟨_, _, ⟨T13, L13, k13, n13⟩, -, X13, ⟨Lc13, hQ13, l13, y13, z13⟩, st13⟩ := X12.virtualBack hx (y := (⟨"com/example/menshen/menshen/core/PermissionSet", "words", "()[J"⟩ : MethodName)) (z := (⟨"com/example/menshen/menshen/core/PermissionSet", "words", "()[J"⟩ : MethodName)) hown (mvT hZ (hw _ (List.mem_of_getElem? (i := 19) rfl))) (mvT hZ (hw _ (List.mem_of_getElem? (i := 20) rfl))) (notFace_of_selects (args := #[]) (mvT hZ (hw _ (List.mem_of_getElem? (i := 22) rfl)))) (mvT hZ (hw _ (List.mem_of_getElem? (i := 22) rfl))) (mvT hZ (hw _ (List.mem_of_getElem? (i := 21) rfl))) (by decide) (backOf (W := 0) (rm5 l Z a0 hw [] b12_0 b12_1 (0 : Nat) (fun _ => (0 : Int32)) T12.heap n0 Z12 ((Nat.zero_le _) : (0 : Nat) ≤ 128) Q12_2 Q12_0) hZ (hw _ (List.mem_of_getElem? (i := 23) rfl)) (hw _ (List.mem_of_getElem? (i := 7) rfl)) (by decide) (by decide)) q13a q13c (g := (mkF m 110 #[.val (.int p1), .val (.int p2), .val (.int p3), .val (.int p4), .val (.int p5), .val (.int (0 : Int32)), .val (.int v7), .val (.int v8), .val (.int v9), .val (.int v10), .val (.ref b12_0), .val (.int (-1 : Int32)), .val (.int (1 : Int32)), .unset, .unset, .unset, .unset, .unset, .unset] [(.ref b12_0)])) rfl (by rw [hml]; rfl) (Steps.refl _) (argsL := []) (rest := []) (lenOf pd_6 rfl) rfl (by show 2 * 0 + _ ≤ _; exact Nat.le_of_eq rfl) (hb hby at_110) (fun _ _ => ⟨rfl, rfl, (by decide : 3 + 1 ≤ _), (by decide : 1 + 128 ≤ _)⟩)
    dsimp only [Pt.U, Pt.locs, Pt.cells, Pt.slots] at X13 l13 y13 z13 st13 hQ13
    subst l13 y13 z13
    obtain ⟨b13_0, rfl, N13q, K13, sz13_0, Q13_0⟩ := hQ13
    have N13 := Fr.app N12 N13q
    have g_b13_0 : n0 ≤ b13_0 := Nat.le_trans Z12 sz13_0
    have sz_b13_0 : h0.size ≤ b13_0 := Nat.le_trans KK12.1 sz13_0
    have ne_b12_1_b13_0 : b12_1 ≠ b13_0 := Nat.ne_of_lt (Nat.lt_of_lt_of_le Q12_0.lt sz13_0)
    have ne_b12_0_b13_0 : b12_0 ≠ b13_0 := Nat.ne_of_lt (Nat.lt_of_lt_of_le Q12_1.lt sz13_0)
    have A_b12_1_13 := Q12_0.keep K13 nin0
    have E_b12_0_13 := Q12_1.keep K13
    have F_words_b12_0_13 := Q12_2.keep K13 nin0
    have Z13 := Nat.le_trans Z12 K13.1
    have KK13 : Keep h0 T13.heap [] := KK12.trans K13 all0
    refine Go.trans st13 ?_
    show Go p e below _ (T13.setTop (mkF m 113 #[.val (.int p1), .val (.int p2), .val (.int p3), .val (.int p4), .val (.int p5), .val (.int (0 : Int32)), .val (.int v7), .val (.int v8), .val (.int v9), .val (.int v10), .val (.ref b12_0), .val (.int (-1 : Int32)), .val (.int (1 : Int32)), .unset, .unset, .unset, .unset, .unset, .unset] [(.ref b13_0)]))
    refine Go.step (fun t k => XS.astore X13.here hx rfl (hb hby at_113) rfl rfl (l' := #[.val (.int p1), .val (.int p2), .val (.int p3), .val (.int p4), .val (.int p5), .val (.int (0 : Int32)), .val (.int v7), .val (.int v8), .val (.int v9), .val (.int v10), .val (.ref b12_0), .val (.int (-1 : Int32)), .val (.int (1 : Int32)), .val (.ref b13_0), .unset, .unset, .unset, .unset, .unset]) rfl k) ?_
    show Go p e below _ (T13.setTop (mkF m 115 #[.val (.int p1), .val (.int p2), .val (.int p3), .val (.int p4), .val (.int p5), .val (.int (0 : Int32)), .val (.int v7), .val (.int v8), .val (.int v9), .val (.int v10), .val (.ref b12_0), .val (.int (-1 : Int32)), .val (.int (1 : Int32)), .val (.ref b13_0), .unset, .unset, .unset, .unset, .unset] []))
    refine Go.step (fun t k => XS.aload X13.here hx rfl (hb hby at_115) rfl rfl k) ?_
    show Go p e below _ (T13.setTop (mkF m 117 #[.val (.int p1), .val (.int p2), .val (.int p3), .val (.int p4), .val (.int p5), .val (.int (0 : Int32)), .val (.int v7), .val (.int v8), .val (.int v9), .val (.int v10), .val (.ref b12_0), .val (.int (-1 : Int32)), .val (.int (1 : Int32)), .val (.ref b13_0), .unset, .unset, .unset, .unset, .unset] [(.ref b13_0)]))
    refine Go.step (lenA X13 hx hZ rfl Q13_0 (g := (mkF m 117 #[.val (.int p1), .val (.int p2), .val (.int p3), .val (.int p4), .val (.int p5), .val (.int (0 : Int32)), .val (.int v7), .val (.int v8), .val (.int v9), .val (.int v10), .val (.ref b12_0), .val (.int (-1 : Int32)), .val (.int (1 : Int32)), .val (.ref b13_0), .unset, .unset, .unset, .unset, .unset] [(.ref b13_0)])) rfl rfl (hb hby at_117)) ?_
    show Go p e below _ (T13.setTop (mkF m 118 #[.val (.int p1), .val (.int p2), .val (.int p3), .val (.int p4), .val (.int p5), .val (.int (0 : Int32)), .val (.int v7), .val (.int v8), .val (.int v9), .val (.int v10), .val (.ref b12_0), .val (.int (-1 : Int32)), .val (.int (1 : Int32)), .val (.ref b13_0), .unset, .unset, .unset, .unset, .unset] [(.int (f6 (1 : Int32) (0 : Nat).toInt32).toNatClampNeg.toInt32)]))
    refine Go.step (fun t k => XS.iload X13.here hx rfl (hb hby at_118) rfl k) ?_
    show Go p e below _ (T13.setTop (mkF m 120 #[.val (.int p1), .val (.int p2), .val (.int p3), .val (.int p4), .val (.int p5), .val (.int (0 : Int32)), .val (.int v7), .val (.int v8), .val (.int v9), .val (.int v10), .val (.ref b12_0), .val (.int (-1 : Int32)), .val (.int (1 : Int32)), .val (.ref b13_0), .unset, .unset, .unset, .unset, .unset] [(.int (1 : Int32)), (.int (f6 (1 : Int32) (0 : Nat).toInt32).toNatClampNeg.toInt32)]))
    by_cases hc14 : (f6 (1 : Int32) (0 : Nat).toInt32).toNatClampNeg.toInt32 = (1 : Int32)
    · refine Go.step (fun t k => XS.icmpYes X13.here hx rfl (pc0 := 120) (pc' := 125) rfl (hb hby at_120) rfl (teq hc14).1 (by decide) (by decide) k) ?_
      show Go p e below _ (T13.setTop (mkF m 125 #[.val (.int p1), .val (.int p2), .val (.int p3), .val (.int p4), .val (.int p5), .val (.int (0 : Int32)), .val (.int v7), .val (.int v8), .val (.int v9), .val (.int v10), .val (.ref b12_0), .val (.int (-1 : Int32)), .val (.int (1 : Int32)), .val (.ref b13_0), .unset, .unset, .unset, .unset, .unset] []))
      refine Go.step (fun t k => XS.iload X13.here hx rfl (hb hby at_125) rfl k) ?_
      show Go p e below _ (T13.setTop (mkF m 127 #[.val (.int p1), .val (.int p2), .val (.int p3), .val (.int p4), .val (.int p5), .val (.int (0 : Int32)), .val (.int v7), .val (.int v8), .val (.int v9), .val (.int v10), .val (.ref b12_0), .val (.int (-1 : Int32)), .val (.int (1 : Int32)), .val (.ref b13_0), .unset, .unset, .unset, .unset, .unset] [(.int (0 : Int32))]))
      refine Go.step (fun t k => XS.iconst X13.here hx rfl (hb hby at_127)  k) ?_
      show Go p e below _ (T13.setTop (mkF m 128 #[.val (.int p1), .val (.int p2), .val (.int p3), .val (.int p4), .val (.int p5), .val (.int (0 : Int32)), .val (.int v7), .val (.int v8), .val (.int v9), .val (.int v10), .val (.ref b12_0), .val (.int (-1 : Int32)), .val (.int (1 : Int32)), .val (.ref b13_0), .unset, .unset, .unset, .unset, .unset] [(.int (1 : Int32)), (.int (0 : Int32))]))
      refine Go.step (fun t k => XS.icmpYes X13.here hx rfl (pc0 := 128) (pc' := 138) rfl (hb hby at_128) rfl (tlt (by decide : (0 : Int32) < (1 : Int32))).1 (by decide) (by decide) k) ?_
      show Go p e below _ (T13.setTop (mkF m 138 #[.val (.int p1), .val (.int p2), .val (.int p3), .val (.int p4), .val (.int p5), .val (.int (0 : Int32)), .val (.int v7), .val (.int v8), .val (.int v9), .val (.int v10), .val (.ref b12_0), .val (.int (-1 : Int32)), .val (.int (1 : Int32)), .val (.ref b13_0), .unset, .unset, .unset, .unset, .unset] []))
      refine Go.step (fun t k => XS.iload X13.here hx rfl (hb hby at_138) rfl k) ?_
      show Go p e below _ (T13.setTop (mkF m 140 #[.val (.int p1), .val (.int p2), .val (.int p3), .val (.int p4), .val (.int p5), .val (.int (0 : Int32)), .val (.int v7), .val (.int v8), .val (.int v9), .val (.int v10), .val (.ref b12_0), .val (.int (-1 : Int32)), .val (.int (1 : Int32)), .val (.ref b13_0), .unset, .unset, .unset, .unset, .unset] [(.int (0 : Int32))]))
      refine Go.step (fun t k => XS.iconst X13.here hx rfl (hb hby at_140)  k) ?_
      show Go p e below _ (T13.setTop (mkF m 141 #[.val (.int p1), .val (.int p2), .val (.int p3), .val (.int p4), .val (.int p5), .val (.int (0 : Int32)), .val (.int v7), .val (.int v8), .val (.int v9), .val (.int v10), .val (.ref b12_0), .val (.int (-1 : Int32)), .val (.int (1 : Int32)), .val (.ref b13_0), .unset, .unset, .unset, .unset, .unset] [(.int (2 : Int32)), (.int (0 : Int32))]))
      refine Go.step (fun t k => XS.icmpYes X13.here hx rfl (pc0 := 141) (pc' := 151) rfl (hb hby at_141) rfl (tlt (by decide : (0 : Int32) < (2 : Int32))).1 (by decide) (by decide) k) ?_
      show Go p e below _ (T13.setTop (mkF m 151 #[.val (.int p1), .val (.int p2), .val (.int p3), .val (.int p4), .val (.int p5), .val (.int (0 : Int32)), .val (.int v7), .val (.int v8), .val (.int v9), .val (.int v10), .val (.ref b12_0), .val (.int (-1 : Int32)), .val (.int (1 : Int32)), .val (.ref b13_0), .unset, .unset, .unset, .unset, .unset] []))
      refine Go.step (fun t k => XS.iload X13.here hx rfl (hb hby at_151) rfl k) ?_
      show Go p e below _ (T13.setTop (mkF m 153 #[.val (.int p1), .val (.int p2), .val (.int p3), .val (.int p4), .val (.int p5), .val (.int (0 : Int32)), .val (.int v7), .val (.int v8), .val (.int v9), .val (.int v10), .val (.ref b12_0), .val (.int (-1 : Int32)), .val (.int (1 : Int32)), .val (.ref b13_0), .unset, .unset, .unset, .unset, .unset] [(.int (0 : Int32))]))
      refine Go.step (fun t k => XS.iconst X13.here hx rfl (hb hby at_153)  k) ?_
      show Go p e below _ (T13.setTop (mkF m 154 #[.val (.int p1), .val (.int p2), .val (.int p3), .val (.int p4), .val (.int p5), .val (.int (0 : Int32)), .val (.int v7), .val (.int v8), .val (.int v9), .val (.int v10), .val (.ref b12_0), .val (.int (-1 : Int32)), .val (.int (1 : Int32)), .val (.ref b13_0), .unset, .unset, .unset, .unset, .unset] [(.int (3 : Int32)), (.int (0 : Int32))]))
      refine Go.step (fun t k => XS.icmpYes X13.here hx rfl (pc0 := 154) (pc' := 168) rfl (hb hby at_154) rfl (tlt (by decide : (0 : Int32) < (3 : Int32))).1 (by decide) (by decide) k) ?_
      show Go p e below _ (T13.setTop (mkF m 168 #[.val (.int p1), .val (.int p2), .val (.int p3), .val (.int p4), .val (.int p5), .val (.int (0 : Int32)), .val (.int v7), .val (.int v8), .val (.int v9), .val (.int v10), .val (.ref b12_0), .val (.int (-1 : Int32)), .val (.int (1 : Int32)), .val (.ref b13_0), .unset, .unset, .unset, .unset, .unset] []))
      refine Go.step (fun t k => XS.iconst X13.here hx rfl (hb hby at_168)  k) ?_
      show Go p e below _ (T13.setTop (mkF m 169 #[.val (.int p1), .val (.int p2), .val (.int p3), .val (.int p4), .val (.int p5), .val (.int (0 : Int32)), .val (.int v7), .val (.int v8), .val (.int v9), .val (.int v10), .val (.ref b12_0), .val (.int (-1 : Int32)), .val (.int (1 : Int32)), .val (.ref b13_0), .unset, .unset, .unset, .unset, .unset] [(.int (0 : Int32))]))
      refine Go.step (fun t k => XS.istore X13.here hx rfl (hb hby at_169) rfl (l' := #[.val (.int p1), .val (.int p2), .val (.int p3), .val (.int p4), .val (.int p5), .val (.int (0 : Int32)), .val (.int v7), .val (.int v8), .val (.int v9), .val (.int v10), .val (.ref b12_0), .val (.int (-1 : Int32)), .val (.int (1 : Int32)), .val (.ref b13_0), .val (.int (0 : Int32)), .unset, .unset, .unset, .unset]) rfl k) ?_
      show Go p e below _ (T13.setTop (mkF m 171 #[.val (.int p1), .val (.int p2), .val (.int p3), .val (.int p4), .val (.int p5), .val (.int (0 : Int32)), .val (.int v7), .val (.int v8), .val (.int v9), .val (.int v10), .val (.ref b12_0), .val (.int (-1 : Int32)), .val (.int (1 : Int32)), .val (.ref b13_0), .val (.int (0 : Int32)), .unset, .unset, .unset, .unset] []))
      refine Go.step (fun t k => XS.iload X13.here hx rfl (hb hby at_171) rfl k) ?_
      show Go p e below _ (T13.setTop (mkF m 173 #[.val (.int p1), .val (.int p2), .val (.int p3), .val (.int p4), .val (.int p5), .val (.int (0 : Int32)), .val (.int v7), .val (.int v8), .val (.int v9), .val (.int v10), .val (.ref b12_0), .val (.int (-1 : Int32)), .val (.int (1 : Int32)), .val (.ref b13_0), .val (.int (0 : Int32)), .unset, .unset, .unset, .unset] [(.int v10)]))
      refine Go.step (fun t k => XS.bipush X13.here hx rfl (hb hby at_173)  k) ?_
      show Go p e below _ (T13.setTop (mkF m 175 #[.val (.int p1), .val (.int p2), .val (.int p3), .val (.int p4), .val (.int p5), .val (.int (0 : Int32)), .val (.int v7), .val (.int v8), .val (.int v9), .val (.int v10), .val (.ref b12_0), .val (.int (-1 : Int32)), .val (.int (1 : Int32)), .val (.ref b13_0), .val (.int (0 : Int32)), .unset, .unset, .unset, .unset] [(.int (32 : Int32)), (.int v10)]))
      refine Go.step (fun t k => XS.idiv X13.here hx rfl (hb hby at_175) rfl (by decide) k) ?_
      show Go p e below _ (T13.setTop (mkF m 176 #[.val (.int p1), .val (.int p2), .val (.int p3), .val (.int p4), .val (.int p5), .val (.int (0 : Int32)), .val (.int v7), .val (.int v8), .val (.int v9), .val (.int v10), .val (.ref b12_0), .val (.int (-1 : Int32)), .val (.int (1 : Int32)), .val (.ref b13_0), .val (.int (0 : Int32)), .unset, .unset, .unset, .unset] [(.int (v10 / (32 : Int32)))]))
      obtain ⟨v15, hv15⟩ : ∃ z : Int32, z = (v10 / (32 : Int32)) := ⟨_, rfl⟩
      rw [← hv15]
      show Go p e below _ (T13.setTop (mkF m 176 #[.val (.int p1), .val (.int p2), .val (.int p3), .val (.int p4), .val (.int p5), .val (.int (0 : Int32)), .val (.int v7), .val (.int v8), .val (.int v9), .val (.int v10), .val (.ref b12_0), .val (.int (-1 : Int32)), .val (.int (1 : Int32)), .val (.ref b13_0), .val (.int (0 : Int32)), .unset, .unset, .unset, .unset] [(.int v15)]))
      refine Go.step (fun t k => XS.istore X13.here hx rfl (hb hby at_176) rfl (l' := #[.val (.int p1), .val (.int p2), .val (.int p3), .val (.int p4), .val (.int p5), .val (.int (0 : Int32)), .val (.int v7), .val (.int v8), .val (.int v9), .val (.int v10), .val (.ref b12_0), .val (.int (-1 : Int32)), .val (.int (1 : Int32)), .val (.ref b13_0), .val (.int (0 : Int32)), .val (.int v15), .unset, .unset, .unset]) rfl k) ?_
      show Go p e below _ (T13.setTop (mkF m 178 #[.val (.int p1), .val (.int p2), .val (.int p3), .val (.int p4), .val (.int p5), .val (.int (0 : Int32)), .val (.int v7), .val (.int v8), .val (.int v9), .val (.int v10), .val (.ref b12_0), .val (.int (-1 : Int32)), .val (.int (1 : Int32)), .val (.ref b13_0), .val (.int (0 : Int32)), .val (.int v15), .unset, .unset, .unset] []))
      refine Go.step (fun t k => XS.iload X13.here hx rfl (hb hby at_178) rfl k) ?_
      show Go p e below _ (T13.setTop (mkF m 180 #[.val (.int p1), .val (.int p2), .val (.int p3), .val (.int p4), .val (.int p5), .val (.int (0 : Int32)), .val (.int v7), .val (.int v8), .val (.int v9), .val (.int v10), .val (.ref b12_0), .val (.int (-1 : Int32)), .val (.int (1 : Int32)), .val (.ref b13_0), .val (.int (0 : Int32)), .val (.int v15), .unset, .unset, .unset] [(.int v15)]))
      refine Go.step (fun t k => XS.aload X13.here hx rfl (hb hby at_180) rfl rfl k) ?_
      show Go p e below _ (T13.setTop (mkF m 182 #[.val (.int p1), .val (.int p2), .val (.int p3), .val (.int p4), .val (.int p5), .val (.int (0 : Int32)), .val (.int v7), .val (.int v8), .val (.int v9), .val (.int v10), .val (.ref b12_0), .val (.int (-1 : Int32)), .val (.int (1 : Int32)), .val (.ref b13_0), .val (.int (0 : Int32)), .val (.int v15), .unset, .unset, .unset] [(.ref b13_0), (.int v15)]))
      refine Go.step (lenA X13 hx hZ rfl Q13_0 (g := (mkF m 182 #[.val (.int p1), .val (.int p2), .val (.int p3), .val (.int p4), .val (.int p5), .val (.int (0 : Int32)), .val (.int v7), .val (.int v8), .val (.int v9), .val (.int v10), .val (.ref b12_0), .val (.int (-1 : Int32)), .val (.int (1 : Int32)), .val (.ref b13_0), .val (.int (0 : Int32)), .val (.int v15), .unset, .unset, .unset] [(.ref b13_0), (.int v15)])) rfl rfl (hb hby at_182)) ?_
      show Go p e below _ (T13.setTop (mkF m 183 #[.val (.int p1), .val (.int p2), .val (.int p3), .val (.int p4), .val (.int p5), .val (.int (0 : Int32)), .val (.int v7), .val (.int v8), .val (.int v9), .val (.int v10), .val (.ref b12_0), .val (.int (-1 : Int32)), .val (.int (1 : Int32)), .val (.ref b13_0), .val (.int (0 : Int32)), .val (.int v15), .unset, .unset, .unset] [(.int (f6 (1 : Int32) (0 : Nat).toInt32).toNatClampNeg.toInt32), (.int v15)]))
      by_cases hc16 : v15 < (f6 (1 : Int32) (0 : Nat).toInt32).toNatClampNeg.toInt32
      · refine Go.step (fun t k => XS.icmpYes X13.here hx rfl (pc0 := 183) (pc' := 197) rfl (hb hby at_183) rfl (tlt hc16).1 (by decide) (by decide) k) ?_
        show Go p e below _ (T13.setTop (mkF m 197 #[.val (.int p1), .val (.int p2), .val (.int p3), .val (.int p4), .val (.int p5), .val (.int (0 : Int32)), .val (.int v7), .val (.int v8), .val (.int v9), .val (.int v10), .val (.ref b12_0), .val (.int (-1 : Int32)), .val (.int (1 : Int32)), .val (.ref b13_0), .val (.int (0 : Int32)), .val (.int v15), .unset, .unset, .unset] []))
        refine Go.step (fun t k => XS.aload X13.here hx rfl (hb hby at_197) rfl rfl k) ?_
        show Go p e below _ (T13.setTop (mkF m 199 #[.val (.int p1), .val (.int p2), .val (.int p3), .val (.int p4), .val (.int p5), .val (.int (0 : Int32)), .val (.int v7), .val (.int v8), .val (.int v9), .val (.int v10), .val (.ref b12_0), .val (.int (-1 : Int32)), .val (.int (1 : Int32)), .val (.ref b13_0), .val (.int (0 : Int32)), .val (.int v15), .unset, .unset, .unset] [(.ref b13_0)]))
        refine Go.step (fun t k => XS.iload X13.here hx rfl (hb hby at_199) rfl k) ?_
        show Go p e below _ (T13.setTop (mkF m 201 #[.val (.int p1), .val (.int p2), .val (.int p3), .val (.int p4), .val (.int p5), .val (.int (0 : Int32)), .val (.int v7), .val (.int v8), .val (.int v9), .val (.int v10), .val (.ref b12_0), .val (.int (-1 : Int32)), .val (.int (1 : Int32)), .val (.ref b13_0), .val (.int (0 : Int32)), .val (.int v15), .unset, .unset, .unset] [(.int v15), (.ref b13_0)]))
        refine Go.step (ldJ X13 hx hZ rfl Q13_0 (j := v15) (by subst_vars; exact (own_ix _ _ Q13_0.len (by assumption)).1) (by subst_vars; exact (own_ix _ _ Q13_0.len (by assumption)).2) (g := (mkF m 201 #[.val (.int p1), .val (.int p2), .val (.int p3), .val (.int p4), .val (.int p5), .val (.int (0 : Int32)), .val (.int v7), .val (.int v8), .val (.int v9), .val (.int v10), .val (.ref b12_0), .val (.int (-1 : Int32)), .val (.int (1 : Int32)), .val (.ref b13_0), .val (.int (0 : Int32)), .val (.int v15), .unset, .unset, .unset] [(.int v15), (.ref b13_0)])) rfl rfl (hb hby at_201)) ?_
        show Go p e below _ (T13.setTop (mkF m 202 #[.val (.int p1), .val (.int p2), .val (.int p3), .val (.int p4), .val (.int p5), .val (.int (0 : Int32)), .val (.int v7), .val (.int v8), .val (.int v9), .val (.int v10), .val (.ref b12_0), .val (.int (-1 : Int32)), .val (.int (1 : Int32)), .val (.ref b13_0), .val (.int (0 : Int32)), .val (.int v15), .unset, .unset, .unset] [(.long ((cpW (fun _ => (0 : Int32)) (0 : Nat)) v15.toNatClampNeg))]))
        obtain ⟨v17, hv17⟩ : ∃ z : Int64, z = ((cpW (fun _ => (0 : Int32)) (0 : Nat)) v15.toNatClampNeg) := ⟨_, rfl⟩
        rw [← hv17]
        show Go p e below _ (T13.setTop (mkF m 202 #[.val (.int p1), .val (.int p2), .val (.int p3), .val (.int p4), .val (.int p5), .val (.int (0 : Int32)), .val (.int v7), .val (.int v8), .val (.int v9), .val (.int v10), .val (.ref b12_0), .val (.int (-1 : Int32)), .val (.int (1 : Int32)), .val (.ref b13_0), .val (.int (0 : Int32)), .val (.int v15), .unset, .unset, .unset] [(.long v17)]))
        refine Go.step (fun t k => XS.lstore X13.here hx rfl (hb hby at_202) rfl (l' := #[.val (.int p1), .val (.int p2), .val (.int p3), .val (.int p4), .val (.int p5), .val (.int (0 : Int32)), .val (.int v7), .val (.int v8), .val (.int v9), .val (.int v10), .val (.ref b12_0), .val (.int (-1 : Int32)), .val (.int (1 : Int32)), .val (.ref b13_0), .val (.int (0 : Int32)), .val (.int v15), .val (.long v17), .second, .unset]) rfl k) ?_
        show Go p e below _ (T13.setTop (mkF m 204 #[.val (.int p1), .val (.int p2), .val (.int p3), .val (.int p4), .val (.int p5), .val (.int (0 : Int32)), .val (.int v7), .val (.int v8), .val (.int v9), .val (.int v10), .val (.ref b12_0), .val (.int (-1 : Int32)), .val (.int (1 : Int32)), .val (.ref b13_0), .val (.int (0 : Int32)), .val (.int v15), .val (.long v17), .second, .unset] []))
        refine Go.step (fun t k => XS.lload X13.here hx rfl (hb hby at_204) rfl k) ?_
        show Go p e below _ (T13.setTop (mkF m 206 #[.val (.int p1), .val (.int p2), .val (.int p3), .val (.int p4), .val (.int p5), .val (.int (0 : Int32)), .val (.int v7), .val (.int v8), .val (.int v9), .val (.int v10), .val (.ref b12_0), .val (.int (-1 : Int32)), .val (.int (1 : Int32)), .val (.ref b13_0), .val (.int (0 : Int32)), .val (.int v15), .val (.long v17), .second, .unset] [(.long v17)]))
        refine Go.step (fun t k => XS.lconst X13.here hx rfl (hb hby at_206)  k) ?_
        show Go p e below _ (T13.setTop (mkF m 207 #[.val (.int p1), .val (.int p2), .val (.int p3), .val (.int p4), .val (.int p5), .val (.int (0 : Int32)), .val (.int v7), .val (.int v8), .val (.int v9), .val (.int v10), .val (.ref b12_0), .val (.int (-1 : Int32)), .val (.int (1 : Int32)), .val (.ref b13_0), .val (.int (0 : Int32)), .val (.int v15), .val (.long v17), .second, .unset] [(.long (0 : Int64)), (.long v17)]))
        refine Go.step (fun t k => XS.lcmp X13.here hx rfl (hb hby at_207) rfl k) ?_
        show Go p e below _ (T13.setTop (mkF m 208 #[.val (.int p1), .val (.int p2), .val (.int p3), .val (.int p4), .val (.int p5), .val (.int (0 : Int32)), .val (.int v7), .val (.int v8), .val (.int v9), .val (.int v10), .val (.ref b12_0), .val (.int (-1 : Int32)), .val (.int (1 : Int32)), .val (.ref b13_0), .val (.int (0 : Int32)), .val (.int v15), .val (.long v17), .second, .unset] [(.int (lcmpW v17 (0 : Int64)))]))
        by_cases hc18 : v17 < (0 : Int64)
        · refine Go.step (fun t k => XS.ifYes X13.here hx rfl (pc0 := 208) (pc' := 220) rfl (hb hby at_208) rfl ((if0 _ _).trans (tlt ((lw_lt _ _).mpr hc18)).1) (by decide) (by decide) k) ?_
          show Go p e below _ (T13.setTop (mkF m 220 #[.val (.int p1), .val (.int p2), .val (.int p3), .val (.int p4), .val (.int p5), .val (.int (0 : Int32)), .val (.int v7), .val (.int v8), .val (.int v9), .val (.int v10), .val (.ref b12_0), .val (.int (-1 : Int32)), .val (.int (1 : Int32)), .val (.ref b13_0), .val (.int (0 : Int32)), .val (.int v15), .val (.long v17), .second, .unset] []))
          refine Go.step (fun t k => XS.iconst X13.here hx rfl (hb hby at_220)  k) ?_
          show Go p e below _ (T13.setTop (mkF m 221 #[.val (.int p1), .val (.int p2), .val (.int p3), .val (.int p4), .val (.int p5), .val (.int (0 : Int32)), .val (.int v7), .val (.int v8), .val (.int v9), .val (.int v10), .val (.ref b12_0), .val (.int (-1 : Int32)), .val (.int (1 : Int32)), .val (.ref b13_0), .val (.int (0 : Int32)), .val (.int v15), .val (.long v17), .second, .unset] [(.int (0 : Int32))]))
          subst hv17
          subst hv15
          subst hv10
          subst hv9
          subst hv8
          subst hv7
          subst hv6
          exact retGN X13 hx Bd.notSynchronized Bd.returns (t := .boolean) (by simp) (z' := (0 : Int32)) rfl (hb hby at_221) ⟨by first | (simp only [f0, if_pos hc11, if_pos hc14, if_pos hc16, if_pos hc18]; done) | rfl | (simp [f0, if_pos hc11, if_pos hc14, if_pos hc16, if_pos hc18]; done), N13⟩ (by decide) (by decide)
        · refine Go.step (fun t k => XS.ifNo X13.here hx rfl (hb hby at_208) rfl ((if0 _ _).trans (flt (fun q => hc18 ((lw_lt _ _).mp q))).1) k) ?_
          show Go p e below _ (T13.setTop (mkF m 211 #[.val (.int p1), .val (.int p2), .val (.int p3), .val (.int p4), .val (.int p5), .val (.int (0 : Int32)), .val (.int v7), .val (.int v8), .val (.int v9), .val (.int v10), .val (.ref b12_0), .val (.int (-1 : Int32)), .val (.int (1 : Int32)), .val (.ref b13_0), .val (.int (0 : Int32)), .val (.int v15), .val (.long v17), .second, .unset] []))
          refine Go.step (fun t k => XS.lload X13.here hx rfl (hb hby at_211) rfl k) ?_
          show Go p e below _ (T13.setTop (mkF m 213 #[.val (.int p1), .val (.int p2), .val (.int p3), .val (.int p4), .val (.int p5), .val (.int (0 : Int32)), .val (.int v7), .val (.int v8), .val (.int v9), .val (.int v10), .val (.ref b12_0), .val (.int (-1 : Int32)), .val (.int (1 : Int32)), .val (.ref b13_0), .val (.int (0 : Int32)), .val (.int v15), .val (.long v17), .second, .unset] [(.long v17)]))
          refine Go.step (X13.ldc2Long hx hown (mvT hZ (hw _ (List.mem_of_getElem? (i := 29) rfl))) (g := (mkF m 213 #[.val (.int p1), .val (.int p2), .val (.int p3), .val (.int p4), .val (.int p5), .val (.int (0 : Int32)), .val (.int v7), .val (.int v8), .val (.int v9), .val (.int v10), .val (.ref b12_0), .val (.int (-1 : Int32)), .val (.int (1 : Int32)), .val (.ref b13_0), .val (.int (0 : Int32)), .val (.int v15), .val (.long v17), .second, .unset] [(.long v17)])) rfl (hb hby at_213)) ?_
          show Go p e below _ (T13.setTop (mkF m 216 #[.val (.int p1), .val (.int p2), .val (.int p3), .val (.int p4), .val (.int p5), .val (.int (0 : Int32)), .val (.int v7), .val (.int v8), .val (.int v9), .val (.int v10), .val (.ref b12_0), .val (.int (-1 : Int32)), .val (.int (1 : Int32)), .val (.ref b13_0), .val (.int (0 : Int32)), .val (.int v15), .val (.long v17), .second, .unset] [(.long (4294967295 : Int64)), (.long v17)]))
          refine Go.step (fun t k => XS.lcmp X13.here hx rfl (hb hby at_216) rfl k) ?_
          show Go p e below _ (T13.setTop (mkF m 217 #[.val (.int p1), .val (.int p2), .val (.int p3), .val (.int p4), .val (.int p5), .val (.int (0 : Int32)), .val (.int v7), .val (.int v8), .val (.int v9), .val (.int v10), .val (.ref b12_0), .val (.int (-1 : Int32)), .val (.int (1 : Int32)), .val (.ref b13_0), .val (.int (0 : Int32)), .val (.int v15), .val (.long v17), .second, .unset] [(.int (lcmpW v17 (4294967295 : Int64)))]))
          by_cases hc19 : (4294967295 : Int64) < v17
          · refine Go.step (fun t k => XS.ifNo X13.here hx rfl (hb hby at_217) rfl ((if0 _ _).trans (tlt ((lw_gt _ _).mpr hc19)).2.2.2) k) ?_
            show Go p e below _ (T13.setTop (mkF m 220 #[.val (.int p1), .val (.int p2), .val (.int p3), .val (.int p4), .val (.int p5), .val (.int (0 : Int32)), .val (.int v7), .val (.int v8), .val (.int v9), .val (.int v10), .val (.ref b12_0), .val (.int (-1 : Int32)), .val (.int (1 : Int32)), .val (.ref b13_0), .val (.int (0 : Int32)), .val (.int v15), .val (.long v17), .second, .unset] []))
            refine Go.step (fun t k => XS.iconst X13.here hx rfl (hb hby at_220)  k) ?_
            show Go p e below _ (T13.setTop (mkF m 221 #[.val (.int p1), .val (.int p2), .val (.int p3), .val (.int p4), .val (.int p5), .val (.int (0 : Int32)), .val (.int v7), .val (.int v8), .val (.int v9), .val (.int v10), .val (.ref b12_0), .val (.int (-1 : Int32)), .val (.int (1 : Int32)), .val (.ref b13_0), .val (.int (0 : Int32)), .val (.int v15), .val (.long v17), .second, .unset] [(.int (0 : Int32))]))
            subst hv17
            subst hv15
            subst hv10
            subst hv9
            subst hv8
            subst hv7
            subst hv6
            exact retGN X13 hx Bd.notSynchronized Bd.returns (t := .boolean) (by simp) (z' := (0 : Int32)) rfl (hb hby at_221) ⟨by first | (simp only [f0, if_pos hc11, if_pos hc14, if_pos hc16, if_neg hc18, if_pos hc19]; done) | rfl | (simp [f0, if_pos hc11, if_pos hc14, if_pos hc16, if_neg hc18, if_pos hc19]; done), N13⟩ (by decide) (by decide)
          · refine Go.step (fun t k => XS.ifYes X13.here hx rfl (pc0 := 217) (pc' := 222) rfl (hb hby at_217) rfl ((if0 _ _).trans (flt (fun q => hc19 ((lw_gt _ _).mp q))).2.2.2) (by decide) (by decide) k) ?_
            show Go p e below _ (T13.setTop (mkF m 222 #[.val (.int p1), .val (.int p2), .val (.int p3), .val (.int p4), .val (.int p5), .val (.int (0 : Int32)), .val (.int v7), .val (.int v8), .val (.int v9), .val (.int v10), .val (.ref b12_0), .val (.int (-1 : Int32)), .val (.int (1 : Int32)), .val (.ref b13_0), .val (.int (0 : Int32)), .val (.int v15), .val (.long v17), .second, .unset] []))
            refine Go.step (fun t k => XS.lload X13.here hx rfl (hb hby at_222) rfl k) ?_
            show Go p e below _ (T13.setTop (mkF m 224 #[.val (.int p1), .val (.int p2), .val (.int p3), .val (.int p4), .val (.int p5), .val (.int (0 : Int32)), .val (.int v7), .val (.int v8), .val (.int v9), .val (.int v10), .val (.ref b12_0), .val (.int (-1 : Int32)), .val (.int (1 : Int32)), .val (.ref b13_0), .val (.int (0 : Int32)), .val (.int v15), .val (.long v17), .second, .unset] [(.long v17)]))
            refine Go.step (fun t k => XS.iload X13.here hx rfl (hb hby at_224) rfl k) ?_
            show Go p e below _ (T13.setTop (mkF m 226 #[.val (.int p1), .val (.int p2), .val (.int p3), .val (.int p4), .val (.int p5), .val (.int (0 : Int32)), .val (.int v7), .val (.int v8), .val (.int v9), .val (.int v10), .val (.ref b12_0), .val (.int (-1 : Int32)), .val (.int (1 : Int32)), .val (.ref b13_0), .val (.int (0 : Int32)), .val (.int v15), .val (.long v17), .second, .unset] [(.int v10), (.long v17)]))
            refine Go.step (fun t k => XS.bipush X13.here hx rfl (hb hby at_226)  k) ?_
            show Go p e below _ (T13.setTop (mkF m 228 #[.val (.int p1), .val (.int p2), .val (.int p3), .val (.int p4), .val (.int p5), .val (.int (0 : Int32)), .val (.int v7), .val (.int v8), .val (.int v9), .val (.int v10), .val (.ref b12_0), .val (.int (-1 : Int32)), .val (.int (1 : Int32)), .val (.ref b13_0), .val (.int (0 : Int32)), .val (.int v15), .val (.long v17), .second, .unset] [(.int (32 : Int32)), (.int v10), (.long v17)]))
            refine Go.step (fun t (k : Steps p.tables e below (T13.setTop (mkF m 229 #[.val (.int p1), .val (.int p2), .val (.int p3), .val (.int p4), .val (.int p5), .val (.int (0 : Int32)), .val (.int v7), .val (.int v8), .val (.int v9), .val (.int v10), .val (.ref b12_0), .val (.int (-1 : Int32)), .val (.int (1 : Int32)), .val (.ref b13_0), .val (.int (0 : Int32)), .val (.int v15), .val (.long v17), .second, .unset] [(.int (v10 % (32 : Int32))), (.long v17)])) t) => XS.irem X13.here hx rfl (hb hby at_228) rfl (by decide) (by rw [remI]; exact k)) ?_
            show Go p e below _ (T13.setTop (mkF m 229 #[.val (.int p1), .val (.int p2), .val (.int p3), .val (.int p4), .val (.int p5), .val (.int (0 : Int32)), .val (.int v7), .val (.int v8), .val (.int v9), .val (.int v10), .val (.ref b12_0), .val (.int (-1 : Int32)), .val (.int (1 : Int32)), .val (.ref b13_0), .val (.int (0 : Int32)), .val (.int v15), .val (.long v17), .second, .unset] [(.int (v10 % (32 : Int32))), (.long v17)]))
            refine Go.step (fun t k => XS.lushr X13.here hx rfl (hb hby at_229) rfl k) ?_
            show Go p e below _ (T13.setTop (mkF m 230 #[.val (.int p1), .val (.int p2), .val (.int p3), .val (.int p4), .val (.int p5), .val (.int (0 : Int32)), .val (.int v7), .val (.int v8), .val (.int v9), .val (.int v10), .val (.ref b12_0), .val (.int (-1 : Int32)), .val (.int (1 : Int32)), .val (.ref b13_0), .val (.int (0 : Int32)), .val (.int v15), .val (.long v17), .second, .unset] [(.long ((v17.toUInt64 >>> ((v10 % (32 : Int32)) &&& 0x3f).toInt64.toUInt64).toInt64))]))
            refine Go.step (fun t k => XS.lconst X13.here hx rfl (hb hby at_230)  k) ?_
            show Go p e below _ (T13.setTop (mkF m 231 #[.val (.int p1), .val (.int p2), .val (.int p3), .val (.int p4), .val (.int p5), .val (.int (0 : Int32)), .val (.int v7), .val (.int v8), .val (.int v9), .val (.int v10), .val (.ref b12_0), .val (.int (-1 : Int32)), .val (.int (1 : Int32)), .val (.ref b13_0), .val (.int (0 : Int32)), .val (.int v15), .val (.long v17), .second, .unset] [(.long (1 : Int64)), (.long ((v17.toUInt64 >>> ((v10 % (32 : Int32)) &&& 0x3f).toInt64.toUInt64).toInt64))]))
            refine Go.step (fun t k => XS.land X13.here hx rfl (hb hby at_231) rfl k) ?_
            show Go p e below _ (T13.setTop (mkF m 232 #[.val (.int p1), .val (.int p2), .val (.int p3), .val (.int p4), .val (.int p5), .val (.int (0 : Int32)), .val (.int v7), .val (.int v8), .val (.int v9), .val (.int v10), .val (.ref b12_0), .val (.int (-1 : Int32)), .val (.int (1 : Int32)), .val (.ref b13_0), .val (.int (0 : Int32)), .val (.int v15), .val (.long v17), .second, .unset] [(.long (((v17.toUInt64 >>> ((v10 % (32 : Int32)) &&& 0x3f).toInt64.toUInt64).toInt64) &&& (1 : Int64)))]))
            refine Go.step (fun t k => XS.lconst X13.here hx rfl (hb hby at_232)  k) ?_
            show Go p e below _ (T13.setTop (mkF m 233 #[.val (.int p1), .val (.int p2), .val (.int p3), .val (.int p4), .val (.int p5), .val (.int (0 : Int32)), .val (.int v7), .val (.int v8), .val (.int v9), .val (.int v10), .val (.ref b12_0), .val (.int (-1 : Int32)), .val (.int (1 : Int32)), .val (.ref b13_0), .val (.int (0 : Int32)), .val (.int v15), .val (.long v17), .second, .unset] [(.long (0 : Int64)), (.long (((v17.toUInt64 >>> ((v10 % (32 : Int32)) &&& 0x3f).toInt64.toUInt64).toInt64) &&& (1 : Int64)))]))
            refine Go.step (fun t k => XS.lcmp X13.here hx rfl (hb hby at_233) rfl k) ?_
            show Go p e below _ (T13.setTop (mkF m 234 #[.val (.int p1), .val (.int p2), .val (.int p3), .val (.int p4), .val (.int p5), .val (.int (0 : Int32)), .val (.int v7), .val (.int v8), .val (.int v9), .val (.int v10), .val (.ref b12_0), .val (.int (-1 : Int32)), .val (.int (1 : Int32)), .val (.ref b13_0), .val (.int (0 : Int32)), .val (.int v15), .val (.long v17), .second, .unset] [(.int (lcmpW (((v17.toUInt64 >>> ((v10 % (32 : Int32)) &&& 0x3f).toInt64.toUInt64).toInt64) &&& (1 : Int64)) (0 : Int64)))]))
            obtain ⟨v21, hv21⟩ : ∃ z : Int32, z = (if (((v17.toUInt64 >>> ((v10 % (32 : Int32)) &&& 0x3f).toInt64.toUInt64).toInt64) &&& (1 : Int64)) = (0 : Int64) then (0 : Int32) else (1 : Int32)) := ⟨_, rfl⟩
            have J234 : Go p e below (AtF p l e room_1 s m #[(.int p1), (.int p2), (.int p3), (.int p4), (.int p5)] below meth c n0 4 129 T13.heap (mkF m 242 #[.val (.int p1), .val (.int p2), .val (.int p3), .val (.int p4), .val (.int p5), .val (.int (0 : Int32)), .val (.int v7), .val (.int v8), .val (.int v9), .val (.int v10), .val (.ref b12_0), .val (.int (-1 : Int32)), .val (.int (1 : Int32)), .val (.ref b13_0), .val (.int (0 : Int32)), .val (.int v15), .val (.long v17), .second, .unset] [(.int v21)])) (T13.setTop (mkF m 234 #[.val (.int p1), .val (.int p2), .val (.int p3), .val (.int p4), .val (.int p5), .val (.int (0 : Int32)), .val (.int v7), .val (.int v8), .val (.int v9), .val (.int v10), .val (.ref b12_0), .val (.int (-1 : Int32)), .val (.int (1 : Int32)), .val (.ref b13_0), .val (.int (0 : Int32)), .val (.int v15), .val (.long v17), .second, .unset] [(.int (lcmpW (((v17.toUInt64 >>> ((v10 % (32 : Int32)) &&& 0x3f).toInt64.toUInt64).toInt64) &&& (1 : Int64)) (0 : Int64)))])) := by
              by_cases hc20 : (((v17.toUInt64 >>> ((v10 % (32 : Int32)) &&& 0x3f).toInt64.toUInt64).toInt64) &&& (1 : Int64)) = (0 : Int64)
              · refine Go.step (fun t k => XS.ifYes X13.here hx rfl (pc0 := 234) (pc' := 241) rfl (hb hby at_234) rfl ((if0 _ _).trans (teq ((lw_eq _ _).mpr hc20)).1) (by decide) (by decide) k) ?_
                show Go p e below _ (T13.setTop (mkF m 241 #[.val (.int p1), .val (.int p2), .val (.int p3), .val (.int p4), .val (.int p5), .val (.int (0 : Int32)), .val (.int v7), .val (.int v8), .val (.int v9), .val (.int v10), .val (.ref b12_0), .val (.int (-1 : Int32)), .val (.int (1 : Int32)), .val (.ref b13_0), .val (.int (0 : Int32)), .val (.int v15), .val (.long v17), .second, .unset] []))
                refine Go.step (fun t k => XS.iconst X13.here hx rfl (hb hby at_241)  k) ?_
                show Go p e below _ (T13.setTop (mkF m 242 #[.val (.int p1), .val (.int p2), .val (.int p3), .val (.int p4), .val (.int p5), .val (.int (0 : Int32)), .val (.int v7), .val (.int v8), .val (.int v9), .val (.int v10), .val (.ref b12_0), .val (.int (-1 : Int32)), .val (.int (1 : Int32)), .val (.ref b13_0), .val (.int (0 : Int32)), .val (.int v15), .val (.long v17), .second, .unset] [(.int (0 : Int32))]))
                exact Go.here ⟨_, _, by simp only [hv21, if_pos hc20], X13, N13, rfl⟩
              · refine Go.step (fun t k => XS.ifNo X13.here hx rfl (hb hby at_234) rfl ((if0 _ _).trans (feq (fun q => hc20 ((lw_eq _ _).mp q))).1) k) ?_
                show Go p e below _ (T13.setTop (mkF m 237 #[.val (.int p1), .val (.int p2), .val (.int p3), .val (.int p4), .val (.int p5), .val (.int (0 : Int32)), .val (.int v7), .val (.int v8), .val (.int v9), .val (.int v10), .val (.ref b12_0), .val (.int (-1 : Int32)), .val (.int (1 : Int32)), .val (.ref b13_0), .val (.int (0 : Int32)), .val (.int v15), .val (.long v17), .second, .unset] []))
                refine Go.step (fun t k => XS.iconst X13.here hx rfl (hb hby at_237)  k) ?_
                show Go p e below _ (T13.setTop (mkF m 238 #[.val (.int p1), .val (.int p2), .val (.int p3), .val (.int p4), .val (.int p5), .val (.int (0 : Int32)), .val (.int v7), .val (.int v8), .val (.int v9), .val (.int v10), .val (.ref b12_0), .val (.int (-1 : Int32)), .val (.int (1 : Int32)), .val (.ref b13_0), .val (.int (0 : Int32)), .val (.int v15), .val (.long v17), .second, .unset] [(.int (1 : Int32))]))
                refine Go.step (fun t k => XS.goto X13.here hx rfl (pc0 := 238) (pc' := 242) rfl (hb hby at_238) (by decide) (by decide) k) ?_
                show Go p e below _ (T13.setTop (mkF m 242 #[.val (.int p1), .val (.int p2), .val (.int p3), .val (.int p4), .val (.int p5), .val (.int (0 : Int32)), .val (.int v7), .val (.int v8), .val (.int v9), .val (.int v10), .val (.ref b12_0), .val (.int (-1 : Int32)), .val (.int (1 : Int32)), .val (.ref b13_0), .val (.int (0 : Int32)), .val (.int v15), .val (.long v17), .second, .unset] [(.int (1 : Int32))]))
                exact Go.here ⟨_, _, by simp only [hv21, if_neg hc20], X13, N13, rfl⟩
            obtain ⟨_, st22, T22, Lj22, rfl, X22, N22, e22⟩ := J234
            refine Go.trans st22 ?_
            show Go p e below _ (T22.setTop (mkF m 242 #[.val (.int p1), .val (.int p2), .val (.int p3), .val (.int p4), .val (.int p5), .val (.int (0 : Int32)), .val (.int v7), .val (.int v8), .val (.int v9), .val (.int v10), .val (.ref b12_0), .val (.int (-1 : Int32)), .val (.int (1 : Int32)), .val (.ref b13_0), .val (.int (0 : Int32)), .val (.int v15), .val (.long v17), .second, .unset] [(.int v21)]))
            refine Go.step (fun t k => XS.istore X22.here hx rfl (hb hby at_242) rfl (l' := #[.val (.int p1), .val (.int p2), .val (.int p3), .val (.int p4), .val (.int p5), .val (.int (0 : Int32)), .val (.int v7), .val (.int v8), .val (.int v9), .val (.int v10), .val (.ref b12_0), .val (.int (-1 : Int32)), .val (.int (1 : Int32)), .val (.ref b13_0), .val (.int (0 : Int32)), .val (.int v15), .val (.long v17), .second, .val (.int v21)]) rfl k) ?_
            show Go p e below _ (T22.setTop (mkF m 244 #[.val (.int p1), .val (.int p2), .val (.int p3), .val (.int p4), .val (.int p5), .val (.int (0 : Int32)), .val (.int v7), .val (.int v8), .val (.int v9), .val (.int v10), .val (.ref b12_0), .val (.int (-1 : Int32)), .val (.int (1 : Int32)), .val (.ref b13_0), .val (.int (0 : Int32)), .val (.int v15), .val (.long v17), .second, .val (.int v21)] []))
            refine Go.step (fun t k => XS.iload X22.here hx rfl (hb hby at_244) rfl k) ?_
            show Go p e below _ (T22.setTop (mkF m 246 #[.val (.int p1), .val (.int p2), .val (.int p3), .val (.int p4), .val (.int p5), .val (.int (0 : Int32)), .val (.int v7), .val (.int v8), .val (.int v9), .val (.int v10), .val (.ref b12_0), .val (.int (-1 : Int32)), .val (.int (1 : Int32)), .val (.ref b13_0), .val (.int (0 : Int32)), .val (.int v15), .val (.long v17), .second, .val (.int v21)] [(.int v21)]))
            refine Go.step (fun t k => XS.iload X22.here hx rfl (hb hby at_246) rfl k) ?_
            show Go p e below _ (T22.setTop (mkF m 248 #[.val (.int p1), .val (.int p2), .val (.int p3), .val (.int p4), .val (.int p5), .val (.int (0 : Int32)), .val (.int v7), .val (.int v8), .val (.int v9), .val (.int v10), .val (.ref b12_0), .val (.int (-1 : Int32)), .val (.int (1 : Int32)), .val (.ref b13_0), .val (.int (0 : Int32)), .val (.int v15), .val (.long v17), .second, .val (.int v21)] [(.int (0 : Int32)), (.int v21)]))
            by_cases hc23 : v21 = (0 : Int32)
            · refine Go.step (fun t k => XS.icmpNo X22.here hx rfl (hb hby at_248) rfl (teq hc23).2 k) ?_
              show Go p e below _ (T22.setTop (mkF m 251 #[.val (.int p1), .val (.int p2), .val (.int p3), .val (.int p4), .val (.int p5), .val (.int (0 : Int32)), .val (.int v7), .val (.int v8), .val (.int v9), .val (.int v10), .val (.ref b12_0), .val (.int (-1 : Int32)), .val (.int (1 : Int32)), .val (.ref b13_0), .val (.int (0 : Int32)), .val (.int v15), .val (.long v17), .second, .val (.int v21)] []))
              refine Go.step (fun t k => XS.iconst X22.here hx rfl (hb hby at_251)  k) ?_
              show Go p e below _ (T22.setTop (mkF m 252 #[.val (.int p1), .val (.int p2), .val (.int p3), .val (.int p4), .val (.int p5), .val (.int (0 : Int32)), .val (.int v7), .val (.int v8), .val (.int v9), .val (.int v10), .val (.ref b12_0), .val (.int (-1 : Int32)), .val (.int (1 : Int32)), .val (.ref b13_0), .val (.int (0 : Int32)), .val (.int v15), .val (.long v17), .second, .val (.int v21)] [(.int (1 : Int32))]))
              refine Go.step (fun t k => XS.goto X22.here hx rfl (pc0 := 252) (pc' := 256) rfl (hb hby at_252) (by decide) (by decide) k) ?_
              show Go p e below _ (T22.setTop (mkF m 256 #[.val (.int p1), .val (.int p2), .val (.int p3), .val (.int p4), .val (.int p5), .val (.int (0 : Int32)), .val (.int v7), .val (.int v8), .val (.int v9), .val (.int v10), .val (.ref b12_0), .val (.int (-1 : Int32)), .val (.int (1 : Int32)), .val (.ref b13_0), .val (.int (0 : Int32)), .val (.int v15), .val (.long v17), .second, .val (.int v21)] [(.int (1 : Int32))]))
              subst hv21
              subst hv17
              subst hv15
              subst hv10
              subst hv9
              subst hv8
              subst hv7
              subst hv6
              exact retGN X22 hx Bd.notSynchronized Bd.returns (t := .boolean) (by simp) (z' := (1 : Int32)) rfl (hb hby at_256) ⟨by first | (simp only [f0, if_pos hc11, if_pos hc14, if_pos hc16, if_neg hc18, if_neg hc19, if_pos hc23]; done) | rfl | (simp [f0, if_pos hc11, if_pos hc14, if_pos hc16, if_neg hc18, if_neg hc19, if_pos hc23]; done), N22⟩ (by decide) (by decide)
            · refine Go.step (fun t k => XS.icmpYes X22.here hx rfl (pc0 := 248) (pc' := 255) rfl (hb hby at_248) rfl (feq hc23).2 (by decide) (by decide) k) ?_
              show Go p e below _ (T22.setTop (mkF m 255 #[.val (.int p1), .val (.int p2), .val (.int p3), .val (.int p4), .val (.int p5), .val (.int (0 : Int32)), .val (.int v7), .val (.int v8), .val (.int v9), .val (.int v10), .val (.ref b12_0), .val (.int (-1 : Int32)), .val (.int (1 : Int32)), .val (.ref b13_0), .val (.int (0 : Int32)), .val (.int v15), .val (.long v17), .second, .val (.int v21)] []))
              refine Go.step (fun t k => XS.iconst X22.here hx rfl (hb hby at_255)  k) ?_
              show Go p e below _ (T22.setTop (mkF m 256 #[.val (.int p1), .val (.int p2), .val (.int p3), .val (.int p4), .val (.int p5), .val (.int (0 : Int32)), .val (.int v7), .val (.int v8), .val (.int v9), .val (.int v10), .val (.ref b12_0), .val (.int (-1 : Int32)), .val (.int (1 : Int32)), .val (.ref b13_0), .val (.int (0 : Int32)), .val (.int v15), .val (.long v17), .second, .val (.int v21)] [(.int (0 : Int32))]))
              subst hv21
              subst hv17
              subst hv15
              subst hv10
              subst hv9
              subst hv8
              subst hv7
              subst hv6
              exact retGN X22 hx Bd.notSynchronized Bd.returns (t := .boolean) (by simp) (z' := (0 : Int32)) rfl (hb hby at_256) ⟨by first | (simp only [f0, if_pos hc11, if_pos hc14, if_pos hc16, if_neg hc18, if_neg hc19, if_neg hc23]; done) | rfl | (simp [f0, if_pos hc11, if_pos hc14, if_pos hc16, if_neg hc18, if_neg hc19, if_neg hc23]; done), N22⟩ (by decide) (by decide)
      · refine Go.step (fun t k => XS.icmpNo X13.here hx rfl (hb hby at_183) rfl (flt hc16).1 k) ?_
        show Go p e below _ (T13.setTop (mkF m 186 #[.val (.int p1), .val (.int p2), .val (.int p3), .val (.int p4), .val (.int p5), .val (.int (0 : Int32)), .val (.int v7), .val (.int v8), .val (.int v9), .val (.int v10), .val (.ref b12_0), .val (.int (-1 : Int32)), .val (.int (1 : Int32)), .val (.ref b13_0), .val (.int (0 : Int32)), .val (.int v15), .unset, .unset, .unset] []))
        refine Go.step (fun t k => XS.iload X13.here hx rfl (hb hby at_186) rfl k) ?_
        show Go p e below _ (T13.setTop (mkF m 188 #[.val (.int p1), .val (.int p2), .val (.int p3), .val (.int p4), .val (.int p5), .val (.int (0 : Int32)), .val (.int v7), .val (.int v8), .val (.int v9), .val (.int v10), .val (.ref b12_0), .val (.int (-1 : Int32)), .val (.int (1 : Int32)), .val (.ref b13_0), .val (.int (0 : Int32)), .val (.int v15), .unset, .unset, .unset] [(.int (0 : Int32))]))
        refine Go.step (fun t k => XS.ifNo X13.here hx rfl (hb hby at_188) rfl ((if0 _ _).trans (teq (by decide : (0 : Int32) = (0 : Int32))).2) k) ?_
        show Go p e below _ (T13.setTop (mkF m 191 #[.val (.int p1), .val (.int p2), .val (.int p3), .val (.int p4), .val (.int p5), .val (.int (0 : Int32)), .val (.int v7), .val (.int v8), .val (.int v9), .val (.int v10), .val (.ref b12_0), .val (.int (-1 : Int32)), .val (.int (1 : Int32)), .val (.ref b13_0), .val (.int (0 : Int32)), .val (.int v15), .unset, .unset, .unset] []))
        refine Go.step (fun t k => XS.iconst X13.here hx rfl (hb hby at_191)  k) ?_
        show Go p e below _ (T13.setTop (mkF m 192 #[.val (.int p1), .val (.int p2), .val (.int p3), .val (.int p4), .val (.int p5), .val (.int (0 : Int32)), .val (.int v7), .val (.int v8), .val (.int v9), .val (.int v10), .val (.ref b12_0), .val (.int (-1 : Int32)), .val (.int (1 : Int32)), .val (.ref b13_0), .val (.int (0 : Int32)), .val (.int v15), .unset, .unset, .unset] [(.int (1 : Int32))]))
        refine Go.step (fun t k => XS.goto X13.here hx rfl (pc0 := 192) (pc' := 196) rfl (hb hby at_192) (by decide) (by decide) k) ?_
        show Go p e below _ (T13.setTop (mkF m 196 #[.val (.int p1), .val (.int p2), .val (.int p3), .val (.int p4), .val (.int p5), .val (.int (0 : Int32)), .val (.int v7), .val (.int v8), .val (.int v9), .val (.int v10), .val (.ref b12_0), .val (.int (-1 : Int32)), .val (.int (1 : Int32)), .val (.ref b13_0), .val (.int (0 : Int32)), .val (.int v15), .unset, .unset, .unset] [(.int (1 : Int32))]))
        subst hv15
        subst hv10
        subst hv9
        subst hv8
        subst hv7
        subst hv6
        exact retGN X13 hx Bd.notSynchronized Bd.returns (t := .boolean) (by simp) (z' := (1 : Int32)) rfl (hb hby at_196) ⟨by first | (simp only [f0, if_pos hc11, if_pos hc14, if_neg hc16]; done) | rfl | (simp [f0, if_pos hc11, if_pos hc14, if_neg hc16]; done), N13⟩ (by decide) (by decide)
    · refine Go.step (fun t k => XS.icmpNo X13.here hx rfl (hb hby at_120) rfl (feq hc14).1 k) ?_
      show Go p e below _ (T13.setTop (mkF m 123 #[.val (.int p1), .val (.int p2), .val (.int p3), .val (.int p4), .val (.int p5), .val (.int (0 : Int32)), .val (.int v7), .val (.int v8), .val (.int v9), .val (.int v10), .val (.ref b12_0), .val (.int (-1 : Int32)), .val (.int (1 : Int32)), .val (.ref b13_0), .unset, .unset, .unset, .unset, .unset] []))
      refine Go.step (fun t k => XS.iconst X13.here hx rfl (hb hby at_123)  k) ?_
      show Go p e below _ (T13.setTop (mkF m 124 #[.val (.int p1), .val (.int p2), .val (.int p3), .val (.int p4), .val (.int p5), .val (.int (0 : Int32)), .val (.int v7), .val (.int v8), .val (.int v9), .val (.int v10), .val (.ref b12_0), .val (.int (-1 : Int32)), .val (.int (1 : Int32)), .val (.ref b13_0), .unset, .unset, .unset, .unset, .unset] [(.int (0 : Int32))]))
      subst hv10
      subst hv9
      subst hv8
      subst hv7
      subst hv6
      exact retGN X13 hx Bd.notSynchronized Bd.returns (t := .boolean) (by simp) (z' := (0 : Int32)) rfl (hb hby at_124) ⟨by first | (simp only [f0, if_pos hc11, if_neg hc14]; done) | rfl | (simp [f0, if_pos hc11, if_neg hc14]; done), N13⟩ (by decide) (by decide)
  · skip
    by_cases hc24 : v6 = (1 : Int32)
    · rw [hc24]
      show Go p e below _ (s₁.setTop (mkF m 34 #[.val (.int p1), .val (.int p2), .val (.int p3), .val (.int p4), .val (.int p5), .val (.int (1 : Int32)), .val (.int v7), .val (.int v8), .val (.int v9), .val (.int v10), .unset, .unset, .unset, .unset, .unset, .unset, .unset, .unset, .unset] []))
      refine Go.step (fun t k => XS.iload X0.here hx rfl (hb hby at_34) rfl k) ?_
      show Go p e below _ (s₁.setTop (mkF m 36 #[.val (.int p1), .val (.int p2), .val (.int p3), .val (.int p4), .val (.int p5), .val (.int (1 : Int32)), .val (.int v7), .val (.int v8), .val (.int v9), .val (.int v10), .unset, .unset, .unset, .unset, .unset, .unset, .unset, .unset, .unset] [(.int (1 : Int32))]))
      refine Go.step (fun t k => XS.iload X0.here hx rfl (hb hby at_36) rfl k) ?_
      show Go p e below _ (s₁.setTop (mkF m 38 #[.val (.int p1), .val (.int p2), .val (.int p3), .val (.int p4), .val (.int p5), .val (.int (1 : Int32)), .val (.int v7), .val (.int v8), .val (.int v9), .val (.int v10), .unset, .unset, .unset, .unset, .unset, .unset, .unset, .unset, .unset] [(.int v7), (.int (1 : Int32))]))
      refine Go.step (fun t k => XS.iload X0.here hx rfl (hb hby at_38) rfl k) ?_
      show Go p e below _ (s₁.setTop (mkF m 40 #[.val (.int p1), .val (.int p2), .val (.int p3), .val (.int p4), .val (.int p5), .val (.int (1 : Int32)), .val (.int v7), .val (.int v8), .val (.int v9), .val (.int v10), .unset, .unset, .unset, .unset, .unset, .unset, .unset, .unset, .unset] [(.int v8), (.int v7), (.int (1 : Int32))]))
      refine Go.step (fun t k => XS.iload X0.here hx rfl (hb hby at_40) rfl k) ?_
      show Go p e below _ (s₁.setTop (mkF m 42 #[.val (.int p1), .val (.int p2), .val (.int p3), .val (.int p4), .val (.int p5), .val (.int (1 : Int32)), .val (.int v7), .val (.int v8), .val (.int v9), .val (.int v10), .unset, .unset, .unset, .unset, .unset, .unset, .unset, .unset, .unset] [(.int v9), (.int v8), (.int v7), (.int (1 : Int32))]))
      obtain ⟨_, _, ⟨T25, L25, k25, n25⟩, -, X25, ⟨Lc25, hQ25, l25, y25, z25⟩, st25⟩ := Jvm.LawKit.callS X0 hx (y := (⟨"com/example/menshen/menshen/core/PermissionSetOfPinLaw", "build", "(IIII)Lcom/example/menshen/menshen/core/PermissionSet;"⟩ : MethodName)) hown (mvT hZ (hw _ (List.mem_of_getElem? (i := 0) rfl))) (mvT hZ (hw _ (List.mem_of_getElem? (i := 1) rfl))) (mvT hZ (hw _ (List.mem_of_getElem? (i := 2) rfl))) (mvT hZ (hw _ (List.mem_of_getElem? (i := 3) rfl))) (by decide) (backOf (W := 0) (rm1_1 l Z a0 hw [] v7 v8 v9 h0 n0 Z0 ((by subst_vars; exact own_bit _) : Bit v7)) hZ (hw _ (List.mem_of_getElem? (i := 3) rfl)) (hw _ (List.mem_of_getElem? (i := 2) rfl)) (by decide) (by decide)) (g := (mkF m 42 #[.val (.int p1), .val (.int p2), .val (.int p3), .val (.int p4), .val (.int p5), .val (.int (1 : Int32)), .val (.int v7), .val (.int v8), .val (.int v9), .val (.int v10), .unset, .unset, .unset, .unset, .unset, .unset, .unset, .unset, .unset] [(.int v9), (.int v8), (.int v7), (.int (1 : Int32))])) rfl (by rw [hml]; rfl) (argsL := [(.int (1 : Int32)), (.int v7), (.int v8), (.int v9)]) (rest := []) (lenOf pd_5 rfl) rfl (by show 2 * 0 + _ ≤ _; exact Nat.le_of_eq rfl) (hb hby at_42) (fun _ _ => ⟨rfl, e0, (by decide : 0 + 3 ≤ _), (by decide : 0 + 130 ≤ _)⟩)
      dsimp only [Pt.U, Pt.locs, Pt.cells, Pt.slots] at X25 l25 y25 z25 st25 hQ25
      subst l25 y25 z25
      obtain ⟨b25_0, b25_1, rfl, N25q, K25, sz25_0, sz25_1, Q25_0, Q25_1, Q25_2⟩ := hQ25
      have N25 := Fr.app N0 N25q
      have g_b25_0 : n0 ≤ b25_0 := Nat.le_trans Z0 sz25_0
      have sz_b25_0 : h0.size ≤ b25_0 := Nat.le_trans KK0.1 sz25_0
      have g_b25_1 : n0 ≤ b25_1 := Nat.le_trans Z0 sz25_1
      have sz_b25_1 : h0.size ≤ b25_1 := Nat.le_trans KK0.1 sz25_1
      have Z25 := Nat.le_trans Z0 K25.1
      have KK25 : Keep h0 T25.heap [] := KK0.trans K25 all0
      refine Go.step st25 ?_
      show Go p e below _ (T25.setTop (mkF m 45 #[.val (.int p1), .val (.int p2), .val (.int p3), .val (.int p4), .val (.int p5), .val (.int (1 : Int32)), .val (.int v7), .val (.int v8), .val (.int v9), .val (.int v10), .unset, .unset, .unset, .unset, .unset, .unset, .unset, .unset, .unset] [(.ref b25_0)]))
      refine Go.step (fun t k => XS.astore X25.here hx rfl (hb hby at_45) rfl rfl (l' := #[.val (.int p1), .val (.int p2), .val (.int p3), .val (.int p4), .val (.int p5), .val (.int (1 : Int32)), .val (.int v7), .val (.int v8), .val (.int v9), .val (.int v10), .val (.ref b25_0), .unset, .unset, .unset, .unset, .unset, .unset, .unset, .unset]) rfl k) ?_
      show Go p e below _ (T25.setTop (mkF m 47 #[.val (.int p1), .val (.int p2), .val (.int p3), .val (.int p4), .val (.int p5), .val (.int (1 : Int32)), .val (.int v7), .val (.int v8), .val (.int v9), .val (.int v10), .val (.ref b25_0), .unset, .unset, .unset, .unset, .unset, .unset, .unset, .unset] []))
      refine Go.step (fun t k => XS.iconst X25.here hx rfl (hb hby at_47)  k) ?_
      show Go p e below _ (T25.setTop (mkF m 48 #[.val (.int p1), .val (.int p2), .val (.int p3), .val (.int p4), .val (.int p5), .val (.int (1 : Int32)), .val (.int v7), .val (.int v8), .val (.int v9), .val (.int v10), .val (.ref b25_0), .unset, .unset, .unset, .unset, .unset, .unset, .unset, .unset] [(.int (-1 : Int32))]))
      refine Go.step (fun t k => XS.istore X25.here hx rfl (hb hby at_48) rfl (l' := #[.val (.int p1), .val (.int p2), .val (.int p3), .val (.int p4), .val (.int p5), .val (.int (1 : Int32)), .val (.int v7), .val (.int v8), .val (.int v9), .val (.int v10), .val (.ref b25_0), .val (.int (-1 : Int32)), .unset, .unset, .unset, .unset, .unset, .unset, .unset]) rfl k) ?_
      show Go p e below _ (T25.setTop (mkF m 50 #[.val (.int p1), .val (.int p2), .val (.int p3), .val (.int p4), .val (.int p5), .val (.int (1 : Int32)), .val (.int v7), .val (.int v8), .val (.int v9), .val (.int v10), .val (.ref b25_0), .val (.int (-1 : Int32)), .unset, .unset, .unset, .unset, .unset, .unset, .unset] []))
      refine Go.step (fun t k => XS.iload X25.here hx rfl (hb hby at_50) rfl k) ?_
      show Go p e below _ (T25.setTop (mkF m 52 #[.val (.int p1), .val (.int p2), .val (.int p3), .val (.int p4), .val (.int p5), .val (.int (1 : Int32)), .val (.int v7), .val (.int v8), .val (.int v9), .val (.int v10), .val (.ref b25_0), .val (.int (-1 : Int32)), .unset, .unset, .unset, .unset, .unset, .unset, .unset] [(.int (1 : Int32))]))
      refine Go.step (fun t k => XS.iconst X25.here hx rfl (hb hby at_52)  k) ?_
      show Go p e below _ (T25.setTop (mkF m 53 #[.val (.int p1), .val (.int p2), .val (.int p3), .val (.int p4), .val (.int p5), .val (.int (1 : Int32)), .val (.int v7), .val (.int v8), .val (.int v9), .val (.int v10), .val (.ref b25_0), .val (.int (-1 : Int32)), .unset, .unset, .unset, .unset, .unset, .unset, .unset] [(.int (1 : Int32)), (.int (1 : Int32))]))
      refine Go.step (fun t k => XS.icmpNo X25.here hx rfl (hb hby at_53) rfl (flt (by decide : ¬ ((1 : Int32) < (1 : Int32)))).1 k) ?_
      show Go p e below _ (T25.setTop (mkF m 56 #[.val (.int p1), .val (.int p2), .val (.int p3), .val (.int p4), .val (.int p5), .val (.int (1 : Int32)), .val (.int v7), .val (.int v8), .val (.int v9), .val (.int v10), .val (.ref b25_0), .val (.int (-1 : Int32)), .unset, .unset, .unset, .unset, .unset, .unset, .unset] []))
      refine Go.step (fun t k => XS.iload X25.here hx rfl (hb hby at_56) rfl k) ?_
      show Go p e below _ (T25.setTop (mkF m 58 #[.val (.int p1), .val (.int p2), .val (.int p3), .val (.int p4), .val (.int p5), .val (.int (1 : Int32)), .val (.int v7), .val (.int v8), .val (.int v9), .val (.int v10), .val (.ref b25_0), .val (.int (-1 : Int32)), .unset, .unset, .unset, .unset, .unset, .unset, .unset] [(.int v7)]))
      refine Go.step (fun t k => XS.istore X25.here hx rfl (hb hby at_58) rfl (l' := #[.val (.int p1), .val (.int p2), .val (.int p3), .val (.int p4), .val (.int p5), .val (.int (1 : Int32)), .val (.int v7), .val (.int v8), .val (.int v9), .val (.int v10), .val (.ref b25_0), .val (.int v7), .unset, .unset, .unset, .unset, .unset, .unset, .unset]) rfl k) ?_
      show Go p e below _ (T25.setTop (mkF m 60 #[.val (.int p1), .val (.int p2), .val (.int p3), .val (.int p4), .val (.int p5), .val (.int (1 : Int32)), .val (.int v7), .val (.int v8), .val (.int v9), .val (.int v10), .val (.ref b25_0), .val (.int v7), .unset, .unset, .unset, .unset, .unset, .unset, .unset] []))
      refine Go.step (fun t k => XS.iload X25.here hx rfl (hb hby at_60) rfl k) ?_
      show Go p e below _ (T25.setTop (mkF m 62 #[.val (.int p1), .val (.int p2), .val (.int p3), .val (.int p4), .val (.int p5), .val (.int (1 : Int32)), .val (.int v7), .val (.int v8), .val (.int v9), .val (.int v10), .val (.ref b25_0), .val (.int v7), .unset, .unset, .unset, .unset, .unset, .unset, .unset] [(.int (1 : Int32))]))
      refine Go.step (fun t k => XS.iconst X25.here hx rfl (hb hby at_62)  k) ?_
      show Go p e below _ (T25.setTop (mkF m 63 #[.val (.int p1), .val (.int p2), .val (.int p3), .val (.int p4), .val (.int p5), .val (.int (1 : Int32)), .val (.int v7), .val (.int v8), .val (.int v9), .val (.int v10), .val (.ref b25_0), .val (.int v7), .unset, .unset, .unset, .unset, .unset, .unset, .unset] [(.int (2 : Int32)), (.int (1 : Int32))]))
      refine Go.step (fun t k => XS.icmpYes X25.here hx rfl (pc0 := 63) (pc' := 75) rfl (hb hby at_63) rfl (tlt (by decide : (1 : Int32) < (2 : Int32))).1 (by decide) (by decide) k) ?_
      show Go p e below _ (T25.setTop (mkF m 75 #[.val (.int p1), .val (.int p2), .val (.int p3), .val (.int p4), .val (.int p5), .val (.int (1 : Int32)), .val (.int v7), .val (.int v8), .val (.int v9), .val (.int v10), .val (.ref b25_0), .val (.int v7), .unset, .unset, .unset, .unset, .unset, .unset, .unset] []))
      refine Go.step (fun t k => XS.iload X25.here hx rfl (hb hby at_75) rfl k) ?_
      show Go p e below _ (T25.setTop (mkF m 77 #[.val (.int p1), .val (.int p2), .val (.int p3), .val (.int p4), .val (.int p5), .val (.int (1 : Int32)), .val (.int v7), .val (.int v8), .val (.int v9), .val (.int v10), .val (.ref b25_0), .val (.int v7), .unset, .unset, .unset, .unset, .unset, .unset, .unset] [(.int (1 : Int32))]))
      refine Go.step (fun t k => XS.iconst X25.here hx rfl (hb hby at_77)  k) ?_
      show Go p e below _ (T25.setTop (mkF m 78 #[.val (.int p1), .val (.int p2), .val (.int p3), .val (.int p4), .val (.int p5), .val (.int (1 : Int32)), .val (.int v7), .val (.int v8), .val (.int v9), .val (.int v10), .val (.ref b25_0), .val (.int v7), .unset, .unset, .unset, .unset, .unset, .unset, .unset] [(.int (3 : Int32)), (.int (1 : Int32))]))
      refine Go.step (fun t k => XS.icmpYes X25.here hx rfl (pc0 := 78) (pc' := 90) rfl (hb hby at_78) rfl (tlt (by decide : (1 : Int32) < (3 : Int32))).1 (by decide) (by decide) k) ?_
      show Go p e below _ (T25.setTop (mkF m 90 #[.val (.int p1), .val (.int p2), .val (.int p3), .val (.int p4), .val (.int p5), .val (.int (1 : Int32)), .val (.int v7), .val (.int v8), .val (.int v9), .val (.int v10), .val (.ref b25_0), .val (.int v7), .unset, .unset, .unset, .unset, .unset, .unset, .unset] []))
      refine Go.step (fun t k => XS.iload X25.here hx rfl (hb hby at_90) rfl k) ?_
      show Go p e below _ (T25.setTop (mkF m 92 #[.val (.int p1), .val (.int p2), .val (.int p3), .val (.int p4), .val (.int p5), .val (.int (1 : Int32)), .val (.int v7), .val (.int v8), .val (.int v9), .val (.int v10), .val (.ref b25_0), .val (.int v7), .unset, .unset, .unset, .unset, .unset, .unset, .unset] [(.int v7)]))
      obtain ⟨v27, hv27⟩ : ∃ z : Int32, z = (if v7 < (0 : Int32) then (1 : Int32) else ((v7 / (32 : Int32)) + (1 : Int32))) := ⟨_, rfl⟩
      have J92 : Go p e below (AtF p l e room_1 s m #[(.int p1), (.int p2), (.int p3), (.int p4), (.int p5)] below meth c n0 3 130 T25.heap (mkF m 106 #[.val (.int p1), .val (.int p2), .val (.int p3), .val (.int p4), .val (.int p5), .val (.int (1 : Int32)), .val (.int v7), .val (.int v8), .val (.int v9), .val (.int v10), .val (.ref b25_0), .val (.int v7), .unset, .unset, .unset, .unset, .unset, .unset, .unset] [(.int v27)])) (T25.setTop (mkF m 92 #[.val (.int p1), .val (.int p2), .val (.int p3), .val (.int p4), .val (.int p5), .val (.int (1 : Int32)), .val (.int v7), .val (.int v8), .val (.int v9), .val (.int v10), .val (.ref b25_0), .val (.int v7), .unset, .unset, .unset, .unset, .unset, .unset, .unset] [(.int v7)])) := by
        by_cases hc26 : v7 < (0 : Int32)
        · refine Go.step (fun t k => XS.ifNo X25.here hx rfl (hb hby at_92) rfl ((if0 _ _).trans (tlt hc26).2.1) k) ?_
          show Go p e below _ (T25.setTop (mkF m 95 #[.val (.int p1), .val (.int p2), .val (.int p3), .val (.int p4), .val (.int p5), .val (.int (1 : Int32)), .val (.int v7), .val (.int v8), .val (.int v9), .val (.int v10), .val (.ref b25_0), .val (.int v7), .unset, .unset, .unset, .unset, .unset, .unset, .unset] []))
          refine Go.step (fun t k => XS.iconst X25.here hx rfl (hb hby at_95)  k) ?_
          show Go p e below _ (T25.setTop (mkF m 96 #[.val (.int p1), .val (.int p2), .val (.int p3), .val (.int p4), .val (.int p5), .val (.int (1 : Int32)), .val (.int v7), .val (.int v8), .val (.int v9), .val (.int v10), .val (.ref b25_0), .val (.int v7), .unset, .unset, .unset, .unset, .unset, .unset, .unset] [(.int (1 : Int32))]))
          refine Go.step (fun t k => XS.goto X25.here hx rfl (pc0 := 96) (pc' := 106) rfl (hb hby at_96) (by decide) (by decide) k) ?_
          show Go p e below _ (T25.setTop (mkF m 106 #[.val (.int p1), .val (.int p2), .val (.int p3), .val (.int p4), .val (.int p5), .val (.int (1 : Int32)), .val (.int v7), .val (.int v8), .val (.int v9), .val (.int v10), .val (.ref b25_0), .val (.int v7), .unset, .unset, .unset, .unset, .unset, .unset, .unset] [(.int (1 : Int32))]))
          exact Go.here ⟨_, _, by simp only [hv27, if_pos hc26], X25, N25, rfl⟩
        · refine Go.step (fun t k => XS.ifYes X25.here hx rfl (pc0 := 92) (pc' := 99) rfl (hb hby at_92) rfl ((if0 _ _).trans (flt hc26).2.1) (by decide) (by decide) k) ?_
          show Go p e below _ (T25.setTop (mkF m 99 #[.val (.int p1), .val (.int p2), .val (.int p3), .val (.int p4), .val (.int p5), .val (.int (1 : Int32)), .val (.int v7), .val (.int v8), .val (.int v9), .val (.int v10), .val (.ref b25_0), .val (.int v7), .unset, .unset, .unset, .unset, .unset, .unset, .unset] []))
          refine Go.step (fun t k => XS.iload X25.here hx rfl (hb hby at_99) rfl k) ?_
          show Go p e below _ (T25.setTop (mkF m 101 #[.val (.int p1), .val (.int p2), .val (.int p3), .val (.int p4), .val (.int p5), .val (.int (1 : Int32)), .val (.int v7), .val (.int v8), .val (.int v9), .val (.int v10), .val (.ref b25_0), .val (.int v7), .unset, .unset, .unset, .unset, .unset, .unset, .unset] [(.int v7)]))
          refine Go.step (fun t k => XS.bipush X25.here hx rfl (hb hby at_101)  k) ?_
          show Go p e below _ (T25.setTop (mkF m 103 #[.val (.int p1), .val (.int p2), .val (.int p3), .val (.int p4), .val (.int p5), .val (.int (1 : Int32)), .val (.int v7), .val (.int v8), .val (.int v9), .val (.int v10), .val (.ref b25_0), .val (.int v7), .unset, .unset, .unset, .unset, .unset, .unset, .unset] [(.int (32 : Int32)), (.int v7)]))
          refine Go.step (fun t k => XS.idiv X25.here hx rfl (hb hby at_103) rfl (by decide) k) ?_
          show Go p e below _ (T25.setTop (mkF m 104 #[.val (.int p1), .val (.int p2), .val (.int p3), .val (.int p4), .val (.int p5), .val (.int (1 : Int32)), .val (.int v7), .val (.int v8), .val (.int v9), .val (.int v10), .val (.ref b25_0), .val (.int v7), .unset, .unset, .unset, .unset, .unset, .unset, .unset] [(.int (v7 / (32 : Int32)))]))
          refine Go.step (fun t k => XS.iconst X25.here hx rfl (hb hby at_104)  k) ?_
          show Go p e below _ (T25.setTop (mkF m 105 #[.val (.int p1), .val (.int p2), .val (.int p3), .val (.int p4), .val (.int p5), .val (.int (1 : Int32)), .val (.int v7), .val (.int v8), .val (.int v9), .val (.int v10), .val (.ref b25_0), .val (.int v7), .unset, .unset, .unset, .unset, .unset, .unset, .unset] [(.int (1 : Int32)), (.int (v7 / (32 : Int32)))]))
          refine Go.step (fun t k => XS.iadd X25.here hx rfl (hb hby at_105) rfl k) ?_
          show Go p e below _ (T25.setTop (mkF m 106 #[.val (.int p1), .val (.int p2), .val (.int p3), .val (.int p4), .val (.int p5), .val (.int (1 : Int32)), .val (.int v7), .val (.int v8), .val (.int v9), .val (.int v10), .val (.ref b25_0), .val (.int v7), .unset, .unset, .unset, .unset, .unset, .unset, .unset] [(.int ((v7 / (32 : Int32)) + (1 : Int32)))]))
          exact Go.here ⟨_, _, by simp only [hv27, if_neg hc26], X25, N25, rfl⟩
      obtain ⟨_, st28, T28, Lj28, rfl, X28, N28, e28⟩ := J92
      refine Go.trans st28 ?_
      show Go p e below _ (T28.setTop (mkF m 106 #[.val (.int p1), .val (.int p2), .val (.int p3), .val (.int p4), .val (.int p5), .val (.int (1 : Int32)), .val (.int v7), .val (.int v8), .val (.int v9), .val (.int v10), .val (.ref b25_0), .val (.int v7), .unset, .unset, .unset, .unset, .unset, .unset, .unset] [(.int v27)]))
      refine Go.step (fun t k => XS.istore X28.here hx rfl (hb hby at_106) rfl (l' := #[.val (.int p1), .val (.int p2), .val (.int p3), .val (.int p4), .val (.int p5), .val (.int (1 : Int32)), .val (.int v7), .val (.int v8), .val (.int v9), .val (.int v10), .val (.ref b25_0), .val (.int v7), .val (.int v27), .unset, .unset, .unset, .unset, .unset, .unset]) rfl k) ?_
      show Go p e below _ (T28.setTop (mkF m 108 #[.val (.int p1), .val (.int p2), .val (.int p3), .val (.int p4), .val (.int p5), .val (.int (1 : Int32)), .val (.int v7), .val (.int v8), .val (.int v9), .val (.int v10), .val (.ref b25_0), .val (.int v7), .val (.int v27), .unset, .unset, .unset, .unset, .unset, .unset] []))
      refine Go.step (fun t k => XS.aload X28.here hx rfl (hb hby at_108) rfl rfl k) ?_
      show Go p e below _ (T28.setTop (mkF m 110 #[.val (.int p1), .val (.int p2), .val (.int p3), .val (.int p4), .val (.int p5), .val (.int (1 : Int32)), .val (.int v7), .val (.int v8), .val (.int v9), .val (.int v10), .val (.ref b25_0), .val (.int v7), .val (.int v27), .unset, .unset, .unset, .unset, .unset, .unset] [(.ref b25_0)]))
      obtain ⟨cq29, kq29, q29a, q29b, q29c⟩ := isOf hZ e28 Q25_1
      obtain ⟨_, _, ⟨T29, L29, k29, n29⟩, -, X29, ⟨Lc29, hQ29, l29, y29, z29⟩, st29⟩ := X28.virtualBack hx (y := (⟨"com/example/menshen/menshen/core/PermissionSet", "words", "()[J"⟩ : MethodName)) (z := (⟨"com/example/menshen/menshen/core/PermissionSet", "words", "()[J"⟩ : MethodName)) hown (mvT hZ (hw _ (List.mem_of_getElem? (i := 19) rfl))) (mvT hZ (hw _ (List.mem_of_getElem? (i := 20) rfl))) (notFace_of_selects (args := #[]) (mvT hZ (hw _ (List.mem_of_getElem? (i := 22) rfl)))) (mvT hZ (hw _ (List.mem_of_getElem? (i := 22) rfl))) (mvT hZ (hw _ (List.mem_of_getElem? (i := 21) rfl))) (by decide) (backOf (W := 0) (rm5 l Z a0 hw [] b25_0 b25_1 (((f6 (-1 : Int32) v7) + (32 : Int32)) / (32 : Int32)).toNatClampNeg (orW (fun _ => (0 : Int32)) v7) T25.heap n0 Z25 ((by subst_vars; exact (Hi.sz (Hi.max Hi.m1 (own_bit _)).1).2.1) : (((f6 (-1 : Int32) v7) + (32 : Int32)) / (32 : Int32)).toNatClampNeg ≤ 128) Q25_2 Q25_0) hZ (hw _ (List.mem_of_getElem? (i := 23) rfl)) (hw _ (List.mem_of_getElem? (i := 7) rfl)) (by decide) (by decide)) q29a q29c (g := (mkF m 110 #[.val (.int p1), .val (.int p2), .val (.int p3), .val (.int p4), .val (.int p5), .val (.int (1 : Int32)), .val (.int v7), .val (.int v8), .val (.int v9), .val (.int v10), .val (.ref b25_0), .val (.int v7), .val (.int v27), .unset, .unset, .unset, .unset, .unset, .unset] [(.ref b25_0)])) rfl (by rw [hml]; rfl) (Steps.refl _) (argsL := []) (rest := []) (lenOf pd_6 rfl) rfl (by show 2 * 0 + _ ≤ _; exact Nat.le_of_eq rfl) (hb hby at_110) (fun _ _ => ⟨rfl, e28, (by decide : 3 + 1 ≤ _), (by decide : 130 + 128 ≤ _)⟩)
      dsimp only [Pt.U, Pt.locs, Pt.cells, Pt.slots] at X29 l29 y29 z29 st29 hQ29
      subst l29 y29 z29
      obtain ⟨b29_0, rfl, N29q, K29, sz29_0, Q29_0⟩ := hQ29
      have N29 := Fr.app N28 N29q
      have g_b29_0 : n0 ≤ b29_0 := Nat.le_trans Z25 sz29_0
      have sz_b29_0 : h0.size ≤ b29_0 := Nat.le_trans KK25.1 sz29_0
      have ne_b25_1_b29_0 : b25_1 ≠ b29_0 := Nat.ne_of_lt (Nat.lt_of_lt_of_le Q25_0.lt sz29_0)
      have ne_b25_0_b29_0 : b25_0 ≠ b29_0 := Nat.ne_of_lt (Nat.lt_of_lt_of_le Q25_1.lt sz29_0)
      have A_b25_1_29 := Q25_0.keep K29 nin0
      have E_b25_0_29 := Q25_1.keep K29
      have F_words_b25_0_29 := Q25_2.keep K29 nin0
      have Z29 := Nat.le_trans Z25 K29.1
      have KK29 : Keep h0 T29.heap [] := KK25.trans K29 all0
      refine Go.trans st29 ?_
      show Go p e below _ (T29.setTop (mkF m 113 #[.val (.int p1), .val (.int p2), .val (.int p3), .val (.int p4), .val (.int p5), .val (.int (1 : Int32)), .val (.int v7), .val (.int v8), .val (.int v9), .val (.int v10), .val (.ref b25_0), .val (.int v7), .val (.int v27), .unset, .unset, .unset, .unset, .unset, .unset] [(.ref b29_0)]))
      refine Go.step (fun t k => XS.astore X29.here hx rfl (hb hby at_113) rfl rfl (l' := #[.val (.int p1), .val (.int p2), .val (.int p3), .val (.int p4), .val (.int p5), .val (.int (1 : Int32)), .val (.int v7), .val (.int v8), .val (.int v9), .val (.int v10), .val (.ref b25_0), .val (.int v7), .val (.int v27), .val (.ref b29_0), .unset, .unset, .unset, .unset, .unset]) rfl k) ?_
      show Go p e below _ (T29.setTop (mkF m 115 #[.val (.int p1), .val (.int p2), .val (.int p3), .val (.int p4), .val (.int p5), .val (.int (1 : Int32)), .val (.int v7), .val (.int v8), .val (.int v9), .val (.int v10), .val (.ref b25_0), .val (.int v7), .val (.int v27), .val (.ref b29_0), .unset, .unset, .unset, .unset, .unset] []))
      refine Go.step (fun t k => XS.aload X29.here hx rfl (hb hby at_115) rfl rfl k) ?_
      show Go p e below _ (T29.setTop (mkF m 117 #[.val (.int p1), .val (.int p2), .val (.int p3), .val (.int p4), .val (.int p5), .val (.int (1 : Int32)), .val (.int v7), .val (.int v8), .val (.int v9), .val (.int v10), .val (.ref b25_0), .val (.int v7), .val (.int v27), .val (.ref b29_0), .unset, .unset, .unset, .unset, .unset] [(.ref b29_0)]))
      refine Go.step (lenA X29 hx hZ rfl Q29_0 (g := (mkF m 117 #[.val (.int p1), .val (.int p2), .val (.int p3), .val (.int p4), .val (.int p5), .val (.int (1 : Int32)), .val (.int v7), .val (.int v8), .val (.int v9), .val (.int v10), .val (.ref b25_0), .val (.int v7), .val (.int v27), .val (.ref b29_0), .unset, .unset, .unset, .unset, .unset] [(.ref b29_0)])) rfl rfl (hb hby at_117)) ?_
      show Go p e below _ (T29.setTop (mkF m 118 #[.val (.int p1), .val (.int p2), .val (.int p3), .val (.int p4), .val (.int p5), .val (.int (1 : Int32)), .val (.int v7), .val (.int v8), .val (.int v9), .val (.int v10), .val (.ref b25_0), .val (.int v7), .val (.int v27), .val (.ref b29_0), .unset, .unset, .unset, .unset, .unset] [(.int (f6 (1 : Int32) (((f6 (-1 : Int32) v7) + (32 : Int32)) / (32 : Int32)).toNatClampNeg.toInt32).toNatClampNeg.toInt32)]))
      refine Go.step (fun t k => XS.iload X29.here hx rfl (hb hby at_118) rfl k) ?_
      show Go p e below _ (T29.setTop (mkF m 120 #[.val (.int p1), .val (.int p2), .val (.int p3), .val (.int p4), .val (.int p5), .val (.int (1 : Int32)), .val (.int v7), .val (.int v8), .val (.int v9), .val (.int v10), .val (.ref b25_0), .val (.int v7), .val (.int v27), .val (.ref b29_0), .unset, .unset, .unset, .unset, .unset] [(.int v27), (.int (f6 (1 : Int32) (((f6 (-1 : Int32) v7) + (32 : Int32)) / (32 : Int32)).toNatClampNeg.toInt32).toNatClampNeg.toInt32)]))
      by_cases hc30 : (f6 (1 : Int32) (((f6 (-1 : Int32) v7) + (32 : Int32)) / (32 : Int32)).toNatClampNeg.toInt32).toNatClampNeg.toInt32 = v27
      · refine Go.step (fun t k => XS.icmpYes X29.here hx rfl (pc0 := 120) (pc' := 125) rfl (hb hby at_120) rfl (teq hc30).1 (by decide) (by decide) k) ?_
        show Go p e below _ (T29.setTop (mkF m 125 #[.val (.int p1), .val (.int p2), .val (.int p3), .val (.int p4), .val (.int p5), .val (.int (1 : Int32)), .val (.int v7), .val (.int v8), .val (.int v9), .val (.int v10), .val (.ref b25_0), .val (.int v7), .val (.int v27), .val (.ref b29_0), .unset, .unset, .unset, .unset, .unset] []))
        refine Go.step (fun t k => XS.iload X29.here hx rfl (hb hby at_125) rfl k) ?_
        show Go p e below _ (T29.setTop (mkF m 127 #[.val (.int p1), .val (.int p2), .val (.int p3), .val (.int p4), .val (.int p5), .val (.int (1 : Int32)), .val (.int v7), .val (.int v8), .val (.int v9), .val (.int v10), .val (.ref b25_0), .val (.int v7), .val (.int v27), .val (.ref b29_0), .unset, .unset, .unset, .unset, .unset] [(.int (1 : Int32))]))
        refine Go.step (fun t k => XS.iconst X29.here hx rfl (hb hby at_127)  k) ?_
        show Go p e below _ (T29.setTop (mkF m 128 #[.val (.int p1), .val (.int p2), .val (.int p3), .val (.int p4), .val (.int p5), .val (.int (1 : Int32)), .val (.int v7), .val (.int v8), .val (.int v9), .val (.int v10), .val (.ref b25_0), .val (.int v7), .val (.int v27), .val (.ref b29_0), .unset, .unset, .unset, .unset, .unset] [(.int (1 : Int32)), (.int (1 : Int32))]))
        refine Go.step (fun t k => XS.icmpNo X29.here hx rfl (hb hby at_128) rfl (flt (by decide : ¬ ((1 : Int32) < (1 : Int32)))).1 k) ?_
        show Go p e below _ (T29.setTop (mkF m 131 #[.val (.int p1), .val (.int p2), .val (.int p3), .val (.int p4), .val (.int p5), .val (.int (1 : Int32)), .val (.int v7), .val (.int v8), .val (.int v9), .val (.int v10), .val (.ref b25_0), .val (.int v7), .val (.int v27), .val (.ref b29_0), .unset, .unset, .unset, .unset, .unset] []))
        refine Go.step (fun t k => XS.iload X29.here hx rfl (hb hby at_131) rfl k) ?_
        show Go p e below _ (T29.setTop (mkF m 133 #[.val (.int p1), .val (.int p2), .val (.int p3), .val (.int p4), .val (.int p5), .val (.int (1 : Int32)), .val (.int v7), .val (.int v8), .val (.int v9), .val (.int v10), .val (.ref b25_0), .val (.int v7), .val (.int v27), .val (.ref b29_0), .unset, .unset, .unset, .unset, .unset] [(.int v10)]))
        refine Go.step (fun t k => XS.iload X29.here hx rfl (hb hby at_133) rfl k) ?_
        show Go p e below _ (T29.setTop (mkF m 135 #[.val (.int p1), .val (.int p2), .val (.int p3), .val (.int p4), .val (.int p5), .val (.int (1 : Int32)), .val (.int v7), .val (.int v8), .val (.int v9), .val (.int v10), .val (.ref b25_0), .val (.int v7), .val (.int v27), .val (.ref b29_0), .unset, .unset, .unset, .unset, .unset] [(.int v7), (.int v10)]))
        obtain ⟨v32, hv32⟩ : ∃ z : Int32, z = (if v10 = v7 then (1 : Int32) else (0 : Int32)) := ⟨_, rfl⟩
        have J135 : Go p e below (AtF p l e room_1 s m #[(.int p1), (.int p2), (.int p3), (.int p4), (.int p5)] below meth c n0 4 258 T29.heap (mkF m 169 #[.val (.int p1), .val (.int p2), .val (.int p3), .val (.int p4), .val (.int p5), .val (.int (1 : Int32)), .val (.int v7), .val (.int v8), .val (.int v9), .val (.int v10), .val (.ref b25_0), .val (.int v7), .val (.int v27), .val (.ref b29_0), .unset, .unset, .unset, .unset, .unset] [(.int v32)])) (T29.setTop (mkF m 135 #[.val (.int p1), .val (.int p2), .val (.int p3), .val (.int p4), .val (.int p5), .val (.int (1 : Int32)), .val (.int v7), .val (.int v8), .val (.int v9), .val (.int v10), .val (.ref b25_0), .val (.int v7), .val (.int v27), .val (.ref b29_0), .unset, .unset, .unset, .unset, .unset] [(.int v7), (.int v10)])) := by
          by_cases hc31 : v10 = v7
          · refine Go.step (fun t k => XS.icmpYes X29.here hx rfl (pc0 := 135) (pc' := 164) rfl (hb hby at_135) rfl (teq hc31).1 (by decide) (by decide) k) ?_
            show Go p e below _ (T29.setTop (mkF m 164 #[.val (.int p1), .val (.int p2), .val (.int p3), .val (.int p4), .val (.int p5), .val (.int (1 : Int32)), .val (.int v7), .val (.int v8), .val (.int v9), .val (.int v10), .val (.ref b25_0), .val (.int v7), .val (.int v27), .val (.ref b29_0), .unset, .unset, .unset, .unset, .unset] []))
            refine Go.step (fun t k => XS.iconst X29.here hx rfl (hb hby at_164)  k) ?_
            show Go p e below _ (T29.setTop (mkF m 165 #[.val (.int p1), .val (.int p2), .val (.int p3), .val (.int p4), .val (.int p5), .val (.int (1 : Int32)), .val (.int v7), .val (.int v8), .val (.int v9), .val (.int v10), .val (.ref b25_0), .val (.int v7), .val (.int v27), .val (.ref b29_0), .unset, .unset, .unset, .unset, .unset] [(.int (1 : Int32))]))
            refine Go.step (fun t k => XS.goto X29.here hx rfl (pc0 := 165) (pc' := 169) rfl (hb hby at_165) (by decide) (by decide) k) ?_
            show Go p e below _ (T29.setTop (mkF m 169 #[.val (.int p1), .val (.int p2), .val (.int p3), .val (.int p4), .val (.int p5), .val (.int (1 : Int32)), .val (.int v7), .val (.int v8), .val (.int v9), .val (.int v10), .val (.ref b25_0), .val (.int v7), .val (.int v27), .val (.ref b29_0), .unset, .unset, .unset, .unset, .unset] [(.int (1 : Int32))]))
            exact Go.here ⟨_, _, by simp only [hv32, if_pos hc31], X29, N29, rfl⟩
          · refine Go.step (fun t k => XS.icmpNo X29.here hx rfl (hb hby at_135) rfl (feq hc31).1 k) ?_
            show Go p e below _ (T29.setTop (mkF m 138 #[.val (.int p1), .val (.int p2), .val (.int p3), .val (.int p4), .val (.int p5), .val (.int (1 : Int32)), .val (.int v7), .val (.int v8), .val (.int v9), .val (.int v10), .val (.ref b25_0), .val (.int v7), .val (.int v27), .val (.ref b29_0), .unset, .unset, .unset, .unset, .unset] []))
            refine Go.step (fun t k => XS.iload X29.here hx rfl (hb hby at_138) rfl k) ?_
            show Go p e below _ (T29.setTop (mkF m 140 #[.val (.int p1), .val (.int p2), .val (.int p3), .val (.int p4), .val (.int p5), .val (.int (1 : Int32)), .val (.int v7), .val (.int v8), .val (.int v9), .val (.int v10), .val (.ref b25_0), .val (.int v7), .val (.int v27), .val (.ref b29_0), .unset, .unset, .unset, .unset, .unset] [(.int (1 : Int32))]))
            refine Go.step (fun t k => XS.iconst X29.here hx rfl (hb hby at_140)  k) ?_
            show Go p e below _ (T29.setTop (mkF m 141 #[.val (.int p1), .val (.int p2), .val (.int p3), .val (.int p4), .val (.int p5), .val (.int (1 : Int32)), .val (.int v7), .val (.int v8), .val (.int v9), .val (.int v10), .val (.ref b25_0), .val (.int v7), .val (.int v27), .val (.ref b29_0), .unset, .unset, .unset, .unset, .unset] [(.int (2 : Int32)), (.int (1 : Int32))]))
            refine Go.step (fun t k => XS.icmpYes X29.here hx rfl (pc0 := 141) (pc' := 151) rfl (hb hby at_141) rfl (tlt (by decide : (1 : Int32) < (2 : Int32))).1 (by decide) (by decide) k) ?_
            show Go p e below _ (T29.setTop (mkF m 151 #[.val (.int p1), .val (.int p2), .val (.int p3), .val (.int p4), .val (.int p5), .val (.int (1 : Int32)), .val (.int v7), .val (.int v8), .val (.int v9), .val (.int v10), .val (.ref b25_0), .val (.int v7), .val (.int v27), .val (.ref b29_0), .unset, .unset, .unset, .unset, .unset] []))
            refine Go.step (fun t k => XS.iload X29.here hx rfl (hb hby at_151) rfl k) ?_
            show Go p e below _ (T29.setTop (mkF m 153 #[.val (.int p1), .val (.int p2), .val (.int p3), .val (.int p4), .val (.int p5), .val (.int (1 : Int32)), .val (.int v7), .val (.int v8), .val (.int v9), .val (.int v10), .val (.ref b25_0), .val (.int v7), .val (.int v27), .val (.ref b29_0), .unset, .unset, .unset, .unset, .unset] [(.int (1 : Int32))]))
            refine Go.step (fun t k => XS.iconst X29.here hx rfl (hb hby at_153)  k) ?_
            show Go p e below _ (T29.setTop (mkF m 154 #[.val (.int p1), .val (.int p2), .val (.int p3), .val (.int p4), .val (.int p5), .val (.int (1 : Int32)), .val (.int v7), .val (.int v8), .val (.int v9), .val (.int v10), .val (.ref b25_0), .val (.int v7), .val (.int v27), .val (.ref b29_0), .unset, .unset, .unset, .unset, .unset] [(.int (3 : Int32)), (.int (1 : Int32))]))
            refine Go.step (fun t k => XS.icmpYes X29.here hx rfl (pc0 := 154) (pc' := 168) rfl (hb hby at_154) rfl (tlt (by decide : (1 : Int32) < (3 : Int32))).1 (by decide) (by decide) k) ?_
            show Go p e below _ (T29.setTop (mkF m 168 #[.val (.int p1), .val (.int p2), .val (.int p3), .val (.int p4), .val (.int p5), .val (.int (1 : Int32)), .val (.int v7), .val (.int v8), .val (.int v9), .val (.int v10), .val (.ref b25_0), .val (.int v7), .val (.int v27), .val (.ref b29_0), .unset, .unset, .unset, .unset, .unset] []))
            refine Go.step (fun t k => XS.iconst X29.here hx rfl (hb hby at_168)  k) ?_
            show Go p e below _ (T29.setTop (mkF m 169 #[.val (.int p1), .val (.int p2), .val (.int p3), .val (.int p4), .val (.int p5), .val (.int (1 : Int32)), .val (.int v7), .val (.int v8), .val (.int v9), .val (.int v10), .val (.ref b25_0), .val (.int v7), .val (.int v27), .val (.ref b29_0), .unset, .unset, .unset, .unset, .unset] [(.int (0 : Int32))]))
            exact Go.here ⟨_, _, by simp only [hv32, if_neg hc31], X29, N29, rfl⟩
        obtain ⟨_, st33, T33, Lj33, rfl, X33, N33, e33⟩ := J135
        refine Go.trans st33 ?_
        show Go p e below _ (T33.setTop (mkF m 169 #[.val (.int p1), .val (.int p2), .val (.int p3), .val (.int p4), .val (.int p5), .val (.int (1 : Int32)), .val (.int v7), .val (.int v8), .val (.int v9), .val (.int v10), .val (.ref b25_0), .val (.int v7), .val (.int v27), .val (.ref b29_0), .unset, .unset, .unset, .unset, .unset] [(.int v32)]))
        refine Go.step (fun t k => XS.istore X33.here hx rfl (hb hby at_169) rfl (l' := #[.val (.int p1), .val (.int p2), .val (.int p3), .val (.int p4), .val (.int p5), .val (.int (1 : Int32)), .val (.int v7), .val (.int v8), .val (.int v9), .val (.int v10), .val (.ref b25_0), .val (.int v7), .val (.int v27), .val (.ref b29_0), .val (.int v32), .unset, .unset, .unset, .unset]) rfl k) ?_
        show Go p e below _ (T33.setTop (mkF m 171 #[.val (.int p1), .val (.int p2), .val (.int p3), .val (.int p4), .val (.int p5), .val (.int (1 : Int32)), .val (.int v7), .val (.int v8), .val (.int v9), .val (.int v10), .val (.ref b25_0), .val (.int v7), .val (.int v27), .val (.ref b29_0), .val (.int v32), .unset, .unset, .unset, .unset] []))
        refine Go.step (fun t k => XS.iload X33.here hx rfl (hb hby at_171) rfl k) ?_
        show Go p e below _ (T33.setTop (mkF m 173 #[.val (.int p1), .val (.int p2), .val (.int p3), .val (.int p4), .val (.int p5), .val (.int (1 : Int32)), .val (.int v7), .val (.int v8), .val (.int v9), .val (.int v10), .val (.ref b25_0), .val (.int v7), .val (.int v27), .val (.ref b29_0), .val (.int v32), .unset, .unset, .unset, .unset] [(.int v10)]))
        refine Go.step (fun t k => XS.bipush X33.here hx rfl (hb hby at_173)  k) ?_
        show Go p e below _ (T33.setTop (mkF m 175 #[.val (.int p1), .val (.int p2), .val (.int p3), .val (.int p4), .val (.int p5), .val (.int (1 : Int32)), .val (.int v7), .val (.int v8), .val (.int v9), .val (.int v10), .val (.ref b25_0), .val (.int v7), .val (.int v27), .val (.ref b29_0), .val (.int v32), .unset, .unset, .unset, .unset] [(.int (32 : Int32)), (.int v10)]))
        refine Go.step (fun t k => XS.idiv X33.here hx rfl (hb hby at_175) rfl (by decide) k) ?_
        show Go p e below _ (T33.setTop (mkF m 176 #[.val (.int p1), .val (.int p2), .val (.int p3), .val (.int p4), .val (.int p5), .val (.int (1 : Int32)), .val (.int v7), .val (.int v8), .val (.int v9), .val (.int v10), .val (.ref b25_0), .val (.int v7), .val (.int v27), .val (.ref b29_0), .val (.int v32), .unset, .unset, .unset, .unset] [(.int (v10 / (32 : Int32)))]))
        obtain ⟨v34, hv34⟩ : ∃ z : Int32, z = (v10 / (32 : Int32)) := ⟨_, rfl⟩
        rw [← hv34]
        show Go p e below _ (T33.setTop (mkF m 176 #[.val (.int p1), .val (.int p2), .val (.int p3), .val (.int p4), .val (.int p5), .val (.int (1 : Int32)), .val (.int v7), .val (.int v8), .val (.int v9), .val (.int v10), .val (.ref b25_0), .val (.int v7), .val (.int v27), .val (.ref b29_0), .val (.int v32), .unset, .unset, .unset, .unset] [(.int v34)]))
        refine Go.step (fun t k => XS.istore X33.here hx rfl (hb hby at_176) rfl (l' := #[.val (.int p1), .val (.int p2), .val (.int p3), .val (.int p4), .val (.int p5), .val (.int (1 : Int32)), .val (.int v7), .val (.int v8), .val (.int v9), .val (.int v10), .val (.ref b25_0), .val (.int v7), .val (.int v27), .val (.ref b29_0), .val (.int v32), .val (.int v34), .unset, .unset, .unset]) rfl k) ?_
        show Go p e below _ (T33.setTop (mkF m 178 #[.val (.int p1), .val (.int p2), .val (.int p3), .val (.int p4), .val (.int p5), .val (.int (1 : Int32)), .val (.int v7), .val (.int v8), .val (.int v9), .val (.int v10), .val (.ref b25_0), .val (.int v7), .val (.int v27), .val (.ref b29_0), .val (.int v32), .val (.int v34), .unset, .unset, .unset] []))
        refine Go.step (fun t k => XS.iload X33.here hx rfl (hb hby at_178) rfl k) ?_
        show Go p e below _ (T33.setTop (mkF m 180 #[.val (.int p1), .val (.int p2), .val (.int p3), .val (.int p4), .val (.int p5), .val (.int (1 : Int32)), .val (.int v7), .val (.int v8), .val (.int v9), .val (.int v10), .val (.ref b25_0), .val (.int v7), .val (.int v27), .val (.ref b29_0), .val (.int v32), .val (.int v34), .unset, .unset, .unset] [(.int v34)]))
        refine Go.step (fun t k => XS.aload X33.here hx rfl (hb hby at_180) rfl rfl k) ?_
        show Go p e below _ (T33.setTop (mkF m 182 #[.val (.int p1), .val (.int p2), .val (.int p3), .val (.int p4), .val (.int p5), .val (.int (1 : Int32)), .val (.int v7), .val (.int v8), .val (.int v9), .val (.int v10), .val (.ref b25_0), .val (.int v7), .val (.int v27), .val (.ref b29_0), .val (.int v32), .val (.int v34), .unset, .unset, .unset] [(.ref b29_0), (.int v34)]))
        refine Go.step (lenA X33 hx hZ e33 Q29_0 (g := (mkF m 182 #[.val (.int p1), .val (.int p2), .val (.int p3), .val (.int p4), .val (.int p5), .val (.int (1 : Int32)), .val (.int v7), .val (.int v8), .val (.int v9), .val (.int v10), .val (.ref b25_0), .val (.int v7), .val (.int v27), .val (.ref b29_0), .val (.int v32), .val (.int v34), .unset, .unset, .unset] [(.ref b29_0), (.int v34)])) rfl rfl (hb hby at_182)) ?_
        show Go p e below _ (T33.setTop (mkF m 183 #[.val (.int p1), .val (.int p2), .val (.int p3), .val (.int p4), .val (.int p5), .val (.int (1 : Int32)), .val (.int v7), .val (.int v8), .val (.int v9), .val (.int v10), .val (.ref b25_0), .val (.int v7), .val (.int v27), .val (.ref b29_0), .val (.int v32), .val (.int v34), .unset, .unset, .unset] [(.int (f6 (1 : Int32) (((f6 (-1 : Int32) v7) + (32 : Int32)) / (32 : Int32)).toNatClampNeg.toInt32).toNatClampNeg.toInt32), (.int v34)]))
        by_cases hc35 : v34 < (f6 (1 : Int32) (((f6 (-1 : Int32) v7) + (32 : Int32)) / (32 : Int32)).toNatClampNeg.toInt32).toNatClampNeg.toInt32
        · refine Go.step (fun t k => XS.icmpYes X33.here hx rfl (pc0 := 183) (pc' := 197) rfl (hb hby at_183) rfl (tlt hc35).1 (by decide) (by decide) k) ?_
          show Go p e below _ (T33.setTop (mkF m 197 #[.val (.int p1), .val (.int p2), .val (.int p3), .val (.int p4), .val (.int p5), .val (.int (1 : Int32)), .val (.int v7), .val (.int v8), .val (.int v9), .val (.int v10), .val (.ref b25_0), .val (.int v7), .val (.int v27), .val (.ref b29_0), .val (.int v32), .val (.int v34), .unset, .unset, .unset] []))
          refine Go.step (fun t k => XS.aload X33.here hx rfl (hb hby at_197) rfl rfl k) ?_
          show Go p e below _ (T33.setTop (mkF m 199 #[.val (.int p1), .val (.int p2), .val (.int p3), .val (.int p4), .val (.int p5), .val (.int (1 : Int32)), .val (.int v7), .val (.int v8), .val (.int v9), .val (.int v10), .val (.ref b25_0), .val (.int v7), .val (.int v27), .val (.ref b29_0), .val (.int v32), .val (.int v34), .unset, .unset, .unset] [(.ref b29_0)]))
          refine Go.step (fun t k => XS.iload X33.here hx rfl (hb hby at_199) rfl k) ?_
          show Go p e below _ (T33.setTop (mkF m 201 #[.val (.int p1), .val (.int p2), .val (.int p3), .val (.int p4), .val (.int p5), .val (.int (1 : Int32)), .val (.int v7), .val (.int v8), .val (.int v9), .val (.int v10), .val (.ref b25_0), .val (.int v7), .val (.int v27), .val (.ref b29_0), .val (.int v32), .val (.int v34), .unset, .unset, .unset] [(.int v34), (.ref b29_0)]))
          refine Go.step (ldJ X33 hx hZ e33 Q29_0 (j := v34) (by subst_vars; exact (own_ix _ _ Q29_0.len (by assumption)).1) (by subst_vars; exact (own_ix _ _ Q29_0.len (by assumption)).2) (g := (mkF m 201 #[.val (.int p1), .val (.int p2), .val (.int p3), .val (.int p4), .val (.int p5), .val (.int (1 : Int32)), .val (.int v7), .val (.int v8), .val (.int v9), .val (.int v10), .val (.ref b25_0), .val (.int v7), .val (.int v27), .val (.ref b29_0), .val (.int v32), .val (.int v34), .unset, .unset, .unset] [(.int v34), (.ref b29_0)])) rfl rfl (hb hby at_201)) ?_
          show Go p e below _ (T33.setTop (mkF m 202 #[.val (.int p1), .val (.int p2), .val (.int p3), .val (.int p4), .val (.int p5), .val (.int (1 : Int32)), .val (.int v7), .val (.int v8), .val (.int v9), .val (.int v10), .val (.ref b25_0), .val (.int v7), .val (.int v27), .val (.ref b29_0), .val (.int v32), .val (.int v34), .unset, .unset, .unset] [(.long ((cpW (orW (fun _ => (0 : Int32)) v7) (((f6 (-1 : Int32) v7) + (32 : Int32)) / (32 : Int32)).toNatClampNeg) v34.toNatClampNeg))]))
          obtain ⟨v36, hv36⟩ : ∃ z : Int64, z = ((cpW (orW (fun _ => (0 : Int32)) v7) (((f6 (-1 : Int32) v7) + (32 : Int32)) / (32 : Int32)).toNatClampNeg) v34.toNatClampNeg) := ⟨_, rfl⟩
          rw [← hv36]
          show Go p e below _ (T33.setTop (mkF m 202 #[.val (.int p1), .val (.int p2), .val (.int p3), .val (.int p4), .val (.int p5), .val (.int (1 : Int32)), .val (.int v7), .val (.int v8), .val (.int v9), .val (.int v10), .val (.ref b25_0), .val (.int v7), .val (.int v27), .val (.ref b29_0), .val (.int v32), .val (.int v34), .unset, .unset, .unset] [(.long v36)]))
          refine Go.step (fun t k => XS.lstore X33.here hx rfl (hb hby at_202) rfl (l' := #[.val (.int p1), .val (.int p2), .val (.int p3), .val (.int p4), .val (.int p5), .val (.int (1 : Int32)), .val (.int v7), .val (.int v8), .val (.int v9), .val (.int v10), .val (.ref b25_0), .val (.int v7), .val (.int v27), .val (.ref b29_0), .val (.int v32), .val (.int v34), .val (.long v36), .second, .unset]) rfl k) ?_
          show Go p e below _ (T33.setTop (mkF m 204 #[.val (.int p1), .val (.int p2), .val (.int p3), .val (.int p4), .val (.int p5), .val (.int (1 : Int32)), .val (.int v7), .val (.int v8), .val (.int v9), .val (.int v10), .val (.ref b25_0), .val (.int v7), .val (.int v27), .val (.ref b29_0), .val (.int v32), .val (.int v34), .val (.long v36), .second, .unset] []))
          refine Go.step (fun t k => XS.lload X33.here hx rfl (hb hby at_204) rfl k) ?_
          show Go p e below _ (T33.setTop (mkF m 206 #[.val (.int p1), .val (.int p2), .val (.int p3), .val (.int p4), .val (.int p5), .val (.int (1 : Int32)), .val (.int v7), .val (.int v8), .val (.int v9), .val (.int v10), .val (.ref b25_0), .val (.int v7), .val (.int v27), .val (.ref b29_0), .val (.int v32), .val (.int v34), .val (.long v36), .second, .unset] [(.long v36)]))
          refine Go.step (fun t k => XS.lconst X33.here hx rfl (hb hby at_206)  k) ?_
          show Go p e below _ (T33.setTop (mkF m 207 #[.val (.int p1), .val (.int p2), .val (.int p3), .val (.int p4), .val (.int p5), .val (.int (1 : Int32)), .val (.int v7), .val (.int v8), .val (.int v9), .val (.int v10), .val (.ref b25_0), .val (.int v7), .val (.int v27), .val (.ref b29_0), .val (.int v32), .val (.int v34), .val (.long v36), .second, .unset] [(.long (0 : Int64)), (.long v36)]))
          refine Go.step (fun t k => XS.lcmp X33.here hx rfl (hb hby at_207) rfl k) ?_
          show Go p e below _ (T33.setTop (mkF m 208 #[.val (.int p1), .val (.int p2), .val (.int p3), .val (.int p4), .val (.int p5), .val (.int (1 : Int32)), .val (.int v7), .val (.int v8), .val (.int v9), .val (.int v10), .val (.ref b25_0), .val (.int v7), .val (.int v27), .val (.ref b29_0), .val (.int v32), .val (.int v34), .val (.long v36), .second, .unset] [(.int (lcmpW v36 (0 : Int64)))]))
          by_cases hc37 : v36 < (0 : Int64)
          · refine Go.step (fun t k => XS.ifYes X33.here hx rfl (pc0 := 208) (pc' := 220) rfl (hb hby at_208) rfl ((if0 _ _).trans (tlt ((lw_lt _ _).mpr hc37)).1) (by decide) (by decide) k) ?_
            show Go p e below _ (T33.setTop (mkF m 220 #[.val (.int p1), .val (.int p2), .val (.int p3), .val (.int p4), .val (.int p5), .val (.int (1 : Int32)), .val (.int v7), .val (.int v8), .val (.int v9), .val (.int v10), .val (.ref b25_0), .val (.int v7), .val (.int v27), .val (.ref b29_0), .val (.int v32), .val (.int v34), .val (.long v36), .second, .unset] []))
            refine Go.step (fun t k => XS.iconst X33.here hx rfl (hb hby at_220)  k) ?_
            show Go p e below _ (T33.setTop (mkF m 221 #[.val (.int p1), .val (.int p2), .val (.int p3), .val (.int p4), .val (.int p5), .val (.int (1 : Int32)), .val (.int v7), .val (.int v8), .val (.int v9), .val (.int v10), .val (.ref b25_0), .val (.int v7), .val (.int v27), .val (.ref b29_0), .val (.int v32), .val (.int v34), .val (.long v36), .second, .unset] [(.int (0 : Int32))]))
            subst hv36
            subst hv34
            subst hv32
            subst hv27
            subst hv10
            subst hv9
            subst hv8
            subst hv7
            subst hv6
            exact retGN X33 hx Bd.notSynchronized Bd.returns (t := .boolean) (by simp) (z' := (0 : Int32)) rfl (hb hby at_221) ⟨by first | (simp only [f0, if_neg hc11, if_pos hc24, if_pos hc30, if_pos hc35, if_pos hc37]; done) | rfl | (simp [f0, if_neg hc11, if_pos hc24, if_pos hc30, if_pos hc35, if_pos hc37]; done), N33⟩ (by decide) (by decide)
          · refine Go.step (fun t k => XS.ifNo X33.here hx rfl (hb hby at_208) rfl ((if0 _ _).trans (flt (fun q => hc37 ((lw_lt _ _).mp q))).1) k) ?_
            show Go p e below _ (T33.setTop (mkF m 211 #[.val (.int p1), .val (.int p2), .val (.int p3), .val (.int p4), .val (.int p5), .val (.int (1 : Int32)), .val (.int v7), .val (.int v8), .val (.int v9), .val (.int v10), .val (.ref b25_0), .val (.int v7), .val (.int v27), .val (.ref b29_0), .val (.int v32), .val (.int v34), .val (.long v36), .second, .unset] []))
            refine Go.step (fun t k => XS.lload X33.here hx rfl (hb hby at_211) rfl k) ?_
            show Go p e below _ (T33.setTop (mkF m 213 #[.val (.int p1), .val (.int p2), .val (.int p3), .val (.int p4), .val (.int p5), .val (.int (1 : Int32)), .val (.int v7), .val (.int v8), .val (.int v9), .val (.int v10), .val (.ref b25_0), .val (.int v7), .val (.int v27), .val (.ref b29_0), .val (.int v32), .val (.int v34), .val (.long v36), .second, .unset] [(.long v36)]))
            refine Go.step (X33.ldc2Long hx hown (mvT hZ (hw _ (List.mem_of_getElem? (i := 29) rfl))) (g := (mkF m 213 #[.val (.int p1), .val (.int p2), .val (.int p3), .val (.int p4), .val (.int p5), .val (.int (1 : Int32)), .val (.int v7), .val (.int v8), .val (.int v9), .val (.int v10), .val (.ref b25_0), .val (.int v7), .val (.int v27), .val (.ref b29_0), .val (.int v32), .val (.int v34), .val (.long v36), .second, .unset] [(.long v36)])) rfl (hb hby at_213)) ?_
            show Go p e below _ (T33.setTop (mkF m 216 #[.val (.int p1), .val (.int p2), .val (.int p3), .val (.int p4), .val (.int p5), .val (.int (1 : Int32)), .val (.int v7), .val (.int v8), .val (.int v9), .val (.int v10), .val (.ref b25_0), .val (.int v7), .val (.int v27), .val (.ref b29_0), .val (.int v32), .val (.int v34), .val (.long v36), .second, .unset] [(.long (4294967295 : Int64)), (.long v36)]))
            refine Go.step (fun t k => XS.lcmp X33.here hx rfl (hb hby at_216) rfl k) ?_
            show Go p e below _ (T33.setTop (mkF m 217 #[.val (.int p1), .val (.int p2), .val (.int p3), .val (.int p4), .val (.int p5), .val (.int (1 : Int32)), .val (.int v7), .val (.int v8), .val (.int v9), .val (.int v10), .val (.ref b25_0), .val (.int v7), .val (.int v27), .val (.ref b29_0), .val (.int v32), .val (.int v34), .val (.long v36), .second, .unset] [(.int (lcmpW v36 (4294967295 : Int64)))]))
            by_cases hc38 : (4294967295 : Int64) < v36
            · refine Go.step (fun t k => XS.ifNo X33.here hx rfl (hb hby at_217) rfl ((if0 _ _).trans (tlt ((lw_gt _ _).mpr hc38)).2.2.2) k) ?_
              show Go p e below _ (T33.setTop (mkF m 220 #[.val (.int p1), .val (.int p2), .val (.int p3), .val (.int p4), .val (.int p5), .val (.int (1 : Int32)), .val (.int v7), .val (.int v8), .val (.int v9), .val (.int v10), .val (.ref b25_0), .val (.int v7), .val (.int v27), .val (.ref b29_0), .val (.int v32), .val (.int v34), .val (.long v36), .second, .unset] []))
              refine Go.step (fun t k => XS.iconst X33.here hx rfl (hb hby at_220)  k) ?_
              show Go p e below _ (T33.setTop (mkF m 221 #[.val (.int p1), .val (.int p2), .val (.int p3), .val (.int p4), .val (.int p5), .val (.int (1 : Int32)), .val (.int v7), .val (.int v8), .val (.int v9), .val (.int v10), .val (.ref b25_0), .val (.int v7), .val (.int v27), .val (.ref b29_0), .val (.int v32), .val (.int v34), .val (.long v36), .second, .unset] [(.int (0 : Int32))]))
              subst hv36
              subst hv34
              subst hv32
              subst hv27
              subst hv10
              subst hv9
              subst hv8
              subst hv7
              subst hv6
              exact retGN X33 hx Bd.notSynchronized Bd.returns (t := .boolean) (by simp) (z' := (0 : Int32)) rfl (hb hby at_221) ⟨by first | (simp only [f0, if_neg hc11, if_pos hc24, if_pos hc30, if_pos hc35, if_neg hc37, if_pos hc38]; done) | rfl | (simp [f0, if_neg hc11, if_pos hc24, if_pos hc30, if_pos hc35, if_neg hc37, if_pos hc38]; done), N33⟩ (by decide) (by decide)
            · refine Go.step (fun t k => XS.ifYes X33.here hx rfl (pc0 := 217) (pc' := 222) rfl (hb hby at_217) rfl ((if0 _ _).trans (flt (fun q => hc38 ((lw_gt _ _).mp q))).2.2.2) (by decide) (by decide) k) ?_
              show Go p e below _ (T33.setTop (mkF m 222 #[.val (.int p1), .val (.int p2), .val (.int p3), .val (.int p4), .val (.int p5), .val (.int (1 : Int32)), .val (.int v7), .val (.int v8), .val (.int v9), .val (.int v10), .val (.ref b25_0), .val (.int v7), .val (.int v27), .val (.ref b29_0), .val (.int v32), .val (.int v34), .val (.long v36), .second, .unset] []))
              refine Go.step (fun t k => XS.lload X33.here hx rfl (hb hby at_222) rfl k) ?_
              show Go p e below _ (T33.setTop (mkF m 224 #[.val (.int p1), .val (.int p2), .val (.int p3), .val (.int p4), .val (.int p5), .val (.int (1 : Int32)), .val (.int v7), .val (.int v8), .val (.int v9), .val (.int v10), .val (.ref b25_0), .val (.int v7), .val (.int v27), .val (.ref b29_0), .val (.int v32), .val (.int v34), .val (.long v36), .second, .unset] [(.long v36)]))
              refine Go.step (fun t k => XS.iload X33.here hx rfl (hb hby at_224) rfl k) ?_
              show Go p e below _ (T33.setTop (mkF m 226 #[.val (.int p1), .val (.int p2), .val (.int p3), .val (.int p4), .val (.int p5), .val (.int (1 : Int32)), .val (.int v7), .val (.int v8), .val (.int v9), .val (.int v10), .val (.ref b25_0), .val (.int v7), .val (.int v27), .val (.ref b29_0), .val (.int v32), .val (.int v34), .val (.long v36), .second, .unset] [(.int v10), (.long v36)]))
              refine Go.step (fun t k => XS.bipush X33.here hx rfl (hb hby at_226)  k) ?_
              show Go p e below _ (T33.setTop (mkF m 228 #[.val (.int p1), .val (.int p2), .val (.int p3), .val (.int p4), .val (.int p5), .val (.int (1 : Int32)), .val (.int v7), .val (.int v8), .val (.int v9), .val (.int v10), .val (.ref b25_0), .val (.int v7), .val (.int v27), .val (.ref b29_0), .val (.int v32), .val (.int v34), .val (.long v36), .second, .unset] [(.int (32 : Int32)), (.int v10), (.long v36)]))
              refine Go.step (fun t (k : Steps p.tables e below (T33.setTop (mkF m 229 #[.val (.int p1), .val (.int p2), .val (.int p3), .val (.int p4), .val (.int p5), .val (.int (1 : Int32)), .val (.int v7), .val (.int v8), .val (.int v9), .val (.int v10), .val (.ref b25_0), .val (.int v7), .val (.int v27), .val (.ref b29_0), .val (.int v32), .val (.int v34), .val (.long v36), .second, .unset] [(.int (v10 % (32 : Int32))), (.long v36)])) t) => XS.irem X33.here hx rfl (hb hby at_228) rfl (by decide) (by rw [remI]; exact k)) ?_
              show Go p e below _ (T33.setTop (mkF m 229 #[.val (.int p1), .val (.int p2), .val (.int p3), .val (.int p4), .val (.int p5), .val (.int (1 : Int32)), .val (.int v7), .val (.int v8), .val (.int v9), .val (.int v10), .val (.ref b25_0), .val (.int v7), .val (.int v27), .val (.ref b29_0), .val (.int v32), .val (.int v34), .val (.long v36), .second, .unset] [(.int (v10 % (32 : Int32))), (.long v36)]))
              refine Go.step (fun t k => XS.lushr X33.here hx rfl (hb hby at_229) rfl k) ?_
              show Go p e below _ (T33.setTop (mkF m 230 #[.val (.int p1), .val (.int p2), .val (.int p3), .val (.int p4), .val (.int p5), .val (.int (1 : Int32)), .val (.int v7), .val (.int v8), .val (.int v9), .val (.int v10), .val (.ref b25_0), .val (.int v7), .val (.int v27), .val (.ref b29_0), .val (.int v32), .val (.int v34), .val (.long v36), .second, .unset] [(.long ((v36.toUInt64 >>> ((v10 % (32 : Int32)) &&& 0x3f).toInt64.toUInt64).toInt64))]))
              refine Go.step (fun t k => XS.lconst X33.here hx rfl (hb hby at_230)  k) ?_
              show Go p e below _ (T33.setTop (mkF m 231 #[.val (.int p1), .val (.int p2), .val (.int p3), .val (.int p4), .val (.int p5), .val (.int (1 : Int32)), .val (.int v7), .val (.int v8), .val (.int v9), .val (.int v10), .val (.ref b25_0), .val (.int v7), .val (.int v27), .val (.ref b29_0), .val (.int v32), .val (.int v34), .val (.long v36), .second, .unset] [(.long (1 : Int64)), (.long ((v36.toUInt64 >>> ((v10 % (32 : Int32)) &&& 0x3f).toInt64.toUInt64).toInt64))]))
              refine Go.step (fun t k => XS.land X33.here hx rfl (hb hby at_231) rfl k) ?_
              show Go p e below _ (T33.setTop (mkF m 232 #[.val (.int p1), .val (.int p2), .val (.int p3), .val (.int p4), .val (.int p5), .val (.int (1 : Int32)), .val (.int v7), .val (.int v8), .val (.int v9), .val (.int v10), .val (.ref b25_0), .val (.int v7), .val (.int v27), .val (.ref b29_0), .val (.int v32), .val (.int v34), .val (.long v36), .second, .unset] [(.long (((v36.toUInt64 >>> ((v10 % (32 : Int32)) &&& 0x3f).toInt64.toUInt64).toInt64) &&& (1 : Int64)))]))
              refine Go.step (fun t k => XS.lconst X33.here hx rfl (hb hby at_232)  k) ?_
              show Go p e below _ (T33.setTop (mkF m 233 #[.val (.int p1), .val (.int p2), .val (.int p3), .val (.int p4), .val (.int p5), .val (.int (1 : Int32)), .val (.int v7), .val (.int v8), .val (.int v9), .val (.int v10), .val (.ref b25_0), .val (.int v7), .val (.int v27), .val (.ref b29_0), .val (.int v32), .val (.int v34), .val (.long v36), .second, .unset] [(.long (0 : Int64)), (.long (((v36.toUInt64 >>> ((v10 % (32 : Int32)) &&& 0x3f).toInt64.toUInt64).toInt64) &&& (1 : Int64)))]))
              refine Go.step (fun t k => XS.lcmp X33.here hx rfl (hb hby at_233) rfl k) ?_
              show Go p e below _ (T33.setTop (mkF m 234 #[.val (.int p1), .val (.int p2), .val (.int p3), .val (.int p4), .val (.int p5), .val (.int (1 : Int32)), .val (.int v7), .val (.int v8), .val (.int v9), .val (.int v10), .val (.ref b25_0), .val (.int v7), .val (.int v27), .val (.ref b29_0), .val (.int v32), .val (.int v34), .val (.long v36), .second, .unset] [(.int (lcmpW (((v36.toUInt64 >>> ((v10 % (32 : Int32)) &&& 0x3f).toInt64.toUInt64).toInt64) &&& (1 : Int64)) (0 : Int64)))]))
              obtain ⟨v40, hv40⟩ : ∃ z : Int32, z = (if (((v36.toUInt64 >>> ((v10 % (32 : Int32)) &&& 0x3f).toInt64.toUInt64).toInt64) &&& (1 : Int64)) = (0 : Int64) then (0 : Int32) else (1 : Int32)) := ⟨_, rfl⟩
              have J234 : Go p e below (AtF p l e room_1 s m #[(.int p1), (.int p2), (.int p3), (.int p4), (.int p5)] below meth c n0 4 258 T29.heap (mkF m 242 #[.val (.int p1), .val (.int p2), .val (.int p3), .val (.int p4), .val (.int p5), .val (.int (1 : Int32)), .val (.int v7), .val (.int v8), .val (.int v9), .val (.int v10), .val (.ref b25_0), .val (.int v7), .val (.int v27), .val (.ref b29_0), .val (.int v32), .val (.int v34), .val (.long v36), .second, .unset] [(.int v40)])) (T33.setTop (mkF m 234 #[.val (.int p1), .val (.int p2), .val (.int p3), .val (.int p4), .val (.int p5), .val (.int (1 : Int32)), .val (.int v7), .val (.int v8), .val (.int v9), .val (.int v10), .val (.ref b25_0), .val (.int v7), .val (.int v27), .val (.ref b29_0), .val (.int v32), .val (.int v34), .val (.long v36), .second, .unset] [(.int (lcmpW (((v36.toUInt64 >>> ((v10 % (32 : Int32)) &&& 0x3f).toInt64.toUInt64).toInt64) &&& (1 : Int64)) (0 : Int64)))])) := by
                by_cases hc39 : (((v36.toUInt64 >>> ((v10 % (32 : Int32)) &&& 0x3f).toInt64.toUInt64).toInt64) &&& (1 : Int64)) = (0 : Int64)
                · refine Go.step (fun t k => XS.ifYes X33.here hx rfl (pc0 := 234) (pc' := 241) rfl (hb hby at_234) rfl ((if0 _ _).trans (teq ((lw_eq _ _).mpr hc39)).1) (by decide) (by decide) k) ?_
                  show Go p e below _ (T33.setTop (mkF m 241 #[.val (.int p1), .val (.int p2), .val (.int p3), .val (.int p4), .val (.int p5), .val (.int (1 : Int32)), .val (.int v7), .val (.int v8), .val (.int v9), .val (.int v10), .val (.ref b25_0), .val (.int v7), .val (.int v27), .val (.ref b29_0), .val (.int v32), .val (.int v34), .val (.long v36), .second, .unset] []))
                  refine Go.step (fun t k => XS.iconst X33.here hx rfl (hb hby at_241)  k) ?_
                  show Go p e below _ (T33.setTop (mkF m 242 #[.val (.int p1), .val (.int p2), .val (.int p3), .val (.int p4), .val (.int p5), .val (.int (1 : Int32)), .val (.int v7), .val (.int v8), .val (.int v9), .val (.int v10), .val (.ref b25_0), .val (.int v7), .val (.int v27), .val (.ref b29_0), .val (.int v32), .val (.int v34), .val (.long v36), .second, .unset] [(.int (0 : Int32))]))
                  exact Go.here ⟨_, _, by simp only [hv40, if_pos hc39], X33, N33, e33⟩
                · refine Go.step (fun t k => XS.ifNo X33.here hx rfl (hb hby at_234) rfl ((if0 _ _).trans (feq (fun q => hc39 ((lw_eq _ _).mp q))).1) k) ?_
                  show Go p e below _ (T33.setTop (mkF m 237 #[.val (.int p1), .val (.int p2), .val (.int p3), .val (.int p4), .val (.int p5), .val (.int (1 : Int32)), .val (.int v7), .val (.int v8), .val (.int v9), .val (.int v10), .val (.ref b25_0), .val (.int v7), .val (.int v27), .val (.ref b29_0), .val (.int v32), .val (.int v34), .val (.long v36), .second, .unset] []))
                  refine Go.step (fun t k => XS.iconst X33.here hx rfl (hb hby at_237)  k) ?_
                  show Go p e below _ (T33.setTop (mkF m 238 #[.val (.int p1), .val (.int p2), .val (.int p3), .val (.int p4), .val (.int p5), .val (.int (1 : Int32)), .val (.int v7), .val (.int v8), .val (.int v9), .val (.int v10), .val (.ref b25_0), .val (.int v7), .val (.int v27), .val (.ref b29_0), .val (.int v32), .val (.int v34), .val (.long v36), .second, .unset] [(.int (1 : Int32))]))
                  refine Go.step (fun t k => XS.goto X33.here hx rfl (pc0 := 238) (pc' := 242) rfl (hb hby at_238) (by decide) (by decide) k) ?_
                  show Go p e below _ (T33.setTop (mkF m 242 #[.val (.int p1), .val (.int p2), .val (.int p3), .val (.int p4), .val (.int p5), .val (.int (1 : Int32)), .val (.int v7), .val (.int v8), .val (.int v9), .val (.int v10), .val (.ref b25_0), .val (.int v7), .val (.int v27), .val (.ref b29_0), .val (.int v32), .val (.int v34), .val (.long v36), .second, .unset] [(.int (1 : Int32))]))
                  exact Go.here ⟨_, _, by simp only [hv40, if_neg hc39], X33, N33, e33⟩
              obtain ⟨_, st41, T41, Lj41, rfl, X41, N41, e41⟩ := J234
              refine Go.trans st41 ?_
              show Go p e below _ (T41.setTop (mkF m 242 #[.val (.int p1), .val (.int p2), .val (.int p3), .val (.int p4), .val (.int p5), .val (.int (1 : Int32)), .val (.int v7), .val (.int v8), .val (.int v9), .val (.int v10), .val (.ref b25_0), .val (.int v7), .val (.int v27), .val (.ref b29_0), .val (.int v32), .val (.int v34), .val (.long v36), .second, .unset] [(.int v40)]))
              refine Go.step (fun t k => XS.istore X41.here hx rfl (hb hby at_242) rfl (l' := #[.val (.int p1), .val (.int p2), .val (.int p3), .val (.int p4), .val (.int p5), .val (.int (1 : Int32)), .val (.int v7), .val (.int v8), .val (.int v9), .val (.int v10), .val (.ref b25_0), .val (.int v7), .val (.int v27), .val (.ref b29_0), .val (.int v32), .val (.int v34), .val (.long v36), .second, .val (.int v40)]) rfl k) ?_
              show Go p e below _ (T41.setTop (mkF m 244 #[.val (.int p1), .val (.int p2), .val (.int p3), .val (.int p4), .val (.int p5), .val (.int (1 : Int32)), .val (.int v7), .val (.int v8), .val (.int v9), .val (.int v10), .val (.ref b25_0), .val (.int v7), .val (.int v27), .val (.ref b29_0), .val (.int v32), .val (.int v34), .val (.long v36), .second, .val (.int v40)] []))
              refine Go.step (fun t k => XS.iload X41.here hx rfl (hb hby at_244) rfl k) ?_
              show Go p e below _ (T41.setTop (mkF m 246 #[.val (.int p1), .val (.int p2), .val (.int p3), .val (.int p4), .val (.int p5), .val (.int (1 : Int32)), .val (.int v7), .val (.int v8), .val (.int v9), .val (.int v10), .val (.ref b25_0), .val (.int v7), .val (.int v27), .val (.ref b29_0), .val (.int v32), .val (.int v34), .val (.long v36), .second, .val (.int v40)] [(.int v40)]))
              refine Go.step (fun t k => XS.iload X41.here hx rfl (hb hby at_246) rfl k) ?_
              show Go p e below _ (T41.setTop (mkF m 248 #[.val (.int p1), .val (.int p2), .val (.int p3), .val (.int p4), .val (.int p5), .val (.int (1 : Int32)), .val (.int v7), .val (.int v8), .val (.int v9), .val (.int v10), .val (.ref b25_0), .val (.int v7), .val (.int v27), .val (.ref b29_0), .val (.int v32), .val (.int v34), .val (.long v36), .second, .val (.int v40)] [(.int v32), (.int v40)]))
              by_cases hc42 : v40 = v32
              · refine Go.step (fun t k => XS.icmpNo X41.here hx rfl (hb hby at_248) rfl (teq hc42).2 k) ?_
                show Go p e below _ (T41.setTop (mkF m 251 #[.val (.int p1), .val (.int p2), .val (.int p3), .val (.int p4), .val (.int p5), .val (.int (1 : Int32)), .val (.int v7), .val (.int v8), .val (.int v9), .val (.int v10), .val (.ref b25_0), .val (.int v7), .val (.int v27), .val (.ref b29_0), .val (.int v32), .val (.int v34), .val (.long v36), .second, .val (.int v40)] []))
                refine Go.step (fun t k => XS.iconst X41.here hx rfl (hb hby at_251)  k) ?_
                show Go p e below _ (T41.setTop (mkF m 252 #[.val (.int p1), .val (.int p2), .val (.int p3), .val (.int p4), .val (.int p5), .val (.int (1 : Int32)), .val (.int v7), .val (.int v8), .val (.int v9), .val (.int v10), .val (.ref b25_0), .val (.int v7), .val (.int v27), .val (.ref b29_0), .val (.int v32), .val (.int v34), .val (.long v36), .second, .val (.int v40)] [(.int (1 : Int32))]))
                refine Go.step (fun t k => XS.goto X41.here hx rfl (pc0 := 252) (pc' := 256) rfl (hb hby at_252) (by decide) (by decide) k) ?_
                show Go p e below _ (T41.setTop (mkF m 256 #[.val (.int p1), .val (.int p2), .val (.int p3), .val (.int p4), .val (.int p5), .val (.int (1 : Int32)), .val (.int v7), .val (.int v8), .val (.int v9), .val (.int v10), .val (.ref b25_0), .val (.int v7), .val (.int v27), .val (.ref b29_0), .val (.int v32), .val (.int v34), .val (.long v36), .second, .val (.int v40)] [(.int (1 : Int32))]))
                subst hv40
                subst hv36
                subst hv34
                subst hv32
                subst hv27
                subst hv10
                subst hv9
                subst hv8
                subst hv7
                subst hv6
                exact retGN X41 hx Bd.notSynchronized Bd.returns (t := .boolean) (by simp) (z' := (1 : Int32)) rfl (hb hby at_256) ⟨by first | (simp only [f0, if_neg hc11, if_pos hc24, if_pos hc30, if_pos hc35, if_neg hc37, if_neg hc38, if_pos hc42]; done) | rfl | (simp [f0, if_neg hc11, if_pos hc24, if_pos hc30, if_pos hc35, if_neg hc37, if_neg hc38, if_pos hc42]; done), N41⟩ (by decide) (by decide)
              · refine Go.step (fun t k => XS.icmpYes X41.here hx rfl (pc0 := 248) (pc' := 255) rfl (hb hby at_248) rfl (feq hc42).2 (by decide) (by decide) k) ?_
                show Go p e below _ (T41.setTop (mkF m 255 #[.val (.int p1), .val (.int p2), .val (.int p3), .val (.int p4), .val (.int p5), .val (.int (1 : Int32)), .val (.int v7), .val (.int v8), .val (.int v9), .val (.int v10), .val (.ref b25_0), .val (.int v7), .val (.int v27), .val (.ref b29_0), .val (.int v32), .val (.int v34), .val (.long v36), .second, .val (.int v40)] []))
                refine Go.step (fun t k => XS.iconst X41.here hx rfl (hb hby at_255)  k) ?_
                show Go p e below _ (T41.setTop (mkF m 256 #[.val (.int p1), .val (.int p2), .val (.int p3), .val (.int p4), .val (.int p5), .val (.int (1 : Int32)), .val (.int v7), .val (.int v8), .val (.int v9), .val (.int v10), .val (.ref b25_0), .val (.int v7), .val (.int v27), .val (.ref b29_0), .val (.int v32), .val (.int v34), .val (.long v36), .second, .val (.int v40)] [(.int (0 : Int32))]))
                subst hv40
                subst hv36
                subst hv34
                subst hv32
                subst hv27
                subst hv10
                subst hv9
                subst hv8
                subst hv7
                subst hv6
                exact retGN X41 hx Bd.notSynchronized Bd.returns (t := .boolean) (by simp) (z' := (0 : Int32)) rfl (hb hby at_256) ⟨by first | (simp only [f0, if_neg hc11, if_pos hc24, if_pos hc30, if_pos hc35, if_neg hc37, if_neg hc38, if_neg hc42]; done) | rfl | (simp [f0, if_neg hc11, if_pos hc24, if_pos hc30, if_pos hc35, if_neg hc37, if_neg hc38, if_neg hc42]; done), N41⟩ (by decide) (by decide)
        · refine Go.step (fun t k => XS.icmpNo X33.here hx rfl (hb hby at_183) rfl (flt hc35).1 k) ?_
          show Go p e below _ (T33.setTop (mkF m 186 #[.val (.int p1), .val (.int p2), .val (.int p3), .val (.int p4), .val (.int p5), .val (.int (1 : Int32)), .val (.int v7), .val (.int v8), .val (.int v9), .val (.int v10), .val (.ref b25_0), .val (.int v7), .val (.int v27), .val (.ref b29_0), .val (.int v32), .val (.int v34), .unset, .unset, .unset] []))
          refine Go.step (fun t k => XS.iload X33.here hx rfl (hb hby at_186) rfl k) ?_
          show Go p e below _ (T33.setTop (mkF m 188 #[.val (.int p1), .val (.int p2), .val (.int p3), .val (.int p4), .val (.int p5), .val (.int (1 : Int32)), .val (.int v7), .val (.int v8), .val (.int v9), .val (.int v10), .val (.ref b25_0), .val (.int v7), .val (.int v27), .val (.ref b29_0), .val (.int v32), .val (.int v34), .unset, .unset, .unset] [(.int v32)]))
          by_cases hc43 : v32 = (0 : Int32)
          · refine Go.step (fun t k => XS.ifNo X33.here hx rfl (hb hby at_188) rfl ((if0 _ _).trans (teq hc43).2) k) ?_
            show Go p e below _ (T33.setTop (mkF m 191 #[.val (.int p1), .val (.int p2), .val (.int p3), .val (.int p4), .val (.int p5), .val (.int (1 : Int32)), .val (.int v7), .val (.int v8), .val (.int v9), .val (.int v10), .val (.ref b25_0), .val (.int v7), .val (.int v27), .val (.ref b29_0), .val (.int v32), .val (.int v34), .unset, .unset, .unset] []))
            refine Go.step (fun t k => XS.iconst X33.here hx rfl (hb hby at_191)  k) ?_
            show Go p e below _ (T33.setTop (mkF m 192 #[.val (.int p1), .val (.int p2), .val (.int p3), .val (.int p4), .val (.int p5), .val (.int (1 : Int32)), .val (.int v7), .val (.int v8), .val (.int v9), .val (.int v10), .val (.ref b25_0), .val (.int v7), .val (.int v27), .val (.ref b29_0), .val (.int v32), .val (.int v34), .unset, .unset, .unset] [(.int (1 : Int32))]))
            refine Go.step (fun t k => XS.goto X33.here hx rfl (pc0 := 192) (pc' := 196) rfl (hb hby at_192) (by decide) (by decide) k) ?_
            show Go p e below _ (T33.setTop (mkF m 196 #[.val (.int p1), .val (.int p2), .val (.int p3), .val (.int p4), .val (.int p5), .val (.int (1 : Int32)), .val (.int v7), .val (.int v8), .val (.int v9), .val (.int v10), .val (.ref b25_0), .val (.int v7), .val (.int v27), .val (.ref b29_0), .val (.int v32), .val (.int v34), .unset, .unset, .unset] [(.int (1 : Int32))]))
            subst hv34
            subst hv32
            subst hv27
            subst hv10
            subst hv9
            subst hv8
            subst hv7
            subst hv6
            exact retGN X33 hx Bd.notSynchronized Bd.returns (t := .boolean) (by simp) (z' := (1 : Int32)) rfl (hb hby at_196) ⟨by first | (simp only [f0, if_neg hc11, if_pos hc24, if_pos hc30, if_neg hc35, if_pos hc43]; done) | rfl | (simp [f0, if_neg hc11, if_pos hc24, if_pos hc30, if_neg hc35, if_pos hc43]; done), N33⟩ (by decide) (by decide)
          · refine Go.step (fun t k => XS.ifYes X33.here hx rfl (pc0 := 188) (pc' := 195) rfl (hb hby at_188) rfl ((if0 _ _).trans (feq hc43).2) (by decide) (by decide) k) ?_
            show Go p e below _ (T33.setTop (mkF m 195 #[.val (.int p1), .val (.int p2), .val (.int p3), .val (.int p4), .val (.int p5), .val (.int (1 : Int32)), .val (.int v7), .val (.int v8), .val (.int v9), .val (.int v10), .val (.ref b25_0), .val (.int v7), .val (.int v27), .val (.ref b29_0), .val (.int v32), .val (.int v34), .unset, .unset, .unset] []))
            refine Go.step (fun t k => XS.iconst X33.here hx rfl (hb hby at_195)  k) ?_
            show Go p e below _ (T33.setTop (mkF m 196 #[.val (.int p1), .val (.int p2), .val (.int p3), .val (.int p4), .val (.int p5), .val (.int (1 : Int32)), .val (.int v7), .val (.int v8), .val (.int v9), .val (.int v10), .val (.ref b25_0), .val (.int v7), .val (.int v27), .val (.ref b29_0), .val (.int v32), .val (.int v34), .unset, .unset, .unset] [(.int (0 : Int32))]))
            subst hv34
            subst hv32
            subst hv27
            subst hv10
            subst hv9
            subst hv8
            subst hv7
            subst hv6
            exact retGN X33 hx Bd.notSynchronized Bd.returns (t := .boolean) (by simp) (z' := (0 : Int32)) rfl (hb hby at_196) ⟨by first | (simp only [f0, if_neg hc11, if_pos hc24, if_pos hc30, if_neg hc35, if_neg hc43]; done) | rfl | (simp [f0, if_neg hc11, if_pos hc24, if_pos hc30, if_neg hc35, if_neg hc43]; done), N33⟩ (by decide) (by decide)
      · refine Go.step (fun t k => XS.icmpNo X29.here hx rfl (hb hby at_120) rfl (feq hc30).1 k) ?_
        show Go p e below _ (T29.setTop (mkF m 123 #[.val (.int p1), .val (.int p2), .val (.int p3), .val (.int p4), .val (.int p5), .val (.int (1 : Int32)), .val (.int v7), .val (.int v8), .val (.int v9), .val (.int v10), .val (.ref b25_0), .val (.int v7), .val (.int v27), .val (.ref b29_0), .unset, .unset, .unset, .unset, .unset] []))
        refine Go.step (fun t k => XS.iconst X29.here hx rfl (hb hby at_123)  k) ?_
        show Go p e below _ (T29.setTop (mkF m 124 #[.val (.int p1), .val (.int p2), .val (.int p3), .val (.int p4), .val (.int p5), .val (.int (1 : Int32)), .val (.int v7), .val (.int v8), .val (.int v9), .val (.int v10), .val (.ref b25_0), .val (.int v7), .val (.int v27), .val (.ref b29_0), .unset, .unset, .unset, .unset, .unset] [(.int (0 : Int32))]))
        subst hv27
        subst hv10
        subst hv9
        subst hv8
        subst hv7
        subst hv6
        exact retGN X29 hx Bd.notSynchronized Bd.returns (t := .boolean) (by simp) (z' := (0 : Int32)) rfl (hb hby at_124) ⟨by first | (simp only [f0, if_neg hc11, if_pos hc24, if_neg hc30]; done) | rfl | (simp [f0, if_neg hc11, if_pos hc24, if_neg hc30]; done), N29⟩ (by decide) (by decide)
    · skip
      by_cases hc44 : v6 = (2 : Int32)
      · rw [hc44]
        show Go p e below _ (s₁.setTop (mkF m 34 #[.val (.int p1), .val (.int p2), .val (.int p3), .val (.int p4), .val (.int p5), .val (.int (2 : Int32)), .val (.int v7), .val (.int v8), .val (.int v9), .val (.int v10), .unset, .unset, .unset, .unset, .unset, .unset, .unset, .unset, .unset] []))
        refine Go.step (fun t k => XS.iload X0.here hx rfl (hb hby at_34) rfl k) ?_
        show Go p e below _ (s₁.setTop (mkF m 36 #[.val (.int p1), .val (.int p2), .val (.int p3), .val (.int p4), .val (.int p5), .val (.int (2 : Int32)), .val (.int v7), .val (.int v8), .val (.int v9), .val (.int v10), .unset, .unset, .unset, .unset, .unset, .unset, .unset, .unset, .unset] [(.int (2 : Int32))]))
        refine Go.step (fun t k => XS.iload X0.here hx rfl (hb hby at_36) rfl k) ?_
        show Go p e below _ (s₁.setTop (mkF m 38 #[.val (.int p1), .val (.int p2), .val (.int p3), .val (.int p4), .val (.int p5), .val (.int (2 : Int32)), .val (.int v7), .val (.int v8), .val (.int v9), .val (.int v10), .unset, .unset, .unset, .unset, .unset, .unset, .unset, .unset, .unset] [(.int v7), (.int (2 : Int32))]))
        refine Go.step (fun t k => XS.iload X0.here hx rfl (hb hby at_38) rfl k) ?_
        show Go p e below _ (s₁.setTop (mkF m 40 #[.val (.int p1), .val (.int p2), .val (.int p3), .val (.int p4), .val (.int p5), .val (.int (2 : Int32)), .val (.int v7), .val (.int v8), .val (.int v9), .val (.int v10), .unset, .unset, .unset, .unset, .unset, .unset, .unset, .unset, .unset] [(.int v8), (.int v7), (.int (2 : Int32))]))
        refine Go.step (fun t k => XS.iload X0.here hx rfl (hb hby at_40) rfl k) ?_
        show Go p e below _ (s₁.setTop (mkF m 42 #[.val (.int p1), .val (.int p2), .val (.int p3), .val (.int p4), .val (.int p5), .val (.int (2 : Int32)), .val (.int v7), .val (.int v8), .val (.int v9), .val (.int v10), .unset, .unset, .unset, .unset, .unset, .unset, .unset, .unset, .unset] [(.int v9), (.int v8), (.int v7), (.int (2 : Int32))]))
        obtain ⟨_, _, ⟨T45, L45, k45, n45⟩, -, X45, ⟨Lc45, hQ45, l45, y45, z45⟩, st45⟩ := Jvm.LawKit.callS X0 hx (y := (⟨"com/example/menshen/menshen/core/PermissionSetOfPinLaw", "build", "(IIII)Lcom/example/menshen/menshen/core/PermissionSet;"⟩ : MethodName)) hown (mvT hZ (hw _ (List.mem_of_getElem? (i := 0) rfl))) (mvT hZ (hw _ (List.mem_of_getElem? (i := 1) rfl))) (mvT hZ (hw _ (List.mem_of_getElem? (i := 2) rfl))) (mvT hZ (hw _ (List.mem_of_getElem? (i := 3) rfl))) (by decide) (backOf (W := 0) (rm1_2 l Z a0 hw [] v7 v8 v9 h0 n0 Z0 ((by subst_vars; exact own_bit _) : Bit v7) ((by subst_vars; exact own_bit _) : Bit v8)) hZ (hw _ (List.mem_of_getElem? (i := 3) rfl)) (hw _ (List.mem_of_getElem? (i := 2) rfl)) (by decide) (by decide)) (g := (mkF m 42 #[.val (.int p1), .val (.int p2), .val (.int p3), .val (.int p4), .val (.int p5), .val (.int (2 : Int32)), .val (.int v7), .val (.int v8), .val (.int v9), .val (.int v10), .unset, .unset, .unset, .unset, .unset, .unset, .unset, .unset, .unset] [(.int v9), (.int v8), (.int v7), (.int (2 : Int32))])) rfl (by rw [hml]; rfl) (argsL := [(.int (2 : Int32)), (.int v7), (.int v8), (.int v9)]) (rest := []) (lenOf pd_5 rfl) rfl (by show 2 * 0 + _ ≤ _; exact Nat.le_of_eq rfl) (hb hby at_42) (fun _ _ => ⟨rfl, e0, (by decide : 0 + 3 ≤ _), (by decide : 0 + 131 ≤ _)⟩)
        dsimp only [Pt.U, Pt.locs, Pt.cells, Pt.slots] at X45 l45 y45 z45 st45 hQ45
        subst l45 y45 z45
        obtain ⟨b45_0, b45_1, rfl, N45q, K45, sz45_0, sz45_1, Q45_0, Q45_1, Q45_2⟩ := hQ45
        have N45 := Fr.app N0 N45q
        have g_b45_0 : n0 ≤ b45_0 := Nat.le_trans Z0 sz45_0
        have sz_b45_0 : h0.size ≤ b45_0 := Nat.le_trans KK0.1 sz45_0
        have g_b45_1 : n0 ≤ b45_1 := Nat.le_trans Z0 sz45_1
        have sz_b45_1 : h0.size ≤ b45_1 := Nat.le_trans KK0.1 sz45_1
        have Z45 := Nat.le_trans Z0 K45.1
        have KK45 : Keep h0 T45.heap [] := KK0.trans K45 all0
        refine Go.step st45 ?_
        show Go p e below _ (T45.setTop (mkF m 45 #[.val (.int p1), .val (.int p2), .val (.int p3), .val (.int p4), .val (.int p5), .val (.int (2 : Int32)), .val (.int v7), .val (.int v8), .val (.int v9), .val (.int v10), .unset, .unset, .unset, .unset, .unset, .unset, .unset, .unset, .unset] [(.ref b45_0)]))
        refine Go.step (fun t k => XS.astore X45.here hx rfl (hb hby at_45) rfl rfl (l' := #[.val (.int p1), .val (.int p2), .val (.int p3), .val (.int p4), .val (.int p5), .val (.int (2 : Int32)), .val (.int v7), .val (.int v8), .val (.int v9), .val (.int v10), .val (.ref b45_0), .unset, .unset, .unset, .unset, .unset, .unset, .unset, .unset]) rfl k) ?_
        show Go p e below _ (T45.setTop (mkF m 47 #[.val (.int p1), .val (.int p2), .val (.int p3), .val (.int p4), .val (.int p5), .val (.int (2 : Int32)), .val (.int v7), .val (.int v8), .val (.int v9), .val (.int v10), .val (.ref b45_0), .unset, .unset, .unset, .unset, .unset, .unset, .unset, .unset] []))
        refine Go.step (fun t k => XS.iconst X45.here hx rfl (hb hby at_47)  k) ?_
        show Go p e below _ (T45.setTop (mkF m 48 #[.val (.int p1), .val (.int p2), .val (.int p3), .val (.int p4), .val (.int p5), .val (.int (2 : Int32)), .val (.int v7), .val (.int v8), .val (.int v9), .val (.int v10), .val (.ref b45_0), .unset, .unset, .unset, .unset, .unset, .unset, .unset, .unset] [(.int (-1 : Int32))]))
        refine Go.step (fun t k => XS.istore X45.here hx rfl (hb hby at_48) rfl (l' := #[.val (.int p1), .val (.int p2), .val (.int p3), .val (.int p4), .val (.int p5), .val (.int (2 : Int32)), .val (.int v7), .val (.int v8), .val (.int v9), .val (.int v10), .val (.ref b45_0), .val (.int (-1 : Int32)), .unset, .unset, .unset, .unset, .unset, .unset, .unset]) rfl k) ?_
        show Go p e below _ (T45.setTop (mkF m 50 #[.val (.int p1), .val (.int p2), .val (.int p3), .val (.int p4), .val (.int p5), .val (.int (2 : Int32)), .val (.int v7), .val (.int v8), .val (.int v9), .val (.int v10), .val (.ref b45_0), .val (.int (-1 : Int32)), .unset, .unset, .unset, .unset, .unset, .unset, .unset] []))
        refine Go.step (fun t k => XS.iload X45.here hx rfl (hb hby at_50) rfl k) ?_
        show Go p e below _ (T45.setTop (mkF m 52 #[.val (.int p1), .val (.int p2), .val (.int p3), .val (.int p4), .val (.int p5), .val (.int (2 : Int32)), .val (.int v7), .val (.int v8), .val (.int v9), .val (.int v10), .val (.ref b45_0), .val (.int (-1 : Int32)), .unset, .unset, .unset, .unset, .unset, .unset, .unset] [(.int (2 : Int32))]))
        refine Go.step (fun t k => XS.iconst X45.here hx rfl (hb hby at_52)  k) ?_
        show Go p e below _ (T45.setTop (mkF m 53 #[.val (.int p1), .val (.int p2), .val (.int p3), .val (.int p4), .val (.int p5), .val (.int (2 : Int32)), .val (.int v7), .val (.int v8), .val (.int v9), .val (.int v10), .val (.ref b45_0), .val (.int (-1 : Int32)), .unset, .unset, .unset, .unset, .unset, .unset, .unset] [(.int (1 : Int32)), (.int (2 : Int32))]))
        refine Go.step (fun t k => XS.icmpNo X45.here hx rfl (hb hby at_53) rfl (flt (by decide : ¬ ((2 : Int32) < (1 : Int32)))).1 k) ?_
        show Go p e below _ (T45.setTop (mkF m 56 #[.val (.int p1), .val (.int p2), .val (.int p3), .val (.int p4), .val (.int p5), .val (.int (2 : Int32)), .val (.int v7), .val (.int v8), .val (.int v9), .val (.int v10), .val (.ref b45_0), .val (.int (-1 : Int32)), .unset, .unset, .unset, .unset, .unset, .unset, .unset] []))
        refine Go.step (fun t k => XS.iload X45.here hx rfl (hb hby at_56) rfl k) ?_
        show Go p e below _ (T45.setTop (mkF m 58 #[.val (.int p1), .val (.int p2), .val (.int p3), .val (.int p4), .val (.int p5), .val (.int (2 : Int32)), .val (.int v7), .val (.int v8), .val (.int v9), .val (.int v10), .val (.ref b45_0), .val (.int (-1 : Int32)), .unset, .unset, .unset, .unset, .unset, .unset, .unset] [(.int v7)]))
        refine Go.step (fun t k => XS.istore X45.here hx rfl (hb hby at_58) rfl (l' := #[.val (.int p1), .val (.int p2), .val (.int p3), .val (.int p4), .val (.int p5), .val (.int (2 : Int32)), .val (.int v7), .val (.int v8), .val (.int v9), .val (.int v10), .val (.ref b45_0), .val (.int v7), .unset, .unset, .unset, .unset, .unset, .unset, .unset]) rfl k) ?_
        show Go p e below _ (T45.setTop (mkF m 60 #[.val (.int p1), .val (.int p2), .val (.int p3), .val (.int p4), .val (.int p5), .val (.int (2 : Int32)), .val (.int v7), .val (.int v8), .val (.int v9), .val (.int v10), .val (.ref b45_0), .val (.int v7), .unset, .unset, .unset, .unset, .unset, .unset, .unset] []))
        refine Go.step (fun t k => XS.iload X45.here hx rfl (hb hby at_60) rfl k) ?_
        show Go p e below _ (T45.setTop (mkF m 62 #[.val (.int p1), .val (.int p2), .val (.int p3), .val (.int p4), .val (.int p5), .val (.int (2 : Int32)), .val (.int v7), .val (.int v8), .val (.int v9), .val (.int v10), .val (.ref b45_0), .val (.int v7), .unset, .unset, .unset, .unset, .unset, .unset, .unset] [(.int (2 : Int32))]))
        refine Go.step (fun t k => XS.iconst X45.here hx rfl (hb hby at_62)  k) ?_
        show Go p e below _ (T45.setTop (mkF m 63 #[.val (.int p1), .val (.int p2), .val (.int p3), .val (.int p4), .val (.int p5), .val (.int (2 : Int32)), .val (.int v7), .val (.int v8), .val (.int v9), .val (.int v10), .val (.ref b45_0), .val (.int v7), .unset, .unset, .unset, .unset, .unset, .unset, .unset] [(.int (2 : Int32)), (.int (2 : Int32))]))
        refine Go.step (fun t k => XS.icmpNo X45.here hx rfl (hb hby at_63) rfl (flt (by decide : ¬ ((2 : Int32) < (2 : Int32)))).1 k) ?_
        show Go p e below _ (T45.setTop (mkF m 66 #[.val (.int p1), .val (.int p2), .val (.int p3), .val (.int p4), .val (.int p5), .val (.int (2 : Int32)), .val (.int v7), .val (.int v8), .val (.int v9), .val (.int v10), .val (.ref b45_0), .val (.int v7), .unset, .unset, .unset, .unset, .unset, .unset, .unset] []))
        refine Go.step (fun t k => XS.iload X45.here hx rfl (hb hby at_66) rfl k) ?_
        show Go p e below _ (T45.setTop (mkF m 68 #[.val (.int p1), .val (.int p2), .val (.int p3), .val (.int p4), .val (.int p5), .val (.int (2 : Int32)), .val (.int v7), .val (.int v8), .val (.int v9), .val (.int v10), .val (.ref b45_0), .val (.int v7), .unset, .unset, .unset, .unset, .unset, .unset, .unset] [(.int v7)]))
        refine Go.step (fun t k => XS.iload X45.here hx rfl (hb hby at_68) rfl k) ?_
        show Go p e below _ (T45.setTop (mkF m 70 #[.val (.int p1), .val (.int p2), .val (.int p3), .val (.int p4), .val (.int p5), .val (.int (2 : Int32)), .val (.int v7), .val (.int v8), .val (.int v9), .val (.int v10), .val (.ref b45_0), .val (.int v7), .unset, .unset, .unset, .unset, .unset, .unset, .unset] [(.int v8), (.int v7)]))
        obtain ⟨_, _, ⟨T46, L46, k46, n46⟩, -, X46, ⟨Lc46, hQ46, l46, y46, z46⟩, st46⟩ := Jvm.LawKit.callS X45 hx (y := (⟨"java/lang/Math", "max", "(II)I"⟩ : MethodName)) hown (mvT hZ (hw _ (List.mem_of_getElem? (i := 33) rfl))) (mvT hZ (hw _ (List.mem_of_getElem? (i := 25) rfl))) (mvT hZ (hw _ (List.mem_of_getElem? (i := 26) rfl))) (mvT hZ (hw _ (List.mem_of_getElem? (i := 27) rfl))) (by decide) (backOf (W := 0) (rm6 l Z a0 hw [] v7 v8 T45.heap n0 Z45) hZ (hw _ (List.mem_of_getElem? (i := 27) rfl)) (hw _ (List.mem_of_getElem? (i := 26) rfl)) (by decide) (by decide)) (g := (mkF m 70 #[.val (.int p1), .val (.int p2), .val (.int p3), .val (.int p4), .val (.int p5), .val (.int (2 : Int32)), .val (.int v7), .val (.int v8), .val (.int v9), .val (.int v10), .val (.ref b45_0), .val (.int v7), .unset, .unset, .unset, .unset, .unset, .unset, .unset] [(.int v8), (.int v7)])) rfl (by rw [hml]; rfl) (argsL := [(.int v7), (.int v8)]) (rest := []) (lenOf pd_2 rfl) rfl (by show 2 * 0 + _ ≤ _; exact Nat.le_of_eq rfl) (hb hby at_70) (fun _ _ => ⟨rfl, rfl, (by decide : 3 + 0 ≤ _), (by decide : 131 + 0 ≤ _)⟩)
        dsimp only [Pt.U, Pt.locs, Pt.cells, Pt.slots] at X46 l46 y46 z46 st46 hQ46
        subst l46 y46 z46
        obtain ⟨rfl, N46q, e46⟩ := hQ46
        have N46 := Fr.app N45 N46q
        refine Go.step st46 ?_
        show Go p e below _ (T46.setTop (mkF m 73 #[.val (.int p1), .val (.int p2), .val (.int p3), .val (.int p4), .val (.int p5), .val (.int (2 : Int32)), .val (.int v7), .val (.int v8), .val (.int v9), .val (.int v10), .val (.ref b45_0), .val (.int v7), .unset, .unset, .unset, .unset, .unset, .unset, .unset] [(.int (f6 v7 v8))]))
        refine Go.step (fun t k => XS.istore X46.here hx rfl (hb hby at_73) rfl (l' := #[.val (.int p1), .val (.int p2), .val (.int p3), .val (.int p4), .val (.int p5), .val (.int (2 : Int32)), .val (.int v7), .val (.int v8), .val (.int v9), .val (.int v10), .val (.ref b45_0), .val (.int (f6 v7 v8)), .unset, .unset, .unset, .unset, .unset, .unset, .unset]) rfl k) ?_
        show Go p e below _ (T46.setTop (mkF m 75 #[.val (.int p1), .val (.int p2), .val (.int p3), .val (.int p4), .val (.int p5), .val (.int (2 : Int32)), .val (.int v7), .val (.int v8), .val (.int v9), .val (.int v10), .val (.ref b45_0), .val (.int (f6 v7 v8)), .unset, .unset, .unset, .unset, .unset, .unset, .unset] []))
        refine Go.step (fun t k => XS.iload X46.here hx rfl (hb hby at_75) rfl k) ?_
        show Go p e below _ (T46.setTop (mkF m 77 #[.val (.int p1), .val (.int p2), .val (.int p3), .val (.int p4), .val (.int p5), .val (.int (2 : Int32)), .val (.int v7), .val (.int v8), .val (.int v9), .val (.int v10), .val (.ref b45_0), .val (.int (f6 v7 v8)), .unset, .unset, .unset, .unset, .unset, .unset, .unset] [(.int (2 : Int32))]))
        refine Go.step (fun t k => XS.iconst X46.here hx rfl (hb hby at_77)  k) ?_
        show Go p e below _ (T46.setTop (mkF m 78 #[.val (.int p1), .val (.int p2), .val (.int p3), .val (.int p4), .val (.int p5), .val (.int (2 : Int32)), .val (.int v7), .val (.int v8), .val (.int v9), .val (.int v10), .val (.ref b45_0), .val (.int (f6 v7 v8)), .unset, .unset, .unset, .unset, .unset, .unset, .unset] [(.int (3 : Int32)), (.int (2 : Int32))]))
        refine Go.step (fun t k => XS.icmpYes X46.here hx rfl (pc0 := 78) (pc' := 90) rfl (hb hby at_78) rfl (tlt (by decide : (2 : Int32) < (3 : Int32))).1 (by decide) (by decide) k) ?_
        show Go p e below _ (T46.setTop (mkF m 90 #[.val (.int p1), .val (.int p2), .val (.int p3), .val (.int p4), .val (.int p5), .val (.int (2 : Int32)), .val (.int v7), .val (.int v8), .val (.int v9), .val (.int v10), .val (.ref b45_0), .val (.int (f6 v7 v8)), .unset, .unset, .unset, .unset, .unset, .unset, .unset] []))
        refine Go.step (fun t k => XS.iload X46.here hx rfl (hb hby at_90) rfl k) ?_
        show Go p e below _ (T46.setTop (mkF m 92 #[.val (.int p1), .val (.int p2), .val (.int p3), .val (.int p4), .val (.int p5), .val (.int (2 : Int32)), .val (.int v7), .val (.int v8), .val (.int v9), .val (.int v10), .val (.ref b45_0), .val (.int (f6 v7 v8)), .unset, .unset, .unset, .unset, .unset, .unset, .unset] [(.int (f6 v7 v8))]))
        obtain ⟨v48, hv48⟩ : ∃ z : Int32, z = (if (f6 v7 v8) < (0 : Int32) then (1 : Int32) else (((f6 v7 v8) / (32 : Int32)) + (1 : Int32))) := ⟨_, rfl⟩
        have J92 : Go p e below (AtF p l e room_1 s m #[(.int p1), (.int p2), (.int p3), (.int p4), (.int p5)] below meth c n0 3 131 T45.heap (mkF m 106 #[.val (.int p1), .val (.int p2), .val (.int p3), .val (.int p4), .val (.int p5), .val (.int (2 : Int32)), .val (.int v7), .val (.int v8), .val (.int v9), .val (.int v10), .val (.ref b45_0), .val (.int (f6 v7 v8)), .unset, .unset, .unset, .unset, .unset, .unset, .unset] [(.int v48)])) (T46.setTop (mkF m 92 #[.val (.int p1), .val (.int p2), .val (.int p3), .val (.int p4), .val (.int p5), .val (.int (2 : Int32)), .val (.int v7), .val (.int v8), .val (.int v9), .val (.int v10), .val (.ref b45_0), .val (.int (f6 v7 v8)), .unset, .unset, .unset, .unset, .unset, .unset, .unset] [(.int (f6 v7 v8))])) := by
          by_cases hc47 : (f6 v7 v8) < (0 : Int32)
          · refine Go.step (fun t k => XS.ifNo X46.here hx rfl (hb hby at_92) rfl ((if0 _ _).trans (tlt hc47).2.1) k) ?_
            show Go p e below _ (T46.setTop (mkF m 95 #[.val (.int p1), .val (.int p2), .val (.int p3), .val (.int p4), .val (.int p5), .val (.int (2 : Int32)), .val (.int v7), .val (.int v8), .val (.int v9), .val (.int v10), .val (.ref b45_0), .val (.int (f6 v7 v8)), .unset, .unset, .unset, .unset, .unset, .unset, .unset] []))
            refine Go.step (fun t k => XS.iconst X46.here hx rfl (hb hby at_95)  k) ?_
            show Go p e below _ (T46.setTop (mkF m 96 #[.val (.int p1), .val (.int p2), .val (.int p3), .val (.int p4), .val (.int p5), .val (.int (2 : Int32)), .val (.int v7), .val (.int v8), .val (.int v9), .val (.int v10), .val (.ref b45_0), .val (.int (f6 v7 v8)), .unset, .unset, .unset, .unset, .unset, .unset, .unset] [(.int (1 : Int32))]))
            refine Go.step (fun t k => XS.goto X46.here hx rfl (pc0 := 96) (pc' := 106) rfl (hb hby at_96) (by decide) (by decide) k) ?_
            show Go p e below _ (T46.setTop (mkF m 106 #[.val (.int p1), .val (.int p2), .val (.int p3), .val (.int p4), .val (.int p5), .val (.int (2 : Int32)), .val (.int v7), .val (.int v8), .val (.int v9), .val (.int v10), .val (.ref b45_0), .val (.int (f6 v7 v8)), .unset, .unset, .unset, .unset, .unset, .unset, .unset] [(.int (1 : Int32))]))
            exact Go.here ⟨_, _, by simp only [hv48, if_pos hc47], X46, N46, e46⟩
          · refine Go.step (fun t k => XS.ifYes X46.here hx rfl (pc0 := 92) (pc' := 99) rfl (hb hby at_92) rfl ((if0 _ _).trans (flt hc47).2.1) (by decide) (by decide) k) ?_
            show Go p e below _ (T46.setTop (mkF m 99 #[.val (.int p1), .val (.int p2), .val (.int p3), .val (.int p4), .val (.int p5), .val (.int (2 : Int32)), .val (.int v7), .val (.int v8), .val (.int v9), .val (.int v10), .val (.ref b45_0), .val (.int (f6 v7 v8)), .unset, .unset, .unset, .unset, .unset, .unset, .unset] []))
            refine Go.step (fun t k => XS.iload X46.here hx rfl (hb hby at_99) rfl k) ?_
            show Go p e below _ (T46.setTop (mkF m 101 #[.val (.int p1), .val (.int p2), .val (.int p3), .val (.int p4), .val (.int p5), .val (.int (2 : Int32)), .val (.int v7), .val (.int v8), .val (.int v9), .val (.int v10), .val (.ref b45_0), .val (.int (f6 v7 v8)), .unset, .unset, .unset, .unset, .unset, .unset, .unset] [(.int (f6 v7 v8))]))
            refine Go.step (fun t k => XS.bipush X46.here hx rfl (hb hby at_101)  k) ?_
            show Go p e below _ (T46.setTop (mkF m 103 #[.val (.int p1), .val (.int p2), .val (.int p3), .val (.int p4), .val (.int p5), .val (.int (2 : Int32)), .val (.int v7), .val (.int v8), .val (.int v9), .val (.int v10), .val (.ref b45_0), .val (.int (f6 v7 v8)), .unset, .unset, .unset, .unset, .unset, .unset, .unset] [(.int (32 : Int32)), (.int (f6 v7 v8))]))
            refine Go.step (fun t k => XS.idiv X46.here hx rfl (hb hby at_103) rfl (by decide) k) ?_
            show Go p e below _ (T46.setTop (mkF m 104 #[.val (.int p1), .val (.int p2), .val (.int p3), .val (.int p4), .val (.int p5), .val (.int (2 : Int32)), .val (.int v7), .val (.int v8), .val (.int v9), .val (.int v10), .val (.ref b45_0), .val (.int (f6 v7 v8)), .unset, .unset, .unset, .unset, .unset, .unset, .unset] [(.int ((f6 v7 v8) / (32 : Int32)))]))
            refine Go.step (fun t k => XS.iconst X46.here hx rfl (hb hby at_104)  k) ?_
            show Go p e below _ (T46.setTop (mkF m 105 #[.val (.int p1), .val (.int p2), .val (.int p3), .val (.int p4), .val (.int p5), .val (.int (2 : Int32)), .val (.int v7), .val (.int v8), .val (.int v9), .val (.int v10), .val (.ref b45_0), .val (.int (f6 v7 v8)), .unset, .unset, .unset, .unset, .unset, .unset, .unset] [(.int (1 : Int32)), (.int ((f6 v7 v8) / (32 : Int32)))]))
            refine Go.step (fun t k => XS.iadd X46.here hx rfl (hb hby at_105) rfl k) ?_
            show Go p e below _ (T46.setTop (mkF m 106 #[.val (.int p1), .val (.int p2), .val (.int p3), .val (.int p4), .val (.int p5), .val (.int (2 : Int32)), .val (.int v7), .val (.int v8), .val (.int v9), .val (.int v10), .val (.ref b45_0), .val (.int (f6 v7 v8)), .unset, .unset, .unset, .unset, .unset, .unset, .unset] [(.int (((f6 v7 v8) / (32 : Int32)) + (1 : Int32)))]))
            exact Go.here ⟨_, _, by simp only [hv48, if_neg hc47], X46, N46, e46⟩
        obtain ⟨_, st49, T49, Lj49, rfl, X49, N49, e49⟩ := J92
        refine Go.trans st49 ?_
        show Go p e below _ (T49.setTop (mkF m 106 #[.val (.int p1), .val (.int p2), .val (.int p3), .val (.int p4), .val (.int p5), .val (.int (2 : Int32)), .val (.int v7), .val (.int v8), .val (.int v9), .val (.int v10), .val (.ref b45_0), .val (.int (f6 v7 v8)), .unset, .unset, .unset, .unset, .unset, .unset, .unset] [(.int v48)]))
        refine Go.step (fun t k => XS.istore X49.here hx rfl (hb hby at_106) rfl (l' := #[.val (.int p1), .val (.int p2), .val (.int p3), .val (.int p4), .val (.int p5), .val (.int (2 : Int32)), .val (.int v7), .val (.int v8), .val (.int v9), .val (.int v10), .val (.ref b45_0), .val (.int (f6 v7 v8)), .val (.int v48), .unset, .unset, .unset, .unset, .unset, .unset]) rfl k) ?_
        show Go p e below _ (T49.setTop (mkF m 108 #[.val (.int p1), .val (.int p2), .val (.int p3), .val (.int p4), .val (.int p5), .val (.int (2 : Int32)), .val (.int v7), .val (.int v8), .val (.int v9), .val (.int v10), .val (.ref b45_0), .val (.int (f6 v7 v8)), .val (.int v48), .unset, .unset, .unset, .unset, .unset, .unset] []))
        refine Go.step (fun t k => XS.aload X49.here hx rfl (hb hby at_108) rfl rfl k) ?_
        show Go p e below _ (T49.setTop (mkF m 110 #[.val (.int p1), .val (.int p2), .val (.int p3), .val (.int p4), .val (.int p5), .val (.int (2 : Int32)), .val (.int v7), .val (.int v8), .val (.int v9), .val (.int v10), .val (.ref b45_0), .val (.int (f6 v7 v8)), .val (.int v48), .unset, .unset, .unset, .unset, .unset, .unset] [(.ref b45_0)]))
        obtain ⟨cq50, kq50, q50a, q50b, q50c⟩ := isOf hZ e49 Q45_1
        obtain ⟨_, _, ⟨T50, L50, k50, n50⟩, -, X50, ⟨Lc50, hQ50, l50, y50, z50⟩, st50⟩ := X49.virtualBack hx (y := (⟨"com/example/menshen/menshen/core/PermissionSet", "words", "()[J"⟩ : MethodName)) (z := (⟨"com/example/menshen/menshen/core/PermissionSet", "words", "()[J"⟩ : MethodName)) hown (mvT hZ (hw _ (List.mem_of_getElem? (i := 19) rfl))) (mvT hZ (hw _ (List.mem_of_getElem? (i := 20) rfl))) (notFace_of_selects (args := #[]) (mvT hZ (hw _ (List.mem_of_getElem? (i := 22) rfl)))) (mvT hZ (hw _ (List.mem_of_getElem? (i := 22) rfl))) (mvT hZ (hw _ (List.mem_of_getElem? (i := 21) rfl))) (by decide) (backOf (W := 0) (rm5 l Z a0 hw [] b45_0 b45_1 (((f6 (f6 (-1 : Int32) v7) v8) + (32 : Int32)) / (32 : Int32)).toNatClampNeg (orW (orW (fun _ => (0 : Int32)) v7) v8) T45.heap n0 Z45 ((by subst_vars; exact (Hi.sz (Hi.max (Hi.max Hi.m1 (own_bit _)).1 (own_bit _)).1).2.1) : (((f6 (f6 (-1 : Int32) v7) v8) + (32 : Int32)) / (32 : Int32)).toNatClampNeg ≤ 128) Q45_2 Q45_0) hZ (hw _ (List.mem_of_getElem? (i := 23) rfl)) (hw _ (List.mem_of_getElem? (i := 7) rfl)) (by decide) (by decide)) q50a q50c (g := (mkF m 110 #[.val (.int p1), .val (.int p2), .val (.int p3), .val (.int p4), .val (.int p5), .val (.int (2 : Int32)), .val (.int v7), .val (.int v8), .val (.int v9), .val (.int v10), .val (.ref b45_0), .val (.int (f6 v7 v8)), .val (.int v48), .unset, .unset, .unset, .unset, .unset, .unset] [(.ref b45_0)])) rfl (by rw [hml]; rfl) (Steps.refl _) (argsL := []) (rest := []) (lenOf pd_6 rfl) rfl (by show 2 * 0 + _ ≤ _; exact Nat.le_of_eq rfl) (hb hby at_110) (fun _ _ => ⟨rfl, e49, (by decide : 3 + 1 ≤ _), (by decide : 131 + 128 ≤ _)⟩)
        dsimp only [Pt.U, Pt.locs, Pt.cells, Pt.slots] at X50 l50 y50 z50 st50 hQ50
        subst l50 y50 z50
        obtain ⟨b50_0, rfl, N50q, K50, sz50_0, Q50_0⟩ := hQ50
        have N50 := Fr.app N49 N50q
        have g_b50_0 : n0 ≤ b50_0 := Nat.le_trans Z45 sz50_0
        have sz_b50_0 : h0.size ≤ b50_0 := Nat.le_trans KK45.1 sz50_0
        have ne_b45_1_b50_0 : b45_1 ≠ b50_0 := Nat.ne_of_lt (Nat.lt_of_lt_of_le Q45_0.lt sz50_0)
        have ne_b45_0_b50_0 : b45_0 ≠ b50_0 := Nat.ne_of_lt (Nat.lt_of_lt_of_le Q45_1.lt sz50_0)
        have A_b45_1_50 := Q45_0.keep K50 nin0
        have E_b45_0_50 := Q45_1.keep K50
        have F_words_b45_0_50 := Q45_2.keep K50 nin0
        have Z50 := Nat.le_trans Z45 K50.1
        have KK50 : Keep h0 T50.heap [] := KK45.trans K50 all0
        refine Go.trans st50 ?_
        show Go p e below _ (T50.setTop (mkF m 113 #[.val (.int p1), .val (.int p2), .val (.int p3), .val (.int p4), .val (.int p5), .val (.int (2 : Int32)), .val (.int v7), .val (.int v8), .val (.int v9), .val (.int v10), .val (.ref b45_0), .val (.int (f6 v7 v8)), .val (.int v48), .unset, .unset, .unset, .unset, .unset, .unset] [(.ref b50_0)]))
        refine Go.step (fun t k => XS.astore X50.here hx rfl (hb hby at_113) rfl rfl (l' := #[.val (.int p1), .val (.int p2), .val (.int p3), .val (.int p4), .val (.int p5), .val (.int (2 : Int32)), .val (.int v7), .val (.int v8), .val (.int v9), .val (.int v10), .val (.ref b45_0), .val (.int (f6 v7 v8)), .val (.int v48), .val (.ref b50_0), .unset, .unset, .unset, .unset, .unset]) rfl k) ?_
        show Go p e below _ (T50.setTop (mkF m 115 #[.val (.int p1), .val (.int p2), .val (.int p3), .val (.int p4), .val (.int p5), .val (.int (2 : Int32)), .val (.int v7), .val (.int v8), .val (.int v9), .val (.int v10), .val (.ref b45_0), .val (.int (f6 v7 v8)), .val (.int v48), .val (.ref b50_0), .unset, .unset, .unset, .unset, .unset] []))
        refine Go.step (fun t k => XS.aload X50.here hx rfl (hb hby at_115) rfl rfl k) ?_
        show Go p e below _ (T50.setTop (mkF m 117 #[.val (.int p1), .val (.int p2), .val (.int p3), .val (.int p4), .val (.int p5), .val (.int (2 : Int32)), .val (.int v7), .val (.int v8), .val (.int v9), .val (.int v10), .val (.ref b45_0), .val (.int (f6 v7 v8)), .val (.int v48), .val (.ref b50_0), .unset, .unset, .unset, .unset, .unset] [(.ref b50_0)]))
        refine Go.step (lenA X50 hx hZ rfl Q50_0 (g := (mkF m 117 #[.val (.int p1), .val (.int p2), .val (.int p3), .val (.int p4), .val (.int p5), .val (.int (2 : Int32)), .val (.int v7), .val (.int v8), .val (.int v9), .val (.int v10), .val (.ref b45_0), .val (.int (f6 v7 v8)), .val (.int v48), .val (.ref b50_0), .unset, .unset, .unset, .unset, .unset] [(.ref b50_0)])) rfl rfl (hb hby at_117)) ?_
        show Go p e below _ (T50.setTop (mkF m 118 #[.val (.int p1), .val (.int p2), .val (.int p3), .val (.int p4), .val (.int p5), .val (.int (2 : Int32)), .val (.int v7), .val (.int v8), .val (.int v9), .val (.int v10), .val (.ref b45_0), .val (.int (f6 v7 v8)), .val (.int v48), .val (.ref b50_0), .unset, .unset, .unset, .unset, .unset] [(.int (f6 (1 : Int32) (((f6 (f6 (-1 : Int32) v7) v8) + (32 : Int32)) / (32 : Int32)).toNatClampNeg.toInt32).toNatClampNeg.toInt32)]))
        refine Go.step (fun t k => XS.iload X50.here hx rfl (hb hby at_118) rfl k) ?_
        show Go p e below _ (T50.setTop (mkF m 120 #[.val (.int p1), .val (.int p2), .val (.int p3), .val (.int p4), .val (.int p5), .val (.int (2 : Int32)), .val (.int v7), .val (.int v8), .val (.int v9), .val (.int v10), .val (.ref b45_0), .val (.int (f6 v7 v8)), .val (.int v48), .val (.ref b50_0), .unset, .unset, .unset, .unset, .unset] [(.int v48), (.int (f6 (1 : Int32) (((f6 (f6 (-1 : Int32) v7) v8) + (32 : Int32)) / (32 : Int32)).toNatClampNeg.toInt32).toNatClampNeg.toInt32)]))
        by_cases hc51 : (f6 (1 : Int32) (((f6 (f6 (-1 : Int32) v7) v8) + (32 : Int32)) / (32 : Int32)).toNatClampNeg.toInt32).toNatClampNeg.toInt32 = v48
        · refine Go.step (fun t k => XS.icmpYes X50.here hx rfl (pc0 := 120) (pc' := 125) rfl (hb hby at_120) rfl (teq hc51).1 (by decide) (by decide) k) ?_
          show Go p e below _ (T50.setTop (mkF m 125 #[.val (.int p1), .val (.int p2), .val (.int p3), .val (.int p4), .val (.int p5), .val (.int (2 : Int32)), .val (.int v7), .val (.int v8), .val (.int v9), .val (.int v10), .val (.ref b45_0), .val (.int (f6 v7 v8)), .val (.int v48), .val (.ref b50_0), .unset, .unset, .unset, .unset, .unset] []))
          refine Go.step (fun t k => XS.iload X50.here hx rfl (hb hby at_125) rfl k) ?_
          show Go p e below _ (T50.setTop (mkF m 127 #[.val (.int p1), .val (.int p2), .val (.int p3), .val (.int p4), .val (.int p5), .val (.int (2 : Int32)), .val (.int v7), .val (.int v8), .val (.int v9), .val (.int v10), .val (.ref b45_0), .val (.int (f6 v7 v8)), .val (.int v48), .val (.ref b50_0), .unset, .unset, .unset, .unset, .unset] [(.int (2 : Int32))]))
          refine Go.step (fun t k => XS.iconst X50.here hx rfl (hb hby at_127)  k) ?_
          show Go p e below _ (T50.setTop (mkF m 128 #[.val (.int p1), .val (.int p2), .val (.int p3), .val (.int p4), .val (.int p5), .val (.int (2 : Int32)), .val (.int v7), .val (.int v8), .val (.int v9), .val (.int v10), .val (.ref b45_0), .val (.int (f6 v7 v8)), .val (.int v48), .val (.ref b50_0), .unset, .unset, .unset, .unset, .unset] [(.int (1 : Int32)), (.int (2 : Int32))]))
          refine Go.step (fun t k => XS.icmpNo X50.here hx rfl (hb hby at_128) rfl (flt (by decide : ¬ ((2 : Int32) < (1 : Int32)))).1 k) ?_
          show Go p e below _ (T50.setTop (mkF m 131 #[.val (.int p1), .val (.int p2), .val (.int p3), .val (.int p4), .val (.int p5), .val (.int (2 : Int32)), .val (.int v7), .val (.int v8), .val (.int v9), .val (.int v10), .val (.ref b45_0), .val (.int (f6 v7 v8)), .val (.int v48), .val (.ref b50_0), .unset, .unset, .unset, .unset, .unset] []))
          refine Go.step (fun t k => XS.iload X50.here hx rfl (hb hby at_131) rfl k) ?_
          show Go p e below _ (T50.setTop (mkF m 133 #[.val (.int p1), .val (.int p2), .val (.int p3), .val (.int p4), .val (.int p5), .val (.int (2 : Int32)), .val (.int v7), .val (.int v8), .val (.int v9), .val (.int v10), .val (.ref b45_0), .val (.int (f6 v7 v8)), .val (.int v48), .val (.ref b50_0), .unset, .unset, .unset, .unset, .unset] [(.int v10)]))
          refine Go.step (fun t k => XS.iload X50.here hx rfl (hb hby at_133) rfl k) ?_
          show Go p e below _ (T50.setTop (mkF m 135 #[.val (.int p1), .val (.int p2), .val (.int p3), .val (.int p4), .val (.int p5), .val (.int (2 : Int32)), .val (.int v7), .val (.int v8), .val (.int v9), .val (.int v10), .val (.ref b45_0), .val (.int (f6 v7 v8)), .val (.int v48), .val (.ref b50_0), .unset, .unset, .unset, .unset, .unset] [(.int v7), (.int v10)]))
          obtain ⟨v54, hv54⟩ : ∃ z : Int32, z = (if v10 = v7 then (1 : Int32) else (if v10 = v8 then (1 : Int32) else (0 : Int32))) := ⟨_, rfl⟩
          have J135 : Go p e below (AtF p l e room_1 s m #[(.int p1), (.int p2), (.int p3), (.int p4), (.int p5)] below meth c n0 4 259 T50.heap (mkF m 169 #[.val (.int p1), .val (.int p2), .val (.int p3), .val (.int p4), .val (.int p5), .val (.int (2 : Int32)), .val (.int v7), .val (.int v8), .val (.int v9), .val (.int v10), .val (.ref b45_0), .val (.int (f6 v7 v8)), .val (.int v48), .val (.ref b50_0), .unset, .unset, .unset, .unset, .unset] [(.int v54)])) (T50.setTop (mkF m 135 #[.val (.int p1), .val (.int p2), .val (.int p3), .val (.int p4), .val (.int p5), .val (.int (2 : Int32)), .val (.int v7), .val (.int v8), .val (.int v9), .val (.int v10), .val (.ref b45_0), .val (.int (f6 v7 v8)), .val (.int v48), .val (.ref b50_0), .unset, .unset, .unset, .unset, .unset] [(.int v7), (.int v10)])) := by
            by_cases hc52 : v10 = v7
            · refine Go.step (fun t k => XS.icmpYes X50.here hx rfl (pc0 := 135) (pc' := 164) rfl (hb hby at_135) rfl (teq hc52).1 (by decide) (by decide) k) ?_
              show Go p e below _ (T50.setTop (mkF m 164 #[.val (.int p1), .val (.int p2), .val (.int p3), .val (.int p4), .val (.int p5), .val (.int (2 : Int32)), .val (.int v7), .val (.int v8), .val (.int v9), .val (.int v10), .val (.ref b45_0), .val (.int (f6 v7 v8)), .val (.int v48), .val (.ref b50_0), .unset, .unset, .unset, .unset, .unset] []))
              refine Go.step (fun t k => XS.iconst X50.here hx rfl (hb hby at_164)  k) ?_
              show Go p e below _ (T50.setTop (mkF m 165 #[.val (.int p1), .val (.int p2), .val (.int p3), .val (.int p4), .val (.int p5), .val (.int (2 : Int32)), .val (.int v7), .val (.int v8), .val (.int v9), .val (.int v10), .val (.ref b45_0), .val (.int (f6 v7 v8)), .val (.int v48), .val (.ref b50_0), .unset, .unset, .unset, .unset, .unset] [(.int (1 : Int32))]))
              refine Go.step (fun t k => XS.goto X50.here hx rfl (pc0 := 165) (pc' := 169) rfl (hb hby at_165) (by decide) (by decide) k) ?_
              show Go p e below _ (T50.setTop (mkF m 169 #[.val (.int p1), .val (.int p2), .val (.int p3), .val (.int p4), .val (.int p5), .val (.int (2 : Int32)), .val (.int v7), .val (.int v8), .val (.int v9), .val (.int v10), .val (.ref b45_0), .val (.int (f6 v7 v8)), .val (.int v48), .val (.ref b50_0), .unset, .unset, .unset, .unset, .unset] [(.int (1 : Int32))]))
              exact Go.here ⟨_, _, by simp only [hv54, if_pos hc52], X50, N50, rfl⟩
            · refine Go.step (fun t k => XS.icmpNo X50.here hx rfl (hb hby at_135) rfl (feq hc52).1 k) ?_
              show Go p e below _ (T50.setTop (mkF m 138 #[.val (.int p1), .val (.int p2), .val (.int p3), .val (.int p4), .val (.int p5), .val (.int (2 : Int32)), .val (.int v7), .val (.int v8), .val (.int v9), .val (.int v10), .val (.ref b45_0), .val (.int (f6 v7 v8)), .val (.int v48), .val (.ref b50_0), .unset, .unset, .unset, .unset, .unset] []))
              refine Go.step (fun t k => XS.iload X50.here hx rfl (hb hby at_138) rfl k) ?_
              show Go p e below _ (T50.setTop (mkF m 140 #[.val (.int p1), .val (.int p2), .val (.int p3), .val (.int p4), .val (.int p5), .val (.int (2 : Int32)), .val (.int v7), .val (.int v8), .val (.int v9), .val (.int v10), .val (.ref b45_0), .val (.int (f6 v7 v8)), .val (.int v48), .val (.ref b50_0), .unset, .unset, .unset, .unset, .unset] [(.int (2 : Int32))]))
              refine Go.step (fun t k => XS.iconst X50.here hx rfl (hb hby at_140)  k) ?_
              show Go p e below _ (T50.setTop (mkF m 141 #[.val (.int p1), .val (.int p2), .val (.int p3), .val (.int p4), .val (.int p5), .val (.int (2 : Int32)), .val (.int v7), .val (.int v8), .val (.int v9), .val (.int v10), .val (.ref b45_0), .val (.int (f6 v7 v8)), .val (.int v48), .val (.ref b50_0), .unset, .unset, .unset, .unset, .unset] [(.int (2 : Int32)), (.int (2 : Int32))]))
              refine Go.step (fun t k => XS.icmpNo X50.here hx rfl (hb hby at_141) rfl (flt (by decide : ¬ ((2 : Int32) < (2 : Int32)))).1 k) ?_
              show Go p e below _ (T50.setTop (mkF m 144 #[.val (.int p1), .val (.int p2), .val (.int p3), .val (.int p4), .val (.int p5), .val (.int (2 : Int32)), .val (.int v7), .val (.int v8), .val (.int v9), .val (.int v10), .val (.ref b45_0), .val (.int (f6 v7 v8)), .val (.int v48), .val (.ref b50_0), .unset, .unset, .unset, .unset, .unset] []))
              refine Go.step (fun t k => XS.iload X50.here hx rfl (hb hby at_144) rfl k) ?_
              show Go p e below _ (T50.setTop (mkF m 146 #[.val (.int p1), .val (.int p2), .val (.int p3), .val (.int p4), .val (.int p5), .val (.int (2 : Int32)), .val (.int v7), .val (.int v8), .val (.int v9), .val (.int v10), .val (.ref b45_0), .val (.int (f6 v7 v8)), .val (.int v48), .val (.ref b50_0), .unset, .unset, .unset, .unset, .unset] [(.int v10)]))
              refine Go.step (fun t k => XS.iload X50.here hx rfl (hb hby at_146) rfl k) ?_
              show Go p e below _ (T50.setTop (mkF m 148 #[.val (.int p1), .val (.int p2), .val (.int p3), .val (.int p4), .val (.int p5), .val (.int (2 : Int32)), .val (.int v7), .val (.int v8), .val (.int v9), .val (.int v10), .val (.ref b45_0), .val (.int (f6 v7 v8)), .val (.int v48), .val (.ref b50_0), .unset, .unset, .unset, .unset, .unset] [(.int v8), (.int v10)]))
              by_cases hc53 : v10 = v8
              · refine Go.step (fun t k => XS.icmpYes X50.here hx rfl (pc0 := 148) (pc' := 164) rfl (hb hby at_148) rfl (teq hc53).1 (by decide) (by decide) k) ?_
                show Go p e below _ (T50.setTop (mkF m 164 #[.val (.int p1), .val (.int p2), .val (.int p3), .val (.int p4), .val (.int p5), .val (.int (2 : Int32)), .val (.int v7), .val (.int v8), .val (.int v9), .val (.int v10), .val (.ref b45_0), .val (.int (f6 v7 v8)), .val (.int v48), .val (.ref b50_0), .unset, .unset, .unset, .unset, .unset] []))
                refine Go.step (fun t k => XS.iconst X50.here hx rfl (hb hby at_164)  k) ?_
                show Go p e below _ (T50.setTop (mkF m 165 #[.val (.int p1), .val (.int p2), .val (.int p3), .val (.int p4), .val (.int p5), .val (.int (2 : Int32)), .val (.int v7), .val (.int v8), .val (.int v9), .val (.int v10), .val (.ref b45_0), .val (.int (f6 v7 v8)), .val (.int v48), .val (.ref b50_0), .unset, .unset, .unset, .unset, .unset] [(.int (1 : Int32))]))
                refine Go.step (fun t k => XS.goto X50.here hx rfl (pc0 := 165) (pc' := 169) rfl (hb hby at_165) (by decide) (by decide) k) ?_
                show Go p e below _ (T50.setTop (mkF m 169 #[.val (.int p1), .val (.int p2), .val (.int p3), .val (.int p4), .val (.int p5), .val (.int (2 : Int32)), .val (.int v7), .val (.int v8), .val (.int v9), .val (.int v10), .val (.ref b45_0), .val (.int (f6 v7 v8)), .val (.int v48), .val (.ref b50_0), .unset, .unset, .unset, .unset, .unset] [(.int (1 : Int32))]))
                exact Go.here ⟨_, _, by simp only [hv54, if_neg hc52, if_pos hc53], X50, N50, rfl⟩
              · refine Go.step (fun t k => XS.icmpNo X50.here hx rfl (hb hby at_148) rfl (feq hc53).1 k) ?_
                show Go p e below _ (T50.setTop (mkF m 151 #[.val (.int p1), .val (.int p2), .val (.int p3), .val (.int p4), .val (.int p5), .val (.int (2 : Int32)), .val (.int v7), .val (.int v8), .val (.int v9), .val (.int v10), .val (.ref b45_0), .val (.int (f6 v7 v8)), .val (.int v48), .val (.ref b50_0), .unset, .unset, .unset, .unset, .unset] []))
                refine Go.step (fun t k => XS.iload X50.here hx rfl (hb hby at_151) rfl k) ?_
                show Go p e below _ (T50.setTop (mkF m 153 #[.val (.int p1), .val (.int p2), .val (.int p3), .val (.int p4), .val (.int p5), .val (.int (2 : Int32)), .val (.int v7), .val (.int v8), .val (.int v9), .val (.int v10), .val (.ref b45_0), .val (.int (f6 v7 v8)), .val (.int v48), .val (.ref b50_0), .unset, .unset, .unset, .unset, .unset] [(.int (2 : Int32))]))
                refine Go.step (fun t k => XS.iconst X50.here hx rfl (hb hby at_153)  k) ?_
                show Go p e below _ (T50.setTop (mkF m 154 #[.val (.int p1), .val (.int p2), .val (.int p3), .val (.int p4), .val (.int p5), .val (.int (2 : Int32)), .val (.int v7), .val (.int v8), .val (.int v9), .val (.int v10), .val (.ref b45_0), .val (.int (f6 v7 v8)), .val (.int v48), .val (.ref b50_0), .unset, .unset, .unset, .unset, .unset] [(.int (3 : Int32)), (.int (2 : Int32))]))
                refine Go.step (fun t k => XS.icmpYes X50.here hx rfl (pc0 := 154) (pc' := 168) rfl (hb hby at_154) rfl (tlt (by decide : (2 : Int32) < (3 : Int32))).1 (by decide) (by decide) k) ?_
                show Go p e below _ (T50.setTop (mkF m 168 #[.val (.int p1), .val (.int p2), .val (.int p3), .val (.int p4), .val (.int p5), .val (.int (2 : Int32)), .val (.int v7), .val (.int v8), .val (.int v9), .val (.int v10), .val (.ref b45_0), .val (.int (f6 v7 v8)), .val (.int v48), .val (.ref b50_0), .unset, .unset, .unset, .unset, .unset] []))
                refine Go.step (fun t k => XS.iconst X50.here hx rfl (hb hby at_168)  k) ?_
                show Go p e below _ (T50.setTop (mkF m 169 #[.val (.int p1), .val (.int p2), .val (.int p3), .val (.int p4), .val (.int p5), .val (.int (2 : Int32)), .val (.int v7), .val (.int v8), .val (.int v9), .val (.int v10), .val (.ref b45_0), .val (.int (f6 v7 v8)), .val (.int v48), .val (.ref b50_0), .unset, .unset, .unset, .unset, .unset] [(.int (0 : Int32))]))
                exact Go.here ⟨_, _, by simp only [hv54, if_neg hc52, if_neg hc53], X50, N50, rfl⟩
          obtain ⟨_, st55, T55, Lj55, rfl, X55, N55, e55⟩ := J135
          refine Go.trans st55 ?_
          show Go p e below _ (T55.setTop (mkF m 169 #[.val (.int p1), .val (.int p2), .val (.int p3), .val (.int p4), .val (.int p5), .val (.int (2 : Int32)), .val (.int v7), .val (.int v8), .val (.int v9), .val (.int v10), .val (.ref b45_0), .val (.int (f6 v7 v8)), .val (.int v48), .val (.ref b50_0), .unset, .unset, .unset, .unset, .unset] [(.int v54)]))
          refine Go.step (fun t k => XS.istore X55.here hx rfl (hb hby at_169) rfl (l' := #[.val (.int p1), .val (.int p2), .val (.int p3), .val (.int p4), .val (.int p5), .val (.int (2 : Int32)), .val (.int v7), .val (.int v8), .val (.int v9), .val (.int v10), .val (.ref b45_0), .val (.int (f6 v7 v8)), .val (.int v48), .val (.ref b50_0), .val (.int v54), .unset, .unset, .unset, .unset]) rfl k) ?_
          show Go p e below _ (T55.setTop (mkF m 171 #[.val (.int p1), .val (.int p2), .val (.int p3), .val (.int p4), .val (.int p5), .val (.int (2 : Int32)), .val (.int v7), .val (.int v8), .val (.int v9), .val (.int v10), .val (.ref b45_0), .val (.int (f6 v7 v8)), .val (.int v48), .val (.ref b50_0), .val (.int v54), .unset, .unset, .unset, .unset] []))
          refine Go.step (fun t k => XS.iload X55.here hx rfl (hb hby at_171) rfl k) ?_
          show Go p e below _ (T55.setTop (mkF m 173 #[.val (.int p1), .val (.int p2), .val (.int p3), .val (.int p4), .val (.int p5), .val (.int (2 : Int32)), .val (.int v7), .val (.int v8), .val (.int v9), .val (.int v10), .val (.ref b45_0), .val (.int (f6 v7 v8)), .val (.int v48), .val (.ref b50_0), .val (.int v54), .unset, .unset, .unset, .unset] [(.int v10)]))
          refine Go.step (fun t k => XS.bipush X55.here hx rfl (hb hby at_173)  k) ?_
          show Go p e below _ (T55.setTop (mkF m 175 #[.val (.int p1), .val (.int p2), .val (.int p3), .val (.int p4), .val (.int p5), .val (.int (2 : Int32)), .val (.int v7), .val (.int v8), .val (.int v9), .val (.int v10), .val (.ref b45_0), .val (.int (f6 v7 v8)), .val (.int v48), .val (.ref b50_0), .val (.int v54), .unset, .unset, .unset, .unset] [(.int (32 : Int32)), (.int v10)]))
          refine Go.step (fun t k => XS.idiv X55.here hx rfl (hb hby at_175) rfl (by decide) k) ?_
          show Go p e below _ (T55.setTop (mkF m 176 #[.val (.int p1), .val (.int p2), .val (.int p3), .val (.int p4), .val (.int p5), .val (.int (2 : Int32)), .val (.int v7), .val (.int v8), .val (.int v9), .val (.int v10), .val (.ref b45_0), .val (.int (f6 v7 v8)), .val (.int v48), .val (.ref b50_0), .val (.int v54), .unset, .unset, .unset, .unset] [(.int (v10 / (32 : Int32)))]))
          obtain ⟨v56, hv56⟩ : ∃ z : Int32, z = (v10 / (32 : Int32)) := ⟨_, rfl⟩
          rw [← hv56]
          show Go p e below _ (T55.setTop (mkF m 176 #[.val (.int p1), .val (.int p2), .val (.int p3), .val (.int p4), .val (.int p5), .val (.int (2 : Int32)), .val (.int v7), .val (.int v8), .val (.int v9), .val (.int v10), .val (.ref b45_0), .val (.int (f6 v7 v8)), .val (.int v48), .val (.ref b50_0), .val (.int v54), .unset, .unset, .unset, .unset] [(.int v56)]))
          refine Go.step (fun t k => XS.istore X55.here hx rfl (hb hby at_176) rfl (l' := #[.val (.int p1), .val (.int p2), .val (.int p3), .val (.int p4), .val (.int p5), .val (.int (2 : Int32)), .val (.int v7), .val (.int v8), .val (.int v9), .val (.int v10), .val (.ref b45_0), .val (.int (f6 v7 v8)), .val (.int v48), .val (.ref b50_0), .val (.int v54), .val (.int v56), .unset, .unset, .unset]) rfl k) ?_
          show Go p e below _ (T55.setTop (mkF m 178 #[.val (.int p1), .val (.int p2), .val (.int p3), .val (.int p4), .val (.int p5), .val (.int (2 : Int32)), .val (.int v7), .val (.int v8), .val (.int v9), .val (.int v10), .val (.ref b45_0), .val (.int (f6 v7 v8)), .val (.int v48), .val (.ref b50_0), .val (.int v54), .val (.int v56), .unset, .unset, .unset] []))
          refine Go.step (fun t k => XS.iload X55.here hx rfl (hb hby at_178) rfl k) ?_
          show Go p e below _ (T55.setTop (mkF m 180 #[.val (.int p1), .val (.int p2), .val (.int p3), .val (.int p4), .val (.int p5), .val (.int (2 : Int32)), .val (.int v7), .val (.int v8), .val (.int v9), .val (.int v10), .val (.ref b45_0), .val (.int (f6 v7 v8)), .val (.int v48), .val (.ref b50_0), .val (.int v54), .val (.int v56), .unset, .unset, .unset] [(.int v56)]))
          refine Go.step (fun t k => XS.aload X55.here hx rfl (hb hby at_180) rfl rfl k) ?_
          show Go p e below _ (T55.setTop (mkF m 182 #[.val (.int p1), .val (.int p2), .val (.int p3), .val (.int p4), .val (.int p5), .val (.int (2 : Int32)), .val (.int v7), .val (.int v8), .val (.int v9), .val (.int v10), .val (.ref b45_0), .val (.int (f6 v7 v8)), .val (.int v48), .val (.ref b50_0), .val (.int v54), .val (.int v56), .unset, .unset, .unset] [(.ref b50_0), (.int v56)]))
          refine Go.step (lenA X55 hx hZ e55 Q50_0 (g := (mkF m 182 #[.val (.int p1), .val (.int p2), .val (.int p3), .val (.int p4), .val (.int p5), .val (.int (2 : Int32)), .val (.int v7), .val (.int v8), .val (.int v9), .val (.int v10), .val (.ref b45_0), .val (.int (f6 v7 v8)), .val (.int v48), .val (.ref b50_0), .val (.int v54), .val (.int v56), .unset, .unset, .unset] [(.ref b50_0), (.int v56)])) rfl rfl (hb hby at_182)) ?_
          show Go p e below _ (T55.setTop (mkF m 183 #[.val (.int p1), .val (.int p2), .val (.int p3), .val (.int p4), .val (.int p5), .val (.int (2 : Int32)), .val (.int v7), .val (.int v8), .val (.int v9), .val (.int v10), .val (.ref b45_0), .val (.int (f6 v7 v8)), .val (.int v48), .val (.ref b50_0), .val (.int v54), .val (.int v56), .unset, .unset, .unset] [(.int (f6 (1 : Int32) (((f6 (f6 (-1 : Int32) v7) v8) + (32 : Int32)) / (32 : Int32)).toNatClampNeg.toInt32).toNatClampNeg.toInt32), (.int v56)]))
          by_cases hc57 : v56 < (f6 (1 : Int32) (((f6 (f6 (-1 : Int32) v7) v8) + (32 : Int32)) / (32 : Int32)).toNatClampNeg.toInt32).toNatClampNeg.toInt32
          · refine Go.step (fun t k => XS.icmpYes X55.here hx rfl (pc0 := 183) (pc' := 197) rfl (hb hby at_183) rfl (tlt hc57).1 (by decide) (by decide) k) ?_
            show Go p e below _ (T55.setTop (mkF m 197 #[.val (.int p1), .val (.int p2), .val (.int p3), .val (.int p4), .val (.int p5), .val (.int (2 : Int32)), .val (.int v7), .val (.int v8), .val (.int v9), .val (.int v10), .val (.ref b45_0), .val (.int (f6 v7 v8)), .val (.int v48), .val (.ref b50_0), .val (.int v54), .val (.int v56), .unset, .unset, .unset] []))
            refine Go.step (fun t k => XS.aload X55.here hx rfl (hb hby at_197) rfl rfl k) ?_
            show Go p e below _ (T55.setTop (mkF m 199 #[.val (.int p1), .val (.int p2), .val (.int p3), .val (.int p4), .val (.int p5), .val (.int (2 : Int32)), .val (.int v7), .val (.int v8), .val (.int v9), .val (.int v10), .val (.ref b45_0), .val (.int (f6 v7 v8)), .val (.int v48), .val (.ref b50_0), .val (.int v54), .val (.int v56), .unset, .unset, .unset] [(.ref b50_0)]))
            refine Go.step (fun t k => XS.iload X55.here hx rfl (hb hby at_199) rfl k) ?_
            show Go p e below _ (T55.setTop (mkF m 201 #[.val (.int p1), .val (.int p2), .val (.int p3), .val (.int p4), .val (.int p5), .val (.int (2 : Int32)), .val (.int v7), .val (.int v8), .val (.int v9), .val (.int v10), .val (.ref b45_0), .val (.int (f6 v7 v8)), .val (.int v48), .val (.ref b50_0), .val (.int v54), .val (.int v56), .unset, .unset, .unset] [(.int v56), (.ref b50_0)]))
            refine Go.step (ldJ X55 hx hZ e55 Q50_0 (j := v56) (by subst_vars; exact (own_ix _ _ Q50_0.len (by assumption)).1) (by subst_vars; exact (own_ix _ _ Q50_0.len (by assumption)).2) (g := (mkF m 201 #[.val (.int p1), .val (.int p2), .val (.int p3), .val (.int p4), .val (.int p5), .val (.int (2 : Int32)), .val (.int v7), .val (.int v8), .val (.int v9), .val (.int v10), .val (.ref b45_0), .val (.int (f6 v7 v8)), .val (.int v48), .val (.ref b50_0), .val (.int v54), .val (.int v56), .unset, .unset, .unset] [(.int v56), (.ref b50_0)])) rfl rfl (hb hby at_201)) ?_
            show Go p e below _ (T55.setTop (mkF m 202 #[.val (.int p1), .val (.int p2), .val (.int p3), .val (.int p4), .val (.int p5), .val (.int (2 : Int32)), .val (.int v7), .val (.int v8), .val (.int v9), .val (.int v10), .val (.ref b45_0), .val (.int (f6 v7 v8)), .val (.int v48), .val (.ref b50_0), .val (.int v54), .val (.int v56), .unset, .unset, .unset] [(.long ((cpW (orW (orW (fun _ => (0 : Int32)) v7) v8) (((f6 (f6 (-1 : Int32) v7) v8) + (32 : Int32)) / (32 : Int32)).toNatClampNeg) v56.toNatClampNeg))]))
            obtain ⟨v58, hv58⟩ : ∃ z : Int64, z = ((cpW (orW (orW (fun _ => (0 : Int32)) v7) v8) (((f6 (f6 (-1 : Int32) v7) v8) + (32 : Int32)) / (32 : Int32)).toNatClampNeg) v56.toNatClampNeg) := ⟨_, rfl⟩
            rw [← hv58]
            show Go p e below _ (T55.setTop (mkF m 202 #[.val (.int p1), .val (.int p2), .val (.int p3), .val (.int p4), .val (.int p5), .val (.int (2 : Int32)), .val (.int v7), .val (.int v8), .val (.int v9), .val (.int v10), .val (.ref b45_0), .val (.int (f6 v7 v8)), .val (.int v48), .val (.ref b50_0), .val (.int v54), .val (.int v56), .unset, .unset, .unset] [(.long v58)]))
            refine Go.step (fun t k => XS.lstore X55.here hx rfl (hb hby at_202) rfl (l' := #[.val (.int p1), .val (.int p2), .val (.int p3), .val (.int p4), .val (.int p5), .val (.int (2 : Int32)), .val (.int v7), .val (.int v8), .val (.int v9), .val (.int v10), .val (.ref b45_0), .val (.int (f6 v7 v8)), .val (.int v48), .val (.ref b50_0), .val (.int v54), .val (.int v56), .val (.long v58), .second, .unset]) rfl k) ?_
            show Go p e below _ (T55.setTop (mkF m 204 #[.val (.int p1), .val (.int p2), .val (.int p3), .val (.int p4), .val (.int p5), .val (.int (2 : Int32)), .val (.int v7), .val (.int v8), .val (.int v9), .val (.int v10), .val (.ref b45_0), .val (.int (f6 v7 v8)), .val (.int v48), .val (.ref b50_0), .val (.int v54), .val (.int v56), .val (.long v58), .second, .unset] []))
            refine Go.step (fun t k => XS.lload X55.here hx rfl (hb hby at_204) rfl k) ?_
            show Go p e below _ (T55.setTop (mkF m 206 #[.val (.int p1), .val (.int p2), .val (.int p3), .val (.int p4), .val (.int p5), .val (.int (2 : Int32)), .val (.int v7), .val (.int v8), .val (.int v9), .val (.int v10), .val (.ref b45_0), .val (.int (f6 v7 v8)), .val (.int v48), .val (.ref b50_0), .val (.int v54), .val (.int v56), .val (.long v58), .second, .unset] [(.long v58)]))
            refine Go.step (fun t k => XS.lconst X55.here hx rfl (hb hby at_206)  k) ?_
            show Go p e below _ (T55.setTop (mkF m 207 #[.val (.int p1), .val (.int p2), .val (.int p3), .val (.int p4), .val (.int p5), .val (.int (2 : Int32)), .val (.int v7), .val (.int v8), .val (.int v9), .val (.int v10), .val (.ref b45_0), .val (.int (f6 v7 v8)), .val (.int v48), .val (.ref b50_0), .val (.int v54), .val (.int v56), .val (.long v58), .second, .unset] [(.long (0 : Int64)), (.long v58)]))
            refine Go.step (fun t k => XS.lcmp X55.here hx rfl (hb hby at_207) rfl k) ?_
            show Go p e below _ (T55.setTop (mkF m 208 #[.val (.int p1), .val (.int p2), .val (.int p3), .val (.int p4), .val (.int p5), .val (.int (2 : Int32)), .val (.int v7), .val (.int v8), .val (.int v9), .val (.int v10), .val (.ref b45_0), .val (.int (f6 v7 v8)), .val (.int v48), .val (.ref b50_0), .val (.int v54), .val (.int v56), .val (.long v58), .second, .unset] [(.int (lcmpW v58 (0 : Int64)))]))
            by_cases hc59 : v58 < (0 : Int64)
            · refine Go.step (fun t k => XS.ifYes X55.here hx rfl (pc0 := 208) (pc' := 220) rfl (hb hby at_208) rfl ((if0 _ _).trans (tlt ((lw_lt _ _).mpr hc59)).1) (by decide) (by decide) k) ?_
              show Go p e below _ (T55.setTop (mkF m 220 #[.val (.int p1), .val (.int p2), .val (.int p3), .val (.int p4), .val (.int p5), .val (.int (2 : Int32)), .val (.int v7), .val (.int v8), .val (.int v9), .val (.int v10), .val (.ref b45_0), .val (.int (f6 v7 v8)), .val (.int v48), .val (.ref b50_0), .val (.int v54), .val (.int v56), .val (.long v58), .second, .unset] []))
              refine Go.step (fun t k => XS.iconst X55.here hx rfl (hb hby at_220)  k) ?_
              show Go p e below _ (T55.setTop (mkF m 221 #[.val (.int p1), .val (.int p2), .val (.int p3), .val (.int p4), .val (.int p5), .val (.int (2 : Int32)), .val (.int v7), .val (.int v8), .val (.int v9), .val (.int v10), .val (.ref b45_0), .val (.int (f6 v7 v8)), .val (.int v48), .val (.ref b50_0), .val (.int v54), .val (.int v56), .val (.long v58), .second, .unset] [(.int (0 : Int32))]))
              subst hv58
              subst hv56
              subst hv54
              subst hv48
              subst hv10
              subst hv9
              subst hv8
              subst hv7
              subst hv6
              exact retGN X55 hx Bd.notSynchronized Bd.returns (t := .boolean) (by simp) (z' := (0 : Int32)) rfl (hb hby at_221) ⟨by first | (simp only [f0, if_neg hc11, if_neg hc24, if_pos hc44, if_pos hc51, if_pos hc57, if_pos hc59]; done) | rfl | (simp [f0, if_neg hc11, if_neg hc24, if_pos hc44, if_pos hc51, if_pos hc57, if_pos hc59]; done), N55⟩ (by decide) (by decide)
            · refine Go.step (fun t k => XS.ifNo X55.here hx rfl (hb hby at_208) rfl ((if0 _ _).trans (flt (fun q => hc59 ((lw_lt _ _).mp q))).1) k) ?_
              show Go p e below _ (T55.setTop (mkF m 211 #[.val (.int p1), .val (.int p2), .val (.int p3), .val (.int p4), .val (.int p5), .val (.int (2 : Int32)), .val (.int v7), .val (.int v8), .val (.int v9), .val (.int v10), .val (.ref b45_0), .val (.int (f6 v7 v8)), .val (.int v48), .val (.ref b50_0), .val (.int v54), .val (.int v56), .val (.long v58), .second, .unset] []))
              refine Go.step (fun t k => XS.lload X55.here hx rfl (hb hby at_211) rfl k) ?_
              show Go p e below _ (T55.setTop (mkF m 213 #[.val (.int p1), .val (.int p2), .val (.int p3), .val (.int p4), .val (.int p5), .val (.int (2 : Int32)), .val (.int v7), .val (.int v8), .val (.int v9), .val (.int v10), .val (.ref b45_0), .val (.int (f6 v7 v8)), .val (.int v48), .val (.ref b50_0), .val (.int v54), .val (.int v56), .val (.long v58), .second, .unset] [(.long v58)]))
              refine Go.step (X55.ldc2Long hx hown (mvT hZ (hw _ (List.mem_of_getElem? (i := 29) rfl))) (g := (mkF m 213 #[.val (.int p1), .val (.int p2), .val (.int p3), .val (.int p4), .val (.int p5), .val (.int (2 : Int32)), .val (.int v7), .val (.int v8), .val (.int v9), .val (.int v10), .val (.ref b45_0), .val (.int (f6 v7 v8)), .val (.int v48), .val (.ref b50_0), .val (.int v54), .val (.int v56), .val (.long v58), .second, .unset] [(.long v58)])) rfl (hb hby at_213)) ?_
              show Go p e below _ (T55.setTop (mkF m 216 #[.val (.int p1), .val (.int p2), .val (.int p3), .val (.int p4), .val (.int p5), .val (.int (2 : Int32)), .val (.int v7), .val (.int v8), .val (.int v9), .val (.int v10), .val (.ref b45_0), .val (.int (f6 v7 v8)), .val (.int v48), .val (.ref b50_0), .val (.int v54), .val (.int v56), .val (.long v58), .second, .unset] [(.long (4294967295 : Int64)), (.long v58)]))
              refine Go.step (fun t k => XS.lcmp X55.here hx rfl (hb hby at_216) rfl k) ?_
              show Go p e below _ (T55.setTop (mkF m 217 #[.val (.int p1), .val (.int p2), .val (.int p3), .val (.int p4), .val (.int p5), .val (.int (2 : Int32)), .val (.int v7), .val (.int v8), .val (.int v9), .val (.int v10), .val (.ref b45_0), .val (.int (f6 v7 v8)), .val (.int v48), .val (.ref b50_0), .val (.int v54), .val (.int v56), .val (.long v58), .second, .unset] [(.int (lcmpW v58 (4294967295 : Int64)))]))
              by_cases hc60 : (4294967295 : Int64) < v58
              · refine Go.step (fun t k => XS.ifNo X55.here hx rfl (hb hby at_217) rfl ((if0 _ _).trans (tlt ((lw_gt _ _).mpr hc60)).2.2.2) k) ?_
                show Go p e below _ (T55.setTop (mkF m 220 #[.val (.int p1), .val (.int p2), .val (.int p3), .val (.int p4), .val (.int p5), .val (.int (2 : Int32)), .val (.int v7), .val (.int v8), .val (.int v9), .val (.int v10), .val (.ref b45_0), .val (.int (f6 v7 v8)), .val (.int v48), .val (.ref b50_0), .val (.int v54), .val (.int v56), .val (.long v58), .second, .unset] []))
                refine Go.step (fun t k => XS.iconst X55.here hx rfl (hb hby at_220)  k) ?_
                show Go p e below _ (T55.setTop (mkF m 221 #[.val (.int p1), .val (.int p2), .val (.int p3), .val (.int p4), .val (.int p5), .val (.int (2 : Int32)), .val (.int v7), .val (.int v8), .val (.int v9), .val (.int v10), .val (.ref b45_0), .val (.int (f6 v7 v8)), .val (.int v48), .val (.ref b50_0), .val (.int v54), .val (.int v56), .val (.long v58), .second, .unset] [(.int (0 : Int32))]))
                subst hv58
                subst hv56
                subst hv54
                subst hv48
                subst hv10
                subst hv9
                subst hv8
                subst hv7
                subst hv6
                exact retGN X55 hx Bd.notSynchronized Bd.returns (t := .boolean) (by simp) (z' := (0 : Int32)) rfl (hb hby at_221) ⟨by first | (simp only [f0, if_neg hc11, if_neg hc24, if_pos hc44, if_pos hc51, if_pos hc57, if_neg hc59, if_pos hc60]; done) | rfl | (simp [f0, if_neg hc11, if_neg hc24, if_pos hc44, if_pos hc51, if_pos hc57, if_neg hc59, if_pos hc60]; done), N55⟩ (by decide) (by decide)
              · refine Go.step (fun t k => XS.ifYes X55.here hx rfl (pc0 := 217) (pc' := 222) rfl (hb hby at_217) rfl ((if0 _ _).trans (flt (fun q => hc60 ((lw_gt _ _).mp q))).2.2.2) (by decide) (by decide) k) ?_
                show Go p e below _ (T55.setTop (mkF m 222 #[.val (.int p1), .val (.int p2), .val (.int p3), .val (.int p4), .val (.int p5), .val (.int (2 : Int32)), .val (.int v7), .val (.int v8), .val (.int v9), .val (.int v10), .val (.ref b45_0), .val (.int (f6 v7 v8)), .val (.int v48), .val (.ref b50_0), .val (.int v54), .val (.int v56), .val (.long v58), .second, .unset] []))
                refine Go.step (fun t k => XS.lload X55.here hx rfl (hb hby at_222) rfl k) ?_
                show Go p e below _ (T55.setTop (mkF m 224 #[.val (.int p1), .val (.int p2), .val (.int p3), .val (.int p4), .val (.int p5), .val (.int (2 : Int32)), .val (.int v7), .val (.int v8), .val (.int v9), .val (.int v10), .val (.ref b45_0), .val (.int (f6 v7 v8)), .val (.int v48), .val (.ref b50_0), .val (.int v54), .val (.int v56), .val (.long v58), .second, .unset] [(.long v58)]))
                refine Go.step (fun t k => XS.iload X55.here hx rfl (hb hby at_224) rfl k) ?_
                show Go p e below _ (T55.setTop (mkF m 226 #[.val (.int p1), .val (.int p2), .val (.int p3), .val (.int p4), .val (.int p5), .val (.int (2 : Int32)), .val (.int v7), .val (.int v8), .val (.int v9), .val (.int v10), .val (.ref b45_0), .val (.int (f6 v7 v8)), .val (.int v48), .val (.ref b50_0), .val (.int v54), .val (.int v56), .val (.long v58), .second, .unset] [(.int v10), (.long v58)]))
                refine Go.step (fun t k => XS.bipush X55.here hx rfl (hb hby at_226)  k) ?_
                show Go p e below _ (T55.setTop (mkF m 228 #[.val (.int p1), .val (.int p2), .val (.int p3), .val (.int p4), .val (.int p5), .val (.int (2 : Int32)), .val (.int v7), .val (.int v8), .val (.int v9), .val (.int v10), .val (.ref b45_0), .val (.int (f6 v7 v8)), .val (.int v48), .val (.ref b50_0), .val (.int v54), .val (.int v56), .val (.long v58), .second, .unset] [(.int (32 : Int32)), (.int v10), (.long v58)]))
                refine Go.step (fun t (k : Steps p.tables e below (T55.setTop (mkF m 229 #[.val (.int p1), .val (.int p2), .val (.int p3), .val (.int p4), .val (.int p5), .val (.int (2 : Int32)), .val (.int v7), .val (.int v8), .val (.int v9), .val (.int v10), .val (.ref b45_0), .val (.int (f6 v7 v8)), .val (.int v48), .val (.ref b50_0), .val (.int v54), .val (.int v56), .val (.long v58), .second, .unset] [(.int (v10 % (32 : Int32))), (.long v58)])) t) => XS.irem X55.here hx rfl (hb hby at_228) rfl (by decide) (by rw [remI]; exact k)) ?_
                show Go p e below _ (T55.setTop (mkF m 229 #[.val (.int p1), .val (.int p2), .val (.int p3), .val (.int p4), .val (.int p5), .val (.int (2 : Int32)), .val (.int v7), .val (.int v8), .val (.int v9), .val (.int v10), .val (.ref b45_0), .val (.int (f6 v7 v8)), .val (.int v48), .val (.ref b50_0), .val (.int v54), .val (.int v56), .val (.long v58), .second, .unset] [(.int (v10 % (32 : Int32))), (.long v58)]))
                refine Go.step (fun t k => XS.lushr X55.here hx rfl (hb hby at_229) rfl k) ?_
                show Go p e below _ (T55.setTop (mkF m 230 #[.val (.int p1), .val (.int p2), .val (.int p3), .val (.int p4), .val (.int p5), .val (.int (2 : Int32)), .val (.int v7), .val (.int v8), .val (.int v9), .val (.int v10), .val (.ref b45_0), .val (.int (f6 v7 v8)), .val (.int v48), .val (.ref b50_0), .val (.int v54), .val (.int v56), .val (.long v58), .second, .unset] [(.long ((v58.toUInt64 >>> ((v10 % (32 : Int32)) &&& 0x3f).toInt64.toUInt64).toInt64))]))
                refine Go.step (fun t k => XS.lconst X55.here hx rfl (hb hby at_230)  k) ?_
                show Go p e below _ (T55.setTop (mkF m 231 #[.val (.int p1), .val (.int p2), .val (.int p3), .val (.int p4), .val (.int p5), .val (.int (2 : Int32)), .val (.int v7), .val (.int v8), .val (.int v9), .val (.int v10), .val (.ref b45_0), .val (.int (f6 v7 v8)), .val (.int v48), .val (.ref b50_0), .val (.int v54), .val (.int v56), .val (.long v58), .second, .unset] [(.long (1 : Int64)), (.long ((v58.toUInt64 >>> ((v10 % (32 : Int32)) &&& 0x3f).toInt64.toUInt64).toInt64))]))
                refine Go.step (fun t k => XS.land X55.here hx rfl (hb hby at_231) rfl k) ?_
                show Go p e below _ (T55.setTop (mkF m 232 #[.val (.int p1), .val (.int p2), .val (.int p3), .val (.int p4), .val (.int p5), .val (.int (2 : Int32)), .val (.int v7), .val (.int v8), .val (.int v9), .val (.int v10), .val (.ref b45_0), .val (.int (f6 v7 v8)), .val (.int v48), .val (.ref b50_0), .val (.int v54), .val (.int v56), .val (.long v58), .second, .unset] [(.long (((v58.toUInt64 >>> ((v10 % (32 : Int32)) &&& 0x3f).toInt64.toUInt64).toInt64) &&& (1 : Int64)))]))
                refine Go.step (fun t k => XS.lconst X55.here hx rfl (hb hby at_232)  k) ?_
                show Go p e below _ (T55.setTop (mkF m 233 #[.val (.int p1), .val (.int p2), .val (.int p3), .val (.int p4), .val (.int p5), .val (.int (2 : Int32)), .val (.int v7), .val (.int v8), .val (.int v9), .val (.int v10), .val (.ref b45_0), .val (.int (f6 v7 v8)), .val (.int v48), .val (.ref b50_0), .val (.int v54), .val (.int v56), .val (.long v58), .second, .unset] [(.long (0 : Int64)), (.long (((v58.toUInt64 >>> ((v10 % (32 : Int32)) &&& 0x3f).toInt64.toUInt64).toInt64) &&& (1 : Int64)))]))
                refine Go.step (fun t k => XS.lcmp X55.here hx rfl (hb hby at_233) rfl k) ?_
                show Go p e below _ (T55.setTop (mkF m 234 #[.val (.int p1), .val (.int p2), .val (.int p3), .val (.int p4), .val (.int p5), .val (.int (2 : Int32)), .val (.int v7), .val (.int v8), .val (.int v9), .val (.int v10), .val (.ref b45_0), .val (.int (f6 v7 v8)), .val (.int v48), .val (.ref b50_0), .val (.int v54), .val (.int v56), .val (.long v58), .second, .unset] [(.int (lcmpW (((v58.toUInt64 >>> ((v10 % (32 : Int32)) &&& 0x3f).toInt64.toUInt64).toInt64) &&& (1 : Int64)) (0 : Int64)))]))
                obtain ⟨v62, hv62⟩ : ∃ z : Int32, z = (if (((v58.toUInt64 >>> ((v10 % (32 : Int32)) &&& 0x3f).toInt64.toUInt64).toInt64) &&& (1 : Int64)) = (0 : Int64) then (0 : Int32) else (1 : Int32)) := ⟨_, rfl⟩
                have J234 : Go p e below (AtF p l e room_1 s m #[(.int p1), (.int p2), (.int p3), (.int p4), (.int p5)] below meth c n0 4 259 T50.heap (mkF m 242 #[.val (.int p1), .val (.int p2), .val (.int p3), .val (.int p4), .val (.int p5), .val (.int (2 : Int32)), .val (.int v7), .val (.int v8), .val (.int v9), .val (.int v10), .val (.ref b45_0), .val (.int (f6 v7 v8)), .val (.int v48), .val (.ref b50_0), .val (.int v54), .val (.int v56), .val (.long v58), .second, .unset] [(.int v62)])) (T55.setTop (mkF m 234 #[.val (.int p1), .val (.int p2), .val (.int p3), .val (.int p4), .val (.int p5), .val (.int (2 : Int32)), .val (.int v7), .val (.int v8), .val (.int v9), .val (.int v10), .val (.ref b45_0), .val (.int (f6 v7 v8)), .val (.int v48), .val (.ref b50_0), .val (.int v54), .val (.int v56), .val (.long v58), .second, .unset] [(.int (lcmpW (((v58.toUInt64 >>> ((v10 % (32 : Int32)) &&& 0x3f).toInt64.toUInt64).toInt64) &&& (1 : Int64)) (0 : Int64)))])) := by
                  by_cases hc61 : (((v58.toUInt64 >>> ((v10 % (32 : Int32)) &&& 0x3f).toInt64.toUInt64).toInt64) &&& (1 : Int64)) = (0 : Int64)
                  · refine Go.step (fun t k => XS.ifYes X55.here hx rfl (pc0 := 234) (pc' := 241) rfl (hb hby at_234) rfl ((if0 _ _).trans (teq ((lw_eq _ _).mpr hc61)).1) (by decide) (by decide) k) ?_
                    show Go p e below _ (T55.setTop (mkF m 241 #[.val (.int p1), .val (.int p2), .val (.int p3), .val (.int p4), .val (.int p5), .val (.int (2 : Int32)), .val (.int v7), .val (.int v8), .val (.int v9), .val (.int v10), .val (.ref b45_0), .val (.int (f6 v7 v8)), .val (.int v48), .val (.ref b50_0), .val (.int v54), .val (.int v56), .val (.long v58), .second, .unset] []))
                    refine Go.step (fun t k => XS.iconst X55.here hx rfl (hb hby at_241)  k) ?_
                    show Go p e below _ (T55.setTop (mkF m 242 #[.val (.int p1), .val (.int p2), .val (.int p3), .val (.int p4), .val (.int p5), .val (.int (2 : Int32)), .val (.int v7), .val (.int v8), .val (.int v9), .val (.int v10), .val (.ref b45_0), .val (.int (f6 v7 v8)), .val (.int v48), .val (.ref b50_0), .val (.int v54), .val (.int v56), .val (.long v58), .second, .unset] [(.int (0 : Int32))]))
                    exact Go.here ⟨_, _, by simp only [hv62, if_pos hc61], X55, N55, e55⟩
                  · refine Go.step (fun t k => XS.ifNo X55.here hx rfl (hb hby at_234) rfl ((if0 _ _).trans (feq (fun q => hc61 ((lw_eq _ _).mp q))).1) k) ?_
                    show Go p e below _ (T55.setTop (mkF m 237 #[.val (.int p1), .val (.int p2), .val (.int p3), .val (.int p4), .val (.int p5), .val (.int (2 : Int32)), .val (.int v7), .val (.int v8), .val (.int v9), .val (.int v10), .val (.ref b45_0), .val (.int (f6 v7 v8)), .val (.int v48), .val (.ref b50_0), .val (.int v54), .val (.int v56), .val (.long v58), .second, .unset] []))
                    refine Go.step (fun t k => XS.iconst X55.here hx rfl (hb hby at_237)  k) ?_
                    show Go p e below _ (T55.setTop (mkF m 238 #[.val (.int p1), .val (.int p2), .val (.int p3), .val (.int p4), .val (.int p5), .val (.int (2 : Int32)), .val (.int v7), .val (.int v8), .val (.int v9), .val (.int v10), .val (.ref b45_0), .val (.int (f6 v7 v8)), .val (.int v48), .val (.ref b50_0), .val (.int v54), .val (.int v56), .val (.long v58), .second, .unset] [(.int (1 : Int32))]))
                    refine Go.step (fun t k => XS.goto X55.here hx rfl (pc0 := 238) (pc' := 242) rfl (hb hby at_238) (by decide) (by decide) k) ?_
                    show Go p e below _ (T55.setTop (mkF m 242 #[.val (.int p1), .val (.int p2), .val (.int p3), .val (.int p4), .val (.int p5), .val (.int (2 : Int32)), .val (.int v7), .val (.int v8), .val (.int v9), .val (.int v10), .val (.ref b45_0), .val (.int (f6 v7 v8)), .val (.int v48), .val (.ref b50_0), .val (.int v54), .val (.int v56), .val (.long v58), .second, .unset] [(.int (1 : Int32))]))
                    exact Go.here ⟨_, _, by simp only [hv62, if_neg hc61], X55, N55, e55⟩
                obtain ⟨_, st63, T63, Lj63, rfl, X63, N63, e63⟩ := J234
                refine Go.trans st63 ?_
                show Go p e below _ (T63.setTop (mkF m 242 #[.val (.int p1), .val (.int p2), .val (.int p3), .val (.int p4), .val (.int p5), .val (.int (2 : Int32)), .val (.int v7), .val (.int v8), .val (.int v9), .val (.int v10), .val (.ref b45_0), .val (.int (f6 v7 v8)), .val (.int v48), .val (.ref b50_0), .val (.int v54), .val (.int v56), .val (.long v58), .second, .unset] [(.int v62)]))
                refine Go.step (fun t k => XS.istore X63.here hx rfl (hb hby at_242) rfl (l' := #[.val (.int p1), .val (.int p2), .val (.int p3), .val (.int p4), .val (.int p5), .val (.int (2 : Int32)), .val (.int v7), .val (.int v8), .val (.int v9), .val (.int v10), .val (.ref b45_0), .val (.int (f6 v7 v8)), .val (.int v48), .val (.ref b50_0), .val (.int v54), .val (.int v56), .val (.long v58), .second, .val (.int v62)]) rfl k) ?_
                show Go p e below _ (T63.setTop (mkF m 244 #[.val (.int p1), .val (.int p2), .val (.int p3), .val (.int p4), .val (.int p5), .val (.int (2 : Int32)), .val (.int v7), .val (.int v8), .val (.int v9), .val (.int v10), .val (.ref b45_0), .val (.int (f6 v7 v8)), .val (.int v48), .val (.ref b50_0), .val (.int v54), .val (.int v56), .val (.long v58), .second, .val (.int v62)] []))
                refine Go.step (fun t k => XS.iload X63.here hx rfl (hb hby at_244) rfl k) ?_
                show Go p e below _ (T63.setTop (mkF m 246 #[.val (.int p1), .val (.int p2), .val (.int p3), .val (.int p4), .val (.int p5), .val (.int (2 : Int32)), .val (.int v7), .val (.int v8), .val (.int v9), .val (.int v10), .val (.ref b45_0), .val (.int (f6 v7 v8)), .val (.int v48), .val (.ref b50_0), .val (.int v54), .val (.int v56), .val (.long v58), .second, .val (.int v62)] [(.int v62)]))
                refine Go.step (fun t k => XS.iload X63.here hx rfl (hb hby at_246) rfl k) ?_
                show Go p e below _ (T63.setTop (mkF m 248 #[.val (.int p1), .val (.int p2), .val (.int p3), .val (.int p4), .val (.int p5), .val (.int (2 : Int32)), .val (.int v7), .val (.int v8), .val (.int v9), .val (.int v10), .val (.ref b45_0), .val (.int (f6 v7 v8)), .val (.int v48), .val (.ref b50_0), .val (.int v54), .val (.int v56), .val (.long v58), .second, .val (.int v62)] [(.int v54), (.int v62)]))
                by_cases hc64 : v62 = v54
                · refine Go.step (fun t k => XS.icmpNo X63.here hx rfl (hb hby at_248) rfl (teq hc64).2 k) ?_
                  show Go p e below _ (T63.setTop (mkF m 251 #[.val (.int p1), .val (.int p2), .val (.int p3), .val (.int p4), .val (.int p5), .val (.int (2 : Int32)), .val (.int v7), .val (.int v8), .val (.int v9), .val (.int v10), .val (.ref b45_0), .val (.int (f6 v7 v8)), .val (.int v48), .val (.ref b50_0), .val (.int v54), .val (.int v56), .val (.long v58), .second, .val (.int v62)] []))
                  refine Go.step (fun t k => XS.iconst X63.here hx rfl (hb hby at_251)  k) ?_
                  show Go p e below _ (T63.setTop (mkF m 252 #[.val (.int p1), .val (.int p2), .val (.int p3), .val (.int p4), .val (.int p5), .val (.int (2 : Int32)), .val (.int v7), .val (.int v8), .val (.int v9), .val (.int v10), .val (.ref b45_0), .val (.int (f6 v7 v8)), .val (.int v48), .val (.ref b50_0), .val (.int v54), .val (.int v56), .val (.long v58), .second, .val (.int v62)] [(.int (1 : Int32))]))
                  refine Go.step (fun t k => XS.goto X63.here hx rfl (pc0 := 252) (pc' := 256) rfl (hb hby at_252) (by decide) (by decide) k) ?_
                  show Go p e below _ (T63.setTop (mkF m 256 #[.val (.int p1), .val (.int p2), .val (.int p3), .val (.int p4), .val (.int p5), .val (.int (2 : Int32)), .val (.int v7), .val (.int v8), .val (.int v9), .val (.int v10), .val (.ref b45_0), .val (.int (f6 v7 v8)), .val (.int v48), .val (.ref b50_0), .val (.int v54), .val (.int v56), .val (.long v58), .second, .val (.int v62)] [(.int (1 : Int32))]))
                  subst hv62
                  subst hv58
                  subst hv56
                  subst hv54
                  subst hv48
                  subst hv10
                  subst hv9
                  subst hv8
                  subst hv7
                  subst hv6
                  exact retGN X63 hx Bd.notSynchronized Bd.returns (t := .boolean) (by simp) (z' := (1 : Int32)) rfl (hb hby at_256) ⟨by first | (simp only [f0, if_neg hc11, if_neg hc24, if_pos hc44, if_pos hc51, if_pos hc57, if_neg hc59, if_neg hc60, if_pos hc64]; done) | rfl | (simp [f0, if_neg hc11, if_neg hc24, if_pos hc44, if_pos hc51, if_pos hc57, if_neg hc59, if_neg hc60, if_pos hc64]; done), N63⟩ (by decide) (by decide)
                · refine Go.step (fun t k => XS.icmpYes X63.here hx rfl (pc0 := 248) (pc' := 255) rfl (hb hby at_248) rfl (feq hc64).2 (by decide) (by decide) k) ?_
                  show Go p e below _ (T63.setTop (mkF m 255 #[.val (.int p1), .val (.int p2), .val (.int p3), .val (.int p4), .val (.int p5), .val (.int (2 : Int32)), .val (.int v7), .val (.int v8), .val (.int v9), .val (.int v10), .val (.ref b45_0), .val (.int (f6 v7 v8)), .val (.int v48), .val (.ref b50_0), .val (.int v54), .val (.int v56), .val (.long v58), .second, .val (.int v62)] []))
                  refine Go.step (fun t k => XS.iconst X63.here hx rfl (hb hby at_255)  k) ?_
                  show Go p e below _ (T63.setTop (mkF m 256 #[.val (.int p1), .val (.int p2), .val (.int p3), .val (.int p4), .val (.int p5), .val (.int (2 : Int32)), .val (.int v7), .val (.int v8), .val (.int v9), .val (.int v10), .val (.ref b45_0), .val (.int (f6 v7 v8)), .val (.int v48), .val (.ref b50_0), .val (.int v54), .val (.int v56), .val (.long v58), .second, .val (.int v62)] [(.int (0 : Int32))]))
                  subst hv62
                  subst hv58
                  subst hv56
                  subst hv54
                  subst hv48
                  subst hv10
                  subst hv9
                  subst hv8
                  subst hv7
                  subst hv6
                  exact retGN X63 hx Bd.notSynchronized Bd.returns (t := .boolean) (by simp) (z' := (0 : Int32)) rfl (hb hby at_256) ⟨by first | (simp only [f0, if_neg hc11, if_neg hc24, if_pos hc44, if_pos hc51, if_pos hc57, if_neg hc59, if_neg hc60, if_neg hc64]; done) | rfl | (simp [f0, if_neg hc11, if_neg hc24, if_pos hc44, if_pos hc51, if_pos hc57, if_neg hc59, if_neg hc60, if_neg hc64]; done), N63⟩ (by decide) (by decide)
          · refine Go.step (fun t k => XS.icmpNo X55.here hx rfl (hb hby at_183) rfl (flt hc57).1 k) ?_
            show Go p e below _ (T55.setTop (mkF m 186 #[.val (.int p1), .val (.int p2), .val (.int p3), .val (.int p4), .val (.int p5), .val (.int (2 : Int32)), .val (.int v7), .val (.int v8), .val (.int v9), .val (.int v10), .val (.ref b45_0), .val (.int (f6 v7 v8)), .val (.int v48), .val (.ref b50_0), .val (.int v54), .val (.int v56), .unset, .unset, .unset] []))
            refine Go.step (fun t k => XS.iload X55.here hx rfl (hb hby at_186) rfl k) ?_
            show Go p e below _ (T55.setTop (mkF m 188 #[.val (.int p1), .val (.int p2), .val (.int p3), .val (.int p4), .val (.int p5), .val (.int (2 : Int32)), .val (.int v7), .val (.int v8), .val (.int v9), .val (.int v10), .val (.ref b45_0), .val (.int (f6 v7 v8)), .val (.int v48), .val (.ref b50_0), .val (.int v54), .val (.int v56), .unset, .unset, .unset] [(.int v54)]))
            by_cases hc65 : v54 = (0 : Int32)
            · refine Go.step (fun t k => XS.ifNo X55.here hx rfl (hb hby at_188) rfl ((if0 _ _).trans (teq hc65).2) k) ?_
              show Go p e below _ (T55.setTop (mkF m 191 #[.val (.int p1), .val (.int p2), .val (.int p3), .val (.int p4), .val (.int p5), .val (.int (2 : Int32)), .val (.int v7), .val (.int v8), .val (.int v9), .val (.int v10), .val (.ref b45_0), .val (.int (f6 v7 v8)), .val (.int v48), .val (.ref b50_0), .val (.int v54), .val (.int v56), .unset, .unset, .unset] []))
              refine Go.step (fun t k => XS.iconst X55.here hx rfl (hb hby at_191)  k) ?_
              show Go p e below _ (T55.setTop (mkF m 192 #[.val (.int p1), .val (.int p2), .val (.int p3), .val (.int p4), .val (.int p5), .val (.int (2 : Int32)), .val (.int v7), .val (.int v8), .val (.int v9), .val (.int v10), .val (.ref b45_0), .val (.int (f6 v7 v8)), .val (.int v48), .val (.ref b50_0), .val (.int v54), .val (.int v56), .unset, .unset, .unset] [(.int (1 : Int32))]))
              refine Go.step (fun t k => XS.goto X55.here hx rfl (pc0 := 192) (pc' := 196) rfl (hb hby at_192) (by decide) (by decide) k) ?_
              show Go p e below _ (T55.setTop (mkF m 196 #[.val (.int p1), .val (.int p2), .val (.int p3), .val (.int p4), .val (.int p5), .val (.int (2 : Int32)), .val (.int v7), .val (.int v8), .val (.int v9), .val (.int v10), .val (.ref b45_0), .val (.int (f6 v7 v8)), .val (.int v48), .val (.ref b50_0), .val (.int v54), .val (.int v56), .unset, .unset, .unset] [(.int (1 : Int32))]))
              subst hv56
              subst hv54
              subst hv48
              subst hv10
              subst hv9
              subst hv8
              subst hv7
              subst hv6
              exact retGN X55 hx Bd.notSynchronized Bd.returns (t := .boolean) (by simp) (z' := (1 : Int32)) rfl (hb hby at_196) ⟨by first | (simp only [f0, if_neg hc11, if_neg hc24, if_pos hc44, if_pos hc51, if_neg hc57, if_pos hc65]; done) | rfl | (simp [f0, if_neg hc11, if_neg hc24, if_pos hc44, if_pos hc51, if_neg hc57, if_pos hc65]; done), N55⟩ (by decide) (by decide)
            · refine Go.step (fun t k => XS.ifYes X55.here hx rfl (pc0 := 188) (pc' := 195) rfl (hb hby at_188) rfl ((if0 _ _).trans (feq hc65).2) (by decide) (by decide) k) ?_
              show Go p e below _ (T55.setTop (mkF m 195 #[.val (.int p1), .val (.int p2), .val (.int p3), .val (.int p4), .val (.int p5), .val (.int (2 : Int32)), .val (.int v7), .val (.int v8), .val (.int v9), .val (.int v10), .val (.ref b45_0), .val (.int (f6 v7 v8)), .val (.int v48), .val (.ref b50_0), .val (.int v54), .val (.int v56), .unset, .unset, .unset] []))
              refine Go.step (fun t k => XS.iconst X55.here hx rfl (hb hby at_195)  k) ?_
              show Go p e below _ (T55.setTop (mkF m 196 #[.val (.int p1), .val (.int p2), .val (.int p3), .val (.int p4), .val (.int p5), .val (.int (2 : Int32)), .val (.int v7), .val (.int v8), .val (.int v9), .val (.int v10), .val (.ref b45_0), .val (.int (f6 v7 v8)), .val (.int v48), .val (.ref b50_0), .val (.int v54), .val (.int v56), .unset, .unset, .unset] [(.int (0 : Int32))]))
              subst hv56
              subst hv54
              subst hv48
              subst hv10
              subst hv9
              subst hv8
              subst hv7
              subst hv6
              exact retGN X55 hx Bd.notSynchronized Bd.returns (t := .boolean) (by simp) (z' := (0 : Int32)) rfl (hb hby at_196) ⟨by first | (simp only [f0, if_neg hc11, if_neg hc24, if_pos hc44, if_pos hc51, if_neg hc57, if_neg hc65]; done) | rfl | (simp [f0, if_neg hc11, if_neg hc24, if_pos hc44, if_pos hc51, if_neg hc57, if_neg hc65]; done), N55⟩ (by decide) (by decide)
        · refine Go.step (fun t k => XS.icmpNo X50.here hx rfl (hb hby at_120) rfl (feq hc51).1 k) ?_
          show Go p e below _ (T50.setTop (mkF m 123 #[.val (.int p1), .val (.int p2), .val (.int p3), .val (.int p4), .val (.int p5), .val (.int (2 : Int32)), .val (.int v7), .val (.int v8), .val (.int v9), .val (.int v10), .val (.ref b45_0), .val (.int (f6 v7 v8)), .val (.int v48), .val (.ref b50_0), .unset, .unset, .unset, .unset, .unset] []))
          refine Go.step (fun t k => XS.iconst X50.here hx rfl (hb hby at_123)  k) ?_
          show Go p e below _ (T50.setTop (mkF m 124 #[.val (.int p1), .val (.int p2), .val (.int p3), .val (.int p4), .val (.int p5), .val (.int (2 : Int32)), .val (.int v7), .val (.int v8), .val (.int v9), .val (.int v10), .val (.ref b45_0), .val (.int (f6 v7 v8)), .val (.int v48), .val (.ref b50_0), .unset, .unset, .unset, .unset, .unset] [(.int (0 : Int32))]))
          subst hv48
          subst hv10
          subst hv9
          subst hv8
          subst hv7
          subst hv6
          exact retGN X50 hx Bd.notSynchronized Bd.returns (t := .boolean) (by simp) (z' := (0 : Int32)) rfl (hb hby at_124) ⟨by first | (simp only [f0, if_neg hc11, if_neg hc24, if_pos hc44, if_neg hc51]; done) | rfl | (simp [f0, if_neg hc11, if_neg hc24, if_pos hc44, if_neg hc51]; done), N50⟩ (by decide) (by decide)
      · skip
        by_cases hc66 : v6 = (3 : Int32)
        · rw [hc66]
          show Go p e below _ (s₁.setTop (mkF m 34 #[.val (.int p1), .val (.int p2), .val (.int p3), .val (.int p4), .val (.int p5), .val (.int (3 : Int32)), .val (.int v7), .val (.int v8), .val (.int v9), .val (.int v10), .unset, .unset, .unset, .unset, .unset, .unset, .unset, .unset, .unset] []))
          refine Go.step (fun t k => XS.iload X0.here hx rfl (hb hby at_34) rfl k) ?_
          show Go p e below _ (s₁.setTop (mkF m 36 #[.val (.int p1), .val (.int p2), .val (.int p3), .val (.int p4), .val (.int p5), .val (.int (3 : Int32)), .val (.int v7), .val (.int v8), .val (.int v9), .val (.int v10), .unset, .unset, .unset, .unset, .unset, .unset, .unset, .unset, .unset] [(.int (3 : Int32))]))
          refine Go.step (fun t k => XS.iload X0.here hx rfl (hb hby at_36) rfl k) ?_
          show Go p e below _ (s₁.setTop (mkF m 38 #[.val (.int p1), .val (.int p2), .val (.int p3), .val (.int p4), .val (.int p5), .val (.int (3 : Int32)), .val (.int v7), .val (.int v8), .val (.int v9), .val (.int v10), .unset, .unset, .unset, .unset, .unset, .unset, .unset, .unset, .unset] [(.int v7), (.int (3 : Int32))]))
          refine Go.step (fun t k => XS.iload X0.here hx rfl (hb hby at_38) rfl k) ?_
          show Go p e below _ (s₁.setTop (mkF m 40 #[.val (.int p1), .val (.int p2), .val (.int p3), .val (.int p4), .val (.int p5), .val (.int (3 : Int32)), .val (.int v7), .val (.int v8), .val (.int v9), .val (.int v10), .unset, .unset, .unset, .unset, .unset, .unset, .unset, .unset, .unset] [(.int v8), (.int v7), (.int (3 : Int32))]))
          refine Go.step (fun t k => XS.iload X0.here hx rfl (hb hby at_40) rfl k) ?_
          show Go p e below _ (s₁.setTop (mkF m 42 #[.val (.int p1), .val (.int p2), .val (.int p3), .val (.int p4), .val (.int p5), .val (.int (3 : Int32)), .val (.int v7), .val (.int v8), .val (.int v9), .val (.int v10), .unset, .unset, .unset, .unset, .unset, .unset, .unset, .unset, .unset] [(.int v9), (.int v8), (.int v7), (.int (3 : Int32))]))
          obtain ⟨_, _, ⟨T67, L67, k67, n67⟩, -, X67, ⟨Lc67, hQ67, l67, y67, z67⟩, st67⟩ := Jvm.LawKit.callS X0 hx (y := (⟨"com/example/menshen/menshen/core/PermissionSetOfPinLaw", "build", "(IIII)Lcom/example/menshen/menshen/core/PermissionSet;"⟩ : MethodName)) hown (mvT hZ (hw _ (List.mem_of_getElem? (i := 0) rfl))) (mvT hZ (hw _ (List.mem_of_getElem? (i := 1) rfl))) (mvT hZ (hw _ (List.mem_of_getElem? (i := 2) rfl))) (mvT hZ (hw _ (List.mem_of_getElem? (i := 3) rfl))) (by decide) (backOf (W := 0) (rm1_3 l Z a0 hw [] v7 v8 v9 h0 n0 Z0 ((by subst_vars; exact own_bit _) : Bit v7) ((by subst_vars; exact own_bit _) : Bit v8) ((by subst_vars; exact own_bit _) : Bit v9)) hZ (hw _ (List.mem_of_getElem? (i := 3) rfl)) (hw _ (List.mem_of_getElem? (i := 2) rfl)) (by decide) (by decide)) (g := (mkF m 42 #[.val (.int p1), .val (.int p2), .val (.int p3), .val (.int p4), .val (.int p5), .val (.int (3 : Int32)), .val (.int v7), .val (.int v8), .val (.int v9), .val (.int v10), .unset, .unset, .unset, .unset, .unset, .unset, .unset, .unset, .unset] [(.int v9), (.int v8), (.int v7), (.int (3 : Int32))])) rfl (by rw [hml]; rfl) (argsL := [(.int (3 : Int32)), (.int v7), (.int v8), (.int v9)]) (rest := []) (lenOf pd_5 rfl) rfl (by show 2 * 0 + _ ≤ _; exact Nat.le_of_eq rfl) (hb hby at_42) (fun _ _ => ⟨rfl, e0, (by decide : 0 + 3 ≤ _), (by decide : 0 + 132 ≤ _)⟩)
          dsimp only [Pt.U, Pt.locs, Pt.cells, Pt.slots] at X67 l67 y67 z67 st67 hQ67
          subst l67 y67 z67
          obtain ⟨b67_0, b67_1, rfl, N67q, K67, sz67_0, sz67_1, Q67_0, Q67_1, Q67_2⟩ := hQ67
          have N67 := Fr.app N0 N67q
          have g_b67_0 : n0 ≤ b67_0 := Nat.le_trans Z0 sz67_0
          have sz_b67_0 : h0.size ≤ b67_0 := Nat.le_trans KK0.1 sz67_0
          have g_b67_1 : n0 ≤ b67_1 := Nat.le_trans Z0 sz67_1
          have sz_b67_1 : h0.size ≤ b67_1 := Nat.le_trans KK0.1 sz67_1
          have Z67 := Nat.le_trans Z0 K67.1
          have KK67 : Keep h0 T67.heap [] := KK0.trans K67 all0
          refine Go.step st67 ?_
          show Go p e below _ (T67.setTop (mkF m 45 #[.val (.int p1), .val (.int p2), .val (.int p3), .val (.int p4), .val (.int p5), .val (.int (3 : Int32)), .val (.int v7), .val (.int v8), .val (.int v9), .val (.int v10), .unset, .unset, .unset, .unset, .unset, .unset, .unset, .unset, .unset] [(.ref b67_0)]))
          refine Go.step (fun t k => XS.astore X67.here hx rfl (hb hby at_45) rfl rfl (l' := #[.val (.int p1), .val (.int p2), .val (.int p3), .val (.int p4), .val (.int p5), .val (.int (3 : Int32)), .val (.int v7), .val (.int v8), .val (.int v9), .val (.int v10), .val (.ref b67_0), .unset, .unset, .unset, .unset, .unset, .unset, .unset, .unset]) rfl k) ?_
          show Go p e below _ (T67.setTop (mkF m 47 #[.val (.int p1), .val (.int p2), .val (.int p3), .val (.int p4), .val (.int p5), .val (.int (3 : Int32)), .val (.int v7), .val (.int v8), .val (.int v9), .val (.int v10), .val (.ref b67_0), .unset, .unset, .unset, .unset, .unset, .unset, .unset, .unset] []))
          refine Go.step (fun t k => XS.iconst X67.here hx rfl (hb hby at_47)  k) ?_
          show Go p e below _ (T67.setTop (mkF m 48 #[.val (.int p1), .val (.int p2), .val (.int p3), .val (.int p4), .val (.int p5), .val (.int (3 : Int32)), .val (.int v7), .val (.int v8), .val (.int v9), .val (.int v10), .val (.ref b67_0), .unset, .unset, .unset, .unset, .unset, .unset, .unset, .unset] [(.int (-1 : Int32))]))
          refine Go.step (fun t k => XS.istore X67.here hx rfl (hb hby at_48) rfl (l' := #[.val (.int p1), .val (.int p2), .val (.int p3), .val (.int p4), .val (.int p5), .val (.int (3 : Int32)), .val (.int v7), .val (.int v8), .val (.int v9), .val (.int v10), .val (.ref b67_0), .val (.int (-1 : Int32)), .unset, .unset, .unset, .unset, .unset, .unset, .unset]) rfl k) ?_
          show Go p e below _ (T67.setTop (mkF m 50 #[.val (.int p1), .val (.int p2), .val (.int p3), .val (.int p4), .val (.int p5), .val (.int (3 : Int32)), .val (.int v7), .val (.int v8), .val (.int v9), .val (.int v10), .val (.ref b67_0), .val (.int (-1 : Int32)), .unset, .unset, .unset, .unset, .unset, .unset, .unset] []))
          refine Go.step (fun t k => XS.iload X67.here hx rfl (hb hby at_50) rfl k) ?_
          show Go p e below _ (T67.setTop (mkF m 52 #[.val (.int p1), .val (.int p2), .val (.int p3), .val (.int p4), .val (.int p5), .val (.int (3 : Int32)), .val (.int v7), .val (.int v8), .val (.int v9), .val (.int v10), .val (.ref b67_0), .val (.int (-1 : Int32)), .unset, .unset, .unset, .unset, .unset, .unset, .unset] [(.int (3 : Int32))]))
          refine Go.step (fun t k => XS.iconst X67.here hx rfl (hb hby at_52)  k) ?_
          show Go p e below _ (T67.setTop (mkF m 53 #[.val (.int p1), .val (.int p2), .val (.int p3), .val (.int p4), .val (.int p5), .val (.int (3 : Int32)), .val (.int v7), .val (.int v8), .val (.int v9), .val (.int v10), .val (.ref b67_0), .val (.int (-1 : Int32)), .unset, .unset, .unset, .unset, .unset, .unset, .unset] [(.int (1 : Int32)), (.int (3 : Int32))]))
          refine Go.step (fun t k => XS.icmpNo X67.here hx rfl (hb hby at_53) rfl (flt (by decide : ¬ ((3 : Int32) < (1 : Int32)))).1 k) ?_
          show Go p e below _ (T67.setTop (mkF m 56 #[.val (.int p1), .val (.int p2), .val (.int p3), .val (.int p4), .val (.int p5), .val (.int (3 : Int32)), .val (.int v7), .val (.int v8), .val (.int v9), .val (.int v10), .val (.ref b67_0), .val (.int (-1 : Int32)), .unset, .unset, .unset, .unset, .unset, .unset, .unset] []))
          refine Go.step (fun t k => XS.iload X67.here hx rfl (hb hby at_56) rfl k) ?_
          show Go p e below _ (T67.setTop (mkF m 58 #[.val (.int p1), .val (.int p2), .val (.int p3), .val (.int p4), .val (.int p5), .val (.int (3 : Int32)), .val (.int v7), .val (.int v8), .val (.int v9), .val (.int v10), .val (.ref b67_0), .val (.int (-1 : Int32)), .unset, .unset, .unset, .unset, .unset, .unset, .unset] [(.int v7)]))
          refine Go.step (fun t k => XS.istore X67.here hx rfl (hb hby at_58) rfl (l' := #[.val (.int p1), .val (.int p2), .val (.int p3), .val (.int p4), .val (.int p5), .val (.int (3 : Int32)), .val (.int v7), .val (.int v8), .val (.int v9), .val (.int v10), .val (.ref b67_0), .val (.int v7), .unset, .unset, .unset, .unset, .unset, .unset, .unset]) rfl k) ?_
          show Go p e below _ (T67.setTop (mkF m 60 #[.val (.int p1), .val (.int p2), .val (.int p3), .val (.int p4), .val (.int p5), .val (.int (3 : Int32)), .val (.int v7), .val (.int v8), .val (.int v9), .val (.int v10), .val (.ref b67_0), .val (.int v7), .unset, .unset, .unset, .unset, .unset, .unset, .unset] []))
          refine Go.step (fun t k => XS.iload X67.here hx rfl (hb hby at_60) rfl k) ?_
          show Go p e below _ (T67.setTop (mkF m 62 #[.val (.int p1), .val (.int p2), .val (.int p3), .val (.int p4), .val (.int p5), .val (.int (3 : Int32)), .val (.int v7), .val (.int v8), .val (.int v9), .val (.int v10), .val (.ref b67_0), .val (.int v7), .unset, .unset, .unset, .unset, .unset, .unset, .unset] [(.int (3 : Int32))]))
          refine Go.step (fun t k => XS.iconst X67.here hx rfl (hb hby at_62)  k) ?_
          show Go p e below _ (T67.setTop (mkF m 63 #[.val (.int p1), .val (.int p2), .val (.int p3), .val (.int p4), .val (.int p5), .val (.int (3 : Int32)), .val (.int v7), .val (.int v8), .val (.int v9), .val (.int v10), .val (.ref b67_0), .val (.int v7), .unset, .unset, .unset, .unset, .unset, .unset, .unset] [(.int (2 : Int32)), (.int (3 : Int32))]))
          refine Go.step (fun t k => XS.icmpNo X67.here hx rfl (hb hby at_63) rfl (flt (by decide : ¬ ((3 : Int32) < (2 : Int32)))).1 k) ?_
          show Go p e below _ (T67.setTop (mkF m 66 #[.val (.int p1), .val (.int p2), .val (.int p3), .val (.int p4), .val (.int p5), .val (.int (3 : Int32)), .val (.int v7), .val (.int v8), .val (.int v9), .val (.int v10), .val (.ref b67_0), .val (.int v7), .unset, .unset, .unset, .unset, .unset, .unset, .unset] []))
          refine Go.step (fun t k => XS.iload X67.here hx rfl (hb hby at_66) rfl k) ?_
          show Go p e below _ (T67.setTop (mkF m 68 #[.val (.int p1), .val (.int p2), .val (.int p3), .val (.int p4), .val (.int p5), .val (.int (3 : Int32)), .val (.int v7), .val (.int v8), .val (.int v9), .val (.int v10), .val (.ref b67_0), .val (.int v7), .unset, .unset, .unset, .unset, .unset, .unset, .unset] [(.int v7)]))
          refine Go.step (fun t k => XS.iload X67.here hx rfl (hb hby at_68) rfl k) ?_
          show Go p e below _ (T67.setTop (mkF m 70 #[.val (.int p1), .val (.int p2), .val (.int p3), .val (.int p4), .val (.int p5), .val (.int (3 : Int32)), .val (.int v7), .val (.int v8), .val (.int v9), .val (.int v10), .val (.ref b67_0), .val (.int v7), .unset, .unset, .unset, .unset, .unset, .unset, .unset] [(.int v8), (.int v7)]))
          obtain ⟨_, _, ⟨T68, L68, k68, n68⟩, -, X68, ⟨Lc68, hQ68, l68, y68, z68⟩, st68⟩ := Jvm.LawKit.callS X67 hx (y := (⟨"java/lang/Math", "max", "(II)I"⟩ : MethodName)) hown (mvT hZ (hw _ (List.mem_of_getElem? (i := 33) rfl))) (mvT hZ (hw _ (List.mem_of_getElem? (i := 25) rfl))) (mvT hZ (hw _ (List.mem_of_getElem? (i := 26) rfl))) (mvT hZ (hw _ (List.mem_of_getElem? (i := 27) rfl))) (by decide) (backOf (W := 0) (rm6 l Z a0 hw [] v7 v8 T67.heap n0 Z67) hZ (hw _ (List.mem_of_getElem? (i := 27) rfl)) (hw _ (List.mem_of_getElem? (i := 26) rfl)) (by decide) (by decide)) (g := (mkF m 70 #[.val (.int p1), .val (.int p2), .val (.int p3), .val (.int p4), .val (.int p5), .val (.int (3 : Int32)), .val (.int v7), .val (.int v8), .val (.int v9), .val (.int v10), .val (.ref b67_0), .val (.int v7), .unset, .unset, .unset, .unset, .unset, .unset, .unset] [(.int v8), (.int v7)])) rfl (by rw [hml]; rfl) (argsL := [(.int v7), (.int v8)]) (rest := []) (lenOf pd_2 rfl) rfl (by show 2 * 0 + _ ≤ _; exact Nat.le_of_eq rfl) (hb hby at_70) (fun _ _ => ⟨rfl, rfl, (by decide : 3 + 0 ≤ _), (by decide : 132 + 0 ≤ _)⟩)
          dsimp only [Pt.U, Pt.locs, Pt.cells, Pt.slots] at X68 l68 y68 z68 st68 hQ68
          subst l68 y68 z68
          obtain ⟨rfl, N68q, e68⟩ := hQ68
          have N68 := Fr.app N67 N68q
          refine Go.step st68 ?_
          show Go p e below _ (T68.setTop (mkF m 73 #[.val (.int p1), .val (.int p2), .val (.int p3), .val (.int p4), .val (.int p5), .val (.int (3 : Int32)), .val (.int v7), .val (.int v8), .val (.int v9), .val (.int v10), .val (.ref b67_0), .val (.int v7), .unset, .unset, .unset, .unset, .unset, .unset, .unset] [(.int (f6 v7 v8))]))
          refine Go.step (fun t k => XS.istore X68.here hx rfl (hb hby at_73) rfl (l' := #[.val (.int p1), .val (.int p2), .val (.int p3), .val (.int p4), .val (.int p5), .val (.int (3 : Int32)), .val (.int v7), .val (.int v8), .val (.int v9), .val (.int v10), .val (.ref b67_0), .val (.int (f6 v7 v8)), .unset, .unset, .unset, .unset, .unset, .unset, .unset]) rfl k) ?_
          show Go p e below _ (T68.setTop (mkF m 75 #[.val (.int p1), .val (.int p2), .val (.int p3), .val (.int p4), .val (.int p5), .val (.int (3 : Int32)), .val (.int v7), .val (.int v8), .val (.int v9), .val (.int v10), .val (.ref b67_0), .val (.int (f6 v7 v8)), .unset, .unset, .unset, .unset, .unset, .unset, .unset] []))
          refine Go.step (fun t k => XS.iload X68.here hx rfl (hb hby at_75) rfl k) ?_
          show Go p e below _ (T68.setTop (mkF m 77 #[.val (.int p1), .val (.int p2), .val (.int p3), .val (.int p4), .val (.int p5), .val (.int (3 : Int32)), .val (.int v7), .val (.int v8), .val (.int v9), .val (.int v10), .val (.ref b67_0), .val (.int (f6 v7 v8)), .unset, .unset, .unset, .unset, .unset, .unset, .unset] [(.int (3 : Int32))]))
          refine Go.step (fun t k => XS.iconst X68.here hx rfl (hb hby at_77)  k) ?_
          show Go p e below _ (T68.setTop (mkF m 78 #[.val (.int p1), .val (.int p2), .val (.int p3), .val (.int p4), .val (.int p5), .val (.int (3 : Int32)), .val (.int v7), .val (.int v8), .val (.int v9), .val (.int v10), .val (.ref b67_0), .val (.int (f6 v7 v8)), .unset, .unset, .unset, .unset, .unset, .unset, .unset] [(.int (3 : Int32)), (.int (3 : Int32))]))
          refine Go.step (fun t k => XS.icmpNo X68.here hx rfl (hb hby at_78) rfl (flt (by decide : ¬ ((3 : Int32) < (3 : Int32)))).1 k) ?_
          show Go p e below _ (T68.setTop (mkF m 81 #[.val (.int p1), .val (.int p2), .val (.int p3), .val (.int p4), .val (.int p5), .val (.int (3 : Int32)), .val (.int v7), .val (.int v8), .val (.int v9), .val (.int v10), .val (.ref b67_0), .val (.int (f6 v7 v8)), .unset, .unset, .unset, .unset, .unset, .unset, .unset] []))
          refine Go.step (fun t k => XS.iload X68.here hx rfl (hb hby at_81) rfl k) ?_
          show Go p e below _ (T68.setTop (mkF m 83 #[.val (.int p1), .val (.int p2), .val (.int p3), .val (.int p4), .val (.int p5), .val (.int (3 : Int32)), .val (.int v7), .val (.int v8), .val (.int v9), .val (.int v10), .val (.ref b67_0), .val (.int (f6 v7 v8)), .unset, .unset, .unset, .unset, .unset, .unset, .unset] [(.int (f6 v7 v8))]))
          refine Go.step (fun t k => XS.iload X68.here hx rfl (hb hby at_83) rfl k) ?_
          show Go p e below _ (T68.setTop (mkF m 85 #[.val (.int p1), .val (.int p2), .val (.int p3), .val (.int p4), .val (.int p5), .val (.int (3 : Int32)), .val (.int v7), .val (.int v8), .val (.int v9), .val (.int v10), .val (.ref b67_0), .val (.int (f6 v7 v8)), .unset, .unset, .unset, .unset, .unset, .unset, .unset] [(.int v9), (.int (f6 v7 v8))]))
          obtain ⟨_, _, ⟨T69, L69, k69, n69⟩, -, X69, ⟨Lc69, hQ69, l69, y69, z69⟩, st69⟩ := Jvm.LawKit.callS X68 hx (y := (⟨"java/lang/Math", "max", "(II)I"⟩ : MethodName)) hown (mvT hZ (hw _ (List.mem_of_getElem? (i := 33) rfl))) (mvT hZ (hw _ (List.mem_of_getElem? (i := 25) rfl))) (mvT hZ (hw _ (List.mem_of_getElem? (i := 26) rfl))) (mvT hZ (hw _ (List.mem_of_getElem? (i := 27) rfl))) (by decide) (backOf (W := 0) (rm6 l Z a0 hw [] (f6 v7 v8) v9 T67.heap n0 Z67) hZ (hw _ (List.mem_of_getElem? (i := 27) rfl)) (hw _ (List.mem_of_getElem? (i := 26) rfl)) (by decide) (by decide)) (g := (mkF m 85 #[.val (.int p1), .val (.int p2), .val (.int p3), .val (.int p4), .val (.int p5), .val (.int (3 : Int32)), .val (.int v7), .val (.int v8), .val (.int v9), .val (.int v10), .val (.ref b67_0), .val (.int (f6 v7 v8)), .unset, .unset, .unset, .unset, .unset, .unset, .unset] [(.int v9), (.int (f6 v7 v8))])) rfl (by rw [hml]; rfl) (argsL := [(.int (f6 v7 v8)), (.int v9)]) (rest := []) (lenOf pd_2 rfl) rfl (by show 2 * 0 + _ ≤ _; exact Nat.le_of_eq rfl) (hb hby at_85) (fun _ _ => ⟨rfl, e68, (by decide : 3 + 0 ≤ _), (by decide : 132 + 0 ≤ _)⟩)
          dsimp only [Pt.U, Pt.locs, Pt.cells, Pt.slots] at X69 l69 y69 z69 st69 hQ69
          subst l69 y69 z69
          obtain ⟨rfl, N69q, e69⟩ := hQ69
          have N69 := Fr.app N68 N69q
          refine Go.step st69 ?_
          show Go p e below _ (T69.setTop (mkF m 88 #[.val (.int p1), .val (.int p2), .val (.int p3), .val (.int p4), .val (.int p5), .val (.int (3 : Int32)), .val (.int v7), .val (.int v8), .val (.int v9), .val (.int v10), .val (.ref b67_0), .val (.int (f6 v7 v8)), .unset, .unset, .unset, .unset, .unset, .unset, .unset] [(.int (f6 (f6 v7 v8) v9))]))
          obtain ⟨v70, hv70⟩ : ∃ z : Int32, z = (f6 (f6 v7 v8) v9) := ⟨_, rfl⟩
          rw [← hv70]
          show Go p e below _ (T69.setTop (mkF m 88 #[.val (.int p1), .val (.int p2), .val (.int p3), .val (.int p4), .val (.int p5), .val (.int (3 : Int32)), .val (.int v7), .val (.int v8), .val (.int v9), .val (.int v10), .val (.ref b67_0), .val (.int (f6 v7 v8)), .unset, .unset, .unset, .unset, .unset, .unset, .unset] [(.int v70)]))
          refine Go.step (fun t k => XS.istore X69.here hx rfl (hb hby at_88) rfl (l' := #[.val (.int p1), .val (.int p2), .val (.int p3), .val (.int p4), .val (.int p5), .val (.int (3 : Int32)), .val (.int v7), .val (.int v8), .val (.int v9), .val (.int v10), .val (.ref b67_0), .val (.int v70), .unset, .unset, .unset, .unset, .unset, .unset, .unset]) rfl k) ?_
          show Go p e below _ (T69.setTop (mkF m 90 #[.val (.int p1), .val (.int p2), .val (.int p3), .val (.int p4), .val (.int p5), .val (.int (3 : Int32)), .val (.int v7), .val (.int v8), .val (.int v9), .val (.int v10), .val (.ref b67_0), .val (.int v70), .unset, .unset, .unset, .unset, .unset, .unset, .unset] []))
          refine Go.step (fun t k => XS.iload X69.here hx rfl (hb hby at_90) rfl k) ?_
          show Go p e below _ (T69.setTop (mkF m 92 #[.val (.int p1), .val (.int p2), .val (.int p3), .val (.int p4), .val (.int p5), .val (.int (3 : Int32)), .val (.int v7), .val (.int v8), .val (.int v9), .val (.int v10), .val (.ref b67_0), .val (.int v70), .unset, .unset, .unset, .unset, .unset, .unset, .unset] [(.int v70)]))
          obtain ⟨v72, hv72⟩ : ∃ z : Int32, z = (if v70 < (0 : Int32) then (1 : Int32) else ((v70 / (32 : Int32)) + (1 : Int32))) := ⟨_, rfl⟩
          have J92 : Go p e below (AtF p l e room_1 s m #[(.int p1), (.int p2), (.int p3), (.int p4), (.int p5)] below meth c n0 3 132 T67.heap (mkF m 106 #[.val (.int p1), .val (.int p2), .val (.int p3), .val (.int p4), .val (.int p5), .val (.int (3 : Int32)), .val (.int v7), .val (.int v8), .val (.int v9), .val (.int v10), .val (.ref b67_0), .val (.int v70), .unset, .unset, .unset, .unset, .unset, .unset, .unset] [(.int v72)])) (T69.setTop (mkF m 92 #[.val (.int p1), .val (.int p2), .val (.int p3), .val (.int p4), .val (.int p5), .val (.int (3 : Int32)), .val (.int v7), .val (.int v8), .val (.int v9), .val (.int v10), .val (.ref b67_0), .val (.int v70), .unset, .unset, .unset, .unset, .unset, .unset, .unset] [(.int v70)])) := by
            by_cases hc71 : v70 < (0 : Int32)
            · refine Go.step (fun t k => XS.ifNo X69.here hx rfl (hb hby at_92) rfl ((if0 _ _).trans (tlt hc71).2.1) k) ?_
              show Go p e below _ (T69.setTop (mkF m 95 #[.val (.int p1), .val (.int p2), .val (.int p3), .val (.int p4), .val (.int p5), .val (.int (3 : Int32)), .val (.int v7), .val (.int v8), .val (.int v9), .val (.int v10), .val (.ref b67_0), .val (.int v70), .unset, .unset, .unset, .unset, .unset, .unset, .unset] []))
              refine Go.step (fun t k => XS.iconst X69.here hx rfl (hb hby at_95)  k) ?_
              show Go p e below _ (T69.setTop (mkF m 96 #[.val (.int p1), .val (.int p2), .val (.int p3), .val (.int p4), .val (.int p5), .val (.int (3 : Int32)), .val (.int v7), .val (.int v8), .val (.int v9), .val (.int v10), .val (.ref b67_0), .val (.int v70), .unset, .unset, .unset, .unset, .unset, .unset, .unset] [(.int (1 : Int32))]))
              refine Go.step (fun t k => XS.goto X69.here hx rfl (pc0 := 96) (pc' := 106) rfl (hb hby at_96) (by decide) (by decide) k) ?_
              show Go p e below _ (T69.setTop (mkF m 106 #[.val (.int p1), .val (.int p2), .val (.int p3), .val (.int p4), .val (.int p5), .val (.int (3 : Int32)), .val (.int v7), .val (.int v8), .val (.int v9), .val (.int v10), .val (.ref b67_0), .val (.int v70), .unset, .unset, .unset, .unset, .unset, .unset, .unset] [(.int (1 : Int32))]))
              exact Go.here ⟨_, _, by simp only [hv72, if_pos hc71], X69, N69, e69⟩
            · refine Go.step (fun t k => XS.ifYes X69.here hx rfl (pc0 := 92) (pc' := 99) rfl (hb hby at_92) rfl ((if0 _ _).trans (flt hc71).2.1) (by decide) (by decide) k) ?_
              show Go p e below _ (T69.setTop (mkF m 99 #[.val (.int p1), .val (.int p2), .val (.int p3), .val (.int p4), .val (.int p5), .val (.int (3 : Int32)), .val (.int v7), .val (.int v8), .val (.int v9), .val (.int v10), .val (.ref b67_0), .val (.int v70), .unset, .unset, .unset, .unset, .unset, .unset, .unset] []))
              refine Go.step (fun t k => XS.iload X69.here hx rfl (hb hby at_99) rfl k) ?_
              show Go p e below _ (T69.setTop (mkF m 101 #[.val (.int p1), .val (.int p2), .val (.int p3), .val (.int p4), .val (.int p5), .val (.int (3 : Int32)), .val (.int v7), .val (.int v8), .val (.int v9), .val (.int v10), .val (.ref b67_0), .val (.int v70), .unset, .unset, .unset, .unset, .unset, .unset, .unset] [(.int v70)]))
              refine Go.step (fun t k => XS.bipush X69.here hx rfl (hb hby at_101)  k) ?_
              show Go p e below _ (T69.setTop (mkF m 103 #[.val (.int p1), .val (.int p2), .val (.int p3), .val (.int p4), .val (.int p5), .val (.int (3 : Int32)), .val (.int v7), .val (.int v8), .val (.int v9), .val (.int v10), .val (.ref b67_0), .val (.int v70), .unset, .unset, .unset, .unset, .unset, .unset, .unset] [(.int (32 : Int32)), (.int v70)]))
              refine Go.step (fun t k => XS.idiv X69.here hx rfl (hb hby at_103) rfl (by decide) k) ?_
              show Go p e below _ (T69.setTop (mkF m 104 #[.val (.int p1), .val (.int p2), .val (.int p3), .val (.int p4), .val (.int p5), .val (.int (3 : Int32)), .val (.int v7), .val (.int v8), .val (.int v9), .val (.int v10), .val (.ref b67_0), .val (.int v70), .unset, .unset, .unset, .unset, .unset, .unset, .unset] [(.int (v70 / (32 : Int32)))]))
              refine Go.step (fun t k => XS.iconst X69.here hx rfl (hb hby at_104)  k) ?_
              show Go p e below _ (T69.setTop (mkF m 105 #[.val (.int p1), .val (.int p2), .val (.int p3), .val (.int p4), .val (.int p5), .val (.int (3 : Int32)), .val (.int v7), .val (.int v8), .val (.int v9), .val (.int v10), .val (.ref b67_0), .val (.int v70), .unset, .unset, .unset, .unset, .unset, .unset, .unset] [(.int (1 : Int32)), (.int (v70 / (32 : Int32)))]))
              refine Go.step (fun t k => XS.iadd X69.here hx rfl (hb hby at_105) rfl k) ?_
              show Go p e below _ (T69.setTop (mkF m 106 #[.val (.int p1), .val (.int p2), .val (.int p3), .val (.int p4), .val (.int p5), .val (.int (3 : Int32)), .val (.int v7), .val (.int v8), .val (.int v9), .val (.int v10), .val (.ref b67_0), .val (.int v70), .unset, .unset, .unset, .unset, .unset, .unset, .unset] [(.int ((v70 / (32 : Int32)) + (1 : Int32)))]))
              exact Go.here ⟨_, _, by simp only [hv72, if_neg hc71], X69, N69, e69⟩
          obtain ⟨_, st73, T73, Lj73, rfl, X73, N73, e73⟩ := J92
          refine Go.trans st73 ?_
          show Go p e below _ (T73.setTop (mkF m 106 #[.val (.int p1), .val (.int p2), .val (.int p3), .val (.int p4), .val (.int p5), .val (.int (3 : Int32)), .val (.int v7), .val (.int v8), .val (.int v9), .val (.int v10), .val (.ref b67_0), .val (.int v70), .unset, .unset, .unset, .unset, .unset, .unset, .unset] [(.int v72)]))
          refine Go.step (fun t k => XS.istore X73.here hx rfl (hb hby at_106) rfl (l' := #[.val (.int p1), .val (.int p2), .val (.int p3), .val (.int p4), .val (.int p5), .val (.int (3 : Int32)), .val (.int v7), .val (.int v8), .val (.int v9), .val (.int v10), .val (.ref b67_0), .val (.int v70), .val (.int v72), .unset, .unset, .unset, .unset, .unset, .unset]) rfl k) ?_
          show Go p e below _ (T73.setTop (mkF m 108 #[.val (.int p1), .val (.int p2), .val (.int p3), .val (.int p4), .val (.int p5), .val (.int (3 : Int32)), .val (.int v7), .val (.int v8), .val (.int v9), .val (.int v10), .val (.ref b67_0), .val (.int v70), .val (.int v72), .unset, .unset, .unset, .unset, .unset, .unset] []))
          refine Go.step (fun t k => XS.aload X73.here hx rfl (hb hby at_108) rfl rfl k) ?_
          show Go p e below _ (T73.setTop (mkF m 110 #[.val (.int p1), .val (.int p2), .val (.int p3), .val (.int p4), .val (.int p5), .val (.int (3 : Int32)), .val (.int v7), .val (.int v8), .val (.int v9), .val (.int v10), .val (.ref b67_0), .val (.int v70), .val (.int v72), .unset, .unset, .unset, .unset, .unset, .unset] [(.ref b67_0)]))
          obtain ⟨cq74, kq74, q74a, q74b, q74c⟩ := isOf hZ e73 Q67_1
          obtain ⟨_, _, ⟨T74, L74, k74, n74⟩, -, X74, ⟨Lc74, hQ74, l74, y74, z74⟩, st74⟩ := X73.virtualBack hx (y := (⟨"com/example/menshen/menshen/core/PermissionSet", "words", "()[J"⟩ : MethodName)) (z := (⟨"com/example/menshen/menshen/core/PermissionSet", "words", "()[J"⟩ : MethodName)) hown (mvT hZ (hw _ (List.mem_of_getElem? (i := 19) rfl))) (mvT hZ (hw _ (List.mem_of_getElem? (i := 20) rfl))) (notFace_of_selects (args := #[]) (mvT hZ (hw _ (List.mem_of_getElem? (i := 22) rfl)))) (mvT hZ (hw _ (List.mem_of_getElem? (i := 22) rfl))) (mvT hZ (hw _ (List.mem_of_getElem? (i := 21) rfl))) (by decide) (backOf (W := 0) (rm5 l Z a0 hw [] b67_0 b67_1 (((f6 (f6 (f6 (-1 : Int32) v7) v8) v9) + (32 : Int32)) / (32 : Int32)).toNatClampNeg (orW (orW (orW (fun _ => (0 : Int32)) v7) v8) v9) T67.heap n0 Z67 ((by subst_vars; exact (Hi.sz (Hi.max (Hi.max (Hi.max Hi.m1 (own_bit _)).1 (own_bit _)).1 (own_bit _)).1).2.1) : (((f6 (f6 (f6 (-1 : Int32) v7) v8) v9) + (32 : Int32)) / (32 : Int32)).toNatClampNeg ≤ 128) Q67_2 Q67_0) hZ (hw _ (List.mem_of_getElem? (i := 23) rfl)) (hw _ (List.mem_of_getElem? (i := 7) rfl)) (by decide) (by decide)) q74a q74c (g := (mkF m 110 #[.val (.int p1), .val (.int p2), .val (.int p3), .val (.int p4), .val (.int p5), .val (.int (3 : Int32)), .val (.int v7), .val (.int v8), .val (.int v9), .val (.int v10), .val (.ref b67_0), .val (.int v70), .val (.int v72), .unset, .unset, .unset, .unset, .unset, .unset] [(.ref b67_0)])) rfl (by rw [hml]; rfl) (Steps.refl _) (argsL := []) (rest := []) (lenOf pd_6 rfl) rfl (by show 2 * 0 + _ ≤ _; exact Nat.le_of_eq rfl) (hb hby at_110) (fun _ _ => ⟨rfl, e73, (by decide : 3 + 1 ≤ _), (by decide : 132 + 128 ≤ _)⟩)
          dsimp only [Pt.U, Pt.locs, Pt.cells, Pt.slots] at X74 l74 y74 z74 st74 hQ74
          subst l74 y74 z74
          obtain ⟨b74_0, rfl, N74q, K74, sz74_0, Q74_0⟩ := hQ74
          have N74 := Fr.app N73 N74q
          have g_b74_0 : n0 ≤ b74_0 := Nat.le_trans Z67 sz74_0
          have sz_b74_0 : h0.size ≤ b74_0 := Nat.le_trans KK67.1 sz74_0
          have ne_b67_1_b74_0 : b67_1 ≠ b74_0 := Nat.ne_of_lt (Nat.lt_of_lt_of_le Q67_0.lt sz74_0)
          have ne_b67_0_b74_0 : b67_0 ≠ b74_0 := Nat.ne_of_lt (Nat.lt_of_lt_of_le Q67_1.lt sz74_0)
          have A_b67_1_74 := Q67_0.keep K74 nin0
          have E_b67_0_74 := Q67_1.keep K74
          have F_words_b67_0_74 := Q67_2.keep K74 nin0
          have Z74 := Nat.le_trans Z67 K74.1
          have KK74 : Keep h0 T74.heap [] := KK67.trans K74 all0
          refine Go.trans st74 ?_
          show Go p e below _ (T74.setTop (mkF m 113 #[.val (.int p1), .val (.int p2), .val (.int p3), .val (.int p4), .val (.int p5), .val (.int (3 : Int32)), .val (.int v7), .val (.int v8), .val (.int v9), .val (.int v10), .val (.ref b67_0), .val (.int v70), .val (.int v72), .unset, .unset, .unset, .unset, .unset, .unset] [(.ref b74_0)]))
          refine Go.step (fun t k => XS.astore X74.here hx rfl (hb hby at_113) rfl rfl (l' := #[.val (.int p1), .val (.int p2), .val (.int p3), .val (.int p4), .val (.int p5), .val (.int (3 : Int32)), .val (.int v7), .val (.int v8), .val (.int v9), .val (.int v10), .val (.ref b67_0), .val (.int v70), .val (.int v72), .val (.ref b74_0), .unset, .unset, .unset, .unset, .unset]) rfl k) ?_
          show Go p e below _ (T74.setTop (mkF m 115 #[.val (.int p1), .val (.int p2), .val (.int p3), .val (.int p4), .val (.int p5), .val (.int (3 : Int32)), .val (.int v7), .val (.int v8), .val (.int v9), .val (.int v10), .val (.ref b67_0), .val (.int v70), .val (.int v72), .val (.ref b74_0), .unset, .unset, .unset, .unset, .unset] []))
          refine Go.step (fun t k => XS.aload X74.here hx rfl (hb hby at_115) rfl rfl k) ?_
          show Go p e below _ (T74.setTop (mkF m 117 #[.val (.int p1), .val (.int p2), .val (.int p3), .val (.int p4), .val (.int p5), .val (.int (3 : Int32)), .val (.int v7), .val (.int v8), .val (.int v9), .val (.int v10), .val (.ref b67_0), .val (.int v70), .val (.int v72), .val (.ref b74_0), .unset, .unset, .unset, .unset, .unset] [(.ref b74_0)]))
          refine Go.step (lenA X74 hx hZ rfl Q74_0 (g := (mkF m 117 #[.val (.int p1), .val (.int p2), .val (.int p3), .val (.int p4), .val (.int p5), .val (.int (3 : Int32)), .val (.int v7), .val (.int v8), .val (.int v9), .val (.int v10), .val (.ref b67_0), .val (.int v70), .val (.int v72), .val (.ref b74_0), .unset, .unset, .unset, .unset, .unset] [(.ref b74_0)])) rfl rfl (hb hby at_117)) ?_
          show Go p e below _ (T74.setTop (mkF m 118 #[.val (.int p1), .val (.int p2), .val (.int p3), .val (.int p4), .val (.int p5), .val (.int (3 : Int32)), .val (.int v7), .val (.int v8), .val (.int v9), .val (.int v10), .val (.ref b67_0), .val (.int v70), .val (.int v72), .val (.ref b74_0), .unset, .unset, .unset, .unset, .unset] [(.int (f6 (1 : Int32) (((f6 (f6 (f6 (-1 : Int32) v7) v8) v9) + (32 : Int32)) / (32 : Int32)).toNatClampNeg.toInt32).toNatClampNeg.toInt32)]))
          refine Go.step (fun t k => XS.iload X74.here hx rfl (hb hby at_118) rfl k) ?_
          show Go p e below _ (T74.setTop (mkF m 120 #[.val (.int p1), .val (.int p2), .val (.int p3), .val (.int p4), .val (.int p5), .val (.int (3 : Int32)), .val (.int v7), .val (.int v8), .val (.int v9), .val (.int v10), .val (.ref b67_0), .val (.int v70), .val (.int v72), .val (.ref b74_0), .unset, .unset, .unset, .unset, .unset] [(.int v72), (.int (f6 (1 : Int32) (((f6 (f6 (f6 (-1 : Int32) v7) v8) v9) + (32 : Int32)) / (32 : Int32)).toNatClampNeg.toInt32).toNatClampNeg.toInt32)]))
          by_cases hc75 : (f6 (1 : Int32) (((f6 (f6 (f6 (-1 : Int32) v7) v8) v9) + (32 : Int32)) / (32 : Int32)).toNatClampNeg.toInt32).toNatClampNeg.toInt32 = v72
          · refine Go.step (fun t k => XS.icmpYes X74.here hx rfl (pc0 := 120) (pc' := 125) rfl (hb hby at_120) rfl (teq hc75).1 (by decide) (by decide) k) ?_
            show Go p e below _ (T74.setTop (mkF m 125 #[.val (.int p1), .val (.int p2), .val (.int p3), .val (.int p4), .val (.int p5), .val (.int (3 : Int32)), .val (.int v7), .val (.int v8), .val (.int v9), .val (.int v10), .val (.ref b67_0), .val (.int v70), .val (.int v72), .val (.ref b74_0), .unset, .unset, .unset, .unset, .unset] []))
            refine Go.step (fun t k => XS.iload X74.here hx rfl (hb hby at_125) rfl k) ?_
            show Go p e below _ (T74.setTop (mkF m 127 #[.val (.int p1), .val (.int p2), .val (.int p3), .val (.int p4), .val (.int p5), .val (.int (3 : Int32)), .val (.int v7), .val (.int v8), .val (.int v9), .val (.int v10), .val (.ref b67_0), .val (.int v70), .val (.int v72), .val (.ref b74_0), .unset, .unset, .unset, .unset, .unset] [(.int (3 : Int32))]))
            refine Go.step (fun t k => XS.iconst X74.here hx rfl (hb hby at_127)  k) ?_
            show Go p e below _ (T74.setTop (mkF m 128 #[.val (.int p1), .val (.int p2), .val (.int p3), .val (.int p4), .val (.int p5), .val (.int (3 : Int32)), .val (.int v7), .val (.int v8), .val (.int v9), .val (.int v10), .val (.ref b67_0), .val (.int v70), .val (.int v72), .val (.ref b74_0), .unset, .unset, .unset, .unset, .unset] [(.int (1 : Int32)), (.int (3 : Int32))]))
            refine Go.step (fun t k => XS.icmpNo X74.here hx rfl (hb hby at_128) rfl (flt (by decide : ¬ ((3 : Int32) < (1 : Int32)))).1 k) ?_
            show Go p e below _ (T74.setTop (mkF m 131 #[.val (.int p1), .val (.int p2), .val (.int p3), .val (.int p4), .val (.int p5), .val (.int (3 : Int32)), .val (.int v7), .val (.int v8), .val (.int v9), .val (.int v10), .val (.ref b67_0), .val (.int v70), .val (.int v72), .val (.ref b74_0), .unset, .unset, .unset, .unset, .unset] []))
            refine Go.step (fun t k => XS.iload X74.here hx rfl (hb hby at_131) rfl k) ?_
            show Go p e below _ (T74.setTop (mkF m 133 #[.val (.int p1), .val (.int p2), .val (.int p3), .val (.int p4), .val (.int p5), .val (.int (3 : Int32)), .val (.int v7), .val (.int v8), .val (.int v9), .val (.int v10), .val (.ref b67_0), .val (.int v70), .val (.int v72), .val (.ref b74_0), .unset, .unset, .unset, .unset, .unset] [(.int v10)]))
            refine Go.step (fun t k => XS.iload X74.here hx rfl (hb hby at_133) rfl k) ?_
            show Go p e below _ (T74.setTop (mkF m 135 #[.val (.int p1), .val (.int p2), .val (.int p3), .val (.int p4), .val (.int p5), .val (.int (3 : Int32)), .val (.int v7), .val (.int v8), .val (.int v9), .val (.int v10), .val (.ref b67_0), .val (.int v70), .val (.int v72), .val (.ref b74_0), .unset, .unset, .unset, .unset, .unset] [(.int v7), (.int v10)]))
            obtain ⟨v79, hv79⟩ : ∃ z : Int32, z = (if v10 = v7 then (1 : Int32) else (if v10 = v8 then (1 : Int32) else (if v10 = v9 then (1 : Int32) else (0 : Int32)))) := ⟨_, rfl⟩
            have J135 : Go p e below (AtF p l e room_1 s m #[(.int p1), (.int p2), (.int p3), (.int p4), (.int p5)] below meth c n0 4 260 T74.heap (mkF m 169 #[.val (.int p1), .val (.int p2), .val (.int p3), .val (.int p4), .val (.int p5), .val (.int (3 : Int32)), .val (.int v7), .val (.int v8), .val (.int v9), .val (.int v10), .val (.ref b67_0), .val (.int v70), .val (.int v72), .val (.ref b74_0), .unset, .unset, .unset, .unset, .unset] [(.int v79)])) (T74.setTop (mkF m 135 #[.val (.int p1), .val (.int p2), .val (.int p3), .val (.int p4), .val (.int p5), .val (.int (3 : Int32)), .val (.int v7), .val (.int v8), .val (.int v9), .val (.int v10), .val (.ref b67_0), .val (.int v70), .val (.int v72), .val (.ref b74_0), .unset, .unset, .unset, .unset, .unset] [(.int v7), (.int v10)])) := by
              by_cases hc76 : v10 = v7
              · refine Go.step (fun t k => XS.icmpYes X74.here hx rfl (pc0 := 135) (pc' := 164) rfl (hb hby at_135) rfl (teq hc76).1 (by decide) (by decide) k) ?_
                show Go p e below _ (T74.setTop (mkF m 164 #[.val (.int p1), .val (.int p2), .val (.int p3), .val (.int p4), .val (.int p5), .val (.int (3 : Int32)), .val (.int v7), .val (.int v8), .val (.int v9), .val (.int v10), .val (.ref b67_0), .val (.int v70), .val (.int v72), .val (.ref b74_0), .unset, .unset, .unset, .unset, .unset] []))
                refine Go.step (fun t k => XS.iconst X74.here hx rfl (hb hby at_164)  k) ?_
                show Go p e below _ (T74.setTop (mkF m 165 #[.val (.int p1), .val (.int p2), .val (.int p3), .val (.int p4), .val (.int p5), .val (.int (3 : Int32)), .val (.int v7), .val (.int v8), .val (.int v9), .val (.int v10), .val (.ref b67_0), .val (.int v70), .val (.int v72), .val (.ref b74_0), .unset, .unset, .unset, .unset, .unset] [(.int (1 : Int32))]))
                refine Go.step (fun t k => XS.goto X74.here hx rfl (pc0 := 165) (pc' := 169) rfl (hb hby at_165) (by decide) (by decide) k) ?_
                show Go p e below _ (T74.setTop (mkF m 169 #[.val (.int p1), .val (.int p2), .val (.int p3), .val (.int p4), .val (.int p5), .val (.int (3 : Int32)), .val (.int v7), .val (.int v8), .val (.int v9), .val (.int v10), .val (.ref b67_0), .val (.int v70), .val (.int v72), .val (.ref b74_0), .unset, .unset, .unset, .unset, .unset] [(.int (1 : Int32))]))
                exact Go.here ⟨_, _, by simp only [hv79, if_pos hc76], X74, N74, rfl⟩
              · refine Go.step (fun t k => XS.icmpNo X74.here hx rfl (hb hby at_135) rfl (feq hc76).1 k) ?_
                show Go p e below _ (T74.setTop (mkF m 138 #[.val (.int p1), .val (.int p2), .val (.int p3), .val (.int p4), .val (.int p5), .val (.int (3 : Int32)), .val (.int v7), .val (.int v8), .val (.int v9), .val (.int v10), .val (.ref b67_0), .val (.int v70), .val (.int v72), .val (.ref b74_0), .unset, .unset, .unset, .unset, .unset] []))
                refine Go.step (fun t k => XS.iload X74.here hx rfl (hb hby at_138) rfl k) ?_
                show Go p e below _ (T74.setTop (mkF m 140 #[.val (.int p1), .val (.int p2), .val (.int p3), .val (.int p4), .val (.int p5), .val (.int (3 : Int32)), .val (.int v7), .val (.int v8), .val (.int v9), .val (.int v10), .val (.ref b67_0), .val (.int v70), .val (.int v72), .val (.ref b74_0), .unset, .unset, .unset, .unset, .unset] [(.int (3 : Int32))]))
                refine Go.step (fun t k => XS.iconst X74.here hx rfl (hb hby at_140)  k) ?_
                show Go p e below _ (T74.setTop (mkF m 141 #[.val (.int p1), .val (.int p2), .val (.int p3), .val (.int p4), .val (.int p5), .val (.int (3 : Int32)), .val (.int v7), .val (.int v8), .val (.int v9), .val (.int v10), .val (.ref b67_0), .val (.int v70), .val (.int v72), .val (.ref b74_0), .unset, .unset, .unset, .unset, .unset] [(.int (2 : Int32)), (.int (3 : Int32))]))
                refine Go.step (fun t k => XS.icmpNo X74.here hx rfl (hb hby at_141) rfl (flt (by decide : ¬ ((3 : Int32) < (2 : Int32)))).1 k) ?_
                show Go p e below _ (T74.setTop (mkF m 144 #[.val (.int p1), .val (.int p2), .val (.int p3), .val (.int p4), .val (.int p5), .val (.int (3 : Int32)), .val (.int v7), .val (.int v8), .val (.int v9), .val (.int v10), .val (.ref b67_0), .val (.int v70), .val (.int v72), .val (.ref b74_0), .unset, .unset, .unset, .unset, .unset] []))
                refine Go.step (fun t k => XS.iload X74.here hx rfl (hb hby at_144) rfl k) ?_
                show Go p e below _ (T74.setTop (mkF m 146 #[.val (.int p1), .val (.int p2), .val (.int p3), .val (.int p4), .val (.int p5), .val (.int (3 : Int32)), .val (.int v7), .val (.int v8), .val (.int v9), .val (.int v10), .val (.ref b67_0), .val (.int v70), .val (.int v72), .val (.ref b74_0), .unset, .unset, .unset, .unset, .unset] [(.int v10)]))
                refine Go.step (fun t k => XS.iload X74.here hx rfl (hb hby at_146) rfl k) ?_
                show Go p e below _ (T74.setTop (mkF m 148 #[.val (.int p1), .val (.int p2), .val (.int p3), .val (.int p4), .val (.int p5), .val (.int (3 : Int32)), .val (.int v7), .val (.int v8), .val (.int v9), .val (.int v10), .val (.ref b67_0), .val (.int v70), .val (.int v72), .val (.ref b74_0), .unset, .unset, .unset, .unset, .unset] [(.int v8), (.int v10)]))
                by_cases hc77 : v10 = v8
                · refine Go.step (fun t k => XS.icmpYes X74.here hx rfl (pc0 := 148) (pc' := 164) rfl (hb hby at_148) rfl (teq hc77).1 (by decide) (by decide) k) ?_
                  show Go p e below _ (T74.setTop (mkF m 164 #[.val (.int p1), .val (.int p2), .val (.int p3), .val (.int p4), .val (.int p5), .val (.int (3 : Int32)), .val (.int v7), .val (.int v8), .val (.int v9), .val (.int v10), .val (.ref b67_0), .val (.int v70), .val (.int v72), .val (.ref b74_0), .unset, .unset, .unset, .unset, .unset] []))
                  refine Go.step (fun t k => XS.iconst X74.here hx rfl (hb hby at_164)  k) ?_
                  show Go p e below _ (T74.setTop (mkF m 165 #[.val (.int p1), .val (.int p2), .val (.int p3), .val (.int p4), .val (.int p5), .val (.int (3 : Int32)), .val (.int v7), .val (.int v8), .val (.int v9), .val (.int v10), .val (.ref b67_0), .val (.int v70), .val (.int v72), .val (.ref b74_0), .unset, .unset, .unset, .unset, .unset] [(.int (1 : Int32))]))
                  refine Go.step (fun t k => XS.goto X74.here hx rfl (pc0 := 165) (pc' := 169) rfl (hb hby at_165) (by decide) (by decide) k) ?_
                  show Go p e below _ (T74.setTop (mkF m 169 #[.val (.int p1), .val (.int p2), .val (.int p3), .val (.int p4), .val (.int p5), .val (.int (3 : Int32)), .val (.int v7), .val (.int v8), .val (.int v9), .val (.int v10), .val (.ref b67_0), .val (.int v70), .val (.int v72), .val (.ref b74_0), .unset, .unset, .unset, .unset, .unset] [(.int (1 : Int32))]))
                  exact Go.here ⟨_, _, by simp only [hv79, if_neg hc76, if_pos hc77], X74, N74, rfl⟩
                · refine Go.step (fun t k => XS.icmpNo X74.here hx rfl (hb hby at_148) rfl (feq hc77).1 k) ?_
                  show Go p e below _ (T74.setTop (mkF m 151 #[.val (.int p1), .val (.int p2), .val (.int p3), .val (.int p4), .val (.int p5), .val (.int (3 : Int32)), .val (.int v7), .val (.int v8), .val (.int v9), .val (.int v10), .val (.ref b67_0), .val (.int v70), .val (.int v72), .val (.ref b74_0), .unset, .unset, .unset, .unset, .unset] []))
                  refine Go.step (fun t k => XS.iload X74.here hx rfl (hb hby at_151) rfl k) ?_
                  show Go p e below _ (T74.setTop (mkF m 153 #[.val (.int p1), .val (.int p2), .val (.int p3), .val (.int p4), .val (.int p5), .val (.int (3 : Int32)), .val (.int v7), .val (.int v8), .val (.int v9), .val (.int v10), .val (.ref b67_0), .val (.int v70), .val (.int v72), .val (.ref b74_0), .unset, .unset, .unset, .unset, .unset] [(.int (3 : Int32))]))
                  refine Go.step (fun t k => XS.iconst X74.here hx rfl (hb hby at_153)  k) ?_
                  show Go p e below _ (T74.setTop (mkF m 154 #[.val (.int p1), .val (.int p2), .val (.int p3), .val (.int p4), .val (.int p5), .val (.int (3 : Int32)), .val (.int v7), .val (.int v8), .val (.int v9), .val (.int v10), .val (.ref b67_0), .val (.int v70), .val (.int v72), .val (.ref b74_0), .unset, .unset, .unset, .unset, .unset] [(.int (3 : Int32)), (.int (3 : Int32))]))
                  refine Go.step (fun t k => XS.icmpNo X74.here hx rfl (hb hby at_154) rfl (flt (by decide : ¬ ((3 : Int32) < (3 : Int32)))).1 k) ?_
                  show Go p e below _ (T74.setTop (mkF m 157 #[.val (.int p1), .val (.int p2), .val (.int p3), .val (.int p4), .val (.int p5), .val (.int (3 : Int32)), .val (.int v7), .val (.int v8), .val (.int v9), .val (.int v10), .val (.ref b67_0), .val (.int v70), .val (.int v72), .val (.ref b74_0), .unset, .unset, .unset, .unset, .unset] []))
                  refine Go.step (fun t k => XS.iload X74.here hx rfl (hb hby at_157) rfl k) ?_
                  show Go p e below _ (T74.setTop (mkF m 159 #[.val (.int p1), .val (.int p2), .val (.int p3), .val (.int p4), .val (.int p5), .val (.int (3 : Int32)), .val (.int v7), .val (.int v8), .val (.int v9), .val (.int v10), .val (.ref b67_0), .val (.int v70), .val (.int v72), .val (.ref b74_0), .unset, .unset, .unset, .unset, .unset] [(.int v10)]))
                  refine Go.step (fun t k => XS.iload X74.here hx rfl (hb hby at_159) rfl k) ?_
                  show Go p e below _ (T74.setTop (mkF m 161 #[.val (.int p1), .val (.int p2), .val (.int p3), .val (.int p4), .val (.int p5), .val (.int (3 : Int32)), .val (.int v7), .val (.int v8), .val (.int v9), .val (.int v10), .val (.ref b67_0), .val (.int v70), .val (.int v72), .val (.ref b74_0), .unset, .unset, .unset, .unset, .unset] [(.int v9), (.int v10)]))
                  by_cases hc78 : v10 = v9
                  · refine Go.step (fun t k => XS.icmpNo X74.here hx rfl (hb hby at_161) rfl (teq hc78).2 k) ?_
                    show Go p e below _ (T74.setTop (mkF m 164 #[.val (.int p1), .val (.int p2), .val (.int p3), .val (.int p4), .val (.int p5), .val (.int (3 : Int32)), .val (.int v7), .val (.int v8), .val (.int v9), .val (.int v10), .val (.ref b67_0), .val (.int v70), .val (.int v72), .val (.ref b74_0), .unset, .unset, .unset, .unset, .unset] []))
                    refine Go.step (fun t k => XS.iconst X74.here hx rfl (hb hby at_164)  k) ?_
                    show Go p e below _ (T74.setTop (mkF m 165 #[.val (.int p1), .val (.int p2), .val (.int p3), .val (.int p4), .val (.int p5), .val (.int (3 : Int32)), .val (.int v7), .val (.int v8), .val (.int v9), .val (.int v10), .val (.ref b67_0), .val (.int v70), .val (.int v72), .val (.ref b74_0), .unset, .unset, .unset, .unset, .unset] [(.int (1 : Int32))]))
                    refine Go.step (fun t k => XS.goto X74.here hx rfl (pc0 := 165) (pc' := 169) rfl (hb hby at_165) (by decide) (by decide) k) ?_
                    show Go p e below _ (T74.setTop (mkF m 169 #[.val (.int p1), .val (.int p2), .val (.int p3), .val (.int p4), .val (.int p5), .val (.int (3 : Int32)), .val (.int v7), .val (.int v8), .val (.int v9), .val (.int v10), .val (.ref b67_0), .val (.int v70), .val (.int v72), .val (.ref b74_0), .unset, .unset, .unset, .unset, .unset] [(.int (1 : Int32))]))
                    exact Go.here ⟨_, _, by simp only [hv79, if_neg hc76, if_neg hc77, if_pos hc78], X74, N74, rfl⟩
                  · refine Go.step (fun t k => XS.icmpYes X74.here hx rfl (pc0 := 161) (pc' := 168) rfl (hb hby at_161) rfl (feq hc78).2 (by decide) (by decide) k) ?_
                    show Go p e below _ (T74.setTop (mkF m 168 #[.val (.int p1), .val (.int p2), .val (.int p3), .val (.int p4), .val (.int p5), .val (.int (3 : Int32)), .val (.int v7), .val (.int v8), .val (.int v9), .val (.int v10), .val (.ref b67_0), .val (.int v70), .val (.int v72), .val (.ref b74_0), .unset, .unset, .unset, .unset, .unset] []))
                    refine Go.step (fun t k => XS.iconst X74.here hx rfl (hb hby at_168)  k) ?_
                    show Go p e below _ (T74.setTop (mkF m 169 #[.val (.int p1), .val (.int p2), .val (.int p3), .val (.int p4), .val (.int p5), .val (.int (3 : Int32)), .val (.int v7), .val (.int v8), .val (.int v9), .val (.int v10), .val (.ref b67_0), .val (.int v70), .val (.int v72), .val (.ref b74_0), .unset, .unset, .unset, .unset, .unset] [(.int (0 : Int32))]))
                    exact Go.here ⟨_, _, by simp only [hv79, if_neg hc76, if_neg hc77, if_neg hc78], X74, N74, rfl⟩
            obtain ⟨_, st80, T80, Lj80, rfl, X80, N80, e80⟩ := J135
            refine Go.trans st80 ?_
            show Go p e below _ (T80.setTop (mkF m 169 #[.val (.int p1), .val (.int p2), .val (.int p3), .val (.int p4), .val (.int p5), .val (.int (3 : Int32)), .val (.int v7), .val (.int v8), .val (.int v9), .val (.int v10), .val (.ref b67_0), .val (.int v70), .val (.int v72), .val (.ref b74_0), .unset, .unset, .unset, .unset, .unset] [(.int v79)]))
            refine Go.step (fun t k => XS.istore X80.here hx rfl (hb hby at_169) rfl (l' := #[.val (.int p1), .val (.int p2), .val (.int p3), .val (.int p4), .val (.int p5), .val (.int (3 : Int32)), .val (.int v7), .val (.int v8), .val (.int v9), .val (.int v10), .val (.ref b67_0), .val (.int v70), .val (.int v72), .val (.ref b74_0), .val (.int v79), .unset, .unset, .unset, .unset]) rfl k) ?_
            show Go p e below _ (T80.setTop (mkF m 171 #[.val (.int p1), .val (.int p2), .val (.int p3), .val (.int p4), .val (.int p5), .val (.int (3 : Int32)), .val (.int v7), .val (.int v8), .val (.int v9), .val (.int v10), .val (.ref b67_0), .val (.int v70), .val (.int v72), .val (.ref b74_0), .val (.int v79), .unset, .unset, .unset, .unset] []))
            refine Go.step (fun t k => XS.iload X80.here hx rfl (hb hby at_171) rfl k) ?_
            show Go p e below _ (T80.setTop (mkF m 173 #[.val (.int p1), .val (.int p2), .val (.int p3), .val (.int p4), .val (.int p5), .val (.int (3 : Int32)), .val (.int v7), .val (.int v8), .val (.int v9), .val (.int v10), .val (.ref b67_0), .val (.int v70), .val (.int v72), .val (.ref b74_0), .val (.int v79), .unset, .unset, .unset, .unset] [(.int v10)]))
            refine Go.step (fun t k => XS.bipush X80.here hx rfl (hb hby at_173)  k) ?_
            show Go p e below _ (T80.setTop (mkF m 175 #[.val (.int p1), .val (.int p2), .val (.int p3), .val (.int p4), .val (.int p5), .val (.int (3 : Int32)), .val (.int v7), .val (.int v8), .val (.int v9), .val (.int v10), .val (.ref b67_0), .val (.int v70), .val (.int v72), .val (.ref b74_0), .val (.int v79), .unset, .unset, .unset, .unset] [(.int (32 : Int32)), (.int v10)]))
            refine Go.step (fun t k => XS.idiv X80.here hx rfl (hb hby at_175) rfl (by decide) k) ?_
            show Go p e below _ (T80.setTop (mkF m 176 #[.val (.int p1), .val (.int p2), .val (.int p3), .val (.int p4), .val (.int p5), .val (.int (3 : Int32)), .val (.int v7), .val (.int v8), .val (.int v9), .val (.int v10), .val (.ref b67_0), .val (.int v70), .val (.int v72), .val (.ref b74_0), .val (.int v79), .unset, .unset, .unset, .unset] [(.int (v10 / (32 : Int32)))]))
            obtain ⟨v81, hv81⟩ : ∃ z : Int32, z = (v10 / (32 : Int32)) := ⟨_, rfl⟩
            rw [← hv81]
            show Go p e below _ (T80.setTop (mkF m 176 #[.val (.int p1), .val (.int p2), .val (.int p3), .val (.int p4), .val (.int p5), .val (.int (3 : Int32)), .val (.int v7), .val (.int v8), .val (.int v9), .val (.int v10), .val (.ref b67_0), .val (.int v70), .val (.int v72), .val (.ref b74_0), .val (.int v79), .unset, .unset, .unset, .unset] [(.int v81)]))
            refine Go.step (fun t k => XS.istore X80.here hx rfl (hb hby at_176) rfl (l' := #[.val (.int p1), .val (.int p2), .val (.int p3), .val (.int p4), .val (.int p5), .val (.int (3 : Int32)), .val (.int v7), .val (.int v8), .val (.int v9), .val (.int v10), .val (.ref b67_0), .val (.int v70), .val (.int v72), .val (.ref b74_0), .val (.int v79), .val (.int v81), .unset, .unset, .unset]) rfl k) ?_
            show Go p e below _ (T80.setTop (mkF m 178 #[.val (.int p1), .val (.int p2), .val (.int p3), .val (.int p4), .val (.int p5), .val (.int (3 : Int32)), .val (.int v7), .val (.int v8), .val (.int v9), .val (.int v10), .val (.ref b67_0), .val (.int v70), .val (.int v72), .val (.ref b74_0), .val (.int v79), .val (.int v81), .unset, .unset, .unset] []))
            refine Go.step (fun t k => XS.iload X80.here hx rfl (hb hby at_178) rfl k) ?_
            show Go p e below _ (T80.setTop (mkF m 180 #[.val (.int p1), .val (.int p2), .val (.int p3), .val (.int p4), .val (.int p5), .val (.int (3 : Int32)), .val (.int v7), .val (.int v8), .val (.int v9), .val (.int v10), .val (.ref b67_0), .val (.int v70), .val (.int v72), .val (.ref b74_0), .val (.int v79), .val (.int v81), .unset, .unset, .unset] [(.int v81)]))
            refine Go.step (fun t k => XS.aload X80.here hx rfl (hb hby at_180) rfl rfl k) ?_
            show Go p e below _ (T80.setTop (mkF m 182 #[.val (.int p1), .val (.int p2), .val (.int p3), .val (.int p4), .val (.int p5), .val (.int (3 : Int32)), .val (.int v7), .val (.int v8), .val (.int v9), .val (.int v10), .val (.ref b67_0), .val (.int v70), .val (.int v72), .val (.ref b74_0), .val (.int v79), .val (.int v81), .unset, .unset, .unset] [(.ref b74_0), (.int v81)]))
            refine Go.step (lenA X80 hx hZ e80 Q74_0 (g := (mkF m 182 #[.val (.int p1), .val (.int p2), .val (.int p3), .val (.int p4), .val (.int p5), .val (.int (3 : Int32)), .val (.int v7), .val (.int v8), .val (.int v9), .val (.int v10), .val (.ref b67_0), .val (.int v70), .val (.int v72), .val (.ref b74_0), .val (.int v79), .val (.int v81), .unset, .unset, .unset] [(.ref b74_0), (.int v81)])) rfl rfl (hb hby at_182)) ?_
            show Go p e below _ (T80.setTop (mkF m 183 #[.val (.int p1), .val (.int p2), .val (.int p3), .val (.int p4), .val (.int p5), .val (.int (3 : Int32)), .val (.int v7), .val (.int v8), .val (.int v9), .val (.int v10), .val (.ref b67_0), .val (.int v70), .val (.int v72), .val (.ref b74_0), .val (.int v79), .val (.int v81), .unset, .unset, .unset] [(.int (f6 (1 : Int32) (((f6 (f6 (f6 (-1 : Int32) v7) v8) v9) + (32 : Int32)) / (32 : Int32)).toNatClampNeg.toInt32).toNatClampNeg.toInt32), (.int v81)]))
            by_cases hc82 : v81 < (f6 (1 : Int32) (((f6 (f6 (f6 (-1 : Int32) v7) v8) v9) + (32 : Int32)) / (32 : Int32)).toNatClampNeg.toInt32).toNatClampNeg.toInt32
            · refine Go.step (fun t k => XS.icmpYes X80.here hx rfl (pc0 := 183) (pc' := 197) rfl (hb hby at_183) rfl (tlt hc82).1 (by decide) (by decide) k) ?_
              show Go p e below _ (T80.setTop (mkF m 197 #[.val (.int p1), .val (.int p2), .val (.int p3), .val (.int p4), .val (.int p5), .val (.int (3 : Int32)), .val (.int v7), .val (.int v8), .val (.int v9), .val (.int v10), .val (.ref b67_0), .val (.int v70), .val (.int v72), .val (.ref b74_0), .val (.int v79), .val (.int v81), .unset, .unset, .unset] []))
              refine Go.step (fun t k => XS.aload X80.here hx rfl (hb hby at_197) rfl rfl k) ?_
              show Go p e below _ (T80.setTop (mkF m 199 #[.val (.int p1), .val (.int p2), .val (.int p3), .val (.int p4), .val (.int p5), .val (.int (3 : Int32)), .val (.int v7), .val (.int v8), .val (.int v9), .val (.int v10), .val (.ref b67_0), .val (.int v70), .val (.int v72), .val (.ref b74_0), .val (.int v79), .val (.int v81), .unset, .unset, .unset] [(.ref b74_0)]))
              refine Go.step (fun t k => XS.iload X80.here hx rfl (hb hby at_199) rfl k) ?_
              show Go p e below _ (T80.setTop (mkF m 201 #[.val (.int p1), .val (.int p2), .val (.int p3), .val (.int p4), .val (.int p5), .val (.int (3 : Int32)), .val (.int v7), .val (.int v8), .val (.int v9), .val (.int v10), .val (.ref b67_0), .val (.int v70), .val (.int v72), .val (.ref b74_0), .val (.int v79), .val (.int v81), .unset, .unset, .unset] [(.int v81), (.ref b74_0)]))
              refine Go.step (ldJ X80 hx hZ e80 Q74_0 (j := v81) (by subst_vars; exact (own_ix _ _ Q74_0.len (by assumption)).1) (by subst_vars; exact (own_ix _ _ Q74_0.len (by assumption)).2) (g := (mkF m 201 #[.val (.int p1), .val (.int p2), .val (.int p3), .val (.int p4), .val (.int p5), .val (.int (3 : Int32)), .val (.int v7), .val (.int v8), .val (.int v9), .val (.int v10), .val (.ref b67_0), .val (.int v70), .val (.int v72), .val (.ref b74_0), .val (.int v79), .val (.int v81), .unset, .unset, .unset] [(.int v81), (.ref b74_0)])) rfl rfl (hb hby at_201)) ?_
              show Go p e below _ (T80.setTop (mkF m 202 #[.val (.int p1), .val (.int p2), .val (.int p3), .val (.int p4), .val (.int p5), .val (.int (3 : Int32)), .val (.int v7), .val (.int v8), .val (.int v9), .val (.int v10), .val (.ref b67_0), .val (.int v70), .val (.int v72), .val (.ref b74_0), .val (.int v79), .val (.int v81), .unset, .unset, .unset] [(.long ((cpW (orW (orW (orW (fun _ => (0 : Int32)) v7) v8) v9) (((f6 (f6 (f6 (-1 : Int32) v7) v8) v9) + (32 : Int32)) / (32 : Int32)).toNatClampNeg) v81.toNatClampNeg))]))
              obtain ⟨v83, hv83⟩ : ∃ z : Int64, z = ((cpW (orW (orW (orW (fun _ => (0 : Int32)) v7) v8) v9) (((f6 (f6 (f6 (-1 : Int32) v7) v8) v9) + (32 : Int32)) / (32 : Int32)).toNatClampNeg) v81.toNatClampNeg) := ⟨_, rfl⟩
              rw [← hv83]
              show Go p e below _ (T80.setTop (mkF m 202 #[.val (.int p1), .val (.int p2), .val (.int p3), .val (.int p4), .val (.int p5), .val (.int (3 : Int32)), .val (.int v7), .val (.int v8), .val (.int v9), .val (.int v10), .val (.ref b67_0), .val (.int v70), .val (.int v72), .val (.ref b74_0), .val (.int v79), .val (.int v81), .unset, .unset, .unset] [(.long v83)]))
              refine Go.step (fun t k => XS.lstore X80.here hx rfl (hb hby at_202) rfl (l' := #[.val (.int p1), .val (.int p2), .val (.int p3), .val (.int p4), .val (.int p5), .val (.int (3 : Int32)), .val (.int v7), .val (.int v8), .val (.int v9), .val (.int v10), .val (.ref b67_0), .val (.int v70), .val (.int v72), .val (.ref b74_0), .val (.int v79), .val (.int v81), .val (.long v83), .second, .unset]) rfl k) ?_
              show Go p e below _ (T80.setTop (mkF m 204 #[.val (.int p1), .val (.int p2), .val (.int p3), .val (.int p4), .val (.int p5), .val (.int (3 : Int32)), .val (.int v7), .val (.int v8), .val (.int v9), .val (.int v10), .val (.ref b67_0), .val (.int v70), .val (.int v72), .val (.ref b74_0), .val (.int v79), .val (.int v81), .val (.long v83), .second, .unset] []))
              refine Go.step (fun t k => XS.lload X80.here hx rfl (hb hby at_204) rfl k) ?_
              show Go p e below _ (T80.setTop (mkF m 206 #[.val (.int p1), .val (.int p2), .val (.int p3), .val (.int p4), .val (.int p5), .val (.int (3 : Int32)), .val (.int v7), .val (.int v8), .val (.int v9), .val (.int v10), .val (.ref b67_0), .val (.int v70), .val (.int v72), .val (.ref b74_0), .val (.int v79), .val (.int v81), .val (.long v83), .second, .unset] [(.long v83)]))
              refine Go.step (fun t k => XS.lconst X80.here hx rfl (hb hby at_206)  k) ?_
              show Go p e below _ (T80.setTop (mkF m 207 #[.val (.int p1), .val (.int p2), .val (.int p3), .val (.int p4), .val (.int p5), .val (.int (3 : Int32)), .val (.int v7), .val (.int v8), .val (.int v9), .val (.int v10), .val (.ref b67_0), .val (.int v70), .val (.int v72), .val (.ref b74_0), .val (.int v79), .val (.int v81), .val (.long v83), .second, .unset] [(.long (0 : Int64)), (.long v83)]))
              refine Go.step (fun t k => XS.lcmp X80.here hx rfl (hb hby at_207) rfl k) ?_
              show Go p e below _ (T80.setTop (mkF m 208 #[.val (.int p1), .val (.int p2), .val (.int p3), .val (.int p4), .val (.int p5), .val (.int (3 : Int32)), .val (.int v7), .val (.int v8), .val (.int v9), .val (.int v10), .val (.ref b67_0), .val (.int v70), .val (.int v72), .val (.ref b74_0), .val (.int v79), .val (.int v81), .val (.long v83), .second, .unset] [(.int (lcmpW v83 (0 : Int64)))]))
              by_cases hc84 : v83 < (0 : Int64)
              · refine Go.step (fun t k => XS.ifYes X80.here hx rfl (pc0 := 208) (pc' := 220) rfl (hb hby at_208) rfl ((if0 _ _).trans (tlt ((lw_lt _ _).mpr hc84)).1) (by decide) (by decide) k) ?_
                show Go p e below _ (T80.setTop (mkF m 220 #[.val (.int p1), .val (.int p2), .val (.int p3), .val (.int p4), .val (.int p5), .val (.int (3 : Int32)), .val (.int v7), .val (.int v8), .val (.int v9), .val (.int v10), .val (.ref b67_0), .val (.int v70), .val (.int v72), .val (.ref b74_0), .val (.int v79), .val (.int v81), .val (.long v83), .second, .unset] []))
                refine Go.step (fun t k => XS.iconst X80.here hx rfl (hb hby at_220)  k) ?_
                show Go p e below _ (T80.setTop (mkF m 221 #[.val (.int p1), .val (.int p2), .val (.int p3), .val (.int p4), .val (.int p5), .val (.int (3 : Int32)), .val (.int v7), .val (.int v8), .val (.int v9), .val (.int v10), .val (.ref b67_0), .val (.int v70), .val (.int v72), .val (.ref b74_0), .val (.int v79), .val (.int v81), .val (.long v83), .second, .unset] [(.int (0 : Int32))]))
                subst hv83
                subst hv81
                subst hv79
                subst hv72
                subst hv70
                subst hv10
                subst hv9
                subst hv8
                subst hv7
                subst hv6
                exact retGN X80 hx Bd.notSynchronized Bd.returns (t := .boolean) (by simp) (z' := (0 : Int32)) rfl (hb hby at_221) ⟨by first | (simp only [f0, if_neg hc11, if_neg hc24, if_neg hc44, if_pos hc66, if_pos hc75, if_pos hc82, if_pos hc84]; done) | rfl | (simp [f0, if_neg hc11, if_neg hc24, if_neg hc44, if_pos hc66, if_pos hc75, if_pos hc82, if_pos hc84]; done), N80⟩ (by decide) (by decide)
              · refine Go.step (fun t k => XS.ifNo X80.here hx rfl (hb hby at_208) rfl ((if0 _ _).trans (flt (fun q => hc84 ((lw_lt _ _).mp q))).1) k) ?_
                show Go p e below _ (T80.setTop (mkF m 211 #[.val (.int p1), .val (.int p2), .val (.int p3), .val (.int p4), .val (.int p5), .val (.int (3 : Int32)), .val (.int v7), .val (.int v8), .val (.int v9), .val (.int v10), .val (.ref b67_0), .val (.int v70), .val (.int v72), .val (.ref b74_0), .val (.int v79), .val (.int v81), .val (.long v83), .second, .unset] []))
                refine Go.step (fun t k => XS.lload X80.here hx rfl (hb hby at_211) rfl k) ?_
                show Go p e below _ (T80.setTop (mkF m 213 #[.val (.int p1), .val (.int p2), .val (.int p3), .val (.int p4), .val (.int p5), .val (.int (3 : Int32)), .val (.int v7), .val (.int v8), .val (.int v9), .val (.int v10), .val (.ref b67_0), .val (.int v70), .val (.int v72), .val (.ref b74_0), .val (.int v79), .val (.int v81), .val (.long v83), .second, .unset] [(.long v83)]))
                refine Go.step (X80.ldc2Long hx hown (mvT hZ (hw _ (List.mem_of_getElem? (i := 29) rfl))) (g := (mkF m 213 #[.val (.int p1), .val (.int p2), .val (.int p3), .val (.int p4), .val (.int p5), .val (.int (3 : Int32)), .val (.int v7), .val (.int v8), .val (.int v9), .val (.int v10), .val (.ref b67_0), .val (.int v70), .val (.int v72), .val (.ref b74_0), .val (.int v79), .val (.int v81), .val (.long v83), .second, .unset] [(.long v83)])) rfl (hb hby at_213)) ?_
                show Go p e below _ (T80.setTop (mkF m 216 #[.val (.int p1), .val (.int p2), .val (.int p3), .val (.int p4), .val (.int p5), .val (.int (3 : Int32)), .val (.int v7), .val (.int v8), .val (.int v9), .val (.int v10), .val (.ref b67_0), .val (.int v70), .val (.int v72), .val (.ref b74_0), .val (.int v79), .val (.int v81), .val (.long v83), .second, .unset] [(.long (4294967295 : Int64)), (.long v83)]))
                refine Go.step (fun t k => XS.lcmp X80.here hx rfl (hb hby at_216) rfl k) ?_
                show Go p e below _ (T80.setTop (mkF m 217 #[.val (.int p1), .val (.int p2), .val (.int p3), .val (.int p4), .val (.int p5), .val (.int (3 : Int32)), .val (.int v7), .val (.int v8), .val (.int v9), .val (.int v10), .val (.ref b67_0), .val (.int v70), .val (.int v72), .val (.ref b74_0), .val (.int v79), .val (.int v81), .val (.long v83), .second, .unset] [(.int (lcmpW v83 (4294967295 : Int64)))]))
                by_cases hc85 : (4294967295 : Int64) < v83
                · refine Go.step (fun t k => XS.ifNo X80.here hx rfl (hb hby at_217) rfl ((if0 _ _).trans (tlt ((lw_gt _ _).mpr hc85)).2.2.2) k) ?_
                  show Go p e below _ (T80.setTop (mkF m 220 #[.val (.int p1), .val (.int p2), .val (.int p3), .val (.int p4), .val (.int p5), .val (.int (3 : Int32)), .val (.int v7), .val (.int v8), .val (.int v9), .val (.int v10), .val (.ref b67_0), .val (.int v70), .val (.int v72), .val (.ref b74_0), .val (.int v79), .val (.int v81), .val (.long v83), .second, .unset] []))
                  refine Go.step (fun t k => XS.iconst X80.here hx rfl (hb hby at_220)  k) ?_
                  show Go p e below _ (T80.setTop (mkF m 221 #[.val (.int p1), .val (.int p2), .val (.int p3), .val (.int p4), .val (.int p5), .val (.int (3 : Int32)), .val (.int v7), .val (.int v8), .val (.int v9), .val (.int v10), .val (.ref b67_0), .val (.int v70), .val (.int v72), .val (.ref b74_0), .val (.int v79), .val (.int v81), .val (.long v83), .second, .unset] [(.int (0 : Int32))]))
                  subst hv83
                  subst hv81
                  subst hv79
                  subst hv72
                  subst hv70
                  subst hv10
                  subst hv9
                  subst hv8
                  subst hv7
                  subst hv6
                  exact retGN X80 hx Bd.notSynchronized Bd.returns (t := .boolean) (by simp) (z' := (0 : Int32)) rfl (hb hby at_221) ⟨by first | (simp only [f0, if_neg hc11, if_neg hc24, if_neg hc44, if_pos hc66, if_pos hc75, if_pos hc82, if_neg hc84, if_pos hc85]; done) | rfl | (simp [f0, if_neg hc11, if_neg hc24, if_neg hc44, if_pos hc66, if_pos hc75, if_pos hc82, if_neg hc84, if_pos hc85]; done), N80⟩ (by decide) (by decide)
                · refine Go.step (fun t k => XS.ifYes X80.here hx rfl (pc0 := 217) (pc' := 222) rfl (hb hby at_217) rfl ((if0 _ _).trans (flt (fun q => hc85 ((lw_gt _ _).mp q))).2.2.2) (by decide) (by decide) k) ?_
                  show Go p e below _ (T80.setTop (mkF m 222 #[.val (.int p1), .val (.int p2), .val (.int p3), .val (.int p4), .val (.int p5), .val (.int (3 : Int32)), .val (.int v7), .val (.int v8), .val (.int v9), .val (.int v10), .val (.ref b67_0), .val (.int v70), .val (.int v72), .val (.ref b74_0), .val (.int v79), .val (.int v81), .val (.long v83), .second, .unset] []))
                  refine Go.step (fun t k => XS.lload X80.here hx rfl (hb hby at_222) rfl k) ?_
                  show Go p e below _ (T80.setTop (mkF m 224 #[.val (.int p1), .val (.int p2), .val (.int p3), .val (.int p4), .val (.int p5), .val (.int (3 : Int32)), .val (.int v7), .val (.int v8), .val (.int v9), .val (.int v10), .val (.ref b67_0), .val (.int v70), .val (.int v72), .val (.ref b74_0), .val (.int v79), .val (.int v81), .val (.long v83), .second, .unset] [(.long v83)]))
                  refine Go.step (fun t k => XS.iload X80.here hx rfl (hb hby at_224) rfl k) ?_
                  show Go p e below _ (T80.setTop (mkF m 226 #[.val (.int p1), .val (.int p2), .val (.int p3), .val (.int p4), .val (.int p5), .val (.int (3 : Int32)), .val (.int v7), .val (.int v8), .val (.int v9), .val (.int v10), .val (.ref b67_0), .val (.int v70), .val (.int v72), .val (.ref b74_0), .val (.int v79), .val (.int v81), .val (.long v83), .second, .unset] [(.int v10), (.long v83)]))
                  refine Go.step (fun t k => XS.bipush X80.here hx rfl (hb hby at_226)  k) ?_
                  show Go p e below _ (T80.setTop (mkF m 228 #[.val (.int p1), .val (.int p2), .val (.int p3), .val (.int p4), .val (.int p5), .val (.int (3 : Int32)), .val (.int v7), .val (.int v8), .val (.int v9), .val (.int v10), .val (.ref b67_0), .val (.int v70), .val (.int v72), .val (.ref b74_0), .val (.int v79), .val (.int v81), .val (.long v83), .second, .unset] [(.int (32 : Int32)), (.int v10), (.long v83)]))
                  refine Go.step (fun t (k : Steps p.tables e below (T80.setTop (mkF m 229 #[.val (.int p1), .val (.int p2), .val (.int p3), .val (.int p4), .val (.int p5), .val (.int (3 : Int32)), .val (.int v7), .val (.int v8), .val (.int v9), .val (.int v10), .val (.ref b67_0), .val (.int v70), .val (.int v72), .val (.ref b74_0), .val (.int v79), .val (.int v81), .val (.long v83), .second, .unset] [(.int (v10 % (32 : Int32))), (.long v83)])) t) => XS.irem X80.here hx rfl (hb hby at_228) rfl (by decide) (by rw [remI]; exact k)) ?_
                  show Go p e below _ (T80.setTop (mkF m 229 #[.val (.int p1), .val (.int p2), .val (.int p3), .val (.int p4), .val (.int p5), .val (.int (3 : Int32)), .val (.int v7), .val (.int v8), .val (.int v9), .val (.int v10), .val (.ref b67_0), .val (.int v70), .val (.int v72), .val (.ref b74_0), .val (.int v79), .val (.int v81), .val (.long v83), .second, .unset] [(.int (v10 % (32 : Int32))), (.long v83)]))
                  refine Go.step (fun t k => XS.lushr X80.here hx rfl (hb hby at_229) rfl k) ?_
                  show Go p e below _ (T80.setTop (mkF m 230 #[.val (.int p1), .val (.int p2), .val (.int p3), .val (.int p4), .val (.int p5), .val (.int (3 : Int32)), .val (.int v7), .val (.int v8), .val (.int v9), .val (.int v10), .val (.ref b67_0), .val (.int v70), .val (.int v72), .val (.ref b74_0), .val (.int v79), .val (.int v81), .val (.long v83), .second, .unset] [(.long ((v83.toUInt64 >>> ((v10 % (32 : Int32)) &&& 0x3f).toInt64.toUInt64).toInt64))]))
                  refine Go.step (fun t k => XS.lconst X80.here hx rfl (hb hby at_230)  k) ?_
                  show Go p e below _ (T80.setTop (mkF m 231 #[.val (.int p1), .val (.int p2), .val (.int p3), .val (.int p4), .val (.int p5), .val (.int (3 : Int32)), .val (.int v7), .val (.int v8), .val (.int v9), .val (.int v10), .val (.ref b67_0), .val (.int v70), .val (.int v72), .val (.ref b74_0), .val (.int v79), .val (.int v81), .val (.long v83), .second, .unset] [(.long (1 : Int64)), (.long ((v83.toUInt64 >>> ((v10 % (32 : Int32)) &&& 0x3f).toInt64.toUInt64).toInt64))]))
                  refine Go.step (fun t k => XS.land X80.here hx rfl (hb hby at_231) rfl k) ?_
                  show Go p e below _ (T80.setTop (mkF m 232 #[.val (.int p1), .val (.int p2), .val (.int p3), .val (.int p4), .val (.int p5), .val (.int (3 : Int32)), .val (.int v7), .val (.int v8), .val (.int v9), .val (.int v10), .val (.ref b67_0), .val (.int v70), .val (.int v72), .val (.ref b74_0), .val (.int v79), .val (.int v81), .val (.long v83), .second, .unset] [(.long (((v83.toUInt64 >>> ((v10 % (32 : Int32)) &&& 0x3f).toInt64.toUInt64).toInt64) &&& (1 : Int64)))]))
                  refine Go.step (fun t k => XS.lconst X80.here hx rfl (hb hby at_232)  k) ?_
                  show Go p e below _ (T80.setTop (mkF m 233 #[.val (.int p1), .val (.int p2), .val (.int p3), .val (.int p4), .val (.int p5), .val (.int (3 : Int32)), .val (.int v7), .val (.int v8), .val (.int v9), .val (.int v10), .val (.ref b67_0), .val (.int v70), .val (.int v72), .val (.ref b74_0), .val (.int v79), .val (.int v81), .val (.long v83), .second, .unset] [(.long (0 : Int64)), (.long (((v83.toUInt64 >>> ((v10 % (32 : Int32)) &&& 0x3f).toInt64.toUInt64).toInt64) &&& (1 : Int64)))]))
                  refine Go.step (fun t k => XS.lcmp X80.here hx rfl (hb hby at_233) rfl k) ?_
                  show Go p e below _ (T80.setTop (mkF m 234 #[.val (.int p1), .val (.int p2), .val (.int p3), .val (.int p4), .val (.int p5), .val (.int (3 : Int32)), .val (.int v7), .val (.int v8), .val (.int v9), .val (.int v10), .val (.ref b67_0), .val (.int v70), .val (.int v72), .val (.ref b74_0), .val (.int v79), .val (.int v81), .val (.long v83), .second, .unset] [(.int (lcmpW (((v83.toUInt64 >>> ((v10 % (32 : Int32)) &&& 0x3f).toInt64.toUInt64).toInt64) &&& (1 : Int64)) (0 : Int64)))]))
                  obtain ⟨v87, hv87⟩ : ∃ z : Int32, z = (if (((v83.toUInt64 >>> ((v10 % (32 : Int32)) &&& 0x3f).toInt64.toUInt64).toInt64) &&& (1 : Int64)) = (0 : Int64) then (0 : Int32) else (1 : Int32)) := ⟨_, rfl⟩
                  have J234 : Go p e below (AtF p l e room_1 s m #[(.int p1), (.int p2), (.int p3), (.int p4), (.int p5)] below meth c n0 4 260 T74.heap (mkF m 242 #[.val (.int p1), .val (.int p2), .val (.int p3), .val (.int p4), .val (.int p5), .val (.int (3 : Int32)), .val (.int v7), .val (.int v8), .val (.int v9), .val (.int v10), .val (.ref b67_0), .val (.int v70), .val (.int v72), .val (.ref b74_0), .val (.int v79), .val (.int v81), .val (.long v83), .second, .unset] [(.int v87)])) (T80.setTop (mkF m 234 #[.val (.int p1), .val (.int p2), .val (.int p3), .val (.int p4), .val (.int p5), .val (.int (3 : Int32)), .val (.int v7), .val (.int v8), .val (.int v9), .val (.int v10), .val (.ref b67_0), .val (.int v70), .val (.int v72), .val (.ref b74_0), .val (.int v79), .val (.int v81), .val (.long v83), .second, .unset] [(.int (lcmpW (((v83.toUInt64 >>> ((v10 % (32 : Int32)) &&& 0x3f).toInt64.toUInt64).toInt64) &&& (1 : Int64)) (0 : Int64)))])) := by
                    by_cases hc86 : (((v83.toUInt64 >>> ((v10 % (32 : Int32)) &&& 0x3f).toInt64.toUInt64).toInt64) &&& (1 : Int64)) = (0 : Int64)
                    · refine Go.step (fun t k => XS.ifYes X80.here hx rfl (pc0 := 234) (pc' := 241) rfl (hb hby at_234) rfl ((if0 _ _).trans (teq ((lw_eq _ _).mpr hc86)).1) (by decide) (by decide) k) ?_
                      show Go p e below _ (T80.setTop (mkF m 241 #[.val (.int p1), .val (.int p2), .val (.int p3), .val (.int p4), .val (.int p5), .val (.int (3 : Int32)), .val (.int v7), .val (.int v8), .val (.int v9), .val (.int v10), .val (.ref b67_0), .val (.int v70), .val (.int v72), .val (.ref b74_0), .val (.int v79), .val (.int v81), .val (.long v83), .second, .unset] []))
                      refine Go.step (fun t k => XS.iconst X80.here hx rfl (hb hby at_241)  k) ?_
                      show Go p e below _ (T80.setTop (mkF m 242 #[.val (.int p1), .val (.int p2), .val (.int p3), .val (.int p4), .val (.int p5), .val (.int (3 : Int32)), .val (.int v7), .val (.int v8), .val (.int v9), .val (.int v10), .val (.ref b67_0), .val (.int v70), .val (.int v72), .val (.ref b74_0), .val (.int v79), .val (.int v81), .val (.long v83), .second, .unset] [(.int (0 : Int32))]))
                      exact Go.here ⟨_, _, by simp only [hv87, if_pos hc86], X80, N80, e80⟩
                    · refine Go.step (fun t k => XS.ifNo X80.here hx rfl (hb hby at_234) rfl ((if0 _ _).trans (feq (fun q => hc86 ((lw_eq _ _).mp q))).1) k) ?_
                      show Go p e below _ (T80.setTop (mkF m 237 #[.val (.int p1), .val (.int p2), .val (.int p3), .val (.int p4), .val (.int p5), .val (.int (3 : Int32)), .val (.int v7), .val (.int v8), .val (.int v9), .val (.int v10), .val (.ref b67_0), .val (.int v70), .val (.int v72), .val (.ref b74_0), .val (.int v79), .val (.int v81), .val (.long v83), .second, .unset] []))
                      refine Go.step (fun t k => XS.iconst X80.here hx rfl (hb hby at_237)  k) ?_
                      show Go p e below _ (T80.setTop (mkF m 238 #[.val (.int p1), .val (.int p2), .val (.int p3), .val (.int p4), .val (.int p5), .val (.int (3 : Int32)), .val (.int v7), .val (.int v8), .val (.int v9), .val (.int v10), .val (.ref b67_0), .val (.int v70), .val (.int v72), .val (.ref b74_0), .val (.int v79), .val (.int v81), .val (.long v83), .second, .unset] [(.int (1 : Int32))]))
                      refine Go.step (fun t k => XS.goto X80.here hx rfl (pc0 := 238) (pc' := 242) rfl (hb hby at_238) (by decide) (by decide) k) ?_
                      show Go p e below _ (T80.setTop (mkF m 242 #[.val (.int p1), .val (.int p2), .val (.int p3), .val (.int p4), .val (.int p5), .val (.int (3 : Int32)), .val (.int v7), .val (.int v8), .val (.int v9), .val (.int v10), .val (.ref b67_0), .val (.int v70), .val (.int v72), .val (.ref b74_0), .val (.int v79), .val (.int v81), .val (.long v83), .second, .unset] [(.int (1 : Int32))]))
                      exact Go.here ⟨_, _, by simp only [hv87, if_neg hc86], X80, N80, e80⟩
                  obtain ⟨_, st88, T88, Lj88, rfl, X88, N88, e88⟩ := J234
                  refine Go.trans st88 ?_
                  show Go p e below _ (T88.setTop (mkF m 242 #[.val (.int p1), .val (.int p2), .val (.int p3), .val (.int p4), .val (.int p5), .val (.int (3 : Int32)), .val (.int v7), .val (.int v8), .val (.int v9), .val (.int v10), .val (.ref b67_0), .val (.int v70), .val (.int v72), .val (.ref b74_0), .val (.int v79), .val (.int v81), .val (.long v83), .second, .unset] [(.int v87)]))
                  refine Go.step (fun t k => XS.istore X88.here hx rfl (hb hby at_242) rfl (l' := #[.val (.int p1), .val (.int p2), .val (.int p3), .val (.int p4), .val (.int p5), .val (.int (3 : Int32)), .val (.int v7), .val (.int v8), .val (.int v9), .val (.int v10), .val (.ref b67_0), .val (.int v70), .val (.int v72), .val (.ref b74_0), .val (.int v79), .val (.int v81), .val (.long v83), .second, .val (.int v87)]) rfl k) ?_
                  show Go p e below _ (T88.setTop (mkF m 244 #[.val (.int p1), .val (.int p2), .val (.int p3), .val (.int p4), .val (.int p5), .val (.int (3 : Int32)), .val (.int v7), .val (.int v8), .val (.int v9), .val (.int v10), .val (.ref b67_0), .val (.int v70), .val (.int v72), .val (.ref b74_0), .val (.int v79), .val (.int v81), .val (.long v83), .second, .val (.int v87)] []))
                  refine Go.step (fun t k => XS.iload X88.here hx rfl (hb hby at_244) rfl k) ?_
                  show Go p e below _ (T88.setTop (mkF m 246 #[.val (.int p1), .val (.int p2), .val (.int p3), .val (.int p4), .val (.int p5), .val (.int (3 : Int32)), .val (.int v7), .val (.int v8), .val (.int v9), .val (.int v10), .val (.ref b67_0), .val (.int v70), .val (.int v72), .val (.ref b74_0), .val (.int v79), .val (.int v81), .val (.long v83), .second, .val (.int v87)] [(.int v87)]))
                  refine Go.step (fun t k => XS.iload X88.here hx rfl (hb hby at_246) rfl k) ?_
                  show Go p e below _ (T88.setTop (mkF m 248 #[.val (.int p1), .val (.int p2), .val (.int p3), .val (.int p4), .val (.int p5), .val (.int (3 : Int32)), .val (.int v7), .val (.int v8), .val (.int v9), .val (.int v10), .val (.ref b67_0), .val (.int v70), .val (.int v72), .val (.ref b74_0), .val (.int v79), .val (.int v81), .val (.long v83), .second, .val (.int v87)] [(.int v79), (.int v87)]))
                  by_cases hc89 : v87 = v79
                  · refine Go.step (fun t k => XS.icmpNo X88.here hx rfl (hb hby at_248) rfl (teq hc89).2 k) ?_
                    show Go p e below _ (T88.setTop (mkF m 251 #[.val (.int p1), .val (.int p2), .val (.int p3), .val (.int p4), .val (.int p5), .val (.int (3 : Int32)), .val (.int v7), .val (.int v8), .val (.int v9), .val (.int v10), .val (.ref b67_0), .val (.int v70), .val (.int v72), .val (.ref b74_0), .val (.int v79), .val (.int v81), .val (.long v83), .second, .val (.int v87)] []))
                    refine Go.step (fun t k => XS.iconst X88.here hx rfl (hb hby at_251)  k) ?_
                    show Go p e below _ (T88.setTop (mkF m 252 #[.val (.int p1), .val (.int p2), .val (.int p3), .val (.int p4), .val (.int p5), .val (.int (3 : Int32)), .val (.int v7), .val (.int v8), .val (.int v9), .val (.int v10), .val (.ref b67_0), .val (.int v70), .val (.int v72), .val (.ref b74_0), .val (.int v79), .val (.int v81), .val (.long v83), .second, .val (.int v87)] [(.int (1 : Int32))]))
                    refine Go.step (fun t k => XS.goto X88.here hx rfl (pc0 := 252) (pc' := 256) rfl (hb hby at_252) (by decide) (by decide) k) ?_
                    show Go p e below _ (T88.setTop (mkF m 256 #[.val (.int p1), .val (.int p2), .val (.int p3), .val (.int p4), .val (.int p5), .val (.int (3 : Int32)), .val (.int v7), .val (.int v8), .val (.int v9), .val (.int v10), .val (.ref b67_0), .val (.int v70), .val (.int v72), .val (.ref b74_0), .val (.int v79), .val (.int v81), .val (.long v83), .second, .val (.int v87)] [(.int (1 : Int32))]))
                    subst hv87
                    subst hv83
                    subst hv81
                    subst hv79
                    subst hv72
                    subst hv70
                    subst hv10
                    subst hv9
                    subst hv8
                    subst hv7
                    subst hv6
                    exact retGN X88 hx Bd.notSynchronized Bd.returns (t := .boolean) (by simp) (z' := (1 : Int32)) rfl (hb hby at_256) ⟨by first | (simp only [f0, if_neg hc11, if_neg hc24, if_neg hc44, if_pos hc66, if_pos hc75, if_pos hc82, if_neg hc84, if_neg hc85, if_pos hc89]; done) | rfl | (simp [f0, if_neg hc11, if_neg hc24, if_neg hc44, if_pos hc66, if_pos hc75, if_pos hc82, if_neg hc84, if_neg hc85, if_pos hc89]; done), N88⟩ (by decide) (by decide)
                  · refine Go.step (fun t k => XS.icmpYes X88.here hx rfl (pc0 := 248) (pc' := 255) rfl (hb hby at_248) rfl (feq hc89).2 (by decide) (by decide) k) ?_
                    show Go p e below _ (T88.setTop (mkF m 255 #[.val (.int p1), .val (.int p2), .val (.int p3), .val (.int p4), .val (.int p5), .val (.int (3 : Int32)), .val (.int v7), .val (.int v8), .val (.int v9), .val (.int v10), .val (.ref b67_0), .val (.int v70), .val (.int v72), .val (.ref b74_0), .val (.int v79), .val (.int v81), .val (.long v83), .second, .val (.int v87)] []))
                    refine Go.step (fun t k => XS.iconst X88.here hx rfl (hb hby at_255)  k) ?_
                    show Go p e below _ (T88.setTop (mkF m 256 #[.val (.int p1), .val (.int p2), .val (.int p3), .val (.int p4), .val (.int p5), .val (.int (3 : Int32)), .val (.int v7), .val (.int v8), .val (.int v9), .val (.int v10), .val (.ref b67_0), .val (.int v70), .val (.int v72), .val (.ref b74_0), .val (.int v79), .val (.int v81), .val (.long v83), .second, .val (.int v87)] [(.int (0 : Int32))]))
                    subst hv87
                    subst hv83
                    subst hv81
                    subst hv79
                    subst hv72
                    subst hv70
                    subst hv10
                    subst hv9
                    subst hv8
                    subst hv7
                    subst hv6
                    exact retGN X88 hx Bd.notSynchronized Bd.returns (t := .boolean) (by simp) (z' := (0 : Int32)) rfl (hb hby at_256) ⟨by first | (simp only [f0, if_neg hc11, if_neg hc24, if_neg hc44, if_pos hc66, if_pos hc75, if_pos hc82, if_neg hc84, if_neg hc85, if_neg hc89]; done) | rfl | (simp [f0, if_neg hc11, if_neg hc24, if_neg hc44, if_pos hc66, if_pos hc75, if_pos hc82, if_neg hc84, if_neg hc85, if_neg hc89]; done), N88⟩ (by decide) (by decide)
            · refine Go.step (fun t k => XS.icmpNo X80.here hx rfl (hb hby at_183) rfl (flt hc82).1 k) ?_
              show Go p e below _ (T80.setTop (mkF m 186 #[.val (.int p1), .val (.int p2), .val (.int p3), .val (.int p4), .val (.int p5), .val (.int (3 : Int32)), .val (.int v7), .val (.int v8), .val (.int v9), .val (.int v10), .val (.ref b67_0), .val (.int v70), .val (.int v72), .val (.ref b74_0), .val (.int v79), .val (.int v81), .unset, .unset, .unset] []))
              refine Go.step (fun t k => XS.iload X80.here hx rfl (hb hby at_186) rfl k) ?_
              show Go p e below _ (T80.setTop (mkF m 188 #[.val (.int p1), .val (.int p2), .val (.int p3), .val (.int p4), .val (.int p5), .val (.int (3 : Int32)), .val (.int v7), .val (.int v8), .val (.int v9), .val (.int v10), .val (.ref b67_0), .val (.int v70), .val (.int v72), .val (.ref b74_0), .val (.int v79), .val (.int v81), .unset, .unset, .unset] [(.int v79)]))
              by_cases hc90 : v79 = (0 : Int32)
              · refine Go.step (fun t k => XS.ifNo X80.here hx rfl (hb hby at_188) rfl ((if0 _ _).trans (teq hc90).2) k) ?_
                show Go p e below _ (T80.setTop (mkF m 191 #[.val (.int p1), .val (.int p2), .val (.int p3), .val (.int p4), .val (.int p5), .val (.int (3 : Int32)), .val (.int v7), .val (.int v8), .val (.int v9), .val (.int v10), .val (.ref b67_0), .val (.int v70), .val (.int v72), .val (.ref b74_0), .val (.int v79), .val (.int v81), .unset, .unset, .unset] []))
                refine Go.step (fun t k => XS.iconst X80.here hx rfl (hb hby at_191)  k) ?_
                show Go p e below _ (T80.setTop (mkF m 192 #[.val (.int p1), .val (.int p2), .val (.int p3), .val (.int p4), .val (.int p5), .val (.int (3 : Int32)), .val (.int v7), .val (.int v8), .val (.int v9), .val (.int v10), .val (.ref b67_0), .val (.int v70), .val (.int v72), .val (.ref b74_0), .val (.int v79), .val (.int v81), .unset, .unset, .unset] [(.int (1 : Int32))]))
                refine Go.step (fun t k => XS.goto X80.here hx rfl (pc0 := 192) (pc' := 196) rfl (hb hby at_192) (by decide) (by decide) k) ?_
                show Go p e below _ (T80.setTop (mkF m 196 #[.val (.int p1), .val (.int p2), .val (.int p3), .val (.int p4), .val (.int p5), .val (.int (3 : Int32)), .val (.int v7), .val (.int v8), .val (.int v9), .val (.int v10), .val (.ref b67_0), .val (.int v70), .val (.int v72), .val (.ref b74_0), .val (.int v79), .val (.int v81), .unset, .unset, .unset] [(.int (1 : Int32))]))
                subst hv81
                subst hv79
                subst hv72
                subst hv70
                subst hv10
                subst hv9
                subst hv8
                subst hv7
                subst hv6
                exact retGN X80 hx Bd.notSynchronized Bd.returns (t := .boolean) (by simp) (z' := (1 : Int32)) rfl (hb hby at_196) ⟨by first | (simp only [f0, if_neg hc11, if_neg hc24, if_neg hc44, if_pos hc66, if_pos hc75, if_neg hc82, if_pos hc90]; done) | rfl | (simp [f0, if_neg hc11, if_neg hc24, if_neg hc44, if_pos hc66, if_pos hc75, if_neg hc82, if_pos hc90]; done), N80⟩ (by decide) (by decide)
              · refine Go.step (fun t k => XS.ifYes X80.here hx rfl (pc0 := 188) (pc' := 195) rfl (hb hby at_188) rfl ((if0 _ _).trans (feq hc90).2) (by decide) (by decide) k) ?_
                show Go p e below _ (T80.setTop (mkF m 195 #[.val (.int p1), .val (.int p2), .val (.int p3), .val (.int p4), .val (.int p5), .val (.int (3 : Int32)), .val (.int v7), .val (.int v8), .val (.int v9), .val (.int v10), .val (.ref b67_0), .val (.int v70), .val (.int v72), .val (.ref b74_0), .val (.int v79), .val (.int v81), .unset, .unset, .unset] []))
                refine Go.step (fun t k => XS.iconst X80.here hx rfl (hb hby at_195)  k) ?_
                show Go p e below _ (T80.setTop (mkF m 196 #[.val (.int p1), .val (.int p2), .val (.int p3), .val (.int p4), .val (.int p5), .val (.int (3 : Int32)), .val (.int v7), .val (.int v8), .val (.int v9), .val (.int v10), .val (.ref b67_0), .val (.int v70), .val (.int v72), .val (.ref b74_0), .val (.int v79), .val (.int v81), .unset, .unset, .unset] [(.int (0 : Int32))]))
                subst hv81
                subst hv79
                subst hv72
                subst hv70
                subst hv10
                subst hv9
                subst hv8
                subst hv7
                subst hv6
                exact retGN X80 hx Bd.notSynchronized Bd.returns (t := .boolean) (by simp) (z' := (0 : Int32)) rfl (hb hby at_196) ⟨by first | (simp only [f0, if_neg hc11, if_neg hc24, if_neg hc44, if_pos hc66, if_pos hc75, if_neg hc82, if_neg hc90]; done) | rfl | (simp [f0, if_neg hc11, if_neg hc24, if_neg hc44, if_pos hc66, if_pos hc75, if_neg hc82, if_neg hc90]; done), N80⟩ (by decide) (by decide)
          · refine Go.step (fun t k => XS.icmpNo X74.here hx rfl (hb hby at_120) rfl (feq hc75).1 k) ?_
            show Go p e below _ (T74.setTop (mkF m 123 #[.val (.int p1), .val (.int p2), .val (.int p3), .val (.int p4), .val (.int p5), .val (.int (3 : Int32)), .val (.int v7), .val (.int v8), .val (.int v9), .val (.int v10), .val (.ref b67_0), .val (.int v70), .val (.int v72), .val (.ref b74_0), .unset, .unset, .unset, .unset, .unset] []))
            refine Go.step (fun t k => XS.iconst X74.here hx rfl (hb hby at_123)  k) ?_
            show Go p e below _ (T74.setTop (mkF m 124 #[.val (.int p1), .val (.int p2), .val (.int p3), .val (.int p4), .val (.int p5), .val (.int (3 : Int32)), .val (.int v7), .val (.int v8), .val (.int v9), .val (.int v10), .val (.ref b67_0), .val (.int v70), .val (.int v72), .val (.ref b74_0), .unset, .unset, .unset, .unset, .unset] [(.int (0 : Int32))]))
            subst hv72
            subst hv70
            subst hv10
            subst hv9
            subst hv8
            subst hv7
            subst hv6
            exact retGN X74 hx Bd.notSynchronized Bd.returns (t := .boolean) (by simp) (z' := (0 : Int32)) rfl (hb hby at_124) ⟨by first | (simp only [f0, if_neg hc11, if_neg hc24, if_neg hc44, if_pos hc66, if_neg hc75]; done) | rfl | (simp [f0, if_neg hc11, if_neg hc24, if_neg hc44, if_pos hc66, if_neg hc75]; done), N74⟩ (by decide) (by decide)
        · skip
          exfalso
          exact own_dead _ _ hv6 (by assumption) (by assumption) (by assumption) (by assumption)
/-- the bits of a word -/
def nb (x : Int32) : Nat := x.toBitVec.toNat
theorem nb_int (x : Int32) : (nb x : Int) = x.toInt % 4294967296 := by
  have h : x.toInt = x.toBitVec.toInt := rfl
  unfold nb
  rw [h, BitVec.toInt_eq_toNat_cond]
  have := x.toBitVec.isLt
  split <;> omega
theorem nb_or (a b : Int32) : nb (a ||| b) = nb a ||| nb b := by unfold nb; rw [Int32.toBitVec_or, BitVec.toNat_or]
def wi (q : Int32) : Nat := (q / (32 : Int32)).toNatClampNeg
def bi (q : Int32) : Nat := (q % (32 : Int32)).toNatClampNeg
theorem wi_int {q : Int32} (B : Bit q) : (wi q : Int) = q.toInt / 32 := by
  have w := B.word
  have b := B.1
  unfold wi
  rw [clamp_of (by omega), w]
theorem bi_int {q : Int32} (B : Bit q) : (bi q : Int) = q.toInt % 32 ∧ (q % (32 : Int32)).toInt = q.toInt % 32 := by
  have b := B.1
  have e : (q % (32 : Int32)).toInt = q.toInt % 32 := modI 32 (by decide) b
  refine ⟨?_, e⟩
  unfold bi
  rw [clamp_of (by omega), e]
theorem sh_nat {q : Int32} (h0 : 0 ≤ q.toInt) (h1 : q.toInt < 32) : q.toBitVec.toNat = q.toNatClampNeg := by
  have e := nb_int q
  have c := clamp_of h0
  unfold nb at e
  omega
theorem one_shl {q : Int32} (B : Bit q) : nb ((1 : Int32) <<< ((q % (32 : Int32)) &&& 31)) = 2 ^ bi q := by
  have b := bi_int B
  have k : (q % (32 : Int32)).toBitVec.toNat = bi q := sh_nat (by omega) (by omega)
  have hb : bi q < 32 := by omega
  have h := c_ishl 1 (q % (32 : Int32)) (bi q) (by rw [k]; exact Nat.mod_eq_of_lt hb)
  have e1 : (1 : Int32).toInt = 1 := by decide
  have n := nb_int ((1 : Int32) <<< ((q % (32 : Int32)) &&& 31))
  have p : 2 ^ bi q < 4294967296 := by
    have : 2 ^ bi q < 2 ^ 32 := Nat.pow_lt_pow_right (by decide) hb
    omega
  rw [e1] at h
  generalize 2 ^ bi q = P at *
  omega
theorem two_testBit (a b : Nat) : (2 ^ a).testBit b = decide (a = b) := by rw [Nat.testBit_two_pow]
theorem orbit (g : Nat → Int32) {x q : Int32} (X : Bit x) (Q : Bit q) : (nb (orW g x (wi q))).testBit (bi q) = ((nb (g (wi q))).testBit (bi q) || decide (q = x)) := by
  have x1 := wi_int X
  have x2 := (bi_int X).1
  have q1 := wi_int Q
  have q2 := (bi_int Q).1
  show (nb (upA g (wi x) ((g (wi x)) ||| ((1 : Int32) <<< ((x % (32 : Int32)) &&& 31))) (wi q))).testBit (bi q) = _
  by_cases h : wi q = wi x
  · rw [h, upA_same, nb_or, Nat.testBit_or, one_shl X, two_testBit]
    congr 1
    rw [decide_eq_decide]
    constructor
    · intro e; apply Int32.toInt_inj.mp; omega
    · intro e; rw [e]
  · rw [upA_ne _ _ h]
    have : ¬ q = x := fun e => h (by rw [e])
    simp [this]
theorem own_W (g : Nat → Int32) (N i : Nat) : 0 ≤ (cpW g N i).toInt ∧ (cpW g N i).toInt < 4294967296 ∧ (i < N → (cpW g N i).toInt = nb (g i)) := by
  unfold cpW
  by_cases h : i < N
  · rw [if_pos h]
    have k : (f8 (g i)).toInt = (g i).toInt % 4294967296 := by
      have := c_maskL (g i).toInt64 4294967295 32 (by decide) (by decide)
      rw [c_i2l] at this; exact this
    have n := nb_int (g i)
    exact ⟨by omega, by omega, fun _ => by omega⟩
  · rw [if_neg h]
    exact ⟨by decide, by decide, fun q => absurd q h⟩
theorem shr0 (W : Int64) (q : Int32) (h : q.toBitVec.toNat % 64 = 0) : ((W.toUInt64 >>> (q &&& 0x3f).toInt64.toUInt64).toInt64) = W := by
  have s := (sm64 q 0 h).1
  have e : (q &&& 0x3f).toInt64 = 0 := Int64.toBitVec_inj.mp s
  rw [e]
  apply Int64.toBitVec_inj.mp
  show W.toBitVec >>> ((UInt64.mod (0 : Int64).toUInt64 64).toBitVec.toNat) = W.toBitVec
  rw [show (UInt64.mod (0 : Int64).toUInt64 64).toBitVec.toNat = 0 by decide]
  simp
theorem own_bitW (W : Int64) (n : Nat) (hW : W.toInt = n) (hn : n < 4294967296) {q : Int32} (Q : Bit q) : ((((W.toUInt64 >>> (((q % (32 : Int32))) &&& 0x3f).toInt64.toUInt64).toInt64) &&& (1 : Int64)) = (0 : Int64)) ↔ n.testBit (bi q) = false := by
  have b := bi_int Q
  have k : (q % (32 : Int32)).toBitVec.toNat = bi q := sh_nat (by omega) (by omega)
  have hb : bi q < 32 := by omega
  have km : (q % (32 : Int32)).toBitVec.toNat % 64 = bi q := by rw [k]; exact Nat.mod_eq_of_lt (by omega)
  have e : ((W.toUInt64 >>> (((q % (32 : Int32))) &&& 0x3f).toInt64.toUInt64).toInt64).toInt = ((n / 2 ^ bi q : Nat) : Int) := by
    by_cases h0 : bi q = 0
    · rw [shr0 W _ (by rw [km]; exact h0), h0, hW]; simp
    · have := c_lushr W (q % (32 : Int32)) (bi q) km (by omega)
      rw [this, hW, Int.emod_eq_of_lt (by omega) (by omega)]
      rfl
  have m := c_maskL ((W.toUInt64 >>> (((q % (32 : Int32))) &&& 0x3f).toInt64.toUInt64).toInt64) 1 1 (by decide) (by decide)
  rw [e] at m
  rw [← Int64.toInt_inj, m, show (0 : Int64).toInt = 0 by decide, Nat.testBit_eq_decide_div_mod_eq]
  generalize n / 2 ^ bi q = t
  simp only [decide_eq_false_iff_not]
  omega
/-- the rest of the law, behind the making of the set -/
def bodyL (q : Int32) (len EXPL : Int32) (W : Int64) (E : Int32) : Int32 :=
  (if len = EXPL then (if (q / (32 : Int32)) < len then (if W < (0 : Int64) then (0 : Int32) else (if (4294967295 : Int64) < W then (0 : Int32) else (if (if (((W.toUInt64 >>> ((q % (32 : Int32)) &&& 0x3f).toInt64.toUInt64).toInt64) &&& (1 : Int64)) = (0 : Int64) then (0 : Int32) else (1 : Int32)) = E then (1 : Int32) else (0 : Int32)))) else (if E = (0 : Int32) then (1 : Int32) else (0 : Int32))) else (0 : Int32))
theorem own_len1 {H : Int32} (hH : Hi H) : ((f6 (1 : Int32) ((H + (32 : Int32)) / (32 : Int32)).toNatClampNeg.toInt32).toNatClampNeg.toInt32).toInt = (if H.toInt < 0 then 1 else H.toInt / 32 + 1) := by
  have s := hH.sz
  have h1 := hH.1
  generalize ((H + (32 : Int32)) / (32 : Int32)).toNatClampNeg = N at *
  have m := mx1 N s.2.1
  have e := nat32 (k := N) (by omega)
  rw [nat32 (by omega)]
  have c := clamp_of ((nn_iff _).mp m.1)
  rw [c]
  have e1 : (1 : Int32).toInt = 1 := by decide
  unfold f6
  by_cases q : (1 : Int32) < N.toInt32
  · rw [if_pos q]; rw [Int32.lt_iff_toInt_lt] at q; split <;> omega
  · rw [if_neg q]; rw [Int32.lt_iff_toInt_lt] at q; split <;> omega
theorem own_core (q : Int32) (B : Bit q) (H EXPL E : Int32) (hH : Hi H) (g : Nat → Int32) (hE : EXPL.toInt = if H.toInt < 0 then 1 else H.toInt / 32 + 1)
    (hEE : E = if (nb (g (wi q))).testBit (bi q) = true then 1 else 0) (hfar : H.toInt < q.toInt → E = 0) :
    bodyL q (f6 (1 : Int32) ((H + (32 : Int32)) / (32 : Int32)).toNatClampNeg.toInt32).toNatClampNeg.toInt32 EXPL (cpW g ((H + (32 : Int32)) / (32 : Int32)).toNatClampNeg (wi q)) E = 1 := by
  have hl := own_len1 hH
  unfold bodyL
  have hlen : (f6 (1 : Int32) ((H + (32 : Int32)) / (32 : Int32)).toNatClampNeg.toInt32).toNatClampNeg.toInt32 = EXPL := Int32.toInt_inj.mp (hl.trans hE.symm)
  rw [if_pos hlen, hlen]
  have W := own_W g ((H + (32 : Int32)) / (32 : Int32)).toNatClampNeg (wi q)
  have sz := hH.sz.2.2
  have h1 := hH.1
  have qw := wi_int B
  have b1 := B.1
  have word := B.word
  have e0 : (0 : Int64).toInt = 0 := by decide
  have em : (4294967295 : Int64).toInt = 4294967295 := by decide
  generalize ((H + (32 : Int32)) / (32 : Int32)).toNatClampNeg = N at *
  by_cases hq : (q / (32 : Int32)) < EXPL
  · rw [if_pos hq, if_neg (by rw [Int64.lt_iff_toInt_lt]; omega), if_neg (by rw [Int64.lt_iff_toInt_lt]; omega), if_pos]
    by_cases hN : wi q < N
    · have hb := own_bitW (cpW g N (wi q)) (nb (g (wi q))) (W.2.2 hN) (by have := W.2.2 hN; omega) B
      rw [hEE]
      by_cases t : (nb (g (wi q))).testBit (bi q) = true
      · rw [if_pos t, if_neg]
        rw [hb, t]; decide
      · rw [if_neg t, if_pos]
        rw [hb]; simpa using t
    · have hz : cpW g N (wi q) = 0 := by unfold cpW; rw [if_neg hN]
      have hb := own_bitW (cpW g N (wi q)) 0 (by rw [hz]; rfl) (by decide) B
      rw [if_pos (hb.mpr (Nat.zero_testBit _)), hfar (by omega)]
  · rw [if_neg hq, if_pos]
    apply hfar
    rw [Int32.lt_iff_toInt_lt, hE, word] at hq
    split at hq <;> omega
theorem f6m {x : Int32} (X : Bit x) : f6 (-1) x = x := by
  unfold f6; rw [if_pos]; rw [Int32.lt_iff_toInt_lt, show (-1 : Int32).toInt = -1 by decide]; have := X.1; omega
theorem own_exp {H : Int32} (hH : Hi H) (h0 : 0 ≤ H.toInt) : (if H < (0 : Int32) then (1 : Int32) else ((H / (32 : Int32)) + (1 : Int32))).toInt = if H.toInt < 0 then 1 else H.toInt / 32 + 1 := by
  have e0 : (0 : Int32).toInt = 0 := by decide
  have e1 : (1 : Int32).toInt = 1 := by decide
  have d := divI (x := H) (y := 32) 32 (by decide) (by decide) h0
  have h2 := hH.2
  rw [if_neg (by rw [Int32.lt_iff_toInt_lt]; omega), if_neg (by omega), addI] <;> rw [d, e1] <;> omega
theorem zbit (q : Int32) : (nb ((fun _ => (0 : Int32)) (wi q))).testBit (bi q) = false := by
  show (nb 0).testBit _ = false
  rw [show nb 0 = 0 by decide]; exact Nat.zero_testBit _
theorem Bit.hi {x : Int32} (X : Bit x) : Hi x := ⟨by have := X.1; omega, X.2⟩
theorem law_true (n a b c p : Int32) : f0 n a b c p = 1 := by
  have A := own_bit a
  have Bb := own_bit b
  have Cc := own_bit c
  have P := own_bit p
  unfold f0
  rcases own_k n with h | h | h | h
  · rw [if_pos h]
    generalize p &&& (4095 : Int32) = q at *
    have k := own_core q P (-1) 1 0 Hi.m1 (fun _ => 0) (by decide) (by rw [zbit]; rfl) (fun _ => rfl)
    exact k
  · rw [if_neg (by rw [h]; decide), if_pos h]
    generalize a &&& (4095 : Int32) = x at *
    generalize p &&& (4095 : Int32) = q at *
    have o := orbit (fun _ => 0) A P
    rw [zbit, Bool.false_or] at o
    have k := own_core q P (f6 (-1) x) (if x < (0 : Int32) then (1 : Int32) else ((x / (32 : Int32)) + (1 : Int32))) (if q = x then 1 else 0) (Hi.max Hi.m1 A).1 (orW (fun _ => 0) x) (by rw [f6m A]; exact own_exp A.hi A.1) (by rw [o]; by_cases e : q = x <;> simp [e]) (by rw [f6m A]; intro hh; rw [if_neg]; intro e; rw [e] at hh; omega)
    exact k
  · rw [if_neg (by rw [h]; decide), if_neg (by rw [h]; decide), if_pos h]
    generalize a &&& (4095 : Int32) = x at *
    generalize b &&& (4095 : Int32) = y at *
    generalize p &&& (4095 : Int32) = q at *
    have o := orbit (orW (fun _ => 0) x) Bb P
    rw [orbit (fun _ => 0) A P, zbit, Bool.false_or] at o
    have m := Hi.max A.hi Bb
    have k := own_core q P (f6 (f6 (-1) x) y) (if (f6 x y) < (0 : Int32) then (1 : Int32) else (((f6 x y) / (32 : Int32)) + (1 : Int32))) (if q = x then 1 else (if q = y then 1 else 0)) (by rw [f6m A]; exact m.1) (orW (orW (fun _ => 0) x) y) (by rw [f6m A]; exact own_exp m.1 (by have := A.1; omega)) (by rw [o]; by_cases e : q = x <;> by_cases e2 : q = y <;> simp [e, e2]) (by rw [f6m A]; intro hh; rw [if_neg, if_neg] <;> (intro e; rw [e] at hh; omega))
    exact k
  · rw [if_neg (by rw [h]; decide), if_neg (by rw [h]; decide), if_neg (by rw [h]; decide)]
    generalize a &&& (4095 : Int32) = x at *
    generalize b &&& (4095 : Int32) = y at *
    generalize c &&& (4095 : Int32) = z at *
    generalize p &&& (4095 : Int32) = q at *
    have o := orbit (orW (orW (fun _ => 0) x) y) Cc P
    rw [orbit (orW (fun _ => 0) x) Bb P, orbit (fun _ => 0) A P, zbit, Bool.false_or] at o
    have m := Hi.max A.hi Bb
    have m2 := Hi.max m.1 Cc
    have k := own_core q P (f6 (f6 (f6 (-1) x) y) z) (if (f6 (f6 x y) z) < (0 : Int32) then (1 : Int32) else (((f6 (f6 x y) z) / (32 : Int32)) + (1 : Int32))) (if q = x then 1 else (if q = y then 1 else (if q = z then 1 else 0))) (by rw [f6m A]; exact m2.1) (orW (orW (orW (fun _ => 0) x) y) z) (by rw [f6m A]; exact own_exp m2.1 (by have := A.1; omega)) (by rw [o]; by_cases e : q = x <;> by_cases e2 : q = y <;> by_cases e3 : q = z <;> simp [e, e2, e3]) (by rw [f6m A]; intro hh; rw [if_neg, if_neg, if_neg] <;> (intro e; rw [e] at hh; omega))
    exact k

set_option maxRecDepth 65536 in
set_option maxHeartbeats 40000000 in
theorem comes_1 {Post : Tables → Env → Array Value → State → Outcome → State → Prop} (hpost : ∀ tb e args s v u, (limb_1_1.after args s (.returned v) u = true ∧ limb_1_2.after args s (.returned v) u = true ∧ True) → FrameEnd s (.returned v) u (Jvm.fieldLocs frame_1_writes args s ++ Jvm.arrayLocs frame_1_arrays args s ++ Jvm.staticLocs frame_1_statics s) 16 640 → Post tb e args s (.returned v) u) :
    ArmFor flags0 classFile x code maxLocals ret World_1 tables_1 room_1 Calls_1 rest_1 Pre_1 Post := by
  intro l hfl _ _ p e ha hc hk s m args below hf hA hF happ hP
  obtain ⟨hcalls, hrest, hpre⟩ := hP
  obtain ⟨-, -, -, hnamed, -, -, -, hat⟩ := (Spec.applies_iff hf).mp happ
  obtain ⟨hg, hn⟩ := and_e (Cond.before_iff.mp (show (Jvm.Cond.and given_1 narrow_1).before args s = true from hpre))
  obtain ⟨g0, hg⟩ := and_e hg
  obtain ⟨ga0, hg⟩ := and_e hg
  obtain ⟨ga1, hg⟩ := and_e hg
  obtain ⟨ga2, hg⟩ := and_e hg
  obtain ⟨ga3, hg⟩ := and_e hg
  have ga4 := hg
  obtain ⟨w0, w1, w2, w3, w4, rfl⟩ : ∃ w0 w1 w2 w3 w4 : Value, args = #[w0, w1, w2, w3, w4] := by
    have hs : args.size = 5 := by simpa [Cond.value, given_1] using g0
    obtain ⟨L⟩ := args
    match L, hs with
    | [w0, w1, w2, w3, w4], _ => exact ⟨w0, w1, w2, w3, w4, rfl⟩
  have hw := fun d (hd : d ∈ tables_1) => atoms_spec (ws := Jvm.Cond.code x code maxLocals ret :: tables_1) hat d (List.mem_cons_of_mem _ hd)
  have hfit : Fit s := fun {y c} hc i hi => by
    obtain ⟨ha, rfl⟩ := Array.getElem?_eq_some_iff.mp hc
    have q := List.all_eq_true.mp ((Array.all_eq_true_iff_forall_mem.mp hF) _ (Array.getElem_mem ha)) i (List.mem_range.mpr hi)
    simpa [Array.getElem?_eq_getElem hi] using q
  obtain ⟨i0, ei0⟩ := is_v ga0
  obtain rfl : w0 = (.int i0) := Option.some.inj ei0
  obtain ⟨i1, ei1⟩ := is_v ga1
  obtain rfl : w1 = (.int i1) := Option.some.inj ei1
  obtain ⟨i2, ei2⟩ := is_v ga2
  obtain rfl : w2 = (.int i2) := Option.some.inj ei2
  obtain ⟨i3, ei3⟩ := is_v ga3
  obtain rfl : w3 = (.int i3) := Option.some.inj ei3
  obtain ⟨i4, ei4⟩ := is_v ga4
  obtain rfl : w4 = (.int i4) := Option.some.inj ei4
  obtain ⟨n, o, h1, h2, h3, v, L, rfl, hQ, hq⟩ := rm0 l s _ hw tables_1 i0 i1 i2 i3 i4  s.heap s.heap.size (Nat.le_refl _)  p e ha hc hk s m _ below hf ((Spec.applies_iff_loose hf).mp happ).1 ⟨rfl, State.Warmed39.refl s, rfl⟩ trivial
  obtain ⟨hv, N⟩ := hQ
  rw [law_true i0 i1 i2 i3 i4] at hv
  subst hv
  refine ⟨n, _, h1, h2, h3, hpost _ _ _ _ _ _ ⟨Cond.after_iff.mpr rfl, Cond.after_iff.mpr (eq_i res_at (Term.int_eval (1)) rfl), trivial⟩ ⟨hq.1, hq.2.1, (hq.2.2.sift fun y hy => Or.inr (N y hy)).mono (by decide) (by decide)⟩⟩
theorem main_1_1 : Claimed_1_1 := comes_1 fun _ _ _ _ _ _ h hF => ⟨h.1, hF⟩
theorem main_1_2 : Claimed_1_2 := comes_1 fun _ _ _ _ _ _ h hF => ⟨h.2.1, hF⟩
end Jvm.Pilot.@@N@@
namespace Jvm.Pilot.@@N@@
open Jvm Jvm.ClassFile Sem Op Lib Jvm.Free Jvm.Stand Jvm.Pilot.@@N@@.Jvm.D
/-! MADE BY PROGRAM (witnessworld.py) out of the Statement's table words and the real class files: 17 classes; the members and pool entries that the words name. The judged class is class 1, her method 2. -/
namespace start1
open Jvm.ClassFile
def u (s : String) : CpInfo := .utf8 (stringToUtf16 s)
/-- a pool by its gaps: so many unusable entries, then the entry; so many at the end -/
def gap : Nat → List CpInfo → List CpInfo
  | 0, r => r
  | n + 1, r => .unusable :: gap n r
def poolList (es : List (Nat × CpInfo)) (last : Nat) : List CpInfo := es.foldr (fun e r => gap e.1 (e.2 :: r)) (gap last [])
def pool (es : List (Nat × CpInfo)) (last : Nat) : Array CpInfo := ⟨poolList es last⟩
def fileOf (pool : Array CpInfo) (this : Nat) (attrs : Array Attribute := #[]) (ms : Array MethodInfo := #[]) (fl : Nat := 33) (sup : Nat := 0) (ifs : Array Nat := #[]) (fds : Array FieldInfo := #[]) : ClassFile where
  minorVersion := 0
  majorVersion := 65
  constantPool := pool
  accessFlags := fl
  thisClass := this
  superClass := sup
  interfaces := ifs
  fields := fds
  methods := ms
  attributes := attrs
def plain (name : String) (sup : Option ClassId) : Class where
  name := name
  kind := .ordinary
  loader := none
  accessFlags := 33
  super := sup
  interfaces := #[]
  cf := none
  fields := #[]
  methods := #[]
  instanceTypes := #[]
  staticTypes := #[]
  resolved := #[]
  callSites := []
  init := .initialized
  statics := none
  mirror := none

def pool0 : Array CpInfo := pool [(5, u "<init>"), (0, u "()V"), (1, .class_ 10), (1, u "java/lang/Object")] 113

def k0c0 : Code := { maxStack := 0, maxLocals := 1, code := object_method_1_code, exceptionTable := #[], attributes := #[] }
def k0m0 : Method := { name := "<init>", desc := "()V", sig := { parameters := [], returnType := none }, accessFlags := 1, code := some k0c0 }
/-- java/lang/Object -/
def k0 : Class := { plain "java/lang/Object" none with
  accessFlags := 33
  interfaces := #[]
  cf := some (fileOf pool0 8 #[] #[{ accessFlags := 1, nameIndex := 5, descriptorIndex := 6, attributes := #[] }] 33 0 #[] #[])
  fields := #[]
  methods := #[k0m0]
  instanceTypes := #[]
  staticTypes := #[]
  resolved := Array.replicate 124 none
  statics := none }

def pool1 : Array CpInfo := pool [(2, .class_ 4), (1, u "java/lang/Object"), (0, u "<init>"), (0, u "()V"), (0, .methodref 8 9), (0, .class_ 10), (0, .nameAndType 11 12), (0, u "com/example/menshen/menshen/core/PermissionSet"), (0, u "of"), (0, u "([I)Lcom/example/menshen/menshen/core/PermissionSet;"), (0, .methodref 14 15), (0, .class_ 16), (0, .nameAndType 17 18), (0, u "com/example/menshen/menshen/core/PermissionSetOfPinLaw"), (0, u "build"), (0, u "(IIII)Lcom/example/menshen/menshen/core/PermissionSet;"), (0, .methodref 20 21), (0, .class_ 22), (0, .nameAndType 23 24), (0, u "java/lang/Math"), (0, u "max"), (0, u "(II)I"), (0, .methodref 8 26), (0, .nameAndType 27 28), (0, u "words"), (0, u "()[J"), (0, .long 4294967295), (4, u "law"), (0, u "(IIIII)Z")] 4

def k1m0 : Method := { name := "<init>", desc := "()V", sig := { parameters := [], returnType := none }, accessFlags := 1, code := none }
def k1c1 : Code := { maxStack := 4, maxLocals := 4, code := method_2_code, exceptionTable := #[], attributes := #[] }
def k1m1 : Method := { name := "build", desc := "(IIII)Lcom/example/menshen/menshen/core/PermissionSet;", sig := { parameters := [.int, .int, .int, .int], returnType := some (.object "com/example/menshen/menshen/core/PermissionSet") }, accessFlags := 10, code := some k1c1 }
def k1c2 : Code := { maxStack := 4, maxLocals := 19, code := code, exceptionTable := #[], attributes := #[] }
def k1m2 : Method := { name := "law", desc := "(IIIII)Z", sig := { parameters := [.int, .int, .int, .int, .int], returnType := some .boolean }, accessFlags := 9, code := some k1c2 }
/-- com/example/menshen/menshen/core/PermissionSetOfPinLaw -/
def k1 : Class := { plain "com/example/menshen/menshen/core/PermissionSetOfPinLaw" (some 0) with
  accessFlags := 49
  interfaces := #[]
  cf := some (fileOf pool1 14 #[] #[{ accessFlags := 1, nameIndex := 5, descriptorIndex := 6, attributes := #[] }, { accessFlags := 10, nameIndex := 17, descriptorIndex := 18, attributes := #[] }, { accessFlags := 9, nameIndex := 34, descriptorIndex := 35, attributes := #[] }] 49 2 #[] #[])
  fields := #[]
  methods := #[k1m0, k1m1, k1m2]
  instanceTypes := #[]
  staticTypes := #[]
  resolved := Array.replicate 40 none
  statics := none }

def pool2 : Array CpInfo := pool [(1, .class_ 2), (0, u "java/lang/Integer"), (0, .methodref 4 5), (0, .class_ 6), (0, .nameAndType 7 8), (0, u "java/lang/Object"), (0, u "<init>"), (0, u "()V"), (0, .fieldref 10 11), (0, .class_ 12), (0, .nameAndType 13 14), (0, u "com/example/menshen/menshen/core/PermissionSet"), (0, u "words"), (0, u "[I"), (2, u "EMPTY"), (0, u "Lcom/example/menshen/menshen/core/PermissionSet;"), (0, .methodref 10 20), (0, .nameAndType 21 22), (0, u "checkBit"), (0, u "(I)V"), (0, .methodref 24 25), (0, .class_ 26), (0, .nameAndType 27 28), (0, u "java/lang/Math"), (0, u "max"), (0, u "(II)I"), (0, .methodref 10 30), (0, .nameAndType 7 31), (0, u "([I)V"), (32, .methodref 1 65), (0, .nameAndType 66 67), (0, u "toUnsignedLong"), (0, u "(I)J"), (10, u "()[J"), (16, u "CAPACITY"), (0, u "I"), (2, u "WORD_BITS"), (5, u "of"), (0, u "([I)Lcom/example/menshen/menshen/core/PermissionSet;")] 41

def k2c0 : Code := { maxStack := 2, maxLocals := 2, code := prog_20_method_1_code, exceptionTable := #[], attributes := #[] }
def k2m0 : Method := { name := "<init>", desc := "([I)V", sig := { parameters := [(.array .int)], returnType := none }, accessFlags := 2, code := some k2c0 }
def k2c1 : Code := { maxStack := 6, maxLocals := 7, code := prog_20_method_3_code, exceptionTable := #[], attributes := #[] }
def k2m1 : Method := { name := "of", desc := "([I)Lcom/example/menshen/menshen/core/PermissionSet;", sig := { parameters := [(.array .int)], returnType := some (.object "com/example/menshen/menshen/core/PermissionSet") }, accessFlags := 137, code := some k2c1 }
def k2c2 : Code := { maxStack := 4, maxLocals := 3, code := prog_20_method_8_code, exceptionTable := #[], attributes := #[] }
def k2m2 : Method := { name := "words", desc := "()[J", sig := { parameters := [], returnType := some (.array .long) }, accessFlags := 1, code := some k2c2 }
def k2c3 : Code := { maxStack := 3, maxLocals := 1, code := prog_20_method_13_code, exceptionTable := #[], attributes := #[] }
def k2m3 : Method := { name := "checkBit", desc := "(I)V", sig := { parameters := [.int], returnType := none }, accessFlags := 10, code := some k2c3 }
/-- com/example/menshen/menshen/core/PermissionSet -/
def k2 : Class := { plain "com/example/menshen/menshen/core/PermissionSet" (some 0) with
  accessFlags := 49
  interfaces := #[]
  cf := some (fileOf pool2 10 #[] #[{ accessFlags := 2, nameIndex := 7, descriptorIndex := 31, attributes := #[] }, { accessFlags := 137, nameIndex := 105, descriptorIndex := 106, attributes := #[] }, { accessFlags := 1, nameIndex := 13, descriptorIndex := 78, attributes := #[] }, { accessFlags := 10, nameIndex := 21, descriptorIndex := 22, attributes := #[] }] 49 4 #[] #[{ accessFlags := 25, nameIndex := 95, descriptorIndex := 96, attributes := #[] }, { accessFlags := 26, nameIndex := 99, descriptorIndex := 96, attributes := #[] }, { accessFlags := 26, nameIndex := 17, descriptorIndex := 18, attributes := #[] }, { accessFlags := 18, nameIndex := 13, descriptorIndex := 14, attributes := #[] }])
  fields := #[{ name := "CAPACITY", type := .int, accessFlags := 25, slot := 0, constantValue := 0 }, { name := "WORD_BITS", type := .int, accessFlags := 26, slot := 1, constantValue := 0 }, { name := "EMPTY", type := (.object "com/example/menshen/menshen/core/PermissionSet"), accessFlags := 26, slot := 2, constantValue := 0 }, { name := "words", type := (.array .int), accessFlags := 18, slot := 0, constantValue := 0 }]
  methods := #[k2m0, k2m1, k2m2, k2m3]
  instanceTypes := #[(.array .int)]
  staticTypes := #[.int, .int, (.object "com/example/menshen/menshen/core/PermissionSet")]
  resolved := Array.replicate 148 none
  statics := none }

def pool3 : Array CpInfo := pool [(1, .class_ 2), (0, u "java/lang/Math"), (1, .class_ 6), (1, u "java/lang/Object"), (0, u "<init>"), (0, u "()V"), (89, .class_ 100), (1, u "java/lang/Math$RandomNumberGeneratorHolder"), (71, u "negativeZeroFloatBits"), (0, u "J"), (2, u "negativeZeroDoubleBits"), (21, u "max"), (46, u "$assertionsDisabled"), (0, u "Z"), (88, u "(II)I"), (2, u "twoToTheDoubleScaleDown"), (0, u "D"), (4, u "twoToTheDoubleScaleUp"), (9, u "E"), (3, u "PI"), (2, u "TAU"), (2, u "DEGREES_TO_RADIANS"), (0, u "RADIANS_TO_DEGREES")] 94

def k3m0 : Method := { name := "<init>", desc := "()V", sig := { parameters := [], returnType := none }, accessFlags := 2, code := none }
def k3c1 : Code := { maxStack := 2, maxLocals := 2, code := jdk_29_method_65_code, exceptionTable := #[], attributes := #[] }
def k3m1 : Method := { name := "max", desc := "(II)I", sig := { parameters := [.int, .int], returnType := some .int }, accessFlags := 9, code := some k3c1 }
/-- java/lang/Math -/
def k3 : Class := { plain "java/lang/Math" (some 0) with
  accessFlags := 49
  interfaces := #[]
  cf := some (fileOf pool3 1 #[.nestMembers #[98]] #[{ accessFlags := 2, nameIndex := 7, descriptorIndex := 8, attributes := #[] }, { accessFlags := 9, nameIndex := 198, descriptorIndex := 335, attributes := #[] }] 49 4 #[] #[{ accessFlags := 25, nameIndex := 354, descriptorIndex := 339, attributes := #[] }, { accessFlags := 25, nameIndex := 358, descriptorIndex := 339, attributes := #[] }, { accessFlags := 25, nameIndex := 361, descriptorIndex := 339, attributes := #[] }, { accessFlags := 26, nameIndex := 364, descriptorIndex := 339, attributes := #[] }, { accessFlags := 26, nameIndex := 365, descriptorIndex := 339, attributes := #[] }, { accessFlags := 26, nameIndex := 172, descriptorIndex := 173, attributes := #[] }, { accessFlags := 26, nameIndex := 176, descriptorIndex := 173, attributes := #[] }, { accessFlags := 8, nameIndex := 344, descriptorIndex := 339, attributes := #[] }, { accessFlags := 8, nameIndex := 338, descriptorIndex := 339, attributes := #[] }, { accessFlags := 4120, nameIndex := 245, descriptorIndex := 246, attributes := #[] }])
  fields := #[{ name := "E", type := .double, accessFlags := 25, slot := 0, constantValue := 0 }, { name := "PI", type := .double, accessFlags := 25, slot := 1, constantValue := 0 }, { name := "TAU", type := .double, accessFlags := 25, slot := 2, constantValue := 0 }, { name := "DEGREES_TO_RADIANS", type := .double, accessFlags := 26, slot := 3, constantValue := 0 }, { name := "RADIANS_TO_DEGREES", type := .double, accessFlags := 26, slot := 4, constantValue := 0 }, { name := "negativeZeroFloatBits", type := .long, accessFlags := 26, slot := 5, constantValue := 0 }, { name := "negativeZeroDoubleBits", type := .long, accessFlags := 26, slot := 6, constantValue := 0 }, { name := "twoToTheDoubleScaleUp", type := .double, accessFlags := 8, slot := 7, constantValue := 0 }, { name := "twoToTheDoubleScaleDown", type := .double, accessFlags := 8, slot := 8, constantValue := 0 }, { name := "$assertionsDisabled", type := .boolean, accessFlags := 4120, slot := 9, constantValue := 0 }]
  methods := #[k3m0, k3m1]
  instanceTypes := #[]
  staticTypes := #[.double, .double, .double, .double, .double, .long, .long, .double, .double, .boolean]
  resolved := Array.replicate 460 none
  statics := none }

def pool4 : Array CpInfo := pool [(1, .class_ 2), (0, u "java/io/Serializable"), (0, .class_ 4), (0, u "java/lang/Object")] 2

/-- java/io/Serializable -/
def k4 : Class := { plain "java/io/Serializable" (some 0) with
  accessFlags := 1537
  interfaces := #[]
  cf := some (fileOf pool4 1 #[] #[] 1537 3 #[] #[])
  fields := #[]
  methods := #[]
  instanceTypes := #[]
  staticTypes := #[]
  resolved := Array.replicate 7 none
  statics := none }

def pool5 : Array CpInfo := pool [(2, .class_ 4), (1, u "java/lang/Object"), (0, u "<init>"), (0, u "()V"), (1, .class_ 10), (1, u "java/lang/Number"), (2, .class_ 14), (0, u "java/io/Serializable"), (0, u "serialVersionUID"), (0, u "J")] 20

def k5m0 : Method := { name := "<init>", desc := "()V", sig := { parameters := [], returnType := none }, accessFlags := 1, code := none }
/-- java/lang/Number -/
def k5 : Class := { plain "java/lang/Number" (some 0) with
  accessFlags := 1057
  interfaces := #[4]
  cf := some (fileOf pool5 8 #[] #[{ accessFlags := 1, nameIndex := 5, descriptorIndex := 6, attributes := #[] }] 1057 2 #[13] #[{ accessFlags := 26, nameIndex := 15, descriptorIndex := 16, attributes := #[] }])
  fields := #[{ name := "serialVersionUID", type := .long, accessFlags := 26, slot := 0, constantValue := 0 }]
  methods := #[k5m0]
  instanceTypes := #[]
  staticTypes := #[.long]
  resolved := Array.replicate 37 none
  statics := none }

def pool6 : Array CpInfo := pool [(1, .class_ 2), (0, u "java/lang/Comparable"), (0, .class_ 4), (0, u "java/lang/Object")] 7

/-- java/lang/Comparable -/
def k6 : Class := { plain "java/lang/Comparable" (some 0) with
  accessFlags := 1537
  interfaces := #[]
  cf := some (fileOf pool6 1 #[] #[] 1537 3 #[] #[])
  fields := #[]
  methods := #[]
  instanceTypes := #[]
  staticTypes := #[]
  resolved := Array.replicate 12 none
  statics := none }

def pool7 : Array CpInfo := pool [(1, .class_ 2), (0, u "java/lang/constant/Constable"), (0, .class_ 4), (0, u "java/lang/Object")] 6

/-- java/lang/constant/Constable -/
def k7 : Class := { plain "java/lang/constant/Constable" (some 0) with
  accessFlags := 1537
  interfaces := #[]
  cf := some (fileOf pool7 1 #[] #[] 1537 3 #[] #[])
  fields := #[]
  methods := #[]
  instanceTypes := #[]
  staticTypes := #[]
  resolved := Array.replicate 11 none
  statics := none }

def pool8 : Array CpInfo := pool [(1, .class_ 2), (0, u "java/lang/constant/ConstantDesc"), (0, .class_ 4), (0, u "java/lang/Object")] 32

/-- java/lang/constant/ConstantDesc -/
def k8 : Class := { plain "java/lang/constant/ConstantDesc" (some 0) with
  accessFlags := 1537
  interfaces := #[]
  cf := some (fileOf pool8 1 #[] #[] 1537 3 #[] #[])
  fields := #[]
  methods := #[]
  instanceTypes := #[]
  staticTypes := #[]
  resolved := Array.replicate 37 none
  statics := none }

def pool9 : Array CpInfo := pool [(1, .class_ 2), (0, u "java/lang/Integer"), (16, u "digits"), (0, u "[C"), (19, u "toUnsignedLong"), (0, u "(I)J"), (43, u "DigitOnes"), (0, u "[B"), (2, u "DigitTens"), (99, .class_ 190), (0, u "java/lang/Integer$IntegerCache"), (3, u "I"), (8, .class_ 204), (0, u "java/lang/Number"), (2, u "value"), (54, .long 4294967295), (39, u "TYPE"), (0, u "Ljava/lang/Class;"), (0, .class_ 305), (0, u "java/lang/Comparable"), (0, .class_ 307), (0, u "java/lang/constant/Constable"), (0, .class_ 309), (0, u "java/lang/constant/ConstantDesc"), (0, u "MIN_VALUE"), (1, u "MAX_VALUE"), (3, u "SIZE"), (1, u "BYTES"), (1, u "serialVersionUID"), (0, u "J")] 131

def k9c0 : Code := { maxStack := 4, maxLocals := 1, code := jdk_33_method_42_code, exceptionTable := #[], attributes := #[] }
def k9m0 : Method := { name := "toUnsignedLong", desc := "(I)J", sig := { parameters := [.int], returnType := some .long }, accessFlags := 9, code := some k9c0 }
/-- java/lang/Integer -/
def k9 : Class := { plain "java/lang/Integer" (some 5) with
  accessFlags := 49
  interfaces := #[6, 7, 8]
  cf := some (fileOf pool9 1 #[.nestMembers #[189]] #[{ accessFlags := 9, nameIndex := 40, descriptorIndex := 41, attributes := #[] }] 49 203 #[304, 306, 308] #[{ accessFlags := 25, nameIndex := 310, descriptorIndex := 194, attributes := #[] }, { accessFlags := 25, nameIndex := 312, descriptorIndex := 194, attributes := #[] }, { accessFlags := 25, nameIndex := 302, descriptorIndex := 303, attributes := #[] }, { accessFlags := 24, nameIndex := 19, descriptorIndex := 20, attributes := #[] }, { accessFlags := 24, nameIndex := 89, descriptorIndex := 86, attributes := #[] }, { accessFlags := 24, nameIndex := 85, descriptorIndex := 86, attributes := #[] }, { accessFlags := 18, nameIndex := 207, descriptorIndex := 194, attributes := #[] }, { accessFlags := 25, nameIndex := 316, descriptorIndex := 194, attributes := #[] }, { accessFlags := 25, nameIndex := 318, descriptorIndex := 194, attributes := #[] }, { accessFlags := 26, nameIndex := 320, descriptorIndex := 321, attributes := #[] }])
  fields := #[{ name := "MIN_VALUE", type := .int, accessFlags := 25, slot := 0, constantValue := 0 }, { name := "MAX_VALUE", type := .int, accessFlags := 25, slot := 1, constantValue := 0 }, { name := "TYPE", type := (.object "java/lang/Class"), accessFlags := 25, slot := 2, constantValue := 0 }, { name := "digits", type := (.array .char), accessFlags := 24, slot := 3, constantValue := 0 }, { name := "DigitTens", type := (.array .byte), accessFlags := 24, slot := 4, constantValue := 0 }, { name := "DigitOnes", type := (.array .byte), accessFlags := 24, slot := 5, constantValue := 0 }, { name := "value", type := .int, accessFlags := 18, slot := 0, constantValue := 0 }, { name := "SIZE", type := .int, accessFlags := 25, slot := 6, constantValue := 0 }, { name := "BYTES", type := .int, accessFlags := 25, slot := 7, constantValue := 0 }, { name := "serialVersionUID", type := .long, accessFlags := 26, slot := 8, constantValue := 0 }]
  methods := #[k9m0]
  instanceTypes := #[.int]
  staticTypes := #[.int, .int, (.object "java/lang/Class"), (.array .char), (.array .byte), (.array .byte), .int, .int, .long]
  resolved := Array.replicate 453 none
  statics := none }

def pool10 : Array CpInfo := pool [(1, u "java/lang/Cloneable"), (0, .class_ 1), (0, u "java/lang/Object"), (0, .class_ 3)] 3

/-- java/lang/Cloneable -/
def k10 : Class := { plain "java/lang/Cloneable" (some 0) with
  accessFlags := 1537
  interfaces := #[]
  cf := some (fileOf pool10 2 #[] #[] 1537 4 #[] #[])
  fields := #[]
  methods := #[]
  instanceTypes := #[]
  staticTypes := #[]
  resolved := Array.replicate 8 none
  statics := none }

/-- the primitive byte -/
def k11 : Class := { plain "byte" none with kind := .primitive 'B', accessFlags := 0x411 }
/-- [B -/
def k12 : Class := { plain "[B" (some 0) with kind := .array 11 .byte, interfaces := #[10, 4], accessFlags := 1041 }

/-- the primitive int -/
def k13 : Class := { plain "int" none with kind := .primitive 'I', accessFlags := 0x411 }
/-- [I -/
def k14 : Class := { plain "[I" (some 0) with kind := .array 13 .int, interfaces := #[10, 4], accessFlags := 1041 }

/-- the primitive long -/
def k15 : Class := { plain "long" none with kind := .primitive 'J', accessFlags := 0x411 }
/-- [J -/
def k16 : Class := { plain "[J" (some 0) with kind := .array 15 .long, interfaces := #[10, 4], accessFlags := 1041 }

def heap : Heap := #[]
def classes : Array Class := #[k0, k1, k2, k3, k4, k5, k6, k7, k8, k9, k10, k11, k12, k13, k14, k15, k16]
def interned : List (Array UInt16 × Addr) := []
def slotsUsed : Nat := 0
def theMethod : MethodId := ⟨1, 2⟩
def args0 : Array Value := #[.int 2, .int 7, .int 40, .int 9, .int 40]
def aboutOver (below : List Frame) : State where
  vm := { classes := classes, interned := interned.toArray }
  heap := heap
  slotsUsed := slotsUsed
  threads := #[{ frames := .invoking theMethod args0 :: below }]
def below0 : List Frame := [.native { method := ⟨0, 0⟩, args := #[] }]
def about1 : State := aboutOver below0
def p0 : Program := .bare "" "" ""
def e0 : Env := launch0.env 0 0 0
theorem w_frames : about1.frames = Frame.invoking theMethod args0 :: below0 := rfl
set_option maxRecDepth 65536 in
theorem w_args : argsFit about1.vm theMethod args0 = true := by decide +kernel
set_option maxRecDepth 65536 in
theorem w_heap : heapFits about1 = true := by decide +kernel
set_option maxRecDepth 65536 in
theorem w_runnable : about1.curStatus? = some .runnable := by decide +kernel
set_option maxRecDepth 65536 in
theorem w_alone : about1.alone = true := by decide +kernel
set_option maxRecDepth 65536 in
theorem w_named : about1.methodNamed? x = some theMethod := by decide +kernel
set_option maxRecDepth 65536 in
theorem w_hears : about1.hears theMethod below0 = true := by decide +kernel
set_option maxRecDepth 65536 in
theorem w_ripe : about1.ripe theMethod args0 below0 = true := by decide +kernel
theorem w_running : about1.status = .running := rfl
set_option maxRecDepth 65536 in
theorem w_room : about1.hasRoom e0.platform room_1 = true :=
  launch0.hasRoom_least _ room_1 (by decide +kernel) (by decide +kernel) (by decide +kernel) (by decide +kernel) (by decide +kernel) (by decide +kernel)
theorem allAtoms_all (ts : List Jvm.Cond) (a : Array Jvm.Value) (st : Jvm.State) : (allAtoms ts).before a st = ts.all (fun c => c.before a st) := by
  induction ts with
  | nil => rfl
  | cons c t ih =>
    show (Jvm.Cond.and c (allAtoms t)).before a st = _
    rw [Jvm.Cond.before_and, ih, List.all_cons]
def words1 : List Jvm.Cond := Jvm.Cond.code x code maxLocals ret :: tables_1
/-- a 'code' word, met by the world's own term for the bytes: nothing is compared byte by byte -/
theorem code_word {y : MethodName} {bytes : ByteArray} {mx : Nat} {rt : Option FieldType} {a : Array Value} {s : State} {m : MethodId} {meth : Method} {c : Code} (h1 : s.methodNamed? y = some m) (h2 : s.vm.method? m = some meth) (h3 : meth.code = some c) (h4 : c.code = bytes)
    (h5 : (c.maxLocals == mx && c.exceptionTable.isEmpty && decide (c.maxStack ≤ mostOperands) && decide (meth.sig.returnType = rt) && !meth.locks && decide (parseMethodDescriptor y.desc = some meth.sig)) = true) : (Jvm.Cond.code y bytes mx rt).before a s = true := by
  simp only [Bool.and_eq_true, beq_iff_eq, Bool.not_eq_true', decide_eq_true_eq] at h5
  obtain ⟨⟨⟨⟨⟨g1, g2⟩, g3⟩, g4⟩, g5⟩, g6⟩ := h5
  simp [Cond.before, Cond.holds, Cond.value, h1, h2, h3, h4, g1, g2, g3, g4, g5, g6]
def isCode : Jvm.Cond → Bool
  | .code _ _ _ _ => true
  | _ => false
theorem all_split {L : List Jvm.Cond} {P : Jvm.Cond → Bool} (h1 : L.all (fun c => isCode c || P c) = true) (h2 : ∀ c ∈ L.filter isCode, P c = true) : L.all P = true := by
  refine List.all_eq_true.mpr fun c hc => ?_
  have h := List.all_eq_true.mp h1 c hc
  rcases Bool.eq_false_or_eq_true (isCode c) with hi | hi
  · exact h2 c (List.mem_filter.mpr ⟨hc, hi⟩)
  · simpa [hi] using h
set_option maxRecDepth 65536 in
theorem w_c0 : (Jvm.Cond.code x code maxLocals ret).before args0 about1 = true := code_word (m := ⟨1, 2⟩) (meth := k1m2) (c := k1c2) (by decide +kernel) rfl rfl rfl (by decide +kernel)
set_option maxRecDepth 65536 in
theorem w_c1 : (Jvm.Cond.code ({ cls := "com/example/menshen/menshen/core/PermissionSetOfPinLaw", name := "build", desc := "(IIII)Lcom/example/menshen/menshen/core/PermissionSet;" } : Jvm.MethodName) method_2_code (4 : Nat) (Option.some (Jvm.ClassFile.FieldType.object "com/example/menshen/menshen/core/PermissionSet"))).before args0 about1 = true := code_word (m := ⟨1, 1⟩) (meth := k1m1) (c := k1c1) (by decide +kernel) rfl rfl rfl (by decide +kernel)
set_option maxRecDepth 65536 in
theorem w_c2 : (Jvm.Cond.code ({ cls := "com/example/menshen/menshen/core/PermissionSet", name := "of", desc := "([I)Lcom/example/menshen/menshen/core/PermissionSet;" } : Jvm.MethodName) prog_20_method_3_code (7 : Nat) (Option.some (Jvm.ClassFile.FieldType.object "com/example/menshen/menshen/core/PermissionSet"))).before args0 about1 = true := code_word (m := ⟨2, 1⟩) (meth := k2m1) (c := k2c1) (by decide +kernel) rfl rfl rfl (by decide +kernel)
set_option maxRecDepth 65536 in
theorem w_c3 : (Jvm.Cond.code ({ cls := "com/example/menshen/menshen/core/PermissionSet", name := "<init>", desc := "([I)V" } : Jvm.MethodName) prog_20_method_1_code (2 : Nat) (Option.none : Option Jvm.ClassFile.FieldType)).before args0 about1 = true := code_word (m := ⟨2, 0⟩) (meth := k2m0) (c := k2c0) (by decide +kernel) rfl rfl rfl (by decide +kernel)
set_option maxRecDepth 65536 in
theorem w_c4 : (Jvm.Cond.code ({ cls := "java/lang/Object", name := "<init>", desc := "()V" } : Jvm.MethodName) object_method_1_code (1 : Nat) (Option.none : Option Jvm.ClassFile.FieldType)).before args0 about1 = true := code_word (m := ⟨0, 0⟩) (meth := k0m0) (c := k0c0) (by decide +kernel) rfl rfl rfl (by decide +kernel)
set_option maxRecDepth 65536 in
theorem w_c5 : (Jvm.Cond.code ({ cls := "com/example/menshen/menshen/core/PermissionSet", name := "words", desc := "()[J" } : Jvm.MethodName) prog_20_method_8_code (3 : Nat) (Option.some (Jvm.ClassFile.FieldType.array Jvm.ClassFile.FieldType.long))).before args0 about1 = true := code_word (m := ⟨2, 2⟩) (meth := k2m2) (c := k2c2) (by decide +kernel) rfl rfl rfl (by decide +kernel)
set_option maxRecDepth 65536 in
theorem w_c6 : (Jvm.Cond.code ({ cls := "java/lang/Math", name := "max", desc := "(II)I" } : Jvm.MethodName) jdk_29_method_65_code (2 : Nat) (Option.some Jvm.ClassFile.FieldType.int)).before args0 about1 = true := code_word (m := ⟨3, 1⟩) (meth := k3m1) (c := k3c1) (by decide +kernel) rfl rfl rfl (by decide +kernel)
set_option maxRecDepth 65536 in
theorem w_c7 : (Jvm.Cond.code ({ cls := "com/example/menshen/menshen/core/PermissionSet", name := "checkBit", desc := "(I)V" } : Jvm.MethodName) prog_20_method_13_code (1 : Nat) (Option.none : Option Jvm.ClassFile.FieldType)).before args0 about1 = true := code_word (m := ⟨2, 3⟩) (meth := k2m3) (c := k2c3) (by decide +kernel) rfl rfl rfl (by decide +kernel)
set_option maxRecDepth 65536 in
theorem w_c8 : (Jvm.Cond.code ({ cls := "java/lang/Integer", name := "toUnsignedLong", desc := "(I)J" } : Jvm.MethodName) jdk_33_method_42_code (1 : Nat) (Option.some Jvm.ClassFile.FieldType.long)).before args0 about1 = true := code_word (m := ⟨9, 0⟩) (meth := k9m0) (c := k9c0) (by decide +kernel) rfl rfl rfl (by decide +kernel)
def codes1 : List Jvm.Cond := [Jvm.Cond.code x code maxLocals ret, Jvm.Cond.code ({ cls := "com/example/menshen/menshen/core/PermissionSetOfPinLaw", name := "build", desc := "(IIII)Lcom/example/menshen/menshen/core/PermissionSet;" } : Jvm.MethodName) method_2_code (4 : Nat) (Option.some (Jvm.ClassFile.FieldType.object "com/example/menshen/menshen/core/PermissionSet")), Jvm.Cond.code ({ cls := "com/example/menshen/menshen/core/PermissionSet", name := "of", desc := "([I)Lcom/example/menshen/menshen/core/PermissionSet;" } : Jvm.MethodName) prog_20_method_3_code (7 : Nat) (Option.some (Jvm.ClassFile.FieldType.object "com/example/menshen/menshen/core/PermissionSet")), Jvm.Cond.code ({ cls := "com/example/menshen/menshen/core/PermissionSet", name := "<init>", desc := "([I)V" } : Jvm.MethodName) prog_20_method_1_code (2 : Nat) (Option.none : Option Jvm.ClassFile.FieldType), Jvm.Cond.code ({ cls := "java/lang/Object", name := "<init>", desc := "()V" } : Jvm.MethodName) object_method_1_code (1 : Nat) (Option.none : Option Jvm.ClassFile.FieldType), Jvm.Cond.code ({ cls := "com/example/menshen/menshen/core/PermissionSet", name := "words", desc := "()[J" } : Jvm.MethodName) prog_20_method_8_code (3 : Nat) (Option.some (Jvm.ClassFile.FieldType.array Jvm.ClassFile.FieldType.long)), Jvm.Cond.code ({ cls := "java/lang/Math", name := "max", desc := "(II)I" } : Jvm.MethodName) jdk_29_method_65_code (2 : Nat) (Option.some Jvm.ClassFile.FieldType.int), Jvm.Cond.code ({ cls := "com/example/menshen/menshen/core/PermissionSet", name := "checkBit", desc := "(I)V" } : Jvm.MethodName) prog_20_method_13_code (1 : Nat) (Option.none : Option Jvm.ClassFile.FieldType), Jvm.Cond.code ({ cls := "java/lang/Integer", name := "toUnsignedLong", desc := "(I)J" } : Jvm.MethodName) jdk_33_method_42_code (1 : Nat) (Option.some Jvm.ClassFile.FieldType.long)]
set_option maxRecDepth 65536 in
theorem codes_eq : words1.filter isCode = codes1 := rfl
theorem w_codes : ∀ c ∈ words1.filter isCode, c.before args0 about1 = true := by
  rw [codes_eq]
  intro c hc
  simp only [codes1, List.mem_cons, List.not_mem_nil, or_false] at hc
  rcases hc with rfl | rfl | rfl | rfl | rfl | rfl | rfl | rfl | rfl
  · exact w_c0
  · exact w_c1
  · exact w_c2
  · exact w_c3
  · exact w_c4
  · exact w_c5
  · exact w_c6
  · exact w_c7
  · exact w_c8
set_option maxRecDepth 65536 in
theorem w_t1 : (words1.take 24).all (fun c => isCode c || c.before args0 about1) = true := by decide +kernel
set_option maxRecDepth 65536 in
theorem w_t2 : (words1.drop 24).all (fun c => isCode c || c.before args0 about1) = true := by decide +kernel
theorem w_tables : (allAtoms (Jvm.Cond.code x code maxLocals ret :: tables_1)).before args0 about1 = true := by
  rw [allAtoms_all]
  show words1.all (fun c => c.before args0 about1) = true
  refine all_split ?_ w_codes
  rw [← List.take_append_drop 24 words1, List.all_append, w_t1, w_t2]
  rfl
set_option maxRecDepth 65536 in
theorem w_case : (Jvm.Cond.and given_1 narrow_1).before args0 about1 = true := by decide +kernel
theorem w_applies : (headSpec (Jvm.Cond.code x code maxLocals ret :: tables_1) room_1).applies x e0.platform about1 = true :=
  (Spec.applies_iff w_frames).mpr ⟨w_running, w_runnable, w_alone, w_named, w_hears, w_ripe, w_room, w_tables⟩
theorem atStart : AtStart classFile x code maxLocals ret World_1 tables_1 room_1 Calls_1 rest_1 Pre_1 launch0 p0 e0 about1 theMethod args0 below0 :=
  ⟨lists_1, trivial, launch0.admits_env _ _ _, launch0.least_env, fairChoices_fair.cas, fairChoices_fair.clock, w_frames, w_args, w_heap, w_applies, trivial, trivial, w_case⟩
end start1
theorem witness_1 : WitnessClaimed_1 := ⟨start1.p0, start1.e0, start1.about1, start1.theMethod, start1.args0, start1.below0, start1.atStart⟩
end Jvm.Pilot.@@N@@
