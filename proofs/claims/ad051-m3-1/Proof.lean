import JvmDerived
import JvmDerived.Pilot.@@N@@Statement
import JvmDerived.Pilot.@@N@@Code
set_option linter.unusedVariables false
set_option linter.unusedSimpArgs false
namespace Jvm.OwnKit
open Sem ClassFile Op Lib Jvm.Stand Jvm.Free Jvm.LawKit Jvm.RoadKit
/-- from S the run comes to a state of which Φ holds -/
def Go (p : Program) (e : Env) (below : List Frame) (Φ : State → Prop) (S : State) : Prop := ∃ u, Steps p.tables e below S u ∧ Φ u
theorem Go.step {p : Program} {e : Env} {below : List Frame} {Φ : State → Prop} {S S' : State} (h : ∀ t, Steps p.tables e below S' t → Steps p.tables e below S t) (k : Go p e below Φ S') : Go p e below Φ S := by
  obtain ⟨u, q, r⟩ := k
  exact ⟨u, h u q, r⟩
theorem Go.trans {p : Program} {e : Env} {below : List Frame} {Φ : State → Prop} {S S' : State} (h : Steps p.tables e below S S') (k : Go p e below Φ S') : Go p e below Φ S := by
  obtain ⟨u, q, r⟩ := k
  exact ⟨u, Steps.trans h q, r⟩
theorem Go.here {p : Program} {e : Env} {below : List Frame} {Φ : State → Prop} {S : State} (k : Φ S) : Go p e below Φ S := ⟨S, Steps.refl _, k⟩
/-- the end of a body -/
def FinQ (below : List Frame) (s : State) (Q : Option Value → Heap → List Loc → Prop) (k n : Nat) (u : State) : Prop :=
  ∃ o, u.status = .running ∧ Ended u below o ∧ ∃ v L, o = .returned v ∧ Q v u.heap L ∧ FrameEnd s o u L k n
theorem Go.done {p : Program} {e : Env} {below : List Frame} {s : State} {Q : Option Value → Heap → List Loc → Prop} {k n : Nat} {S : State} (h : Go p e below (FinQ below s Q k n) S) :
    ∃ s₂ o, Steps p.tables e below S s₂ ∧ s₂.status = .running ∧ Ended s₂ below o ∧ ∃ v L, o = .returned v ∧ Q v s₂.heap L ∧ FrameEnd s o s₂ L k n := by
  obtain ⟨u, q, o, r1, r2, r3⟩ := h
  exact ⟨u, o, q, r1, r2, r3⟩
section New
variable {p : Program} {l : Launch} {e : Env} {R : Room} {s : State} {m : MethodId} {args : Array Value} {below : List Frame} {meth : Method} {c : Code} {T : State} {locs : List Loc} {cells slots : Nat}
/-- the run stands at the frame F, in a heap h -/
def AtF (p : Program) (l : Launch) (e : Env) (R : Room) (s : State) (m : MethodId) (args : Array Value) (below : List Frame) (meth : Method) (c : Code) (n0 cells slots : Nat) (h : Heap) (F : JFrame) (u : State) : Prop :=
  ∃ T' locs', u = T'.setTop F ∧ Stand p l e R s m args below meth c T' locs' cells slots ∧ Fr n0 locs' ∧ T'.heap = h
theorem retG {pc : Nat} {Ls : Array Slot} {w : Value} {t : FieldType} {i : Instr} {rest : List Value} {Q : Option Value → Heap → List Loc → Prop} {k n : Nat}
    (X : Stand p l e R s m args below meth c T locs cells slots) (hx : p.tables.exec = Jvm.exec) (hlocks : meth.locks = false) (hret : meth.sig.returnType = some t) (hn : narrow t w = w)
    (hi : (i = .ireturn ∧ (t = .int ∨ t = .boolean ∨ t = .byte ∨ t = .char ∨ t = .short) ∧ ∃ z, w = .int z) ∨ (i = .lreturn ∧ t = .long ∧ ∃ z, w = .long z) ∨ (i = .dreturn ∧ t = .double ∧ ∃ z, w = .double z) ∨ (i = .freturn ∧ t = .float ∧ ∃ z, w = .float z) ∨ (i = .areturn ∧ t.isReference = true ∧ w.isRef = true))
    (hd : decode c.code pc = .ok (i, 1)) (hQ : Q (some w) T.heap locs) (hc : cells ≤ k) (hs : slots ≤ n) : Go p e below (FinQ below s Q k n) (T.setTop (mkF m pc Ls (w :: rest))) := by
  obtain ⟨fs, hr, hrun, hended, hW, hsame⟩ := X.leave (v := some w) (fun h => by rw [hret] at h; cases h) hlocks
  exact ⟨_, retOut X hx hret hn hi hd hr, _, hrun, hended, _, _, rfl, hQ, ⟨_, rfl⟩, hW, hsame.mono hc hs⟩
theorem retGI {pc : Nat} {Ls : Array Slot} {z : Int32} {rest : List Value} {Q : Option Value → Heap → List Loc → Prop} {k n : Nat}
    (X : Stand p l e R s m args below meth c T locs cells slots) (hx : p.tables.exec = Jvm.exec) (hlocks : meth.locks = false) (hret : meth.sig.returnType = some .int)
    (hd : decode c.code pc = .ok (.ireturn, 1)) (hQ : Q (some (.int z)) T.heap locs) (hc : cells ≤ k) (hs : slots ≤ n) : Go p e below (FinQ below s Q k n) (T.setTop (mkF m pc Ls (.int z :: rest))) :=
  retG X hx hlocks hret rfl (Or.inl ⟨rfl, Or.inl rfl, _, rfl⟩) hd hQ hc hs
theorem retGJ {pc : Nat} {Ls : Array Slot} {z : Int64} {rest : List Value} {Q : Option Value → Heap → List Loc → Prop} {k n : Nat}
    (X : Stand p l e R s m args below meth c T locs cells slots) (hx : p.tables.exec = Jvm.exec) (hlocks : meth.locks = false) (hret : meth.sig.returnType = some .long)
    (hd : decode c.code pc = .ok (.lreturn, 1)) (hQ : Q (some (.long z)) T.heap locs) (hc : cells ≤ k) (hs : slots ≤ n) : Go p e below (FinQ below s Q k n) (T.setTop (mkF m pc Ls (.long z :: rest))) :=
  retG X hx hlocks hret rfl (Or.inr (Or.inl ⟨rfl, rfl, _, rfl⟩)) hd hQ hc hs
theorem retGR {pc : Nat} {Ls : Array Slot} {a : Addr} {t : FieldType} {rest : List Value} {Q : Option Value → Heap → List Loc → Prop} {k n : Nat}
    (X : Stand p l e R s m args below meth c T locs cells slots) (hx : p.tables.exec = Jvm.exec) (hlocks : meth.locks = false) (hret : meth.sig.returnType = some t) (ht : t.isReference = true) (hn : narrow t (.ref a) = .ref a)
    (hd : decode c.code pc = .ok (.areturn, 1)) (hQ : Q (some (.ref a)) T.heap locs) (hc : cells ≤ k) (hs : slots ≤ n) : Go p e below (FinQ below s Q k n) (T.setTop (mkF m pc Ls (.ref a :: rest))) :=
  retG X hx hlocks hret hn (Or.inr (Or.inr (Or.inr (Or.inr ⟨rfl, ht, rfl⟩)))) hd hQ hc hs
theorem retGN {pc : Nat} {Ls : Array Slot} {z z' : Int32} {t : FieldType} {rest : List Value} {Q : Option Value → Heap → List Loc → Prop} {k n : Nat}
    (X : Stand p l e R s m args below meth c T locs cells slots) (hx : p.tables.exec = Jvm.exec) (hlocks : meth.locks = false) (hret : meth.sig.returnType = some t) (ht : t = .boolean ∨ t = .byte ∨ t = .char ∨ t = .short) (hz : nar t z = z')
    (hd : decode c.code pc = .ok (.ireturn, 1)) (hQ : Q (some (.int z')) T.heap locs) (hc : cells ≤ k) (hs : slots ≤ n) : Go p e below (FinQ below s Q k n) (T.setTop (mkF m pc Ls (.int z :: rest))) := by
  subst hz
  obtain ⟨fs, hr, hrun, hended, hW, hsame⟩ := X.leave (v := some (.int (nar t z))) (fun h => by rw [hret] at h; cases h) hlocks
  exact ⟨_, retN X hx hret ht hd hr, _, hrun, hended, _, _, rfl, hQ, ⟨_, rfl⟩, hW, hsame.mono hc hs⟩
theorem retGV {pc : Nat} {Ls : Array Slot} {Q : Option Value → Heap → List Loc → Prop} {k n : Nat}
    (X : Stand p l e R s m args below meth c T locs cells slots) (hx : p.tables.exec = Jvm.exec) (hlocks : meth.locks = false) (hret : meth.sig.returnType = none)
    (hd : decode c.code pc = .ok (.return_, 1)) (hQ : Q none T.heap locs) (hc : cells ≤ k) (hs : slots ≤ n) : Go p e below (FinQ below s Q k n) (T.setTop (mkF m pc Ls [])) := by
  obtain ⟨fs, hr, hrun, hended, hW, hsame⟩ := X.leave (v := none) (fun _ => rfl) hlocks
  exact ⟨_, X.returnOut hx hret hd hr, _, hrun, hended, _, _, rfl, hQ, ⟨_, rfl⟩, hW, hsame.mono hc hs⟩
end New
/-- a body that writes nothing and returns r -/
def QP (r : Value) (h0 : Heap) (n0 : Nat) (v : Option Value) (h : Heap) (L : List Loc) : Prop := v = some r ∧ Fr n0 L ∧ h = h0
def QV (h0 : Heap) (n0 : Nat) (v : Option Value) (h : Heap) (L : List Loc) : Prop := v = none ∧ Fr n0 L ∧ h = h0
/-- a law: it returns r and writes nothing old -/
def QL (r : Value) (n0 : Nat) (v : Option Value) (h : Heap) (L : List Loc) : Prop := v = some r ∧ Fr n0 L
theorem remI (x y : Int32) : x - (x / y) * y = x % y := by
  rw [← Int32.toInt_inj, Int32.toInt_sub, Int32.toInt_mul, Int32.toInt_div, Int32.toInt_mod]
  have h := Int.tmod_add_mul_tdiv x.toInt y.toInt
  have r : (x.toInt.tmod y.toInt).bmod (2 ^ 32) = x.toInt.tmod y.toInt := by
    have := Int32.toInt_bmod (x % y)
    rwa [Int32.toInt_mod] at this
  rw [← r]
  have e : ((x.toInt.tdiv y.toInt).bmod (2 ^ 32) * y.toInt).bmod (2 ^ 32) = (x.toInt.tdiv y.toInt * y.toInt).bmod (2 ^ 32) := by simp
  rw [e, Int.sub_bmod_bmod]
  congr 1
  have := Int.mul_comm (x.toInt.tdiv y.toInt) y.toInt
  omega
theorem addI {x y : Int32} (h1 : -2147483648 ≤ x.toInt + y.toInt) (h2 : x.toInt + y.toInt < 2147483648) : (x + y).toInt = x.toInt + y.toInt := by have := c_iadd x y; have := rng32 (x + y); omega
theorem subI {x y : Int32} (h1 : -2147483648 ≤ x.toInt - y.toInt) (h2 : x.toInt - y.toInt < 2147483648) : (x - y).toInt = x.toInt - y.toInt := by have := c_isub x y; have := rng32 (x - y); omega
theorem mulI {x y : Int32} (h1 : -2147483648 ≤ x.toInt * y.toInt) (h2 : x.toInt * y.toInt < 2147483648) : (x * y).toInt = x.toInt * y.toInt := by have := c_imul x y; have := rng32 (x * y); omega
theorem addL {x y : Int64} (h1 : -9223372036854775808 ≤ x.toInt + y.toInt) (h2 : x.toInt + y.toInt < 9223372036854775808) : (x + y).toInt = x.toInt + y.toInt := by have := c_ladd x y; have := rng64 (x + y); omega
theorem subL {x y : Int64} (h1 : -9223372036854775808 ≤ x.toInt - y.toInt) (h2 : x.toInt - y.toInt < 9223372036854775808) : (x - y).toInt = x.toInt - y.toInt := by have := c_lsub x y; have := rng64 (x - y); omega
theorem mulL {x y : Int64} (h1 : -9223372036854775808 ≤ x.toInt * y.toInt) (h2 : x.toInt * y.toInt < 9223372036854775808) : (x * y).toInt = x.toInt * y.toInt := by have := c_lmul x y; have := rng64 (x * y); omega
theorem modI {x y : Int32} (d : Int) (hy : y.toInt = d) (hx : 0 ≤ x.toInt) : (x % y).toInt = x.toInt % d := by rw [Int32.toInt_mod, hy]; exact (tr _ _).1 hx
theorem modL {x y : Int64} (d : Int) (hy : y.toInt = d) (hx : 0 ≤ x.toInt) : (x % y).toInt = x.toInt % d := by rw [Int64.toInt_mod, hy]; exact (tr _ _).1 hx
end Jvm.OwnKit
namespace Jvm.OwnKit
open Sem ClassFile Op Lib Jvm.Stand Jvm.Free Jvm.LawKit Jvm.RoadKit
/-- an array: its length and its elements, by a function -/
def Ary (Z : State) (h : Heap) (a : Addr) (ty : FieldType) (n : Nat) (f : Nat → Value) : Prop := ∃ c : Cell, Arr Z h a c ty ∧ c.slots.size = n ∧ n < 2147483648 ∧ ∀ i, i < n → c.slots[i]? = some (f i)
def upd {α : Type} (f : Nat → α) (j : Nat) (v : α) : Nat → α := fun i => if i = j then v else f i
theorem upd_same {α : Type} (f : Nat → α) (j : Nat) (v : α) : upd f j v j = v := if_pos rfl
theorem upd_ne {α : Type} (f : Nat → α) {j i : Nat} (v : α) (h : i ≠ j) : upd f j v i = f i := if_neg h
section Facts
variable {Z : State} {h h' : Heap} {a b : Addr} {ty : FieldType} {n sl : Nat} {f : Nat → Value} {v : Value} {ws : List Addr} {j : Int32}
theorem Ary.lt (F : Ary Z h a ty n f) : a < h.size := by obtain ⟨c, A, -⟩ := F; exact A.lt
theorem Ary.ext (F : Ary Z h a ty n f) (E : Ext h h') : Ary Z h' a ty n f := by obtain ⟨c, A, r⟩ := F; exact ⟨c, A.ext E, r⟩
theorem Ary.other (F : Ary Z h b ty n f) (W : Wr h h' a sl v) (q : b ≠ a) : Ary Z h' b ty n f := by obtain ⟨c, A, r⟩ := F; exact ⟨c, A.other W q, r⟩
theorem Ary.keep (F : Ary Z h a ty n f) (K : Keep h h' ws) (q : a ∉ ws) : Ary Z h' a ty n f := by obtain ⟨c, A, r⟩ := F; exact ⟨c, ⟨K.2.1 a c A.1 q, A.2⟩, r⟩
theorem Ary.set (F : Ary Z h a ty n f) (W : Wr h h' a sl v) (q : sl < n) : Ary Z h' a ty n (upd f sl v) := by
  obtain ⟨c, A, hs, hn, hf⟩ := F
  obtain ⟨c', e1, -, -, e4, -, e6, e7⟩ := wr_at W A.1
  refine ⟨c', by rw [(e7 rfl).1]; exact A.same W, e4.trans hs, hn, fun i hi => ?_⟩
  by_cases e : i = sl
  · subst e; rw [(e7 rfl).2.1, upd_same]
  · rw [e6 i e, hf i hi, upd_ne _ _ e]
theorem Ary.setI {g : Nat → Int32} {x : Int32} (F : Ary Z h a ty n (fun i => .int (g i))) (W : Wr h h' a sl (.int x)) (q : sl < n) : Ary Z h' a ty n (fun i => .int (upd g sl x i)) := by
  have e : (fun i => Value.int (upd g sl x i)) = upd (fun i => Value.int (g i)) sl (.int x) := by funext i; unfold upd; split <;> rfl
  rw [e]; exact F.set W q
theorem Ary.setJ {g : Nat → Int64} {x : Int64} (F : Ary Z h a ty n (fun i => .long (g i))) (W : Wr h h' a sl (.long x)) (q : sl < n) : Ary Z h' a ty n (fun i => .long (upd g sl x i)) := by
  have e : (fun i => Value.long (upd g sl x i)) = upd (fun i => Value.long (g i)) sl (.long x) := by funext i; unfold upd; split <;> rfl
  rw [e]; exact F.set W q
theorem Ary.congr {f' : Nat → Value} (F : Ary Z h a ty n f) (q : ∀ i, i < n → f i = f' i) : Ary Z h a ty n f' := by
  obtain ⟨c, A, hs, hn, hf⟩ := F
  exact ⟨c, A, hs, hn, fun i hi => by rw [hf i hi, q i hi]⟩
theorem Ary.hin (F : Ary Z h a ty n f) (h0 : ¬ j < 0) (hj : j.toNatClampNeg < n) : ∃ cl, Arr Z h a cl ty ∧ ¬ (j < 0 ∨ cl.slots.size ≤ j.toNatClampNeg) ∧ cl.slots[j.toNatClampNeg]? = some (f j.toNatClampNeg) := by
  obtain ⟨c, A, hs, hn, hf⟩ := F
  exact ⟨c, A, fun q => q.elim h0 (fun r => by omega), hf _ hj⟩
theorem Ary.mk {k : ClassId} {z : Int32} (A : Arr Z h a (newA k ty z) ty) (q : ¬ z < 0) (hn : z.toNatClampNeg = n) : Ary Z h a ty n (fun _ => defaultValue ty) := by
  obtain ⟨c, A', -, hs, -, H, -⟩ := Arv.new A q
  have r := rng32 z
  refine ⟨c, A', hs.trans hn, ?_, fun i hi => ?_⟩
  · rw [← hn]; have := nat_of q; omega
  · have := H i (by rw [hs, hn]; exact hi); simpa using this
end Facts
theorem clamp_nat {k : Nat} (h : k < 2147483648) : (Int32.ofNat k).toNatClampNeg = k := by
  have e : (Int32.ofNat k).toInt = k := Int32.toInt_ofNat_of_lt h
  show (Int32.ofNat k).toInt.toNat = k
  rw [e]; rfl
theorem nat32 {k : Nat} (h : k < 2147483648) : k.toInt32.toInt = k := Int32.toInt_ofNat_of_lt h
section New
variable {p : Program} {l : Launch} {e : Env} {R : Room} {s : State} {m : MethodId} {args : Array Value} {below : List Frame} {meth : Method} {c : Code} {T : State} {locs : List Loc} {cells slots : Nat} {Z : State} {h : Heap} {a : Addr} {n : Nat} {rest : List Value} {g : JFrame} {j : Int32}
theorem ldI {f : Nat → Int32} (X : Stand p l e R s m args below meth c T locs cells slots) (hx : p.tables.exec = Jvm.exec) (hZ : Z.Warmed39 s.vm) (eT : T.heap = h) (F : Ary Z h a .int n (fun i => .int (f i))) (h0 : ¬ j < 0) (hj : j.toNatClampNeg < n)
    (hg : g.method = m) (hs : g.stack = .int j :: .ref a :: rest) (hd : decode c.code g.pc = .ok (.iaload, 1)) : ∀ target, Steps p.tables e below (T.setTop { g with pc := g.pc + 1, stack := .int (f j.toNatClampNeg) :: rest }) target → Steps p.tables e below (T.setTop g) target := fun t k => by
  obtain ⟨cl, A, hin, hat⟩ := F.hin h0 hj
  exact X.iaload hx (by rw [eT]; exact A.1) (State.isArrayOf_alike hZ.alike A.2.1) A.2.2 hin hat hg hs hd t k
theorem ldJ {f : Nat → Int64} (X : Stand p l e R s m args below meth c T locs cells slots) (hx : p.tables.exec = Jvm.exec) (hZ : Z.Warmed39 s.vm) (eT : T.heap = h) (F : Ary Z h a .long n (fun i => .long (f i))) (h0 : ¬ j < 0) (hj : j.toNatClampNeg < n)
    (hg : g.method = m) (hs : g.stack = .int j :: .ref a :: rest) (hd : decode c.code g.pc = .ok (.laload, 1)) : ∀ target, Steps p.tables e below (T.setTop { g with pc := g.pc + 1, stack := .long (f j.toNatClampNeg) :: rest }) target → Steps p.tables e below (T.setTop g) target := fun t k => by
  obtain ⟨cl, A, hin, hat⟩ := F.hin h0 hj
  exact X.laload hx (by rw [eT]; exact A.1) (State.isArrayOf_alike hZ.alike A.2.1) A.2.2 hin hat hg hs hd t k
theorem ldB {f : Nat → Int32} (X : Stand p l e R s m args below meth c T locs cells slots) (hx : p.tables.exec = Jvm.exec) (hZ : Z.Warmed39 s.vm) (eT : T.heap = h) (F : Ary Z h a .byte n (fun i => .int (f i))) (h0 : ¬ j < 0) (hj : j.toNatClampNeg < n)
    (hg : g.method = m) (hs : g.stack = .int j :: .ref a :: rest) (hd : decode c.code g.pc = .ok (.baload, 1)) : ∀ target, Steps p.tables e below (T.setTop { g with pc := g.pc + 1, stack := .int (f j.toNatClampNeg) :: rest }) target → Steps p.tables e below (T.setTop g) target := fun t k => by
  obtain ⟨cl, A, hin, hat⟩ := F.hin h0 hj
  exact X.baloadBytes hx (by rw [eT]; exact A.1) (State.isArrayOf_alike hZ.alike A.2.1) A.2.2 hin hat hg hs hd t k
theorem ldC {f : Nat → Int32} (X : Stand p l e R s m args below meth c T locs cells slots) (hx : p.tables.exec = Jvm.exec) (hZ : Z.Warmed39 s.vm) (eT : T.heap = h) (F : Ary Z h a .char n (fun i => .int (f i))) (h0 : ¬ j < 0) (hj : j.toNatClampNeg < n)
    (hg : g.method = m) (hs : g.stack = .int j :: .ref a :: rest) (hd : decode c.code g.pc = .ok (.caload, 1)) : ∀ target, Steps p.tables e below (T.setTop { g with pc := g.pc + 1, stack := .int (f j.toNatClampNeg) :: rest }) target → Steps p.tables e below (T.setTop g) target := fun t k => by
  obtain ⟨cl, A, hin, hat⟩ := F.hin h0 hj
  exact X.caload hx (by rw [eT]; exact A.1) (State.isArrayOf_alike hZ.alike A.2.1) A.2.2 hin hat hg hs hd t k
theorem ldR {f : Nat → Value} {ty : FieldType} (X : Stand p l e R s m args below meth c T locs cells slots) (hx : p.tables.exec = Jvm.exec) (hZ : Z.Warmed39 s.vm) (eT : T.heap = h) (F : Ary Z h a ty n f) (hty : ty.isReference = true) (h0 : ¬ j < 0) (hj : j.toNatClampNeg < n)
    (hg : g.method = m) (hs : g.stack = .int j :: .ref a :: rest) (hd : decode c.code g.pc = .ok (.aaload, 1)) : ∀ target, Steps p.tables e below (T.setTop { g with pc := g.pc + 1, stack := f j.toNatClampNeg :: rest }) target → Steps p.tables e below (T.setTop g) target := fun t k => by
  obtain ⟨cl, A, hin, hat⟩ := F.hin h0 hj
  exact X.aaload hx (by rw [eT]; exact A.1) (State.isArrayOf_alike hZ.alike A.2.1) hty A.2.2 hin hat hg hs hd t k
theorem lenA {f : Nat → Value} {ty : FieldType} (X : Stand p l e R s m args below meth c T locs cells slots) (hx : p.tables.exec = Jvm.exec) (hZ : Z.Warmed39 s.vm) (eT : T.heap = h) (F : Ary Z h a ty n f)
    (hg : g.method = m) (hs : g.stack = .ref a :: rest) (hd : decode c.code g.pc = .ok (.arraylength, 1)) : ∀ target, Steps p.tables e below (T.setTop { g with pc := g.pc + 1, stack := .int n.toInt32 :: rest }) target → Steps p.tables e below (T.setTop g) target := fun t k => by
  obtain ⟨cl, A, hs', hn, -⟩ := F
  subst hs'
  exact X.arraylength hx (by rw [eT]; exact A.1) (State.isArrayOf_alike hZ.alike A.2.1) hg hs hd t k
end New
end Jvm.OwnKit
namespace Jvm.Pilot.@@N@@
open Jvm Jvm.ClassFile Sem Op Lib Jvm.Free Jvm.Stand Jvm.LawKit Jvm.RoadKit Jvm.OwnKit Bundle Jvm.Pilot.@@N@@.Jvm.D

def powT (i : Nat) : Int64 := ([1, 10, 100, 1000, 10000, 100000, 1000000, 10000000, 100000000, 1000000000, 10000000000, 100000000000, 1000000000000, 10000000000000, 100000000000000, 1000000000000000, 10000000000000000, 100000000000000000, 1000000000000000000] : List Int64).getD i 0
theorem clamp_of {x : Int32} (h : 0 ≤ x.toInt) : (x.toNatClampNeg : Int) = x.toInt := by
  show (x.toInt.toNat : Int) = x.toInt
  omega
theorem own_b22 (p : Int32) (h0 : ¬ p < (0 : Int32)) (h : (12 : Int32) + p < (18 : Int32)) (h2 : ¬ (12 : Int32) < p) : ¬ ((12 : Int32) + p) < 0 ∧ ((12 : Int32) + p).toNatClampNeg < 19 := by
  rw [Int32.lt_iff_toInt_lt] at *
  have e0 : (0 : Int32).toInt = 0 := by decide
  have e12 : (12 : Int32).toInt = 12 := by decide
  have e18 : (18 : Int32).toInt = 18 := by decide
  have e : ((12 : Int32) + p).toInt = 12 + p.toInt := by rw [addI] <;> rw [e12] <;> omega
  have := clamp_of (x := (12 : Int32) + p) (by omega)
  constructor <;> omega
theorem own_s (y : Int32) : 0 ≤ ((y &&& (2147483647 : Int32)) % (19 : Int32)).toInt ∧ ((y &&& (2147483647 : Int32)) % (19 : Int32)).toInt < 19 := by
  have h1 := c_and y 2147483647 (by decide)
  rw [modI 19 (by decide) h1.1]; omega
theorem own_b122 (y : Int32) (h : ¬ (12 : Int32) < ((y &&& (2147483647 : Int32)) % (19 : Int32))) : ¬ ((y &&& (2147483647 : Int32)) % (19 : Int32)) < 0 ∧ ((y &&& (2147483647 : Int32)) % (19 : Int32)).toNatClampNeg < 13 := by
  have h1 := own_s y
  rw [Int32.lt_iff_toInt_lt] at *
  have e0 : (0 : Int32).toInt = 0 := by decide
  have e12 : (12 : Int32).toInt = 12 := by decide
  have := clamp_of (x := ((y &&& (2147483647 : Int32)) % (19 : Int32))) (by omega)
  constructor <;> omega
def powF : Nat → Int64 := (upd (upd (upd (upd (upd (upd (upd (upd (upd (upd (upd (upd (upd (fun _ => (0 : Int64)) 0 (1 : Int64)) 1 (10 : Int64)) 2 (100 : Int64)) 3 (1000 : Int64)) 4 (10000 : Int64)) 5 (100000 : Int64)) 6 (1000000 : Int64)) 7 (10000000 : Int64)) 8 (100000000 : Int64)) 9 (1000000000 : Int64)) 10 (10000000000 : Int64)) 11 (100000000000 : Int64)) 12 (1000000000000 : Int64))
theorem powF_ne : ∀ k, k < 13 → ¬ (powF k = 0) := by decide
theorem own_nz (y : Int32) (h : ¬ (12 : Int32) < ((y &&& (2147483647 : Int32)) % (19 : Int32))) : ¬ (powF ((y &&& (2147483647 : Int32)) % (19 : Int32)).toNatClampNeg = 0) := powF_ne _ (own_b122 y h).2

theorem d1_0 : decode jdk_29_method_61_code 0 = .ok (.lload_n 0, 1) := by decide +kernel
theorem d1_1 : decode jdk_29_method_61_code 1 = .ok (.lconst 0, 1) := by decide +kernel
theorem d1_2 : decode jdk_29_method_61_code 2 = .ok (.lcmp, 1) := by decide +kernel
theorem d1_3 : decode jdk_29_method_61_code 3 = .ok (.ifCond .ge 8, 3) := by decide +kernel
theorem d1_6 : decode jdk_29_method_61_code 6 = .ok (.lload_n 0, 1) := by decide +kernel
theorem d1_7 : decode jdk_29_method_61_code 7 = .ok (.lneg, 1) := by decide +kernel
theorem d1_8 : decode jdk_29_method_61_code 8 = .ok (.goto 4, 3) := by decide +kernel
theorem d1_12 : decode jdk_29_method_61_code 12 = .ok (.lreturn, 1) := by decide +kernel
theorem d1_11 : decode jdk_29_method_61_code 11 = .ok (.lload_n 0, 1) := by decide +kernel
theorem ef_1 (m : MethodId) (q1 : Int64) : entryFrame m #[(.long q1)] 2 = mkF m 0 #[.val (.long q1), .second] [] := by first | (simp [entryFrame, mkF, argsToLocals, Value.category]; done) | rfl
def f1 (q1 : Int64) : Int64 := (if q1 < (0 : Int64) then (-q1) else q1)
set_option maxRecDepth 65536 in
set_option maxHeartbeats 40000000 in
theorem rm1 (l : Launch) (Z : State) (a0 : Array Value) (hw : ∀ d ∈ tables_1, d.before a0 Z = true) (ws : List Jvm.Cond) (q1 : Int64) (h0 : Heap) (n0 : Nat) (Z0 : n0 ≤ h0.size) :
    MetFree l (⟨"java/lang/Math", "abs", "(J)J"⟩ : MethodName) (head1 (Jvm.Cond.code (⟨"java/lang/Math", "abs", "(J)J"⟩ : MethodName) jdk_29_method_61_code 2 (some .long) :: ws) ({ frames := 0, cells := 0, slots := 0, locals := 0 } : Room)) (fun a U => a = #[(.long q1)] ∧ Z.Warmed39 U.vm ∧ U.heap = h0) (fun _ _ _ _ _ => True) (fun _ U o U' => ∃ v L, o = .returned v ∧ QP (.long (f1 q1)) h0 n0 v U'.heap L ∧ FrameEnd U o U' L ({ frames := 0, cells := 0, slots := 0, locals := 0 } : Room).cells ({ frames := 0, cells := 0, slots := 0, locals := 0 } : Room).slots) := by
  refine MetFree.of_bodySF (Jvm.Free.JP.mathPlain rfl (by decide +kernel)) hisR ?_
  intro p e s m args below meth c s₁ Bd hml0 hP hK
  obtain ⟨rfl, hZ, hh⟩ := hP
  have hx := Bd.exec
  have hby := Bd.bytes
  have hml : c.maxLocals = 2 := hml0
  have hown : s.vm.findClass "java/lang/Math" = some m.cls := findClass_of_methodNamed Bd.named
  have hnm := (name_of_methodNamed Bd.named Bd.method).1
  have X0 : Stand p l e ({ frames := 0, cells := 0, slots := 0, locals := 0 } : Room) s m #[(.long q1)] below meth c s₁ [] 0 0 := Stand.of_body Bd
  have e0 : s₁.heap = h0 := by rw [← hh, Bd.state]; rfl
  have N0 := Fr.nil n0
  refine Go.done (Go.step (fun t k => castTop (ef_1 m q1) k) ?_)
  have KK0 : Keep h0 h0 [] := Keep.refl _ _
  show Go p e below _ (s₁.setTop (mkF m 0 #[.val (.long q1), .second] []))
  refine Go.step (fun t k => XS.lloadN X0.here hx rfl (hb hby d1_0) rfl k) ?_
  show Go p e below _ (s₁.setTop (mkF m 1 #[.val (.long q1), .second] [(.long q1)]))
  refine Go.step (fun t k => XS.lconst X0.here hx rfl (hb hby d1_1)  k) ?_
  show Go p e below _ (s₁.setTop (mkF m 2 #[.val (.long q1), .second] [(.long (0 : Int64)), (.long q1)]))
  refine Go.step (fun t k => XS.lcmp X0.here hx rfl (hb hby d1_2) rfl k) ?_
  show Go p e below _ (s₁.setTop (mkF m 3 #[.val (.long q1), .second] [(.int (lcmpW q1 (0 : Int64)))]))
  by_cases hc2 : q1 < (0 : Int64)
  · refine Go.step (fun t k => XS.ifNo X0.here hx rfl (hb hby d1_3) rfl ((if0 _ _).trans (tlt ((lw_lt _ _).mpr hc2)).2.1) k) ?_
    show Go p e below _ (s₁.setTop (mkF m 6 #[.val (.long q1), .second] []))
    refine Go.step (fun t k => XS.lloadN X0.here hx rfl (hb hby d1_6) rfl k) ?_
    show Go p e below _ (s₁.setTop (mkF m 7 #[.val (.long q1), .second] [(.long q1)]))
    refine Go.step (fun t k => XS.lneg X0.here hx rfl (hb hby d1_7) rfl k) ?_
    show Go p e below _ (s₁.setTop (mkF m 8 #[.val (.long q1), .second] [(.long (-q1))]))
    refine Go.step (fun t k => XS.goto X0.here hx rfl (pc0 := 8) (pc' := 12) rfl (hb hby d1_8) (by decide) (by decide) k) ?_
    show Go p e below _ (s₁.setTop (mkF m 12 #[.val (.long q1), .second] [(.long (-q1))]))
    exact retGJ X0 hx Bd.notSynchronized Bd.returns (hb hby d1_12) ⟨by first | (simp only [f1, if_pos hc2]; done) | rfl | (simp [f1, if_pos hc2]; done), N0, e0⟩ (by decide) (by decide)
  · refine Go.step (fun t k => XS.ifYes X0.here hx rfl (pc0 := 3) (pc' := 11) rfl (hb hby d1_3) rfl ((if0 _ _).trans (flt (fun q => hc2 ((lw_lt _ _).mp q))).2.1) (by decide) (by decide) k) ?_
    show Go p e below _ (s₁.setTop (mkF m 11 #[.val (.long q1), .second] []))
    refine Go.step (fun t k => XS.lloadN X0.here hx rfl (hb hby d1_11) rfl k) ?_
    show Go p e below _ (s₁.setTop (mkF m 12 #[.val (.long q1), .second] [(.long q1)]))
    exact retGJ X0 hx Bd.notSynchronized Bd.returns (hb hby d1_12) ⟨by first | (simp only [f1, if_neg hc2]; done) | rfl | (simp [f1, if_neg hc2]; done), N0, e0⟩ (by decide) (by decide)
theorem d2_0 : decode prog_9_method_6_code 0 = .ok (.bipush 12, 2) := by decide +kernel
theorem d2_2 : decode prog_9_method_6_code 2 = .ok (.iload_n 2, 1) := by decide +kernel
theorem d2_3 : decode prog_9_method_6_code 3 = .ok (.iadd, 1) := by decide +kernel
theorem d2_4 : decode prog_9_method_6_code 4 = .ok (.istore_n 3, 1) := by decide +kernel
theorem d2_5 : decode prog_9_method_6_code 5 = .ok (.iload_n 2, 1) := by decide +kernel
theorem d2_6 : decode prog_9_method_6_code 6 = .ok (.bipush 12, 2) := by decide +kernel
theorem d2_8 : decode prog_9_method_6_code 8 = .ok (.if_icmp .gt 34, 3) := by decide +kernel
theorem d2_42 : decode prog_9_method_6_code 42 = .ok (.iconst 0, 1) := by decide +kernel
theorem d2_43 : decode prog_9_method_6_code 43 = .ok (.ireturn, 1) := by decide +kernel
theorem d2_11 : decode prog_9_method_6_code 11 = .ok (.iload_n 3, 1) := by decide +kernel
theorem d2_12 : decode prog_9_method_6_code 12 = .ok (.bipush 18, 2) := by decide +kernel
theorem d2_14 : decode prog_9_method_6_code 14 = .ok (.if_icmp .ge 24, 3) := by decide +kernel
theorem d2_17 : decode prog_9_method_6_code 17 = .ok (.lload_n 0, 1) := by decide +kernel
theorem d2_18 : decode prog_9_method_6_code 18 = .ok (.getstatic 87, 3) := by decide +kernel
theorem d2_21 : decode prog_9_method_6_code 21 = .ok (.iload_n 3, 1) := by decide +kernel
theorem d2_22 : decode prog_9_method_6_code 22 = .ok (.laload, 1) := by decide +kernel
theorem d2_23 : decode prog_9_method_6_code 23 = .ok (.lneg, 1) := by decide +kernel
theorem d2_24 : decode prog_9_method_6_code 24 = .ok (.lcmp, 1) := by decide +kernel
theorem d2_25 : decode prog_9_method_6_code 25 = .ok (.ifCond .le 17, 3) := by decide +kernel
theorem d2_28 : decode prog_9_method_6_code 28 = .ok (.lload_n 0, 1) := by decide +kernel
theorem d2_29 : decode prog_9_method_6_code 29 = .ok (.getstatic 87, 3) := by decide +kernel
theorem d2_32 : decode prog_9_method_6_code 32 = .ok (.iload_n 3, 1) := by decide +kernel
theorem d2_33 : decode prog_9_method_6_code 33 = .ok (.laload, 1) := by decide +kernel
theorem d2_34 : decode prog_9_method_6_code 34 = .ok (.lcmp, 1) := by decide +kernel
theorem d2_35 : decode prog_9_method_6_code 35 = .ok (.ifCond .ge 7, 3) := by decide +kernel
theorem d2_38 : decode prog_9_method_6_code 38 = .ok (.iconst 1, 1) := by decide +kernel
theorem d2_39 : decode prog_9_method_6_code 39 = .ok (.goto 4, 3) := by decide +kernel
theorem ef_2 (m : MethodId) (q1 : Int64) (p2 : Int32) : entryFrame m #[(.long q1), (.int p2)] 4 = mkF m 0 #[.val (.long q1), .second, .val (.int p2), .unset] [] := by first | (simp [entryFrame, mkF, argsToLocals, Value.category]; done) | rfl
theorem pn_0 : plainName "com/example/biller/biller/DecimalColumn" = true := by first | (simp [plainName, overriddenIn]; done) | decide +kernel
def f2 (q1 : Int64) (p2 : Int32) : Int32 := (if (12 : Int32) < p2 then (0 : Int32) else (if ((12 : Int32) + p2) < (18 : Int32) then (if (-(powT ((12 : Int32) + p2).toNatClampNeg)) < q1 then (if q1 < (powT ((12 : Int32) + p2).toNatClampNeg) then (1 : Int32) else (0 : Int32)) else (0 : Int32)) else (1 : Int32)))
set_option maxRecDepth 65536 in
set_option maxHeartbeats 40000000 in
theorem rm2 (l : Launch) (Z : State) (a0 : Array Value) (hw : ∀ d ∈ tables_1, d.before a0 Z = true) (ws : List Jvm.Cond) (q1 : Int64) (p2 : Int32) (oP : Addr) (h0 : Heap) (n0 : Nat) (Z0 : n0 ≤ h0.size) (hs : ¬ p2 < (0 : Int32)) (S_POWERS_OF_TEN : Sta Z Z.heap "com/example/biller/biller/DecimalColumn" "POWERS_OF_TEN" "[J" (.ref oP)) (A_POWERS_OF_TEN : Ary Z Z.heap oP .long 19 (fun i => .long (powT i))) (hO : Old Z n0 h0) :
    MetFree l (⟨"com/example/biller/biller/DecimalColumn", "withinLimits", "(JI)Z"⟩ : MethodName) (head1 (Jvm.Cond.code (⟨"com/example/biller/biller/DecimalColumn", "withinLimits", "(JI)Z"⟩ : MethodName) prog_9_method_6_code 4 (some .boolean) :: ws) ({ frames := 0, cells := 0, slots := 0, locals := 0 } : Room)) (fun a U => a = #[(.long q1), (.int p2)] ∧ Z.Warmed39 U.vm ∧ U.heap = h0) (fun _ _ _ _ _ => True) (fun _ U o U' => ∃ v L, o = .returned v ∧ QP (.int (f2 q1 p2)) h0 n0 v U'.heap L ∧ FrameEnd U o U' L ({ frames := 0, cells := 0, slots := 0, locals := 0 } : Room).cells ({ frames := 0, cells := 0, slots := 0, locals := 0 } : Room).slots) := by
  refine MetFree.of_bodySF (plainFor_of_name pn_0) hisR ?_
  intro p e s m args below meth c s₁ Bd hml0 hP hK
  obtain ⟨rfl, hZ, hh⟩ := hP
  have hx := Bd.exec
  have hby := Bd.bytes
  have hml : c.maxLocals = 4 := hml0
  have hown : s.vm.findClass "com/example/biller/biller/DecimalColumn" = some m.cls := findClass_of_methodNamed Bd.named
  have hnm := (name_of_methodNamed Bd.named Bd.method).1
  have X0 : Stand p l e ({ frames := 0, cells := 0, slots := 0, locals := 0 } : Room) s m #[(.long q1), (.int p2)] below meth c s₁ [] 0 0 := Stand.of_body Bd
  have e0 : s₁.heap = h0 := by rw [← hh, Bd.state]; rfl
  have N0 := Fr.nil n0
  refine Go.done (Go.step (fun t k => castTop (ef_2 m q1 p2) k) ?_)
  have KK0 : Keep h0 h0 [] := Keep.refl _ _
  show Go p e below _ (s₁.setTop (mkF m 0 #[.val (.long q1), .second, .val (.int p2), .unset] []))
  refine Go.step (fun t k => XS.bipush X0.here hx rfl (hb hby d2_0)  k) ?_
  show Go p e below _ (s₁.setTop (mkF m 2 #[.val (.long q1), .second, .val (.int p2), .unset] [(.int (12 : Int32))]))
  refine Go.step (fun t k => XS.iloadN X0.here hx rfl (hb hby d2_2) rfl k) ?_
  show Go p e below _ (s₁.setTop (mkF m 3 #[.val (.long q1), .second, .val (.int p2), .unset] [(.int p2), (.int (12 : Int32))]))
  refine Go.step (fun t k => XS.iadd X0.here hx rfl (hb hby d2_3) rfl k) ?_
  show Go p e below _ (s₁.setTop (mkF m 4 #[.val (.long q1), .second, .val (.int p2), .unset] [(.int ((12 : Int32) + p2))]))
  obtain ⟨v3, hv3⟩ : ∃ z : Int32, z = ((12 : Int32) + p2) := ⟨_, rfl⟩
  rw [← hv3]
  show Go p e below _ (s₁.setTop (mkF m 4 #[.val (.long q1), .second, .val (.int p2), .unset] [(.int v3)]))
  refine Go.step (fun t k => XS.istoreN X0.here hx rfl (hb hby d2_4) rfl (l' := #[.val (.long q1), .second, .val (.int p2), .val (.int v3)]) rfl k) ?_
  show Go p e below _ (s₁.setTop (mkF m 5 #[.val (.long q1), .second, .val (.int p2), .val (.int v3)] []))
  refine Go.step (fun t k => XS.iloadN X0.here hx rfl (hb hby d2_5) rfl k) ?_
  show Go p e below _ (s₁.setTop (mkF m 6 #[.val (.long q1), .second, .val (.int p2), .val (.int v3)] [(.int p2)]))
  refine Go.step (fun t k => XS.bipush X0.here hx rfl (hb hby d2_6)  k) ?_
  show Go p e below _ (s₁.setTop (mkF m 8 #[.val (.long q1), .second, .val (.int p2), .val (.int v3)] [(.int (12 : Int32)), (.int p2)]))
  by_cases hc4 : (12 : Int32) < p2
  · refine Go.step (fun t k => XS.icmpYes X0.here hx rfl (pc0 := 8) (pc' := 42) rfl (hb hby d2_8) rfl (tlt hc4).2.2.1 (by decide) (by decide) k) ?_
    show Go p e below _ (s₁.setTop (mkF m 42 #[.val (.long q1), .second, .val (.int p2), .val (.int v3)] []))
    refine Go.step (fun t k => XS.iconst X0.here hx rfl (hb hby d2_42)  k) ?_
    show Go p e below _ (s₁.setTop (mkF m 43 #[.val (.long q1), .second, .val (.int p2), .val (.int v3)] [(.int (0 : Int32))]))
    subst hv3
    exact retGN X0 hx Bd.notSynchronized Bd.returns (t := .boolean) (by simp) (z' := (0 : Int32)) rfl (hb hby d2_43) ⟨by first | (simp only [f2, if_pos hc4]; done) | rfl | (simp [f2, if_pos hc4]; done), N0, e0⟩ (by decide) (by decide)
  · refine Go.step (fun t k => XS.icmpNo X0.here hx rfl (hb hby d2_8) rfl (flt hc4).2.2.1 k) ?_
    show Go p e below _ (s₁.setTop (mkF m 11 #[.val (.long q1), .second, .val (.int p2), .val (.int v3)] []))
    refine Go.step (fun t k => XS.iloadN X0.here hx rfl (hb hby d2_11) rfl k) ?_
    show Go p e below _ (s₁.setTop (mkF m 12 #[.val (.long q1), .second, .val (.int p2), .val (.int v3)] [(.int v3)]))
    refine Go.step (fun t k => XS.bipush X0.here hx rfl (hb hby d2_12)  k) ?_
    show Go p e below _ (s₁.setTop (mkF m 14 #[.val (.long q1), .second, .val (.int p2), .val (.int v3)] [(.int (18 : Int32)), (.int v3)]))
    by_cases hc5 : v3 < (18 : Int32)
    · refine Go.step (fun t k => XS.icmpNo X0.here hx rfl (hb hby d2_14) rfl (tlt hc5).2.1 k) ?_
      show Go p e below _ (s₁.setTop (mkF m 17 #[.val (.long q1), .second, .val (.int p2), .val (.int v3)] []))
      refine Go.step (fun t k => XS.lloadN X0.here hx rfl (hb hby d2_17) rfl k) ?_
      show Go p e below _ (s₁.setTop (mkF m 18 #[.val (.long q1), .second, .val (.int p2), .val (.int v3)] [(.long q1)]))
      obtain ⟨T6, X6, e6, st6⟩ := getS2 X0 hx hZ hown (host := "") (Or.inl (hw _ (List.mem_of_getElem? (i := 23) rfl))) Via.refl e0 (S_POWERS_OF_TEN.ext hO.2) (g := (mkF m 18 #[.val (.long q1), .second, .val (.int p2), .val (.int v3)] [(.long q1)])) rfl (hb hby d2_18)
      refine Go.step st6 ?_
      show Go p e below _ (T6.setTop (mkF m 21 #[.val (.long q1), .second, .val (.int p2), .val (.int v3)] [(.ref oP), (.long q1)]))
      refine Go.step (fun t k => XS.iloadN X6.here hx rfl (hb hby d2_21) rfl k) ?_
      show Go p e below _ (T6.setTop (mkF m 22 #[.val (.long q1), .second, .val (.int p2), .val (.int v3)] [(.int v3), (.ref oP), (.long q1)]))
      refine Go.step (ldJ X6 hx hZ e6 (A_POWERS_OF_TEN.ext hO.2) (j := v3) ((by subst_vars; exact (own_b22 _ hs (by assumption) (by assumption)).1) : ¬ v3 < 0) ((by subst_vars; exact (own_b22 _ hs (by assumption) (by assumption)).2) : v3.toNatClampNeg < 19) (g := (mkF m 22 #[.val (.long q1), .second, .val (.int p2), .val (.int v3)] [(.int v3), (.ref oP), (.long q1)])) rfl rfl (hb hby d2_22)) ?_
      show Go p e below _ (T6.setTop (mkF m 23 #[.val (.long q1), .second, .val (.int p2), .val (.int v3)] [(.long (powT v3.toNatClampNeg)), (.long q1)]))
      refine Go.step (fun t k => XS.lneg X6.here hx rfl (hb hby d2_23) rfl k) ?_
      show Go p e below _ (T6.setTop (mkF m 24 #[.val (.long q1), .second, .val (.int p2), .val (.int v3)] [(.long (-(powT v3.toNatClampNeg))), (.long q1)]))
      refine Go.step (fun t k => XS.lcmp X6.here hx rfl (hb hby d2_24) rfl k) ?_
      show Go p e below _ (T6.setTop (mkF m 25 #[.val (.long q1), .second, .val (.int p2), .val (.int v3)] [(.int (lcmpW q1 (-(powT v3.toNatClampNeg))))]))
      by_cases hc7 : (-(powT v3.toNatClampNeg)) < q1
      · refine Go.step (fun t k => XS.ifNo X6.here hx rfl (hb hby d2_25) rfl ((if0 _ _).trans (tlt ((lw_gt _ _).mpr hc7)).2.2.2) k) ?_
        show Go p e below _ (T6.setTop (mkF m 28 #[.val (.long q1), .second, .val (.int p2), .val (.int v3)] []))
        refine Go.step (fun t k => XS.lloadN X6.here hx rfl (hb hby d2_28) rfl k) ?_
        show Go p e below _ (T6.setTop (mkF m 29 #[.val (.long q1), .second, .val (.int p2), .val (.int v3)] [(.long q1)]))
        obtain ⟨T8, X8, e8, st8⟩ := getS2 X6 hx hZ hown (host := "") (Or.inl (hw _ (List.mem_of_getElem? (i := 23) rfl))) Via.refl e6 (S_POWERS_OF_TEN.ext hO.2) (g := (mkF m 29 #[.val (.long q1), .second, .val (.int p2), .val (.int v3)] [(.long q1)])) rfl (hb hby d2_29)
        refine Go.step st8 ?_
        show Go p e below _ (T8.setTop (mkF m 32 #[.val (.long q1), .second, .val (.int p2), .val (.int v3)] [(.ref oP), (.long q1)]))
        refine Go.step (fun t k => XS.iloadN X8.here hx rfl (hb hby d2_32) rfl k) ?_
        show Go p e below _ (T8.setTop (mkF m 33 #[.val (.long q1), .second, .val (.int p2), .val (.int v3)] [(.int v3), (.ref oP), (.long q1)]))
        refine Go.step (ldJ X8 hx hZ e8 (A_POWERS_OF_TEN.ext hO.2) (j := v3) ((by subst_vars; exact (own_b22 _ hs (by assumption) (by assumption)).1) : ¬ v3 < 0) ((by subst_vars; exact (own_b22 _ hs (by assumption) (by assumption)).2) : v3.toNatClampNeg < 19) (g := (mkF m 33 #[.val (.long q1), .second, .val (.int p2), .val (.int v3)] [(.int v3), (.ref oP), (.long q1)])) rfl rfl (hb hby d2_33)) ?_
        show Go p e below _ (T8.setTop (mkF m 34 #[.val (.long q1), .second, .val (.int p2), .val (.int v3)] [(.long (powT v3.toNatClampNeg)), (.long q1)]))
        refine Go.step (fun t k => XS.lcmp X8.here hx rfl (hb hby d2_34) rfl k) ?_
        show Go p e below _ (T8.setTop (mkF m 35 #[.val (.long q1), .second, .val (.int p2), .val (.int v3)] [(.int (lcmpW q1 (powT v3.toNatClampNeg)))]))
        by_cases hc9 : q1 < (powT v3.toNatClampNeg)
        · refine Go.step (fun t k => XS.ifNo X8.here hx rfl (hb hby d2_35) rfl ((if0 _ _).trans (tlt ((lw_lt _ _).mpr hc9)).2.1) k) ?_
          show Go p e below _ (T8.setTop (mkF m 38 #[.val (.long q1), .second, .val (.int p2), .val (.int v3)] []))
          refine Go.step (fun t k => XS.iconst X8.here hx rfl (hb hby d2_38)  k) ?_
          show Go p e below _ (T8.setTop (mkF m 39 #[.val (.long q1), .second, .val (.int p2), .val (.int v3)] [(.int (1 : Int32))]))
          refine Go.step (fun t k => XS.goto X8.here hx rfl (pc0 := 39) (pc' := 43) rfl (hb hby d2_39) (by decide) (by decide) k) ?_
          show Go p e below _ (T8.setTop (mkF m 43 #[.val (.long q1), .second, .val (.int p2), .val (.int v3)] [(.int (1 : Int32))]))
          subst hv3
          exact retGN X8 hx Bd.notSynchronized Bd.returns (t := .boolean) (by simp) (z' := (1 : Int32)) rfl (hb hby d2_43) ⟨by first | (simp only [f2, if_neg hc4, if_pos hc5, if_pos hc7, if_pos hc9]; done) | rfl | (simp [f2, if_neg hc4, if_pos hc5, if_pos hc7, if_pos hc9]; done), N0, e8⟩ (by decide) (by decide)
        · refine Go.step (fun t k => XS.ifYes X8.here hx rfl (pc0 := 35) (pc' := 42) rfl (hb hby d2_35) rfl ((if0 _ _).trans (flt (fun q => hc9 ((lw_lt _ _).mp q))).2.1) (by decide) (by decide) k) ?_
          show Go p e below _ (T8.setTop (mkF m 42 #[.val (.long q1), .second, .val (.int p2), .val (.int v3)] []))
          refine Go.step (fun t k => XS.iconst X8.here hx rfl (hb hby d2_42)  k) ?_
          show Go p e below _ (T8.setTop (mkF m 43 #[.val (.long q1), .second, .val (.int p2), .val (.int v3)] [(.int (0 : Int32))]))
          subst hv3
          exact retGN X8 hx Bd.notSynchronized Bd.returns (t := .boolean) (by simp) (z' := (0 : Int32)) rfl (hb hby d2_43) ⟨by first | (simp only [f2, if_neg hc4, if_pos hc5, if_pos hc7, if_neg hc9]; done) | rfl | (simp [f2, if_neg hc4, if_pos hc5, if_pos hc7, if_neg hc9]; done), N0, e8⟩ (by decide) (by decide)
      · refine Go.step (fun t k => XS.ifYes X6.here hx rfl (pc0 := 25) (pc' := 42) rfl (hb hby d2_25) rfl ((if0 _ _).trans (flt (fun q => hc7 ((lw_gt _ _).mp q))).2.2.2) (by decide) (by decide) k) ?_
        show Go p e below _ (T6.setTop (mkF m 42 #[.val (.long q1), .second, .val (.int p2), .val (.int v3)] []))
        refine Go.step (fun t k => XS.iconst X6.here hx rfl (hb hby d2_42)  k) ?_
        show Go p e below _ (T6.setTop (mkF m 43 #[.val (.long q1), .second, .val (.int p2), .val (.int v3)] [(.int (0 : Int32))]))
        subst hv3
        exact retGN X6 hx Bd.notSynchronized Bd.returns (t := .boolean) (by simp) (z' := (0 : Int32)) rfl (hb hby d2_43) ⟨by first | (simp only [f2, if_neg hc4, if_pos hc5, if_neg hc7]; done) | rfl | (simp [f2, if_neg hc4, if_pos hc5, if_neg hc7]; done), N0, e6⟩ (by decide) (by decide)
    · refine Go.step (fun t k => XS.icmpYes X0.here hx rfl (pc0 := 14) (pc' := 38) rfl (hb hby d2_14) rfl (flt hc5).2.1 (by decide) (by decide) k) ?_
      show Go p e below _ (s₁.setTop (mkF m 38 #[.val (.long q1), .second, .val (.int p2), .val (.int v3)] []))
      refine Go.step (fun t k => XS.iconst X0.here hx rfl (hb hby d2_38)  k) ?_
      show Go p e below _ (s₁.setTop (mkF m 39 #[.val (.long q1), .second, .val (.int p2), .val (.int v3)] [(.int (1 : Int32))]))
      refine Go.step (fun t k => XS.goto X0.here hx rfl (pc0 := 39) (pc' := 43) rfl (hb hby d2_39) (by decide) (by decide) k) ?_
      show Go p e below _ (s₁.setTop (mkF m 43 #[.val (.long q1), .second, .val (.int p2), .val (.int v3)] [(.int (1 : Int32))]))
      subst hv3
      exact retGN X0 hx Bd.notSynchronized Bd.returns (t := .boolean) (by simp) (z' := (1 : Int32)) rfl (hb hby d2_43) ⟨by first | (simp only [f2, if_neg hc4, if_neg hc5]; done) | rfl | (simp [f2, if_neg hc4, if_neg hc5]; done), N0, e0⟩ (by decide) (by decide)
theorem pd_0 : parseMethodDescriptor "(J)J" = some ⟨[.long], some .long⟩ := by decide +kernel
theorem pd_1 : parseMethodDescriptor "(JI)Z" = some ⟨[.long, .int], some .boolean⟩ := by decide +kernel
theorem ef_0 (m : MethodId) (q1 : Int64) (p2 : Int32) : entryFrame m #[(.long q1), (.int p2)] maxLocals = mkF m 0 #[.val (.long q1), .second, .val (.int p2), .unset, .unset, .unset, .unset, .unset, .unset, .unset] [] := by first | (simp [entryFrame, mkF, argsToLocals, Value.category, maxLocals]; done) | rfl
theorem pn_1 : plainName "com/example/biller/biller/DecimalColumnWithinLimitsPinLaw" = true := by first | (simp [plainName, overriddenIn]; done) | decide +kernel
def f0 (q1 : Int64) (p2 : Int32) : Int32 := (if (f2 (q1 % (1000000000000000000 : Int64)) ((p2 &&& (2147483647 : Int32)) % (19 : Int32))) = (if (12 : Int32) < ((p2 &&& (2147483647 : Int32)) % (19 : Int32)) then (0 : Int32) else (if (f1 ((q1 % (1000000000000000000 : Int64)) / ((upd (upd (upd (upd (upd (upd (upd (upd (upd (upd (upd (upd (upd (fun _ => (0 : Int64)) 0 (1 : Int64)) 1 (10 : Int64)) 2 (100 : Int64)) 3 (1000 : Int64)) 4 (10000 : Int64)) 5 (100000 : Int64)) 6 (1000000 : Int64)) 7 (10000000 : Int64)) 8 (100000000 : Int64)) 9 (1000000000 : Int64)) 10 (10000000000 : Int64)) 11 (100000000000 : Int64)) 12 (1000000000000 : Int64)) ((p2 &&& (2147483647 : Int32)) % (19 : Int32)).toNatClampNeg))) < (1000000000000 : Int64) then (1 : Int32) else (0 : Int32))) then (1 : Int32) else (0 : Int32))
set_option maxRecDepth 65536 in
set_option maxHeartbeats 40000000 in
theorem rm0 (l : Launch) (Z : State) (a0 : Array Value) (hw : ∀ d ∈ tables_1, d.before a0 Z = true) (ws : List Jvm.Cond) (q1 : Int64) (p2 : Int32) (oP : Addr) (h0 : Heap) (n0 : Nat) (Z0 : n0 ≤ h0.size) (hO : Old Z n0 h0) (S_POWERS_OF_TEN : Sta Z Z.heap "com/example/biller/biller/DecimalColumn" "POWERS_OF_TEN" "[J" (.ref oP)) (A_POWERS_OF_TEN : Ary Z Z.heap oP .long 19 (fun i => .long (powT i))) (hp149_hs : ¬ ((p2 &&& (2147483647 : Int32)) % (19 : Int32)) < (0 : Int32)) :
    MetFree l x (head1 (Jvm.Cond.code x code maxLocals ret :: ws) room_1) (fun a U => a = #[(.long q1), (.int p2)] ∧ Z.Warmed39 U.vm ∧ U.heap = h0) (fun _ _ _ _ _ => True) (fun _ U o U' => ∃ v L, o = .returned v ∧ QL (.int (f0 q1 p2)) n0 v U'.heap L ∧ FrameEnd U o U' L room_1.cells room_1.slots) := by
  refine MetFree.of_bodySF (plainFor_of_name pn_1) hisR ?_
  intro p e s m args below meth c s₁ Bd hml0 hP hK
  obtain ⟨rfl, hZ, hh⟩ := hP
  have hx := Bd.exec
  have hby := Bd.bytes
  have hml : c.maxLocals = 10 := hml0
  have hown : s.vm.findClass "com/example/biller/biller/DecimalColumnWithinLimitsPinLaw" = some m.cls := findClass_of_methodNamed Bd.named
  have hnm := (name_of_methodNamed Bd.named Bd.method).1
  have X0 : Stand p l e room_1 s m #[(.long q1), (.int p2)] below meth c s₁ [] 0 0 := Stand.of_body Bd
  have e0 : s₁.heap = h0 := by rw [← hh, Bd.state]; rfl
  have N0 := Fr.nil n0
  refine Go.done (Go.step (fun t k => castTop (ef_0 m q1 p2) k) ?_)
  have KK0 : Keep h0 h0 [] := Keep.refl _ _
  show Go p e below _ (s₁.setTop (mkF m 0 #[.val (.long q1), .second, .val (.int p2), .unset, .unset, .unset, .unset, .unset, .unset, .unset] []))
  refine Go.step (fun t k => XS.bipush X0.here hx rfl (hb hby at_0)  k) ?_
  show Go p e below _ (s₁.setTop (mkF m 2 #[.val (.long q1), .second, .val (.int p2), .unset, .unset, .unset, .unset, .unset, .unset, .unset] [(.int (13 : Int32))]))
  obtain ⟨T3, h3, k3, X3, e3, E3, A3, st3⟩ := newP X0 hx hZ (hw _ (List.mem_of_getElem? (i := 0) rfl)) e0 (g := (mkF m 2 #[.val (.long q1), .second, .val (.int p2), .unset, .unset, .unset, .unset, .unset, .unset, .unset] [(.int (13 : Int32))])) rfl (hb hby at_2) rfl (by decide) (cap := 13) (by decide) (by decide) (by decide) (by decide)
  obtain ⟨b3, g3⟩ : ∃ z, z = h0.size := ⟨_, rfl⟩
  rw [← g3] at A3 st3
  have g_b3 : n0 ≤ b3 := Nat.le_trans Z0 (Nat.le_of_eq g3.symm)
  have sz_b3 : h0.size ≤ b3 := Nat.le_trans KK0.1 (Nat.le_of_eq g3.symm)
  refine Go.step st3 ?_
  have O3 := hO.ext E3
  have Z3 := Nat.le_trans Z0 E3.1
  have KK3 : Keep h0 h3 [] := KK0.ext E3
  have A_b3_3 : Ary Z h3 b3 .long 13 (fun i => .long ((fun _ => (0 : Int64)) i)) := Ary.mk A3 (by decide) (by decide)
  show Go p e below _ (T3.setTop (mkF m 4 #[.val (.long q1), .second, .val (.int p2), .unset, .unset, .unset, .unset, .unset, .unset, .unset] [(.ref b3)]))
  refine Go.step (fun t k => XS.dup X3.here hx rfl (hb hby at_4) rfl rfl k) ?_
  show Go p e below _ (T3.setTop (mkF m 5 #[.val (.long q1), .second, .val (.int p2), .unset, .unset, .unset, .unset, .unset, .unset, .unset] [(.ref b3), (.ref b3)]))
  refine Go.step (fun t k => XS.iconst X3.here hx rfl (hb hby at_5)  k) ?_
  show Go p e below _ (T3.setTop (mkF m 6 #[.val (.long q1), .second, .val (.int p2), .unset, .unset, .unset, .unset, .unset, .unset, .unset] [(.int (0 : Int32)), (.ref b3), (.ref b3)]))
  refine Go.step (fun t k => XS.lconst X3.here hx rfl (hb hby at_6)  k) ?_
  show Go p e below _ (T3.setTop (mkF m 7 #[.val (.long q1), .second, .val (.int p2), .unset, .unset, .unset, .unset, .unset, .unset, .unset] [(.long (1 : Int64)), (.int (0 : Int32)), (.ref b3), (.ref b3)]))
  obtain ⟨cl4, Ar4, in4, -⟩ := A_b3_3.hin (j := (0 : Int32)) (by decide) (by decide)
  obtain ⟨T4, h4, X4, e4, W4, st4⟩ := stJ X3 hx hZ e3 Ar4 in4 (g := (mkF m 7 #[.val (.long q1), .second, .val (.int p2), .unset, .unset, .unset, .unset, .unset, .unset, .unset] [(.long (1 : Int64)), (.int (0 : Int32)), (.ref b3), (.ref b3)])) rfl rfl (hb hby at_7)
  refine Go.step st4 ?_
  have N4 := Fr.snoc X4 N0 g_b3
  have O4 := O3.wr W4 g_b3
  have Z4 := Nat.le_trans Z3 (Keep.of_wr W4).1
  have KK4 : Keep h0 h4 [] := KK3.wr W4 (Or.inr sz_b3)
  have A_b3_4 : Ary Z h4 b3 .long 13 (fun i => .long ((upd (fun _ => (0 : Int64)) 0 (1 : Int64)) i)) := A_b3_3.setJ W4 (by decide)
  show Go p e below _ (T4.setTop (mkF m 8 #[.val (.long q1), .second, .val (.int p2), .unset, .unset, .unset, .unset, .unset, .unset, .unset] [(.ref b3)]))
  refine Go.step (fun t k => XS.dup X4.here hx rfl (hb hby at_8) rfl rfl k) ?_
  show Go p e below _ (T4.setTop (mkF m 9 #[.val (.long q1), .second, .val (.int p2), .unset, .unset, .unset, .unset, .unset, .unset, .unset] [(.ref b3), (.ref b3)]))
  refine Go.step (fun t k => XS.iconst X4.here hx rfl (hb hby at_9)  k) ?_
  show Go p e below _ (T4.setTop (mkF m 10 #[.val (.long q1), .second, .val (.int p2), .unset, .unset, .unset, .unset, .unset, .unset, .unset] [(.int (1 : Int32)), (.ref b3), (.ref b3)]))
  refine Go.step (X4.ldc2Long hx hown (mvT hZ (hw _ (List.mem_of_getElem? (i := 1) rfl))) (g := (mkF m 10 #[.val (.long q1), .second, .val (.int p2), .unset, .unset, .unset, .unset, .unset, .unset, .unset] [(.int (1 : Int32)), (.ref b3), (.ref b3)])) rfl (hb hby at_10)) ?_
  show Go p e below _ (T4.setTop (mkF m 13 #[.val (.long q1), .second, .val (.int p2), .unset, .unset, .unset, .unset, .unset, .unset, .unset] [(.long (10 : Int64)), (.int (1 : Int32)), (.ref b3), (.ref b3)]))
  obtain ⟨cl5, Ar5, in5, -⟩ := A_b3_4.hin (j := (1 : Int32)) (by decide) (by decide)
  obtain ⟨T5, h5, X5, e5, W5, st5⟩ := stJ X4 hx hZ e4 Ar5 in5 (g := (mkF m 13 #[.val (.long q1), .second, .val (.int p2), .unset, .unset, .unset, .unset, .unset, .unset, .unset] [(.long (10 : Int64)), (.int (1 : Int32)), (.ref b3), (.ref b3)])) rfl rfl (hb hby at_13)
  refine Go.step st5 ?_
  have N5 := Fr.snoc X5 N4 g_b3
  have O5 := O4.wr W5 g_b3
  have Z5 := Nat.le_trans Z4 (Keep.of_wr W5).1
  have KK5 : Keep h0 h5 [] := KK4.wr W5 (Or.inr sz_b3)
  have A_b3_5 : Ary Z h5 b3 .long 13 (fun i => .long ((upd (upd (fun _ => (0 : Int64)) 0 (1 : Int64)) 1 (10 : Int64)) i)) := A_b3_4.setJ W5 (by decide)
  show Go p e below _ (T5.setTop (mkF m 14 #[.val (.long q1), .second, .val (.int p2), .unset, .unset, .unset, .unset, .unset, .unset, .unset] [(.ref b3)]))
  refine Go.step (fun t k => XS.dup X5.here hx rfl (hb hby at_14) rfl rfl k) ?_
  show Go p e below _ (T5.setTop (mkF m 15 #[.val (.long q1), .second, .val (.int p2), .unset, .unset, .unset, .unset, .unset, .unset, .unset] [(.ref b3), (.ref b3)]))
  refine Go.step (fun t k => XS.iconst X5.here hx rfl (hb hby at_15)  k) ?_
  show Go p e below _ (T5.setTop (mkF m 16 #[.val (.long q1), .second, .val (.int p2), .unset, .unset, .unset, .unset, .unset, .unset, .unset] [(.int (2 : Int32)), (.ref b3), (.ref b3)]))
  refine Go.step (X5.ldc2Long hx hown (mvT hZ (hw _ (List.mem_of_getElem? (i := 2) rfl))) (g := (mkF m 16 #[.val (.long q1), .second, .val (.int p2), .unset, .unset, .unset, .unset, .unset, .unset, .unset] [(.int (2 : Int32)), (.ref b3), (.ref b3)])) rfl (hb hby at_16)) ?_
  show Go p e below _ (T5.setTop (mkF m 19 #[.val (.long q1), .second, .val (.int p2), .unset, .unset, .unset, .unset, .unset, .unset, .unset] [(.long (100 : Int64)), (.int (2 : Int32)), (.ref b3), (.ref b3)]))
  obtain ⟨cl6, Ar6, in6, -⟩ := A_b3_5.hin (j := (2 : Int32)) (by decide) (by decide)
  obtain ⟨T6, h6, X6, e6, W6, st6⟩ := stJ X5 hx hZ e5 Ar6 in6 (g := (mkF m 19 #[.val (.long q1), .second, .val (.int p2), .unset, .unset, .unset, .unset, .unset, .unset, .unset] [(.long (100 : Int64)), (.int (2 : Int32)), (.ref b3), (.ref b3)])) rfl rfl (hb hby at_19)
  refine Go.step st6 ?_
  have N6 := Fr.snoc X6 N5 g_b3
  have O6 := O5.wr W6 g_b3
  have Z6 := Nat.le_trans Z5 (Keep.of_wr W6).1
  have KK6 : Keep h0 h6 [] := KK5.wr W6 (Or.inr sz_b3)
  have A_b3_6 : Ary Z h6 b3 .long 13 (fun i => .long ((upd (upd (upd (fun _ => (0 : Int64)) 0 (1 : Int64)) 1 (10 : Int64)) 2 (100 : Int64)) i)) := A_b3_5.setJ W6 (by decide)
  show Go p e below _ (T6.setTop (mkF m 20 #[.val (.long q1), .second, .val (.int p2), .unset, .unset, .unset, .unset, .unset, .unset, .unset] [(.ref b3)]))
  refine Go.step (fun t k => XS.dup X6.here hx rfl (hb hby at_20) rfl rfl k) ?_
  show Go p e below _ (T6.setTop (mkF m 21 #[.val (.long q1), .second, .val (.int p2), .unset, .unset, .unset, .unset, .unset, .unset, .unset] [(.ref b3), (.ref b3)]))
  refine Go.step (fun t k => XS.iconst X6.here hx rfl (hb hby at_21)  k) ?_
  show Go p e below _ (T6.setTop (mkF m 22 #[.val (.long q1), .second, .val (.int p2), .unset, .unset, .unset, .unset, .unset, .unset, .unset] [(.int (3 : Int32)), (.ref b3), (.ref b3)]))
  refine Go.step (X6.ldc2Long hx hown (mvT hZ (hw _ (List.mem_of_getElem? (i := 3) rfl))) (g := (mkF m 22 #[.val (.long q1), .second, .val (.int p2), .unset, .unset, .unset, .unset, .unset, .unset, .unset] [(.int (3 : Int32)), (.ref b3), (.ref b3)])) rfl (hb hby at_22)) ?_
  show Go p e below _ (T6.setTop (mkF m 25 #[.val (.long q1), .second, .val (.int p2), .unset, .unset, .unset, .unset, .unset, .unset, .unset] [(.long (1000 : Int64)), (.int (3 : Int32)), (.ref b3), (.ref b3)]))
  obtain ⟨cl7, Ar7, in7, -⟩ := A_b3_6.hin (j := (3 : Int32)) (by decide) (by decide)
  obtain ⟨T7, h7, X7, e7, W7, st7⟩ := stJ X6 hx hZ e6 Ar7 in7 (g := (mkF m 25 #[.val (.long q1), .second, .val (.int p2), .unset, .unset, .unset, .unset, .unset, .unset, .unset] [(.long (1000 : Int64)), (.int (3 : Int32)), (.ref b3), (.ref b3)])) rfl rfl (hb hby at_25)
  refine Go.step st7 ?_
  have N7 := Fr.snoc X7 N6 g_b3
  have O7 := O6.wr W7 g_b3
  have Z7 := Nat.le_trans Z6 (Keep.of_wr W7).1
  have KK7 : Keep h0 h7 [] := KK6.wr W7 (Or.inr sz_b3)
  have A_b3_7 : Ary Z h7 b3 .long 13 (fun i => .long ((upd (upd (upd (upd (fun _ => (0 : Int64)) 0 (1 : Int64)) 1 (10 : Int64)) 2 (100 : Int64)) 3 (1000 : Int64)) i)) := A_b3_6.setJ W7 (by decide)
  show Go p e below _ (T7.setTop (mkF m 26 #[.val (.long q1), .second, .val (.int p2), .unset, .unset, .unset, .unset, .unset, .unset, .unset] [(.ref b3)]))
  refine Go.step (fun t k => XS.dup X7.here hx rfl (hb hby at_26) rfl rfl k) ?_
  show Go p e below _ (T7.setTop (mkF m 27 #[.val (.long q1), .second, .val (.int p2), .unset, .unset, .unset, .unset, .unset, .unset, .unset] [(.ref b3), (.ref b3)]))
  refine Go.step (fun t k => XS.iconst X7.here hx rfl (hb hby at_27)  k) ?_
  show Go p e below _ (T7.setTop (mkF m 28 #[.val (.long q1), .second, .val (.int p2), .unset, .unset, .unset, .unset, .unset, .unset, .unset] [(.int (4 : Int32)), (.ref b3), (.ref b3)]))
  refine Go.step (X7.ldc2Long hx hown (mvT hZ (hw _ (List.mem_of_getElem? (i := 4) rfl))) (g := (mkF m 28 #[.val (.long q1), .second, .val (.int p2), .unset, .unset, .unset, .unset, .unset, .unset, .unset] [(.int (4 : Int32)), (.ref b3), (.ref b3)])) rfl (hb hby at_28)) ?_
  show Go p e below _ (T7.setTop (mkF m 31 #[.val (.long q1), .second, .val (.int p2), .unset, .unset, .unset, .unset, .unset, .unset, .unset] [(.long (10000 : Int64)), (.int (4 : Int32)), (.ref b3), (.ref b3)]))
  obtain ⟨cl8, Ar8, in8, -⟩ := A_b3_7.hin (j := (4 : Int32)) (by decide) (by decide)
  obtain ⟨T8, h8, X8, e8, W8, st8⟩ := stJ X7 hx hZ e7 Ar8 in8 (g := (mkF m 31 #[.val (.long q1), .second, .val (.int p2), .unset, .unset, .unset, .unset, .unset, .unset, .unset] [(.long (10000 : Int64)), (.int (4 : Int32)), (.ref b3), (.ref b3)])) rfl rfl (hb hby at_31)
  refine Go.step st8 ?_
  have N8 := Fr.snoc X8 N7 g_b3
  have O8 := O7.wr W8 g_b3
  have Z8 := Nat.le_trans Z7 (Keep.of_wr W8).1
  have KK8 : Keep h0 h8 [] := KK7.wr W8 (Or.inr sz_b3)
  have A_b3_8 : Ary Z h8 b3 .long 13 (fun i => .long ((upd (upd (upd (upd (upd (fun _ => (0 : Int64)) 0 (1 : Int64)) 1 (10 : Int64)) 2 (100 : Int64)) 3 (1000 : Int64)) 4 (10000 : Int64)) i)) := A_b3_7.setJ W8 (by decide)
  show Go p e below _ (T8.setTop (mkF m 32 #[.val (.long q1), .second, .val (.int p2), .unset, .unset, .unset, .unset, .unset, .unset, .unset] [(.ref b3)]))
  refine Go.step (fun t k => XS.dup X8.here hx rfl (hb hby at_32) rfl rfl k) ?_
  show Go p e below _ (T8.setTop (mkF m 33 #[.val (.long q1), .second, .val (.int p2), .unset, .unset, .unset, .unset, .unset, .unset, .unset] [(.ref b3), (.ref b3)]))
  refine Go.step (fun t k => XS.iconst X8.here hx rfl (hb hby at_33)  k) ?_
  show Go p e below _ (T8.setTop (mkF m 34 #[.val (.long q1), .second, .val (.int p2), .unset, .unset, .unset, .unset, .unset, .unset, .unset] [(.int (5 : Int32)), (.ref b3), (.ref b3)]))
  refine Go.step (X8.ldc2Long hx hown (mvT hZ (hw _ (List.mem_of_getElem? (i := 5) rfl))) (g := (mkF m 34 #[.val (.long q1), .second, .val (.int p2), .unset, .unset, .unset, .unset, .unset, .unset, .unset] [(.int (5 : Int32)), (.ref b3), (.ref b3)])) rfl (hb hby at_34)) ?_
  show Go p e below _ (T8.setTop (mkF m 37 #[.val (.long q1), .second, .val (.int p2), .unset, .unset, .unset, .unset, .unset, .unset, .unset] [(.long (100000 : Int64)), (.int (5 : Int32)), (.ref b3), (.ref b3)]))
  obtain ⟨cl9, Ar9, in9, -⟩ := A_b3_8.hin (j := (5 : Int32)) (by decide) (by decide)
  obtain ⟨T9, h9, X9, e9, W9, st9⟩ := stJ X8 hx hZ e8 Ar9 in9 (g := (mkF m 37 #[.val (.long q1), .second, .val (.int p2), .unset, .unset, .unset, .unset, .unset, .unset, .unset] [(.long (100000 : Int64)), (.int (5 : Int32)), (.ref b3), (.ref b3)])) rfl rfl (hb hby at_37)
  refine Go.step st9 ?_
  have N9 := Fr.snoc X9 N8 g_b3
  have O9 := O8.wr W9 g_b3
  have Z9 := Nat.le_trans Z8 (Keep.of_wr W9).1
  have KK9 : Keep h0 h9 [] := KK8.wr W9 (Or.inr sz_b3)
  have A_b3_9 : Ary Z h9 b3 .long 13 (fun i => .long ((upd (upd (upd (upd (upd (upd (fun _ => (0 : Int64)) 0 (1 : Int64)) 1 (10 : Int64)) 2 (100 : Int64)) 3 (1000 : Int64)) 4 (10000 : Int64)) 5 (100000 : Int64)) i)) := A_b3_8.setJ W9 (by decide)
  show Go p e below _ (T9.setTop (mkF m 38 #[.val (.long q1), .second, .val (.int p2), .unset, .unset, .unset, .unset, .unset, .unset, .unset] [(.ref b3)]))
  refine Go.step (fun t k => XS.dup X9.here hx rfl (hb hby at_38) rfl rfl k) ?_
  show Go p e below _ (T9.setTop (mkF m 39 #[.val (.long q1), .second, .val (.int p2), .unset, .unset, .unset, .unset, .unset, .unset, .unset] [(.ref b3), (.ref b3)]))
  refine Go.step (fun t k => XS.bipush X9.here hx rfl (hb hby at_39)  k) ?_
  show Go p e below _ (T9.setTop (mkF m 41 #[.val (.long q1), .second, .val (.int p2), .unset, .unset, .unset, .unset, .unset, .unset, .unset] [(.int (6 : Int32)), (.ref b3), (.ref b3)]))
  refine Go.step (X9.ldc2Long hx hown (mvT hZ (hw _ (List.mem_of_getElem? (i := 6) rfl))) (g := (mkF m 41 #[.val (.long q1), .second, .val (.int p2), .unset, .unset, .unset, .unset, .unset, .unset, .unset] [(.int (6 : Int32)), (.ref b3), (.ref b3)])) rfl (hb hby at_41)) ?_
  show Go p e below _ (T9.setTop (mkF m 44 #[.val (.long q1), .second, .val (.int p2), .unset, .unset, .unset, .unset, .unset, .unset, .unset] [(.long (1000000 : Int64)), (.int (6 : Int32)), (.ref b3), (.ref b3)]))
  obtain ⟨cl10, Ar10, in10, -⟩ := A_b3_9.hin (j := (6 : Int32)) (by decide) (by decide)
  obtain ⟨T10, h10, X10, e10, W10, st10⟩ := stJ X9 hx hZ e9 Ar10 in10 (g := (mkF m 44 #[.val (.long q1), .second, .val (.int p2), .unset, .unset, .unset, .unset, .unset, .unset, .unset] [(.long (1000000 : Int64)), (.int (6 : Int32)), (.ref b3), (.ref b3)])) rfl rfl (hb hby at_44)
  refine Go.step st10 ?_
  have N10 := Fr.snoc X10 N9 g_b3
  have O10 := O9.wr W10 g_b3
  have Z10 := Nat.le_trans Z9 (Keep.of_wr W10).1
  have KK10 : Keep h0 h10 [] := KK9.wr W10 (Or.inr sz_b3)
  have A_b3_10 : Ary Z h10 b3 .long 13 (fun i => .long ((upd (upd (upd (upd (upd (upd (upd (fun _ => (0 : Int64)) 0 (1 : Int64)) 1 (10 : Int64)) 2 (100 : Int64)) 3 (1000 : Int64)) 4 (10000 : Int64)) 5 (100000 : Int64)) 6 (1000000 : Int64)) i)) := A_b3_9.setJ W10 (by decide)
  show Go p e below _ (T10.setTop (mkF m 45 #[.val (.long q1), .second, .val (.int p2), .unset, .unset, .unset, .unset, .unset, .unset, .unset] [(.ref b3)]))
  refine Go.step (fun t k => XS.dup X10.here hx rfl (hb hby at_45) rfl rfl k) ?_
  show Go p e below _ (T10.setTop (mkF m 46 #[.val (.long q1), .second, .val (.int p2), .unset, .unset, .unset, .unset, .unset, .unset, .unset] [(.ref b3), (.ref b3)]))
  refine Go.step (fun t k => XS.bipush X10.here hx rfl (hb hby at_46)  k) ?_
  show Go p e below _ (T10.setTop (mkF m 48 #[.val (.long q1), .second, .val (.int p2), .unset, .unset, .unset, .unset, .unset, .unset, .unset] [(.int (7 : Int32)), (.ref b3), (.ref b3)]))
  refine Go.step (X10.ldc2Long hx hown (mvT hZ (hw _ (List.mem_of_getElem? (i := 7) rfl))) (g := (mkF m 48 #[.val (.long q1), .second, .val (.int p2), .unset, .unset, .unset, .unset, .unset, .unset, .unset] [(.int (7 : Int32)), (.ref b3), (.ref b3)])) rfl (hb hby at_48)) ?_
  show Go p e below _ (T10.setTop (mkF m 51 #[.val (.long q1), .second, .val (.int p2), .unset, .unset, .unset, .unset, .unset, .unset, .unset] [(.long (10000000 : Int64)), (.int (7 : Int32)), (.ref b3), (.ref b3)]))
  obtain ⟨cl11, Ar11, in11, -⟩ := A_b3_10.hin (j := (7 : Int32)) (by decide) (by decide)
  obtain ⟨T11, h11, X11, e11, W11, st11⟩ := stJ X10 hx hZ e10 Ar11 in11 (g := (mkF m 51 #[.val (.long q1), .second, .val (.int p2), .unset, .unset, .unset, .unset, .unset, .unset, .unset] [(.long (10000000 : Int64)), (.int (7 : Int32)), (.ref b3), (.ref b3)])) rfl rfl (hb hby at_51)
  refine Go.step st11 ?_
  have N11 := Fr.snoc X11 N10 g_b3
  have O11 := O10.wr W11 g_b3
  have Z11 := Nat.le_trans Z10 (Keep.of_wr W11).1
  have KK11 : Keep h0 h11 [] := KK10.wr W11 (Or.inr sz_b3)
  have A_b3_11 : Ary Z h11 b3 .long 13 (fun i => .long ((upd (upd (upd (upd (upd (upd (upd (upd (fun _ => (0 : Int64)) 0 (1 : Int64)) 1 (10 : Int64)) 2 (100 : Int64)) 3 (1000 : Int64)) 4 (10000 : Int64)) 5 (100000 : Int64)) 6 (1000000 : Int64)) 7 (10000000 : Int64)) i)) := A_b3_10.setJ W11 (by decide)
  show Go p e below _ (T11.setTop (mkF m 52 #[.val (.long q1), .second, .val (.int p2), .unset, .unset, .unset, .unset, .unset, .unset, .unset] [(.ref b3)]))
  refine Go.step (fun t k => XS.dup X11.here hx rfl (hb hby at_52) rfl rfl k) ?_
  show Go p e below _ (T11.setTop (mkF m 53 #[.val (.long q1), .second, .val (.int p2), .unset, .unset, .unset, .unset, .unset, .unset, .unset] [(.ref b3), (.ref b3)]))
  refine Go.step (fun t k => XS.bipush X11.here hx rfl (hb hby at_53)  k) ?_
  show Go p e below _ (T11.setTop (mkF m 55 #[.val (.long q1), .second, .val (.int p2), .unset, .unset, .unset, .unset, .unset, .unset, .unset] [(.int (8 : Int32)), (.ref b3), (.ref b3)]))
  refine Go.step (X11.ldc2Long hx hown (mvT hZ (hw _ (List.mem_of_getElem? (i := 8) rfl))) (g := (mkF m 55 #[.val (.long q1), .second, .val (.int p2), .unset, .unset, .unset, .unset, .unset, .unset, .unset] [(.int (8 : Int32)), (.ref b3), (.ref b3)])) rfl (hb hby at_55)) ?_
  show Go p e below _ (T11.setTop (mkF m 58 #[.val (.long q1), .second, .val (.int p2), .unset, .unset, .unset, .unset, .unset, .unset, .unset] [(.long (100000000 : Int64)), (.int (8 : Int32)), (.ref b3), (.ref b3)]))
  obtain ⟨cl12, Ar12, in12, -⟩ := A_b3_11.hin (j := (8 : Int32)) (by decide) (by decide)
  obtain ⟨T12, h12, X12, e12, W12, st12⟩ := stJ X11 hx hZ e11 Ar12 in12 (g := (mkF m 58 #[.val (.long q1), .second, .val (.int p2), .unset, .unset, .unset, .unset, .unset, .unset, .unset] [(.long (100000000 : Int64)), (.int (8 : Int32)), (.ref b3), (.ref b3)])) rfl rfl (hb hby at_58)
  refine Go.step st12 ?_
  have N12 := Fr.snoc X12 N11 g_b3
  have O12 := O11.wr W12 g_b3
  have Z12 := Nat.le_trans Z11 (Keep.of_wr W12).1
  have KK12 : Keep h0 h12 [] := KK11.wr W12 (Or.inr sz_b3)
  have A_b3_12 : Ary Z h12 b3 .long 13 (fun i => .long ((upd (upd (upd (upd (upd (upd (upd (upd (upd (fun _ => (0 : Int64)) 0 (1 : Int64)) 1 (10 : Int64)) 2 (100 : Int64)) 3 (1000 : Int64)) 4 (10000 : Int64)) 5 (100000 : Int64)) 6 (1000000 : Int64)) 7 (10000000 : Int64)) 8 (100000000 : Int64)) i)) := A_b3_11.setJ W12 (by decide)
  show Go p e below _ (T12.setTop (mkF m 59 #[.val (.long q1), .second, .val (.int p2), .unset, .unset, .unset, .unset, .unset, .unset, .unset] [(.ref b3)]))
  refine Go.step (fun t k => XS.dup X12.here hx rfl (hb hby at_59) rfl rfl k) ?_
  show Go p e below _ (T12.setTop (mkF m 60 #[.val (.long q1), .second, .val (.int p2), .unset, .unset, .unset, .unset, .unset, .unset, .unset] [(.ref b3), (.ref b3)]))
  refine Go.step (fun t k => XS.bipush X12.here hx rfl (hb hby at_60)  k) ?_
  show Go p e below _ (T12.setTop (mkF m 62 #[.val (.long q1), .second, .val (.int p2), .unset, .unset, .unset, .unset, .unset, .unset, .unset] [(.int (9 : Int32)), (.ref b3), (.ref b3)]))
  refine Go.step (X12.ldc2Long hx hown (mvT hZ (hw _ (List.mem_of_getElem? (i := 9) rfl))) (g := (mkF m 62 #[.val (.long q1), .second, .val (.int p2), .unset, .unset, .unset, .unset, .unset, .unset, .unset] [(.int (9 : Int32)), (.ref b3), (.ref b3)])) rfl (hb hby at_62)) ?_
  show Go p e below _ (T12.setTop (mkF m 65 #[.val (.long q1), .second, .val (.int p2), .unset, .unset, .unset, .unset, .unset, .unset, .unset] [(.long (1000000000 : Int64)), (.int (9 : Int32)), (.ref b3), (.ref b3)]))
  obtain ⟨cl13, Ar13, in13, -⟩ := A_b3_12.hin (j := (9 : Int32)) (by decide) (by decide)
  obtain ⟨T13, h13, X13, e13, W13, st13⟩ := stJ X12 hx hZ e12 Ar13 in13 (g := (mkF m 65 #[.val (.long q1), .second, .val (.int p2), .unset, .unset, .unset, .unset, .unset, .unset, .unset] [(.long (1000000000 : Int64)), (.int (9 : Int32)), (.ref b3), (.ref b3)])) rfl rfl (hb hby at_65)
  refine Go.step st13 ?_
  have N13 := Fr.snoc X13 N12 g_b3
  have O13 := O12.wr W13 g_b3
  have Z13 := Nat.le_trans Z12 (Keep.of_wr W13).1
  have KK13 : Keep h0 h13 [] := KK12.wr W13 (Or.inr sz_b3)
  have A_b3_13 : Ary Z h13 b3 .long 13 (fun i => .long ((upd (upd (upd (upd (upd (upd (upd (upd (upd (upd (fun _ => (0 : Int64)) 0 (1 : Int64)) 1 (10 : Int64)) 2 (100 : Int64)) 3 (1000 : Int64)) 4 (10000 : Int64)) 5 (100000 : Int64)) 6 (1000000 : Int64)) 7 (10000000 : Int64)) 8 (100000000 : Int64)) 9 (1000000000 : Int64)) i)) := A_b3_12.setJ W13 (by decide)
  show Go p e below _ (T13.setTop (mkF m 66 #[.val (.long q1), .second, .val (.int p2), .unset, .unset, .unset, .unset, .unset, .unset, .unset] [(.ref b3)]))
  refine Go.step (fun t k => XS.dup X13.here hx rfl (hb hby at_66) rfl rfl k) ?_
  show Go p e below _ (T13.setTop (mkF m 67 #[.val (.long q1), .second, .val (.int p2), .unset, .unset, .unset, .unset, .unset, .unset, .unset] [(.ref b3), (.ref b3)]))
  refine Go.step (fun t k => XS.bipush X13.here hx rfl (hb hby at_67)  k) ?_
  show Go p e below _ (T13.setTop (mkF m 69 #[.val (.long q1), .second, .val (.int p2), .unset, .unset, .unset, .unset, .unset, .unset, .unset] [(.int (10 : Int32)), (.ref b3), (.ref b3)]))
  refine Go.step (X13.ldc2Long hx hown (mvT hZ (hw _ (List.mem_of_getElem? (i := 10) rfl))) (g := (mkF m 69 #[.val (.long q1), .second, .val (.int p2), .unset, .unset, .unset, .unset, .unset, .unset, .unset] [(.int (10 : Int32)), (.ref b3), (.ref b3)])) rfl (hb hby at_69)) ?_
  show Go p e below _ (T13.setTop (mkF m 72 #[.val (.long q1), .second, .val (.int p2), .unset, .unset, .unset, .unset, .unset, .unset, .unset] [(.long (10000000000 : Int64)), (.int (10 : Int32)), (.ref b3), (.ref b3)]))
  obtain ⟨cl14, Ar14, in14, -⟩ := A_b3_13.hin (j := (10 : Int32)) (by decide) (by decide)
  obtain ⟨T14, h14, X14, e14, W14, st14⟩ := stJ X13 hx hZ e13 Ar14 in14 (g := (mkF m 72 #[.val (.long q1), .second, .val (.int p2), .unset, .unset, .unset, .unset, .unset, .unset, .unset] [(.long (10000000000 : Int64)), (.int (10 : Int32)), (.ref b3), (.ref b3)])) rfl rfl (hb hby at_72)
  refine Go.step st14 ?_
  have N14 := Fr.snoc X14 N13 g_b3
  have O14 := O13.wr W14 g_b3
  have Z14 := Nat.le_trans Z13 (Keep.of_wr W14).1
  have KK14 : Keep h0 h14 [] := KK13.wr W14 (Or.inr sz_b3)
  have A_b3_14 : Ary Z h14 b3 .long 13 (fun i => .long ((upd (upd (upd (upd (upd (upd (upd (upd (upd (upd (upd (fun _ => (0 : Int64)) 0 (1 : Int64)) 1 (10 : Int64)) 2 (100 : Int64)) 3 (1000 : Int64)) 4 (10000 : Int64)) 5 (100000 : Int64)) 6 (1000000 : Int64)) 7 (10000000 : Int64)) 8 (100000000 : Int64)) 9 (1000000000 : Int64)) 10 (10000000000 : Int64)) i)) := A_b3_13.setJ W14 (by decide)
  show Go p e below _ (T14.setTop (mkF m 73 #[.val (.long q1), .second, .val (.int p2), .unset, .unset, .unset, .unset, .unset, .unset, .unset] [(.ref b3)]))
  refine Go.step (fun t k => XS.dup X14.here hx rfl (hb hby at_73) rfl rfl k) ?_
  show Go p e below _ (T14.setTop (mkF m 74 #[.val (.long q1), .second, .val (.int p2), .unset, .unset, .unset, .unset, .unset, .unset, .unset] [(.ref b3), (.ref b3)]))
  refine Go.step (fun t k => XS.bipush X14.here hx rfl (hb hby at_74)  k) ?_
  show Go p e below _ (T14.setTop (mkF m 76 #[.val (.long q1), .second, .val (.int p2), .unset, .unset, .unset, .unset, .unset, .unset, .unset] [(.int (11 : Int32)), (.ref b3), (.ref b3)]))
  refine Go.step (X14.ldc2Long hx hown (mvT hZ (hw _ (List.mem_of_getElem? (i := 11) rfl))) (g := (mkF m 76 #[.val (.long q1), .second, .val (.int p2), .unset, .unset, .unset, .unset, .unset, .unset, .unset] [(.int (11 : Int32)), (.ref b3), (.ref b3)])) rfl (hb hby at_76)) ?_
  show Go p e below _ (T14.setTop (mkF m 79 #[.val (.long q1), .second, .val (.int p2), .unset, .unset, .unset, .unset, .unset, .unset, .unset] [(.long (100000000000 : Int64)), (.int (11 : Int32)), (.ref b3), (.ref b3)]))
  obtain ⟨cl15, Ar15, in15, -⟩ := A_b3_14.hin (j := (11 : Int32)) (by decide) (by decide)
  obtain ⟨T15, h15, X15, e15, W15, st15⟩ := stJ X14 hx hZ e14 Ar15 in15 (g := (mkF m 79 #[.val (.long q1), .second, .val (.int p2), .unset, .unset, .unset, .unset, .unset, .unset, .unset] [(.long (100000000000 : Int64)), (.int (11 : Int32)), (.ref b3), (.ref b3)])) rfl rfl (hb hby at_79)
  refine Go.step st15 ?_
  have N15 := Fr.snoc X15 N14 g_b3
  have O15 := O14.wr W15 g_b3
  have Z15 := Nat.le_trans Z14 (Keep.of_wr W15).1
  have KK15 : Keep h0 h15 [] := KK14.wr W15 (Or.inr sz_b3)
  have A_b3_15 : Ary Z h15 b3 .long 13 (fun i => .long ((upd (upd (upd (upd (upd (upd (upd (upd (upd (upd (upd (upd (fun _ => (0 : Int64)) 0 (1 : Int64)) 1 (10 : Int64)) 2 (100 : Int64)) 3 (1000 : Int64)) 4 (10000 : Int64)) 5 (100000 : Int64)) 6 (1000000 : Int64)) 7 (10000000 : Int64)) 8 (100000000 : Int64)) 9 (1000000000 : Int64)) 10 (10000000000 : Int64)) 11 (100000000000 : Int64)) i)) := A_b3_14.setJ W15 (by decide)
  show Go p e below _ (T15.setTop (mkF m 80 #[.val (.long q1), .second, .val (.int p2), .unset, .unset, .unset, .unset, .unset, .unset, .unset] [(.ref b3)]))
  refine Go.step (fun t k => XS.dup X15.here hx rfl (hb hby at_80) rfl rfl k) ?_
  show Go p e below _ (T15.setTop (mkF m 81 #[.val (.long q1), .second, .val (.int p2), .unset, .unset, .unset, .unset, .unset, .unset, .unset] [(.ref b3), (.ref b3)]))
  refine Go.step (fun t k => XS.bipush X15.here hx rfl (hb hby at_81)  k) ?_
  show Go p e below _ (T15.setTop (mkF m 83 #[.val (.long q1), .second, .val (.int p2), .unset, .unset, .unset, .unset, .unset, .unset, .unset] [(.int (12 : Int32)), (.ref b3), (.ref b3)]))
  refine Go.step (X15.ldc2Long hx hown (mvT hZ (hw _ (List.mem_of_getElem? (i := 12) rfl))) (g := (mkF m 83 #[.val (.long q1), .second, .val (.int p2), .unset, .unset, .unset, .unset, .unset, .unset, .unset] [(.int (12 : Int32)), (.ref b3), (.ref b3)])) rfl (hb hby at_83)) ?_
  show Go p e below _ (T15.setTop (mkF m 86 #[.val (.long q1), .second, .val (.int p2), .unset, .unset, .unset, .unset, .unset, .unset, .unset] [(.long (1000000000000 : Int64)), (.int (12 : Int32)), (.ref b3), (.ref b3)]))
  obtain ⟨cl16, Ar16, in16, -⟩ := A_b3_15.hin (j := (12 : Int32)) (by decide) (by decide)
  obtain ⟨T16, h16, X16, e16, W16, st16⟩ := stJ X15 hx hZ e15 Ar16 in16 (g := (mkF m 86 #[.val (.long q1), .second, .val (.int p2), .unset, .unset, .unset, .unset, .unset, .unset, .unset] [(.long (1000000000000 : Int64)), (.int (12 : Int32)), (.ref b3), (.ref b3)])) rfl rfl (hb hby at_86)
  refine Go.step st16 ?_
  have N16 := Fr.snoc X16 N15 g_b3
  have O16 := O15.wr W16 g_b3
  have Z16 := Nat.le_trans Z15 (Keep.of_wr W16).1
  have KK16 : Keep h0 h16 [] := KK15.wr W16 (Or.inr sz_b3)
  have A_b3_16 : Ary Z h16 b3 .long 13 (fun i => .long ((upd (upd (upd (upd (upd (upd (upd (upd (upd (upd (upd (upd (upd (fun _ => (0 : Int64)) 0 (1 : Int64)) 1 (10 : Int64)) 2 (100 : Int64)) 3 (1000 : Int64)) 4 (10000 : Int64)) 5 (100000 : Int64)) 6 (1000000 : Int64)) 7 (10000000 : Int64)) 8 (100000000 : Int64)) 9 (1000000000 : Int64)) 10 (10000000000 : Int64)) 11 (100000000000 : Int64)) 12 (1000000000000 : Int64)) i)) := A_b3_15.setJ W16 (by decide)
  show Go p e below _ (T16.setTop (mkF m 87 #[.val (.long q1), .second, .val (.int p2), .unset, .unset, .unset, .unset, .unset, .unset, .unset] [(.ref b3)]))
  refine Go.step (fun t k => XS.astoreN X16.here hx rfl (hb hby at_87) rfl rfl (l' := #[.val (.long q1), .second, .val (.int p2), .val (.ref b3), .unset, .unset, .unset, .unset, .unset, .unset]) rfl k) ?_
  show Go p e below _ (T16.setTop (mkF m 88 #[.val (.long q1), .second, .val (.int p2), .val (.ref b3), .unset, .unset, .unset, .unset, .unset, .unset] []))
  refine Go.step (fun t k => XS.lloadN X16.here hx rfl (hb hby at_88) rfl k) ?_
  show Go p e below _ (T16.setTop (mkF m 89 #[.val (.long q1), .second, .val (.int p2), .val (.ref b3), .unset, .unset, .unset, .unset, .unset, .unset] [(.long q1)]))
  refine Go.step (X16.ldc2Long hx hown (mvT hZ (hw _ (List.mem_of_getElem? (i := 13) rfl))) (g := (mkF m 89 #[.val (.long q1), .second, .val (.int p2), .val (.ref b3), .unset, .unset, .unset, .unset, .unset, .unset] [(.long q1)])) rfl (hb hby at_89)) ?_
  show Go p e below _ (T16.setTop (mkF m 92 #[.val (.long q1), .second, .val (.int p2), .val (.ref b3), .unset, .unset, .unset, .unset, .unset, .unset] [(.long (1000000000000000000 : Int64)), (.long q1)]))
  refine Go.step (fun t (k : Steps p.tables e below (T16.setTop (mkF m 93 #[.val (.long q1), .second, .val (.int p2), .val (.ref b3), .unset, .unset, .unset, .unset, .unset, .unset] [(.long (q1 % (1000000000000000000 : Int64)))])) t) => XS.lrem X16.here hx rfl (hb hby at_92) rfl (by decide) (by rw [lrem_mod]; exact k)) ?_
  show Go p e below _ (T16.setTop (mkF m 93 #[.val (.long q1), .second, .val (.int p2), .val (.ref b3), .unset, .unset, .unset, .unset, .unset, .unset] [(.long (q1 % (1000000000000000000 : Int64)))]))
  obtain ⟨v17, hv17⟩ : ∃ z : Int64, z = (q1 % (1000000000000000000 : Int64)) := ⟨_, rfl⟩
  rw [← hv17]
  show Go p e below _ (T16.setTop (mkF m 93 #[.val (.long q1), .second, .val (.int p2), .val (.ref b3), .unset, .unset, .unset, .unset, .unset, .unset] [(.long v17)]))
  refine Go.step (fun t k => XS.lstore X16.here hx rfl (hb hby at_93) rfl (l' := #[.val (.long q1), .second, .val (.int p2), .val (.ref b3), .val (.long v17), .second, .unset, .unset, .unset, .unset]) rfl k) ?_
  show Go p e below _ (T16.setTop (mkF m 95 #[.val (.long q1), .second, .val (.int p2), .val (.ref b3), .val (.long v17), .second, .unset, .unset, .unset, .unset] []))
  refine Go.step (fun t k => XS.iloadN X16.here hx rfl (hb hby at_95) rfl k) ?_
  show Go p e below _ (T16.setTop (mkF m 96 #[.val (.long q1), .second, .val (.int p2), .val (.ref b3), .val (.long v17), .second, .unset, .unset, .unset, .unset] [(.int p2)]))
  refine Go.step (X16.ldcInt hx hown (mvT hZ (hw _ (List.mem_of_getElem? (i := 14) rfl))) (g := (mkF m 96 #[.val (.long q1), .second, .val (.int p2), .val (.ref b3), .val (.long v17), .second, .unset, .unset, .unset, .unset] [(.int p2)])) rfl (hb hby at_96)) ?_
  show Go p e below _ (T16.setTop (mkF m 98 #[.val (.long q1), .second, .val (.int p2), .val (.ref b3), .val (.long v17), .second, .unset, .unset, .unset, .unset] [(.int (2147483647 : Int32)), (.int p2)]))
  refine Go.step (fun t k => XS.iand X16.here hx rfl (hb hby at_98) rfl k) ?_
  show Go p e below _ (T16.setTop (mkF m 99 #[.val (.long q1), .second, .val (.int p2), .val (.ref b3), .val (.long v17), .second, .unset, .unset, .unset, .unset] [(.int (p2 &&& (2147483647 : Int32)))]))
  refine Go.step (fun t k => XS.bipush X16.here hx rfl (hb hby at_99)  k) ?_
  show Go p e below _ (T16.setTop (mkF m 101 #[.val (.long q1), .second, .val (.int p2), .val (.ref b3), .val (.long v17), .second, .unset, .unset, .unset, .unset] [(.int (19 : Int32)), (.int (p2 &&& (2147483647 : Int32)))]))
  refine Go.step (fun t (k : Steps p.tables e below (T16.setTop (mkF m 102 #[.val (.long q1), .second, .val (.int p2), .val (.ref b3), .val (.long v17), .second, .unset, .unset, .unset, .unset] [(.int ((p2 &&& (2147483647 : Int32)) % (19 : Int32)))])) t) => XS.irem X16.here hx rfl (hb hby at_101) rfl (by decide) (by rw [remI]; exact k)) ?_
  show Go p e below _ (T16.setTop (mkF m 102 #[.val (.long q1), .second, .val (.int p2), .val (.ref b3), .val (.long v17), .second, .unset, .unset, .unset, .unset] [(.int ((p2 &&& (2147483647 : Int32)) % (19 : Int32)))]))
  obtain ⟨v18, hv18⟩ : ∃ z : Int32, z = ((p2 &&& (2147483647 : Int32)) % (19 : Int32)) := ⟨_, rfl⟩
  rw [← hv18]
  show Go p e below _ (T16.setTop (mkF m 102 #[.val (.long q1), .second, .val (.int p2), .val (.ref b3), .val (.long v17), .second, .unset, .unset, .unset, .unset] [(.int v18)]))
  refine Go.step (fun t k => XS.istore X16.here hx rfl (hb hby at_102) rfl (l' := #[.val (.long q1), .second, .val (.int p2), .val (.ref b3), .val (.long v17), .second, .val (.int v18), .unset, .unset, .unset]) rfl k) ?_
  show Go p e below _ (T16.setTop (mkF m 104 #[.val (.long q1), .second, .val (.int p2), .val (.ref b3), .val (.long v17), .second, .val (.int v18), .unset, .unset, .unset] []))
  refine Go.step (fun t k => XS.iload X16.here hx rfl (hb hby at_104) rfl k) ?_
  show Go p e below _ (T16.setTop (mkF m 106 #[.val (.long q1), .second, .val (.int p2), .val (.ref b3), .val (.long v17), .second, .val (.int v18), .unset, .unset, .unset] [(.int v18)]))
  refine Go.step (fun t k => XS.bipush X16.here hx rfl (hb hby at_106)  k) ?_
  show Go p e below _ (T16.setTop (mkF m 108 #[.val (.long q1), .second, .val (.int p2), .val (.ref b3), .val (.long v17), .second, .val (.int v18), .unset, .unset, .unset] [(.int (12 : Int32)), (.int v18)]))
  obtain ⟨v25, hv25⟩ : ∃ z : Int32, z = (if (12 : Int32) < v18 then (0 : Int32) else (if (f1 (v17 / ((upd (upd (upd (upd (upd (upd (upd (upd (upd (upd (upd (upd (upd (fun _ => (0 : Int64)) 0 (1 : Int64)) 1 (10 : Int64)) 2 (100 : Int64)) 3 (1000 : Int64)) 4 (10000 : Int64)) 5 (100000 : Int64)) 6 (1000000 : Int64)) 7 (10000000 : Int64)) 8 (100000000 : Int64)) 9 (1000000000 : Int64)) 10 (10000000000 : Int64)) 11 (100000000000 : Int64)) 12 (1000000000000 : Int64)) v18.toNatClampNeg))) < (1000000000000 : Int64) then (1 : Int32) else (0 : Int32))) := ⟨_, rfl⟩
  obtain ⟨v26, hv26⟩ : ∃ z : Slot, z = (if (12 : Int32) < v18 then (.unset : Slot) else (.val (.long (f1 (v17 / ((upd (upd (upd (upd (upd (upd (upd (upd (upd (upd (upd (upd (upd (fun _ => (0 : Int64)) 0 (1 : Int64)) 1 (10 : Int64)) 2 (100 : Int64)) 3 (1000 : Int64)) 4 (10000 : Int64)) 5 (100000 : Int64)) 6 (1000000 : Int64)) 7 (10000000 : Int64)) 8 (100000000 : Int64)) 9 (1000000000 : Int64)) 10 (10000000000 : Int64)) 11 (100000000000 : Int64)) 12 (1000000000000 : Int64)) v18.toNatClampNeg)))) : Slot)) := ⟨_, rfl⟩
  obtain ⟨v27, hv27⟩ : ∃ z : Slot, z = (if (12 : Int32) < v18 then (.unset : Slot) else (.second : Slot)) := ⟨_, rfl⟩
  have J108 : Go p e below (AtF p l e room_1 s m #[(.long q1), (.int p2)] below meth c n0 1 13 h16 (mkF m 145 #[.val (.long q1), .second, .val (.int p2), .val (.ref b3), .val (.long v17), .second, .val (.int v18), .val (.int v25), v26, v27] [])) (T16.setTop (mkF m 108 #[.val (.long q1), .second, .val (.int p2), .val (.ref b3), .val (.long v17), .second, .val (.int v18), .unset, .unset, .unset] [(.int (12 : Int32)), (.int v18)])) := by
    by_cases hc19 : (12 : Int32) < v18
    · refine Go.step (fun t k => XS.icmpNo X16.here hx rfl (hb hby at_108) rfl (tlt hc19).2.2.2 k) ?_
      show Go p e below _ (T16.setTop (mkF m 111 #[.val (.long q1), .second, .val (.int p2), .val (.ref b3), .val (.long v17), .second, .val (.int v18), .unset, .unset, .unset] []))
      refine Go.step (fun t k => XS.iconst X16.here hx rfl (hb hby at_111)  k) ?_
      show Go p e below _ (T16.setTop (mkF m 112 #[.val (.long q1), .second, .val (.int p2), .val (.ref b3), .val (.long v17), .second, .val (.int v18), .unset, .unset, .unset] [(.int (0 : Int32))]))
      refine Go.step (fun t k => XS.istore X16.here hx rfl (hb hby at_112) rfl (l' := #[.val (.long q1), .second, .val (.int p2), .val (.ref b3), .val (.long v17), .second, .val (.int v18), .val (.int (0 : Int32)), .unset, .unset]) rfl k) ?_
      show Go p e below _ (T16.setTop (mkF m 114 #[.val (.long q1), .second, .val (.int p2), .val (.ref b3), .val (.long v17), .second, .val (.int v18), .val (.int (0 : Int32)), .unset, .unset] []))
      refine Go.step (fun t k => XS.goto X16.here hx rfl (pc0 := 114) (pc' := 145) rfl (hb hby at_114) (by decide) (by decide) k) ?_
      show Go p e below _ (T16.setTop (mkF m 145 #[.val (.long q1), .second, .val (.int p2), .val (.ref b3), .val (.long v17), .second, .val (.int v18), .val (.int (0 : Int32)), .unset, .unset] []))
      exact Go.here ⟨_, _, by simp only [hv25, hv26, hv27, if_pos hc19], X16, N16, e16⟩
    · refine Go.step (fun t k => XS.icmpYes X16.here hx rfl (pc0 := 108) (pc' := 117) rfl (hb hby at_108) rfl (flt hc19).2.2.2 (by decide) (by decide) k) ?_
      show Go p e below _ (T16.setTop (mkF m 117 #[.val (.long q1), .second, .val (.int p2), .val (.ref b3), .val (.long v17), .second, .val (.int v18), .unset, .unset, .unset] []))
      refine Go.step (fun t k => XS.lload X16.here hx rfl (hb hby at_117) rfl k) ?_
      show Go p e below _ (T16.setTop (mkF m 119 #[.val (.long q1), .second, .val (.int p2), .val (.ref b3), .val (.long v17), .second, .val (.int v18), .unset, .unset, .unset] [(.long v17)]))
      refine Go.step (fun t k => XS.aloadN X16.here hx rfl (hb hby at_119) rfl rfl k) ?_
      show Go p e below _ (T16.setTop (mkF m 120 #[.val (.long q1), .second, .val (.int p2), .val (.ref b3), .val (.long v17), .second, .val (.int v18), .unset, .unset, .unset] [(.ref b3), (.long v17)]))
      refine Go.step (fun t k => XS.iload X16.here hx rfl (hb hby at_120) rfl k) ?_
      show Go p e below _ (T16.setTop (mkF m 122 #[.val (.long q1), .second, .val (.int p2), .val (.ref b3), .val (.long v17), .second, .val (.int v18), .unset, .unset, .unset] [(.int v18), (.ref b3), (.long v17)]))
      refine Go.step (ldJ X16 hx hZ e16 A_b3_16 (j := v18) ((by subst_vars; exact (own_b122 _ (by assumption)).1) : ¬ v18 < 0) ((by subst_vars; exact (own_b122 _ (by assumption)).2) : v18.toNatClampNeg < 13) (g := (mkF m 122 #[.val (.long q1), .second, .val (.int p2), .val (.ref b3), .val (.long v17), .second, .val (.int v18), .unset, .unset, .unset] [(.int v18), (.ref b3), (.long v17)])) rfl rfl (hb hby at_122)) ?_
      show Go p e below _ (T16.setTop (mkF m 123 #[.val (.long q1), .second, .val (.int p2), .val (.ref b3), .val (.long v17), .second, .val (.int v18), .unset, .unset, .unset] [(.long ((upd (upd (upd (upd (upd (upd (upd (upd (upd (upd (upd (upd (upd (fun _ => (0 : Int64)) 0 (1 : Int64)) 1 (10 : Int64)) 2 (100 : Int64)) 3 (1000 : Int64)) 4 (10000 : Int64)) 5 (100000 : Int64)) 6 (1000000 : Int64)) 7 (10000000 : Int64)) 8 (100000000 : Int64)) 9 (1000000000 : Int64)) 10 (10000000000 : Int64)) 11 (100000000000 : Int64)) 12 (1000000000000 : Int64)) v18.toNatClampNeg)), (.long v17)]))
      refine Go.step (fun t k => XS.ldiv X16.here hx rfl (hb hby at_123) rfl (by subst_vars; exact own_nz _ (by assumption)) k) ?_
      show Go p e below _ (T16.setTop (mkF m 124 #[.val (.long q1), .second, .val (.int p2), .val (.ref b3), .val (.long v17), .second, .val (.int v18), .unset, .unset, .unset] [(.long (v17 / ((upd (upd (upd (upd (upd (upd (upd (upd (upd (upd (upd (upd (upd (fun _ => (0 : Int64)) 0 (1 : Int64)) 1 (10 : Int64)) 2 (100 : Int64)) 3 (1000 : Int64)) 4 (10000 : Int64)) 5 (100000 : Int64)) 6 (1000000 : Int64)) 7 (10000000 : Int64)) 8 (100000000 : Int64)) 9 (1000000000 : Int64)) 10 (10000000000 : Int64)) 11 (100000000000 : Int64)) 12 (1000000000000 : Int64)) v18.toNatClampNeg)))]))
      obtain ⟨_, _, ⟨T20, L20, k20, n20⟩, -, X20, ⟨Lc20, hQ20, l20, y20, z20⟩, st20⟩ := Jvm.LawKit.callS X16 hx (y := (⟨"java/lang/Math", "abs", "(J)J"⟩ : MethodName)) hown (mvT hZ (hw _ (List.mem_of_getElem? (i := 15) rfl))) (mvT hZ (hw _ (List.mem_of_getElem? (i := 16) rfl))) (mvT hZ (hw _ (List.mem_of_getElem? (i := 17) rfl))) (mvT hZ (hw _ (List.mem_of_getElem? (i := 18) rfl))) (by decide) (backOf (W := 0) (rm1 l Z a0 hw [] (v17 / ((upd (upd (upd (upd (upd (upd (upd (upd (upd (upd (upd (upd (upd (fun _ => (0 : Int64)) 0 (1 : Int64)) 1 (10 : Int64)) 2 (100 : Int64)) 3 (1000 : Int64)) 4 (10000 : Int64)) 5 (100000 : Int64)) 6 (1000000 : Int64)) 7 (10000000 : Int64)) 8 (100000000 : Int64)) 9 (1000000000 : Int64)) 10 (10000000000 : Int64)) 11 (100000000000 : Int64)) 12 (1000000000000 : Int64)) v18.toNatClampNeg)) h16 n0 Z16) hZ (hw _ (List.mem_of_getElem? (i := 18) rfl)) (hw _ (List.mem_of_getElem? (i := 17) rfl)) (by decide) (by decide)) (g := (mkF m 124 #[.val (.long q1), .second, .val (.int p2), .val (.ref b3), .val (.long v17), .second, .val (.int v18), .unset, .unset, .unset] [(.long (v17 / ((upd (upd (upd (upd (upd (upd (upd (upd (upd (upd (upd (upd (upd (fun _ => (0 : Int64)) 0 (1 : Int64)) 1 (10 : Int64)) 2 (100 : Int64)) 3 (1000 : Int64)) 4 (10000 : Int64)) 5 (100000 : Int64)) 6 (1000000 : Int64)) 7 (10000000 : Int64)) 8 (100000000 : Int64)) 9 (1000000000 : Int64)) 10 (10000000000 : Int64)) 11 (100000000000 : Int64)) 12 (1000000000000 : Int64)) v18.toNatClampNeg)))])) rfl (by rw [hml]; rfl) (argsL := [(.long (v17 / ((upd (upd (upd (upd (upd (upd (upd (upd (upd (upd (upd (upd (upd (fun _ => (0 : Int64)) 0 (1 : Int64)) 1 (10 : Int64)) 2 (100 : Int64)) 3 (1000 : Int64)) 4 (10000 : Int64)) 5 (100000 : Int64)) 6 (1000000 : Int64)) 7 (10000000 : Int64)) 8 (100000000 : Int64)) 9 (1000000000 : Int64)) 10 (10000000000 : Int64)) 11 (100000000000 : Int64)) 12 (1000000000000 : Int64)) v18.toNatClampNeg)))]) (rest := []) (lenOf pd_0 rfl) rfl (by show 2 * 0 + _ ≤ _; exact Nat.le_of_eq rfl) (hb hby at_124) (fun _ _ => ⟨rfl, e16, (by decide : 1 + 0 ≤ _), (by decide : 13 + 0 ≤ _)⟩)
      dsimp only [Pt.U, Pt.locs, Pt.cells, Pt.slots] at X20 l20 y20 z20 st20 hQ20
      subst l20 y20 z20
      obtain ⟨rfl, N20q, e20⟩ := hQ20
      have N20 := Fr.app N16 N20q
      refine Go.step st20 ?_
      show Go p e below _ (T20.setTop (mkF m 127 #[.val (.long q1), .second, .val (.int p2), .val (.ref b3), .val (.long v17), .second, .val (.int v18), .unset, .unset, .unset] [(.long (f1 (v17 / ((upd (upd (upd (upd (upd (upd (upd (upd (upd (upd (upd (upd (upd (fun _ => (0 : Int64)) 0 (1 : Int64)) 1 (10 : Int64)) 2 (100 : Int64)) 3 (1000 : Int64)) 4 (10000 : Int64)) 5 (100000 : Int64)) 6 (1000000 : Int64)) 7 (10000000 : Int64)) 8 (100000000 : Int64)) 9 (1000000000 : Int64)) 10 (10000000000 : Int64)) 11 (100000000000 : Int64)) 12 (1000000000000 : Int64)) v18.toNatClampNeg))))]))
      obtain ⟨v21, hv21⟩ : ∃ z : Int64, z = (f1 (v17 / ((upd (upd (upd (upd (upd (upd (upd (upd (upd (upd (upd (upd (upd (fun _ => (0 : Int64)) 0 (1 : Int64)) 1 (10 : Int64)) 2 (100 : Int64)) 3 (1000 : Int64)) 4 (10000 : Int64)) 5 (100000 : Int64)) 6 (1000000 : Int64)) 7 (10000000 : Int64)) 8 (100000000 : Int64)) 9 (1000000000 : Int64)) 10 (10000000000 : Int64)) 11 (100000000000 : Int64)) 12 (1000000000000 : Int64)) v18.toNatClampNeg))) := ⟨_, rfl⟩
      rw [← hv21]
      show Go p e below _ (T20.setTop (mkF m 127 #[.val (.long q1), .second, .val (.int p2), .val (.ref b3), .val (.long v17), .second, .val (.int v18), .unset, .unset, .unset] [(.long v21)]))
      refine Go.step (fun t k => XS.lstore X20.here hx rfl (hb hby at_127) rfl (l' := #[.val (.long q1), .second, .val (.int p2), .val (.ref b3), .val (.long v17), .second, .val (.int v18), .unset, .val (.long v21), .second]) rfl k) ?_
      show Go p e below _ (T20.setTop (mkF m 129 #[.val (.long q1), .second, .val (.int p2), .val (.ref b3), .val (.long v17), .second, .val (.int v18), .unset, .val (.long v21), .second] []))
      refine Go.step (fun t k => XS.lload X20.here hx rfl (hb hby at_129) rfl k) ?_
      show Go p e below _ (T20.setTop (mkF m 131 #[.val (.long q1), .second, .val (.int p2), .val (.ref b3), .val (.long v17), .second, .val (.int v18), .unset, .val (.long v21), .second] [(.long v21)]))
      refine Go.step (X20.ldc2Long hx hown (mvT hZ (hw _ (List.mem_of_getElem? (i := 12) rfl))) (g := (mkF m 131 #[.val (.long q1), .second, .val (.int p2), .val (.ref b3), .val (.long v17), .second, .val (.int v18), .unset, .val (.long v21), .second] [(.long v21)])) rfl (hb hby at_131)) ?_
      show Go p e below _ (T20.setTop (mkF m 134 #[.val (.long q1), .second, .val (.int p2), .val (.ref b3), .val (.long v17), .second, .val (.int v18), .unset, .val (.long v21), .second] [(.long (1000000000000 : Int64)), (.long v21)]))
      refine Go.step (fun t k => XS.lcmp X20.here hx rfl (hb hby at_134) rfl k) ?_
      show Go p e below _ (T20.setTop (mkF m 135 #[.val (.long q1), .second, .val (.int p2), .val (.ref b3), .val (.long v17), .second, .val (.int v18), .unset, .val (.long v21), .second] [(.int (lcmpW v21 (1000000000000 : Int64)))]))
      obtain ⟨v23, hv23⟩ : ∃ z : Int32, z = (if v21 < (1000000000000 : Int64) then (1 : Int32) else (0 : Int32)) := ⟨_, rfl⟩
      have J135 : Go p e below (AtF p l e room_1 s m #[(.long q1), (.int p2)] below meth c n0 1 13 h16 (mkF m 143 #[.val (.long q1), .second, .val (.int p2), .val (.ref b3), .val (.long v17), .second, .val (.int v18), .unset, .val (.long v21), .second] [(.int v23)])) (T20.setTop (mkF m 135 #[.val (.long q1), .second, .val (.int p2), .val (.ref b3), .val (.long v17), .second, .val (.int v18), .unset, .val (.long v21), .second] [(.int (lcmpW v21 (1000000000000 : Int64)))])) := by
        by_cases hc22 : v21 < (1000000000000 : Int64)
        · refine Go.step (fun t k => XS.ifNo X20.here hx rfl (hb hby at_135) rfl ((if0 _ _).trans (tlt ((lw_lt _ _).mpr hc22)).2.1) k) ?_
          show Go p e below _ (T20.setTop (mkF m 138 #[.val (.long q1), .second, .val (.int p2), .val (.ref b3), .val (.long v17), .second, .val (.int v18), .unset, .val (.long v21), .second] []))
          refine Go.step (fun t k => XS.iconst X20.here hx rfl (hb hby at_138)  k) ?_
          show Go p e below _ (T20.setTop (mkF m 139 #[.val (.long q1), .second, .val (.int p2), .val (.ref b3), .val (.long v17), .second, .val (.int v18), .unset, .val (.long v21), .second] [(.int (1 : Int32))]))
          refine Go.step (fun t k => XS.goto X20.here hx rfl (pc0 := 139) (pc' := 143) rfl (hb hby at_139) (by decide) (by decide) k) ?_
          show Go p e below _ (T20.setTop (mkF m 143 #[.val (.long q1), .second, .val (.int p2), .val (.ref b3), .val (.long v17), .second, .val (.int v18), .unset, .val (.long v21), .second] [(.int (1 : Int32))]))
          exact Go.here ⟨_, _, by simp only [hv23, if_pos hc22], X20, N20, e20⟩
        · refine Go.step (fun t k => XS.ifYes X20.here hx rfl (pc0 := 135) (pc' := 142) rfl (hb hby at_135) rfl ((if0 _ _).trans (flt (fun q => hc22 ((lw_lt _ _).mp q))).2.1) (by decide) (by decide) k) ?_
          show Go p e below _ (T20.setTop (mkF m 142 #[.val (.long q1), .second, .val (.int p2), .val (.ref b3), .val (.long v17), .second, .val (.int v18), .unset, .val (.long v21), .second] []))
          refine Go.step (fun t k => XS.iconst X20.here hx rfl (hb hby at_142)  k) ?_
          show Go p e below _ (T20.setTop (mkF m 143 #[.val (.long q1), .second, .val (.int p2), .val (.ref b3), .val (.long v17), .second, .val (.int v18), .unset, .val (.long v21), .second] [(.int (0 : Int32))]))
          exact Go.here ⟨_, _, by simp only [hv23, if_neg hc22], X20, N20, e20⟩
      obtain ⟨_, st24, T24, Lj24, rfl, X24, N24, e24⟩ := J135
      refine Go.trans st24 ?_
      show Go p e below _ (T24.setTop (mkF m 143 #[.val (.long q1), .second, .val (.int p2), .val (.ref b3), .val (.long v17), .second, .val (.int v18), .unset, .val (.long v21), .second] [(.int v23)]))
      refine Go.step (fun t k => XS.istore X24.here hx rfl (hb hby at_143) rfl (l' := #[.val (.long q1), .second, .val (.int p2), .val (.ref b3), .val (.long v17), .second, .val (.int v18), .val (.int v23), .val (.long v21), .second]) rfl k) ?_
      show Go p e below _ (T24.setTop (mkF m 145 #[.val (.long q1), .second, .val (.int p2), .val (.ref b3), .val (.long v17), .second, .val (.int v18), .val (.int v23), .val (.long v21), .second] []))
      subst hv23
      subst hv21
      exact Go.here ⟨_, _, by simp only [hv25, hv26, hv27, if_neg hc19], X24, N24, e24⟩
  obtain ⟨_, st28, T28, Lj28, rfl, X28, N28, e28⟩ := J108
  refine Go.trans st28 ?_
  show Go p e below _ (T28.setTop (mkF m 145 #[.val (.long q1), .second, .val (.int p2), .val (.ref b3), .val (.long v17), .second, .val (.int v18), .val (.int v25), v26, v27] []))
  refine Go.step (fun t k => XS.lload X28.here hx rfl (hb hby at_145) rfl k) ?_
  show Go p e below _ (T28.setTop (mkF m 147 #[.val (.long q1), .second, .val (.int p2), .val (.ref b3), .val (.long v17), .second, .val (.int v18), .val (.int v25), v26, v27] [(.long v17)]))
  refine Go.step (fun t k => XS.iload X28.here hx rfl (hb hby at_147) rfl k) ?_
  show Go p e below _ (T28.setTop (mkF m 149 #[.val (.long q1), .second, .val (.int p2), .val (.ref b3), .val (.long v17), .second, .val (.int v18), .val (.int v25), v26, v27] [(.int v18), (.long v17)]))
  obtain ⟨_, _, ⟨T29, L29, k29, n29⟩, -, X29, ⟨Lc29, hQ29, l29, y29, z29⟩, st29⟩ := Jvm.LawKit.callS X28 hx (y := (⟨"com/example/biller/biller/DecimalColumn", "withinLimits", "(JI)Z"⟩ : MethodName)) hown (mvT hZ (hw _ (List.mem_of_getElem? (i := 19) rfl))) (mvT hZ (hw _ (List.mem_of_getElem? (i := 20) rfl))) (mvT hZ (hw _ (List.mem_of_getElem? (i := 21) rfl))) (mvT hZ (hw _ (List.mem_of_getElem? (i := 22) rfl))) (by decide) (backOf (W := 0) (rm2 l Z a0 hw [] v17 v18 oP h16 n0 Z16 (by simpa only [hv17, hv18, hv25, hv26, hv27] using hp149_hs) S_POWERS_OF_TEN A_POWERS_OF_TEN O16) hZ (hw _ (List.mem_of_getElem? (i := 22) rfl)) (hw _ (List.mem_of_getElem? (i := 21) rfl)) (by decide) (by decide)) (g := (mkF m 149 #[.val (.long q1), .second, .val (.int p2), .val (.ref b3), .val (.long v17), .second, .val (.int v18), .val (.int v25), v26, v27] [(.int v18), (.long v17)])) rfl (by rw [hml]; rfl) (argsL := [(.long v17), (.int v18)]) (rest := []) (lenOf pd_1 rfl) rfl (by show 2 * 0 + _ ≤ _; exact Nat.le_of_eq rfl) (hb hby at_149) (fun _ _ => ⟨rfl, e28, (by decide : 1 + 0 ≤ _), (by decide : 13 + 0 ≤ _)⟩)
  dsimp only [Pt.U, Pt.locs, Pt.cells, Pt.slots] at X29 l29 y29 z29 st29 hQ29
  subst l29 y29 z29
  obtain ⟨rfl, N29q, e29⟩ := hQ29
  have N29 := Fr.app N28 N29q
  refine Go.step st29 ?_
  show Go p e below _ (T29.setTop (mkF m 152 #[.val (.long q1), .second, .val (.int p2), .val (.ref b3), .val (.long v17), .second, .val (.int v18), .val (.int v25), v26, v27] [(.int (f2 v17 v18))]))
  refine Go.step (fun t k => XS.iload X29.here hx rfl (hb hby at_152) rfl k) ?_
  show Go p e below _ (T29.setTop (mkF m 154 #[.val (.long q1), .second, .val (.int p2), .val (.ref b3), .val (.long v17), .second, .val (.int v18), .val (.int v25), v26, v27] [(.int v25), (.int (f2 v17 v18))]))
  by_cases hc30 : (f2 v17 v18) = v25
  · refine Go.step (fun t k => XS.icmpNo X29.here hx rfl (hb hby at_154) rfl (teq hc30).2 k) ?_
    show Go p e below _ (T29.setTop (mkF m 157 #[.val (.long q1), .second, .val (.int p2), .val (.ref b3), .val (.long v17), .second, .val (.int v18), .val (.int v25), v26, v27] []))
    refine Go.step (fun t k => XS.iconst X29.here hx rfl (hb hby at_157)  k) ?_
    show Go p e below _ (T29.setTop (mkF m 158 #[.val (.long q1), .second, .val (.int p2), .val (.ref b3), .val (.long v17), .second, .val (.int v18), .val (.int v25), v26, v27] [(.int (1 : Int32))]))
    refine Go.step (fun t k => XS.goto X29.here hx rfl (pc0 := 158) (pc' := 162) rfl (hb hby at_158) (by decide) (by decide) k) ?_
    show Go p e below _ (T29.setTop (mkF m 162 #[.val (.long q1), .second, .val (.int p2), .val (.ref b3), .val (.long v17), .second, .val (.int v18), .val (.int v25), v26, v27] [(.int (1 : Int32))]))
    subst hv27
    subst hv26
    subst hv25
    subst hv18
    subst hv17
    exact retGN X29 hx Bd.notSynchronized Bd.returns (t := .boolean) (by simp) (z' := (1 : Int32)) rfl (hb hby at_162) ⟨by first | (simp only [f0, if_pos hc30]; done) | rfl | (simp [f0, if_pos hc30]; done), N29⟩ (by decide) (by decide)
  · refine Go.step (fun t k => XS.icmpYes X29.here hx rfl (pc0 := 154) (pc' := 161) rfl (hb hby at_154) rfl (feq hc30).2 (by decide) (by decide) k) ?_
    show Go p e below _ (T29.setTop (mkF m 161 #[.val (.long q1), .second, .val (.int p2), .val (.ref b3), .val (.long v17), .second, .val (.int v18), .val (.int v25), v26, v27] []))
    refine Go.step (fun t k => XS.iconst X29.here hx rfl (hb hby at_161)  k) ?_
    show Go p e below _ (T29.setTop (mkF m 162 #[.val (.long q1), .second, .val (.int p2), .val (.ref b3), .val (.long v17), .second, .val (.int v18), .val (.int v25), v26, v27] [(.int (0 : Int32))]))
    subst hv27
    subst hv26
    subst hv25
    subst hv18
    subst hv17
    exact retGN X29 hx Bd.notSynchronized Bd.returns (t := .boolean) (by simp) (z' := (0 : Int32)) rfl (hb hby at_162) ⟨by first | (simp only [f0, if_neg hc30]; done) | rfl | (simp [f0, if_neg hc30]; done), N29⟩ (by decide) (by decide)

theorem pr_s (y : Int32) : ¬ ((y &&& (2147483647 : Int32)) % (19 : Int32)) < (0 : Int32) := by
  have h1 := own_s y
  rw [Int32.lt_iff_toInt_lt]
  have e0 : (0 : Int32).toInt = 0 := by decide
  omega
theorem own_case (s : Int32) (h0 : 0 ≤ s.toInt) (h1 : s.toInt < 19) : s = 0 ∨ s = 1 ∨ s = 2 ∨ s = 3 ∨ s = 4 ∨ s = 5 ∨ s = 6 ∨ s = 7 ∨ s = 8 ∨ s = 9 ∨ s = 10 ∨ s = 11 ∨ s = 12 ∨ s = 13 ∨ s = 14 ∨ s = 15 ∨ s = 16 ∨ s = 17 ∨ s = 18 := by
  simp only [← Int32.toInt_inj, show (0 : Int32).toInt = 0 by decide, show (1 : Int32).toInt = 1 by decide, show (2 : Int32).toInt = 2 by decide, show (3 : Int32).toInt = 3 by decide, show (4 : Int32).toInt = 4 by decide, show (5 : Int32).toInt = 5 by decide, show (6 : Int32).toInt = 6 by decide, show (7 : Int32).toInt = 7 by decide, show (8 : Int32).toInt = 8 by decide, show (9 : Int32).toInt = 9 by decide, show (10 : Int32).toInt = 10 by decide, show (11 : Int32).toInt = 11 by decide, show (12 : Int32).toInt = 12 by decide, show (13 : Int32).toInt = 13 by decide, show (14 : Int32).toInt = 14 by decide, show (15 : Int32).toInt = 15 by decide, show (16 : Int32).toInt = 16 by decide, show (17 : Int32).toInt = 17 by decide, show (18 : Int32).toInt = 18 by decide]
  omega
theorem own_abs (u d : Int64) (D : Int) (hd : d.toInt = D) (h1 : d ≠ -1) (hD : 0 < D) (hu : -1000000000000000000 < u.toInt ∧ u.toInt < 1000000000000000000) : (0 ≤ u.toInt → (f1 (u / d)).toInt = u.toInt / D) ∧ (u.toInt < 0 → (f1 (u / d)).toInt = (-u.toInt) / D) := by
  have k := c_ldiv u d D hd h1
  have e0 : (0 : Int64).toInt = 0 := by decide
  have r := rng64 (u / d)
  have q1 : 0 ≤ u.toInt → 0 ≤ u.toInt / D := fun h => Int.ediv_nonneg h (by omega)
  have q2 : u.toInt < 0 → 0 ≤ (-u.toInt) / D := fun h => Int.ediv_nonneg (by omega) (by omega)
  have q3 : u.toInt < 0 → (-u.toInt) / D ≤ -u.toInt := fun h => Int.ediv_le_self _ (by omega)
  unfold f1
  constructor
  · intro h
    have := k.1 h
    split
    · rename_i hl; rw [Int64.lt_iff_toInt_lt, e0] at hl; have := q1 h; omega
    · exact this
  · intro h
    have k2 := k.2 h
    split
    · have n1 := c_lneg (u / d)
      have n2 := rng64 (-(u / d))
      have := q3 h; have := q2 h
      omega
    · rename_i hl; rw [Int64.lt_iff_toInt_lt, e0] at hl; have := q2 h; omega
theorem own_one (u : Int64) (s : Int32) (d b : Int64) (D B : Int) (hu : -1000000000000000000 < u.toInt ∧ u.toInt < 1000000000000000000) (hd : powF s.toNatClampNeg = d) (hD : d.toInt = D) (h1 : d ≠ -1) (hp : 0 < D) (hs : ¬ (12 : Int32) < s) (h18 : (12 : Int32) + s < (18 : Int32)) (hb : powT ((12 : Int32) + s).toNatClampNeg = b) (hB : b.toInt = B) (hnb : (-b).toInt = -B) (hBD : B = D * 1000000000000) :
    f2 u s = (if (12 : Int32) < s then (0 : Int32) else (if (f1 (u / (powF s.toNatClampNeg))) < (1000000000000 : Int64) then (1 : Int32) else (0 : Int32))) := by
  have k := own_abs u d D hD h1 hp hu
  have e : (1000000000000 : Int64).toInt = 1000000000000 := by decide
  rw [hd]
  unfold f2
  rw [if_neg hs, if_neg hs, if_pos h18, hb]
  simp only [Int64.lt_iff_toInt_lt, hnb, hB, e]
  have c1 : 0 ≤ u.toInt → (u.toInt / D < 1000000000000 ↔ u.toInt < B) := fun h => by rw [Int.ediv_lt_iff_lt_mul hp, hBD, Int.mul_comm D]
  have c2 : u.toInt < 0 → ((-u.toInt) / D < 1000000000000 ↔ -u.toInt < B) := fun h => by rw [Int.ediv_lt_iff_lt_mul hp, hBD, Int.mul_comm D]
  by_cases h : 0 ≤ u.toInt
  · rw [k.1 h]
    have := c1 h
    have hB0 : 0 < B := by omega
    (repeat' split) <;> first | rfl | (exfalso; omega)
  · have h' : u.toInt < 0 := by omega
    rw [k.2 h']
    have := c2 h'
    (repeat' split) <;> first | rfl | (exfalso; omega)
theorem own_two (u : Int64) (s : Int32) (d : Int64) (D : Int) (hu : -1000000000000000000 < u.toInt ∧ u.toInt < 1000000000000000000) (hd : powF s.toNatClampNeg = d) (hD : d.toInt = D) (h1 : d ≠ -1) (hp : 1000000 ≤ D) (hs : ¬ (12 : Int32) < s) (h18 : ¬ (12 : Int32) + s < (18 : Int32)) :
    f2 u s = (if (12 : Int32) < s then (0 : Int32) else (if (f1 (u / (powF s.toNatClampNeg))) < (1000000000000 : Int64) then (1 : Int32) else (0 : Int32))) := by
  have k := own_abs u d D hD h1 (by omega) hu
  have e : (1000000000000 : Int64).toInt = 1000000000000 := by decide
  rw [hd]
  unfold f2
  rw [if_neg hs, if_neg hs, if_neg h18, if_pos]
  rw [Int64.lt_iff_toInt_lt, e]
  by_cases h : 0 ≤ u.toInt
  · rw [k.1 h, Int.ediv_lt_iff_lt_mul (by omega)]; omega
  · rw [k.2 (by omega), Int.ediv_lt_iff_lt_mul (by omega)]; omega
theorem own_far (u : Int64) (s : Int32) (hs : (12 : Int32) < s) :
    f2 u s = (if (12 : Int32) < s then (0 : Int32) else (if (f1 (u / (powF s.toNatClampNeg))) < (1000000000000 : Int64) then (1 : Int32) else (0 : Int32))) := by
  unfold f2; rw [if_pos hs, if_pos hs]
theorem law_true (x : Int64) (y : Int32) : f0 x y = 1 := by
  have h1 := own_s y
  have e0 : (1000000000000000000 : Int64).toInt = 1000000000000000000 := by decide
  have h2 : -1000000000000000000 < (x % (1000000000000000000 : Int64)).toInt ∧ (x % (1000000000000000000 : Int64)).toInt < 1000000000000000000 := by
    rw [Int64.toInt_mod, e0]
    have := tr x.toInt 1000000000000000000
    by_cases h : 0 ≤ x.toInt
    · rw [this.1 h]; omega
    · rw [this.2 (by omega)]; omega
  show (if (f2 (x % (1000000000000000000 : Int64)) ((y &&& (2147483647 : Int32)) % (19 : Int32))) = (if (12 : Int32) < ((y &&& (2147483647 : Int32)) % (19 : Int32)) then (0 : Int32) else (if (f1 ((x % (1000000000000000000 : Int64)) / (powF ((y &&& (2147483647 : Int32)) % (19 : Int32)).toNatClampNeg))) < (1000000000000 : Int64) then (1 : Int32) else (0 : Int32))) then (1 : Int32) else (0 : Int32)) = 1
  generalize (y &&& (2147483647 : Int32)) % (19 : Int32) = s at *
  generalize x % (1000000000000000000 : Int64) = u at *
  rw [if_pos]
  rcases own_case s h1.1 h1.2 with rfl | rfl | rfl | rfl | rfl | rfl | rfl | rfl | rfl | rfl | rfl | rfl | rfl | rfl | rfl | rfl | rfl | rfl | rfl
  · exact own_one u 0 1 1000000000000 1 1000000000000 h2 rfl (by decide) (by decide) (by decide) (by decide) (by decide) rfl (by decide) (by decide) (by decide)
  · exact own_one u 1 10 10000000000000 10 10000000000000 h2 rfl (by decide) (by decide) (by decide) (by decide) (by decide) rfl (by decide) (by decide) (by decide)
  · exact own_one u 2 100 100000000000000 100 100000000000000 h2 rfl (by decide) (by decide) (by decide) (by decide) (by decide) rfl (by decide) (by decide) (by decide)
  · exact own_one u 3 1000 1000000000000000 1000 1000000000000000 h2 rfl (by decide) (by decide) (by decide) (by decide) (by decide) rfl (by decide) (by decide) (by decide)
  · exact own_one u 4 10000 10000000000000000 10000 10000000000000000 h2 rfl (by decide) (by decide) (by decide) (by decide) (by decide) rfl (by decide) (by decide) (by decide)
  · exact own_one u 5 100000 100000000000000000 100000 100000000000000000 h2 rfl (by decide) (by decide) (by decide) (by decide) (by decide) rfl (by decide) (by decide) (by decide)
  · exact own_two u 6 1000000 1000000 h2 rfl (by decide) (by decide) (by decide) (by decide) (by decide)
  · exact own_two u 7 10000000 10000000 h2 rfl (by decide) (by decide) (by decide) (by decide) (by decide)
  · exact own_two u 8 100000000 100000000 h2 rfl (by decide) (by decide) (by decide) (by decide) (by decide)
  · exact own_two u 9 1000000000 1000000000 h2 rfl (by decide) (by decide) (by decide) (by decide) (by decide)
  · exact own_two u 10 10000000000 10000000000 h2 rfl (by decide) (by decide) (by decide) (by decide) (by decide)
  · exact own_two u 11 100000000000 100000000000 h2 rfl (by decide) (by decide) (by decide) (by decide) (by decide)
  · exact own_two u 12 1000000000000 1000000000000 h2 rfl (by decide) (by decide) (by decide) (by decide) (by decide)
  all_goals exact own_far u _ (by decide)


theorem own_el {args : Array Value} {s : State} {t : Term} {x : Addr} {cl : Cell} {j : Int32} {v : Int64} (Ar : Arr s s.heap x cl .long) (ev : t.eval args s none [] s = some (.ref x)) (h : (Jvm.Cond.eq (Jvm.Term.elem t (Jvm.Term.int j)) (Jvm.Term.long v)).value args s none s [] = some true) : cl.slots[j.toNatClampNeg]? = some (.long v) := by
  obtain ⟨a, b, ha, hb, k1, k2⟩ := cmp_v (Or.inl h)
  have hb' : b = .long v := by simpa [Term.eval] using hb.symm
  subst hb'
  obtain ⟨z, rfl⟩ : ∃ z, a = .long z := k2
  have e := (elem_in ha ev (Term.int_eval j) Ar.1).2
  have : (Jvm.Cond.eq (Jvm.Term.elem t (Jvm.Term.int j)) (Jvm.Term.long v)).value args s none s [] = some (decide (z = v)) := eq_L ha hb
  have := gotT this h
  rw [e, this]
theorem own_len {args : Array Value} {s : State} {t : Term} {x : Addr} {cl : Cell} {ty : FieldType} {v : Int32} (Ar : Arr s s.heap x cl ty) (ev : t.eval args s none [] s = some (.ref x)) (h : (Jvm.Cond.eq (Jvm.Term.length t) (Jvm.Term.int v)).value args s none s [] = some true) (hv : 0 ≤ v.toInt) : cl.slots.size = v.toNatClampNeg ∧ v.toNatClampNeg < 2147483648 := by
  obtain ⟨a, b, ha, hb, k1, k2⟩ := cmp_v (Or.inl h)
  have hat := Ar.fin (Vm.Alike.refl _)
  by_cases hl : cl.slots.size < 2 ^ 31
  · have e := len_f (idx := []) (first := s) (o := none) ev hat hl
    cases ha.symm.trans e
    have hb' : b = .int v := by simpa [Term.eval] using hb.symm
    subst hb'
    have q : (Jvm.Cond.eq (Jvm.Term.length t) (Jvm.Term.int v)).value args s none s [] = some (decide (cl.slots.size.toInt32 = v)) := by simp [Cond.value, ha, hb]
    have := gotT q h
    have e2 := len_toInt hl
    rw [this] at e2
    have : v.toNatClampNeg = cl.slots.size := by show v.toInt.toNat = _; omega
    omega
  · exfalso
    simp [Term.eval, ev, hat, hl] at ha
theorem own_pow {args : Array Value} {s : State} {t : Term} {x : Addr} {cl : Cell} (Ar : Arr s s.heap x cl .long) (ev : t.eval args s none [] s = some (.ref x))
    (nl : (Jvm.Cond.eq (Jvm.Term.length t) (Jvm.Term.int 19)).value args s none s [] = some true)
    (n0 : (Jvm.Cond.eq (Jvm.Term.elem t (Jvm.Term.int 0)) (Jvm.Term.long 1)).value args s none s [] = some true)
    (n1 : (Jvm.Cond.eq (Jvm.Term.elem t (Jvm.Term.int 1)) (Jvm.Term.long 10)).value args s none s [] = some true)
    (n2 : (Jvm.Cond.eq (Jvm.Term.elem t (Jvm.Term.int 2)) (Jvm.Term.long 100)).value args s none s [] = some true)
    (n3 : (Jvm.Cond.eq (Jvm.Term.elem t (Jvm.Term.int 3)) (Jvm.Term.long 1000)).value args s none s [] = some true)
    (n4 : (Jvm.Cond.eq (Jvm.Term.elem t (Jvm.Term.int 4)) (Jvm.Term.long 10000)).value args s none s [] = some true)
    (n5 : (Jvm.Cond.eq (Jvm.Term.elem t (Jvm.Term.int 5)) (Jvm.Term.long 100000)).value args s none s [] = some true)
    (n6 : (Jvm.Cond.eq (Jvm.Term.elem t (Jvm.Term.int 6)) (Jvm.Term.long 1000000)).value args s none s [] = some true)
    (n7 : (Jvm.Cond.eq (Jvm.Term.elem t (Jvm.Term.int 7)) (Jvm.Term.long 10000000)).value args s none s [] = some true)
    (n8 : (Jvm.Cond.eq (Jvm.Term.elem t (Jvm.Term.int 8)) (Jvm.Term.long 100000000)).value args s none s [] = some true)
    (n9 : (Jvm.Cond.eq (Jvm.Term.elem t (Jvm.Term.int 9)) (Jvm.Term.long 1000000000)).value args s none s [] = some true)
    (n10 : (Jvm.Cond.eq (Jvm.Term.elem t (Jvm.Term.int 10)) (Jvm.Term.long 10000000000)).value args s none s [] = some true)
    (n11 : (Jvm.Cond.eq (Jvm.Term.elem t (Jvm.Term.int 11)) (Jvm.Term.long 100000000000)).value args s none s [] = some true)
    (n12 : (Jvm.Cond.eq (Jvm.Term.elem t (Jvm.Term.int 12)) (Jvm.Term.long 1000000000000)).value args s none s [] = some true)
    (n13 : (Jvm.Cond.eq (Jvm.Term.elem t (Jvm.Term.int 13)) (Jvm.Term.long 10000000000000)).value args s none s [] = some true)
    (n14 : (Jvm.Cond.eq (Jvm.Term.elem t (Jvm.Term.int 14)) (Jvm.Term.long 100000000000000)).value args s none s [] = some true)
    (n15 : (Jvm.Cond.eq (Jvm.Term.elem t (Jvm.Term.int 15)) (Jvm.Term.long 1000000000000000)).value args s none s [] = some true)
    (n16 : (Jvm.Cond.eq (Jvm.Term.elem t (Jvm.Term.int 16)) (Jvm.Term.long 10000000000000000)).value args s none s [] = some true)
    (n17 : (Jvm.Cond.eq (Jvm.Term.elem t (Jvm.Term.int 17)) (Jvm.Term.long 100000000000000000)).value args s none s [] = some true)
    (n18 : (Jvm.Cond.eq (Jvm.Term.elem t (Jvm.Term.int 18)) (Jvm.Term.long 1000000000000000000)).value args s none s [] = some true) : Ary s s.heap x .long 19 (fun i => .long (powT i)) := by
  obtain ⟨e1, e2⟩ := own_len Ar ev nl (by decide)
  refine ⟨cl, Ar, e1, by decide, fun i hi => ?_⟩
  match i, hi with
  | 0, _ => exact own_el Ar ev n0
  | 1, _ => exact own_el Ar ev n1
  | 2, _ => exact own_el Ar ev n2
  | 3, _ => exact own_el Ar ev n3
  | 4, _ => exact own_el Ar ev n4
  | 5, _ => exact own_el Ar ev n5
  | 6, _ => exact own_el Ar ev n6
  | 7, _ => exact own_el Ar ev n7
  | 8, _ => exact own_el Ar ev n8
  | 9, _ => exact own_el Ar ev n9
  | 10, _ => exact own_el Ar ev n10
  | 11, _ => exact own_el Ar ev n11
  | 12, _ => exact own_el Ar ev n12
  | 13, _ => exact own_el Ar ev n13
  | 14, _ => exact own_el Ar ev n14
  | 15, _ => exact own_el Ar ev n15
  | 16, _ => exact own_el Ar ev n16
  | 17, _ => exact own_el Ar ev n17
  | 18, _ => exact own_el Ar ev n18
  | k + 19, h => exact absurd h (by omega)

set_option maxRecDepth 65536 in
set_option maxHeartbeats 40000000 in
theorem comes_1 {Post : Tables → Env → Array Value → State → Outcome → State → Prop} (hpost : ∀ tb e args s v u, (limb_1_1.after args s (.returned v) u = true ∧ limb_1_2.after args s (.returned v) u = true ∧ True) → FrameEnd s (.returned v) u (Jvm.fieldLocs frame_1_writes args s ++ Jvm.arrayLocs frame_1_arrays args s ++ Jvm.staticLocs frame_1_statics s) 16 128 → Post tb e args s (.returned v) u) :
    ArmFor flags0 classFile x code maxLocals ret World_1 tables_1 room_1 Calls_1 rest_1 Pre_1 Post := by
  intro l hfl _ _ p e ha hc hk s m args below hf hA hF happ hP
  obtain ⟨hcalls, hrest, hpre⟩ := hP
  obtain ⟨-, -, -, hnamed, -, -, -, hat⟩ := (Spec.applies_iff hf).mp happ
  obtain ⟨hg, hn⟩ := and_e (Cond.before_iff.mp (show (Jvm.Cond.and given_1 narrow_1).before args s = true from hpre))
  obtain ⟨g0, hg⟩ := and_e hg
  obtain ⟨ga0, hg⟩ := and_e hg
  have ga1 := hg
  obtain ⟨w0, w1, rfl⟩ : ∃ w0 w1 : Value, args = #[w0, w1] := by
    have hs : args.size = 2 := by simpa [Cond.value, given_1] using g0
    obtain ⟨L⟩ := args
    match L, hs with
    | [w0, w1], _ => exact ⟨w0, w1, rfl⟩
  have hw := fun d (hd : d ∈ tables_1) => atoms_spec (ws := Jvm.Cond.code x code maxLocals ret :: tables_1) hat d (List.mem_cons_of_mem _ hd)
  have hfit : Fit s := fun {y c} hc i hi => by
    obtain ⟨ha, rfl⟩ := Array.getElem?_eq_some_iff.mp hc
    have q := List.all_eq_true.mp ((Array.all_eq_true_iff_forall_mem.mp hF) _ (Array.getElem_mem ha)) i (List.mem_range.mpr hi)
    simpa [Array.getElem?_eq_getElem hi] using q
  obtain ⟨i0, ei0⟩ := isL_v ga0
  obtain rfl : w0 = (.long i0) := Option.some.inj ei0
  obtain ⟨i1, ei1⟩ := is_v ga1
  obtain rfl : w1 = (.int i1) := Option.some.inj ei1
  obtain ⟨na, hn⟩ := and_e hn
  obtain ⟨nl, hn⟩ := and_e hn
  obtain ⟨n0, hn⟩ := and_e hn
  obtain ⟨n1, hn⟩ := and_e hn
  obtain ⟨n2, hn⟩ := and_e hn
  obtain ⟨n3, hn⟩ := and_e hn
  obtain ⟨n4, hn⟩ := and_e hn
  obtain ⟨n5, hn⟩ := and_e hn
  obtain ⟨n6, hn⟩ := and_e hn
  obtain ⟨n7, hn⟩ := and_e hn
  obtain ⟨n8, hn⟩ := and_e hn
  obtain ⟨n9, hn⟩ := and_e hn
  obtain ⟨n10, hn⟩ := and_e hn
  obtain ⟨n11, hn⟩ := and_e hn
  obtain ⟨n12, hn⟩ := and_e hn
  obtain ⟨n13, hn⟩ := and_e hn
  obtain ⟨n14, hn⟩ := and_e hn
  obtain ⟨n15, hn⟩ := and_e hn
  obtain ⟨n16, hn⟩ := and_e hn
  obtain ⟨n17, hn⟩ := and_e hn
  have n18 := hn
  obtain ⟨oP, ev⟩ := arr_v na
  have S0 : Sta s s.heap "com/example/biller/biller/DecimalColumn" "POWERS_OF_TEN" "[J" (.ref oP) := Sta.start ev (Or.inr ⟨hw _ (List.mem_of_getElem? (i := 21) rfl), hw _ (List.mem_of_getElem? (i := 24) rfl)⟩)
  obtain ⟨cl, Ar⟩ := Arr.start ev na
  have A0 : Ary s s.heap oP .long 19 (fun i => .long (powT i)) := own_pow Ar ev nl n0 n1 n2 n3 n4 n5 n6 n7 n8 n9 n10 n11 n12 n13 n14 n15 n16 n17 n18
  obtain ⟨n, o, h1, h2, h3, v, L, rfl, hQ, hq⟩ := rm0 l s _ hw tables_1 i0 i1 oP s.heap s.heap.size (Nat.le_refl _) (Old.start s) S0 A0 (pr_s i1) p e ha hc hk s m _ below hf ((Spec.applies_iff_loose hf).mp happ).1 ⟨rfl, State.Warmed39.refl s, rfl⟩ trivial
  obtain ⟨hv, N⟩ := hQ
  rw [law_true i0 i1] at hv
  subst hv
  refine ⟨n, _, h1, h2, h3, hpost _ _ _ _ _ _ ⟨Cond.after_iff.mpr rfl, Cond.after_iff.mpr (eq_i res_at (Term.int_eval (1)) rfl), trivial⟩ ⟨hq.1, hq.2.1, (hq.2.2.sift fun y hy => Or.inr (N y hy)).mono (by decide) (by decide)⟩⟩
theorem main_1_1 : Claimed_1_1 := comes_1 fun _ _ _ _ _ _ h hF => ⟨h.1, hF⟩
theorem main_1_2 : Claimed_1_2 := comes_1 fun _ _ _ _ _ _ h hF => ⟨h.2.1, hF⟩
end Jvm.Pilot.@@N@@
namespace Jvm.Pilot.@@N@@
open Jvm Jvm.ClassFile Sem Op Lib Jvm.Free Jvm.Stand Jvm.Pilot.@@N@@.Jvm.D
/-! MADE BY PROGRAM (witnessworld.py) out of the Statement's table words and the real class files: 12 classes; the members and pool entries that the words name. The judged class is class 1, her method 1. -/
namespace start1
open Jvm.ClassFile
def u (s : String) : CpInfo := .utf8 (stringToUtf16 s)
/-- a pool by its gaps: so many unusable entries, then the entry; so many at the end -/
def gap : Nat → List CpInfo → List CpInfo
  | 0, r => r
  | n + 1, r => .unusable :: gap n r
def poolList (es : List (Nat × CpInfo)) (last : Nat) : List CpInfo := es.foldr (fun e r => gap e.1 (e.2 :: r)) (gap last [])
def pool (es : List (Nat × CpInfo)) (last : Nat) : Array CpInfo := ⟨poolList es last⟩
def fileOf (pool : Array CpInfo) (this : Nat) (attrs : Array Attribute := #[]) (ms : Array MethodInfo := #[]) (fl : Nat := 33) (sup : Nat := 0) (ifs : Array Nat := #[]) (fds : Array FieldInfo := #[]) : ClassFile where
  minorVersion := 0
  majorVersion := 65
  constantPool := pool
  accessFlags := fl
  thisClass := this
  superClass := sup
  interfaces := ifs
  fields := fds
  methods := ms
  attributes := attrs
def plain (name : String) (sup : Option ClassId) : Class where
  name := name
  kind := .ordinary
  loader := none
  accessFlags := 33
  super := sup
  interfaces := #[]
  cf := none
  fields := #[]
  methods := #[]
  instanceTypes := #[]
  staticTypes := #[]
  resolved := #[]
  callSites := []
  init := .initialized
  statics := none
  mirror := none

def pool0 : Array CpInfo := pool [(5, u "<init>"), (0, u "()V"), (1, .class_ 10), (1, u "java/lang/Object")] 113

def k0m0 : Method := { name := "<init>", desc := "()V", sig := { parameters := [], returnType := none }, accessFlags := 1, code := none }
/-- java/lang/Object -/
def k0 : Class := { plain "java/lang/Object" none with
  accessFlags := 33
  interfaces := #[]
  cf := some (fileOf pool0 8 #[] #[{ accessFlags := 1, nameIndex := 5, descriptorIndex := 6, attributes := #[] }] 33 0 #[] #[])
  fields := #[]
  methods := #[k0m0]
  instanceTypes := #[]
  staticTypes := #[]
  resolved := Array.replicate 124 none
  statics := none }

def pool1 : Array CpInfo := pool [(2, .class_ 4), (1, u "java/lang/Object"), (0, u "<init>"), (0, u "()V"), (0, .long 10), (1, .long 100), (1, .long 1000), (1, .long 10000), (1, .long 100000), (1, .long 1000000), (1, .long 10000000), (1, .long 100000000), (1, .long 1000000000), (1, .long 10000000000), (1, .long 100000000000), (1, .long 1000000000000), (1, .long 1000000000000000000), (1, .integer 2147483647), (0, .methodref 35 36), (0, .class_ 37), (0, .nameAndType 38 39), (0, u "java/lang/Math"), (0, u "abs"), (0, u "(J)J"), (0, .methodref 41 42), (0, .class_ 43), (0, .nameAndType 44 45), (0, u "com/example/biller/biller/DecimalColumn"), (0, u "withinLimits"), (0, u "(JI)Z"), (0, .class_ 47), (0, u "com/example/biller/biller/DecimalColumnWithinLimitsPinLaw"), (2, u "law")] 5

def k1m0 : Method := { name := "<init>", desc := "()V", sig := { parameters := [], returnType := none }, accessFlags := 2, code := none }
def k1c1 : Code := { maxStack := 5, maxLocals := 10, code := code, exceptionTable := #[], attributes := #[] }
def k1m1 : Method := { name := "law", desc := "(JI)Z", sig := { parameters := [.long, .int], returnType := some .boolean }, accessFlags := 9, code := some k1c1 }
/-- com/example/biller/biller/DecimalColumnWithinLimitsPinLaw -/
def k1 : Class := { plain "com/example/biller/biller/DecimalColumnWithinLimitsPinLaw" (some 0) with
  accessFlags := 49
  interfaces := #[]
  cf := some (fileOf pool1 46 #[] #[{ accessFlags := 2, nameIndex := 5, descriptorIndex := 6, attributes := #[] }, { accessFlags := 9, nameIndex := 50, descriptorIndex := 45, attributes := #[] }] 49 2 #[] #[])
  fields := #[]
  methods := #[k1m0, k1m1]
  instanceTypes := #[]
  staticTypes := #[]
  resolved := Array.replicate 56 none
  statics := none }

def pool2 : Array CpInfo := pool [(1, .class_ 2), (0, u "java/lang/Math"), (1, .class_ 6), (1, u "java/lang/Object"), (0, u "<init>"), (0, u "()V"), (89, .class_ 100), (1, u "java/lang/Math$RandomNumberGeneratorHolder"), (23, u "abs"), (0, u "(J)J"), (46, u "negativeZeroFloatBits"), (0, u "J"), (2, u "negativeZeroDoubleBits"), (68, u "$assertionsDisabled"), (0, u "Z"), (91, u "twoToTheDoubleScaleDown"), (0, u "D"), (4, u "twoToTheDoubleScaleUp"), (9, u "E"), (3, u "PI"), (2, u "TAU"), (2, u "DEGREES_TO_RADIANS"), (0, u "RADIANS_TO_DEGREES")] 94

def k2m0 : Method := { name := "<init>", desc := "()V", sig := { parameters := [], returnType := none }, accessFlags := 2, code := none }
def k2c1 : Code := { maxStack := 4, maxLocals := 2, code := jdk_29_method_61_code, exceptionTable := #[], attributes := #[] }
def k2m1 : Method := { name := "abs", desc := "(J)J", sig := { parameters := [.long], returnType := some .long }, accessFlags := 9, code := some k2c1 }
/-- java/lang/Math -/
def k2 : Class := { plain "java/lang/Math" (some 0) with
  accessFlags := 49
  interfaces := #[]
  cf := some (fileOf pool2 1 #[.nestMembers #[98]] #[{ accessFlags := 2, nameIndex := 7, descriptorIndex := 8, attributes := #[] }, { accessFlags := 9, nameIndex := 124, descriptorIndex := 125, attributes := #[] }] 49 4 #[] #[{ accessFlags := 25, nameIndex := 354, descriptorIndex := 339, attributes := #[] }, { accessFlags := 25, nameIndex := 358, descriptorIndex := 339, attributes := #[] }, { accessFlags := 25, nameIndex := 361, descriptorIndex := 339, attributes := #[] }, { accessFlags := 26, nameIndex := 364, descriptorIndex := 339, attributes := #[] }, { accessFlags := 26, nameIndex := 365, descriptorIndex := 339, attributes := #[] }, { accessFlags := 26, nameIndex := 172, descriptorIndex := 173, attributes := #[] }, { accessFlags := 26, nameIndex := 176, descriptorIndex := 173, attributes := #[] }, { accessFlags := 8, nameIndex := 344, descriptorIndex := 339, attributes := #[] }, { accessFlags := 8, nameIndex := 338, descriptorIndex := 339, attributes := #[] }, { accessFlags := 4120, nameIndex := 245, descriptorIndex := 246, attributes := #[] }])
  fields := #[{ name := "E", type := .double, accessFlags := 25, slot := 0, constantValue := 0 }, { name := "PI", type := .double, accessFlags := 25, slot := 1, constantValue := 0 }, { name := "TAU", type := .double, accessFlags := 25, slot := 2, constantValue := 0 }, { name := "DEGREES_TO_RADIANS", type := .double, accessFlags := 26, slot := 3, constantValue := 0 }, { name := "RADIANS_TO_DEGREES", type := .double, accessFlags := 26, slot := 4, constantValue := 0 }, { name := "negativeZeroFloatBits", type := .long, accessFlags := 26, slot := 5, constantValue := 0 }, { name := "negativeZeroDoubleBits", type := .long, accessFlags := 26, slot := 6, constantValue := 0 }, { name := "twoToTheDoubleScaleUp", type := .double, accessFlags := 8, slot := 7, constantValue := 0 }, { name := "twoToTheDoubleScaleDown", type := .double, accessFlags := 8, slot := 8, constantValue := 0 }, { name := "$assertionsDisabled", type := .boolean, accessFlags := 4120, slot := 9, constantValue := 0 }]
  methods := #[k2m0, k2m1]
  instanceTypes := #[]
  staticTypes := #[.double, .double, .double, .double, .double, .long, .long, .double, .double, .boolean]
  resolved := Array.replicate 460 none
  statics := none }

def pool3 : Array CpInfo := pool [(2, .class_ 4), (1, u "java/lang/Object"), (3, .class_ 10), (1, u "com/example/biller/biller/DecimalColumn$Builder"), (0, u "size"), (0, u "I"), (1, .class_ 15), (0, u "com/example/biller/biller/DecimalColumn"), (2, u "unscaled"), (0, u "[J"), (3, u "scales"), (0, u "[B"), (3, u "decimals"), (0, u "[Ljava/math/BigDecimal;"), (3, u "withinLimits"), (0, u "Z"), (2, u "knownWithinLimits"), (5, u "knownNotNegative"), (3, .class_ 48), (0, u "com/example/biller/biller/DecimalColumn$Totals"), (25, u "totals"), (0, u "Lcom/example/biller/biller/DecimalColumn$Totals;"), (10, u "(JI)Z"), (0, .fieldref 14 88), (0, .nameAndType 89 19), (0, u "POWERS_OF_TEN"), (36, u "MAX_COMPACT_DIGITS")] 20

def k3c0 : Code := { maxStack := 4, maxLocals := 4, code := prog_9_method_6_code, exceptionTable := #[], attributes := #[] }
def k3m0 : Method := { name := "withinLimits", desc := "(JI)Z", sig := { parameters := [.long, .int], returnType := some .boolean }, accessFlags := 8, code := some k3c0 }
/-- com/example/biller/biller/DecimalColumn -/
def k3 : Class := { plain "com/example/biller/biller/DecimalColumn" (some 0) with
  accessFlags := 48
  interfaces := #[]
  cf := some (fileOf pool3 14 #[.nestMembers #[8, 47]] #[{ accessFlags := 8, nameIndex := 33, descriptorIndex := 86, attributes := #[] }] 48 2 #[] #[{ accessFlags := 24, nameIndex := 126, descriptorIndex := 12, attributes := #[] }, { accessFlags := 26, nameIndex := 89, descriptorIndex := 19, attributes := #[] }, { accessFlags := 18, nameIndex := 11, descriptorIndex := 12, attributes := #[] }, { accessFlags := 18, nameIndex := 18, descriptorIndex := 19, attributes := #[] }, { accessFlags := 18, nameIndex := 23, descriptorIndex := 24, attributes := #[] }, { accessFlags := 18, nameIndex := 28, descriptorIndex := 29, attributes := #[] }, { accessFlags := 18, nameIndex := 37, descriptorIndex := 34, attributes := #[] }, { accessFlags := 18, nameIndex := 43, descriptorIndex := 34, attributes := #[] }, { accessFlags := 2, nameIndex := 74, descriptorIndex := 75, attributes := #[] }])
  fields := #[{ name := "MAX_COMPACT_DIGITS", type := .int, accessFlags := 24, slot := 0, constantValue := 0 }, { name := "POWERS_OF_TEN", type := (.array .long), accessFlags := 26, slot := 1, constantValue := 0 }, { name := "size", type := .int, accessFlags := 18, slot := 0, constantValue := 0 }, { name := "unscaled", type := (.array .long), accessFlags := 18, slot := 1, constantValue := 0 }, { name := "scales", type := (.array .byte), accessFlags := 18, slot := 2, constantValue := 0 }, { name := "decimals", type := (.array (.object "java/math/BigDecimal")), accessFlags := 18, slot := 3, constantValue := 0 }, { name := "knownWithinLimits", type := .boolean, accessFlags := 18, slot := 4, constantValue := 0 }, { name := "knownNotNegative", type := .boolean, accessFlags := 18, slot := 5, constantValue := 0 }, { name := "totals", type := (.object "com/example/biller/biller/DecimalColumn$Totals"), accessFlags := 2, slot := 6, constantValue := 0 }]
  methods := #[k3m0]
  instanceTypes := #[.int, (.array .long), (.array .byte), (.array (.object "java/math/BigDecimal")), .boolean, .boolean, (.object "com/example/biller/biller/DecimalColumn$Totals")]
  staticTypes := #[.int, (.array .long)]
  resolved := Array.replicate 147 none
  statics := some 0 }

def pool4 : Array CpInfo := pool [(1, u "java/lang/Cloneable"), (0, .class_ 1), (0, u "java/lang/Object"), (0, .class_ 3)] 3

/-- java/lang/Cloneable -/
def k4 : Class := { plain "java/lang/Cloneable" (some 0) with
  accessFlags := 1537
  interfaces := #[]
  cf := some (fileOf pool4 2 #[] #[] 1537 4 #[] #[])
  fields := #[]
  methods := #[]
  instanceTypes := #[]
  staticTypes := #[]
  resolved := Array.replicate 8 none
  statics := none }

def pool5 : Array CpInfo := pool [(1, u "java/io/Serializable"), (0, .class_ 1), (0, u "java/lang/Object"), (0, .class_ 3)] 3

/-- java/io/Serializable -/
def k5 : Class := { plain "java/io/Serializable" (some 0) with
  accessFlags := 1537
  interfaces := #[]
  cf := some (fileOf pool5 2 #[] #[] 1537 4 #[] #[])
  fields := #[]
  methods := #[]
  instanceTypes := #[]
  staticTypes := #[]
  resolved := Array.replicate 8 none
  statics := none }

/-- the primitive byte -/
def k6 : Class := { plain "byte" none with kind := .primitive 'B', accessFlags := 0x411 }
/-- [B -/
def k7 : Class := { plain "[B" (some 0) with kind := .array 6 .byte, interfaces := #[4, 5], accessFlags := 1041 }

/-- the primitive int -/
def k8 : Class := { plain "int" none with kind := .primitive 'I', accessFlags := 0x411 }
/-- [I -/
def k9 : Class := { plain "[I" (some 0) with kind := .array 8 .int, interfaces := #[4, 5], accessFlags := 1041 }

/-- the primitive long -/
def k10 : Class := { plain "long" none with kind := .primitive 'J', accessFlags := 0x411 }
/-- [J -/
def k11 : Class := { plain "[J" (some 0) with kind := .array 10 .long, interfaces := #[4, 5], accessFlags := 1041 }

def heap : Heap := #[{ cls := 3, slots := #[.int 0, .ref 1], vm := .statics 3 },
  { cls := 11, slots := #[.long 1, .long 10, .long 100, .long 1000, .long 10000, .long 100000, .long 1000000, .long 10000000, .long 100000000, .long 1000000000, .long 10000000000, .long 100000000000, .long 1000000000000, .long 10000000000000, .long 100000000000000, .long 1000000000000000, .long 10000000000000000, .long 100000000000000000, .long 1000000000000000000], vm := .none }]
def classes : Array Class := #[k0, k1, k2, k3, k4, k5, k6, k7, k8, k9, k10, k11]
def interned : List (Array UInt16 × Addr) := []
def slotsUsed : Nat := 21
def theMethod : MethodId := ⟨1, 1⟩
def args0 : Array Value := #[.long 5, .int 7]
def aboutOver (below : List Frame) : State where
  vm := { classes := classes, interned := interned.toArray }
  heap := heap
  slotsUsed := slotsUsed
  threads := #[{ frames := .invoking theMethod args0 :: below }]
def below0 : List Frame := [.native { method := ⟨0, 0⟩, args := #[] }]
def about1 : State := aboutOver below0
def p0 : Program := .bare "" "" ""
def e0 : Env := launch0.env 0 0 0
theorem w_frames : about1.frames = Frame.invoking theMethod args0 :: below0 := rfl
set_option maxRecDepth 65536 in
theorem w_args : argsFit about1.vm theMethod args0 = true := by decide +kernel
set_option maxRecDepth 65536 in
theorem w_heap : heapFits about1 = true := by decide +kernel
set_option maxRecDepth 65536 in
theorem w_runnable : about1.curStatus? = some .runnable := by decide +kernel
set_option maxRecDepth 65536 in
theorem w_alone : about1.alone = true := by decide +kernel
set_option maxRecDepth 65536 in
theorem w_named : about1.methodNamed? x = some theMethod := by decide +kernel
set_option maxRecDepth 65536 in
theorem w_hears : about1.hears theMethod below0 = true := by decide +kernel
set_option maxRecDepth 65536 in
theorem w_ripe : about1.ripe theMethod args0 below0 = true := by decide +kernel
theorem w_running : about1.status = .running := rfl
set_option maxRecDepth 65536 in
theorem w_room : about1.hasRoom e0.platform room_1 = true :=
  launch0.hasRoom_least _ room_1 (by decide +kernel) (by decide +kernel) (by decide +kernel) (by decide +kernel) (by decide +kernel) (by decide +kernel)
theorem allAtoms_all (ts : List Jvm.Cond) (a : Array Jvm.Value) (st : Jvm.State) : (allAtoms ts).before a st = ts.all (fun c => c.before a st) := by
  induction ts with
  | nil => rfl
  | cons c t ih =>
    show (Jvm.Cond.and c (allAtoms t)).before a st = _
    rw [Jvm.Cond.before_and, ih, List.all_cons]
def words1 : List Jvm.Cond := Jvm.Cond.code x code maxLocals ret :: tables_1
/-- a 'code' word, met by the world's own term for the bytes: nothing is compared byte by byte -/
theorem code_word {y : MethodName} {bytes : ByteArray} {mx : Nat} {rt : Option FieldType} {a : Array Value} {s : State} {m : MethodId} {meth : Method} {c : Code} (h1 : s.methodNamed? y = some m) (h2 : s.vm.method? m = some meth) (h3 : meth.code = some c) (h4 : c.code = bytes)
    (h5 : (c.maxLocals == mx && c.exceptionTable.isEmpty && decide (c.maxStack ≤ mostOperands) && decide (meth.sig.returnType = rt) && !meth.locks && decide (parseMethodDescriptor y.desc = some meth.sig)) = true) : (Jvm.Cond.code y bytes mx rt).before a s = true := by
  simp only [Bool.and_eq_true, beq_iff_eq, Bool.not_eq_true', decide_eq_true_eq] at h5
  obtain ⟨⟨⟨⟨⟨g1, g2⟩, g3⟩, g4⟩, g5⟩, g6⟩ := h5
  simp [Cond.before, Cond.holds, Cond.value, h1, h2, h3, h4, g1, g2, g3, g4, g5, g6]
def isCode : Jvm.Cond → Bool
  | .code _ _ _ _ => true
  | _ => false
theorem all_split {L : List Jvm.Cond} {P : Jvm.Cond → Bool} (h1 : L.all (fun c => isCode c || P c) = true) (h2 : ∀ c ∈ L.filter isCode, P c = true) : L.all P = true := by
  refine List.all_eq_true.mpr fun c hc => ?_
  have h := List.all_eq_true.mp h1 c hc
  rcases Bool.eq_false_or_eq_true (isCode c) with hi | hi
  · exact h2 c (List.mem_filter.mpr ⟨hc, hi⟩)
  · simpa [hi] using h
set_option maxRecDepth 65536 in
theorem w_c0 : (Jvm.Cond.code x code maxLocals ret).before args0 about1 = true := code_word (m := ⟨1, 1⟩) (meth := k1m1) (c := k1c1) (by decide +kernel) rfl rfl rfl (by decide +kernel)
set_option maxRecDepth 65536 in
theorem w_c1 : (Jvm.Cond.code ({ cls := "java/lang/Math", name := "abs", desc := "(J)J" } : Jvm.MethodName) jdk_29_method_61_code (2 : Nat) (Option.some Jvm.ClassFile.FieldType.long)).before args0 about1 = true := code_word (m := ⟨2, 1⟩) (meth := k2m1) (c := k2c1) (by decide +kernel) rfl rfl rfl (by decide +kernel)
set_option maxRecDepth 65536 in
theorem w_c2 : (Jvm.Cond.code ({ cls := "com/example/biller/biller/DecimalColumn", name := "withinLimits", desc := "(JI)Z" } : Jvm.MethodName) prog_9_method_6_code (4 : Nat) (Option.some Jvm.ClassFile.FieldType.boolean)).before args0 about1 = true := code_word (m := ⟨3, 0⟩) (meth := k3m0) (c := k3c0) (by decide +kernel) rfl rfl rfl (by decide +kernel)
def codes1 : List Jvm.Cond := [Jvm.Cond.code x code maxLocals ret, Jvm.Cond.code ({ cls := "java/lang/Math", name := "abs", desc := "(J)J" } : Jvm.MethodName) jdk_29_method_61_code (2 : Nat) (Option.some Jvm.ClassFile.FieldType.long), Jvm.Cond.code ({ cls := "com/example/biller/biller/DecimalColumn", name := "withinLimits", desc := "(JI)Z" } : Jvm.MethodName) prog_9_method_6_code (4 : Nat) (Option.some Jvm.ClassFile.FieldType.boolean)]
set_option maxRecDepth 65536 in
theorem codes_eq : words1.filter isCode = codes1 := rfl
theorem w_codes : ∀ c ∈ words1.filter isCode, c.before args0 about1 = true := by
  rw [codes_eq]
  intro c hc
  simp only [codes1, List.mem_cons, List.not_mem_nil, or_false] at hc
  rcases hc with rfl | rfl | rfl
  · exact w_c0
  · exact w_c1
  · exact w_c2
set_option maxRecDepth 65536 in
theorem w_t1 : (words1.take 24).all (fun c => isCode c || c.before args0 about1) = true := by decide +kernel
set_option maxRecDepth 65536 in
theorem w_t2 : (words1.drop 24).all (fun c => isCode c || c.before args0 about1) = true := by decide +kernel
theorem w_tables : (allAtoms (Jvm.Cond.code x code maxLocals ret :: tables_1)).before args0 about1 = true := by
  rw [allAtoms_all]
  show words1.all (fun c => c.before args0 about1) = true
  refine all_split ?_ w_codes
  rw [← List.take_append_drop 24 words1, List.all_append, w_t1, w_t2]
  rfl
set_option maxRecDepth 65536 in
theorem w_case : (Jvm.Cond.and given_1 narrow_1).before args0 about1 = true := by decide +kernel
theorem w_applies : (headSpec (Jvm.Cond.code x code maxLocals ret :: tables_1) room_1).applies x e0.platform about1 = true :=
  (Spec.applies_iff w_frames).mpr ⟨w_running, w_runnable, w_alone, w_named, w_hears, w_ripe, w_room, w_tables⟩
theorem atStart : AtStart classFile x code maxLocals ret World_1 tables_1 room_1 Calls_1 rest_1 Pre_1 launch0 p0 e0 about1 theMethod args0 below0 :=
  ⟨lists_1, trivial, launch0.admits_env _ _ _, launch0.least_env, fairChoices_fair.cas, fairChoices_fair.clock, w_frames, w_args, w_heap, w_applies, trivial, trivial, w_case⟩
end start1
theorem witness_1 : WitnessClaimed_1 := ⟨start1.p0, start1.e0, start1.about1, start1.theMethod, start1.args0, start1.below0, start1.atStart⟩
end Jvm.Pilot.@@N@@
