import JvmDerived
import JvmDerived.Pilot.@@N@@Statement
import JvmDerived.Pilot.@@N@@Code
set_option linter.unusedVariables false
set_option linter.unusedSimpArgs false
@@BLOCK:NumsL.lean.txt@@
namespace Jvm.OwnW
open Sem ClassFile Op Lib Jvm.Stand Jvm.Free Jvm.LawKit Jvm.RoadKit
/-- a body: its class, name, bytes, locals, return kind -/
abbrev Bdy : Type := String × String × ByteArray × Nat × Option FieldType
abbrev Bdy.own (B : Bdy) : String := B.1
abbrev Bdy.nm (B : Bdy) : String := B.2.1
abbrev Bdy.bytes (B : Bdy) : ByteArray := B.2.2.1
abbrev Bdy.ml (B : Bdy) : Nat := B.2.2.2.1
abbrev Bdy.ret (B : Bdy) : Option FieldType := B.2.2.2.2
/-- what stays through one invocation -/
def Ctx (p : Program) (s : State) (m : MethodId) (meth : Method) (c : Code) (Z : State) (B : Bdy) : Prop :=
  p.tables.exec = Jvm.exec ∧ c.code = B.bytes ∧ c.maxLocals = B.ml ∧ Z.Warmed39 s.vm ∧ s.vm.findClass B.own = some m.cls ∧ meth.sig.returnType = B.ret ∧ meth.locks = false ∧ meth.name = B.nm
/-- FROM HERE THE INVOCATION RETURNS, AND Q: whatever the rest of the state is -/
def W (l : Launch) (Z : State) (n0 : Nat) (R : Room) (B : Bdy) (Q : Option Value → Heap → Prop) (h : Heap) (cells slots : Nat) (pc : Nat) (Ls : List Slot) (St : List Value) : Prop :=
  ∀ (p : Program) (e : Env) (s : State) (m : MethodId) (args : Array Value) (below : List Frame) (meth : Method) (c : Code) (T : State) (locs : List Loc),
    Ctx p s m meth c Z B → Stand p l e R s m args below meth c T locs cells slots → T.heap = h → Fr n0 locs → cells ≤ R.cells → slots ≤ R.slots →
    ∃ (s₂ : State) (v : Option Value) (L : List Loc), Steps p.tables e below (T.setTop (mkF m pc ⟨Ls⟩ St)) s₂ ∧ s₂.status = .running ∧ Ended s₂ below (.returned v) ∧ Q v s₂.heap ∧ Fr n0 L ∧ FrameEnd s (.returned v) s₂ L R.cells R.slots
/-- l' is l with v at its k-th place -/
def Put (l : List Slot) (k : Nat) (v : Slot) (l' : List Slot) : Prop := l' = l.set k v ∧ k < l.length
theorem Put.z {a v : Slot} {l : List Slot} : Put (a :: l) 0 v (v :: l) := ⟨rfl, by simp⟩
theorem Put.s {a v : Slot} {l l' : List Slot} {k : Nat} (h : Put l k v l') : Put (a :: l) (k + 1) v (a :: l') := ⟨by simp [h.1], by simpa using h.2⟩
/-- the room of a callee -/
abbrev rmF (f c s w : Nat) : Room := { frames := f, cells := c, slots := s, locals := w }
section Steps
variable {l : Launch} {Z : State} {n0 : Nat} {R : Room} {B : Bdy} {Q : Option Value → Heap → Prop} {h : Heap} {cells slots pc q : Nat} {Ls Ls' : List Slot} {St St' : List Value} {a0 : Array Value}
theorem W.same (K : W l Z n0 R B Q h cells slots q Ls' St') (f : ∀ (p : Program) (e : Env) (s : State) (m : MethodId) (args : Array Value) (below : List Frame) (meth : Method) (c : Code) (T : State) (locs : List Loc), Ctx p s m meth c Z B → Stand p l e R s m args below meth c T locs cells slots → T.heap = h →
      ∀ target, Steps p.tables e below (T.setTop (mkF m q ⟨Ls'⟩ St')) target → Steps p.tables e below (T.setTop (mkF m pc ⟨Ls⟩ St)) target) : W l Z n0 R B Q h cells slots pc Ls St := by
  intro p e s m args below meth c T locs C X eT N hc hs
  obtain ⟨s₂, v, L, h1, h2⟩ := K p e s m args below meth c T locs C X eT N hc hs
  exact ⟨s₂, v, L, f p e s m args below meth c T locs C X eT _ h1, h2⟩
theorem W.warm (K : W l Z n0 R B Q h cells slots q Ls' St') (f : ∀ (p : Program) (e : Env) (s : State) (m : MethodId) (args : Array Value) (below : List Frame) (meth : Method) (c : Code) (T : State) (locs : List Loc), Ctx p s m meth c Z B → Stand p l e R s m args below meth c T locs cells slots → T.heap = h →
      ∃ T', Stand p l e R s m args below meth c T' locs cells slots ∧ T'.heap = h ∧ ∀ target, Steps p.tables e below (T'.setTop (mkF m q ⟨Ls'⟩ St')) target → Steps p.tables e below (T.setTop (mkF m pc ⟨Ls⟩ St)) target) : W l Z n0 R B Q h cells slots pc Ls St := by
  intro p e s m args below meth c T locs C X eT N hc hs
  obtain ⟨T', X', eT', st⟩ := f p e s m args below meth c T locs C X eT
  obtain ⟨s₂, v, L, h1, h2⟩ := K p e s m args below meth c T' locs C X' eT' N hc hs
  exact ⟨s₂, v, L, st _ h1, h2⟩
theorem W.wrote {a : Addr} {sl : Nat} {x : Value} (f : ∀ (p : Program) (e : Env) (s : State) (m : MethodId) (args : Array Value) (below : List Frame) (meth : Method) (c : Code) (T : State) (locs : List Loc), Ctx p s m meth c Z B → Stand p l e R s m args below meth c T locs cells slots → T.heap = h →
      ∃ T' h', Stand p l e R s m args below meth c T' (locs ++ [⟨a, sl⟩]) cells slots ∧ T'.heap = h' ∧ Wr h h' a sl x ∧ ∀ target, Steps p.tables e below (T'.setTop (mkF m q ⟨Ls'⟩ St')) target → Steps p.tables e below (T.setTop (mkF m pc ⟨Ls⟩ St)) target) (ha : n0 ≤ a) (K : ∀ h', Wr h h' a sl x → W l Z n0 R B Q h' cells slots q Ls' St') : W l Z n0 R B Q h cells slots pc Ls St := by
  intro p e s m args below meth c T locs C X eT N hc hs
  obtain ⟨T', h', X', eT', w, st⟩ := f p e s m args below meth c T locs C X eT
  obtain ⟨s₂, v, L, h1, h2⟩ := K h' w p e s m args below meth c T' _ C X' eT' (Fr.snoc X' N ha) hc hs
  exact ⟨s₂, v, L, st _ h1, h2⟩
/-! ### loads, stores, constants -/
theorem W.iload {k : Nat} {v : Int32} (hd : decode B.bytes pc = .ok (.iload k, 2)) (hl : Ls[k]? = some (.val (.int v))) (hq : pc + 2 = q) (K : W l Z n0 R B Q h cells slots q Ls (.int v :: St)) : W l Z n0 R B Q h cells slots pc Ls St := by
  subst hq; exact W.same K (fun p e s m args below meth c T locs C X eT t hr => XS.iload (g := mkF m pc ⟨Ls⟩ St) X.here C.1 rfl (hb C.2.1 hd) (by simpa using hl) hr)
theorem W.iloadN {k : Fin 4} {v : Int32} (hd : decode B.bytes pc = .ok (.iload_n k, 1)) (hl : Ls[k.val]? = some (.val (.int v))) (hq : pc + 1 = q) (K : W l Z n0 R B Q h cells slots q Ls (.int v :: St)) : W l Z n0 R B Q h cells slots pc Ls St := by
  subst hq; exact W.same K (fun p e s m args below meth c T locs C X eT t hr => XS.iloadN (g := mkF m pc ⟨Ls⟩ St) X.here C.1 rfl (hb C.2.1 hd) (by simpa using hl) hr)
theorem W.aload {k : Nat} {v : Value} (hd : decode B.bytes pc = .ok (.aload k, 2)) (hl : Ls[k]? = some (.val v)) (hv : v.isRef = true) (hq : pc + 2 = q) (K : W l Z n0 R B Q h cells slots q Ls (v :: St)) : W l Z n0 R B Q h cells slots pc Ls St := by
  subst hq; exact W.same K (fun p e s m args below meth c T locs C X eT t hr => XS.aload (g := mkF m pc ⟨Ls⟩ St) X.here C.1 rfl (hb C.2.1 hd) (by simpa using hl) hv hr)
theorem W.aloadN {k : Fin 4} {v : Value} (hd : decode B.bytes pc = .ok (.aload_n k, 1)) (hl : Ls[k.val]? = some (.val v)) (hv : v.isRef = true) (hq : pc + 1 = q) (K : W l Z n0 R B Q h cells slots q Ls (v :: St)) : W l Z n0 R B Q h cells slots pc Ls St := by
  subst hq; exact W.same K (fun p e s m args below meth c T locs C X eT t hr => XS.aloadN (g := mkF m pc ⟨Ls⟩ St) X.here C.1 rfl (hb C.2.1 hd) (by simpa using hl) hv hr)
theorem W.lload {k : Nat} {v : Int64} (hd : decode B.bytes pc = .ok (.lload k, 2)) (hl : Ls[k]? = some (.val (.long v))) (hq : pc + 2 = q) (K : W l Z n0 R B Q h cells slots q Ls (.long v :: St)) : W l Z n0 R B Q h cells slots pc Ls St := by
  subst hq; exact W.same K (fun p e s m args below meth c T locs C X eT t hr => XS.lload (g := mkF m pc ⟨Ls⟩ St) X.here C.1 rfl (hb C.2.1 hd) (by simpa using hl) hr)
theorem W.lloadN {k : Fin 4} {v : Int64} (hd : decode B.bytes pc = .ok (.lload_n k, 1)) (hl : Ls[k.val]? = some (.val (.long v))) (hq : pc + 1 = q) (K : W l Z n0 R B Q h cells slots q Ls (.long v :: St)) : W l Z n0 R B Q h cells slots pc Ls St := by
  subst hq; exact W.same K (fun p e s m args below meth c T locs C X eT t hr => XS.lloadN (g := mkF m pc ⟨Ls⟩ St) X.here C.1 rfl (hb C.2.1 hd) (by simpa using hl) hr)
theorem W.iconst {i : Int} {z : Int32} (hd : decode B.bytes pc = .ok (.iconst i, 1)) (hz : Int32.ofInt i = z) (hq : pc + 1 = q) (K : W l Z n0 R B Q h cells slots q Ls (.int z :: St)) : W l Z n0 R B Q h cells slots pc Ls St := by
  subst hq hz; exact W.same K (fun p e s m args below meth c T locs C X eT t hr => XS.iconst (g := mkF m pc ⟨Ls⟩ St) X.here C.1 rfl (hb C.2.1 hd) hr)
theorem W.bipush {i : Int} {z : Int32} (hd : decode B.bytes pc = .ok (.bipush i, 2)) (hz : (Int8.ofInt i).toInt32 = z) (hq : pc + 2 = q) (K : W l Z n0 R B Q h cells slots q Ls (.int z :: St)) : W l Z n0 R B Q h cells slots pc Ls St := by
  subst hq hz; exact W.same K (fun p e s m args below meth c T locs C X eT t hr => XS.bipush (g := mkF m pc ⟨Ls⟩ St) X.here C.1 rfl (hb C.2.1 hd) hr)
theorem W.sipush {i : Int} {z : Int32} (hd : decode B.bytes pc = .ok (.sipush i, 3)) (hz : (Int16.ofInt i).toInt32 = z) (hq : pc + 3 = q) (K : W l Z n0 R B Q h cells slots q Ls (.int z :: St)) : W l Z n0 R B Q h cells slots pc Ls St := by
  subst hq hz; exact W.same K (fun p e s m args below meth c T locs C X eT t hr => XS.sipush (g := mkF m pc ⟨Ls⟩ St) X.here C.1 rfl (hb C.2.1 hd) hr)
theorem W.ldc {i : Nat} {z : Int32} (hd : decode B.bytes pc = .ok (.ldc i, 2)) (w : (Cond.constant B.own i z).before a0 Z = true) (hq : pc + 2 = q) (K : W l Z n0 R B Q h cells slots q Ls (.int z :: St)) : W l Z n0 R B Q h cells slots pc Ls St := by
  subst hq; exact W.same K (fun p e s m args below meth c T locs C X eT t hr => X.ldcI (g := mkF m pc ⟨Ls⟩ St) C.1 C.2.2.2.2.1 (mvT C.2.2.2.1 w) rfl (hb C.2.1 hd) hr)
theorem W.ldcw {i : Nat} {z : Int32} (hd : decode B.bytes pc = .ok (.ldc_w i, 3)) (w : (Cond.constant B.own i z).before a0 Z = true) (hq : pc + 3 = q) (K : W l Z n0 R B Q h cells slots q Ls (.int z :: St)) : W l Z n0 R B Q h cells slots pc Ls St := by
  subst hq; exact W.same K (fun p e s m args below meth c T locs C X eT t hr => X.ldcWI (g := mkF m pc ⟨Ls⟩ St) C.1 C.2.2.2.2.1 (mvT C.2.2.2.1 w) rfl (hb C.2.1 hd) hr)
theorem W.ldc2 {i : Nat} {z : Int64} (hd : decode B.bytes pc = .ok (.ldc2_w i, 3)) (w : (Cond.constantLong B.own i z).before a0 Z = true) (hq : pc + 3 = q) (K : W l Z n0 R B Q h cells slots q Ls (.long z :: St)) : W l Z n0 R B Q h cells slots pc Ls St := by
  subst hq; exact W.same K (fun p e s m args below meth c T locs C X eT t hr => X.ldc2J (g := mkF m pc ⟨Ls⟩ St) C.1 C.2.2.2.2.1 (mvT C.2.2.2.1 w) rfl (hb C.2.1 hd) hr)
theorem W.lconst {k : Fin 2} {z : Int64} (hd : decode B.bytes pc = .ok (.lconst k, 1)) (hz : Int64.ofNat k.val = z) (hq : pc + 1 = q) (K : W l Z n0 R B Q h cells slots q Ls (.long z :: St)) : W l Z n0 R B Q h cells slots pc Ls St := by
  subst hq hz; exact W.same K (fun p e s m args below meth c T locs C X eT t hr => XS.lconst (g := mkF m pc ⟨Ls⟩ St) X.here C.1 rfl (hb C.2.1 hd) hr)
theorem W.aconstNull (hd : decode B.bytes pc = .ok (.aconst_null, 1)) (hq : pc + 1 = q) (K : W l Z n0 R B Q h cells slots q Ls (.null :: St)) : W l Z n0 R B Q h cells slots pc Ls St := by
  subst hq; exact W.same K (fun p e s m args below meth c T locs C X eT t hr => XS.aconstNull (g := mkF m pc ⟨Ls⟩ St) X.here C.1 rfl (hb C.2.1 hd) hr)
theorem put1 {k : Nat} {o : Slot} {v : Value} (hp : Put Ls k (.val v) Ls') (ho : Ls[k]? = some o) (h1 : o = .unset ∨ ∃ w, o = .val w ∧ w.category = 1) (hv : v.category = 1) : storeLocals ⟨Ls⟩ k v = some ⟨Ls'⟩ := by
  rw [XS.store1 (l := ⟨Ls⟩) (o := o) (by simpa using ho) h1 hv, hp.1]; simp
def one1 : Slot → Bool
  | .unset => true
  | .val w => w.category == 1
  | _ => false
theorem one1_of {o : Slot} (h : one1 o = true) : o = .unset ∨ ∃ w, o = .val w ∧ w.category = 1 := by
  cases o <;> simp_all [one1]
theorem W.istore {k : Nat} {o : Slot} {v : Int32} (hd : decode B.bytes pc = .ok (.istore k, 2)) (hp : Put Ls k (.val (.int v)) Ls') (ho : Ls[k]? = some o) (h1 : one1 o = true) (hq : pc + 2 = q) (K : W l Z n0 R B Q h cells slots q Ls' St) : W l Z n0 R B Q h cells slots pc Ls (.int v :: St) := by
  subst hq; exact W.same K (fun p e s m args below meth c T locs C X eT t hr => XS.istore (g := mkF m pc ⟨Ls⟩ (.int v :: St)) X.here C.1 rfl (hb C.2.1 hd) rfl (put1 hp ho (one1_of h1) rfl) hr)
theorem W.istoreN {k : Fin 4} {o : Slot} {v : Int32} (hd : decode B.bytes pc = .ok (.istore_n k, 1)) (hp : Put Ls k.val (.val (.int v)) Ls') (ho : Ls[k.val]? = some o) (h1 : one1 o = true) (hq : pc + 1 = q) (K : W l Z n0 R B Q h cells slots q Ls' St) : W l Z n0 R B Q h cells slots pc Ls (.int v :: St) := by
  subst hq; exact W.same K (fun p e s m args below meth c T locs C X eT t hr => XS.istoreN (g := mkF m pc ⟨Ls⟩ (.int v :: St)) X.here C.1 rfl (hb C.2.1 hd) rfl (put1 hp ho (one1_of h1) rfl) hr)
theorem W.astore {k : Nat} {o : Slot} {v : Value} (hd : decode B.bytes pc = .ok (.astore k, 2)) (hv : v.isRef = true) (hp : Put Ls k (.val v) Ls') (ho : Ls[k]? = some o) (h1 : one1 o = true) (hq : pc + 2 = q) (K : W l Z n0 R B Q h cells slots q Ls' St) : W l Z n0 R B Q h cells slots pc Ls (v :: St) := by
  subst hq; exact W.same K (fun p e s m args below meth c T locs C X eT t hr => XS.astore (g := mkF m pc ⟨Ls⟩ (v :: St)) X.here C.1 rfl (hb C.2.1 hd) rfl hv (put1 hp ho (one1_of h1) (by cases v <;> simp_all [Value.isRef, Value.category])) hr)
theorem W.astoreN {k : Fin 4} {o : Slot} {v : Value} (hd : decode B.bytes pc = .ok (.astore_n k, 1)) (hv : v.isRef = true) (hp : Put Ls k.val (.val v) Ls') (ho : Ls[k.val]? = some o) (h1 : one1 o = true) (hq : pc + 1 = q) (K : W l Z n0 R B Q h cells slots q Ls' St) : W l Z n0 R B Q h cells slots pc Ls (v :: St) := by
  subst hq; exact W.same K (fun p e s m args below meth c T locs C X eT t hr => XS.astoreN (g := mkF m pc ⟨Ls⟩ (v :: St)) X.here C.1 rfl (hb C.2.1 hd) rfl hv (put1 hp ho (one1_of h1) (by cases v <;> simp_all [Value.isRef, Value.category])) hr)
theorem W.iinc {k : Nat} {cst : Int} {x z : Int32} (hd : decode B.bytes pc = .ok (.iinc k cst, 3)) (hl : Ls[k]? = some (.val (.int x))) (hz : Int32.ofInt cst = z) (hp : Put Ls k (.val (.int (x + z))) Ls') (hq : pc + 3 = q) (K : W l Z n0 R B Q h cells slots q Ls' St) : W l Z n0 R B Q h cells slots pc Ls St := by
  subst hq hz; exact W.same K (fun p e s m args below meth c T locs C X eT t hr => XS.iinc (g := mkF m pc ⟨Ls⟩ St) X.here C.1 rfl (hb C.2.1 hd) (by simpa using hl) (put1 hp hl (Or.inr ⟨_, rfl, rfl⟩) rfl) hr)
/-- l' is l with the long v at its k-th and k+1-st place -/
def Put2 (l : List Slot) (k : Nat) (v : Value) (l' : List Slot) : Prop := l' = (l.set k (.val v)).set (k + 1) .second ∧ k + 1 < l.length
theorem Put2.z {a b : Slot} {v : Value} {l : List Slot} : Put2 (a :: b :: l) 0 v (.val v :: .second :: l) := ⟨rfl, by simp⟩
theorem Put2.s {a : Slot} {v : Value} {l l' : List Slot} {k : Nat} (h : Put2 l k v l') : Put2 (a :: l) (k + 1) v (a :: l') := ⟨by simp [h.1], by simpa using h.2⟩
def two2 : Slot → Slot → Bool
  | .val w, .second => w.category == 2
  | o, o' => one1 o && one1 o'
theorem set_set_second (l : List Slot) (k : Nat) (v : Slot) : ((l.set (k + 1) .unset).set k v).set (k + 1) .second = (l.set k v).set (k + 1) .second := by
  apply List.ext_getElem? ; intro i; by_cases h1 : k + 1 = i <;> by_cases h2 : k = i <;> simp_all [List.getElem?_set]
theorem put2 {k : Nat} {o o' : Slot} {v : Value} (hp : Put2 Ls k v Ls') (ho : Ls[k]? = some o) (ho' : Ls[k + 1]? = some o') (h1 : two2 o o' = true) (hv : v.category = 2) : storeLocals ⟨Ls⟩ k v = some ⟨Ls'⟩ := by
  obtain ⟨rfl, hk⟩ := hp
  have hk' : k < Ls.length := by omega
  have e1 := (List.getElem?_eq_some_iff.mp ho).2
  have e2 := (List.getElem?_eq_some_iff.mp ho').2
  cases o <;> cases o' <;> simp [two2, one1] at h1 <;> simp [storeLocals, storeSelf, setAt, hv, hk, hk', e1, e2, h1, List.getElem_set, set_set_second]
theorem W.lstore {k : Nat} {o o' : Slot} {v : Int64} (hd : decode B.bytes pc = .ok (.lstore k, 2)) (hp : Put2 Ls k (.long v) Ls') (ho : Ls[k]? = some o) (ho' : Ls[k + 1]? = some o') (h1 : two2 o o' = true) (hq : pc + 2 = q) (K : W l Z n0 R B Q h cells slots q Ls' St) : W l Z n0 R B Q h cells slots pc Ls (.long v :: St) := by
  subst hq; exact W.same K (fun p e s m args below meth c T locs C X eT t hr => XS.lstore (g := mkF m pc ⟨Ls⟩ (.long v :: St)) X.here C.1 rfl (hb C.2.1 hd) rfl (put2 hp ho ho' h1 rfl) hr)
theorem W.lstoreN {k : Fin 4} {o o' : Slot} {v : Int64} (hd : decode B.bytes pc = .ok (.lstore_n k, 1)) (hp : Put2 Ls k.val (.long v) Ls') (ho : Ls[k.val]? = some o) (ho' : Ls[k.val + 1]? = some o') (h1 : two2 o o' = true) (hq : pc + 1 = q) (K : W l Z n0 R B Q h cells slots q Ls' St) : W l Z n0 R B Q h cells slots pc Ls (.long v :: St) := by
  subst hq; exact W.same K (fun p e s m args below meth c T locs C X eT t hr => XS.lstoreN (g := mkF m pc ⟨Ls⟩ (.long v :: St)) X.here C.1 rfl (hb C.2.1 hd) rfl (put2 hp ho ho' h1 rfl) hr)
theorem W.iadd {x : Int32} {y : Int32} (hd : decode B.bytes pc = .ok (.iadd, 1)) (hq : pc + 1 = q) (K : W l Z n0 R B Q h cells slots q Ls (.int (x + y) :: St)) : W l Z n0 R B Q h cells slots pc Ls (.int y :: .int x :: St) := by
  subst hq; exact W.same K (fun p e s m args below meth c T locs C X eT t hr => XS.iadd (g := mkF m pc ⟨Ls⟩ (.int y :: .int x :: St)) X.here C.1 rfl (hb C.2.1 hd) rfl hr)
theorem W.isub {x : Int32} {y : Int32} (hd : decode B.bytes pc = .ok (.isub, 1)) (hq : pc + 1 = q) (K : W l Z n0 R B Q h cells slots q Ls (.int (x - y) :: St)) : W l Z n0 R B Q h cells slots pc Ls (.int y :: .int x :: St) := by
  subst hq; exact W.same K (fun p e s m args below meth c T locs C X eT t hr => XS.isub (g := mkF m pc ⟨Ls⟩ (.int y :: .int x :: St)) X.here C.1 rfl (hb C.2.1 hd) rfl hr)
theorem W.imul {x : Int32} {y : Int32} (hd : decode B.bytes pc = .ok (.imul, 1)) (hq : pc + 1 = q) (K : W l Z n0 R B Q h cells slots q Ls (.int (x * y) :: St)) : W l Z n0 R B Q h cells slots pc Ls (.int y :: .int x :: St) := by
  subst hq; exact W.same K (fun p e s m args below meth c T locs C X eT t hr => XS.imul (g := mkF m pc ⟨Ls⟩ (.int y :: .int x :: St)) X.here C.1 rfl (hb C.2.1 hd) rfl hr)
theorem W.iand {x : Int32} {y : Int32} (hd : decode B.bytes pc = .ok (.iand, 1)) (hq : pc + 1 = q) (K : W l Z n0 R B Q h cells slots q Ls (.int (x &&& y) :: St)) : W l Z n0 R B Q h cells slots pc Ls (.int y :: .int x :: St) := by
  subst hq; exact W.same K (fun p e s m args below meth c T locs C X eT t hr => XS.iand (g := mkF m pc ⟨Ls⟩ (.int y :: .int x :: St)) X.here C.1 rfl (hb C.2.1 hd) rfl hr)
theorem W.ior {x : Int32} {y : Int32} (hd : decode B.bytes pc = .ok (.ior, 1)) (hq : pc + 1 = q) (K : W l Z n0 R B Q h cells slots q Ls (.int (x ||| y) :: St)) : W l Z n0 R B Q h cells slots pc Ls (.int y :: .int x :: St) := by
  subst hq; exact W.same K (fun p e s m args below meth c T locs C X eT t hr => XS.ior (g := mkF m pc ⟨Ls⟩ (.int y :: .int x :: St)) X.here C.1 rfl (hb C.2.1 hd) rfl hr)
theorem W.ixor {x : Int32} {y : Int32} (hd : decode B.bytes pc = .ok (.ixor, 1)) (hq : pc + 1 = q) (K : W l Z n0 R B Q h cells slots q Ls (.int (x ^^^ y) :: St)) : W l Z n0 R B Q h cells slots pc Ls (.int y :: .int x :: St) := by
  subst hq; exact W.same K (fun p e s m args below meth c T locs C X eT t hr => XS.ixor (g := mkF m pc ⟨Ls⟩ (.int y :: .int x :: St)) X.here C.1 rfl (hb C.2.1 hd) rfl hr)
theorem W.ishl {x : Int32} {y : Int32} (hd : decode B.bytes pc = .ok (.ishl, 1)) (hq : pc + 1 = q) (K : W l Z n0 R B Q h cells slots q Ls (.int (x <<< (y &&& 0x1f)) :: St)) : W l Z n0 R B Q h cells slots pc Ls (.int y :: .int x :: St) := by
  subst hq; exact W.same K (fun p e s m args below meth c T locs C X eT t hr => XS.ishl (g := mkF m pc ⟨Ls⟩ (.int y :: .int x :: St)) X.here C.1 rfl (hb C.2.1 hd) rfl hr)
theorem W.ishr {x : Int32} {y : Int32} (hd : decode B.bytes pc = .ok (.ishr, 1)) (hq : pc + 1 = q) (K : W l Z n0 R B Q h cells slots q Ls (.int (x >>> (y &&& 0x1f)) :: St)) : W l Z n0 R B Q h cells slots pc Ls (.int y :: .int x :: St) := by
  subst hq; exact W.same K (fun p e s m args below meth c T locs C X eT t hr => XS.ishr (g := mkF m pc ⟨Ls⟩ (.int y :: .int x :: St)) X.here C.1 rfl (hb C.2.1 hd) rfl hr)
theorem W.iushr {x : Int32} {y : Int32} (hd : decode B.bytes pc = .ok (.iushr, 1)) (hq : pc + 1 = q) (K : W l Z n0 R B Q h cells slots q Ls (.int ((x.toUInt32 >>> (y &&& 0x1f).toUInt32).toInt32) :: St)) : W l Z n0 R B Q h cells slots pc Ls (.int y :: .int x :: St) := by
  subst hq; exact W.same K (fun p e s m args below meth c T locs C X eT t hr => XS.iushr (g := mkF m pc ⟨Ls⟩ (.int y :: .int x :: St)) X.here C.1 rfl (hb C.2.1 hd) rfl hr)
theorem W.ladd {x : Int64} {y : Int64} (hd : decode B.bytes pc = .ok (.ladd, 1)) (hq : pc + 1 = q) (K : W l Z n0 R B Q h cells slots q Ls (.long (x + y) :: St)) : W l Z n0 R B Q h cells slots pc Ls (.long y :: .long x :: St) := by
  subst hq; exact W.same K (fun p e s m args below meth c T locs C X eT t hr => XS.ladd (g := mkF m pc ⟨Ls⟩ (.long y :: .long x :: St)) X.here C.1 rfl (hb C.2.1 hd) rfl hr)
theorem W.lsub {x : Int64} {y : Int64} (hd : decode B.bytes pc = .ok (.lsub, 1)) (hq : pc + 1 = q) (K : W l Z n0 R B Q h cells slots q Ls (.long (x - y) :: St)) : W l Z n0 R B Q h cells slots pc Ls (.long y :: .long x :: St) := by
  subst hq; exact W.same K (fun p e s m args below meth c T locs C X eT t hr => XS.lsub (g := mkF m pc ⟨Ls⟩ (.long y :: .long x :: St)) X.here C.1 rfl (hb C.2.1 hd) rfl hr)
theorem W.lmul {x : Int64} {y : Int64} (hd : decode B.bytes pc = .ok (.lmul, 1)) (hq : pc + 1 = q) (K : W l Z n0 R B Q h cells slots q Ls (.long (x * y) :: St)) : W l Z n0 R B Q h cells slots pc Ls (.long y :: .long x :: St) := by
  subst hq; exact W.same K (fun p e s m args below meth c T locs C X eT t hr => XS.lmul (g := mkF m pc ⟨Ls⟩ (.long y :: .long x :: St)) X.here C.1 rfl (hb C.2.1 hd) rfl hr)
theorem W.land {x : Int64} {y : Int64} (hd : decode B.bytes pc = .ok (.land, 1)) (hq : pc + 1 = q) (K : W l Z n0 R B Q h cells slots q Ls (.long (x &&& y) :: St)) : W l Z n0 R B Q h cells slots pc Ls (.long y :: .long x :: St) := by
  subst hq; exact W.same K (fun p e s m args below meth c T locs C X eT t hr => XS.land (g := mkF m pc ⟨Ls⟩ (.long y :: .long x :: St)) X.here C.1 rfl (hb C.2.1 hd) rfl hr)
theorem W.lor {x : Int64} {y : Int64} (hd : decode B.bytes pc = .ok (.lor, 1)) (hq : pc + 1 = q) (K : W l Z n0 R B Q h cells slots q Ls (.long (x ||| y) :: St)) : W l Z n0 R B Q h cells slots pc Ls (.long y :: .long x :: St) := by
  subst hq; exact W.same K (fun p e s m args below meth c T locs C X eT t hr => XS.lor (g := mkF m pc ⟨Ls⟩ (.long y :: .long x :: St)) X.here C.1 rfl (hb C.2.1 hd) rfl hr)
theorem W.lxor {x : Int64} {y : Int64} (hd : decode B.bytes pc = .ok (.lxor, 1)) (hq : pc + 1 = q) (K : W l Z n0 R B Q h cells slots q Ls (.long (x ^^^ y) :: St)) : W l Z n0 R B Q h cells slots pc Ls (.long y :: .long x :: St) := by
  subst hq; exact W.same K (fun p e s m args below meth c T locs C X eT t hr => XS.lxor (g := mkF m pc ⟨Ls⟩ (.long y :: .long x :: St)) X.here C.1 rfl (hb C.2.1 hd) rfl hr)
theorem W.lshl {x : Int64} {y : Int32} (hd : decode B.bytes pc = .ok (.lshl, 1)) (hq : pc + 1 = q) (K : W l Z n0 R B Q h cells slots q Ls (.long (x <<< (y &&& 0x3f).toInt64) :: St)) : W l Z n0 R B Q h cells slots pc Ls (.int y :: .long x :: St) := by
  subst hq; exact W.same K (fun p e s m args below meth c T locs C X eT t hr => XS.lshl (g := mkF m pc ⟨Ls⟩ (.int y :: .long x :: St)) X.here C.1 rfl (hb C.2.1 hd) rfl hr)
theorem W.lshr {x : Int64} {y : Int32} (hd : decode B.bytes pc = .ok (.lshr, 1)) (hq : pc + 1 = q) (K : W l Z n0 R B Q h cells slots q Ls (.long (x >>> (y &&& 0x3f).toInt64) :: St)) : W l Z n0 R B Q h cells slots pc Ls (.int y :: .long x :: St) := by
  subst hq; exact W.same K (fun p e s m args below meth c T locs C X eT t hr => XS.lshr (g := mkF m pc ⟨Ls⟩ (.int y :: .long x :: St)) X.here C.1 rfl (hb C.2.1 hd) rfl hr)
theorem W.lushr {x : Int64} {y : Int32} (hd : decode B.bytes pc = .ok (.lushr, 1)) (hq : pc + 1 = q) (K : W l Z n0 R B Q h cells slots q Ls (.long ((x.toUInt64 >>> (y &&& 0x3f).toInt64.toUInt64).toInt64) :: St)) : W l Z n0 R B Q h cells slots pc Ls (.int y :: .long x :: St) := by
  subst hq; exact W.same K (fun p e s m args below meth c T locs C X eT t hr => XS.lushr (g := mkF m pc ⟨Ls⟩ (.int y :: .long x :: St)) X.here C.1 rfl (hb C.2.1 hd) rfl hr)
theorem W.lcmp {x : Int64} {y : Int64} (hd : decode B.bytes pc = .ok (.lcmp, 1)) (hq : pc + 1 = q) (K : W l Z n0 R B Q h cells slots q Ls (.int (lcmpW x y) :: St)) : W l Z n0 R B Q h cells slots pc Ls (.long y :: .long x :: St) := by
  subst hq; exact W.same K (fun p e s m args below meth c T locs C X eT t hr => XS.lcmp (g := mkF m pc ⟨Ls⟩ (.long y :: .long x :: St)) X.here C.1 rfl (hb C.2.1 hd) rfl hr)
theorem W.ineg {x : Int32} (hd : decode B.bytes pc = .ok (.ineg, 1)) (hq : pc + 1 = q) (K : W l Z n0 R B Q h cells slots q Ls (.int (-x) :: St)) : W l Z n0 R B Q h cells slots pc Ls (.int x :: St) := by
  subst hq; exact W.same K (fun p e s m args below meth c T locs C X eT t hr => XS.ineg (g := mkF m pc ⟨Ls⟩ (.int x :: St)) X.here C.1 rfl (hb C.2.1 hd) rfl hr)
theorem W.i2l {x : Int32} (hd : decode B.bytes pc = .ok (.i2l, 1)) (hq : pc + 1 = q) (K : W l Z n0 R B Q h cells slots q Ls (.long (x.toInt64) :: St)) : W l Z n0 R B Q h cells slots pc Ls (.int x :: St) := by
  subst hq; exact W.same K (fun p e s m args below meth c T locs C X eT t hr => XS.i2l (g := mkF m pc ⟨Ls⟩ (.int x :: St)) X.here C.1 rfl (hb C.2.1 hd) rfl hr)
theorem W.l2i {x : Int64} (hd : decode B.bytes pc = .ok (.l2i, 1)) (hq : pc + 1 = q) (K : W l Z n0 R B Q h cells slots q Ls (.int (x.toInt32) :: St)) : W l Z n0 R B Q h cells slots pc Ls (.long x :: St) := by
  subst hq; exact W.same K (fun p e s m args below meth c T locs C X eT t hr => XS.l2i (g := mkF m pc ⟨Ls⟩ (.long x :: St)) X.here C.1 rfl (hb C.2.1 hd) rfl hr)
theorem W.i2b {x : Int32} (hd : decode B.bytes pc = .ok (.i2b, 1)) (hq : pc + 1 = q) (K : W l Z n0 R B Q h cells slots q Ls (.int (x.toInt8.toInt32) :: St)) : W l Z n0 R B Q h cells slots pc Ls (.int x :: St) := by
  subst hq; exact W.same K (fun p e s m args below meth c T locs C X eT t hr => XS.i2b (g := mkF m pc ⟨Ls⟩ (.int x :: St)) X.here C.1 rfl (hb C.2.1 hd) rfl hr)
theorem W.i2c {x : Int32} (hd : decode B.bytes pc = .ok (.i2c, 1)) (hq : pc + 1 = q) (K : W l Z n0 R B Q h cells slots q Ls (.int (x.toUInt32.toUInt16.toUInt32.toInt32) :: St)) : W l Z n0 R B Q h cells slots pc Ls (.int x :: St) := by
  subst hq; exact W.same K (fun p e s m args below meth c T locs C X eT t hr => XS.i2c (g := mkF m pc ⟨Ls⟩ (.int x :: St)) X.here C.1 rfl (hb C.2.1 hd) rfl hr)
theorem W.i2s {x : Int32} (hd : decode B.bytes pc = .ok (.i2s, 1)) (hq : pc + 1 = q) (K : W l Z n0 R B Q h cells slots q Ls (.int (x.toInt16.toInt32) :: St)) : W l Z n0 R B Q h cells slots pc Ls (.int x :: St) := by
  subst hq; exact W.same K (fun p e s m args below meth c T locs C X eT t hr => XS.i2s (g := mkF m pc ⟨Ls⟩ (.int x :: St)) X.here C.1 rfl (hb C.2.1 hd) rfl hr)
theorem W.irem {x y : Int32} (hd : decode B.bytes pc = .ok (.irem, 1)) (hy : y ≠ 0) (hq : pc + 1 = q) (K : W l Z n0 R B Q h cells slots q Ls (.int (x % y) :: St)) : W l Z n0 R B Q h cells slots pc Ls (.int y :: .int x :: St) := by
  subst hq; exact W.same K (fun p e s m args below meth c T locs C X eT t hr => iremM (g := mkF m pc ⟨Ls⟩ (.int y :: .int x :: St)) X C.1 rfl (hb C.2.1 hd) rfl hy hr)
theorem W.idiv {x y : Int32} (hd : decode B.bytes pc = .ok (.idiv, 1)) (hy : y ≠ 0) (hq : pc + 1 = q) (K : W l Z n0 R B Q h cells slots q Ls (.int (x / y) :: St)) : W l Z n0 R B Q h cells slots pc Ls (.int y :: .int x :: St) := by
  subst hq; exact W.same K (fun p e s m args below meth c T locs C X eT t hr => XS.idiv (g := mkF m pc ⟨Ls⟩ (.int y :: .int x :: St)) X.here C.1 rfl (hb C.2.1 hd) rfl hy hr)
theorem W.dup {x : Value} (hd : decode B.bytes pc = .ok (.dup, 1)) (hc : x.category = 1) (hq : pc + 1 = q) (K : W l Z n0 R B Q h cells slots q Ls (x :: x :: St)) : W l Z n0 R B Q h cells slots pc Ls (x :: St) := by
  subst hq; exact W.same K (fun p e s m args below meth c T locs C X eT t hr => XS.dup (g := mkF m pc ⟨Ls⟩ (x :: St)) X.here C.1 rfl (hb C.2.1 hd) rfl hc hr)
theorem W.pop {x : Value} (hd : decode B.bytes pc = .ok (.pop, 1)) (hc : x.category = 1) (hq : pc + 1 = q) (K : W l Z n0 R B Q h cells slots q Ls St) : W l Z n0 R B Q h cells slots pc Ls (x :: St) := by
  subst hq; exact W.same K (fun p e s m args below meth c T locs C X eT t hr => XS.pop (g := mkF m pc ⟨Ls⟩ (x :: St)) X.here C.1 rfl (hb C.2.1 hd) rfl hc hr)
theorem W.dup2 {x y : Value} (hd : decode B.bytes pc = .ok (.dup2, 1)) (hc : x.category = 1) (hc' : y.category = 1) (hq : pc + 1 = q) (K : W l Z n0 R B Q h cells slots q Ls (x :: y :: x :: y :: St)) : W l Z n0 R B Q h cells slots pc Ls (x :: y :: St) := by
  subst hq; exact W.same K (fun p e s m args below meth c T locs C X eT t hr => XT.dup2 (g := mkF m pc ⟨Ls⟩ (x :: y :: St)) X.here C.1 rfl (hb C.2.1 hd) rfl hc hc' hr)
theorem W.goto {o : Int} (hd : decode B.bytes pc = .ok (.goto o, 3)) (ho : 0 ≤ (pc : Int) + o) (hq : ((pc : Int) + o).toNat = q) (K : W l Z n0 R B Q h cells slots q Ls St) : W l Z n0 R B Q h cells slots pc Ls St :=
  W.same K (fun p e s m args below meth c T locs C X eT t hr => XS.goto (g := mkF m pc ⟨Ls⟩ St) X.here C.1 rfl rfl (hb C.2.1 hd) ho hq hr)
theorem W.icmp {cd : ClassFile.Cond} {o : Int} {x y : Int32} {q' : Nat} (hd : decode B.bytes pc = .ok (.if_icmp cd o, 3)) (ho : 0 ≤ (pc : Int) + o) (hq : ((pc : Int) + o).toNat = q) (hq' : pc + 3 = q') (K1 : if_icmp.holds cd x y = true → W l Z n0 R B Q h cells slots q Ls St) (K2 : if_icmp.holds cd x y = false → W l Z n0 R B Q h cells slots q' Ls St) : W l Z n0 R B Q h cells slots pc Ls (.int y :: .int x :: St) := by
  subst hq'
  rcases Bool.eq_false_or_eq_true (if_icmp.holds cd x y) with hc | hc
  · exact W.same (K1 hc) (fun p e s m args below meth c T locs C X eT t hr => XS.icmpYes (g := mkF m pc ⟨Ls⟩ (.int y :: .int x :: St)) X.here C.1 rfl rfl (hb C.2.1 hd) rfl hc ho hq hr)
  · exact W.same (K2 hc) (fun p e s m args below meth c T locs C X eT t hr => XS.icmpNo (g := mkF m pc ⟨Ls⟩ (.int y :: .int x :: St)) X.here C.1 rfl (hb C.2.1 hd) rfl hc hr)
theorem W.ifc {cd : ClassFile.Cond} {o : Int} {x : Int32} {q' : Nat} (hd : decode B.bytes pc = .ok (.ifCond cd o, 3)) (ho : 0 ≤ (pc : Int) + o) (hq : ((pc : Int) + o).toNat = q) (hq' : pc + 3 = q') (K1 : if_icmp.holds cd x 0 = true → W l Z n0 R B Q h cells slots q Ls St) (K2 : if_icmp.holds cd x 0 = false → W l Z n0 R B Q h cells slots q' Ls St) : W l Z n0 R B Q h cells slots pc Ls (.int x :: St) := by
  subst hq'
  rcases Bool.eq_false_or_eq_true (if_icmp.holds cd x 0) with hc | hc
  · exact W.same (K1 hc) (fun p e s m args below meth c T locs C X eT t hr => XS.ifYes (g := mkF m pc ⟨Ls⟩ (.int x :: St)) X.here C.1 rfl rfl (hb C.2.1 hd) rfl ((if0 cd x).trans hc) ho hq hr)
  · exact W.same (K2 hc) (fun p e s m args below meth c T locs C X eT t hr => XS.ifNo (g := mkF m pc ⟨Ls⟩ (.int x :: St)) X.here C.1 rfl (hb C.2.1 hd) rfl ((if0 cd x).trans hc) hr)
theorem W.icmp_eq {o : Int} {x y : Int32} {q' : Nat} (hd : decode B.bytes pc = .ok (.if_icmp .eq o, 3)) (ho : 0 ≤ (pc : Int) + o) (hq : ((pc : Int) + o).toNat = q) (hq' : pc + 3 = q') (K1 : x = y → W l Z n0 R B Q h cells slots q Ls St) (K2 : ¬ x = y → W l Z n0 R B Q h cells slots q' Ls St) : W l Z n0 R B Q h cells slots pc Ls (.int y :: .int x :: St) :=
  W.icmp hd ho hq hq' (fun hc => K1 (by simpa [if_icmp.holds, Int32.not_lt, Int32.not_le] using hc)) (fun hc => K2 (by simpa [if_icmp.holds, Int32.not_lt, Int32.not_le] using hc))
theorem W.ifc_eq {o : Int} {x : Int32} {q' : Nat} (hd : decode B.bytes pc = .ok (.ifCond .eq o, 3)) (ho : 0 ≤ (pc : Int) + o) (hq : ((pc : Int) + o).toNat = q) (hq' : pc + 3 = q') (K1 : x = 0 → W l Z n0 R B Q h cells slots q Ls St) (K2 : ¬ x = 0 → W l Z n0 R B Q h cells slots q' Ls St) : W l Z n0 R B Q h cells slots pc Ls (.int x :: St) :=
  W.ifc hd ho hq hq' (fun hc => K1 (by simpa [if_icmp.holds, Int32.not_lt, Int32.not_le] using hc)) (fun hc => K2 (by simpa [if_icmp.holds, Int32.not_lt, Int32.not_le] using hc))
theorem W.icmp_ne {o : Int} {x y : Int32} {q' : Nat} (hd : decode B.bytes pc = .ok (.if_icmp .ne o, 3)) (ho : 0 ≤ (pc : Int) + o) (hq : ((pc : Int) + o).toNat = q) (hq' : pc + 3 = q') (K1 : ¬ x = y → W l Z n0 R B Q h cells slots q Ls St) (K2 : x = y → W l Z n0 R B Q h cells slots q' Ls St) : W l Z n0 R B Q h cells slots pc Ls (.int y :: .int x :: St) :=
  W.icmp hd ho hq hq' (fun hc => K1 (by simpa [if_icmp.holds, Int32.not_lt, Int32.not_le] using hc)) (fun hc => K2 (by simpa [if_icmp.holds, Int32.not_lt, Int32.not_le] using hc))
theorem W.ifc_ne {o : Int} {x : Int32} {q' : Nat} (hd : decode B.bytes pc = .ok (.ifCond .ne o, 3)) (ho : 0 ≤ (pc : Int) + o) (hq : ((pc : Int) + o).toNat = q) (hq' : pc + 3 = q') (K1 : ¬ x = 0 → W l Z n0 R B Q h cells slots q Ls St) (K2 : x = 0 → W l Z n0 R B Q h cells slots q' Ls St) : W l Z n0 R B Q h cells slots pc Ls (.int x :: St) :=
  W.ifc hd ho hq hq' (fun hc => K1 (by simpa [if_icmp.holds, Int32.not_lt, Int32.not_le] using hc)) (fun hc => K2 (by simpa [if_icmp.holds, Int32.not_lt, Int32.not_le] using hc))
theorem W.icmp_lt {o : Int} {x y : Int32} {q' : Nat} (hd : decode B.bytes pc = .ok (.if_icmp .lt o, 3)) (ho : 0 ≤ (pc : Int) + o) (hq : ((pc : Int) + o).toNat = q) (hq' : pc + 3 = q') (K1 : x < y → W l Z n0 R B Q h cells slots q Ls St) (K2 : ¬ x < y → W l Z n0 R B Q h cells slots q' Ls St) : W l Z n0 R B Q h cells slots pc Ls (.int y :: .int x :: St) :=
  W.icmp hd ho hq hq' (fun hc => K1 (by simpa [if_icmp.holds, Int32.not_lt, Int32.not_le] using hc)) (fun hc => K2 (by simpa [if_icmp.holds, Int32.not_lt, Int32.not_le] using hc))
theorem W.ifc_lt {o : Int} {x : Int32} {q' : Nat} (hd : decode B.bytes pc = .ok (.ifCond .lt o, 3)) (ho : 0 ≤ (pc : Int) + o) (hq : ((pc : Int) + o).toNat = q) (hq' : pc + 3 = q') (K1 : x < 0 → W l Z n0 R B Q h cells slots q Ls St) (K2 : ¬ x < 0 → W l Z n0 R B Q h cells slots q' Ls St) : W l Z n0 R B Q h cells slots pc Ls (.int x :: St) :=
  W.ifc hd ho hq hq' (fun hc => K1 (by simpa [if_icmp.holds, Int32.not_lt, Int32.not_le] using hc)) (fun hc => K2 (by simpa [if_icmp.holds, Int32.not_lt, Int32.not_le] using hc))
theorem W.icmp_ge {o : Int} {x y : Int32} {q' : Nat} (hd : decode B.bytes pc = .ok (.if_icmp .ge o, 3)) (ho : 0 ≤ (pc : Int) + o) (hq : ((pc : Int) + o).toNat = q) (hq' : pc + 3 = q') (K1 : ¬ x < y → W l Z n0 R B Q h cells slots q Ls St) (K2 : x < y → W l Z n0 R B Q h cells slots q' Ls St) : W l Z n0 R B Q h cells slots pc Ls (.int y :: .int x :: St) :=
  W.icmp hd ho hq hq' (fun hc => K1 (by simpa [if_icmp.holds, Int32.not_lt, Int32.not_le] using hc)) (fun hc => K2 (by simpa [if_icmp.holds, Int32.not_lt, Int32.not_le] using hc))
theorem W.ifc_ge {o : Int} {x : Int32} {q' : Nat} (hd : decode B.bytes pc = .ok (.ifCond .ge o, 3)) (ho : 0 ≤ (pc : Int) + o) (hq : ((pc : Int) + o).toNat = q) (hq' : pc + 3 = q') (K1 : ¬ x < 0 → W l Z n0 R B Q h cells slots q Ls St) (K2 : x < 0 → W l Z n0 R B Q h cells slots q' Ls St) : W l Z n0 R B Q h cells slots pc Ls (.int x :: St) :=
  W.ifc hd ho hq hq' (fun hc => K1 (by simpa [if_icmp.holds, Int32.not_lt, Int32.not_le] using hc)) (fun hc => K2 (by simpa [if_icmp.holds, Int32.not_lt, Int32.not_le] using hc))
theorem W.icmp_gt {o : Int} {x y : Int32} {q' : Nat} (hd : decode B.bytes pc = .ok (.if_icmp .gt o, 3)) (ho : 0 ≤ (pc : Int) + o) (hq : ((pc : Int) + o).toNat = q) (hq' : pc + 3 = q') (K1 : y < x → W l Z n0 R B Q h cells slots q Ls St) (K2 : ¬ y < x → W l Z n0 R B Q h cells slots q' Ls St) : W l Z n0 R B Q h cells slots pc Ls (.int y :: .int x :: St) :=
  W.icmp hd ho hq hq' (fun hc => K1 (by simpa [if_icmp.holds, Int32.not_lt, Int32.not_le] using hc)) (fun hc => K2 (by simpa [if_icmp.holds, Int32.not_lt, Int32.not_le] using hc))
theorem W.ifc_gt {o : Int} {x : Int32} {q' : Nat} (hd : decode B.bytes pc = .ok (.ifCond .gt o, 3)) (ho : 0 ≤ (pc : Int) + o) (hq : ((pc : Int) + o).toNat = q) (hq' : pc + 3 = q') (K1 : 0 < x → W l Z n0 R B Q h cells slots q Ls St) (K2 : ¬ 0 < x → W l Z n0 R B Q h cells slots q' Ls St) : W l Z n0 R B Q h cells slots pc Ls (.int x :: St) :=
  W.ifc hd ho hq hq' (fun hc => K1 (by simpa [if_icmp.holds, Int32.not_lt, Int32.not_le] using hc)) (fun hc => K2 (by simpa [if_icmp.holds, Int32.not_lt, Int32.not_le] using hc))
theorem W.icmp_le {o : Int} {x y : Int32} {q' : Nat} (hd : decode B.bytes pc = .ok (.if_icmp .le o, 3)) (ho : 0 ≤ (pc : Int) + o) (hq : ((pc : Int) + o).toNat = q) (hq' : pc + 3 = q') (K1 : ¬ y < x → W l Z n0 R B Q h cells slots q Ls St) (K2 : y < x → W l Z n0 R B Q h cells slots q' Ls St) : W l Z n0 R B Q h cells slots pc Ls (.int y :: .int x :: St) :=
  W.icmp hd ho hq hq' (fun hc => K1 (by simpa [if_icmp.holds, Int32.not_lt, Int32.not_le] using hc)) (fun hc => K2 (by simpa [if_icmp.holds, Int32.not_lt, Int32.not_le] using hc))
theorem W.ifc_le {o : Int} {x : Int32} {q' : Nat} (hd : decode B.bytes pc = .ok (.ifCond .le o, 3)) (ho : 0 ≤ (pc : Int) + o) (hq : ((pc : Int) + o).toNat = q) (hq' : pc + 3 = q') (K1 : ¬ 0 < x → W l Z n0 R B Q h cells slots q Ls St) (K2 : 0 < x → W l Z n0 R B Q h cells slots q' Ls St) : W l Z n0 R B Q h cells slots pc Ls (.int x :: St) :=
  W.ifc hd ho hq hq' (fun hc => K1 (by simpa [if_icmp.holds, Int32.not_lt, Int32.not_le] using hc)) (fun hc => K2 (by simpa [if_icmp.holds, Int32.not_lt, Int32.not_le] using hc))
theorem W.ifnull_yes {o : Int} (hd : decode B.bytes pc = .ok (.ifnull o, 3)) (ho : 0 ≤ (pc : Int) + o) (hq : ((pc : Int) + o).toNat = q) (K : W l Z n0 R B Q h cells slots q Ls St) : W l Z n0 R B Q h cells slots pc Ls (.null :: St) :=
  W.same K (fun p e s m args below meth c T locs C X eT t hr => XS.ifnullYes (g := mkF m pc ⟨Ls⟩ (.null :: St)) X.here C.1 rfl rfl (hb C.2.1 hd) rfl ho hq hr)
theorem W.ifnull_no {o : Int} {b : Addr} (hd : decode B.bytes pc = .ok (.ifnull o, 3)) (hq : pc + 3 = q) (K : W l Z n0 R B Q h cells slots q Ls St) : W l Z n0 R B Q h cells slots pc Ls (.ref b :: St) := by
  subst hq; exact W.same K (fun p e s m args below meth c T locs C X eT t hr => XS.ifnullNo (g := mkF m pc ⟨Ls⟩ (.ref b :: St)) X.here C.1 rfl (hb C.2.1 hd) rfl hr)
theorem W.ifnonnull_yes {o : Int} {b : Addr} (hd : decode B.bytes pc = .ok (.ifnonnull o, 3)) (ho : 0 ≤ (pc : Int) + o) (hq : ((pc : Int) + o).toNat = q) (K : W l Z n0 R B Q h cells slots q Ls St) : W l Z n0 R B Q h cells slots pc Ls (.ref b :: St) :=
  W.same K (fun p e s m args below meth c T locs C X eT t hr => XS.ifnonnullYes (g := mkF m pc ⟨Ls⟩ (.ref b :: St)) X.here C.1 rfl rfl (hb C.2.1 hd) rfl ho hq hr)
theorem W.ifnonnull_no {o : Int} (hd : decode B.bytes pc = .ok (.ifnonnull o, 3)) (hq : pc + 3 = q) (K : W l Z n0 R B Q h cells slots q Ls St) : W l Z n0 R B Q h cells slots pc Ls (.null :: St) := by
  subst hq; exact W.same K (fun p e s m args below meth c T locs C X eT t hr => XS.ifnonnullNo (g := mkF m pc ⟨Ls⟩ (.null :: St)) X.here C.1 rfl (hb C.2.1 hd) rfl hr)
theorem W.acmp_ne {o : Int} {x y : Value} {q' : Nat} (hd : decode B.bytes pc = .ok (.if_acmp .ne o, 3)) (h1 : x.isRef = true) (h2 : y.isRef = true) (ho : 0 ≤ (pc : Int) + o) (hq : ((pc : Int) + o).toNat = q) (hq' : pc + 3 = q') (K1 : ¬ x = y → W l Z n0 R B Q h cells slots q Ls St) (K2 : x = y → W l Z n0 R B Q h cells slots q' Ls St) : W l Z n0 R B Q h cells slots pc Ls (y :: x :: St) := by
  subst hq hq'
  by_cases hc : x = y
  · exact W.same (K2 hc) (fun p e s m args below meth c T locs C X eT t hr => acmp (g := mkF m pc ⟨Ls⟩ (y :: x :: St)) X C.1 rfl h1 h2 rfl (hb C.2.1 hd) rfl (same := true) (by simpa using hc) ho (by simp [acV]) hr)
  · exact W.same (K1 hc) (fun p e s m args below meth c T locs C X eT t hr => acmp (g := mkF m pc ⟨Ls⟩ (y :: x :: St)) X C.1 rfl h1 h2 rfl (hb C.2.1 hd) rfl (same := false) (by simpa using hc) ho (by simp [acV]) hr)
theorem W.acmp_eq {o : Int} {x y : Value} {q' : Nat} (hd : decode B.bytes pc = .ok (.if_acmp .eq o, 3)) (h1 : x.isRef = true) (h2 : y.isRef = true) (ho : 0 ≤ (pc : Int) + o) (hq : ((pc : Int) + o).toNat = q) (hq' : pc + 3 = q') (K1 : x = y → W l Z n0 R B Q h cells slots q Ls St) (K2 : ¬ x = y → W l Z n0 R B Q h cells slots q' Ls St) : W l Z n0 R B Q h cells slots pc Ls (y :: x :: St) := by
  subst hq hq'
  by_cases hc : x = y
  · exact W.same (K1 hc) (fun p e s m args below meth c T locs C X eT t hr => acmp (g := mkF m pc ⟨Ls⟩ (y :: x :: St)) X C.1 rfl h1 h2 rfl (hb C.2.1 hd) rfl (same := true) (by simpa using hc) ho (by simp [acV]) hr)
  · exact W.same (K2 hc) (fun p e s m args below meth c T locs C X eT t hr => acmp (g := mkF m pc ⟨Ls⟩ (y :: x :: St)) X C.1 rfl h1 h2 rfl (hb C.2.1 hd) rfl (same := false) (by simpa using hc) ho (by simp [acV]) hr)
/-! ### the ends -/
theorem W.ireturn {z : Int32} (hd : decode B.bytes pc = .ok (.ireturn, 1)) (hret : B.ret = some .int) (hQ : Q (some (.int z)) h) : W l Z n0 R B Q h cells slots pc Ls (.int z :: St) := by
  intro p e s m args below meth c T locs C X eT N hc hs
  obtain ⟨fs, hr, hrun, hended, hW, hsame⟩ := X.leave (v := some (.int z)) (fun q => by rw [C.2.2.2.2.2.1, hret] at q; cases q) C.2.2.2.2.2.2.1
  exact ⟨_, _, locs, retOut X C.1 (C.2.2.2.2.2.1.trans hret) rfl (Or.inl ⟨rfl, Or.inl rfl, _, rfl⟩) (hb C.2.1 hd) hr, hrun, hended, eT ▸ hQ, N, ⟨_, rfl⟩, hW, hsame.mono hc hs⟩
theorem W.lreturn {z : Int64} (hd : decode B.bytes pc = .ok (.lreturn, 1)) (hret : B.ret = some .long) (hQ : Q (some (.long z)) h) : W l Z n0 R B Q h cells slots pc Ls (.long z :: St) := by
  intro p e s m args below meth c T locs C X eT N hc hs
  obtain ⟨fs, hr, hrun, hended, hW, hsame⟩ := X.leave (v := some (.long z)) (fun q => by rw [C.2.2.2.2.2.1, hret] at q; cases q) C.2.2.2.2.2.2.1
  exact ⟨_, _, locs, retOut X C.1 (C.2.2.2.2.2.1.trans hret) rfl (Or.inr (Or.inl ⟨rfl, rfl, _, rfl⟩)) (hb C.2.1 hd) hr, hrun, hended, eT ▸ hQ, N, ⟨_, rfl⟩, hW, hsame.mono hc hs⟩
theorem W.areturn {w : Value} {t : FieldType} (hd : decode B.bytes pc = .ok (.areturn, 1)) (hret : B.ret = some t) (ht : t.isReference = true) (hw : w.isRef = true) (hn : narrow t w = w) (hQ : Q (some w) h) : W l Z n0 R B Q h cells slots pc Ls (w :: St) := by
  intro p e s m args below meth c T locs C X eT N hc hs
  obtain ⟨fs, hr, hrun, hended, hW, hsame⟩ := X.leave (v := some w) (fun q => by rw [C.2.2.2.2.2.1, hret] at q; cases q) C.2.2.2.2.2.2.1
  exact ⟨_, _, locs, retOut X C.1 (C.2.2.2.2.2.1.trans hret) hn (Or.inr (Or.inr (Or.inr (Or.inr ⟨rfl, ht, hw⟩)))) (hb C.2.1 hd) hr, hrun, hended, eT ▸ hQ, N, ⟨_, rfl⟩, hW, hsame.mono hc hs⟩
theorem W.ireturnN {z z' : Int32} {t : FieldType} (hd : decode B.bytes pc = .ok (.ireturn, 1)) (hret : B.ret = some t) (ht : t = .boolean ∨ t = .byte ∨ t = .char ∨ t = .short) (hz : nar t z = z') (hQ : Q (some (.int z')) h) : W l Z n0 R B Q h cells slots pc Ls (.int z :: St) := by
  intro p e s m args below meth c T locs C X eT N hc hs
  subst hz
  obtain ⟨fs, hr, hrun, hended, hW, hsame⟩ := X.leave (v := some (.int (nar t z))) (fun q => by rw [C.2.2.2.2.2.1, hret] at q; cases q) C.2.2.2.2.2.2.1
  exact ⟨_, _, locs, retN X C.1 (C.2.2.2.2.2.1.trans hret) ht (hb C.2.1 hd) hr, hrun, hended, eT ▸ hQ, N, ⟨_, rfl⟩, hW, hsame.mono hc hs⟩
theorem W.vret (hd : decode B.bytes pc = .ok (.return_, 1)) (hret : B.ret = none) (hQ : Q none h) : W l Z n0 R B Q h cells slots pc Ls [] := by
  intro p e s m args below meth c T locs C X eT N hc hs
  obtain ⟨fs, hr, hrun, hended, hW, hsame⟩ := X.leave (v := none) (fun _ => rfl) C.2.2.2.2.2.2.1
  exact ⟨_, _, locs, X.returnOut C.1 (C.2.2.2.2.2.1.trans hret) (hb C.2.1 hd) hr, hrun, hended, eT ▸ hQ, N, ⟨_, rfl⟩, hW, hsame.mono hc hs⟩
theorem W.mono {Q' : Option Value → Heap → Prop} (hQ : ∀ v h, Q v h → Q' v h) (K : W l Z n0 R B Q h cells slots pc Ls St) : W l Z n0 R B Q' h cells slots pc Ls St := by
  intro p e s m args below meth c T locs C X eT N hc hs
  obtain ⟨s₂, v, L, h1, h2, h3, h4, h5⟩ := K p e s m args below meth c T locs C X eT N hc hs
  exact ⟨s₂, v, L, h1, h2, h3, hQ _ _ h4, h5⟩
theorem W.weak {c' s' : Nat} (hc : cells ≤ c') (hs : slots ≤ s') (hR : c' ≤ R.cells) (hR' : s' ≤ R.slots) (K : W l Z n0 R B Q h c' s' pc Ls St) : W l Z n0 R B Q h cells slots pc Ls St := by
  intro p e s m args below meth c T locs C X eT N _ _
  exact K p e s m args below meth c T locs C (X.more hc hs) eT N hR hR'
/-! ### arrays of ints (bytes, booleans, chars, shorts) and of longs -/
def AI (Z : State) (h : Heap) (a : Addr) (ty : FieldType) (xs : List Int32) : Prop := ∃ cl : Cell, Arr Z h a cl ty ∧ cl.slots = ⟨xs.map Value.int⟩ ∧ xs.length < 2 ^ 31
def AJ (Z : State) (h : Heap) (a : Addr) (xs : List Int64) : Prop := ∃ cl : Cell, Arr Z h a cl .long ∧ cl.slots = ⟨xs.map Value.long⟩ ∧ xs.length < 2 ^ 31
section Facts
variable {h' : Heap} {a b : Addr} {ty : FieldType} {xs : List Int32} {ys : List Int64} {sl : Nat} {v : Value} {ws : List Addr}
theorem AI.lt (A : AI Z h a ty xs) : a < h.size := by obtain ⟨c, A, -⟩ := A; exact A.lt
theorem AI.ext (A : AI Z h a ty xs) (E : Ext h h') : AI Z h' a ty xs := by obtain ⟨c, A, r⟩ := A; exact ⟨c, A.ext E, r⟩
theorem AI.keep (A : AI Z h a ty xs) (K : Keep h h' ws) (q : a ∉ ws) : AI Z h' a ty xs := by obtain ⟨c, A, r⟩ := A; exact ⟨c, ⟨K.2.1 a c A.1 q, A.2⟩, r⟩
theorem AI.other (A : AI Z h b ty xs) (w : Wr h h' a sl v) (q : b ≠ a) : AI Z h' b ty xs := by obtain ⟨c, A, r⟩ := A; exact ⟨c, A.other w q, r⟩
theorem AI.set {x : Int32} (A : AI Z h a ty xs) (w : Wr h h' a sl (.int x)) : AI Z h' a ty (xs.set sl x) := by
  obtain ⟨c, A, r, r'⟩ := A
  exact ⟨_, A.same w, by simp [Cell.setSlot, r, List.map_set], by simpa using r'⟩
theorem AJ.lt (A : AJ Z h a ys) : a < h.size := by obtain ⟨c, A, -⟩ := A; exact A.lt
theorem AJ.ext (A : AJ Z h a ys) (E : Ext h h') : AJ Z h' a ys := by obtain ⟨c, A, r⟩ := A; exact ⟨c, A.ext E, r⟩
theorem AJ.keep (A : AJ Z h a ys) (K : Keep h h' ws) (q : a ∉ ws) : AJ Z h' a ys := by obtain ⟨c, A, r⟩ := A; exact ⟨c, ⟨K.2.1 a c A.1 q, A.2⟩, r⟩
theorem AJ.other (A : AJ Z h b ys) (w : Wr h h' a sl v) (q : b ≠ a) : AJ Z h' b ys := by obtain ⟨c, A, r⟩ := A; exact ⟨c, A.other w q, r⟩
theorem AJ.set {x : Int64} (A : AJ Z h a ys) (w : Wr h h' a sl (.long x)) : AJ Z h' a (ys.set sl x) := by
  obtain ⟨c, A, r, r'⟩ := A
  exact ⟨_, A.same w, by simp [Cell.setSlot, r, List.map_set], by simpa using r'⟩
end Facts
theorem W.newarrayI {aty : ArrayType} {ty : FieldType} {n : Int32} {cap : Nat} (hd : decode B.bytes pc = .ok (.newarray aty, 2)) (hty : newarray.typeOf aty = ty) (h0 : defaultValue ty = .int 0) (w : (Cond.arrayClass ty).before a0 Z = true) (hn : ¬ n < 0) (hcap : n.toNatClampNeg ≤ cap) (hbig : cap * 8 ≤ 536870912) (hc : cells + 1 ≤ R.cells) (hl : slots + cap ≤ R.slots) (hq : pc + 2 = q)
    (K : ∀ h', Ext h h' → AI Z h' h.size ty (List.replicate n.toNatClampNeg 0) → W l Z n0 R B Q h' (cells + 1) (slots + cap) q Ls (.ref h.size :: St)) : W l Z n0 R B Q h cells slots pc Ls (.int n :: St) := by
  subst hq hty
  intro p e s m args below meth c T locs C X eT N _ _
  obtain ⟨T', h', cA, X', eT', E, A, st⟩ := newP X C.1 C.2.2.2.1 w eT (g := mkF m pc ⟨Ls⟩ (.int n :: St)) rfl (hb C.2.1 hd) rfl hn hcap hbig hc hl
  obtain ⟨s₂, v, L, h1, h2⟩ := K h' E ⟨_, A, by simp [newA, h0, ← Array.toList_inj], by simpa using (back32 hn).2⟩ p e s m args below meth c T' locs C X' eT' N hc hl
  exact ⟨s₂, v, L, st _ h1, h2⟩
theorem W.newarrayJ {n : Int32} {cap : Nat} (hd : decode B.bytes pc = .ok (.newarray .long, 2)) (w : (Cond.arrayClass .long).before a0 Z = true) (hn : ¬ n < 0) (hcap : n.toNatClampNeg ≤ cap) (hbig : cap * 8 ≤ 536870912) (hc : cells + 1 ≤ R.cells) (hl : slots + cap ≤ R.slots) (hq : pc + 2 = q)
    (K : ∀ h', Ext h h' → AJ Z h' h.size (List.replicate n.toNatClampNeg 0) → W l Z n0 R B Q h' (cells + 1) (slots + cap) q Ls (.ref h.size :: St)) : W l Z n0 R B Q h cells slots pc Ls (.int n :: St) := by
  subst hq
  intro p e s m args below meth c T locs C X eT N _ _
  obtain ⟨T', h', cA, X', eT', E, A, st⟩ := newP X (aty := .long) C.1 C.2.2.2.1 w eT (g := mkF m pc ⟨Ls⟩ (.int n :: St)) rfl (hb C.2.1 hd) rfl hn hcap hbig hc hl
  have A' : Arr Z h' h.size (newA cA .long n) .long := A
  have e1 : (newA cA .long n).slots = ⟨(List.replicate n.toNatClampNeg (0 : Int64)).map Value.long⟩ := by simp [newA, defaultValue, ← Array.toList_inj]
  have e2 : (List.replicate n.toNatClampNeg (0 : Int64)).length < 2 ^ 31 := by rw [List.length_replicate]; exact (back32 hn).2
  obtain ⟨s₂, v, L, h1, h2⟩ := K h' E ⟨_, A', e1, e2⟩ p e s m args below meth c T' locs C X' eT' N hc hl
  exact ⟨s₂, v, L, st _ h1, h2⟩
theorem inI {cl : Cell} {xs : List Int32} {j v : Int32} (hs : cl.slots = ⟨xs.map Value.int⟩) (h0 : ¬ j < 0) (hv : xs[j.toNatClampNeg]? = some v) : ¬ (j < 0 ∨ cl.slots.size ≤ j.toNatClampNeg) ∧ cl.slots[j.toNatClampNeg]? = some (.int v) := by
  obtain ⟨h1, -⟩ := List.getElem?_eq_some_iff.mp hv
  refine ⟨fun q => q.elim h0 fun q => ?_, by simp [hs, hv]⟩
  rw [hs] at q; simp at q; omega
theorem inJ {cl : Cell} {xs : List Int64} {j : Int32} {v : Int64} (hs : cl.slots = ⟨xs.map Value.long⟩) (h0 : ¬ j < 0) (hv : xs[j.toNatClampNeg]? = some v) : ¬ (j < 0 ∨ cl.slots.size ≤ j.toNatClampNeg) ∧ cl.slots[j.toNatClampNeg]? = some (.long v) := by
  obtain ⟨h1, -⟩ := List.getElem?_eq_some_iff.mp hv
  refine ⟨fun q => q.elim h0 fun q => ?_, by simp [hs, hv]⟩
  rw [hs] at q; simp at q; omega
theorem W.iaload {a : Addr} {xs : List Int32} {j v : Int32} (hd : decode B.bytes pc = .ok (.iaload, 1)) (A : AI Z h a .int xs) (h0 : ¬ j < 0) (hv : xs[j.toNatClampNeg]? = some v) (hq : pc + 1 = q) (K : W l Z n0 R B Q h cells slots q Ls (.int v :: St)) : W l Z n0 R B Q h cells slots pc Ls (.int j :: .ref a :: St) := by
  subst hq; obtain ⟨cl, A, hs, -⟩ := A
  exact W.same K (fun p e s m args below meth c T locs C X eT t hr => X.iaload (g := mkF m pc ⟨Ls⟩ (.int j :: .ref a :: St)) C.1 (by rw [eT]; exact A.1) (State.isArrayOf_alike C.2.2.2.1.alike A.2.1) A.2.2 (inI hs h0 hv).1 (inI hs h0 hv).2 rfl rfl (hb C.2.1 hd) t hr)
theorem W.baloadB {a : Addr} {xs : List Int32} {j v : Int32} (hd : decode B.bytes pc = .ok (.baload, 1)) (A : AI Z h a .byte xs) (h0 : ¬ j < 0) (hv : xs[j.toNatClampNeg]? = some v) (hq : pc + 1 = q) (K : W l Z n0 R B Q h cells slots q Ls (.int v :: St)) : W l Z n0 R B Q h cells slots pc Ls (.int j :: .ref a :: St) := by
  subst hq; obtain ⟨cl, A, hs, -⟩ := A
  exact W.same K (fun p e s m args below meth c T locs C X eT t hr => X.baloadBytes (g := mkF m pc ⟨Ls⟩ (.int j :: .ref a :: St)) C.1 (by rw [eT]; exact A.1) (State.isArrayOf_alike C.2.2.2.1.alike A.2.1) A.2.2 (inI hs h0 hv).1 (inI hs h0 hv).2 rfl rfl (hb C.2.1 hd) t hr)
theorem W.baloadZ {a : Addr} {xs : List Int32} {j v : Int32} (hd : decode B.bytes pc = .ok (.baload, 1)) (A : AI Z h a .boolean xs) (h0 : ¬ j < 0) (hv : xs[j.toNatClampNeg]? = some v) (hq : pc + 1 = q) (K : W l Z n0 R B Q h cells slots q Ls (.int v :: St)) : W l Z n0 R B Q h cells slots pc Ls (.int j :: .ref a :: St) := by
  subst hq; obtain ⟨cl, A, hs, -⟩ := A
  exact W.same K (fun p e s m args below meth c T locs C X eT t hr => X.baloadBooleans (g := mkF m pc ⟨Ls⟩ (.int j :: .ref a :: St)) C.1 (by rw [eT]; exact A.1) (State.isArrayOf_alike C.2.2.2.1.alike A.2.1) A.2.2 (inI hs h0 hv).1 (inI hs h0 hv).2 rfl rfl (hb C.2.1 hd) t hr)
theorem W.laload {a : Addr} {xs : List Int64} {j : Int32} {v : Int64} (hd : decode B.bytes pc = .ok (.laload, 1)) (A : AJ Z h a xs) (h0 : ¬ j < 0) (hv : xs[j.toNatClampNeg]? = some v) (hq : pc + 1 = q) (K : W l Z n0 R B Q h cells slots q Ls (.long v :: St)) : W l Z n0 R B Q h cells slots pc Ls (.int j :: .ref a :: St) := by
  subst hq; obtain ⟨cl, A, hs, -⟩ := A
  exact W.same K (fun p e s m args below meth c T locs C X eT t hr => X.laload (g := mkF m pc ⟨Ls⟩ (.int j :: .ref a :: St)) C.1 (by rw [eT]; exact A.1) (State.isArrayOf_alike C.2.2.2.1.alike A.2.1) A.2.2 (inJ hs h0 hv).1 (inJ hs h0 hv).2 rfl rfl (hb C.2.1 hd) t hr)
theorem W.arraylengthI {a : Addr} {ty : FieldType} {xs : List Int32} {n : Int32} (hd : decode B.bytes pc = .ok (.arraylength, 1)) (A : AI Z h a ty xs) (hn : xs.length.toInt32 = n) (hq : pc + 1 = q) (K : W l Z n0 R B Q h cells slots q Ls (.int n :: St)) : W l Z n0 R B Q h cells slots pc Ls (.ref a :: St) := by
  subst hq hn; obtain ⟨cl, A, hs, -⟩ := A
  have e1 : cl.slots.size = xs.length := by simp [hs]
  rw [← e1] at K
  exact W.same K (fun p e s m args below meth c T locs C X eT t hr => X.arraylength (g := mkF m pc ⟨Ls⟩ (.ref a :: St)) C.1 (by rw [eT]; exact A.1) (State.isArrayOf_alike C.2.2.2.1.alike A.2.1) rfl rfl (hb C.2.1 hd) t hr)
theorem W.arraylengthJ {a : Addr} {xs : List Int64} {n : Int32} (hd : decode B.bytes pc = .ok (.arraylength, 1)) (A : AJ Z h a xs) (hn : xs.length.toInt32 = n) (hq : pc + 1 = q) (K : W l Z n0 R B Q h cells slots q Ls (.int n :: St)) : W l Z n0 R B Q h cells slots pc Ls (.ref a :: St) := by
  subst hq hn; obtain ⟨cl, A, hs, -⟩ := A
  have e1 : cl.slots.size = xs.length := by simp [hs]
  rw [← e1] at K
  exact W.same K (fun p e s m args below meth c T locs C X eT t hr => X.arraylength (g := mkF m pc ⟨Ls⟩ (.ref a :: St)) C.1 (by rw [eT]; exact A.1) (State.isArrayOf_alike C.2.2.2.1.alike A.2.1) rfl rfl (hb C.2.1 hd) t hr)
theorem outI {cl : Cell} {xs : List Int32} {j : Int32} (hs : cl.slots = ⟨xs.map Value.int⟩) (h0 : ¬ j < 0) (hj : j.toNatClampNeg < xs.length) : ¬ (j < 0 ∨ cl.slots.size ≤ j.toNatClampNeg) := fun q => q.elim h0 fun q => by
  rw [hs] at q; simp at q; omega
theorem outJ {cl : Cell} {xs : List Int64} {j : Int32} (hs : cl.slots = ⟨xs.map Value.long⟩) (h0 : ¬ j < 0) (hj : j.toNatClampNeg < xs.length) : ¬ (j < 0 ∨ cl.slots.size ≤ j.toNatClampNeg) := fun q => q.elim h0 fun q => by
  rw [hs] at q; simp at q; omega
theorem W.iastore {a : Addr} {xs : List Int32} {j x : Int32} (hd : decode B.bytes pc = .ok (.iastore, 1)) (A : AI Z h a .int xs) (h0 : ¬ j < 0) (hj : j.toNatClampNeg < xs.length) (ha : n0 ≤ a) (hq : pc + 1 = q) (K : ∀ h', Wr h h' a j.toNatClampNeg (.int x) → AI Z h' a .int (xs.set j.toNatClampNeg x) → W l Z n0 R B Q h' cells slots q Ls St) : W l Z n0 R B Q h cells slots pc Ls (.int x :: .int j :: .ref a :: St) := by
  subst hq; obtain ⟨cl, A', hs, hl⟩ := A
  exact W.wrote (fun p e s m args below meth c T locs C X eT => stI X (g := mkF m pc ⟨Ls⟩ (.int x :: .int j :: .ref a :: St)) C.1 C.2.2.2.1 eT A' (outI hs h0 hj) rfl rfl (hb C.2.1 hd)) ha (fun h' w => K h' w (AI.set ⟨cl, A', hs, hl⟩ w))
theorem W.bastoreB {a : Addr} {xs : List Int32} {j x x' : Int32} (hd : decode B.bytes pc = .ok (.bastore, 1)) (A : AI Z h a .byte xs) (h0 : ¬ j < 0) (hj : j.toNatClampNeg < xs.length) (hx : x.toInt8.toInt32 = x') (ha : n0 ≤ a) (hq : pc + 1 = q) (K : ∀ h', Wr h h' a j.toNatClampNeg (.int x') → AI Z h' a .byte (xs.set j.toNatClampNeg x') → W l Z n0 R B Q h' cells slots q Ls St) : W l Z n0 R B Q h cells slots pc Ls (.int x :: .int j :: .ref a :: St) := by
  subst hq hx; obtain ⟨cl, A', hs, hl⟩ := A
  exact W.wrote (fun p e s m args below meth c T locs C X eT => stB X (g := mkF m pc ⟨Ls⟩ (.int x :: .int j :: .ref a :: St)) C.1 C.2.2.2.1 eT A' (outI hs h0 hj) rfl rfl (hb C.2.1 hd)) ha (fun h' w => K h' w (AI.set ⟨cl, A', hs, hl⟩ w))
theorem W.bastoreZ {a : Addr} {xs : List Int32} {j x x' : Int32} (hd : decode B.bytes pc = .ok (.bastore, 1)) (A : AI Z h a .boolean xs) (h0 : ¬ j < 0) (hj : j.toNatClampNeg < xs.length) (hx : x &&& 1 = x') (ha : n0 ≤ a) (hq : pc + 1 = q) (K : ∀ h', Wr h h' a j.toNatClampNeg (.int x') → AI Z h' a .boolean (xs.set j.toNatClampNeg x') → W l Z n0 R B Q h' cells slots q Ls St) : W l Z n0 R B Q h cells slots pc Ls (.int x :: .int j :: .ref a :: St) := by
  subst hq hx; obtain ⟨cl, A', hs, hl⟩ := A
  exact W.wrote (fun p e s m args below meth c T locs C X eT => stZ X (g := mkF m pc ⟨Ls⟩ (.int x :: .int j :: .ref a :: St)) C.1 C.2.2.2.1 eT A' (outI hs h0 hj) rfl rfl (hb C.2.1 hd)) ha (fun h' w => K h' w (AI.set ⟨cl, A', hs, hl⟩ w))
theorem W.lastore {a : Addr} {xs : List Int64} {j : Int32} {x : Int64} (hd : decode B.bytes pc = .ok (.lastore, 1)) (A : AJ Z h a xs) (h0 : ¬ j < 0) (hj : j.toNatClampNeg < xs.length) (ha : n0 ≤ a) (hq : pc + 1 = q) (K : ∀ h', Wr h h' a j.toNatClampNeg (.long x) → AJ Z h' a (xs.set j.toNatClampNeg x) → W l Z n0 R B Q h' cells slots q Ls St) : W l Z n0 R B Q h cells slots pc Ls (.long x :: .int j :: .ref a :: St) := by
  subst hq; obtain ⟨cl, A', hs, hl⟩ := A
  exact W.wrote (fun p e s m args below meth c T locs C X eT => stJ X (g := mkF m pc ⟨Ls⟩ (.long x :: .int j :: .ref a :: St)) C.1 C.2.2.2.1 eT A' (outJ hs h0 hj) rfl rfl (hb C.2.1 hd)) ha (fun h' w => K h' w (AJ.set ⟨cl, A', hs, hl⟩ w))
/-! ### fields, statics, objects -/
theorem W.getF {i : Nat} {O n d : String} {a : Addr} {v : Value} (hd : decode B.bytes pc = .ok (.getfield i, 3)) (w : (Cond.fieldLink B.own i O n d).before a0 Z = true) (F : Fld Z h a O n d v) (hq : pc + 3 = q) (K : W l Z n0 R B Q h cells slots q Ls (v :: St)) : W l Z n0 R B Q h cells slots pc Ls (.ref a :: St) := by
  subst hq; exact W.warm K (fun p e s m args below meth c T locs C X eT => RoadKit.getF X (g := mkF m pc ⟨Ls⟩ (.ref a :: St)) C.1 C.2.2.2.1 C.2.2.2.2.1 (host := "") (Or.inl w) Via.refl eT F rfl rfl (hb C.2.1 hd))
theorem W.getS {i : Nat} {O n d : String} {v : Value} (hd : decode B.bytes pc = .ok (.getstatic i, 3)) (w : (Cond.fieldLink B.own i O n d).before a0 Z = true) (F : Sta Z h O n d v) (hq : pc + 3 = q) (K : W l Z n0 R B Q h cells slots q Ls (v :: St)) : W l Z n0 R B Q h cells slots pc Ls St := by
  subst hq; exact W.warm K (fun p e s m args below meth c T locs C X eT => RoadKit.getS X (g := mkF m pc ⟨Ls⟩ St) C.1 C.2.2.2.1 (host := "") C.2.2.2.2.1 w Via.refl eT F rfl (hb C.2.1 hd))
theorem W.putF {i kk : Nat} {O n d C' : String} {a : Addr} {v old : Value} {ty : FieldType} (hd : decode B.bytes pc = .ok (.putfield i, 3)) (w : (Cond.fieldLink B.own i O n d).before a0 Z = true) (F : Fld Z h a O n d old) (E : Exa Z h a C') (L : (Cond.lays C' O n d).before a0 Z = true ∨ ((Cond.laysFinal C' O n d).before a0 Z = true ∧ B.own = O ∧ B.nm = "<init>")) (wi : (Cond.instantiable C' kk).before a0 Z = true)
    (hty : parseFieldDescriptor d = some ty) (hn : narrow ty v = v) (hf : fits ty v = true) (ha : n0 ≤ a) (hq : pc + 3 = q) (K : ∀ h', Wr h h' a (Jvm.RoadKit.slotOf Z O n d) v → W l Z n0 R B Q h' cells slots q Ls St) : W l Z n0 R B Q h cells slots pc Ls (v :: .ref a :: St) := by
  subst hq; exact W.wrote (fun p e s m args below meth c T locs C X eT => RoadKit.putF X (g := mkF m pc ⟨Ls⟩ (v :: .ref a :: St)) C.1 C.2.2.2.1 (host := "") C.2.2.2.2.1 (Or.inl w) Via.refl eT F E (L.imp id fun q => ⟨q.1, q.2.1, C.2.2.2.2.2.2.2.trans q.2.2⟩) wi hty hn hf rfl rfl (hb C.2.1 hd)) ha K
theorem W.newO {i n : Nat} {C' : String} (hd : decode B.bytes pc = .ok (.new i, 3)) (w : (Cond.classLink B.own i C').before a0 Z = true) (wi : (Cond.instantiable C' n).before a0 Z = true) (wz : (Cond.initialized C').before a0 Z = true) (hc : cells + 1 ≤ R.cells) (hl : slots + n ≤ R.slots) (hq : pc + 3 = q)
    (K : ∀ h', Ext h h' → Exa Z h' h.size C' → (∀ {O nm d : String} {ty : FieldType}, Laid Z a0 C' O nm d → parseFieldDescriptor d = some ty → Fld Z h' h.size O nm d (defaultValue ty)) → W l Z n0 R B Q h' (cells + 1) (slots + n) q Ls (.ref h.size :: St)) : W l Z n0 R B Q h cells slots pc Ls St := by
  subst hq
  intro p e s m args below meth c T locs C X eT N _ _
  obtain ⟨T', h', X', eT', E, A, D, -, st⟩ := RoadKit.newO X C.1 C.2.2.2.1 C.2.2.2.2.1 w wi wz eT (g := mkF m pc ⟨Ls⟩ St) rfl (hb C.2.1 hd) hc hl
  obtain ⟨s₂, v, L, h1, h2⟩ := K h' E A D p e s m args below meth c T' locs C X' eT' N hc hl
  exact ⟨s₂, v, L, st _ h1, h2⟩
theorem W.castY {i : Nat} {K' : String} {a : Addr} (hd : decode B.bytes pc = .ok (.checkcast i, 3)) (w : (Cond.classLink B.own i K').before a0 Z = true) (F : Ins Z h a K' true) (hq : pc + 3 = q) (K : W l Z n0 R B Q h cells slots q Ls (.ref a :: St)) : W l Z n0 R B Q h cells slots pc Ls (.ref a :: St) := by
  subst hq; exact W.warm K (fun p e s m args below meth c T locs C X eT => RoadKit.castY X C.1 C.2.2.2.1 C.2.2.2.2.1 w eT F (g := mkF m pc ⟨Ls⟩ (.ref a :: St)) rfl rfl (hb C.2.1 hd))
theorem W.instY {i : Nat} {K' : String} {a : Addr} (hd : decode B.bytes pc = .ok (.instanceof i, 3)) (w : (Cond.classLink B.own i K').before a0 Z = true) (F : Ins Z h a K' true) (hq : pc + 3 = q) (K : W l Z n0 R B Q h cells slots q Ls (.int 1 :: St)) : W l Z n0 R B Q h cells slots pc Ls (.ref a :: St) := by
  subst hq; exact W.warm K (fun p e s m args below meth c T locs C X eT => RoadKit.instY X C.1 C.2.2.2.1 C.2.2.2.2.1 w eT F (g := mkF m pc ⟨Ls⟩ (.ref a :: St)) rfl rfl (hb C.2.1 hd))
theorem W.instNo {i : Nat} {K' C' : String} {a : Addr} (hd : decode B.bytes pc = .ok (.instanceof i, 3)) (w : (Cond.classLink B.own i K').before a0 Z = true) (E : Exa Z h a C') (F : ∃ c t, Z.vm.findClass C' = some c ∧ Z.vm.findClass K' = some t ∧ Z.vm.assignable c t = false) (hq : pc + 3 = q) (K : W l Z n0 R B Q h cells slots q Ls (.int 0 :: St)) : W l Z n0 R B Q h cells slots pc Ls (.ref a :: St) := by
  subst hq; exact W.warm K (fun p e s m args below meth c T locs C X eT => RoadKit.instNo X C.1 C.2.2.2.1 C.2.2.2.2.1 w eT E F (g := mkF m pc ⟨Ls⟩ (.ref a :: St)) rfl rfl (hb C.2.1 hd))
theorem W.instNull {i : Nat} (hd : decode B.bytes pc = .ok (.instanceof i, 3)) (hq : pc + 3 = q) (K : W l Z n0 R B Q h cells slots q Ls (.int 0 :: St)) : W l Z n0 R B Q h cells slots pc Ls (.null :: St) := by
  subst hq; exact W.same K (fun p e s m args below meth c T locs C X eT t hr => X.instanceofNull C.1 (g := mkF m pc ⟨Ls⟩ (.null :: St)) rfl rfl (hb C.2.1 hd) t hr)
/-- what a callee leaves: an int, a long, a reference, nothing -/
def RI (P : Int32 → Heap → Prop) (v : Option Value) (h : Heap) : Prop := ∃ z, v = some (.int z) ∧ P z h
def RJ (P : Int64 → Heap → Prop) (v : Option Value) (h : Heap) : Prop := ∃ z, v = some (.long z) ∧ P z h
def RA (P : Value → Heap → Prop) (v : Option Value) (h : Heap) : Prop := ∃ z, v = some z ∧ P z h
def RN (P : Heap → Prop) (v : Option Value) (h : Heap) : Prop := v = none ∧ P h
/-! ### calls -/
def Met1 (l : Launch) (Z : State) (n0 : Nat) (y : MethodName) (B' : Bdy) (rm : Room) (as' : Array Value) (h : Heap) (Qc : Option Value → Heap → Prop) : Prop :=
  MetFree l y (head1 [Cond.code y B'.bytes B'.ml B'.ret] rm) (fun a U => a = as' ∧ Z.Warmed39 U.vm ∧ U.heap = h) (fun _ _ _ _ _ => True) (fun _ U o U' => ∃ v L, o = .returned v ∧ (Qc v U'.heap ∧ Fr n0 L) ∧ FrameEnd U o U' L rm.cells rm.slots)
theorem met_of {ws : List Jvm.Cond} {y : MethodName} {B' : Bdy} {rm : Room} {as' : Array Value} {Qc : Option Value → Heap → Prop} {L0 : List Slot} (hp : plainFor y = true) (ho : B'.own = y.cls) (hn : B'.nm = y.name) (hef : ∀ m, entryFrame m as' B'.ml = mkF m 0 ⟨L0⟩ []) (w : W l Z n0 rm B' Qc h 0 0 0 L0 []) :
    MetFree l y (head1 (Cond.code y B'.bytes B'.ml B'.ret :: ws) rm) (fun a U => a = as' ∧ Z.Warmed39 U.vm ∧ U.heap = h) (fun _ _ _ _ _ => True) (fun _ U o U' => ∃ v L, o = .returned v ∧ (Qc v U'.heap ∧ Fr n0 L) ∧ FrameEnd U o U' L rm.cells rm.slots) := by
  refine MetFree.of_bodySF hp hisR ?_
  intro p e s m args below meth c s₁ Bd hml0 hP hK
  obtain ⟨rfl, hZ, hh⟩ := hP
  have X0 : Stand p l e rm s m args below meth c s₁ [] 0 0 := Stand.of_body Bd
  have e0 : s₁.heap = h := by rw [← hh, Bd.state]; rfl
  obtain ⟨s₂, v, L, h1, h2, h3, h4, h5, h6⟩ := w p e s m args below meth c s₁ [] ⟨Bd.exec, Bd.bytes, hml0, hZ, by rw [ho]; exact findClass_of_methodNamed Bd.named, Bd.returns, Bd.notSynchronized, by rw [hn]; exact (name_of_methodNamed Bd.named Bd.method).1⟩ X0 e0 (Fr.nil n0) (Nat.zero_le _) (Nat.zero_le _)
  exact ⟨s₂, _, castTop (hef m) h1, h2, h3, v, L, rfl, ⟨h4, h5⟩, h6⟩
theorem W.callS {i : Nat} {y : MethodName} {B' : Bdy} {rm : Room} {Qc : Option Value → Heap → Prop} {L0 : List Slot} {argsL rest : List Value} {ps : List FieldType} {r : Option FieldType} (hd : decode B.bytes pc = .ok (.invokestatic i, 3)) (wl : (Cond.methodLink B.own i y).before a0 Z = true) (wst : (Cond.static y).before a0 Z = true) (wz : (Cond.initialized y.cls).before a0 Z = true) (wc : (Cond.code y B'.bytes B'.ml B'.ret).before a0 Z = true)
    (hst : argsL.reverse ++ rest = St) (w : W l Z n0 rm B' Qc h 0 0 0 L0 []) (hp : plainFor y = true) (hy : y.cls ≠ "java/lang/invoke/MethodHandle" ∧ y.cls ≠ "java/lang/invoke/VarHandle") (hpd : parseMethodDescriptor y.desc = some ⟨ps, r⟩) (ho : B'.own = y.cls) (hn : B'.nm = y.name) (hlen : argsL.length = ps.length) (hef : ∀ m, entryFrame m argsL.toArray B'.ml = mkF m 0 ⟨L0⟩ []) (hsz : Ls.length = B.ml)
    (hf : Nat.ble (rm.frames + 1) R.frames = true) (hlo : Nat.ble ((rest.map fun v => v.category).sum + (B'.ml + 11) + rm.locals) R.locals = true) (hc : Nat.ble (cells + rm.cells) R.cells = true) (hs : Nat.ble (slots + rm.slots) R.slots = true) (hq : pc + 3 = q)
    (K : ∀ v h', Qc v h' → W l Z n0 R B Q h' (cells + rm.cells) (slots + rm.slots) q Ls (v.toList ++ rest)) : W l Z n0 R B Q h cells slots pc Ls St := by
  subst hq hst
  intro p e s m args below meth c T locs C X eT N _ _
  have hc' := Nat.le_of_ble_eq_true hc
  have hs' := Nat.le_of_ble_eq_true hs
  obtain ⟨v, vm₁, ⟨T', L', c', s'⟩, -, X', ⟨Lc, hQ, l', y', z'⟩, st⟩ := Jvm.LawKit.callS X C.1 (y := y) C.2.2.2.2.1 (mvT C.2.2.2.1 wl) (mvT C.2.2.2.1 wst) (mvT C.2.2.2.1 wz) (mvT C.2.2.2.1 wc) hy
    (backOf (W := (rest.map fun v => v.category).sum) (Q := fun v h L => Qc v h ∧ Fr n0 L) (met_of (ws := []) hp ho hn hef w) C.2.2.2.1 wc wz (Nat.le_of_ble_eq_true hf) (Nat.le_of_ble_eq_true hlo)) (g := mkF m pc ⟨Ls⟩ (argsL.reverse ++ rest)) rfl (by show Ls.toArray.size = _; rw [C.2.2.1]; simpa using hsz) (argsL := argsL) (rest := rest) (lenOf hpd hlen) rfl (by show 2 * 0 + _ ≤ _; omega) (hb C.2.1 hd) (fun _ _ => ⟨rfl, eT, hc', hs'⟩)
  dsimp only [Pt.U, Pt.locs, Pt.cells, Pt.slots] at X' l' y' z' st hQ
  subst l' y' z'
  obtain ⟨s₂, v₂, L, h1, h2⟩ := K v T'.heap hQ.1 p e s m args below meth c T' _ C X' rfl (Fr.app N hQ.2) hc' hs'
  exact ⟨s₂, v₂, L, st _ h1, h2⟩
theorem W.callI {i : Nat} {y : MethodName} {B' : Bdy} {rm : Room} {Qc : Option Value → Heap → Prop} {L0 : List Slot} {a : Addr} {argsL rest : List Value} {ps : List FieldType} {r : Option FieldType} (hd : decode B.bytes pc = .ok (.invokespecial i, 3)) (wl : (Cond.methodLink B.own i y).before a0 Z = true) (wst : (Cond.instanceMethod y).before a0 Z = true) (wz : (Cond.initialized y.cls).before a0 Z = true) (wc : (Cond.code y B'.bytes B'.ml B'.ret).before a0 Z = true)
    (hst : argsL.reverse ++ .ref a :: rest = St) (w : W l Z n0 rm B' Qc h 0 0 0 L0 []) (hp : plainFor y = true) (hy : y.cls ≠ "java/lang/invoke/MethodHandle" ∧ y.cls ≠ "java/lang/invoke/VarHandle") (hpd : parseMethodDescriptor y.desc = some ⟨ps, r⟩) (ho : B'.own = y.cls) (hn : B'.nm = y.name) (hlen : argsL.length = ps.length) (hef : ∀ m, entryFrame m (.ref a :: argsL).toArray B'.ml = mkF m 0 ⟨L0⟩ []) (hsz : Ls.length = B.ml)
    (hf : Nat.ble (rm.frames + 1) R.frames = true) (hlo : Nat.ble ((rest.map fun v => v.category).sum + (B'.ml + 11) + rm.locals) R.locals = true) (hc : Nat.ble (cells + rm.cells) R.cells = true) (hs : Nat.ble (slots + rm.slots) R.slots = true) (hret : B'.ret = none) (hin : y.name = "<init>") (hq : pc + 3 = q)
    (K : ∀ v h', Qc v h' → W l Z n0 R B Q h' (cells + rm.cells) (slots + rm.slots) q Ls (v.toList ++ rest)) : W l Z n0 R B Q h cells slots pc Ls St := by
  subst hq hst
  intro p e s m args below meth c T locs C X eT N _ _
  have hc' := Nat.le_of_ble_eq_true hc
  have hs' := Nat.le_of_ble_eq_true hs
  obtain ⟨v, vm₁, ⟨T', L', c', s'⟩, -, X', ⟨Lc, hQ, l', y', z'⟩, st⟩ := X.specialBack C.1 (y := y) hin C.2.2.2.2.1 (mvT C.2.2.2.1 wl) (mvT C.2.2.2.1 wst) (mvT C.2.2.2.1 (hret ▸ wc)) hy
    (backOf (W := (rest.map fun v => v.category).sum) (Q := fun v h L => Qc v h ∧ Fr n0 L) (met_of (ws := []) hp ho hn hef w) C.2.2.2.1 wc wz (Nat.le_of_ble_eq_true hf) (Nat.le_of_ble_eq_true hlo)) (g := mkF m pc ⟨Ls⟩ (argsL.reverse ++ .ref a :: rest)) rfl (by show Ls.toArray.size = _; rw [C.2.2.1]; simpa using hsz) (Steps.refl _) (a := a) (argsL := argsL) (rest := rest) (lenOf hpd hlen) rfl (by show 2 * 0 + _ ≤ _; omega) (hb C.2.1 hd) (fun _ _ => ⟨rfl, eT, hc', hs'⟩)
  dsimp only [Pt.U, Pt.locs, Pt.cells, Pt.slots] at X' l' y' z' st hQ
  subst l' y' z'
  obtain ⟨s₂, v₂, L, h1, h2⟩ := K v T'.heap hQ.1 p e s m args below meth c T' _ C X' rfl (Fr.app N hQ.2) hc' hs'
  exact ⟨s₂, v₂, L, st.trans h1, h2⟩
theorem W.callV {i : Nat} {y : MethodName} {C' : String} {B' : Bdy} {rm : Room} {Qc : Option Value → Heap → Prop} {L0 : List Slot} {a : Addr} {argsL rest : List Value} {ps : List FieldType} {r : Option FieldType} (hd : decode B.bytes pc = .ok (.invokevirtual i, 3)) (wl : (Cond.methodLink B.own i y).before a0 Z = true) (wd : (Cond.declares y).before a0 Z = true) (wsel : (Cond.selects C' y y).before a0 Z = true) (wst : (Cond.instanceMethod y).before a0 Z = true) (wz : (Cond.initialized y.cls).before a0 Z = true) (wc : (Cond.code y B'.bytes B'.ml B'.ret).before a0 Z = true)
    (hst : argsL.reverse ++ .ref a :: rest = St) (E : Exa Z h a C') (w : W l Z n0 rm B' Qc h 0 0 0 L0 []) (hp : plainFor y = true) (hy : y.cls ≠ "java/lang/invoke/MethodHandle" ∧ y.cls ≠ "java/lang/invoke/VarHandle") (hpd : parseMethodDescriptor y.desc = some ⟨ps, r⟩) (ho : B'.own = y.cls) (hn : B'.nm = y.name) (hlen : argsL.length = ps.length) (hef : ∀ m, entryFrame m (.ref a :: argsL).toArray B'.ml = mkF m 0 ⟨L0⟩ []) (hsz : Ls.length = B.ml)
    (hf : Nat.ble (rm.frames + 1) R.frames = true) (hlo : Nat.ble ((rest.map fun v => v.category).sum + (B'.ml + 11) + rm.locals) R.locals = true) (hc : Nat.ble (cells + rm.cells) R.cells = true) (hs : Nat.ble (slots + rm.slots) R.slots = true) (hq : pc + 3 = q)
    (K : ∀ v h', Qc v h' → W l Z n0 R B Q h' (cells + rm.cells) (slots + rm.slots) q Ls (v.toList ++ rest)) : W l Z n0 R B Q h cells slots pc Ls St := by
  subst hq hst
  intro p e s m args below meth c T locs C X eT N _ _
  have hc' := Nat.le_of_ble_eq_true hc
  have hs' := Nat.le_of_ble_eq_true hs
  obtain ⟨cq, kq, qa, qb, qc⟩ := isOf C.2.2.2.1 eT E
  obtain ⟨v, vm₁, ⟨T', L', c', s'⟩, -, X', ⟨Lc, hQ, l', y', z'⟩, st⟩ := X.virtualBack C.1 (y := y) (z := y) C.2.2.2.2.1 (mvT C.2.2.2.1 wl) (mvT C.2.2.2.1 wd) (notFace_of_selects (args := #[]) (mvT C.2.2.2.1 wsel)) (mvT C.2.2.2.1 wsel) (mvT C.2.2.2.1 wst) hy
    (backOf (W := (rest.map fun v => v.category).sum) (Q := fun v h L => Qc v h ∧ Fr n0 L) (met_of (ws := []) hp ho hn hef w) C.2.2.2.1 wc wz (Nat.le_of_ble_eq_true hf) (Nat.le_of_ble_eq_true hlo)) qa qc (g := mkF m pc ⟨Ls⟩ (argsL.reverse ++ .ref a :: rest)) rfl (by show Ls.toArray.size = _; rw [C.2.2.1]; simpa using hsz) (Steps.refl _) (argsL := argsL) (rest := rest) (lenOf hpd hlen) rfl (by show 2 * 0 + _ ≤ _; omega) (hb C.2.1 hd) (fun _ _ => ⟨rfl, eT, hc', hs'⟩)
  dsimp only [Pt.U, Pt.locs, Pt.cells, Pt.slots] at X' l' y' z' st hQ
  subst l' y' z'
  obtain ⟨s₂, v₂, L, h1, h2⟩ := K v T'.heap hQ.1 p e s m args below meth c T' _ C X' rfl (Fr.app N hQ.2) hc' hs'
  exact ⟨s₂, v₂, L, st.trans h1, h2⟩
theorem W.callS_I {i : Nat} {y : MethodName} {B' : Bdy} {rm : Room} {P : Int32 → Heap → Prop} {L0 : List Slot} {argsL rest : List Value} {ps : List FieldType} {r : Option FieldType} (hd : decode B.bytes pc = .ok (.invokestatic i, 3)) (wl : (Cond.methodLink B.own i y).before a0 Z = true) (wst : (Cond.static y).before a0 Z = true) (wz : (Cond.initialized y.cls).before a0 Z = true) (wc : (Cond.code y B'.bytes B'.ml B'.ret).before a0 Z = true)
    (hst : argsL.reverse ++ rest = St) (w : W l Z n0 rm B' (RI P) h 0 0 0 L0 []) (hp : plainFor y = true) (hy : y.cls ≠ "java/lang/invoke/MethodHandle" ∧ y.cls ≠ "java/lang/invoke/VarHandle") (hpd : parseMethodDescriptor y.desc = some ⟨ps, r⟩) (ho : B'.own = y.cls) (hn : B'.nm = y.name) (hlen : argsL.length = ps.length) (hef : ∀ m, entryFrame m argsL.toArray B'.ml = mkF m 0 ⟨L0⟩ []) (hsz : Ls.length = B.ml)
    (hf : Nat.ble (rm.frames + 1) R.frames = true) (hlo : Nat.ble ((rest.map fun v => v.category).sum + (B'.ml + 11) + rm.locals) R.locals = true) (hc : Nat.ble (cells + rm.cells) R.cells = true) (hs : Nat.ble (slots + rm.slots) R.slots = true) (hq : pc + 3 = q)
    (K : ∀ (u : Int32) h', P u h' → W l Z n0 R B Q h' (cells + rm.cells) (slots + rm.slots) q Ls (.int u :: rest)) : W l Z n0 R B Q h cells slots pc Ls St :=
  W.callS hd wl wst wz wc hst w hp hy hpd ho hn hlen hef hsz hf hlo hc hs hq (fun v h' hQ => by obtain ⟨u, rfl, hP⟩ := hQ; exact K u h' hP)
theorem W.callS_J {i : Nat} {y : MethodName} {B' : Bdy} {rm : Room} {P : Int64 → Heap → Prop} {L0 : List Slot} {argsL rest : List Value} {ps : List FieldType} {r : Option FieldType} (hd : decode B.bytes pc = .ok (.invokestatic i, 3)) (wl : (Cond.methodLink B.own i y).before a0 Z = true) (wst : (Cond.static y).before a0 Z = true) (wz : (Cond.initialized y.cls).before a0 Z = true) (wc : (Cond.code y B'.bytes B'.ml B'.ret).before a0 Z = true)
    (hst : argsL.reverse ++ rest = St) (w : W l Z n0 rm B' (RJ P) h 0 0 0 L0 []) (hp : plainFor y = true) (hy : y.cls ≠ "java/lang/invoke/MethodHandle" ∧ y.cls ≠ "java/lang/invoke/VarHandle") (hpd : parseMethodDescriptor y.desc = some ⟨ps, r⟩) (ho : B'.own = y.cls) (hn : B'.nm = y.name) (hlen : argsL.length = ps.length) (hef : ∀ m, entryFrame m argsL.toArray B'.ml = mkF m 0 ⟨L0⟩ []) (hsz : Ls.length = B.ml)
    (hf : Nat.ble (rm.frames + 1) R.frames = true) (hlo : Nat.ble ((rest.map fun v => v.category).sum + (B'.ml + 11) + rm.locals) R.locals = true) (hc : Nat.ble (cells + rm.cells) R.cells = true) (hs : Nat.ble (slots + rm.slots) R.slots = true) (hq : pc + 3 = q)
    (K : ∀ (u : Int64) h', P u h' → W l Z n0 R B Q h' (cells + rm.cells) (slots + rm.slots) q Ls (.long u :: rest)) : W l Z n0 R B Q h cells slots pc Ls St :=
  W.callS hd wl wst wz wc hst w hp hy hpd ho hn hlen hef hsz hf hlo hc hs hq (fun v h' hQ => by obtain ⟨u, rfl, hP⟩ := hQ; exact K u h' hP)
theorem W.callS_A {i : Nat} {y : MethodName} {B' : Bdy} {rm : Room} {P : Value → Heap → Prop} {L0 : List Slot} {argsL rest : List Value} {ps : List FieldType} {r : Option FieldType} (hd : decode B.bytes pc = .ok (.invokestatic i, 3)) (wl : (Cond.methodLink B.own i y).before a0 Z = true) (wst : (Cond.static y).before a0 Z = true) (wz : (Cond.initialized y.cls).before a0 Z = true) (wc : (Cond.code y B'.bytes B'.ml B'.ret).before a0 Z = true)
    (hst : argsL.reverse ++ rest = St) (w : W l Z n0 rm B' (RA P) h 0 0 0 L0 []) (hp : plainFor y = true) (hy : y.cls ≠ "java/lang/invoke/MethodHandle" ∧ y.cls ≠ "java/lang/invoke/VarHandle") (hpd : parseMethodDescriptor y.desc = some ⟨ps, r⟩) (ho : B'.own = y.cls) (hn : B'.nm = y.name) (hlen : argsL.length = ps.length) (hef : ∀ m, entryFrame m argsL.toArray B'.ml = mkF m 0 ⟨L0⟩ []) (hsz : Ls.length = B.ml)
    (hf : Nat.ble (rm.frames + 1) R.frames = true) (hlo : Nat.ble ((rest.map fun v => v.category).sum + (B'.ml + 11) + rm.locals) R.locals = true) (hc : Nat.ble (cells + rm.cells) R.cells = true) (hs : Nat.ble (slots + rm.slots) R.slots = true) (hq : pc + 3 = q)
    (K : ∀ (u : Value) h', P u h' → W l Z n0 R B Q h' (cells + rm.cells) (slots + rm.slots) q Ls (u :: rest)) : W l Z n0 R B Q h cells slots pc Ls St :=
  W.callS hd wl wst wz wc hst w hp hy hpd ho hn hlen hef hsz hf hlo hc hs hq (fun v h' hQ => by obtain ⟨u, rfl, hP⟩ := hQ; exact K u h' hP)
theorem W.callS_N {i : Nat} {y : MethodName} {B' : Bdy} {rm : Room} {P : Heap → Prop} {L0 : List Slot} {argsL rest : List Value} {ps : List FieldType} {r : Option FieldType} (hd : decode B.bytes pc = .ok (.invokestatic i, 3)) (wl : (Cond.methodLink B.own i y).before a0 Z = true) (wst : (Cond.static y).before a0 Z = true) (wz : (Cond.initialized y.cls).before a0 Z = true) (wc : (Cond.code y B'.bytes B'.ml B'.ret).before a0 Z = true)
    (hst : argsL.reverse ++ rest = St) (w : W l Z n0 rm B' (RN P) h 0 0 0 L0 []) (hp : plainFor y = true) (hy : y.cls ≠ "java/lang/invoke/MethodHandle" ∧ y.cls ≠ "java/lang/invoke/VarHandle") (hpd : parseMethodDescriptor y.desc = some ⟨ps, r⟩) (ho : B'.own = y.cls) (hn : B'.nm = y.name) (hlen : argsL.length = ps.length) (hef : ∀ m, entryFrame m argsL.toArray B'.ml = mkF m 0 ⟨L0⟩ []) (hsz : Ls.length = B.ml)
    (hf : Nat.ble (rm.frames + 1) R.frames = true) (hlo : Nat.ble ((rest.map fun v => v.category).sum + (B'.ml + 11) + rm.locals) R.locals = true) (hc : Nat.ble (cells + rm.cells) R.cells = true) (hs : Nat.ble (slots + rm.slots) R.slots = true) (hq : pc + 3 = q)
    (K : ∀ h', P h' → W l Z n0 R B Q h' (cells + rm.cells) (slots + rm.slots) q Ls rest) : W l Z n0 R B Q h cells slots pc Ls St :=
  W.callS hd wl wst wz wc hst w hp hy hpd ho hn hlen hef hsz hf hlo hc hs hq (fun v h' hQ => by obtain ⟨rfl, hP⟩ := hQ; exact K h' hP)
theorem W.callI_N {i : Nat} {y : MethodName} {B' : Bdy} {rm : Room} {P : Heap → Prop} {L0 : List Slot} {a : Addr} {argsL rest : List Value} {ps : List FieldType} {r : Option FieldType} (hd : decode B.bytes pc = .ok (.invokespecial i, 3)) (wl : (Cond.methodLink B.own i y).before a0 Z = true) (wst : (Cond.instanceMethod y).before a0 Z = true) (wz : (Cond.initialized y.cls).before a0 Z = true) (wc : (Cond.code y B'.bytes B'.ml B'.ret).before a0 Z = true)
    (hst : argsL.reverse ++ .ref a :: rest = St) (w : W l Z n0 rm B' (RN P) h 0 0 0 L0 []) (hp : plainFor y = true) (hy : y.cls ≠ "java/lang/invoke/MethodHandle" ∧ y.cls ≠ "java/lang/invoke/VarHandle") (hpd : parseMethodDescriptor y.desc = some ⟨ps, r⟩) (ho : B'.own = y.cls) (hn : B'.nm = y.name) (hlen : argsL.length = ps.length) (hef : ∀ m, entryFrame m (.ref a :: argsL).toArray B'.ml = mkF m 0 ⟨L0⟩ []) (hsz : Ls.length = B.ml)
    (hf : Nat.ble (rm.frames + 1) R.frames = true) (hlo : Nat.ble ((rest.map fun v => v.category).sum + (B'.ml + 11) + rm.locals) R.locals = true) (hc : Nat.ble (cells + rm.cells) R.cells = true) (hs : Nat.ble (slots + rm.slots) R.slots = true) (hret : B'.ret = none) (hin : y.name = "<init>") (hq : pc + 3 = q)
    (K : ∀ h', P h' → W l Z n0 R B Q h' (cells + rm.cells) (slots + rm.slots) q Ls rest) : W l Z n0 R B Q h cells slots pc Ls St :=
  W.callI hd wl wst wz wc hst w hp hy hpd ho hn hlen hef hsz hf hlo hc hs hret hin hq (fun v h' hQ => by obtain ⟨rfl, hP⟩ := hQ; exact K h' hP)
theorem W.callV_I {i : Nat} {y : MethodName} {C' : String} {B' : Bdy} {rm : Room} {P : Int32 → Heap → Prop} {L0 : List Slot} {a : Addr} {argsL rest : List Value} {ps : List FieldType} {r : Option FieldType} (hd : decode B.bytes pc = .ok (.invokevirtual i, 3)) (wl : (Cond.methodLink B.own i y).before a0 Z = true) (wd : (Cond.declares y).before a0 Z = true) (wsel : (Cond.selects C' y y).before a0 Z = true) (wst : (Cond.instanceMethod y).before a0 Z = true) (wz : (Cond.initialized y.cls).before a0 Z = true) (wc : (Cond.code y B'.bytes B'.ml B'.ret).before a0 Z = true)
    (hst : argsL.reverse ++ .ref a :: rest = St) (E : Exa Z h a C') (w : W l Z n0 rm B' (RI P) h 0 0 0 L0 []) (hp : plainFor y = true) (hy : y.cls ≠ "java/lang/invoke/MethodHandle" ∧ y.cls ≠ "java/lang/invoke/VarHandle") (hpd : parseMethodDescriptor y.desc = some ⟨ps, r⟩) (ho : B'.own = y.cls) (hn : B'.nm = y.name) (hlen : argsL.length = ps.length) (hef : ∀ m, entryFrame m (.ref a :: argsL).toArray B'.ml = mkF m 0 ⟨L0⟩ []) (hsz : Ls.length = B.ml)
    (hf : Nat.ble (rm.frames + 1) R.frames = true) (hlo : Nat.ble ((rest.map fun v => v.category).sum + (B'.ml + 11) + rm.locals) R.locals = true) (hc : Nat.ble (cells + rm.cells) R.cells = true) (hs : Nat.ble (slots + rm.slots) R.slots = true) (hq : pc + 3 = q)
    (K : ∀ (u : Int32) h', P u h' → W l Z n0 R B Q h' (cells + rm.cells) (slots + rm.slots) q Ls (.int u :: rest)) : W l Z n0 R B Q h cells slots pc Ls St :=
  W.callV hd wl wd wsel wst wz wc hst E w hp hy hpd ho hn hlen hef hsz hf hlo hc hs hq (fun v h' hQ => by obtain ⟨u, rfl, hP⟩ := hQ; exact K u h' hP)
theorem W.callV_J {i : Nat} {y : MethodName} {C' : String} {B' : Bdy} {rm : Room} {P : Int64 → Heap → Prop} {L0 : List Slot} {a : Addr} {argsL rest : List Value} {ps : List FieldType} {r : Option FieldType} (hd : decode B.bytes pc = .ok (.invokevirtual i, 3)) (wl : (Cond.methodLink B.own i y).before a0 Z = true) (wd : (Cond.declares y).before a0 Z = true) (wsel : (Cond.selects C' y y).before a0 Z = true) (wst : (Cond.instanceMethod y).before a0 Z = true) (wz : (Cond.initialized y.cls).before a0 Z = true) (wc : (Cond.code y B'.bytes B'.ml B'.ret).before a0 Z = true)
    (hst : argsL.reverse ++ .ref a :: rest = St) (E : Exa Z h a C') (w : W l Z n0 rm B' (RJ P) h 0 0 0 L0 []) (hp : plainFor y = true) (hy : y.cls ≠ "java/lang/invoke/MethodHandle" ∧ y.cls ≠ "java/lang/invoke/VarHandle") (hpd : parseMethodDescriptor y.desc = some ⟨ps, r⟩) (ho : B'.own = y.cls) (hn : B'.nm = y.name) (hlen : argsL.length = ps.length) (hef : ∀ m, entryFrame m (.ref a :: argsL).toArray B'.ml = mkF m 0 ⟨L0⟩ []) (hsz : Ls.length = B.ml)
    (hf : Nat.ble (rm.frames + 1) R.frames = true) (hlo : Nat.ble ((rest.map fun v => v.category).sum + (B'.ml + 11) + rm.locals) R.locals = true) (hc : Nat.ble (cells + rm.cells) R.cells = true) (hs : Nat.ble (slots + rm.slots) R.slots = true) (hq : pc + 3 = q)
    (K : ∀ (u : Int64) h', P u h' → W l Z n0 R B Q h' (cells + rm.cells) (slots + rm.slots) q Ls (.long u :: rest)) : W l Z n0 R B Q h cells slots pc Ls St :=
  W.callV hd wl wd wsel wst wz wc hst E w hp hy hpd ho hn hlen hef hsz hf hlo hc hs hq (fun v h' hQ => by obtain ⟨u, rfl, hP⟩ := hQ; exact K u h' hP)
theorem W.callV_A {i : Nat} {y : MethodName} {C' : String} {B' : Bdy} {rm : Room} {P : Value → Heap → Prop} {L0 : List Slot} {a : Addr} {argsL rest : List Value} {ps : List FieldType} {r : Option FieldType} (hd : decode B.bytes pc = .ok (.invokevirtual i, 3)) (wl : (Cond.methodLink B.own i y).before a0 Z = true) (wd : (Cond.declares y).before a0 Z = true) (wsel : (Cond.selects C' y y).before a0 Z = true) (wst : (Cond.instanceMethod y).before a0 Z = true) (wz : (Cond.initialized y.cls).before a0 Z = true) (wc : (Cond.code y B'.bytes B'.ml B'.ret).before a0 Z = true)
    (hst : argsL.reverse ++ .ref a :: rest = St) (E : Exa Z h a C') (w : W l Z n0 rm B' (RA P) h 0 0 0 L0 []) (hp : plainFor y = true) (hy : y.cls ≠ "java/lang/invoke/MethodHandle" ∧ y.cls ≠ "java/lang/invoke/VarHandle") (hpd : parseMethodDescriptor y.desc = some ⟨ps, r⟩) (ho : B'.own = y.cls) (hn : B'.nm = y.name) (hlen : argsL.length = ps.length) (hef : ∀ m, entryFrame m (.ref a :: argsL).toArray B'.ml = mkF m 0 ⟨L0⟩ []) (hsz : Ls.length = B.ml)
    (hf : Nat.ble (rm.frames + 1) R.frames = true) (hlo : Nat.ble ((rest.map fun v => v.category).sum + (B'.ml + 11) + rm.locals) R.locals = true) (hc : Nat.ble (cells + rm.cells) R.cells = true) (hs : Nat.ble (slots + rm.slots) R.slots = true) (hq : pc + 3 = q)
    (K : ∀ (u : Value) h', P u h' → W l Z n0 R B Q h' (cells + rm.cells) (slots + rm.slots) q Ls (u :: rest)) : W l Z n0 R B Q h cells slots pc Ls St :=
  W.callV hd wl wd wsel wst wz wc hst E w hp hy hpd ho hn hlen hef hsz hf hlo hc hs hq (fun v h' hQ => by obtain ⟨u, rfl, hP⟩ := hQ; exact K u h' hP)
theorem W.callV_N {i : Nat} {y : MethodName} {C' : String} {B' : Bdy} {rm : Room} {P : Heap → Prop} {L0 : List Slot} {a : Addr} {argsL rest : List Value} {ps : List FieldType} {r : Option FieldType} (hd : decode B.bytes pc = .ok (.invokevirtual i, 3)) (wl : (Cond.methodLink B.own i y).before a0 Z = true) (wd : (Cond.declares y).before a0 Z = true) (wsel : (Cond.selects C' y y).before a0 Z = true) (wst : (Cond.instanceMethod y).before a0 Z = true) (wz : (Cond.initialized y.cls).before a0 Z = true) (wc : (Cond.code y B'.bytes B'.ml B'.ret).before a0 Z = true)
    (hst : argsL.reverse ++ .ref a :: rest = St) (E : Exa Z h a C') (w : W l Z n0 rm B' (RN P) h 0 0 0 L0 []) (hp : plainFor y = true) (hy : y.cls ≠ "java/lang/invoke/MethodHandle" ∧ y.cls ≠ "java/lang/invoke/VarHandle") (hpd : parseMethodDescriptor y.desc = some ⟨ps, r⟩) (ho : B'.own = y.cls) (hn : B'.nm = y.name) (hlen : argsL.length = ps.length) (hef : ∀ m, entryFrame m (.ref a :: argsL).toArray B'.ml = mkF m 0 ⟨L0⟩ []) (hsz : Ls.length = B.ml)
    (hf : Nat.ble (rm.frames + 1) R.frames = true) (hlo : Nat.ble ((rest.map fun v => v.category).sum + (B'.ml + 11) + rm.locals) R.locals = true) (hc : Nat.ble (cells + rm.cells) R.cells = true) (hs : Nat.ble (slots + rm.slots) R.slots = true) (hq : pc + 3 = q)
    (K : ∀ h', P h' → W l Z n0 R B Q h' (cells + rm.cells) (slots + rm.slots) q Ls rest) : W l Z n0 R B Q h cells slots pc Ls St :=
  W.callV hd wl wd wsel wst wz wc hst E w hp hy hpd ho hn hlen hef hsz hf hlo hc hs hq (fun v h' hQ => by obtain ⟨rfl, hP⟩ := hQ; exact K h' hP)
theorem W.initO {i : Nat} {a : Addr} (hd : decode B.bytes pc = .ok (.invokespecial i, 3)) (w1 : (Cond.methodLink B.own i Lib.objectInit).before a0 Z = true) (w2 : (Cond.instanceMethod Lib.objectInit).before a0 Z = true) (w3 : (Cond.code Lib.objectInit ⟨#[0xb1]⟩ 1 none).before a0 Z = true) (hsz : Ls.length = B.ml) (hf : Nat.ble 1 R.frames = true) (hlo : Nat.ble ((St.map fun v => v.category).sum + 12) R.locals = true) (hq : pc + 3 = q)
    (K : W l Z n0 R B Q h cells slots q Ls St) : W l Z n0 R B Q h cells slots pc Ls (.ref a :: St) := by
  subst hq
  exact W.warm K (fun p e s m args below meth c T locs C X eT => RoadKit.initO X C.1 C.2.2.2.1 C.2.2.2.2.1 w1 w2 w3 eT (g := mkF m pc ⟨Ls⟩ (.ref a :: St)) rfl (by show Ls.toArray.size = _; rw [C.2.2.1]; simpa using hsz) rfl (hb C.2.1 hd) (Nat.le_of_ble_eq_true hf) (W := (St.map fun v => v.category).sum) (by show 2 * 0 + _ ≤ _; omega) (Nat.le_of_ble_eq_true hlo))
end Steps
/-! ### no instance: a class two steps under the root, and another class -/
theorem noUp {Z : State} {a0 : Array Value} {C S O K : String} {n : Nat} (w1 : (Cond.superclass C S).before a0 Z = true) (w2 : (Cond.superclass S O).before a0 Z = true) (w3 : (Cond.noSuperclass O).before a0 Z = true) (w4 : (Cond.instantiable K n).before a0 Z = true) (h1 : C ≠ K) (h2 : S ≠ K) (h3 : O ≠ K) : ∃ c t, Z.vm.findClass C = some c ∧ Z.vm.findClass K = some t ∧ Z.vm.assignable c t = false := by
  obtain ⟨t, kt, g1, g2, g3, g4, -⟩ := Cond.instantiable_spec w4
  obtain ⟨c, f1⟩ := found_sup w1
  obtain ⟨s, k1, k2, f2, f3, f4, f5, f6, -⟩ := Cond.superclass_spec f1 w1
  obtain ⟨o, k3, k4, f7, f8, f9, f10, -⟩ := Cond.superclass_spec f2 w2
  obtain ⟨o', k5, e1, e2, e3, -⟩ := Cond.noSuperclass_spec w3
  cases f7.symm.trans e1
  cases f4.symm.trans f8
  have n1 := ids_ne f1 g1 h1
  have n2 := ids_ne f2 g1 h2
  have n3 := ids_ne e1 g1 h3
  have q : ∀ fuel, Z.vm.isSubclassAux fuel c t = false := by
    intro fuel
    rcases fuel with _ | _ | _ | fuel <;> simp [Vm.isSubclassAux, n1, n2, n3, f3, f5, f4, f10, e2, e3]
  have g5 : kt.isInterface = false := by simp only [Bool.or_eq_false_iff] at g4; exact g4.1
  refine ⟨c, t, f1, g1, ?_⟩
  show Z.vm.assignableAux (255 + 1) c t = false
  simp [Vm.assignableAux, n1, f3, g2, f6, g3, g5, Vm.isSubclass, q]
/-! ### words of a case -/
theorem own_eqi {args : Array Value} {s : State} {t : Term} {z : Int32} (h : (Cond.eq t (.int z)).value args s none s [] = some true) : t.eval args s none [] s = some (.int z) := by
  obtain ⟨x, y, hx, hy, k1, k2⟩ := cmp_v (Or.inl h)
  cases (Term.int_eval (args := args) (first := s) (o := none) (idx := []) (s := s) z).symm.trans hy
  obtain ⟨z', rfl⟩ := k2
  have := gotT (Cond.eq_ints hx hy) h
  subst this
  exact hx
/-! ### numbers -/
theorem nat32 {k : Nat} (h : k < 2147483640) : (k.toInt32).toInt = k ∧ k.toInt32.toNatClampNeg = k ∧ ¬ k.toInt32 < 0 ∧ k.toInt32 + 1 = (k + 1).toInt32 := by
  have e : (k.toInt32).toInt = k := Int32.toInt_ofNat_of_lt (by omega)
  refine ⟨e, ?_, ?_, ?_⟩
  · show (k.toInt32).toInt.toNat = k
    omega
  · rw [Int32.lt_iff_toInt_lt, e]; simp
  · show Int32.ofNat k + 1 = Int32.ofNat (k + 1)
    rw [Int32.ofNat_add]; rfl
theorem ltb {a b : Nat} (h : Nat.blt a b = true) : a < b := Nat.le_of_ble_eq_true h
theorem leb {a b : Nat} (h : Nat.ble a b = true) : a ≤ b := Nat.le_of_ble_eq_true h
theorem mask31 (x : Int32) : (x &&& 2147483647).toInt = x.toInt % 2147483648 := by
  have h : ((x &&& 2147483647 : Int32)).toInt = (x.toBitVec &&& 2147483647#32).toInt := rfl
  rw [h, BitVec.toInt_eq_toNat_bmod, BitVec.toNat_and]
  have e1 : (x.toBitVec.toNat &&& (2147483647#32).toNat) = x.toBitVec.toNat % 2147483648 := by
    show x.toBitVec.toNat &&& (2 ^ 31 - 1) = x.toBitVec.toNat % 2 ^ 31
    exact Nat.and_two_pow_sub_one_eq_mod _ 31
  rw [e1]
  have e2 : x.toInt = (x.toBitVec.toNat : Int).bmod (2 ^ 32) := BitVec.toInt_eq_toNat_bmod _
  rw [e2]
  have e3 := Int.bmod_emod (x := (x.toBitVec.toNat : Int)) (m := 2 ^ 32)
  rw [Int.bmod_eq_of_le (by omega) (by omega)]
  omega
theorem rem31 (x k : Int32) (hk : 0 < k.toInt) : 0 ≤ ((x &&& 2147483647) % k).toInt ∧ ((x &&& 2147483647) % k).toInt < k.toInt := by
  have h := mask31 x
  rw [Int32.toInt_mod, Int.tmod_eq_emod_of_nonneg (by omega)]
  exact ⟨Int.emod_nonneg _ (by omega), Int.emod_lt_of_pos _ hk⟩
theorem lt32 {a b : Int32} : a < b ↔ a.toInt < b.toInt := Int32.lt_iff_toInt_lt
theorem eq32 {a b : Int32} : a = b ↔ a.toInt = b.toInt := Int32.toInt_inj.symm
theorem add32 {x y : Int32} (h1 : -2147483648 ≤ x.toInt + y.toInt) (h2 : x.toInt + y.toInt < 2147483648) : (x + y).toInt = x.toInt + y.toInt := by
  rw [Int32.toInt_add, Int.bmod_eq_of_le (by omega) (by omega)]
theorem sub32 {x y : Int32} (h1 : -2147483648 ≤ x.toInt - y.toInt) (h2 : x.toInt - y.toInt < 2147483648) : (x - y).toInt = x.toInt - y.toInt := by
  rw [Int32.toInt_sub, Int.bmod_eq_of_le (by omega) (by omega)]
theorem div32 {x y : Int32} (hx : 0 ≤ x.toInt) (hy : 0 < y.toInt) : (x / y).toInt = x.toInt / y.toInt := by
  rw [Int32.toInt_div, Int.tdiv_eq_ediv_of_nonneg hx, Int.bmod_eq_of_le]
  · have := Int.ediv_nonneg hx (Int.le_of_lt hy); omega
  · have h1 := Int.ediv_le_self y.toInt hx
    have h2 := x.toInt_lt
    omega
theorem maskk (x m : Int32) (k : Nat) (hk : k < 32) (hm : m.toBitVec.toNat = 2 ^ k - 1) : (x &&& m).toInt = x.toInt % 2 ^ k := by
  have h : (x &&& m).toInt = (x.toBitVec &&& m.toBitVec).toInt := rfl
  have hle : 2 ^ k ≤ 2 ^ 31 := Nat.pow_le_pow_right (by decide) (by omega)
  rw [h, BitVec.toInt_eq_toNat_bmod, BitVec.toNat_and, hm, Nat.and_two_pow_sub_one_eq_mod]
  have e2 : x.toInt = (x.toBitVec.toNat : Int).bmod (2 ^ 32) := BitVec.toInt_eq_toNat_bmod _
  have hlt := Nat.mod_lt x.toBitVec.toNat (Nat.two_pow_pos k)
  rw [e2, Int.bmod_eq_of_le (by omega) (by omega)]
  have hd : ((2 ^ k : Nat) : Int) ∣ ((2 ^ 32 : Nat) : Int) := Int.natCast_dvd_natCast.mpr (Nat.pow_dvd_pow 2 (by omega))
  have e3 : ((x.toBitVec.toNat : Int).bmod (2 ^ 32)) % ((2 ^ k : Nat) : Int) = (x.toBitVec.toNat : Int) % ((2 ^ k : Nat) : Int) := by
    have f1 := Int.emod_emod_of_dvd ((x.toBitVec.toNat : Int).bmod (2 ^ 32)) hd
    have f2 := Int.emod_emod_of_dvd (x.toBitVec.toNat : Int) hd
    rw [← f1, ← f2, Int.bmod_emod]
  have e4 : ((2 ^ k : Nat) : Int) = 2 ^ k := by simp
  rw [← e4, e3]; simp
end Jvm.OwnW
namespace Jvm.Pilot.@@N@@
open Jvm Jvm.ClassFile Sem Op Lib Jvm.Free Jvm.Stand Jvm.LawKit Jvm.RoadKit Bundle Jvm.OwnW Jvm.Pilot.@@N@@.Jvm.D
abbrev B0 : Bdy := (x.cls, x.name, code, maxLocals, ret)
theorem own_pf0 : plainFor x = true := by first | exact plainFor_of_name (by first | (simp [plainName, overriddenIn, x]; done) | decide +kernel) | decide +kernel
abbrev B1 : Bdy := ("org/afterlog/internal/json/JsonString", "utf8", prog_66_method_4_code, 4, (some .int))
theorem d1_0 : decode prog_66_method_4_code 0 = .ok (.iload_n 1, 1) := by decide +kernel
theorem d1_1 : decode prog_66_method_4_code 1 = .ok (.istore_n 3, 1) := by decide +kernel
theorem d1_2 : decode prog_66_method_4_code 2 = .ok (.iload_n 2, 1) := by decide +kernel
theorem d1_3 : decode prog_66_method_4_code 3 = .ok (.sipush 128, 3) := by decide +kernel
theorem d1_6 : decode prog_66_method_4_code 6 = .ok (.if_icmp .ge 14, 3) := by decide +kernel
theorem d1_9 : decode prog_66_method_4_code 9 = .ok (.aload_n 0, 1) := by decide +kernel
theorem d1_10 : decode prog_66_method_4_code 10 = .ok (.iload_n 3, 1) := by decide +kernel
theorem d1_11 : decode prog_66_method_4_code 11 = .ok (.iinc 3 1, 3) := by decide +kernel
theorem d1_14 : decode prog_66_method_4_code 14 = .ok (.iload_n 2, 1) := by decide +kernel
theorem d1_15 : decode prog_66_method_4_code 15 = .ok (.i2b, 1) := by decide +kernel
theorem d1_16 : decode prog_66_method_4_code 16 = .ok (.bastore, 1) := by decide +kernel
theorem d1_17 : decode prog_66_method_4_code 17 = .ok (.goto 166, 3) := by decide +kernel
theorem d1_20 : decode prog_66_method_4_code 20 = .ok (.iload_n 2, 1) := by decide +kernel
theorem d1_21 : decode prog_66_method_4_code 21 = .ok (.sipush 2048, 3) := by decide +kernel
theorem d1_24 : decode prog_66_method_4_code 24 = .ok (.if_icmp .ge 36, 3) := by decide +kernel
theorem d1_27 : decode prog_66_method_4_code 27 = .ok (.aload_n 0, 1) := by decide +kernel
theorem d1_28 : decode prog_66_method_4_code 28 = .ok (.iload_n 3, 1) := by decide +kernel
theorem d1_29 : decode prog_66_method_4_code 29 = .ok (.iinc 3 1, 3) := by decide +kernel
theorem d1_32 : decode prog_66_method_4_code 32 = .ok (.sipush 192, 3) := by decide +kernel
theorem d1_35 : decode prog_66_method_4_code 35 = .ok (.iload_n 2, 1) := by decide +kernel
theorem d1_36 : decode prog_66_method_4_code 36 = .ok (.bipush 6, 2) := by decide +kernel
theorem d1_38 : decode prog_66_method_4_code 38 = .ok (.ishr, 1) := by decide +kernel
theorem d1_39 : decode prog_66_method_4_code 39 = .ok (.ior, 1) := by decide +kernel
theorem d1_40 : decode prog_66_method_4_code 40 = .ok (.i2b, 1) := by decide +kernel
theorem d1_41 : decode prog_66_method_4_code 41 = .ok (.bastore, 1) := by decide +kernel
theorem d1_42 : decode prog_66_method_4_code 42 = .ok (.aload_n 0, 1) := by decide +kernel
theorem d1_43 : decode prog_66_method_4_code 43 = .ok (.iload_n 3, 1) := by decide +kernel
theorem d1_44 : decode prog_66_method_4_code 44 = .ok (.iinc 3 1, 3) := by decide +kernel
theorem d1_47 : decode prog_66_method_4_code 47 = .ok (.sipush 128, 3) := by decide +kernel
theorem d1_50 : decode prog_66_method_4_code 50 = .ok (.iload_n 2, 1) := by decide +kernel
theorem d1_51 : decode prog_66_method_4_code 51 = .ok (.bipush 63, 2) := by decide +kernel
theorem d1_53 : decode prog_66_method_4_code 53 = .ok (.iand, 1) := by decide +kernel
theorem d1_54 : decode prog_66_method_4_code 54 = .ok (.ior, 1) := by decide +kernel
theorem d1_55 : decode prog_66_method_4_code 55 = .ok (.i2b, 1) := by decide +kernel
theorem d1_56 : decode prog_66_method_4_code 56 = .ok (.bastore, 1) := by decide +kernel
theorem d1_57 : decode prog_66_method_4_code 57 = .ok (.goto 126, 3) := by decide +kernel
theorem d1_60 : decode prog_66_method_4_code 60 = .ok (.iload_n 2, 1) := by decide +kernel
theorem d1_61 : decode prog_66_method_4_code 61 = .ok (.ldc 50, 2) := by decide +kernel
theorem d1_63 : decode prog_66_method_4_code 63 = .ok (.if_icmp .ge 54, 3) := by decide +kernel
theorem d1_66 : decode prog_66_method_4_code 66 = .ok (.aload_n 0, 1) := by decide +kernel
theorem d1_67 : decode prog_66_method_4_code 67 = .ok (.iload_n 3, 1) := by decide +kernel
theorem d1_68 : decode prog_66_method_4_code 68 = .ok (.iinc 3 1, 3) := by decide +kernel
theorem d1_71 : decode prog_66_method_4_code 71 = .ok (.sipush 224, 3) := by decide +kernel
theorem d1_74 : decode prog_66_method_4_code 74 = .ok (.iload_n 2, 1) := by decide +kernel
theorem d1_75 : decode prog_66_method_4_code 75 = .ok (.bipush 12, 2) := by decide +kernel
theorem d1_77 : decode prog_66_method_4_code 77 = .ok (.ishr, 1) := by decide +kernel
theorem d1_78 : decode prog_66_method_4_code 78 = .ok (.ior, 1) := by decide +kernel
theorem d1_79 : decode prog_66_method_4_code 79 = .ok (.i2b, 1) := by decide +kernel
theorem d1_80 : decode prog_66_method_4_code 80 = .ok (.bastore, 1) := by decide +kernel
theorem d1_81 : decode prog_66_method_4_code 81 = .ok (.aload_n 0, 1) := by decide +kernel
theorem d1_82 : decode prog_66_method_4_code 82 = .ok (.iload_n 3, 1) := by decide +kernel
theorem d1_83 : decode prog_66_method_4_code 83 = .ok (.iinc 3 1, 3) := by decide +kernel
theorem d1_86 : decode prog_66_method_4_code 86 = .ok (.sipush 128, 3) := by decide +kernel
theorem d1_89 : decode prog_66_method_4_code 89 = .ok (.iload_n 2, 1) := by decide +kernel
theorem d1_90 : decode prog_66_method_4_code 90 = .ok (.bipush 6, 2) := by decide +kernel
theorem d1_92 : decode prog_66_method_4_code 92 = .ok (.ishr, 1) := by decide +kernel
theorem d1_93 : decode prog_66_method_4_code 93 = .ok (.bipush 63, 2) := by decide +kernel
theorem d1_95 : decode prog_66_method_4_code 95 = .ok (.iand, 1) := by decide +kernel
theorem d1_96 : decode prog_66_method_4_code 96 = .ok (.ior, 1) := by decide +kernel
theorem d1_97 : decode prog_66_method_4_code 97 = .ok (.i2b, 1) := by decide +kernel
theorem d1_98 : decode prog_66_method_4_code 98 = .ok (.bastore, 1) := by decide +kernel
theorem d1_99 : decode prog_66_method_4_code 99 = .ok (.aload_n 0, 1) := by decide +kernel
theorem d1_100 : decode prog_66_method_4_code 100 = .ok (.iload_n 3, 1) := by decide +kernel
theorem d1_101 : decode prog_66_method_4_code 101 = .ok (.iinc 3 1, 3) := by decide +kernel
theorem d1_104 : decode prog_66_method_4_code 104 = .ok (.sipush 128, 3) := by decide +kernel
theorem d1_107 : decode prog_66_method_4_code 107 = .ok (.iload_n 2, 1) := by decide +kernel
theorem d1_108 : decode prog_66_method_4_code 108 = .ok (.bipush 63, 2) := by decide +kernel
theorem d1_110 : decode prog_66_method_4_code 110 = .ok (.iand, 1) := by decide +kernel
theorem d1_111 : decode prog_66_method_4_code 111 = .ok (.ior, 1) := by decide +kernel
theorem d1_112 : decode prog_66_method_4_code 112 = .ok (.i2b, 1) := by decide +kernel
theorem d1_113 : decode prog_66_method_4_code 113 = .ok (.bastore, 1) := by decide +kernel
theorem d1_114 : decode prog_66_method_4_code 114 = .ok (.goto 69, 3) := by decide +kernel
theorem d1_117 : decode prog_66_method_4_code 117 = .ok (.aload_n 0, 1) := by decide +kernel
theorem d1_118 : decode prog_66_method_4_code 118 = .ok (.iload_n 3, 1) := by decide +kernel
theorem d1_119 : decode prog_66_method_4_code 119 = .ok (.iinc 3 1, 3) := by decide +kernel
theorem d1_122 : decode prog_66_method_4_code 122 = .ok (.sipush 240, 3) := by decide +kernel
theorem d1_125 : decode prog_66_method_4_code 125 = .ok (.iload_n 2, 1) := by decide +kernel
theorem d1_126 : decode prog_66_method_4_code 126 = .ok (.bipush 18, 2) := by decide +kernel
theorem d1_128 : decode prog_66_method_4_code 128 = .ok (.ishr, 1) := by decide +kernel
theorem d1_129 : decode prog_66_method_4_code 129 = .ok (.ior, 1) := by decide +kernel
theorem d1_130 : decode prog_66_method_4_code 130 = .ok (.i2b, 1) := by decide +kernel
theorem d1_131 : decode prog_66_method_4_code 131 = .ok (.bastore, 1) := by decide +kernel
theorem d1_132 : decode prog_66_method_4_code 132 = .ok (.aload_n 0, 1) := by decide +kernel
theorem d1_133 : decode prog_66_method_4_code 133 = .ok (.iload_n 3, 1) := by decide +kernel
theorem d1_134 : decode prog_66_method_4_code 134 = .ok (.iinc 3 1, 3) := by decide +kernel
theorem d1_137 : decode prog_66_method_4_code 137 = .ok (.sipush 128, 3) := by decide +kernel
theorem d1_140 : decode prog_66_method_4_code 140 = .ok (.iload_n 2, 1) := by decide +kernel
theorem d1_141 : decode prog_66_method_4_code 141 = .ok (.bipush 12, 2) := by decide +kernel
theorem d1_143 : decode prog_66_method_4_code 143 = .ok (.ishr, 1) := by decide +kernel
theorem d1_144 : decode prog_66_method_4_code 144 = .ok (.bipush 63, 2) := by decide +kernel
theorem d1_146 : decode prog_66_method_4_code 146 = .ok (.iand, 1) := by decide +kernel
theorem d1_147 : decode prog_66_method_4_code 147 = .ok (.ior, 1) := by decide +kernel
theorem d1_148 : decode prog_66_method_4_code 148 = .ok (.i2b, 1) := by decide +kernel
theorem d1_149 : decode prog_66_method_4_code 149 = .ok (.bastore, 1) := by decide +kernel
theorem d1_150 : decode prog_66_method_4_code 150 = .ok (.aload_n 0, 1) := by decide +kernel
theorem d1_151 : decode prog_66_method_4_code 151 = .ok (.iload_n 3, 1) := by decide +kernel
theorem d1_152 : decode prog_66_method_4_code 152 = .ok (.iinc 3 1, 3) := by decide +kernel
theorem d1_155 : decode prog_66_method_4_code 155 = .ok (.sipush 128, 3) := by decide +kernel
theorem d1_158 : decode prog_66_method_4_code 158 = .ok (.iload_n 2, 1) := by decide +kernel
theorem d1_159 : decode prog_66_method_4_code 159 = .ok (.bipush 6, 2) := by decide +kernel
theorem d1_161 : decode prog_66_method_4_code 161 = .ok (.ishr, 1) := by decide +kernel
theorem d1_162 : decode prog_66_method_4_code 162 = .ok (.bipush 63, 2) := by decide +kernel
theorem d1_164 : decode prog_66_method_4_code 164 = .ok (.iand, 1) := by decide +kernel
theorem d1_165 : decode prog_66_method_4_code 165 = .ok (.ior, 1) := by decide +kernel
theorem d1_166 : decode prog_66_method_4_code 166 = .ok (.i2b, 1) := by decide +kernel
theorem d1_167 : decode prog_66_method_4_code 167 = .ok (.bastore, 1) := by decide +kernel
theorem d1_168 : decode prog_66_method_4_code 168 = .ok (.aload_n 0, 1) := by decide +kernel
theorem d1_169 : decode prog_66_method_4_code 169 = .ok (.iload_n 3, 1) := by decide +kernel
theorem d1_170 : decode prog_66_method_4_code 170 = .ok (.iinc 3 1, 3) := by decide +kernel
theorem d1_173 : decode prog_66_method_4_code 173 = .ok (.sipush 128, 3) := by decide +kernel
theorem d1_176 : decode prog_66_method_4_code 176 = .ok (.iload_n 2, 1) := by decide +kernel
theorem d1_177 : decode prog_66_method_4_code 177 = .ok (.bipush 63, 2) := by decide +kernel
theorem d1_179 : decode prog_66_method_4_code 179 = .ok (.iand, 1) := by decide +kernel
theorem d1_180 : decode prog_66_method_4_code 180 = .ok (.ior, 1) := by decide +kernel
theorem d1_181 : decode prog_66_method_4_code 181 = .ok (.i2b, 1) := by decide +kernel
theorem d1_182 : decode prog_66_method_4_code 182 = .ok (.bastore, 1) := by decide +kernel
theorem d1_183 : decode prog_66_method_4_code 183 = .ok (.iload_n 3, 1) := by decide +kernel
theorem d1_184 : decode prog_66_method_4_code 184 = .ok (.ireturn, 1) := by decide +kernel
theorem own_pf1 : plainFor (⟨"org/afterlog/internal/json/JsonString", "utf8", "([BII)I"⟩ : MethodName) = true := by first | exact plainFor_of_name (by first | (simp [plainName, overriddenIn, x]; done) | decide +kernel) | decide +kernel
theorem own_pd1 : parseMethodDescriptor "([BII)I" = some ⟨[(.array .byte), .int, .int], (some .int)⟩ := by decide +kernel
abbrev B2 : Bdy := ("org/afterlog/internal/json/JsonStringUtf8PinLaw", "untouched", method_3_code, 5, (some .boolean))
theorem d2_0 : decode method_3_code 0 = .ok (.iload_n 1, 1) := by decide +kernel
theorem d2_1 : decode method_3_code 1 = .ok (.iload_n 2, 1) := by decide +kernel
theorem d2_2 : decode method_3_code 2 = .ok (.if_icmp .lt 10, 3) := by decide +kernel
theorem d2_5 : decode method_3_code 5 = .ok (.iload_n 1, 1) := by decide +kernel
theorem d2_6 : decode method_3_code 6 = .ok (.iload_n 2, 1) := by decide +kernel
theorem d2_7 : decode method_3_code 7 = .ok (.iload_n 3, 1) := by decide +kernel
theorem d2_8 : decode method_3_code 8 = .ok (.iadd, 1) := by decide +kernel
theorem d2_9 : decode method_3_code 9 = .ok (.if_icmp .lt 17, 3) := by decide +kernel
theorem d2_12 : decode method_3_code 12 = .ok (.aload_n 0, 1) := by decide +kernel
theorem d2_13 : decode method_3_code 13 = .ok (.iload_n 1, 1) := by decide +kernel
theorem d2_14 : decode method_3_code 14 = .ok (.baload, 1) := by decide +kernel
theorem d2_15 : decode method_3_code 15 = .ok (.iload 4, 2) := by decide +kernel
theorem d2_17 : decode method_3_code 17 = .ok (.if_icmp .ne 7, 3) := by decide +kernel
theorem d2_20 : decode method_3_code 20 = .ok (.iconst 1, 1) := by decide +kernel
theorem d2_21 : decode method_3_code 21 = .ok (.goto 4, 3) := by decide +kernel
theorem d2_25 : decode method_3_code 25 = .ok (.ireturn, 1) := by decide +kernel
theorem d2_26 : decode method_3_code 26 = .ok (.iconst 1, 1) := by decide +kernel
theorem d2_27 : decode method_3_code 27 = .ok (.ireturn, 1) := by decide +kernel
theorem own_pf2 : plainFor (⟨"org/afterlog/internal/json/JsonStringUtf8PinLaw", "untouched", "([BIIIB)Z"⟩ : MethodName) = true := by first | exact plainFor_of_name (by first | (simp [plainName, overriddenIn, x]; done) | decide +kernel) | decide +kernel
theorem own_pd2 : parseMethodDescriptor "([BIIIB)Z" = some ⟨[(.array .byte), .int, .int, .int, .byte], (some .boolean)⟩ := by decide +kernel
abbrev B3 : Bdy := ("org/afterlog/internal/json/JsonStringUtf8PinLaw", "cont", method_2_code, 1, (some .boolean))
theorem d3_0 : decode method_2_code 0 = .ok (.iload_n 0, 1) := by decide +kernel
theorem d3_1 : decode method_2_code 1 = .ok (.sipush 192, 3) := by decide +kernel
theorem d3_4 : decode method_2_code 4 = .ok (.iand, 1) := by decide +kernel
theorem d3_5 : decode method_2_code 5 = .ok (.sipush 128, 3) := by decide +kernel
theorem d3_8 : decode method_2_code 8 = .ok (.if_icmp .ne 7, 3) := by decide +kernel
theorem d3_11 : decode method_2_code 11 = .ok (.iconst 1, 1) := by decide +kernel
theorem d3_12 : decode method_2_code 12 = .ok (.goto 4, 3) := by decide +kernel
theorem d3_16 : decode method_2_code 16 = .ok (.ireturn, 1) := by decide +kernel
theorem own_pf3 : plainFor (⟨"org/afterlog/internal/json/JsonStringUtf8PinLaw", "cont", "(I)Z"⟩ : MethodName) = true := by first | exact plainFor_of_name (by first | (simp [plainName, overriddenIn, x]; done) | decide +kernel) | decide +kernel
theorem own_pd3 : parseMethodDescriptor "(I)Z" = some ⟨[.int], (some .boolean)⟩ := by decide +kernel
theorem own_cb_12 : (Int8.ofInt (12)).toInt32 = (12 : Int32) := by decide
theorem own_cb_15 : (Int8.ofInt (15)).toInt32 = (15 : Int32) := by decide
theorem own_cb_18 : (Int8.ofInt (18)).toInt32 = (18 : Int32) := by decide
theorem own_cb_31 : (Int8.ofInt (31)).toInt32 = (31 : Int32) := by decide
theorem own_cb_6 : (Int8.ofInt (6)).toInt32 = (6 : Int32) := by decide
theorem own_cb_63 : (Int8.ofInt (63)).toInt32 = (63 : Int32) := by decide
theorem own_cb_7 : (Int8.ofInt (7)).toInt32 = (7 : Int32) := by decide
theorem own_cb_8 : (Int8.ofInt (8)).toInt32 = (8 : Int32) := by decide
theorem own_ci_0 : Int32.ofInt (0) = (0 : Int32) := by decide
theorem own_ci_1 : Int32.ofInt (1) = (1 : Int32) := by decide
theorem own_ci_2 : Int32.ofInt (2) = (2 : Int32) := by decide
theorem own_ci_3 : Int32.ofInt (3) = (3 : Int32) := by decide
theorem own_ci_4 : Int32.ofInt (4) = (4 : Int32) := by decide
theorem own_ci_5 : Int32.ofInt (5) = (5 : Int32) := by decide
theorem own_cs_128 : (Int16.ofInt (128)).toInt32 = (128 : Int32) := by decide
theorem own_cs_192 : (Int16.ofInt (192)).toInt32 = (192 : Int32) := by decide
theorem own_cs_2048 : (Int16.ofInt (2048)).toInt32 = (2048 : Int32) := by decide
theorem own_cs_224 : (Int16.ofInt (224)).toInt32 = (224 : Int32) := by decide
theorem own_cs_240 : (Int16.ofInt (240)).toInt32 = (240 : Int32) := by decide
theorem own_cs_248 : (Int16.ofInt (248)).toInt32 = (248 : Int32) := by decide
theorem own_cs_255 : (Int16.ofInt (255)).toInt32 = (255 : Int32) := by decide
def own_b (x : Int32) : Int32 := x.toInt8.toInt32
theorem own_bb (x : Int32) : (x.toInt8.toInt32).toInt8.toInt32 = own_b x := by simp [own_b]
def own_wr : List Int32 → Nat → List Int32 → List Int32
  | xs, _, [] => xs
  | xs, k, b :: bs => own_wr (xs.set k b) (k + 1) bs
def own_v1 (c : Int32) : List Int32 := [c]
def own_v2 (c : Int32) : List Int32 := [192 ||| (c >>> ((6 : Int32) &&& 31)), 128 ||| (c &&& 63)]
def own_v3 (c : Int32) : List Int32 := [224 ||| (c >>> ((12 : Int32) &&& 31)), 128 ||| ((c >>> ((6 : Int32) &&& 31)) &&& 63), 128 ||| (c &&& 63)]
def own_v4 (c : Int32) : List Int32 := [240 ||| (c >>> ((18 : Int32) &&& 31)), 128 ||| ((c >>> ((12 : Int32) &&& 31)) &&& 63), 128 ||| ((c >>> ((6 : Int32) &&& 31)) &&& 63), 128 ||| (c &&& 63)]
def own_vs (c : Int32) : List Int32 := if c < 128 then own_v1 c else if c < 2048 then own_v2 c else if c < 65536 then own_v3 c else own_v4 c
theorem own_wr_len : ∀ (bs : List Int32) (xs : List Int32) (k : Nat), (own_wr xs k bs).length = xs.length
  | [], _, _ => rfl
  | b :: bs, xs, k => by rw [own_wr, own_wr_len bs]; simp
theorem own_wr_get : ∀ (bs : List Int32) (xs : List Int32) (k j : Nat), j < xs.length → (own_wr xs k bs).getD j 0 = if k ≤ j ∧ j < k + bs.length then bs.getD (j - k) 0 else xs.getD j 0
  | [], xs, k, j, hj => by
    rw [if_neg (by simp)]; rfl
  | b :: bs, xs, k, j, hj => by
    rw [own_wr, own_wr_get bs _ _ _ (by simpa using hj)]
    have e : (xs.set k b).getD j 0 = if k = j then b else xs.getD j 0 := by
      simp only [List.getD_eq_getElem?_getD, List.getElem?_set]
      split
      · rename_i q; subst q; simp [hj]
      · rfl
    rw [e]
    by_cases h1 : k = j
    · subst h1
      rw [if_neg (by omega), if_pos rfl, if_pos (by simp), Nat.sub_self]; rfl
    · by_cases h2 : k + 1 ≤ j ∧ j < k + 1 + bs.length
      · rw [if_pos h2, if_pos (by simp; omega)]
        obtain ⟨m, hm⟩ : ∃ m, j - k = m + 1 := ⟨j - k - 1, by omega⟩
        have hm' : j - (k + 1) = m := by omega
        rw [hm, hm']; rfl
      · rw [if_neg h2, if_neg h1, if_neg (by simp; omega)]
theorem own_c1 (l : Launch) (Z : State) (a0 : Array Value) (hw : ∀ d ∈ tables_1, d.before a0 Z = true) (n0 : Nat) (h : Heap) (a : Addr) (xs : List Int32) (k : Nat) (c : Int32) (Ar : AI Z h a .byte xs) (ha : n0 ≤ a) (hk : k + 4 ≤ xs.length) (hk' : k < 100) :
    W l Z n0 (rmF 0 0 0 0) B1 (RI (fun v h' => v = (k + (own_vs c).length).toInt32 ∧ AI Z h' a .byte (own_wr xs k ((own_vs c).map own_b)))) h 0 0 0 [.val (.ref a), .val (.int k.toInt32), .val (.int c), .unset] [] := by
  have m0 := nat32 (k := k) (by omega)
  have m1 := nat32 (k := k + 1) (by omega)
  have m2 := nat32 (k := k + 2) (by omega)
  have m3 := nat32 (k := k + 3) (by omega)
  refine W.iloadN d1_0 rfl rfl ?_
  refine W.istoreN d1_1 (Put.s (Put.s (Put.s Put.z))) rfl rfl rfl ?_
  refine W.iloadN d1_2 rfl rfl ?_
  refine W.sipush d1_3 own_cs_128 rfl ?_
  refine W.icmp_ge d1_6 (by decide) rfl rfl (fun p => ?_) (fun q => ?_)
  rotate_left
  · have e : own_vs c = own_v1 c := if_pos q
    rw [e]
    refine W.aloadN d1_9 rfl rfl rfl ?_
    refine W.iloadN d1_10 rfl rfl ?_
    refine W.iinc d1_11 rfl own_ci_1 (Put.s (Put.s (Put.s Put.z))) rfl ?_
    refine W.iloadN d1_14 rfl rfl ?_
    refine W.i2b d1_15 rfl ?_
    rw [m0.2.2.2]
    refine W.bastoreB d1_16 Ar m0.2.2.1 (by rw [m0.2.1]; omega) (own_bb _) ha rfl (fun h1 w1 A1 => ?_)
    rw [m0.2.1] at A1
    refine W.goto d1_17 (by decide) rfl ?_
    refine W.iloadN d1_183 rfl rfl ?_
    exact W.ireturn d1_184 rfl ⟨_, rfl, rfl, A1⟩
  refine W.iloadN d1_20 rfl rfl ?_
  refine W.sipush d1_21 own_cs_2048 rfl ?_
  refine W.icmp_ge d1_24 (by decide) rfl rfl (fun p2 => ?_) (fun q2 => ?_)
  rotate_left
  · have e : own_vs c = own_v2 c := (if_neg p).trans (if_pos q2)
    rw [e]
    refine W.aloadN d1_27 rfl rfl rfl ?_
    refine W.iloadN d1_28 rfl rfl ?_
    refine W.iinc d1_29 rfl own_ci_1 (Put.s (Put.s (Put.s Put.z))) rfl ?_
    refine W.sipush d1_32 own_cs_192 rfl ?_
    refine W.iloadN d1_35 rfl rfl ?_
    refine W.bipush d1_36 own_cb_6 rfl ?_
    refine W.ishr d1_38 rfl ?_
    refine W.ior d1_39 rfl ?_
    refine W.i2b d1_40 rfl ?_
    rw [m0.2.2.2]
    refine W.bastoreB d1_41 Ar m0.2.2.1 (by rw [m0.2.1]; omega) (own_bb _) ha rfl (fun h1 w1 A1 => ?_)
    rw [m0.2.1] at A1
    refine W.aloadN d1_42 rfl rfl rfl ?_
    refine W.iloadN d1_43 rfl rfl ?_
    refine W.iinc d1_44 rfl own_ci_1 (Put.s (Put.s (Put.s Put.z))) rfl ?_
    refine W.sipush d1_47 own_cs_128 rfl ?_
    refine W.iloadN d1_50 rfl rfl ?_
    refine W.bipush d1_51 own_cb_63 rfl ?_
    refine W.iand d1_53 rfl ?_
    refine W.ior d1_54 rfl ?_
    refine W.i2b d1_55 rfl ?_
    rw [m1.2.2.2]
    refine W.bastoreB d1_56 A1 m1.2.2.1 (by rw [m1.2.1]; simp; omega) (own_bb _) ha rfl (fun h2 w2 A2 => ?_)
    rw [m1.2.1] at A2
    refine W.goto d1_57 (by decide) rfl ?_
    refine W.iloadN d1_183 rfl rfl ?_
    exact W.ireturn d1_184 rfl ⟨_, rfl, rfl, A2⟩
  refine W.iloadN d1_60 rfl rfl ?_
  refine W.ldc d1_61 (hw _ (List.mem_of_getElem? (i := 16) rfl)) rfl ?_
  refine W.icmp_ge d1_63 (by decide) rfl rfl (fun p3 => ?_) (fun q3 => ?_)
  rotate_left
  · have e : own_vs c = own_v3 c := (if_neg p).trans ((if_neg p2).trans (if_pos q3))
    rw [e]
    refine W.aloadN d1_66 rfl rfl rfl ?_
    refine W.iloadN d1_67 rfl rfl ?_
    refine W.iinc d1_68 rfl own_ci_1 (Put.s (Put.s (Put.s Put.z))) rfl ?_
    refine W.sipush d1_71 own_cs_224 rfl ?_
    refine W.iloadN d1_74 rfl rfl ?_
    refine W.bipush d1_75 own_cb_12 rfl ?_
    refine W.ishr d1_77 rfl ?_
    refine W.ior d1_78 rfl ?_
    refine W.i2b d1_79 rfl ?_
    rw [m0.2.2.2]
    refine W.bastoreB d1_80 Ar m0.2.2.1 (by rw [m0.2.1]; omega) (own_bb _) ha rfl (fun h1 w1 A1 => ?_)
    rw [m0.2.1] at A1
    refine W.aloadN d1_81 rfl rfl rfl ?_
    refine W.iloadN d1_82 rfl rfl ?_
    refine W.iinc d1_83 rfl own_ci_1 (Put.s (Put.s (Put.s Put.z))) rfl ?_
    refine W.sipush d1_86 own_cs_128 rfl ?_
    refine W.iloadN d1_89 rfl rfl ?_
    refine W.bipush d1_90 own_cb_6 rfl ?_
    refine W.ishr d1_92 rfl ?_
    refine W.bipush d1_93 own_cb_63 rfl ?_
    refine W.iand d1_95 rfl ?_
    refine W.ior d1_96 rfl ?_
    refine W.i2b d1_97 rfl ?_
    rw [m1.2.2.2]
    refine W.bastoreB d1_98 A1 m1.2.2.1 (by rw [m1.2.1]; simp; omega) (own_bb _) ha rfl (fun h2 w2 A2 => ?_)
    rw [m1.2.1] at A2
    refine W.aloadN d1_99 rfl rfl rfl ?_
    refine W.iloadN d1_100 rfl rfl ?_
    refine W.iinc d1_101 rfl own_ci_1 (Put.s (Put.s (Put.s Put.z))) rfl ?_
    refine W.sipush d1_104 own_cs_128 rfl ?_
    refine W.iloadN d1_107 rfl rfl ?_
    refine W.bipush d1_108 own_cb_63 rfl ?_
    refine W.iand d1_110 rfl ?_
    refine W.ior d1_111 rfl ?_
    refine W.i2b d1_112 rfl ?_
    rw [m2.2.2.2]
    refine W.bastoreB d1_113 A2 m2.2.2.1 (by rw [m2.2.1]; simp; omega) (own_bb _) ha rfl (fun h3 w3 A3 => ?_)
    rw [m2.2.1] at A3
    refine W.goto d1_114 (by decide) rfl ?_
    refine W.iloadN d1_183 rfl rfl ?_
    exact W.ireturn d1_184 rfl ⟨_, rfl, rfl, A3⟩
  have e : own_vs c = own_v4 c := (if_neg p).trans ((if_neg p2).trans (if_neg p3))
  rw [e]
  refine W.aloadN d1_117 rfl rfl rfl ?_
  refine W.iloadN d1_118 rfl rfl ?_
  refine W.iinc d1_119 rfl own_ci_1 (Put.s (Put.s (Put.s Put.z))) rfl ?_
  refine W.sipush d1_122 own_cs_240 rfl ?_
  refine W.iloadN d1_125 rfl rfl ?_
  refine W.bipush d1_126 own_cb_18 rfl ?_
  refine W.ishr d1_128 rfl ?_
  refine W.ior d1_129 rfl ?_
  refine W.i2b d1_130 rfl ?_
  rw [m0.2.2.2]
  refine W.bastoreB d1_131 Ar m0.2.2.1 (by rw [m0.2.1]; omega) (own_bb _) ha rfl (fun h1 w1 A1 => ?_)
  rw [m0.2.1] at A1
  refine W.aloadN d1_132 rfl rfl rfl ?_
  refine W.iloadN d1_133 rfl rfl ?_
  refine W.iinc d1_134 rfl own_ci_1 (Put.s (Put.s (Put.s Put.z))) rfl ?_
  refine W.sipush d1_137 own_cs_128 rfl ?_
  refine W.iloadN d1_140 rfl rfl ?_
  refine W.bipush d1_141 own_cb_12 rfl ?_
  refine W.ishr d1_143 rfl ?_
  refine W.bipush d1_144 own_cb_63 rfl ?_
  refine W.iand d1_146 rfl ?_
  refine W.ior d1_147 rfl ?_
  refine W.i2b d1_148 rfl ?_
  rw [m1.2.2.2]
  refine W.bastoreB d1_149 A1 m1.2.2.1 (by rw [m1.2.1]; simp; omega) (own_bb _) ha rfl (fun h2 w2 A2 => ?_)
  rw [m1.2.1] at A2
  refine W.aloadN d1_150 rfl rfl rfl ?_
  refine W.iloadN d1_151 rfl rfl ?_
  refine W.iinc d1_152 rfl own_ci_1 (Put.s (Put.s (Put.s Put.z))) rfl ?_
  refine W.sipush d1_155 own_cs_128 rfl ?_
  refine W.iloadN d1_158 rfl rfl ?_
  refine W.bipush d1_159 own_cb_6 rfl ?_
  refine W.ishr d1_161 rfl ?_
  refine W.bipush d1_162 own_cb_63 rfl ?_
  refine W.iand d1_164 rfl ?_
  refine W.ior d1_165 rfl ?_
  refine W.i2b d1_166 rfl ?_
  rw [m2.2.2.2]
  refine W.bastoreB d1_167 A2 m2.2.2.1 (by rw [m2.2.1]; simp; omega) (own_bb _) ha rfl (fun h3 w3 A3 => ?_)
  rw [m2.2.1] at A3
  refine W.aloadN d1_168 rfl rfl rfl ?_
  refine W.iloadN d1_169 rfl rfl ?_
  refine W.iinc d1_170 rfl own_ci_1 (Put.s (Put.s (Put.s Put.z))) rfl ?_
  refine W.sipush d1_173 own_cs_128 rfl ?_
  refine W.iloadN d1_176 rfl rfl ?_
  refine W.bipush d1_177 own_cb_63 rfl ?_
  refine W.iand d1_179 rfl ?_
  refine W.ior d1_180 rfl ?_
  refine W.i2b d1_181 rfl ?_
  rw [m3.2.2.2]
  refine W.bastoreB d1_182 A3 m3.2.2.1 (by rw [m3.2.1]; simp; omega) (own_bb _) ha rfl (fun h4 w4 A4 => ?_)
  rw [m3.2.1] at A4
  refine W.iloadN d1_183 rfl rfl ?_
  exact W.ireturn d1_184 rfl ⟨_, rfl, rfl, A4⟩
theorem own_c3 (l : Launch) (Z : State) (n0 : Nat) (h : Heap) (x : Int32) (hx : x &&& 192 = 128) : W l Z n0 (rmF 0 0 0 0) B3 (RI (fun v h' => v = 1 ∧ h' = h)) h 0 0 0 [.val (.int x)] [] := by
  refine W.iloadN d3_0 rfl rfl ?_
  refine W.sipush d3_1 own_cs_192 rfl ?_
  refine W.iand d3_4 rfl ?_
  refine W.sipush d3_5 own_cs_128 rfl ?_
  refine W.icmp_ne d3_8 (by decide) rfl rfl (fun p => ?_) (fun q => ?_)
  · exact absurd hx p
  refine W.iconst d3_11 own_ci_1 rfl ?_
  refine W.goto d3_12 (by decide) rfl ?_
  exact W.ireturnN d3_16 rfl (Or.inl rfl) rfl ⟨_, rfl, rfl, rfl⟩
theorem own_c2 (l : Launch) (Z : State) (n0 : Nat) (h : Heap) (a : Addr) (xs : List Int32) (i t n f v : Int32) (Ar : AI Z h a .byte xs) (h0 : ¬ i < 0) (hv : xs[i.toNatClampNeg]? = some v) (hf : i < t ∨ ¬ i < t + n → v = f) :
    W l Z n0 (rmF 0 0 0 0) B2 (RI (fun v h' => v = 1 ∧ h' = h)) h 0 0 0 [.val (.ref a), .val (.int i), .val (.int t), .val (.int n), .val (.int f)] [] := by
  have T : v = f → W l Z n0 (rmF 0 0 0 0) B2 (RI (fun v h' => v = 1 ∧ h' = h)) h 0 0 12 [.val (.ref a), .val (.int i), .val (.int t), .val (.int n), .val (.int f)] [] := by
    intro e
    refine W.aloadN d2_12 rfl rfl rfl ?_
    refine W.iloadN d2_13 rfl rfl ?_
    refine W.baloadB d2_14 Ar h0 hv rfl ?_
    refine W.iload d2_15 rfl rfl ?_
    refine W.icmp_ne d2_17 (by decide) rfl rfl (fun p => ?_) (fun q => ?_)
    · exact absurd e p
    refine W.iconst d2_20 own_ci_1 rfl ?_
    refine W.goto d2_21 (by decide) rfl ?_
    exact W.ireturnN d2_25 rfl (Or.inl rfl) rfl ⟨_, rfl, rfl, rfl⟩
  refine W.iloadN d2_0 rfl rfl ?_
  refine W.iloadN d2_1 rfl rfl ?_
  refine W.icmp_lt d2_2 (by decide) rfl rfl (fun p => ?_) (fun q => ?_)
  · exact T (hf (Or.inl p))
  refine W.iloadN d2_5 rfl rfl ?_
  refine W.iloadN d2_6 rfl rfl ?_
  refine W.iloadN d2_7 rfl rfl ?_
  refine W.iadd d2_8 rfl ?_
  refine W.icmp_lt d2_9 (by decide) rfl rfl (fun p2 => ?_) (fun q2 => ?_)
  · refine W.iconst d2_26 own_ci_1 rfl ?_
    exact W.ireturnN d2_27 rfl (Or.inl rfl) rfl ⟨_, rfl, rfl, rfl⟩
  · exact T (hf (Or.inr q2))
theorem own_t430 (l : Launch) (Z : State) (a0 : Array Value) (hw : ∀ d ∈ tables_1, d.before a0 Z = true) (h : Heap) (i0 i1 i2 c f : Int32) (k : Nat) (ys : List Int32) (Ar : AI Z h Z.heap.size .byte ys) (hy : ys.length = 8) (hk : k ≤ 3) (r n z0 z1 z2 z3 : Int32) (hun : ∀ j : Nat, j < 8 → ((j.toInt32 < k.toInt32 ∨ ¬ j.toInt32 < k.toInt32 + n) → ys.getD j 0 = f)) :
    W l Z Z.heap.size room_1 B0 (fun v _ => v = some (.int 1)) h 1 8 430 [.val (.int i0), .val (.int i1), .val (.int i2), .val (.int c), .val (.int k.toInt32), .val (.int f), .val (.ref Z.heap.size), .val (.int r), .val (.int n), .val (.int z0), .val (.int z1), .val (.int z2), .val (.int z3), .val (.int 1)] [] := by
  have hg : ∀ j : Nat, j < 8 → ys[j]? = some (ys.getD j 0) := by
    intro j hj
    rw [List.getD_eq_getElem?_getD, List.getElem?_eq_getElem (by omega)]; rfl
  refine W.iload at_430 rfl rfl ?_
  refine W.ifc_eq at_432 (by decide) rfl rfl (fun p => ?_) (fun q => ?_)
  · exact absurd p (by decide)
  refine W.aload at_435 rfl rfl rfl ?_
  refine W.iconst at_437 own_ci_0 rfl ?_
  refine W.iload at_438 rfl rfl ?_
  refine W.iload at_440 rfl rfl ?_
  refine W.iload at_442 rfl rfl ?_
  refine W.callS_I (B' := B2) (argsL := [_, _, _, _, _]) at_444 (hw _ (List.mem_of_getElem? (i := 8) rfl)) (hw _ (List.mem_of_getElem? (i := 9) rfl)) (hw _ (List.mem_of_getElem? (i := 10) rfl)) (hw _ (List.mem_of_getElem? (i := 11) rfl)) rfl (own_c2 l Z _ _ _ ys 0 _ n f _ Ar (by decide) (hg 0 (by decide)) (hun 0 (by decide))) own_pf2 (by decide) own_pd2 rfl rfl rfl (fun m => by first | (simp [entryFrame, mkF, argsToLocals, Value.category]; done) | rfl) rfl rfl rfl rfl rfl rfl (fun u h' hh => ?_)
  obtain ⟨rfl, rfl⟩ := hh
  refine W.ifc_eq at_447 (by decide) rfl rfl (fun p => ?_) (fun q => ?_)
  · exact absurd p (by decide)
  refine W.aload at_450 rfl rfl rfl ?_
  refine W.iconst at_452 own_ci_1 rfl ?_
  refine W.iload at_453 rfl rfl ?_
  refine W.iload at_455 rfl rfl ?_
  refine W.iload at_457 rfl rfl ?_
  refine W.callS_I (B' := B2) (argsL := [_, _, _, _, _]) at_459 (hw _ (List.mem_of_getElem? (i := 8) rfl)) (hw _ (List.mem_of_getElem? (i := 9) rfl)) (hw _ (List.mem_of_getElem? (i := 10) rfl)) (hw _ (List.mem_of_getElem? (i := 11) rfl)) rfl (own_c2 l Z _ _ _ ys 1 _ n f _ Ar (by decide) (hg 1 (by decide)) (hun 1 (by decide))) own_pf2 (by decide) own_pd2 rfl rfl rfl (fun m => by first | (simp [entryFrame, mkF, argsToLocals, Value.category]; done) | rfl) rfl rfl rfl rfl rfl rfl (fun u h' hh => ?_)
  obtain ⟨rfl, rfl⟩ := hh
  refine W.ifc_eq at_462 (by decide) rfl rfl (fun p => ?_) (fun q => ?_)
  · exact absurd p (by decide)
  refine W.aload at_465 rfl rfl rfl ?_
  refine W.iconst at_467 own_ci_2 rfl ?_
  refine W.iload at_468 rfl rfl ?_
  refine W.iload at_470 rfl rfl ?_
  refine W.iload at_472 rfl rfl ?_
  refine W.callS_I (B' := B2) (argsL := [_, _, _, _, _]) at_474 (hw _ (List.mem_of_getElem? (i := 8) rfl)) (hw _ (List.mem_of_getElem? (i := 9) rfl)) (hw _ (List.mem_of_getElem? (i := 10) rfl)) (hw _ (List.mem_of_getElem? (i := 11) rfl)) rfl (own_c2 l Z _ _ _ ys 2 _ n f _ Ar (by decide) (hg 2 (by decide)) (hun 2 (by decide))) own_pf2 (by decide) own_pd2 rfl rfl rfl (fun m => by first | (simp [entryFrame, mkF, argsToLocals, Value.category]; done) | rfl) rfl rfl rfl rfl rfl rfl (fun u h' hh => ?_)
  obtain ⟨rfl, rfl⟩ := hh
  refine W.ifc_eq at_477 (by decide) rfl rfl (fun p => ?_) (fun q => ?_)
  · exact absurd p (by decide)
  refine W.aload at_480 rfl rfl rfl ?_
  refine W.iconst at_482 own_ci_3 rfl ?_
  refine W.iload at_483 rfl rfl ?_
  refine W.iload at_485 rfl rfl ?_
  refine W.iload at_487 rfl rfl ?_
  refine W.callS_I (B' := B2) (argsL := [_, _, _, _, _]) at_489 (hw _ (List.mem_of_getElem? (i := 8) rfl)) (hw _ (List.mem_of_getElem? (i := 9) rfl)) (hw _ (List.mem_of_getElem? (i := 10) rfl)) (hw _ (List.mem_of_getElem? (i := 11) rfl)) rfl (own_c2 l Z _ _ _ ys 3 _ n f _ Ar (by decide) (hg 3 (by decide)) (hun 3 (by decide))) own_pf2 (by decide) own_pd2 rfl rfl rfl (fun m => by first | (simp [entryFrame, mkF, argsToLocals, Value.category]; done) | rfl) rfl rfl rfl rfl rfl rfl (fun u h' hh => ?_)
  obtain ⟨rfl, rfl⟩ := hh
  refine W.ifc_eq at_492 (by decide) rfl rfl (fun p => ?_) (fun q => ?_)
  · exact absurd p (by decide)
  refine W.aload at_495 rfl rfl rfl ?_
  refine W.iconst at_497 own_ci_4 rfl ?_
  refine W.iload at_498 rfl rfl ?_
  refine W.iload at_500 rfl rfl ?_
  refine W.iload at_502 rfl rfl ?_
  refine W.callS_I (B' := B2) (argsL := [_, _, _, _, _]) at_504 (hw _ (List.mem_of_getElem? (i := 8) rfl)) (hw _ (List.mem_of_getElem? (i := 9) rfl)) (hw _ (List.mem_of_getElem? (i := 10) rfl)) (hw _ (List.mem_of_getElem? (i := 11) rfl)) rfl (own_c2 l Z _ _ _ ys 4 _ n f _ Ar (by decide) (hg 4 (by decide)) (hun 4 (by decide))) own_pf2 (by decide) own_pd2 rfl rfl rfl (fun m => by first | (simp [entryFrame, mkF, argsToLocals, Value.category]; done) | rfl) rfl rfl rfl rfl rfl rfl (fun u h' hh => ?_)
  obtain ⟨rfl, rfl⟩ := hh
  refine W.ifc_eq at_507 (by decide) rfl rfl (fun p => ?_) (fun q => ?_)
  · exact absurd p (by decide)
  refine W.aload at_510 rfl rfl rfl ?_
  refine W.iconst at_512 own_ci_5 rfl ?_
  refine W.iload at_513 rfl rfl ?_
  refine W.iload at_515 rfl rfl ?_
  refine W.iload at_517 rfl rfl ?_
  refine W.callS_I (B' := B2) (argsL := [_, _, _, _, _]) at_519 (hw _ (List.mem_of_getElem? (i := 8) rfl)) (hw _ (List.mem_of_getElem? (i := 9) rfl)) (hw _ (List.mem_of_getElem? (i := 10) rfl)) (hw _ (List.mem_of_getElem? (i := 11) rfl)) rfl (own_c2 l Z _ _ _ ys 5 _ n f _ Ar (by decide) (hg 5 (by decide)) (hun 5 (by decide))) own_pf2 (by decide) own_pd2 rfl rfl rfl (fun m => by first | (simp [entryFrame, mkF, argsToLocals, Value.category]; done) | rfl) rfl rfl rfl rfl rfl rfl (fun u h' hh => ?_)
  obtain ⟨rfl, rfl⟩ := hh
  refine W.ifc_eq at_522 (by decide) rfl rfl (fun p => ?_) (fun q => ?_)
  · exact absurd p (by decide)
  refine W.aload at_525 rfl rfl rfl ?_
  refine W.bipush at_527 own_cb_6 rfl ?_
  refine W.iload at_529 rfl rfl ?_
  refine W.iload at_531 rfl rfl ?_
  refine W.iload at_533 rfl rfl ?_
  refine W.callS_I (B' := B2) (argsL := [_, _, _, _, _]) at_535 (hw _ (List.mem_of_getElem? (i := 8) rfl)) (hw _ (List.mem_of_getElem? (i := 9) rfl)) (hw _ (List.mem_of_getElem? (i := 10) rfl)) (hw _ (List.mem_of_getElem? (i := 11) rfl)) rfl (own_c2 l Z _ _ _ ys 6 _ n f _ Ar (by decide) (hg 6 (by decide)) (hun 6 (by decide))) own_pf2 (by decide) own_pd2 rfl rfl rfl (fun m => by first | (simp [entryFrame, mkF, argsToLocals, Value.category]; done) | rfl) rfl rfl rfl rfl rfl rfl (fun u h' hh => ?_)
  obtain ⟨rfl, rfl⟩ := hh
  refine W.ifc_eq at_538 (by decide) rfl rfl (fun p => ?_) (fun q => ?_)
  · exact absurd p (by decide)
  refine W.aload at_541 rfl rfl rfl ?_
  refine W.bipush at_543 own_cb_7 rfl ?_
  refine W.iload at_545 rfl rfl ?_
  refine W.iload at_547 rfl rfl ?_
  refine W.iload at_549 rfl rfl ?_
  refine W.callS_I (B' := B2) (argsL := [_, _, _, _, _]) at_551 (hw _ (List.mem_of_getElem? (i := 8) rfl)) (hw _ (List.mem_of_getElem? (i := 9) rfl)) (hw _ (List.mem_of_getElem? (i := 10) rfl)) (hw _ (List.mem_of_getElem? (i := 11) rfl)) rfl (own_c2 l Z _ _ _ ys 7 _ n f _ Ar (by decide) (hg 7 (by decide)) (hun 7 (by decide))) own_pf2 (by decide) own_pd2 rfl rfl rfl (fun m => by first | (simp [entryFrame, mkF, argsToLocals, Value.category]; done) | rfl) rfl rfl rfl rfl rfl rfl (fun u h' hh => ?_)
  obtain ⟨rfl, rfl⟩ := hh
  refine W.ifc_eq at_554 (by decide) rfl rfl (fun p => ?_) (fun q => ?_)
  · exact absurd p (by decide)
  refine W.iconst at_557 own_ci_1 rfl ?_
  refine W.goto at_558 (by decide) rfl ?_
  exact W.ireturnN at_562 rfl (Or.inl rfl) rfl rfl
theorem own_u8 (v : Int32) (h0 : 0 ≤ v.toInt) (h1 : v.toInt < 256) : own_b v &&& 255 = v := by
  rw [eq32, maskk _ 255 8 (by decide) (by decide)]
  simp only [own_b, Int8.toInt_toInt32, Int32.toInt_toInt8]
  have := Int.bmod_emod (x := v.toInt) (m := 2 ^ 8)
  omega
theorem own_shr (c : Int32) (h0 : 0 ≤ c.toInt) : (c >>> ((6 : Int32) &&& 31)).toInt = c.toInt / 64 ∧ (c >>> ((12 : Int32) &&& 31)).toInt = c.toInt / 4096 ∧ (c >>> ((18 : Int32) &&& 31)).toInt = c.toInt / 262144 := by
  refine ⟨Jvm.Kit.i32_shr c _ (k := 6) (by decide), Jvm.Kit.i32_shr c _ (k := 12) (by decide), Jvm.Kit.i32_shr c _ (k := 18) (by decide)⟩
theorem own_shl (c : Int32) (h0 : 0 ≤ c.toInt) (h1 : c.toInt < 64) : (c <<< ((6 : Int32) &&& 31)).toInt = c.toInt * 64 ∧ (c <<< ((12 : Int32) &&& 31)).toInt = c.toInt * 4096 ∧ (c <<< ((18 : Int32) &&& 31)).toInt = c.toInt * 262144 := by
  refine ⟨Jvm.Kit.i32_shl c _ (k := 6) (by decide) (by omega) (by omega), Jvm.Kit.i32_shl c _ (k := 12) (by decide) (by omega) (by omega), Jvm.Kit.i32_shl c _ (k := 18) (by decide) (by omega) (by omega)⟩
theorem own_or (a b : Int32) (k : Nat) (q : Nat) (ha : a.toInt = q * 2 ^ k) (hb0 : 0 ≤ b.toInt) (hb : b.toInt < 2 ^ k) (hs : (q : Int) * 2 ^ k + 2 ^ k ≤ 2147483648) : (a ||| b).toInt = a.toInt + b.toInt := by
  have ea : a.toBitVec.toNat = q * 2 ^ k := by
    have h1 : a.toInt = (a.toBitVec.toNat : Int).bmod (2 ^ 32) := BitVec.toInt_eq_toNat_bmod _
    have h2 := a.toBitVec.isLt
    have h3 : (0 : Int) ≤ q * 2 ^ k := Int.mul_nonneg (Int.natCast_nonneg _) (Int.pow_nonneg (by decide))
    have h4 : ((q * 2 ^ k : Nat) : Int) = (q : Int) * 2 ^ k := by simp
    have h5 := Int.bmod_emod (x := (a.toBitVec.toNat : Int)) (m := 2 ^ 32)
    have h6 : (0 : Int) < 2 ^ k := Int.pow_pos (by decide)
    omega
  have eb : (b.toBitVec.toNat : Int) = b.toInt := by
    have h1 : b.toInt = (b.toBitVec.toNat : Int).bmod (2 ^ 32) := BitVec.toInt_eq_toNat_bmod _
    have h2 := b.toBitVec.isLt
    have h5 := Int.bmod_emod (x := (b.toBitVec.toNat : Int)) (m := 2 ^ 32)
    have h3 : (0 : Int) ≤ q * 2 ^ k := Int.mul_nonneg (Int.natCast_nonneg _) (Int.pow_nonneg (by decide))
    omega
  have hbn : b.toBitVec.toNat < 2 ^ k := by
    have : ((2 ^ k : Nat) : Int) = (2 : Int) ^ k := by simp
    omega
  have hor : (a ||| b).toInt = (((a.toBitVec.toNat ||| b.toBitVec.toNat) : Nat) : Int).bmod (2 ^ 32) := by
    have h : (a ||| b).toInt = (a.toBitVec ||| b.toBitVec).toInt := rfl
    rw [h, BitVec.toInt_eq_toNat_bmod, BitVec.toNat_or]
  have hadd : a.toBitVec.toNat ||| b.toBitVec.toNat = q * 2 ^ k + b.toBitVec.toNat := by
    rw [ea, ← Nat.shiftLeft_eq, Nat.shiftLeft_add_eq_or_of_lt hbn]
  have h3 : (0 : Int) ≤ q * 2 ^ k := Int.mul_nonneg (Int.natCast_nonneg _) (Int.pow_nonneg (by decide))
  have h4 : ((q * 2 ^ k : Nat) : Int) = (q : Int) * 2 ^ k := by simp
  rw [hor, hadd, Int.natCast_add, h4, eb, ← ha, Int.bmod_eq_of_le (by omega) (by omega)]
theorem own_lead2 : ∀ j : Fin 32, 0 ≤ (192 ||| j.val.toInt32).toInt ∧ (192 ||| j.val.toInt32).toInt < 256 ∧ (192 ||| j.val.toInt32) &&& 224 = 192 ∧ (192 ||| j.val.toInt32) &&& 31 = j.val.toInt32 := by decide +kernel
theorem own_lead3 : ∀ j : Fin 16, 0 ≤ (224 ||| j.val.toInt32).toInt ∧ (224 ||| j.val.toInt32).toInt < 256 ∧ (224 ||| j.val.toInt32) &&& 240 = 224 ∧ (224 ||| j.val.toInt32) &&& 15 = j.val.toInt32 := by decide +kernel
theorem own_lead4 : ∀ j : Fin 8, 0 ≤ (240 ||| j.val.toInt32).toInt ∧ (240 ||| j.val.toInt32).toInt < 256 ∧ (240 ||| j.val.toInt32) &&& 248 = 240 ∧ (240 ||| j.val.toInt32) &&& 7 = j.val.toInt32 := by decide +kernel
theorem own_trail : ∀ j : Fin 64, 0 ≤ (128 ||| j.val.toInt32).toInt ∧ (128 ||| j.val.toInt32).toInt < 256 ∧ (128 ||| j.val.toInt32) &&& 192 = 128 ∧ (128 ||| j.val.toInt32) &&& 63 = j.val.toInt32 := by decide +kernel
theorem own_fin (m : Nat) (hm : m < 1000) (p : Int32) (h0 : 0 ≤ p.toInt) (h1 : p.toInt < m) : ∃ j : Fin m, p = j.val.toInt32 ∧ (j.val : Int) = p.toInt := by
  refine ⟨⟨p.toInt.toNat, by omega⟩, ?_, by show ((p.toInt.toNat : Nat) : Int) = p.toInt; omega⟩
  rw [eq32, (nat32 (k := p.toInt.toNat) (by omega)).1]
  omega
theorem own_tr (x : Int32) (h0 : 0 ≤ x.toInt) (h1 : x.toInt < 64) : own_b (128 ||| x) &&& 255 = (128 ||| x) ∧ (128 ||| x) &&& 192 = 128 ∧ (128 ||| x) &&& 63 = x := by
  obtain ⟨j, rfl, -⟩ := own_fin 64 (by decide) x h0 h1
  obtain ⟨a1, a2, a3, a4⟩ := own_trail j
  exact ⟨own_u8 _ a1 a2, a3, a4⟩
theorem own_mk (c : Int32) : 0 ≤ (c &&& 63).toInt ∧ (c &&& 63).toInt < 64 ∧ (c &&& 63).toInt = c.toInt % 64 := by
  rw [maskk c 63 6 (by decide) (by decide)]; omega

theorem own_t204_1 (l : Launch) (Z : State) (a0 : Array Value) (hw : ∀ d ∈ tables_1, d.before a0 Z = true) (h : Heap) (i0 i1 i2 c f : Int32) (k : Nat) (ys : List Int32) (Ar : AI Z h Z.heap.size .byte ys) (hy : ys.length = 8) (hk : k ≤ 3) (r z0 z1 z2 z3 : Int32) (hun : ∀ j : Nat, j < 8 → ((j.toInt32 < k.toInt32 ∨ ¬ j.toInt32 < k.toInt32 + 1) → ys.getD j 0 = f)) (hz : z0 = c) :
    W l Z Z.heap.size room_1 B0 (fun v _ => v = some (.int 1)) h 1 8 204 [.val (.int i0), .val (.int i1), .val (.int i2), .val (.int c), .val (.int k.toInt32), .val (.int f), .val (.ref Z.heap.size), .val (.int r), .val (.int 1), .val (.int z0), .val (.int z1), .val (.int z2), .val (.int z3), .unset] [] := by
  refine W.iload at_204 rfl rfl ?_
  refine W.iconst at_206 own_ci_1 rfl ?_
  refine W.icmp_ne at_207 (by decide) rfl rfl (fun p => ?_) (fun q => ?_)
  · exact absurd rfl p
  refine W.iload at_210 rfl rfl ?_
  refine W.iloadN at_212 rfl rfl ?_
  refine W.icmp_ne at_213 (by decide) rfl rfl (fun p => ?_) (fun q => ?_)
  · exact absurd hz p
  refine W.iconst at_216 own_ci_1 rfl ?_
  refine W.goto at_217 (by decide) rfl ?_
  refine W.istore at_221 (Put.s (Put.s (Put.s (Put.s (Put.s (Put.s (Put.s (Put.s (Put.s (Put.s (Put.s (Put.s (Put.s Put.z))))))))))))) rfl rfl rfl ?_
  refine W.goto at_223 (by decide) rfl ?_
  exact own_t430 l Z a0 hw h i0 i1 i2 c f k ys Ar hy hk r 1 z0 z1 z2 z3 hun
theorem own_t204_2 (l : Launch) (Z : State) (a0 : Array Value) (hw : ∀ d ∈ tables_1, d.before a0 Z = true) (h : Heap) (i0 i1 i2 c f : Int32) (k : Nat) (ys : List Int32) (Ar : AI Z h Z.heap.size .byte ys) (hy : ys.length = 8) (hk : k ≤ 3) (r z0 z1 z2 z3 : Int32) (hun : ∀ j : Nat, j < 8 → ((j.toInt32 < k.toInt32 ∨ ¬ j.toInt32 < k.toInt32 + 2) → ys.getD j 0 = f)) (e0 : z0 &&& 224 = 192) (e1 : z1 &&& 192 = 128) (e2 : ((z0 &&& 31) <<< ((6 : Int32) &&& 31)) ||| (z1 &&& 63) = c) :
    W l Z Z.heap.size room_1 B0 (fun v _ => v = some (.int 1)) h 1 8 204 [.val (.int i0), .val (.int i1), .val (.int i2), .val (.int c), .val (.int k.toInt32), .val (.int f), .val (.ref Z.heap.size), .val (.int r), .val (.int 2), .val (.int z0), .val (.int z1), .val (.int z2), .val (.int z3), .unset] [] := by
  refine W.iload at_204 rfl rfl ?_
  refine W.iconst at_206 own_ci_1 rfl ?_
  refine W.icmp_ne at_207 (by decide) rfl rfl (fun p => ?_) (fun q => ?_)
  rotate_left
  · exact absurd q (by decide)
  refine W.iload at_226 rfl rfl ?_
  refine W.iconst at_228 own_ci_2 rfl ?_
  refine W.icmp_ne at_229 (by decide) rfl rfl (fun p => ?_) (fun q => ?_)
  · exact absurd rfl p
  refine W.iload at_232 rfl rfl ?_
  refine W.sipush at_234 own_cs_224 rfl ?_
  refine W.iand at_237 rfl ?_
  refine W.sipush at_238 own_cs_192 rfl ?_
  refine W.icmp_ne at_241 (by decide) rfl rfl (fun p => ?_) (fun q => ?_)
  · exact absurd e0 p
  refine W.iload at_244 rfl rfl ?_
  refine W.callS_I (B' := B3) (argsL := [_]) at_246 (hw _ (List.mem_of_getElem? (i := 12) rfl)) (hw _ (List.mem_of_getElem? (i := 13) rfl)) (hw _ (List.mem_of_getElem? (i := 10) rfl)) (hw _ (List.mem_of_getElem? (i := 14) rfl)) rfl (own_c3 l Z _ _ z1 e1) own_pf3 (by decide) own_pd3 rfl rfl rfl (fun m => by first | (simp [entryFrame, mkF, argsToLocals, Value.category]; done) | rfl) rfl rfl rfl rfl rfl rfl (fun u h' hh => ?_)
  obtain ⟨rfl, rfl⟩ := hh
  refine W.ifc_eq at_249 (by decide) rfl rfl (fun p => ?_) (fun q => ?_)
  · exact absurd p (by decide)
  refine W.iload at_252 rfl rfl ?_
  refine W.bipush at_254 own_cb_31 rfl ?_
  refine W.iand at_256 rfl ?_
  refine W.bipush at_257 own_cb_6 rfl ?_
  refine W.ishl at_259 rfl ?_
  refine W.iload at_260 rfl rfl ?_
  refine W.bipush at_262 own_cb_63 rfl ?_
  refine W.iand at_264 rfl ?_
  refine W.ior at_265 rfl ?_
  refine W.iloadN at_266 rfl rfl ?_
  refine W.icmp_ne at_267 (by decide) rfl rfl (fun p => ?_) (fun q => ?_)
  · exact absurd e2 p
  refine W.iconst at_270 own_ci_1 rfl ?_
  refine W.goto at_271 (by decide) rfl ?_
  refine W.istore at_275 (Put.s (Put.s (Put.s (Put.s (Put.s (Put.s (Put.s (Put.s (Put.s (Put.s (Put.s (Put.s (Put.s Put.z))))))))))))) rfl rfl rfl ?_
  refine W.goto at_277 (by decide) rfl ?_
  exact own_t430 l Z a0 hw _ i0 i1 i2 c f k ys Ar hy hk r 2 z0 z1 z2 z3 hun
theorem own_t204_3 (l : Launch) (Z : State) (a0 : Array Value) (hw : ∀ d ∈ tables_1, d.before a0 Z = true) (h : Heap) (i0 i1 i2 c f : Int32) (k : Nat) (ys : List Int32) (Ar : AI Z h Z.heap.size .byte ys) (hy : ys.length = 8) (hk : k ≤ 3) (r z0 z1 z2 z3 : Int32) (hun : ∀ j : Nat, j < 8 → ((j.toInt32 < k.toInt32 ∨ ¬ j.toInt32 < k.toInt32 + 3) → ys.getD j 0 = f)) (e0 : z0 &&& 240 = 224) (e1 : z1 &&& 192 = 128) (e2 : z2 &&& 192 = 128) (e3 : ((z0 &&& 15) <<< ((12 : Int32) &&& 31)) ||| ((z1 &&& 63) <<< ((6 : Int32) &&& 31)) ||| (z2 &&& 63) = c) :
    W l Z Z.heap.size room_1 B0 (fun v _ => v = some (.int 1)) h 1 8 204 [.val (.int i0), .val (.int i1), .val (.int i2), .val (.int c), .val (.int k.toInt32), .val (.int f), .val (.ref Z.heap.size), .val (.int r), .val (.int 3), .val (.int z0), .val (.int z1), .val (.int z2), .val (.int z3), .unset] [] := by
  refine W.iload at_204 rfl rfl ?_
  refine W.iconst at_206 own_ci_1 rfl ?_
  refine W.icmp_ne at_207 (by decide) rfl rfl (fun p => ?_) (fun q => ?_)
  rotate_left
  · exact absurd q (by decide)
  refine W.iload at_226 rfl rfl ?_
  refine W.iconst at_228 own_ci_2 rfl ?_
  refine W.icmp_ne at_229 (by decide) rfl rfl (fun p => ?_) (fun q => ?_)
  rotate_left
  · exact absurd q (by decide)
  refine W.iload at_280 rfl rfl ?_
  refine W.iconst at_282 own_ci_3 rfl ?_
  refine W.icmp_ne at_283 (by decide) rfl rfl (fun p => ?_) (fun q => ?_)
  · exact absurd rfl p
  refine W.iload at_286 rfl rfl ?_
  refine W.sipush at_288 own_cs_240 rfl ?_
  refine W.iand at_291 rfl ?_
  refine W.sipush at_292 own_cs_224 rfl ?_
  refine W.icmp_ne at_295 (by decide) rfl rfl (fun p => ?_) (fun q => ?_)
  · exact absurd e0 p
  refine W.iload at_298 rfl rfl ?_
  refine W.callS_I (B' := B3) (argsL := [_]) at_300 (hw _ (List.mem_of_getElem? (i := 12) rfl)) (hw _ (List.mem_of_getElem? (i := 13) rfl)) (hw _ (List.mem_of_getElem? (i := 10) rfl)) (hw _ (List.mem_of_getElem? (i := 14) rfl)) rfl (own_c3 l Z _ _ z1 e1) own_pf3 (by decide) own_pd3 rfl rfl rfl (fun m => by first | (simp [entryFrame, mkF, argsToLocals, Value.category]; done) | rfl) rfl rfl rfl rfl rfl rfl (fun u h' hh => ?_)
  obtain ⟨rfl, rfl⟩ := hh
  refine W.ifc_eq at_303 (by decide) rfl rfl (fun p => ?_) (fun q => ?_)
  · exact absurd p (by decide)
  refine W.iload at_306 rfl rfl ?_
  refine W.callS_I (B' := B3) (argsL := [_]) at_308 (hw _ (List.mem_of_getElem? (i := 12) rfl)) (hw _ (List.mem_of_getElem? (i := 13) rfl)) (hw _ (List.mem_of_getElem? (i := 10) rfl)) (hw _ (List.mem_of_getElem? (i := 14) rfl)) rfl (own_c3 l Z _ _ z2 e2) own_pf3 (by decide) own_pd3 rfl rfl rfl (fun m => by first | (simp [entryFrame, mkF, argsToLocals, Value.category]; done) | rfl) rfl rfl rfl rfl rfl rfl (fun u h' hh => ?_)
  obtain ⟨rfl, rfl⟩ := hh
  refine W.ifc_eq at_311 (by decide) rfl rfl (fun p => ?_) (fun q => ?_)
  · exact absurd p (by decide)
  refine W.iload at_314 rfl rfl ?_
  refine W.bipush at_316 own_cb_15 rfl ?_
  refine W.iand at_318 rfl ?_
  refine W.bipush at_319 own_cb_12 rfl ?_
  refine W.ishl at_321 rfl ?_
  refine W.iload at_322 rfl rfl ?_
  refine W.bipush at_324 own_cb_63 rfl ?_
  refine W.iand at_326 rfl ?_
  refine W.bipush at_327 own_cb_6 rfl ?_
  refine W.ishl at_329 rfl ?_
  refine W.ior at_330 rfl ?_
  refine W.iload at_331 rfl rfl ?_
  refine W.bipush at_333 own_cb_63 rfl ?_
  refine W.iand at_335 rfl ?_
  refine W.ior at_336 rfl ?_
  refine W.iloadN at_337 rfl rfl ?_
  refine W.icmp_ne at_338 (by decide) rfl rfl (fun p => ?_) (fun q => ?_)
  · exact absurd e3 p
  refine W.iconst at_341 own_ci_1 rfl ?_
  refine W.goto at_342 (by decide) rfl ?_
  refine W.istore at_346 (Put.s (Put.s (Put.s (Put.s (Put.s (Put.s (Put.s (Put.s (Put.s (Put.s (Put.s (Put.s (Put.s Put.z))))))))))))) rfl rfl rfl ?_
  refine W.goto at_348 (by decide) rfl ?_
  exact own_t430 l Z a0 hw _ i0 i1 i2 c f k ys Ar hy hk r 3 z0 z1 z2 z3 hun
theorem own_t204_4 (l : Launch) (Z : State) (a0 : Array Value) (hw : ∀ d ∈ tables_1, d.before a0 Z = true) (h : Heap) (i0 i1 i2 c f : Int32) (k : Nat) (ys : List Int32) (Ar : AI Z h Z.heap.size .byte ys) (hy : ys.length = 8) (hk : k ≤ 3) (r z0 z1 z2 z3 : Int32) (hun : ∀ j : Nat, j < 8 → ((j.toInt32 < k.toInt32 ∨ ¬ j.toInt32 < k.toInt32 + 4) → ys.getD j 0 = f)) (e0 : z0 &&& 248 = 240) (e1 : z1 &&& 192 = 128) (e2 : z2 &&& 192 = 128) (e3 : z3 &&& 192 = 128) (e4 : ((z0 &&& 7) <<< ((18 : Int32) &&& 31)) ||| ((z1 &&& 63) <<< ((12 : Int32) &&& 31)) ||| ((z2 &&& 63) <<< ((6 : Int32) &&& 31)) ||| (z3 &&& 63) = c) :
    W l Z Z.heap.size room_1 B0 (fun v _ => v = some (.int 1)) h 1 8 204 [.val (.int i0), .val (.int i1), .val (.int i2), .val (.int c), .val (.int k.toInt32), .val (.int f), .val (.ref Z.heap.size), .val (.int r), .val (.int 4), .val (.int z0), .val (.int z1), .val (.int z2), .val (.int z3), .unset] [] := by
  refine W.iload at_204 rfl rfl ?_
  refine W.iconst at_206 own_ci_1 rfl ?_
  refine W.icmp_ne at_207 (by decide) rfl rfl (fun p => ?_) (fun q => ?_)
  rotate_left
  · exact absurd q (by decide)
  refine W.iload at_226 rfl rfl ?_
  refine W.iconst at_228 own_ci_2 rfl ?_
  refine W.icmp_ne at_229 (by decide) rfl rfl (fun p => ?_) (fun q => ?_)
  rotate_left
  · exact absurd q (by decide)
  refine W.iload at_280 rfl rfl ?_
  refine W.iconst at_282 own_ci_3 rfl ?_
  refine W.icmp_ne at_283 (by decide) rfl rfl (fun p => ?_) (fun q => ?_)
  rotate_left
  · exact absurd q (by decide)
  refine W.iload at_351 rfl rfl ?_
  refine W.sipush at_353 own_cs_248 rfl ?_
  refine W.iand at_356 rfl ?_
  refine W.sipush at_357 own_cs_240 rfl ?_
  refine W.icmp_ne at_360 (by decide) rfl rfl (fun p => ?_) (fun q => ?_)
  · exact absurd e0 p
  refine W.iload at_363 rfl rfl ?_
  refine W.callS_I (B' := B3) (argsL := [_]) at_365 (hw _ (List.mem_of_getElem? (i := 12) rfl)) (hw _ (List.mem_of_getElem? (i := 13) rfl)) (hw _ (List.mem_of_getElem? (i := 10) rfl)) (hw _ (List.mem_of_getElem? (i := 14) rfl)) rfl (own_c3 l Z _ _ z1 e1) own_pf3 (by decide) own_pd3 rfl rfl rfl (fun m => by first | (simp [entryFrame, mkF, argsToLocals, Value.category]; done) | rfl) rfl rfl rfl rfl rfl rfl (fun u h' hh => ?_)
  obtain ⟨rfl, rfl⟩ := hh
  refine W.ifc_eq at_368 (by decide) rfl rfl (fun p => ?_) (fun q => ?_)
  · exact absurd p (by decide)
  refine W.iload at_371 rfl rfl ?_
  refine W.callS_I (B' := B3) (argsL := [_]) at_373 (hw _ (List.mem_of_getElem? (i := 12) rfl)) (hw _ (List.mem_of_getElem? (i := 13) rfl)) (hw _ (List.mem_of_getElem? (i := 10) rfl)) (hw _ (List.mem_of_getElem? (i := 14) rfl)) rfl (own_c3 l Z _ _ z2 e2) own_pf3 (by decide) own_pd3 rfl rfl rfl (fun m => by first | (simp [entryFrame, mkF, argsToLocals, Value.category]; done) | rfl) rfl rfl rfl rfl rfl rfl (fun u h' hh => ?_)
  obtain ⟨rfl, rfl⟩ := hh
  refine W.ifc_eq at_376 (by decide) rfl rfl (fun p => ?_) (fun q => ?_)
  · exact absurd p (by decide)
  refine W.iload at_379 rfl rfl ?_
  refine W.callS_I (B' := B3) (argsL := [_]) at_381 (hw _ (List.mem_of_getElem? (i := 12) rfl)) (hw _ (List.mem_of_getElem? (i := 13) rfl)) (hw _ (List.mem_of_getElem? (i := 10) rfl)) (hw _ (List.mem_of_getElem? (i := 14) rfl)) rfl (own_c3 l Z _ _ z3 e3) own_pf3 (by decide) own_pd3 rfl rfl rfl (fun m => by first | (simp [entryFrame, mkF, argsToLocals, Value.category]; done) | rfl) rfl rfl rfl rfl rfl rfl (fun u h' hh => ?_)
  obtain ⟨rfl, rfl⟩ := hh
  refine W.ifc_eq at_384 (by decide) rfl rfl (fun p => ?_) (fun q => ?_)
  · exact absurd p (by decide)
  refine W.iload at_387 rfl rfl ?_
  refine W.bipush at_389 own_cb_7 rfl ?_
  refine W.iand at_391 rfl ?_
  refine W.bipush at_392 own_cb_18 rfl ?_
  refine W.ishl at_394 rfl ?_
  refine W.iload at_395 rfl rfl ?_
  refine W.bipush at_397 own_cb_63 rfl ?_
  refine W.iand at_399 rfl ?_
  refine W.bipush at_400 own_cb_12 rfl ?_
  refine W.ishl at_402 rfl ?_
  refine W.ior at_403 rfl ?_
  refine W.iload at_404 rfl rfl ?_
  refine W.bipush at_406 own_cb_63 rfl ?_
  refine W.iand at_408 rfl ?_
  refine W.bipush at_409 own_cb_6 rfl ?_
  refine W.ishl at_411 rfl ?_
  refine W.ior at_412 rfl ?_
  refine W.iload at_413 rfl rfl ?_
  refine W.bipush at_415 own_cb_63 rfl ?_
  refine W.iand at_417 rfl ?_
  refine W.ior at_418 rfl ?_
  refine W.iloadN at_419 rfl rfl ?_
  refine W.icmp_ne at_420 (by decide) rfl rfl (fun p => ?_) (fun q => ?_)
  · exact absurd e4 p
  refine W.iconst at_423 own_ci_1 rfl ?_
  refine W.goto at_424 (by decide) rfl ?_
  refine W.istore at_428 (Put.s (Put.s (Put.s (Put.s (Put.s (Put.s (Put.s (Put.s (Put.s (Put.s (Put.s (Put.s (Put.s Put.z))))))))))))) rfl rfl rfl ?_
  exact own_t430 l Z a0 hw _ i0 i1 i2 c f k ys Ar hy hk r 4 z0 z1 z2 z3 hun
theorem own_t142 (l : Launch) (Z : State) (a0 : Array Value) (hw : ∀ d ∈ tables_1, d.before a0 Z = true) (h : Heap) (i0 i1 i2 c f : Int32) (k : Nat) (ys : List Int32) (Ar : AI Z h Z.heap.size .byte ys) (hy : ys.length = 8) (hk : k ≤ 3) (n : Nat) (hn : n ≤ 4) (K : ∀ z0 z1 z2 z3 : Int32, z0 = ys.getD k 0 &&& 255 → z1 = ys.getD (k + 1) 0 &&& 255 → z2 = ys.getD (k + 2) 0 &&& 255 → z3 = ys.getD (k + 3) 0 &&& 255 → W l Z Z.heap.size room_1 B0 (fun v _ => v = some (.int 1)) h 1 8 204 [.val (.int i0), .val (.int i1), .val (.int i2), .val (.int c), .val (.int k.toInt32), .val (.int f), .val (.ref Z.heap.size), .val (.int (k + n).toInt32), .val (.int n.toInt32), .val (.int z0), .val (.int z1), .val (.int z2), .val (.int z3), .unset] []) :
    W l Z Z.heap.size room_1 B0 (fun v _ => v = some (.int 1)) h 1 8 142 [.val (.int i0), .val (.int i1), .val (.int i2), .val (.int c), .val (.int k.toInt32), .val (.int f), .val (.ref Z.heap.size), .val (.int (k + n).toInt32), .val (.int n.toInt32), .unset, .unset, .unset, .unset, .unset] [] := by
  have m0 := nat32 (k := k) (by omega)
  have m1 := nat32 (k := k + 1) (by omega)
  have m2 := nat32 (k := k + 2) (by omega)
  have hg : ∀ j : Nat, j < 8 → ys[j]? = some (ys.getD j 0) := by
    intro j hj
    rw [List.getD_eq_getElem?_getD, List.getElem?_eq_getElem (by omega)]; rfl
  have a2 : k.toInt32 + 2 = (k + 2).toInt32 := by show Int32.ofNat k + Int32.ofNat 2 = Int32.ofNat (k + 2); rw [Int32.ofNat_add]
  have a3 : k.toInt32 + 3 = (k + 3).toInt32 := by show Int32.ofNat k + Int32.ofNat 3 = Int32.ofNat (k + 3); rw [Int32.ofNat_add]
  have an : k.toInt32 + n.toInt32 = (k + n).toInt32 := by show Int32.ofNat k + Int32.ofNat n = Int32.ofNat (k + n); rw [Int32.ofNat_add]
  have m3 := nat32 (k := k + 3) (by omega)
  refine W.iload at_142 rfl rfl ?_
  refine W.iload at_144 rfl rfl ?_
  refine W.iload at_146 rfl rfl ?_
  refine W.iadd at_148 rfl ?_
  rw [an]
  refine W.icmp_eq at_149 (by decide) rfl rfl (fun p => ?_) (fun q => ?_)
  rotate_left
  · exact absurd rfl q
  refine W.aload at_154 rfl rfl rfl ?_
  refine W.iload at_156 rfl rfl ?_
  refine W.baloadB at_158 Ar m0.2.2.1 (by rw [m0.2.1]; exact hg k (by omega)) rfl ?_
  refine W.sipush at_159 own_cs_255 rfl ?_
  refine W.iand at_162 rfl ?_
  refine W.istore at_163 (Put.s (Put.s (Put.s (Put.s (Put.s (Put.s (Put.s (Put.s (Put.s Put.z))))))))) rfl rfl rfl ?_
  refine W.aload at_165 rfl rfl rfl ?_
  refine W.iload at_167 rfl rfl ?_
  refine W.iconst at_169 own_ci_1 rfl ?_
  refine W.iadd at_170 rfl ?_
  rw [m0.2.2.2]
  refine W.baloadB at_171 Ar m1.2.2.1 (by rw [m1.2.1]; exact hg (k + 1) (by omega)) rfl ?_
  refine W.sipush at_172 own_cs_255 rfl ?_
  refine W.iand at_175 rfl ?_
  refine W.istore at_176 (Put.s (Put.s (Put.s (Put.s (Put.s (Put.s (Put.s (Put.s (Put.s (Put.s Put.z)))))))))) rfl rfl rfl ?_
  refine W.aload at_178 rfl rfl rfl ?_
  refine W.iload at_180 rfl rfl ?_
  refine W.iconst at_182 own_ci_2 rfl ?_
  refine W.iadd at_183 rfl ?_
  rw [a2]
  refine W.baloadB at_184 Ar m2.2.2.1 (by rw [m2.2.1]; exact hg (k + 2) (by omega)) rfl ?_
  refine W.sipush at_185 own_cs_255 rfl ?_
  refine W.iand at_188 rfl ?_
  refine W.istore at_189 (Put.s (Put.s (Put.s (Put.s (Put.s (Put.s (Put.s (Put.s (Put.s (Put.s (Put.s Put.z))))))))))) rfl rfl rfl ?_
  refine W.aload at_191 rfl rfl rfl ?_
  refine W.iload at_193 rfl rfl ?_
  refine W.iconst at_195 own_ci_3 rfl ?_
  refine W.iadd at_196 rfl ?_
  rw [a3]
  refine W.baloadB at_197 Ar m3.2.2.1 (by rw [m3.2.1]; exact hg (k + 3) (by omega)) rfl ?_
  refine W.sipush at_198 own_cs_255 rfl ?_
  refine W.iand at_201 rfl ?_
  refine W.istore at_202 (Put.s (Put.s (Put.s (Put.s (Put.s (Put.s (Put.s (Put.s (Put.s (Put.s (Put.s (Put.s Put.z)))))))))))) rfl rfl rfl ?_
  exact K _ _ _ _ rfl rfl rfl rfl
theorem own_t99 (l : Launch) (Z : State) (a0 : Array Value) (hw : ∀ d ∈ tables_1, d.before a0 Z = true) (h : Heap) (i0 i1 i2 c f : Int32) (k : Nat) (hk : k ≤ 3) (hc0 : 0 ≤ c.toInt) (hc1 : c.toInt < 1114112) (Ar : AI Z h Z.heap.size .byte (own_wr [f, f, f, f, f, f, f, f] k ((own_vs c).map own_b))) :
    W l Z Z.heap.size room_1 B0 (fun v _ => v = some (.int 1)) h 1 8 99 [.val (.int i0), .val (.int i1), .val (.int i2), .val (.int c), .val (.int k.toInt32), .val (.int f), .val (.ref Z.heap.size), .unset, .unset, .unset, .unset, .unset, .unset, .unset] [.int (k + (own_vs c).length).toInt32] := by
  have k1 : (128 : Int32).toInt = 128 := by decide
  have k2 : (2048 : Int32).toInt = 2048 := by decide
  have k3 : (65536 : Int32).toInt = 65536 := by decide
  have sh := own_shr c hc0
  have mc := own_mk c
  have m6 := own_mk (c >>> ((6 : Int32) &&& 31))
  have m12 := own_mk (c >>> ((12 : Int32) &&& 31))
  have m0 := nat32 (k := k) (by omega)
  have hy : ∀ bs : List Int32, (own_wr [f, f, f, f, f, f, f, f] k bs).length = 8 := fun bs => own_wr_len _ _ _
  have hrd : ∀ (bs : List Int32) (i : Nat), i < bs.length → k + i < 8 → (own_wr [f, f, f, f, f, f, f, f] k bs).getD (k + i) 0 = bs.getD i 0 := by
    intro bs i h1 h2
    rw [own_wr_get _ _ _ _ (by simpa using h2), if_pos (by omega), Nat.add_sub_cancel_left]
  have hun : ∀ (bs : List Int32), bs.length ≤ 4 → ∀ (n : Int32), n.toInt = bs.length → ∀ j : Nat, j < 8 → ((j.toInt32 < k.toInt32 ∨ ¬ j.toInt32 < k.toInt32 + n) → (own_wr [f, f, f, f, f, f, f, f] k bs).getD j 0 = f) := by
    intro bs hb n hn j hj hx
    have mj := nat32 (k := j) (by omega)
    have hs := add32 (x := k.toInt32) (y := n) (by rw [m0.1]; omega) (by rw [m0.1]; omega)
    rw [lt32, lt32, mj.1, hs, m0.1] at hx
    rw [own_wr_get _ _ _ _ (by simpa using hj), if_neg (by omega)]
    rcases (by omega : j = 0 ∨ j = 1 ∨ j = 2 ∨ j = 3 ∨ j = 4 ∨ j = 5 ∨ j = 6 ∨ j = 7) with rfl | rfl | rfl | rfl | rfl | rfl | rfl | rfl <;> rfl
  refine W.istore at_99 (Put.s (Put.s (Put.s (Put.s (Put.s (Put.s (Put.s Put.z))))))) rfl rfl rfl ?_
  refine W.iloadN at_101 rfl rfl ?_
  refine W.sipush at_102 own_cs_128 rfl ?_
  refine W.icmp_ge at_105 (by decide) rfl rfl (fun p => ?_) (fun q => ?_)
  rotate_left
  · have e : own_vs c = own_v1 c := if_pos q
    rw [lt32, k1] at q
    rw [e] at Ar ⊢
    refine W.iconst at_108 own_ci_1 rfl ?_
    refine W.istore at_109 (Put.s (Put.s (Put.s (Put.s (Put.s (Put.s (Put.s (Put.s Put.z)))))))) rfl rfl rfl ?_
    refine W.goto at_111 (by decide) rfl ?_
    refine own_t142 l Z a0 hw h i0 i1 i2 c f k _ Ar (hy _) hk 1 (by decide) (fun z0 z1 z2 z3 q0 q1 q2 q3 => ?_)
    refine own_t204_1 l Z a0 hw h i0 i1 i2 c f k _ Ar (hy _) hk _ z0 z1 z2 z3 (hun _ (leb rfl) 1 rfl) ?_
    rw [q0]
    have := hrd ((own_v1 c).map own_b) 0 (ltb rfl) (by omega)
    rw [Nat.add_zero] at this
    rw [this]
    exact own_u8 c hc0 (by omega)
  refine W.iloadN at_114 rfl rfl ?_
  refine W.sipush at_115 own_cs_2048 rfl ?_
  refine W.icmp_ge at_118 (by decide) rfl rfl (fun p2 => ?_) (fun q2 => ?_)
  rotate_left
  · have e : own_vs c = own_v2 c := (if_neg p).trans (if_pos q2)
    rw [lt32, k1] at p
    rw [lt32, k2] at q2
    rw [e] at Ar ⊢
    refine W.iconst at_121 own_ci_2 rfl ?_
    refine W.istore at_122 (Put.s (Put.s (Put.s (Put.s (Put.s (Put.s (Put.s (Put.s Put.z)))))))) rfl rfl rfl ?_
    refine W.goto at_124 (by decide) rfl ?_
    refine own_t142 l Z a0 hw h i0 i1 i2 c f k _ Ar (hy _) hk 2 (by decide) (fun z0 z1 z2 z3 q0 q1 q2' q3 => ?_)
    obtain ⟨j, ej, ej'⟩ := own_fin 32 (by decide) (c >>> ((6 : Int32) &&& 31)) (by omega) (by omega)
    obtain ⟨b1, b2, b3, b4⟩ := own_lead2 j
    rw [← ej] at b1 b2 b3 b4
    have t1 := own_tr (c &&& 63) mc.1 mc.2.1
    have z0e : z0 = 192 ||| (c >>> ((6 : Int32) &&& 31)) := by
      have := hrd ((own_v2 c).map own_b) 0 (ltb rfl) (by omega)
      rw [Nat.add_zero] at this
      rw [q0, this]; exact own_u8 _ b1 b2
    have z1e : z1 = 128 ||| (c &&& 63) := by rw [q1, hrd ((own_v2 c).map own_b) 1 (ltb rfl) (by omega)]; exact t1.1
    refine own_t204_2 l Z a0 hw h i0 i1 i2 c f k _ Ar (hy _) hk _ z0 z1 z2 z3 (hun _ (leb rfl) 2 rfl) (by rw [z0e]; exact b3) (by rw [z1e]; exact t1.2.1) ?_
    rw [z0e, z1e, b4, t1.2.2, eq32]
    have s1 := own_shl (c >>> ((6 : Int32) &&& 31)) (by omega) (by omega)
    rw [own_or _ _ 6 (c.toInt / 64).toNat (by rw [s1.1]; omega) mc.1 (by omega) (by omega), s1.1]
    omega
  refine W.iloadN at_127 rfl rfl ?_
  refine W.ldc at_128 (hw _ (List.mem_of_getElem? (i := 17) rfl)) rfl ?_
  refine W.icmp_ge at_130 (by decide) rfl rfl (fun p3 => ?_) (fun q3 => ?_)
  rotate_left
  · have e : own_vs c = own_v3 c := (if_neg p).trans ((if_neg p2).trans (if_pos q3))
    rw [lt32, k3] at q3
    rw [e] at Ar ⊢
    refine W.iconst at_133 own_ci_3 rfl ?_
    refine W.istore at_134 (Put.s (Put.s (Put.s (Put.s (Put.s (Put.s (Put.s (Put.s Put.z)))))))) rfl rfl rfl ?_
    refine W.goto at_136 (by decide) rfl ?_
    refine own_t142 l Z a0 hw h i0 i1 i2 c f k _ Ar (hy _) hk 3 (by decide) (fun z0 z1 z2 z3 q0 q1 q2' q3' => ?_)
    obtain ⟨j, ej, ej'⟩ := own_fin 16 (by decide) (c >>> ((12 : Int32) &&& 31)) (by omega) (by omega)
    obtain ⟨b1, b2, b3, b4⟩ := own_lead3 j
    rw [← ej] at b1 b2 b3 b4
    have t1 := own_tr ((c >>> ((6 : Int32) &&& 31)) &&& 63) m6.1 m6.2.1
    have t2 := own_tr (c &&& 63) mc.1 mc.2.1
    have z0e : z0 = 224 ||| (c >>> ((12 : Int32) &&& 31)) := by
      have := hrd ((own_v3 c).map own_b) 0 (ltb rfl) (by omega)
      rw [Nat.add_zero] at this
      rw [q0, this]; exact own_u8 _ b1 b2
    have z1e : z1 = 128 ||| ((c >>> ((6 : Int32) &&& 31)) &&& 63) := by rw [q1, hrd ((own_v3 c).map own_b) 1 (ltb rfl) (by omega)]; exact t1.1
    have z2e : z2 = 128 ||| (c &&& 63) := by rw [q2', hrd ((own_v3 c).map own_b) 2 (ltb rfl) (by omega)]; exact t2.1
    refine own_t204_3 l Z a0 hw h i0 i1 i2 c f k _ Ar (hy _) hk _ z0 z1 z2 z3 (hun _ (leb rfl) 3 rfl) (by rw [z0e]; exact b3) (by rw [z1e]; exact t1.2.1) (by rw [z2e]; exact t2.2.1) ?_
    rw [z0e, z1e, z2e, b4, t1.2.2, t2.2.2, eq32]
    have s0 := own_shl (c >>> ((12 : Int32) &&& 31)) (by omega) (by omega)
    have s1 := own_shl ((c >>> ((6 : Int32) &&& 31)) &&& 63) m6.1 m6.2.1
    have o1 := own_or ((c >>> ((12 : Int32) &&& 31)) <<< ((12 : Int32) &&& 31)) (((c >>> ((6 : Int32) &&& 31)) &&& 63) <<< ((6 : Int32) &&& 31)) 12 (c.toInt / 4096).toNat (by rw [s0.2.1]; omega) (by rw [s1.1]; omega) (by rw [s1.1]; omega) (by omega)
    rw [s0.2.1, s1.1] at o1
    rw [own_or _ _ 6 (c.toInt / 64).toNat (by rw [o1]; omega) mc.1 (by omega) (by omega), o1]
    omega
  have e : own_vs c = own_v4 c := (if_neg p).trans ((if_neg p2).trans (if_neg p3))
  rw [e] at Ar ⊢
  refine W.iconst at_139 own_ci_4 rfl ?_
  refine W.istore at_140 (Put.s (Put.s (Put.s (Put.s (Put.s (Put.s (Put.s (Put.s Put.z)))))))) rfl rfl rfl ?_
  refine own_t142 l Z a0 hw h i0 i1 i2 c f k _ Ar (hy _) hk 4 (by decide) (fun z0 z1 z2 z3 q0 q1 q2' q3' => ?_)
  obtain ⟨j, ej, ej'⟩ := own_fin 8 (by decide) (c >>> ((18 : Int32) &&& 31)) (by omega) (by omega)
  obtain ⟨b1, b2, b3, b4⟩ := own_lead4 j
  rw [← ej] at b1 b2 b3 b4
  have t1 := own_tr ((c >>> ((12 : Int32) &&& 31)) &&& 63) m12.1 m12.2.1
  have t2 := own_tr ((c >>> ((6 : Int32) &&& 31)) &&& 63) m6.1 m6.2.1
  have t3 := own_tr (c &&& 63) mc.1 mc.2.1
  have z0e : z0 = 240 ||| (c >>> ((18 : Int32) &&& 31)) := by
    have := hrd ((own_v4 c).map own_b) 0 (ltb rfl) (by omega)
    rw [Nat.add_zero] at this
    rw [q0, this]; exact own_u8 _ b1 b2
  have z1e : z1 = 128 ||| ((c >>> ((12 : Int32) &&& 31)) &&& 63) := by rw [q1, hrd ((own_v4 c).map own_b) 1 (ltb rfl) (by omega)]; exact t1.1
  have z2e : z2 = 128 ||| ((c >>> ((6 : Int32) &&& 31)) &&& 63) := by rw [q2', hrd ((own_v4 c).map own_b) 2 (ltb rfl) (by omega)]; exact t2.1
  have z3e : z3 = 128 ||| (c &&& 63) := by rw [q3', hrd ((own_v4 c).map own_b) 3 (ltb rfl) (by omega)]; exact t3.1
  refine own_t204_4 l Z a0 hw h i0 i1 i2 c f k _ Ar (hy _) hk _ z0 z1 z2 z3 (hun _ (leb rfl) 4 rfl) (by rw [z0e]; exact b3) (by rw [z1e]; exact t1.2.1) (by rw [z2e]; exact t2.2.1) (by rw [z3e]; exact t3.2.1) ?_
  rw [z0e, z1e, z2e, z3e, b4, t1.2.2, t2.2.2, t3.2.2, eq32]
  have s0 := own_shl (c >>> ((18 : Int32) &&& 31)) (by omega) (by omega)
  have s1 := own_shl ((c >>> ((12 : Int32) &&& 31)) &&& 63) m12.1 m12.2.1
  have s2 := own_shl ((c >>> ((6 : Int32) &&& 31)) &&& 63) m6.1 m6.2.1
  have o1 := own_or ((c >>> ((18 : Int32) &&& 31)) <<< ((18 : Int32) &&& 31)) (((c >>> ((12 : Int32) &&& 31)) &&& 63) <<< ((12 : Int32) &&& 31)) 18 (c.toInt / 262144).toNat (by rw [s0.2.2]; omega) (by rw [s1.2.1]; omega) (by rw [s1.2.1]; omega) (by omega)
  rw [s0.2.2, s1.2.1] at o1
  have o2 := own_or ((c >>> ((18 : Int32) &&& 31)) <<< ((18 : Int32) &&& 31) ||| ((c >>> ((12 : Int32) &&& 31)) &&& 63) <<< ((12 : Int32) &&& 31)) (((c >>> ((6 : Int32) &&& 31)) &&& 63) <<< ((6 : Int32) &&& 31)) 12 (c.toInt / 4096).toNat (by rw [o1]; omega) (by rw [s2.1]; omega) (by rw [s2.1]; omega) (by omega)
  rw [o1, s2.1] at o2
  rw [own_or _ _ 6 (c.toInt / 64).toNat (by rw [o2]; omega) mc.1 (by omega) (by omega), o2]
  omega
theorem own_t26 (l : Launch) (Z : State) (a0 : Array Value) (hw : ∀ d ∈ tables_1, d.before a0 Z = true) (i0 i1 i2 c : Int32) (hc0 : 0 ≤ c.toInt) (hc1 : c.toInt < 1114112) :
    W l Z Z.heap.size room_1 B0 (fun v _ => v = some (.int 1)) Z.heap 0 0 26 [.val (.int i0), .val (.int i1), .val (.int i2), .val (.int c), .unset, .unset, .unset, .unset, .unset, .unset, .unset, .unset, .unset, .unset] [] := by
  refine W.iloadN at_26 rfl rfl ?_
  refine W.iconst at_27 own_ci_3 rfl ?_
  refine W.iand at_28 rfl ?_
  refine W.istore at_29 (Put.s (Put.s (Put.s (Put.s Put.z)))) rfl rfl rfl ?_
  refine W.iloadN at_31 rfl rfl ?_
  refine W.i2b at_32 rfl ?_
  refine W.istore at_33 (Put.s (Put.s (Put.s (Put.s (Put.s Put.z))))) rfl rfl rfl ?_
  refine W.bipush at_35 own_cb_8 rfl ?_
  have hm := maskk i1 3 2 (by decide) (by decide)
  obtain ⟨j, ej, -⟩ := own_fin 4 (by decide) (i1 &&& 3) (by omega) (by omega)
  rw [ej]
  have hf := own_bb i2
  generalize hfe : i2.toInt8.toInt32 = f at *
  have hf : f.toInt8.toInt32 = f := by rw [hf, own_b, hfe]
  refine W.newarrayI (ty := .byte) (cap := 8) at_37 rfl rfl (hw _ (List.mem_of_getElem? (i := 3) rfl)) (by decide) (by decide) (by decide) (by decide) (by decide) rfl (fun h0 E0 A0 => ?_)
  have A0 : AI Z h0 Z.heap.size .byte [0, 0, 0, 0, 0, 0, 0, 0] := A0
  refine W.astore at_39 rfl (Put.s (Put.s (Put.s (Put.s (Put.s (Put.s Put.z)))))) rfl rfl rfl ?_
  refine W.aload at_41 rfl rfl rfl ?_
  refine W.iconst at_43 own_ci_0 rfl ?_
  refine W.iload at_44 rfl rfl ?_
  refine W.bastoreB at_46 A0 (by decide) (ltb rfl) hf (Nat.le_refl _) rfl (fun g0 w0 A0 => ?_)
  have A0 : AI Z g0 Z.heap.size .byte [f, 0, 0, 0, 0, 0, 0, 0] := A0
  refine W.aload at_47 rfl rfl rfl ?_
  refine W.iconst at_49 own_ci_1 rfl ?_
  refine W.iload at_50 rfl rfl ?_
  refine W.bastoreB at_52 A0 (by decide) (ltb rfl) hf (Nat.le_refl _) rfl (fun g1 w1 A0 => ?_)
  have A0 : AI Z g1 Z.heap.size .byte [f, f, 0, 0, 0, 0, 0, 0] := A0
  refine W.aload at_53 rfl rfl rfl ?_
  refine W.iconst at_55 own_ci_2 rfl ?_
  refine W.iload at_56 rfl rfl ?_
  refine W.bastoreB at_58 A0 (by decide) (ltb rfl) hf (Nat.le_refl _) rfl (fun g2 w2 A0 => ?_)
  have A0 : AI Z g2 Z.heap.size .byte [f, f, f, 0, 0, 0, 0, 0] := A0
  refine W.aload at_59 rfl rfl rfl ?_
  refine W.iconst at_61 own_ci_3 rfl ?_
  refine W.iload at_62 rfl rfl ?_
  refine W.bastoreB at_64 A0 (by decide) (ltb rfl) hf (Nat.le_refl _) rfl (fun g3 w3 A0 => ?_)
  have A0 : AI Z g3 Z.heap.size .byte [f, f, f, f, 0, 0, 0, 0] := A0
  refine W.aload at_65 rfl rfl rfl ?_
  refine W.iconst at_67 own_ci_4 rfl ?_
  refine W.iload at_68 rfl rfl ?_
  refine W.bastoreB at_70 A0 (by decide) (ltb rfl) hf (Nat.le_refl _) rfl (fun g4 w4 A0 => ?_)
  have A0 : AI Z g4 Z.heap.size .byte [f, f, f, f, f, 0, 0, 0] := A0
  refine W.aload at_71 rfl rfl rfl ?_
  refine W.iconst at_73 own_ci_5 rfl ?_
  refine W.iload at_74 rfl rfl ?_
  refine W.bastoreB at_76 A0 (by decide) (ltb rfl) hf (Nat.le_refl _) rfl (fun g5 w5 A0 => ?_)
  have A0 : AI Z g5 Z.heap.size .byte [f, f, f, f, f, f, 0, 0] := A0
  refine W.aload at_77 rfl rfl rfl ?_
  refine W.bipush at_79 own_cb_6 rfl ?_
  refine W.iload at_81 rfl rfl ?_
  refine W.bastoreB at_83 A0 (by decide) (ltb rfl) hf (Nat.le_refl _) rfl (fun g6 w6 A0 => ?_)
  have A0 : AI Z g6 Z.heap.size .byte [f, f, f, f, f, f, f, 0] := A0
  refine W.aload at_84 rfl rfl rfl ?_
  refine W.bipush at_86 own_cb_7 rfl ?_
  refine W.iload at_88 rfl rfl ?_
  refine W.bastoreB at_90 A0 (by decide) (ltb rfl) hf (Nat.le_refl _) rfl (fun g7 w7 A0 => ?_)
  have A0 : AI Z g7 Z.heap.size .byte [f, f, f, f, f, f, f, f] := A0
  refine W.aload at_91 rfl rfl rfl ?_
  refine W.iload at_93 rfl rfl ?_
  refine W.iloadN at_95 rfl rfl ?_
  refine W.callS_I (B' := B1) (argsL := [_, _, _]) at_96 (hw _ (List.mem_of_getElem? (i := 4) rfl)) (hw _ (List.mem_of_getElem? (i := 5) rfl)) (hw _ (List.mem_of_getElem? (i := 6) rfl)) (hw _ (List.mem_of_getElem? (i := 7) rfl)) rfl (own_c1 l Z a0 hw _ _ _ _ j.val c A0 (Nat.le_refl _) (by show j.val + 4 ≤ 8; omega) (by omega)) own_pf1 (by decide) own_pd1 rfl rfl rfl (fun m => by first | (simp [entryFrame, mkF, argsToLocals, Value.category]; done) | rfl) rfl rfl rfl rfl rfl rfl (fun u h1 hh => ?_)
  obtain ⟨rfl, A1⟩ := hh
  exact own_t99 l Z a0 hw h1 i0 i1 i2 c f j.val (by omega) hc0 hc1 A1
theorem own_law (l : Launch) (Z : State) (a0 : Array Value) (hw : ∀ d ∈ tables_1, d.before a0 Z = true) (i0 i1 i2 : Int32) : W l Z Z.heap.size room_1 B0 (fun v _ => v = some (.int 1)) Z.heap 0 0 0 [.val (.int i0), .val (.int i1), .val (.int i2), .unset, .unset, .unset, .unset, .unset, .unset, .unset, .unset, .unset, .unset, .unset] [] := by
  have n1 : (1114112 : Int32).toInt = 1114112 := by decide
  have n2 : (55296 : Int32).toInt = 55296 := by decide
  have n3 : (57343 : Int32).toInt = 57343 := by decide
  have n4 : (2048 : Int32).toInt = 2048 := by decide
  refine W.iloadN at_0 rfl rfl ?_
  refine W.ldc at_1 (hw _ (List.mem_of_getElem? (i := 0) rfl)) rfl ?_
  refine W.iand at_3 rfl ?_
  refine W.ldc at_4 (hw _ (List.mem_of_getElem? (i := 1) rfl)) rfl ?_
  refine W.irem at_6 (by decide) rfl ?_
  refine W.istoreN at_7 (Put.s (Put.s (Put.s Put.z))) rfl rfl rfl ?_
  refine W.iloadN at_8 rfl rfl ?_
  refine W.ldc at_9 (hw _ (List.mem_of_getElem? (i := 2) rfl)) rfl ?_
  have hr := rem31 i0 1114112 (by decide)
  generalize (i0 &&& 2147483647) % 1114112 = r at *
  refine W.icmp_lt at_11 (by decide) rfl rfl (fun p => ?_) (fun q => ?_)
  · exact own_t26 l Z a0 hw i0 i1 i2 r hr.1 (by omega)
  refine W.iloadN at_14 rfl rfl ?_
  refine W.ldc at_15 (hw _ (List.mem_of_getElem? (i := 15) rfl)) rfl ?_
  refine W.icmp_gt at_17 (by decide) rfl rfl (fun p2 => ?_) (fun q2 => ?_)
  · exact own_t26 l Z a0 hw i0 i1 i2 r hr.1 (by omega)
  refine W.iloadN at_20 rfl rfl ?_
  refine W.sipush at_21 own_cs_2048 rfl ?_
  refine W.iadd at_24 rfl ?_
  refine W.istoreN at_25 (Put.s (Put.s (Put.s Put.z))) rfl rfl rfl ?_
  rw [lt32] at q q2
  have hs := add32 (x := r) (y := 2048) (by omega) (by omega)
  exact own_t26 l Z a0 hw i0 i1 i2 (r + 2048) (by omega) (by omega)
theorem own_ef0 (m : MethodId) (i0 : Int32) (i1 : Int32) (i2 : Int32) : entryFrame m #[.int i0, .int i1, .int i2] maxLocals = mkF m 0 #[.val (.int i0), .val (.int i1), .val (.int i2), .unset, .unset, .unset, .unset, .unset, .unset, .unset, .unset, .unset, .unset, .unset] [] := by first | (simp [entryFrame, mkF, argsToLocals, Value.category, maxLocals]; done) | rfl
theorem comes_1 {Post : Tables → Env → Array Value → State → Outcome → State → Prop} (hpost : ∀ tb e args s v u, (limb_1_1.after args s (.returned v) u = true ∧ limb_1_2.after args s (.returned v) u = true ∧ True) → FrameEnd s (.returned v) u (Jvm.fieldLocs frame_1_writes args s ++ Jvm.arrayLocs frame_1_arrays args s ++ Jvm.staticLocs frame_1_statics s) 16 128 → Post tb e args s (.returned v) u) :
    ArmFor flags0 classFile x code maxLocals ret World_1 tables_1 room_1 Calls_1 rest_1 Pre_1 Post := by
  intro l hfl _ _ p e ha hc hk s m args below hf hA hF happ hP
  obtain ⟨hcalls, hrest, hpre⟩ := hP
  obtain ⟨-, -, -, hnamed, -, -, -, hat⟩ := (Spec.applies_iff hf).mp happ
  obtain ⟨hg, hn⟩ := and_e (Cond.before_iff.mp (show (Jvm.Cond.and given_1 narrow_1).before args s = true from hpre))
  obtain ⟨g0, t0⟩ := and_e hg
  obtain ⟨k0, t1⟩ := and_e t0
  obtain ⟨k1, t2⟩ := and_e t1
  obtain ⟨w0, w1, w2, rfl⟩ : ∃ w0 w1 w2 : Value, args = #[w0, w1, w2] := by
    have hs : args.size = 3 := by simpa [Cond.value, given_1] using g0
    obtain ⟨L⟩ := args
    match L, hs with
    | [w0, w1, w2], _ => exact ⟨w0, w1, w2, rfl⟩
  have hw := fun d (hd : d ∈ tables_1) => atoms_spec (ws := Jvm.Cond.code x code maxLocals ret :: tables_1) hat d (List.mem_cons_of_mem _ hd)
  obtain ⟨i0, e0⟩ := is_v k0
  obtain rfl : w0 = (.int i0) := Option.some.inj e0
  obtain ⟨i1, e1⟩ := is_v k1
  obtain rfl : w1 = (.int i1) := Option.some.inj e1
  obtain ⟨i2, e2⟩ := is_v t2
  obtain rfl : w2 = (.int i2) := Option.some.inj e2
  obtain ⟨n, o, h1, h2, h3, _, L, rfl, ⟨rfl, N⟩, hq⟩ := met_of (ws := tables_1) (y := x) (B' := B0) (as' := #[.int i0, .int i1, .int i2]) own_pf0 rfl rfl (fun m => own_ef0 m i0 i1 i2) (own_law l s _ hw i0 i1 i2) p e ha hc hk s m _ below hf ((Spec.applies_iff_loose hf).mp happ).1 ⟨rfl, State.Warmed39.refl s, rfl⟩ trivial
  refine ⟨n, _, h1, h2, h3, hpost _ _ _ _ _ _ ⟨Cond.after_iff.mpr rfl, Cond.after_iff.mpr (eq_i res_at (Term.int_eval (1)) rfl), trivial⟩ ⟨hq.1, hq.2.1, (hq.2.2.sift fun y hy => Or.inr (N y hy)).mono (by decide) (by decide)⟩⟩
theorem main_1_1 : Claimed_1_1 := comes_1 fun _ _ _ _ _ _ h hF => ⟨h.1, hF⟩
theorem main_1_2 : Claimed_1_2 := comes_1 fun _ _ _ _ _ _ h hF => ⟨h.2.1, hF⟩
end Jvm.Pilot.@@N@@
namespace Jvm.Pilot.@@N@@
open Jvm Jvm.ClassFile Sem Op Lib Jvm.Free Jvm.Stand Jvm.Pilot.@@N@@.Jvm.D
/-! MADE BY PROGRAM (witnessworld.py) out of the Statement's table words and the real class files: 9 classes; the members and pool entries that the words name. The judged class is class 1, her method 3. -/
namespace start1
open Jvm.ClassFile
def u (s : String) : CpInfo := .utf8 (stringToUtf16 s)
/-- a pool by its gaps: so many unusable entries, then the entry; so many at the end -/
def gap : Nat → List CpInfo → List CpInfo
  | 0, r => r
  | n + 1, r => .unusable :: gap n r
def poolList (es : List (Nat × CpInfo)) (last : Nat) : List CpInfo := es.foldr (fun e r => gap e.1 (e.2 :: r)) (gap last [])
def pool (es : List (Nat × CpInfo)) (last : Nat) : Array CpInfo := ⟨poolList es last⟩
def fileOf (pool : Array CpInfo) (this : Nat) (attrs : Array Attribute := #[]) (ms : Array MethodInfo := #[]) (fl : Nat := 33) (sup : Nat := 0) (ifs : Array Nat := #[]) (fds : Array FieldInfo := #[]) : ClassFile where
  minorVersion := 0
  majorVersion := 65
  constantPool := pool
  accessFlags := fl
  thisClass := this
  superClass := sup
  interfaces := ifs
  fields := fds
  methods := ms
  attributes := attrs
def plain (name : String) (sup : Option ClassId) : Class where
  name := name
  kind := .ordinary
  loader := none
  accessFlags := 33
  super := sup
  interfaces := #[]
  cf := none
  fields := #[]
  methods := #[]
  instanceTypes := #[]
  staticTypes := #[]
  resolved := #[]
  callSites := []
  init := .initialized
  statics := none
  mirror := none

def pool0 : Array CpInfo := pool [(5, u "<init>"), (0, u "()V"), (1, .class_ 10), (1, u "java/lang/Object")] 113

def k0m0 : Method := { name := "<init>", desc := "()V", sig := { parameters := [], returnType := none }, accessFlags := 1, code := none }
/-- java/lang/Object -/
def k0 : Class := { plain "java/lang/Object" none with
  accessFlags := 33
  interfaces := #[]
  cf := some (fileOf pool0 8 #[] #[{ accessFlags := 1, nameIndex := 5, descriptorIndex := 6, attributes := #[] }] 33 0 #[] #[])
  fields := #[]
  methods := #[k0m0]
  instanceTypes := #[]
  staticTypes := #[]
  resolved := Array.replicate 124 none
  statics := none }

def pool1 : Array CpInfo := pool [(2, .class_ 4), (1, u "java/lang/Object"), (0, u "<init>"), (0, u "()V"), (0, .integer 2147483647), (0, .integer 1114112), (0, .integer 55296), (0, .integer 57343), (0, .methodref 12 13), (0, .class_ 14), (0, .nameAndType 15 16), (0, u "org/afterlog/internal/json/JsonString"), (0, u "utf8"), (0, u "([BII)I"), (0, .integer 65536), (0, .methodref 19 20), (0, .class_ 21), (0, .nameAndType 22 23), (0, u "org/afterlog/internal/json/JsonStringUtf8PinLaw"), (0, u "cont"), (0, u "(I)Z"), (0, .methodref 19 25), (0, .nameAndType 26 27), (0, u "untouched"), (0, u "([BIIIB)Z"), (3, u "law"), (0, u "(III)Z")] 4

def k1m0 : Method := { name := "<init>", desc := "()V", sig := { parameters := [], returnType := none }, accessFlags := 1, code := none }
def k1c1 : Code := { maxStack := 2, maxLocals := 1, code := method_2_code, exceptionTable := #[], attributes := #[] }
def k1m1 : Method := { name := "cont", desc := "(I)Z", sig := { parameters := [.int], returnType := some .boolean }, accessFlags := 10, code := some k1c1 }
def k1c2 : Code := { maxStack := 3, maxLocals := 5, code := method_3_code, exceptionTable := #[], attributes := #[] }
def k1m2 : Method := { name := "untouched", desc := "([BIIIB)Z", sig := { parameters := [(.array .byte), .int, .int, .int, .byte], returnType := some .boolean }, accessFlags := 10, code := some k1c2 }
def k1c3 : Code := { maxStack := 5, maxLocals := 14, code := code, exceptionTable := #[], attributes := #[] }
def k1m3 : Method := { name := "law", desc := "(III)Z", sig := { parameters := [.int, .int, .int], returnType := some .boolean }, accessFlags := 9, code := some k1c3 }
/-- org/afterlog/internal/json/JsonStringUtf8PinLaw -/
def k1 : Class := { plain "org/afterlog/internal/json/JsonStringUtf8PinLaw" (some 0) with
  accessFlags := 49
  interfaces := #[]
  cf := some (fileOf pool1 19 #[] #[{ accessFlags := 1, nameIndex := 5, descriptorIndex := 6, attributes := #[] }, { accessFlags := 10, nameIndex := 22, descriptorIndex := 23, attributes := #[] }, { accessFlags := 10, nameIndex := 26, descriptorIndex := 27, attributes := #[] }, { accessFlags := 9, nameIndex := 31, descriptorIndex := 32, attributes := #[] }] 49 2 #[] #[])
  fields := #[]
  methods := #[k1m0, k1m1, k1m2, k1m3]
  instanceTypes := #[]
  staticTypes := #[]
  resolved := Array.replicate 37 none
  statics := none }

def pool2 : Array CpInfo := pool [(2, .class_ 4), (1, u "java/lang/Object"), (0, u "<init>"), (0, u "()V"), (17, .class_ 26), (1, u "org/afterlog/internal/json/JsonString"), (21, u "utf8"), (0, u "([BII)I"), (0, .integer 65536), (20, u "ESCAPES"), (0, u "[Ljava/lang/String;"), (2, u "HEX"), (0, u "[C")] 54

def k2m0 : Method := { name := "<init>", desc := "()V", sig := { parameters := [], returnType := none }, accessFlags := 2, code := none }
def k2c1 : Code := { maxStack := 5, maxLocals := 4, code := prog_66_method_4_code, exceptionTable := #[], attributes := #[] }
def k2m1 : Method := { name := "utf8", desc := "([BII)I", sig := { parameters := [(.array .byte), .int, .int], returnType := some .int }, accessFlags := 8, code := some k2c1 }
/-- org/afterlog/internal/json/JsonString -/
def k2 : Class := { plain "org/afterlog/internal/json/JsonString" (some 0) with
  accessFlags := 49
  interfaces := #[]
  cf := some (fileOf pool2 24 #[] #[{ accessFlags := 2, nameIndex := 5, descriptorIndex := 6, attributes := #[] }, { accessFlags := 8, nameIndex := 48, descriptorIndex := 49, attributes := #[] }] 49 2 #[] #[{ accessFlags := 26, nameIndex := 75, descriptorIndex := 76, attributes := #[] }, { accessFlags := 26, nameIndex := 71, descriptorIndex := 72, attributes := #[] }])
  fields := #[{ name := "HEX", type := (.array .char), accessFlags := 26, slot := 0, constantValue := 0 }, { name := "ESCAPES", type := (.array (.object "java/lang/String")), accessFlags := 26, slot := 1, constantValue := 0 }]
  methods := #[k2m0, k2m1]
  instanceTypes := #[]
  staticTypes := #[(.array .char), (.array (.object "java/lang/String"))]
  resolved := Array.replicate 131 none
  statics := none }

def pool3 : Array CpInfo := pool [(1, u "java/lang/Cloneable"), (0, .class_ 1), (0, u "java/lang/Object"), (0, .class_ 3)] 3

/-- java/lang/Cloneable -/
def k3 : Class := { plain "java/lang/Cloneable" (some 0) with
  accessFlags := 1537
  interfaces := #[]
  cf := some (fileOf pool3 2 #[] #[] 1537 4 #[] #[])
  fields := #[]
  methods := #[]
  instanceTypes := #[]
  staticTypes := #[]
  resolved := Array.replicate 8 none
  statics := none }

def pool4 : Array CpInfo := pool [(1, u "java/io/Serializable"), (0, .class_ 1), (0, u "java/lang/Object"), (0, .class_ 3)] 3

/-- java/io/Serializable -/
def k4 : Class := { plain "java/io/Serializable" (some 0) with
  accessFlags := 1537
  interfaces := #[]
  cf := some (fileOf pool4 2 #[] #[] 1537 4 #[] #[])
  fields := #[]
  methods := #[]
  instanceTypes := #[]
  staticTypes := #[]
  resolved := Array.replicate 8 none
  statics := none }

/-- the primitive byte -/
def k5 : Class := { plain "byte" none with kind := .primitive 'B', accessFlags := 0x411 }
/-- [B -/
def k6 : Class := { plain "[B" (some 0) with kind := .array 5 .byte, interfaces := #[3, 4], accessFlags := 1041 }

/-- the primitive int -/
def k7 : Class := { plain "int" none with kind := .primitive 'I', accessFlags := 0x411 }
/-- [I -/
def k8 : Class := { plain "[I" (some 0) with kind := .array 7 .int, interfaces := #[3, 4], accessFlags := 1041 }

def heap : Heap := #[]
def classes : Array Class := #[k0, k1, k2, k3, k4, k5, k6, k7, k8]
def interned : List (Array UInt16 × Addr) := []
def slotsUsed : Nat := 0
def theMethod : MethodId := ⟨1, 3⟩
def args0 : Array Value := #[.int 5, .int 6, .int 7]
def aboutOver (below : List Frame) : State where
  vm := { classes := classes, interned := interned.toArray }
  heap := heap
  slotsUsed := slotsUsed
  threads := #[{ frames := .invoking theMethod args0 :: below }]
def below0 : List Frame := [.native { method := ⟨0, 0⟩, args := #[] }]
def about1 : State := aboutOver below0
def p0 : Program := .bare "" "" ""
def e0 : Env := launch0.env 0 0 0
theorem w_frames : about1.frames = Frame.invoking theMethod args0 :: below0 := rfl
set_option maxRecDepth 65536 in
theorem w_args : argsFit about1.vm theMethod args0 = true := by decide +kernel
set_option maxRecDepth 65536 in
theorem w_heap : heapFits about1 = true := by decide +kernel
set_option maxRecDepth 65536 in
theorem w_runnable : about1.curStatus? = some .runnable := by decide +kernel
set_option maxRecDepth 65536 in
theorem w_alone : about1.alone = true := by decide +kernel
set_option maxRecDepth 65536 in
theorem w_named : about1.methodNamed? x = some theMethod := by decide +kernel
set_option maxRecDepth 65536 in
theorem w_hears : about1.hears theMethod below0 = true := by decide +kernel
set_option maxRecDepth 65536 in
theorem w_ripe : about1.ripe theMethod args0 below0 = true := by decide +kernel
theorem w_running : about1.status = .running := rfl
set_option maxRecDepth 65536 in
theorem w_room : about1.hasRoom e0.platform room_1 = true :=
  launch0.hasRoom_least _ room_1 (by decide +kernel) (by decide +kernel) (by decide +kernel) (by decide +kernel) (by decide +kernel) (by decide +kernel)
theorem allAtoms_all (ts : List Jvm.Cond) (a : Array Jvm.Value) (st : Jvm.State) : (allAtoms ts).before a st = ts.all (fun c => c.before a st) := by
  induction ts with
  | nil => rfl
  | cons c t ih =>
    show (Jvm.Cond.and c (allAtoms t)).before a st = _
    rw [Jvm.Cond.before_and, ih, List.all_cons]
def words1 : List Jvm.Cond := Jvm.Cond.code x code maxLocals ret :: tables_1
/-- a 'code' word, met by the world's own term for the bytes: nothing is compared byte by byte -/
theorem code_word {y : MethodName} {bytes : ByteArray} {mx : Nat} {rt : Option FieldType} {a : Array Value} {s : State} {m : MethodId} {meth : Method} {c : Code} (h1 : s.methodNamed? y = some m) (h2 : s.vm.method? m = some meth) (h3 : meth.code = some c) (h4 : c.code = bytes)
    (h5 : (c.maxLocals == mx && c.exceptionTable.isEmpty && decide (c.maxStack ≤ mostOperands) && decide (meth.sig.returnType = rt) && !meth.locks && decide (parseMethodDescriptor y.desc = some meth.sig)) = true) : (Jvm.Cond.code y bytes mx rt).before a s = true := by
  simp only [Bool.and_eq_true, beq_iff_eq, Bool.not_eq_true', decide_eq_true_eq] at h5
  obtain ⟨⟨⟨⟨⟨g1, g2⟩, g3⟩, g4⟩, g5⟩, g6⟩ := h5
  simp [Cond.before, Cond.holds, Cond.value, h1, h2, h3, h4, g1, g2, g3, g4, g5, g6]
def isCode : Jvm.Cond → Bool
  | .code _ _ _ _ => true
  | _ => false
theorem all_split {L : List Jvm.Cond} {P : Jvm.Cond → Bool} (h1 : L.all (fun c => isCode c || P c) = true) (h2 : ∀ c ∈ L.filter isCode, P c = true) : L.all P = true := by
  refine List.all_eq_true.mpr fun c hc => ?_
  have h := List.all_eq_true.mp h1 c hc
  rcases Bool.eq_false_or_eq_true (isCode c) with hi | hi
  · exact h2 c (List.mem_filter.mpr ⟨hc, hi⟩)
  · simpa [hi] using h
set_option maxRecDepth 65536 in
theorem w_c0 : (Jvm.Cond.code x code maxLocals ret).before args0 about1 = true := code_word (m := ⟨1, 3⟩) (meth := k1m3) (c := k1c3) (by decide +kernel) rfl rfl rfl (by decide +kernel)
set_option maxRecDepth 65536 in
theorem w_c1 : (Jvm.Cond.code ({ cls := "org/afterlog/internal/json/JsonString", name := "utf8", desc := "([BII)I" } : Jvm.MethodName) prog_66_method_4_code (4 : Nat) (Option.some Jvm.ClassFile.FieldType.int)).before args0 about1 = true := code_word (m := ⟨2, 1⟩) (meth := k2m1) (c := k2c1) (by decide +kernel) rfl rfl rfl (by decide +kernel)
set_option maxRecDepth 65536 in
theorem w_c2 : (Jvm.Cond.code ({ cls := "org/afterlog/internal/json/JsonStringUtf8PinLaw", name := "untouched", desc := "([BIIIB)Z" } : Jvm.MethodName) method_3_code (5 : Nat) (Option.some Jvm.ClassFile.FieldType.boolean)).before args0 about1 = true := code_word (m := ⟨1, 2⟩) (meth := k1m2) (c := k1c2) (by decide +kernel) rfl rfl rfl (by decide +kernel)
set_option maxRecDepth 65536 in
theorem w_c3 : (Jvm.Cond.code ({ cls := "org/afterlog/internal/json/JsonStringUtf8PinLaw", name := "cont", desc := "(I)Z" } : Jvm.MethodName) method_2_code (1 : Nat) (Option.some Jvm.ClassFile.FieldType.boolean)).before args0 about1 = true := code_word (m := ⟨1, 1⟩) (meth := k1m1) (c := k1c1) (by decide +kernel) rfl rfl rfl (by decide +kernel)
def codes1 : List Jvm.Cond := [Jvm.Cond.code x code maxLocals ret, Jvm.Cond.code ({ cls := "org/afterlog/internal/json/JsonString", name := "utf8", desc := "([BII)I" } : Jvm.MethodName) prog_66_method_4_code (4 : Nat) (Option.some Jvm.ClassFile.FieldType.int), Jvm.Cond.code ({ cls := "org/afterlog/internal/json/JsonStringUtf8PinLaw", name := "untouched", desc := "([BIIIB)Z" } : Jvm.MethodName) method_3_code (5 : Nat) (Option.some Jvm.ClassFile.FieldType.boolean), Jvm.Cond.code ({ cls := "org/afterlog/internal/json/JsonStringUtf8PinLaw", name := "cont", desc := "(I)Z" } : Jvm.MethodName) method_2_code (1 : Nat) (Option.some Jvm.ClassFile.FieldType.boolean)]
set_option maxRecDepth 65536 in
theorem codes_eq : words1.filter isCode = codes1 := rfl
theorem w_codes : ∀ c ∈ words1.filter isCode, c.before args0 about1 = true := by
  rw [codes_eq]
  intro c hc
  simp only [codes1, List.mem_cons, List.not_mem_nil, or_false] at hc
  rcases hc with rfl | rfl | rfl | rfl
  · exact w_c0
  · exact w_c1
  · exact w_c2
  · exact w_c3
set_option maxRecDepth 65536 in
theorem w_t1 : words1.all (fun c => isCode c || c.before args0 about1) = true := by decide +kernel
theorem w_tables : (allAtoms (Jvm.Cond.code x code maxLocals ret :: tables_1)).before args0 about1 = true := by
  rw [allAtoms_all]
  show words1.all (fun c => c.before args0 about1) = true
  refine all_split ?_ w_codes
  rw [w_t1]
set_option maxRecDepth 65536 in
theorem w_case : (Jvm.Cond.and given_1 narrow_1).before args0 about1 = true := by decide +kernel
theorem w_applies : (headSpec (Jvm.Cond.code x code maxLocals ret :: tables_1) room_1).applies x e0.platform about1 = true :=
  (Spec.applies_iff w_frames).mpr ⟨w_running, w_runnable, w_alone, w_named, w_hears, w_ripe, w_room, w_tables⟩
theorem atStart : AtStart classFile x code maxLocals ret World_1 tables_1 room_1 Calls_1 rest_1 Pre_1 launch0 p0 e0 about1 theMethod args0 below0 :=
  ⟨lists_1, trivial, launch0.admits_env _ _ _, launch0.least_env, fairChoices_fair.cas, fairChoices_fair.clock, w_frames, w_args, w_heap, w_applies, trivial, trivial, w_case⟩
end start1
theorem witness_1 : WitnessClaimed_1 := ⟨start1.p0, start1.e0, start1.about1, start1.theMethod, start1.args0, start1.below0, start1.atStart⟩
end Jvm.Pilot.@@N@@
