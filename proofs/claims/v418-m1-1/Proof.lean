import JvmDerived
import JvmDerived.Pilot.@@N@@Statement
import JvmDerived.Pilot.@@N@@Code
set_option linter.unusedVariables false
set_option linter.unusedSimpArgs false
namespace Jvm.OwnW
open Sem ClassFile Op Lib Jvm.Stand Jvm.Free Jvm.LawKit Jvm.RoadKit
/-- a body: its class, name, bytes, locals, return kind -/
abbrev Bdy : Type := String × String × ByteArray × Nat × Option FieldType
abbrev Bdy.own (B : Bdy) : String := B.1
abbrev Bdy.nm (B : Bdy) : String := B.2.1
abbrev Bdy.bytes (B : Bdy) : ByteArray := B.2.2.1
abbrev Bdy.ml (B : Bdy) : Nat := B.2.2.2.1
abbrev Bdy.ret (B : Bdy) : Option FieldType := B.2.2.2.2
/-- what stays through one invocation -/
def Ctx (p : Program) (s : State) (m : MethodId) (meth : Method) (c : Code) (Z : State) (B : Bdy) : Prop :=
  p.tables.exec = Jvm.exec ∧ c.code = B.bytes ∧ c.maxLocals = B.ml ∧ Z.Warmed39 s.vm ∧ s.vm.findClass B.own = some m.cls ∧ meth.sig.returnType = B.ret ∧ meth.locks = false ∧ meth.name = B.nm
/-- FROM HERE THE INVOCATION RETURNS, AND Q: whatever the rest of the state is -/
def W (l : Launch) (Z : State) (n0 : Nat) (R : Room) (B : Bdy) (Q : Option Value → Heap → Prop) (h : Heap) (cells slots : Nat) (pc : Nat) (Ls : List Slot) (St : List Value) : Prop :=
  ∀ (p : Program) (e : Env) (s : State) (m : MethodId) (args : Array Value) (below : List Frame) (meth : Method) (c : Code) (T : State) (locs : List Loc),
    Ctx p s m meth c Z B → Stand p l e R s m args below meth c T locs cells slots → T.heap = h → Fr n0 locs → cells ≤ R.cells → slots ≤ R.slots →
    ∃ (s₂ : State) (v : Option Value) (L : List Loc), Steps p.tables e below (T.setTop (mkF m pc ⟨Ls⟩ St)) s₂ ∧ s₂.status = .running ∧ Ended s₂ below (.returned v) ∧ Q v s₂.heap ∧ Fr n0 L ∧ FrameEnd s (.returned v) s₂ L R.cells R.slots
/-- l' is l with v at its k-th place -/
def Put (l : List Slot) (k : Nat) (v : Slot) (l' : List Slot) : Prop := l' = l.set k v ∧ k < l.length
theorem Put.z {a v : Slot} {l : List Slot} : Put (a :: l) 0 v (v :: l) := ⟨rfl, by simp⟩
theorem Put.s {a v : Slot} {l l' : List Slot} {k : Nat} (h : Put l k v l') : Put (a :: l) (k + 1) v (a :: l') := ⟨by simp [h.1], by simpa using h.2⟩
/-- the room of a callee -/
abbrev rmF (f c s w : Nat) : Room := { frames := f, cells := c, slots := s, locals := w }
section Steps
variable {l : Launch} {Z : State} {n0 : Nat} {R : Room} {B : Bdy} {Q : Option Value → Heap → Prop} {h : Heap} {cells slots pc q : Nat} {Ls Ls' : List Slot} {St St' : List Value} {a0 : Array Value}
theorem W.same (K : W l Z n0 R B Q h cells slots q Ls' St') (f : ∀ (p : Program) (e : Env) (s : State) (m : MethodId) (args : Array Value) (below : List Frame) (meth : Method) (c : Code) (T : State) (locs : List Loc), Ctx p s m meth c Z B → Stand p l e R s m args below meth c T locs cells slots → T.heap = h →
      ∀ target, Steps p.tables e below (T.setTop (mkF m q ⟨Ls'⟩ St')) target → Steps p.tables e below (T.setTop (mkF m pc ⟨Ls⟩ St)) target) : W l Z n0 R B Q h cells slots pc Ls St := by
  intro p e s m args below meth c T locs C X eT N hc hs
  obtain ⟨s₂, v, L, h1, h2⟩ := K p e s m args below meth c T locs C X eT N hc hs
  exact ⟨s₂, v, L, f p e s m args below meth c T locs C X eT _ h1, h2⟩
theorem W.warm (K : W l Z n0 R B Q h cells slots q Ls' St') (f : ∀ (p : Program) (e : Env) (s : State) (m : MethodId) (args : Array Value) (below : List Frame) (meth : Method) (c : Code) (T : State) (locs : List Loc), Ctx p s m meth c Z B → Stand p l e R s m args below meth c T locs cells slots → T.heap = h →
      ∃ T', Stand p l e R s m args below meth c T' locs cells slots ∧ T'.heap = h ∧ ∀ target, Steps p.tables e below (T'.setTop (mkF m q ⟨Ls'⟩ St')) target → Steps p.tables e below (T.setTop (mkF m pc ⟨Ls⟩ St)) target) : W l Z n0 R B Q h cells slots pc Ls St := by
  intro p e s m args below meth c T locs C X eT N hc hs
  obtain ⟨T', X', eT', st⟩ := f p e s m args below meth c T locs C X eT
  obtain ⟨s₂, v, L, h1, h2⟩ := K p e s m args below meth c T' locs C X' eT' N hc hs
  exact ⟨s₂, v, L, st _ h1, h2⟩
theorem W.wrote {a : Addr} {sl : Nat} {x : Value} (f : ∀ (p : Program) (e : Env) (s : State) (m : MethodId) (args : Array Value) (below : List Frame) (meth : Method) (c : Code) (T : State) (locs : List Loc), Ctx p s m meth c Z B → Stand p l e R s m args below meth c T locs cells slots → T.heap = h →
      ∃ T' h', Stand p l e R s m args below meth c T' (locs ++ [⟨a, sl⟩]) cells slots ∧ T'.heap = h' ∧ Wr h h' a sl x ∧ ∀ target, Steps p.tables e below (T'.setTop (mkF m q ⟨Ls'⟩ St')) target → Steps p.tables e below (T.setTop (mkF m pc ⟨Ls⟩ St)) target) (ha : n0 ≤ a) (K : ∀ h', Wr h h' a sl x → W l Z n0 R B Q h' cells slots q Ls' St') : W l Z n0 R B Q h cells slots pc Ls St := by
  intro p e s m args below meth c T locs C X eT N hc hs
  obtain ⟨T', h', X', eT', w, st⟩ := f p e s m args below meth c T locs C X eT
  obtain ⟨s₂, v, L, h1, h2⟩ := K h' w p e s m args below meth c T' _ C X' eT' (Fr.snoc X' N ha) hc hs
  exact ⟨s₂, v, L, st _ h1, h2⟩
/-! ### loads, stores, constants -/
theorem W.iload {k : Nat} {v : Int32} (hd : decode B.bytes pc = .ok (.iload k, 2)) (hl : Ls[k]? = some (.val (.int v))) (hq : pc + 2 = q) (K : W l Z n0 R B Q h cells slots q Ls (.int v :: St)) : W l Z n0 R B Q h cells slots pc Ls St := by
  subst hq; exact W.same K (fun p e s m args below meth c T locs C X eT t hr => XS.iload (g := mkF m pc ⟨Ls⟩ St) X.here C.1 rfl (hb C.2.1 hd) (by simpa using hl) hr)
theorem W.iloadN {k : Fin 4} {v : Int32} (hd : decode B.bytes pc = .ok (.iload_n k, 1)) (hl : Ls[k.val]? = some (.val (.int v))) (hq : pc + 1 = q) (K : W l Z n0 R B Q h cells slots q Ls (.int v :: St)) : W l Z n0 R B Q h cells slots pc Ls St := by
  subst hq; exact W.same K (fun p e s m args below meth c T locs C X eT t hr => XS.iloadN (g := mkF m pc ⟨Ls⟩ St) X.here C.1 rfl (hb C.2.1 hd) (by simpa using hl) hr)
theorem W.aload {k : Nat} {v : Value} (hd : decode B.bytes pc = .ok (.aload k, 2)) (hl : Ls[k]? = some (.val v)) (hv : v.isRef = true) (hq : pc + 2 = q) (K : W l Z n0 R B Q h cells slots q Ls (v :: St)) : W l Z n0 R B Q h cells slots pc Ls St := by
  subst hq; exact W.same K (fun p e s m args below meth c T locs C X eT t hr => XS.aload (g := mkF m pc ⟨Ls⟩ St) X.here C.1 rfl (hb C.2.1 hd) (by simpa using hl) hv hr)
theorem W.aloadN {k : Fin 4} {v : Value} (hd : decode B.bytes pc = .ok (.aload_n k, 1)) (hl : Ls[k.val]? = some (.val v)) (hv : v.isRef = true) (hq : pc + 1 = q) (K : W l Z n0 R B Q h cells slots q Ls (v :: St)) : W l Z n0 R B Q h cells slots pc Ls St := by
  subst hq; exact W.same K (fun p e s m args below meth c T locs C X eT t hr => XS.aloadN (g := mkF m pc ⟨Ls⟩ St) X.here C.1 rfl (hb C.2.1 hd) (by simpa using hl) hv hr)
theorem W.lload {k : Nat} {v : Int64} (hd : decode B.bytes pc = .ok (.lload k, 2)) (hl : Ls[k]? = some (.val (.long v))) (hq : pc + 2 = q) (K : W l Z n0 R B Q h cells slots q Ls (.long v :: St)) : W l Z n0 R B Q h cells slots pc Ls St := by
  subst hq; exact W.same K (fun p e s m args below meth c T locs C X eT t hr => XS.lload (g := mkF m pc ⟨Ls⟩ St) X.here C.1 rfl (hb C.2.1 hd) (by simpa using hl) hr)
theorem W.lloadN {k : Fin 4} {v : Int64} (hd : decode B.bytes pc = .ok (.lload_n k, 1)) (hl : Ls[k.val]? = some (.val (.long v))) (hq : pc + 1 = q) (K : W l Z n0 R B Q h cells slots q Ls (.long v :: St)) : W l Z n0 R B Q h cells slots pc Ls St := by
  subst hq; exact W.same K (fun p e s m args below meth c T locs C X eT t hr => XS.lloadN (g := mkF m pc ⟨Ls⟩ St) X.here C.1 rfl (hb C.2.1 hd) (by simpa using hl) hr)
theorem W.iconst {i : Int} {z : Int32} (hd : decode B.bytes pc = .ok (.iconst i, 1)) (hz : Int32.ofInt i = z) (hq : pc + 1 = q) (K : W l Z n0 R B Q h cells slots q Ls (.int z :: St)) : W l Z n0 R B Q h cells slots pc Ls St := by
  subst hq hz; exact W.same K (fun p e s m args below meth c T locs C X eT t hr => XS.iconst (g := mkF m pc ⟨Ls⟩ St) X.here C.1 rfl (hb C.2.1 hd) hr)
theorem W.bipush {i : Int} {z : Int32} (hd : decode B.bytes pc = .ok (.bipush i, 2)) (hz : (Int8.ofInt i).toInt32 = z) (hq : pc + 2 = q) (K : W l Z n0 R B Q h cells slots q Ls (.int z :: St)) : W l Z n0 R B Q h cells slots pc Ls St := by
  subst hq hz; exact W.same K (fun p e s m args below meth c T locs C X eT t hr => XS.bipush (g := mkF m pc ⟨Ls⟩ St) X.here C.1 rfl (hb C.2.1 hd) hr)
theorem W.sipush {i : Int} {z : Int32} (hd : decode B.bytes pc = .ok (.sipush i, 3)) (hz : (Int16.ofInt i).toInt32 = z) (hq : pc + 3 = q) (K : W l Z n0 R B Q h cells slots q Ls (.int z :: St)) : W l Z n0 R B Q h cells slots pc Ls St := by
  subst hq hz; exact W.same K (fun p e s m args below meth c T locs C X eT t hr => XS.sipush (g := mkF m pc ⟨Ls⟩ St) X.here C.1 rfl (hb C.2.1 hd) hr)
theorem W.ldc {i : Nat} {z : Int32} (hd : decode B.bytes pc = .ok (.ldc i, 2)) (w : (Cond.constant B.own i z).before a0 Z = true) (hq : pc + 2 = q) (K : W l Z n0 R B Q h cells slots q Ls (.int z :: St)) : W l Z n0 R B Q h cells slots pc Ls St := by
  subst hq; exact W.same K (fun p e s m args below meth c T locs C X eT t hr => X.ldcI (g := mkF m pc ⟨Ls⟩ St) C.1 C.2.2.2.2.1 (mvT C.2.2.2.1 w) rfl (hb C.2.1 hd) hr)
theorem W.ldcw {i : Nat} {z : Int32} (hd : decode B.bytes pc = .ok (.ldc_w i, 3)) (w : (Cond.constant B.own i z).before a0 Z = true) (hq : pc + 3 = q) (K : W l Z n0 R B Q h cells slots q Ls (.int z :: St)) : W l Z n0 R B Q h cells slots pc Ls St := by
  subst hq; exact W.same K (fun p e s m args below meth c T locs C X eT t hr => X.ldcWI (g := mkF m pc ⟨Ls⟩ St) C.1 C.2.2.2.2.1 (mvT C.2.2.2.1 w) rfl (hb C.2.1 hd) hr)
theorem W.ldc2 {i : Nat} {z : Int64} (hd : decode B.bytes pc = .ok (.ldc2_w i, 3)) (w : (Cond.constantLong B.own i z).before a0 Z = true) (hq : pc + 3 = q) (K : W l Z n0 R B Q h cells slots q Ls (.long z :: St)) : W l Z n0 R B Q h cells slots pc Ls St := by
  subst hq; exact W.same K (fun p e s m args below meth c T locs C X eT t hr => X.ldc2J (g := mkF m pc ⟨Ls⟩ St) C.1 C.2.2.2.2.1 (mvT C.2.2.2.1 w) rfl (hb C.2.1 hd) hr)
theorem W.lconst {k : Fin 2} {z : Int64} (hd : decode B.bytes pc = .ok (.lconst k, 1)) (hz : Int64.ofNat k.val = z) (hq : pc + 1 = q) (K : W l Z n0 R B Q h cells slots q Ls (.long z :: St)) : W l Z n0 R B Q h cells slots pc Ls St := by
  subst hq hz; exact W.same K (fun p e s m args below meth c T locs C X eT t hr => XS.lconst (g := mkF m pc ⟨Ls⟩ St) X.here C.1 rfl (hb C.2.1 hd) hr)
theorem W.aconstNull (hd : decode B.bytes pc = .ok (.aconst_null, 1)) (hq : pc + 1 = q) (K : W l Z n0 R B Q h cells slots q Ls (.null :: St)) : W l Z n0 R B Q h cells slots pc Ls St := by
  subst hq; exact W.same K (fun p e s m args below meth c T locs C X eT t hr => XS.aconstNull (g := mkF m pc ⟨Ls⟩ St) X.here C.1 rfl (hb C.2.1 hd) hr)
theorem put1 {k : Nat} {o : Slot} {v : Value} (hp : Put Ls k (.val v) Ls') (ho : Ls[k]? = some o) (h1 : o = .unset ∨ ∃ w, o = .val w ∧ w.category = 1) (hv : v.category = 1) : storeLocals ⟨Ls⟩ k v = some ⟨Ls'⟩ := by
  rw [XS.store1 (l := ⟨Ls⟩) (o := o) (by simpa using ho) h1 hv, hp.1]; simp
def one1 : Slot → Bool
  | .unset => true
  | .val w => w.category == 1
  | _ => false
theorem one1_of {o : Slot} (h : one1 o = true) : o = .unset ∨ ∃ w, o = .val w ∧ w.category = 1 := by
  cases o <;> simp_all [one1]
theorem W.istore {k : Nat} {o : Slot} {v : Int32} (hd : decode B.bytes pc = .ok (.istore k, 2)) (hp : Put Ls k (.val (.int v)) Ls') (ho : Ls[k]? = some o) (h1 : one1 o = true) (hq : pc + 2 = q) (K : W l Z n0 R B Q h cells slots q Ls' St) : W l Z n0 R B Q h cells slots pc Ls (.int v :: St) := by
  subst hq; exact W.same K (fun p e s m args below meth c T locs C X eT t hr => XS.istore (g := mkF m pc ⟨Ls⟩ (.int v :: St)) X.here C.1 rfl (hb C.2.1 hd) rfl (put1 hp ho (one1_of h1) rfl) hr)
theorem W.istoreN {k : Fin 4} {o : Slot} {v : Int32} (hd : decode B.bytes pc = .ok (.istore_n k, 1)) (hp : Put Ls k.val (.val (.int v)) Ls') (ho : Ls[k.val]? = some o) (h1 : one1 o = true) (hq : pc + 1 = q) (K : W l Z n0 R B Q h cells slots q Ls' St) : W l Z n0 R B Q h cells slots pc Ls (.int v :: St) := by
  subst hq; exact W.same K (fun p e s m args below meth c T locs C X eT t hr => XS.istoreN (g := mkF m pc ⟨Ls⟩ (.int v :: St)) X.here C.1 rfl (hb C.2.1 hd) rfl (put1 hp ho (one1_of h1) rfl) hr)
theorem W.astore {k : Nat} {o : Slot} {v : Value} (hd : decode B.bytes pc = .ok (.astore k, 2)) (hv : v.isRef = true) (hp : Put Ls k (.val v) Ls') (ho : Ls[k]? = some o) (h1 : one1 o = true) (hq : pc + 2 = q) (K : W l Z n0 R B Q h cells slots q Ls' St) : W l Z n0 R B Q h cells slots pc Ls (v :: St) := by
  subst hq; exact W.same K (fun p e s m args below meth c T locs C X eT t hr => XS.astore (g := mkF m pc ⟨Ls⟩ (v :: St)) X.here C.1 rfl (hb C.2.1 hd) rfl hv (put1 hp ho (one1_of h1) (by cases v <;> simp_all [Value.isRef, Value.category])) hr)
theorem W.astoreN {k : Fin 4} {o : Slot} {v : Value} (hd : decode B.bytes pc = .ok (.astore_n k, 1)) (hv : v.isRef = true) (hp : Put Ls k.val (.val v) Ls') (ho : Ls[k.val]? = some o) (h1 : one1 o = true) (hq : pc + 1 = q) (K : W l Z n0 R B Q h cells slots q Ls' St) : W l Z n0 R B Q h cells slots pc Ls (v :: St) := by
  subst hq; exact W.same K (fun p e s m args below meth c T locs C X eT t hr => XS.astoreN (g := mkF m pc ⟨Ls⟩ (v :: St)) X.here C.1 rfl (hb C.2.1 hd) rfl hv (put1 hp ho (one1_of h1) (by cases v <;> simp_all [Value.isRef, Value.category])) hr)
theorem W.iinc {k : Nat} {cst : Int} {x z : Int32} (hd : decode B.bytes pc = .ok (.iinc k cst, 3)) (hl : Ls[k]? = some (.val (.int x))) (hz : Int32.ofInt cst = z) (hp : Put Ls k (.val (.int (x + z))) Ls') (hq : pc + 3 = q) (K : W l Z n0 R B Q h cells slots q Ls' St) : W l Z n0 R B Q h cells slots pc Ls St := by
  subst hq hz; exact W.same K (fun p e s m args below meth c T locs C X eT t hr => XS.iinc (g := mkF m pc ⟨Ls⟩ St) X.here C.1 rfl (hb C.2.1 hd) (by simpa using hl) (put1 hp hl (Or.inr ⟨_, rfl, rfl⟩) rfl) hr)
/-- l' is l with the long v at its k-th and k+1-st place -/
def Put2 (l : List Slot) (k : Nat) (v : Value) (l' : List Slot) : Prop := l' = (l.set k (.val v)).set (k + 1) .second ∧ k + 1 < l.length
theorem Put2.z {a b : Slot} {v : Value} {l : List Slot} : Put2 (a :: b :: l) 0 v (.val v :: .second :: l) := ⟨rfl, by simp⟩
theorem Put2.s {a : Slot} {v : Value} {l l' : List Slot} {k : Nat} (h : Put2 l k v l') : Put2 (a :: l) (k + 1) v (a :: l') := ⟨by simp [h.1], by simpa using h.2⟩
def two2 : Slot → Slot → Bool
  | .val w, .second => w.category == 2
  | o, o' => one1 o && one1 o'
theorem set_set_second (l : List Slot) (k : Nat) (v : Slot) : ((l.set (k + 1) .unset).set k v).set (k + 1) .second = (l.set k v).set (k + 1) .second := by
  apply List.ext_getElem? ; intro i; by_cases h1 : k + 1 = i <;> by_cases h2 : k = i <;> simp_all [List.getElem?_set]
theorem put2 {k : Nat} {o o' : Slot} {v : Value} (hp : Put2 Ls k v Ls') (ho : Ls[k]? = some o) (ho' : Ls[k + 1]? = some o') (h1 : two2 o o' = true) (hv : v.category = 2) : storeLocals ⟨Ls⟩ k v = some ⟨Ls'⟩ := by
  obtain ⟨rfl, hk⟩ := hp
  have hk' : k < Ls.length := by omega
  have e1 := (List.getElem?_eq_some_iff.mp ho).2
  have e2 := (List.getElem?_eq_some_iff.mp ho').2
  cases o <;> cases o' <;> simp [two2, one1] at h1 <;> simp [storeLocals, storeSelf, setAt, hv, hk, hk', e1, e2, h1, List.getElem_set, set_set_second]
theorem W.lstore {k : Nat} {o o' : Slot} {v : Int64} (hd : decode B.bytes pc = .ok (.lstore k, 2)) (hp : Put2 Ls k (.long v) Ls') (ho : Ls[k]? = some o) (ho' : Ls[k + 1]? = some o') (h1 : two2 o o' = true) (hq : pc + 2 = q) (K : W l Z n0 R B Q h cells slots q Ls' St) : W l Z n0 R B Q h cells slots pc Ls (.long v :: St) := by
  subst hq; exact W.same K (fun p e s m args below meth c T locs C X eT t hr => XS.lstore (g := mkF m pc ⟨Ls⟩ (.long v :: St)) X.here C.1 rfl (hb C.2.1 hd) rfl (put2 hp ho ho' h1 rfl) hr)
theorem W.lstoreN {k : Fin 4} {o o' : Slot} {v : Int64} (hd : decode B.bytes pc = .ok (.lstore_n k, 1)) (hp : Put2 Ls k.val (.long v) Ls') (ho : Ls[k.val]? = some o) (ho' : Ls[k.val + 1]? = some o') (h1 : two2 o o' = true) (hq : pc + 1 = q) (K : W l Z n0 R B Q h cells slots q Ls' St) : W l Z n0 R B Q h cells slots pc Ls (.long v :: St) := by
  subst hq; exact W.same K (fun p e s m args below meth c T locs C X eT t hr => XS.lstoreN (g := mkF m pc ⟨Ls⟩ (.long v :: St)) X.here C.1 rfl (hb C.2.1 hd) rfl (put2 hp ho ho' h1 rfl) hr)
theorem W.iadd {x : Int32} {y : Int32} (hd : decode B.bytes pc = .ok (.iadd, 1)) (hq : pc + 1 = q) (K : W l Z n0 R B Q h cells slots q Ls (.int (x + y) :: St)) : W l Z n0 R B Q h cells slots pc Ls (.int y :: .int x :: St) := by
  subst hq; exact W.same K (fun p e s m args below meth c T locs C X eT t hr => XS.iadd (g := mkF m pc ⟨Ls⟩ (.int y :: .int x :: St)) X.here C.1 rfl (hb C.2.1 hd) rfl hr)
theorem W.isub {x : Int32} {y : Int32} (hd : decode B.bytes pc = .ok (.isub, 1)) (hq : pc + 1 = q) (K : W l Z n0 R B Q h cells slots q Ls (.int (x - y) :: St)) : W l Z n0 R B Q h cells slots pc Ls (.int y :: .int x :: St) := by
  subst hq; exact W.same K (fun p e s m args below meth c T locs C X eT t hr => XS.isub (g := mkF m pc ⟨Ls⟩ (.int y :: .int x :: St)) X.here C.1 rfl (hb C.2.1 hd) rfl hr)
theorem W.imul {x : Int32} {y : Int32} (hd : decode B.bytes pc = .ok (.imul, 1)) (hq : pc + 1 = q) (K : W l Z n0 R B Q h cells slots q Ls (.int (x * y) :: St)) : W l Z n0 R B Q h cells slots pc Ls (.int y :: .int x :: St) := by
  subst hq; exact W.same K (fun p e s m args below meth c T locs C X eT t hr => XS.imul (g := mkF m pc ⟨Ls⟩ (.int y :: .int x :: St)) X.here C.1 rfl (hb C.2.1 hd) rfl hr)
theorem W.iand {x : Int32} {y : Int32} (hd : decode B.bytes pc = .ok (.iand, 1)) (hq : pc + 1 = q) (K : W l Z n0 R B Q h cells slots q Ls (.int (x &&& y) :: St)) : W l Z n0 R B Q h cells slots pc Ls (.int y :: .int x :: St) := by
  subst hq; exact W.same K (fun p e s m args below meth c T locs C X eT t hr => XS.iand (g := mkF m pc ⟨Ls⟩ (.int y :: .int x :: St)) X.here C.1 rfl (hb C.2.1 hd) rfl hr)
theorem W.ior {x : Int32} {y : Int32} (hd : decode B.bytes pc = .ok (.ior, 1)) (hq : pc + 1 = q) (K : W l Z n0 R B Q h cells slots q Ls (.int (x ||| y) :: St)) : W l Z n0 R B Q h cells slots pc Ls (.int y :: .int x :: St) := by
  subst hq; exact W.same K (fun p e s m args below meth c T locs C X eT t hr => XS.ior (g := mkF m pc ⟨Ls⟩ (.int y :: .int x :: St)) X.here C.1 rfl (hb C.2.1 hd) rfl hr)
theorem W.ixor {x : Int32} {y : Int32} (hd : decode B.bytes pc = .ok (.ixor, 1)) (hq : pc + 1 = q) (K : W l Z n0 R B Q h cells slots q Ls (.int (x ^^^ y) :: St)) : W l Z n0 R B Q h cells slots pc Ls (.int y :: .int x :: St) := by
  subst hq; exact W.same K (fun p e s m args below meth c T locs C X eT t hr => XS.ixor (g := mkF m pc ⟨Ls⟩ (.int y :: .int x :: St)) X.here C.1 rfl (hb C.2.1 hd) rfl hr)
theorem W.ishl {x : Int32} {y : Int32} (hd : decode B.bytes pc = .ok (.ishl, 1)) (hq : pc + 1 = q) (K : W l Z n0 R B Q h cells slots q Ls (.int (x <<< (y &&& 0x1f)) :: St)) : W l Z n0 R B Q h cells slots pc Ls (.int y :: .int x :: St) := by
  subst hq; exact W.same K (fun p e s m args below meth c T locs C X eT t hr => XS.ishl (g := mkF m pc ⟨Ls⟩ (.int y :: .int x :: St)) X.here C.1 rfl (hb C.2.1 hd) rfl hr)
theorem W.ishr {x : Int32} {y : Int32} (hd : decode B.bytes pc = .ok (.ishr, 1)) (hq : pc + 1 = q) (K : W l Z n0 R B Q h cells slots q Ls (.int (x >>> (y &&& 0x1f)) :: St)) : W l Z n0 R B Q h cells slots pc Ls (.int y :: .int x :: St) := by
  subst hq; exact W.same K (fun p e s m args below meth c T locs C X eT t hr => XS.ishr (g := mkF m pc ⟨Ls⟩ (.int y :: .int x :: St)) X.here C.1 rfl (hb C.2.1 hd) rfl hr)
theorem W.iushr {x : Int32} {y : Int32} (hd : decode B.bytes pc = .ok (.iushr, 1)) (hq : pc + 1 = q) (K : W l Z n0 R B Q h cells slots q Ls (.int ((x.toUInt32 >>> (y &&& 0x1f).toUInt32).toInt32) :: St)) : W l Z n0 R B Q h cells slots pc Ls (.int y :: .int x :: St) := by
  subst hq; exact W.same K (fun p e s m args below meth c T locs C X eT t hr => XS.iushr (g := mkF m pc ⟨Ls⟩ (.int y :: .int x :: St)) X.here C.1 rfl (hb C.2.1 hd) rfl hr)
theorem W.ladd {x : Int64} {y : Int64} (hd : decode B.bytes pc = .ok (.ladd, 1)) (hq : pc + 1 = q) (K : W l Z n0 R B Q h cells slots q Ls (.long (x + y) :: St)) : W l Z n0 R B Q h cells slots pc Ls (.long y :: .long x :: St) := by
  subst hq; exact W.same K (fun p e s m args below meth c T locs C X eT t hr => XS.ladd (g := mkF m pc ⟨Ls⟩ (.long y :: .long x :: St)) X.here C.1 rfl (hb C.2.1 hd) rfl hr)
theorem W.lsub {x : Int64} {y : Int64} (hd : decode B.bytes pc = .ok (.lsub, 1)) (hq : pc + 1 = q) (K : W l Z n0 R B Q h cells slots q Ls (.long (x - y) :: St)) : W l Z n0 R B Q h cells slots pc Ls (.long y :: .long x :: St) := by
  subst hq; exact W.same K (fun p e s m args below meth c T locs C X eT t hr => XS.lsub (g := mkF m pc ⟨Ls⟩ (.long y :: .long x :: St)) X.here C.1 rfl (hb C.2.1 hd) rfl hr)
theorem W.lmul {x : Int64} {y : Int64} (hd : decode B.bytes pc = .ok (.lmul, 1)) (hq : pc + 1 = q) (K : W l Z n0 R B Q h cells slots q Ls (.long (x * y) :: St)) : W l Z n0 R B Q h cells slots pc Ls (.long y :: .long x :: St) := by
  subst hq; exact W.same K (fun p e s m args below meth c T locs C X eT t hr => XS.lmul (g := mkF m pc ⟨Ls⟩ (.long y :: .long x :: St)) X.here C.1 rfl (hb C.2.1 hd) rfl hr)
theorem W.land {x : Int64} {y : Int64} (hd : decode B.bytes pc = .ok (.land, 1)) (hq : pc + 1 = q) (K : W l Z n0 R B Q h cells slots q Ls (.long (x &&& y) :: St)) : W l Z n0 R B Q h cells slots pc Ls (.long y :: .long x :: St) := by
  subst hq; exact W.same K (fun p e s m args below meth c T locs C X eT t hr => XS.land (g := mkF m pc ⟨Ls⟩ (.long y :: .long x :: St)) X.here C.1 rfl (hb C.2.1 hd) rfl hr)
theorem W.lor {x : Int64} {y : Int64} (hd : decode B.bytes pc = .ok (.lor, 1)) (hq : pc + 1 = q) (K : W l Z n0 R B Q h cells slots q Ls (.long (x ||| y) :: St)) : W l Z n0 R B Q h cells slots pc Ls (.long y :: .long x :: St) := by
  subst hq; exact W.same K (fun p e s m args below meth c T locs C X eT t hr => XS.lor (g := mkF m pc ⟨Ls⟩ (.long y :: .long x :: St)) X.here C.1 rfl (hb C.2.1 hd) rfl hr)
theorem W.lxor {x : Int64} {y : Int64} (hd : decode B.bytes pc = .ok (.lxor, 1)) (hq : pc + 1 = q) (K : W l Z n0 R B Q h cells slots q Ls (.long (x ^^^ y) :: St)) : W l Z n0 R B Q h cells slots pc Ls (.long y :: .long x :: St) := by
  subst hq; exact W.same K (fun p e s m args below meth c T locs C X eT t hr => XS.lxor (g := mkF m pc ⟨Ls⟩ (.long y :: .long x :: St)) X.here C.1 rfl (hb C.2.1 hd) rfl hr)
theorem W.lshl {x : Int64} {y : Int32} (hd : decode B.bytes pc = .ok (.lshl, 1)) (hq : pc + 1 = q) (K : W l Z n0 R B Q h cells slots q Ls (.long (x <<< (y &&& 0x3f).toInt64) :: St)) : W l Z n0 R B Q h cells slots pc Ls (.int y :: .long x :: St) := by
  subst hq; exact W.same K (fun p e s m args below meth c T locs C X eT t hr => XS.lshl (g := mkF m pc ⟨Ls⟩ (.int y :: .long x :: St)) X.here C.1 rfl (hb C.2.1 hd) rfl hr)
theorem W.lshr {x : Int64} {y : Int32} (hd : decode B.bytes pc = .ok (.lshr, 1)) (hq : pc + 1 = q) (K : W l Z n0 R B Q h cells slots q Ls (.long (x >>> (y &&& 0x3f).toInt64) :: St)) : W l Z n0 R B Q h cells slots pc Ls (.int y :: .long x :: St) := by
  subst hq; exact W.same K (fun p e s m args below meth c T locs C X eT t hr => XS.lshr (g := mkF m pc ⟨Ls⟩ (.int y :: .long x :: St)) X.here C.1 rfl (hb C.2.1 hd) rfl hr)
theorem W.lushr {x : Int64} {y : Int32} (hd : decode B.bytes pc = .ok (.lushr, 1)) (hq : pc + 1 = q) (K : W l Z n0 R B Q h cells slots q Ls (.long ((x.toUInt64 >>> (y &&& 0x3f).toInt64.toUInt64).toInt64) :: St)) : W l Z n0 R B Q h cells slots pc Ls (.int y :: .long x :: St) := by
  subst hq; exact W.same K (fun p e s m args below meth c T locs C X eT t hr => XS.lushr (g := mkF m pc ⟨Ls⟩ (.int y :: .long x :: St)) X.here C.1 rfl (hb C.2.1 hd) rfl hr)
theorem W.lcmp {x : Int64} {y : Int64} (hd : decode B.bytes pc = .ok (.lcmp, 1)) (hq : pc + 1 = q) (K : W l Z n0 R B Q h cells slots q Ls (.int (lcmpW x y) :: St)) : W l Z n0 R B Q h cells slots pc Ls (.long y :: .long x :: St) := by
  subst hq; exact W.same K (fun p e s m args below meth c T locs C X eT t hr => XS.lcmp (g := mkF m pc ⟨Ls⟩ (.long y :: .long x :: St)) X.here C.1 rfl (hb C.2.1 hd) rfl hr)
theorem W.ineg {x : Int32} (hd : decode B.bytes pc = .ok (.ineg, 1)) (hq : pc + 1 = q) (K : W l Z n0 R B Q h cells slots q Ls (.int (-x) :: St)) : W l Z n0 R B Q h cells slots pc Ls (.int x :: St) := by
  subst hq; exact W.same K (fun p e s m args below meth c T locs C X eT t hr => XS.ineg (g := mkF m pc ⟨Ls⟩ (.int x :: St)) X.here C.1 rfl (hb C.2.1 hd) rfl hr)
theorem W.i2l {x : Int32} (hd : decode B.bytes pc = .ok (.i2l, 1)) (hq : pc + 1 = q) (K : W l Z n0 R B Q h cells slots q Ls (.long (x.toInt64) :: St)) : W l Z n0 R B Q h cells slots pc Ls (.int x :: St) := by
  subst hq; exact W.same K (fun p e s m args below meth c T locs C X eT t hr => XS.i2l (g := mkF m pc ⟨Ls⟩ (.int x :: St)) X.here C.1 rfl (hb C.2.1 hd) rfl hr)
theorem W.l2i {x : Int64} (hd : decode B.bytes pc = .ok (.l2i, 1)) (hq : pc + 1 = q) (K : W l Z n0 R B Q h cells slots q Ls (.int (x.toInt32) :: St)) : W l Z n0 R B Q h cells slots pc Ls (.long x :: St) := by
  subst hq; exact W.same K (fun p e s m args below meth c T locs C X eT t hr => XS.l2i (g := mkF m pc ⟨Ls⟩ (.long x :: St)) X.here C.1 rfl (hb C.2.1 hd) rfl hr)
theorem W.i2b {x : Int32} (hd : decode B.bytes pc = .ok (.i2b, 1)) (hq : pc + 1 = q) (K : W l Z n0 R B Q h cells slots q Ls (.int (x.toInt8.toInt32) :: St)) : W l Z n0 R B Q h cells slots pc Ls (.int x :: St) := by
  subst hq; exact W.same K (fun p e s m args below meth c T locs C X eT t hr => XS.i2b (g := mkF m pc ⟨Ls⟩ (.int x :: St)) X.here C.1 rfl (hb C.2.1 hd) rfl hr)
theorem W.i2c {x : Int32} (hd : decode B.bytes pc = .ok (.i2c, 1)) (hq : pc + 1 = q) (K : W l Z n0 R B Q h cells slots q Ls (.int (x.toUInt32.toUInt16.toUInt32.toInt32) :: St)) : W l Z n0 R B Q h cells slots pc Ls (.int x :: St) := by
  subst hq; exact W.same K (fun p e s m args below meth c T locs C X eT t hr => XS.i2c (g := mkF m pc ⟨Ls⟩ (.int x :: St)) X.here C.1 rfl (hb C.2.1 hd) rfl hr)
theorem W.i2s {x : Int32} (hd : decode B.bytes pc = .ok (.i2s, 1)) (hq : pc + 1 = q) (K : W l Z n0 R B Q h cells slots q Ls (.int (x.toInt16.toInt32) :: St)) : W l Z n0 R B Q h cells slots pc Ls (.int x :: St) := by
  subst hq; exact W.same K (fun p e s m args below meth c T locs C X eT t hr => XS.i2s (g := mkF m pc ⟨Ls⟩ (.int x :: St)) X.here C.1 rfl (hb C.2.1 hd) rfl hr)
theorem W.irem {x y : Int32} (hd : decode B.bytes pc = .ok (.irem, 1)) (hy : y ≠ 0) (hq : pc + 1 = q) (K : W l Z n0 R B Q h cells slots q Ls (.int (x % y) :: St)) : W l Z n0 R B Q h cells slots pc Ls (.int y :: .int x :: St) := by
  subst hq; exact W.same K (fun p e s m args below meth c T locs C X eT t hr => iremM (g := mkF m pc ⟨Ls⟩ (.int y :: .int x :: St)) X C.1 rfl (hb C.2.1 hd) rfl hy hr)
theorem W.idiv {x y : Int32} (hd : decode B.bytes pc = .ok (.idiv, 1)) (hy : y ≠ 0) (hq : pc + 1 = q) (K : W l Z n0 R B Q h cells slots q Ls (.int (x / y) :: St)) : W l Z n0 R B Q h cells slots pc Ls (.int y :: .int x :: St) := by
  subst hq; exact W.same K (fun p e s m args below meth c T locs C X eT t hr => XS.idiv (g := mkF m pc ⟨Ls⟩ (.int y :: .int x :: St)) X.here C.1 rfl (hb C.2.1 hd) rfl hy hr)
theorem W.dup {x : Value} (hd : decode B.bytes pc = .ok (.dup, 1)) (hc : x.category = 1) (hq : pc + 1 = q) (K : W l Z n0 R B Q h cells slots q Ls (x :: x :: St)) : W l Z n0 R B Q h cells slots pc Ls (x :: St) := by
  subst hq; exact W.same K (fun p e s m args below meth c T locs C X eT t hr => XS.dup (g := mkF m pc ⟨Ls⟩ (x :: St)) X.here C.1 rfl (hb C.2.1 hd) rfl hc hr)
theorem W.pop {x : Value} (hd : decode B.bytes pc = .ok (.pop, 1)) (hc : x.category = 1) (hq : pc + 1 = q) (K : W l Z n0 R B Q h cells slots q Ls St) : W l Z n0 R B Q h cells slots pc Ls (x :: St) := by
  subst hq; exact W.same K (fun p e s m args below meth c T locs C X eT t hr => XS.pop (g := mkF m pc ⟨Ls⟩ (x :: St)) X.here C.1 rfl (hb C.2.1 hd) rfl hc hr)
theorem W.dup2 {x y : Value} (hd : decode B.bytes pc = .ok (.dup2, 1)) (hc : x.category = 1) (hc' : y.category = 1) (hq : pc + 1 = q) (K : W l Z n0 R B Q h cells slots q Ls (x :: y :: x :: y :: St)) : W l Z n0 R B Q h cells slots pc Ls (x :: y :: St) := by
  subst hq; exact W.same K (fun p e s m args below meth c T locs C X eT t hr => XT.dup2 (g := mkF m pc ⟨Ls⟩ (x :: y :: St)) X.here C.1 rfl (hb C.2.1 hd) rfl hc hc' hr)
theorem W.goto {o : Int} (hd : decode B.bytes pc = .ok (.goto o, 3)) (ho : 0 ≤ (pc : Int) + o) (hq : ((pc : Int) + o).toNat = q) (K : W l Z n0 R B Q h cells slots q Ls St) : W l Z n0 R B Q h cells slots pc Ls St :=
  W.same K (fun p e s m args below meth c T locs C X eT t hr => XS.goto (g := mkF m pc ⟨Ls⟩ St) X.here C.1 rfl rfl (hb C.2.1 hd) ho hq hr)
theorem W.icmp {cd : ClassFile.Cond} {o : Int} {x y : Int32} {q' : Nat} (hd : decode B.bytes pc = .ok (.if_icmp cd o, 3)) (ho : 0 ≤ (pc : Int) + o) (hq : ((pc : Int) + o).toNat = q) (hq' : pc + 3 = q') (K1 : if_icmp.holds cd x y = true → W l Z n0 R B Q h cells slots q Ls St) (K2 : if_icmp.holds cd x y = false → W l Z n0 R B Q h cells slots q' Ls St) : W l Z n0 R B Q h cells slots pc Ls (.int y :: .int x :: St) := by
  subst hq'
  rcases Bool.eq_false_or_eq_true (if_icmp.holds cd x y) with hc | hc
  · exact W.same (K1 hc) (fun p e s m args below meth c T locs C X eT t hr => XS.icmpYes (g := mkF m pc ⟨Ls⟩ (.int y :: .int x :: St)) X.here C.1 rfl rfl (hb C.2.1 hd) rfl hc ho hq hr)
  · exact W.same (K2 hc) (fun p e s m args below meth c T locs C X eT t hr => XS.icmpNo (g := mkF m pc ⟨Ls⟩ (.int y :: .int x :: St)) X.here C.1 rfl (hb C.2.1 hd) rfl hc hr)
theorem W.ifc {cd : ClassFile.Cond} {o : Int} {x : Int32} {q' : Nat} (hd : decode B.bytes pc = .ok (.ifCond cd o, 3)) (ho : 0 ≤ (pc : Int) + o) (hq : ((pc : Int) + o).toNat = q) (hq' : pc + 3 = q') (K1 : if_icmp.holds cd x 0 = true → W l Z n0 R B Q h cells slots q Ls St) (K2 : if_icmp.holds cd x 0 = false → W l Z n0 R B Q h cells slots q' Ls St) : W l Z n0 R B Q h cells slots pc Ls (.int x :: St) := by
  subst hq'
  rcases Bool.eq_false_or_eq_true (if_icmp.holds cd x 0) with hc | hc
  · exact W.same (K1 hc) (fun p e s m args below meth c T locs C X eT t hr => XS.ifYes (g := mkF m pc ⟨Ls⟩ (.int x :: St)) X.here C.1 rfl rfl (hb C.2.1 hd) rfl ((if0 cd x).trans hc) ho hq hr)
  · exact W.same (K2 hc) (fun p e s m args below meth c T locs C X eT t hr => XS.ifNo (g := mkF m pc ⟨Ls⟩ (.int x :: St)) X.here C.1 rfl (hb C.2.1 hd) rfl ((if0 cd x).trans hc) hr)
theorem W.icmp_eq {o : Int} {x y : Int32} {q' : Nat} (hd : decode B.bytes pc = .ok (.if_icmp .eq o, 3)) (ho : 0 ≤ (pc : Int) + o) (hq : ((pc : Int) + o).toNat = q) (hq' : pc + 3 = q') (K1 : x = y → W l Z n0 R B Q h cells slots q Ls St) (K2 : ¬ x = y → W l Z n0 R B Q h cells slots q' Ls St) : W l Z n0 R B Q h cells slots pc Ls (.int y :: .int x :: St) :=
  W.icmp hd ho hq hq' (fun hc => K1 (by simpa [if_icmp.holds, Int32.not_lt, Int32.not_le] using hc)) (fun hc => K2 (by simpa [if_icmp.holds, Int32.not_lt, Int32.not_le] using hc))
theorem W.ifc_eq {o : Int} {x : Int32} {q' : Nat} (hd : decode B.bytes pc = .ok (.ifCond .eq o, 3)) (ho : 0 ≤ (pc : Int) + o) (hq : ((pc : Int) + o).toNat = q) (hq' : pc + 3 = q') (K1 : x = 0 → W l Z n0 R B Q h cells slots q Ls St) (K2 : ¬ x = 0 → W l Z n0 R B Q h cells slots q' Ls St) : W l Z n0 R B Q h cells slots pc Ls (.int x :: St) :=
  W.ifc hd ho hq hq' (fun hc => K1 (by simpa [if_icmp.holds, Int32.not_lt, Int32.not_le] using hc)) (fun hc => K2 (by simpa [if_icmp.holds, Int32.not_lt, Int32.not_le] using hc))
theorem W.icmp_ne {o : Int} {x y : Int32} {q' : Nat} (hd : decode B.bytes pc = .ok (.if_icmp .ne o, 3)) (ho : 0 ≤ (pc : Int) + o) (hq : ((pc : Int) + o).toNat = q) (hq' : pc + 3 = q') (K1 : ¬ x = y → W l Z n0 R B Q h cells slots q Ls St) (K2 : x = y → W l Z n0 R B Q h cells slots q' Ls St) : W l Z n0 R B Q h cells slots pc Ls (.int y :: .int x :: St) :=
  W.icmp hd ho hq hq' (fun hc => K1 (by simpa [if_icmp.holds, Int32.not_lt, Int32.not_le] using hc)) (fun hc => K2 (by simpa [if_icmp.holds, Int32.not_lt, Int32.not_le] using hc))
theorem W.ifc_ne {o : Int} {x : Int32} {q' : Nat} (hd : decode B.bytes pc = .ok (.ifCond .ne o, 3)) (ho : 0 ≤ (pc : Int) + o) (hq : ((pc : Int) + o).toNat = q) (hq' : pc + 3 = q') (K1 : ¬ x = 0 → W l Z n0 R B Q h cells slots q Ls St) (K2 : x = 0 → W l Z n0 R B Q h cells slots q' Ls St) : W l Z n0 R B Q h cells slots pc Ls (.int x :: St) :=
  W.ifc hd ho hq hq' (fun hc => K1 (by simpa [if_icmp.holds, Int32.not_lt, Int32.not_le] using hc)) (fun hc => K2 (by simpa [if_icmp.holds, Int32.not_lt, Int32.not_le] using hc))
theorem W.icmp_lt {o : Int} {x y : Int32} {q' : Nat} (hd : decode B.bytes pc = .ok (.if_icmp .lt o, 3)) (ho : 0 ≤ (pc : Int) + o) (hq : ((pc : Int) + o).toNat = q) (hq' : pc + 3 = q') (K1 : x < y → W l Z n0 R B Q h cells slots q Ls St) (K2 : ¬ x < y → W l Z n0 R B Q h cells slots q' Ls St) : W l Z n0 R B Q h cells slots pc Ls (.int y :: .int x :: St) :=
  W.icmp hd ho hq hq' (fun hc => K1 (by simpa [if_icmp.holds, Int32.not_lt, Int32.not_le] using hc)) (fun hc => K2 (by simpa [if_icmp.holds, Int32.not_lt, Int32.not_le] using hc))
theorem W.ifc_lt {o : Int} {x : Int32} {q' : Nat} (hd : decode B.bytes pc = .ok (.ifCond .lt o, 3)) (ho : 0 ≤ (pc : Int) + o) (hq : ((pc : Int) + o).toNat = q) (hq' : pc + 3 = q') (K1 : x < 0 → W l Z n0 R B Q h cells slots q Ls St) (K2 : ¬ x < 0 → W l Z n0 R B Q h cells slots q' Ls St) : W l Z n0 R B Q h cells slots pc Ls (.int x :: St) :=
  W.ifc hd ho hq hq' (fun hc => K1 (by simpa [if_icmp.holds, Int32.not_lt, Int32.not_le] using hc)) (fun hc => K2 (by simpa [if_icmp.holds, Int32.not_lt, Int32.not_le] using hc))
theorem W.icmp_ge {o : Int} {x y : Int32} {q' : Nat} (hd : decode B.bytes pc = .ok (.if_icmp .ge o, 3)) (ho : 0 ≤ (pc : Int) + o) (hq : ((pc : Int) + o).toNat = q) (hq' : pc + 3 = q') (K1 : ¬ x < y → W l Z n0 R B Q h cells slots q Ls St) (K2 : x < y → W l Z n0 R B Q h cells slots q' Ls St) : W l Z n0 R B Q h cells slots pc Ls (.int y :: .int x :: St) :=
  W.icmp hd ho hq hq' (fun hc => K1 (by simpa [if_icmp.holds, Int32.not_lt, Int32.not_le] using hc)) (fun hc => K2 (by simpa [if_icmp.holds, Int32.not_lt, Int32.not_le] using hc))
theorem W.ifc_ge {o : Int} {x : Int32} {q' : Nat} (hd : decode B.bytes pc = .ok (.ifCond .ge o, 3)) (ho : 0 ≤ (pc : Int) + o) (hq : ((pc : Int) + o).toNat = q) (hq' : pc + 3 = q') (K1 : ¬ x < 0 → W l Z n0 R B Q h cells slots q Ls St) (K2 : x < 0 → W l Z n0 R B Q h cells slots q' Ls St) : W l Z n0 R B Q h cells slots pc Ls (.int x :: St) :=
  W.ifc hd ho hq hq' (fun hc => K1 (by simpa [if_icmp.holds, Int32.not_lt, Int32.not_le] using hc)) (fun hc => K2 (by simpa [if_icmp.holds, Int32.not_lt, Int32.not_le] using hc))
theorem W.icmp_gt {o : Int} {x y : Int32} {q' : Nat} (hd : decode B.bytes pc = .ok (.if_icmp .gt o, 3)) (ho : 0 ≤ (pc : Int) + o) (hq : ((pc : Int) + o).toNat = q) (hq' : pc + 3 = q') (K1 : y < x → W l Z n0 R B Q h cells slots q Ls St) (K2 : ¬ y < x → W l Z n0 R B Q h cells slots q' Ls St) : W l Z n0 R B Q h cells slots pc Ls (.int y :: .int x :: St) :=
  W.icmp hd ho hq hq' (fun hc => K1 (by simpa [if_icmp.holds, Int32.not_lt, Int32.not_le] using hc)) (fun hc => K2 (by simpa [if_icmp.holds, Int32.not_lt, Int32.not_le] using hc))
theorem W.ifc_gt {o : Int} {x : Int32} {q' : Nat} (hd : decode B.bytes pc = .ok (.ifCond .gt o, 3)) (ho : 0 ≤ (pc : Int) + o) (hq : ((pc : Int) + o).toNat = q) (hq' : pc + 3 = q') (K1 : 0 < x → W l Z n0 R B Q h cells slots q Ls St) (K2 : ¬ 0 < x → W l Z n0 R B Q h cells slots q' Ls St) : W l Z n0 R B Q h cells slots pc Ls (.int x :: St) :=
  W.ifc hd ho hq hq' (fun hc => K1 (by simpa [if_icmp.holds, Int32.not_lt, Int32.not_le] using hc)) (fun hc => K2 (by simpa [if_icmp.holds, Int32.not_lt, Int32.not_le] using hc))
theorem W.icmp_le {o : Int} {x y : Int32} {q' : Nat} (hd : decode B.bytes pc = .ok (.if_icmp .le o, 3)) (ho : 0 ≤ (pc : Int) + o) (hq : ((pc : Int) + o).toNat = q) (hq' : pc + 3 = q') (K1 : ¬ y < x → W l Z n0 R B Q h cells slots q Ls St) (K2 : y < x → W l Z n0 R B Q h cells slots q' Ls St) : W l Z n0 R B Q h cells slots pc Ls (.int y :: .int x :: St) :=
  W.icmp hd ho hq hq' (fun hc => K1 (by simpa [if_icmp.holds, Int32.not_lt, Int32.not_le] using hc)) (fun hc => K2 (by simpa [if_icmp.holds, Int32.not_lt, Int32.not_le] using hc))
theorem W.ifc_le {o : Int} {x : Int32} {q' : Nat} (hd : decode B.bytes pc = .ok (.ifCond .le o, 3)) (ho : 0 ≤ (pc : Int) + o) (hq : ((pc : Int) + o).toNat = q) (hq' : pc + 3 = q') (K1 : ¬ 0 < x → W l Z n0 R B Q h cells slots q Ls St) (K2 : 0 < x → W l Z n0 R B Q h cells slots q' Ls St) : W l Z n0 R B Q h cells slots pc Ls (.int x :: St) :=
  W.ifc hd ho hq hq' (fun hc => K1 (by simpa [if_icmp.holds, Int32.not_lt, Int32.not_le] using hc)) (fun hc => K2 (by simpa [if_icmp.holds, Int32.not_lt, Int32.not_le] using hc))
theorem W.ifnull_yes {o : Int} (hd : decode B.bytes pc = .ok (.ifnull o, 3)) (ho : 0 ≤ (pc : Int) + o) (hq : ((pc : Int) + o).toNat = q) (K : W l Z n0 R B Q h cells slots q Ls St) : W l Z n0 R B Q h cells slots pc Ls (.null :: St) :=
  W.same K (fun p e s m args below meth c T locs C X eT t hr => XS.ifnullYes (g := mkF m pc ⟨Ls⟩ (.null :: St)) X.here C.1 rfl rfl (hb C.2.1 hd) rfl ho hq hr)
theorem W.ifnull_no {o : Int} {b : Addr} (hd : decode B.bytes pc = .ok (.ifnull o, 3)) (hq : pc + 3 = q) (K : W l Z n0 R B Q h cells slots q Ls St) : W l Z n0 R B Q h cells slots pc Ls (.ref b :: St) := by
  subst hq; exact W.same K (fun p e s m args below meth c T locs C X eT t hr => XS.ifnullNo (g := mkF m pc ⟨Ls⟩ (.ref b :: St)) X.here C.1 rfl (hb C.2.1 hd) rfl hr)
theorem W.ifnonnull_yes {o : Int} {b : Addr} (hd : decode B.bytes pc = .ok (.ifnonnull o, 3)) (ho : 0 ≤ (pc : Int) + o) (hq : ((pc : Int) + o).toNat = q) (K : W l Z n0 R B Q h cells slots q Ls St) : W l Z n0 R B Q h cells slots pc Ls (.ref b :: St) :=
  W.same K (fun p e s m args below meth c T locs C X eT t hr => XS.ifnonnullYes (g := mkF m pc ⟨Ls⟩ (.ref b :: St)) X.here C.1 rfl rfl (hb C.2.1 hd) rfl ho hq hr)
theorem W.ifnonnull_no {o : Int} (hd : decode B.bytes pc = .ok (.ifnonnull o, 3)) (hq : pc + 3 = q) (K : W l Z n0 R B Q h cells slots q Ls St) : W l Z n0 R B Q h cells slots pc Ls (.null :: St) := by
  subst hq; exact W.same K (fun p e s m args below meth c T locs C X eT t hr => XS.ifnonnullNo (g := mkF m pc ⟨Ls⟩ (.null :: St)) X.here C.1 rfl (hb C.2.1 hd) rfl hr)
theorem W.acmp_ne {o : Int} {x y : Value} {q' : Nat} (hd : decode B.bytes pc = .ok (.if_acmp .ne o, 3)) (h1 : x.isRef = true) (h2 : y.isRef = true) (ho : 0 ≤ (pc : Int) + o) (hq : ((pc : Int) + o).toNat = q) (hq' : pc + 3 = q') (K1 : ¬ x = y → W l Z n0 R B Q h cells slots q Ls St) (K2 : x = y → W l Z n0 R B Q h cells slots q' Ls St) : W l Z n0 R B Q h cells slots pc Ls (y :: x :: St) := by
  subst hq hq'
  by_cases hc : x = y
  · exact W.same (K2 hc) (fun p e s m args below meth c T locs C X eT t hr => acmp (g := mkF m pc ⟨Ls⟩ (y :: x :: St)) X C.1 rfl h1 h2 rfl (hb C.2.1 hd) rfl (same := true) (by simpa using hc) ho (by simp [acV]) hr)
  · exact W.same (K1 hc) (fun p e s m args below meth c T locs C X eT t hr => acmp (g := mkF m pc ⟨Ls⟩ (y :: x :: St)) X C.1 rfl h1 h2 rfl (hb C.2.1 hd) rfl (same := false) (by simpa using hc) ho (by simp [acV]) hr)
theorem W.acmp_eq {o : Int} {x y : Value} {q' : Nat} (hd : decode B.bytes pc = .ok (.if_acmp .eq o, 3)) (h1 : x.isRef = true) (h2 : y.isRef = true) (ho : 0 ≤ (pc : Int) + o) (hq : ((pc : Int) + o).toNat = q) (hq' : pc + 3 = q') (K1 : x = y → W l Z n0 R B Q h cells slots q Ls St) (K2 : ¬ x = y → W l Z n0 R B Q h cells slots q' Ls St) : W l Z n0 R B Q h cells slots pc Ls (y :: x :: St) := by
  subst hq hq'
  by_cases hc : x = y
  · exact W.same (K1 hc) (fun p e s m args below meth c T locs C X eT t hr => acmp (g := mkF m pc ⟨Ls⟩ (y :: x :: St)) X C.1 rfl h1 h2 rfl (hb C.2.1 hd) rfl (same := true) (by simpa using hc) ho (by simp [acV]) hr)
  · exact W.same (K2 hc) (fun p e s m args below meth c T locs C X eT t hr => acmp (g := mkF m pc ⟨Ls⟩ (y :: x :: St)) X C.1 rfl h1 h2 rfl (hb C.2.1 hd) rfl (same := false) (by simpa using hc) ho (by simp [acV]) hr)
/-! ### the ends -/
theorem W.ireturn {z : Int32} (hd : decode B.bytes pc = .ok (.ireturn, 1)) (hret : B.ret = some .int) (hQ : Q (some (.int z)) h) : W l Z n0 R B Q h cells slots pc Ls (.int z :: St) := by
  intro p e s m args below meth c T locs C X eT N hc hs
  obtain ⟨fs, hr, hrun, hended, hW, hsame⟩ := X.leave (v := some (.int z)) (fun q => by rw [C.2.2.2.2.2.1, hret] at q; cases q) C.2.2.2.2.2.2.1
  exact ⟨_, _, locs, retOut X C.1 (C.2.2.2.2.2.1.trans hret) rfl (Or.inl ⟨rfl, Or.inl rfl, _, rfl⟩) (hb C.2.1 hd) hr, hrun, hended, eT ▸ hQ, N, ⟨_, rfl⟩, hW, hsame.mono hc hs⟩
theorem W.lreturn {z : Int64} (hd : decode B.bytes pc = .ok (.lreturn, 1)) (hret : B.ret = some .long) (hQ : Q (some (.long z)) h) : W l Z n0 R B Q h cells slots pc Ls (.long z :: St) := by
  intro p e s m args below meth c T locs C X eT N hc hs
  obtain ⟨fs, hr, hrun, hended, hW, hsame⟩ := X.leave (v := some (.long z)) (fun q => by rw [C.2.2.2.2.2.1, hret] at q; cases q) C.2.2.2.2.2.2.1
  exact ⟨_, _, locs, retOut X C.1 (C.2.2.2.2.2.1.trans hret) rfl (Or.inr (Or.inl ⟨rfl, rfl, _, rfl⟩)) (hb C.2.1 hd) hr, hrun, hended, eT ▸ hQ, N, ⟨_, rfl⟩, hW, hsame.mono hc hs⟩
theorem W.areturn {w : Value} {t : FieldType} (hd : decode B.bytes pc = .ok (.areturn, 1)) (hret : B.ret = some t) (ht : t.isReference = true) (hw : w.isRef = true) (hn : narrow t w = w) (hQ : Q (some w) h) : W l Z n0 R B Q h cells slots pc Ls (w :: St) := by
  intro p e s m args below meth c T locs C X eT N hc hs
  obtain ⟨fs, hr, hrun, hended, hW, hsame⟩ := X.leave (v := some w) (fun q => by rw [C.2.2.2.2.2.1, hret] at q; cases q) C.2.2.2.2.2.2.1
  exact ⟨_, _, locs, retOut X C.1 (C.2.2.2.2.2.1.trans hret) hn (Or.inr (Or.inr (Or.inr (Or.inr ⟨rfl, ht, hw⟩)))) (hb C.2.1 hd) hr, hrun, hended, eT ▸ hQ, N, ⟨_, rfl⟩, hW, hsame.mono hc hs⟩
theorem W.ireturnN {z z' : Int32} {t : FieldType} (hd : decode B.bytes pc = .ok (.ireturn, 1)) (hret : B.ret = some t) (ht : t = .boolean ∨ t = .byte ∨ t = .char ∨ t = .short) (hz : nar t z = z') (hQ : Q (some (.int z')) h) : W l Z n0 R B Q h cells slots pc Ls (.int z :: St) := by
  intro p e s m args below meth c T locs C X eT N hc hs
  subst hz
  obtain ⟨fs, hr, hrun, hended, hW, hsame⟩ := X.leave (v := some (.int (nar t z))) (fun q => by rw [C.2.2.2.2.2.1, hret] at q; cases q) C.2.2.2.2.2.2.1
  exact ⟨_, _, locs, retN X C.1 (C.2.2.2.2.2.1.trans hret) ht (hb C.2.1 hd) hr, hrun, hended, eT ▸ hQ, N, ⟨_, rfl⟩, hW, hsame.mono hc hs⟩
theorem W.vret (hd : decode B.bytes pc = .ok (.return_, 1)) (hret : B.ret = none) (hQ : Q none h) : W l Z n0 R B Q h cells slots pc Ls [] := by
  intro p e s m args below meth c T locs C X eT N hc hs
  obtain ⟨fs, hr, hrun, hended, hW, hsame⟩ := X.leave (v := none) (fun _ => rfl) C.2.2.2.2.2.2.1
  exact ⟨_, _, locs, X.returnOut C.1 (C.2.2.2.2.2.1.trans hret) (hb C.2.1 hd) hr, hrun, hended, eT ▸ hQ, N, ⟨_, rfl⟩, hW, hsame.mono hc hs⟩
theorem W.mono {Q' : Option Value → Heap → Prop} (hQ : ∀ v h, Q v h → Q' v h) (K : W l Z n0 R B Q h cells slots pc Ls St) : W l Z n0 R B Q' h cells slots pc Ls St := by
  intro p e s m args below meth c T locs C X eT N hc hs
  obtain ⟨s₂, v, L, h1, h2, h3, h4, h5⟩ := K p e s m args below meth c T locs C X eT N hc hs
  exact ⟨s₂, v, L, h1, h2, h3, hQ _ _ h4, h5⟩
theorem W.weak {c' s' : Nat} (hc : cells ≤ c') (hs : slots ≤ s') (hR : c' ≤ R.cells) (hR' : s' ≤ R.slots) (K : W l Z n0 R B Q h c' s' pc Ls St) : W l Z n0 R B Q h cells slots pc Ls St := by
  intro p e s m args below meth c T locs C X eT N _ _
  exact K p e s m args below meth c T locs C (X.more hc hs) eT N hR hR'
/-! ### arrays of ints (bytes, booleans, chars, shorts) and of longs -/
def AI (Z : State) (h : Heap) (a : Addr) (ty : FieldType) (xs : List Int32) : Prop := ∃ cl : Cell, Arr Z h a cl ty ∧ cl.slots = ⟨xs.map Value.int⟩ ∧ xs.length < 2 ^ 31
def AJ (Z : State) (h : Heap) (a : Addr) (xs : List Int64) : Prop := ∃ cl : Cell, Arr Z h a cl .long ∧ cl.slots = ⟨xs.map Value.long⟩ ∧ xs.length < 2 ^ 31
section Facts
variable {h' : Heap} {a b : Addr} {ty : FieldType} {xs : List Int32} {ys : List Int64} {sl : Nat} {v : Value} {ws : List Addr}
theorem AI.lt (A : AI Z h a ty xs) : a < h.size := by obtain ⟨c, A, -⟩ := A; exact A.lt
theorem AI.ext (A : AI Z h a ty xs) (E : Ext h h') : AI Z h' a ty xs := by obtain ⟨c, A, r⟩ := A; exact ⟨c, A.ext E, r⟩
theorem AI.keep (A : AI Z h a ty xs) (K : Keep h h' ws) (q : a ∉ ws) : AI Z h' a ty xs := by obtain ⟨c, A, r⟩ := A; exact ⟨c, ⟨K.2.1 a c A.1 q, A.2⟩, r⟩
theorem AI.other (A : AI Z h b ty xs) (w : Wr h h' a sl v) (q : b ≠ a) : AI Z h' b ty xs := by obtain ⟨c, A, r⟩ := A; exact ⟨c, A.other w q, r⟩
theorem AI.set {x : Int32} (A : AI Z h a ty xs) (w : Wr h h' a sl (.int x)) : AI Z h' a ty (xs.set sl x) := by
  obtain ⟨c, A, r, r'⟩ := A
  exact ⟨_, A.same w, by simp [Cell.setSlot, r, List.map_set], by simpa using r'⟩
theorem AJ.lt (A : AJ Z h a ys) : a < h.size := by obtain ⟨c, A, -⟩ := A; exact A.lt
theorem AJ.ext (A : AJ Z h a ys) (E : Ext h h') : AJ Z h' a ys := by obtain ⟨c, A, r⟩ := A; exact ⟨c, A.ext E, r⟩
theorem AJ.keep (A : AJ Z h a ys) (K : Keep h h' ws) (q : a ∉ ws) : AJ Z h' a ys := by obtain ⟨c, A, r⟩ := A; exact ⟨c, ⟨K.2.1 a c A.1 q, A.2⟩, r⟩
theorem AJ.other (A : AJ Z h b ys) (w : Wr h h' a sl v) (q : b ≠ a) : AJ Z h' b ys := by obtain ⟨c, A, r⟩ := A; exact ⟨c, A.other w q, r⟩
theorem AJ.set {x : Int64} (A : AJ Z h a ys) (w : Wr h h' a sl (.long x)) : AJ Z h' a (ys.set sl x) := by
  obtain ⟨c, A, r, r'⟩ := A
  exact ⟨_, A.same w, by simp [Cell.setSlot, r, List.map_set], by simpa using r'⟩
end Facts
theorem W.newarrayI {aty : ArrayType} {ty : FieldType} {n : Int32} {cap : Nat} (hd : decode B.bytes pc = .ok (.newarray aty, 2)) (hty : newarray.typeOf aty = ty) (h0 : defaultValue ty = .int 0) (w : (Cond.arrayClass ty).before a0 Z = true) (hn : ¬ n < 0) (hcap : n.toNatClampNeg ≤ cap) (hbig : cap * 8 ≤ 536870912) (hc : cells + 1 ≤ R.cells) (hl : slots + cap ≤ R.slots) (hq : pc + 2 = q)
    (K : ∀ h', Ext h h' → AI Z h' h.size ty (List.replicate n.toNatClampNeg 0) → W l Z n0 R B Q h' (cells + 1) (slots + cap) q Ls (.ref h.size :: St)) : W l Z n0 R B Q h cells slots pc Ls (.int n :: St) := by
  subst hq hty
  intro p e s m args below meth c T locs C X eT N _ _
  obtain ⟨T', h', cA, X', eT', E, A, st⟩ := newP X C.1 C.2.2.2.1 w eT (g := mkF m pc ⟨Ls⟩ (.int n :: St)) rfl (hb C.2.1 hd) rfl hn hcap hbig hc hl
  obtain ⟨s₂, v, L, h1, h2⟩ := K h' E ⟨_, A, by simp [newA, h0, ← Array.toList_inj], by simpa using (back32 hn).2⟩ p e s m args below meth c T' locs C X' eT' N hc hl
  exact ⟨s₂, v, L, st _ h1, h2⟩
theorem W.newarrayJ {n : Int32} {cap : Nat} (hd : decode B.bytes pc = .ok (.newarray .long, 2)) (w : (Cond.arrayClass .long).before a0 Z = true) (hn : ¬ n < 0) (hcap : n.toNatClampNeg ≤ cap) (hbig : cap * 8 ≤ 536870912) (hc : cells + 1 ≤ R.cells) (hl : slots + cap ≤ R.slots) (hq : pc + 2 = q)
    (K : ∀ h', Ext h h' → AJ Z h' h.size (List.replicate n.toNatClampNeg 0) → W l Z n0 R B Q h' (cells + 1) (slots + cap) q Ls (.ref h.size :: St)) : W l Z n0 R B Q h cells slots pc Ls (.int n :: St) := by
  subst hq
  intro p e s m args below meth c T locs C X eT N _ _
  obtain ⟨T', h', cA, X', eT', E, A, st⟩ := newP X (aty := .long) C.1 C.2.2.2.1 w eT (g := mkF m pc ⟨Ls⟩ (.int n :: St)) rfl (hb C.2.1 hd) rfl hn hcap hbig hc hl
  have A' : Arr Z h' h.size (newA cA .long n) .long := A
  have e1 : (newA cA .long n).slots = ⟨(List.replicate n.toNatClampNeg (0 : Int64)).map Value.long⟩ := by simp [newA, defaultValue, ← Array.toList_inj]
  have e2 : (List.replicate n.toNatClampNeg (0 : Int64)).length < 2 ^ 31 := by rw [List.length_replicate]; exact (back32 hn).2
  obtain ⟨s₂, v, L, h1, h2⟩ := K h' E ⟨_, A', e1, e2⟩ p e s m args below meth c T' locs C X' eT' N hc hl
  exact ⟨s₂, v, L, st _ h1, h2⟩
theorem inI {cl : Cell} {xs : List Int32} {j v : Int32} (hs : cl.slots = ⟨xs.map Value.int⟩) (h0 : ¬ j < 0) (hv : xs[j.toNatClampNeg]? = some v) : ¬ (j < 0 ∨ cl.slots.size ≤ j.toNatClampNeg) ∧ cl.slots[j.toNatClampNeg]? = some (.int v) := by
  obtain ⟨h1, -⟩ := List.getElem?_eq_some_iff.mp hv
  refine ⟨fun q => q.elim h0 fun q => ?_, by simp [hs, hv]⟩
  rw [hs] at q; simp at q; omega
theorem inJ {cl : Cell} {xs : List Int64} {j : Int32} {v : Int64} (hs : cl.slots = ⟨xs.map Value.long⟩) (h0 : ¬ j < 0) (hv : xs[j.toNatClampNeg]? = some v) : ¬ (j < 0 ∨ cl.slots.size ≤ j.toNatClampNeg) ∧ cl.slots[j.toNatClampNeg]? = some (.long v) := by
  obtain ⟨h1, -⟩ := List.getElem?_eq_some_iff.mp hv
  refine ⟨fun q => q.elim h0 fun q => ?_, by simp [hs, hv]⟩
  rw [hs] at q; simp at q; omega
theorem W.iaload {a : Addr} {xs : List Int32} {j v : Int32} (hd : decode B.bytes pc = .ok (.iaload, 1)) (A : AI Z h a .int xs) (h0 : ¬ j < 0) (hv : xs[j.toNatClampNeg]? = some v) (hq : pc + 1 = q) (K : W l Z n0 R B Q h cells slots q Ls (.int v :: St)) : W l Z n0 R B Q h cells slots pc Ls (.int j :: .ref a :: St) := by
  subst hq; obtain ⟨cl, A, hs, -⟩ := A
  exact W.same K (fun p e s m args below meth c T locs C X eT t hr => X.iaload (g := mkF m pc ⟨Ls⟩ (.int j :: .ref a :: St)) C.1 (by rw [eT]; exact A.1) (State.isArrayOf_alike C.2.2.2.1.alike A.2.1) A.2.2 (inI hs h0 hv).1 (inI hs h0 hv).2 rfl rfl (hb C.2.1 hd) t hr)
theorem W.baloadB {a : Addr} {xs : List Int32} {j v : Int32} (hd : decode B.bytes pc = .ok (.baload, 1)) (A : AI Z h a .byte xs) (h0 : ¬ j < 0) (hv : xs[j.toNatClampNeg]? = some v) (hq : pc + 1 = q) (K : W l Z n0 R B Q h cells slots q Ls (.int v :: St)) : W l Z n0 R B Q h cells slots pc Ls (.int j :: .ref a :: St) := by
  subst hq; obtain ⟨cl, A, hs, -⟩ := A
  exact W.same K (fun p e s m args below meth c T locs C X eT t hr => X.baloadBytes (g := mkF m pc ⟨Ls⟩ (.int j :: .ref a :: St)) C.1 (by rw [eT]; exact A.1) (State.isArrayOf_alike C.2.2.2.1.alike A.2.1) A.2.2 (inI hs h0 hv).1 (inI hs h0 hv).2 rfl rfl (hb C.2.1 hd) t hr)
theorem W.baloadZ {a : Addr} {xs : List Int32} {j v : Int32} (hd : decode B.bytes pc = .ok (.baload, 1)) (A : AI Z h a .boolean xs) (h0 : ¬ j < 0) (hv : xs[j.toNatClampNeg]? = some v) (hq : pc + 1 = q) (K : W l Z n0 R B Q h cells slots q Ls (.int v :: St)) : W l Z n0 R B Q h cells slots pc Ls (.int j :: .ref a :: St) := by
  subst hq; obtain ⟨cl, A, hs, -⟩ := A
  exact W.same K (fun p e s m args below meth c T locs C X eT t hr => X.baloadBooleans (g := mkF m pc ⟨Ls⟩ (.int j :: .ref a :: St)) C.1 (by rw [eT]; exact A.1) (State.isArrayOf_alike C.2.2.2.1.alike A.2.1) A.2.2 (inI hs h0 hv).1 (inI hs h0 hv).2 rfl rfl (hb C.2.1 hd) t hr)
theorem W.laload {a : Addr} {xs : List Int64} {j : Int32} {v : Int64} (hd : decode B.bytes pc = .ok (.laload, 1)) (A : AJ Z h a xs) (h0 : ¬ j < 0) (hv : xs[j.toNatClampNeg]? = some v) (hq : pc + 1 = q) (K : W l Z n0 R B Q h cells slots q Ls (.long v :: St)) : W l Z n0 R B Q h cells slots pc Ls (.int j :: .ref a :: St) := by
  subst hq; obtain ⟨cl, A, hs, -⟩ := A
  exact W.same K (fun p e s m args below meth c T locs C X eT t hr => X.laload (g := mkF m pc ⟨Ls⟩ (.int j :: .ref a :: St)) C.1 (by rw [eT]; exact A.1) (State.isArrayOf_alike C.2.2.2.1.alike A.2.1) A.2.2 (inJ hs h0 hv).1 (inJ hs h0 hv).2 rfl rfl (hb C.2.1 hd) t hr)
theorem W.arraylengthI {a : Addr} {ty : FieldType} {xs : List Int32} {n : Int32} (hd : decode B.bytes pc = .ok (.arraylength, 1)) (A : AI Z h a ty xs) (hn : xs.length.toInt32 = n) (hq : pc + 1 = q) (K : W l Z n0 R B Q h cells slots q Ls (.int n :: St)) : W l Z n0 R B Q h cells slots pc Ls (.ref a :: St) := by
  subst hq hn; obtain ⟨cl, A, hs, -⟩ := A
  have e1 : cl.slots.size = xs.length := by simp [hs]
  rw [← e1] at K
  exact W.same K (fun p e s m args below meth c T locs C X eT t hr => X.arraylength (g := mkF m pc ⟨Ls⟩ (.ref a :: St)) C.1 (by rw [eT]; exact A.1) (State.isArrayOf_alike C.2.2.2.1.alike A.2.1) rfl rfl (hb C.2.1 hd) t hr)
theorem W.arraylengthJ {a : Addr} {xs : List Int64} {n : Int32} (hd : decode B.bytes pc = .ok (.arraylength, 1)) (A : AJ Z h a xs) (hn : xs.length.toInt32 = n) (hq : pc + 1 = q) (K : W l Z n0 R B Q h cells slots q Ls (.int n :: St)) : W l Z n0 R B Q h cells slots pc Ls (.ref a :: St) := by
  subst hq hn; obtain ⟨cl, A, hs, -⟩ := A
  have e1 : cl.slots.size = xs.length := by simp [hs]
  rw [← e1] at K
  exact W.same K (fun p e s m args below meth c T locs C X eT t hr => X.arraylength (g := mkF m pc ⟨Ls⟩ (.ref a :: St)) C.1 (by rw [eT]; exact A.1) (State.isArrayOf_alike C.2.2.2.1.alike A.2.1) rfl rfl (hb C.2.1 hd) t hr)
theorem outI {cl : Cell} {xs : List Int32} {j : Int32} (hs : cl.slots = ⟨xs.map Value.int⟩) (h0 : ¬ j < 0) (hj : j.toNatClampNeg < xs.length) : ¬ (j < 0 ∨ cl.slots.size ≤ j.toNatClampNeg) := fun q => q.elim h0 fun q => by
  rw [hs] at q; simp at q; omega
theorem outJ {cl : Cell} {xs : List Int64} {j : Int32} (hs : cl.slots = ⟨xs.map Value.long⟩) (h0 : ¬ j < 0) (hj : j.toNatClampNeg < xs.length) : ¬ (j < 0 ∨ cl.slots.size ≤ j.toNatClampNeg) := fun q => q.elim h0 fun q => by
  rw [hs] at q; simp at q; omega
theorem W.iastore {a : Addr} {xs : List Int32} {j x : Int32} (hd : decode B.bytes pc = .ok (.iastore, 1)) (A : AI Z h a .int xs) (h0 : ¬ j < 0) (hj : j.toNatClampNeg < xs.length) (ha : n0 ≤ a) (hq : pc + 1 = q) (K : ∀ h', Wr h h' a j.toNatClampNeg (.int x) → AI Z h' a .int (xs.set j.toNatClampNeg x) → W l Z n0 R B Q h' cells slots q Ls St) : W l Z n0 R B Q h cells slots pc Ls (.int x :: .int j :: .ref a :: St) := by
  subst hq; obtain ⟨cl, A', hs, hl⟩ := A
  exact W.wrote (fun p e s m args below meth c T locs C X eT => stI X (g := mkF m pc ⟨Ls⟩ (.int x :: .int j :: .ref a :: St)) C.1 C.2.2.2.1 eT A' (outI hs h0 hj) rfl rfl (hb C.2.1 hd)) ha (fun h' w => K h' w (AI.set ⟨cl, A', hs, hl⟩ w))
theorem W.bastoreB {a : Addr} {xs : List Int32} {j x x' : Int32} (hd : decode B.bytes pc = .ok (.bastore, 1)) (A : AI Z h a .byte xs) (h0 : ¬ j < 0) (hj : j.toNatClampNeg < xs.length) (hx : x.toInt8.toInt32 = x') (ha : n0 ≤ a) (hq : pc + 1 = q) (K : ∀ h', Wr h h' a j.toNatClampNeg (.int x') → AI Z h' a .byte (xs.set j.toNatClampNeg x') → W l Z n0 R B Q h' cells slots q Ls St) : W l Z n0 R B Q h cells slots pc Ls (.int x :: .int j :: .ref a :: St) := by
  subst hq hx; obtain ⟨cl, A', hs, hl⟩ := A
  exact W.wrote (fun p e s m args below meth c T locs C X eT => stB X (g := mkF m pc ⟨Ls⟩ (.int x :: .int j :: .ref a :: St)) C.1 C.2.2.2.1 eT A' (outI hs h0 hj) rfl rfl (hb C.2.1 hd)) ha (fun h' w => K h' w (AI.set ⟨cl, A', hs, hl⟩ w))
theorem W.bastoreZ {a : Addr} {xs : List Int32} {j x x' : Int32} (hd : decode B.bytes pc = .ok (.bastore, 1)) (A : AI Z h a .boolean xs) (h0 : ¬ j < 0) (hj : j.toNatClampNeg < xs.length) (hx : x &&& 1 = x') (ha : n0 ≤ a) (hq : pc + 1 = q) (K : ∀ h', Wr h h' a j.toNatClampNeg (.int x') → AI Z h' a .boolean (xs.set j.toNatClampNeg x') → W l Z n0 R B Q h' cells slots q Ls St) : W l Z n0 R B Q h cells slots pc Ls (.int x :: .int j :: .ref a :: St) := by
  subst hq hx; obtain ⟨cl, A', hs, hl⟩ := A
  exact W.wrote (fun p e s m args below meth c T locs C X eT => stZ X (g := mkF m pc ⟨Ls⟩ (.int x :: .int j :: .ref a :: St)) C.1 C.2.2.2.1 eT A' (outI hs h0 hj) rfl rfl (hb C.2.1 hd)) ha (fun h' w => K h' w (AI.set ⟨cl, A', hs, hl⟩ w))
theorem W.lastore {a : Addr} {xs : List Int64} {j : Int32} {x : Int64} (hd : decode B.bytes pc = .ok (.lastore, 1)) (A : AJ Z h a xs) (h0 : ¬ j < 0) (hj : j.toNatClampNeg < xs.length) (ha : n0 ≤ a) (hq : pc + 1 = q) (K : ∀ h', Wr h h' a j.toNatClampNeg (.long x) → AJ Z h' a (xs.set j.toNatClampNeg x) → W l Z n0 R B Q h' cells slots q Ls St) : W l Z n0 R B Q h cells slots pc Ls (.long x :: .int j :: .ref a :: St) := by
  subst hq; obtain ⟨cl, A', hs, hl⟩ := A
  exact W.wrote (fun p e s m args below meth c T locs C X eT => stJ X (g := mkF m pc ⟨Ls⟩ (.long x :: .int j :: .ref a :: St)) C.1 C.2.2.2.1 eT A' (outJ hs h0 hj) rfl rfl (hb C.2.1 hd)) ha (fun h' w => K h' w (AJ.set ⟨cl, A', hs, hl⟩ w))
/-! ### fields, statics, objects -/
theorem W.getF {i : Nat} {O n d : String} {a : Addr} {v : Value} (hd : decode B.bytes pc = .ok (.getfield i, 3)) (w : (Cond.fieldLink B.own i O n d).before a0 Z = true) (F : Fld Z h a O n d v) (hq : pc + 3 = q) (K : W l Z n0 R B Q h cells slots q Ls (v :: St)) : W l Z n0 R B Q h cells slots pc Ls (.ref a :: St) := by
  subst hq; exact W.warm K (fun p e s m args below meth c T locs C X eT => RoadKit.getF X (g := mkF m pc ⟨Ls⟩ (.ref a :: St)) C.1 C.2.2.2.1 C.2.2.2.2.1 (host := "") (Or.inl w) Via.refl eT F rfl rfl (hb C.2.1 hd))
theorem W.getS {i : Nat} {O n d : String} {v : Value} (hd : decode B.bytes pc = .ok (.getstatic i, 3)) (w : (Cond.fieldLink B.own i O n d).before a0 Z = true) (F : Sta Z h O n d v) (hq : pc + 3 = q) (K : W l Z n0 R B Q h cells slots q Ls (v :: St)) : W l Z n0 R B Q h cells slots pc Ls St := by
  subst hq; exact W.warm K (fun p e s m args below meth c T locs C X eT => RoadKit.getS X (g := mkF m pc ⟨Ls⟩ St) C.1 C.2.2.2.1 (host := "") C.2.2.2.2.1 w Via.refl eT F rfl (hb C.2.1 hd))
theorem W.putF {i kk : Nat} {O n d C' : String} {a : Addr} {v old : Value} {ty : FieldType} (hd : decode B.bytes pc = .ok (.putfield i, 3)) (w : (Cond.fieldLink B.own i O n d).before a0 Z = true) (F : Fld Z h a O n d old) (E : Exa Z h a C') (L : (Cond.lays C' O n d).before a0 Z = true ∨ ((Cond.laysFinal C' O n d).before a0 Z = true ∧ B.own = O ∧ B.nm = "<init>")) (wi : (Cond.instantiable C' kk).before a0 Z = true)
    (hty : parseFieldDescriptor d = some ty) (hn : narrow ty v = v) (hf : fits ty v = true) (ha : n0 ≤ a) (hq : pc + 3 = q) (K : ∀ h', Wr h h' a (Jvm.RoadKit.slotOf Z O n d) v → W l Z n0 R B Q h' cells slots q Ls St) : W l Z n0 R B Q h cells slots pc Ls (v :: .ref a :: St) := by
  subst hq; exact W.wrote (fun p e s m args below meth c T locs C X eT => RoadKit.putF X (g := mkF m pc ⟨Ls⟩ (v :: .ref a :: St)) C.1 C.2.2.2.1 (host := "") C.2.2.2.2.1 (Or.inl w) Via.refl eT F E (L.imp id fun q => ⟨q.1, q.2.1, C.2.2.2.2.2.2.2.trans q.2.2⟩) wi hty hn hf rfl rfl (hb C.2.1 hd)) ha K
theorem W.newO {i n : Nat} {C' : String} (hd : decode B.bytes pc = .ok (.new i, 3)) (w : (Cond.classLink B.own i C').before a0 Z = true) (wi : (Cond.instantiable C' n).before a0 Z = true) (wz : (Cond.initialized C').before a0 Z = true) (hc : cells + 1 ≤ R.cells) (hl : slots + n ≤ R.slots) (hq : pc + 3 = q)
    (K : ∀ h', Ext h h' → Exa Z h' h.size C' → (∀ {O nm d : String} {ty : FieldType}, Laid Z a0 C' O nm d → parseFieldDescriptor d = some ty → Fld Z h' h.size O nm d (defaultValue ty)) → W l Z n0 R B Q h' (cells + 1) (slots + n) q Ls (.ref h.size :: St)) : W l Z n0 R B Q h cells slots pc Ls St := by
  subst hq
  intro p e s m args below meth c T locs C X eT N _ _
  obtain ⟨T', h', X', eT', E, A, D, -, st⟩ := RoadKit.newO X C.1 C.2.2.2.1 C.2.2.2.2.1 w wi wz eT (g := mkF m pc ⟨Ls⟩ St) rfl (hb C.2.1 hd) hc hl
  obtain ⟨s₂, v, L, h1, h2⟩ := K h' E A D p e s m args below meth c T' locs C X' eT' N hc hl
  exact ⟨s₂, v, L, st _ h1, h2⟩
theorem W.castY {i : Nat} {K' : String} {a : Addr} (hd : decode B.bytes pc = .ok (.checkcast i, 3)) (w : (Cond.classLink B.own i K').before a0 Z = true) (F : Ins Z h a K' true) (hq : pc + 3 = q) (K : W l Z n0 R B Q h cells slots q Ls (.ref a :: St)) : W l Z n0 R B Q h cells slots pc Ls (.ref a :: St) := by
  subst hq; exact W.warm K (fun p e s m args below meth c T locs C X eT => RoadKit.castY X C.1 C.2.2.2.1 C.2.2.2.2.1 w eT F (g := mkF m pc ⟨Ls⟩ (.ref a :: St)) rfl rfl (hb C.2.1 hd))
theorem W.instY {i : Nat} {K' : String} {a : Addr} (hd : decode B.bytes pc = .ok (.instanceof i, 3)) (w : (Cond.classLink B.own i K').before a0 Z = true) (F : Ins Z h a K' true) (hq : pc + 3 = q) (K : W l Z n0 R B Q h cells slots q Ls (.int 1 :: St)) : W l Z n0 R B Q h cells slots pc Ls (.ref a :: St) := by
  subst hq; exact W.warm K (fun p e s m args below meth c T locs C X eT => RoadKit.instY X C.1 C.2.2.2.1 C.2.2.2.2.1 w eT F (g := mkF m pc ⟨Ls⟩ (.ref a :: St)) rfl rfl (hb C.2.1 hd))
theorem W.instNo {i : Nat} {K' C' : String} {a : Addr} (hd : decode B.bytes pc = .ok (.instanceof i, 3)) (w : (Cond.classLink B.own i K').before a0 Z = true) (E : Exa Z h a C') (F : ∃ c t, Z.vm.findClass C' = some c ∧ Z.vm.findClass K' = some t ∧ Z.vm.assignable c t = false) (hq : pc + 3 = q) (K : W l Z n0 R B Q h cells slots q Ls (.int 0 :: St)) : W l Z n0 R B Q h cells slots pc Ls (.ref a :: St) := by
  subst hq; exact W.warm K (fun p e s m args below meth c T locs C X eT => RoadKit.instNo X C.1 C.2.2.2.1 C.2.2.2.2.1 w eT E F (g := mkF m pc ⟨Ls⟩ (.ref a :: St)) rfl rfl (hb C.2.1 hd))
theorem W.instNull {i : Nat} (hd : decode B.bytes pc = .ok (.instanceof i, 3)) (hq : pc + 3 = q) (K : W l Z n0 R B Q h cells slots q Ls (.int 0 :: St)) : W l Z n0 R B Q h cells slots pc Ls (.null :: St) := by
  subst hq; exact W.same K (fun p e s m args below meth c T locs C X eT t hr => X.instanceofNull C.1 (g := mkF m pc ⟨Ls⟩ (.null :: St)) rfl rfl (hb C.2.1 hd) t hr)
/-- what a callee leaves: an int, a long, a reference, nothing -/
def RI (P : Int32 → Heap → Prop) (v : Option Value) (h : Heap) : Prop := ∃ z, v = some (.int z) ∧ P z h
def RJ (P : Int64 → Heap → Prop) (v : Option Value) (h : Heap) : Prop := ∃ z, v = some (.long z) ∧ P z h
def RA (P : Value → Heap → Prop) (v : Option Value) (h : Heap) : Prop := ∃ z, v = some z ∧ P z h
def RN (P : Heap → Prop) (v : Option Value) (h : Heap) : Prop := v = none ∧ P h
/-! ### calls -/
def Met1 (l : Launch) (Z : State) (n0 : Nat) (y : MethodName) (B' : Bdy) (rm : Room) (as' : Array Value) (h : Heap) (Qc : Option Value → Heap → Prop) : Prop :=
  MetFree l y (head1 [Cond.code y B'.bytes B'.ml B'.ret] rm) (fun a U => a = as' ∧ Z.Warmed39 U.vm ∧ U.heap = h) (fun _ _ _ _ _ => True) (fun _ U o U' => ∃ v L, o = .returned v ∧ (Qc v U'.heap ∧ Fr n0 L) ∧ FrameEnd U o U' L rm.cells rm.slots)
theorem met_of {ws : List Jvm.Cond} {y : MethodName} {B' : Bdy} {rm : Room} {as' : Array Value} {Qc : Option Value → Heap → Prop} {L0 : List Slot} (hp : plainFor y = true) (ho : B'.own = y.cls) (hn : B'.nm = y.name) (hef : ∀ m, entryFrame m as' B'.ml = mkF m 0 ⟨L0⟩ []) (w : W l Z n0 rm B' Qc h 0 0 0 L0 []) :
    MetFree l y (head1 (Cond.code y B'.bytes B'.ml B'.ret :: ws) rm) (fun a U => a = as' ∧ Z.Warmed39 U.vm ∧ U.heap = h) (fun _ _ _ _ _ => True) (fun _ U o U' => ∃ v L, o = .returned v ∧ (Qc v U'.heap ∧ Fr n0 L) ∧ FrameEnd U o U' L rm.cells rm.slots) := by
  refine MetFree.of_bodySF hp hisR ?_
  intro p e s m args below meth c s₁ Bd hml0 hP hK
  obtain ⟨rfl, hZ, hh⟩ := hP
  have X0 : Stand p l e rm s m args below meth c s₁ [] 0 0 := Stand.of_body Bd
  have e0 : s₁.heap = h := by rw [← hh, Bd.state]; rfl
  obtain ⟨s₂, v, L, h1, h2, h3, h4, h5, h6⟩ := w p e s m args below meth c s₁ [] ⟨Bd.exec, Bd.bytes, hml0, hZ, by rw [ho]; exact findClass_of_methodNamed Bd.named, Bd.returns, Bd.notSynchronized, by rw [hn]; exact (name_of_methodNamed Bd.named Bd.method).1⟩ X0 e0 (Fr.nil n0) (Nat.zero_le _) (Nat.zero_le _)
  exact ⟨s₂, _, castTop (hef m) h1, h2, h3, v, L, rfl, ⟨h4, h5⟩, h6⟩
theorem W.callS {i : Nat} {y : MethodName} {B' : Bdy} {rm : Room} {Qc : Option Value → Heap → Prop} {L0 : List Slot} {argsL rest : List Value} {ps : List FieldType} {r : Option FieldType} (hd : decode B.bytes pc = .ok (.invokestatic i, 3)) (wl : (Cond.methodLink B.own i y).before a0 Z = true) (wst : (Cond.static y).before a0 Z = true) (wz : (Cond.initialized y.cls).before a0 Z = true) (wc : (Cond.code y B'.bytes B'.ml B'.ret).before a0 Z = true)
    (hst : argsL.reverse ++ rest = St) (w : W l Z n0 rm B' Qc h 0 0 0 L0 []) (hp : plainFor y = true) (hy : y.cls ≠ "java/lang/invoke/MethodHandle" ∧ y.cls ≠ "java/lang/invoke/VarHandle") (hpd : parseMethodDescriptor y.desc = some ⟨ps, r⟩) (ho : B'.own = y.cls) (hn : B'.nm = y.name) (hlen : argsL.length = ps.length) (hef : ∀ m, entryFrame m argsL.toArray B'.ml = mkF m 0 ⟨L0⟩ []) (hsz : Ls.length = B.ml)
    (hf : Nat.ble (rm.frames + 1) R.frames = true) (hlo : Nat.ble ((rest.map fun v => v.category).sum + (B'.ml + 11) + rm.locals) R.locals = true) (hc : Nat.ble (cells + rm.cells) R.cells = true) (hs : Nat.ble (slots + rm.slots) R.slots = true) (hq : pc + 3 = q)
    (K : ∀ v h', Qc v h' → W l Z n0 R B Q h' (cells + rm.cells) (slots + rm.slots) q Ls (v.toList ++ rest)) : W l Z n0 R B Q h cells slots pc Ls St := by
  subst hq hst
  intro p e s m args below meth c T locs C X eT N _ _
  have hc' := Nat.le_of_ble_eq_true hc
  have hs' := Nat.le_of_ble_eq_true hs
  obtain ⟨v, vm₁, ⟨T', L', c', s'⟩, -, X', ⟨Lc, hQ, l', y', z'⟩, st⟩ := Jvm.LawKit.callS X C.1 (y := y) C.2.2.2.2.1 (mvT C.2.2.2.1 wl) (mvT C.2.2.2.1 wst) (mvT C.2.2.2.1 wz) (mvT C.2.2.2.1 wc) hy
    (backOf (W := (rest.map fun v => v.category).sum) (Q := fun v h L => Qc v h ∧ Fr n0 L) (met_of (ws := []) hp ho hn hef w) C.2.2.2.1 wc wz (Nat.le_of_ble_eq_true hf) (Nat.le_of_ble_eq_true hlo)) (g := mkF m pc ⟨Ls⟩ (argsL.reverse ++ rest)) rfl (by show Ls.toArray.size = _; rw [C.2.2.1]; simpa using hsz) (argsL := argsL) (rest := rest) (lenOf hpd hlen) rfl (by show 2 * 0 + _ ≤ _; omega) (hb C.2.1 hd) (fun _ _ => ⟨rfl, eT, hc', hs'⟩)
  dsimp only [Pt.U, Pt.locs, Pt.cells, Pt.slots] at X' l' y' z' st hQ
  subst l' y' z'
  obtain ⟨s₂, v₂, L, h1, h2⟩ := K v T'.heap hQ.1 p e s m args below meth c T' _ C X' rfl (Fr.app N hQ.2) hc' hs'
  exact ⟨s₂, v₂, L, st _ h1, h2⟩
theorem W.callI {i : Nat} {y : MethodName} {B' : Bdy} {rm : Room} {Qc : Option Value → Heap → Prop} {L0 : List Slot} {a : Addr} {argsL rest : List Value} {ps : List FieldType} {r : Option FieldType} (hd : decode B.bytes pc = .ok (.invokespecial i, 3)) (wl : (Cond.methodLink B.own i y).before a0 Z = true) (wst : (Cond.instanceMethod y).before a0 Z = true) (wz : (Cond.initialized y.cls).before a0 Z = true) (wc : (Cond.code y B'.bytes B'.ml B'.ret).before a0 Z = true)
    (hst : argsL.reverse ++ .ref a :: rest = St) (w : W l Z n0 rm B' Qc h 0 0 0 L0 []) (hp : plainFor y = true) (hy : y.cls ≠ "java/lang/invoke/MethodHandle" ∧ y.cls ≠ "java/lang/invoke/VarHandle") (hpd : parseMethodDescriptor y.desc = some ⟨ps, r⟩) (ho : B'.own = y.cls) (hn : B'.nm = y.name) (hlen : argsL.length = ps.length) (hef : ∀ m, entryFrame m (.ref a :: argsL).toArray B'.ml = mkF m 0 ⟨L0⟩ []) (hsz : Ls.length = B.ml)
    (hf : Nat.ble (rm.frames + 1) R.frames = true) (hlo : Nat.ble ((rest.map fun v => v.category).sum + (B'.ml + 11) + rm.locals) R.locals = true) (hc : Nat.ble (cells + rm.cells) R.cells = true) (hs : Nat.ble (slots + rm.slots) R.slots = true) (hret : B'.ret = none) (hin : y.name = "<init>") (hq : pc + 3 = q)
    (K : ∀ v h', Qc v h' → W l Z n0 R B Q h' (cells + rm.cells) (slots + rm.slots) q Ls (v.toList ++ rest)) : W l Z n0 R B Q h cells slots pc Ls St := by
  subst hq hst
  intro p e s m args below meth c T locs C X eT N _ _
  have hc' := Nat.le_of_ble_eq_true hc
  have hs' := Nat.le_of_ble_eq_true hs
  obtain ⟨v, vm₁, ⟨T', L', c', s'⟩, -, X', ⟨Lc, hQ, l', y', z'⟩, st⟩ := X.specialBack C.1 (y := y) hin C.2.2.2.2.1 (mvT C.2.2.2.1 wl) (mvT C.2.2.2.1 wst) (mvT C.2.2.2.1 (hret ▸ wc)) hy
    (backOf (W := (rest.map fun v => v.category).sum) (Q := fun v h L => Qc v h ∧ Fr n0 L) (met_of (ws := []) hp ho hn hef w) C.2.2.2.1 wc wz (Nat.le_of_ble_eq_true hf) (Nat.le_of_ble_eq_true hlo)) (g := mkF m pc ⟨Ls⟩ (argsL.reverse ++ .ref a :: rest)) rfl (by show Ls.toArray.size = _; rw [C.2.2.1]; simpa using hsz) (Steps.refl _) (a := a) (argsL := argsL) (rest := rest) (lenOf hpd hlen) rfl (by show 2 * 0 + _ ≤ _; omega) (hb C.2.1 hd) (fun _ _ => ⟨rfl, eT, hc', hs'⟩)
  dsimp only [Pt.U, Pt.locs, Pt.cells, Pt.slots] at X' l' y' z' st hQ
  subst l' y' z'
  obtain ⟨s₂, v₂, L, h1, h2⟩ := K v T'.heap hQ.1 p e s m args below meth c T' _ C X' rfl (Fr.app N hQ.2) hc' hs'
  exact ⟨s₂, v₂, L, st.trans h1, h2⟩
theorem W.callV {i : Nat} {y : MethodName} {C' : String} {B' : Bdy} {rm : Room} {Qc : Option Value → Heap → Prop} {L0 : List Slot} {a : Addr} {argsL rest : List Value} {ps : List FieldType} {r : Option FieldType} (hd : decode B.bytes pc = .ok (.invokevirtual i, 3)) (wl : (Cond.methodLink B.own i y).before a0 Z = true) (wd : (Cond.declares y).before a0 Z = true) (wsel : (Cond.selects C' y y).before a0 Z = true) (wst : (Cond.instanceMethod y).before a0 Z = true) (wz : (Cond.initialized y.cls).before a0 Z = true) (wc : (Cond.code y B'.bytes B'.ml B'.ret).before a0 Z = true)
    (hst : argsL.reverse ++ .ref a :: rest = St) (E : Exa Z h a C') (w : W l Z n0 rm B' Qc h 0 0 0 L0 []) (hp : plainFor y = true) (hy : y.cls ≠ "java/lang/invoke/MethodHandle" ∧ y.cls ≠ "java/lang/invoke/VarHandle") (hpd : parseMethodDescriptor y.desc = some ⟨ps, r⟩) (ho : B'.own = y.cls) (hn : B'.nm = y.name) (hlen : argsL.length = ps.length) (hef : ∀ m, entryFrame m (.ref a :: argsL).toArray B'.ml = mkF m 0 ⟨L0⟩ []) (hsz : Ls.length = B.ml)
    (hf : Nat.ble (rm.frames + 1) R.frames = true) (hlo : Nat.ble ((rest.map fun v => v.category).sum + (B'.ml + 11) + rm.locals) R.locals = true) (hc : Nat.ble (cells + rm.cells) R.cells = true) (hs : Nat.ble (slots + rm.slots) R.slots = true) (hq : pc + 3 = q)
    (K : ∀ v h', Qc v h' → W l Z n0 R B Q h' (cells + rm.cells) (slots + rm.slots) q Ls (v.toList ++ rest)) : W l Z n0 R B Q h cells slots pc Ls St := by
  subst hq hst
  intro p e s m args below meth c T locs C X eT N _ _
  have hc' := Nat.le_of_ble_eq_true hc
  have hs' := Nat.le_of_ble_eq_true hs
  obtain ⟨cq, kq, qa, qb, qc⟩ := isOf C.2.2.2.1 eT E
  obtain ⟨v, vm₁, ⟨T', L', c', s'⟩, -, X', ⟨Lc, hQ, l', y', z'⟩, st⟩ := X.virtualBack C.1 (y := y) (z := y) C.2.2.2.2.1 (mvT C.2.2.2.1 wl) (mvT C.2.2.2.1 wd) (notFace_of_selects (args := #[]) (mvT C.2.2.2.1 wsel)) (mvT C.2.2.2.1 wsel) (mvT C.2.2.2.1 wst) hy
    (backOf (W := (rest.map fun v => v.category).sum) (Q := fun v h L => Qc v h ∧ Fr n0 L) (met_of (ws := []) hp ho hn hef w) C.2.2.2.1 wc wz (Nat.le_of_ble_eq_true hf) (Nat.le_of_ble_eq_true hlo)) qa qc (g := mkF m pc ⟨Ls⟩ (argsL.reverse ++ .ref a :: rest)) rfl (by show Ls.toArray.size = _; rw [C.2.2.1]; simpa using hsz) (Steps.refl _) (argsL := argsL) (rest := rest) (lenOf hpd hlen) rfl (by show 2 * 0 + _ ≤ _; omega) (hb C.2.1 hd) (fun _ _ => ⟨rfl, eT, hc', hs'⟩)
  dsimp only [Pt.U, Pt.locs, Pt.cells, Pt.slots] at X' l' y' z' st hQ
  subst l' y' z'
  obtain ⟨s₂, v₂, L, h1, h2⟩ := K v T'.heap hQ.1 p e s m args below meth c T' _ C X' rfl (Fr.app N hQ.2) hc' hs'
  exact ⟨s₂, v₂, L, st.trans h1, h2⟩
theorem W.callS_I {i : Nat} {y : MethodName} {B' : Bdy} {rm : Room} {P : Int32 → Heap → Prop} {L0 : List Slot} {argsL rest : List Value} {ps : List FieldType} {r : Option FieldType} (hd : decode B.bytes pc = .ok (.invokestatic i, 3)) (wl : (Cond.methodLink B.own i y).before a0 Z = true) (wst : (Cond.static y).before a0 Z = true) (wz : (Cond.initialized y.cls).before a0 Z = true) (wc : (Cond.code y B'.bytes B'.ml B'.ret).before a0 Z = true)
    (hst : argsL.reverse ++ rest = St) (w : W l Z n0 rm B' (RI P) h 0 0 0 L0 []) (hp : plainFor y = true) (hy : y.cls ≠ "java/lang/invoke/MethodHandle" ∧ y.cls ≠ "java/lang/invoke/VarHandle") (hpd : parseMethodDescriptor y.desc = some ⟨ps, r⟩) (ho : B'.own = y.cls) (hn : B'.nm = y.name) (hlen : argsL.length = ps.length) (hef : ∀ m, entryFrame m argsL.toArray B'.ml = mkF m 0 ⟨L0⟩ []) (hsz : Ls.length = B.ml)
    (hf : Nat.ble (rm.frames + 1) R.frames = true) (hlo : Nat.ble ((rest.map fun v => v.category).sum + (B'.ml + 11) + rm.locals) R.locals = true) (hc : Nat.ble (cells + rm.cells) R.cells = true) (hs : Nat.ble (slots + rm.slots) R.slots = true) (hq : pc + 3 = q)
    (K : ∀ (u : Int32) h', P u h' → W l Z n0 R B Q h' (cells + rm.cells) (slots + rm.slots) q Ls (.int u :: rest)) : W l Z n0 R B Q h cells slots pc Ls St :=
  W.callS hd wl wst wz wc hst w hp hy hpd ho hn hlen hef hsz hf hlo hc hs hq (fun v h' hQ => by obtain ⟨u, rfl, hP⟩ := hQ; exact K u h' hP)
theorem W.callS_J {i : Nat} {y : MethodName} {B' : Bdy} {rm : Room} {P : Int64 → Heap → Prop} {L0 : List Slot} {argsL rest : List Value} {ps : List FieldType} {r : Option FieldType} (hd : decode B.bytes pc = .ok (.invokestatic i, 3)) (wl : (Cond.methodLink B.own i y).before a0 Z = true) (wst : (Cond.static y).before a0 Z = true) (wz : (Cond.initialized y.cls).before a0 Z = true) (wc : (Cond.code y B'.bytes B'.ml B'.ret).before a0 Z = true)
    (hst : argsL.reverse ++ rest = St) (w : W l Z n0 rm B' (RJ P) h 0 0 0 L0 []) (hp : plainFor y = true) (hy : y.cls ≠ "java/lang/invoke/MethodHandle" ∧ y.cls ≠ "java/lang/invoke/VarHandle") (hpd : parseMethodDescriptor y.desc = some ⟨ps, r⟩) (ho : B'.own = y.cls) (hn : B'.nm = y.name) (hlen : argsL.length = ps.length) (hef : ∀ m, entryFrame m argsL.toArray B'.ml = mkF m 0 ⟨L0⟩ []) (hsz : Ls.length = B.ml)
    (hf : Nat.ble (rm.frames + 1) R.frames = true) (hlo : Nat.ble ((rest.map fun v => v.category).sum + (B'.ml + 11) + rm.locals) R.locals = true) (hc : Nat.ble (cells + rm.cells) R.cells = true) (hs : Nat.ble (slots + rm.slots) R.slots = true) (hq : pc + 3 = q)
    (K : ∀ (u : Int64) h', P u h' → W l Z n0 R B Q h' (cells + rm.cells) (slots + rm.slots) q Ls (.long u :: rest)) : W l Z n0 R B Q h cells slots pc Ls St :=
  W.callS hd wl wst wz wc hst w hp hy hpd ho hn hlen hef hsz hf hlo hc hs hq (fun v h' hQ => by obtain ⟨u, rfl, hP⟩ := hQ; exact K u h' hP)
theorem W.callS_A {i : Nat} {y : MethodName} {B' : Bdy} {rm : Room} {P : Value → Heap → Prop} {L0 : List Slot} {argsL rest : List Value} {ps : List FieldType} {r : Option FieldType} (hd : decode B.bytes pc = .ok (.invokestatic i, 3)) (wl : (Cond.methodLink B.own i y).before a0 Z = true) (wst : (Cond.static y).before a0 Z = true) (wz : (Cond.initialized y.cls).before a0 Z = true) (wc : (Cond.code y B'.bytes B'.ml B'.ret).before a0 Z = true)
    (hst : argsL.reverse ++ rest = St) (w : W l Z n0 rm B' (RA P) h 0 0 0 L0 []) (hp : plainFor y = true) (hy : y.cls ≠ "java/lang/invoke/MethodHandle" ∧ y.cls ≠ "java/lang/invoke/VarHandle") (hpd : parseMethodDescriptor y.desc = some ⟨ps, r⟩) (ho : B'.own = y.cls) (hn : B'.nm = y.name) (hlen : argsL.length = ps.length) (hef : ∀ m, entryFrame m argsL.toArray B'.ml = mkF m 0 ⟨L0⟩ []) (hsz : Ls.length = B.ml)
    (hf : Nat.ble (rm.frames + 1) R.frames = true) (hlo : Nat.ble ((rest.map fun v => v.category).sum + (B'.ml + 11) + rm.locals) R.locals = true) (hc : Nat.ble (cells + rm.cells) R.cells = true) (hs : Nat.ble (slots + rm.slots) R.slots = true) (hq : pc + 3 = q)
    (K : ∀ (u : Value) h', P u h' → W l Z n0 R B Q h' (cells + rm.cells) (slots + rm.slots) q Ls (u :: rest)) : W l Z n0 R B Q h cells slots pc Ls St :=
  W.callS hd wl wst wz wc hst w hp hy hpd ho hn hlen hef hsz hf hlo hc hs hq (fun v h' hQ => by obtain ⟨u, rfl, hP⟩ := hQ; exact K u h' hP)
theorem W.callS_N {i : Nat} {y : MethodName} {B' : Bdy} {rm : Room} {P : Heap → Prop} {L0 : List Slot} {argsL rest : List Value} {ps : List FieldType} {r : Option FieldType} (hd : decode B.bytes pc = .ok (.invokestatic i, 3)) (wl : (Cond.methodLink B.own i y).before a0 Z = true) (wst : (Cond.static y).before a0 Z = true) (wz : (Cond.initialized y.cls).before a0 Z = true) (wc : (Cond.code y B'.bytes B'.ml B'.ret).before a0 Z = true)
    (hst : argsL.reverse ++ rest = St) (w : W l Z n0 rm B' (RN P) h 0 0 0 L0 []) (hp : plainFor y = true) (hy : y.cls ≠ "java/lang/invoke/MethodHandle" ∧ y.cls ≠ "java/lang/invoke/VarHandle") (hpd : parseMethodDescriptor y.desc = some ⟨ps, r⟩) (ho : B'.own = y.cls) (hn : B'.nm = y.name) (hlen : argsL.length = ps.length) (hef : ∀ m, entryFrame m argsL.toArray B'.ml = mkF m 0 ⟨L0⟩ []) (hsz : Ls.length = B.ml)
    (hf : Nat.ble (rm.frames + 1) R.frames = true) (hlo : Nat.ble ((rest.map fun v => v.category).sum + (B'.ml + 11) + rm.locals) R.locals = true) (hc : Nat.ble (cells + rm.cells) R.cells = true) (hs : Nat.ble (slots + rm.slots) R.slots = true) (hq : pc + 3 = q)
    (K : ∀ h', P h' → W l Z n0 R B Q h' (cells + rm.cells) (slots + rm.slots) q Ls rest) : W l Z n0 R B Q h cells slots pc Ls St :=
  W.callS hd wl wst wz wc hst w hp hy hpd ho hn hlen hef hsz hf hlo hc hs hq (fun v h' hQ => by obtain ⟨rfl, hP⟩ := hQ; exact K h' hP)
theorem W.callI_N {i : Nat} {y : MethodName} {B' : Bdy} {rm : Room} {P : Heap → Prop} {L0 : List Slot} {a : Addr} {argsL rest : List Value} {ps : List FieldType} {r : Option FieldType} (hd : decode B.bytes pc = .ok (.invokespecial i, 3)) (wl : (Cond.methodLink B.own i y).before a0 Z = true) (wst : (Cond.instanceMethod y).before a0 Z = true) (wz : (Cond.initialized y.cls).before a0 Z = true) (wc : (Cond.code y B'.bytes B'.ml B'.ret).before a0 Z = true)
    (hst : argsL.reverse ++ .ref a :: rest = St) (w : W l Z n0 rm B' (RN P) h 0 0 0 L0 []) (hp : plainFor y = true) (hy : y.cls ≠ "java/lang/invoke/MethodHandle" ∧ y.cls ≠ "java/lang/invoke/VarHandle") (hpd : parseMethodDescriptor y.desc = some ⟨ps, r⟩) (ho : B'.own = y.cls) (hn : B'.nm = y.name) (hlen : argsL.length = ps.length) (hef : ∀ m, entryFrame m (.ref a :: argsL).toArray B'.ml = mkF m 0 ⟨L0⟩ []) (hsz : Ls.length = B.ml)
    (hf : Nat.ble (rm.frames + 1) R.frames = true) (hlo : Nat.ble ((rest.map fun v => v.category).sum + (B'.ml + 11) + rm.locals) R.locals = true) (hc : Nat.ble (cells + rm.cells) R.cells = true) (hs : Nat.ble (slots + rm.slots) R.slots = true) (hret : B'.ret = none) (hin : y.name = "<init>") (hq : pc + 3 = q)
    (K : ∀ h', P h' → W l Z n0 R B Q h' (cells + rm.cells) (slots + rm.slots) q Ls rest) : W l Z n0 R B Q h cells slots pc Ls St :=
  W.callI hd wl wst wz wc hst w hp hy hpd ho hn hlen hef hsz hf hlo hc hs hret hin hq (fun v h' hQ => by obtain ⟨rfl, hP⟩ := hQ; exact K h' hP)
theorem W.callV_I {i : Nat} {y : MethodName} {C' : String} {B' : Bdy} {rm : Room} {P : Int32 → Heap → Prop} {L0 : List Slot} {a : Addr} {argsL rest : List Value} {ps : List FieldType} {r : Option FieldType} (hd : decode B.bytes pc = .ok (.invokevirtual i, 3)) (wl : (Cond.methodLink B.own i y).before a0 Z = true) (wd : (Cond.declares y).before a0 Z = true) (wsel : (Cond.selects C' y y).before a0 Z = true) (wst : (Cond.instanceMethod y).before a0 Z = true) (wz : (Cond.initialized y.cls).before a0 Z = true) (wc : (Cond.code y B'.bytes B'.ml B'.ret).before a0 Z = true)
    (hst : argsL.reverse ++ .ref a :: rest = St) (E : Exa Z h a C') (w : W l Z n0 rm B' (RI P) h 0 0 0 L0 []) (hp : plainFor y = true) (hy : y.cls ≠ "java/lang/invoke/MethodHandle" ∧ y.cls ≠ "java/lang/invoke/VarHandle") (hpd : parseMethodDescriptor y.desc = some ⟨ps, r⟩) (ho : B'.own = y.cls) (hn : B'.nm = y.name) (hlen : argsL.length = ps.length) (hef : ∀ m, entryFrame m (.ref a :: argsL).toArray B'.ml = mkF m 0 ⟨L0⟩ []) (hsz : Ls.length = B.ml)
    (hf : Nat.ble (rm.frames + 1) R.frames = true) (hlo : Nat.ble ((rest.map fun v => v.category).sum + (B'.ml + 11) + rm.locals) R.locals = true) (hc : Nat.ble (cells + rm.cells) R.cells = true) (hs : Nat.ble (slots + rm.slots) R.slots = true) (hq : pc + 3 = q)
    (K : ∀ (u : Int32) h', P u h' → W l Z n0 R B Q h' (cells + rm.cells) (slots + rm.slots) q Ls (.int u :: rest)) : W l Z n0 R B Q h cells slots pc Ls St :=
  W.callV hd wl wd wsel wst wz wc hst E w hp hy hpd ho hn hlen hef hsz hf hlo hc hs hq (fun v h' hQ => by obtain ⟨u, rfl, hP⟩ := hQ; exact K u h' hP)
theorem W.callV_J {i : Nat} {y : MethodName} {C' : String} {B' : Bdy} {rm : Room} {P : Int64 → Heap → Prop} {L0 : List Slot} {a : Addr} {argsL rest : List Value} {ps : List FieldType} {r : Option FieldType} (hd : decode B.bytes pc = .ok (.invokevirtual i, 3)) (wl : (Cond.methodLink B.own i y).before a0 Z = true) (wd : (Cond.declares y).before a0 Z = true) (wsel : (Cond.selects C' y y).before a0 Z = true) (wst : (Cond.instanceMethod y).before a0 Z = true) (wz : (Cond.initialized y.cls).before a0 Z = true) (wc : (Cond.code y B'.bytes B'.ml B'.ret).before a0 Z = true)
    (hst : argsL.reverse ++ .ref a :: rest = St) (E : Exa Z h a C') (w : W l Z n0 rm B' (RJ P) h 0 0 0 L0 []) (hp : plainFor y = true) (hy : y.cls ≠ "java/lang/invoke/MethodHandle" ∧ y.cls ≠ "java/lang/invoke/VarHandle") (hpd : parseMethodDescriptor y.desc = some ⟨ps, r⟩) (ho : B'.own = y.cls) (hn : B'.nm = y.name) (hlen : argsL.length = ps.length) (hef : ∀ m, entryFrame m (.ref a :: argsL).toArray B'.ml = mkF m 0 ⟨L0⟩ []) (hsz : Ls.length = B.ml)
    (hf : Nat.ble (rm.frames + 1) R.frames = true) (hlo : Nat.ble ((rest.map fun v => v.category).sum + (B'.ml + 11) + rm.locals) R.locals = true) (hc : Nat.ble (cells + rm.cells) R.cells = true) (hs : Nat.ble (slots + rm.slots) R.slots = true) (hq : pc + 3 = q)
    (K : ∀ (u : Int64) h', P u h' → W l Z n0 R B Q h' (cells + rm.cells) (slots + rm.slots) q Ls (.long u :: rest)) : W l Z n0 R B Q h cells slots pc Ls St :=
  W.callV hd wl wd wsel wst wz wc hst E w hp hy hpd ho hn hlen hef hsz hf hlo hc hs hq (fun v h' hQ => by obtain ⟨u, rfl, hP⟩ := hQ; exact K u h' hP)
theorem W.callV_A {i : Nat} {y : MethodName} {C' : String} {B' : Bdy} {rm : Room} {P : Value → Heap → Prop} {L0 : List Slot} {a : Addr} {argsL rest : List Value} {ps : List FieldType} {r : Option FieldType} (hd : decode B.bytes pc = .ok (.invokevirtual i, 3)) (wl : (Cond.methodLink B.own i y).before a0 Z = true) (wd : (Cond.declares y).before a0 Z = true) (wsel : (Cond.selects C' y y).before a0 Z = true) (wst : (Cond.instanceMethod y).before a0 Z = true) (wz : (Cond.initialized y.cls).before a0 Z = true) (wc : (Cond.code y B'.bytes B'.ml B'.ret).before a0 Z = true)
    (hst : argsL.reverse ++ .ref a :: rest = St) (E : Exa Z h a C') (w : W l Z n0 rm B' (RA P) h 0 0 0 L0 []) (hp : plainFor y = true) (hy : y.cls ≠ "java/lang/invoke/MethodHandle" ∧ y.cls ≠ "java/lang/invoke/VarHandle") (hpd : parseMethodDescriptor y.desc = some ⟨ps, r⟩) (ho : B'.own = y.cls) (hn : B'.nm = y.name) (hlen : argsL.length = ps.length) (hef : ∀ m, entryFrame m (.ref a :: argsL).toArray B'.ml = mkF m 0 ⟨L0⟩ []) (hsz : Ls.length = B.ml)
    (hf : Nat.ble (rm.frames + 1) R.frames = true) (hlo : Nat.ble ((rest.map fun v => v.category).sum + (B'.ml + 11) + rm.locals) R.locals = true) (hc : Nat.ble (cells + rm.cells) R.cells = true) (hs : Nat.ble (slots + rm.slots) R.slots = true) (hq : pc + 3 = q)
    (K : ∀ (u : Value) h', P u h' → W l Z n0 R B Q h' (cells + rm.cells) (slots + rm.slots) q Ls (u :: rest)) : W l Z n0 R B Q h cells slots pc Ls St :=
  W.callV hd wl wd wsel wst wz wc hst E w hp hy hpd ho hn hlen hef hsz hf hlo hc hs hq (fun v h' hQ => by obtain ⟨u, rfl, hP⟩ := hQ; exact K u h' hP)
theorem W.callV_N {i : Nat} {y : MethodName} {C' : String} {B' : Bdy} {rm : Room} {P : Heap → Prop} {L0 : List Slot} {a : Addr} {argsL rest : List Value} {ps : List FieldType} {r : Option FieldType} (hd : decode B.bytes pc = .ok (.invokevirtual i, 3)) (wl : (Cond.methodLink B.own i y).before a0 Z = true) (wd : (Cond.declares y).before a0 Z = true) (wsel : (Cond.selects C' y y).before a0 Z = true) (wst : (Cond.instanceMethod y).before a0 Z = true) (wz : (Cond.initialized y.cls).before a0 Z = true) (wc : (Cond.code y B'.bytes B'.ml B'.ret).before a0 Z = true)
    (hst : argsL.reverse ++ .ref a :: rest = St) (E : Exa Z h a C') (w : W l Z n0 rm B' (RN P) h 0 0 0 L0 []) (hp : plainFor y = true) (hy : y.cls ≠ "java/lang/invoke/MethodHandle" ∧ y.cls ≠ "java/lang/invoke/VarHandle") (hpd : parseMethodDescriptor y.desc = some ⟨ps, r⟩) (ho : B'.own = y.cls) (hn : B'.nm = y.name) (hlen : argsL.length = ps.length) (hef : ∀ m, entryFrame m (.ref a :: argsL).toArray B'.ml = mkF m 0 ⟨L0⟩ []) (hsz : Ls.length = B.ml)
    (hf : Nat.ble (rm.frames + 1) R.frames = true) (hlo : Nat.ble ((rest.map fun v => v.category).sum + (B'.ml + 11) + rm.locals) R.locals = true) (hc : Nat.ble (cells + rm.cells) R.cells = true) (hs : Nat.ble (slots + rm.slots) R.slots = true) (hq : pc + 3 = q)
    (K : ∀ h', P h' → W l Z n0 R B Q h' (cells + rm.cells) (slots + rm.slots) q Ls rest) : W l Z n0 R B Q h cells slots pc Ls St :=
  W.callV hd wl wd wsel wst wz wc hst E w hp hy hpd ho hn hlen hef hsz hf hlo hc hs hq (fun v h' hQ => by obtain ⟨rfl, hP⟩ := hQ; exact K h' hP)
theorem W.initO {i : Nat} {a : Addr} (hd : decode B.bytes pc = .ok (.invokespecial i, 3)) (w1 : (Cond.methodLink B.own i Lib.objectInit).before a0 Z = true) (w2 : (Cond.instanceMethod Lib.objectInit).before a0 Z = true) (w3 : (Cond.code Lib.objectInit ⟨#[0xb1]⟩ 1 none).before a0 Z = true) (hsz : Ls.length = B.ml) (hf : Nat.ble 1 R.frames = true) (hlo : Nat.ble ((St.map fun v => v.category).sum + 12) R.locals = true) (hq : pc + 3 = q)
    (K : W l Z n0 R B Q h cells slots q Ls St) : W l Z n0 R B Q h cells slots pc Ls (.ref a :: St) := by
  subst hq
  exact W.warm K (fun p e s m args below meth c T locs C X eT => RoadKit.initO X C.1 C.2.2.2.1 C.2.2.2.2.1 w1 w2 w3 eT (g := mkF m pc ⟨Ls⟩ (.ref a :: St)) rfl (by show Ls.toArray.size = _; rw [C.2.2.1]; simpa using hsz) rfl (hb C.2.1 hd) (Nat.le_of_ble_eq_true hf) (W := (St.map fun v => v.category).sum) (by show 2 * 0 + _ ≤ _; omega) (Nat.le_of_ble_eq_true hlo))
end Steps
/-! ### no instance: a class two steps under the root, and another class -/
theorem noUp {Z : State} {a0 : Array Value} {C S O K : String} {n : Nat} (w1 : (Cond.superclass C S).before a0 Z = true) (w2 : (Cond.superclass S O).before a0 Z = true) (w3 : (Cond.noSuperclass O).before a0 Z = true) (w4 : (Cond.instantiable K n).before a0 Z = true) (h1 : C ≠ K) (h2 : S ≠ K) (h3 : O ≠ K) : ∃ c t, Z.vm.findClass C = some c ∧ Z.vm.findClass K = some t ∧ Z.vm.assignable c t = false := by
  obtain ⟨t, kt, g1, g2, g3, g4, -⟩ := Cond.instantiable_spec w4
  obtain ⟨c, f1⟩ := found_sup w1
  obtain ⟨s, k1, k2, f2, f3, f4, f5, f6, -⟩ := Cond.superclass_spec f1 w1
  obtain ⟨o, k3, k4, f7, f8, f9, f10, -⟩ := Cond.superclass_spec f2 w2
  obtain ⟨o', k5, e1, e2, e3, -⟩ := Cond.noSuperclass_spec w3
  cases f7.symm.trans e1
  cases f4.symm.trans f8
  have n1 := ids_ne f1 g1 h1
  have n2 := ids_ne f2 g1 h2
  have n3 := ids_ne e1 g1 h3
  have q : ∀ fuel, Z.vm.isSubclassAux fuel c t = false := by
    intro fuel
    rcases fuel with _ | _ | _ | fuel <;> simp [Vm.isSubclassAux, n1, n2, n3, f3, f5, f4, f10, e2, e3]
  have g5 : kt.isInterface = false := by simp only [Bool.or_eq_false_iff] at g4; exact g4.1
  refine ⟨c, t, f1, g1, ?_⟩
  show Z.vm.assignableAux (255 + 1) c t = false
  simp [Vm.assignableAux, n1, f3, g2, f6, g3, g5, Vm.isSubclass, q]
/-! ### words of a case -/
theorem own_eqi {args : Array Value} {s : State} {t : Term} {z : Int32} (h : (Cond.eq t (.int z)).value args s none s [] = some true) : t.eval args s none [] s = some (.int z) := by
  obtain ⟨x, y, hx, hy, k1, k2⟩ := cmp_v (Or.inl h)
  cases (Term.int_eval (args := args) (first := s) (o := none) (idx := []) (s := s) z).symm.trans hy
  obtain ⟨z', rfl⟩ := k2
  have := gotT (Cond.eq_ints hx hy) h
  subst this
  exact hx
/-! ### numbers -/
theorem nat32 {k : Nat} (h : k < 2147483640) : (k.toInt32).toInt = k ∧ k.toInt32.toNatClampNeg = k ∧ ¬ k.toInt32 < 0 ∧ k.toInt32 + 1 = (k + 1).toInt32 := by
  have e : (k.toInt32).toInt = k := Int32.toInt_ofNat_of_lt (by omega)
  refine ⟨e, ?_, ?_, ?_⟩
  · show (k.toInt32).toInt.toNat = k
    omega
  · rw [Int32.lt_iff_toInt_lt, e]; simp
  · show Int32.ofNat k + 1 = Int32.ofNat (k + 1)
    rw [Int32.ofNat_add]; rfl
theorem ltb {a b : Nat} (h : Nat.blt a b = true) : a < b := Nat.le_of_ble_eq_true h
theorem leb {a b : Nat} (h : Nat.ble a b = true) : a ≤ b := Nat.le_of_ble_eq_true h
theorem mask31 (x : Int32) : (x &&& 2147483647).toInt = x.toInt % 2147483648 := by
  have h : ((x &&& 2147483647 : Int32)).toInt = (x.toBitVec &&& 2147483647#32).toInt := rfl
  rw [h, BitVec.toInt_eq_toNat_bmod, BitVec.toNat_and]
  have e1 : (x.toBitVec.toNat &&& (2147483647#32).toNat) = x.toBitVec.toNat % 2147483648 := by
    show x.toBitVec.toNat &&& (2 ^ 31 - 1) = x.toBitVec.toNat % 2 ^ 31
    exact Nat.and_two_pow_sub_one_eq_mod _ 31
  rw [e1]
  have e2 : x.toInt = (x.toBitVec.toNat : Int).bmod (2 ^ 32) := BitVec.toInt_eq_toNat_bmod _
  rw [e2]
  have e3 := Int.bmod_emod (x := (x.toBitVec.toNat : Int)) (m := 2 ^ 32)
  rw [Int.bmod_eq_of_le (by omega) (by omega)]
  omega
theorem rem31 (x k : Int32) (hk : 0 < k.toInt) : 0 ≤ ((x &&& 2147483647) % k).toInt ∧ ((x &&& 2147483647) % k).toInt < k.toInt := by
  have h := mask31 x
  rw [Int32.toInt_mod, Int.tmod_eq_emod_of_nonneg (by omega)]
  exact ⟨Int.emod_nonneg _ (by omega), Int.emod_lt_of_pos _ hk⟩
theorem lt32 {a b : Int32} : a < b ↔ a.toInt < b.toInt := Int32.lt_iff_toInt_lt
theorem eq32 {a b : Int32} : a = b ↔ a.toInt = b.toInt := Int32.toInt_inj.symm
theorem add32 {x y : Int32} (h1 : -2147483648 ≤ x.toInt + y.toInt) (h2 : x.toInt + y.toInt < 2147483648) : (x + y).toInt = x.toInt + y.toInt := by
  rw [Int32.toInt_add, Int.bmod_eq_of_le (by omega) (by omega)]
theorem sub32 {x y : Int32} (h1 : -2147483648 ≤ x.toInt - y.toInt) (h2 : x.toInt - y.toInt < 2147483648) : (x - y).toInt = x.toInt - y.toInt := by
  rw [Int32.toInt_sub, Int.bmod_eq_of_le (by omega) (by omega)]
theorem div32 {x y : Int32} (hx : 0 ≤ x.toInt) (hy : 0 < y.toInt) : (x / y).toInt = x.toInt / y.toInt := by
  rw [Int32.toInt_div, Int.tdiv_eq_ediv_of_nonneg hx, Int.bmod_eq_of_le]
  · have := Int.ediv_nonneg hx (Int.le_of_lt hy); omega
  · have h1 := Int.ediv_le_self y.toInt hx
    have h2 := x.toInt_lt
    omega
theorem maskk (x m : Int32) (k : Nat) (hk : k < 32) (hm : m.toBitVec.toNat = 2 ^ k - 1) : (x &&& m).toInt = x.toInt % 2 ^ k := by
  have h : (x &&& m).toInt = (x.toBitVec &&& m.toBitVec).toInt := rfl
  have hle : 2 ^ k ≤ 2 ^ 31 := Nat.pow_le_pow_right (by decide) (by omega)
  rw [h, BitVec.toInt_eq_toNat_bmod, BitVec.toNat_and, hm, Nat.and_two_pow_sub_one_eq_mod]
  have e2 : x.toInt = (x.toBitVec.toNat : Int).bmod (2 ^ 32) := BitVec.toInt_eq_toNat_bmod _
  have hlt := Nat.mod_lt x.toBitVec.toNat (Nat.two_pow_pos k)
  rw [e2, Int.bmod_eq_of_le (by omega) (by omega)]
  have hd : ((2 ^ k : Nat) : Int) ∣ ((2 ^ 32 : Nat) : Int) := Int.natCast_dvd_natCast.mpr (Nat.pow_dvd_pow 2 (by omega))
  have e3 : ((x.toBitVec.toNat : Int).bmod (2 ^ 32)) % ((2 ^ k : Nat) : Int) = (x.toBitVec.toNat : Int) % ((2 ^ k : Nat) : Int) := by
    have f1 := Int.emod_emod_of_dvd ((x.toBitVec.toNat : Int).bmod (2 ^ 32)) hd
    have f2 := Int.emod_emod_of_dvd (x.toBitVec.toNat : Int) hd
    rw [← f1, ← f2, Int.bmod_emod]
  have e4 : ((2 ^ k : Nat) : Int) = 2 ^ k := by simp
  rw [← e4, e3]; simp
end Jvm.OwnW
namespace Jvm.OwnW
open Sem ClassFile Op Lib Jvm.Stand Jvm.Free Jvm.LawKit Jvm.RoadKit
/-- FROM HERE THE INVOCATION RETURNS, AND Q, where String constants may be interned on the way: the tables at hand are vm0; V says what is known of the start's heap and of them -/
def WS (V : Heap → Vm → Prop) (l : Launch) (Z : State) (n0 : Nat) (R : Room) (B : Bdy) (Q : Option Value → Heap → Vm → Prop) (h : Heap) (cells slots : Nat) (pc : Nat) (Ls : List Slot) (St : List Value) : Prop :=
  ∀ (p : Program) (e : Env) (s : State) (vm0 : Vm) (k0 : Nat) (m : MethodId) (args : Array Value) (below : List Frame) (meth : Method) (c : Code) (T : State) (locs : List Loc),
    Ctx p (s.setVm vm0) m meth c Z B → Stand p l e R (s.setVm vm0) m args below meth c T locs cells slots → T.heap = h → Fr n0 locs → cells ≤ R.cells → slots ≤ R.slots → s.Since vm0 k0 → k0 ≤ h.size → V s.heap vm0 →
    ∃ (s₂ : State) (v : Option Value) (L : List Loc), Steps p.tables e below (T.setTop (mkF m pc ⟨Ls⟩ St)) s₂ ∧ s₂.status = .running ∧ Ended s₂ below (.returned v) ∧ Q v s₂.heap s₂.vm ∧ Fr n0 L ∧ ReturnedEndW s (.returned v) s₂ L R.cells R.slots
section StepsS
variable {V : Heap → Vm → Prop} {l : Launch} {Z : State} {n0 : Nat} {R : Room} {B : Bdy} {Q : Option Value → Heap → Vm → Prop} {h : Heap} {cells slots pc q : Nat} {Ls Ls' : List Slot} {St St' : List Value} {a0 : Array Value}
theorem WS.same (K : WS V l Z n0 R B Q h cells slots q Ls' St') (f : ∀ (p : Program) (e : Env) (s : State) (m : MethodId) (args : Array Value) (below : List Frame) (meth : Method) (c : Code) (T : State) (locs : List Loc), Ctx p s m meth c Z B → Stand p l e R s m args below meth c T locs cells slots → T.heap = h →
      ∀ target, Steps p.tables e below (T.setTop (mkF m q ⟨Ls'⟩ St')) target → Steps p.tables e below (T.setTop (mkF m pc ⟨Ls⟩ St)) target) : WS V l Z n0 R B Q h cells slots pc Ls St := by
  intro p e s vm0 k0 m args below meth c T locs C X eT N hc hs hS hk hV
  obtain ⟨s₂, v, L, h1, h2⟩ := K p e s vm0 k0 m args below meth c T locs C X eT N hc hs hS hk hV
  exact ⟨s₂, v, L, f p e (s.setVm vm0) m args below meth c T locs C X eT _ h1, h2⟩
theorem WS.warm (K : WS V l Z n0 R B Q h cells slots q Ls' St') (f : ∀ (p : Program) (e : Env) (s : State) (m : MethodId) (args : Array Value) (below : List Frame) (meth : Method) (c : Code) (T : State) (locs : List Loc), Ctx p s m meth c Z B → Stand p l e R s m args below meth c T locs cells slots → T.heap = h →
      ∃ T', Stand p l e R s m args below meth c T' locs cells slots ∧ T'.heap = h ∧ ∀ target, Steps p.tables e below (T'.setTop (mkF m q ⟨Ls'⟩ St')) target → Steps p.tables e below (T.setTop (mkF m pc ⟨Ls⟩ St)) target) : WS V l Z n0 R B Q h cells slots pc Ls St := by
  intro p e s vm0 k0 m args below meth c T locs C X eT N hc hs hS hk hV
  obtain ⟨T', X', eT', st⟩ := f p e (s.setVm vm0) m args below meth c T locs C X eT
  obtain ⟨s₂, v, L, h1, h2⟩ := K p e s vm0 k0 m args below meth c T' locs C X' eT' N hc hs hS hk hV
  exact ⟨s₂, v, L, st _ h1, h2⟩
theorem WS.wrote {a : Addr} {sl : Nat} {x : Value} (f : ∀ (p : Program) (e : Env) (s : State) (m : MethodId) (args : Array Value) (below : List Frame) (meth : Method) (c : Code) (T : State) (locs : List Loc), Ctx p s m meth c Z B → Stand p l e R s m args below meth c T locs cells slots → T.heap = h →
      ∃ T' h', Stand p l e R s m args below meth c T' (locs ++ [⟨a, sl⟩]) cells slots ∧ T'.heap = h' ∧ Wr h h' a sl x ∧ ∀ target, Steps p.tables e below (T'.setTop (mkF m q ⟨Ls'⟩ St')) target → Steps p.tables e below (T.setTop (mkF m pc ⟨Ls⟩ St)) target) (ha : n0 ≤ a) (K : ∀ h', Wr h h' a sl x → WS V l Z n0 R B Q h' cells slots q Ls' St') : WS V l Z n0 R B Q h cells slots pc Ls St := by
  intro p e s vm0 k0 m args below meth c T locs C X eT N hc hs hS hk hV
  obtain ⟨T', h', X', eT', w, st⟩ := f p e (s.setVm vm0) m args below meth c T locs C X eT
  obtain ⟨s₂, v, L, h1, h2⟩ := K h' w p e s vm0 k0 m args below meth c T' _ C X' eT' (Fr.snoc X' N ha) hc hs hS (by rw [w.size]; exact hk) hV
  exact ⟨s₂, v, L, st _ h1, h2⟩
theorem WS.forget {V' : Heap → Vm → Prop} (hV : ∀ hs vm, V hs vm → V' hs vm) (K : WS V' l Z n0 R B Q h cells slots pc Ls St) : WS V l Z n0 R B Q h cells slots pc Ls St :=
  fun p e s vm0 k0 m args below meth c T locs C X eT N hc hs hS hk hv => K p e s vm0 k0 m args below meth c T locs C X eT N hc hs hS hk (hV _ _ hv)
theorem WS.weak {c' s' : Nat} (hc : cells ≤ c') (hs : slots ≤ s') (hR : c' ≤ R.cells) (hR' : s' ≤ R.slots) (K : WS V l Z n0 R B Q h c' s' pc Ls St) : WS V l Z n0 R B Q h cells slots pc Ls St :=
  fun p e s vm0 k0 m args below meth c T locs C X eT N _ _ hS hk hv => K p e s vm0 k0 m args below meth c T locs C (X.more hc hs) eT N hR hR' hS hk hv
theorem WS.iload {k : Nat} {v : Int32} (hd : decode B.bytes pc = .ok (.iload k, 2)) (hl : Ls[k]? = some (.val (.int v))) (hq : pc + 2 = q) (K : WS V l Z n0 R B Q h cells slots q Ls (.int v :: St)) : WS V l Z n0 R B Q h cells slots pc Ls St := by
  subst hq; exact WS.same K (fun p e s m args below meth c T locs C X eT t hr => XS.iload (g := mkF m pc ⟨Ls⟩ St) X.here C.1 rfl (hb C.2.1 hd) (by simpa using hl) hr)
theorem WS.iloadN {k : Fin 4} {v : Int32} (hd : decode B.bytes pc = .ok (.iload_n k, 1)) (hl : Ls[k.val]? = some (.val (.int v))) (hq : pc + 1 = q) (K : WS V l Z n0 R B Q h cells slots q Ls (.int v :: St)) : WS V l Z n0 R B Q h cells slots pc Ls St := by
  subst hq; exact WS.same K (fun p e s m args below meth c T locs C X eT t hr => XS.iloadN (g := mkF m pc ⟨Ls⟩ St) X.here C.1 rfl (hb C.2.1 hd) (by simpa using hl) hr)
theorem WS.aload {k : Nat} {v : Value} (hd : decode B.bytes pc = .ok (.aload k, 2)) (hl : Ls[k]? = some (.val v)) (hv : v.isRef = true) (hq : pc + 2 = q) (K : WS V l Z n0 R B Q h cells slots q Ls (v :: St)) : WS V l Z n0 R B Q h cells slots pc Ls St := by
  subst hq; exact WS.same K (fun p e s m args below meth c T locs C X eT t hr => XS.aload (g := mkF m pc ⟨Ls⟩ St) X.here C.1 rfl (hb C.2.1 hd) (by simpa using hl) hv hr)
theorem WS.aloadN {k : Fin 4} {v : Value} (hd : decode B.bytes pc = .ok (.aload_n k, 1)) (hl : Ls[k.val]? = some (.val v)) (hv : v.isRef = true) (hq : pc + 1 = q) (K : WS V l Z n0 R B Q h cells slots q Ls (v :: St)) : WS V l Z n0 R B Q h cells slots pc Ls St := by
  subst hq; exact WS.same K (fun p e s m args below meth c T locs C X eT t hr => XS.aloadN (g := mkF m pc ⟨Ls⟩ St) X.here C.1 rfl (hb C.2.1 hd) (by simpa using hl) hv hr)
theorem WS.iconst {i : Int} {z : Int32} (hd : decode B.bytes pc = .ok (.iconst i, 1)) (hz : Int32.ofInt i = z) (hq : pc + 1 = q) (K : WS V l Z n0 R B Q h cells slots q Ls (.int z :: St)) : WS V l Z n0 R B Q h cells slots pc Ls St := by
  subst hq hz; exact WS.same K (fun p e s m args below meth c T locs C X eT t hr => XS.iconst (g := mkF m pc ⟨Ls⟩ St) X.here C.1 rfl (hb C.2.1 hd) hr)
theorem WS.bipush {i : Int} {z : Int32} (hd : decode B.bytes pc = .ok (.bipush i, 2)) (hz : (Int8.ofInt i).toInt32 = z) (hq : pc + 2 = q) (K : WS V l Z n0 R B Q h cells slots q Ls (.int z :: St)) : WS V l Z n0 R B Q h cells slots pc Ls St := by
  subst hq hz; exact WS.same K (fun p e s m args below meth c T locs C X eT t hr => XS.bipush (g := mkF m pc ⟨Ls⟩ St) X.here C.1 rfl (hb C.2.1 hd) hr)
theorem WS.sipush {i : Int} {z : Int32} (hd : decode B.bytes pc = .ok (.sipush i, 3)) (hz : (Int16.ofInt i).toInt32 = z) (hq : pc + 3 = q) (K : WS V l Z n0 R B Q h cells slots q Ls (.int z :: St)) : WS V l Z n0 R B Q h cells slots pc Ls St := by
  subst hq hz; exact WS.same K (fun p e s m args below meth c T locs C X eT t hr => XS.sipush (g := mkF m pc ⟨Ls⟩ St) X.here C.1 rfl (hb C.2.1 hd) hr)
theorem WS.ldc {i : Nat} {z : Int32} (hd : decode B.bytes pc = .ok (.ldc i, 2)) (w : (Cond.constant B.own i z).before a0 Z = true) (hq : pc + 2 = q) (K : WS V l Z n0 R B Q h cells slots q Ls (.int z :: St)) : WS V l Z n0 R B Q h cells slots pc Ls St := by
  subst hq; exact WS.same K (fun p e s m args below meth c T locs C X eT t hr => X.ldcI (g := mkF m pc ⟨Ls⟩ St) C.1 C.2.2.2.2.1 (mvT C.2.2.2.1 w) rfl (hb C.2.1 hd) hr)
theorem WS.aconstNull (hd : decode B.bytes pc = .ok (.aconst_null, 1)) (hq : pc + 1 = q) (K : WS V l Z n0 R B Q h cells slots q Ls (.null :: St)) : WS V l Z n0 R B Q h cells slots pc Ls St := by
  subst hq; exact WS.same K (fun p e s m args below meth c T locs C X eT t hr => XS.aconstNull (g := mkF m pc ⟨Ls⟩ St) X.here C.1 rfl (hb C.2.1 hd) hr)
theorem WS.istore {k : Nat} {o : Slot} {v : Int32} (hd : decode B.bytes pc = .ok (.istore k, 2)) (hp : Put Ls k (.val (.int v)) Ls') (ho : Ls[k]? = some o) (h1 : one1 o = true) (hq : pc + 2 = q) (K : WS V l Z n0 R B Q h cells slots q Ls' St) : WS V l Z n0 R B Q h cells slots pc Ls (.int v :: St) := by
  subst hq; exact WS.same K (fun p e s m args below meth c T locs C X eT t hr => XS.istore (g := mkF m pc ⟨Ls⟩ (.int v :: St)) X.here C.1 rfl (hb C.2.1 hd) rfl (put1 hp ho (one1_of h1) rfl) hr)
theorem WS.istoreN {k : Fin 4} {o : Slot} {v : Int32} (hd : decode B.bytes pc = .ok (.istore_n k, 1)) (hp : Put Ls k.val (.val (.int v)) Ls') (ho : Ls[k.val]? = some o) (h1 : one1 o = true) (hq : pc + 1 = q) (K : WS V l Z n0 R B Q h cells slots q Ls' St) : WS V l Z n0 R B Q h cells slots pc Ls (.int v :: St) := by
  subst hq; exact WS.same K (fun p e s m args below meth c T locs C X eT t hr => XS.istoreN (g := mkF m pc ⟨Ls⟩ (.int v :: St)) X.here C.1 rfl (hb C.2.1 hd) rfl (put1 hp ho (one1_of h1) rfl) hr)
theorem WS.astore {k : Nat} {o : Slot} {v : Value} (hd : decode B.bytes pc = .ok (.astore k, 2)) (hv : v.isRef = true) (hp : Put Ls k (.val v) Ls') (ho : Ls[k]? = some o) (h1 : one1 o = true) (hq : pc + 2 = q) (K : WS V l Z n0 R B Q h cells slots q Ls' St) : WS V l Z n0 R B Q h cells slots pc Ls (v :: St) := by
  subst hq; exact WS.same K (fun p e s m args below meth c T locs C X eT t hr => XS.astore (g := mkF m pc ⟨Ls⟩ (v :: St)) X.here C.1 rfl (hb C.2.1 hd) rfl hv (put1 hp ho (one1_of h1) (by cases v <;> simp_all [Value.isRef, Value.category])) hr)
theorem WS.astoreN {k : Fin 4} {o : Slot} {v : Value} (hd : decode B.bytes pc = .ok (.astore_n k, 1)) (hv : v.isRef = true) (hp : Put Ls k.val (.val v) Ls') (ho : Ls[k.val]? = some o) (h1 : one1 o = true) (hq : pc + 1 = q) (K : WS V l Z n0 R B Q h cells slots q Ls' St) : WS V l Z n0 R B Q h cells slots pc Ls (v :: St) := by
  subst hq; exact WS.same K (fun p e s m args below meth c T locs C X eT t hr => XS.astoreN (g := mkF m pc ⟨Ls⟩ (v :: St)) X.here C.1 rfl (hb C.2.1 hd) rfl hv (put1 hp ho (one1_of h1) (by cases v <;> simp_all [Value.isRef, Value.category])) hr)
theorem WS.iand {x : Int32} {y : Int32} (hd : decode B.bytes pc = .ok (.iand, 1)) (hq : pc + 1 = q) (K : WS V l Z n0 R B Q h cells slots q Ls (.int (x &&& y) :: St)) : WS V l Z n0 R B Q h cells slots pc Ls (.int y :: .int x :: St) := by
  subst hq; exact WS.same K (fun p e s m args below meth c T locs C X eT t hr => XS.iand (g := mkF m pc ⟨Ls⟩ (.int y :: .int x :: St)) X.here C.1 rfl (hb C.2.1 hd) rfl hr)
theorem WS.ixor {x : Int32} {y : Int32} (hd : decode B.bytes pc = .ok (.ixor, 1)) (hq : pc + 1 = q) (K : WS V l Z n0 R B Q h cells slots q Ls (.int (x ^^^ y) :: St)) : WS V l Z n0 R B Q h cells slots pc Ls (.int y :: .int x :: St) := by
  subst hq; exact WS.same K (fun p e s m args below meth c T locs C X eT t hr => XS.ixor (g := mkF m pc ⟨Ls⟩ (.int y :: .int x :: St)) X.here C.1 rfl (hb C.2.1 hd) rfl hr)
theorem WS.iushr {x : Int32} {y : Int32} (hd : decode B.bytes pc = .ok (.iushr, 1)) (hq : pc + 1 = q) (K : WS V l Z n0 R B Q h cells slots q Ls (.int ((x.toUInt32 >>> (y &&& 0x1f).toUInt32).toInt32) :: St)) : WS V l Z n0 R B Q h cells slots pc Ls (.int y :: .int x :: St) := by
  subst hq; exact WS.same K (fun p e s m args below meth c T locs C X eT t hr => XS.iushr (g := mkF m pc ⟨Ls⟩ (.int y :: .int x :: St)) X.here C.1 rfl (hb C.2.1 hd) rfl hr)
theorem WS.i2c {x : Int32} (hd : decode B.bytes pc = .ok (.i2c, 1)) (hq : pc + 1 = q) (K : WS V l Z n0 R B Q h cells slots q Ls (.int (x.toUInt32.toUInt16.toUInt32.toInt32) :: St)) : WS V l Z n0 R B Q h cells slots pc Ls (.int x :: St) := by
  subst hq; exact WS.same K (fun p e s m args below meth c T locs C X eT t hr => XS.i2c (g := mkF m pc ⟨Ls⟩ (.int x :: St)) X.here C.1 rfl (hb C.2.1 hd) rfl hr)
theorem WS.irem {x y : Int32} (hd : decode B.bytes pc = .ok (.irem, 1)) (hy : y ≠ 0) (hq : pc + 1 = q) (K : WS V l Z n0 R B Q h cells slots q Ls (.int (x % y) :: St)) : WS V l Z n0 R B Q h cells slots pc Ls (.int y :: .int x :: St) := by
  subst hq; exact WS.same K (fun p e s m args below meth c T locs C X eT t hr => iremM (g := mkF m pc ⟨Ls⟩ (.int y :: .int x :: St)) X C.1 rfl (hb C.2.1 hd) rfl hy hr)
theorem WS.dup {x : Value} (hd : decode B.bytes pc = .ok (.dup, 1)) (hc : x.category = 1) (hq : pc + 1 = q) (K : WS V l Z n0 R B Q h cells slots q Ls (x :: x :: St)) : WS V l Z n0 R B Q h cells slots pc Ls (x :: St) := by
  subst hq; exact WS.same K (fun p e s m args below meth c T locs C X eT t hr => XS.dup (g := mkF m pc ⟨Ls⟩ (x :: St)) X.here C.1 rfl (hb C.2.1 hd) rfl hc hr)
theorem WS.goto {o : Int} (hd : decode B.bytes pc = .ok (.goto o, 3)) (ho : 0 ≤ (pc : Int) + o) (hq : ((pc : Int) + o).toNat = q) (K : WS V l Z n0 R B Q h cells slots q Ls St) : WS V l Z n0 R B Q h cells slots pc Ls St :=
  WS.same K (fun p e s m args below meth c T locs C X eT t hr => XS.goto (g := mkF m pc ⟨Ls⟩ St) X.here C.1 rfl rfl (hb C.2.1 hd) ho hq hr)
theorem WS.icmp {cd : ClassFile.Cond} {o : Int} {x y : Int32} {q' : Nat} (hd : decode B.bytes pc = .ok (.if_icmp cd o, 3)) (ho : 0 ≤ (pc : Int) + o) (hq : ((pc : Int) + o).toNat = q) (hq' : pc + 3 = q') (K1 : if_icmp.holds cd x y = true → WS V l Z n0 R B Q h cells slots q Ls St) (K2 : if_icmp.holds cd x y = false → WS V l Z n0 R B Q h cells slots q' Ls St) : WS V l Z n0 R B Q h cells slots pc Ls (.int y :: .int x :: St) := by
  subst hq'
  rcases Bool.eq_false_or_eq_true (if_icmp.holds cd x y) with hc | hc
  · exact WS.same (K1 hc) (fun p e s m args below meth c T locs C X eT t hr => XS.icmpYes (g := mkF m pc ⟨Ls⟩ (.int y :: .int x :: St)) X.here C.1 rfl rfl (hb C.2.1 hd) rfl hc ho hq hr)
  · exact WS.same (K2 hc) (fun p e s m args below meth c T locs C X eT t hr => XS.icmpNo (g := mkF m pc ⟨Ls⟩ (.int y :: .int x :: St)) X.here C.1 rfl (hb C.2.1 hd) rfl hc hr)
theorem WS.ifc {cd : ClassFile.Cond} {o : Int} {x : Int32} {q' : Nat} (hd : decode B.bytes pc = .ok (.ifCond cd o, 3)) (ho : 0 ≤ (pc : Int) + o) (hq : ((pc : Int) + o).toNat = q) (hq' : pc + 3 = q') (K1 : if_icmp.holds cd x 0 = true → WS V l Z n0 R B Q h cells slots q Ls St) (K2 : if_icmp.holds cd x 0 = false → WS V l Z n0 R B Q h cells slots q' Ls St) : WS V l Z n0 R B Q h cells slots pc Ls (.int x :: St) := by
  subst hq'
  rcases Bool.eq_false_or_eq_true (if_icmp.holds cd x 0) with hc | hc
  · exact WS.same (K1 hc) (fun p e s m args below meth c T locs C X eT t hr => XS.ifYes (g := mkF m pc ⟨Ls⟩ (.int x :: St)) X.here C.1 rfl rfl (hb C.2.1 hd) rfl ((if0 cd x).trans hc) ho hq hr)
  · exact WS.same (K2 hc) (fun p e s m args below meth c T locs C X eT t hr => XS.ifNo (g := mkF m pc ⟨Ls⟩ (.int x :: St)) X.here C.1 rfl (hb C.2.1 hd) rfl ((if0 cd x).trans hc) hr)
theorem WS.icmp_eq {o : Int} {x y : Int32} {q' : Nat} (hd : decode B.bytes pc = .ok (.if_icmp .eq o, 3)) (ho : 0 ≤ (pc : Int) + o) (hq : ((pc : Int) + o).toNat = q) (hq' : pc + 3 = q') (K1 : x = y → WS V l Z n0 R B Q h cells slots q Ls St) (K2 : ¬ x = y → WS V l Z n0 R B Q h cells slots q' Ls St) : WS V l Z n0 R B Q h cells slots pc Ls (.int y :: .int x :: St) :=
  WS.icmp hd ho hq hq' (fun hc => K1 (by simpa [if_icmp.holds, Int32.not_lt, Int32.not_le] using hc)) (fun hc => K2 (by simpa [if_icmp.holds, Int32.not_lt, Int32.not_le] using hc))
theorem WS.ifc_eq {o : Int} {x : Int32} {q' : Nat} (hd : decode B.bytes pc = .ok (.ifCond .eq o, 3)) (ho : 0 ≤ (pc : Int) + o) (hq : ((pc : Int) + o).toNat = q) (hq' : pc + 3 = q') (K1 : x = 0 → WS V l Z n0 R B Q h cells slots q Ls St) (K2 : ¬ x = 0 → WS V l Z n0 R B Q h cells slots q' Ls St) : WS V l Z n0 R B Q h cells slots pc Ls (.int x :: St) :=
  WS.ifc hd ho hq hq' (fun hc => K1 (by simpa [if_icmp.holds, Int32.not_lt, Int32.not_le] using hc)) (fun hc => K2 (by simpa [if_icmp.holds, Int32.not_lt, Int32.not_le] using hc))
theorem WS.icmp_ne {o : Int} {x y : Int32} {q' : Nat} (hd : decode B.bytes pc = .ok (.if_icmp .ne o, 3)) (ho : 0 ≤ (pc : Int) + o) (hq : ((pc : Int) + o).toNat = q) (hq' : pc + 3 = q') (K1 : ¬ x = y → WS V l Z n0 R B Q h cells slots q Ls St) (K2 : x = y → WS V l Z n0 R B Q h cells slots q' Ls St) : WS V l Z n0 R B Q h cells slots pc Ls (.int y :: .int x :: St) :=
  WS.icmp hd ho hq hq' (fun hc => K1 (by simpa [if_icmp.holds, Int32.not_lt, Int32.not_le] using hc)) (fun hc => K2 (by simpa [if_icmp.holds, Int32.not_lt, Int32.not_le] using hc))
theorem WS.ifc_ne {o : Int} {x : Int32} {q' : Nat} (hd : decode B.bytes pc = .ok (.ifCond .ne o, 3)) (ho : 0 ≤ (pc : Int) + o) (hq : ((pc : Int) + o).toNat = q) (hq' : pc + 3 = q') (K1 : ¬ x = 0 → WS V l Z n0 R B Q h cells slots q Ls St) (K2 : x = 0 → WS V l Z n0 R B Q h cells slots q' Ls St) : WS V l Z n0 R B Q h cells slots pc Ls (.int x :: St) :=
  WS.ifc hd ho hq hq' (fun hc => K1 (by simpa [if_icmp.holds, Int32.not_lt, Int32.not_le] using hc)) (fun hc => K2 (by simpa [if_icmp.holds, Int32.not_lt, Int32.not_le] using hc))
theorem WS.icmp_lt {o : Int} {x y : Int32} {q' : Nat} (hd : decode B.bytes pc = .ok (.if_icmp .lt o, 3)) (ho : 0 ≤ (pc : Int) + o) (hq : ((pc : Int) + o).toNat = q) (hq' : pc + 3 = q') (K1 : x < y → WS V l Z n0 R B Q h cells slots q Ls St) (K2 : ¬ x < y → WS V l Z n0 R B Q h cells slots q' Ls St) : WS V l Z n0 R B Q h cells slots pc Ls (.int y :: .int x :: St) :=
  WS.icmp hd ho hq hq' (fun hc => K1 (by simpa [if_icmp.holds, Int32.not_lt, Int32.not_le] using hc)) (fun hc => K2 (by simpa [if_icmp.holds, Int32.not_lt, Int32.not_le] using hc))
theorem WS.icmp_ge {o : Int} {x y : Int32} {q' : Nat} (hd : decode B.bytes pc = .ok (.if_icmp .ge o, 3)) (ho : 0 ≤ (pc : Int) + o) (hq : ((pc : Int) + o).toNat = q) (hq' : pc + 3 = q') (K1 : ¬ x < y → WS V l Z n0 R B Q h cells slots q Ls St) (K2 : x < y → WS V l Z n0 R B Q h cells slots q' Ls St) : WS V l Z n0 R B Q h cells slots pc Ls (.int y :: .int x :: St) :=
  WS.icmp hd ho hq hq' (fun hc => K1 (by simpa [if_icmp.holds, Int32.not_lt, Int32.not_le] using hc)) (fun hc => K2 (by simpa [if_icmp.holds, Int32.not_lt, Int32.not_le] using hc))
theorem WS.getF {i : Nat} {O n d : String} {a : Addr} {v : Value} (hd : decode B.bytes pc = .ok (.getfield i, 3)) (w : (Cond.fieldLink B.own i O n d).before a0 Z = true) (F : Fld Z h a O n d v) (hq : pc + 3 = q) (K : WS V l Z n0 R B Q h cells slots q Ls (v :: St)) : WS V l Z n0 R B Q h cells slots pc Ls (.ref a :: St) := by
  subst hq; exact WS.warm K (fun p e s m args below meth c T locs C X eT => RoadKit.getF X (g := mkF m pc ⟨Ls⟩ (.ref a :: St)) C.1 C.2.2.2.1 C.2.2.2.2.1 (host := "") (Or.inl w) Via.refl eT F rfl rfl (hb C.2.1 hd))
theorem WS.putF {i kk : Nat} {O n d C' : String} {a : Addr} {v old : Value} {ty : FieldType} (hd : decode B.bytes pc = .ok (.putfield i, 3)) (w : (Cond.fieldLink B.own i O n d).before a0 Z = true) (F : Fld Z h a O n d old) (E : Exa Z h a C') (L : (Cond.lays C' O n d).before a0 Z = true ∨ ((Cond.laysFinal C' O n d).before a0 Z = true ∧ B.own = O ∧ B.nm = "<init>")) (wi : (Cond.instantiable C' kk).before a0 Z = true)
    (hty : parseFieldDescriptor d = some ty) (hn : narrow ty v = v) (hf : fits ty v = true) (ha : n0 ≤ a) (hq : pc + 3 = q) (K : ∀ h', Wr h h' a (Jvm.RoadKit.slotOf Z O n d) v → WS V l Z n0 R B Q h' cells slots q Ls St) : WS V l Z n0 R B Q h cells slots pc Ls (v :: .ref a :: St) := by
  subst hq; exact WS.wrote (fun p e s m args below meth c T locs C X eT => RoadKit.putF X (g := mkF m pc ⟨Ls⟩ (v :: .ref a :: St)) C.1 C.2.2.2.1 (host := "") C.2.2.2.2.1 (Or.inl w) Via.refl eT F E (L.imp id fun q => ⟨q.1, q.2.1, C.2.2.2.2.2.2.2.trans q.2.2⟩) wi hty hn hf rfl rfl (hb C.2.1 hd)) ha K
theorem WS.castY {i : Nat} {K' : String} {a : Addr} (hd : decode B.bytes pc = .ok (.checkcast i, 3)) (w : (Cond.classLink B.own i K').before a0 Z = true) (F : Ins Z h a K' true) (hq : pc + 3 = q) (K : WS V l Z n0 R B Q h cells slots q Ls (.ref a :: St)) : WS V l Z n0 R B Q h cells slots pc Ls (.ref a :: St) := by
  subst hq; exact WS.warm K (fun p e s m args below meth c T locs C X eT => RoadKit.castY X C.1 C.2.2.2.1 C.2.2.2.2.1 w eT F (g := mkF m pc ⟨Ls⟩ (.ref a :: St)) rfl rfl (hb C.2.1 hd))
theorem WS.initO {i : Nat} {a : Addr} (hd : decode B.bytes pc = .ok (.invokespecial i, 3)) (w1 : (Cond.methodLink B.own i Lib.objectInit).before a0 Z = true) (w2 : (Cond.instanceMethod Lib.objectInit).before a0 Z = true) (w3 : (Cond.code Lib.objectInit ⟨#[0xb1]⟩ 1 none).before a0 Z = true) (hsz : Ls.length = B.ml) (hf : Nat.ble 1 R.frames = true) (hlo : Nat.ble ((St.map fun v => v.category).sum + 12) R.locals = true) (hq : pc + 3 = q)
    (K : WS V l Z n0 R B Q h cells slots q Ls St) : WS V l Z n0 R B Q h cells slots pc Ls (.ref a :: St) := by
  subst hq
  exact WS.warm K (fun p e s m args below meth c T locs C X eT => RoadKit.initO X C.1 C.2.2.2.1 C.2.2.2.2.1 w1 w2 w3 eT (g := mkF m pc ⟨Ls⟩ (.ref a :: St)) rfl (by show Ls.toArray.size = _; rw [C.2.2.1]; simpa using hsz) rfl (hb C.2.1 hd) (Nat.le_of_ble_eq_true hf) (W := (St.map fun v => v.category).sum) (by show 2 * 0 + _ ≤ _; omega) (Nat.le_of_ble_eq_true hlo))
/-! ### the ends -/
theorem endS {s : State} {vm0 : Vm} {k0 : Nat} {U : State} {v : Option Value} {locs : List Loc} (hS : s.Since vm0 k0) (hk : k0 ≤ U.heap.size) (hc : cells ≤ R.cells) (hs : slots ≤ R.slots) (hW : (s.setVm vm0).WarmedH U.vm) (hsame : (s.setVm vm0).sameButNew { U with vm := (s.setVm vm0).vm } locs cells slots) : ReturnedEndW s (.returned v) U locs R.cells R.slots := by
  obtain ⟨h1, h2, h3⟩ := hS.ended hW hk hsame
  exact ⟨⟨_, rfl⟩, h1, h2, h3.mono hc hs⟩
theorem WS.areturn {w : Value} {t : FieldType} (hd : decode B.bytes pc = .ok (.areturn, 1)) (hret : B.ret = some t) (ht : t.isReference = true) (hw : w.isRef = true) (hn : narrow t w = w) (hQ : ∀ (s : State) (vm0 vm1 : Vm), V s.heap vm0 → (s.setVm vm0).WarmedH vm1 → Q (some w) h vm1) : WS V l Z n0 R B Q h cells slots pc Ls (w :: St) := by
  intro p e s vm0 k0 m args below meth c T locs C X eT N hc hs hS hk hV
  obtain ⟨fs, hr, hrun, hended, hW, hsame⟩ := X.leave (v := some w) (fun q => by rw [C.2.2.2.2.2.1, hret] at q; cases q) C.2.2.2.2.2.2.1
  exact ⟨_, _, locs, retOut X C.1 (C.2.2.2.2.2.1.trans hret) hn (Or.inr (Or.inr (Or.inr (Or.inr ⟨rfl, ht, hw⟩)))) (hb C.2.1 hd) hr, hrun, hended, eT ▸ hQ s vm0 _ hV hW, N, endS hS (by subst eT; exact hk) hc hs hW hsame⟩
theorem WS.ireturnN {z z' : Int32} {t : FieldType} (hd : decode B.bytes pc = .ok (.ireturn, 1)) (hret : B.ret = some t) (ht : t = .boolean ∨ t = .byte ∨ t = .char ∨ t = .short) (hz : nar t z = z') (hQ : ∀ (s : State) (vm0 vm1 : Vm), V s.heap vm0 → (s.setVm vm0).WarmedH vm1 → Q (some (.int z')) h vm1) : WS V l Z n0 R B Q h cells slots pc Ls (.int z :: St) := by
  intro p e s vm0 k0 m args below meth c T locs C X eT N hc hs hS hk hV
  subst hz
  obtain ⟨fs, hr, hrun, hended, hW, hsame⟩ := X.leave (v := some (.int (nar t z))) (fun q => by rw [C.2.2.2.2.2.1, hret] at q; cases q) C.2.2.2.2.2.2.1
  exact ⟨_, _, locs, retN X C.1 (C.2.2.2.2.2.1.trans hret) ht (hb C.2.1 hd) hr, hrun, hended, eT ▸ hQ s vm0 _ hV hW, N, endS hS (by subst eT; exact hk) hc hs hW hsame⟩
theorem WS.vret (hd : decode B.bytes pc = .ok (.return_, 1)) (hret : B.ret = none) (hQ : ∀ (s : State) (vm0 vm1 : Vm), V s.heap vm0 → (s.setVm vm0).WarmedH vm1 → Q none h vm1) : WS V l Z n0 R B Q h cells slots pc Ls [] := by
  intro p e s vm0 k0 m args below meth c T locs C X eT N hc hs hS hk hV
  obtain ⟨fs, hr, hrun, hended, hW, hsame⟩ := X.leave (v := none) (fun _ => rfl) C.2.2.2.2.2.2.1
  exact ⟨_, _, locs, X.returnOut C.1 (C.2.2.2.2.2.1.trans hret) (hb C.2.1 hd) hr, hrun, hended, eT ▸ hQ s vm0 _ hV hW, N, endS hS (by subst eT; exact hk) hc hs hW hsame⟩
theorem WS.newO {i n : Nat} {C' : String} (hd : decode B.bytes pc = .ok (.new i, 3)) (w : (Cond.classLink B.own i C').before a0 Z = true) (wi : (Cond.instantiable C' n).before a0 Z = true) (wz : (Cond.initialized C').before a0 Z = true) (hc : cells + 1 ≤ R.cells) (hl : slots + n ≤ R.slots) (hq : pc + 3 = q)
    (K : ∀ h', Ext h h' → Exa Z h' h.size C' → (∀ {O nm d : String} {ty : FieldType}, Laid Z a0 C' O nm d → parseFieldDescriptor d = some ty → Fld Z h' h.size O nm d (defaultValue ty)) → WS V l Z n0 R B Q h' (cells + 1) (slots + n) q Ls (.ref h.size :: St)) : WS V l Z n0 R B Q h cells slots pc Ls St := by
  subst hq
  intro p e s vm0 k0 m args below meth c T locs C X eT N _ _ hS hk hV
  obtain ⟨T', h', X', eT', E, A, D, -, st⟩ := RoadKit.newO X C.1 C.2.2.2.1 C.2.2.2.2.1 w wi wz eT (g := mkF m pc ⟨Ls⟩ St) rfl (hb C.2.1 hd) hc hl
  obtain ⟨s₂, v, L, h1, h2⟩ := K h' E A D p e s vm0 k0 m args below meth c T' locs C X' eT' N hc hl hS (Nat.le_trans hk E.1) hV
  exact ⟨s₂, v, L, st _ h1, h2⟩
/-! ### calls of callees that intern nothing -/
theorem WS.callS {i : Nat} {y : MethodName} {B' : Bdy} {rm : Room} {Qc : Option Value → Heap → Prop} {L0 : List Slot} {argsL rest : List Value} {ps : List FieldType} {r : Option FieldType} (hd : decode B.bytes pc = .ok (.invokestatic i, 3)) (wl : (Cond.methodLink B.own i y).before a0 Z = true) (wst : (Cond.static y).before a0 Z = true) (wz : (Cond.initialized y.cls).before a0 Z = true) (wc : (Cond.code y B'.bytes B'.ml B'.ret).before a0 Z = true)
    (hst : argsL.reverse ++ rest = St) (w : W l Z n0 rm B' Qc h 0 0 0 L0 []) (hp : plainFor y = true) (hy : y.cls ≠ "java/lang/invoke/MethodHandle" ∧ y.cls ≠ "java/lang/invoke/VarHandle") (hpd : parseMethodDescriptor y.desc = some ⟨ps, r⟩) (ho : B'.own = y.cls) (hn : B'.nm = y.name) (hlen : argsL.length = ps.length) (hef : ∀ m, entryFrame m argsL.toArray B'.ml = mkF m 0 ⟨L0⟩ []) (hsz : Ls.length = B.ml)
    (hf : Nat.ble (rm.frames + 1) R.frames = true) (hlo : Nat.ble ((rest.map fun v => v.category).sum + (B'.ml + 11) + rm.locals) R.locals = true) (hc : Nat.ble (cells + rm.cells) R.cells = true) (hs : Nat.ble (slots + rm.slots) R.slots = true) (hq : pc + 3 = q) (hg : ∀ v h', Qc v h' → h.size ≤ h'.size)
    (K : ∀ v h', Qc v h' → WS V l Z n0 R B Q h' (cells + rm.cells) (slots + rm.slots) q Ls (v.toList ++ rest)) : WS V l Z n0 R B Q h cells slots pc Ls St := by
  subst hq hst
  intro p e s vm0 k0 m args below meth c T locs C X eT N _ _ hS hk hV
  have hc' := Nat.le_of_ble_eq_true hc
  have hs' := Nat.le_of_ble_eq_true hs
  obtain ⟨v, vm₁, ⟨T', L', c', s'⟩, -, X', ⟨Lc, hQ, l', y', z'⟩, st⟩ := Jvm.LawKit.callS X C.1 (y := y) C.2.2.2.2.1 (mvT C.2.2.2.1 wl) (mvT C.2.2.2.1 wst) (mvT C.2.2.2.1 wz) (mvT C.2.2.2.1 wc) hy
    (backOf (W := (rest.map fun v => v.category).sum) (Q := fun v h L => Qc v h ∧ Fr n0 L) (met_of (ws := []) hp ho hn hef w) C.2.2.2.1 wc wz (Nat.le_of_ble_eq_true hf) (Nat.le_of_ble_eq_true hlo)) (g := mkF m pc ⟨Ls⟩ (argsL.reverse ++ rest)) rfl (by show Ls.toArray.size = _; rw [C.2.2.1]; simpa using hsz) (argsL := argsL) (rest := rest) (lenOf hpd hlen) rfl (by show 2 * 0 + _ ≤ _; omega) (hb C.2.1 hd) (fun _ _ => ⟨rfl, eT, hc', hs'⟩)
  dsimp only [Pt.U, Pt.locs, Pt.cells, Pt.slots] at X' l' y' z' st hQ
  subst l' y' z'
  obtain ⟨s₂, v₂, L, h1, h2⟩ := K v T'.heap hQ.1 p e s vm0 k0 m args below meth c T' _ C X' rfl (Fr.app N hQ.2) hc' hs' hS (Nat.le_trans hk (hg _ _ hQ.1)) hV
  exact ⟨s₂, v₂, L, st _ h1, h2⟩
theorem WS.callV {i : Nat} {y : MethodName} {C' : String} {B' : Bdy} {rm : Room} {Qc : Option Value → Heap → Prop} {L0 : List Slot} {a : Addr} {argsL rest : List Value} {ps : List FieldType} {r : Option FieldType} (hd : decode B.bytes pc = .ok (.invokevirtual i, 3)) (wl : (Cond.methodLink B.own i y).before a0 Z = true) (wd : (Cond.declares y).before a0 Z = true) (wsel : (Cond.selects C' y y).before a0 Z = true) (wst : (Cond.instanceMethod y).before a0 Z = true) (wz : (Cond.initialized y.cls).before a0 Z = true) (wc : (Cond.code y B'.bytes B'.ml B'.ret).before a0 Z = true)
    (hst : argsL.reverse ++ .ref a :: rest = St) (E : Exa Z h a C') (w : W l Z n0 rm B' Qc h 0 0 0 L0 []) (hp : plainFor y = true) (hy : y.cls ≠ "java/lang/invoke/MethodHandle" ∧ y.cls ≠ "java/lang/invoke/VarHandle") (hpd : parseMethodDescriptor y.desc = some ⟨ps, r⟩) (ho : B'.own = y.cls) (hn : B'.nm = y.name) (hlen : argsL.length = ps.length) (hef : ∀ m, entryFrame m (.ref a :: argsL).toArray B'.ml = mkF m 0 ⟨L0⟩ []) (hsz : Ls.length = B.ml)
    (hf : Nat.ble (rm.frames + 1) R.frames = true) (hlo : Nat.ble ((rest.map fun v => v.category).sum + (B'.ml + 11) + rm.locals) R.locals = true) (hc : Nat.ble (cells + rm.cells) R.cells = true) (hs : Nat.ble (slots + rm.slots) R.slots = true) (hq : pc + 3 = q) (hg : ∀ v h', Qc v h' → h.size ≤ h'.size)
    (K : ∀ v h', Qc v h' → WS V l Z n0 R B Q h' (cells + rm.cells) (slots + rm.slots) q Ls (v.toList ++ rest)) : WS V l Z n0 R B Q h cells slots pc Ls St := by
  subst hq hst
  intro p e s vm0 k0 m args below meth c T locs C X eT N _ _ hS hk hV
  have hc' := Nat.le_of_ble_eq_true hc
  have hs' := Nat.le_of_ble_eq_true hs
  obtain ⟨cq, kq, qa, qb, qc⟩ := isOf C.2.2.2.1 eT E
  obtain ⟨v, vm₁, ⟨T', L', c', s'⟩, -, X', ⟨Lc, hQ, l', y', z'⟩, st⟩ := X.virtualBack C.1 (y := y) (z := y) C.2.2.2.2.1 (mvT C.2.2.2.1 wl) (mvT C.2.2.2.1 wd) (notFace_of_selects (args := #[]) (mvT C.2.2.2.1 wsel)) (mvT C.2.2.2.1 wsel) (mvT C.2.2.2.1 wst) hy
    (backOf (W := (rest.map fun v => v.category).sum) (Q := fun v h L => Qc v h ∧ Fr n0 L) (met_of (ws := []) hp ho hn hef w) C.2.2.2.1 wc wz (Nat.le_of_ble_eq_true hf) (Nat.le_of_ble_eq_true hlo)) qa qc (g := mkF m pc ⟨Ls⟩ (argsL.reverse ++ .ref a :: rest)) rfl (by show Ls.toArray.size = _; rw [C.2.2.1]; simpa using hsz) (Steps.refl _) (argsL := argsL) (rest := rest) (lenOf hpd hlen) rfl (by show 2 * 0 + _ ≤ _; omega) (hb C.2.1 hd) (fun _ _ => ⟨rfl, eT, hc', hs'⟩)
  dsimp only [Pt.U, Pt.locs, Pt.cells, Pt.slots] at X' l' y' z' st hQ
  subst l' y' z'
  obtain ⟨s₂, v₂, L, h1, h2⟩ := K v T'.heap hQ.1 p e s vm0 k0 m args below meth c T' _ C X' rfl (Fr.app N hQ.2) hc' hs' hS (Nat.le_trans hk (hg _ _ hQ.1)) hV
  exact ⟨s₂, v₂, L, st.trans h1, h2⟩
/-! ### calls of callees that may intern -/
theorem metS {V : Heap → Vm → Prop} {ws : List Jvm.Cond} {y : MethodName} {B' : Bdy} {rm : Room} {as' : Array Value} {Qc : Option Value → Heap → Vm → Prop} {L0 : List Slot} (hp : plainFor y = true) (ho : B'.own = y.cls) (hn : B'.nm = y.name) (hef : ∀ m, entryFrame m as' B'.ml = mkF m 0 ⟨L0⟩ []) (w : WS V l Z n0 rm B' Qc h 0 0 0 L0 []) :
    MetFree l y (head1 (Cond.code y B'.bytes B'.ml B'.ret :: ws) rm) (fun a U => a = as' ∧ Z.Warmed39 U.vm ∧ U.heap = h ∧ V h U.vm) (fun _ _ _ _ _ => True) (fun _ U o U' => ∃ v L, o = .returned v ∧ (Qc v U'.heap U'.vm ∧ Fr n0 L) ∧ ReturnedEndW U o U' L rm.cells rm.slots) := by
  refine MetFree.of_bodySF hp hisR ?_
  intro p e s m args below meth c s₁ Bd hml0 hP hK
  obtain ⟨rfl, hZ, hh, hV⟩ := hP
  have X0 : Stand p l e rm (s.setVm s.vm) m args below meth c s₁ [] 0 0 := Stand.of_body Bd
  have e0 : s₁.heap = h := by rw [← hh, Bd.state]; rfl
  have C0 : Ctx p (s.setVm s.vm) m meth c Z B' := ⟨Bd.exec, Bd.bytes, hml0, hZ, by rw [ho]; exact findClass_of_methodNamed Bd.named, Bd.returns, Bd.notSynchronized, by rw [hn]; exact (name_of_methodNamed Bd.named Bd.method).1⟩
  obtain ⟨s₂, v, L, h1, h2, h3, h4, h5, h6⟩ := w p e s s.vm 0 m args below meth c s₁ [] C0 X0 e0 (Fr.nil n0) (Nat.zero_le _) (Nat.zero_le _) ((State.WarmedH.refl s).since 0) (Nat.zero_le _) (by rw [hh]; exact hV)
  exact ⟨s₂, _, castTop (hef m) h1, h2, h3, v, L, rfl, ⟨h4, h5⟩, h6⟩
theorem backS {p : Program} {e : Env} {below : List Frame} {s : State} {args : Array Value} {Vc : Heap → Vm → Prop} {y : MethodName} {B' : Bdy} {rm : Room} {len W' : Nat} {as' : Array Value} {Qc : Option Value → Heap → Vm → Prop} {L0 : List Slot} (hp : plainFor y = true) (ho : B'.own = y.cls) (hn : B'.nm = y.name) (hef : ∀ m, entryFrame m as' B'.ml = mkF m 0 ⟨L0⟩ []) (w : WS Vc l Z n0 rm B' Qc h 0 0 0 L0 [])
    (hZ : Z.Warmed39 s.vm) (wc : (Cond.code y B'.bytes B'.ml B'.ret).before a0 Z = true) (wz : (Cond.initialized y.cls).before a0 Z = true) (hf : rm.frames + 1 ≤ R.frames) (hl : W' + (B'.ml + 11) + rm.locals ≤ R.locals) :
    BackS l R p e below s args y len W' (fun A a => a = as' ∧ A.U.heap = h ∧ A.cells + rm.cells ≤ R.cells ∧ A.slots + rm.slots ≤ R.slots ∧ Vc h A.U.vm)
      (fun A _ v B => ∃ L, (Qc v B.U.heap B.U.vm ∧ Fr n0 L) ∧ B.locs = A.locs ++ L ∧ B.cells = A.cells + rm.cells ∧ B.slots = A.slots + rm.slots) :=
  BackS.of_freeW (bytes := B'.bytes) (maxL := B'.ml) (ret := B'.ret) (E := fun _ _ o t L k n => k = rm.cells ∧ n = rm.slots ∧ ∃ v, o = .returned v ∧ (Qc v t.heap t.vm ∧ Fr n0 L)) (metS (ws := []) hp ho hn hef w) hf hl
    (fun m meth c A a Y hp => have hU : Z.Warmed39 A.U.vm := wtrans hZ Y.warmed
      ⟨by show (Cond.and _ .tt).before a A.U = true; rw [Cond.before_and, mv hU wc]; rfl, mv hU wc, mv hU wz, hp.2.2.1, hp.2.2.2.1⟩)
    (fun m meth c A a g mk Y hp => ⟨hp.1, wtrans hZ Y.warmed, hp.2.1, hp.2.2.2.2⟩) (fun _ _ _ _ _ _ _ _ _ => trivial)
    (fun _ _ _ _ ⟨v, L, h1, h2, h3⟩ => ⟨L, _, _, h3, rfl, rfl, v, h1, h2⟩)
    (fun m meth c A a g mk v t L k n Y hp _ _ ⟨e1, e2, v', e3, e4⟩ => by cases e3; subst e1 e2; exact ⟨L, e4, rfl, rfl, rfl⟩)
theorem WS.callSW {n0' : Nat} {Vc : Heap → Vm → Prop} {i : Nat} {y : MethodName} {B' : Bdy} {rm : Room} {Qc : Option Value → Heap → Vm → Prop} {L0 : List Slot} {argsL rest : List Value} {ps : List FieldType} {r : Option FieldType} (hd : decode B.bytes pc = .ok (.invokestatic i, 3)) (wl : (Cond.methodLink B.own i y).before a0 Z = true) (wst : (Cond.static y).before a0 Z = true) (wz : (Cond.initialized y.cls).before a0 Z = true) (wc : (Cond.code y B'.bytes B'.ml B'.ret).before a0 Z = true)
    (hst : argsL.reverse ++ rest = St) (w : WS Vc l Z n0' rm B' Qc h 0 0 0 L0 []) (hp : plainFor y = true) (hy : y.cls ≠ "java/lang/invoke/MethodHandle" ∧ y.cls ≠ "java/lang/invoke/VarHandle") (hpd : parseMethodDescriptor y.desc = some ⟨ps, r⟩) (ho : B'.own = y.cls) (hn : B'.nm = y.name) (hlen : argsL.length = ps.length) (hef : ∀ m, entryFrame m argsL.toArray B'.ml = mkF m 0 ⟨L0⟩ []) (hsz : Ls.length = B.ml)
    (hf : Nat.ble (rm.frames + 1) R.frames = true) (hlo : Nat.ble ((rest.map fun v => v.category).sum + (B'.ml + 11) + rm.locals) R.locals = true) (hc : Nat.ble (cells + rm.cells) R.cells = true) (hs : Nat.ble (slots + rm.slots) R.slots = true) (hq : pc + 3 = q) (hle : n0 ≤ n0') (hVc : ∀ (s : State) (vm0 vm1 : Vm), V s.heap vm0 → (s.setVm vm0).WarmedH vm1 → Vc h vm1)
    (K : ∀ v h', (∃ vm, Qc v h' vm) → WS (fun _ vm => Qc v h' vm) l Z n0 R B Q h' (cells + rm.cells) (slots + rm.slots) q Ls (v.toList ++ rest)) : WS V l Z n0 R B Q h cells slots pc Ls St := by
  subst hq hst
  intro p e s vm0 k0 m args below meth c T locs C X eT N _ _ hS hk hV
  have hc' := Nat.le_of_ble_eq_true hc
  have hs' := Nat.le_of_ble_eq_true hs
  obtain ⟨v, vm₁, ⟨T', L', c', s'⟩, -, X', S', G', ⟨Lc, hQ, l', y', z'⟩, st⟩ := callSS X C.1 (y := y) C.2.2.2.2.1 (mvT C.2.2.2.1 wl) (mvT C.2.2.2.1 wst) (mvT C.2.2.2.1 wz) (mvT C.2.2.2.1 wc) hy
    (backS (W' := (rest.map fun v => v.category).sum) hp ho hn hef w C.2.2.2.1 wc wz (Nat.le_of_ble_eq_true hf) (Nat.le_of_ble_eq_true hlo)) (g := mkF m pc ⟨Ls⟩ (argsL.reverse ++ rest)) rfl (by show Ls.toArray.size = _; rw [C.2.2.1]; simpa using hsz) (argsL := argsL) (rest := rest) (lenOf hpd hlen) rfl (by show 2 * 0 + _ ≤ _; omega) (hb C.2.1 hd) (fun vm1 hw => ⟨rfl, eT, hc', hs', hVc s vm0 vm1 hV hw⟩)
  dsimp only [Pt.U, Pt.locs, Pt.cells, Pt.slots] at X' S' G' l' y' z' st hQ
  subst l' y' z' eT
  obtain ⟨X'', S'', hZ', hown'⟩ := rebS hS hk X' S' G' C.2.2.2.1 C.2.2.2.2.1
  obtain ⟨s₂, v₂, L, h1, h2⟩ := K v T'.heap ⟨_, hQ.1⟩ p e s T'.vm T'.heap.size m args below meth c T' _ ⟨C.1, C.2.1, C.2.2.1, hZ', hown', C.2.2.2.2.2⟩ X'' rfl (Fr.app N fun y hy => Nat.le_trans hle (hQ.2 y hy)) hc' hs' S'' (Nat.le_refl _) hQ.1
  exact ⟨s₂, v₂, L, st.trans h1, h2⟩
theorem WS.callIW {Vc : Heap → Vm → Prop} {i : Nat} {y : MethodName} {B' : Bdy} {rm : Room} {Qc : Option Value → Heap → Vm → Prop} {L0 : List Slot} {a : Addr} {argsL rest : List Value} {ps : List FieldType} {r : Option FieldType} (hd : decode B.bytes pc = .ok (.invokespecial i, 3)) (wl : (Cond.methodLink B.own i y).before a0 Z = true) (wst : (Cond.instanceMethod y).before a0 Z = true) (wz : (Cond.initialized y.cls).before a0 Z = true) (wc : (Cond.code y B'.bytes B'.ml B'.ret).before a0 Z = true)
    (hst : argsL.reverse ++ .ref a :: rest = St) (w : WS Vc l Z n0 rm B' Qc h 0 0 0 L0 []) (hp : plainFor y = true) (hy : y.cls ≠ "java/lang/invoke/MethodHandle" ∧ y.cls ≠ "java/lang/invoke/VarHandle") (hpd : parseMethodDescriptor y.desc = some ⟨ps, r⟩) (ho : B'.own = y.cls) (hn : B'.nm = y.name) (hlen : argsL.length = ps.length) (hef : ∀ m, entryFrame m (.ref a :: argsL).toArray B'.ml = mkF m 0 ⟨L0⟩ []) (hsz : Ls.length = B.ml)
    (hf : Nat.ble (rm.frames + 1) R.frames = true) (hlo : Nat.ble ((rest.map fun v => v.category).sum + (B'.ml + 11) + rm.locals) R.locals = true) (hc : Nat.ble (cells + rm.cells) R.cells = true) (hs : Nat.ble (slots + rm.slots) R.slots = true) (hret : B'.ret = none) (hin : y.name = "<init>") (hq : pc + 3 = q) (hVc : ∀ (s : State) (vm0 vm1 : Vm), V s.heap vm0 → (s.setVm vm0).WarmedH vm1 → Vc h vm1)
    (K : ∀ v h', (∃ vm, Qc v h' vm) → WS (fun _ vm => Qc v h' vm) l Z n0 R B Q h' (cells + rm.cells) (slots + rm.slots) q Ls (v.toList ++ rest)) : WS V l Z n0 R B Q h cells slots pc Ls St := by
  subst hq hst
  intro p e s vm0 k0 m args below meth c T locs C X eT N _ _ hS hk hV
  have hc' := Nat.le_of_ble_eq_true hc
  have hs' := Nat.le_of_ble_eq_true hs
  obtain ⟨v, vm₁, ⟨T', L', c', s'⟩, -, X', S', G', ⟨Lc, hQ, l', y', z'⟩, st⟩ := X.specialBackS C.1 (y := y) hin C.2.2.2.2.1 (mvT C.2.2.2.1 wl) (mvT C.2.2.2.1 wst) (mvT C.2.2.2.1 (hret ▸ wc)) hy
    (backS (W' := (rest.map fun v => v.category).sum) hp ho hn hef w C.2.2.2.1 wc wz (Nat.le_of_ble_eq_true hf) (Nat.le_of_ble_eq_true hlo)) (g := mkF m pc ⟨Ls⟩ (argsL.reverse ++ .ref a :: rest)) rfl (by show Ls.toArray.size = _; rw [C.2.2.1]; simpa using hsz) (Steps.refl _) (a := a) (argsL := argsL) (rest := rest) (lenOf hpd hlen) rfl (by show 2 * 0 + _ ≤ _; omega) (hb C.2.1 hd) (fun vm1 hw => ⟨rfl, eT, hc', hs', hVc s vm0 vm1 hV hw⟩)
  dsimp only [Pt.U, Pt.locs, Pt.cells, Pt.slots] at X' S' G' l' y' z' st hQ
  subst l' y' z' eT
  obtain ⟨X'', S'', hZ', hown'⟩ := rebS hS hk X' S' G' C.2.2.2.1 C.2.2.2.2.1
  obtain ⟨s₂, v₂, L, h1, h2⟩ := K v T'.heap ⟨_, hQ.1⟩ p e s T'.vm T'.heap.size m args below meth c T' _ ⟨C.1, C.2.1, C.2.2.1, hZ', hown', C.2.2.2.2.2⟩ X'' rfl (Fr.app N hQ.2) hc' hs' S'' (Nat.le_refl _) hQ.1
  exact ⟨s₂, v₂, L, st.trans h1, h2⟩
/-! ### String constants -/
/-- a load, the text not read -/
theorem WS.ldcT {i n : Nat} {text : String} (hd : decode B.bytes pc = .ok (.ldc i, 2)) (w : (Cond.stringLink B.own i text).before a0 Z = true) (wS : ∀ a ∈ Bundle.stringAtoms, a.before a0 Z = true) (hn : 4 * text.toList.length ≤ n) (hbig : n ≤ 536870912) (hc : cells + 2 ≤ R.cells) (hl : slots + (n + 4) ≤ R.slots) (hq : pc + 2 = q)
    (K : ∀ h' a, Ext h h' → WS (fun _ _ => True) l Z n0 R B Q h' (cells + 2) (slots + (n + 4)) q Ls (.ref a :: St)) : WS V l Z n0 R B Q h cells slots pc Ls St := by
  subst hq
  intro p e s vm0 k0 m args below meth c T locs C X eT N _ _ hS hk hV
  obtain ⟨a, T', h', k1, X', eT', E, S', K', hZ', hown', st⟩ := ldcS X C.1 C.2.2.2.1 C.2.2.2.2.1 w wS eT hS hk (g := mkF m pc ⟨Ls⟩ St) rfl (hb C.2.1 hd) hn hbig hc hl
  obtain ⟨s₂, v₂, L, h1, h2⟩ := K h' a E p e s T'.vm k1 m args below meth c T' _ ⟨C.1, C.2.1, C.2.2.1, hZ', hown', C.2.2.2.2.2⟩ X' eT' N hc hl S' K' trivial
  exact ⟨s₂, v₂, L, st _ h1, h2⟩
/-- the first load of a constant, its text read -/
theorem WS.ldcV {i n : Nat} {text : String} {h0 : Heap} {vs : List Value} {z : Int32} (hd : decode B.bytes pc = .ok (.ldc i, 2)) (w : (Cond.stringLink B.own i text).before a0 Z = true) (wS : ∀ a ∈ Bundle.stringAtoms, a.before a0 Z = true) (hn0 : n0 = h0.size) (hkeep : ∀ (b : Addr) (cl : Cell), Z.heap[b]? = some cl → h0[b]? = some cl) (hh : Jvm.Lit.constHeld Z B.own i) (hcw : Jvm.Lit.compactW.before a0 Z = true)
    (ht : (∀ c ∈ text.toList, c.toNat < 256) ∧ text.toList.map (fun c => Value.int (Jvm.Lit.byteI c.toNat.toUInt16)) = vs) (hz : ¬ z < 0) (hzl : z.toNatClampNeg = vs.length) (hn : 4 * text.toList.length ≤ n) (hbig : n ≤ 536870912) (hc : cells + 2 ≤ R.cells) (hl : slots + (n + 4) ≤ R.slots) (hq : pc + 2 = q)
    (K : ∀ h' a b k, Ext h h' → Exa Z h' a "java/lang/String" → Fld Z h' a "java/lang/String" "coder" "B" (.int 0) → Fld Z h' a "java/lang/String" "value" "[B" (.ref b) → Arv Z h' b k .byte z vs (.int 0) → WS (fun _ vm => Lit (Z.setVm vm) B.own i a) l Z n0 R B Q h' (cells + 2) (slots + (n + 4)) q Ls (.ref a :: St)) : WS (fun hs vm => hs = h0 ∧ IB Z vm []) l Z n0 R B Q h cells slots pc Ls St := by
  subst hq
  intro p e s vm0 k0 m args below meth c T locs C X eT N _ _ hS hk hV
  obtain ⟨a, T', h', k1, b, k, X', eT', E, S', K', hZ', hown', F1, F2, F3, F4, -, -, -, L', st⟩ := ldcSVL X C.1 C.2.2.2.1 C.2.2.2.2.1 w wS eT hS hk (by rw [hV.1, ← hn0]; exact N) (by rw [hV.1]; exact hkeep) hV.2 (by simp) hh hcw ht hz hzl (g := mkF m pc ⟨Ls⟩ St) rfl (hb C.2.1 hd) hn hbig hc hl
  obtain ⟨s₂, v₂, L, h1, h2⟩ := K h' a b k E F1 F2 F3 F4 p e s T'.vm k1 m args below meth c T' _ ⟨C.1, C.2.1, C.2.2.1, hZ', hown', C.2.2.2.2.2⟩ X' eT' N hc hl S' K' L'
  exact ⟨s₂, v₂, L, st _ h1, h2⟩
/-- a later load of a constant -/
theorem WS.ldcA {i : Nat} {text : String} {a : Addr} (hd : decode B.bytes pc = .ok (.ldc i, 2)) (w : (Cond.stringLink B.own i text).before a0 Z = true) (hL : ∀ hs vm, V hs vm → Lit (Z.setVm vm) B.own i a) (hq : pc + 2 = q)
    (K : WS V l Z n0 R B Q h cells slots q Ls (.ref a :: St)) : WS V l Z n0 R B Q h cells slots pc Ls St := by
  subst hq
  intro p e s vm0 k0 m args below meth c T locs C X eT N hc hl hS hk hV
  have st := ldcAgain X C.1 C.2.2.2.1 C.2.2.2.2.1 w (a := a) (hL _ _ hV) (g := mkF m pc ⟨Ls⟩ St) rfl (hb C.2.1 hd)
  obtain ⟨s₂, v₂, L, h1, h2⟩ := K p e s vm0 k0 m args below meth c T _ C X eT N hc hl hS hk hV
  exact ⟨s₂, v₂, L, st _ h1, h2⟩
theorem WS.callS_I {i : Nat} {y : MethodName} {B' : Bdy} {rm : Room} {P : Int32 → Heap → Prop} {L0 : List Slot} {argsL rest : List Value} {ps : List FieldType} {r : Option FieldType} (hd : decode B.bytes pc = .ok (.invokestatic i, 3)) (wl : (Cond.methodLink B.own i y).before a0 Z = true) (wst : (Cond.static y).before a0 Z = true) (wz : (Cond.initialized y.cls).before a0 Z = true) (wc : (Cond.code y B'.bytes B'.ml B'.ret).before a0 Z = true)
    (hst : argsL.reverse ++ rest = St) (w : W l Z n0 rm B' (RI P) h 0 0 0 L0 []) (hp : plainFor y = true) (hy : y.cls ≠ "java/lang/invoke/MethodHandle" ∧ y.cls ≠ "java/lang/invoke/VarHandle") (hpd : parseMethodDescriptor y.desc = some ⟨ps, r⟩) (ho : B'.own = y.cls) (hn : B'.nm = y.name) (hlen : argsL.length = ps.length) (hef : ∀ m, entryFrame m argsL.toArray B'.ml = mkF m 0 ⟨L0⟩ []) (hsz : Ls.length = B.ml)
    (hf : Nat.ble (rm.frames + 1) R.frames = true) (hlo : Nat.ble ((rest.map fun v => v.category).sum + (B'.ml + 11) + rm.locals) R.locals = true) (hc : Nat.ble (cells + rm.cells) R.cells = true) (hs : Nat.ble (slots + rm.slots) R.slots = true) (hq : pc + 3 = q) (hg : ∀ u h', P u h' → h.size ≤ h'.size)
    (K : ∀ (u : Int32) h', P u h' → WS V l Z n0 R B Q h' (cells + rm.cells) (slots + rm.slots) q Ls (.int u :: rest)) : WS V l Z n0 R B Q h cells slots pc Ls St :=
  WS.callS hd wl wst wz wc hst w hp hy hpd ho hn hlen hef hsz hf hlo hc hs hq (fun v h' hQ => by obtain ⟨u, rfl, hP⟩ := hQ; exact hg u h' hP) (fun v h' hQ => by obtain ⟨u, rfl, hP⟩ := hQ; exact K u h' hP)
theorem WS.callS_A {i : Nat} {y : MethodName} {B' : Bdy} {rm : Room} {P : Value → Heap → Prop} {L0 : List Slot} {argsL rest : List Value} {ps : List FieldType} {r : Option FieldType} (hd : decode B.bytes pc = .ok (.invokestatic i, 3)) (wl : (Cond.methodLink B.own i y).before a0 Z = true) (wst : (Cond.static y).before a0 Z = true) (wz : (Cond.initialized y.cls).before a0 Z = true) (wc : (Cond.code y B'.bytes B'.ml B'.ret).before a0 Z = true)
    (hst : argsL.reverse ++ rest = St) (w : W l Z n0 rm B' (RA P) h 0 0 0 L0 []) (hp : plainFor y = true) (hy : y.cls ≠ "java/lang/invoke/MethodHandle" ∧ y.cls ≠ "java/lang/invoke/VarHandle") (hpd : parseMethodDescriptor y.desc = some ⟨ps, r⟩) (ho : B'.own = y.cls) (hn : B'.nm = y.name) (hlen : argsL.length = ps.length) (hef : ∀ m, entryFrame m argsL.toArray B'.ml = mkF m 0 ⟨L0⟩ []) (hsz : Ls.length = B.ml)
    (hf : Nat.ble (rm.frames + 1) R.frames = true) (hlo : Nat.ble ((rest.map fun v => v.category).sum + (B'.ml + 11) + rm.locals) R.locals = true) (hc : Nat.ble (cells + rm.cells) R.cells = true) (hs : Nat.ble (slots + rm.slots) R.slots = true) (hq : pc + 3 = q) (hg : ∀ u h', P u h' → h.size ≤ h'.size)
    (K : ∀ (u : Value) h', P u h' → WS V l Z n0 R B Q h' (cells + rm.cells) (slots + rm.slots) q Ls (u :: rest)) : WS V l Z n0 R B Q h cells slots pc Ls St :=
  WS.callS hd wl wst wz wc hst w hp hy hpd ho hn hlen hef hsz hf hlo hc hs hq (fun v h' hQ => by obtain ⟨u, rfl, hP⟩ := hQ; exact hg u h' hP) (fun v h' hQ => by obtain ⟨u, rfl, hP⟩ := hQ; exact K u h' hP)
theorem WS.callV_I {i : Nat} {y : MethodName} {C' : String} {B' : Bdy} {rm : Room} {P : Int32 → Heap → Prop} {L0 : List Slot} {a : Addr} {argsL rest : List Value} {ps : List FieldType} {r : Option FieldType} (hd : decode B.bytes pc = .ok (.invokevirtual i, 3)) (wl : (Cond.methodLink B.own i y).before a0 Z = true) (wd : (Cond.declares y).before a0 Z = true) (wsel : (Cond.selects C' y y).before a0 Z = true) (wst : (Cond.instanceMethod y).before a0 Z = true) (wz : (Cond.initialized y.cls).before a0 Z = true) (wc : (Cond.code y B'.bytes B'.ml B'.ret).before a0 Z = true)
    (hst : argsL.reverse ++ .ref a :: rest = St) (E : Exa Z h a C') (w : W l Z n0 rm B' (RI P) h 0 0 0 L0 []) (hp : plainFor y = true) (hy : y.cls ≠ "java/lang/invoke/MethodHandle" ∧ y.cls ≠ "java/lang/invoke/VarHandle") (hpd : parseMethodDescriptor y.desc = some ⟨ps, r⟩) (ho : B'.own = y.cls) (hn : B'.nm = y.name) (hlen : argsL.length = ps.length) (hef : ∀ m, entryFrame m (.ref a :: argsL).toArray B'.ml = mkF m 0 ⟨L0⟩ []) (hsz : Ls.length = B.ml)
    (hf : Nat.ble (rm.frames + 1) R.frames = true) (hlo : Nat.ble ((rest.map fun v => v.category).sum + (B'.ml + 11) + rm.locals) R.locals = true) (hc : Nat.ble (cells + rm.cells) R.cells = true) (hs : Nat.ble (slots + rm.slots) R.slots = true) (hq : pc + 3 = q) (hg : ∀ u h', P u h' → h.size ≤ h'.size)
    (K : ∀ (u : Int32) h', P u h' → WS V l Z n0 R B Q h' (cells + rm.cells) (slots + rm.slots) q Ls (.int u :: rest)) : WS V l Z n0 R B Q h cells slots pc Ls St :=
  WS.callV hd wl wd wsel wst wz wc hst E w hp hy hpd ho hn hlen hef hsz hf hlo hc hs hq (fun v h' hQ => by obtain ⟨u, rfl, hP⟩ := hQ; exact hg u h' hP) (fun v h' hQ => by obtain ⟨u, rfl, hP⟩ := hQ; exact K u h' hP)
end StepsS
section StepsC
variable {l : Launch} {Z : State} {n0 : Nat} {R : Room} {B : Bdy} {Q : Option Value → Heap → Prop} {h : Heap} {cells slots pc q : Nat} {Ls Ls' : List Slot} {St St' : List Value} {a0 : Array Value}
theorem W.caloadC {a : Addr} {xs : List Int32} {j v : Int32} (hd : decode B.bytes pc = .ok (.caload, 1)) (A : AI Z h a .char xs) (h0 : ¬ j < 0) (hv : xs[j.toNatClampNeg]? = some v) (hq : pc + 1 = q) (K : W l Z n0 R B Q h cells slots q Ls (.int v :: St)) : W l Z n0 R B Q h cells slots pc Ls (.int j :: .ref a :: St) := by
  subst hq; obtain ⟨cl, A, hs, -⟩ := A
  exact W.same K (fun p e s m args below meth c T locs C X eT t hr => X.caload (g := mkF m pc ⟨Ls⟩ (.int j :: .ref a :: St)) C.1 (by rw [eT]; exact A.1) (State.isArrayOf_alike C.2.2.2.1.alike A.2.1) A.2.2 (inI hs h0 hv).1 (inI hs h0 hv).2 rfl rfl (hb C.2.1 hd) t hr)
theorem W.castoreC {a : Addr} {xs : List Int32} {j x x' : Int32} (hd : decode B.bytes pc = .ok (.castore, 1)) (A : AI Z h a .char xs) (h0 : ¬ j < 0) (hj : j.toNatClampNeg < xs.length) (hx : nar .char x = x') (ha : n0 ≤ a) (hq : pc + 1 = q) (K : ∀ h', Wr h h' a j.toNatClampNeg (.int x') → AI Z h' a .char (xs.set j.toNatClampNeg x') → W l Z n0 R B Q h' cells slots q Ls St) : W l Z n0 R B Q h cells slots pc Ls (.int x :: .int j :: .ref a :: St) := by
  subst hq hx; obtain ⟨cl, A', hs, hl⟩ := A
  exact W.wrote (fun p e s m args below meth c T locs C X eT => stC X (g := mkF m pc ⟨Ls⟩ (.int x :: .int j :: .ref a :: St)) C.1 C.2.2.2.1 eT A' (outI hs h0 hj) rfl rfl (hb C.2.1 hd)) ha (fun h' w => K h' w (AI.set ⟨cl, A', hs, hl⟩ w))
end StepsC
end Jvm.OwnW
namespace Jvm.Pilot.@@N@@
open Jvm Jvm.ClassFile Sem Op Lib Jvm.Free Jvm.Stand Jvm.LawKit Jvm.RoadKit Bundle Jvm.OwnW Jvm.Pilot.@@N@@.Jvm.D
abbrev B0 : Bdy := (x.cls, x.name, code, maxLocals, ret)
theorem own_pf0 : plainFor x = true := by first | exact plainFor_of_name (by first | (simp [plainName, overriddenIn, x]; done) | decide +kernel) | decide +kernel
abbrev B1 : Bdy := ("java/lang/Math", "min", jdk_29_method_69_code, 2, (some .int))
theorem d1_0 : decode jdk_29_method_69_code 0 = .ok (.iload_n 0, 1) := by decide +kernel
theorem d1_1 : decode jdk_29_method_69_code 1 = .ok (.iload_n 1, 1) := by decide +kernel
theorem d1_2 : decode jdk_29_method_69_code 2 = .ok (.if_icmp .gt 7, 3) := by decide +kernel
theorem d1_5 : decode jdk_29_method_69_code 5 = .ok (.iload_n 0, 1) := by decide +kernel
theorem d1_6 : decode jdk_29_method_69_code 6 = .ok (.goto 4, 3) := by decide +kernel
theorem d1_9 : decode jdk_29_method_69_code 9 = .ok (.iload_n 1, 1) := by decide +kernel
theorem d1_10 : decode jdk_29_method_69_code 10 = .ok (.ireturn, 1) := by decide +kernel
theorem own_pf1 : plainFor (⟨"java/lang/Math", "min", "(II)I"⟩ : MethodName) = true := by first | exact plainFor_of_name (by first | (simp [plainName, overriddenIn, x]; done) | decide +kernel) | decide +kernel
theorem own_pd1 : parseMethodDescriptor "(II)I" = some ⟨[.int, .int], (some .int)⟩ := by decide +kernel
abbrev B2 : Bdy := ("com/example/domaine/domaine/fields/FieldProblemEqualsPinLaw", "mk", method_3_code, 3, (some (.object "java/lang/String")))
theorem d2_0 : decode method_3_code 0 = .ok (.iload_n 0, 1) := by decide +kernel
theorem d2_1 : decode method_3_code 1 = .ok (.ifCond .ne 6, 3) := by decide +kernel
theorem d2_4 : decode method_3_code 4 = .ok (.ldc 19, 2) := by decide +kernel
theorem d2_6 : decode method_3_code 6 = .ok (.areturn, 1) := by decide +kernel
theorem d2_7 : decode method_3_code 7 = .ok (.iload_n 0, 1) := by decide +kernel
theorem d2_8 : decode method_3_code 8 = .ok (.iconst 1, 1) := by decide +kernel
theorem d2_9 : decode method_3_code 9 = .ok (.if_icmp .ne 8, 3) := by decide +kernel
theorem d2_12 : decode method_3_code 12 = .ok (.iload_n 1, 1) := by decide +kernel
theorem d2_13 : decode method_3_code 13 = .ok (.invokestatic 21, 3) := by decide +kernel
theorem d2_16 : decode method_3_code 16 = .ok (.areturn, 1) := by decide +kernel
theorem d2_17 : decode method_3_code 17 = .ok (.new 22, 3) := by decide +kernel
theorem d2_20 : decode method_3_code 20 = .ok (.dup, 1) := by decide +kernel
theorem d2_21 : decode method_3_code 21 = .ok (.iconst 2, 1) := by decide +kernel
theorem d2_22 : decode method_3_code 22 = .ok (.newarray .char, 2) := by decide +kernel
theorem d2_24 : decode method_3_code 24 = .ok (.dup, 1) := by decide +kernel
theorem d2_25 : decode method_3_code 25 = .ok (.iconst 0, 1) := by decide +kernel
theorem d2_26 : decode method_3_code 26 = .ok (.iload_n 1, 1) := by decide +kernel
theorem d2_27 : decode method_3_code 27 = .ok (.castore, 1) := by decide +kernel
theorem d2_28 : decode method_3_code 28 = .ok (.dup, 1) := by decide +kernel
theorem d2_29 : decode method_3_code 29 = .ok (.iconst 1, 1) := by decide +kernel
theorem d2_30 : decode method_3_code 30 = .ok (.iload_n 2, 1) := by decide +kernel
theorem d2_31 : decode method_3_code 31 = .ok (.castore, 1) := by decide +kernel
theorem d2_32 : decode method_3_code 32 = .ok (.invokespecial 27, 3) := by decide +kernel
theorem d2_35 : decode method_3_code 35 = .ok (.areturn, 1) := by decide +kernel
theorem own_pf2 : plainFor (⟨"com/example/domaine/domaine/fields/FieldProblemEqualsPinLaw", "mk", "(ICC)Ljava/lang/String;"⟩ : MethodName) = true := by first | exact plainFor_of_name (by first | (simp [plainName, overriddenIn, x]; done) | decide +kernel) | decide +kernel
theorem own_pd2 : parseMethodDescriptor "(ICC)Ljava/lang/String;" = some ⟨[.int, .char, .char], (some (.object "java/lang/String"))⟩ := by decide +kernel
abbrev B3 : Bdy := ("java/lang/String", "<init>", jdk_42_method_3_code, 2, none)
theorem d3_0 : decode jdk_42_method_3_code 0 = .ok (.aload_n 0, 1) := by decide +kernel
theorem d3_1 : decode jdk_42_method_3_code 1 = .ok (.aload_n 1, 1) := by decide +kernel
theorem d3_2 : decode jdk_42_method_3_code 2 = .ok (.iconst 0, 1) := by decide +kernel
theorem d3_3 : decode jdk_42_method_3_code 3 = .ok (.aload_n 1, 1) := by decide +kernel
theorem d3_4 : decode jdk_42_method_3_code 4 = .ok (.arraylength, 1) := by decide +kernel
theorem d3_5 : decode jdk_42_method_3_code 5 = .ok (.aconst_null, 1) := by decide +kernel
theorem d3_6 : decode jdk_42_method_3_code 6 = .ok (.invokespecial 27, 3) := by decide +kernel
theorem d3_9 : decode jdk_42_method_3_code 9 = .ok (.return_, 1) := by decide +kernel
theorem own_pf3 : plainFor (⟨"java/lang/String", "<init>", "([C)V"⟩ : MethodName) = true := by first | exact plainFor_of_name (by first | (simp [plainName, overriddenIn, x]; done) | decide +kernel) | decide +kernel
theorem own_pd3 : parseMethodDescriptor "([C)V" = some ⟨[(.array .char)], none⟩ := by decide +kernel
abbrev B4 : Bdy := ("java/lang/String", "<init>", jdk_42_method_149_code, 6, none)
theorem d4_0 : decode jdk_42_method_149_code 0 = .ok (.aload_n 0, 1) := by decide +kernel
theorem d4_1 : decode jdk_42_method_149_code 1 = .ok (.invokespecial 1, 3) := by decide +kernel
theorem d4_4 : decode jdk_42_method_149_code 4 = .ok (.iload_n 3, 1) := by decide +kernel
theorem d4_5 : decode jdk_42_method_149_code 5 = .ok (.ifCond .ne 22, 3) := by decide +kernel
theorem d4_27 : decode jdk_42_method_149_code 27 = .ok (.getstatic 38, 3) := by decide +kernel
theorem d4_30 : decode jdk_42_method_149_code 30 = .ok (.ifCond .eq 28, 3) := by decide +kernel
theorem d4_33 : decode jdk_42_method_149_code 33 = .ok (.aload_n 1, 1) := by decide +kernel
theorem d4_34 : decode jdk_42_method_149_code 34 = .ok (.iload_n 2, 1) := by decide +kernel
theorem d4_35 : decode jdk_42_method_149_code 35 = .ok (.iload_n 3, 1) := by decide +kernel
theorem d4_36 : decode jdk_42_method_149_code 36 = .ok (.invokestatic 177, 3) := by decide +kernel
theorem d4_39 : decode jdk_42_method_149_code 39 = .ok (.astore 5, 2) := by decide +kernel
theorem d4_41 : decode jdk_42_method_149_code 41 = .ok (.aload_n 0, 1) := by decide +kernel
theorem d4_42 : decode jdk_42_method_149_code 42 = .ok (.aload 5, 2) := by decide +kernel
theorem d4_44 : decode jdk_42_method_149_code 44 = .ok (.iload_n 3, 1) := by decide +kernel
theorem d4_45 : decode jdk_42_method_149_code 45 = .ok (.invokestatic 47, 3) := by decide +kernel
theorem d4_48 : decode jdk_42_method_149_code 48 = .ok (.putfield 15, 3) := by decide +kernel
theorem d4_51 : decode jdk_42_method_149_code 51 = .ok (.aload_n 0, 1) := by decide +kernel
theorem d4_52 : decode jdk_42_method_149_code 52 = .ok (.aload 5, 2) := by decide +kernel
theorem d4_54 : decode jdk_42_method_149_code 54 = .ok (.putfield 9, 3) := by decide +kernel
theorem d4_57 : decode jdk_42_method_149_code 57 = .ok (.return_, 1) := by decide +kernel
theorem own_pf4 : plainFor (⟨"java/lang/String", "<init>", "([CIILjava/lang/Void;)V"⟩ : MethodName) = true := by first | exact plainFor_of_name (by first | (simp [plainName, overriddenIn, x]; done) | decide +kernel) | decide +kernel
theorem own_pd4 : parseMethodDescriptor "([CIILjava/lang/Void;)V" = some ⟨[(.array .char), .int, .int, (.object "java/lang/Void")], none⟩ := by decide +kernel
abbrev B5 : Bdy := ("java/lang/Object", "<init>", object_method_1_code, 1, none)
abbrev B6 : Bdy := ("java/lang/StringUTF16", "compress", jdk_52_method_16_code, 6, (some (.array .byte)))
theorem d6_0 : decode jdk_52_method_16_code 0 = .ok (.iload_n 2, 1) := by decide +kernel
theorem d6_1 : decode jdk_52_method_16_code 1 = .ok (.newarray .byte, 2) := by decide +kernel
theorem d6_3 : decode jdk_52_method_16_code 3 = .ok (.astore_n 3, 1) := by decide +kernel
theorem d6_4 : decode jdk_52_method_16_code 4 = .ok (.aload_n 0, 1) := by decide +kernel
theorem d6_5 : decode jdk_52_method_16_code 5 = .ok (.iload_n 1, 1) := by decide +kernel
theorem d6_6 : decode jdk_52_method_16_code 6 = .ok (.aload_n 3, 1) := by decide +kernel
theorem d6_7 : decode jdk_52_method_16_code 7 = .ok (.iconst 0, 1) := by decide +kernel
theorem d6_8 : decode jdk_52_method_16_code 8 = .ok (.iload_n 2, 1) := by decide +kernel
theorem d6_9 : decode jdk_52_method_16_code 9 = .ok (.invokestatic 115, 3) := by decide +kernel
theorem d6_12 : decode jdk_52_method_16_code 12 = .ok (.istore 4, 2) := by decide +kernel
theorem d6_14 : decode jdk_52_method_16_code 14 = .ok (.iload 4, 2) := by decide +kernel
theorem d6_16 : decode jdk_52_method_16_code 16 = .ok (.iload_n 2, 1) := by decide +kernel
theorem d6_17 : decode jdk_52_method_16_code 17 = .ok (.if_icmp .eq 40, 3) := by decide +kernel
theorem d6_57 : decode jdk_52_method_16_code 57 = .ok (.aload_n 3, 1) := by decide +kernel
theorem d6_58 : decode jdk_52_method_16_code 58 = .ok (.areturn, 1) := by decide +kernel
theorem own_pf6 : plainFor (⟨"java/lang/StringUTF16", "compress", "([CII)[B"⟩ : MethodName) = true := by first | exact plainFor_of_name (by first | (simp [plainName, overriddenIn, x]; done) | decide +kernel) | decide +kernel
theorem own_pd6 : parseMethodDescriptor "([CII)[B" = some ⟨[(.array .char), .int, .int], (some (.array .byte))⟩ := by decide +kernel
abbrev B7 : Bdy := ("java/lang/StringUTF16", "compress", jdk_52_method_21_code, 7, (some .int))
theorem d7_0 : decode jdk_52_method_21_code 0 = .ok (.iconst 0, 1) := by decide +kernel
theorem d7_1 : decode jdk_52_method_21_code 1 = .ok (.istore 5, 2) := by decide +kernel
theorem d7_3 : decode jdk_52_method_21_code 3 = .ok (.iload 5, 2) := by decide +kernel
theorem d7_5 : decode jdk_52_method_21_code 5 = .ok (.iload 4, 2) := by decide +kernel
theorem d7_7 : decode jdk_52_method_21_code 7 = .ok (.if_icmp .ge 37, 3) := by decide +kernel
theorem d7_10 : decode jdk_52_method_21_code 10 = .ok (.aload_n 0, 1) := by decide +kernel
theorem d7_11 : decode jdk_52_method_21_code 11 = .ok (.iload_n 1, 1) := by decide +kernel
theorem d7_12 : decode jdk_52_method_21_code 12 = .ok (.caload, 1) := by decide +kernel
theorem d7_13 : decode jdk_52_method_21_code 13 = .ok (.istore 6, 2) := by decide +kernel
theorem d7_15 : decode jdk_52_method_21_code 15 = .ok (.iload 6, 2) := by decide +kernel
theorem d7_17 : decode jdk_52_method_21_code 17 = .ok (.sipush 255, 3) := by decide +kernel
theorem d7_20 : decode jdk_52_method_21_code 20 = .ok (.if_icmp .le 6, 3) := by decide +kernel
theorem d7_26 : decode jdk_52_method_21_code 26 = .ok (.aload_n 2, 1) := by decide +kernel
theorem d7_27 : decode jdk_52_method_21_code 27 = .ok (.iload_n 3, 1) := by decide +kernel
theorem d7_28 : decode jdk_52_method_21_code 28 = .ok (.iload 6, 2) := by decide +kernel
theorem d7_30 : decode jdk_52_method_21_code 30 = .ok (.i2b, 1) := by decide +kernel
theorem d7_31 : decode jdk_52_method_21_code 31 = .ok (.bastore, 1) := by decide +kernel
theorem d7_32 : decode jdk_52_method_21_code 32 = .ok (.iinc 1 1, 3) := by decide +kernel
theorem d7_35 : decode jdk_52_method_21_code 35 = .ok (.iinc 3 1, 3) := by decide +kernel
theorem d7_38 : decode jdk_52_method_21_code 38 = .ok (.iinc 5 1, 3) := by decide +kernel
theorem d7_41 : decode jdk_52_method_21_code 41 = .ok (.goto (-38), 3) := by decide +kernel
theorem d7_44 : decode jdk_52_method_21_code 44 = .ok (.iload 4, 2) := by decide +kernel
theorem d7_46 : decode jdk_52_method_21_code 46 = .ok (.ireturn, 1) := by decide +kernel
theorem own_pf7 : plainFor (⟨"java/lang/StringUTF16", "compress", "([CI[BII)I"⟩ : MethodName) = true := by first | exact plainFor_of_name (by first | (simp [plainName, overriddenIn, x]; done) | decide +kernel) | decide +kernel
theorem own_pd7 : parseMethodDescriptor "([CI[BII)I" = some ⟨[(.array .char), .int, (.array .byte), .int, .int], (some .int)⟩ := by decide +kernel
abbrev B8 : Bdy := ("java/lang/StringUTF16", "coderFromArrayLen", jdk_52_method_15_code, 2, (some .byte))
theorem d8_0 : decode jdk_52_method_15_code 0 = .ok (.iload_n 1, 1) := by decide +kernel
theorem d8_1 : decode jdk_52_method_15_code 1 = .ok (.aload_n 0, 1) := by decide +kernel
theorem d8_2 : decode jdk_52_method_15_code 2 = .ok (.arraylength, 1) := by decide +kernel
theorem d8_3 : decode jdk_52_method_15_code 3 = .ok (.isub, 1) := by decide +kernel
theorem d8_4 : decode jdk_52_method_15_code 4 = .ok (.bipush 31, 2) := by decide +kernel
theorem d8_6 : decode jdk_52_method_15_code 6 = .ok (.iushr, 1) := by decide +kernel
theorem d8_7 : decode jdk_52_method_15_code 7 = .ok (.i2b, 1) := by decide +kernel
theorem d8_8 : decode jdk_52_method_15_code 8 = .ok (.ireturn, 1) := by decide +kernel
theorem own_pf8 : plainFor (⟨"java/lang/StringUTF16", "coderFromArrayLen", "([BI)B"⟩ : MethodName) = true := by first | exact plainFor_of_name (by first | (simp [plainName, overriddenIn, x]; done) | decide +kernel) | decide +kernel
theorem own_pd8 : parseMethodDescriptor "([BI)B" = some ⟨[(.array .byte), .int], (some .byte)⟩ := by decide +kernel
abbrev B9 : Bdy := ("com/example/domaine/domaine/fields/FieldProblemEqualsPinLaw", "pick", method_2_code, 1, (some (.object "com/example/domaine/domaine/fields/FieldError")))
theorem d9_0 : decode method_2_code 0 = .ok (.iload_n 0, 1) := by decide +kernel
theorem d9_1 : decode method_2_code 1 = .ok (.ifCond .ne 7, 3) := by decide +kernel
theorem d9_4 : decode method_2_code 4 = .ok (.getstatic 7, 3) := by decide +kernel
theorem d9_7 : decode method_2_code 7 = .ok (.areturn, 1) := by decide +kernel
theorem d9_8 : decode method_2_code 8 = .ok (.iload_n 0, 1) := by decide +kernel
theorem d9_9 : decode method_2_code 9 = .ok (.iconst 1, 1) := by decide +kernel
theorem d9_10 : decode method_2_code 10 = .ok (.if_icmp .ne 7, 3) := by decide +kernel
theorem d9_13 : decode method_2_code 13 = .ok (.getstatic 13, 3) := by decide +kernel
theorem d9_16 : decode method_2_code 16 = .ok (.areturn, 1) := by decide +kernel
theorem d9_17 : decode method_2_code 17 = .ok (.getstatic 16, 3) := by decide +kernel
theorem d9_20 : decode method_2_code 20 = .ok (.areturn, 1) := by decide +kernel
theorem own_pf9 : plainFor (⟨"com/example/domaine/domaine/fields/FieldProblemEqualsPinLaw", "pick", "(I)Lcom/example/domaine/domaine/fields/FieldError;"⟩ : MethodName) = true := by first | exact plainFor_of_name (by first | (simp [plainName, overriddenIn, x]; done) | decide +kernel) | decide +kernel
theorem own_pd9 : parseMethodDescriptor "(I)Lcom/example/domaine/domaine/fields/FieldError;" = some ⟨[.int], (some (.object "com/example/domaine/domaine/fields/FieldError"))⟩ := by decide +kernel
abbrev B10 : Bdy := ("com/example/domaine/domaine/fields/FieldProblem", "<init>", prog_36_method_1_code, 3, none)
theorem d10_0 : decode prog_36_method_1_code 0 = .ok (.aload_n 0, 1) := by decide +kernel
theorem d10_1 : decode prog_36_method_1_code 1 = .ok (.invokespecial 1, 3) := by decide +kernel
theorem d10_4 : decode prog_36_method_1_code 4 = .ok (.aload_n 0, 1) := by decide +kernel
theorem d10_5 : decode prog_36_method_1_code 5 = .ok (.aload_n 1, 1) := by decide +kernel
theorem d10_6 : decode prog_36_method_1_code 6 = .ok (.ldc 7, 2) := by decide +kernel
theorem d10_8 : decode prog_36_method_1_code 8 = .ok (.invokestatic 9, 3) := by decide +kernel
theorem d10_11 : decode prog_36_method_1_code 11 = .ok (.checkcast 15, 3) := by decide +kernel
theorem d10_14 : decode prog_36_method_1_code 14 = .ok (.putfield 17, 3) := by decide +kernel
theorem d10_17 : decode prog_36_method_1_code 17 = .ok (.aload_n 0, 1) := by decide +kernel
theorem d10_18 : decode prog_36_method_1_code 18 = .ok (.aload_n 2, 1) := by decide +kernel
theorem d10_19 : decode prog_36_method_1_code 19 = .ok (.ldc 22, 2) := by decide +kernel
theorem d10_21 : decode prog_36_method_1_code 21 = .ok (.invokestatic 9, 3) := by decide +kernel
theorem d10_24 : decode prog_36_method_1_code 24 = .ok (.checkcast 24, 3) := by decide +kernel
theorem d10_27 : decode prog_36_method_1_code 27 = .ok (.putfield 26, 3) := by decide +kernel
theorem d10_30 : decode prog_36_method_1_code 30 = .ok (.return_, 1) := by decide +kernel
theorem own_pf10 : plainFor (⟨"com/example/domaine/domaine/fields/FieldProblem", "<init>", "(Ljava/lang/String;Lcom/example/domaine/domaine/fields/FieldError;)V"⟩ : MethodName) = true := by first | exact plainFor_of_name (by first | (simp [plainName, overriddenIn, x]; done) | decide +kernel) | decide +kernel
theorem own_pd10 : parseMethodDescriptor "(Ljava/lang/String;Lcom/example/domaine/domaine/fields/FieldError;)V" = some ⟨[(.object "java/lang/String"), (.object "com/example/domaine/domaine/fields/FieldError")], none⟩ := by decide +kernel
abbrev B11 : Bdy := ("java/util/Objects", "requireNonNull", jdk_31_method_11_code, 2, (some (.object "java/lang/Object")))
theorem d11_0 : decode jdk_31_method_11_code 0 = .ok (.aload_n 0, 1) := by decide +kernel
theorem d11_1 : decode jdk_31_method_11_code 1 = .ok (.ifnonnull 12, 3) := by decide +kernel
theorem d11_13 : decode jdk_31_method_11_code 13 = .ok (.aload_n 0, 1) := by decide +kernel
theorem d11_14 : decode jdk_31_method_11_code 14 = .ok (.areturn, 1) := by decide +kernel
theorem own_pf11 : plainFor (⟨"java/util/Objects", "requireNonNull", "(Ljava/lang/Object;Ljava/lang/String;)Ljava/lang/Object;"⟩ : MethodName) = true := by first | exact plainFor_of_name (by first | (simp [plainName, overriddenIn, x]; done) | decide +kernel) | decide +kernel
theorem own_pd11 : parseMethodDescriptor "(Ljava/lang/Object;Ljava/lang/String;)Ljava/lang/Object;" = some ⟨[(.object "java/lang/Object"), (.object "java/lang/String")], (some (.object "java/lang/Object"))⟩ := by decide +kernel
abbrev B12 : Bdy := ("com/example/domaine/domaine/fields/FieldProblem", "equals", prog_36_method_4_code, 2, (some .boolean))
theorem d12_0 : decode prog_36_method_4_code 0 = .ok (.aload_n 1, 1) := by decide +kernel
theorem d12_1 : decode prog_36_method_4_code 1 = .ok (.instanceof 18, 3) := by decide +kernel
theorem d12_4 : decode prog_36_method_4_code 4 = .ok (.ifCond .eq 38, 3) := by decide +kernel
theorem d12_7 : decode prog_36_method_4_code 7 = .ok (.aload_n 0, 1) := by decide +kernel
theorem d12_8 : decode prog_36_method_4_code 8 = .ok (.getfield 17, 3) := by decide +kernel
theorem d12_11 : decode prog_36_method_4_code 11 = .ok (.aload_n 1, 1) := by decide +kernel
theorem d12_12 : decode prog_36_method_4_code 12 = .ok (.checkcast 18, 3) := by decide +kernel
theorem d12_15 : decode prog_36_method_4_code 15 = .ok (.getfield 17, 3) := by decide +kernel
theorem d12_18 : decode prog_36_method_4_code 18 = .ok (.invokevirtual 29, 3) := by decide +kernel
theorem d12_21 : decode prog_36_method_4_code 21 = .ok (.ifCond .eq 21, 3) := by decide +kernel
theorem d12_24 : decode prog_36_method_4_code 24 = .ok (.aload_n 0, 1) := by decide +kernel
theorem d12_25 : decode prog_36_method_4_code 25 = .ok (.getfield 26, 3) := by decide +kernel
theorem d12_28 : decode prog_36_method_4_code 28 = .ok (.aload_n 1, 1) := by decide +kernel
theorem d12_29 : decode prog_36_method_4_code 29 = .ok (.checkcast 18, 3) := by decide +kernel
theorem d12_32 : decode prog_36_method_4_code 32 = .ok (.getfield 26, 3) := by decide +kernel
theorem d12_35 : decode prog_36_method_4_code 35 = .ok (.if_acmp .ne 7, 3) := by decide +kernel
theorem d12_38 : decode prog_36_method_4_code 38 = .ok (.iconst 1, 1) := by decide +kernel
theorem d12_39 : decode prog_36_method_4_code 39 = .ok (.goto 4, 3) := by decide +kernel
theorem d12_42 : decode prog_36_method_4_code 42 = .ok (.iconst 0, 1) := by decide +kernel
theorem d12_43 : decode prog_36_method_4_code 43 = .ok (.ireturn, 1) := by decide +kernel
theorem own_pf12 : plainFor (⟨"com/example/domaine/domaine/fields/FieldProblem", "equals", "(Ljava/lang/Object;)Z"⟩ : MethodName) = true := by first | exact plainFor_of_name (by first | (simp [plainName, overriddenIn, x]; done) | decide +kernel) | decide +kernel
theorem own_pd12 : parseMethodDescriptor "(Ljava/lang/Object;)Z" = some ⟨[(.object "java/lang/Object")], (some .boolean)⟩ := by decide +kernel
abbrev B13 : Bdy := ("java/lang/String", "equals", jdk_42_method_66_code, 3, (some .boolean))
theorem d13_0 : decode jdk_42_method_66_code 0 = .ok (.aload_n 0, 1) := by decide +kernel
theorem d13_1 : decode jdk_42_method_66_code 1 = .ok (.aload_n 1, 1) := by decide +kernel
theorem d13_2 : decode jdk_42_method_66_code 2 = .ok (.if_acmp .ne 5, 3) := by decide +kernel
theorem d13_5 : decode jdk_42_method_66_code 5 = .ok (.iconst 1, 1) := by decide +kernel
theorem d13_6 : decode jdk_42_method_66_code 6 = .ok (.ireturn, 1) := by decide +kernel
theorem d13_7 : decode jdk_42_method_66_code 7 = .ok (.aload_n 1, 1) := by decide +kernel
theorem d13_8 : decode jdk_42_method_66_code 8 = .ok (.instanceof 10, 3) := by decide +kernel
theorem d13_11 : decode jdk_42_method_66_code 11 = .ok (.ifCond .eq 43, 3) := by decide +kernel
theorem d13_14 : decode jdk_42_method_66_code 14 = .ok (.aload_n 1, 1) := by decide +kernel
theorem d13_15 : decode jdk_42_method_66_code 15 = .ok (.checkcast 10, 3) := by decide +kernel
theorem d13_18 : decode jdk_42_method_66_code 18 = .ok (.astore_n 2, 1) := by decide +kernel
theorem d13_19 : decode jdk_42_method_66_code 19 = .ok (.getstatic 38, 3) := by decide +kernel
theorem d13_22 : decode jdk_42_method_66_code 22 = .ok (.ifCond .eq 14, 3) := by decide +kernel
theorem d13_25 : decode jdk_42_method_66_code 25 = .ok (.aload_n 0, 1) := by decide +kernel
theorem d13_26 : decode jdk_42_method_66_code 26 = .ok (.getfield 15, 3) := by decide +kernel
theorem d13_29 : decode jdk_42_method_66_code 29 = .ok (.aload_n 2, 1) := by decide +kernel
theorem d13_30 : decode jdk_42_method_66_code 30 = .ok (.getfield 15, 3) := by decide +kernel
theorem d13_33 : decode jdk_42_method_66_code 33 = .ok (.if_icmp .ne 21, 3) := by decide +kernel
theorem d13_36 : decode jdk_42_method_66_code 36 = .ok (.aload_n 0, 1) := by decide +kernel
theorem d13_37 : decode jdk_42_method_66_code 37 = .ok (.getfield 9, 3) := by decide +kernel
theorem d13_40 : decode jdk_42_method_66_code 40 = .ok (.aload_n 2, 1) := by decide +kernel
theorem d13_41 : decode jdk_42_method_66_code 41 = .ok (.getfield 9, 3) := by decide +kernel
theorem d13_44 : decode jdk_42_method_66_code 44 = .ok (.invokestatic 541, 3) := by decide +kernel
theorem d13_47 : decode jdk_42_method_66_code 47 = .ok (.ifCond .eq 7, 3) := by decide +kernel
theorem d13_50 : decode jdk_42_method_66_code 50 = .ok (.iconst 1, 1) := by decide +kernel
theorem d13_51 : decode jdk_42_method_66_code 51 = .ok (.goto 4, 3) := by decide +kernel
theorem d13_54 : decode jdk_42_method_66_code 54 = .ok (.iconst 0, 1) := by decide +kernel
theorem d13_55 : decode jdk_42_method_66_code 55 = .ok (.ireturn, 1) := by decide +kernel
theorem own_pf13 : plainFor (⟨"java/lang/String", "equals", "(Ljava/lang/Object;)Z"⟩ : MethodName) = true := by first | exact plainFor_of_name (by first | (simp [plainName, overriddenIn, x]; done) | decide +kernel) | decide +kernel
theorem own_pd13 : parseMethodDescriptor "(Ljava/lang/Object;)Z" = some ⟨[(.object "java/lang/Object")], (some .boolean)⟩ := by decide +kernel
abbrev B14 : Bdy := ("java/lang/StringLatin1", "equals", jdk_43_method_13_code, 3, (some .boolean))
theorem d14_0 : decode jdk_43_method_13_code 0 = .ok (.aload_n 0, 1) := by decide +kernel
theorem d14_1 : decode jdk_43_method_13_code 1 = .ok (.arraylength, 1) := by decide +kernel
theorem d14_2 : decode jdk_43_method_13_code 2 = .ok (.aload_n 1, 1) := by decide +kernel
theorem d14_3 : decode jdk_43_method_13_code 3 = .ok (.arraylength, 1) := by decide +kernel
theorem d14_4 : decode jdk_43_method_13_code 4 = .ok (.if_icmp .ne 30, 3) := by decide +kernel
theorem d14_7 : decode jdk_43_method_13_code 7 = .ok (.iconst 0, 1) := by decide +kernel
theorem d14_8 : decode jdk_43_method_13_code 8 = .ok (.istore_n 2, 1) := by decide +kernel
theorem d14_9 : decode jdk_43_method_13_code 9 = .ok (.iload_n 2, 1) := by decide +kernel
theorem d14_10 : decode jdk_43_method_13_code 10 = .ok (.aload_n 0, 1) := by decide +kernel
theorem d14_11 : decode jdk_43_method_13_code 11 = .ok (.arraylength, 1) := by decide +kernel
theorem d14_12 : decode jdk_43_method_13_code 12 = .ok (.if_icmp .ge 20, 3) := by decide +kernel
theorem d14_15 : decode jdk_43_method_13_code 15 = .ok (.aload_n 0, 1) := by decide +kernel
theorem d14_16 : decode jdk_43_method_13_code 16 = .ok (.iload_n 2, 1) := by decide +kernel
theorem d14_17 : decode jdk_43_method_13_code 17 = .ok (.baload, 1) := by decide +kernel
theorem d14_18 : decode jdk_43_method_13_code 18 = .ok (.aload_n 1, 1) := by decide +kernel
theorem d14_19 : decode jdk_43_method_13_code 19 = .ok (.iload_n 2, 1) := by decide +kernel
theorem d14_20 : decode jdk_43_method_13_code 20 = .ok (.baload, 1) := by decide +kernel
theorem d14_21 : decode jdk_43_method_13_code 21 = .ok (.if_icmp .eq 5, 3) := by decide +kernel
theorem d14_24 : decode jdk_43_method_13_code 24 = .ok (.iconst 0, 1) := by decide +kernel
theorem d14_25 : decode jdk_43_method_13_code 25 = .ok (.ireturn, 1) := by decide +kernel
theorem d14_26 : decode jdk_43_method_13_code 26 = .ok (.iinc 2 1, 3) := by decide +kernel
theorem d14_29 : decode jdk_43_method_13_code 29 = .ok (.goto (-20), 3) := by decide +kernel
theorem d14_32 : decode jdk_43_method_13_code 32 = .ok (.iconst 1, 1) := by decide +kernel
theorem d14_33 : decode jdk_43_method_13_code 33 = .ok (.ireturn, 1) := by decide +kernel
theorem d14_34 : decode jdk_43_method_13_code 34 = .ok (.iconst 0, 1) := by decide +kernel
theorem d14_35 : decode jdk_43_method_13_code 35 = .ok (.ireturn, 1) := by decide +kernel
theorem own_pf14 : plainFor (⟨"java/lang/StringLatin1", "equals", "([B[B)Z"⟩ : MethodName) = true := by first | exact plainFor_of_name (by first | (simp [plainName, overriddenIn, x]; done) | decide +kernel) | decide +kernel
theorem own_pd14 : parseMethodDescriptor "([B[B)Z" = some ⟨[(.array .byte), (.array .byte)], (some .boolean)⟩ := by decide +kernel
abbrev B15 : Bdy := ("java/lang/String", "valueOf", jdk_42_method_139_code, 1, (some (.object "java/lang/String")))
theorem d15_0 : decode jdk_42_method_139_code 0 = .ok (.getstatic 38, 3) := by decide +kernel
theorem d15_3 : decode jdk_42_method_139_code 3 = .ok (.ifCond .eq 23, 3) := by decide +kernel
theorem d15_6 : decode jdk_42_method_139_code 6 = .ok (.iload_n 0, 1) := by decide +kernel
theorem d15_7 : decode jdk_42_method_139_code 7 = .ok (.invokestatic 1015, 3) := by decide +kernel
theorem d15_10 : decode jdk_42_method_139_code 10 = .ok (.ifCond .eq 16, 3) := by decide +kernel
theorem d15_13 : decode jdk_42_method_139_code 13 = .ok (.new 10, 3) := by decide +kernel
theorem d15_16 : decode jdk_42_method_139_code 16 = .ok (.dup, 1) := by decide +kernel
theorem d15_17 : decode jdk_42_method_139_code 17 = .ok (.iload_n 0, 1) := by decide +kernel
theorem d15_18 : decode jdk_42_method_139_code 18 = .ok (.invokestatic 1018, 3) := by decide +kernel
theorem d15_21 : decode jdk_42_method_139_code 21 = .ok (.iconst 0, 1) := by decide +kernel
theorem d15_22 : decode jdk_42_method_139_code 22 = .ok (.invokespecial 209, 3) := by decide +kernel
theorem d15_25 : decode jdk_42_method_139_code 25 = .ok (.areturn, 1) := by decide +kernel
theorem own_pf15 : plainFor (⟨"java/lang/String", "valueOf", "(C)Ljava/lang/String;"⟩ : MethodName) = true := by first | exact plainFor_of_name (by first | (simp [plainName, overriddenIn, x]; done) | decide +kernel) | decide +kernel
theorem own_pd15 : parseMethodDescriptor "(C)Ljava/lang/String;" = some ⟨[.char], (some (.object "java/lang/String"))⟩ := by decide +kernel
abbrev B16 : Bdy := ("java/lang/StringLatin1", "canEncode", jdk_43_method_3_code, 1, (some .boolean))
theorem d16_0 : decode jdk_43_method_3_code 0 = .ok (.iload_n 0, 1) := by decide +kernel
theorem d16_1 : decode jdk_43_method_3_code 1 = .ok (.sipush 255, 3) := by decide +kernel
theorem d16_4 : decode jdk_43_method_3_code 4 = .ok (.if_icmp .gt 7, 3) := by decide +kernel
theorem d16_7 : decode jdk_43_method_3_code 7 = .ok (.iconst 1, 1) := by decide +kernel
theorem d16_8 : decode jdk_43_method_3_code 8 = .ok (.goto 4, 3) := by decide +kernel
theorem d16_12 : decode jdk_43_method_3_code 12 = .ok (.ireturn, 1) := by decide +kernel
theorem own_pf16 : plainFor (⟨"java/lang/StringLatin1", "canEncode", "(C)Z"⟩ : MethodName) = true := by first | exact plainFor_of_name (by first | (simp [plainName, overriddenIn, x]; done) | decide +kernel) | decide +kernel
theorem own_pd16 : parseMethodDescriptor "(C)Z" = some ⟨[.char], (some .boolean)⟩ := by decide +kernel
abbrev B17 : Bdy := ("java/lang/StringLatin1", "toBytes", jdk_43_method_46_code, 1, (some (.array .byte)))
theorem d17_0 : decode jdk_43_method_46_code 0 = .ok (.iconst 1, 1) := by decide +kernel
theorem d17_1 : decode jdk_43_method_46_code 1 = .ok (.newarray .byte, 2) := by decide +kernel
theorem d17_3 : decode jdk_43_method_46_code 3 = .ok (.dup, 1) := by decide +kernel
theorem d17_4 : decode jdk_43_method_46_code 4 = .ok (.iconst 0, 1) := by decide +kernel
theorem d17_5 : decode jdk_43_method_46_code 5 = .ok (.iload_n 0, 1) := by decide +kernel
theorem d17_6 : decode jdk_43_method_46_code 6 = .ok (.i2b, 1) := by decide +kernel
theorem d17_7 : decode jdk_43_method_46_code 7 = .ok (.bastore, 1) := by decide +kernel
theorem d17_8 : decode jdk_43_method_46_code 8 = .ok (.areturn, 1) := by decide +kernel
theorem own_pf17 : plainFor (⟨"java/lang/StringLatin1", "toBytes", "(C)[B"⟩ : MethodName) = true := by first | exact plainFor_of_name (by first | (simp [plainName, overriddenIn, x]; done) | decide +kernel) | decide +kernel
theorem own_pd17 : parseMethodDescriptor "(C)[B" = some ⟨[.char], (some (.array .byte))⟩ := by decide +kernel
abbrev B18 : Bdy := ("java/lang/String", "<init>", jdk_42_method_151_code, 3, none)
theorem d18_0 : decode jdk_42_method_151_code 0 = .ok (.aload_n 0, 1) := by decide +kernel
theorem d18_1 : decode jdk_42_method_151_code 1 = .ok (.invokespecial 1, 3) := by decide +kernel
theorem d18_4 : decode jdk_42_method_151_code 4 = .ok (.aload_n 0, 1) := by decide +kernel
theorem d18_5 : decode jdk_42_method_151_code 5 = .ok (.aload_n 1, 1) := by decide +kernel
theorem d18_6 : decode jdk_42_method_151_code 6 = .ok (.putfield 9, 3) := by decide +kernel
theorem d18_9 : decode jdk_42_method_151_code 9 = .ok (.aload_n 0, 1) := by decide +kernel
theorem d18_10 : decode jdk_42_method_151_code 10 = .ok (.iload_n 2, 1) := by decide +kernel
theorem d18_11 : decode jdk_42_method_151_code 11 = .ok (.putfield 15, 3) := by decide +kernel
theorem d18_14 : decode jdk_42_method_151_code 14 = .ok (.return_, 1) := by decide +kernel
theorem own_pf18 : plainFor (⟨"java/lang/String", "<init>", "([BB)V"⟩ : MethodName) = true := by first | exact plainFor_of_name (by first | (simp [plainName, overriddenIn, x]; done) | decide +kernel) | decide +kernel
theorem own_pd18 : parseMethodDescriptor "([BB)V" = some ⟨[(.array .byte), .byte], none⟩ := by decide +kernel
theorem own_cb_16 : (Int8.ofInt (16)).toInt32 = (16 : Int32) := by decide
theorem own_cb_31 : (Int8.ofInt (31)).toInt32 = (31 : Int32) := by decide
theorem own_cb_8 : (Int8.ofInt (8)).toInt32 = (8 : Int32) := by decide
theorem own_ci_0 : Int32.ofInt (0) = (0 : Int32) := by decide
theorem own_ci_1 : Int32.ofInt (1) = (1 : Int32) := by decide
theorem own_ci_2 : Int32.ofInt (2) = (2 : Int32) := by decide
theorem own_ci_3 : Int32.ofInt (3) = (3 : Int32) := by decide
theorem own_ci_4 : Int32.ofInt (4) = (4 : Int32) := by decide
theorem own_cs_255 : (Int16.ofInt (255)).toInt32 = (255 : Int32) := by decide
abbrev own_S : String := "java/lang/String"
abbrev own_P : String := "com/example/domaine/domaine/fields/FieldProblem"
abbrev own_E : String := "com/example/domaine/domaine/fields/FieldError"
abbrev own_L : String := "com/example/domaine/domaine/fields/FieldProblemEqualsPinLaw"
abbrev own_Ed : String := "Lcom/example/domaine/domaine/fields/FieldError;"
/-! plain facts -/
def own_ch (c : Int32) : Prop := 0 ≤ c.toInt ∧ c.toInt ≤ 255
def own_bt (c : Int32) : Int32 := c.toInt8.toInt32
theorem own_bt_inj {c d : Int32} (hc : own_ch c) (hd : own_ch d) (h : own_bt c = own_bt d) : c = d := by
  have q := congrArg Int32.toInt h
  simp only [own_bt, Int8.toInt_toInt32, Int32.toInt_toInt8] at q
  obtain ⟨c1, c2⟩ := hc
  obtain ⟨d1, d2⟩ := hd
  rw [eq32]
  have e1 := Int.bmod_emod (x := c.toInt) (m := 2 ^ 8)
  have e2 := Int.bmod_emod (x := d.toInt) (m := 2 ^ 8)
  rw [q] at e1
  omega
theorem own_bb (x : Int32) : (x.toInt8.toInt32).toInt8.toInt32 = own_bt x := by simp [own_bt]
theorem own_u16 (x : Int32) : (x.toUInt32.toUInt16.toUInt32.toInt32).toInt = x.toInt % 65536 := by
  have e : x.toUInt32.toUInt16.toUInt32.toInt32.toInt = (x.toUInt32.toUInt16.toUInt32.toBitVec).toInt := rfl
  have e' : x.toUInt32.toUInt16.toUInt32.toBitVec.toNat = x.toBitVec.toNat % 65536 := by
    show x.toUInt32.toUInt16.toUInt32.toNat = _
    rw [UInt16.toNat_toUInt32, UInt32.toNat_toUInt16]
    rfl
  rw [e, BitVec.toInt_eq_toNat_bmod, e']
  have e2 : x.toInt = (x.toBitVec.toNat : Int).bmod (2 ^ 32) := BitVec.toInt_eq_toNat_bmod _
  have e3 := Int.bmod_emod (x := (x.toBitVec.toNat : Int)) (m := 2 ^ 32)
  rw [e2]
  rw [Int.bmod_eq_of_le (by omega) (by omega)]
  omega
theorem own_narc {c : Int32} (h : own_ch c) : nar .char c = c := by
  have e : nar .char c = c.toUInt32.toUInt16.toUInt32.toInt32 := rfl
  rw [e, eq32, own_u16]
  obtain ⟨h1, h2⟩ := h
  omega
theorem own_c16 {x : Int32} (h : own_ch x) : own_ch (x.toUInt32.toUInt16.toUInt32.toInt32) := by
  obtain ⟨h1, h2⟩ := h
  have e := own_u16 x
  exact ⟨by omega, by omega⟩
theorem own_and (y : Int32) : own_ch (y &&& 255) := by
  have e := maskk y 255 8 (by decide) (by decide)
  exact ⟨by omega, by omega⟩
theorem own_xor {a y : Int32} (h : own_ch a) : own_ch (a ^^^ (y &&& 1)) := by
  obtain ⟨h1, h2⟩ := h
  have e := maskk y 1 1 (by decide) (by decide)
  have na : a.toBitVec.toNat < 2 ^ 8 := by
    have e2 : a.toInt = (a.toBitVec.toNat : Int).bmod (2 ^ 32) := BitVec.toInt_eq_toNat_bmod _
    have e3 := Int.bmod_emod (x := (a.toBitVec.toNat : Int)) (m := 2 ^ 32)
    have := a.toBitVec.isLt
    omega
  have nb : (y &&& 1).toBitVec.toNat < 2 ^ 8 := by
    have e2 : (y &&& 1).toInt = ((y &&& 1).toBitVec.toNat : Int).bmod (2 ^ 32) := BitVec.toInt_eq_toNat_bmod _
    have e3 := Int.bmod_emod (x := ((y &&& 1).toBitVec.toNat : Int)) (m := 2 ^ 32)
    have := (y &&& 1).toBitVec.isLt
    omega
  have nx : (a ^^^ (y &&& 1)).toBitVec.toNat < 2 ^ 8 := by
    have q : (a ^^^ (y &&& 1)).toBitVec.toNat = a.toBitVec.toNat ^^^ (y &&& 1).toBitVec.toNat := by
      show (a.toBitVec ^^^ (y &&& 1).toBitVec).toNat = _
      exact BitVec.toNat_xor _ _
    rw [q]; exact Nat.xor_lt_two_pow na nb
  have e4 : (a ^^^ (y &&& 1)).toInt = ((a ^^^ (y &&& 1)).toBitVec.toNat : Int).bmod (2 ^ 32) := BitVec.toInt_eq_toNat_bmod _
  rw [Int.bmod_eq_of_le (by omega) (by omega)] at e4
  exact ⟨by omega, by omega⟩
theorem own_nlt {c : Int32} (h : own_ch c) : ¬ (255 : Int32) < c := by
  rw [lt32]; have := h.2; have e : (255 : Int32).toInt = 255 := by decide
  omega
theorem own_ek {h h1 h2 : Heap} (E : Ext h h1) (K : Keep h1 h2 [h.size]) : Ext h h2 := ⟨Nat.le_trans E.1 K.1, fun a c q => K.2.1 a c (E.2 a c q) (ninS (Nat.ne_of_lt (Array.getElem?_eq_some_iff.mp q).1) nin0)⟩
theorem own_et {h h1 h2 : Heap} (E : Ext h h1) (F : Ext h1 h2) : Ext h h2 := ⟨Nat.le_trans E.1 F.1, fun a c q => F.2 a c (E.2 a c q)⟩
theorem own_er (h : Heap) : Ext h h := ⟨Nat.le_refl _, fun _ _ q => q⟩
theorem own_ew {h h1 h2 : Heap} {a : Addr} {sl : Nat} {v : Value} (E : Ext h h1) (w : Wr h1 h2 a sl v) (ha : h.size ≤ a) : Ext h h2 := by
  have K := (Keep.refl h1 [a]).wr w (Or.inl (List.mem_singleton.mpr rfl))
  exact ⟨Nat.le_trans E.1 K.1, fun b c q => K.2.1 b c (E.2 b c q) (ninS (by have := (Array.getElem?_eq_some_iff.mp q).1; intro e; subst e; exact absurd this (Nat.not_lt.mpr ha)) nin0)⟩
/-! a String, its bytes -/
def own_Str (Z : State) (h : Heap) (a : Addr) (xs : List Int32) : Prop := Exa Z h a own_S ∧ Fld Z h a own_S "coder" "B" (.int 0) ∧ ∃ b, Fld Z h a own_S "value" "[B" (.ref b) ∧ AI Z h b .byte xs
theorem own_Str.ext {Z : State} {h h' : Heap} {a : Addr} {xs : List Int32} (S : own_Str Z h a xs) (E : Ext h h') : own_Str Z h' a xs := by
  obtain ⟨s1, s2, b, s3, s4⟩ := S; exact ⟨s1.ext E, s2.ext E, b, s3.ext E, s4.ext E⟩
theorem own_Str.lt {Z : State} {h : Heap} {a : Addr} {xs : List Int32} (S : own_Str Z h a xs) : a < h.size := S.1.lt
theorem own_AI.inj {Z : State} {h : Heap} {b : Addr} {ty : FieldType} {xs ys : List Int32} (A : AI Z h b ty xs) (A' : AI Z h b ty ys) : xs = ys := by
  obtain ⟨c, a1, a2, -⟩ := A
  obtain ⟨c', b1, b2, -⟩ := A'
  cases a1.1.symm.trans b1.1
  have e := a2.symm.trans b2
  have e' : xs.map Value.int = ys.map Value.int := congrArg Array.toList e
  exact (List.map_inj_right (by intro x y q; cases q; rfl)).mp e'
theorem own_Fld.inj {Z : State} {h : Heap} {a : Addr} {C n d : String} {v w : Value} (F : Fld Z h a C n d v) (G : Fld Z h a C n d w) : v = w := Classical.byContradiction fun q => Fld.ne F G q rfl
theorem own_Str.inj {Z : State} {h : Heap} {a : Addr} {xs ys : List Int32} (S : own_Str Z h a xs) (S' : own_Str Z h a ys) : xs = ys := by
  obtain ⟨-, -, b, s3, s4⟩ := S
  obtain ⟨-, -, b', t3, t4⟩ := S'
  cases own_Fld.inj s3 t3
  exact own_AI.inj s4 t4
/-! a FieldProblem -/
def own_FP (Z : State) (h : Heap) (p : Addr) (a r : Addr) : Prop := Exa Z h p own_P ∧ Fld Z h p own_P "field" "Ljava/lang/String;" (.ref a) ∧ Fld Z h p own_P "error" own_Ed (.ref r)
theorem own_FP.ext {Z : State} {h h' : Heap} {p a r : Addr} (S : own_FP Z h p a r) (E : Ext h h') : own_FP Z h' p a r := ⟨S.1.ext E, S.2.1.ext E, S.2.2.ext E⟩
def own_txt (len c0 c1 : Int32) : List Int32 := if len = 0 then [] else if len = 1 then [own_bt c0] else [own_bt c0, own_bt c1]
def own_err (r0 r1 r2 : Addr) (k : Int32) : Addr := if k = 0 then r0 else if k = 1 then r1 else r2
/-! the callees that intern nothing -/
theorem own_c1 (l : Launch) (Z : State) (a0 : Array Value) (hw : ∀ d ∈ tables_1, d.before a0 Z = true) (n0 : Nat) (h : Heap) (x : Int32) (hx : 0 ≤ x.toInt) : W l Z n0 (rmF 0 0 0 0) B1 (RI (fun u h' => h' = h ∧ 0 ≤ u.toInt ∧ u.toInt ≤ 2)) h 0 0 0 [.val (.int x), .val (.int 2)] [] := by
  have e2 : (2 : Int32).toInt = 2 := by decide
  refine W.iloadN d1_0 rfl rfl ?_
  refine W.iloadN d1_1 rfl rfl ?_
  refine W.icmp_gt d1_2 (by decide) rfl rfl (fun g1 => ?_) (fun g2 => ?_)
  · refine W.iloadN d1_9 rfl rfl ?_
    exact W.ireturn d1_10 rfl ⟨_, rfl, rfl, by decide, by decide⟩
  · refine W.iloadN d1_5 rfl rfl ?_
    refine W.goto d1_6 (by decide) rfl ?_
    rw [lt32] at g2
    exact W.ireturn d1_10 rfl ⟨_, rfl, rfl, hx, by omega⟩
theorem own_c7 (l : Launch) (Z : State) (a0 : Array Value) (hw : ∀ d ∈ tables_1, d.before a0 Z = true) (n0 : Nat) (h : Heap) (a b : Addr) (c0 c1 : Int32) (H0 : own_ch c0) (H1 : own_ch c1) (A : AI Z h a .char [c0, c1]) (Bb : AI Z h b .byte [0, 0]) (hb : n0 ≤ b) (hab : a ≠ b) :
    W l Z n0 (rmF 0 0 0 0) B7 (RI (fun u h' => u = 2 ∧ Keep h h' [b] ∧ AI Z h' b .byte [own_bt c0, own_bt c1])) h 0 0 0 [.val (.ref a), .val (.int 0), .val (.ref b), .val (.int 0), .val (.int 2), .unset, .unset] [] := by
  refine W.iconst d7_0 own_ci_0 rfl ?_
  refine W.istore d7_1 (Put.s (Put.s (Put.s (Put.s (Put.s Put.z))))) rfl rfl rfl ?_
  refine W.iload d7_3 rfl rfl ?_
  refine W.iload d7_5 rfl rfl ?_
  refine W.icmp_ge d7_7 (by decide) rfl rfl (fun g1 => ?_) (fun g2 => ?_)
  · exact absurd (by decide) g1
  refine W.aloadN d7_10 rfl rfl rfl ?_
  refine W.iloadN d7_11 rfl rfl ?_
  refine W.caloadC d7_12 A (by decide) rfl rfl ?_
  refine W.istore d7_13 (Put.s (Put.s (Put.s (Put.s (Put.s (Put.s Put.z)))))) rfl rfl rfl ?_
  refine W.iload d7_15 rfl rfl ?_
  refine W.sipush d7_17 own_cs_255 rfl ?_
  refine W.icmp_le d7_20 (by decide) rfl rfl (fun g3 => ?_) (fun g4 => ?_)
  rotate_left
  · exact absurd g4 (own_nlt H0)
  refine W.aloadN d7_26 rfl rfl rfl ?_
  refine W.iloadN d7_27 rfl rfl ?_
  refine W.iload d7_28 rfl rfl ?_
  refine W.i2b d7_30 rfl ?_
  refine W.bastoreB d7_31 Bb (by decide) (by decide) (own_bb _) hb rfl (fun h1 W1 B1 => ?_)
  have B1 : AI Z h1 b .byte [own_bt c0, 0] := B1
  have K1 := (Keep.refl h [b]).wr W1 (Or.inl (List.mem_singleton.mpr rfl))
  have A := A.other W1 hab
  refine W.iinc d7_32 rfl own_ci_1 (Put.s Put.z) rfl ?_
  refine W.iinc d7_35 rfl own_ci_1 (Put.s (Put.s (Put.s Put.z))) rfl ?_
  refine W.iinc d7_38 rfl own_ci_1 (Put.s (Put.s (Put.s (Put.s (Put.s Put.z))))) rfl ?_
  refine W.goto d7_41 (by decide) rfl ?_
  refine W.iload d7_3 rfl rfl ?_
  refine W.iload d7_5 rfl rfl ?_
  refine W.icmp_ge d7_7 (by decide) rfl rfl (fun g5 => ?_) (fun g6 => ?_)
  · exact absurd (by decide) g5
  refine W.aloadN d7_10 rfl rfl rfl ?_
  refine W.iloadN d7_11 rfl rfl ?_
  refine W.caloadC d7_12 A (by decide) rfl rfl ?_
  refine W.istore d7_13 (Put.s (Put.s (Put.s (Put.s (Put.s (Put.s Put.z)))))) rfl rfl rfl ?_
  refine W.iload d7_15 rfl rfl ?_
  refine W.sipush d7_17 own_cs_255 rfl ?_
  refine W.icmp_le d7_20 (by decide) rfl rfl (fun g7 => ?_) (fun g8 => ?_)
  rotate_left
  · exact absurd g8 (own_nlt H1)
  refine W.aloadN d7_26 rfl rfl rfl ?_
  refine W.iloadN d7_27 rfl rfl ?_
  refine W.iload d7_28 rfl rfl ?_
  refine W.i2b d7_30 rfl ?_
  refine W.bastoreB d7_31 B1 (by decide) (by show 1 < 2; decide) (own_bb _) hb rfl (fun h2 W2 B2 => ?_)
  have B2 : AI Z h2 b .byte [own_bt c0, own_bt c1] := B2
  have K2 := K1.wr W2 (Or.inl (List.mem_singleton.mpr rfl))
  refine W.iinc d7_32 rfl own_ci_1 (Put.s Put.z) rfl ?_
  refine W.iinc d7_35 rfl own_ci_1 (Put.s (Put.s (Put.s Put.z))) rfl ?_
  refine W.iinc d7_38 rfl own_ci_1 (Put.s (Put.s (Put.s (Put.s (Put.s Put.z))))) rfl ?_
  refine W.goto d7_41 (by decide) rfl ?_
  refine W.iload d7_3 rfl rfl ?_
  refine W.iload d7_5 rfl rfl ?_
  refine W.icmp_ge d7_7 (by decide) rfl rfl (fun g9 => ?_) (fun g10 => ?_)
  rotate_left
  · exact absurd g10 (by decide)
  refine W.iload d7_44 rfl rfl ?_
  exact W.ireturn d7_46 rfl ⟨_, rfl, rfl, K2, B2⟩
theorem own_c6 (l : Launch) (Z : State) (a0 : Array Value) (hw : ∀ d ∈ tables_1, d.before a0 Z = true) (n0 : Nat) (h : Heap) (a : Addr) (c0 c1 : Int32) (H0 : own_ch c0) (H1 : own_ch c1) (A : AI Z h a .char [c0, c1]) (hn : n0 ≤ h.size) :
    W l Z n0 (rmF 1 1 2 18) B6 (RA (fun v h' => Ext h h' ∧ ∃ b : Addr, v = .ref b ∧ h.size ≤ b ∧ AI Z h' b .byte [own_bt c0, own_bt c1])) h 0 0 0 [.val (.ref a), .val (.int 0), .val (.int 2), .unset, .unset, .unset] [] := by
  refine W.iloadN d6_0 rfl rfl ?_
  refine W.newarrayI (cap := 2) d6_1 rfl rfl (hw _ (List.mem_of_getElem? (i := 12) rfl)) (by decide) (by decide) (by decide) (by decide) (by decide) rfl (fun h1 E1 A1 => ?_)
  have A1 : AI Z h1 h.size .byte [0, 0] := A1
  refine W.astoreN d6_3 rfl (Put.s (Put.s (Put.s Put.z))) rfl rfl rfl ?_
  refine W.aloadN d6_4 rfl rfl rfl ?_
  refine W.iloadN d6_5 rfl rfl ?_
  refine W.aloadN d6_6 rfl rfl rfl ?_
  refine W.iconst d6_7 own_ci_0 rfl ?_
  refine W.iloadN d6_8 rfl rfl ?_
  refine W.callS_I (B' := B7) (argsL := [_, _, _, _, _]) d6_9 (hw _ (List.mem_of_getElem? (i := 34) rfl)) (hw _ (List.mem_of_getElem? (i := 35) rfl)) (hw _ (List.mem_of_getElem? (i := 32) rfl)) (hw _ (List.mem_of_getElem? (i := 36) rfl)) rfl (own_c7 l Z a0 hw n0 h1 a h.size c0 c1 H0 H1 (A.ext E1) A1 hn (Nat.ne_of_lt A.lt)) own_pf7 (by decide) own_pd7 rfl rfl rfl (fun m => by first | (simp [entryFrame, mkF, argsToLocals, Value.category]; done) | rfl) rfl rfl rfl rfl rfl rfl (fun u h2 r => ?_)
  obtain ⟨rfl, K2, B2⟩ := r
  refine W.istore d6_12 (Put.s (Put.s (Put.s (Put.s Put.z)))) rfl rfl rfl ?_
  refine W.iload d6_14 rfl rfl ?_
  refine W.iloadN d6_16 rfl rfl ?_
  refine W.icmp_eq d6_17 (by decide) rfl rfl (fun g1 => ?_) (fun g2 => ?_)
  rotate_left
  · exact absurd rfl g2
  refine W.aloadN d6_57 rfl rfl rfl ?_
  exact W.areturn d6_58 rfl rfl rfl rfl ⟨_, rfl, own_ek E1 K2, _, rfl, Nat.le_refl _, B2⟩
theorem own_c8 (l : Launch) (Z : State) (a0 : Array Value) (hw : ∀ d ∈ tables_1, d.before a0 Z = true) (n0 : Nat) (h : Heap) (b : Addr) (x y : Int32) (A : AI Z h b .byte [x, y]) :
    W l Z n0 (rmF 0 0 0 0) B8 (RI (fun u h' => h' = h ∧ u = 0)) h 0 0 0 [.val (.ref b), .val (.int 2)] [] := by
  refine W.iloadN d8_0 rfl rfl ?_
  refine W.aloadN d8_1 rfl rfl rfl ?_
  refine W.arraylengthI (n := 2) d8_2 A rfl rfl ?_
  refine W.isub d8_3 rfl ?_
  refine W.bipush d8_4 own_cb_31 rfl ?_
  refine W.iushr d8_6 rfl ?_
  refine W.i2b d8_7 rfl ?_
  exact W.ireturnN d8_8 rfl (Or.inr (Or.inl rfl)) (show nar .byte _ = 0 by decide) ⟨_, rfl, rfl, rfl⟩
theorem own_c4 (l : Launch) (Z : State) (a0 : Array Value) (hw : ∀ d ∈ tables_1, d.before a0 Z = true) (n0 : Nat) (h : Heap) (t a : Addr) (c0 c1 z : Int32) (H0 : own_ch c0) (H1 : own_ch c1) (A : AI Z h a .char [c0, c1]) (hn : n0 ≤ h.size) (ht : n0 ≤ t) (E : Exa Z h t own_S) (F1 : Fld Z h t own_S "coder" "B" (.int 0)) (F2 : Fld Z h t own_S "value" "[B" .null) (CS : Sta Z h own_S "COMPACT_STRINGS" "Z" (.int z)) (hz : z ≠ 0) :
    W l Z n0 (rmF 2 1 2 35) B4 (RN (fun h' => Keep h h' [t] ∧ own_Str Z h' t [own_bt c0, own_bt c1])) h 0 0 0 [.val (.ref t), .val (.ref a), .val (.int 0), .val (.int 2), .val .null, .unset] [] := by
  refine W.aloadN d4_0 rfl rfl rfl ?_
  refine W.initO d4_1 (hw _ (List.mem_of_getElem? (i := 26) rfl)) (hw _ (List.mem_of_getElem? (i := 27) rfl)) (hw _ (List.mem_of_getElem? (i := 28) rfl)) rfl rfl rfl rfl ?_
  refine W.iloadN d4_4 rfl rfl ?_
  refine W.ifc_ne d4_5 (by decide) rfl rfl (fun g1 => ?_) (fun g2 => ?_)
  rotate_left
  · exact absurd g2 (by decide)
  refine W.getS d4_27 (hw _ (List.mem_of_getElem? (i := 29) rfl)) CS rfl ?_
  refine W.ifc_eq d4_30 (by decide) rfl rfl (fun g3 => ?_) (fun g4 => ?_)
  · exact absurd g3 hz
  refine W.aloadN d4_33 rfl rfl rfl ?_
  refine W.iloadN d4_34 rfl rfl ?_
  refine W.iloadN d4_35 rfl rfl ?_
  refine W.callS_A (B' := B6) (argsL := [_, _, _]) d4_36 (hw _ (List.mem_of_getElem? (i := 30) rfl)) (hw _ (List.mem_of_getElem? (i := 31) rfl)) (hw _ (List.mem_of_getElem? (i := 32) rfl)) (hw _ (List.mem_of_getElem? (i := 33) rfl)) rfl (own_c6 l Z a0 hw n0 h a c0 c1 H0 H1 A hn) own_pf6 (by decide) own_pd6 rfl rfl rfl (fun m => by first | (simp [entryFrame, mkF, argsToLocals, Value.category]; done) | rfl) rfl rfl rfl rfl rfl rfl (fun u h1 r => ?_)
  obtain ⟨E1, b, rfl, hb, B1⟩ := r
  have hlt := E.lt
  have hbt : b ≠ t := fun q => by subst q; exact absurd hlt (Nat.not_lt.mpr hb)
  have K1 := (Keep.refl h [t]).ext E1
  refine W.astore d4_39 rfl (Put.s (Put.s (Put.s (Put.s (Put.s Put.z))))) rfl rfl rfl ?_
  refine W.aloadN d4_41 rfl rfl rfl ?_
  refine W.aload d4_42 rfl rfl rfl ?_
  refine W.iloadN d4_44 rfl rfl ?_
  refine W.callS_I (B' := B8) (argsL := [_, _]) d4_45 (hw _ (List.mem_of_getElem? (i := 37) rfl)) (hw _ (List.mem_of_getElem? (i := 38) rfl)) (hw _ (List.mem_of_getElem? (i := 32) rfl)) (hw _ (List.mem_of_getElem? (i := 39) rfl)) rfl (own_c8 l Z a0 hw n0 h1 b _ _ B1) own_pf8 (by decide) own_pd8 rfl rfl rfl (fun m => by first | (simp [entryFrame, mkF, argsToLocals, Value.category]; done) | rfl) rfl rfl rfl rfl rfl rfl (fun u2 h2 r2 => ?_)
  obtain ⟨rfl, rfl⟩ := r2
  refine W.putF (ty := .byte) d4_48 (hw _ (List.mem_of_getElem? (i := 40) rfl)) (F1.ext E1) (E.ext E1) (Or.inr ⟨(hw _ (List.mem_of_getElem? (i := 14) rfl)), rfl, rfl⟩) (hw _ (List.mem_of_getElem? (i := 11) rfl)) (by decide) rfl rfl ht rfl (fun h3 W3 => ?_)
  have K3 := K1.wr W3 (Or.inl (List.mem_singleton.mpr rfl))
  have E3 := (E.ext E1).wr W3
  have F13 : Fld Z h3 t own_S "coder" "B" (.int 0) := (F1.ext E1).same W3
  have F23 := (F2.ext E1).other W3 (Or.inr (slot_ne (Or.inr (hw _ (List.mem_of_getElem? (i := 13) rfl))) (Or.inr (hw _ (List.mem_of_getElem? (i := 14) rfl))) (by decide) (t := .array .byte) (t' := .byte) (by decide) (by decide)))
  have B3 := B1.other W3 hbt
  refine W.aloadN d4_51 rfl rfl rfl ?_
  refine W.aload d4_52 rfl rfl rfl ?_
  refine W.putF (ty := .array .byte) d4_54 (hw _ (List.mem_of_getElem? (i := 41) rfl)) F23 E3 (Or.inr ⟨(hw _ (List.mem_of_getElem? (i := 13) rfl)), rfl, rfl⟩) (hw _ (List.mem_of_getElem? (i := 11) rfl)) (by decide) rfl rfl ht rfl (fun h4 W4 => ?_)
  have K4 := K3.wr W4 (Or.inl (List.mem_singleton.mpr rfl))
  have F14 := F13.other W4 (Or.inr (slot_ne (Or.inr (hw _ (List.mem_of_getElem? (i := 14) rfl))) (Or.inr (hw _ (List.mem_of_getElem? (i := 13) rfl))) (by decide) (t := .byte) (t' := .array .byte) (by decide) (by decide)))
  have F24 : Fld Z h4 t own_S "value" "[B" (.ref b) := F23.same W4
  exact W.vret d4_57 rfl ⟨rfl, K4, E3.wr W4, F14, b, F24, B3.other W4 hbt⟩
theorem own_c3 (l : Launch) (Z : State) (a0 : Array Value) (hw : ∀ d ∈ tables_1, d.before a0 Z = true) (n0 : Nat) (h : Heap) (t a : Addr) (c0 c1 z : Int32) (H0 : own_ch c0) (H1 : own_ch c1) (A : AI Z h a .char [c0, c1]) (hn : n0 ≤ h.size) (ht : n0 ≤ t) (E : Exa Z h t own_S) (F1 : Fld Z h t own_S "coder" "B" (.int 0)) (F2 : Fld Z h t own_S "value" "[B" .null) (CS : Sta Z h own_S "COMPACT_STRINGS" "Z" (.int z)) (hz : z ≠ 0) :
    W l Z n0 (rmF 3 1 2 52) B3 (RN (fun h' => Keep h h' [t] ∧ own_Str Z h' t [own_bt c0, own_bt c1])) h 0 0 0 [.val (.ref t), .val (.ref a)] [] := by
  refine W.aloadN d3_0 rfl rfl rfl ?_
  refine W.aloadN d3_1 rfl rfl rfl ?_
  refine W.iconst d3_2 own_ci_0 rfl ?_
  refine W.aloadN d3_3 rfl rfl rfl ?_
  refine W.arraylengthI (n := 2) d3_4 A rfl rfl ?_
  refine W.aconstNull d3_5 rfl ?_
  refine W.callI_N (B' := B4) (argsL := [_, _, _, _]) d3_6 (hw _ (List.mem_of_getElem? (i := 22) rfl)) (hw _ (List.mem_of_getElem? (i := 23) rfl)) (hw _ (List.mem_of_getElem? (i := 10) rfl)) (hw _ (List.mem_of_getElem? (i := 25) rfl)) rfl (own_c4 l Z a0 hw n0 h t a c0 c1 z H0 H1 A hn ht E F1 F2 CS hz) own_pf4 (by decide) own_pd4 rfl rfl rfl (fun m => by first | (simp [entryFrame, mkF, argsToLocals, Value.category]; done) | rfl) rfl rfl rfl rfl rfl rfl rfl rfl (fun h1 r => ?_)
  exact W.vret d3_9 rfl ⟨rfl, r⟩
theorem own_c18 (l : Launch) (Z : State) (a0 : Array Value) (hw : ∀ d ∈ tables_1, d.before a0 Z = true) (n0 : Nat) (h : Heap) (t b : Addr) (xs : List Int32) (A : AI Z h b .byte xs) (hbt : b ≠ t) (ht : n0 ≤ t) (E : Exa Z h t own_S) (F1 : Fld Z h t own_S "coder" "B" (.int 0)) (F2 : Fld Z h t own_S "value" "[B" .null) :
    W l Z n0 (rmF 1 0 0 12) B18 (RN (fun h' => Keep h h' [t] ∧ own_Str Z h' t xs)) h 0 0 0 [.val (.ref t), .val (.ref b), .val (.int 0)] [] := by
  refine W.aloadN d18_0 rfl rfl rfl ?_
  refine W.initO d18_1 (hw _ (List.mem_of_getElem? (i := 26) rfl)) (hw _ (List.mem_of_getElem? (i := 27) rfl)) (hw _ (List.mem_of_getElem? (i := 28) rfl)) rfl rfl rfl rfl ?_
  refine W.aloadN d18_4 rfl rfl rfl ?_
  refine W.aloadN d18_5 rfl rfl rfl ?_
  refine W.putF (ty := .array .byte) d18_6 (hw _ (List.mem_of_getElem? (i := 41) rfl)) F2 E (Or.inr ⟨(hw _ (List.mem_of_getElem? (i := 13) rfl)), rfl, rfl⟩) (hw _ (List.mem_of_getElem? (i := 11) rfl)) (by decide) rfl rfl ht rfl (fun h3 W3 => ?_)
  have K3 := (Keep.refl h [t]).wr W3 (Or.inl (List.mem_singleton.mpr rfl))
  have E3 := E.wr W3
  have F23 : Fld Z h3 t own_S "value" "[B" (.ref b) := F2.same W3
  have F13 := F1.other W3 (Or.inr (slot_ne (Or.inr (hw _ (List.mem_of_getElem? (i := 14) rfl))) (Or.inr (hw _ (List.mem_of_getElem? (i := 13) rfl))) (by decide) (t := .byte) (t' := .array .byte) (by decide) (by decide)))
  have B3 := A.other W3 hbt
  refine W.aloadN d18_9 rfl rfl rfl ?_
  refine W.iloadN d18_10 rfl rfl ?_
  refine W.putF (ty := .byte) d18_11 (hw _ (List.mem_of_getElem? (i := 40) rfl)) F13 E3 (Or.inr ⟨(hw _ (List.mem_of_getElem? (i := 14) rfl)), rfl, rfl⟩) (hw _ (List.mem_of_getElem? (i := 11) rfl)) (by decide) rfl rfl ht rfl (fun h4 W4 => ?_)
  have K4 := K3.wr W4 (Or.inl (List.mem_singleton.mpr rfl))
  have F14 : Fld Z h4 t own_S "coder" "B" (.int 0) := F13.same W4
  have F24 := F23.other W4 (Or.inr (slot_ne (Or.inr (hw _ (List.mem_of_getElem? (i := 13) rfl))) (Or.inr (hw _ (List.mem_of_getElem? (i := 14) rfl))) (by decide) (t := .array .byte) (t' := .byte) (by decide) (by decide)))
  exact W.vret d18_14 rfl ⟨rfl, K4, E3.wr W4, F14, b, F24, B3.other W4 hbt⟩
theorem own_c16c (l : Launch) (Z : State) (a0 : Array Value) (hw : ∀ d ∈ tables_1, d.before a0 Z = true) (n0 : Nat) (h : Heap) (c : Int32) (H : own_ch c) : W l Z n0 (rmF 0 0 0 0) B16 (RI (fun u h' => h' = h ∧ u = 1)) h 0 0 0 [.val (.int c)] [] := by
  refine W.iloadN d16_0 rfl rfl ?_
  refine W.sipush d16_1 own_cs_255 rfl ?_
  refine W.icmp_gt d16_4 (by decide) rfl rfl (fun g1 => ?_) (fun g2 => ?_)
  · exact absurd g1 (own_nlt H)
  refine W.iconst d16_7 own_ci_1 rfl ?_
  refine W.goto d16_8 (by decide) rfl ?_
  exact W.ireturnN d16_12 rfl (Or.inl rfl) (show nar .boolean 1 = 1 by decide) ⟨_, rfl, rfl, rfl⟩
theorem own_c17 (l : Launch) (Z : State) (a0 : Array Value) (hw : ∀ d ∈ tables_1, d.before a0 Z = true) (n0 : Nat) (h : Heap) (c : Int32) (hn : n0 ≤ h.size) : W l Z n0 (rmF 0 1 1 0) B17 (RA (fun v h' => Ext h h' ∧ v = .ref h.size ∧ AI Z h' h.size .byte [own_bt c])) h 0 0 0 [.val (.int c)] [] := by
  refine W.iconst d17_0 own_ci_1 rfl ?_
  refine W.newarrayI (cap := 1) d17_1 rfl rfl (hw _ (List.mem_of_getElem? (i := 12) rfl)) (by decide) (by decide) (by decide) (by decide) (by decide) rfl (fun h1 E1 A1 => ?_)
  have A1 : AI Z h1 h.size .byte [0] := A1
  refine W.dup d17_3 rfl rfl ?_
  refine W.iconst d17_4 own_ci_0 rfl ?_
  refine W.iloadN d17_5 rfl rfl ?_
  refine W.i2b d17_6 rfl ?_
  refine W.bastoreB d17_7 A1 (by decide) (by decide) (own_bb _) hn rfl (fun h2 W2 B2 => ?_)
  have B2 : AI Z h2 h.size .byte [own_bt c] := B2
  exact W.areturn d17_8 rfl rfl rfl rfl ⟨_, rfl, own_ew E1 W2 (Nat.le_refl _), rfl, B2⟩
theorem own_c15 (l : Launch) (Z : State) (a0 : Array Value) (hw : ∀ d ∈ tables_1, d.before a0 Z = true) (n0 : Nat) (h : Heap) (c z : Int32) (H : own_ch c) (hn : n0 ≤ h.size) (CS : Sta Z h own_S "COMPACT_STRINGS" "Z" (.int z)) (hz : z ≠ 0) : W l Z n0 (rmF 2 2 5 40) B15 (RA (fun v h' => Ext h h' ∧ ∃ a : Addr, v = .ref a ∧ own_Str Z h' a [own_bt c])) h 0 0 0 [.val (.int c)] [] := by
  refine W.getS d15_0 (hw _ (List.mem_of_getElem? (i := 29) rfl)) CS rfl ?_
  refine W.ifc_eq d15_3 (by decide) rfl rfl (fun g1 => ?_) (fun g2 => ?_)
  · exact absurd g1 hz
  refine W.iloadN d15_6 rfl rfl ?_
  refine W.callS_I (B' := B16) (argsL := [_]) d15_7 (hw _ (List.mem_of_getElem? (i := 92) rfl)) (hw _ (List.mem_of_getElem? (i := 93) rfl)) (hw _ (List.mem_of_getElem? (i := 85) rfl)) (hw _ (List.mem_of_getElem? (i := 94) rfl)) rfl (own_c16c l Z a0 hw n0 h c H) own_pf16 (by decide) own_pd16 rfl rfl rfl (fun m => by first | (simp [entryFrame, mkF, argsToLocals, Value.category]; done) | rfl) rfl rfl rfl rfl rfl rfl (fun u h1 r => ?_)
  obtain ⟨rfl, rfl⟩ := r
  refine W.ifc_eq d15_10 (by decide) rfl rfl (fun g3 => ?_) (fun g4 => ?_)
  · exact absurd g3 (by decide)
  refine W.newO d15_13 (hw _ (List.mem_of_getElem? (i := 82) rfl)) (hw _ (List.mem_of_getElem? (i := 11) rfl)) (hw _ (List.mem_of_getElem? (i := 10) rfl)) (by decide) (by decide) rfl (fun h2 X2 E2 D2 => ?_)
  have F1 : Fld Z h2 h1.size own_S "coder" "B" (.int 0) := D2 (Or.inr (hw _ (List.mem_of_getElem? (i := 14) rfl))) (ty := .byte) (by decide)
  have F2 : Fld Z h2 h1.size own_S "value" "[B" .null := D2 (Or.inr (hw _ (List.mem_of_getElem? (i := 13) rfl))) (ty := .array .byte) (by decide)
  refine W.dup d15_16 rfl rfl ?_
  refine W.iloadN d15_17 rfl rfl ?_
  have hn2 : n0 ≤ h2.size := Nat.le_trans hn X2.1
  refine W.callS_A (B' := B17) (argsL := [_]) d15_18 (hw _ (List.mem_of_getElem? (i := 95) rfl)) (hw _ (List.mem_of_getElem? (i := 96) rfl)) (hw _ (List.mem_of_getElem? (i := 85) rfl)) (hw _ (List.mem_of_getElem? (i := 97) rfl)) rfl (own_c17 l Z a0 hw n0 h2 c hn2) own_pf17 (by decide) own_pd17 rfl rfl rfl (fun m => by first | (simp [entryFrame, mkF, argsToLocals, Value.category]; done) | rfl) rfl rfl rfl rfl rfl rfl (fun u3 h3 r3 => ?_)
  obtain ⟨X3, rfl, A3⟩ := r3
  refine W.iconst d15_21 own_ci_0 rfl ?_
  have hlt := E2.lt
  refine W.callI_N (B' := B18) (argsL := [_, _]) d15_22 (hw _ (List.mem_of_getElem? (i := 98) rfl)) (hw _ (List.mem_of_getElem? (i := 99) rfl)) (hw _ (List.mem_of_getElem? (i := 10) rfl)) (hw _ (List.mem_of_getElem? (i := 100) rfl)) rfl (own_c18 l Z a0 hw n0 h3 h1.size h2.size [own_bt c] A3 (Nat.ne_of_gt hlt) hn (E2.ext X3) (F1.ext X3) (F2.ext X3)) own_pf18 (by decide) own_pd18 rfl rfl rfl (fun m => by first | (simp [entryFrame, mkF, argsToLocals, Value.category]; done) | rfl) rfl rfl rfl rfl rfl rfl rfl rfl (fun h4 r4 => ?_)
  obtain ⟨K4, S4⟩ := r4
  exact W.areturn d15_25 rfl rfl rfl rfl ⟨_, rfl, own_ek (own_et X2 X3) K4, _, rfl, S4⟩
theorem own_c2n (l : Launch) (Z : State) (a0 : Array Value) (hw : ∀ d ∈ tables_1, d.before a0 Z = true) (n0 : Nat) (h : Heap) (len c0 c1 z : Int32) (hlen : len ≠ 0) (H0 : own_ch c0) (H1 : own_ch c1) (hn : n0 ≤ h.size) (CS : Sta Z h own_S "COMPACT_STRINGS" "Z" (.int z)) (hz : z ≠ 0) :
    W l Z n0 (rmF 4 3 8 70) B2 (RA (fun v h' => Ext h h' ∧ ∃ a : Addr, v = .ref a ∧ own_Str Z h' a (own_txt len c0 c1))) h 0 0 0 [.val (.int len), .val (.int c0), .val (.int c1)] [] := by
  refine W.iloadN d2_0 rfl rfl ?_
  refine W.ifc_ne d2_1 (by decide) rfl rfl (fun g1 => ?_) (fun g2 => ?_)
  rotate_left
  · exact absurd g2 hlen
  refine W.iloadN d2_7 rfl rfl ?_
  refine W.iconst d2_8 own_ci_1 rfl ?_
  refine W.icmp_ne d2_9 (by decide) rfl rfl (fun g3 => ?_) (fun g4 => ?_)
  · refine W.newO d2_17 (hw _ (List.mem_of_getElem? (i := 17) rfl)) (hw _ (List.mem_of_getElem? (i := 11) rfl)) (hw _ (List.mem_of_getElem? (i := 10) rfl)) (by decide) (by decide) rfl (fun h2 X2 E2 D2 => ?_)
    have F1 : Fld Z h2 h.size own_S "coder" "B" (.int 0) := D2 (Or.inr (hw _ (List.mem_of_getElem? (i := 14) rfl))) (ty := .byte) (by decide)
    have F2 : Fld Z h2 h.size own_S "value" "[B" .null := D2 (Or.inr (hw _ (List.mem_of_getElem? (i := 13) rfl))) (ty := .array .byte) (by decide)
    have hn2 : n0 ≤ h2.size := Nat.le_trans hn X2.1
    refine W.dup d2_20 rfl rfl ?_
    refine W.iconst d2_21 own_ci_2 rfl ?_
    refine W.newarrayI (cap := 2) d2_22 rfl rfl (hw _ (List.mem_of_getElem? (i := 18) rfl)) (by decide) (by decide) (by decide) (by decide) (by decide) rfl (fun h3 X3 A3 => ?_)
    have A3 : AI Z h3 h2.size .char [0, 0] := A3
    have X03 := own_et X2 X3
    refine W.dup d2_24 rfl rfl ?_
    refine W.iconst d2_25 own_ci_0 rfl ?_
    refine W.iloadN d2_26 rfl rfl ?_
    refine W.castoreC d2_27 A3 (by decide) (by decide) (own_narc H0) hn2 rfl (fun h4 W4 A4 => ?_)
    have A4 : AI Z h4 h2.size .char [c0, 0] := A4
    have X24 := own_ew X3 W4 (Nat.le_refl _)
    refine W.dup d2_28 rfl rfl ?_
    refine W.iconst d2_29 own_ci_1 rfl ?_
    refine W.iloadN d2_30 rfl rfl ?_
    refine W.castoreC d2_31 A4 (by decide) (by show 1 < 2; decide) (own_narc H1) hn2 rfl (fun h5 W5 A5 => ?_)
    have A5 : AI Z h5 h2.size .char [c0, c1] := A5
    have X25 := own_ew X24 W5 (Nat.le_refl _)
    refine W.callI_N (B' := B3) (argsL := [_]) d2_32 (hw _ (List.mem_of_getElem? (i := 19) rfl)) (hw _ (List.mem_of_getElem? (i := 20) rfl)) (hw _ (List.mem_of_getElem? (i := 10) rfl)) (hw _ (List.mem_of_getElem? (i := 21) rfl)) rfl (own_c3 l Z a0 hw n0 h5 h.size h2.size c0 c1 z H0 H1 A5 (Nat.le_trans hn2 X25.1) hn (E2.ext X25) (F1.ext X25) (F2.ext X25) (CS.ext (own_et X2 X25)) hz) own_pf3 (by decide) own_pd3 rfl rfl rfl (fun m => by first | (simp [entryFrame, mkF, argsToLocals, Value.category]; done) | rfl) rfl rfl rfl rfl rfl rfl rfl rfl (fun h6 r6 => ?_)
    obtain ⟨K6, S6⟩ := r6
    exact W.areturn d2_35 rfl rfl rfl rfl ⟨_, rfl, own_ek (own_et X2 X25) K6, _, rfl, by rw [own_txt, if_neg hlen, if_neg g3]; exact S6⟩
  · refine W.iloadN d2_12 rfl rfl ?_
    refine W.callS_A (B' := B15) (argsL := [_]) d2_13 (hw _ (List.mem_of_getElem? (i := 89) rfl)) (hw _ (List.mem_of_getElem? (i := 90) rfl)) (hw _ (List.mem_of_getElem? (i := 10) rfl)) (hw _ (List.mem_of_getElem? (i := 91) rfl)) rfl (own_c15 l Z a0 hw n0 h c0 z H0 hn CS hz) own_pf15 (by decide) own_pd15 rfl rfl rfl (fun m => by first | (simp [entryFrame, mkF, argsToLocals, Value.category]; done) | rfl) rfl rfl rfl rfl rfl rfl (fun u1 h1 r1 => ?_)
    obtain ⟨X1, a, rfl, S1⟩ := r1
    refine W.weak (c' := 3) (s' := 8) (by decide) (by decide) (by decide) (by decide) ?_
    exact W.areturn d2_16 rfl rfl rfl rfl ⟨_, rfl, X1, _, rfl, by rw [own_txt, if_neg hlen, if_pos g4]; exact S1⟩
theorem own_c9 (l : Launch) (Z : State) (a0 : Array Value) (hw : ∀ d ∈ tables_1, d.before a0 Z = true) (n0 : Nat) (h : Heap) (k : Int32) (r0 r1 r2 : Addr) (S0 : Sta Z h own_E "REQUIRED" own_Ed (.ref r0)) (S1 : Sta Z h own_E "TOO_LONG" own_Ed (.ref r1)) (S2 : Sta Z h own_E "INVALID" own_Ed (.ref r2)) :
    W l Z n0 (rmF 0 0 0 0) B9 (RA (fun v h' => h' = h ∧ v = .ref (own_err r0 r1 r2 k))) h 0 0 0 [.val (.int k)] [] := by
  refine W.iloadN d9_0 rfl rfl ?_
  refine W.ifc_ne d9_1 (by decide) rfl rfl (fun g1 => ?_) (fun g2 => ?_)
  · refine W.iloadN d9_8 rfl rfl ?_
    refine W.iconst d9_9 own_ci_1 rfl ?_
    refine W.icmp_ne d9_10 (by decide) rfl rfl (fun g3 => ?_) (fun g4 => ?_)
    · refine W.getS d9_17 (hw _ (List.mem_of_getElem? (i := 48) rfl)) S2 rfl ?_
      exact W.areturn d9_20 rfl rfl rfl rfl ⟨_, rfl, rfl, by rw [own_err, if_neg g1, if_neg g3]⟩
    · refine W.getS d9_13 (hw _ (List.mem_of_getElem? (i := 68) rfl)) S1 rfl ?_
      exact W.areturn d9_16 rfl rfl rfl rfl ⟨_, rfl, rfl, by rw [own_err, if_neg g1, if_pos g4]⟩
  · refine W.getS d9_4 (hw _ (List.mem_of_getElem? (i := 87) rfl)) S0 rfl ?_
    exact W.areturn d9_7 rfl rfl rfl rfl ⟨_, rfl, rfl, by rw [own_err, if_pos g2]⟩
theorem own_c11 (l : Launch) (Z : State) (a0 : Array Value) (hw : ∀ d ∈ tables_1, d.before a0 Z = true) (n0 : Nat) (h : Heap) (r m : Addr) : W l Z n0 (rmF 0 0 0 0) B11 (RA (fun v h' => h' = h ∧ v = .ref r)) h 0 0 0 [.val (.ref r), .val (.ref m)] [] := by
  refine W.aloadN d11_0 rfl rfl rfl ?_
  refine W.ifnonnull_yes d11_1 (by decide) rfl ?_
  refine W.aloadN d11_13 rfl rfl rfl ?_
  exact W.areturn d11_14 rfl rfl rfl rfl ⟨_, rfl, rfl, rfl⟩
/-! equals -/
theorem own_n1 : nar .boolean 1 = 1 := by decide
theorem own_n0 : nar .boolean 0 = 0 := by decide
theorem own_l14 (l : Launch) (Z : State) (a0 : Array Value) (hw : ∀ d ∈ tables_1, d.before a0 Z = true) (n0 : Nat) (h : Heap) (b b' : Addr) (xs ys : List Int32) (A : AI Z h b .byte xs) (A' : AI Z h b' .byte ys) (hl : xs.length = ys.length) (hL : xs.length ≤ 4000) : ∀ n i, i + n = xs.length → xs.take i = ys.take i →
    W l Z n0 (rmF 0 0 0 0) B14 (RI (fun u h' => h' = h ∧ u = if xs = ys then 1 else 0)) h 0 0 9 [.val (.ref b), .val (.ref b'), .val (.int i.toInt32)] [] := by
  intro n
  have mL := nat32 (k := xs.length) (by omega)
  induction n with
  | zero =>
    intro i hi ht
    have m := nat32 (k := i) (by omega)
    refine W.iloadN d14_9 rfl rfl ?_
    refine W.aloadN d14_10 rfl rfl rfl ?_
    refine W.arraylengthI d14_11 A rfl rfl ?_
    refine W.icmp_ge d14_12 (by decide) rfl rfl (fun g1 => ?_) (fun g2 => ?_)
    · refine W.iconst d14_32 own_ci_1 rfl ?_
      have q : xs = ys := by rw [List.take_of_length_le (by omega), List.take_of_length_le (by omega)] at ht; exact ht
      exact W.ireturnN d14_33 rfl (Or.inl rfl) own_n1 ⟨_, rfl, rfl, by rw [if_pos q]⟩
    · rw [lt32, m.1, mL.1] at g2; omega
  | succ n ih =>
    intro i hi ht
    have m := nat32 (k := i) (by omega)
    have hi1 : i < xs.length := by omega
    have hi2 : i < ys.length := by omega
    refine W.iloadN d14_9 rfl rfl ?_
    refine W.aloadN d14_10 rfl rfl rfl ?_
    refine W.arraylengthI d14_11 A rfl rfl ?_
    refine W.icmp_ge d14_12 (by decide) rfl rfl (fun g1 => ?_) (fun g2 => ?_)
    · rw [lt32, m.1, mL.1] at g1; omega
    refine W.aloadN d14_15 rfl rfl rfl ?_
    refine W.iloadN d14_16 rfl rfl ?_
    refine W.baloadB (v := xs[i]) d14_17 A m.2.2.1 (by rw [m.2.1]; exact List.getElem?_eq_getElem hi1) rfl ?_
    refine W.aloadN d14_18 rfl rfl rfl ?_
    refine W.iloadN d14_19 rfl rfl ?_
    refine W.baloadB (v := ys[i]) d14_20 A' m.2.2.1 (by rw [m.2.1]; exact List.getElem?_eq_getElem hi2) rfl ?_
    refine W.icmp_eq d14_21 (by decide) rfl rfl (fun g3 => ?_) (fun g4 => ?_)
    · refine W.iinc d14_26 rfl own_ci_1 (Put.s (Put.s Put.z)) rfl ?_
      refine W.goto d14_29 (by decide) rfl ?_
      rw [m.2.2.2]
      exact ih (i + 1) (by omega) (by rw [List.take_succ_eq_append_getElem hi1, List.take_succ_eq_append_getElem hi2, ht, g3])
    · refine W.iconst d14_24 own_ci_0 rfl ?_
      exact W.ireturnN d14_25 rfl (Or.inl rfl) own_n0 ⟨_, rfl, rfl, by rw [if_neg (fun q => g4 (by subst q; rfl))]⟩
theorem own_c14 (l : Launch) (Z : State) (a0 : Array Value) (hw : ∀ d ∈ tables_1, d.before a0 Z = true) (n0 : Nat) (h : Heap) (b b' : Addr) (xs ys : List Int32) (A : AI Z h b .byte xs) (A' : AI Z h b' .byte ys) (hL : xs.length ≤ 4000) (hL' : ys.length ≤ 4000) :
    W l Z n0 (rmF 0 0 0 0) B14 (RI (fun u h' => h' = h ∧ u = if xs = ys then 1 else 0)) h 0 0 0 [.val (.ref b), .val (.ref b'), .unset] [] := by
  have m := nat32 (k := xs.length) (by omega)
  have m' := nat32 (k := ys.length) (by omega)
  refine W.aloadN d14_0 rfl rfl rfl ?_
  refine W.arraylengthI d14_1 A rfl rfl ?_
  refine W.aloadN d14_2 rfl rfl rfl ?_
  refine W.arraylengthI d14_3 A' rfl rfl ?_
  refine W.icmp_ne d14_4 (by decide) rfl rfl (fun g1 => ?_) (fun g2 => ?_)
  · refine W.iconst d14_34 own_ci_0 rfl ?_
    exact W.ireturnN d14_35 rfl (Or.inl rfl) own_n0 ⟨_, rfl, rfl, by rw [if_neg (fun q => g1 (by rw [q]))]⟩
  · refine W.iconst d14_7 own_ci_0 rfl ?_
    refine W.istoreN d14_8 (Put.s (Put.s Put.z)) rfl rfl rfl ?_
    have hl : xs.length = ys.length := by rw [eq32, m.1, m'.1] at g2; omega
    exact own_l14 l Z a0 hw n0 h b b' xs ys A A' hl hL xs.length 0 (by omega) rfl
theorem own_c13 (l : Launch) (Z : State) (a0 : Array Value) (hw : ∀ d ∈ tables_1, d.before a0 Z = true) (n0 : Nat) (h : Heap) (a b : Addr) (xs ys : List Int32) (z : Int32) (S : own_Str Z h a xs) (S' : own_Str Z h b ys) (hL : xs.length ≤ 4000) (hL' : ys.length ≤ 4000) (CS : Sta Z h own_S "COMPACT_STRINGS" "Z" (.int z)) (hz : z ≠ 0) :
    W l Z n0 (rmF 1 0 0 14) B13 (RI (fun u h' => h' = h ∧ u = if xs = ys then 1 else 0)) h 0 0 0 [.val (.ref a), .val (.ref b), .unset] [] := by
  refine W.aloadN d13_0 rfl rfl rfl ?_
  refine W.aloadN d13_1 rfl rfl rfl ?_
  refine W.acmp_ne d13_2 rfl rfl (by decide) rfl rfl (fun g1 => ?_) (fun g2 => ?_)
  rotate_left
  · refine W.iconst d13_5 own_ci_1 rfl ?_
    cases g2
    exact W.ireturnN d13_6 rfl (Or.inl rfl) own_n1 ⟨_, rfl, rfl, by rw [if_pos (S.inj S')]⟩
  obtain ⟨s1, s2, v, s3, s4⟩ := S
  obtain ⟨t1, t2, v', t3, t4⟩ := S'
  refine W.aloadN d13_7 rfl rfl rfl ?_
  refine W.instY d13_8 (hw _ (List.mem_of_getElem? (i := 82) rfl)) (Ins.self t1) rfl ?_
  refine W.ifc_eq d13_11 (by decide) rfl rfl (fun g3 => ?_) (fun g4 => ?_)
  · exact absurd g3 (by decide)
  refine W.aloadN d13_14 rfl rfl rfl ?_
  refine W.castY d13_15 (hw _ (List.mem_of_getElem? (i := 82) rfl)) (Ins.self t1) rfl ?_
  refine W.astoreN d13_18 rfl (Put.s (Put.s Put.z)) rfl rfl rfl ?_
  refine W.getS d13_19 (hw _ (List.mem_of_getElem? (i := 29) rfl)) CS rfl ?_
  refine W.ifc_eq d13_22 (by decide) rfl rfl (fun g5 => ?_) (fun g6 => ?_)
  · exact absurd g5 hz
  refine W.aloadN d13_25 rfl rfl rfl ?_
  refine W.getF d13_26 (hw _ (List.mem_of_getElem? (i := 40) rfl)) s2 rfl ?_
  refine W.aloadN d13_29 rfl rfl rfl ?_
  refine W.getF d13_30 (hw _ (List.mem_of_getElem? (i := 40) rfl)) t2 rfl ?_
  refine W.icmp_ne d13_33 (by decide) rfl rfl (fun g7 => ?_) (fun g8 => ?_)
  · exact absurd rfl g7
  refine W.aloadN d13_36 rfl rfl rfl ?_
  refine W.getF d13_37 (hw _ (List.mem_of_getElem? (i := 41) rfl)) s3 rfl ?_
  refine W.aloadN d13_40 rfl rfl rfl ?_
  refine W.getF d13_41 (hw _ (List.mem_of_getElem? (i := 41) rfl)) t3 rfl ?_
  refine W.callS_I (B' := B14) (argsL := [_, _]) d13_44 (hw _ (List.mem_of_getElem? (i := 83) rfl)) (hw _ (List.mem_of_getElem? (i := 84) rfl)) (hw _ (List.mem_of_getElem? (i := 85) rfl)) (hw _ (List.mem_of_getElem? (i := 86) rfl)) rfl (own_c14 l Z a0 hw n0 h v v' xs ys s4 t4 hL hL') own_pf14 (by decide) own_pd14 rfl rfl rfl (fun m => by first | (simp [entryFrame, mkF, argsToLocals, Value.category]; done) | rfl) rfl rfl rfl rfl rfl rfl (fun u h1 r => ?_)
  obtain ⟨rfl, hu⟩ := r
  by_cases q : xs = ys
  · rw [if_pos q] at hu
    subst hu
    refine W.ifc_eq d13_47 (by decide) rfl rfl (fun g9 => ?_) (fun g10 => ?_)
    · exact absurd g9 (by decide)
    refine W.iconst d13_50 own_ci_1 rfl ?_
    refine W.goto d13_51 (by decide) rfl ?_
    exact W.ireturnN d13_55 rfl (Or.inl rfl) own_n1 ⟨_, rfl, rfl, by rw [if_pos q]⟩
  · rw [if_neg q] at hu
    subst hu
    refine W.ifc_eq d13_47 (by decide) rfl rfl (fun g9 => ?_) (fun g10 => ?_)
    rotate_left
    · exact absurd rfl g10
    refine W.iconst d13_54 own_ci_0 rfl ?_
    exact W.ireturnN d13_55 rfl (Or.inl rfl) own_n0 ⟨_, rfl, rfl, by rw [if_neg q]⟩
theorem own_c12 (l : Launch) (Z : State) (a0 : Array Value) (hw : ∀ d ∈ tables_1, d.before a0 Z = true) (n0 : Nat) (h : Heap) (p q a b r r' : Addr) (xs ys : List Int32) (z : Int32) (P : own_FP Z h p a r) (P' : own_FP Z h q b r') (S : own_Str Z h a xs) (S' : own_Str Z h b ys) (hL : xs.length ≤ 4000) (hL' : ys.length ≤ 4000) (CS : Sta Z h own_S "COMPACT_STRINGS" "Z" (.int z)) (hz : z ≠ 0) :
    W l Z n0 (rmF 2 0 0 28) B12 (RI (fun u h' => h' = h ∧ u = if xs = ys ∧ r = r' then 1 else 0)) h 0 0 0 [.val (.ref p), .val (.ref q)] [] := by
  refine W.aloadN d12_0 rfl rfl rfl ?_
  refine W.instY d12_1 (hw _ (List.mem_of_getElem? (i := 75) rfl)) (Ins.self P'.1) rfl ?_
  refine W.ifc_eq d12_4 (by decide) rfl rfl (fun g1 => ?_) (fun g2 => ?_)
  · exact absurd g1 (by decide)
  refine W.aloadN d12_7 rfl rfl rfl ?_
  refine W.getF d12_8 (hw _ (List.mem_of_getElem? (i := 61) rfl)) P.2.1 rfl ?_
  refine W.aloadN d12_11 rfl rfl rfl ?_
  refine W.castY d12_12 (hw _ (List.mem_of_getElem? (i := 75) rfl)) (Ins.self P'.1) rfl ?_
  refine W.getF d12_15 (hw _ (List.mem_of_getElem? (i := 61) rfl)) P'.2.1 rfl ?_
  refine W.callV_I (B' := B13) (argsL := [_]) d12_18 (hw _ (List.mem_of_getElem? (i := 77) rfl)) (hw _ (List.mem_of_getElem? (i := 78) rfl)) (hw _ (List.mem_of_getElem? (i := 80) rfl)) (hw _ (List.mem_of_getElem? (i := 79) rfl)) (hw _ (List.mem_of_getElem? (i := 10) rfl)) (hw _ (List.mem_of_getElem? (i := 81) rfl)) rfl S.1 (own_c13 l Z a0 hw n0 h a b xs ys z S S' hL hL' CS hz) own_pf13 (by decide) own_pd13 rfl rfl rfl (fun m => by first | (simp [entryFrame, mkF, argsToLocals, Value.category]; done) | rfl) rfl rfl rfl rfl rfl rfl (fun u h1 ru => ?_)
  obtain ⟨rfl, hu⟩ := ru
  by_cases e : xs = ys
  · rw [if_pos e] at hu
    subst hu
    refine W.ifc_eq d12_21 (by decide) rfl rfl (fun g3 => ?_) (fun g4 => ?_)
    · exact absurd g3 (by decide)
    refine W.aloadN d12_24 rfl rfl rfl ?_
    refine W.getF d12_25 (hw _ (List.mem_of_getElem? (i := 66) rfl)) P.2.2 rfl ?_
    refine W.aloadN d12_28 rfl rfl rfl ?_
    refine W.castY d12_29 (hw _ (List.mem_of_getElem? (i := 75) rfl)) (Ins.self P'.1) rfl ?_
    refine W.getF d12_32 (hw _ (List.mem_of_getElem? (i := 66) rfl)) P'.2.2 rfl ?_
    refine W.acmp_ne d12_35 rfl rfl (by decide) rfl rfl (fun g5 => ?_) (fun g6 => ?_)
    · refine W.iconst d12_42 own_ci_0 rfl ?_
      exact W.ireturnN d12_43 rfl (Or.inl rfl) own_n0 ⟨_, rfl, rfl, by rw [if_neg (fun w => g5 (by rw [w.2]))]⟩
    · refine W.iconst d12_38 own_ci_1 rfl ?_
      refine W.goto d12_39 (by decide) rfl ?_
      cases g6
      exact W.ireturnN d12_43 rfl (Or.inl rfl) own_n1 ⟨_, rfl, rfl, by rw [if_pos ⟨e, rfl⟩]⟩
  · rw [if_neg e] at hu
    subst hu
    refine W.ifc_eq d12_21 (by decide) rfl rfl (fun g3 => ?_) (fun g4 => ?_)
    rotate_left
    · exact absurd rfl g4
    refine W.iconst d12_42 own_ci_0 rfl ?_
    exact W.ireturnN d12_43 rfl (Or.inl rfl) own_n0 ⟨_, rfl, rfl, by rw [if_neg (fun w => e w.1)]⟩
theorem own_c12n (l : Launch) (Z : State) (a0 : Array Value) (hw : ∀ d ∈ tables_1, d.before a0 Z = true) (n0 : Nat) (h : Heap) (p : Addr) : W l Z n0 (rmF 2 0 0 28) B12 (RI (fun u h' => h' = h ∧ u = 0)) h 0 0 0 [.val (.ref p), .val .null] [] := by
  refine W.aloadN d12_0 rfl rfl rfl ?_
  refine W.instNull d12_1 rfl ?_
  refine W.ifc_eq d12_4 (by decide) rfl rfl (fun g1 => ?_) (fun g2 => ?_)
  rotate_left
  · exact absurd rfl g2
  refine W.iconst d12_42 own_ci_0 rfl ?_
  exact W.ireturnN d12_43 rfl (Or.inl rfl) own_n0 ⟨_, rfl, rfl, rfl⟩
theorem own_noSP {Z : State} {a0 : Array Value} (hw : ∀ d ∈ tables_1, d.before a0 Z = true) : ∃ c t, Z.vm.findClass own_S = some c ∧ Z.vm.findClass own_P = some t ∧ Z.vm.assignable c t = false := by
  obtain ⟨t, kt, g1, g2, g3, g4, -⟩ := Cond.instantiable_spec (hw _ (List.mem_of_getElem? (i := 43) rfl))
  obtain ⟨c, f1⟩ := found_sup (hw _ (List.mem_of_getElem? (i := 101) rfl))
  obtain ⟨s, k1, k2, f2, f3, f4, f5, f6, -⟩ := Cond.superclass_spec f1 (hw _ (List.mem_of_getElem? (i := 101) rfl))
  obtain ⟨o', k5, e1, e2, e3, -⟩ := Cond.noSuperclass_spec (hw _ (List.mem_of_getElem? (i := 102) rfl))
  cases f2.symm.trans e1
  cases f4.symm.trans e2
  have n1 := ids_ne f1 g1 (by decide)
  have n3 := ids_ne e1 g1 (by decide)
  have q : ∀ fuel, Z.vm.isSubclassAux fuel c t = false := by
    intro fuel
    rcases fuel with _ | _ | fuel <;> simp [Vm.isSubclassAux, n1, n3, f3, f5, f4, e2, e3]
  have g5 : kt.isInterface = false := by simp only [Bool.or_eq_false_iff] at g4; exact g4.1
  refine ⟨c, t, f1, g1, ?_⟩
  show Z.vm.assignableAux (255 + 1) c t = false
  simp [Vm.assignableAux, n1, f3, g2, f6, g3, g5, Vm.isSubclass, q]
theorem own_c12s (l : Launch) (Z : State) (a0 : Array Value) (hw : ∀ d ∈ tables_1, d.before a0 Z = true) (n0 : Nat) (h : Heap) (p a : Addr) (S : Exa Z h a own_S) : W l Z n0 (rmF 2 0 0 28) B12 (RI (fun u h' => h' = h ∧ u = 0)) h 0 0 0 [.val (.ref p), .val (.ref a)] [] := by
  refine W.aloadN d12_0 rfl rfl rfl ?_
  refine W.instNo d12_1 (hw _ (List.mem_of_getElem? (i := 75) rfl)) S (own_noSP hw) rfl ?_
  refine W.ifc_eq d12_4 (by decide) rfl rfl (fun g1 => ?_) (fun g2 => ?_)
  rotate_left
  · exact absurd rfl g2
  refine W.iconst d12_42 own_ci_0 rfl ?_
  exact W.ireturnN d12_43 rfl (Or.inl rfl) own_n0 ⟨_, rfl, rfl, rfl⟩
/-! the callees that load String constants -/
theorem own_sA {Z : State} {a0 : Array Value} (hw : ∀ d ∈ tables_1, d.before a0 Z = true) : ∀ a ∈ Bundle.stringAtoms, a.before a0 Z = true := by
  intro d hd
  simp only [Bundle.stringAtoms, List.mem_cons, List.not_mem_nil, or_false] at hd
  rcases hd with rfl | rfl | rfl | rfl | rfl | rfl | rfl
  · exact (hw _ (List.mem_of_getElem? (i := 10) rfl))
  · exact (hw _ (List.mem_of_getElem? (i := 11) rfl))
  · exact (hw _ (List.mem_of_getElem? (i := 12) rfl))
  · exact (hw _ (List.mem_of_getElem? (i := 13) rfl))
  · exact (hw _ (List.mem_of_getElem? (i := 14) rfl))
  · exact (hw _ (List.mem_of_getElem? (i := 15) rfl))
  · exact (hw _ (List.mem_of_getElem? (i := 16) rfl))
theorem own_arv0 {Z : State} {h : Heap} {b : Addr} {k : ClassId} (A : Arv Z h b k .byte 0 [] (.int 0)) : AI Z h b .byte [] := by
  obtain ⟨c, a1, -, a2, -⟩ := A
  exact ⟨c, a1, by apply Array.eq_empty_of_size_eq_zero; rw [a2]; decide, by decide⟩
theorem own_litS {Z s : State} {vm0 vm1 : Vm} {C : String} {i : Nat} {a : Addr} (L : Lit (Z.setVm vm0) C i a) (hW : (s.setVm vm0).WarmedH vm1) : Lit (Z.setVm vm1) C i a := by
  have L' : Lit (s.setVm vm0) C i a := L
  have q : Lit (s.setVm vm1) C i a := Lit.stays L' hW.wide
  exact q
theorem own_ibS {Z s : State} {vm0 vm1 : Vm} {Ts : List String} (I : IB Z vm0 Ts) (hW : (s.setVm vm0).WarmedH vm1) : IB Z vm1 Ts := by
  obtain ⟨more, e, r⟩ := I
  exact ⟨more, (hW.interned_eq).trans e, r⟩
theorem own_emp : (∀ c ∈ "".toList, c.toNat < 256) ∧ "".toList.map (fun c => Value.int (Jvm.Lit.byteI c.toNat.toUInt16)) = [] := by
  have e : "".toList = [] := by decide
  rw [e]; exact ⟨fun _ q => (nomatch q), rfl⟩
theorem own_l0 : 4 * "".toList.length ≤ 0 := by decide
theorem own_l5 : 4 * "field".toList.length ≤ 20 := by decide
theorem own_l5' : 4 * "error".toList.length ≤ 20 := by decide
theorem own_c2w (l : Launch) (Z : State) (a0 : Array Value) (hw : ∀ d ∈ tables_1, d.before a0 Z = true) (h : Heap) (c0 c1 : Int32) (E0 : Ext Z.heap h) (hh : Jvm.Lit.constHeld Z own_L 19) (hcw : Jvm.Lit.compactW.before a0 Z = true) :
    WS (fun hs vm => hs = h ∧ IB Z vm []) l Z h.size (rmF 4 3 8 70) B2 (fun v h' vm => ∃ a : Addr, v = some (.ref a) ∧ Ext h h' ∧ own_Str Z h' a [] ∧ Lit (Z.setVm vm) own_L 19 a) h 0 0 0 [.val (.int 0), .val (.int c0), .val (.int c1)] [] := by
  refine WS.iloadN d2_0 rfl rfl ?_
  refine WS.ifc_ne d2_1 (by decide) rfl rfl (fun g1 => ?_) (fun g2 => ?_)
  · exact absurd rfl g1
  refine WS.ldcV (n := 0) (vs := []) (z := 0) d2_4 (hw _ (List.mem_of_getElem? (i := 9) rfl)) (own_sA hw) rfl E0.2 hh hcw own_emp (by decide) rfl own_l0 (by decide) (by decide) (by decide) rfl (fun h1 a b k X1 E1 F1 F2 A1 => ?_)
  exact WS.areturn d2_6 rfl rfl rfl rfl (fun s vm0 vm1 hV hW => ⟨a, rfl, X1, ⟨E1, F1, b, F2, own_arv0 A1⟩, own_litS hV hW⟩)
theorem own_c2a (l : Launch) (Z : State) (a0 : Array Value) (hw : ∀ d ∈ tables_1, d.before a0 Z = true) (n0 : Nat) (h : Heap) (c0 c1 : Int32) (a : Addr) :
    WS (fun _ vm => Lit (Z.setVm vm) own_L 19 a) l Z n0 (rmF 4 3 8 70) B2 (fun v h' _ => v = some (.ref a) ∧ h' = h) h 0 0 0 [.val (.int 0), .val (.int c0), .val (.int c1)] [] := by
  refine WS.iloadN d2_0 rfl rfl ?_
  refine WS.ifc_ne d2_1 (by decide) rfl rfl (fun g1 => ?_) (fun g2 => ?_)
  · exact absurd rfl g1
  refine WS.ldcA (a := a) d2_4 (hw _ (List.mem_of_getElem? (i := 9) rfl)) (fun _ _ q => q) rfl ?_
  exact WS.areturn d2_6 rfl rfl rfl rfl (fun s vm0 vm1 hV hW => ⟨rfl, rfl⟩)
theorem own_c10 (l : Launch) (Z : State) (a0 : Array Value) (hw : ∀ d ∈ tables_1, d.before a0 Z = true) (n0 : Nat) (h : Heap) (p a r : Addr) (hp : n0 ≤ p) (E : Exa Z h p own_P) (F1 : Fld Z h p own_P "field" "Ljava/lang/String;" .null) (F2 : Fld Z h p own_P "error" own_Ed .null) (S : Ins Z h a own_S true) (T : Ins Z h r own_E true) :
    WS (fun _ _ => True) l Z n0 (rmF 1 4 48 14) B10 (fun v h' _ => v = none ∧ Keep h h' [p] ∧ own_FP Z h' p a r) h 0 0 0 [.val (.ref p), .val (.ref a), .val (.ref r)] [] := by
  refine WS.aloadN d10_0 rfl rfl rfl ?_
  refine WS.initO d10_1 (hw _ (List.mem_of_getElem? (i := 54) rfl)) (hw _ (List.mem_of_getElem? (i := 27) rfl)) (hw _ (List.mem_of_getElem? (i := 28) rfl)) rfl rfl rfl rfl ?_
  refine WS.aloadN d10_4 rfl rfl rfl ?_
  refine WS.aloadN d10_5 rfl rfl rfl ?_
  refine WS.ldcT (n := 20) d10_6 (hw _ (List.mem_of_getElem? (i := 55) rfl)) (own_sA hw) own_l5 (by decide) (by decide) (by decide) rfl (fun h1 m1 X1 => ?_)
  refine WS.callS_A (B' := B11) (argsL := [_, _]) d10_8 (hw _ (List.mem_of_getElem? (i := 56) rfl)) (hw _ (List.mem_of_getElem? (i := 57) rfl)) (hw _ (List.mem_of_getElem? (i := 58) rfl)) (hw _ (List.mem_of_getElem? (i := 59) rfl)) rfl (own_c11 l Z a0 hw n0 h1 a m1) own_pf11 (by decide) own_pd11 rfl rfl rfl (fun m => by first | (simp [entryFrame, mkF, argsToLocals, Value.category]; done) | rfl) rfl rfl rfl rfl rfl rfl (fun _ _ q => by first | exact q.1.1 | exact Nat.le_of_eq (by rw [q.1])) (fun u h2 r2 => ?_)
  obtain ⟨rfl, rfl⟩ := r2
  refine WS.castY d10_11 (hw _ (List.mem_of_getElem? (i := 60) rfl)) (S.ext X1) rfl ?_
  refine WS.putF (ty := .object "java/lang/String") d10_14 (hw _ (List.mem_of_getElem? (i := 61) rfl)) (F1.ext X1) (E.ext X1) (Or.inr ⟨(hw _ (List.mem_of_getElem? (i := 62) rfl)), rfl, rfl⟩) (hw _ (List.mem_of_getElem? (i := 43) rfl)) (by decide) rfl rfl hp rfl (fun h3 W3 => ?_)
  have K3 := ((Keep.refl h [p]).ext X1).wr W3 (Or.inl (List.mem_singleton.mpr rfl))
  have E3 := (E.ext X1).wr W3
  have F13 : Fld Z h3 p own_P "field" "Ljava/lang/String;" (.ref a) := (F1.ext X1).same W3
  have F23 := (F2.ext X1).other W3 (Or.inr (slot_ne (Or.inr (hw _ (List.mem_of_getElem? (i := 67) rfl))) (Or.inr (hw _ (List.mem_of_getElem? (i := 62) rfl))) (by decide) (t := .object "com/example/domaine/domaine/fields/FieldError") (t' := .object "java/lang/String") (by decide) (by decide)))
  have T3 := (T.ext X1).wr W3
  refine WS.aloadN d10_17 rfl rfl rfl ?_
  refine WS.aloadN d10_18 rfl rfl rfl ?_
  refine WS.ldcT (n := 20) d10_19 (hw _ (List.mem_of_getElem? (i := 63) rfl)) (own_sA hw) own_l5' (by decide) (by decide) (by decide) rfl (fun h4 m4 X4 => ?_)
  refine WS.callS_A (B' := B11) (argsL := [_, _]) d10_21 (hw _ (List.mem_of_getElem? (i := 56) rfl)) (hw _ (List.mem_of_getElem? (i := 57) rfl)) (hw _ (List.mem_of_getElem? (i := 58) rfl)) (hw _ (List.mem_of_getElem? (i := 59) rfl)) rfl (own_c11 l Z a0 hw n0 h4 r m4) own_pf11 (by decide) own_pd11 rfl rfl rfl (fun m => by first | (simp [entryFrame, mkF, argsToLocals, Value.category]; done) | rfl) rfl rfl rfl rfl rfl rfl (fun _ _ q => by first | exact q.1.1 | exact Nat.le_of_eq (by rw [q.1])) (fun u5 h5 r5 => ?_)
  obtain ⟨rfl, rfl⟩ := r5
  refine WS.castY d10_24 (hw _ (List.mem_of_getElem? (i := 64) rfl)) (T3.ext X4) rfl ?_
  refine WS.putF (ty := .object "com/example/domaine/domaine/fields/FieldError") d10_27 (hw _ (List.mem_of_getElem? (i := 66) rfl)) (F23.ext X4) (E3.ext X4) (Or.inr ⟨(hw _ (List.mem_of_getElem? (i := 67) rfl)), rfl, rfl⟩) (hw _ (List.mem_of_getElem? (i := 43) rfl)) (by decide) rfl rfl hp rfl (fun h6 W6 => ?_)
  have K6 := (K3.ext X4).wr W6 (Or.inl (List.mem_singleton.mpr rfl))
  have F16 := (F13.ext X4).other W6 (Or.inr (slot_ne (Or.inr (hw _ (List.mem_of_getElem? (i := 62) rfl))) (Or.inr (hw _ (List.mem_of_getElem? (i := 67) rfl))) (by decide) (t := .object "java/lang/String") (t' := .object "com/example/domaine/domaine/fields/FieldError") (by decide) (by decide)))
  have F26 : Fld Z h6 p own_P "error" own_Ed (.ref r) := (F23.ext X4).same W6
  exact WS.vret d10_30 rfl (fun _ _ _ _ _ => ⟨rfl, K6, (E3.ext X4).wr W6, F16, F26⟩)
theorem own_txt_len (len c0 c1 : Int32) : (own_txt len c0 c1).length ≤ 4000 := by
  unfold own_txt; split; (simp); split <;> simp
theorem own_two {x : Int32} (h1 : 0 ≤ x.toInt) (h2 : x.toInt ≤ 2) : x = 0 ∨ x = 1 ∨ x = 2 := by
  have e0 : (0 : Int32).toInt = 0 := by decide
  have e1 : (1 : Int32).toInt = 1 := by decide
  have e2 : (2 : Int32).toInt = 2 := by decide
  rw [eq32, eq32, eq32]; omega
theorem own_txt_eq {la lb a0 a1 b0 b1 : Int32} (hla : la = 0 ∨ la = 1 ∨ la = 2) (hlb : lb = 0 ∨ lb = 1 ∨ lb = 2) (A0 : own_ch a0) (A1 : own_ch a1) (B0 : own_ch b0) (B1 : own_ch b1) : own_txt la a0 a1 = own_txt lb b0 b1 ↔ la = lb ∧ (la < 1 ∨ a0 = b0) ∧ (la < 2 ∨ a1 = b1) := by
  have i0 : own_bt a0 = own_bt b0 ↔ a0 = b0 := ⟨own_bt_inj A0 B0, fun q => by rw [q]⟩
  have i1 : own_bt a1 = own_bt b1 ↔ a1 = b1 := ⟨own_bt_inj A1 B1, fun q => by rw [q]⟩
  have d1 : ¬ (1 : Int32) = 0 := by decide
  have d2 : ¬ (2 : Int32) = 0 := by decide
  have d3 : ¬ (2 : Int32) = 1 := by decide
  have d4 : ¬ (0 : Int32) = 1 := by decide
  have d5 : ¬ (0 : Int32) = 2 := by decide
  have d6 : ¬ (1 : Int32) = 2 := by decide
  have c0 : (0 : Int32) < 1 := by decide
  have c1 : (0 : Int32) < 2 := by decide
  have c2 : ¬ (1 : Int32) < 1 := by decide
  have c3 : (1 : Int32) < 2 := by decide
  have c4 : ¬ (2 : Int32) < 1 := by decide
  have c5 : ¬ (2 : Int32) < 2 := by decide
  rcases hla with rfl | rfl | rfl <;> rcases hlb with rfl | rfl | rfl <;> simp [own_txt, i0, i1, d1, d2, d3, d4, d5, d6, c0, c1, c2, c3, c4, c5]
theorem own_err_eq {r0 r1 r2 : Addr} (h01 : r0 ≠ r1) (h02 : r0 ≠ r2) (h12 : r1 ≠ r2) {ka kb : Int32} (hka : ka = 0 ∨ ka = 1 ∨ ka = 2) (hkb : kb = 0 ∨ kb = 1 ∨ kb = 2) : own_err r0 r1 r2 ka = own_err r0 r1 r2 kb ↔ ka = kb := by
  have d1 : ¬ (1 : Int32) = 0 := by decide
  have d2 : ¬ (2 : Int32) = 0 := by decide
  have d3 : ¬ (2 : Int32) = 1 := by decide
  have d4 : ¬ (0 : Int32) = 1 := by decide
  have d5 : ¬ (0 : Int32) = 2 := by decide
  have d6 : ¬ (1 : Int32) = 2 := by decide
  rcases hka with rfl | rfl | rfl <;> rcases hkb with rfl | rfl | rfl <;> simp [own_err, d1, d2, d3, d4, d5, d6, h01, h02, h12, h01.symm, h02.symm, h12.symm]
theorem own_j233 (l : Launch) (Z : State) (a0 : Array Value) (hw : ∀ d ∈ tables_1, d.before a0 Z = true) (n0 : Nat) (h : Heap) (p q a b r r' : Addr) (xs ys : List Int32) (z ex : Int32) (i0 i1 i2 i3 i4 v5 v6 v7 v8 v9 v10 v11 v12 v17 v18 : Int32) (P : own_FP Z h p a r) (P' : own_FP Z h q b r') (S : own_Str Z h a xs) (S' : own_Str Z h b ys) (hL : xs.length ≤ 4000) (hL' : ys.length ≤ 4000) (CS : Sta Z h own_S "COMPACT_STRINGS" "Z" (.int z)) (hz : z ≠ 0) (hex : ex = if xs = ys ∧ r = r' then 1 else 0) :
    WS (fun _ _ => True) l Z n0 room_1 B0 (fun v _ _ => v = some (.int 1)) h 16 116 233 [.val (.int i0), .val (.int i1), .val (.int i2), .val (.int i3), .val (.int i4), .val (.int v5), .val (.int v6), .val (.int v7), .val (.int v8), .val (.int v9), .val (.int v10), .val (.int v11), .val (.int v12), .val (.ref a), .val (.ref b), .val (.ref p), .val (.ref q), .val (.int v17), .val (.int v18), .unset] [.int ex] := by
  refine WS.istore at_233 (Put.s (Put.s (Put.s (Put.s (Put.s (Put.s (Put.s (Put.s (Put.s (Put.s (Put.s (Put.s (Put.s (Put.s (Put.s (Put.s (Put.s (Put.s (Put.s Put.z))))))))))))))))))) rfl rfl rfl ?_
  refine WS.aload at_235 rfl rfl rfl ?_
  refine WS.aload at_237 rfl rfl rfl ?_
  refine WS.callV_I (B' := B12) (argsL := [_]) at_239 (hw _ (List.mem_of_getElem? (i := 70) rfl)) (hw _ (List.mem_of_getElem? (i := 71) rfl)) (hw _ (List.mem_of_getElem? (i := 73) rfl)) (hw _ (List.mem_of_getElem? (i := 72) rfl)) (hw _ (List.mem_of_getElem? (i := 44) rfl)) (hw _ (List.mem_of_getElem? (i := 74) rfl)) rfl P.1 (own_c12 l Z a0 hw n0 h p q a b r r' xs ys z P P' S S' hL hL' CS hz) own_pf12 (by decide) own_pd12 rfl rfl rfl (fun m => by first | (simp [entryFrame, mkF, argsToLocals, Value.category]; done) | rfl) rfl rfl rfl rfl rfl rfl (fun _ _ q => by first | exact q.1.1 | exact Nat.le_of_eq (by rw [q.1])) (fun u h1 ru => ?_)
  obtain ⟨rfl, hu⟩ := ru
  rw [← hex] at hu
  subst hu
  refine WS.iload at_242 rfl rfl ?_
  refine WS.icmp_ne at_244 (by decide) rfl rfl (fun g1 => ?_) (fun g2 => ?_)
  · exact absurd rfl g1
  refine WS.aload at_247 rfl rfl rfl ?_
  refine WS.aload at_249 rfl rfl rfl ?_
  refine WS.callV_I (B' := B12) (argsL := [_]) at_251 (hw _ (List.mem_of_getElem? (i := 70) rfl)) (hw _ (List.mem_of_getElem? (i := 71) rfl)) (hw _ (List.mem_of_getElem? (i := 73) rfl)) (hw _ (List.mem_of_getElem? (i := 72) rfl)) (hw _ (List.mem_of_getElem? (i := 44) rfl)) (hw _ (List.mem_of_getElem? (i := 74) rfl)) rfl P'.1 (own_c12 l Z a0 hw n0 h1 q p b a r' r ys xs z P' P S' S hL' hL CS hz) own_pf12 (by decide) own_pd12 rfl rfl rfl (fun m => by first | (simp [entryFrame, mkF, argsToLocals, Value.category]; done) | rfl) rfl rfl rfl rfl rfl rfl (fun _ _ q => by first | exact q.1.1 | exact Nat.le_of_eq (by rw [q.1])) (fun u2 h2 ru2 => ?_)
  obtain ⟨rfl, hu2⟩ := ru2
  have e : (if ys = xs ∧ r' = r then (1 : Int32) else 0) = u := by rw [hex]; simp only [eq_comm]
  rw [e] at hu2
  subst hu2
  refine WS.iload at_254 rfl rfl ?_
  refine WS.icmp_ne at_256 (by decide) rfl rfl (fun g3 => ?_) (fun g4 => ?_)
  · exact absurd rfl g3
  refine WS.iconst at_259 own_ci_1 rfl ?_
  refine WS.goto at_260 (by decide) rfl ?_
  exact WS.ireturnN at_264 rfl (Or.inl rfl) own_n1 (fun _ _ _ _ _ => rfl)
theorem own_j203 (l : Launch) (Z : State) (a0 : Array Value) (hw : ∀ d ∈ tables_1, d.before a0 Z = true) (n0 : Nat) (h : Heap) (p q a b r r' : Addr) (xs ys : List Int32) (z t : Int32) (i0 i1 i2 i3 i4 la x0 x1 lb y0 y1 ka kb : Int32) (P : own_FP Z h p a r) (P' : own_FP Z h q b r') (S : own_Str Z h a xs) (S' : own_Str Z h b ys) (hL : xs.length ≤ 4000) (hL' : ys.length ≤ 4000) (CS : Sta Z h own_S "COMPACT_STRINGS" "Z" (.int z)) (hz : z ≠ 0) (hr : r = r' ↔ ka = kb) (ht : t = if xs = ys then 1 else 0) :
    WS (fun _ _ => True) l Z n0 room_1 B0 (fun v _ _ => v = some (.int 1)) h 16 116 203 [.val (.int i0), .val (.int i1), .val (.int i2), .val (.int i3), .val (.int i4), .val (.int la), .val (.int x0), .val (.int x1), .val (.int lb), .val (.int y0), .val (.int y1), .val (.int ka), .val (.int kb), .val (.ref a), .val (.ref b), .val (.ref p), .val (.ref q), .unset, .unset, .unset] [.int t] := by
  refine WS.istore at_203 (Put.s (Put.s (Put.s (Put.s (Put.s (Put.s (Put.s (Put.s (Put.s (Put.s (Put.s (Put.s (Put.s (Put.s (Put.s (Put.s (Put.s Put.z))))))))))))))))) rfl rfl rfl ?_
  refine WS.iload at_205 rfl rfl ?_
  refine WS.iconst at_207 own_ci_3 rfl ?_
  refine WS.iand at_208 rfl ?_
  refine WS.istore at_209 (Put.s (Put.s (Put.s (Put.s (Put.s (Put.s (Put.s (Put.s (Put.s (Put.s (Put.s (Put.s (Put.s (Put.s (Put.s (Put.s (Put.s (Put.s Put.z)))))))))))))))))) rfl rfl rfl ?_
  refine WS.iload at_211 rfl rfl ?_
  refine WS.ifc_ne at_213 (by decide) rfl rfl (fun g1 => ?_) (fun g2 => ?_)
  · refine WS.iload at_265 rfl rfl ?_
    refine WS.iconst at_267 own_ci_1 rfl ?_
    refine WS.icmp_ne at_268 (by decide) rfl rfl (fun g3 => ?_) (fun g4 => ?_)
    · refine WS.iload at_286 rfl rfl ?_
      refine WS.iconst at_288 own_ci_2 rfl ?_
      refine WS.icmp_ne at_289 (by decide) rfl rfl (fun g5 => ?_) (fun g6 => ?_)
      · refine WS.aload at_308 rfl rfl rfl ?_
        refine WS.aload at_310 rfl rfl rfl ?_
        refine WS.callV_I (B' := B12) (argsL := [_]) at_312 (hw _ (List.mem_of_getElem? (i := 70) rfl)) (hw _ (List.mem_of_getElem? (i := 71) rfl)) (hw _ (List.mem_of_getElem? (i := 73) rfl)) (hw _ (List.mem_of_getElem? (i := 72) rfl)) (hw _ (List.mem_of_getElem? (i := 44) rfl)) (hw _ (List.mem_of_getElem? (i := 74) rfl)) rfl P.1 (own_c12 l Z a0 hw n0 h p p a a r r xs xs z P P S S hL hL CS hz) own_pf12 (by decide) own_pd12 rfl rfl rfl (fun m => by first | (simp [entryFrame, mkF, argsToLocals, Value.category]; done) | rfl) rfl rfl rfl rfl rfl rfl (fun _ _ q => by first | exact q.1.1 | exact Nat.le_of_eq (by rw [q.1])) (fun u h1 ru => ?_)
        obtain ⟨rfl, hu⟩ := ru
        rw [if_pos ⟨rfl, rfl⟩] at hu
        subst hu
        exact WS.ireturnN at_315 rfl (Or.inl rfl) own_n1 (fun _ _ _ _ _ => rfl)
      · refine WS.aload at_292 rfl rfl rfl ?_
        refine WS.aload at_294 rfl rfl rfl ?_
        refine WS.callV_I (B' := B12) (argsL := [_]) at_296 (hw _ (List.mem_of_getElem? (i := 70) rfl)) (hw _ (List.mem_of_getElem? (i := 71) rfl)) (hw _ (List.mem_of_getElem? (i := 73) rfl)) (hw _ (List.mem_of_getElem? (i := 72) rfl)) (hw _ (List.mem_of_getElem? (i := 44) rfl)) (hw _ (List.mem_of_getElem? (i := 74) rfl)) rfl P.1 (own_c12s l Z a0 hw n0 h p a S.1) own_pf12 (by decide) own_pd12 rfl rfl rfl (fun m => by first | (simp [entryFrame, mkF, argsToLocals, Value.category]; done) | rfl) rfl rfl rfl rfl rfl rfl (fun _ _ q => by first | exact q.1.1 | exact Nat.le_of_eq (by rw [q.1])) (fun u h1 ru => ?_)
        obtain ⟨rfl, rfl⟩ := ru
        refine WS.ifc_ne at_299 (by decide) rfl rfl (fun g7 => ?_) (fun g8 => ?_)
        · exact absurd rfl g7
        refine WS.iconst at_302 own_ci_1 rfl ?_
        refine WS.goto at_303 (by decide) rfl ?_
        exact WS.ireturnN at_307 rfl (Or.inl rfl) own_n1 (fun _ _ _ _ _ => rfl)
    · refine WS.aload at_271 rfl rfl rfl ?_
      refine WS.aconstNull at_273 rfl ?_
      refine WS.callV_I (B' := B12) (argsL := [_]) at_274 (hw _ (List.mem_of_getElem? (i := 70) rfl)) (hw _ (List.mem_of_getElem? (i := 71) rfl)) (hw _ (List.mem_of_getElem? (i := 73) rfl)) (hw _ (List.mem_of_getElem? (i := 72) rfl)) (hw _ (List.mem_of_getElem? (i := 44) rfl)) (hw _ (List.mem_of_getElem? (i := 74) rfl)) rfl P.1 (own_c12n l Z a0 hw n0 h p) own_pf12 (by decide) own_pd12 rfl rfl rfl (fun m => by first | (simp [entryFrame, mkF, argsToLocals, Value.category]; done) | rfl) rfl rfl rfl rfl rfl rfl (fun _ _ q => by first | exact q.1.1 | exact Nat.le_of_eq (by rw [q.1])) (fun u h1 ru => ?_)
      obtain ⟨rfl, rfl⟩ := ru
      refine WS.ifc_ne at_277 (by decide) rfl rfl (fun g7 => ?_) (fun g8 => ?_)
      · exact absurd rfl g7
      refine WS.iconst at_280 own_ci_1 rfl ?_
      refine WS.goto at_281 (by decide) rfl ?_
      exact WS.ireturnN at_285 rfl (Or.inl rfl) own_n1 (fun _ _ _ _ _ => rfl)
  · refine WS.iload at_216 rfl rfl ?_
    refine WS.ifc_eq at_218 (by decide) rfl rfl (fun g3 => ?_) (fun g4 => ?_)
    · have hx : ¬ xs = ys := fun q => by rw [if_pos q] at ht; rw [g3] at ht; exact absurd ht (by decide)
      refine WS.iconst at_232 own_ci_0 rfl ?_
      exact own_j233 l Z a0 hw n0 h p q a b r r' xs ys z 0 _ _ _ _ _ _ _ _ _ _ _ _ _ _ _ P P' S S' hL hL' CS hz (by rw [if_neg (fun w => hx w.1)])
    · have hx : xs = ys := Classical.byContradiction fun q => by rw [if_neg q] at ht; exact g4 ht
      refine WS.iload at_221 rfl rfl ?_
      refine WS.iload at_223 rfl rfl ?_
      refine WS.icmp_ne at_225 (by decide) rfl rfl (fun g5 => ?_) (fun g6 => ?_)
      · refine WS.iconst at_232 own_ci_0 rfl ?_
        exact own_j233 l Z a0 hw n0 h p q a b r r' xs ys z 0 _ _ _ _ _ _ _ _ _ _ _ _ _ _ _ P P' S S' hL hL' CS hz (by rw [if_neg (fun w => g5 (hr.mp w.2))])
      · refine WS.iconst at_228 own_ci_1 rfl ?_
        refine WS.goto at_229 (by decide) rfl ?_
        exact own_j233 l Z a0 hw n0 h p q a b r r' xs ys z 1 _ _ _ _ _ _ _ _ _ _ _ _ _ _ _ P P' S S' hL hL' CS hz (by rw [if_pos ⟨hx, hr.mpr g6⟩])
theorem own_j165 (l : Launch) (Z : State) (a0 : Array Value) (hw : ∀ d ∈ tables_1, d.before a0 Z = true) (n0 : Nat) (h : Heap) (p q a b r r' : Addr) (z : Int32) (i0 i1 i2 i3 i4 la x0 x1 lb y0 y1 ka kb : Int32) (hla : la = 0 ∨ la = 1 ∨ la = 2) (hlb : lb = 0 ∨ lb = 1 ∨ lb = 2) (X0 : own_ch x0) (X1 : own_ch x1) (Y0 : own_ch y0) (Y1 : own_ch y1) (hka : ka = 0 ∨ ka = 1 ∨ ka = 2) (hkb : kb = 0 ∨ kb = 1 ∨ kb = 2) (P : own_FP Z h p a r) (P' : own_FP Z h q b r') (S : own_Str Z h a (own_txt la x0 x1)) (S' : own_Str Z h b (own_txt lb y0 y1)) (CS : Sta Z h own_S "COMPACT_STRINGS" "Z" (.int z)) (hz : z ≠ 0) (hr : r = r' ↔ ka = kb) :
    WS (fun _ _ => True) l Z n0 room_1 B0 (fun v _ _ => v = some (.int 1)) h 16 116 165 [.val (.int i0), .val (.int i1), .val (.int i2), .val (.int i3), .val (.int i4), .val (.int la), .val (.int x0), .val (.int x1), .val (.int lb), .val (.int y0), .val (.int y1), .val (.int ka), .val (.int kb), .val (.ref a), .val (.ref b), .val (.ref p), .val (.ref q), .unset, .unset, .unset] [] := by
  have T := own_txt_eq hla hlb X0 X1 Y0 Y1
  have J := fun t ht => own_j203 l Z a0 hw n0 h p q a b r r' (own_txt la x0 x1) (own_txt lb y0 y1) z t i0 i1 i2 i3 i4 la x0 x1 lb y0 y1 ka kb P P' S S' (own_txt_len _ _ _) (own_txt_len _ _ _) CS hz hr ht
  refine WS.iload at_165 rfl rfl ?_
  refine WS.iload at_167 rfl rfl ?_
  refine WS.icmp_ne at_169 (by decide) rfl rfl (fun g1 => ?_) (fun g2 => ?_)
  · refine WS.iconst at_202 own_ci_0 rfl ?_
    exact J 0 (by rw [if_neg (fun w => g1 (T.mp w).1)])
  refine WS.iload at_172 rfl rfl ?_
  refine WS.iconst at_174 own_ci_1 rfl ?_
  refine WS.icmp_lt at_175 (by decide) rfl rfl (fun g3 => ?_) (fun g4 => ?_)
  · refine WS.iload at_185 rfl rfl ?_
    refine WS.iconst at_187 own_ci_2 rfl ?_
    refine WS.icmp_lt at_188 (by decide) rfl rfl (fun g5 => ?_) (fun g6 => ?_)
    · refine WS.iconst at_198 own_ci_1 rfl ?_
      refine WS.goto at_199 (by decide) rfl ?_
      exact J 1 (by rw [if_pos (T.mpr ⟨g2, Or.inl g3, Or.inl g5⟩)])
    · exfalso
      rw [lt32] at g3 g6
      have e1 : (1 : Int32).toInt = 1 := by decide
      have e2 : (2 : Int32).toInt = 2 := by decide
      omega
  · refine WS.iload at_178 rfl rfl ?_
    refine WS.iload at_180 rfl rfl ?_
    refine WS.icmp_ne at_182 (by decide) rfl rfl (fun g5 => ?_) (fun g6 => ?_)
    · refine WS.iconst at_202 own_ci_0 rfl ?_
      exact J 0 (by rw [if_neg (fun w => (T.mp w).2.1.elim g4 g5)])
    · refine WS.iload at_185 rfl rfl ?_
      refine WS.iconst at_187 own_ci_2 rfl ?_
      refine WS.icmp_lt at_188 (by decide) rfl rfl (fun g7 => ?_) (fun g8 => ?_)
      · refine WS.iconst at_198 own_ci_1 rfl ?_
        refine WS.goto at_199 (by decide) rfl ?_
        exact J 1 (by rw [if_pos (T.mpr ⟨g2, Or.inr g6, Or.inl g7⟩)])
      · refine WS.iload at_191 rfl rfl ?_
        refine WS.iload at_193 rfl rfl ?_
        refine WS.icmp_ne at_195 (by decide) rfl rfl (fun g9 => ?_) (fun g10 => ?_)
        · refine WS.iconst at_202 own_ci_0 rfl ?_
          exact J 0 (by rw [if_neg (fun w => (T.mp w).2.2.elim g8 g9)])
        · refine WS.iconst at_198 own_ci_1 rfl ?_
          refine WS.goto at_199 (by decide) rfl ?_
          exact J 1 (by rw [if_pos (T.mpr ⟨g2, Or.inr g6, Or.inr g10⟩)])
theorem own_errX {Z : State} {h : Heap} {r0 r1 r2 : Addr} (e0 : Exa Z h r0 own_E) (e1 : Exa Z h r1 own_E) (e2 : Exa Z h r2 own_E) (k : Int32) : Exa Z h (own_err r0 r1 r2 k) own_E := by
  unfold own_err; split
  · exact e0
  · split
    · exact e1
    · exact e2
theorem own_j133 (l : Launch) (Z : State) (a0 : Array Value) (hw : ∀ d ∈ tables_1, d.before a0 Z = true) (h : Heap) (a b : Addr) (z : Int32) (i0 i1 i2 i3 i4 la x0 x1 lb y0 y1 ka kb : Int32) (hla : la = 0 ∨ la = 1 ∨ la = 2) (hlb : lb = 0 ∨ lb = 1 ∨ lb = 2) (X0 : own_ch x0) (X1 : own_ch x1) (Y0 : own_ch y0) (Y1 : own_ch y1) (hka : ka = 0 ∨ ka = 1 ∨ ka = 2) (hkb : kb = 0 ∨ kb = 1 ∨ kb = 2) (E0 : Ext Z.heap h) (S : own_Str Z h a (own_txt la x0 x1)) (S' : own_Str Z h b (own_txt lb y0 y1)) (r0 r1 r2 : Addr) (CS : Sta Z Z.heap own_S "COMPACT_STRINGS" "Z" (.int z)) (hz : z ≠ 0) (S0 : Sta Z Z.heap own_E "REQUIRED" own_Ed (.ref r0)) (S1 : Sta Z Z.heap own_E "TOO_LONG" own_Ed (.ref r1)) (S2 : Sta Z Z.heap own_E "INVALID" own_Ed (.ref r2)) (e0 : Exa Z Z.heap r0 own_E) (e1 : Exa Z Z.heap r1 own_E) (e2 : Exa Z Z.heap r2 own_E) (h01 : r0 ≠ r1) (h02 : r0 ≠ r2) (h12 : r1 ≠ r2) :
    WS (fun _ _ => True) l Z Z.heap.size room_1 B0 (fun v _ _ => v = some (.int 1)) h 6 16 133 [.val (.int i0), .val (.int i1), .val (.int i2), .val (.int i3), .val (.int i4), .val (.int la), .val (.int x0), .val (.int x1), .val (.int lb), .val (.int y0), .val (.int y1), .val (.int ka), .val (.int kb), .val (.ref a), .val (.ref b), .unset, .unset, .unset, .unset, .unset] [] := by
  refine WS.newO at_133 (hw _ (List.mem_of_getElem? (i := 42) rfl)) (hw _ (List.mem_of_getElem? (i := 43) rfl)) (hw _ (List.mem_of_getElem? (i := 44) rfl)) (by decide) (by decide) rfl (fun h1 N1 E1 D1 => ?_)
  have F1 : Fld Z h1 h.size own_P "field" "Ljava/lang/String;" .null := D1 (Or.inr (hw _ (List.mem_of_getElem? (i := 62) rfl))) (ty := .object "java/lang/String") (by decide)
  have F2 : Fld Z h1 h.size own_P "error" own_Ed .null := D1 (Or.inr (hw _ (List.mem_of_getElem? (i := 67) rfl))) (ty := .object "com/example/domaine/domaine/fields/FieldError") (by decide)
  have E01 := own_et E0 N1
  refine WS.dup at_136 rfl rfl ?_
  refine WS.aload at_137 rfl rfl rfl ?_
  refine WS.iload at_139 rfl rfl ?_
  refine WS.callS_A (B' := B9) (argsL := [_]) at_141 (hw _ (List.mem_of_getElem? (i := 45) rfl)) (hw _ (List.mem_of_getElem? (i := 46) rfl)) (hw _ (List.mem_of_getElem? (i := 7) rfl)) (hw _ (List.mem_of_getElem? (i := 47) rfl)) rfl (own_c9 l Z a0 hw Z.heap.size h1 ka r0 r1 r2 (S0.ext E01) (S1.ext E01) (S2.ext E01)) own_pf9 (by decide) own_pd9 rfl rfl rfl (fun m => by first | (simp [entryFrame, mkF, argsToLocals, Value.category]; done) | rfl) rfl rfl rfl rfl rfl rfl (fun _ _ q => by first | exact q.1.1 | exact Nat.le_of_eq (by rw [q.1])) (fun u h2 ru => ?_)
  obtain ⟨rfl, rfl⟩ := ru
  refine WS.callIW (B' := B10) (argsL := [_, _]) at_144 (hw _ (List.mem_of_getElem? (i := 51) rfl)) (hw _ (List.mem_of_getElem? (i := 52) rfl)) (hw _ (List.mem_of_getElem? (i := 44) rfl)) (hw _ (List.mem_of_getElem? (i := 53) rfl)) rfl (own_c10 l Z a0 hw Z.heap.size h2 h.size a (own_err r0 r1 r2 ka) E0.1 E1 F1 F2 (Ins.self (S.ext N1).1) (Ins.self (own_errX (e0.ext E01) (e1.ext E01) (e2.ext E01) ka))) own_pf10 (by decide) own_pd10 rfl rfl rfl (fun m => by first | (simp [entryFrame, mkF, argsToLocals, Value.category]; done) | rfl) rfl rfl rfl rfl rfl rfl rfl rfl (fun _ _ _ _ _ => trivial) (fun v h3 hq => ?_)
  obtain ⟨vm, rfl, K3, P3⟩ := hq
  refine WS.forget (V' := fun _ _ => True) (fun _ _ _ => trivial) ?_
  change WS (fun _ _ => True) l Z Z.heap.size room_1 B0 _ h3 11 66 147 _ [.ref h.size]
  have N3 : Ext h h3 := own_ek N1 K3
  have E03 := own_et E0 N3
  refine WS.astore at_147 rfl (Put.s (Put.s (Put.s (Put.s (Put.s (Put.s (Put.s (Put.s (Put.s (Put.s (Put.s (Put.s (Put.s (Put.s (Put.s Put.z))))))))))))))) rfl rfl rfl ?_
  refine WS.newO at_149 (hw _ (List.mem_of_getElem? (i := 42) rfl)) (hw _ (List.mem_of_getElem? (i := 43) rfl)) (hw _ (List.mem_of_getElem? (i := 44) rfl)) (by decide) (by decide) rfl (fun h4 N4 E4 D4 => ?_)
  have G1 : Fld Z h4 h3.size own_P "field" "Ljava/lang/String;" .null := D4 (Or.inr (hw _ (List.mem_of_getElem? (i := 62) rfl))) (ty := .object "java/lang/String") (by decide)
  have G2 : Fld Z h4 h3.size own_P "error" own_Ed .null := D4 (Or.inr (hw _ (List.mem_of_getElem? (i := 67) rfl))) (ty := .object "com/example/domaine/domaine/fields/FieldError") (by decide)
  have E04 := own_et E03 N4
  refine WS.dup at_152 rfl rfl ?_
  refine WS.aload at_153 rfl rfl rfl ?_
  refine WS.iload at_155 rfl rfl ?_
  refine WS.callS_A (B' := B9) (argsL := [_]) at_157 (hw _ (List.mem_of_getElem? (i := 45) rfl)) (hw _ (List.mem_of_getElem? (i := 46) rfl)) (hw _ (List.mem_of_getElem? (i := 7) rfl)) (hw _ (List.mem_of_getElem? (i := 47) rfl)) rfl (own_c9 l Z a0 hw Z.heap.size h4 kb r0 r1 r2 (S0.ext E04) (S1.ext E04) (S2.ext E04)) own_pf9 (by decide) own_pd9 rfl rfl rfl (fun m => by first | (simp [entryFrame, mkF, argsToLocals, Value.category]; done) | rfl) rfl rfl rfl rfl rfl rfl (fun _ _ q => by first | exact q.1.1 | exact Nat.le_of_eq (by rw [q.1])) (fun u5 h5 ru5 => ?_)
  obtain ⟨rfl, rfl⟩ := ru5
  refine WS.callIW (B' := B10) (argsL := [_, _]) at_160 (hw _ (List.mem_of_getElem? (i := 51) rfl)) (hw _ (List.mem_of_getElem? (i := 52) rfl)) (hw _ (List.mem_of_getElem? (i := 44) rfl)) (hw _ (List.mem_of_getElem? (i := 53) rfl)) rfl (own_c10 l Z a0 hw Z.heap.size h5 h3.size b (own_err r0 r1 r2 kb) E03.1 E4 G1 G2 (Ins.self ((S'.ext N3).ext N4).1) (Ins.self (own_errX (e0.ext E04) (e1.ext E04) (e2.ext E04) kb))) own_pf10 (by decide) own_pd10 rfl rfl rfl (fun m => by first | (simp [entryFrame, mkF, argsToLocals, Value.category]; done) | rfl) rfl rfl rfl rfl rfl rfl rfl rfl (fun _ _ _ _ _ => trivial) (fun v6 h6 hq6 => ?_)
  obtain ⟨vm6, rfl, K6, P6⟩ := hq6
  refine WS.forget (V' := fun _ _ => True) (fun _ _ _ => trivial) ?_
  change WS (fun _ _ => True) l Z Z.heap.size room_1 B0 _ h6 16 116 163 _ [.ref h3.size]
  have N6 : Ext h3 h6 := own_ek N4 K6
  refine WS.astore at_163 rfl (Put.s (Put.s (Put.s (Put.s (Put.s (Put.s (Put.s (Put.s (Put.s (Put.s (Put.s (Put.s (Put.s (Put.s (Put.s (Put.s Put.z)))))))))))))))) rfl rfl rfl ?_
  exact own_j165 l Z a0 hw Z.heap.size h6 h.size h3.size a b _ _ z i0 i1 i2 i3 i4 la x0 x1 lb y0 y1 ka kb hla hlb X0 X1 Y0 Y1 hka hkb (P3.ext N6) P6 ((S.ext N3).ext N6) ((S'.ext N3).ext N6) (CS.ext (own_et E03 N6)) hz (own_err_eq h01 h02 h12 hka hkb)
theorem own_j111 (l : Launch) (Z : State) (a0 : Array Value) (hw : ∀ d ∈ tables_1, d.before a0 Z = true) (z : Int32) (i0 i1 i2 i3 i4 la x0 x1 lb y0 y1 ka kb : Int32) (hla : la = 0 ∨ la = 1 ∨ la = 2) (hlb : lb = 0 ∨ lb = 1 ∨ lb = 2) (X0 : own_ch x0) (X1 : own_ch x1) (Y0 : own_ch y0) (Y1 : own_ch y1) (hka : ka = 0 ∨ ka = 1 ∨ ka = 2) (hkb : kb = 0 ∨ kb = 1 ∨ kb = 2) (hh : Jvm.Lit.constHeld Z own_L 19) (hcw : Jvm.Lit.compactW.before a0 Z = true) (r0 r1 r2 : Addr) (CS : Sta Z Z.heap own_S "COMPACT_STRINGS" "Z" (.int z)) (hz : z ≠ 0) (S0 : Sta Z Z.heap own_E "REQUIRED" own_Ed (.ref r0)) (S1 : Sta Z Z.heap own_E "TOO_LONG" own_Ed (.ref r1)) (S2 : Sta Z Z.heap own_E "INVALID" own_Ed (.ref r2)) (e0 : Exa Z Z.heap r0 own_E) (e1 : Exa Z Z.heap r1 own_E) (e2 : Exa Z Z.heap r2 own_E) (h01 : r0 ≠ r1) (h02 : r0 ≠ r2) (h12 : r1 ≠ r2) :
    WS (fun _ vm => IB Z vm []) l Z Z.heap.size room_1 B0 (fun v _ _ => v = some (.int 1)) Z.heap 0 0 111 [.val (.int i0), .val (.int i1), .val (.int i2), .val (.int i3), .val (.int i4), .val (.int la), .val (.int x0), .val (.int x1), .val (.int lb), .val (.int y0), .val (.int y1), .val (.int ka), .val (.int kb), .unset, .unset, .unset, .unset, .unset, .unset, .unset] [] := by
  refine WS.iload at_111 rfl rfl ?_
  refine WS.iload at_113 rfl rfl ?_
  refine WS.iload at_115 rfl rfl ?_
  by_cases ha : la = 0
  · subst ha
    refine WS.callSW (n0' := Z.heap.size) (B' := B2) (argsL := [_, _, _]) at_117 (hw _ (List.mem_of_getElem? (i := 5) rfl)) (hw _ (List.mem_of_getElem? (i := 6) rfl)) (hw _ (List.mem_of_getElem? (i := 7) rfl)) (hw _ (List.mem_of_getElem? (i := 8) rfl)) rfl (own_c2w l Z a0 hw Z.heap x0 x1 (own_er _) hh hcw) own_pf2 (by decide) own_pd2 rfl rfl rfl (fun m => by first | (simp [entryFrame, mkF, argsToLocals, Value.category]; done) | rfl) rfl rfl rfl rfl rfl rfl (Nat.le_refl _) (fun s vm0 vm1 hV hW => ⟨rfl, own_ibS hV hW⟩) (fun v h1 hq => ?_)
    obtain ⟨vm, a, rfl, N1, T1, -⟩ := hq
    refine WS.forget (V' := fun _ vm => Lit (Z.setVm vm) own_L 19 a) (fun _ vm q => by obtain ⟨a', e, -, -, L⟩ := q; cases e; exact L) ?_
    change WS _ l Z Z.heap.size room_1 B0 _ h1 3 8 120 _ [.ref a]
    have T1 : own_Str Z h1 a (own_txt 0 x0 x1) := by rw [own_txt, if_pos rfl]; exact T1
    refine WS.astore at_120 rfl (Put.s (Put.s (Put.s (Put.s (Put.s (Put.s (Put.s (Put.s (Put.s (Put.s (Put.s (Put.s (Put.s Put.z))))))))))))) rfl rfl rfl ?_
    refine WS.iload at_122 rfl rfl ?_
    refine WS.iload at_124 rfl rfl ?_
    refine WS.iload at_126 rfl rfl ?_
    by_cases hb : lb = 0
    · subst hb
      refine WS.callSW (n0' := Z.heap.size) (B' := B2) (argsL := [_, _, _]) at_128 (hw _ (List.mem_of_getElem? (i := 5) rfl)) (hw _ (List.mem_of_getElem? (i := 6) rfl)) (hw _ (List.mem_of_getElem? (i := 7) rfl)) (hw _ (List.mem_of_getElem? (i := 8) rfl)) rfl (own_c2a l Z a0 hw Z.heap.size h1 y0 y1 a) own_pf2 (by decide) own_pd2 rfl rfl rfl (fun m => by first | (simp [entryFrame, mkF, argsToLocals, Value.category]; done) | rfl) rfl rfl rfl rfl rfl rfl (Nat.le_refl _) (fun s vm0 vm1 hV hW => own_litS hV hW) (fun v h2 hq => ?_)
      obtain ⟨vm, rfl, rfl⟩ := hq
      refine WS.forget (V' := fun _ _ => True) (fun _ _ _ => trivial) ?_
      change WS _ l Z Z.heap.size room_1 B0 _ h2 6 16 131 _ [.ref a]
      refine WS.astore at_131 rfl (Put.s (Put.s (Put.s (Put.s (Put.s (Put.s (Put.s (Put.s (Put.s (Put.s (Put.s (Put.s (Put.s (Put.s Put.z)))))))))))))) rfl rfl rfl ?_
      have T2 : own_Str Z h2 a (own_txt 0 y0 y1) := by rw [own_txt, if_pos rfl]; rw [own_txt, if_pos rfl] at T1; exact T1
      exact own_j133 l Z a0 hw h2 a a z i0 i1 i2 i3 i4 0 x0 x1 0 y0 y1 ka kb hla hlb X0 X1 Y0 Y1 hka hkb N1 T1 T2 r0 r1 r2 CS hz S0 S1 S2 e0 e1 e2 h01 h02 h12
    · refine WS.callS_A (B' := B2) (argsL := [_, _, _]) at_128 (hw _ (List.mem_of_getElem? (i := 5) rfl)) (hw _ (List.mem_of_getElem? (i := 6) rfl)) (hw _ (List.mem_of_getElem? (i := 7) rfl)) (hw _ (List.mem_of_getElem? (i := 8) rfl)) rfl (own_c2n l Z a0 hw Z.heap.size h1 lb y0 y1 z hb Y0 Y1 N1.1 (CS.ext N1) hz) own_pf2 (by decide) own_pd2 rfl rfl rfl (fun m => by first | (simp [entryFrame, mkF, argsToLocals, Value.category]; done) | rfl) rfl rfl rfl rfl rfl rfl (fun _ _ q => by first | exact q.1.1 | exact Nat.le_of_eq (by rw [q.1])) (fun u h2 r2 => ?_)
      obtain ⟨N2, b, rfl, T2⟩ := r2
      refine WS.forget (V' := fun _ _ => True) (fun _ _ _ => trivial) ?_
      refine WS.astore at_131 rfl (Put.s (Put.s (Put.s (Put.s (Put.s (Put.s (Put.s (Put.s (Put.s (Put.s (Put.s (Put.s (Put.s (Put.s Put.z)))))))))))))) rfl rfl rfl ?_
      exact own_j133 l Z a0 hw h2 a b z i0 i1 i2 i3 i4 0 x0 x1 lb y0 y1 ka kb hla hlb X0 X1 Y0 Y1 hka hkb (own_et N1 N2) (T1.ext N2) T2 r0 r1 r2 CS hz S0 S1 S2 e0 e1 e2 h01 h02 h12
  · refine WS.callS_A (B' := B2) (argsL := [_, _, _]) at_117 (hw _ (List.mem_of_getElem? (i := 5) rfl)) (hw _ (List.mem_of_getElem? (i := 6) rfl)) (hw _ (List.mem_of_getElem? (i := 7) rfl)) (hw _ (List.mem_of_getElem? (i := 8) rfl)) rfl (own_c2n l Z a0 hw Z.heap.size Z.heap la x0 x1 z ha X0 X1 (Nat.le_refl _) CS hz) own_pf2 (by decide) own_pd2 rfl rfl rfl (fun m => by first | (simp [entryFrame, mkF, argsToLocals, Value.category]; done) | rfl) rfl rfl rfl rfl rfl rfl (fun _ _ q => by first | exact q.1.1 | exact Nat.le_of_eq (by rw [q.1])) (fun u h1 r1 => ?_)
    obtain ⟨N1, a, rfl, T1⟩ := r1
    refine WS.astore at_120 rfl (Put.s (Put.s (Put.s (Put.s (Put.s (Put.s (Put.s (Put.s (Put.s (Put.s (Put.s (Put.s (Put.s Put.z))))))))))))) rfl rfl rfl ?_
    refine WS.iload at_122 rfl rfl ?_
    refine WS.iload at_124 rfl rfl ?_
    refine WS.iload at_126 rfl rfl ?_
    by_cases hb : lb = 0
    · subst hb
      refine WS.callSW (n0' := h1.size) (B' := B2) (argsL := [_, _, _]) at_128 (hw _ (List.mem_of_getElem? (i := 5) rfl)) (hw _ (List.mem_of_getElem? (i := 6) rfl)) (hw _ (List.mem_of_getElem? (i := 7) rfl)) (hw _ (List.mem_of_getElem? (i := 8) rfl)) rfl (own_c2w l Z a0 hw h1 y0 y1 N1 hh hcw) own_pf2 (by decide) own_pd2 rfl rfl rfl (fun m => by first | (simp [entryFrame, mkF, argsToLocals, Value.category]; done) | rfl) rfl rfl rfl rfl rfl rfl N1.1 (fun s vm0 vm1 hV hW => ⟨rfl, own_ibS hV hW⟩) (fun v h2 hq => ?_)
      obtain ⟨vm, b, rfl, N2, T2, -⟩ := hq
      refine WS.forget (V' := fun _ _ => True) (fun _ _ _ => trivial) ?_
      change WS _ l Z Z.heap.size room_1 B0 _ h2 6 16 131 _ [.ref b]
      have T2 : own_Str Z h2 b (own_txt 0 y0 y1) := by rw [own_txt, if_pos rfl]; exact T2
      refine WS.astore at_131 rfl (Put.s (Put.s (Put.s (Put.s (Put.s (Put.s (Put.s (Put.s (Put.s (Put.s (Put.s (Put.s (Put.s (Put.s Put.z)))))))))))))) rfl rfl rfl ?_
      exact own_j133 l Z a0 hw h2 a b z i0 i1 i2 i3 i4 la x0 x1 0 y0 y1 ka kb hla hlb X0 X1 Y0 Y1 hka hkb (own_et N1 N2) (T1.ext N2) T2 r0 r1 r2 CS hz S0 S1 S2 e0 e1 e2 h01 h02 h12
    · refine WS.callS_A (B' := B2) (argsL := [_, _, _]) at_128 (hw _ (List.mem_of_getElem? (i := 5) rfl)) (hw _ (List.mem_of_getElem? (i := 6) rfl)) (hw _ (List.mem_of_getElem? (i := 7) rfl)) (hw _ (List.mem_of_getElem? (i := 8) rfl)) rfl (own_c2n l Z a0 hw Z.heap.size h1 lb y0 y1 z hb Y0 Y1 N1.1 (CS.ext N1) hz) own_pf2 (by decide) own_pd2 rfl rfl rfl (fun m => by first | (simp [entryFrame, mkF, argsToLocals, Value.category]; done) | rfl) rfl rfl rfl rfl rfl rfl (fun _ _ q => by first | exact q.1.1 | exact Nat.le_of_eq (by rw [q.1])) (fun u h2 r2 => ?_)
      obtain ⟨N2, b, rfl, T2⟩ := r2
      refine WS.forget (V' := fun _ _ => True) (fun _ _ _ => trivial) ?_
      refine WS.astore at_131 rfl (Put.s (Put.s (Put.s (Put.s (Put.s (Put.s (Put.s (Put.s (Put.s (Put.s (Put.s (Put.s (Put.s (Put.s Put.z)))))))))))))) rfl rfl rfl ?_
      exact own_j133 l Z a0 hw h2 a b z i0 i1 i2 i3 i4 la x0 x1 lb y0 y1 ka kb hla hlb X0 X1 Y0 Y1 hka hkb (own_et N1 N2) (T1.ext N2) T2 r0 r1 r2 CS hz S0 S1 S2 e0 e1 e2 h01 h02 h12
theorem own_m3 (x : Int32) : ((x &&& 2147483647) % 3 = 0) ∨ ((x &&& 2147483647) % 3 = 1) ∨ ((x &&& 2147483647) % 3 = 2) := by
  have q := rem31 x 3 (by decide)
  have e : (3 : Int32).toInt = 3 := by decide
  exact own_two q.1 (by omega)
theorem own_and3 (y : Int32) : 0 ≤ (y &&& 3).toInt := by
  have e := maskk y 3 2 (by decide) (by decide)
  omega
theorem own_j95 (l : Launch) (Z : State) (a0 : Array Value) (hw : ∀ d ∈ tables_1, d.before a0 Z = true) (z : Int32) (i0 i1 i2 i3 i4 la x0 x1 lb y0 y1 : Int32) (hla : la = 0 ∨ la = 1 ∨ la = 2) (hlb : lb = 0 ∨ lb = 1 ∨ lb = 2) (X0 : own_ch x0) (X1 : own_ch x1) (Y0 : own_ch y0) (Y1 : own_ch y1) (hh : Jvm.Lit.constHeld Z own_L 19) (hcw : Jvm.Lit.compactW.before a0 Z = true) (r0 r1 r2 : Addr) (CS : Sta Z Z.heap own_S "COMPACT_STRINGS" "Z" (.int z)) (hz : z ≠ 0) (S0 : Sta Z Z.heap own_E "REQUIRED" own_Ed (.ref r0)) (S1 : Sta Z Z.heap own_E "TOO_LONG" own_Ed (.ref r1)) (S2 : Sta Z Z.heap own_E "INVALID" own_Ed (.ref r2)) (e0 : Exa Z Z.heap r0 own_E) (e1 : Exa Z Z.heap r1 own_E) (e2 : Exa Z Z.heap r2 own_E) (h01 : r0 ≠ r1) (h02 : r0 ≠ r2) (h12 : r1 ≠ r2) :
    WS (fun _ vm => IB Z vm []) l Z Z.heap.size room_1 B0 (fun v _ _ => v = some (.int 1)) Z.heap 0 0 95 [.val (.int i0), .val (.int i1), .val (.int i2), .val (.int i3), .val (.int i4), .val (.int la), .val (.int x0), .val (.int x1), .val (.int lb), .val (.int y0), .val (.int y1), .unset, .unset, .unset, .unset, .unset, .unset, .unset, .unset, .unset] [] := by
  refine WS.iloadN at_95 rfl rfl ?_
  refine WS.ldc at_96 (hw _ (List.mem_of_getElem? (i := 4) rfl)) rfl ?_
  refine WS.iand at_98 rfl ?_
  refine WS.iconst at_99 own_ci_3 rfl ?_
  refine WS.irem at_100 (by decide) rfl ?_
  refine WS.istore at_101 (Put.s (Put.s (Put.s (Put.s (Put.s (Put.s (Put.s (Put.s (Put.s (Put.s (Put.s Put.z))))))))))) rfl rfl rfl ?_
  refine WS.iloadN at_103 rfl rfl ?_
  refine WS.ldc at_104 (hw _ (List.mem_of_getElem? (i := 4) rfl)) rfl ?_
  refine WS.iand at_106 rfl ?_
  refine WS.iconst at_107 own_ci_3 rfl ?_
  refine WS.irem at_108 (by decide) rfl ?_
  refine WS.istore at_109 (Put.s (Put.s (Put.s (Put.s (Put.s (Put.s (Put.s (Put.s (Put.s (Put.s (Put.s (Put.s Put.z)))))))))))) rfl rfl rfl ?_
  exact own_j111 l Z a0 hw z i0 i1 i2 i3 i4 la x0 x1 lb y0 y1 _ _ hla hlb X0 X1 Y0 Y1 (own_m3 i2) (own_m3 i3) hh hcw r0 r1 r2 CS hz S0 S1 S2 e0 e1 e2 h01 h02 h12
theorem own_law (l : Launch) (Z : State) (a0 : Array Value) (hw : ∀ d ∈ tables_1, d.before a0 Z = true) (i0 i1 i2 i3 i4 : Int32) (z : Int32) (hh : Jvm.Lit.constHeld Z own_L 19) (hcw : Jvm.Lit.compactW.before a0 Z = true) (r0 r1 r2 : Addr) (CS : Sta Z Z.heap own_S "COMPACT_STRINGS" "Z" (.int z)) (hz : z ≠ 0) (S0 : Sta Z Z.heap own_E "REQUIRED" own_Ed (.ref r0)) (S1 : Sta Z Z.heap own_E "TOO_LONG" own_Ed (.ref r1)) (S2 : Sta Z Z.heap own_E "INVALID" own_Ed (.ref r2)) (e0 : Exa Z Z.heap r0 own_E) (e1 : Exa Z Z.heap r1 own_E) (e2 : Exa Z Z.heap r2 own_E) (h01 : r0 ≠ r1) (h02 : r0 ≠ r2) (h12 : r1 ≠ r2) :
    WS (fun _ vm => IB Z vm []) l Z Z.heap.size room_1 B0 (fun v _ _ => v = some (.int 1)) Z.heap 0 0 0 [.val (.int i0), .val (.int i1), .val (.int i2), .val (.int i3), .val (.int i4), .unset, .unset, .unset, .unset, .unset, .unset, .unset, .unset, .unset, .unset, .unset, .unset, .unset, .unset, .unset] [] := by
  refine WS.iloadN at_0 rfl rfl ?_
  refine WS.bipush at_1 own_cb_16 rfl ?_
  refine WS.iushr at_3 rfl ?_
  refine WS.iconst at_4 own_ci_3 rfl ?_
  refine WS.iand at_5 rfl ?_
  refine WS.iconst at_6 own_ci_2 rfl ?_
  refine WS.callS_I (B' := B1) (argsL := [_, _]) at_7 (hw _ (List.mem_of_getElem? (i := 0) rfl)) (hw _ (List.mem_of_getElem? (i := 1) rfl)) (hw _ (List.mem_of_getElem? (i := 2) rfl)) (hw _ (List.mem_of_getElem? (i := 3) rfl)) rfl (own_c1 l Z a0 hw Z.heap.size Z.heap _ (own_and3 _)) own_pf1 (by decide) own_pd1 rfl rfl rfl (fun m => by first | (simp [entryFrame, mkF, argsToLocals, Value.category]; done) | rfl) rfl rfl rfl rfl rfl rfl (fun _ _ q => by first | exact q.1.1 | exact Nat.le_of_eq (by rw [q.1])) (fun la h1 r => ?_)
  obtain ⟨rfl, p1, p2⟩ := r
  refine WS.istore at_10 (Put.s (Put.s (Put.s (Put.s (Put.s Put.z))))) rfl rfl rfl ?_
  refine WS.iloadN at_12 rfl rfl ?_
  refine WS.sipush at_13 own_cs_255 rfl ?_
  refine WS.iand at_16 rfl ?_
  refine WS.i2c at_17 rfl ?_
  refine WS.istore at_18 (Put.s (Put.s (Put.s (Put.s (Put.s (Put.s Put.z)))))) rfl rfl rfl ?_
  refine WS.iloadN at_20 rfl rfl ?_
  refine WS.bipush at_21 own_cb_8 rfl ?_
  refine WS.iushr at_23 rfl ?_
  refine WS.sipush at_24 own_cs_255 rfl ?_
  refine WS.iand at_27 rfl ?_
  refine WS.i2c at_28 rfl ?_
  refine WS.istore at_29 (Put.s (Put.s (Put.s (Put.s (Put.s (Put.s (Put.s Put.z))))))) rfl rfl rfl ?_
  refine WS.iloadN at_31 rfl rfl ?_
  refine WS.iconst at_32 own_ci_3 rfl ?_
  refine WS.iand at_33 rfl ?_
  refine WS.iconst at_34 own_ci_2 rfl ?_
  refine WS.callS_I (B' := B1) (argsL := [_, _]) at_35 (hw _ (List.mem_of_getElem? (i := 0) rfl)) (hw _ (List.mem_of_getElem? (i := 1) rfl)) (hw _ (List.mem_of_getElem? (i := 2) rfl)) (hw _ (List.mem_of_getElem? (i := 3) rfl)) rfl (own_c1 l Z a0 hw Z.heap.size Z.heap _ (own_and3 _)) own_pf1 (by decide) own_pd1 rfl rfl rfl (fun m => by first | (simp [entryFrame, mkF, argsToLocals, Value.category]; done) | rfl) rfl rfl rfl rfl rfl rfl (fun _ _ q => by first | exact q.1.1 | exact Nat.le_of_eq (by rw [q.1])) (fun lb h2 r2 => ?_)
  obtain ⟨rfl, q1, q2⟩ := r2
  refine WS.istore at_38 (Put.s (Put.s (Put.s (Put.s (Put.s (Put.s (Put.s (Put.s Put.z)))))))) rfl rfl rfl ?_
  refine WS.iloadN at_40 rfl rfl ?_
  refine WS.iconst at_41 own_ci_4 rfl ?_
  refine WS.iushr at_42 rfl ?_
  refine WS.iconst at_43 own_ci_1 rfl ?_
  refine WS.iand at_44 rfl ?_
  refine WS.ifc_eq at_45 (by decide) rfl rfl (fun g1 => ?_) (fun g2 => ?_)
  · refine WS.iload at_73 rfl rfl ?_
    refine WS.iloadN at_75 rfl rfl ?_
    refine WS.iconst at_76 own_ci_2 rfl ?_
    refine WS.iushr at_77 rfl ?_
    refine WS.iconst at_78 own_ci_1 rfl ?_
    refine WS.iand at_79 rfl ?_
    refine WS.ixor at_80 rfl ?_
    refine WS.i2c at_81 rfl ?_
    refine WS.istore at_82 (Put.s (Put.s (Put.s (Put.s (Put.s (Put.s (Put.s (Put.s (Put.s Put.z))))))))) rfl rfl rfl ?_
    refine WS.iload at_84 rfl rfl ?_
    refine WS.iloadN at_86 rfl rfl ?_
    refine WS.iconst at_87 own_ci_3 rfl ?_
    refine WS.iushr at_88 rfl ?_
    refine WS.iconst at_89 own_ci_1 rfl ?_
    refine WS.iand at_90 rfl ?_
    refine WS.ixor at_91 rfl ?_
    refine WS.i2c at_92 rfl ?_
    refine WS.istore at_93 (Put.s (Put.s (Put.s (Put.s (Put.s (Put.s (Put.s (Put.s (Put.s (Put.s Put.z)))))))))) rfl rfl rfl ?_
    exact own_j95 l Z a0 hw z i0 i1 i2 i3 i4 la _ _ lb _ _ (own_two p1 p2) (own_two q1 q2) (own_c16 (own_and _)) (own_c16 (own_and _)) (own_c16 (own_xor (own_c16 (own_and _)))) (own_c16 (own_xor (own_c16 (own_and _)))) hh hcw r0 r1 r2 CS hz S0 S1 S2 e0 e1 e2 h01 h02 h12
  · refine WS.iloadN at_48 rfl rfl ?_
    refine WS.bipush at_49 own_cb_8 rfl ?_
    refine WS.iushr at_51 rfl ?_
    refine WS.sipush at_52 own_cs_255 rfl ?_
    refine WS.iand at_55 rfl ?_
    refine WS.i2c at_56 rfl ?_
    refine WS.istore at_57 (Put.s (Put.s (Put.s (Put.s (Put.s (Put.s (Put.s (Put.s (Put.s Put.z))))))))) rfl rfl rfl ?_
    refine WS.iloadN at_59 rfl rfl ?_
    refine WS.bipush at_60 own_cb_16 rfl ?_
    refine WS.iushr at_62 rfl ?_
    refine WS.sipush at_63 own_cs_255 rfl ?_
    refine WS.iand at_66 rfl ?_
    refine WS.i2c at_67 rfl ?_
    refine WS.istore at_68 (Put.s (Put.s (Put.s (Put.s (Put.s (Put.s (Put.s (Put.s (Put.s (Put.s Put.z)))))))))) rfl rfl rfl ?_
    refine WS.goto at_70 (by decide) rfl ?_
    exact own_j95 l Z a0 hw z i0 i1 i2 i3 i4 la _ _ lb _ _ (own_two p1 p2) (own_two q1 q2) (own_c16 (own_and _)) (own_c16 (own_and _)) (own_c16 (own_and _)) (own_c16 (own_and _)) hh hcw r0 r1 r2 CS hz S0 S1 S2 e0 e1 e2 h01 h02 h12
theorem own_ef0 (m : MethodId) (i0 : Int32) (i1 : Int32) (i2 : Int32) (i3 : Int32) (i4 : Int32) : entryFrame m #[.int i0, .int i1, .int i2, .int i3, .int i4] maxLocals = mkF m 0 #[.val (.int i0), .val (.int i1), .val (.int i2), .val (.int i3), .val (.int i4), .unset, .unset, .unset, .unset, .unset, .unset, .unset, .unset, .unset, .unset, .unset, .unset, .unset, .unset, .unset] [] := by first | (simp [entryFrame, mkF, argsToLocals, Value.category, maxLocals]; done) | rfl
theorem comes_1 {Post : Tables → Env → Array Value → State → Outcome → State → Prop} (hpost : ∀ tb e args s v u, (limb_1_1.after args s (.returned v) u = true ∧ limb_1_2.after args s (.returned v) u = true ∧ True) → Jvm.D.FramedW s (.returned v) u (Jvm.fieldLocs frame_1_writes args s ++ Jvm.arrayLocs frame_1_arrays args s ++ Jvm.staticLocs frame_1_statics s) 32 3200 → Post tb e args s (.returned v) u) :
    ArmFor flags0 classFile x code maxLocals ret World_1 tables_1 room_1 Calls_1 rest_1 Pre_1 Post := by
  intro l hfl _ _ p e ha hc hk s m args below hf hA hF happ hP
  obtain ⟨hcalls, hrest, hpre⟩ := hP
  obtain ⟨-, -, -, hnamed, -, -, -, hat⟩ := (Spec.applies_iff hf).mp happ
  obtain ⟨hg, hn⟩ := and_e (Cond.before_iff.mp (show (Jvm.Cond.and given_1 narrow_1).before args s = true from hpre))
  obtain ⟨g0, t0⟩ := and_e hg
  obtain ⟨k0, t1⟩ := and_e t0
  obtain ⟨k1, t2⟩ := and_e t1
  obtain ⟨k2, t3⟩ := and_e t2
  obtain ⟨k3, t4⟩ := and_e t3
  obtain ⟨w0, w1, w2, w3, w4, rfl⟩ : ∃ w0 w1 w2 w3 w4 : Value, args = #[w0, w1, w2, w3, w4] := by
    have hs : args.size = 5 := by simpa [Cond.value, given_1] using g0
    obtain ⟨L⟩ := args
    match L, hs with
    | [w0, w1, w2, w3, w4], _ => exact ⟨w0, w1, w2, w3, w4, rfl⟩
  have hw := fun d (hd : d ∈ tables_1) => atoms_spec (ws := Jvm.Cond.code x code maxLocals ret :: tables_1) hat d (List.mem_cons_of_mem _ hd)
  obtain ⟨i0, e0⟩ := is_v k0
  obtain rfl : w0 = (.int i0) := Option.some.inj e0
  obtain ⟨i1, e1⟩ := is_v k1
  obtain rfl : w1 = (.int i1) := Option.some.inj e1
  obtain ⟨i2, e2⟩ := is_v k2
  obtain rfl : w2 = (.int i2) := Option.some.inj e2
  obtain ⟨i3, e3⟩ := is_v k3
  obtain rfl : w3 = (.int i3) := Option.some.inj e3
  obtain ⟨i4, e4⟩ := is_v t4
  obtain rfl : w4 = (.int i4) := Option.some.inj e4
  obtain ⟨j0, n1⟩ := and_e hn
  obtain ⟨j1, n2⟩ := and_e n1
  obtain ⟨j2, n3⟩ := and_e n2
  obtain ⟨j3, n4⟩ := and_e n3
  obtain ⟨j4, j5⟩ := and_e n4
  obtain ⟨r2, v2⟩ := exa_v j0
  obtain ⟨r1, v1⟩ := exa_v j1
  obtain ⟨r0, v0⟩ := exa_v j2
  have S2 : Sta s s.heap own_E "INVALID" own_Ed (.ref r2) := Sta.start v2 (Or.inr ⟨(hw _ (List.mem_of_getElem? (i := 49) rfl)), (hw _ (List.mem_of_getElem? (i := 50) rfl))⟩)
  have S1 : Sta s s.heap own_E "TOO_LONG" own_Ed (.ref r1) := Sta.start v1 (Or.inr ⟨(hw _ (List.mem_of_getElem? (i := 49) rfl)), (hw _ (List.mem_of_getElem? (i := 69) rfl))⟩)
  have S0 : Sta s s.heap own_E "REQUIRED" own_Ed (.ref r0) := Sta.start v0 (Or.inr ⟨(hw _ (List.mem_of_getElem? (i := 49) rfl)), (hw _ (List.mem_of_getElem? (i := 88) rfl))⟩)
  have E2 : Exa s s.heap r2 own_E := Exa.start v2 j0
  have E1 : Exa s s.heap r1 own_E := Exa.start v1 j1
  have E0 : Exa s s.heap r0 own_E := Exa.start v0 j2
  have f2 := own_eqi j3
  have f0 := own_eqi j4
  have f1 := own_eqi j5
  rw [fld_at v2] at f2
  rw [fld_at v0] at f0
  rw [fld_at v1] at f1
  have h01 : r0 ≠ r1 := by
    rintro rfl
    rw [f0] at f1
    exact absurd f1 (by decide)
  have h02 : r0 ≠ r2 := by
    rintro rfl
    rw [f0] at f2
    exact absurd f2 (by decide)
  have h12 : r1 ≠ r2 := by
    rintro rfl
    rw [f1] at f2
    exact absurd f2 (by decide)
  obtain ⟨m0, u1⟩ := and_e (Cond.before_iff.mp (show rest_1_c.before _ s = true from hrest))
  obtain ⟨m1, u2⟩ := and_e u1
  obtain ⟨m2, u3⟩ := and_e u2
  obtain ⟨z, ez⟩ := is_v m1
  have CS : Sta s s.heap own_S "COMPACT_STRINGS" "Z" (.int z) := Sta.start ez (Or.inl (Cond.before_iff.mpr m0))
  have hcw := Cond.before_iff.mpr m2
  have hz : z ≠ 0 := by
    rintro rfl
    simp [Cond.before, Cond.holds, Cond.value, ez, Term.int_eval] at hcw
  have hh : Jvm.Lit.constHeld s own_L 19 := hcalls.1 (own_L, 19) (by simp [consts_1, own_L])
  obtain ⟨n, o, h1, h2, h3, _, L, rfl, ⟨rfl, N⟩, hq⟩ := metS (V := fun _ vm => IB s vm []) (ws := tables_1) (y := x) (B' := B0) (as' := #[.int i0, .int i1, .int i2, .int i3, .int i4]) own_pf0 rfl rfl (fun m => own_ef0 m i0 i1 i2 i3 i4) (own_law l s _ hw i0 i1 i2 i3 i4 z hh hcw r0 r1 r2 CS hz S0 S1 S2 E0 E1 E2 h01 h02 h12) p e ha hc hk s m _ below hf ((Spec.applies_iff_loose hf).mp happ).1 ⟨rfl, State.Warmed39.refl s, rfl, IB.start⟩ trivial
  refine ⟨n, _, h1, h2, h3, hpost _ _ _ _ _ _ ⟨Cond.after_iff.mpr rfl, Cond.after_iff.mpr (eq_i res_at (Term.int_eval (1)) rfl), trivial⟩ ⟨hq.1, hq.2.1, hq.2.2.1, (hq.2.2.2.sift fun y hy => Or.inr (N y hy)).mono (by decide) (by decide)⟩⟩
theorem main_1_1 : Claimed_1_1 := comes_1 fun _ _ _ _ _ _ h hF => ⟨h.1, hF⟩
theorem main_1_2 : Claimed_1_2 := comes_1 fun _ _ _ _ _ _ h hF => ⟨h.2.1, hF⟩
end Jvm.Pilot.@@N@@
namespace Jvm.Pilot.@@N@@
open Jvm Jvm.ClassFile Sem Op Lib Jvm.Free Jvm.Stand Jvm.Pilot.@@N@@.Jvm.D
/-! MADE BY PROGRAM (witnessworld.py) out of the Statement's table words and the real class files: 24 classes; the members and pool entries that the words name. The judged class is class 1, her method 3. -/
namespace start1
open Jvm.ClassFile
def u (s : String) : CpInfo := .utf8 (stringToUtf16 s)
/-- a pool by its gaps: so many unusable entries, then the entry; so many at the end -/
def gap : Nat → List CpInfo → List CpInfo
  | 0, r => r
  | n + 1, r => .unusable :: gap n r
def poolList (es : List (Nat × CpInfo)) (last : Nat) : List CpInfo := es.foldr (fun e r => gap e.1 (e.2 :: r)) (gap last [])
def pool (es : List (Nat × CpInfo)) (last : Nat) : Array CpInfo := ⟨poolList es last⟩
def fileOf (pool : Array CpInfo) (this : Nat) (attrs : Array Attribute := #[]) (ms : Array MethodInfo := #[]) (fl : Nat := 33) (sup : Nat := 0) (ifs : Array Nat := #[]) (fds : Array FieldInfo := #[]) : ClassFile where
  minorVersion := 0
  majorVersion := 65
  constantPool := pool
  accessFlags := fl
  thisClass := this
  superClass := sup
  interfaces := ifs
  fields := fds
  methods := ms
  attributes := attrs
def plain (name : String) (sup : Option ClassId) : Class where
  name := name
  kind := .ordinary
  loader := none
  accessFlags := 33
  super := sup
  interfaces := #[]
  cf := none
  fields := #[]
  methods := #[]
  instanceTypes := #[]
  staticTypes := #[]
  resolved := #[]
  callSites := []
  init := .initialized
  statics := none
  mirror := none

def pool0 : Array CpInfo := pool [(5, u "<init>"), (0, u "()V"), (1, .class_ 10), (1, u "java/lang/Object")] 113

def k0c0 : Code := { maxStack := 0, maxLocals := 1, code := object_method_1_code, exceptionTable := #[], attributes := #[] }
def k0m0 : Method := { name := "<init>", desc := "()V", sig := { parameters := [], returnType := none }, accessFlags := 1, code := some k0c0 }
/-- java/lang/Object -/
def k0 : Class := { plain "java/lang/Object" none with
  accessFlags := 33
  interfaces := #[]
  cf := some (fileOf pool0 8 #[] #[{ accessFlags := 1, nameIndex := 5, descriptorIndex := 6, attributes := #[] }] 33 0 #[] #[])
  fields := #[]
  methods := #[k0m0]
  instanceTypes := #[]
  staticTypes := #[]
  resolved := Array.replicate 124 none
  statics := none }

def pool1 : Array CpInfo := pool [(2, .class_ 4), (1, u "java/lang/Object"), (0, u "<init>"), (0, u "()V"), (0, .fieldref 8 9), (0, .class_ 10), (0, .nameAndType 11 12), (0, u "com/example/domaine/domaine/fields/FieldError"), (0, u "REQUIRED"), (0, u "Lcom/example/domaine/domaine/fields/FieldError;"), (0, .fieldref 8 14), (0, .nameAndType 15 12), (0, u "TOO_LONG"), (0, .fieldref 8 17), (0, .nameAndType 18 12), (0, u "INVALID"), (0, .string 20), (0, u ""), (0, .methodref 22 23), (0, .class_ 24), (0, .nameAndType 25 26), (0, u "java/lang/String"), (0, u "valueOf"), (0, u "(C)Ljava/lang/String;"), (0, .methodref 22 28), (0, .nameAndType 5 29), (0, u "([C)V"), (0, .methodref 31 32), (0, .class_ 33), (0, .nameAndType 34 35), (0, u "java/lang/Math"), (0, u "min"), (0, u "(II)I"), (0, .integer 2147483647), (0, .methodref 38 39), (0, .class_ 40), (0, .nameAndType 41 42), (0, u "com/example/domaine/domaine/fields/FieldProblemEqualsPinLaw"), (0, u "mk"), (0, u "(ICC)Ljava/lang/String;"), (0, .class_ 44), (0, u "com/example/domaine/domaine/fields/FieldProblem"), (0, .methodref 38 46), (0, .nameAndType 47 48), (0, u "pick"), (0, u "(I)Lcom/example/domaine/domaine/fields/FieldError;"), (0, .methodref 43 50), (0, .nameAndType 5 51), (0, u "(Ljava/lang/String;Lcom/example/domaine/domaine/fields/FieldError;)V"), (0, .methodref 43 53), (0, .nameAndType 54 55), (0, u "equals"), (0, u "(Ljava/lang/Object;)Z"), (3, u "law"), (0, u "(IIIII)Z")] 2

def k1m0 : Method := { name := "<init>", desc := "()V", sig := { parameters := [], returnType := none }, accessFlags := 2, code := none }
def k1c1 : Code := { maxStack := 2, maxLocals := 1, code := method_2_code, exceptionTable := #[], attributes := #[] }
def k1m1 : Method := { name := "pick", desc := "(I)Lcom/example/domaine/domaine/fields/FieldError;", sig := { parameters := [.int], returnType := some (.object "com/example/domaine/domaine/fields/FieldError") }, accessFlags := 10, code := some k1c1 }
def k1c2 : Code := { maxStack := 6, maxLocals := 3, code := method_3_code, exceptionTable := #[], attributes := #[] }
def k1m2 : Method := { name := "mk", desc := "(ICC)Ljava/lang/String;", sig := { parameters := [.int, .char, .char], returnType := some (.object "java/lang/String") }, accessFlags := 10, code := some k1c2 }
def k1c3 : Code := { maxStack := 4, maxLocals := 20, code := code, exceptionTable := #[], attributes := #[] }
def k1m3 : Method := { name := "law", desc := "(IIIII)Z", sig := { parameters := [.int, .int, .int, .int, .int], returnType := some .boolean }, accessFlags := 9, code := some k1c3 }
/-- com/example/domaine/domaine/fields/FieldProblemEqualsPinLaw -/
def k1 : Class := { plain "com/example/domaine/domaine/fields/FieldProblemEqualsPinLaw" (some 0) with
  accessFlags := 49
  interfaces := #[]
  cf := some (fileOf pool1 38 #[] #[{ accessFlags := 2, nameIndex := 5, descriptorIndex := 6, attributes := #[] }, { accessFlags := 10, nameIndex := 47, descriptorIndex := 48, attributes := #[] }, { accessFlags := 10, nameIndex := 41, descriptorIndex := 42, attributes := #[] }, { accessFlags := 9, nameIndex := 59, descriptorIndex := 60, attributes := #[] }] 49 2 #[] #[])
  fields := #[]
  methods := #[k1m0, k1m1, k1m2, k1m3]
  instanceTypes := #[]
  staticTypes := #[]
  resolved := Array.replicate 63 none
  statics := none }

def pool2 : Array CpInfo := pool [(1, .class_ 2), (0, u "java/lang/Math"), (1, .class_ 6), (1, u "java/lang/Object"), (0, u "<init>"), (0, u "()V"), (89, .class_ 100), (1, u "java/lang/Math$RandomNumberGeneratorHolder"), (71, u "negativeZeroFloatBits"), (0, u "J"), (2, u "negativeZeroDoubleBits"), (24, u "min"), (43, u "$assertionsDisabled"), (0, u "Z"), (88, u "(II)I"), (2, u "twoToTheDoubleScaleDown"), (0, u "D"), (4, u "twoToTheDoubleScaleUp"), (9, u "E"), (3, u "PI"), (2, u "TAU"), (2, u "DEGREES_TO_RADIANS"), (0, u "RADIANS_TO_DEGREES")] 94

def k2m0 : Method := { name := "<init>", desc := "()V", sig := { parameters := [], returnType := none }, accessFlags := 2, code := none }
def k2c1 : Code := { maxStack := 2, maxLocals := 2, code := jdk_29_method_69_code, exceptionTable := #[], attributes := #[] }
def k2m1 : Method := { name := "min", desc := "(II)I", sig := { parameters := [.int, .int], returnType := some .int }, accessFlags := 9, code := some k2c1 }
/-- java/lang/Math -/
def k2 : Class := { plain "java/lang/Math" (some 0) with
  accessFlags := 49
  interfaces := #[]
  cf := some (fileOf pool2 1 #[.nestMembers #[98]] #[{ accessFlags := 2, nameIndex := 7, descriptorIndex := 8, attributes := #[] }, { accessFlags := 9, nameIndex := 201, descriptorIndex := 335, attributes := #[] }] 49 4 #[] #[{ accessFlags := 25, nameIndex := 354, descriptorIndex := 339, attributes := #[] }, { accessFlags := 25, nameIndex := 358, descriptorIndex := 339, attributes := #[] }, { accessFlags := 25, nameIndex := 361, descriptorIndex := 339, attributes := #[] }, { accessFlags := 26, nameIndex := 364, descriptorIndex := 339, attributes := #[] }, { accessFlags := 26, nameIndex := 365, descriptorIndex := 339, attributes := #[] }, { accessFlags := 26, nameIndex := 172, descriptorIndex := 173, attributes := #[] }, { accessFlags := 26, nameIndex := 176, descriptorIndex := 173, attributes := #[] }, { accessFlags := 8, nameIndex := 344, descriptorIndex := 339, attributes := #[] }, { accessFlags := 8, nameIndex := 338, descriptorIndex := 339, attributes := #[] }, { accessFlags := 4120, nameIndex := 245, descriptorIndex := 246, attributes := #[] }])
  fields := #[{ name := "E", type := .double, accessFlags := 25, slot := 0, constantValue := 0 }, { name := "PI", type := .double, accessFlags := 25, slot := 1, constantValue := 0 }, { name := "TAU", type := .double, accessFlags := 25, slot := 2, constantValue := 0 }, { name := "DEGREES_TO_RADIANS", type := .double, accessFlags := 26, slot := 3, constantValue := 0 }, { name := "RADIANS_TO_DEGREES", type := .double, accessFlags := 26, slot := 4, constantValue := 0 }, { name := "negativeZeroFloatBits", type := .long, accessFlags := 26, slot := 5, constantValue := 0 }, { name := "negativeZeroDoubleBits", type := .long, accessFlags := 26, slot := 6, constantValue := 0 }, { name := "twoToTheDoubleScaleUp", type := .double, accessFlags := 8, slot := 7, constantValue := 0 }, { name := "twoToTheDoubleScaleDown", type := .double, accessFlags := 8, slot := 8, constantValue := 0 }, { name := "$assertionsDisabled", type := .boolean, accessFlags := 4120, slot := 9, constantValue := 0 }]
  methods := #[k2m0, k2m1]
  instanceTypes := #[]
  staticTypes := #[.double, .double, .double, .double, .double, .long, .long, .double, .double, .boolean]
  resolved := Array.replicate 460 none
  statics := none }

def pool3 : Array CpInfo := pool [(1, .class_ 2), (0, u "java/io/Serializable"), (0, .class_ 4), (0, u "java/lang/Object")] 2

/-- java/io/Serializable -/
def k3 : Class := { plain "java/io/Serializable" (some 0) with
  accessFlags := 1537
  interfaces := #[]
  cf := some (fileOf pool3 1 #[] #[] 1537 3 #[] #[])
  fields := #[]
  methods := #[]
  instanceTypes := #[]
  staticTypes := #[]
  resolved := Array.replicate 7 none
  statics := none }

def pool4 : Array CpInfo := pool [(1, .class_ 2), (0, u "java/lang/Comparable"), (0, .class_ 4), (0, u "java/lang/Object")] 7

/-- java/lang/Comparable -/
def k4 : Class := { plain "java/lang/Comparable" (some 0) with
  accessFlags := 1537
  interfaces := #[]
  cf := some (fileOf pool4 1 #[] #[] 1537 3 #[] #[])
  fields := #[]
  methods := #[]
  instanceTypes := #[]
  staticTypes := #[]
  resolved := Array.replicate 12 none
  statics := none }

def pool5 : Array CpInfo := pool [(2, .class_ 4), (1, u "java/lang/CharSequence"), (42, .class_ 48), (0, u "java/lang/CharSequence$1CodePointIterator"), (10, .class_ 60), (0, u "java/lang/CharSequence$1CharIterator"), (5, .class_ 67), (0, u "java/lang/Object")] 63

/-- java/lang/CharSequence -/
def k5 : Class := { plain "java/lang/CharSequence" (some 0) with
  accessFlags := 1537
  interfaces := #[]
  cf := some (fileOf pool5 2 #[.nestMembers #[47, 59]] #[] 1537 66 #[] #[])
  fields := #[]
  methods := #[]
  instanceTypes := #[]
  staticTypes := #[]
  resolved := Array.replicate 131 none
  statics := none }

def pool6 : Array CpInfo := pool [(1, .class_ 2), (0, u "java/lang/constant/Constable"), (0, .class_ 4), (0, u "java/lang/Object")] 6

/-- java/lang/constant/Constable -/
def k6 : Class := { plain "java/lang/constant/Constable" (some 0) with
  accessFlags := 1537
  interfaces := #[]
  cf := some (fileOf pool6 1 #[] #[] 1537 3 #[] #[])
  fields := #[]
  methods := #[]
  instanceTypes := #[]
  staticTypes := #[]
  resolved := Array.replicate 11 none
  statics := none }

def pool7 : Array CpInfo := pool [(1, .class_ 2), (0, u "java/lang/constant/ConstantDesc"), (0, .class_ 4), (0, u "java/lang/Object")] 32

/-- java/lang/constant/ConstantDesc -/
def k7 : Class := { plain "java/lang/constant/ConstantDesc" (some 0) with
  accessFlags := 1537
  interfaces := #[]
  cf := some (fileOf pool7 1 #[] #[] 1537 3 #[] #[])
  fields := #[]
  methods := #[]
  instanceTypes := #[]
  staticTypes := #[]
  resolved := Array.replicate 37 none
  statics := none }

def pool8 : Array CpInfo := pool [(1, .methodref 2 3), (0, .class_ 4), (0, .nameAndType 5 6), (0, u "java/lang/Object"), (0, u "<init>"), (0, u "()V"), (2, .fieldref 10 11), (0, .class_ 12), (0, .nameAndType 13 14), (0, u "java/lang/String"), (0, u "value"), (0, u "[B"), (0, .fieldref 10 16), (0, .nameAndType 17 18), (0, u "coder"), (0, u "B"), (2, u "hash"), (0, u "I"), (2, u "hashIsZero"), (0, u "Z"), (0, .methodref 10 28), (0, .nameAndType 5 29), (0, u "([CIILjava/lang/Void;)V"), (8, .fieldref 10 39), (0, .nameAndType 40 26), (0, u "COMPACT_STRINGS"), (1, .class_ 44), (1, u "java/lang/StringUTF16"), (0, u "compress"), (1, .methodref 42 48), (0, .nameAndType 49 50), (0, u "coderFromArrayLen"), (0, u "([BI)B"), (2, u "toBytes"), (53, .class_ 109), (1, u "java/lang/StringLatin1"), (67, .methodref 42 178), (0, .nameAndType 45 179), (0, u "([CII)[B"), (29, .methodref 10 210), (0, .nameAndType 5 211), (0, u "([BB)V"), (157, u "(C)Z"), (171, .methodref 107 542), (0, .nameAndType 543 544), (0, u "equals"), (0, u "([B[B)Z"), (28, u "(Ljava/lang/Object;)Z"), (1, .class_ 576), (0, u "java/lang/CharSequence"), (22, u "CASE_INSENSITIVE_ORDER"), (0, u "Ljava/util/Comparator;"), (181, u "valueOf"), (0, u "(C)Ljava/lang/String;"), (226, u "([C)V"), (4, .methodref 107 1016), (0, .nameAndType 1017 369), (0, u "canEncode"), (0, .methodref 107 1019), (0, .nameAndType 53 1020), (0, u "(C)[B"), (80, u "serialPersistentFields"), (0, u "[Ljava/io/ObjectStreamField;"), (0, .class_ 1104), (0, u "java/lang/String$CaseInsensitiveComparator"), (1, .class_ 1107), (0, u "java/io/Serializable"), (0, .class_ 1109), (0, u "java/lang/Comparable"), (0, .class_ 1111), (0, u "java/lang/constant/Constable"), (0, .class_ 1113), (0, u "java/lang/constant/ConstantDesc"), (2, u "serialVersionUID"), (0, u "J"), (3, u "REPL"), (0, u "C"), (2, u "LATIN1"), (1, u "UTF16")] 323

def k8m0 : Method := { name := "<init>", desc := "()V", sig := { parameters := [], returnType := none }, accessFlags := 1, code := none }
def k8c1 : Code := { maxStack := 5, maxLocals := 2, code := jdk_42_method_3_code, exceptionTable := #[], attributes := #[] }
def k8m1 : Method := { name := "<init>", desc := "([C)V", sig := { parameters := [(.array .char)], returnType := none }, accessFlags := 1, code := some k8c1 }
def k8c2 : Code := { maxStack := 2, maxLocals := 3, code := jdk_42_method_66_code, exceptionTable := #[], attributes := #[] }
def k8m2 : Method := { name := "equals", desc := "(Ljava/lang/Object;)Z", sig := { parameters := [(.object "java/lang/Object")], returnType := some .boolean }, accessFlags := 1, code := some k8c2 }
def k8c3 : Code := { maxStack := 4, maxLocals := 1, code := jdk_42_method_139_code, exceptionTable := #[], attributes := #[] }
def k8m3 : Method := { name := "valueOf", desc := "(C)Ljava/lang/String;", sig := { parameters := [.char], returnType := some (.object "java/lang/String") }, accessFlags := 9, code := some k8c3 }
def k8c4 : Code := { maxStack := 4, maxLocals := 6, code := jdk_42_method_149_code, exceptionTable := #[], attributes := #[] }
def k8m4 : Method := { name := "<init>", desc := "([CIILjava/lang/Void;)V", sig := { parameters := [(.array .char), .int, .int, (.object "java/lang/Void")], returnType := none }, accessFlags := 2, code := some k8c4 }
def k8c5 : Code := { maxStack := 2, maxLocals := 3, code := jdk_42_method_151_code, exceptionTable := #[], attributes := #[] }
def k8m5 : Method := { name := "<init>", desc := "([BB)V", sig := { parameters := [(.array .byte), .byte], returnType := none }, accessFlags := 0, code := some k8c5 }
/-- java/lang/String -/
def k8 : Class := { plain "java/lang/String" (some 0) with
  accessFlags := 49
  interfaces := #[3, 4, 5, 6, 7]
  cf := some (fileOf pool8 10 #[.nestMembers #[1103]] #[{ accessFlags := 1, nameIndex := 5, descriptorIndex := 6, attributes := #[] }, { accessFlags := 1, nameIndex := 5, descriptorIndex := 1010, attributes := #[] }, { accessFlags := 1, nameIndex := 543, descriptorIndex := 573, attributes := #[] }, { accessFlags := 9, nameIndex := 782, descriptorIndex := 783, attributes := #[] }, { accessFlags := 2, nameIndex := 5, descriptorIndex := 29, attributes := #[] }, { accessFlags := 0, nameIndex := 5, descriptorIndex := 211, attributes := #[] }] 49 2 #[1106, 1108, 575, 1110, 1112] #[{ accessFlags := 18, nameIndex := 13, descriptorIndex := 14, attributes := #[] }, { accessFlags := 18, nameIndex := 17, descriptorIndex := 18, attributes := #[] }, { accessFlags := 2, nameIndex := 21, descriptorIndex := 22, attributes := #[] }, { accessFlags := 2, nameIndex := 25, descriptorIndex := 26, attributes := #[] }, { accessFlags := 26, nameIndex := 1116, descriptorIndex := 1117, attributes := #[] }, { accessFlags := 24, nameIndex := 40, descriptorIndex := 26, attributes := #[] }, { accessFlags := 26, nameIndex := 1101, descriptorIndex := 1102, attributes := #[] }, { accessFlags := 26, nameIndex := 1121, descriptorIndex := 1122, attributes := #[] }, { accessFlags := 25, nameIndex := 599, descriptorIndex := 600, attributes := #[] }, { accessFlags := 24, nameIndex := 1125, descriptorIndex := 18, attributes := #[] }, { accessFlags := 24, nameIndex := 1127, descriptorIndex := 18, attributes := #[] }])
  fields := #[{ name := "value", type := (.array .byte), accessFlags := 18, slot := 0, constantValue := 0 }, { name := "coder", type := .byte, accessFlags := 18, slot := 1, constantValue := 0 }, { name := "hash", type := .int, accessFlags := 2, slot := 2, constantValue := 0 }, { name := "hashIsZero", type := .boolean, accessFlags := 2, slot := 3, constantValue := 0 }, { name := "serialVersionUID", type := .long, accessFlags := 26, slot := 0, constantValue := 0 }, { name := "COMPACT_STRINGS", type := .boolean, accessFlags := 24, slot := 1, constantValue := 0 }, { name := "serialPersistentFields", type := (.array (.object "java/io/ObjectStreamField")), accessFlags := 26, slot := 2, constantValue := 0 }, { name := "REPL", type := .char, accessFlags := 26, slot := 3, constantValue := 0 }, { name := "CASE_INSENSITIVE_ORDER", type := (.object "java/util/Comparator"), accessFlags := 25, slot := 4, constantValue := 0 }, { name := "LATIN1", type := .byte, accessFlags := 24, slot := 5, constantValue := 0 }, { name := "UTF16", type := .byte, accessFlags := 24, slot := 6, constantValue := 0 }]
  methods := #[k8m0, k8m1, k8m2, k8m3, k8m4, k8m5]
  instanceTypes := #[(.array .byte), .byte, .int, .boolean]
  staticTypes := #[.long, .boolean, (.array (.object "java/io/ObjectStreamField")), .char, (.object "java/util/Comparator"), .byte, .byte]
  resolved := Array.replicate 1451 none
  statics := some 0 }

def pool9 : Array CpInfo := pool [(6, .class_ 8), (1, u "java/lang/Object"), (0, u "<init>"), (0, u "()V"), (1, .class_ 14), (1, u "java/lang/StringUTF16"), (31, u "$assertionsDisabled"), (0, u "Z"), (13, u "HI_BYTE_SHIFT"), (0, u "I"), (2, u "LO_BYTE_SHIFT"), (49, .methodref 12 116), (0, .nameAndType 117 118), (0, u "compress"), (0, u "([CI[BII)I"), (3, u "([CII)[B"), (138, u "coderFromArrayLen"), (0, u "([BI)B"), (106, .class_ 371), (1, u "java/lang/StringUTF16$LinesSpliterator"), (58, u "MAX_LENGTH"), (196, .class_ 628), (0, u "java/lang/StringUTF16$CodePointsSpliterator"), (0, .class_ 630), (0, u "java/lang/StringUTF16$CharsSpliterator")] 4

def k9m0 : Method := { name := "<init>", desc := "()V", sig := { parameters := [], returnType := none }, accessFlags := 0, code := none }
def k9c1 : Code := { maxStack := 2, maxLocals := 2, code := jdk_52_method_15_code, exceptionTable := #[], attributes := #[] }
def k9m1 : Method := { name := "coderFromArrayLen", desc := "([BI)B", sig := { parameters := [(.array .byte), .int], returnType := some .byte }, accessFlags := 8, code := some k9c1 }
def k9c2 : Code := { maxStack := 5, maxLocals := 6, code := jdk_52_method_16_code, exceptionTable := #[], attributes := #[] }
def k9m2 : Method := { name := "compress", desc := "([CII)[B", sig := { parameters := [(.array .char), .int, .int], returnType := some (.array .byte) }, accessFlags := 9, code := some k9c2 }
def k9c3 : Code := { maxStack := 3, maxLocals := 7, code := jdk_52_method_21_code, exceptionTable := #[], attributes := #[] }
def k9m3 : Method := { name := "compress", desc := "([CI[BII)I", sig := { parameters := [(.array .char), .int, (.array .byte), .int, .int], returnType := some .int }, accessFlags := 9, code := some k9c3 }
/-- java/lang/StringUTF16 -/
def k9 : Class := { plain "java/lang/StringUTF16" (some 0) with
  accessFlags := 48
  interfaces := #[]
  cf := some (fileOf pool9 12 #[.nestMembers #[627, 629, 369]] #[{ accessFlags := 0, nameIndex := 9, descriptorIndex := 10, attributes := #[] }, { accessFlags := 8, nameIndex := 261, descriptorIndex := 262, attributes := #[] }, { accessFlags := 9, nameIndex := 117, descriptorIndex := 122, attributes := #[] }, { accessFlags := 9, nameIndex := 117, descriptorIndex := 118, attributes := #[] }] 48 6 #[] #[{ accessFlags := 26, nameIndex := 61, descriptorIndex := 62, attributes := #[] }, { accessFlags := 26, nameIndex := 65, descriptorIndex := 62, attributes := #[] }, { accessFlags := 24, nameIndex := 430, descriptorIndex := 62, attributes := #[] }, { accessFlags := 4120, nameIndex := 46, descriptorIndex := 47, attributes := #[] }])
  fields := #[{ name := "HI_BYTE_SHIFT", type := .int, accessFlags := 26, slot := 0, constantValue := 0 }, { name := "LO_BYTE_SHIFT", type := .int, accessFlags := 26, slot := 1, constantValue := 0 }, { name := "MAX_LENGTH", type := .int, accessFlags := 24, slot := 2, constantValue := 0 }, { name := "$assertionsDisabled", type := .boolean, accessFlags := 4120, slot := 3, constantValue := 0 }]
  methods := #[k9m0, k9m1, k9m2, k9m3]
  instanceTypes := #[]
  staticTypes := #[.int, .int, .int, .boolean]
  resolved := Array.replicate 635 none
  statics := none }

def pool10 : Array CpInfo := pool [(1, .methodref 2 3), (0, .class_ 4), (0, .nameAndType 5 6), (0, u "java/lang/Object"), (0, u "<init>"), (0, u "()V"), (0, .string 8), (0, u "field"), (0, .methodref 10 11), (0, .class_ 12), (0, .nameAndType 13 14), (0, u "java/util/Objects"), (0, u "requireNonNull"), (0, u "(Ljava/lang/Object;Ljava/lang/String;)Ljava/lang/Object;"), (0, .class_ 16), (0, u "java/lang/String"), (0, .fieldref 18 19), (0, .class_ 20), (0, .nameAndType 8 21), (0, u "com/example/domaine/domaine/fields/FieldProblem"), (0, u "Ljava/lang/String;"), (0, .string 23), (0, u "error"), (0, .class_ 25), (0, u "com/example/domaine/domaine/fields/FieldError"), (0, .fieldref 18 27), (0, .nameAndType 23 28), (0, u "Lcom/example/domaine/domaine/fields/FieldError;"), (0, .methodref 15 30), (0, .nameAndType 31 32), (0, u "equals"), (0, u "(Ljava/lang/Object;)Z"), (12, u "(Ljava/lang/String;Lcom/example/domaine/domaine/fields/FieldError;)V")] 25

def k10c0 : Code := { maxStack := 3, maxLocals := 3, code := prog_36_method_1_code, exceptionTable := #[], attributes := #[] }
def k10m0 : Method := { name := "<init>", desc := "(Ljava/lang/String;Lcom/example/domaine/domaine/fields/FieldError;)V", sig := { parameters := [(.object "java/lang/String"), (.object "com/example/domaine/domaine/fields/FieldError")], returnType := none }, accessFlags := 1, code := some k10c0 }
def k10c1 : Code := { maxStack := 2, maxLocals := 2, code := prog_36_method_4_code, exceptionTable := #[], attributes := #[] }
def k10m1 : Method := { name := "equals", desc := "(Ljava/lang/Object;)Z", sig := { parameters := [(.object "java/lang/Object")], returnType := some .boolean }, accessFlags := 1, code := some k10c1 }
/-- com/example/domaine/domaine/fields/FieldProblem -/
def k10 : Class := { plain "com/example/domaine/domaine/fields/FieldProblem" (some 0) with
  accessFlags := 49
  interfaces := #[]
  cf := some (fileOf pool10 18 #[] #[{ accessFlags := 1, nameIndex := 5, descriptorIndex := 45, attributes := #[] }, { accessFlags := 1, nameIndex := 31, descriptorIndex := 32, attributes := #[] }] 49 2 #[] #[{ accessFlags := 18, nameIndex := 8, descriptorIndex := 21, attributes := #[] }, { accessFlags := 18, nameIndex := 23, descriptorIndex := 28, attributes := #[] }])
  fields := #[{ name := "field", type := (.object "java/lang/String"), accessFlags := 18, slot := 0, constantValue := 0 }, { name := "error", type := (.object "com/example/domaine/domaine/fields/FieldError"), accessFlags := 18, slot := 1, constantValue := 0 }]
  methods := #[k10m0, k10m1]
  instanceTypes := #[(.object "java/lang/String"), (.object "com/example/domaine/domaine/fields/FieldError")]
  staticTypes := #[]
  resolved := Array.replicate 71 none
  statics := none }

def pool11 : Array CpInfo := pool [(2, .class_ 4), (1, u "java/lang/Enum"), (0, u "name"), (0, u "Ljava/lang/String;"), (2, u "ordinal"), (0, u "I"), (1, .class_ 14), (1, u "java/lang/Object"), (4, u "hash"), (86, .class_ 108), (1, u "java/lang/Enum$EnumDesc"), (2, .class_ 112), (0, u "java/lang/constant/Constable"), (0, .class_ 114), (0, u "java/lang/Comparable"), (0, .class_ 116), (0, u "java/io/Serializable")] 87

/-- java/lang/Enum -/
def k11 : Class := { plain "java/lang/Enum" (some 0) with
  accessFlags := 1057
  interfaces := #[6, 4, 3]
  cf := some (fileOf pool11 2 #[.nestMembers #[106]] #[] 1057 12 #[111, 113, 115] #[{ accessFlags := 18, nameIndex := 5, descriptorIndex := 6, attributes := #[] }, { accessFlags := 18, nameIndex := 9, descriptorIndex := 10, attributes := #[] }, { accessFlags := 2, nameIndex := 19, descriptorIndex := 10, attributes := #[] }])
  fields := #[{ name := "name", type := (.object "java/lang/String"), accessFlags := 18, slot := 0, constantValue := 0 }, { name := "ordinal", type := .int, accessFlags := 18, slot := 1, constantValue := 0 }, { name := "hash", type := .int, accessFlags := 2, slot := 2, constantValue := 0 }]
  methods := #[]
  instanceTypes := #[(.object "java/lang/String"), .int, .int]
  staticTypes := #[]
  resolved := Array.replicate 204 none
  statics := none }

def pool12 : Array CpInfo := pool [(1, .class_ 2), (0, u "com/example/domaine/domaine/fields/FieldError"), (2, u "REQUIRED"), (0, u "Lcom/example/domaine/domaine/fields/FieldError;"), (2, u "TOO_LONG"), (2, u "INVALID"), (2, u "$VALUES"), (0, u "[Lcom/example/domaine/domaine/fields/FieldError;"), (6, .class_ 25), (1, u "java/lang/Enum")] 25

/-- com/example/domaine/domaine/fields/FieldError -/
def k12 : Class := { plain "com/example/domaine/domaine/fields/FieldError" (some 11) with
  accessFlags := 16433
  interfaces := #[]
  cf := some (fileOf pool12 1 #[] #[] 16433 23 #[] #[{ accessFlags := 16409, nameIndex := 5, descriptorIndex := 6, attributes := #[] }, { accessFlags := 16409, nameIndex := 9, descriptorIndex := 6, attributes := #[] }, { accessFlags := 16409, nameIndex := 12, descriptorIndex := 6, attributes := #[] }, { accessFlags := 4122, nameIndex := 15, descriptorIndex := 16, attributes := #[] }])
  fields := #[{ name := "REQUIRED", type := (.object "com/example/domaine/domaine/fields/FieldError"), accessFlags := 16409, slot := 0, constantValue := 0 }, { name := "TOO_LONG", type := (.object "com/example/domaine/domaine/fields/FieldError"), accessFlags := 16409, slot := 1, constantValue := 0 }, { name := "INVALID", type := (.object "com/example/domaine/domaine/fields/FieldError"), accessFlags := 16409, slot := 2, constantValue := 0 }, { name := "$VALUES", type := (.array (.object "com/example/domaine/domaine/fields/FieldError")), accessFlags := 4122, slot := 3, constantValue := 0 }]
  methods := #[]
  instanceTypes := #[(.object "java/lang/String"), .int, .int]
  staticTypes := #[(.object "com/example/domaine/domaine/fields/FieldError"), (.object "com/example/domaine/domaine/fields/FieldError"), (.object "com/example/domaine/domaine/fields/FieldError"), (.array (.object "com/example/domaine/domaine/fields/FieldError"))]
  resolved := Array.replicate 51 none
  statics := some 1 }

def pool13 : Array CpInfo := pool [(2, .class_ 4), (1, u "java/lang/Object"), (0, u "<init>"), (0, u "()V"), (35, .class_ 44), (1, u "java/util/Objects"), (0, u "requireNonNull"), (48, u "(Ljava/lang/Object;Ljava/lang/String;)Ljava/lang/Object;")] 89

def k13m0 : Method := { name := "<init>", desc := "()V", sig := { parameters := [], returnType := none }, accessFlags := 2, code := none }
def k13c1 : Code := { maxStack := 3, maxLocals := 2, code := jdk_31_method_11_code, exceptionTable := #[], attributes := #[] }
def k13m1 : Method := { name := "requireNonNull", desc := "(Ljava/lang/Object;Ljava/lang/String;)Ljava/lang/Object;", sig := { parameters := [(.object "java/lang/Object"), (.object "java/lang/String")], returnType := some (.object "java/lang/Object") }, accessFlags := 9, code := some k13c1 }
/-- java/util/Objects -/
def k13 : Class := { plain "java/util/Objects" (some 0) with
  accessFlags := 49
  interfaces := #[]
  cf := some (fileOf pool13 42 #[] #[{ accessFlags := 2, nameIndex := 5, descriptorIndex := 6, attributes := #[] }, { accessFlags := 9, nameIndex := 45, descriptorIndex := 94, attributes := #[] }] 49 2 #[] #[])
  fields := #[]
  methods := #[k13m0, k13m1]
  instanceTypes := #[]
  staticTypes := #[]
  resolved := Array.replicate 184 none
  statics := none }

def pool14 : Array CpInfo := pool [(4, .class_ 6), (1, u "java/lang/Object"), (0, u "<init>"), (0, u "()V"), (5, .class_ 16), (1, u "java/lang/StringLatin1"), (73, u "canEncode"), (14, u "(C)Z"), (15, u "$assertionsDisabled"), (0, u "Z"), (98, .class_ 223), (1, u "java/lang/StringLatin1$LinesSpliterator"), (57, u "equals"), (0, u "([B[B)Z"), (97, u "toBytes"), (1, u "(C)[B"), (7, .class_ 391), (0, u "java/lang/StringLatin1$CharsSpliterator")] 3

def k14m0 : Method := { name := "<init>", desc := "()V", sig := { parameters := [], returnType := none }, accessFlags := 0, code := none }
def k14c1 : Code := { maxStack := 2, maxLocals := 1, code := jdk_43_method_3_code, exceptionTable := #[], attributes := #[] }
def k14m1 : Method := { name := "canEncode", desc := "(C)Z", sig := { parameters := [.char], returnType := some .boolean }, accessFlags := 9, code := some k14c1 }
def k14c2 : Code := { maxStack := 3, maxLocals := 3, code := jdk_43_method_13_code, exceptionTable := #[], attributes := #[] }
def k14m2 : Method := { name := "equals", desc := "([B[B)Z", sig := { parameters := [(.array .byte), (.array .byte)], returnType := some .boolean }, accessFlags := 9, code := some k14c2 }
def k14c3 : Code := { maxStack := 4, maxLocals := 1, code := jdk_43_method_46_code, exceptionTable := #[], attributes := #[] }
def k14m3 : Method := { name := "toBytes", desc := "(C)[B", sig := { parameters := [.char], returnType := some (.array .byte) }, accessFlags := 9, code := some k14c3 }
/-- java/lang/StringLatin1 -/
def k14 : Class := { plain "java/lang/StringLatin1" (some 0) with
  accessFlags := 48
  interfaces := #[]
  cf := some (fileOf pool14 14 #[.nestMembers #[390, 221]] #[{ accessFlags := 0, nameIndex := 7, descriptorIndex := 8, attributes := #[] }, { accessFlags := 9, nameIndex := 90, descriptorIndex := 105, attributes := #[] }, { accessFlags := 9, nameIndex := 281, descriptorIndex := 282, attributes := #[] }, { accessFlags := 9, nameIndex := 380, descriptorIndex := 382, attributes := #[] }] 48 4 #[] #[{ accessFlags := 4120, nameIndex := 121, descriptorIndex := 122, attributes := #[] }])
  fields := #[{ name := "$assertionsDisabled", type := .boolean, accessFlags := 4120, slot := 0, constantValue := 0 }]
  methods := #[k14m0, k14m1, k14m2, k14m3]
  instanceTypes := #[]
  staticTypes := #[.boolean]
  resolved := Array.replicate 395 none
  statics := none }

def pool15 : Array CpInfo := pool [(2, .class_ 4), (1, u "java/lang/Object"), (0, u "<init>"), (0, u "()V"), (17, .class_ 26), (1, u "jdk/internal/util/Preconditions"), (28, .class_ 56), (0, u "jdk/internal/util/Preconditions$4"), (57, .class_ 115), (0, u "jdk/internal/util/Preconditions$1"), (7, u "SIOOBE_FORMATTER"), (0, u "Ljava/util/function/BiFunction;"), (0, .class_ 126), (0, u "jdk/internal/util/Preconditions$2"), (3, u "AIOOBE_FORMATTER"), (0, .class_ 132), (0, u "jdk/internal/util/Preconditions$3"), (3, u "IOOBE_FORMATTER")] 57

def k15m0 : Method := { name := "<init>", desc := "()V", sig := { parameters := [], returnType := none }, accessFlags := 1, code := none }
/-- jdk/internal/util/Preconditions -/
def k15 : Class := { plain "jdk/internal/util/Preconditions" (some 0) with
  accessFlags := 33
  interfaces := #[]
  cf := some (fileOf pool15 24 #[.nestMembers #[55, 131, 125, 114]] #[{ accessFlags := 1, nameIndex := 5, descriptorIndex := 6, attributes := #[] }] 33 2 #[] #[{ accessFlags := 25, nameIndex := 123, descriptorIndex := 124, attributes := #[] }, { accessFlags := 25, nameIndex := 130, descriptorIndex := 124, attributes := #[] }, { accessFlags := 25, nameIndex := 136, descriptorIndex := 124, attributes := #[] }])
  fields := #[{ name := "SIOOBE_FORMATTER", type := (.object "java/util/function/BiFunction"), accessFlags := 25, slot := 0, constantValue := 0 }, { name := "AIOOBE_FORMATTER", type := (.object "java/util/function/BiFunction"), accessFlags := 25, slot := 1, constantValue := 0 }, { name := "IOOBE_FORMATTER", type := (.object "java/util/function/BiFunction"), accessFlags := 25, slot := 2, constantValue := 0 }]
  methods := #[k15m0]
  instanceTypes := #[]
  staticTypes := #[(.object "java/util/function/BiFunction"), (.object "java/util/function/BiFunction"), (.object "java/util/function/BiFunction")]
  resolved := Array.replicate 194 none
  statics := some 2 }

def pool16 : Array CpInfo := pool [(9, u "<init>"), (6, .class_ 18), (1, u "java/lang/Object"), (0, u "()V"), (1, .class_ 23), (1, u "jdk/internal/util/ArraysSupport"), (0, u "LOG2_ARRAY_LONG_INDEX_SCALE"), (0, u "I"), (2, u "U"), (0, u "Ljdk/internal/misc/Unsafe;"), (8, u "BIG_ENDIAN"), (0, u "Z"), (8, u "LOG2_BYTE_BIT_SIZE"), (4, u "LOG2_ARRAY_INT_INDEX_SCALE"), (54, u "JLA"), (0, u "Ljdk/internal/access/JavaLangAccess;"), (11, u "LOG2_ARRAY_BOOLEAN_INDEX_SCALE"), (9, u "LOG2_ARRAY_BYTE_INDEX_SCALE"), (5, u "LOG2_ARRAY_CHAR_INDEX_SCALE"), (5, u "LOG2_ARRAY_SHORT_INDEX_SCALE"), (18, u "LOG2_ARRAY_FLOAT_INDEX_SCALE"), (24, u "LOG2_ARRAY_DOUBLE_INDEX_SCALE"), (89, u "T_BOOLEAN"), (2, u "T_CHAR"), (1, u "T_FLOAT"), (1, u "T_DOUBLE"), (1, u "T_BYTE"), (1, u "T_SHORT"), (1, u "T_INT"), (1, u "T_LONG"), (1, u "SOFT_MAX_ARRAY_LENGTH")] 83

def k16m0 : Method := { name := "<init>", desc := "()V", sig := { parameters := [], returnType := none }, accessFlags := 2, code := none }
/-- jdk/internal/util/ArraysSupport -/
def k16 : Class := { plain "jdk/internal/util/ArraysSupport" (some 0) with
  accessFlags := 33
  interfaces := #[]
  cf := some (fileOf pool16 21 #[] #[{ accessFlags := 2, nameIndex := 9, descriptorIndex := 19, attributes := #[] }] 33 16 #[] #[{ accessFlags := 24, nameIndex := 28, descriptorIndex := 29, attributes := #[] }, { accessFlags := 26, nameIndex := 38, descriptorIndex := 39, attributes := #[] }, { accessFlags := 25, nameIndex := 121, descriptorIndex := 25, attributes := #[] }, { accessFlags := 25, nameIndex := 131, descriptorIndex := 25, attributes := #[] }, { accessFlags := 25, nameIndex := 137, descriptorIndex := 25, attributes := #[] }, { accessFlags := 25, nameIndex := 143, descriptorIndex := 25, attributes := #[] }, { accessFlags := 25, nameIndex := 53, descriptorIndex := 25, attributes := #[] }, { accessFlags := 25, nameIndex := 24, descriptorIndex := 25, attributes := #[] }, { accessFlags := 25, nameIndex := 162, descriptorIndex := 25, attributes := #[] }, { accessFlags := 25, nameIndex := 187, descriptorIndex := 25, attributes := #[] }, { accessFlags := 26, nameIndex := 48, descriptorIndex := 25, attributes := #[] }, { accessFlags := 25, nameIndex := 277, descriptorIndex := 25, attributes := #[] }, { accessFlags := 25, nameIndex := 280, descriptorIndex := 25, attributes := #[] }, { accessFlags := 25, nameIndex := 282, descriptorIndex := 25, attributes := #[] }, { accessFlags := 25, nameIndex := 284, descriptorIndex := 25, attributes := #[] }, { accessFlags := 25, nameIndex := 286, descriptorIndex := 25, attributes := #[] }, { accessFlags := 25, nameIndex := 288, descriptorIndex := 25, attributes := #[] }, { accessFlags := 25, nameIndex := 290, descriptorIndex := 25, attributes := #[] }, { accessFlags := 25, nameIndex := 292, descriptorIndex := 25, attributes := #[] }, { accessFlags := 26, nameIndex := 108, descriptorIndex := 109, attributes := #[] }, { accessFlags := 25, nameIndex := 294, descriptorIndex := 25, attributes := #[] }])
  fields := #[{ name := "U", type := (.object "jdk/internal/misc/Unsafe"), accessFlags := 24, slot := 0, constantValue := 0 }, { name := "BIG_ENDIAN", type := .boolean, accessFlags := 26, slot := 1, constantValue := 0 }, { name := "LOG2_ARRAY_BOOLEAN_INDEX_SCALE", type := .int, accessFlags := 25, slot := 2, constantValue := 0 }, { name := "LOG2_ARRAY_BYTE_INDEX_SCALE", type := .int, accessFlags := 25, slot := 3, constantValue := 0 }, { name := "LOG2_ARRAY_CHAR_INDEX_SCALE", type := .int, accessFlags := 25, slot := 4, constantValue := 0 }, { name := "LOG2_ARRAY_SHORT_INDEX_SCALE", type := .int, accessFlags := 25, slot := 5, constantValue := 0 }, { name := "LOG2_ARRAY_INT_INDEX_SCALE", type := .int, accessFlags := 25, slot := 6, constantValue := 0 }, { name := "LOG2_ARRAY_LONG_INDEX_SCALE", type := .int, accessFlags := 25, slot := 7, constantValue := 0 }, { name := "LOG2_ARRAY_FLOAT_INDEX_SCALE", type := .int, accessFlags := 25, slot := 8, constantValue := 0 }, { name := "LOG2_ARRAY_DOUBLE_INDEX_SCALE", type := .int, accessFlags := 25, slot := 9, constantValue := 0 }, { name := "LOG2_BYTE_BIT_SIZE", type := .int, accessFlags := 26, slot := 10, constantValue := 0 }, { name := "T_BOOLEAN", type := .int, accessFlags := 25, slot := 11, constantValue := 0 }, { name := "T_CHAR", type := .int, accessFlags := 25, slot := 12, constantValue := 0 }, { name := "T_FLOAT", type := .int, accessFlags := 25, slot := 13, constantValue := 0 }, { name := "T_DOUBLE", type := .int, accessFlags := 25, slot := 14, constantValue := 0 }, { name := "T_BYTE", type := .int, accessFlags := 25, slot := 15, constantValue := 0 }, { name := "T_SHORT", type := .int, accessFlags := 25, slot := 16, constantValue := 0 }, { name := "T_INT", type := .int, accessFlags := 25, slot := 17, constantValue := 0 }, { name := "T_LONG", type := .int, accessFlags := 25, slot := 18, constantValue := 0 }, { name := "JLA", type := (.object "jdk/internal/access/JavaLangAccess"), accessFlags := 26, slot := 19, constantValue := 0 }, { name := "SOFT_MAX_ARRAY_LENGTH", type := .int, accessFlags := 25, slot := 20, constantValue := 0 }]
  methods := #[k16m0]
  instanceTypes := #[]
  staticTypes := #[(.object "jdk/internal/misc/Unsafe"), .boolean, .int, .int, .int, .int, .int, .int, .int, .int, .int, .int, .int, .int, .int, .int, .int, .int, .int, (.object "jdk/internal/access/JavaLangAccess"), .int]
  resolved := Array.replicate 378 none
  statics := none }

def pool17 : Array CpInfo := pool [(1, u "java/lang/Cloneable"), (0, .class_ 1), (0, u "java/lang/Object"), (0, .class_ 3)] 3

/-- java/lang/Cloneable -/
def k17 : Class := { plain "java/lang/Cloneable" (some 0) with
  accessFlags := 1537
  interfaces := #[]
  cf := some (fileOf pool17 2 #[] #[] 1537 4 #[] #[])
  fields := #[]
  methods := #[]
  instanceTypes := #[]
  staticTypes := #[]
  resolved := Array.replicate 8 none
  statics := none }

/-- the primitive byte -/
def k18 : Class := { plain "byte" none with kind := .primitive 'B', accessFlags := 0x411 }
/-- [B -/
def k19 : Class := { plain "[B" (some 0) with kind := .array 18 .byte, interfaces := #[17, 3], accessFlags := 1041 }

/-- the primitive char -/
def k20 : Class := { plain "char" none with kind := .primitive 'C', accessFlags := 0x411 }
/-- [C -/
def k21 : Class := { plain "[C" (some 0) with kind := .array 20 .char, interfaces := #[17, 3], accessFlags := 1041 }

/-- the primitive int -/
def k22 : Class := { plain "int" none with kind := .primitive 'I', accessFlags := 0x411 }
/-- [I -/
def k23 : Class := { plain "[I" (some 0) with kind := .array 22 .int, interfaces := #[17, 3], accessFlags := 1041 }

def heap : Heap := #[{ cls := 8, slots := #[.long 0, .int 1, .null, .int 0, .null, .int 0, .int 0], vm := .statics 8 },
  { cls := 12, slots := #[.ref 5, .ref 4, .ref 3, .null], vm := .statics 12 },
  { cls := 15, slots := #[.null, .null, .null], vm := .statics 15 },
  { cls := 12, slots := #[.null, .int 2, .int 0], vm := .none },
  { cls := 12, slots := #[.null, .int 1, .int 0], vm := .none },
  { cls := 12, slots := #[.null, .int 0, .int 0], vm := .none }]
def classes : Array Class := #[k0, k1, k2, k3, k4, k5, k6, k7, k8, k9, k10, k11, k12, k13, k14, k15, k16, k17, k18, k19, k20, k21, k22, k23]
def interned : List (Array UInt16 × Addr) := []
def slotsUsed : Nat := 23
def theMethod : MethodId := ⟨1, 3⟩
def args0 : Array Value := #[.int 5, .int 6, .int 7, .int 8, .int 1]
def aboutOver (below : List Frame) : State where
  vm := { classes := classes, interned := interned.toArray }
  heap := heap
  slotsUsed := slotsUsed
  threads := #[{ frames := .invoking theMethod args0 :: below }]
def below0 : List Frame := [.native { method := ⟨0, 0⟩, args := #[] }]
def about1 : State := aboutOver below0
def p0 : Program := .bare "" "" ""
def e0 : Env := launch0.env 0 0 0
theorem w_frames : about1.frames = Frame.invoking theMethod args0 :: below0 := rfl
set_option maxRecDepth 65536 in
theorem w_args : argsFit about1.vm theMethod args0 = true := by decide +kernel
set_option maxRecDepth 65536 in
theorem w_heap : heapFits about1 = true := by decide +kernel
set_option maxRecDepth 65536 in
theorem w_runnable : about1.curStatus? = some .runnable := by decide +kernel
set_option maxRecDepth 65536 in
theorem w_alone : about1.alone = true := by decide +kernel
set_option maxRecDepth 65536 in
theorem w_named : about1.methodNamed? x = some theMethod := by decide +kernel
set_option maxRecDepth 65536 in
theorem w_hears : about1.hears theMethod below0 = true := by decide +kernel
set_option maxRecDepth 65536 in
theorem w_ripe : about1.ripe theMethod args0 below0 = true := by decide +kernel
theorem w_running : about1.status = .running := rfl
set_option maxRecDepth 65536 in
theorem w_room : about1.hasRoom e0.platform room_1 = true :=
  launch0.hasRoom_least _ room_1 (by decide +kernel) (by decide +kernel) (by decide +kernel) (by decide +kernel) (by decide +kernel) (by decide +kernel)
theorem allAtoms_all (ts : List Jvm.Cond) (a : Array Jvm.Value) (st : Jvm.State) : (allAtoms ts).before a st = ts.all (fun c => c.before a st) := by
  induction ts with
  | nil => rfl
  | cons c t ih =>
    show (Jvm.Cond.and c (allAtoms t)).before a st = _
    rw [Jvm.Cond.before_and, ih, List.all_cons]
def words1 : List Jvm.Cond := Jvm.Cond.code x code maxLocals ret :: tables_1
/-- a 'code' word, met by the world's own term for the bytes: nothing is compared byte by byte -/
theorem code_word {y : MethodName} {bytes : ByteArray} {mx : Nat} {rt : Option FieldType} {a : Array Value} {s : State} {m : MethodId} {meth : Method} {c : Code} (h1 : s.methodNamed? y = some m) (h2 : s.vm.method? m = some meth) (h3 : meth.code = some c) (h4 : c.code = bytes)
    (h5 : (c.maxLocals == mx && c.exceptionTable.isEmpty && decide (c.maxStack ≤ mostOperands) && decide (meth.sig.returnType = rt) && !meth.locks && decide (parseMethodDescriptor y.desc = some meth.sig)) = true) : (Jvm.Cond.code y bytes mx rt).before a s = true := by
  simp only [Bool.and_eq_true, beq_iff_eq, Bool.not_eq_true', decide_eq_true_eq] at h5
  obtain ⟨⟨⟨⟨⟨g1, g2⟩, g3⟩, g4⟩, g5⟩, g6⟩ := h5
  simp [Cond.before, Cond.holds, Cond.value, h1, h2, h3, h4, g1, g2, g3, g4, g5, g6]
def isCode : Jvm.Cond → Bool
  | .code _ _ _ _ => true
  | _ => false
theorem all_split {L : List Jvm.Cond} {P : Jvm.Cond → Bool} (h1 : L.all (fun c => isCode c || P c) = true) (h2 : ∀ c ∈ L.filter isCode, P c = true) : L.all P = true := by
  refine List.all_eq_true.mpr fun c hc => ?_
  have h := List.all_eq_true.mp h1 c hc
  rcases Bool.eq_false_or_eq_true (isCode c) with hi | hi
  · exact h2 c (List.mem_filter.mpr ⟨hc, hi⟩)
  · simpa [hi] using h
set_option maxRecDepth 65536 in
theorem w_c0 : (Jvm.Cond.code x code maxLocals ret).before args0 about1 = true := code_word (m := ⟨1, 3⟩) (meth := k1m3) (c := k1c3) (by decide +kernel) rfl rfl rfl (by decide +kernel)
set_option maxRecDepth 65536 in
theorem w_c1 : (Jvm.Cond.code ({ cls := "java/lang/Math", name := "min", desc := "(II)I" } : Jvm.MethodName) jdk_29_method_69_code (2 : Nat) (Option.some Jvm.ClassFile.FieldType.int)).before args0 about1 = true := code_word (m := ⟨2, 1⟩) (meth := k2m1) (c := k2c1) (by decide +kernel) rfl rfl rfl (by decide +kernel)
set_option maxRecDepth 65536 in
theorem w_c2 : (Jvm.Cond.code ({ cls := "com/example/domaine/domaine/fields/FieldProblemEqualsPinLaw", name := "mk", desc := "(ICC)Ljava/lang/String;" } : Jvm.MethodName) method_3_code (3 : Nat) (Option.some (Jvm.ClassFile.FieldType.object "java/lang/String"))).before args0 about1 = true := code_word (m := ⟨1, 2⟩) (meth := k1m2) (c := k1c2) (by decide +kernel) rfl rfl rfl (by decide +kernel)
set_option maxRecDepth 65536 in
theorem w_c3 : (Jvm.Cond.code ({ cls := "java/lang/String", name := "<init>", desc := "([C)V" } : Jvm.MethodName) jdk_42_method_3_code (2 : Nat) (Option.none : Option Jvm.ClassFile.FieldType)).before args0 about1 = true := code_word (m := ⟨8, 1⟩) (meth := k8m1) (c := k8c1) (by decide +kernel) rfl rfl rfl (by decide +kernel)
set_option maxRecDepth 65536 in
theorem w_c4 : (Jvm.Cond.code ({ cls := "java/lang/String", name := "<init>", desc := "([CIILjava/lang/Void;)V" } : Jvm.MethodName) jdk_42_method_149_code (6 : Nat) (Option.none : Option Jvm.ClassFile.FieldType)).before args0 about1 = true := code_word (m := ⟨8, 4⟩) (meth := k8m4) (c := k8c4) (by decide +kernel) rfl rfl rfl (by decide +kernel)
set_option maxRecDepth 65536 in
theorem w_c5 : (Jvm.Cond.code ({ cls := "java/lang/Object", name := "<init>", desc := "()V" } : Jvm.MethodName) object_method_1_code (1 : Nat) (Option.none : Option Jvm.ClassFile.FieldType)).before args0 about1 = true := code_word (m := ⟨0, 0⟩) (meth := k0m0) (c := k0c0) (by decide +kernel) rfl rfl rfl (by decide +kernel)
set_option maxRecDepth 65536 in
theorem w_c6 : (Jvm.Cond.code ({ cls := "java/lang/StringUTF16", name := "compress", desc := "([CII)[B" } : Jvm.MethodName) jdk_52_method_16_code (6 : Nat) (Option.some (Jvm.ClassFile.FieldType.array Jvm.ClassFile.FieldType.byte))).before args0 about1 = true := code_word (m := ⟨9, 2⟩) (meth := k9m2) (c := k9c2) (by decide +kernel) rfl rfl rfl (by decide +kernel)
set_option maxRecDepth 65536 in
theorem w_c7 : (Jvm.Cond.code ({ cls := "java/lang/StringUTF16", name := "compress", desc := "([CI[BII)I" } : Jvm.MethodName) jdk_52_method_21_code (7 : Nat) (Option.some Jvm.ClassFile.FieldType.int)).before args0 about1 = true := code_word (m := ⟨9, 3⟩) (meth := k9m3) (c := k9c3) (by decide +kernel) rfl rfl rfl (by decide +kernel)
set_option maxRecDepth 65536 in
theorem w_c8 : (Jvm.Cond.code ({ cls := "java/lang/StringUTF16", name := "coderFromArrayLen", desc := "([BI)B" } : Jvm.MethodName) jdk_52_method_15_code (2 : Nat) (Option.some Jvm.ClassFile.FieldType.byte)).before args0 about1 = true := code_word (m := ⟨9, 1⟩) (meth := k9m1) (c := k9c1) (by decide +kernel) rfl rfl rfl (by decide +kernel)
set_option maxRecDepth 65536 in
theorem w_c9 : (Jvm.Cond.code ({ cls := "com/example/domaine/domaine/fields/FieldProblemEqualsPinLaw", name := "pick", desc := "(I)Lcom/example/domaine/domaine/fields/FieldError;" } : Jvm.MethodName) method_2_code (1 : Nat) (Option.some (Jvm.ClassFile.FieldType.object "com/example/domaine/domaine/fields/FieldError"))).before args0 about1 = true := code_word (m := ⟨1, 1⟩) (meth := k1m1) (c := k1c1) (by decide +kernel) rfl rfl rfl (by decide +kernel)
set_option maxRecDepth 65536 in
theorem w_c10 : (Jvm.Cond.code ({ cls := "com/example/domaine/domaine/fields/FieldProblem", name := "<init>", desc := "(Ljava/lang/String;Lcom/example/domaine/domaine/fields/FieldError;)V" } : Jvm.MethodName) prog_36_method_1_code (3 : Nat) (Option.none : Option Jvm.ClassFile.FieldType)).before args0 about1 = true := code_word (m := ⟨10, 0⟩) (meth := k10m0) (c := k10c0) (by decide +kernel) rfl rfl rfl (by decide +kernel)
set_option maxRecDepth 65536 in
theorem w_c11 : (Jvm.Cond.code ({ cls := "java/util/Objects", name := "requireNonNull", desc := "(Ljava/lang/Object;Ljava/lang/String;)Ljava/lang/Object;" } : Jvm.MethodName) jdk_31_method_11_code (2 : Nat) (Option.some (Jvm.ClassFile.FieldType.object "java/lang/Object"))).before args0 about1 = true := code_word (m := ⟨13, 1⟩) (meth := k13m1) (c := k13c1) (by decide +kernel) rfl rfl rfl (by decide +kernel)
set_option maxRecDepth 65536 in
theorem w_c12 : (Jvm.Cond.code ({ cls := "com/example/domaine/domaine/fields/FieldProblem", name := "equals", desc := "(Ljava/lang/Object;)Z" } : Jvm.MethodName) prog_36_method_4_code (2 : Nat) (Option.some Jvm.ClassFile.FieldType.boolean)).before args0 about1 = true := code_word (m := ⟨10, 1⟩) (meth := k10m1) (c := k10c1) (by decide +kernel) rfl rfl rfl (by decide +kernel)
set_option maxRecDepth 65536 in
theorem w_c13 : (Jvm.Cond.code ({ cls := "java/lang/String", name := "equals", desc := "(Ljava/lang/Object;)Z" } : Jvm.MethodName) jdk_42_method_66_code (3 : Nat) (Option.some Jvm.ClassFile.FieldType.boolean)).before args0 about1 = true := code_word (m := ⟨8, 2⟩) (meth := k8m2) (c := k8c2) (by decide +kernel) rfl rfl rfl (by decide +kernel)
set_option maxRecDepth 65536 in
theorem w_c14 : (Jvm.Cond.code ({ cls := "java/lang/StringLatin1", name := "equals", desc := "([B[B)Z" } : Jvm.MethodName) jdk_43_method_13_code (3 : Nat) (Option.some Jvm.ClassFile.FieldType.boolean)).before args0 about1 = true := code_word (m := ⟨14, 2⟩) (meth := k14m2) (c := k14c2) (by decide +kernel) rfl rfl rfl (by decide +kernel)
set_option maxRecDepth 65536 in
theorem w_c15 : (Jvm.Cond.code ({ cls := "java/lang/String", name := "valueOf", desc := "(C)Ljava/lang/String;" } : Jvm.MethodName) jdk_42_method_139_code (1 : Nat) (Option.some (Jvm.ClassFile.FieldType.object "java/lang/String"))).before args0 about1 = true := code_word (m := ⟨8, 3⟩) (meth := k8m3) (c := k8c3) (by decide +kernel) rfl rfl rfl (by decide +kernel)
set_option maxRecDepth 65536 in
theorem w_c16 : (Jvm.Cond.code ({ cls := "java/lang/StringLatin1", name := "canEncode", desc := "(C)Z" } : Jvm.MethodName) jdk_43_method_3_code (1 : Nat) (Option.some Jvm.ClassFile.FieldType.boolean)).before args0 about1 = true := code_word (m := ⟨14, 1⟩) (meth := k14m1) (c := k14c1) (by decide +kernel) rfl rfl rfl (by decide +kernel)
set_option maxRecDepth 65536 in
theorem w_c17 : (Jvm.Cond.code ({ cls := "java/lang/StringLatin1", name := "toBytes", desc := "(C)[B" } : Jvm.MethodName) jdk_43_method_46_code (1 : Nat) (Option.some (Jvm.ClassFile.FieldType.array Jvm.ClassFile.FieldType.byte))).before args0 about1 = true := code_word (m := ⟨14, 3⟩) (meth := k14m3) (c := k14c3) (by decide +kernel) rfl rfl rfl (by decide +kernel)
set_option maxRecDepth 65536 in
theorem w_c18 : (Jvm.Cond.code ({ cls := "java/lang/String", name := "<init>", desc := "([BB)V" } : Jvm.MethodName) jdk_42_method_151_code (3 : Nat) (Option.none : Option Jvm.ClassFile.FieldType)).before args0 about1 = true := code_word (m := ⟨8, 5⟩) (meth := k8m5) (c := k8c5) (by decide +kernel) rfl rfl rfl (by decide +kernel)
def codes1 : List Jvm.Cond := [Jvm.Cond.code x code maxLocals ret, Jvm.Cond.code ({ cls := "java/lang/Math", name := "min", desc := "(II)I" } : Jvm.MethodName) jdk_29_method_69_code (2 : Nat) (Option.some Jvm.ClassFile.FieldType.int), Jvm.Cond.code ({ cls := "com/example/domaine/domaine/fields/FieldProblemEqualsPinLaw", name := "mk", desc := "(ICC)Ljava/lang/String;" } : Jvm.MethodName) method_3_code (3 : Nat) (Option.some (Jvm.ClassFile.FieldType.object "java/lang/String")), Jvm.Cond.code ({ cls := "java/lang/String", name := "<init>", desc := "([C)V" } : Jvm.MethodName) jdk_42_method_3_code (2 : Nat) (Option.none : Option Jvm.ClassFile.FieldType), Jvm.Cond.code ({ cls := "java/lang/String", name := "<init>", desc := "([CIILjava/lang/Void;)V" } : Jvm.MethodName) jdk_42_method_149_code (6 : Nat) (Option.none : Option Jvm.ClassFile.FieldType), Jvm.Cond.code ({ cls := "java/lang/Object", name := "<init>", desc := "()V" } : Jvm.MethodName) object_method_1_code (1 : Nat) (Option.none : Option Jvm.ClassFile.FieldType), Jvm.Cond.code ({ cls := "java/lang/StringUTF16", name := "compress", desc := "([CII)[B" } : Jvm.MethodName) jdk_52_method_16_code (6 : Nat) (Option.some (Jvm.ClassFile.FieldType.array Jvm.ClassFile.FieldType.byte)), Jvm.Cond.code ({ cls := "java/lang/StringUTF16", name := "compress", desc := "([CI[BII)I" } : Jvm.MethodName) jdk_52_method_21_code (7 : Nat) (Option.some Jvm.ClassFile.FieldType.int), Jvm.Cond.code ({ cls := "java/lang/StringUTF16", name := "coderFromArrayLen", desc := "([BI)B" } : Jvm.MethodName) jdk_52_method_15_code (2 : Nat) (Option.some Jvm.ClassFile.FieldType.byte), Jvm.Cond.code ({ cls := "com/example/domaine/domaine/fields/FieldProblemEqualsPinLaw", name := "pick", desc := "(I)Lcom/example/domaine/domaine/fields/FieldError;" } : Jvm.MethodName) method_2_code (1 : Nat) (Option.some (Jvm.ClassFile.FieldType.object "com/example/domaine/domaine/fields/FieldError")), Jvm.Cond.code ({ cls := "com/example/domaine/domaine/fields/FieldProblem", name := "<init>", desc := "(Ljava/lang/String;Lcom/example/domaine/domaine/fields/FieldError;)V" } : Jvm.MethodName) prog_36_method_1_code (3 : Nat) (Option.none : Option Jvm.ClassFile.FieldType), Jvm.Cond.code ({ cls := "java/util/Objects", name := "requireNonNull", desc := "(Ljava/lang/Object;Ljava/lang/String;)Ljava/lang/Object;" } : Jvm.MethodName) jdk_31_method_11_code (2 : Nat) (Option.some (Jvm.ClassFile.FieldType.object "java/lang/Object")), Jvm.Cond.code ({ cls := "com/example/domaine/domaine/fields/FieldProblem", name := "equals", desc := "(Ljava/lang/Object;)Z" } : Jvm.MethodName) prog_36_method_4_code (2 : Nat) (Option.some Jvm.ClassFile.FieldType.boolean), Jvm.Cond.code ({ cls := "java/lang/String", name := "equals", desc := "(Ljava/lang/Object;)Z" } : Jvm.MethodName) jdk_42_method_66_code (3 : Nat) (Option.some Jvm.ClassFile.FieldType.boolean), Jvm.Cond.code ({ cls := "java/lang/StringLatin1", name := "equals", desc := "([B[B)Z" } : Jvm.MethodName) jdk_43_method_13_code (3 : Nat) (Option.some Jvm.ClassFile.FieldType.boolean), Jvm.Cond.code ({ cls := "java/lang/String", name := "valueOf", desc := "(C)Ljava/lang/String;" } : Jvm.MethodName) jdk_42_method_139_code (1 : Nat) (Option.some (Jvm.ClassFile.FieldType.object "java/lang/String")), Jvm.Cond.code ({ cls := "java/lang/StringLatin1", name := "canEncode", desc := "(C)Z" } : Jvm.MethodName) jdk_43_method_3_code (1 : Nat) (Option.some Jvm.ClassFile.FieldType.boolean), Jvm.Cond.code ({ cls := "java/lang/StringLatin1", name := "toBytes", desc := "(C)[B" } : Jvm.MethodName) jdk_43_method_46_code (1 : Nat) (Option.some (Jvm.ClassFile.FieldType.array Jvm.ClassFile.FieldType.byte)), Jvm.Cond.code ({ cls := "java/lang/String", name := "<init>", desc := "([BB)V" } : Jvm.MethodName) jdk_42_method_151_code (3 : Nat) (Option.none : Option Jvm.ClassFile.FieldType)]
set_option maxRecDepth 65536 in
theorem codes_eq : words1.filter isCode = codes1 := rfl
theorem w_codes : ∀ c ∈ words1.filter isCode, c.before args0 about1 = true := by
  rw [codes_eq]
  intro c hc
  simp only [codes1, List.mem_cons, List.not_mem_nil, or_false] at hc
  rcases hc with rfl | rfl | rfl | rfl | rfl | rfl | rfl | rfl | rfl | rfl | rfl | rfl | rfl | rfl | rfl | rfl | rfl | rfl | rfl
  · exact w_c0
  · exact w_c1
  · exact w_c2
  · exact w_c3
  · exact w_c4
  · exact w_c5
  · exact w_c6
  · exact w_c7
  · exact w_c8
  · exact w_c9
  · exact w_c10
  · exact w_c11
  · exact w_c12
  · exact w_c13
  · exact w_c14
  · exact w_c15
  · exact w_c16
  · exact w_c17
  · exact w_c18
set_option maxRecDepth 65536 in
theorem w_t1 : (words1.take 24).all (fun c => isCode c || c.before args0 about1) = true := by decide +kernel
set_option maxRecDepth 65536 in
theorem w_t2 : ((words1.drop 24).take 24).all (fun c => isCode c || c.before args0 about1) = true := by decide +kernel
set_option maxRecDepth 65536 in
theorem w_t3 : (((words1.drop 24).drop 24).take 24).all (fun c => isCode c || c.before args0 about1) = true := by decide +kernel
set_option maxRecDepth 65536 in
theorem w_t4 : ((((words1.drop 24).drop 24).drop 24).take 24).all (fun c => isCode c || c.before args0 about1) = true := by decide +kernel
set_option maxRecDepth 65536 in
theorem w_t5 : ((((words1.drop 24).drop 24).drop 24).drop 24).all (fun c => isCode c || c.before args0 about1) = true := by decide +kernel
theorem w_tables : (allAtoms (Jvm.Cond.code x code maxLocals ret :: tables_1)).before args0 about1 = true := by
  rw [allAtoms_all]
  show words1.all (fun c => c.before args0 about1) = true
  refine all_split ?_ w_codes
  rw [← List.take_append_drop 24 words1, List.all_append, w_t1, ← List.take_append_drop 24 (words1.drop 24), List.all_append, w_t2, ← List.take_append_drop 24 ((words1.drop 24).drop 24), List.all_append, w_t3, ← List.take_append_drop 24 (((words1.drop 24).drop 24).drop 24), List.all_append, w_t4, w_t5]
  rfl
set_option maxRecDepth 65536 in
theorem w_rest : rest_1_c.before args0 about1 = true := by decide +kernel
set_option maxRecDepth 65536 in
theorem w_case : (Jvm.Cond.and given_1 narrow_1).before args0 about1 = true := by decide +kernel
set_option maxRecDepth 65536 in
theorem w_consts : constsHeld consts_1 about1 := Jvm.Lit.constsHeldB_iff.mp (by decide +kernel)
theorem w_applies : (headSpec (Jvm.Cond.code x code maxLocals ret :: tables_1) room_1).applies x e0.platform about1 = true :=
  (Spec.applies_iff w_frames).mpr ⟨w_running, w_runnable, w_alone, w_named, w_hears, w_ripe, w_room, w_tables⟩
theorem atStart : AtStart classFile x code maxLocals ret World_1 tables_1 room_1 Calls_1 rest_1 Pre_1 launch0 p0 e0 about1 theMethod args0 below0 :=
  ⟨lists_1, trivial, launch0.admits_env _ _ _, launch0.least_env, fairChoices_fair.cas, fairChoices_fair.clock, w_frames, w_args, w_heap, w_applies, ⟨w_consts, trivial⟩, w_rest, w_case⟩
end start1
theorem witness_1 : WitnessClaimed_1 := ⟨start1.p0, start1.e0, start1.about1, start1.theMethod, start1.args0, start1.below0, start1.atStart⟩
end Jvm.Pilot.@@N@@
