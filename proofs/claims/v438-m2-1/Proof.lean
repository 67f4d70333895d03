import JvmDerived
import JvmDerived.Pilot.@@N@@Statement
import JvmDerived.Pilot.@@N@@Code
set_option linter.unusedVariables false
set_option linter.unusedSimpArgs false
namespace Jvm.OwnW
open Sem ClassFile Op Lib Jvm.Stand Jvm.Free Jvm.LawKit Jvm.RoadKit
/-- a body: its class, name, bytes, locals, return kind -/
abbrev Bdy : Type := String × String × ByteArray × Nat × Option FieldType
abbrev Bdy.own (B : Bdy) : String := B.1
abbrev Bdy.nm (B : Bdy) : String := B.2.1
abbrev Bdy.bytes (B : Bdy) : ByteArray := B.2.2.1
abbrev Bdy.ml (B : Bdy) : Nat := B.2.2.2.1
abbrev Bdy.ret (B : Bdy) : Option FieldType := B.2.2.2.2
/-- what stays through one invocation -/
def Ctx (p : Program) (s : State) (m : MethodId) (meth : Method) (c : Code) (Z : State) (B : Bdy) : Prop :=
  p.tables.exec = Jvm.exec ∧ c.code = B.bytes ∧ c.maxLocals = B.ml ∧ Z.Warmed39 s.vm ∧ s.vm.findClass B.own = some m.cls ∧ meth.sig.returnType = B.ret ∧ meth.locks = false ∧ meth.name = B.nm
/-- FROM HERE THE INVOCATION RETURNS, AND Q: whatever the rest of the state is -/
def W (l : Launch) (Z : State) (n0 : Nat) (R : Room) (B : Bdy) (Q : Option Value → Heap → Prop) (h : Heap) (cells slots : Nat) (pc : Nat) (Ls : List Slot) (St : List Value) : Prop :=
  ∀ (p : Program) (e : Env) (s : State) (m : MethodId) (args : Array Value) (below : List Frame) (meth : Method) (c : Code) (T : State) (locs : List Loc),
    Ctx p s m meth c Z B → Stand p l e R s m args below meth c T locs cells slots → T.heap = h → Fr n0 locs → cells ≤ R.cells → slots ≤ R.slots →
    ∃ (s₂ : State) (v : Option Value) (L : List Loc), Steps p.tables e below (T.setTop (mkF m pc ⟨Ls⟩ St)) s₂ ∧ s₂.status = .running ∧ Ended s₂ below (.returned v) ∧ Q v s₂.heap ∧ Fr n0 L ∧ FrameEnd s (.returned v) s₂ L R.cells R.slots
/-- l' is l with v at its k-th place -/
def Put (l : List Slot) (k : Nat) (v : Slot) (l' : List Slot) : Prop := l' = l.set k v ∧ k < l.length
theorem Put.z {a v : Slot} {l : List Slot} : Put (a :: l) 0 v (v :: l) := ⟨rfl, by simp⟩
theorem Put.s {a v : Slot} {l l' : List Slot} {k : Nat} (h : Put l k v l') : Put (a :: l) (k + 1) v (a :: l') := ⟨by simp [h.1], by simpa using h.2⟩
/-- the room of a callee -/
abbrev rmF (f c s w : Nat) : Room := { frames := f, cells := c, slots := s, locals := w }
section Steps
variable {l : Launch} {Z : State} {n0 : Nat} {R : Room} {B : Bdy} {Q : Option Value → Heap → Prop} {h : Heap} {cells slots pc q : Nat} {Ls Ls' : List Slot} {St St' : List Value} {a0 : Array Value}
theorem W.same (K : W l Z n0 R B Q h cells slots q Ls' St') (f : ∀ (p : Program) (e : Env) (s : State) (m : MethodId) (args : Array Value) (below : List Frame) (meth : Method) (c : Code) (T : State) (locs : List Loc), Ctx p s m meth c Z B → Stand p l e R s m args below meth c T locs cells slots → T.heap = h →
      ∀ target, Steps p.tables e below (T.setTop (mkF m q ⟨Ls'⟩ St')) target → Steps p.tables e below (T.setTop (mkF m pc ⟨Ls⟩ St)) target) : W l Z n0 R B Q h cells slots pc Ls St := by
  intro p e s m args below meth c T locs C X eT N hc hs
  obtain ⟨s₂, v, L, h1, h2⟩ := K p e s m args below meth c T locs C X eT N hc hs
  exact ⟨s₂, v, L, f p e s m args below meth c T locs C X eT _ h1, h2⟩
theorem W.warm (K : W l Z n0 R B Q h cells slots q Ls' St') (f : ∀ (p : Program) (e : Env) (s : State) (m : MethodId) (args : Array Value) (below : List Frame) (meth : Method) (c : Code) (T : State) (locs : List Loc), Ctx p s m meth c Z B → Stand p l e R s m args below meth c T locs cells slots → T.heap = h →
      ∃ T', Stand p l e R s m args below meth c T' locs cells slots ∧ T'.heap = h ∧ ∀ target, Steps p.tables e below (T'.setTop (mkF m q ⟨Ls'⟩ St')) target → Steps p.tables e below (T.setTop (mkF m pc ⟨Ls⟩ St)) target) : W l Z n0 R B Q h cells slots pc Ls St := by
  intro p e s m args below meth c T locs C X eT N hc hs
  obtain ⟨T', X', eT', st⟩ := f p e s m args below meth c T locs C X eT
  obtain ⟨s₂, v, L, h1, h2⟩ := K p e s m args below meth c T' locs C X' eT' N hc hs
  exact ⟨s₂, v, L, st _ h1, h2⟩
theorem W.wrote {a : Addr} {sl : Nat} {x : Value} (f : ∀ (p : Program) (e : Env) (s : State) (m : MethodId) (args : Array Value) (below : List Frame) (meth : Method) (c : Code) (T : State) (locs : List Loc), Ctx p s m meth c Z B → Stand p l e R s m args below meth c T locs cells slots → T.heap = h →
      ∃ T' h', Stand p l e R s m args below meth c T' (locs ++ [⟨a, sl⟩]) cells slots ∧ T'.heap = h' ∧ Wr h h' a sl x ∧ ∀ target, Steps p.tables e below (T'.setTop (mkF m q ⟨Ls'⟩ St')) target → Steps p.tables e below (T.setTop (mkF m pc ⟨Ls⟩ St)) target) (ha : n0 ≤ a) (K : ∀ h', Wr h h' a sl x → W l Z n0 R B Q h' cells slots q Ls' St') : W l Z n0 R B Q h cells slots pc Ls St := by
  intro p e s m args below meth c T locs C X eT N hc hs
  obtain ⟨T', h', X', eT', w, st⟩ := f p e s m args below meth c T locs C X eT
  obtain ⟨s₂, v, L, h1, h2⟩ := K h' w p e s m args below meth c T' _ C X' eT' (Fr.snoc X' N ha) hc hs
  exact ⟨s₂, v, L, st _ h1, h2⟩
/-! ### loads, stores, constants -/
theorem W.iload {k : Nat} {v : Int32} (hd : decode B.bytes pc = .ok (.iload k, 2)) (hl : Ls[k]? = some (.val (.int v))) (hq : pc + 2 = q) (K : W l Z n0 R B Q h cells slots q Ls (.int v :: St)) : W l Z n0 R B Q h cells slots pc Ls St := by
  subst hq; exact W.same K (fun p e s m args below meth c T locs C X eT t hr => XS.iload (g := mkF m pc ⟨Ls⟩ St) X.here C.1 rfl (hb C.2.1 hd) (by simpa using hl) hr)
theorem W.iloadN {k : Fin 4} {v : Int32} (hd : decode B.bytes pc = .ok (.iload_n k, 1)) (hl : Ls[k.val]? = some (.val (.int v))) (hq : pc + 1 = q) (K : W l Z n0 R B Q h cells slots q Ls (.int v :: St)) : W l Z n0 R B Q h cells slots pc Ls St := by
  subst hq; exact W.same K (fun p e s m args below meth c T locs C X eT t hr => XS.iloadN (g := mkF m pc ⟨Ls⟩ St) X.here C.1 rfl (hb C.2.1 hd) (by simpa using hl) hr)
theorem W.aload {k : Nat} {v : Value} (hd : decode B.bytes pc = .ok (.aload k, 2)) (hl : Ls[k]? = some (.val v)) (hv : v.isRef = true) (hq : pc + 2 = q) (K : W l Z n0 R B Q h cells slots q Ls (v :: St)) : W l Z n0 R B Q h cells slots pc Ls St := by
  subst hq; exact W.same K (fun p e s m args below meth c T locs C X eT t hr => XS.aload (g := mkF m pc ⟨Ls⟩ St) X.here C.1 rfl (hb C.2.1 hd) (by simpa using hl) hv hr)
theorem W.aloadN {k : Fin 4} {v : Value} (hd : decode B.bytes pc = .ok (.aload_n k, 1)) (hl : Ls[k.val]? = some (.val v)) (hv : v.isRef = true) (hq : pc + 1 = q) (K : W l Z n0 R B Q h cells slots q Ls (v :: St)) : W l Z n0 R B Q h cells slots pc Ls St := by
  subst hq; exact W.same K (fun p e s m args below meth c T locs C X eT t hr => XS.aloadN (g := mkF m pc ⟨Ls⟩ St) X.here C.1 rfl (hb C.2.1 hd) (by simpa using hl) hv hr)
theorem W.lload {k : Nat} {v : Int64} (hd : decode B.bytes pc = .ok (.lload k, 2)) (hl : Ls[k]? = some (.val (.long v))) (hq : pc + 2 = q) (K : W l Z n0 R B Q h cells slots q Ls (.long v :: St)) : W l Z n0 R B Q h cells slots pc Ls St := by
  subst hq; exact W.same K (fun p e s m args below meth c T locs C X eT t hr => XS.lload (g := mkF m pc ⟨Ls⟩ St) X.here C.1 rfl (hb C.2.1 hd) (by simpa using hl) hr)
theorem W.lloadN {k : Fin 4} {v : Int64} (hd : decode B.bytes pc = .ok (.lload_n k, 1)) (hl : Ls[k.val]? = some (.val (.long v))) (hq : pc + 1 = q) (K : W l Z n0 R B Q h cells slots q Ls (.long v :: St)) : W l Z n0 R B Q h cells slots pc Ls St := by
  subst hq; exact W.same K (fun p e s m args below meth c T locs C X eT t hr => XS.lloadN (g := mkF m pc ⟨Ls⟩ St) X.here C.1 rfl (hb C.2.1 hd) (by simpa using hl) hr)
theorem W.iconst {i : Int} {z : Int32} (hd : decode B.bytes pc = .ok (.iconst i, 1)) (hz : Int32.ofInt i = z) (hq : pc + 1 = q) (K : W l Z n0 R B Q h cells slots q Ls (.int z :: St)) : W l Z n0 R B Q h cells slots pc Ls St := by
  subst hq hz; exact W.same K (fun p e s m args below meth c T locs C X eT t hr => XS.iconst (g := mkF m pc ⟨Ls⟩ St) X.here C.1 rfl (hb C.2.1 hd) hr)
theorem W.bipush {i : Int} {z : Int32} (hd : decode B.bytes pc = .ok (.bipush i, 2)) (hz : (Int8.ofInt i).toInt32 = z) (hq : pc + 2 = q) (K : W l Z n0 R B Q h cells slots q Ls (.int z :: St)) : W l Z n0 R B Q h cells slots pc Ls St := by
  subst hq hz; exact W.same K (fun p e s m args below meth c T locs C X eT t hr => XS.bipush (g := mkF m pc ⟨Ls⟩ St) X.here C.1 rfl (hb C.2.1 hd) hr)
theorem W.sipush {i : Int} {z : Int32} (hd : decode B.bytes pc = .ok (.sipush i, 3)) (hz : (Int16.ofInt i).toInt32 = z) (hq : pc + 3 = q) (K : W l Z n0 R B Q h cells slots q Ls (.int z :: St)) : W l Z n0 R B Q h cells slots pc Ls St := by
  subst hq hz; exact W.same K (fun p e s m args below meth c T locs C X eT t hr => XS.sipush (g := mkF m pc ⟨Ls⟩ St) X.here C.1 rfl (hb C.2.1 hd) hr)
theorem W.ldc {i : Nat} {z : Int32} (hd : decode B.bytes pc = .ok (.ldc i, 2)) (w : (Cond.constant B.own i z).before a0 Z = true) (hq : pc + 2 = q) (K : W l Z n0 R B Q h cells slots q Ls (.int z :: St)) : W l Z n0 R B Q h cells slots pc Ls St := by
  subst hq; exact W.same K (fun p e s m args below meth c T locs C X eT t hr => X.ldcI (g := mkF m pc ⟨Ls⟩ St) C.1 C.2.2.2.2.1 (mvT C.2.2.2.1 w) rfl (hb C.2.1 hd) hr)
theorem W.ldcw {i : Nat} {z : Int32} (hd : decode B.bytes pc = .ok (.ldc_w i, 3)) (w : (Cond.constant B.own i z).before a0 Z = true) (hq : pc + 3 = q) (K : W l Z n0 R B Q h cells slots q Ls (.int z :: St)) : W l Z n0 R B Q h cells slots pc Ls St := by
  subst hq; exact W.same K (fun p e s m args below meth c T locs C X eT t hr => X.ldcWI (g := mkF m pc ⟨Ls⟩ St) C.1 C.2.2.2.2.1 (mvT C.2.2.2.1 w) rfl (hb C.2.1 hd) hr)
theorem W.ldc2 {i : Nat} {z : Int64} (hd : decode B.bytes pc = .ok (.ldc2_w i, 3)) (w : (Cond.constantLong B.own i z).before a0 Z = true) (hq : pc + 3 = q) (K : W l Z n0 R B Q h cells slots q Ls (.long z :: St)) : W l Z n0 R B Q h cells slots pc Ls St := by
  subst hq; exact W.same K (fun p e s m args below meth c T locs C X eT t hr => X.ldc2J (g := mkF m pc ⟨Ls⟩ St) C.1 C.2.2.2.2.1 (mvT C.2.2.2.1 w) rfl (hb C.2.1 hd) hr)
theorem W.lconst {k : Fin 2} {z : Int64} (hd : decode B.bytes pc = .ok (.lconst k, 1)) (hz : Int64.ofNat k.val = z) (hq : pc + 1 = q) (K : W l Z n0 R B Q h cells slots q Ls (.long z :: St)) : W l Z n0 R B Q h cells slots pc Ls St := by
  subst hq hz; exact W.same K (fun p e s m args below meth c T locs C X eT t hr => XS.lconst (g := mkF m pc ⟨Ls⟩ St) X.here C.1 rfl (hb C.2.1 hd) hr)
theorem W.aconstNull (hd : decode B.bytes pc = .ok (.aconst_null, 1)) (hq : pc + 1 = q) (K : W l Z n0 R B Q h cells slots q Ls (.null :: St)) : W l Z n0 R B Q h cells slots pc Ls St := by
  subst hq; exact W.same K (fun p e s m args below meth c T locs C X eT t hr => XS.aconstNull (g := mkF m pc ⟨Ls⟩ St) X.here C.1 rfl (hb C.2.1 hd) hr)
theorem put1 {k : Nat} {o : Slot} {v : Value} (hp : Put Ls k (.val v) Ls') (ho : Ls[k]? = some o) (h1 : o = .unset ∨ ∃ w, o = .val w ∧ w.category = 1) (hv : v.category = 1) : storeLocals ⟨Ls⟩ k v = some ⟨Ls'⟩ := by
  rw [XS.store1 (l := ⟨Ls⟩) (o := o) (by simpa using ho) h1 hv, hp.1]; simp
def one1 : Slot → Bool
  | .unset => true
  | .val w => w.category == 1
  | _ => false
theorem one1_of {o : Slot} (h : one1 o = true) : o = .unset ∨ ∃ w, o = .val w ∧ w.category = 1 := by
  cases o <;> simp_all [one1]
theorem W.istore {k : Nat} {o : Slot} {v : Int32} (hd : decode B.bytes pc = .ok (.istore k, 2)) (hp : Put Ls k (.val (.int v)) Ls') (ho : Ls[k]? = some o) (h1 : one1 o = true) (hq : pc + 2 = q) (K : W l Z n0 R B Q h cells slots q Ls' St) : W l Z n0 R B Q h cells slots pc Ls (.int v :: St) := by
  subst hq; exact W.same K (fun p e s m args below meth c T locs C X eT t hr => XS.istore (g := mkF m pc ⟨Ls⟩ (.int v :: St)) X.here C.1 rfl (hb C.2.1 hd) rfl (put1 hp ho (one1_of h1) rfl) hr)
theorem W.istoreN {k : Fin 4} {o : Slot} {v : Int32} (hd : decode B.bytes pc = .ok (.istore_n k, 1)) (hp : Put Ls k.val (.val (.int v)) Ls') (ho : Ls[k.val]? = some o) (h1 : one1 o = true) (hq : pc + 1 = q) (K : W l Z n0 R B Q h cells slots q Ls' St) : W l Z n0 R B Q h cells slots pc Ls (.int v :: St) := by
  subst hq; exact W.same K (fun p e s m args below meth c T locs C X eT t hr => XS.istoreN (g := mkF m pc ⟨Ls⟩ (.int v :: St)) X.here C.1 rfl (hb C.2.1 hd) rfl (put1 hp ho (one1_of h1) rfl) hr)
theorem W.astore {k : Nat} {o : Slot} {v : Value} (hd : decode B.bytes pc = .ok (.astore k, 2)) (hv : v.isRef = true) (hp : Put Ls k (.val v) Ls') (ho : Ls[k]? = some o) (h1 : one1 o = true) (hq : pc + 2 = q) (K : W l Z n0 R B Q h cells slots q Ls' St) : W l Z n0 R B Q h cells slots pc Ls (v :: St) := by
  subst hq; exact W.same K (fun p e s m args below meth c T locs C X eT t hr => XS.astore (g := mkF m pc ⟨Ls⟩ (v :: St)) X.here C.1 rfl (hb C.2.1 hd) rfl hv (put1 hp ho (one1_of h1) (by cases v <;> simp_all [Value.isRef, Value.category])) hr)
theorem W.astoreN {k : Fin 4} {o : Slot} {v : Value} (hd : decode B.bytes pc = .ok (.astore_n k, 1)) (hv : v.isRef = true) (hp : Put Ls k.val (.val v) Ls') (ho : Ls[k.val]? = some o) (h1 : one1 o = true) (hq : pc + 1 = q) (K : W l Z n0 R B Q h cells slots q Ls' St) : W l Z n0 R B Q h cells slots pc Ls (v :: St) := by
  subst hq; exact W.same K (fun p e s m args below meth c T locs C X eT t hr => XS.astoreN (g := mkF m pc ⟨Ls⟩ (v :: St)) X.here C.1 rfl (hb C.2.1 hd) rfl hv (put1 hp ho (one1_of h1) (by cases v <;> simp_all [Value.isRef, Value.category])) hr)
theorem W.iinc {k : Nat} {cst : Int} {x z : Int32} (hd : decode B.bytes pc = .ok (.iinc k cst, 3)) (hl : Ls[k]? = some (.val (.int x))) (hz : Int32.ofInt cst = z) (hp : Put Ls k (.val (.int (x + z))) Ls') (hq : pc + 3 = q) (K : W l Z n0 R B Q h cells slots q Ls' St) : W l Z n0 R B Q h cells slots pc Ls St := by
  subst hq hz; exact W.same K (fun p e s m args below meth c T locs C X eT t hr => XS.iinc (g := mkF m pc ⟨Ls⟩ St) X.here C.1 rfl (hb C.2.1 hd) (by simpa using hl) (put1 hp hl (Or.inr ⟨_, rfl, rfl⟩) rfl) hr)
/-- l' is l with the long v at its k-th and k+1-st place -/
def Put2 (l : List Slot) (k : Nat) (v : Value) (l' : List Slot) : Prop := l' = (l.set k (.val v)).set (k + 1) .second ∧ k + 1 < l.length
theorem Put2.z {a b : Slot} {v : Value} {l : List Slot} : Put2 (a :: b :: l) 0 v (.val v :: .second :: l) := ⟨rfl, by simp⟩
theorem Put2.s {a : Slot} {v : Value} {l l' : List Slot} {k : Nat} (h : Put2 l k v l') : Put2 (a :: l) (k + 1) v (a :: l') := ⟨by simp [h.1], by simpa using h.2⟩
def two2 : Slot → Slot → Bool
  | .val w, .second => w.category == 2
  | o, o' => one1 o && one1 o'
theorem set_set_second (l : List Slot) (k : Nat) (v : Slot) : ((l.set (k + 1) .unset).set k v).set (k + 1) .second = (l.set k v).set (k + 1) .second := by
  apply List.ext_getElem? ; intro i; by_cases h1 : k + 1 = i <;> by_cases h2 : k = i <;> simp_all [List.getElem?_set]
theorem put2 {k : Nat} {o o' : Slot} {v : Value} (hp : Put2 Ls k v Ls') (ho : Ls[k]? = some o) (ho' : Ls[k + 1]? = some o') (h1 : two2 o o' = true) (hv : v.category = 2) : storeLocals ⟨Ls⟩ k v = some ⟨Ls'⟩ := by
  obtain ⟨rfl, hk⟩ := hp
  have hk' : k < Ls.length := by omega
  have e1 := (List.getElem?_eq_some_iff.mp ho).2
  have e2 := (List.getElem?_eq_some_iff.mp ho').2
  cases o <;> cases o' <;> simp [two2, one1] at h1 <;> simp [storeLocals, storeSelf, setAt, hv, hk, hk', e1, e2, h1, List.getElem_set, set_set_second]
theorem W.lstore {k : Nat} {o o' : Slot} {v : Int64} (hd : decode B.bytes pc = .ok (.lstore k, 2)) (hp : Put2 Ls k (.long v) Ls') (ho : Ls[k]? = some o) (ho' : Ls[k + 1]? = some o') (h1 : two2 o o' = true) (hq : pc + 2 = q) (K : W l Z n0 R B Q h cells slots q Ls' St) : W l Z n0 R B Q h cells slots pc Ls (.long v :: St) := by
  subst hq; exact W.same K (fun p e s m args below meth c T locs C X eT t hr => XS.lstore (g := mkF m pc ⟨Ls⟩ (.long v :: St)) X.here C.1 rfl (hb C.2.1 hd) rfl (put2 hp ho ho' h1 rfl) hr)
theorem W.lstoreN {k : Fin 4} {o o' : Slot} {v : Int64} (hd : decode B.bytes pc = .ok (.lstore_n k, 1)) (hp : Put2 Ls k.val (.long v) Ls') (ho : Ls[k.val]? = some o) (ho' : Ls[k.val + 1]? = some o') (h1 : two2 o o' = true) (hq : pc + 1 = q) (K : W l Z n0 R B Q h cells slots q Ls' St) : W l Z n0 R B Q h cells slots pc Ls (.long v :: St) := by
  subst hq; exact W.same K (fun p e s m args below meth c T locs C X eT t hr => XS.lstoreN (g := mkF m pc ⟨Ls⟩ (.long v :: St)) X.here C.1 rfl (hb C.2.1 hd) rfl (put2 hp ho ho' h1 rfl) hr)
theorem W.iadd {x : Int32} {y : Int32} (hd : decode B.bytes pc = .ok (.iadd, 1)) (hq : pc + 1 = q) (K : W l Z n0 R B Q h cells slots q Ls (.int (x + y) :: St)) : W l Z n0 R B Q h cells slots pc Ls (.int y :: .int x :: St) := by
  subst hq; exact W.same K (fun p e s m args below meth c T locs C X eT t hr => XS.iadd (g := mkF m pc ⟨Ls⟩ (.int y :: .int x :: St)) X.here C.1 rfl (hb C.2.1 hd) rfl hr)
theorem W.isub {x : Int32} {y : Int32} (hd : decode B.bytes pc = .ok (.isub, 1)) (hq : pc + 1 = q) (K : W l Z n0 R B Q h cells slots q Ls (.int (x - y) :: St)) : W l Z n0 R B Q h cells slots pc Ls (.int y :: .int x :: St) := by
  subst hq; exact W.same K (fun p e s m args below meth c T locs C X eT t hr => XS.isub (g := mkF m pc ⟨Ls⟩ (.int y :: .int x :: St)) X.here C.1 rfl (hb C.2.1 hd) rfl hr)
theorem W.imul {x : Int32} {y : Int32} (hd : decode B.bytes pc = .ok (.imul, 1)) (hq : pc + 1 = q) (K : W l Z n0 R B Q h cells slots q Ls (.int (x * y) :: St)) : W l Z n0 R B Q h cells slots pc Ls (.int y :: .int x :: St) := by
  subst hq; exact W.same K (fun p e s m args below meth c T locs C X eT t hr => XS.imul (g := mkF m pc ⟨Ls⟩ (.int y :: .int x :: St)) X.here C.1 rfl (hb C.2.1 hd) rfl hr)
theorem W.iand {x : Int32} {y : Int32} (hd : decode B.bytes pc = .ok (.iand, 1)) (hq : pc + 1 = q) (K : W l Z n0 R B Q h cells slots q Ls (.int (x &&& y) :: St)) : W l Z n0 R B Q h cells slots pc Ls (.int y :: .int x :: St) := by
  subst hq; exact W.same K (fun p e s m args below meth c T locs C X eT t hr => XS.iand (g := mkF m pc ⟨Ls⟩ (.int y :: .int x :: St)) X.here C.1 rfl (hb C.2.1 hd) rfl hr)
theorem W.ior {x : Int32} {y : Int32} (hd : decode B.bytes pc = .ok (.ior, 1)) (hq : pc + 1 = q) (K : W l Z n0 R B Q h cells slots q Ls (.int (x ||| y) :: St)) : W l Z n0 R B Q h cells slots pc Ls (.int y :: .int x :: St) := by
  subst hq; exact W.same K (fun p e s m args below meth c T locs C X eT t hr => XS.ior (g := mkF m pc ⟨Ls⟩ (.int y :: .int x :: St)) X.here C.1 rfl (hb C.2.1 hd) rfl hr)
theorem W.ixor {x : Int32} {y : Int32} (hd : decode B.bytes pc = .ok (.ixor, 1)) (hq : pc + 1 = q) (K : W l Z n0 R B Q h cells slots q Ls (.int (x ^^^ y) :: St)) : W l Z n0 R B Q h cells slots pc Ls (.int y :: .int x :: St) := by
  subst hq; exact W.same K (fun p e s m args below meth c T locs C X eT t hr => XS.ixor (g := mkF m pc ⟨Ls⟩ (.int y :: .int x :: St)) X.here C.1 rfl (hb C.2.1 hd) rfl hr)
theorem W.ishl {x : Int32} {y : Int32} (hd : decode B.bytes pc = .ok (.ishl, 1)) (hq : pc + 1 = q) (K : W l Z n0 R B Q h cells slots q Ls (.int (x <<< (y &&& 0x1f)) :: St)) : W l Z n0 R B Q h cells slots pc Ls (.int y :: .int x :: St) := by
  subst hq; exact W.same K (fun p e s m args below meth c T locs C X eT t hr => XS.ishl (g := mkF m pc ⟨Ls⟩ (.int y :: .int x :: St)) X.here C.1 rfl (hb C.2.1 hd) rfl hr)
theorem W.ishr {x : Int32} {y : Int32} (hd : decode B.bytes pc = .ok (.ishr, 1)) (hq : pc + 1 = q) (K : W l Z n0 R B Q h cells slots q Ls (.int (x >>> (y &&& 0x1f)) :: St)) : W l Z n0 R B Q h cells slots pc Ls (.int y :: .int x :: St) := by
  subst hq; exact W.same K (fun p e s m args below meth c T locs C X eT t hr => XS.ishr (g := mkF m pc ⟨Ls⟩ (.int y :: .int x :: St)) X.here C.1 rfl (hb C.2.1 hd) rfl hr)
theorem W.iushr {x : Int32} {y : Int32} (hd : decode B.bytes pc = .ok (.iushr, 1)) (hq : pc + 1 = q) (K : W l Z n0 R B Q h cells slots q Ls (.int ((x.toUInt32 >>> (y &&& 0x1f).toUInt32).toInt32) :: St)) : W l Z n0 R B Q h cells slots pc Ls (.int y :: .int x :: St) := by
  subst hq; exact W.same K (fun p e s m args below meth c T locs C X eT t hr => XS.iushr (g := mkF m pc ⟨Ls⟩ (.int y :: .int x :: St)) X.here C.1 rfl (hb C.2.1 hd) rfl hr)
theorem W.ladd {x : Int64} {y : Int64} (hd : decode B.bytes pc = .ok (.ladd, 1)) (hq : pc + 1 = q) (K : W l Z n0 R B Q h cells slots q Ls (.long (x + y) :: St)) : W l Z n0 R B Q h cells slots pc Ls (.long y :: .long x :: St) := by
  subst hq; exact W.same K (fun p e s m args below meth c T locs C X eT t hr => XS.ladd (g := mkF m pc ⟨Ls⟩ (.long y :: .long x :: St)) X.here C.1 rfl (hb C.2.1 hd) rfl hr)
theorem W.lsub {x : Int64} {y : Int64} (hd : decode B.bytes pc = .ok (.lsub, 1)) (hq : pc + 1 = q) (K : W l Z n0 R B Q h cells slots q Ls (.long (x - y) :: St)) : W l Z n0 R B Q h cells slots pc Ls (.long y :: .long x :: St) := by
  subst hq; exact W.same K (fun p e s m args below meth c T locs C X eT t hr => XS.lsub (g := mkF m pc ⟨Ls⟩ (.long y :: .long x :: St)) X.here C.1 rfl (hb C.2.1 hd) rfl hr)
theorem W.lmul {x : Int64} {y : Int64} (hd : decode B.bytes pc = .ok (.lmul, 1)) (hq : pc + 1 = q) (K : W l Z n0 R B Q h cells slots q Ls (.long (x * y) :: St)) : W l Z n0 R B Q h cells slots pc Ls (.long y :: .long x :: St) := by
  subst hq; exact W.same K (fun p e s m args below meth c T locs C X eT t hr => XS.lmul (g := mkF m pc ⟨Ls⟩ (.long y :: .long x :: St)) X.here C.1 rfl (hb C.2.1 hd) rfl hr)
theorem W.land {x : Int64} {y : Int64} (hd : decode B.bytes pc = .ok (.land, 1)) (hq : pc + 1 = q) (K : W l Z n0 R B Q h cells slots q Ls (.long (x &&& y) :: St)) : W l Z n0 R B Q h cells slots pc Ls (.long y :: .long x :: St) := by
  subst hq; exact W.same K (fun p e s m args below meth c T locs C X eT t hr => XS.land (g := mkF m pc ⟨Ls⟩ (.long y :: .long x :: St)) X.here C.1 rfl (hb C.2.1 hd) rfl hr)
theorem W.lor {x : Int64} {y : Int64} (hd : decode B.bytes pc = .ok (.lor, 1)) (hq : pc + 1 = q) (K : W l Z n0 R B Q h cells slots q Ls (.long (x ||| y) :: St)) : W l Z n0 R B Q h cells slots pc Ls (.long y :: .long x :: St) := by
  subst hq; exact W.same K (fun p e s m args below meth c T locs C X eT t hr => XS.lor (g := mkF m pc ⟨Ls⟩ (.long y :: .long x :: St)) X.here C.1 rfl (hb C.2.1 hd) rfl hr)
theorem W.lxor {x : Int64} {y : Int64} (hd : decode B.bytes pc = .ok (.lxor, 1)) (hq : pc + 1 = q) (K : W l Z n0 R B Q h cells slots q Ls (.long (x ^^^ y) :: St)) : W l Z n0 R B Q h cells slots pc Ls (.long y :: .long x :: St) := by
  subst hq; exact W.same K (fun p e s m args below meth c T locs C X eT t hr => XS.lxor (g := mkF m pc ⟨Ls⟩ (.long y :: .long x :: St)) X.here C.1 rfl (hb C.2.1 hd) rfl hr)
theorem W.lshl {x : Int64} {y : Int32} (hd : decode B.bytes pc = .ok (.lshl, 1)) (hq : pc + 1 = q) (K : W l Z n0 R B Q h cells slots q Ls (.long (x <<< (y &&& 0x3f).toInt64) :: St)) : W l Z n0 R B Q h cells slots pc Ls (.int y :: .long x :: St) := by
  subst hq; exact W.same K (fun p e s m args below meth c T locs C X eT t hr => XS.lshl (g := mkF m pc ⟨Ls⟩ (.int y :: .long x :: St)) X.here C.1 rfl (hb C.2.1 hd) rfl hr)
theorem W.lshr {x : Int64} {y : Int32} (hd : decode B.bytes pc = .ok (.lshr, 1)) (hq : pc + 1 = q) (K : W l Z n0 R B Q h cells slots q Ls (.long (x >>> (y &&& 0x3f).toInt64) :: St)) : W l Z n0 R B Q h cells slots pc Ls (.int y :: .long x :: St) := by
  subst hq; exact W.same K (fun p e s m args below meth c T locs C X eT t hr => XS.lshr (g := mkF m pc ⟨Ls⟩ (.int y :: .long x :: St)) X.here C.1 rfl (hb C.2.1 hd) rfl hr)
theorem W.lushr {x : Int64} {y : Int32} (hd : decode B.bytes pc = .ok (.lushr, 1)) (hq : pc + 1 = q) (K : W l Z n0 R B Q h cells slots q Ls (.long ((x.toUInt64 >>> (y &&& 0x3f).toInt64.toUInt64).toInt64) :: St)) : W l Z n0 R B Q h cells slots pc Ls (.int y :: .long x :: St) := by
  subst hq; exact W.same K (fun p e s m args below meth c T locs C X eT t hr => XS.lushr (g := mkF m pc ⟨Ls⟩ (.int y :: .long x :: St)) X.here C.1 rfl (hb C.2.1 hd) rfl hr)
theorem W.lcmp {x : Int64} {y : Int64} (hd : decode B.bytes pc = .ok (.lcmp, 1)) (hq : pc + 1 = q) (K : W l Z n0 R B Q h cells slots q Ls (.int (lcmpW x y) :: St)) : W l Z n0 R B Q h cells slots pc Ls (.long y :: .long x :: St) := by
  subst hq; exact W.same K (fun p e s m args below meth c T locs C X eT t hr => XS.lcmp (g := mkF m pc ⟨Ls⟩ (.long y :: .long x :: St)) X.here C.1 rfl (hb C.2.1 hd) rfl hr)
theorem W.ineg {x : Int32} (hd : decode B.bytes pc = .ok (.ineg, 1)) (hq : pc + 1 = q) (K : W l Z n0 R B Q h cells slots q Ls (.int (-x) :: St)) : W l Z n0 R B Q h cells slots pc Ls (.int x :: St) := by
  subst hq; exact W.same K (fun p e s m args below meth c T locs C X eT t hr => XS.ineg (g := mkF m pc ⟨Ls⟩ (.int x :: St)) X.here C.1 rfl (hb C.2.1 hd) rfl hr)
theorem W.i2l {x : Int32} (hd : decode B.bytes pc = .ok (.i2l, 1)) (hq : pc + 1 = q) (K : W l Z n0 R B Q h cells slots q Ls (.long (x.toInt64) :: St)) : W l Z n0 R B Q h cells slots pc Ls (.int x :: St) := by
  subst hq; exact W.same K (fun p e s m args below meth c T locs C X eT t hr => XS.i2l (g := mkF m pc ⟨Ls⟩ (.int x :: St)) X.here C.1 rfl (hb C.2.1 hd) rfl hr)
theorem W.l2i {x : Int64} (hd : decode B.bytes pc = .ok (.l2i, 1)) (hq : pc + 1 = q) (K : W l Z n0 R B Q h cells slots q Ls (.int (x.toInt32) :: St)) : W l Z n0 R B Q h cells slots pc Ls (.long x :: St) := by
  subst hq; exact W.same K (fun p e s m args below meth c T locs C X eT t hr => XS.l2i (g := mkF m pc ⟨Ls⟩ (.long x :: St)) X.here C.1 rfl (hb C.2.1 hd) rfl hr)
theorem W.i2b {x : Int32} (hd : decode B.bytes pc = .ok (.i2b, 1)) (hq : pc + 1 = q) (K : W l Z n0 R B Q h cells slots q Ls (.int (x.toInt8.toInt32) :: St)) : W l Z n0 R B Q h cells slots pc Ls (.int x :: St) := by
  subst hq; exact W.same K (fun p e s m args below meth c T locs C X eT t hr => XS.i2b (g := mkF m pc ⟨Ls⟩ (.int x :: St)) X.here C.1 rfl (hb C.2.1 hd) rfl hr)
theorem W.i2c {x : Int32} (hd : decode B.bytes pc = .ok (.i2c, 1)) (hq : pc + 1 = q) (K : W l Z n0 R B Q h cells slots q Ls (.int (x.toUInt32.toUInt16.toUInt32.toInt32) :: St)) : W l Z n0 R B Q h cells slots pc Ls (.int x :: St) := by
  subst hq; exact W.same K (fun p e s m args below meth c T locs C X eT t hr => XS.i2c (g := mkF m pc ⟨Ls⟩ (.int x :: St)) X.here C.1 rfl (hb C.2.1 hd) rfl hr)
theorem W.i2s {x : Int32} (hd : decode B.bytes pc = .ok (.i2s, 1)) (hq : pc + 1 = q) (K : W l Z n0 R B Q h cells slots q Ls (.int (x.toInt16.toInt32) :: St)) : W l Z n0 R B Q h cells slots pc Ls (.int x :: St) := by
  subst hq; exact W.same K (fun p e s m args below meth c T locs C X eT t hr => XS.i2s (g := mkF m pc ⟨Ls⟩ (.int x :: St)) X.here C.1 rfl (hb C.2.1 hd) rfl hr)
theorem W.irem {x y : Int32} (hd : decode B.bytes pc = .ok (.irem, 1)) (hy : y ≠ 0) (hq : pc + 1 = q) (K : W l Z n0 R B Q h cells slots q Ls (.int (x % y) :: St)) : W l Z n0 R B Q h cells slots pc Ls (.int y :: .int x :: St) := by
  subst hq; exact W.same K (fun p e s m args below meth c T locs C X eT t hr => iremM (g := mkF m pc ⟨Ls⟩ (.int y :: .int x :: St)) X C.1 rfl (hb C.2.1 hd) rfl hy hr)
theorem W.idiv {x y : Int32} (hd : decode B.bytes pc = .ok (.idiv, 1)) (hy : y ≠ 0) (hq : pc + 1 = q) (K : W l Z n0 R B Q h cells slots q Ls (.int (x / y) :: St)) : W l Z n0 R B Q h cells slots pc Ls (.int y :: .int x :: St) := by
  subst hq; exact W.same K (fun p e s m args below meth c T locs C X eT t hr => XS.idiv (g := mkF m pc ⟨Ls⟩ (.int y :: .int x :: St)) X.here C.1 rfl (hb C.2.1 hd) rfl hy hr)
theorem W.dup {x : Value} (hd : decode B.bytes pc = .ok (.dup, 1)) (hc : x.category = 1) (hq : pc + 1 = q) (K : W l Z n0 R B Q h cells slots q Ls (x :: x :: St)) : W l Z n0 R B Q h cells slots pc Ls (x :: St) := by
  subst hq; exact W.same K (fun p e s m args below meth c T locs C X eT t hr => XS.dup (g := mkF m pc ⟨Ls⟩ (x :: St)) X.here C.1 rfl (hb C.2.1 hd) rfl hc hr)
theorem W.pop {x : Value} (hd : decode B.bytes pc = .ok (.pop, 1)) (hc : x.category = 1) (hq : pc + 1 = q) (K : W l Z n0 R B Q h cells slots q Ls St) : W l Z n0 R B Q h cells slots pc Ls (x :: St) := by
  subst hq; exact W.same K (fun p e s m args below meth c T locs C X eT t hr => XS.pop (g := mkF m pc ⟨Ls⟩ (x :: St)) X.here C.1 rfl (hb C.2.1 hd) rfl hc hr)
theorem W.dup2 {x y : Value} (hd : decode B.bytes pc = .ok (.dup2, 1)) (hc : x.category = 1) (hc' : y.category = 1) (hq : pc + 1 = q) (K : W l Z n0 R B Q h cells slots q Ls (x :: y :: x :: y :: St)) : W l Z n0 R B Q h cells slots pc Ls (x :: y :: St) := by
  subst hq; exact W.same K (fun p e s m args below meth c T locs C X eT t hr => XT.dup2 (g := mkF m pc ⟨Ls⟩ (x :: y :: St)) X.here C.1 rfl (hb C.2.1 hd) rfl hc hc' hr)
theorem W.goto {o : Int} (hd : decode B.bytes pc = .ok (.goto o, 3)) (ho : 0 ≤ (pc : Int) + o) (hq : ((pc : Int) + o).toNat = q) (K : W l Z n0 R B Q h cells slots q Ls St) : W l Z n0 R B Q h cells slots pc Ls St :=
  W.same K (fun p e s m args below meth c T locs C X eT t hr => XS.goto (g := mkF m pc ⟨Ls⟩ St) X.here C.1 rfl rfl (hb C.2.1 hd) ho hq hr)
theorem W.icmp {cd : ClassFile.Cond} {o : Int} {x y : Int32} {q' : Nat} (hd : decode B.bytes pc = .ok (.if_icmp cd o, 3)) (ho : 0 ≤ (pc : Int) + o) (hq : ((pc : Int) + o).toNat = q) (hq' : pc + 3 = q') (K1 : if_icmp.holds cd x y = true → W l Z n0 R B Q h cells slots q Ls St) (K2 : if_icmp.holds cd x y = false → W l Z n0 R B Q h cells slots q' Ls St) : W l Z n0 R B Q h cells slots pc Ls (.int y :: .int x :: St) := by
  subst hq'
  rcases Bool.eq_false_or_eq_true (if_icmp.holds cd x y) with hc | hc
  · exact W.same (K1 hc) (fun p e s m args below meth c T locs C X eT t hr => XS.icmpYes (g := mkF m pc ⟨Ls⟩ (.int y :: .int x :: St)) X.here C.1 rfl rfl (hb C.2.1 hd) rfl hc ho hq hr)
  · exact W.same (K2 hc) (fun p e s m args below meth c T locs C X eT t hr => XS.icmpNo (g := mkF m pc ⟨Ls⟩ (.int y :: .int x :: St)) X.here C.1 rfl (hb C.2.1 hd) rfl hc hr)
theorem W.ifc {cd : ClassFile.Cond} {o : Int} {x : Int32} {q' : Nat} (hd : decode B.bytes pc = .ok (.ifCond cd o, 3)) (ho : 0 ≤ (pc : Int) + o) (hq : ((pc : Int) + o).toNat = q) (hq' : pc + 3 = q') (K1 : if_icmp.holds cd x 0 = true → W l Z n0 R B Q h cells slots q Ls St) (K2 : if_icmp.holds cd x 0 = false → W l Z n0 R B Q h cells slots q' Ls St) : W l Z n0 R B Q h cells slots pc Ls (.int x :: St) := by
  subst hq'
  rcases Bool.eq_false_or_eq_true (if_icmp.holds cd x 0) with hc | hc
  · exact W.same (K1 hc) (fun p e s m args below meth c T locs C X eT t hr => XS.ifYes (g := mkF m pc ⟨Ls⟩ (.int x :: St)) X.here C.1 rfl rfl (hb C.2.1 hd) rfl ((if0 cd x).trans hc) ho hq hr)
  · exact W.same (K2 hc) (fun p e s m args below meth c T locs C X eT t hr => XS.ifNo (g := mkF m pc ⟨Ls⟩ (.int x :: St)) X.here C.1 rfl (hb C.2.1 hd) rfl ((if0 cd x).trans hc) hr)
theorem W.icmp_eq {o : Int} {x y : Int32} {q' : Nat} (hd : decode B.bytes pc = .ok (.if_icmp .eq o, 3)) (ho : 0 ≤ (pc : Int) + o) (hq : ((pc : Int) + o).toNat = q) (hq' : pc + 3 = q') (K1 : x = y → W l Z n0 R B Q h cells slots q Ls St) (K2 : ¬ x = y → W l Z n0 R B Q h cells slots q' Ls St) : W l Z n0 R B Q h cells slots pc Ls (.int y :: .int x :: St) :=
  W.icmp hd ho hq hq' (fun hc => K1 (by simpa [if_icmp.holds, Int32.not_lt, Int32.not_le] using hc)) (fun hc => K2 (by simpa [if_icmp.holds, Int32.not_lt, Int32.not_le] using hc))
theorem W.ifc_eq {o : Int} {x : Int32} {q' : Nat} (hd : decode B.bytes pc = .ok (.ifCond .eq o, 3)) (ho : 0 ≤ (pc : Int) + o) (hq : ((pc : Int) + o).toNat = q) (hq' : pc + 3 = q') (K1 : x = 0 → W l Z n0 R B Q h cells slots q Ls St) (K2 : ¬ x = 0 → W l Z n0 R B Q h cells slots q' Ls St) : W l Z n0 R B Q h cells slots pc Ls (.int x :: St) :=
  W.ifc hd ho hq hq' (fun hc => K1 (by simpa [if_icmp.holds, Int32.not_lt, Int32.not_le] using hc)) (fun hc => K2 (by simpa [if_icmp.holds, Int32.not_lt, Int32.not_le] using hc))
theorem W.icmp_ne {o : Int} {x y : Int32} {q' : Nat} (hd : decode B.bytes pc = .ok (.if_icmp .ne o, 3)) (ho : 0 ≤ (pc : Int) + o) (hq : ((pc : Int) + o).toNat = q) (hq' : pc + 3 = q') (K1 : ¬ x = y → W l Z n0 R B Q h cells slots q Ls St) (K2 : x = y → W l Z n0 R B Q h cells slots q' Ls St) : W l Z n0 R B Q h cells slots pc Ls (.int y :: .int x :: St) :=
  W.icmp hd ho hq hq' (fun hc => K1 (by simpa [if_icmp.holds, Int32.not_lt, Int32.not_le] using hc)) (fun hc => K2 (by simpa [if_icmp.holds, Int32.not_lt, Int32.not_le] using hc))
theorem W.ifc_ne {o : Int} {x : Int32} {q' : Nat} (hd : decode B.bytes pc = .ok (.ifCond .ne o, 3)) (ho : 0 ≤ (pc : Int) + o) (hq : ((pc : Int) + o).toNat = q) (hq' : pc + 3 = q') (K1 : ¬ x = 0 → W l Z n0 R B Q h cells slots q Ls St) (K2 : x = 0 → W l Z n0 R B Q h cells slots q' Ls St) : W l Z n0 R B Q h cells slots pc Ls (.int x :: St) :=
  W.ifc hd ho hq hq' (fun hc => K1 (by simpa [if_icmp.holds, Int32.not_lt, Int32.not_le] using hc)) (fun hc => K2 (by simpa [if_icmp.holds, Int32.not_lt, Int32.not_le] using hc))
theorem W.icmp_lt {o : Int} {x y : Int32} {q' : Nat} (hd : decode B.bytes pc = .ok (.if_icmp .lt o, 3)) (ho : 0 ≤ (pc : Int) + o) (hq : ((pc : Int) + o).toNat = q) (hq' : pc + 3 = q') (K1 : x < y → W l Z n0 R B Q h cells slots q Ls St) (K2 : ¬ x < y → W l Z n0 R B Q h cells slots q' Ls St) : W l Z n0 R B Q h cells slots pc Ls (.int y :: .int x :: St) :=
  W.icmp hd ho hq hq' (fun hc => K1 (by simpa [if_icmp.holds, Int32.not_lt, Int32.not_le] using hc)) (fun hc => K2 (by simpa [if_icmp.holds, Int32.not_lt, Int32.not_le] using hc))
theorem W.ifc_lt {o : Int} {x : Int32} {q' : Nat} (hd : decode B.bytes pc = .ok (.ifCond .lt o, 3)) (ho : 0 ≤ (pc : Int) + o) (hq : ((pc : Int) + o).toNat = q) (hq' : pc + 3 = q') (K1 : x < 0 → W l Z n0 R B Q h cells slots q Ls St) (K2 : ¬ x < 0 → W l Z n0 R B Q h cells slots q' Ls St) : W l Z n0 R B Q h cells slots pc Ls (.int x :: St) :=
  W.ifc hd ho hq hq' (fun hc => K1 (by simpa [if_icmp.holds, Int32.not_lt, Int32.not_le] using hc)) (fun hc => K2 (by simpa [if_icmp.holds, Int32.not_lt, Int32.not_le] using hc))
theorem W.icmp_ge {o : Int} {x y : Int32} {q' : Nat} (hd : decode B.bytes pc = .ok (.if_icmp .ge o, 3)) (ho : 0 ≤ (pc : Int) + o) (hq : ((pc : Int) + o).toNat = q) (hq' : pc + 3 = q') (K1 : ¬ x < y → W l Z n0 R B Q h cells slots q Ls St) (K2 : x < y → W l Z n0 R B Q h cells slots q' Ls St) : W l Z n0 R B Q h cells slots pc Ls (.int y :: .int x :: St) :=
  W.icmp hd ho hq hq' (fun hc => K1 (by simpa [if_icmp.holds, Int32.not_lt, Int32.not_le] using hc)) (fun hc => K2 (by simpa [if_icmp.holds, Int32.not_lt, Int32.not_le] using hc))
theorem W.ifc_ge {o : Int} {x : Int32} {q' : Nat} (hd : decode B.bytes pc = .ok (.ifCond .ge o, 3)) (ho : 0 ≤ (pc : Int) + o) (hq : ((pc : Int) + o).toNat = q) (hq' : pc + 3 = q') (K1 : ¬ x < 0 → W l Z n0 R B Q h cells slots q Ls St) (K2 : x < 0 → W l Z n0 R B Q h cells slots q' Ls St) : W l Z n0 R B Q h cells slots pc Ls (.int x :: St) :=
  W.ifc hd ho hq hq' (fun hc => K1 (by simpa [if_icmp.holds, Int32.not_lt, Int32.not_le] using hc)) (fun hc => K2 (by simpa [if_icmp.holds, Int32.not_lt, Int32.not_le] using hc))
theorem W.icmp_gt {o : Int} {x y : Int32} {q' : Nat} (hd : decode B.bytes pc = .ok (.if_icmp .gt o, 3)) (ho : 0 ≤ (pc : Int) + o) (hq : ((pc : Int) + o).toNat = q) (hq' : pc + 3 = q') (K1 : y < x → W l Z n0 R B Q h cells slots q Ls St) (K2 : ¬ y < x → W l Z n0 R B Q h cells slots q' Ls St) : W l Z n0 R B Q h cells slots pc Ls (.int y :: .int x :: St) :=
  W.icmp hd ho hq hq' (fun hc => K1 (by simpa [if_icmp.holds, Int32.not_lt, Int32.not_le] using hc)) (fun hc => K2 (by simpa [if_icmp.holds, Int32.not_lt, Int32.not_le] using hc))
theorem W.ifc_gt {o : Int} {x : Int32} {q' : Nat} (hd : decode B.bytes pc = .ok (.ifCond .gt o, 3)) (ho : 0 ≤ (pc : Int) + o) (hq : ((pc : Int) + o).toNat = q) (hq' : pc + 3 = q') (K1 : 0 < x → W l Z n0 R B Q h cells slots q Ls St) (K2 : ¬ 0 < x → W l Z n0 R B Q h cells slots q' Ls St) : W l Z n0 R B Q h cells slots pc Ls (.int x :: St) :=
  W.ifc hd ho hq hq' (fun hc => K1 (by simpa [if_icmp.holds, Int32.not_lt, Int32.not_le] using hc)) (fun hc => K2 (by simpa [if_icmp.holds, Int32.not_lt, Int32.not_le] using hc))
theorem W.icmp_le {o : Int} {x y : Int32} {q' : Nat} (hd : decode B.bytes pc = .ok (.if_icmp .le o, 3)) (ho : 0 ≤ (pc : Int) + o) (hq : ((pc : Int) + o).toNat = q) (hq' : pc + 3 = q') (K1 : ¬ y < x → W l Z n0 R B Q h cells slots q Ls St) (K2 : y < x → W l Z n0 R B Q h cells slots q' Ls St) : W l Z n0 R B Q h cells slots pc Ls (.int y :: .int x :: St) :=
  W.icmp hd ho hq hq' (fun hc => K1 (by simpa [if_icmp.holds, Int32.not_lt, Int32.not_le] using hc)) (fun hc => K2 (by simpa [if_icmp.holds, Int32.not_lt, Int32.not_le] using hc))
theorem W.ifc_le {o : Int} {x : Int32} {q' : Nat} (hd : decode B.bytes pc = .ok (.ifCond .le o, 3)) (ho : 0 ≤ (pc : Int) + o) (hq : ((pc : Int) + o).toNat = q) (hq' : pc + 3 = q') (K1 : ¬ 0 < x → W l Z n0 R B Q h cells slots q Ls St) (K2 : 0 < x → W l Z n0 R B Q h cells slots q' Ls St) : W l Z n0 R B Q h cells slots pc Ls (.int x :: St) :=
  W.ifc hd ho hq hq' (fun hc => K1 (by simpa [if_icmp.holds, Int32.not_lt, Int32.not_le] using hc)) (fun hc => K2 (by simpa [if_icmp.holds, Int32.not_lt, Int32.not_le] using hc))
theorem W.ifnull_yes {o : Int} (hd : decode B.bytes pc = .ok (.ifnull o, 3)) (ho : 0 ≤ (pc : Int) + o) (hq : ((pc : Int) + o).toNat = q) (K : W l Z n0 R B Q h cells slots q Ls St) : W l Z n0 R B Q h cells slots pc Ls (.null :: St) :=
  W.same K (fun p e s m args below meth c T locs C X eT t hr => XS.ifnullYes (g := mkF m pc ⟨Ls⟩ (.null :: St)) X.here C.1 rfl rfl (hb C.2.1 hd) rfl ho hq hr)
theorem W.ifnull_no {o : Int} {b : Addr} (hd : decode B.bytes pc = .ok (.ifnull o, 3)) (hq : pc + 3 = q) (K : W l Z n0 R B Q h cells slots q Ls St) : W l Z n0 R B Q h cells slots pc Ls (.ref b :: St) := by
  subst hq; exact W.same K (fun p e s m args below meth c T locs C X eT t hr => XS.ifnullNo (g := mkF m pc ⟨Ls⟩ (.ref b :: St)) X.here C.1 rfl (hb C.2.1 hd) rfl hr)
theorem W.ifnonnull_yes {o : Int} {b : Addr} (hd : decode B.bytes pc = .ok (.ifnonnull o, 3)) (ho : 0 ≤ (pc : Int) + o) (hq : ((pc : Int) + o).toNat = q) (K : W l Z n0 R B Q h cells slots q Ls St) : W l Z n0 R B Q h cells slots pc Ls (.ref b :: St) :=
  W.same K (fun p e s m args below meth c T locs C X eT t hr => XS.ifnonnullYes (g := mkF m pc ⟨Ls⟩ (.ref b :: St)) X.here C.1 rfl rfl (hb C.2.1 hd) rfl ho hq hr)
theorem W.ifnonnull_no {o : Int} (hd : decode B.bytes pc = .ok (.ifnonnull o, 3)) (hq : pc + 3 = q) (K : W l Z n0 R B Q h cells slots q Ls St) : W l Z n0 R B Q h cells slots pc Ls (.null :: St) := by
  subst hq; exact W.same K (fun p e s m args below meth c T locs C X eT t hr => XS.ifnonnullNo (g := mkF m pc ⟨Ls⟩ (.null :: St)) X.here C.1 rfl (hb C.2.1 hd) rfl hr)
theorem W.acmp_ne {o : Int} {x y : Value} {q' : Nat} (hd : decode B.bytes pc = .ok (.if_acmp .ne o, 3)) (h1 : x.isRef = true) (h2 : y.isRef = true) (ho : 0 ≤ (pc : Int) + o) (hq : ((pc : Int) + o).toNat = q) (hq' : pc + 3 = q') (K1 : ¬ x = y → W l Z n0 R B Q h cells slots q Ls St) (K2 : x = y → W l Z n0 R B Q h cells slots q' Ls St) : W l Z n0 R B Q h cells slots pc Ls (y :: x :: St) := by
  subst hq hq'
  by_cases hc : x = y
  · exact W.same (K2 hc) (fun p e s m args below meth c T locs C X eT t hr => acmp (g := mkF m pc ⟨Ls⟩ (y :: x :: St)) X C.1 rfl h1 h2 rfl (hb C.2.1 hd) rfl (same := true) (by simpa using hc) ho (by simp [acV]) hr)
  · exact W.same (K1 hc) (fun p e s m args below meth c T locs C X eT t hr => acmp (g := mkF m pc ⟨Ls⟩ (y :: x :: St)) X C.1 rfl h1 h2 rfl (hb C.2.1 hd) rfl (same := false) (by simpa using hc) ho (by simp [acV]) hr)
theorem W.acmp_eq {o : Int} {x y : Value} {q' : Nat} (hd : decode B.bytes pc = .ok (.if_acmp .eq o, 3)) (h1 : x.isRef = true) (h2 : y.isRef = true) (ho : 0 ≤ (pc : Int) + o) (hq : ((pc : Int) + o).toNat = q) (hq' : pc + 3 = q') (K1 : x = y → W l Z n0 R B Q h cells slots q Ls St) (K2 : ¬ x = y → W l Z n0 R B Q h cells slots q' Ls St) : W l Z n0 R B Q h cells slots pc Ls (y :: x :: St) := by
  subst hq hq'
  by_cases hc : x = y
  · exact W.same (K1 hc) (fun p e s m args below meth c T locs C X eT t hr => acmp (g := mkF m pc ⟨Ls⟩ (y :: x :: St)) X C.1 rfl h1 h2 rfl (hb C.2.1 hd) rfl (same := true) (by simpa using hc) ho (by simp [acV]) hr)
  · exact W.same (K2 hc) (fun p e s m args below meth c T locs C X eT t hr => acmp (g := mkF m pc ⟨Ls⟩ (y :: x :: St)) X C.1 rfl h1 h2 rfl (hb C.2.1 hd) rfl (same := false) (by simpa using hc) ho (by simp [acV]) hr)
/-! ### the ends -/
theorem W.ireturn {z : Int32} (hd : decode B.bytes pc = .ok (.ireturn, 1)) (hret : B.ret = some .int) (hQ : Q (some (.int z)) h) : W l Z n0 R B Q h cells slots pc Ls (.int z :: St) := by
  intro p e s m args below meth c T locs C X eT N hc hs
  obtain ⟨fs, hr, hrun, hended, hW, hsame⟩ := X.leave (v := some (.int z)) (fun q => by rw [C.2.2.2.2.2.1, hret] at q; cases q) C.2.2.2.2.2.2.1
  exact ⟨_, _, locs, retOut X C.1 (C.2.2.2.2.2.1.trans hret) rfl (Or.inl ⟨rfl, Or.inl rfl, _, rfl⟩) (hb C.2.1 hd) hr, hrun, hended, eT ▸ hQ, N, ⟨_, rfl⟩, hW, hsame.mono hc hs⟩
theorem W.lreturn {z : Int64} (hd : decode B.bytes pc = .ok (.lreturn, 1)) (hret : B.ret = some .long) (hQ : Q (some (.long z)) h) : W l Z n0 R B Q h cells slots pc Ls (.long z :: St) := by
  intro p e s m args below meth c T locs C X eT N hc hs
  obtain ⟨fs, hr, hrun, hended, hW, hsame⟩ := X.leave (v := some (.long z)) (fun q => by rw [C.2.2.2.2.2.1, hret] at q; cases q) C.2.2.2.2.2.2.1
  exact ⟨_, _, locs, retOut X C.1 (C.2.2.2.2.2.1.trans hret) rfl (Or.inr (Or.inl ⟨rfl, rfl, _, rfl⟩)) (hb C.2.1 hd) hr, hrun, hended, eT ▸ hQ, N, ⟨_, rfl⟩, hW, hsame.mono hc hs⟩
theorem W.areturn {w : Value} {t : FieldType} (hd : decode B.bytes pc = .ok (.areturn, 1)) (hret : B.ret = some t) (ht : t.isReference = true) (hw : w.isRef = true) (hn : narrow t w = w) (hQ : Q (some w) h) : W l Z n0 R B Q h cells slots pc Ls (w :: St) := by
  intro p e s m args below meth c T locs C X eT N hc hs
  obtain ⟨fs, hr, hrun, hended, hW, hsame⟩ := X.leave (v := some w) (fun q => by rw [C.2.2.2.2.2.1, hret] at q; cases q) C.2.2.2.2.2.2.1
  exact ⟨_, _, locs, retOut X C.1 (C.2.2.2.2.2.1.trans hret) hn (Or.inr (Or.inr (Or.inr (Or.inr ⟨rfl, ht, hw⟩)))) (hb C.2.1 hd) hr, hrun, hended, eT ▸ hQ, N, ⟨_, rfl⟩, hW, hsame.mono hc hs⟩
theorem W.ireturnN {z z' : Int32} {t : FieldType} (hd : decode B.bytes pc = .ok (.ireturn, 1)) (hret : B.ret = some t) (ht : t = .boolean ∨ t = .byte ∨ t = .char ∨ t = .short) (hz : nar t z = z') (hQ : Q (some (.int z')) h) : W l Z n0 R B Q h cells slots pc Ls (.int z :: St) := by
  intro p e s m args below meth c T locs C X eT N hc hs
  subst hz
  obtain ⟨fs, hr, hrun, hended, hW, hsame⟩ := X.leave (v := some (.int (nar t z))) (fun q => by rw [C.2.2.2.2.2.1, hret] at q; cases q) C.2.2.2.2.2.2.1
  exact ⟨_, _, locs, retN X C.1 (C.2.2.2.2.2.1.trans hret) ht (hb C.2.1 hd) hr, hrun, hended, eT ▸ hQ, N, ⟨_, rfl⟩, hW, hsame.mono hc hs⟩
theorem W.vret (hd : decode B.bytes pc = .ok (.return_, 1)) (hret : B.ret = none) (hQ : Q none h) : W l Z n0 R B Q h cells slots pc Ls [] := by
  intro p e s m args below meth c T locs C X eT N hc hs
  obtain ⟨fs, hr, hrun, hended, hW, hsame⟩ := X.leave (v := none) (fun _ => rfl) C.2.2.2.2.2.2.1
  exact ⟨_, _, locs, X.returnOut C.1 (C.2.2.2.2.2.1.trans hret) (hb C.2.1 hd) hr, hrun, hended, eT ▸ hQ, N, ⟨_, rfl⟩, hW, hsame.mono hc hs⟩
theorem W.mono {Q' : Option Value → Heap → Prop} (hQ : ∀ v h, Q v h → Q' v h) (K : W l Z n0 R B Q h cells slots pc Ls St) : W l Z n0 R B Q' h cells slots pc Ls St := by
  intro p e s m args below meth c T locs C X eT N hc hs
  obtain ⟨s₂, v, L, h1, h2, h3, h4, h5⟩ := K p e s m args below meth c T locs C X eT N hc hs
  exact ⟨s₂, v, L, h1, h2, h3, hQ _ _ h4, h5⟩
theorem W.weak {c' s' : Nat} (hc : cells ≤ c') (hs : slots ≤ s') (hR : c' ≤ R.cells) (hR' : s' ≤ R.slots) (K : W l Z n0 R B Q h c' s' pc Ls St) : W l Z n0 R B Q h cells slots pc Ls St := by
  intro p e s m args below meth c T locs C X eT N _ _
  exact K p e s m args below meth c T locs C (X.more hc hs) eT N hR hR'
/-! ### arrays of ints (bytes, booleans, chars, shorts) and of longs -/
def AI (Z : State) (h : Heap) (a : Addr) (ty : FieldType) (xs : List Int32) : Prop := ∃ cl : Cell, Arr Z h a cl ty ∧ cl.slots = ⟨xs.map Value.int⟩ ∧ xs.length < 2 ^ 31
def AJ (Z : State) (h : Heap) (a : Addr) (xs : List Int64) : Prop := ∃ cl : Cell, Arr Z h a cl .long ∧ cl.slots = ⟨xs.map Value.long⟩ ∧ xs.length < 2 ^ 31
section Facts
variable {h' : Heap} {a b : Addr} {ty : FieldType} {xs : List Int32} {ys : List Int64} {sl : Nat} {v : Value} {ws : List Addr}
theorem AI.lt (A : AI Z h a ty xs) : a < h.size := by obtain ⟨c, A, -⟩ := A; exact A.lt
theorem AI.ext (A : AI Z h a ty xs) (E : Ext h h') : AI Z h' a ty xs := by obtain ⟨c, A, r⟩ := A; exact ⟨c, A.ext E, r⟩
theorem AI.keep (A : AI Z h a ty xs) (K : Keep h h' ws) (q : a ∉ ws) : AI Z h' a ty xs := by obtain ⟨c, A, r⟩ := A; exact ⟨c, ⟨K.2.1 a c A.1 q, A.2⟩, r⟩
theorem AI.other (A : AI Z h b ty xs) (w : Wr h h' a sl v) (q : b ≠ a) : AI Z h' b ty xs := by obtain ⟨c, A, r⟩ := A; exact ⟨c, A.other w q, r⟩
theorem AI.set {x : Int32} (A : AI Z h a ty xs) (w : Wr h h' a sl (.int x)) : AI Z h' a ty (xs.set sl x) := by
  obtain ⟨c, A, r, r'⟩ := A
  exact ⟨_, A.same w, by simp [Cell.setSlot, r, List.map_set], by simpa using r'⟩
theorem AJ.lt (A : AJ Z h a ys) : a < h.size := by obtain ⟨c, A, -⟩ := A; exact A.lt
theorem AJ.ext (A : AJ Z h a ys) (E : Ext h h') : AJ Z h' a ys := by obtain ⟨c, A, r⟩ := A; exact ⟨c, A.ext E, r⟩
theorem AJ.keep (A : AJ Z h a ys) (K : Keep h h' ws) (q : a ∉ ws) : AJ Z h' a ys := by obtain ⟨c, A, r⟩ := A; exact ⟨c, ⟨K.2.1 a c A.1 q, A.2⟩, r⟩
theorem AJ.other (A : AJ Z h b ys) (w : Wr h h' a sl v) (q : b ≠ a) : AJ Z h' b ys := by obtain ⟨c, A, r⟩ := A; exact ⟨c, A.other w q, r⟩
theorem AJ.set {x : Int64} (A : AJ Z h a ys) (w : Wr h h' a sl (.long x)) : AJ Z h' a (ys.set sl x) := by
  obtain ⟨c, A, r, r'⟩ := A
  exact ⟨_, A.same w, by simp [Cell.setSlot, r, List.map_set], by simpa using r'⟩
end Facts
theorem W.newarrayI {aty : ArrayType} {ty : FieldType} {n : Int32} {cap : Nat} (hd : decode B.bytes pc = .ok (.newarray aty, 2)) (hty : newarray.typeOf aty = ty) (h0 : defaultValue ty = .int 0) (w : (Cond.arrayClass ty).before a0 Z = true) (hn : ¬ n < 0) (hcap : n.toNatClampNeg ≤ cap) (hbig : cap * 8 ≤ 536870912) (hc : cells + 1 ≤ R.cells) (hl : slots + cap ≤ R.slots) (hq : pc + 2 = q)
    (K : ∀ h', Ext h h' → AI Z h' h.size ty (List.replicate n.toNatClampNeg 0) → W l Z n0 R B Q h' (cells + 1) (slots + cap) q Ls (.ref h.size :: St)) : W l Z n0 R B Q h cells slots pc Ls (.int n :: St) := by
  subst hq hty
  intro p e s m args below meth c T locs C X eT N _ _
  obtain ⟨T', h', cA, X', eT', E, A, st⟩ := newP X C.1 C.2.2.2.1 w eT (g := mkF m pc ⟨Ls⟩ (.int n :: St)) rfl (hb C.2.1 hd) rfl hn hcap hbig hc hl
  obtain ⟨s₂, v, L, h1, h2⟩ := K h' E ⟨_, A, by simp [newA, h0, ← Array.toList_inj], by simpa using (back32 hn).2⟩ p e s m args below meth c T' locs C X' eT' N hc hl
  exact ⟨s₂, v, L, st _ h1, h2⟩
theorem W.newarrayJ {n : Int32} {cap : Nat} (hd : decode B.bytes pc = .ok (.newarray .long, 2)) (w : (Cond.arrayClass .long).before a0 Z = true) (hn : ¬ n < 0) (hcap : n.toNatClampNeg ≤ cap) (hbig : cap * 8 ≤ 536870912) (hc : cells + 1 ≤ R.cells) (hl : slots + cap ≤ R.slots) (hq : pc + 2 = q)
    (K : ∀ h', Ext h h' → AJ Z h' h.size (List.replicate n.toNatClampNeg 0) → W l Z n0 R B Q h' (cells + 1) (slots + cap) q Ls (.ref h.size :: St)) : W l Z n0 R B Q h cells slots pc Ls (.int n :: St) := by
  subst hq
  intro p e s m args below meth c T locs C X eT N _ _
  obtain ⟨T', h', cA, X', eT', E, A, st⟩ := newP X (aty := .long) C.1 C.2.2.2.1 w eT (g := mkF m pc ⟨Ls⟩ (.int n :: St)) rfl (hb C.2.1 hd) rfl hn hcap hbig hc hl
  have A' : Arr Z h' h.size (newA cA .long n) .long := A
  have e1 : (newA cA .long n).slots = ⟨(List.replicate n.toNatClampNeg (0 : Int64)).map Value.long⟩ := by simp [newA, defaultValue, ← Array.toList_inj]
  have e2 : (List.replicate n.toNatClampNeg (0 : Int64)).length < 2 ^ 31 := by rw [List.length_replicate]; exact (back32 hn).2
  obtain ⟨s₂, v, L, h1, h2⟩ := K h' E ⟨_, A', e1, e2⟩ p e s m args below meth c T' locs C X' eT' N hc hl
  exact ⟨s₂, v, L, st _ h1, h2⟩
theorem inI {cl : Cell} {xs : List Int32} {j v : Int32} (hs : cl.slots = ⟨xs.map Value.int⟩) (h0 : ¬ j < 0) (hv : xs[j.toNatClampNeg]? = some v) : ¬ (j < 0 ∨ cl.slots.size ≤ j.toNatClampNeg) ∧ cl.slots[j.toNatClampNeg]? = some (.int v) := by
  obtain ⟨h1, -⟩ := List.getElem?_eq_some_iff.mp hv
  refine ⟨fun q => q.elim h0 fun q => ?_, by simp [hs, hv]⟩
  rw [hs] at q; simp at q; omega
theorem inJ {cl : Cell} {xs : List Int64} {j : Int32} {v : Int64} (hs : cl.slots = ⟨xs.map Value.long⟩) (h0 : ¬ j < 0) (hv : xs[j.toNatClampNeg]? = some v) : ¬ (j < 0 ∨ cl.slots.size ≤ j.toNatClampNeg) ∧ cl.slots[j.toNatClampNeg]? = some (.long v) := by
  obtain ⟨h1, -⟩ := List.getElem?_eq_some_iff.mp hv
  refine ⟨fun q => q.elim h0 fun q => ?_, by simp [hs, hv]⟩
  rw [hs] at q; simp at q; omega
theorem W.iaload {a : Addr} {xs : List Int32} {j v : Int32} (hd : decode B.bytes pc = .ok (.iaload, 1)) (A : AI Z h a .int xs) (h0 : ¬ j < 0) (hv : xs[j.toNatClampNeg]? = some v) (hq : pc + 1 = q) (K : W l Z n0 R B Q h cells slots q Ls (.int v :: St)) : W l Z n0 R B Q h cells slots pc Ls (.int j :: .ref a :: St) := by
  subst hq; obtain ⟨cl, A, hs, -⟩ := A
  exact W.same K (fun p e s m args below meth c T locs C X eT t hr => X.iaload (g := mkF m pc ⟨Ls⟩ (.int j :: .ref a :: St)) C.1 (by rw [eT]; exact A.1) (State.isArrayOf_alike C.2.2.2.1.alike A.2.1) A.2.2 (inI hs h0 hv).1 (inI hs h0 hv).2 rfl rfl (hb C.2.1 hd) t hr)
theorem W.baloadB {a : Addr} {xs : List Int32} {j v : Int32} (hd : decode B.bytes pc = .ok (.baload, 1)) (A : AI Z h a .byte xs) (h0 : ¬ j < 0) (hv : xs[j.toNatClampNeg]? = some v) (hq : pc + 1 = q) (K : W l Z n0 R B Q h cells slots q Ls (.int v :: St)) : W l Z n0 R B Q h cells slots pc Ls (.int j :: .ref a :: St) := by
  subst hq; obtain ⟨cl, A, hs, -⟩ := A
  exact W.same K (fun p e s m args below meth c T locs C X eT t hr => X.baloadBytes (g := mkF m pc ⟨Ls⟩ (.int j :: .ref a :: St)) C.1 (by rw [eT]; exact A.1) (State.isArrayOf_alike C.2.2.2.1.alike A.2.1) A.2.2 (inI hs h0 hv).1 (inI hs h0 hv).2 rfl rfl (hb C.2.1 hd) t hr)
theorem W.baloadZ {a : Addr} {xs : List Int32} {j v : Int32} (hd : decode B.bytes pc = .ok (.baload, 1)) (A : AI Z h a .boolean xs) (h0 : ¬ j < 0) (hv : xs[j.toNatClampNeg]? = some v) (hq : pc + 1 = q) (K : W l Z n0 R B Q h cells slots q Ls (.int v :: St)) : W l Z n0 R B Q h cells slots pc Ls (.int j :: .ref a :: St) := by
  subst hq; obtain ⟨cl, A, hs, -⟩ := A
  exact W.same K (fun p e s m args below meth c T locs C X eT t hr => X.baloadBooleans (g := mkF m pc ⟨Ls⟩ (.int j :: .ref a :: St)) C.1 (by rw [eT]; exact A.1) (State.isArrayOf_alike C.2.2.2.1.alike A.2.1) A.2.2 (inI hs h0 hv).1 (inI hs h0 hv).2 rfl rfl (hb C.2.1 hd) t hr)
theorem W.laload {a : Addr} {xs : List Int64} {j : Int32} {v : Int64} (hd : decode B.bytes pc = .ok (.laload, 1)) (A : AJ Z h a xs) (h0 : ¬ j < 0) (hv : xs[j.toNatClampNeg]? = some v) (hq : pc + 1 = q) (K : W l Z n0 R B Q h cells slots q Ls (.long v :: St)) : W l Z n0 R B Q h cells slots pc Ls (.int j :: .ref a :: St) := by
  subst hq; obtain ⟨cl, A, hs, -⟩ := A
  exact W.same K (fun p e s m args below meth c T locs C X eT t hr => X.laload (g := mkF m pc ⟨Ls⟩ (.int j :: .ref a :: St)) C.1 (by rw [eT]; exact A.1) (State.isArrayOf_alike C.2.2.2.1.alike A.2.1) A.2.2 (inJ hs h0 hv).1 (inJ hs h0 hv).2 rfl rfl (hb C.2.1 hd) t hr)
theorem W.arraylengthI {a : Addr} {ty : FieldType} {xs : List Int32} {n : Int32} (hd : decode B.bytes pc = .ok (.arraylength, 1)) (A : AI Z h a ty xs) (hn : xs.length.toInt32 = n) (hq : pc + 1 = q) (K : W l Z n0 R B Q h cells slots q Ls (.int n :: St)) : W l Z n0 R B Q h cells slots pc Ls (.ref a :: St) := by
  subst hq hn; obtain ⟨cl, A, hs, -⟩ := A
  have e1 : cl.slots.size = xs.length := by simp [hs]
  rw [← e1] at K
  exact W.same K (fun p e s m args below meth c T locs C X eT t hr => X.arraylength (g := mkF m pc ⟨Ls⟩ (.ref a :: St)) C.1 (by rw [eT]; exact A.1) (State.isArrayOf_alike C.2.2.2.1.alike A.2.1) rfl rfl (hb C.2.1 hd) t hr)
theorem W.arraylengthJ {a : Addr} {xs : List Int64} {n : Int32} (hd : decode B.bytes pc = .ok (.arraylength, 1)) (A : AJ Z h a xs) (hn : xs.length.toInt32 = n) (hq : pc + 1 = q) (K : W l Z n0 R B Q h cells slots q Ls (.int n :: St)) : W l Z n0 R B Q h cells slots pc Ls (.ref a :: St) := by
  subst hq hn; obtain ⟨cl, A, hs, -⟩ := A
  have e1 : cl.slots.size = xs.length := by simp [hs]
  rw [← e1] at K
  exact W.same K (fun p e s m args below meth c T locs C X eT t hr => X.arraylength (g := mkF m pc ⟨Ls⟩ (.ref a :: St)) C.1 (by rw [eT]; exact A.1) (State.isArrayOf_alike C.2.2.2.1.alike A.2.1) rfl rfl (hb C.2.1 hd) t hr)
theorem outI {cl : Cell} {xs : List Int32} {j : Int32} (hs : cl.slots = ⟨xs.map Value.int⟩) (h0 : ¬ j < 0) (hj : j.toNatClampNeg < xs.length) : ¬ (j < 0 ∨ cl.slots.size ≤ j.toNatClampNeg) := fun q => q.elim h0 fun q => by
  rw [hs] at q; simp at q; omega
theorem outJ {cl : Cell} {xs : List Int64} {j : Int32} (hs : cl.slots = ⟨xs.map Value.long⟩) (h0 : ¬ j < 0) (hj : j.toNatClampNeg < xs.length) : ¬ (j < 0 ∨ cl.slots.size ≤ j.toNatClampNeg) := fun q => q.elim h0 fun q => by
  rw [hs] at q; simp at q; omega
theorem W.iastore {a : Addr} {xs : List Int32} {j x : Int32} (hd : decode B.bytes pc = .ok (.iastore, 1)) (A : AI Z h a .int xs) (h0 : ¬ j < 0) (hj : j.toNatClampNeg < xs.length) (ha : n0 ≤ a) (hq : pc + 1 = q) (K : ∀ h', Wr h h' a j.toNatClampNeg (.int x) → AI Z h' a .int (xs.set j.toNatClampNeg x) → W l Z n0 R B Q h' cells slots q Ls St) : W l Z n0 R B Q h cells slots pc Ls (.int x :: .int j :: .ref a :: St) := by
  subst hq; obtain ⟨cl, A', hs, hl⟩ := A
  exact W.wrote (fun p e s m args below meth c T locs C X eT => stI X (g := mkF m pc ⟨Ls⟩ (.int x :: .int j :: .ref a :: St)) C.1 C.2.2.2.1 eT A' (outI hs h0 hj) rfl rfl (hb C.2.1 hd)) ha (fun h' w => K h' w (AI.set ⟨cl, A', hs, hl⟩ w))
theorem W.bastoreB {a : Addr} {xs : List Int32} {j x x' : Int32} (hd : decode B.bytes pc = .ok (.bastore, 1)) (A : AI Z h a .byte xs) (h0 : ¬ j < 0) (hj : j.toNatClampNeg < xs.length) (hx : x.toInt8.toInt32 = x') (ha : n0 ≤ a) (hq : pc + 1 = q) (K : ∀ h', Wr h h' a j.toNatClampNeg (.int x') → AI Z h' a .byte (xs.set j.toNatClampNeg x') → W l Z n0 R B Q h' cells slots q Ls St) : W l Z n0 R B Q h cells slots pc Ls (.int x :: .int j :: .ref a :: St) := by
  subst hq hx; obtain ⟨cl, A', hs, hl⟩ := A
  exact W.wrote (fun p e s m args below meth c T locs C X eT => stB X (g := mkF m pc ⟨Ls⟩ (.int x :: .int j :: .ref a :: St)) C.1 C.2.2.2.1 eT A' (outI hs h0 hj) rfl rfl (hb C.2.1 hd)) ha (fun h' w => K h' w (AI.set ⟨cl, A', hs, hl⟩ w))
theorem W.bastoreZ {a : Addr} {xs : List Int32} {j x x' : Int32} (hd : decode B.bytes pc = .ok (.bastore, 1)) (A : AI Z h a .boolean xs) (h0 : ¬ j < 0) (hj : j.toNatClampNeg < xs.length) (hx : x &&& 1 = x') (ha : n0 ≤ a) (hq : pc + 1 = q) (K : ∀ h', Wr h h' a j.toNatClampNeg (.int x') → AI Z h' a .boolean (xs.set j.toNatClampNeg x') → W l Z n0 R B Q h' cells slots q Ls St) : W l Z n0 R B Q h cells slots pc Ls (.int x :: .int j :: .ref a :: St) := by
  subst hq hx; obtain ⟨cl, A', hs, hl⟩ := A
  exact W.wrote (fun p e s m args below meth c T locs C X eT => stZ X (g := mkF m pc ⟨Ls⟩ (.int x :: .int j :: .ref a :: St)) C.1 C.2.2.2.1 eT A' (outI hs h0 hj) rfl rfl (hb C.2.1 hd)) ha (fun h' w => K h' w (AI.set ⟨cl, A', hs, hl⟩ w))
theorem W.lastore {a : Addr} {xs : List Int64} {j : Int32} {x : Int64} (hd : decode B.bytes pc = .ok (.lastore, 1)) (A : AJ Z h a xs) (h0 : ¬ j < 0) (hj : j.toNatClampNeg < xs.length) (ha : n0 ≤ a) (hq : pc + 1 = q) (K : ∀ h', Wr h h' a j.toNatClampNeg (.long x) → AJ Z h' a (xs.set j.toNatClampNeg x) → W l Z n0 R B Q h' cells slots q Ls St) : W l Z n0 R B Q h cells slots pc Ls (.long x :: .int j :: .ref a :: St) := by
  subst hq; obtain ⟨cl, A', hs, hl⟩ := A
  exact W.wrote (fun p e s m args below meth c T locs C X eT => stJ X (g := mkF m pc ⟨Ls⟩ (.long x :: .int j :: .ref a :: St)) C.1 C.2.2.2.1 eT A' (outJ hs h0 hj) rfl rfl (hb C.2.1 hd)) ha (fun h' w => K h' w (AJ.set ⟨cl, A', hs, hl⟩ w))
/-! ### fields, statics, objects -/
theorem W.getF {i : Nat} {O n d : String} {a : Addr} {v : Value} (hd : decode B.bytes pc = .ok (.getfield i, 3)) (w : (Cond.fieldLink B.own i O n d).before a0 Z = true) (F : Fld Z h a O n d v) (hq : pc + 3 = q) (K : W l Z n0 R B Q h cells slots q Ls (v :: St)) : W l Z n0 R B Q h cells slots pc Ls (.ref a :: St) := by
  subst hq; exact W.warm K (fun p e s m args below meth c T locs C X eT => RoadKit.getF X (g := mkF m pc ⟨Ls⟩ (.ref a :: St)) C.1 C.2.2.2.1 C.2.2.2.2.1 (host := "") (Or.inl w) Via.refl eT F rfl rfl (hb C.2.1 hd))
theorem W.getS {i : Nat} {O n d : String} {v : Value} (hd : decode B.bytes pc = .ok (.getstatic i, 3)) (w : (Cond.fieldLink B.own i O n d).before a0 Z = true) (F : Sta Z h O n d v) (hq : pc + 3 = q) (K : W l Z n0 R B Q h cells slots q Ls (v :: St)) : W l Z n0 R B Q h cells slots pc Ls St := by
  subst hq; exact W.warm K (fun p e s m args below meth c T locs C X eT => RoadKit.getS X (g := mkF m pc ⟨Ls⟩ St) C.1 C.2.2.2.1 (host := "") C.2.2.2.2.1 w Via.refl eT F rfl (hb C.2.1 hd))
theorem W.putF {i kk : Nat} {O n d C' : String} {a : Addr} {v old : Value} {ty : FieldType} (hd : decode B.bytes pc = .ok (.putfield i, 3)) (w : (Cond.fieldLink B.own i O n d).before a0 Z = true) (F : Fld Z h a O n d old) (E : Exa Z h a C') (L : (Cond.lays C' O n d).before a0 Z = true ∨ ((Cond.laysFinal C' O n d).before a0 Z = true ∧ B.own = O ∧ B.nm = "<init>")) (wi : (Cond.instantiable C' kk).before a0 Z = true)
    (hty : parseFieldDescriptor d = some ty) (hn : narrow ty v = v) (hf : fits ty v = true) (ha : n0 ≤ a) (hq : pc + 3 = q) (K : ∀ h', Wr h h' a (Jvm.RoadKit.slotOf Z O n d) v → W l Z n0 R B Q h' cells slots q Ls St) : W l Z n0 R B Q h cells slots pc Ls (v :: .ref a :: St) := by
  subst hq; exact W.wrote (fun p e s m args below meth c T locs C X eT => RoadKit.putF X (g := mkF m pc ⟨Ls⟩ (v :: .ref a :: St)) C.1 C.2.2.2.1 (host := "") C.2.2.2.2.1 (Or.inl w) Via.refl eT F E (L.imp id fun q => ⟨q.1, q.2.1, C.2.2.2.2.2.2.2.trans q.2.2⟩) wi hty hn hf rfl rfl (hb C.2.1 hd)) ha K
theorem W.newO {i n : Nat} {C' : String} (hd : decode B.bytes pc = .ok (.new i, 3)) (w : (Cond.classLink B.own i C').before a0 Z = true) (wi : (Cond.instantiable C' n).before a0 Z = true) (wz : (Cond.initialized C').before a0 Z = true) (hc : cells + 1 ≤ R.cells) (hl : slots + n ≤ R.slots) (hq : pc + 3 = q)
    (K : ∀ h', Ext h h' → Exa Z h' h.size C' → (∀ {O nm d : String} {ty : FieldType}, Laid Z a0 C' O nm d → parseFieldDescriptor d = some ty → Fld Z h' h.size O nm d (defaultValue ty)) → W l Z n0 R B Q h' (cells + 1) (slots + n) q Ls (.ref h.size :: St)) : W l Z n0 R B Q h cells slots pc Ls St := by
  subst hq
  intro p e s m args below meth c T locs C X eT N _ _
  obtain ⟨T', h', X', eT', E, A, D, -, st⟩ := RoadKit.newO X C.1 C.2.2.2.1 C.2.2.2.2.1 w wi wz eT (g := mkF m pc ⟨Ls⟩ St) rfl (hb C.2.1 hd) hc hl
  obtain ⟨s₂, v, L, h1, h2⟩ := K h' E A D p e s m args below meth c T' locs C X' eT' N hc hl
  exact ⟨s₂, v, L, st _ h1, h2⟩
theorem W.castY {i : Nat} {K' : String} {a : Addr} (hd : decode B.bytes pc = .ok (.checkcast i, 3)) (w : (Cond.classLink B.own i K').before a0 Z = true) (F : Ins Z h a K' true) (hq : pc + 3 = q) (K : W l Z n0 R B Q h cells slots q Ls (.ref a :: St)) : W l Z n0 R B Q h cells slots pc Ls (.ref a :: St) := by
  subst hq; exact W.warm K (fun p e s m args below meth c T locs C X eT => RoadKit.castY X C.1 C.2.2.2.1 C.2.2.2.2.1 w eT F (g := mkF m pc ⟨Ls⟩ (.ref a :: St)) rfl rfl (hb C.2.1 hd))
theorem W.instY {i : Nat} {K' : String} {a : Addr} (hd : decode B.bytes pc = .ok (.instanceof i, 3)) (w : (Cond.classLink B.own i K').before a0 Z = true) (F : Ins Z h a K' true) (hq : pc + 3 = q) (K : W l Z n0 R B Q h cells slots q Ls (.int 1 :: St)) : W l Z n0 R B Q h cells slots pc Ls (.ref a :: St) := by
  subst hq; exact W.warm K (fun p e s m args below meth c T locs C X eT => RoadKit.instY X C.1 C.2.2.2.1 C.2.2.2.2.1 w eT F (g := mkF m pc ⟨Ls⟩ (.ref a :: St)) rfl rfl (hb C.2.1 hd))
theorem W.instNo {i : Nat} {K' C' : String} {a : Addr} (hd : decode B.bytes pc = .ok (.instanceof i, 3)) (w : (Cond.classLink B.own i K').before a0 Z = true) (E : Exa Z h a C') (F : ∃ c t, Z.vm.findClass C' = some c ∧ Z.vm.findClass K' = some t ∧ Z.vm.assignable c t = false) (hq : pc + 3 = q) (K : W l Z n0 R B Q h cells slots q Ls (.int 0 :: St)) : W l Z n0 R B Q h cells slots pc Ls (.ref a :: St) := by
  subst hq; exact W.warm K (fun p e s m args below meth c T locs C X eT => RoadKit.instNo X C.1 C.2.2.2.1 C.2.2.2.2.1 w eT E F (g := mkF m pc ⟨Ls⟩ (.ref a :: St)) rfl rfl (hb C.2.1 hd))
theorem W.instNull {i : Nat} (hd : decode B.bytes pc = .ok (.instanceof i, 3)) (hq : pc + 3 = q) (K : W l Z n0 R B Q h cells slots q Ls (.int 0 :: St)) : W l Z n0 R B Q h cells slots pc Ls (.null :: St) := by
  subst hq; exact W.same K (fun p e s m args below meth c T locs C X eT t hr => X.instanceofNull C.1 (g := mkF m pc ⟨Ls⟩ (.null :: St)) rfl rfl (hb C.2.1 hd) t hr)
/-- what a callee leaves: an int, a long, a reference, nothing -/
def RI (P : Int32 → Heap → Prop) (v : Option Value) (h : Heap) : Prop := ∃ z, v = some (.int z) ∧ P z h
def RJ (P : Int64 → Heap → Prop) (v : Option Value) (h : Heap) : Prop := ∃ z, v = some (.long z) ∧ P z h
def RA (P : Value → Heap → Prop) (v : Option Value) (h : Heap) : Prop := ∃ z, v = some z ∧ P z h
def RN (P : Heap → Prop) (v : Option Value) (h : Heap) : Prop := v = none ∧ P h
/-! ### calls -/
def Met1 (l : Launch) (Z : State) (n0 : Nat) (y : MethodName) (B' : Bdy) (rm : Room) (as' : Array Value) (h : Heap) (Qc : Option Value → Heap → Prop) : Prop :=
  MetFree l y (head1 [Cond.code y B'.bytes B'.ml B'.ret] rm) (fun a U => a = as' ∧ Z.Warmed39 U.vm ∧ U.heap = h) (fun _ _ _ _ _ => True) (fun _ U o U' => ∃ v L, o = .returned v ∧ (Qc v U'.heap ∧ Fr n0 L) ∧ FrameEnd U o U' L rm.cells rm.slots)
theorem met_of {ws : List Jvm.Cond} {y : MethodName} {B' : Bdy} {rm : Room} {as' : Array Value} {Qc : Option Value → Heap → Prop} {L0 : List Slot} (hp : plainFor y = true) (ho : B'.own = y.cls) (hn : B'.nm = y.name) (hef : ∀ m, entryFrame m as' B'.ml = mkF m 0 ⟨L0⟩ []) (w : W l Z n0 rm B' Qc h 0 0 0 L0 []) :
    MetFree l y (head1 (Cond.code y B'.bytes B'.ml B'.ret :: ws) rm) (fun a U => a = as' ∧ Z.Warmed39 U.vm ∧ U.heap = h) (fun _ _ _ _ _ => True) (fun _ U o U' => ∃ v L, o = .returned v ∧ (Qc v U'.heap ∧ Fr n0 L) ∧ FrameEnd U o U' L rm.cells rm.slots) := by
  refine MetFree.of_bodySF hp hisR ?_
  intro p e s m args below meth c s₁ Bd hml0 hP hK
  obtain ⟨rfl, hZ, hh⟩ := hP
  have X0 : Stand p l e rm s m args below meth c s₁ [] 0 0 := Stand.of_body Bd
  have e0 : s₁.heap = h := by rw [← hh, Bd.state]; rfl
  obtain ⟨s₂, v, L, h1, h2, h3, h4, h5, h6⟩ := w p e s m args below meth c s₁ [] ⟨Bd.exec, Bd.bytes, hml0, hZ, by rw [ho]; exact findClass_of_methodNamed Bd.named, Bd.returns, Bd.notSynchronized, by rw [hn]; exact (name_of_methodNamed Bd.named Bd.method).1⟩ X0 e0 (Fr.nil n0) (Nat.zero_le _) (Nat.zero_le _)
  exact ⟨s₂, _, castTop (hef m) h1, h2, h3, v, L, rfl, ⟨h4, h5⟩, h6⟩
theorem W.callS {i : Nat} {y : MethodName} {B' : Bdy} {rm : Room} {Qc : Option Value → Heap → Prop} {L0 : List Slot} {argsL rest : List Value} {ps : List FieldType} {r : Option FieldType} (hd : decode B.bytes pc = .ok (.invokestatic i, 3)) (wl : (Cond.methodLink B.own i y).before a0 Z = true) (wst : (Cond.static y).before a0 Z = true) (wz : (Cond.initialized y.cls).before a0 Z = true) (wc : (Cond.code y B'.bytes B'.ml B'.ret).before a0 Z = true)
    (hst : argsL.reverse ++ rest = St) (w : W l Z n0 rm B' Qc h 0 0 0 L0 []) (hp : plainFor y = true) (hy : y.cls ≠ "java/lang/invoke/MethodHandle" ∧ y.cls ≠ "java/lang/invoke/VarHandle") (hpd : parseMethodDescriptor y.desc = some ⟨ps, r⟩) (ho : B'.own = y.cls) (hn : B'.nm = y.name) (hlen : argsL.length = ps.length) (hef : ∀ m, entryFrame m argsL.toArray B'.ml = mkF m 0 ⟨L0⟩ []) (hsz : Ls.length = B.ml)
    (hf : Nat.ble (rm.frames + 1) R.frames = true) (hlo : Nat.ble ((rest.map fun v => v.category).sum + (B'.ml + 11) + rm.locals) R.locals = true) (hc : Nat.ble (cells + rm.cells) R.cells = true) (hs : Nat.ble (slots + rm.slots) R.slots = true) (hq : pc + 3 = q)
    (K : ∀ v h', Qc v h' → W l Z n0 R B Q h' (cells + rm.cells) (slots + rm.slots) q Ls (v.toList ++ rest)) : W l Z n0 R B Q h cells slots pc Ls St := by
  subst hq hst
  intro p e s m args below meth c T locs C X eT N _ _
  have hc' := Nat.le_of_ble_eq_true hc
  have hs' := Nat.le_of_ble_eq_true hs
  obtain ⟨v, vm₁, ⟨T', L', c', s'⟩, -, X', ⟨Lc, hQ, l', y', z'⟩, st⟩ := Jvm.LawKit.callS X C.1 (y := y) C.2.2.2.2.1 (mvT C.2.2.2.1 wl) (mvT C.2.2.2.1 wst) (mvT C.2.2.2.1 wz) (mvT C.2.2.2.1 wc) hy
    (backOf (W := (rest.map fun v => v.category).sum) (Q := fun v h L => Qc v h ∧ Fr n0 L) (met_of (ws := []) hp ho hn hef w) C.2.2.2.1 wc wz (Nat.le_of_ble_eq_true hf) (Nat.le_of_ble_eq_true hlo)) (g := mkF m pc ⟨Ls⟩ (argsL.reverse ++ rest)) rfl (by show Ls.toArray.size = _; rw [C.2.2.1]; simpa using hsz) (argsL := argsL) (rest := rest) (lenOf hpd hlen) rfl (by show 2 * 0 + _ ≤ _; omega) (hb C.2.1 hd) (fun _ _ => ⟨rfl, eT, hc', hs'⟩)
  dsimp only [Pt.U, Pt.locs, Pt.cells, Pt.slots] at X' l' y' z' st hQ
  subst l' y' z'
  obtain ⟨s₂, v₂, L, h1, h2⟩ := K v T'.heap hQ.1 p e s m args below meth c T' _ C X' rfl (Fr.app N hQ.2) hc' hs'
  exact ⟨s₂, v₂, L, st _ h1, h2⟩
theorem W.callI {i : Nat} {y : MethodName} {B' : Bdy} {rm : Room} {Qc : Option Value → Heap → Prop} {L0 : List Slot} {a : Addr} {argsL rest : List Value} {ps : List FieldType} {r : Option FieldType} (hd : decode B.bytes pc = .ok (.invokespecial i, 3)) (wl : (Cond.methodLink B.own i y).before a0 Z = true) (wst : (Cond.instanceMethod y).before a0 Z = true) (wz : (Cond.initialized y.cls).before a0 Z = true) (wc : (Cond.code y B'.bytes B'.ml B'.ret).before a0 Z = true)
    (hst : argsL.reverse ++ .ref a :: rest = St) (w : W l Z n0 rm B' Qc h 0 0 0 L0 []) (hp : plainFor y = true) (hy : y.cls ≠ "java/lang/invoke/MethodHandle" ∧ y.cls ≠ "java/lang/invoke/VarHandle") (hpd : parseMethodDescriptor y.desc = some ⟨ps, r⟩) (ho : B'.own = y.cls) (hn : B'.nm = y.name) (hlen : argsL.length = ps.length) (hef : ∀ m, entryFrame m (.ref a :: argsL).toArray B'.ml = mkF m 0 ⟨L0⟩ []) (hsz : Ls.length = B.ml)
    (hf : Nat.ble (rm.frames + 1) R.frames = true) (hlo : Nat.ble ((rest.map fun v => v.category).sum + (B'.ml + 11) + rm.locals) R.locals = true) (hc : Nat.ble (cells + rm.cells) R.cells = true) (hs : Nat.ble (slots + rm.slots) R.slots = true) (hret : B'.ret = none) (hin : y.name = "<init>") (hq : pc + 3 = q)
    (K : ∀ v h', Qc v h' → W l Z n0 R B Q h' (cells + rm.cells) (slots + rm.slots) q Ls (v.toList ++ rest)) : W l Z n0 R B Q h cells slots pc Ls St := by
  subst hq hst
  intro p e s m args below meth c T locs C X eT N _ _
  have hc' := Nat.le_of_ble_eq_true hc
  have hs' := Nat.le_of_ble_eq_true hs
  obtain ⟨v, vm₁, ⟨T', L', c', s'⟩, -, X', ⟨Lc, hQ, l', y', z'⟩, st⟩ := X.specialBack C.1 (y := y) hin C.2.2.2.2.1 (mvT C.2.2.2.1 wl) (mvT C.2.2.2.1 wst) (mvT C.2.2.2.1 (hret ▸ wc)) hy
    (backOf (W := (rest.map fun v => v.category).sum) (Q := fun v h L => Qc v h ∧ Fr n0 L) (met_of (ws := []) hp ho hn hef w) C.2.2.2.1 wc wz (Nat.le_of_ble_eq_true hf) (Nat.le_of_ble_eq_true hlo)) (g := mkF m pc ⟨Ls⟩ (argsL.reverse ++ .ref a :: rest)) rfl (by show Ls.toArray.size = _; rw [C.2.2.1]; simpa using hsz) (Steps.refl _) (a := a) (argsL := argsL) (rest := rest) (lenOf hpd hlen) rfl (by show 2 * 0 + _ ≤ _; omega) (hb C.2.1 hd) (fun _ _ => ⟨rfl, eT, hc', hs'⟩)
  dsimp only [Pt.U, Pt.locs, Pt.cells, Pt.slots] at X' l' y' z' st hQ
  subst l' y' z'
  obtain ⟨s₂, v₂, L, h1, h2⟩ := K v T'.heap hQ.1 p e s m args below meth c T' _ C X' rfl (Fr.app N hQ.2) hc' hs'
  exact ⟨s₂, v₂, L, st.trans h1, h2⟩
theorem W.callV {i : Nat} {y : MethodName} {C' : String} {B' : Bdy} {rm : Room} {Qc : Option Value → Heap → Prop} {L0 : List Slot} {a : Addr} {argsL rest : List Value} {ps : List FieldType} {r : Option FieldType} (hd : decode B.bytes pc = .ok (.invokevirtual i, 3)) (wl : (Cond.methodLink B.own i y).before a0 Z = true) (wd : (Cond.declares y).before a0 Z = true) (wsel : (Cond.selects C' y y).before a0 Z = true) (wst : (Cond.instanceMethod y).before a0 Z = true) (wz : (Cond.initialized y.cls).before a0 Z = true) (wc : (Cond.code y B'.bytes B'.ml B'.ret).before a0 Z = true)
    (hst : argsL.reverse ++ .ref a :: rest = St) (E : Exa Z h a C') (w : W l Z n0 rm B' Qc h 0 0 0 L0 []) (hp : plainFor y = true) (hy : y.cls ≠ "java/lang/invoke/MethodHandle" ∧ y.cls ≠ "java/lang/invoke/VarHandle") (hpd : parseMethodDescriptor y.desc = some ⟨ps, r⟩) (ho : B'.own = y.cls) (hn : B'.nm = y.name) (hlen : argsL.length = ps.length) (hef : ∀ m, entryFrame m (.ref a :: argsL).toArray B'.ml = mkF m 0 ⟨L0⟩ []) (hsz : Ls.length = B.ml)
    (hf : Nat.ble (rm.frames + 1) R.frames = true) (hlo : Nat.ble ((rest.map fun v => v.category).sum + (B'.ml + 11) + rm.locals) R.locals = true) (hc : Nat.ble (cells + rm.cells) R.cells = true) (hs : Nat.ble (slots + rm.slots) R.slots = true) (hq : pc + 3 = q)
    (K : ∀ v h', Qc v h' → W l Z n0 R B Q h' (cells + rm.cells) (slots + rm.slots) q Ls (v.toList ++ rest)) : W l Z n0 R B Q h cells slots pc Ls St := by
  subst hq hst
  intro p e s m args below meth c T locs C X eT N _ _
  have hc' := Nat.le_of_ble_eq_true hc
  have hs' := Nat.le_of_ble_eq_true hs
  obtain ⟨cq, kq, qa, qb, qc⟩ := isOf C.2.2.2.1 eT E
  obtain ⟨v, vm₁, ⟨T', L', c', s'⟩, -, X', ⟨Lc, hQ, l', y', z'⟩, st⟩ := X.virtualBack C.1 (y := y) (z := y) C.2.2.2.2.1 (mvT C.2.2.2.1 wl) (mvT C.2.2.2.1 wd) (notFace_of_selects (args := #[]) (mvT C.2.2.2.1 wsel)) (mvT C.2.2.2.1 wsel) (mvT C.2.2.2.1 wst) hy
    (backOf (W := (rest.map fun v => v.category).sum) (Q := fun v h L => Qc v h ∧ Fr n0 L) (met_of (ws := []) hp ho hn hef w) C.2.2.2.1 wc wz (Nat.le_of_ble_eq_true hf) (Nat.le_of_ble_eq_true hlo)) qa qc (g := mkF m pc ⟨Ls⟩ (argsL.reverse ++ .ref a :: rest)) rfl (by show Ls.toArray.size = _; rw [C.2.2.1]; simpa using hsz) (Steps.refl _) (argsL := argsL) (rest := rest) (lenOf hpd hlen) rfl (by show 2 * 0 + _ ≤ _; omega) (hb C.2.1 hd) (fun _ _ => ⟨rfl, eT, hc', hs'⟩)
  dsimp only [Pt.U, Pt.locs, Pt.cells, Pt.slots] at X' l' y' z' st hQ
  subst l' y' z'
  obtain ⟨s₂, v₂, L, h1, h2⟩ := K v T'.heap hQ.1 p e s m args below meth c T' _ C X' rfl (Fr.app N hQ.2) hc' hs'
  exact ⟨s₂, v₂, L, st.trans h1, h2⟩
theorem W.callS_I {i : Nat} {y : MethodName} {B' : Bdy} {rm : Room} {P : Int32 → Heap → Prop} {L0 : List Slot} {argsL rest : List Value} {ps : List FieldType} {r : Option FieldType} (hd : decode B.bytes pc = .ok (.invokestatic i, 3)) (wl : (Cond.methodLink B.own i y).before a0 Z = true) (wst : (Cond.static y).before a0 Z = true) (wz : (Cond.initialized y.cls).before a0 Z = true) (wc : (Cond.code y B'.bytes B'.ml B'.ret).before a0 Z = true)
    (hst : argsL.reverse ++ rest = St) (w : W l Z n0 rm B' (RI P) h 0 0 0 L0 []) (hp : plainFor y = true) (hy : y.cls ≠ "java/lang/invoke/MethodHandle" ∧ y.cls ≠ "java/lang/invoke/VarHandle") (hpd : parseMethodDescriptor y.desc = some ⟨ps, r⟩) (ho : B'.own = y.cls) (hn : B'.nm = y.name) (hlen : argsL.length = ps.length) (hef : ∀ m, entryFrame m argsL.toArray B'.ml = mkF m 0 ⟨L0⟩ []) (hsz : Ls.length = B.ml)
    (hf : Nat.ble (rm.frames + 1) R.frames = true) (hlo : Nat.ble ((rest.map fun v => v.category).sum + (B'.ml + 11) + rm.locals) R.locals = true) (hc : Nat.ble (cells + rm.cells) R.cells = true) (hs : Nat.ble (slots + rm.slots) R.slots = true) (hq : pc + 3 = q)
    (K : ∀ (u : Int32) h', P u h' → W l Z n0 R B Q h' (cells + rm.cells) (slots + rm.slots) q Ls (.int u :: rest)) : W l Z n0 R B Q h cells slots pc Ls St :=
  W.callS hd wl wst wz wc hst w hp hy hpd ho hn hlen hef hsz hf hlo hc hs hq (fun v h' hQ => by obtain ⟨u, rfl, hP⟩ := hQ; exact K u h' hP)
theorem W.callS_J {i : Nat} {y : MethodName} {B' : Bdy} {rm : Room} {P : Int64 → Heap → Prop} {L0 : List Slot} {argsL rest : List Value} {ps : List FieldType} {r : Option FieldType} (hd : decode B.bytes pc = .ok (.invokestatic i, 3)) (wl : (Cond.methodLink B.own i y).before a0 Z = true) (wst : (Cond.static y).before a0 Z = true) (wz : (Cond.initialized y.cls).before a0 Z = true) (wc : (Cond.code y B'.bytes B'.ml B'.ret).before a0 Z = true)
    (hst : argsL.reverse ++ rest = St) (w : W l Z n0 rm B' (RJ P) h 0 0 0 L0 []) (hp : plainFor y = true) (hy : y.cls ≠ "java/lang/invoke/MethodHandle" ∧ y.cls ≠ "java/lang/invoke/VarHandle") (hpd : parseMethodDescriptor y.desc = some ⟨ps, r⟩) (ho : B'.own = y.cls) (hn : B'.nm = y.name) (hlen : argsL.length = ps.length) (hef : ∀ m, entryFrame m argsL.toArray B'.ml = mkF m 0 ⟨L0⟩ []) (hsz : Ls.length = B.ml)
    (hf : Nat.ble (rm.frames + 1) R.frames = true) (hlo : Nat.ble ((rest.map fun v => v.category).sum + (B'.ml + 11) + rm.locals) R.locals = true) (hc : Nat.ble (cells + rm.cells) R.cells = true) (hs : Nat.ble (slots + rm.slots) R.slots = true) (hq : pc + 3 = q)
    (K : ∀ (u : Int64) h', P u h' → W l Z n0 R B Q h' (cells + rm.cells) (slots + rm.slots) q Ls (.long u :: rest)) : W l Z n0 R B Q h cells slots pc Ls St :=
  W.callS hd wl wst wz wc hst w hp hy hpd ho hn hlen hef hsz hf hlo hc hs hq (fun v h' hQ => by obtain ⟨u, rfl, hP⟩ := hQ; exact K u h' hP)
theorem W.callS_A {i : Nat} {y : MethodName} {B' : Bdy} {rm : Room} {P : Value → Heap → Prop} {L0 : List Slot} {argsL rest : List Value} {ps : List FieldType} {r : Option FieldType} (hd : decode B.bytes pc = .ok (.invokestatic i, 3)) (wl : (Cond.methodLink B.own i y).before a0 Z = true) (wst : (Cond.static y).before a0 Z = true) (wz : (Cond.initialized y.cls).before a0 Z = true) (wc : (Cond.code y B'.bytes B'.ml B'.ret).before a0 Z = true)
    (hst : argsL.reverse ++ rest = St) (w : W l Z n0 rm B' (RA P) h 0 0 0 L0 []) (hp : plainFor y = true) (hy : y.cls ≠ "java/lang/invoke/MethodHandle" ∧ y.cls ≠ "java/lang/invoke/VarHandle") (hpd : parseMethodDescriptor y.desc = some ⟨ps, r⟩) (ho : B'.own = y.cls) (hn : B'.nm = y.name) (hlen : argsL.length = ps.length) (hef : ∀ m, entryFrame m argsL.toArray B'.ml = mkF m 0 ⟨L0⟩ []) (hsz : Ls.length = B.ml)
    (hf : Nat.ble (rm.frames + 1) R.frames = true) (hlo : Nat.ble ((rest.map fun v => v.category).sum + (B'.ml + 11) + rm.locals) R.locals = true) (hc : Nat.ble (cells + rm.cells) R.cells = true) (hs : Nat.ble (slots + rm.slots) R.slots = true) (hq : pc + 3 = q)
    (K : ∀ (u : Value) h', P u h' → W l Z n0 R B Q h' (cells + rm.cells) (slots + rm.slots) q Ls (u :: rest)) : W l Z n0 R B Q h cells slots pc Ls St :=
  W.callS hd wl wst wz wc hst w hp hy hpd ho hn hlen hef hsz hf hlo hc hs hq (fun v h' hQ => by obtain ⟨u, rfl, hP⟩ := hQ; exact K u h' hP)
theorem W.callS_N {i : Nat} {y : MethodName} {B' : Bdy} {rm : Room} {P : Heap → Prop} {L0 : List Slot} {argsL rest : List Value} {ps : List FieldType} {r : Option FieldType} (hd : decode B.bytes pc = .ok (.invokestatic i, 3)) (wl : (Cond.methodLink B.own i y).before a0 Z = true) (wst : (Cond.static y).before a0 Z = true) (wz : (Cond.initialized y.cls).before a0 Z = true) (wc : (Cond.code y B'.bytes B'.ml B'.ret).before a0 Z = true)
    (hst : argsL.reverse ++ rest = St) (w : W l Z n0 rm B' (RN P) h 0 0 0 L0 []) (hp : plainFor y = true) (hy : y.cls ≠ "java/lang/invoke/MethodHandle" ∧ y.cls ≠ "java/lang/invoke/VarHandle") (hpd : parseMethodDescriptor y.desc = some ⟨ps, r⟩) (ho : B'.own = y.cls) (hn : B'.nm = y.name) (hlen : argsL.length = ps.length) (hef : ∀ m, entryFrame m argsL.toArray B'.ml = mkF m 0 ⟨L0⟩ []) (hsz : Ls.length = B.ml)
    (hf : Nat.ble (rm.frames + 1) R.frames = true) (hlo : Nat.ble ((rest.map fun v => v.category).sum + (B'.ml + 11) + rm.locals) R.locals = true) (hc : Nat.ble (cells + rm.cells) R.cells = true) (hs : Nat.ble (slots + rm.slots) R.slots = true) (hq : pc + 3 = q)
    (K : ∀ h', P h' → W l Z n0 R B Q h' (cells + rm.cells) (slots + rm.slots) q Ls rest) : W l Z n0 R B Q h cells slots pc Ls St :=
  W.callS hd wl wst wz wc hst w hp hy hpd ho hn hlen hef hsz hf hlo hc hs hq (fun v h' hQ => by obtain ⟨rfl, hP⟩ := hQ; exact K h' hP)
theorem W.callI_N {i : Nat} {y : MethodName} {B' : Bdy} {rm : Room} {P : Heap → Prop} {L0 : List Slot} {a : Addr} {argsL rest : List Value} {ps : List FieldType} {r : Option FieldType} (hd : decode B.bytes pc = .ok (.invokespecial i, 3)) (wl : (Cond.methodLink B.own i y).before a0 Z = true) (wst : (Cond.instanceMethod y).before a0 Z = true) (wz : (Cond.initialized y.cls).before a0 Z = true) (wc : (Cond.code y B'.bytes B'.ml B'.ret).before a0 Z = true)
    (hst : argsL.reverse ++ .ref a :: rest = St) (w : W l Z n0 rm B' (RN P) h 0 0 0 L0 []) (hp : plainFor y = true) (hy : y.cls ≠ "java/lang/invoke/MethodHandle" ∧ y.cls ≠ "java/lang/invoke/VarHandle") (hpd : parseMethodDescriptor y.desc = some ⟨ps, r⟩) (ho : B'.own = y.cls) (hn : B'.nm = y.name) (hlen : argsL.length = ps.length) (hef : ∀ m, entryFrame m (.ref a :: argsL).toArray B'.ml = mkF m 0 ⟨L0⟩ []) (hsz : Ls.length = B.ml)
    (hf : Nat.ble (rm.frames + 1) R.frames = true) (hlo : Nat.ble ((rest.map fun v => v.category).sum + (B'.ml + 11) + rm.locals) R.locals = true) (hc : Nat.ble (cells + rm.cells) R.cells = true) (hs : Nat.ble (slots + rm.slots) R.slots = true) (hret : B'.ret = none) (hin : y.name = "<init>") (hq : pc + 3 = q)
    (K : ∀ h', P h' → W l Z n0 R B Q h' (cells + rm.cells) (slots + rm.slots) q Ls rest) : W l Z n0 R B Q h cells slots pc Ls St :=
  W.callI hd wl wst wz wc hst w hp hy hpd ho hn hlen hef hsz hf hlo hc hs hret hin hq (fun v h' hQ => by obtain ⟨rfl, hP⟩ := hQ; exact K h' hP)
theorem W.callV_I {i : Nat} {y : MethodName} {C' : String} {B' : Bdy} {rm : Room} {P : Int32 → Heap → Prop} {L0 : List Slot} {a : Addr} {argsL rest : List Value} {ps : List FieldType} {r : Option FieldType} (hd : decode B.bytes pc = .ok (.invokevirtual i, 3)) (wl : (Cond.methodLink B.own i y).before a0 Z = true) (wd : (Cond.declares y).before a0 Z = true) (wsel : (Cond.selects C' y y).before a0 Z = true) (wst : (Cond.instanceMethod y).before a0 Z = true) (wz : (Cond.initialized y.cls).before a0 Z = true) (wc : (Cond.code y B'.bytes B'.ml B'.ret).before a0 Z = true)
    (hst : argsL.reverse ++ .ref a :: rest = St) (E : Exa Z h a C') (w : W l Z n0 rm B' (RI P) h 0 0 0 L0 []) (hp : plainFor y = true) (hy : y.cls ≠ "java/lang/invoke/MethodHandle" ∧ y.cls ≠ "java/lang/invoke/VarHandle") (hpd : parseMethodDescriptor y.desc = some ⟨ps, r⟩) (ho : B'.own = y.cls) (hn : B'.nm = y.name) (hlen : argsL.length = ps.length) (hef : ∀ m, entryFrame m (.ref a :: argsL).toArray B'.ml = mkF m 0 ⟨L0⟩ []) (hsz : Ls.length = B.ml)
    (hf : Nat.ble (rm.frames + 1) R.frames = true) (hlo : Nat.ble ((rest.map fun v => v.category).sum + (B'.ml + 11) + rm.locals) R.locals = true) (hc : Nat.ble (cells + rm.cells) R.cells = true) (hs : Nat.ble (slots + rm.slots) R.slots = true) (hq : pc + 3 = q)
    (K : ∀ (u : Int32) h', P u h' → W l Z n0 R B Q h' (cells + rm.cells) (slots + rm.slots) q Ls (.int u :: rest)) : W l Z n0 R B Q h cells slots pc Ls St :=
  W.callV hd wl wd wsel wst wz wc hst E w hp hy hpd ho hn hlen hef hsz hf hlo hc hs hq (fun v h' hQ => by obtain ⟨u, rfl, hP⟩ := hQ; exact K u h' hP)
theorem W.callV_J {i : Nat} {y : MethodName} {C' : String} {B' : Bdy} {rm : Room} {P : Int64 → Heap → Prop} {L0 : List Slot} {a : Addr} {argsL rest : List Value} {ps : List FieldType} {r : Option FieldType} (hd : decode B.bytes pc = .ok (.invokevirtual i, 3)) (wl : (Cond.methodLink B.own i y).before a0 Z = true) (wd : (Cond.declares y).before a0 Z = true) (wsel : (Cond.selects C' y y).before a0 Z = true) (wst : (Cond.instanceMethod y).before a0 Z = true) (wz : (Cond.initialized y.cls).before a0 Z = true) (wc : (Cond.code y B'.bytes B'.ml B'.ret).before a0 Z = true)
    (hst : argsL.reverse ++ .ref a :: rest = St) (E : Exa Z h a C') (w : W l Z n0 rm B' (RJ P) h 0 0 0 L0 []) (hp : plainFor y = true) (hy : y.cls ≠ "java/lang/invoke/MethodHandle" ∧ y.cls ≠ "java/lang/invoke/VarHandle") (hpd : parseMethodDescriptor y.desc = some ⟨ps, r⟩) (ho : B'.own = y.cls) (hn : B'.nm = y.name) (hlen : argsL.length = ps.length) (hef : ∀ m, entryFrame m (.ref a :: argsL).toArray B'.ml = mkF m 0 ⟨L0⟩ []) (hsz : Ls.length = B.ml)
    (hf : Nat.ble (rm.frames + 1) R.frames = true) (hlo : Nat.ble ((rest.map fun v => v.category).sum + (B'.ml + 11) + rm.locals) R.locals = true) (hc : Nat.ble (cells + rm.cells) R.cells = true) (hs : Nat.ble (slots + rm.slots) R.slots = true) (hq : pc + 3 = q)
    (K : ∀ (u : Int64) h', P u h' → W l Z n0 R B Q h' (cells + rm.cells) (slots + rm.slots) q Ls (.long u :: rest)) : W l Z n0 R B Q h cells slots pc Ls St :=
  W.callV hd wl wd wsel wst wz wc hst E w hp hy hpd ho hn hlen hef hsz hf hlo hc hs hq (fun v h' hQ => by obtain ⟨u, rfl, hP⟩ := hQ; exact K u h' hP)
theorem W.callV_A {i : Nat} {y : MethodName} {C' : String} {B' : Bdy} {rm : Room} {P : Value → Heap → Prop} {L0 : List Slot} {a : Addr} {argsL rest : List Value} {ps : List FieldType} {r : Option FieldType} (hd : decode B.bytes pc = .ok (.invokevirtual i, 3)) (wl : (Cond.methodLink B.own i y).before a0 Z = true) (wd : (Cond.declares y).before a0 Z = true) (wsel : (Cond.selects C' y y).before a0 Z = true) (wst : (Cond.instanceMethod y).before a0 Z = true) (wz : (Cond.initialized y.cls).before a0 Z = true) (wc : (Cond.code y B'.bytes B'.ml B'.ret).before a0 Z = true)
    (hst : argsL.reverse ++ .ref a :: rest = St) (E : Exa Z h a C') (w : W l Z n0 rm B' (RA P) h 0 0 0 L0 []) (hp : plainFor y = true) (hy : y.cls ≠ "java/lang/invoke/MethodHandle" ∧ y.cls ≠ "java/lang/invoke/VarHandle") (hpd : parseMethodDescriptor y.desc = some ⟨ps, r⟩) (ho : B'.own = y.cls) (hn : B'.nm = y.name) (hlen : argsL.length = ps.length) (hef : ∀ m, entryFrame m (.ref a :: argsL).toArray B'.ml = mkF m 0 ⟨L0⟩ []) (hsz : Ls.length = B.ml)
    (hf : Nat.ble (rm.frames + 1) R.frames = true) (hlo : Nat.ble ((rest.map fun v => v.category).sum + (B'.ml + 11) + rm.locals) R.locals = true) (hc : Nat.ble (cells + rm.cells) R.cells = true) (hs : Nat.ble (slots + rm.slots) R.slots = true) (hq : pc + 3 = q)
    (K : ∀ (u : Value) h', P u h' → W l Z n0 R B Q h' (cells + rm.cells) (slots + rm.slots) q Ls (u :: rest)) : W l Z n0 R B Q h cells slots pc Ls St :=
  W.callV hd wl wd wsel wst wz wc hst E w hp hy hpd ho hn hlen hef hsz hf hlo hc hs hq (fun v h' hQ => by obtain ⟨u, rfl, hP⟩ := hQ; exact K u h' hP)
theorem W.callV_N {i : Nat} {y : MethodName} {C' : String} {B' : Bdy} {rm : Room} {P : Heap → Prop} {L0 : List Slot} {a : Addr} {argsL rest : List Value} {ps : List FieldType} {r : Option FieldType} (hd : decode B.bytes pc = .ok (.invokevirtual i, 3)) (wl : (Cond.methodLink B.own i y).before a0 Z = true) (wd : (Cond.declares y).before a0 Z = true) (wsel : (Cond.selects C' y y).before a0 Z = true) (wst : (Cond.instanceMethod y).before a0 Z = true) (wz : (Cond.initialized y.cls).before a0 Z = true) (wc : (Cond.code y B'.bytes B'.ml B'.ret).before a0 Z = true)
    (hst : argsL.reverse ++ .ref a :: rest = St) (E : Exa Z h a C') (w : W l Z n0 rm B' (RN P) h 0 0 0 L0 []) (hp : plainFor y = true) (hy : y.cls ≠ "java/lang/invoke/MethodHandle" ∧ y.cls ≠ "java/lang/invoke/VarHandle") (hpd : parseMethodDescriptor y.desc = some ⟨ps, r⟩) (ho : B'.own = y.cls) (hn : B'.nm = y.name) (hlen : argsL.length = ps.length) (hef : ∀ m, entryFrame m (.ref a :: argsL).toArray B'.ml = mkF m 0 ⟨L0⟩ []) (hsz : Ls.length = B.ml)
    (hf : Nat.ble (rm.frames + 1) R.frames = true) (hlo : Nat.ble ((rest.map fun v => v.category).sum + (B'.ml + 11) + rm.locals) R.locals = true) (hc : Nat.ble (cells + rm.cells) R.cells = true) (hs : Nat.ble (slots + rm.slots) R.slots = true) (hq : pc + 3 = q)
    (K : ∀ h', P h' → W l Z n0 R B Q h' (cells + rm.cells) (slots + rm.slots) q Ls rest) : W l Z n0 R B Q h cells slots pc Ls St :=
  W.callV hd wl wd wsel wst wz wc hst E w hp hy hpd ho hn hlen hef hsz hf hlo hc hs hq (fun v h' hQ => by obtain ⟨rfl, hP⟩ := hQ; exact K h' hP)
theorem W.initO {i : Nat} {a : Addr} (hd : decode B.bytes pc = .ok (.invokespecial i, 3)) (w1 : (Cond.methodLink B.own i Lib.objectInit).before a0 Z = true) (w2 : (Cond.instanceMethod Lib.objectInit).before a0 Z = true) (w3 : (Cond.code Lib.objectInit ⟨#[0xb1]⟩ 1 none).before a0 Z = true) (hsz : Ls.length = B.ml) (hf : Nat.ble 1 R.frames = true) (hlo : Nat.ble ((St.map fun v => v.category).sum + 12) R.locals = true) (hq : pc + 3 = q)
    (K : W l Z n0 R B Q h cells slots q Ls St) : W l Z n0 R B Q h cells slots pc Ls (.ref a :: St) := by
  subst hq
  exact W.warm K (fun p e s m args below meth c T locs C X eT => RoadKit.initO X C.1 C.2.2.2.1 C.2.2.2.2.1 w1 w2 w3 eT (g := mkF m pc ⟨Ls⟩ (.ref a :: St)) rfl (by show Ls.toArray.size = _; rw [C.2.2.1]; simpa using hsz) rfl (hb C.2.1 hd) (Nat.le_of_ble_eq_true hf) (W := (St.map fun v => v.category).sum) (by show 2 * 0 + _ ≤ _; omega) (Nat.le_of_ble_eq_true hlo))
end Steps
/-! ### no instance: a class two steps under the root, and another class -/
theorem noUp {Z : State} {a0 : Array Value} {C S O K : String} {n : Nat} (w1 : (Cond.superclass C S).before a0 Z = true) (w2 : (Cond.superclass S O).before a0 Z = true) (w3 : (Cond.noSuperclass O).before a0 Z = true) (w4 : (Cond.instantiable K n).before a0 Z = true) (h1 : C ≠ K) (h2 : S ≠ K) (h3 : O ≠ K) : ∃ c t, Z.vm.findClass C = some c ∧ Z.vm.findClass K = some t ∧ Z.vm.assignable c t = false := by
  obtain ⟨t, kt, g1, g2, g3, g4, -⟩ := Cond.instantiable_spec w4
  obtain ⟨c, f1⟩ := found_sup w1
  obtain ⟨s, k1, k2, f2, f3, f4, f5, f6, -⟩ := Cond.superclass_spec f1 w1
  obtain ⟨o, k3, k4, f7, f8, f9, f10, -⟩ := Cond.superclass_spec f2 w2
  obtain ⟨o', k5, e1, e2, e3, -⟩ := Cond.noSuperclass_spec w3
  cases f7.symm.trans e1
  cases f4.symm.trans f8
  have n1 := ids_ne f1 g1 h1
  have n2 := ids_ne f2 g1 h2
  have n3 := ids_ne e1 g1 h3
  have q : ∀ fuel, Z.vm.isSubclassAux fuel c t = false := by
    intro fuel
    rcases fuel with _ | _ | _ | fuel <;> simp [Vm.isSubclassAux, n1, n2, n3, f3, f5, f4, f10, e2, e3]
  have g5 : kt.isInterface = false := by simp only [Bool.or_eq_false_iff] at g4; exact g4.1
  refine ⟨c, t, f1, g1, ?_⟩
  show Z.vm.assignableAux (255 + 1) c t = false
  simp [Vm.assignableAux, n1, f3, g2, f6, g3, g5, Vm.isSubclass, q]
/-! ### words of a case -/
theorem own_eqi {args : Array Value} {s : State} {t : Term} {z : Int32} (h : (Cond.eq t (.int z)).value args s none s [] = some true) : t.eval args s none [] s = some (.int z) := by
  obtain ⟨x, y, hx, hy, k1, k2⟩ := cmp_v (Or.inl h)
  cases (Term.int_eval (args := args) (first := s) (o := none) (idx := []) (s := s) z).symm.trans hy
  obtain ⟨z', rfl⟩ := k2
  have := gotT (Cond.eq_ints hx hy) h
  subst this
  exact hx
/-! ### numbers -/
theorem nat32 {k : Nat} (h : k < 2147483640) : (k.toInt32).toInt = k ∧ k.toInt32.toNatClampNeg = k ∧ ¬ k.toInt32 < 0 ∧ k.toInt32 + 1 = (k + 1).toInt32 := by
  have e : (k.toInt32).toInt = k := Int32.toInt_ofNat_of_lt (by omega)
  refine ⟨e, ?_, ?_, ?_⟩
  · show (k.toInt32).toInt.toNat = k
    omega
  · rw [Int32.lt_iff_toInt_lt, e]; simp
  · show Int32.ofNat k + 1 = Int32.ofNat (k + 1)
    rw [Int32.ofNat_add]; rfl
theorem ltb {a b : Nat} (h : Nat.blt a b = true) : a < b := Nat.le_of_ble_eq_true h
theorem leb {a b : Nat} (h : Nat.ble a b = true) : a ≤ b := Nat.le_of_ble_eq_true h
theorem mask31 (x : Int32) : (x &&& 2147483647).toInt = x.toInt % 2147483648 := by
  have h : ((x &&& 2147483647 : Int32)).toInt = (x.toBitVec &&& 2147483647#32).toInt := rfl
  rw [h, BitVec.toInt_eq_toNat_bmod, BitVec.toNat_and]
  have e1 : (x.toBitVec.toNat &&& (2147483647#32).toNat) = x.toBitVec.toNat % 2147483648 := by
    show x.toBitVec.toNat &&& (2 ^ 31 - 1) = x.toBitVec.toNat % 2 ^ 31
    exact Nat.and_two_pow_sub_one_eq_mod _ 31
  rw [e1]
  have e2 : x.toInt = (x.toBitVec.toNat : Int).bmod (2 ^ 32) := BitVec.toInt_eq_toNat_bmod _
  rw [e2]
  have e3 := Int.bmod_emod (x := (x.toBitVec.toNat : Int)) (m := 2 ^ 32)
  rw [Int.bmod_eq_of_le (by omega) (by omega)]
  omega
theorem rem31 (x k : Int32) (hk : 0 < k.toInt) : 0 ≤ ((x &&& 2147483647) % k).toInt ∧ ((x &&& 2147483647) % k).toInt < k.toInt := by
  have h := mask31 x
  rw [Int32.toInt_mod, Int.tmod_eq_emod_of_nonneg (by omega)]
  exact ⟨Int.emod_nonneg _ (by omega), Int.emod_lt_of_pos _ hk⟩
theorem lt32 {a b : Int32} : a < b ↔ a.toInt < b.toInt := Int32.lt_iff_toInt_lt
theorem eq32 {a b : Int32} : a = b ↔ a.toInt = b.toInt := Int32.toInt_inj.symm
theorem add32 {x y : Int32} (h1 : -2147483648 ≤ x.toInt + y.toInt) (h2 : x.toInt + y.toInt < 2147483648) : (x + y).toInt = x.toInt + y.toInt := by
  rw [Int32.toInt_add, Int.bmod_eq_of_le (by omega) (by omega)]
theorem sub32 {x y : Int32} (h1 : -2147483648 ≤ x.toInt - y.toInt) (h2 : x.toInt - y.toInt < 2147483648) : (x - y).toInt = x.toInt - y.toInt := by
  rw [Int32.toInt_sub, Int.bmod_eq_of_le (by omega) (by omega)]
theorem div32 {x y : Int32} (hx : 0 ≤ x.toInt) (hy : 0 < y.toInt) : (x / y).toInt = x.toInt / y.toInt := by
  rw [Int32.toInt_div, Int.tdiv_eq_ediv_of_nonneg hx, Int.bmod_eq_of_le]
  · have := Int.ediv_nonneg hx (Int.le_of_lt hy); omega
  · have h1 := Int.ediv_le_self y.toInt hx
    have h2 := x.toInt_lt
    omega
theorem maskk (x m : Int32) (k : Nat) (hk : k < 32) (hm : m.toBitVec.toNat = 2 ^ k - 1) : (x &&& m).toInt = x.toInt % 2 ^ k := by
  have h : (x &&& m).toInt = (x.toBitVec &&& m.toBitVec).toInt := rfl
  have hle : 2 ^ k ≤ 2 ^ 31 := Nat.pow_le_pow_right (by decide) (by omega)
  rw [h, BitVec.toInt_eq_toNat_bmod, BitVec.toNat_and, hm, Nat.and_two_pow_sub_one_eq_mod]
  have e2 : x.toInt = (x.toBitVec.toNat : Int).bmod (2 ^ 32) := BitVec.toInt_eq_toNat_bmod _
  have hlt := Nat.mod_lt x.toBitVec.toNat (Nat.two_pow_pos k)
  rw [e2, Int.bmod_eq_of_le (by omega) (by omega)]
  have hd : ((2 ^ k : Nat) : Int) ∣ ((2 ^ 32 : Nat) : Int) := Int.natCast_dvd_natCast.mpr (Nat.pow_dvd_pow 2 (by omega))
  have e3 : ((x.toBitVec.toNat : Int).bmod (2 ^ 32)) % ((2 ^ k : Nat) : Int) = (x.toBitVec.toNat : Int) % ((2 ^ k : Nat) : Int) := by
    have f1 := Int.emod_emod_of_dvd ((x.toBitVec.toNat : Int).bmod (2 ^ 32)) hd
    have f2 := Int.emod_emod_of_dvd (x.toBitVec.toNat : Int) hd
    rw [← f1, ← f2, Int.bmod_emod]
  have e4 : ((2 ^ k : Nat) : Int) = 2 ^ k := by simp
  rw [← e4, e3]; simp
end Jvm.OwnW
namespace Jvm.Pilot.@@N@@
open Jvm Jvm.ClassFile Sem Op Lib Jvm.Free Jvm.Stand Jvm.LawKit Jvm.RoadKit Bundle Jvm.OwnW Jvm.Pilot.@@N@@.Jvm.D
abbrev B0 : Bdy := (x.cls, x.name, code, maxLocals, ret)
theorem own_pf0 : plainFor x = true := by first | exact plainFor_of_name (by first | (simp [plainName, overriddenIn, x]; done) | decide +kernel) | decide +kernel
abbrev B1 : Bdy := ("org/afterlog/internal/text/Ascii", "isAscii", prog_119_method_2_code, 5, (some .boolean))
theorem d1_0 : decode prog_119_method_2_code 0 = .ok (.iconst 0, 1) := by decide +kernel
theorem d1_1 : decode prog_119_method_2_code 1 = .ok (.istore_n 3, 1) := by decide +kernel
theorem d1_2 : decode prog_119_method_2_code 2 = .ok (.iload_n 1, 1) := by decide +kernel
theorem d1_3 : decode prog_119_method_2_code 3 = .ok (.istore 4, 2) := by decide +kernel
theorem d1_5 : decode prog_119_method_2_code 5 = .ok (.iload 4, 2) := by decide +kernel
theorem d1_7 : decode prog_119_method_2_code 7 = .ok (.bipush 8, 2) := by decide +kernel
theorem d1_9 : decode prog_119_method_2_code 9 = .ok (.iadd, 1) := by decide +kernel
theorem d1_10 : decode prog_119_method_2_code 10 = .ok (.iload_n 2, 1) := by decide +kernel
theorem d1_11 : decode prog_119_method_2_code 11 = .ok (.if_icmp .gt 67, 3) := by decide +kernel
theorem d1_14 : decode prog_119_method_2_code 14 = .ok (.iload_n 3, 1) := by decide +kernel
theorem d1_15 : decode prog_119_method_2_code 15 = .ok (.aload_n 0, 1) := by decide +kernel
theorem d1_16 : decode prog_119_method_2_code 16 = .ok (.iload 4, 2) := by decide +kernel
theorem d1_18 : decode prog_119_method_2_code 18 = .ok (.baload, 1) := by decide +kernel
theorem d1_19 : decode prog_119_method_2_code 19 = .ok (.aload_n 0, 1) := by decide +kernel
theorem d1_20 : decode prog_119_method_2_code 20 = .ok (.iload 4, 2) := by decide +kernel
theorem d1_22 : decode prog_119_method_2_code 22 = .ok (.iconst 1, 1) := by decide +kernel
theorem d1_23 : decode prog_119_method_2_code 23 = .ok (.iadd, 1) := by decide +kernel
theorem d1_24 : decode prog_119_method_2_code 24 = .ok (.baload, 1) := by decide +kernel
theorem d1_25 : decode prog_119_method_2_code 25 = .ok (.ior, 1) := by decide +kernel
theorem d1_26 : decode prog_119_method_2_code 26 = .ok (.aload_n 0, 1) := by decide +kernel
theorem d1_27 : decode prog_119_method_2_code 27 = .ok (.iload 4, 2) := by decide +kernel
theorem d1_29 : decode prog_119_method_2_code 29 = .ok (.iconst 2, 1) := by decide +kernel
theorem d1_30 : decode prog_119_method_2_code 30 = .ok (.iadd, 1) := by decide +kernel
theorem d1_31 : decode prog_119_method_2_code 31 = .ok (.baload, 1) := by decide +kernel
theorem d1_32 : decode prog_119_method_2_code 32 = .ok (.ior, 1) := by decide +kernel
theorem d1_33 : decode prog_119_method_2_code 33 = .ok (.aload_n 0, 1) := by decide +kernel
theorem d1_34 : decode prog_119_method_2_code 34 = .ok (.iload 4, 2) := by decide +kernel
theorem d1_36 : decode prog_119_method_2_code 36 = .ok (.iconst 3, 1) := by decide +kernel
theorem d1_37 : decode prog_119_method_2_code 37 = .ok (.iadd, 1) := by decide +kernel
theorem d1_38 : decode prog_119_method_2_code 38 = .ok (.baload, 1) := by decide +kernel
theorem d1_39 : decode prog_119_method_2_code 39 = .ok (.ior, 1) := by decide +kernel
theorem d1_40 : decode prog_119_method_2_code 40 = .ok (.aload_n 0, 1) := by decide +kernel
theorem d1_41 : decode prog_119_method_2_code 41 = .ok (.iload 4, 2) := by decide +kernel
theorem d1_43 : decode prog_119_method_2_code 43 = .ok (.iconst 4, 1) := by decide +kernel
theorem d1_44 : decode prog_119_method_2_code 44 = .ok (.iadd, 1) := by decide +kernel
theorem d1_45 : decode prog_119_method_2_code 45 = .ok (.baload, 1) := by decide +kernel
theorem d1_46 : decode prog_119_method_2_code 46 = .ok (.ior, 1) := by decide +kernel
theorem d1_47 : decode prog_119_method_2_code 47 = .ok (.aload_n 0, 1) := by decide +kernel
theorem d1_48 : decode prog_119_method_2_code 48 = .ok (.iload 4, 2) := by decide +kernel
theorem d1_50 : decode prog_119_method_2_code 50 = .ok (.iconst 5, 1) := by decide +kernel
theorem d1_51 : decode prog_119_method_2_code 51 = .ok (.iadd, 1) := by decide +kernel
theorem d1_52 : decode prog_119_method_2_code 52 = .ok (.baload, 1) := by decide +kernel
theorem d1_53 : decode prog_119_method_2_code 53 = .ok (.ior, 1) := by decide +kernel
theorem d1_54 : decode prog_119_method_2_code 54 = .ok (.aload_n 0, 1) := by decide +kernel
theorem d1_55 : decode prog_119_method_2_code 55 = .ok (.iload 4, 2) := by decide +kernel
theorem d1_57 : decode prog_119_method_2_code 57 = .ok (.bipush 6, 2) := by decide +kernel
theorem d1_59 : decode prog_119_method_2_code 59 = .ok (.iadd, 1) := by decide +kernel
theorem d1_60 : decode prog_119_method_2_code 60 = .ok (.baload, 1) := by decide +kernel
theorem d1_61 : decode prog_119_method_2_code 61 = .ok (.ior, 1) := by decide +kernel
theorem d1_62 : decode prog_119_method_2_code 62 = .ok (.aload_n 0, 1) := by decide +kernel
theorem d1_63 : decode prog_119_method_2_code 63 = .ok (.iload 4, 2) := by decide +kernel
theorem d1_65 : decode prog_119_method_2_code 65 = .ok (.bipush 7, 2) := by decide +kernel
theorem d1_67 : decode prog_119_method_2_code 67 = .ok (.iadd, 1) := by decide +kernel
theorem d1_68 : decode prog_119_method_2_code 68 = .ok (.baload, 1) := by decide +kernel
theorem d1_69 : decode prog_119_method_2_code 69 = .ok (.ior, 1) := by decide +kernel
theorem d1_70 : decode prog_119_method_2_code 70 = .ok (.ior, 1) := by decide +kernel
theorem d1_71 : decode prog_119_method_2_code 71 = .ok (.istore_n 3, 1) := by decide +kernel
theorem d1_72 : decode prog_119_method_2_code 72 = .ok (.iinc 4 8, 3) := by decide +kernel
theorem d1_75 : decode prog_119_method_2_code 75 = .ok (.goto (-70), 3) := by decide +kernel
theorem d1_78 : decode prog_119_method_2_code 78 = .ok (.iload 4, 2) := by decide +kernel
theorem d1_80 : decode prog_119_method_2_code 80 = .ok (.iload_n 2, 1) := by decide +kernel
theorem d1_81 : decode prog_119_method_2_code 81 = .ok (.if_icmp .ge 16, 3) := by decide +kernel
theorem d1_84 : decode prog_119_method_2_code 84 = .ok (.iload_n 3, 1) := by decide +kernel
theorem d1_85 : decode prog_119_method_2_code 85 = .ok (.aload_n 0, 1) := by decide +kernel
theorem d1_86 : decode prog_119_method_2_code 86 = .ok (.iload 4, 2) := by decide +kernel
theorem d1_88 : decode prog_119_method_2_code 88 = .ok (.baload, 1) := by decide +kernel
theorem d1_89 : decode prog_119_method_2_code 89 = .ok (.ior, 1) := by decide +kernel
theorem d1_90 : decode prog_119_method_2_code 90 = .ok (.istore_n 3, 1) := by decide +kernel
theorem d1_91 : decode prog_119_method_2_code 91 = .ok (.iinc 4 1, 3) := by decide +kernel
theorem d1_94 : decode prog_119_method_2_code 94 = .ok (.goto (-16), 3) := by decide +kernel
theorem d1_97 : decode prog_119_method_2_code 97 = .ok (.iload_n 3, 1) := by decide +kernel
theorem d1_98 : decode prog_119_method_2_code 98 = .ok (.ifCond .lt 7, 3) := by decide +kernel
theorem d1_101 : decode prog_119_method_2_code 101 = .ok (.iconst 1, 1) := by decide +kernel
theorem d1_102 : decode prog_119_method_2_code 102 = .ok (.goto 4, 3) := by decide +kernel
theorem d1_105 : decode prog_119_method_2_code 105 = .ok (.iconst 0, 1) := by decide +kernel
theorem d1_106 : decode prog_119_method_2_code 106 = .ok (.ireturn, 1) := by decide +kernel
theorem own_pf1 : plainFor (⟨"org/afterlog/internal/text/Ascii", "isAscii", "([BII)Z"⟩ : MethodName) = true := by first | exact plainFor_of_name (by first | (simp [plainName, overriddenIn, x]; done) | decide +kernel) | decide +kernel
theorem own_pd1 : parseMethodDescriptor "([BII)Z" = some ⟨[(.array .byte), .int, .int], (some .boolean)⟩ := by decide +kernel
theorem own_cb_10 : (Int8.ofInt (10)).toInt32 = (10 : Int32) := by decide
theorem own_cb_11 : (Int8.ofInt (11)).toInt32 = (11 : Int32) := by decide
theorem own_cb_12 : (Int8.ofInt (12)).toInt32 = (12 : Int32) := by decide
theorem own_cb_127 : (Int8.ofInt (127)).toInt32 = (127 : Int32) := by decide
theorem own_cb_13 : (Int8.ofInt (13)).toInt32 = (13 : Int32) := by decide
theorem own_cb_14 : (Int8.ofInt (14)).toInt32 = (14 : Int32) := by decide
theorem own_cb_15 : (Int8.ofInt (15)).toInt32 = (15 : Int32) := by decide
theorem own_cb_16 : (Int8.ofInt (16)).toInt32 = (16 : Int32) := by decide
theorem own_cb_17 : (Int8.ofInt (17)).toInt32 = (17 : Int32) := by decide
theorem own_cb_18 : (Int8.ofInt (18)).toInt32 = (18 : Int32) := by decide
theorem own_cb_19 : (Int8.ofInt (19)).toInt32 = (19 : Int32) := by decide
theorem own_cb_20 : (Int8.ofInt (20)).toInt32 = (20 : Int32) := by decide
theorem own_cb_21 : (Int8.ofInt (21)).toInt32 = (21 : Int32) := by decide
theorem own_cb_6 : (Int8.ofInt (6)).toInt32 = (6 : Int32) := by decide
theorem own_cb_7 : (Int8.ofInt (7)).toInt32 = (7 : Int32) := by decide
theorem own_cb_8 : (Int8.ofInt (8)).toInt32 = (8 : Int32) := by decide
theorem own_cb_9 : (Int8.ofInt (9)).toInt32 = (9 : Int32) := by decide
theorem own_ci_0 : Int32.ofInt (0) = (0 : Int32) := by decide
theorem own_ci_1 : Int32.ofInt (1) = (1 : Int32) := by decide
theorem own_ci_2 : Int32.ofInt (2) = (2 : Int32) := by decide
theorem own_ci_3 : Int32.ofInt (3) = (3 : Int32) := by decide
theorem own_ci_4 : Int32.ofInt (4) = (4 : Int32) := by decide
theorem own_ci_5 : Int32.ofInt (5) = (5 : Int32) := by decide
theorem own_ci_8 : Int32.ofInt (8) = (8 : Int32) := by decide
def own_bi (b : Bool) : Int32 := if b then 1 else 0
def own_nn (v : Int32) : Bool := decide (¬ v < 0)
def own_all (xs : List Int32) (i t : Nat) : Bool := (List.range' i (t - i)).all fun j => own_nn (xs.getD j 0)
theorem own_nar (b : Bool) : nar .boolean (own_bi b) = own_bi b := by cases b <;> decide
theorem own_bi0 (b : Bool) : own_bi b = 0 ↔ b = false := by cases b <;> decide
theorem own_lt0 (a : Int32) : a < 0 ↔ a.toBitVec.msb = true := by
  have k0 : (0 : Int32).toInt = 0 := by decide
  rw [lt32, k0]
  have h : a.toInt = a.toBitVec.toInt := rfl
  rw [h, BitVec.msb_eq_toInt]; simp
theorem own_nn_or (a b : Int32) : own_nn (a ||| b) = (own_nn a && own_nn b) := by
  have h : (a ||| b).toBitVec = a.toBitVec ||| b.toBitVec := rfl
  simp only [own_nn, own_lt0, h, BitVec.msb_or]
  cases a.toBitVec.msb <;> cases b.toBitVec.msb <;> rfl
theorem own_all_iff (xs : List Int32) (i t : Nat) : own_all xs i t = true ↔ ∀ j, i ≤ j → j < t → own_nn (xs.getD j 0) = true := by
  simp only [own_all, List.all_eq_true, List.mem_range'_1]
  constructor
  · intro h j h1 h2; exact h j ⟨h1, by omega⟩
  · intro h j h1; exact h j h1.1 (by omega)
theorem own_all_step (xs : List Int32) {i t : Nat} (h : i < t) : own_all xs i t = (own_nn (xs.getD i 0) && own_all xs (i + 1) t) := by
  unfold own_all
  obtain ⟨k, hk⟩ : ∃ k, t - i = k + 1 := ⟨t - i - 1, by omega⟩
  have hk' : t - (i + 1) = k := by omega
  rw [hk, hk', List.range'_succ]; rfl
theorem own_all_step' (xs : List Int32) {i j t : Nat} (h : i < t) (hj : i + 1 = j) : own_all xs i t = (own_nn (xs.getD i 0) && own_all xs j t) := by
  subst hj; exact own_all_step xs h
theorem own_all_done (xs : List Int32) {i t : Nat} (h : t ≤ i) : own_all xs i t = true := by
  unfold own_all; rw [Nat.sub_eq_zero_of_le h]; rfl
theorem own_get (xs : List Int32) (j : Int32) (n : Nat) (hn : j.toInt = n) (h1 : n < xs.length) : xs[j.toNatClampNeg]? = some (xs.getD n 0) := by
  have : j.toNatClampNeg = n := by show j.toInt.toNat = n; omega
  rw [this, List.getD_eq_getElem?_getD, List.getElem?_eq_getElem h1]; rfl
theorem own_loop2 (l : Launch) (Z : State) (n0 : Nat) (h : Heap) (a : Addr) (xs : List Int32) (f t : Int32) (A : AI Z h a .byte xs) (ht : t.toInt ≤ xs.length) (hs : t.toInt < 2147483600) : ∀ (n : Nat) (i m : Int32) (k : Nat), i.toInt = k → (t.toInt - i.toInt).toNat = n →
    W l Z n0 (rmF 0 0 0 0) B1 (RI (fun r h' => r = own_bi (own_nn m && own_all xs k t.toInt.toNat) ∧ h' = h)) h 0 0 78 [.val (.ref a), .val (.int f), .val (.int t), .val (.int m), .val (.int i)] [] := by
  have k0 : (0 : Int32).toInt = 0 := by decide
  have k1 : (1 : Int32).toInt = 1 := by decide
  intro n
  induction n with
  | zero =>
    intro i m k hi hn
    refine W.iload d1_78 rfl rfl ?_
    refine W.iloadN d1_80 rfl rfl ?_
    refine W.icmp_ge d1_81 (by decide) rfl rfl (fun q1 => ?_) (fun q2 => ?_)
    · rw [own_all_done xs (by omega), Bool.and_true]
      refine W.iloadN d1_97 rfl rfl ?_
      refine W.ifc_lt d1_98 (by decide) rfl rfl (fun q3 => ?_) (fun q4 => ?_)
      · refine W.iconst d1_105 own_ci_0 rfl ?_
        exact W.ireturnN d1_106 rfl (Or.inl rfl) rfl ⟨_, rfl, by simp only [own_nn, q3]; decide, rfl⟩
      · refine W.iconst d1_101 own_ci_1 rfl ?_
        refine W.goto d1_102 (by decide) rfl ?_
        exact W.ireturnN d1_106 rfl (Or.inl rfl) rfl ⟨_, rfl, by simp only [own_nn, q4]; decide, rfl⟩
    · rw [lt32] at q2; omega
  | succ n ih =>
    intro i m k hi hn
    have hi1 : (i + 1).toInt = ((k + 1 : Nat) : Int) := by rw [add32 (by omega) (by omega), k1]; omega
    refine W.iload d1_78 rfl rfl ?_
    refine W.iloadN d1_80 rfl rfl ?_
    refine W.icmp_ge d1_81 (by decide) rfl rfl (fun q1 => ?_) (fun q2 => ?_)
    · rw [lt32] at q1; omega
    refine W.iloadN d1_84 rfl rfl ?_
    refine W.aloadN d1_85 rfl rfl rfl ?_
    refine W.iload d1_86 rfl rfl ?_
    refine W.baloadB d1_88 A (by rw [lt32]; omega) (own_get xs i k hi (by omega)) rfl ?_
    refine W.ior d1_89 rfl ?_
    refine W.istoreN d1_90 (Put.s (Put.s (Put.s Put.z))) rfl rfl rfl ?_
    refine W.iinc d1_91 rfl own_ci_1 (Put.s (Put.s (Put.s (Put.s Put.z)))) rfl ?_
    refine W.goto d1_94 (by decide) rfl ?_
    rw [own_all_step xs (i := k) (t := t.toInt.toNat) (by omega), ← Bool.and_assoc, ← own_nn_or]
    exact ih (i + 1) _ (k + 1) hi1 (by omega)
set_option maxHeartbeats 4000000 in
theorem own_loop1 (l : Launch) (Z : State) (n0 : Nat) (h : Heap) (a : Addr) (xs : List Int32) (f t : Int32) (A : AI Z h a .byte xs) (ht : t.toInt ≤ xs.length) (hs : t.toInt < 2147483600) : ∀ (n : Nat) (i m : Int32) (k : Nat), i.toInt = k → k < 2147483600 → (t.toInt - i.toInt).toNat ≤ n →
    W l Z n0 (rmF 0 0 0 0) B1 (RI (fun r h' => r = own_bi (own_nn m && own_all xs k t.toInt.toNat) ∧ h' = h)) h 0 0 5 [.val (.ref a), .val (.int f), .val (.int t), .val (.int m), .val (.int i)] [] := by
  have k0 : (0 : Int32).toInt = 0 := by decide
  have k1 : (1 : Int32).toInt = 1 := by decide
  have k2 : (2 : Int32).toInt = 2 := by decide
  have k3 : (3 : Int32).toInt = 3 := by decide
  have k4 : (4 : Int32).toInt = 4 := by decide
  have k5 : (5 : Int32).toInt = 5 := by decide
  have k6 : (6 : Int32).toInt = 6 := by decide
  have k7 : (7 : Int32).toInt = 7 := by decide
  have k8 : (8 : Int32).toInt = 8 := by decide
  intro n
  induction n with
  | zero =>
    intro i m k hi hk hn
    have hi8 : (i + 8).toInt = i.toInt + 8 := by rw [add32 (by omega) (by omega), k8]
    refine W.iload d1_5 rfl rfl ?_
    refine W.bipush d1_7 own_cb_8 rfl ?_
    refine W.iadd d1_9 rfl ?_
    refine W.iloadN d1_10 rfl rfl ?_
    refine W.icmp_gt d1_11 (by decide) rfl rfl (fun q1 => ?_) (fun q2 => ?_)
    · exact own_loop2 l Z n0 h a xs f t A ht hs _ i m k hi rfl
    · rw [lt32] at q2; omega
  | succ n ih =>
    intro i m k hi hk hn
    have hi8 : (i + 8).toInt = i.toInt + 8 := by rw [add32 (by omega) (by omega), k8]
    refine W.iload d1_5 rfl rfl ?_
    refine W.bipush d1_7 own_cb_8 rfl ?_
    refine W.iadd d1_9 rfl ?_
    refine W.iloadN d1_10 rfl rfl ?_
    refine W.icmp_gt d1_11 (by decide) rfl rfl (fun q1 => ?_) (fun q2 => ?_)
    · exact own_loop2 l Z n0 h a xs f t A ht hs _ i m k hi rfl
    rw [lt32] at q2
    have hi1 : (i + 1).toInt = ((k + 1 : Nat) : Int) := by rw [add32 (by omega) (by omega), k1]; omega
    have hi2 : (i + 2).toInt = ((k + 2 : Nat) : Int) := by rw [add32 (by omega) (by omega), k2]; omega
    have hi3 : (i + 3).toInt = ((k + 3 : Nat) : Int) := by rw [add32 (by omega) (by omega), k3]; omega
    have hi4 : (i + 4).toInt = ((k + 4 : Nat) : Int) := by rw [add32 (by omega) (by omega), k4]; omega
    have hi5 : (i + 5).toInt = ((k + 5 : Nat) : Int) := by rw [add32 (by omega) (by omega), k5]; omega
    have hi6 : (i + 6).toInt = ((k + 6 : Nat) : Int) := by rw [add32 (by omega) (by omega), k6]; omega
    have hi7 : (i + 7).toInt = ((k + 7 : Nat) : Int) := by rw [add32 (by omega) (by omega), k7]; omega
    refine W.iloadN d1_14 rfl rfl ?_
    refine W.aloadN d1_15 rfl rfl rfl ?_
    refine W.iload d1_16 rfl rfl ?_
    refine W.baloadB d1_18 A (by rw [lt32]; omega) (own_get xs i k hi (by omega)) rfl ?_
    refine W.aloadN d1_19 rfl rfl rfl ?_
    refine W.iload d1_20 rfl rfl ?_
    refine W.iconst d1_22 own_ci_1 rfl ?_
    refine W.iadd d1_23 rfl ?_
    refine W.baloadB d1_24 A (by rw [lt32]; omega) (own_get xs (i + 1) (k + 1) hi1 (by omega)) rfl ?_
    refine W.ior d1_25 rfl ?_
    refine W.aloadN d1_26 rfl rfl rfl ?_
    refine W.iload d1_27 rfl rfl ?_
    refine W.iconst d1_29 own_ci_2 rfl ?_
    refine W.iadd d1_30 rfl ?_
    refine W.baloadB d1_31 A (by rw [lt32]; omega) (own_get xs (i + 2) (k + 2) hi2 (by omega)) rfl ?_
    refine W.ior d1_32 rfl ?_
    refine W.aloadN d1_33 rfl rfl rfl ?_
    refine W.iload d1_34 rfl rfl ?_
    refine W.iconst d1_36 own_ci_3 rfl ?_
    refine W.iadd d1_37 rfl ?_
    refine W.baloadB d1_38 A (by rw [lt32]; omega) (own_get xs (i + 3) (k + 3) hi3 (by omega)) rfl ?_
    refine W.ior d1_39 rfl ?_
    refine W.aloadN d1_40 rfl rfl rfl ?_
    refine W.iload d1_41 rfl rfl ?_
    refine W.iconst d1_43 own_ci_4 rfl ?_
    refine W.iadd d1_44 rfl ?_
    refine W.baloadB d1_45 A (by rw [lt32]; omega) (own_get xs (i + 4) (k + 4) hi4 (by omega)) rfl ?_
    refine W.ior d1_46 rfl ?_
    refine W.aloadN d1_47 rfl rfl rfl ?_
    refine W.iload d1_48 rfl rfl ?_
    refine W.iconst d1_50 own_ci_5 rfl ?_
    refine W.iadd d1_51 rfl ?_
    refine W.baloadB d1_52 A (by rw [lt32]; omega) (own_get xs (i + 5) (k + 5) hi5 (by omega)) rfl ?_
    refine W.ior d1_53 rfl ?_
    refine W.aloadN d1_54 rfl rfl rfl ?_
    refine W.iload d1_55 rfl rfl ?_
    refine W.bipush d1_57 own_cb_6 rfl ?_
    refine W.iadd d1_59 rfl ?_
    refine W.baloadB d1_60 A (by rw [lt32]; omega) (own_get xs (i + 6) (k + 6) hi6 (by omega)) rfl ?_
    refine W.ior d1_61 rfl ?_
    refine W.aloadN d1_62 rfl rfl rfl ?_
    refine W.iload d1_63 rfl rfl ?_
    refine W.bipush d1_65 own_cb_7 rfl ?_
    refine W.iadd d1_67 rfl ?_
    refine W.baloadB d1_68 A (by rw [lt32]; omega) (own_get xs (i + 7) (k + 7) hi7 (by omega)) rfl ?_
    refine W.ior d1_69 rfl ?_
    refine W.ior d1_70 rfl ?_
    refine W.istoreN d1_71 (Put.s (Put.s (Put.s Put.z))) rfl rfl rfl ?_
    refine W.iinc d1_72 rfl own_ci_8 (Put.s (Put.s (Put.s (Put.s Put.z)))) rfl ?_
    refine W.goto d1_75 (by decide) rfl ?_
    rw [own_all_step' xs (i := k) (j := k + 1) (t := t.toInt.toNat) (by omega) (by omega)]
    rw [own_all_step' xs (i := k + 1) (j := k + 2) (t := t.toInt.toNat) (by omega) (by omega)]
    rw [own_all_step' xs (i := k + 2) (j := k + 3) (t := t.toInt.toNat) (by omega) (by omega)]
    rw [own_all_step' xs (i := k + 3) (j := k + 4) (t := t.toInt.toNat) (by omega) (by omega)]
    rw [own_all_step' xs (i := k + 4) (j := k + 5) (t := t.toInt.toNat) (by omega) (by omega)]
    rw [own_all_step' xs (i := k + 5) (j := k + 6) (t := t.toInt.toNat) (by omega) (by omega)]
    rw [own_all_step' xs (i := k + 6) (j := k + 7) (t := t.toInt.toNat) (by omega) (by omega)]
    rw [own_all_step' xs (i := k + 7) (j := k + 8) (t := t.toInt.toNat) (by omega) (by omega)]
    have e : (own_nn m && (own_nn (xs.getD k 0) && (own_nn (xs.getD (k + 1) 0) && (own_nn (xs.getD (k + 2) 0) && (own_nn (xs.getD (k + 3) 0) && (own_nn (xs.getD (k + 4) 0) && (own_nn (xs.getD (k + 5) 0) && (own_nn (xs.getD (k + 6) 0) && (own_nn (xs.getD (k + 7) 0) && own_all xs (k + 8) t.toInt.toNat))))))))) = (own_nn (m ||| (xs.getD k 0 ||| xs.getD (k + 1) 0 ||| xs.getD (k + 2) 0 ||| xs.getD (k + 3) 0 ||| xs.getD (k + 4) 0 ||| xs.getD (k + 5) 0 ||| xs.getD (k + 6) 0 ||| xs.getD (k + 7) 0)) && own_all xs (k + 8) t.toInt.toNat) := by
      simp only [own_nn_or, Bool.and_assoc]
    rw [e]
    exact ih (i + 8) _ (k + 8) (by omega) (by omega) (by omega)
theorem own_c1 (l : Launch) (Z : State) (n0 : Nat) (h : Heap) (a : Addr) (xs : List Int32) (f t : Int32) (A : AI Z h a .byte xs) (ht : t.toInt ≤ xs.length) (hs : t.toInt < 2147483600) (k : Nat) (hf : f.toInt = k) (hk : k < 2147483600) :
    W l Z n0 (rmF 0 0 0 0) B1 (RI (fun r h' => r = own_bi (own_all xs k t.toInt.toNat) ∧ h' = h)) h 0 0 0 [.val (.ref a), .val (.int f), .val (.int t), .unset, .unset] [] := by
  refine W.iconst d1_0 own_ci_0 rfl ?_
  refine W.istoreN d1_1 (Put.s (Put.s (Put.s Put.z))) rfl rfl rfl ?_
  refine W.iloadN d1_2 rfl rfl ?_
  refine W.istore d1_3 (Put.s (Put.s (Put.s (Put.s Put.z)))) rfl rfl rfl ?_
  exact own_loop1 l Z n0 h a xs f t A ht hs _ f 0 k hf hk (Nat.le_refl _)
def own_vb (p q f t v : Int32) : Bool := decide (¬ p = q ∧ ¬ p < f ∧ p < t ∧ v < 0)
def own_wb (q f t w : Int32) : Bool := decide (¬ q < f ∧ q < t ∧ w < 0)
theorem own_final (xs : List Int32) (p q f t v w : Int32) (hx : ∀ j, own_nn (xs.getD j 0) = true) (hl : xs.length = 20) (hp : 0 ≤ p.toInt) (hp' : p.toInt < 20) (hq : 0 ≤ q.toInt) (hq' : q.toInt < 20) (hf : 0 ≤ f.toInt) (ht : t.toInt ≤ 20) :
    own_all ((xs.set p.toInt.toNat v).set q.toInt.toNat w) f.toInt.toNat t.toInt.toNat = (!own_vb p q f t v && !own_wb q f t w) := by
  have g : ∀ j, j < 20 → ((xs.set p.toInt.toNat v).set q.toInt.toNat w).getD j 0 = if q.toInt.toNat = j then w else if p.toInt.toNat = j then v else xs.getD j 0 := by
    intro j hj
    simp only [List.getD_eq_getElem?_getD, List.getElem?_set, List.length_set, hl]
    split
    · rw [if_pos (by omega)]; rfl
    · split
      · rw [if_pos (by omega)]; rfl
      · rfl
  rw [Bool.eq_iff_iff, own_all_iff]
  simp only [own_vb, own_wb, Bool.and_eq_true, Bool.not_eq_true', decide_eq_false_iff_not, lt32, eq32]
  have k0 : (0 : Int32).toInt = 0 := by decide
  constructor
  · intro h
    constructor
    · rintro ⟨c1, c2, c3, c4⟩
      have := h p.toInt.toNat (by omega) (by omega)
      rw [g _ (by omega), if_neg (by omega), if_pos rfl] at this
      simp [own_nn, lt32] at this
      omega
    · rintro ⟨c2, c3, c4⟩
      have := h q.toInt.toNat (by omega) (by omega)
      rw [g _ (by omega), if_pos rfl] at this
      simp [own_nn, lt32] at this
      omega
  · rintro ⟨h1, h2⟩ j c1 c2
    rw [g j (by omega)]
    split
    · rename_i e
      simp [own_nn, lt32]
      exact Int.not_lt.mp fun c4 => h2 ⟨by omega, by omega, by omega⟩
    · rename_i e
      split
      · rename_i e'
        simp [own_nn, lt32]
        exact Int.not_lt.mp fun c4 => h1 ⟨by omega, by omega, by omega, by omega⟩
      · exact hx j
theorem own_t265 (l : Launch) (Z : State) (a0 : Array Value) (hw : ∀ d ∈ tables_1, d.before a0 Z = true) (h : Heap) (i0 i1 i2 i3 i4 i5 f t bs p q v w : Int32) (ys : List Int32) (A : AI Z h Z.heap.size .byte ys) (hl : ys.length = 20) (hf : 0 ≤ f.toInt) (hf' : f.toInt ≤ 20) (ht : t.toInt ≤ 20) (he : own_all ys f.toInt.toNat t.toInt.toNat = (!own_vb p q f t v && !own_wb q f t w)) (vb wb : Int32) :
    W l Z Z.heap.size room_1 B0 (fun v _ => v = some (.int 1)) h 1 20 265 [.val (.int i0), .val (.int i1), .val (.int i2), .val (.int i3), .val (.int i4), .val (.int i5), .val (.int f), .val (.int t), .val (.int bs), .val (.int p), .val (.int q), .val (.int v), .val (.int w), .val (.ref Z.heap.size), .val (.int vb), .val (.int wb), .unset] [.int (own_bi (!own_vb p q f t v && !own_wb q f t w))] := by
  refine W.istore at_265 (Put.s (Put.s (Put.s (Put.s (Put.s (Put.s (Put.s (Put.s (Put.s (Put.s (Put.s (Put.s (Put.s (Put.s (Put.s (Put.s Put.z)))))))))))))))) rfl rfl rfl ?_
  refine W.aload at_267 rfl rfl rfl ?_
  refine W.iload at_269 rfl rfl ?_
  refine W.iload at_271 rfl rfl ?_
  refine W.callS_I (B' := B1) (argsL := [_, _, _]) at_273 (hw _ (List.mem_of_getElem? (i := 2) rfl)) (hw _ (List.mem_of_getElem? (i := 3) rfl)) (hw _ (List.mem_of_getElem? (i := 4) rfl)) (hw _ (List.mem_of_getElem? (i := 5) rfl)) rfl (own_c1 l Z _ _ _ ys f t A (by omega) (by omega) f.toInt.toNat (by omega) (by omega)) own_pf1 (by decide) own_pd1 rfl rfl rfl (fun m => by first | (simp [entryFrame, mkF, argsToLocals, Value.category]; done) | rfl) rfl rfl rfl rfl rfl rfl (fun u h' hh => ?_)
  obtain ⟨rfl, rfl⟩ := hh
  rw [he]
  refine W.iload at_276 rfl rfl ?_
  refine W.icmp_ne at_278 (by decide) rfl rfl (fun q1 => ?_) (fun q2 => ?_)
  · exact absurd rfl q1
  refine W.iconst at_281 own_ci_1 rfl ?_
  refine W.goto at_282 (by decide) rfl ?_
  exact W.ireturnN at_286 rfl (Or.inl rfl) rfl rfl
theorem own_t248 (l : Launch) (Z : State) (a0 : Array Value) (hw : ∀ d ∈ tables_1, d.before a0 Z = true) (h : Heap) (i0 i1 i2 i3 i4 i5 f t bs p q v w : Int32) (ys : List Int32) (A : AI Z h Z.heap.size .byte ys) (hl : ys.length = 20) (hf : 0 ≤ f.toInt) (hf' : f.toInt ≤ 20) (ht : t.toInt ≤ 20) (he : own_all ys f.toInt.toNat t.toInt.toNat = (!own_vb p q f t v && !own_wb q f t w)) :
    W l Z Z.heap.size room_1 B0 (fun v _ => v = some (.int 1)) h 1 20 248 [.val (.int i0), .val (.int i1), .val (.int i2), .val (.int i3), .val (.int i4), .val (.int i5), .val (.int f), .val (.int t), .val (.int bs), .val (.int p), .val (.int q), .val (.int v), .val (.int w), .val (.ref Z.heap.size), .val (.int (own_bi (own_vb p q f t v))), .unset, .unset] [.int (own_bi (own_wb q f t w))] := by
  refine W.istore at_248 (Put.s (Put.s (Put.s (Put.s (Put.s (Put.s (Put.s (Put.s (Put.s (Put.s (Put.s (Put.s (Put.s (Put.s (Put.s Put.z))))))))))))))) rfl rfl rfl ?_
  refine W.iload at_250 rfl rfl ?_
  refine W.ifc_ne at_252 (by decide) rfl rfl (fun q1 => ?_) (fun q2 => ?_)
  · rw [own_bi0, Bool.not_eq_false] at q1
    have e : own_bi (!own_vb p q f t v && !own_wb q f t w) = 0 := by rw [q1]; rfl
    refine W.iconst at_264 own_ci_0 rfl ?_
    have := own_t265 l Z a0 hw h i0 i1 i2 i3 i4 i5 f t bs p q v w ys A hl hf hf' ht he (own_bi (own_vb p q f t v)) (own_bi (own_wb q f t w))
    rw [e] at this
    exact this
  refine W.iload at_255 rfl rfl ?_
  refine W.ifc_ne at_257 (by decide) rfl rfl (fun q3 => ?_) (fun q4 => ?_)
  · rw [own_bi0, Bool.not_eq_false] at q3
    have e : own_bi (!own_vb p q f t v && !own_wb q f t w) = 0 := by rw [q3, Bool.not_true, Bool.and_false]; rfl
    refine W.iconst at_264 own_ci_0 rfl ?_
    have := own_t265 l Z a0 hw h i0 i1 i2 i3 i4 i5 f t bs p q v w ys A hl hf hf' ht he (own_bi (own_vb p q f t v)) (own_bi (own_wb q f t w))
    rw [e] at this
    exact this
  · rw [own_bi0] at q2 q4
    have e : own_bi (!own_vb p q f t v && !own_wb q f t w) = 1 := by rw [q2, q4]; rfl
    refine W.iconst at_260 own_ci_1 rfl ?_
    refine W.goto at_261 (by decide) rfl ?_
    have := own_t265 l Z a0 hw h i0 i1 i2 i3 i4 i5 f t bs p q v w ys A hl hf hf' ht he (own_bi (own_vb p q f t v)) (own_bi (own_wb q f t w))
    rw [e] at this
    exact this
theorem own_t222 (l : Launch) (Z : State) (a0 : Array Value) (hw : ∀ d ∈ tables_1, d.before a0 Z = true) (h : Heap) (i0 i1 i2 i3 i4 i5 f t bs p q v w : Int32) (ys : List Int32) (A : AI Z h Z.heap.size .byte ys) (hl : ys.length = 20) (hf : 0 ≤ f.toInt) (hf' : f.toInt ≤ 20) (ht : t.toInt ≤ 20) (he : own_all ys f.toInt.toNat t.toInt.toNat = (!own_vb p q f t v && !own_wb q f t w)) :
    W l Z Z.heap.size room_1 B0 (fun v _ => v = some (.int 1)) h 1 20 222 [.val (.int i0), .val (.int i1), .val (.int i2), .val (.int i3), .val (.int i4), .val (.int i5), .val (.int f), .val (.int t), .val (.int bs), .val (.int p), .val (.int q), .val (.int v), .val (.int w), .val (.ref Z.heap.size), .unset, .unset, .unset] [.int (own_bi (own_vb p q f t v))] := by
  have T := own_t248 l Z a0 hw h i0 i1 i2 i3 i4 i5 f t bs p q v w ys A hl hf hf' ht he
  have F : own_wb q f t w = false → W l Z Z.heap.size room_1 B0 (fun v _ => v = some (.int 1)) h 1 20 247 [.val (.int i0), .val (.int i1), .val (.int i2), .val (.int i3), .val (.int i4), .val (.int i5), .val (.int f), .val (.int t), .val (.int bs), .val (.int p), .val (.int q), .val (.int v), .val (.int w), .val (.ref Z.heap.size), .val (.int (own_bi (own_vb p q f t v))), .unset, .unset] [] := by
    intro e
    rw [e] at T
    refine W.iconst at_247 own_ci_0 rfl ?_
    exact T
  refine W.istore at_222 (Put.s (Put.s (Put.s (Put.s (Put.s (Put.s (Put.s (Put.s (Put.s (Put.s (Put.s (Put.s (Put.s (Put.s Put.z)))))))))))))) rfl rfl rfl ?_
  refine W.iload at_224 rfl rfl ?_
  refine W.iload at_226 rfl rfl ?_
  refine W.icmp_gt at_228 (by decide) rfl rfl (fun q1 => ?_) (fun q2 => ?_)
  · exact F (by simp [own_wb, q1])
  refine W.iload at_231 rfl rfl ?_
  refine W.iload at_233 rfl rfl ?_
  refine W.icmp_ge at_235 (by decide) rfl rfl (fun q3 => ?_) (fun q4 => ?_)
  · exact F (by simp only [own_wb, q3]; simp)
  refine W.iload at_238 rfl rfl ?_
  refine W.ifc_ge at_240 (by decide) rfl rfl (fun q5 => ?_) (fun q6 => ?_)
  · exact F (by simp only [own_wb, q5]; simp)
  · have e : own_wb q f t w = true := by simp only [own_wb, q2, q4, q6]; decide
    rw [e] at T
    refine W.iconst at_243 own_ci_1 rfl ?_
    refine W.goto at_244 (by decide) rfl ?_
    exact T
theorem own_t191 (l : Launch) (Z : State) (a0 : Array Value) (hw : ∀ d ∈ tables_1, d.before a0 Z = true) (h : Heap) (i0 i1 i2 i3 i4 i5 f t bs p q v w : Int32) (ys : List Int32) (A : AI Z h Z.heap.size .byte ys) (hl : ys.length = 20) (hf : 0 ≤ f.toInt) (hf' : f.toInt ≤ 20) (ht : t.toInt ≤ 20) (he : own_all ys f.toInt.toNat t.toInt.toNat = (!own_vb p q f t v && !own_wb q f t w)) :
    W l Z Z.heap.size room_1 B0 (fun v _ => v = some (.int 1)) h 1 20 191 [.val (.int i0), .val (.int i1), .val (.int i2), .val (.int i3), .val (.int i4), .val (.int i5), .val (.int f), .val (.int t), .val (.int bs), .val (.int p), .val (.int q), .val (.int v), .val (.int w), .val (.ref Z.heap.size), .unset, .unset, .unset] [] := by
  have T := own_t222 l Z a0 hw h i0 i1 i2 i3 i4 i5 f t bs p q v w ys A hl hf hf' ht he
  have F : own_vb p q f t v = false → W l Z Z.heap.size room_1 B0 (fun v _ => v = some (.int 1)) h 1 20 221 [.val (.int i0), .val (.int i1), .val (.int i2), .val (.int i3), .val (.int i4), .val (.int i5), .val (.int f), .val (.int t), .val (.int bs), .val (.int p), .val (.int q), .val (.int v), .val (.int w), .val (.ref Z.heap.size), .unset, .unset, .unset] [] := by
    intro e
    rw [e] at T
    refine W.iconst at_221 own_ci_0 rfl ?_
    exact T
  refine W.iload at_191 rfl rfl ?_
  refine W.iload at_193 rfl rfl ?_
  refine W.icmp_eq at_195 (by decide) rfl rfl (fun q1 => ?_) (fun q2 => ?_)
  · exact F (by simp [own_vb, q1])
  refine W.iload at_198 rfl rfl ?_
  refine W.iload at_200 rfl rfl ?_
  refine W.icmp_gt at_202 (by decide) rfl rfl (fun q3 => ?_) (fun q4 => ?_)
  · exact F (by simp [own_vb, q3])
  refine W.iload at_205 rfl rfl ?_
  refine W.iload at_207 rfl rfl ?_
  refine W.icmp_ge at_209 (by decide) rfl rfl (fun q5 => ?_) (fun q6 => ?_)
  · exact F (by simp only [own_vb, q5]; simp)
  refine W.iload at_212 rfl rfl ?_
  refine W.ifc_ge at_214 (by decide) rfl rfl (fun q7 => ?_) (fun q8 => ?_)
  · exact F (by simp only [own_vb, q7]; simp)
  · have e : own_vb p q f t v = true := by simp only [own_vb, q2, q4, q6, q8]; decide
    rw [e] at T
    refine W.iconst at_217 own_ci_1 rfl ?_
    refine W.goto at_218 (by decide) rfl ?_
    exact T
theorem own_b8 (z : Int32) : z.toInt8.toInt32.toInt8.toInt32 = z.toInt8.toInt32 := by simp
theorem own_base (c : Int32) : own_nn (c &&& 127).toInt8.toInt32 = true := by
  have h := maskk c 127 7 (by decide) (by decide)
  have k0 : (0 : Int32).toInt = 0 := by decide
  simp only [own_nn, decide_eq_true_eq, lt32, Int8.toInt_toInt32, Int32.toInt_toInt8, h, k0]
  have h1 := Int.emod_nonneg c.toInt (b := 2 ^ 7) (by decide)
  have h2 := Int.emod_lt_of_pos c.toInt (b := 2 ^ 7) (by decide)
  rw [Int.bmod_eq_of_le (by omega) (by omega)]
  omega
theorem own_law (l : Launch) (Z : State) (a0 : Array Value) (hw : ∀ d ∈ tables_1, d.before a0 Z = true) (i0 i1 i2 i3 i4 i5 : Int32) : W l Z Z.heap.size room_1 B0 (fun v _ => v = some (.int 1)) Z.heap 0 0 0 [.val (.int i0), .val (.int i1), .val (.int i2), .val (.int i3), .val (.int i4), .val (.int i5), .unset, .unset, .unset, .unset, .unset, .unset, .unset, .unset, .unset, .unset, .unset] [] := by
  have n20 : (20 : Int32).toInt = 20 := by decide
  have n21 : (21 : Int32).toInt = 21 := by decide
  refine W.iloadN at_0 rfl rfl ?_
  refine W.ldc at_1 (hw _ (List.mem_of_getElem? (i := 0) rfl)) rfl ?_
  refine W.iand at_3 rfl ?_
  refine W.bipush at_4 own_cb_21 rfl ?_
  refine W.irem at_6 (by decide) rfl ?_
  refine W.istore at_7 (Put.s (Put.s (Put.s (Put.s (Put.s (Put.s Put.z)))))) rfl rfl rfl ?_
  refine W.iloadN at_9 rfl rfl ?_
  refine W.ldc at_10 (hw _ (List.mem_of_getElem? (i := 0) rfl)) rfl ?_
  refine W.iand at_12 rfl ?_
  refine W.bipush at_13 own_cb_21 rfl ?_
  refine W.irem at_15 (by decide) rfl ?_
  refine W.istore at_16 (Put.s (Put.s (Put.s (Put.s (Put.s (Put.s (Put.s Put.z))))))) rfl rfl rfl ?_
  refine W.iloadN at_18 rfl rfl ?_
  refine W.bipush at_19 own_cb_127 rfl ?_
  refine W.iand at_21 rfl ?_
  refine W.i2b at_22 rfl ?_
  refine W.istore at_23 (Put.s (Put.s (Put.s (Put.s (Put.s (Put.s (Put.s (Put.s Put.z)))))))) rfl rfl rfl ?_
  refine W.iloadN at_25 rfl rfl ?_
  refine W.ldc at_26 (hw _ (List.mem_of_getElem? (i := 0) rfl)) rfl ?_
  refine W.iand at_28 rfl ?_
  refine W.bipush at_29 own_cb_20 rfl ?_
  refine W.irem at_31 (by decide) rfl ?_
  refine W.istore at_32 (Put.s (Put.s (Put.s (Put.s (Put.s (Put.s (Put.s (Put.s (Put.s Put.z))))))))) rfl rfl rfl ?_
  refine W.iload at_34 rfl rfl ?_
  refine W.ldc at_36 (hw _ (List.mem_of_getElem? (i := 0) rfl)) rfl ?_
  refine W.iand at_38 rfl ?_
  refine W.bipush at_39 own_cb_20 rfl ?_
  refine W.irem at_41 (by decide) rfl ?_
  refine W.istore at_42 (Put.s (Put.s (Put.s (Put.s (Put.s (Put.s (Put.s (Put.s (Put.s (Put.s Put.z)))))))))) rfl rfl rfl ?_
  refine W.iload at_44 rfl rfl ?_
  refine W.i2b at_46 rfl ?_
  refine W.istore at_47 (Put.s (Put.s (Put.s (Put.s (Put.s (Put.s (Put.s (Put.s (Put.s (Put.s (Put.s Put.z))))))))))) rfl rfl rfl ?_
  refine W.iload at_49 rfl rfl ?_
  refine W.bipush at_51 own_cb_8 rfl ?_
  refine W.ishr at_53 rfl ?_
  refine W.i2b at_54 rfl ?_
  refine W.istore at_55 (Put.s (Put.s (Put.s (Put.s (Put.s (Put.s (Put.s (Put.s (Put.s (Put.s (Put.s (Put.s Put.z)))))))))))) rfl rfl rfl ?_
  refine W.bipush at_57 own_cb_20 rfl ?_
  have hf := rem31 i0 21 (by decide)
  generalize (i0 &&& 2147483647) % 21 = f at *
  have ht := rem31 i1 21 (by decide)
  generalize (i1 &&& 2147483647) % 21 = t at *
  have hp := rem31 i3 20 (by decide)
  generalize (i3 &&& 2147483647) % 20 = p at *
  have hq := rem31 i4 20 (by decide)
  generalize (i4 &&& 2147483647) % 20 = q at *
  have hbs := own_base i2
  have hbb := own_b8 (i2 &&& 127)
  generalize (i2 &&& 127).toInt8.toInt32 = bs at *
  have hvb := own_b8 i5
  generalize i5.toInt8.toInt32 = v at *
  have hwb := own_b8 (i5 >>> (8 &&& 31))
  generalize (i5 >>> (8 &&& 31)).toInt8.toInt32 = w at *
  refine W.newarrayI (ty := .byte) (cap := 20) at_59 rfl rfl (hw _ (List.mem_of_getElem? (i := 1) rfl)) (by decide) (by decide) (by decide) (by decide) (by decide) rfl (fun h0 E0 A0 => ?_)
  have A0 : AI Z h0 Z.heap.size .byte [0, 0, 0, 0, 0, 0, 0, 0, 0, 0, 0, 0, 0, 0, 0, 0, 0, 0, 0, 0] := A0
  refine W.dup at_61 rfl rfl ?_
  refine W.iconst at_62 own_ci_0 rfl ?_
  refine W.iload at_63 rfl rfl ?_
  refine W.bastoreB at_65 A0 (by decide) (ltb rfl) hbb (Nat.le_refl _) rfl (fun h1 W1 A0 => ?_)
  have A0 : AI Z h1 Z.heap.size .byte [bs, 0, 0, 0, 0, 0, 0, 0, 0, 0, 0, 0, 0, 0, 0, 0, 0, 0, 0, 0] := A0
  refine W.dup at_66 rfl rfl ?_
  refine W.iconst at_67 own_ci_1 rfl ?_
  refine W.iload at_68 rfl rfl ?_
  refine W.bastoreB at_70 A0 (by decide) (ltb rfl) hbb (Nat.le_refl _) rfl (fun h2 W2 A0 => ?_)
  have A0 : AI Z h2 Z.heap.size .byte [bs, bs, 0, 0, 0, 0, 0, 0, 0, 0, 0, 0, 0, 0, 0, 0, 0, 0, 0, 0] := A0
  refine W.dup at_71 rfl rfl ?_
  refine W.iconst at_72 own_ci_2 rfl ?_
  refine W.iload at_73 rfl rfl ?_
  refine W.bastoreB at_75 A0 (by decide) (ltb rfl) hbb (Nat.le_refl _) rfl (fun h3 W3 A0 => ?_)
  have A0 : AI Z h3 Z.heap.size .byte [bs, bs, bs, 0, 0, 0, 0, 0, 0, 0, 0, 0, 0, 0, 0, 0, 0, 0, 0, 0] := A0
  refine W.dup at_76 rfl rfl ?_
  refine W.iconst at_77 own_ci_3 rfl ?_
  refine W.iload at_78 rfl rfl ?_
  refine W.bastoreB at_80 A0 (by decide) (ltb rfl) hbb (Nat.le_refl _) rfl (fun h4 W4 A0 => ?_)
  have A0 : AI Z h4 Z.heap.size .byte [bs, bs, bs, bs, 0, 0, 0, 0, 0, 0, 0, 0, 0, 0, 0, 0, 0, 0, 0, 0] := A0
  refine W.dup at_81 rfl rfl ?_
  refine W.iconst at_82 own_ci_4 rfl ?_
  refine W.iload at_83 rfl rfl ?_
  refine W.bastoreB at_85 A0 (by decide) (ltb rfl) hbb (Nat.le_refl _) rfl (fun h5 W5 A0 => ?_)
  have A0 : AI Z h5 Z.heap.size .byte [bs, bs, bs, bs, bs, 0, 0, 0, 0, 0, 0, 0, 0, 0, 0, 0, 0, 0, 0, 0] := A0
  refine W.dup at_86 rfl rfl ?_
  refine W.iconst at_87 own_ci_5 rfl ?_
  refine W.iload at_88 rfl rfl ?_
  refine W.bastoreB at_90 A0 (by decide) (ltb rfl) hbb (Nat.le_refl _) rfl (fun h6 W6 A0 => ?_)
  have A0 : AI Z h6 Z.heap.size .byte [bs, bs, bs, bs, bs, bs, 0, 0, 0, 0, 0, 0, 0, 0, 0, 0, 0, 0, 0, 0] := A0
  refine W.dup at_91 rfl rfl ?_
  refine W.bipush at_92 own_cb_6 rfl ?_
  refine W.iload at_94 rfl rfl ?_
  refine W.bastoreB at_96 A0 (by decide) (ltb rfl) hbb (Nat.le_refl _) rfl (fun h7 W7 A0 => ?_)
  have A0 : AI Z h7 Z.heap.size .byte [bs, bs, bs, bs, bs, bs, bs, 0, 0, 0, 0, 0, 0, 0, 0, 0, 0, 0, 0, 0] := A0
  refine W.dup at_97 rfl rfl ?_
  refine W.bipush at_98 own_cb_7 rfl ?_
  refine W.iload at_100 rfl rfl ?_
  refine W.bastoreB at_102 A0 (by decide) (ltb rfl) hbb (Nat.le_refl _) rfl (fun h8 W8 A0 => ?_)
  have A0 : AI Z h8 Z.heap.size .byte [bs, bs, bs, bs, bs, bs, bs, bs, 0, 0, 0, 0, 0, 0, 0, 0, 0, 0, 0, 0] := A0
  refine W.dup at_103 rfl rfl ?_
  refine W.bipush at_104 own_cb_8 rfl ?_
  refine W.iload at_106 rfl rfl ?_
  refine W.bastoreB at_108 A0 (by decide) (ltb rfl) hbb (Nat.le_refl _) rfl (fun h9 W9 A0 => ?_)
  have A0 : AI Z h9 Z.heap.size .byte [bs, bs, bs, bs, bs, bs, bs, bs, bs, 0, 0, 0, 0, 0, 0, 0, 0, 0, 0, 0] := A0
  refine W.dup at_109 rfl rfl ?_
  refine W.bipush at_110 own_cb_9 rfl ?_
  refine W.iload at_112 rfl rfl ?_
  refine W.bastoreB at_114 A0 (by decide) (ltb rfl) hbb (Nat.le_refl _) rfl (fun h10 W10 A0 => ?_)
  have A0 : AI Z h10 Z.heap.size .byte [bs, bs, bs, bs, bs, bs, bs, bs, bs, bs, 0, 0, 0, 0, 0, 0, 0, 0, 0, 0] := A0
  refine W.dup at_115 rfl rfl ?_
  refine W.bipush at_116 own_cb_10 rfl ?_
  refine W.iload at_118 rfl rfl ?_
  refine W.bastoreB at_120 A0 (by decide) (ltb rfl) hbb (Nat.le_refl _) rfl (fun h11 W11 A0 => ?_)
  have A0 : AI Z h11 Z.heap.size .byte [bs, bs, bs, bs, bs, bs, bs, bs, bs, bs, bs, 0, 0, 0, 0, 0, 0, 0, 0, 0] := A0
  refine W.dup at_121 rfl rfl ?_
  refine W.bipush at_122 own_cb_11 rfl ?_
  refine W.iload at_124 rfl rfl ?_
  refine W.bastoreB at_126 A0 (by decide) (ltb rfl) hbb (Nat.le_refl _) rfl (fun h12 W12 A0 => ?_)
  have A0 : AI Z h12 Z.heap.size .byte [bs, bs, bs, bs, bs, bs, bs, bs, bs, bs, bs, bs, 0, 0, 0, 0, 0, 0, 0, 0] := A0
  refine W.dup at_127 rfl rfl ?_
  refine W.bipush at_128 own_cb_12 rfl ?_
  refine W.iload at_130 rfl rfl ?_
  refine W.bastoreB at_132 A0 (by decide) (ltb rfl) hbb (Nat.le_refl _) rfl (fun h13 W13 A0 => ?_)
  have A0 : AI Z h13 Z.heap.size .byte [bs, bs, bs, bs, bs, bs, bs, bs, bs, bs, bs, bs, bs, 0, 0, 0, 0, 0, 0, 0] := A0
  refine W.dup at_133 rfl rfl ?_
  refine W.bipush at_134 own_cb_13 rfl ?_
  refine W.iload at_136 rfl rfl ?_
  refine W.bastoreB at_138 A0 (by decide) (ltb rfl) hbb (Nat.le_refl _) rfl (fun h14 W14 A0 => ?_)
  have A0 : AI Z h14 Z.heap.size .byte [bs, bs, bs, bs, bs, bs, bs, bs, bs, bs, bs, bs, bs, bs, 0, 0, 0, 0, 0, 0] := A0
  refine W.dup at_139 rfl rfl ?_
  refine W.bipush at_140 own_cb_14 rfl ?_
  refine W.iload at_142 rfl rfl ?_
  refine W.bastoreB at_144 A0 (by decide) (ltb rfl) hbb (Nat.le_refl _) rfl (fun h15 W15 A0 => ?_)
  have A0 : AI Z h15 Z.heap.size .byte [bs, bs, bs, bs, bs, bs, bs, bs, bs, bs, bs, bs, bs, bs, bs, 0, 0, 0, 0, 0] := A0
  refine W.dup at_145 rfl rfl ?_
  refine W.bipush at_146 own_cb_15 rfl ?_
  refine W.iload at_148 rfl rfl ?_
  refine W.bastoreB at_150 A0 (by decide) (ltb rfl) hbb (Nat.le_refl _) rfl (fun h16 W16 A0 => ?_)
  have A0 : AI Z h16 Z.heap.size .byte [bs, bs, bs, bs, bs, bs, bs, bs, bs, bs, bs, bs, bs, bs, bs, bs, 0, 0, 0, 0] := A0
  refine W.dup at_151 rfl rfl ?_
  refine W.bipush at_152 own_cb_16 rfl ?_
  refine W.iload at_154 rfl rfl ?_
  refine W.bastoreB at_156 A0 (by decide) (ltb rfl) hbb (Nat.le_refl _) rfl (fun h17 W17 A0 => ?_)
  have A0 : AI Z h17 Z.heap.size .byte [bs, bs, bs, bs, bs, bs, bs, bs, bs, bs, bs, bs, bs, bs, bs, bs, bs, 0, 0, 0] := A0
  refine W.dup at_157 rfl rfl ?_
  refine W.bipush at_158 own_cb_17 rfl ?_
  refine W.iload at_160 rfl rfl ?_
  refine W.bastoreB at_162 A0 (by decide) (ltb rfl) hbb (Nat.le_refl _) rfl (fun h18 W18 A0 => ?_)
  have A0 : AI Z h18 Z.heap.size .byte [bs, bs, bs, bs, bs, bs, bs, bs, bs, bs, bs, bs, bs, bs, bs, bs, bs, bs, 0, 0] := A0
  refine W.dup at_163 rfl rfl ?_
  refine W.bipush at_164 own_cb_18 rfl ?_
  refine W.iload at_166 rfl rfl ?_
  refine W.bastoreB at_168 A0 (by decide) (ltb rfl) hbb (Nat.le_refl _) rfl (fun h19 W19 A0 => ?_)
  have A0 : AI Z h19 Z.heap.size .byte [bs, bs, bs, bs, bs, bs, bs, bs, bs, bs, bs, bs, bs, bs, bs, bs, bs, bs, bs, 0] := A0
  refine W.dup at_169 rfl rfl ?_
  refine W.bipush at_170 own_cb_19 rfl ?_
  refine W.iload at_172 rfl rfl ?_
  refine W.bastoreB at_174 A0 (by decide) (ltb rfl) hbb (Nat.le_refl _) rfl (fun h20 W20 A0 => ?_)
  have A0 : AI Z h20 Z.heap.size .byte [bs, bs, bs, bs, bs, bs, bs, bs, bs, bs, bs, bs, bs, bs, bs, bs, bs, bs, bs, bs] := A0
  refine W.astore at_175 rfl (Put.s (Put.s (Put.s (Put.s (Put.s (Put.s (Put.s (Put.s (Put.s (Put.s (Put.s (Put.s (Put.s Put.z))))))))))))) rfl rfl rfl ?_
  refine W.aload at_177 rfl rfl rfl ?_
  refine W.iload at_179 rfl rfl ?_
  refine W.iload at_181 rfl rfl ?_
  generalize hL : [bs, bs, bs, bs, bs, bs, bs, bs, bs, bs, bs, bs, bs, bs, bs, bs, bs, bs, bs, bs] = L at *
  have hlen : L.length = 20 := by rw [← hL]; rfl
  have hall : ∀ j, own_nn (L.getD j 0) = true := by
    intro j
    rw [List.getD_eq_getElem?_getD]
    cases e : L[j]? with
    | none => rfl
    | some z =>
      have hm := List.mem_of_getElem? e
      rw [← hL] at hm
      simp at hm
      rw [hm]; exact hbs
  have k0 : (0 : Int32).toInt = 0 := by decide
  refine W.bastoreB at_183 A0 (by rw [lt32]; omega) (by rw [hlen]; show p.toInt.toNat < 20; omega) hvb (Nat.le_refl _) rfl (fun g1 V1 A0 => ?_)
  refine W.aload at_184 rfl rfl rfl ?_
  refine W.iload at_186 rfl rfl ?_
  refine W.iload at_188 rfl rfl ?_
  refine W.bastoreB at_190 A0 (by rw [lt32]; omega) (by rw [List.length_set, hlen]; show q.toInt.toNat < 20; omega) hwb (Nat.le_refl _) rfl (fun g2 V2 A0 => ?_)
  exact own_t191 l Z a0 hw g2 i0 i1 i2 i3 i4 i5 f t bs p q v w _ A0 (by simp [hlen]) hf.1 (by omega) (by omega) (own_final L p q f t v w hall hlen hp.1 (by omega) hq.1 (by omega) hf.1 (by omega))
theorem own_ef0 (m : MethodId) (i0 : Int32) (i1 : Int32) (i2 : Int32) (i3 : Int32) (i4 : Int32) (i5 : Int32) : entryFrame m #[.int i0, .int i1, .int i2, .int i3, .int i4, .int i5] maxLocals = mkF m 0 #[.val (.int i0), .val (.int i1), .val (.int i2), .val (.int i3), .val (.int i4), .val (.int i5), .unset, .unset, .unset, .unset, .unset, .unset, .unset, .unset, .unset, .unset, .unset] [] := by first | (simp [entryFrame, mkF, argsToLocals, Value.category, maxLocals]; done) | rfl
theorem comes_1 {Post : Tables → Env → Array Value → State → Outcome → State → Prop} (hpost : ∀ tb e args s v u, (limb_1_1.after args s (.returned v) u = true ∧ limb_1_2.after args s (.returned v) u = true ∧ True) → FrameEnd s (.returned v) u (Jvm.fieldLocs frame_1_writes args s ++ Jvm.arrayLocs frame_1_arrays args s ++ Jvm.staticLocs frame_1_statics s) 16 128 → Post tb e args s (.returned v) u) :
    ArmFor flags0 classFile x code maxLocals ret World_1 tables_1 room_1 Calls_1 rest_1 Pre_1 Post := by
  intro l hfl _ _ p e ha hc hk s m args below hf hA hF happ hP
  obtain ⟨hcalls, hrest, hpre⟩ := hP
  obtain ⟨-, -, -, hnamed, -, -, -, hat⟩ := (Spec.applies_iff hf).mp happ
  obtain ⟨hg, hn⟩ := and_e (Cond.before_iff.mp (show (Jvm.Cond.and given_1 narrow_1).before args s = true from hpre))
  obtain ⟨g0, t0⟩ := and_e hg
  obtain ⟨k0, t1⟩ := and_e t0
  obtain ⟨k1, t2⟩ := and_e t1
  obtain ⟨k2, t3⟩ := and_e t2
  obtain ⟨k3, t4⟩ := and_e t3
  obtain ⟨k4, t5⟩ := and_e t4
  obtain ⟨w0, w1, w2, w3, w4, w5, rfl⟩ : ∃ w0 w1 w2 w3 w4 w5 : Value, args = #[w0, w1, w2, w3, w4, w5] := by
    have hs : args.size = 6 := by simpa [Cond.value, given_1] using g0
    obtain ⟨L⟩ := args
    match L, hs with
    | [w0, w1, w2, w3, w4, w5], _ => exact ⟨w0, w1, w2, w3, w4, w5, rfl⟩
  have hw := fun d (hd : d ∈ tables_1) => atoms_spec (ws := Jvm.Cond.code x code maxLocals ret :: tables_1) hat d (List.mem_cons_of_mem _ hd)
  obtain ⟨i0, e0⟩ := is_v k0
  obtain rfl : w0 = (.int i0) := Option.some.inj e0
  obtain ⟨i1, e1⟩ := is_v k1
  obtain rfl : w1 = (.int i1) := Option.some.inj e1
  obtain ⟨i2, e2⟩ := is_v k2
  obtain rfl : w2 = (.int i2) := Option.some.inj e2
  obtain ⟨i3, e3⟩ := is_v k3
  obtain rfl : w3 = (.int i3) := Option.some.inj e3
  obtain ⟨i4, e4⟩ := is_v k4
  obtain rfl : w4 = (.int i4) := Option.some.inj e4
  obtain ⟨i5, e5⟩ := is_v t5
  obtain rfl : w5 = (.int i5) := Option.some.inj e5
  obtain ⟨n, o, h1, h2, h3, _, L, rfl, ⟨rfl, N⟩, hq⟩ := met_of (ws := tables_1) (y := x) (B' := B0) (as' := #[.int i0, .int i1, .int i2, .int i3, .int i4, .int i5]) own_pf0 rfl rfl (fun m => own_ef0 m i0 i1 i2 i3 i4 i5) (own_law l s _ hw i0 i1 i2 i3 i4 i5) p e ha hc hk s m _ below hf ((Spec.applies_iff_loose hf).mp happ).1 ⟨rfl, State.Warmed39.refl s, rfl⟩ trivial
  refine ⟨n, _, h1, h2, h3, hpost _ _ _ _ _ _ ⟨Cond.after_iff.mpr rfl, Cond.after_iff.mpr (eq_i res_at (Term.int_eval (1)) rfl), trivial⟩ ⟨hq.1, hq.2.1, (hq.2.2.sift fun y hy => Or.inr (N y hy)).mono (by decide) (by decide)⟩⟩
theorem main_1_1 : Claimed_1_1 := comes_1 fun _ _ _ _ _ _ h hF => ⟨h.1, hF⟩
theorem main_1_2 : Claimed_1_2 := comes_1 fun _ _ _ _ _ _ h hF => ⟨h.2.1, hF⟩
end Jvm.Pilot.@@N@@
namespace Jvm.Pilot.@@N@@
open Jvm Jvm.ClassFile Sem Op Lib Jvm.Free Jvm.Stand Jvm.Pilot.@@N@@.Jvm.D
/-! MADE BY PROGRAM (witnessworld.py) out of the Statement's table words and the real class files: 9 classes; the members and pool entries that the words name. The judged class is class 1, her method 1. -/
namespace start1
open Jvm.ClassFile
def u (s : String) : CpInfo := .utf8 (stringToUtf16 s)
/-- a pool by its gaps: so many unusable entries, then the entry; so many at the end -/
def gap : Nat → List CpInfo → List CpInfo
  | 0, r => r
  | n + 1, r => .unusable :: gap n r
def poolList (es : List (Nat × CpInfo)) (last : Nat) : List CpInfo := es.foldr (fun e r => gap e.1 (e.2 :: r)) (gap last [])
def pool (es : List (Nat × CpInfo)) (last : Nat) : Array CpInfo := ⟨poolList es last⟩
def fileOf (pool : Array CpInfo) (this : Nat) (attrs : Array Attribute := #[]) (ms : Array MethodInfo := #[]) (fl : Nat := 33) (sup : Nat := 0) (ifs : Array Nat := #[]) (fds : Array FieldInfo := #[]) : ClassFile where
  minorVersion := 0
  majorVersion := 65
  constantPool := pool
  accessFlags := fl
  thisClass := this
  superClass := sup
  interfaces := ifs
  fields := fds
  methods := ms
  attributes := attrs
def plain (name : String) (sup : Option ClassId) : Class where
  name := name
  kind := .ordinary
  loader := none
  accessFlags := 33
  super := sup
  interfaces := #[]
  cf := none
  fields := #[]
  methods := #[]
  instanceTypes := #[]
  staticTypes := #[]
  resolved := #[]
  callSites := []
  init := .initialized
  statics := none
  mirror := none

def pool0 : Array CpInfo := pool [(5, u "<init>"), (0, u "()V"), (1, .class_ 10), (1, u "java/lang/Object")] 113

def k0m0 : Method := { name := "<init>", desc := "()V", sig := { parameters := [], returnType := none }, accessFlags := 1, code := none }
/-- java/lang/Object -/
def k0 : Class := { plain "java/lang/Object" none with
  accessFlags := 33
  interfaces := #[]
  cf := some (fileOf pool0 8 #[] #[{ accessFlags := 1, nameIndex := 5, descriptorIndex := 6, attributes := #[] }] 33 0 #[] #[])
  fields := #[]
  methods := #[k0m0]
  instanceTypes := #[]
  staticTypes := #[]
  resolved := Array.replicate 124 none
  statics := none }

def pool1 : Array CpInfo := pool [(2, .class_ 4), (1, u "java/lang/Object"), (0, u "<init>"), (0, u "()V"), (0, .integer 2147483647), (0, .methodref 9 10), (0, .class_ 11), (0, .nameAndType 12 13), (0, u "org/afterlog/internal/text/Ascii"), (0, u "isAscii"), (0, u "([BII)Z"), (0, .class_ 15), (0, u "org/afterlog/internal/text/AsciiIsAsciiPinLaw"), (2, u "law"), (0, u "(IIIIII)Z")] 5

def k1m0 : Method := { name := "<init>", desc := "()V", sig := { parameters := [], returnType := none }, accessFlags := 1, code := none }
def k1c1 : Code := { maxStack := 4, maxLocals := 17, code := code, exceptionTable := #[], attributes := #[] }
def k1m1 : Method := { name := "law", desc := "(IIIIII)Z", sig := { parameters := [.int, .int, .int, .int, .int, .int], returnType := some .boolean }, accessFlags := 9, code := some k1c1 }
/-- org/afterlog/internal/text/AsciiIsAsciiPinLaw -/
def k1 : Class := { plain "org/afterlog/internal/text/AsciiIsAsciiPinLaw" (some 0) with
  accessFlags := 49
  interfaces := #[]
  cf := some (fileOf pool1 14 #[] #[{ accessFlags := 1, nameIndex := 5, descriptorIndex := 6, attributes := #[] }, { accessFlags := 9, nameIndex := 18, descriptorIndex := 19, attributes := #[] }] 49 2 #[] #[])
  fields := #[]
  methods := #[k1m0, k1m1]
  instanceTypes := #[]
  staticTypes := #[]
  resolved := Array.replicate 25 none
  statics := none }

def pool2 : Array CpInfo := pool [(2, .class_ 4), (1, u "java/lang/Object"), (0, u "<init>"), (0, u "()V"), (0, .class_ 8), (0, u "org/afterlog/internal/text/Ascii"), (2, u "isAscii"), (0, u "([BII)Z")] 3

def k2m0 : Method := { name := "<init>", desc := "()V", sig := { parameters := [], returnType := none }, accessFlags := 2, code := none }
def k2c1 : Code := { maxStack := 5, maxLocals := 5, code := prog_119_method_2_code, exceptionTable := #[], attributes := #[] }
def k2m1 : Method := { name := "isAscii", desc := "([BII)Z", sig := { parameters := [(.array .byte), .int, .int], returnType := some .boolean }, accessFlags := 9, code := some k2c1 }
/-- org/afterlog/internal/text/Ascii -/
def k2 : Class := { plain "org/afterlog/internal/text/Ascii" (some 0) with
  accessFlags := 49
  interfaces := #[]
  cf := some (fileOf pool2 7 #[] #[{ accessFlags := 2, nameIndex := 5, descriptorIndex := 6, attributes := #[] }, { accessFlags := 9, nameIndex := 11, descriptorIndex := 12, attributes := #[] }] 49 2 #[] #[])
  fields := #[]
  methods := #[k2m0, k2m1]
  instanceTypes := #[]
  staticTypes := #[]
  resolved := Array.replicate 16 none
  statics := none }

def pool3 : Array CpInfo := pool [(1, u "java/lang/Cloneable"), (0, .class_ 1), (0, u "java/lang/Object"), (0, .class_ 3)] 3

/-- java/lang/Cloneable -/
def k3 : Class := { plain "java/lang/Cloneable" (some 0) with
  accessFlags := 1537
  interfaces := #[]
  cf := some (fileOf pool3 2 #[] #[] 1537 4 #[] #[])
  fields := #[]
  methods := #[]
  instanceTypes := #[]
  staticTypes := #[]
  resolved := Array.replicate 8 none
  statics := none }

def pool4 : Array CpInfo := pool [(1, u "java/io/Serializable"), (0, .class_ 1), (0, u "java/lang/Object"), (0, .class_ 3)] 3

/-- java/io/Serializable -/
def k4 : Class := { plain "java/io/Serializable" (some 0) with
  accessFlags := 1537
  interfaces := #[]
  cf := some (fileOf pool4 2 #[] #[] 1537 4 #[] #[])
  fields := #[]
  methods := #[]
  instanceTypes := #[]
  staticTypes := #[]
  resolved := Array.replicate 8 none
  statics := none }

/-- the primitive byte -/
def k5 : Class := { plain "byte" none with kind := .primitive 'B', accessFlags := 0x411 }
/-- [B -/
def k6 : Class := { plain "[B" (some 0) with kind := .array 5 .byte, interfaces := #[3, 4], accessFlags := 1041 }

/-- the primitive int -/
def k7 : Class := { plain "int" none with kind := .primitive 'I', accessFlags := 0x411 }
/-- [I -/
def k8 : Class := { plain "[I" (some 0) with kind := .array 7 .int, interfaces := #[3, 4], accessFlags := 1041 }

def heap : Heap := #[]
def classes : Array Class := #[k0, k1, k2, k3, k4, k5, k6, k7, k8]
def interned : List (Array UInt16 × Addr) := []
def slotsUsed : Nat := 0
def theMethod : MethodId := ⟨1, 1⟩
def args0 : Array Value := #[.int 5, .int 6, .int 7, .int 8, .int 1, .int 3]
def aboutOver (below : List Frame) : State where
  vm := { classes := classes, interned := interned.toArray }
  heap := heap
  slotsUsed := slotsUsed
  threads := #[{ frames := .invoking theMethod args0 :: below }]
def below0 : List Frame := [.native { method := ⟨0, 0⟩, args := #[] }]
def about1 : State := aboutOver below0
def p0 : Program := .bare "" "" ""
def e0 : Env := launch0.env 0 0 0
theorem w_frames : about1.frames = Frame.invoking theMethod args0 :: below0 := rfl
set_option maxRecDepth 65536 in
theorem w_args : argsFit about1.vm theMethod args0 = true := by decide +kernel
set_option maxRecDepth 65536 in
theorem w_heap : heapFits about1 = true := by decide +kernel
set_option maxRecDepth 65536 in
theorem w_runnable : about1.curStatus? = some .runnable := by decide +kernel
set_option maxRecDepth 65536 in
theorem w_alone : about1.alone = true := by decide +kernel
set_option maxRecDepth 65536 in
theorem w_named : about1.methodNamed? x = some theMethod := by decide +kernel
set_option maxRecDepth 65536 in
theorem w_hears : about1.hears theMethod below0 = true := by decide +kernel
set_option maxRecDepth 65536 in
theorem w_ripe : about1.ripe theMethod args0 below0 = true := by decide +kernel
theorem w_running : about1.status = .running := rfl
set_option maxRecDepth 65536 in
theorem w_room : about1.hasRoom e0.platform room_1 = true :=
  launch0.hasRoom_least _ room_1 (by decide +kernel) (by decide +kernel) (by decide +kernel) (by decide +kernel) (by decide +kernel) (by decide +kernel)
theorem allAtoms_all (ts : List Jvm.Cond) (a : Array Jvm.Value) (st : Jvm.State) : (allAtoms ts).before a st = ts.all (fun c => c.before a st) := by
  induction ts with
  | nil => rfl
  | cons c t ih =>
    show (Jvm.Cond.and c (allAtoms t)).before a st = _
    rw [Jvm.Cond.before_and, ih, List.all_cons]
def words1 : List Jvm.Cond := Jvm.Cond.code x code maxLocals ret :: tables_1
/-- a 'code' word, met by the world's own term for the bytes: nothing is compared byte by byte -/
theorem code_word {y : MethodName} {bytes : ByteArray} {mx : Nat} {rt : Option FieldType} {a : Array Value} {s : State} {m : MethodId} {meth : Method} {c : Code} (h1 : s.methodNamed? y = some m) (h2 : s.vm.method? m = some meth) (h3 : meth.code = some c) (h4 : c.code = bytes)
    (h5 : (c.maxLocals == mx && c.exceptionTable.isEmpty && decide (c.maxStack ≤ mostOperands) && decide (meth.sig.returnType = rt) && !meth.locks && decide (parseMethodDescriptor y.desc = some meth.sig)) = true) : (Jvm.Cond.code y bytes mx rt).before a s = true := by
  simp only [Bool.and_eq_true, beq_iff_eq, Bool.not_eq_true', decide_eq_true_eq] at h5
  obtain ⟨⟨⟨⟨⟨g1, g2⟩, g3⟩, g4⟩, g5⟩, g6⟩ := h5
  simp [Cond.before, Cond.holds, Cond.value, h1, h2, h3, h4, g1, g2, g3, g4, g5, g6]
def isCode : Jvm.Cond → Bool
  | .code _ _ _ _ => true
  | _ => false
theorem all_split {L : List Jvm.Cond} {P : Jvm.Cond → Bool} (h1 : L.all (fun c => isCode c || P c) = true) (h2 : ∀ c ∈ L.filter isCode, P c = true) : L.all P = true := by
  refine List.all_eq_true.mpr fun c hc => ?_
  have h := List.all_eq_true.mp h1 c hc
  rcases Bool.eq_false_or_eq_true (isCode c) with hi | hi
  · exact h2 c (List.mem_filter.mpr ⟨hc, hi⟩)
  · simpa [hi] using h
set_option maxRecDepth 65536 in
theorem w_c0 : (Jvm.Cond.code x code maxLocals ret).before args0 about1 = true := code_word (m := ⟨1, 1⟩) (meth := k1m1) (c := k1c1) (by decide +kernel) rfl rfl rfl (by decide +kernel)
set_option maxRecDepth 65536 in
theorem w_c1 : (Jvm.Cond.code ({ cls := "org/afterlog/internal/text/Ascii", name := "isAscii", desc := "([BII)Z" } : Jvm.MethodName) prog_119_method_2_code (5 : Nat) (Option.some Jvm.ClassFile.FieldType.boolean)).before args0 about1 = true := code_word (m := ⟨2, 1⟩) (meth := k2m1) (c := k2c1) (by decide +kernel) rfl rfl rfl (by decide +kernel)
def codes1 : List Jvm.Cond := [Jvm.Cond.code x code maxLocals ret, Jvm.Cond.code ({ cls := "org/afterlog/internal/text/Ascii", name := "isAscii", desc := "([BII)Z" } : Jvm.MethodName) prog_119_method_2_code (5 : Nat) (Option.some Jvm.ClassFile.FieldType.boolean)]
set_option maxRecDepth 65536 in
theorem codes_eq : words1.filter isCode = codes1 := rfl
theorem w_codes : ∀ c ∈ words1.filter isCode, c.before args0 about1 = true := by
  rw [codes_eq]
  intro c hc
  simp only [codes1, List.mem_cons, List.not_mem_nil, or_false] at hc
  rcases hc with rfl | rfl
  · exact w_c0
  · exact w_c1
set_option maxRecDepth 65536 in
theorem w_t1 : words1.all (fun c => isCode c || c.before args0 about1) = true := by decide +kernel
theorem w_tables : (allAtoms (Jvm.Cond.code x code maxLocals ret :: tables_1)).before args0 about1 = true := by
  rw [allAtoms_all]
  show words1.all (fun c => c.before args0 about1) = true
  refine all_split ?_ w_codes
  rw [w_t1]
set_option maxRecDepth 65536 in
theorem w_case : (Jvm.Cond.and given_1 narrow_1).before args0 about1 = true := by decide +kernel
theorem w_applies : (headSpec (Jvm.Cond.code x code maxLocals ret :: tables_1) room_1).applies x e0.platform about1 = true :=
  (Spec.applies_iff w_frames).mpr ⟨w_running, w_runnable, w_alone, w_named, w_hears, w_ripe, w_room, w_tables⟩
theorem atStart : AtStart classFile x code maxLocals ret World_1 tables_1 room_1 Calls_1 rest_1 Pre_1 launch0 p0 e0 about1 theMethod args0 below0 :=
  ⟨lists_1, trivial, launch0.admits_env _ _ _, launch0.least_env, fairChoices_fair.cas, fairChoices_fair.clock, w_frames, w_args, w_heap, w_applies, trivial, trivial, w_case⟩
end start1
theorem witness_1 : WitnessClaimed_1 := ⟨start1.p0, start1.e0, start1.about1, start1.theMethod, start1.args0, start1.below0, start1.atStart⟩
end Jvm.Pilot.@@N@@
