import JvmDerived
import JvmDerived.Pilot.@@N@@Statement
import JvmDerived.Pilot.@@N@@Code
set_option linter.unusedVariables false
set_option linter.unusedSimpArgs false
namespace Jvm.OwnW
open Sem ClassFile Op Lib Jvm.Stand Jvm.Free Jvm.LawKit Jvm.RoadKit
/-- a body: its class, name, bytes, locals, return kind -/
abbrev Bdy : Type := String × String × ByteArray × Nat × Option FieldType
abbrev Bdy.own (B : Bdy) : String := B.1
abbrev Bdy.nm (B : Bdy) : String := B.2.1
abbrev Bdy.bytes (B : Bdy) : ByteArray := B.2.2.1
abbrev Bdy.ml (B : Bdy) : Nat := B.2.2.2.1
abbrev Bdy.ret (B : Bdy) : Option FieldType := B.2.2.2.2
/-- what stays through one invocation -/
def Ctx (p : Program) (s : State) (m : MethodId) (meth : Method) (c : Code) (Z : State) (B : Bdy) : Prop :=
  p.tables.exec = Jvm.exec ∧ c.code = B.bytes ∧ c.maxLocals = B.ml ∧ Z.Warmed39 s.vm ∧ s.vm.findClass B.own = some m.cls ∧ meth.sig.returnType = B.ret ∧ meth.locks = false ∧ meth.name = B.nm
/-- FROM HERE THE INVOCATION RETURNS, AND Q: whatever the rest of the state is -/
def W (l : Launch) (Z : State) (n0 : Nat) (R : Room) (B : Bdy) (Q : Option Value → Heap → Prop) (h : Heap) (cells slots : Nat) (pc : Nat) (Ls : List Slot) (St : List Value) : Prop :=
  ∀ (p : Program) (e : Env) (s : State) (m : MethodId) (args : Array Value) (below : List Frame) (meth : Method) (c : Code) (T : State) (locs : List Loc),
    Ctx p s m meth c Z B → Stand p l e R s m args below meth c T locs cells slots → T.heap = h → Fr n0 locs → cells ≤ R.cells → slots ≤ R.slots →
    ∃ (s₂ : State) (v : Option Value) (L : List Loc), Steps p.tables e below (T.setTop (mkF m pc ⟨Ls⟩ St)) s₂ ∧ s₂.status = .running ∧ Ended s₂ below (.returned v) ∧ Q v s₂.heap ∧ Fr n0 L ∧ FrameEnd s (.returned v) s₂ L R.cells R.slots
/-- l' is l with v at its k-th place -/
def Put (l : List Slot) (k : Nat) (v : Slot) (l' : List Slot) : Prop := l' = l.set k v ∧ k < l.length
theorem Put.z {a v : Slot} {l : List Slot} : Put (a :: l) 0 v (v :: l) := ⟨rfl, by simp⟩
theorem Put.s {a v : Slot} {l l' : List Slot} {k : Nat} (h : Put l k v l') : Put (a :: l) (k + 1) v (a :: l') := ⟨by simp [h.1], by simpa using h.2⟩
/-- the room of a callee -/
abbrev rmF (f c s w : Nat) : Room := { frames := f, cells := c, slots := s, locals := w }
section Steps
variable {l : Launch} {Z : State} {n0 : Nat} {R : Room} {B : Bdy} {Q : Option Value → Heap → Prop} {h : Heap} {cells slots pc q : Nat} {Ls Ls' : List Slot} {St St' : List Value} {a0 : Array Value}
theorem W.same (K : W l Z n0 R B Q h cells slots q Ls' St') (f : ∀ (p : Program) (e : Env) (s : State) (m : MethodId) (args : Array Value) (below : List Frame) (meth : Method) (c : Code) (T : State) (locs : List Loc), Ctx p s m meth c Z B → Stand p l e R s m args below meth c T locs cells slots → T.heap = h →
      ∀ target, Steps p.tables e below (T.setTop (mkF m q ⟨Ls'⟩ St')) target → Steps p.tables e below (T.setTop (mkF m pc ⟨Ls⟩ St)) target) : W l Z n0 R B Q h cells slots pc Ls St := by
  intro p e s m args below meth c T locs C X eT N hc hs
  obtain ⟨s₂, v, L, h1, h2⟩ := K p e s m args below meth c T locs C X eT N hc hs
  exact ⟨s₂, v, L, f p e s m args below meth c T locs C X eT _ h1, h2⟩
theorem W.warm (K : W l Z n0 R B Q h cells slots q Ls' St') (f : ∀ (p : Program) (e : Env) (s : State) (m : MethodId) (args : Array Value) (below : List Frame) (meth : Method) (c : Code) (T : State) (locs : List Loc), Ctx p s m meth c Z B → Stand p l e R s m args below meth c T locs cells slots → T.heap = h →
      ∃ T', Stand p l e R s m args below meth c T' locs cells slots ∧ T'.heap = h ∧ ∀ target, Steps p.tables e below (T'.setTop (mkF m q ⟨Ls'⟩ St')) target → Steps p.tables e below (T.setTop (mkF m pc ⟨Ls⟩ St)) target) : W l Z n0 R B Q h cells slots pc Ls St := by
  intro p e s m args below meth c T locs C X eT N hc hs
  obtain ⟨T', X', eT', st⟩ := f p e s m args below meth c T locs C X eT
  obtain ⟨s₂, v, L, h1, h2⟩ := K p e s m args below meth c T' locs C X' eT' N hc hs
  exact ⟨s₂, v, L, st _ h1, h2⟩
theorem W.wrote {a : Addr} {sl : Nat} {x : Value} (f : ∀ (p : Program) (e : Env) (s : State) (m : MethodId) (args : Array Value) (below : List Frame) (meth : Method) (c : Code) (T : State) (locs : List Loc), Ctx p s m meth c Z B → Stand p l e R s m args below meth c T locs cells slots → T.heap = h →
      ∃ T' h', Stand p l e R s m args below meth c T' (locs ++ [⟨a, sl⟩]) cells slots ∧ T'.heap = h' ∧ Wr h h' a sl x ∧ ∀ target, Steps p.tables e below (T'.setTop (mkF m q ⟨Ls'⟩ St')) target → Steps p.tables e below (T.setTop (mkF m pc ⟨Ls⟩ St)) target) (ha : n0 ≤ a) (K : ∀ h', Wr h h' a sl x → W l Z n0 R B Q h' cells slots q Ls' St') : W l Z n0 R B Q h cells slots pc Ls St := by
  intro p e s m args below meth c T locs C X eT N hc hs
  obtain ⟨T', h', X', eT', w, st⟩ := f p e s m args below meth c T locs C X eT
  obtain ⟨s₂, v, L, h1, h2⟩ := K h' w p e s m args below meth c T' _ C X' eT' (Fr.snoc X' N ha) hc hs
  exact ⟨s₂, v, L, st _ h1, h2⟩
/-! ### loads, stores, constants -/
theorem W.iload {k : Nat} {v : Int32} (hd : decode B.bytes pc = .ok (.iload k, 2)) (hl : Ls[k]? = some (.val (.int v))) (hq : pc + 2 = q) (K : W l Z n0 R B Q h cells slots q Ls (.int v :: St)) : W l Z n0 R B Q h cells slots pc Ls St := by
  subst hq; exact W.same K (fun p e s m args below meth c T locs C X eT t hr => XS.iload (g := mkF m pc ⟨Ls⟩ St) X.here C.1 rfl (hb C.2.1 hd) (by simpa using hl) hr)
theorem W.iloadN {k : Fin 4} {v : Int32} (hd : decode B.bytes pc = .ok (.iload_n k, 1)) (hl : Ls[k.val]? = some (.val (.int v))) (hq : pc + 1 = q) (K : W l Z n0 R B Q h cells slots q Ls (.int v :: St)) : W l Z n0 R B Q h cells slots pc Ls St := by
  subst hq; exact W.same K (fun p e s m args below meth c T locs C X eT t hr => XS.iloadN (g := mkF m pc ⟨Ls⟩ St) X.here C.1 rfl (hb C.2.1 hd) (by simpa using hl) hr)
theorem W.aload {k : Nat} {v : Value} (hd : decode B.bytes pc = .ok (.aload k, 2)) (hl : Ls[k]? = some (.val v)) (hv : v.isRef = true) (hq : pc + 2 = q) (K : W l Z n0 R B Q h cells slots q Ls (v :: St)) : W l Z n0 R B Q h cells slots pc Ls St := by
  subst hq; exact W.same K (fun p e s m args below meth c T locs C X eT t hr => XS.aload (g := mkF m pc ⟨Ls⟩ St) X.here C.1 rfl (hb C.2.1 hd) (by simpa using hl) hv hr)
theorem W.aloadN {k : Fin 4} {v : Value} (hd : decode B.bytes pc = .ok (.aload_n k, 1)) (hl : Ls[k.val]? = some (.val v)) (hv : v.isRef = true) (hq : pc + 1 = q) (K : W l Z n0 R B Q h cells slots q Ls (v :: St)) : W l Z n0 R B Q h cells slots pc Ls St := by
  subst hq; exact W.same K (fun p e s m args below meth c T locs C X eT t hr => XS.aloadN (g := mkF m pc ⟨Ls⟩ St) X.here C.1 rfl (hb C.2.1 hd) (by simpa using hl) hv hr)
theorem W.lload {k : Nat} {v : Int64} (hd : decode B.bytes pc = .ok (.lload k, 2)) (hl : Ls[k]? = some (.val (.long v))) (hq : pc + 2 = q) (K : W l Z n0 R B Q h cells slots q Ls (.long v :: St)) : W l Z n0 R B Q h cells slots pc Ls St := by
  subst hq; exact W.same K (fun p e s m args below meth c T locs C X eT t hr => XS.lload (g := mkF m pc ⟨Ls⟩ St) X.here C.1 rfl (hb C.2.1 hd) (by simpa using hl) hr)
theorem W.lloadN {k : Fin 4} {v : Int64} (hd : decode B.bytes pc = .ok (.lload_n k, 1)) (hl : Ls[k.val]? = some (.val (.long v))) (hq : pc + 1 = q) (K : W l Z n0 R B Q h cells slots q Ls (.long v :: St)) : W l Z n0 R B Q h cells slots pc Ls St := by
  subst hq; exact W.same K (fun p e s m args below meth c T locs C X eT t hr => XS.lloadN (g := mkF m pc ⟨Ls⟩ St) X.here C.1 rfl (hb C.2.1 hd) (by simpa using hl) hr)
theorem W.iconst {i : Int} {z : Int32} (hd : decode B.bytes pc = .ok (.iconst i, 1)) (hz : Int32.ofInt i = z) (hq : pc + 1 = q) (K : W l Z n0 R B Q h cells slots q Ls (.int z :: St)) : W l Z n0 R B Q h cells slots pc Ls St := by
  subst hq hz; exact W.same K (fun p e s m args below meth c T locs C X eT t hr => XS.iconst (g := mkF m pc ⟨Ls⟩ St) X.here C.1 rfl (hb C.2.1 hd) hr)
theorem W.bipush {i : Int} {z : Int32} (hd : decode B.bytes pc = .ok (.bipush i, 2)) (hz : (Int8.ofInt i).toInt32 = z) (hq : pc + 2 = q) (K : W l Z n0 R B Q h cells slots q Ls (.int z :: St)) : W l Z n0 R B Q h cells slots pc Ls St := by
  subst hq hz; exact W.same K (fun p e s m args below meth c T locs C X eT t hr => XS.bipush (g := mkF m pc ⟨Ls⟩ St) X.here C.1 rfl (hb C.2.1 hd) hr)
theorem W.sipush {i : Int} {z : Int32} (hd : decode B.bytes pc = .ok (.sipush i, 3)) (hz : (Int16.ofInt i).toInt32 = z) (hq : pc + 3 = q) (K : W l Z n0 R B Q h cells slots q Ls (.int z :: St)) : W l Z n0 R B Q h cells slots pc Ls St := by
  subst hq hz; exact W.same K (fun p e s m args below meth c T locs C X eT t hr => XS.sipush (g := mkF m pc ⟨Ls⟩ St) X.here C.1 rfl (hb C.2.1 hd) hr)
theorem W.ldc {i : Nat} {z : Int32} (hd : decode B.bytes pc = .ok (.ldc i, 2)) (w : (Cond.constant B.own i z).before a0 Z = true) (hq : pc + 2 = q) (K : W l Z n0 R B Q h cells slots q Ls (.int z :: St)) : W l Z n0 R B Q h cells slots pc Ls St := by
  subst hq; exact W.same K (fun p e s m args below meth c T locs C X eT t hr => X.ldcI (g := mkF m pc ⟨Ls⟩ St) C.1 C.2.2.2.2.1 (mvT C.2.2.2.1 w) rfl (hb C.2.1 hd) hr)
theorem W.ldcw {i : Nat} {z : Int32} (hd : decode B.bytes pc = .ok (.ldc_w i, 3)) (w : (Cond.constant B.own i z).before a0 Z = true) (hq : pc + 3 = q) (K : W l Z n0 R B Q h cells slots q Ls (.int z :: St)) : W l Z n0 R B Q h cells slots pc Ls St := by
  subst hq; exact W.same K (fun p e s m args below meth c T locs C X eT t hr => X.ldcWI (g := mkF m pc ⟨Ls⟩ St) C.1 C.2.2.2.2.1 (mvT C.2.2.2.1 w) rfl (hb C.2.1 hd) hr)
theorem W.ldc2 {i : Nat} {z : Int64} (hd : decode B.bytes pc = .ok (.ldc2_w i, 3)) (w : (Cond.constantLong B.own i z).before a0 Z = true) (hq : pc + 3 = q) (K : W l Z n0 R B Q h cells slots q Ls (.long z :: St)) : W l Z n0 R B Q h cells slots pc Ls St := by
  subst hq; exact W.same K (fun p e s m args below meth c T locs C X eT t hr => X.ldc2J (g := mkF m pc ⟨Ls⟩ St) C.1 C.2.2.2.2.1 (mvT C.2.2.2.1 w) rfl (hb C.2.1 hd) hr)
theorem W.lconst {k : Fin 2} {z : Int64} (hd : decode B.bytes pc = .ok (.lconst k, 1)) (hz : Int64.ofNat k.val = z) (hq : pc + 1 = q) (K : W l Z n0 R B Q h cells slots q Ls (.long z :: St)) : W l Z n0 R B Q h cells slots pc Ls St := by
  subst hq hz; exact W.same K (fun p e s m args below meth c T locs C X eT t hr => XS.lconst (g := mkF m pc ⟨Ls⟩ St) X.here C.1 rfl (hb C.2.1 hd) hr)
theorem W.aconstNull (hd : decode B.bytes pc = .ok (.aconst_null, 1)) (hq : pc + 1 = q) (K : W l Z n0 R B Q h cells slots q Ls (.null :: St)) : W l Z n0 R B Q h cells slots pc Ls St := by
  subst hq; exact W.same K (fun p e s m args below meth c T locs C X eT t hr => XS.aconstNull (g := mkF m pc ⟨Ls⟩ St) X.here C.1 rfl (hb C.2.1 hd) hr)
theorem put1 {k : Nat} {o : Slot} {v : Value} (hp : Put Ls k (.val v) Ls') (ho : Ls[k]? = some o) (h1 : o = .unset ∨ ∃ w, o = .val w ∧ w.category = 1) (hv : v.category = 1) : storeLocals ⟨Ls⟩ k v = some ⟨Ls'⟩ := by
  rw [XS.store1 (l := ⟨Ls⟩) (o := o) (by simpa using ho) h1 hv, hp.1]; simp
def one1 : Slot → Bool
  | .unset => true
  | .val w => w.category == 1
  | _ => false
theorem one1_of {o : Slot} (h : one1 o = true) : o = .unset ∨ ∃ w, o = .val w ∧ w.category = 1 := by
  cases o <;> simp_all [one1]
theorem W.istore {k : Nat} {o : Slot} {v : Int32} (hd : decode B.bytes pc = .ok (.istore k, 2)) (hp : Put Ls k (.val (.int v)) Ls') (ho : Ls[k]? = some o) (h1 : one1 o = true) (hq : pc + 2 = q) (K : W l Z n0 R B Q h cells slots q Ls' St) : W l Z n0 R B Q h cells slots pc Ls (.int v :: St) := by
  subst hq; exact W.same K (fun p e s m args below meth c T locs C X eT t hr => XS.istore (g := mkF m pc ⟨Ls⟩ (.int v :: St)) X.here C.1 rfl (hb C.2.1 hd) rfl (put1 hp ho (one1_of h1) rfl) hr)
theorem W.istoreN {k : Fin 4} {o : Slot} {v : Int32} (hd : decode B.bytes pc = .ok (.istore_n k, 1)) (hp : Put Ls k.val (.val (.int v)) Ls') (ho : Ls[k.val]? = some o) (h1 : one1 o = true) (hq : pc + 1 = q) (K : W l Z n0 R B Q h cells slots q Ls' St) : W l Z n0 R B Q h cells slots pc Ls (.int v :: St) := by
  subst hq; exact W.same K (fun p e s m args below meth c T locs C X eT t hr => XS.istoreN (g := mkF m pc ⟨Ls⟩ (.int v :: St)) X.here C.1 rfl (hb C.2.1 hd) rfl (put1 hp ho (one1_of h1) rfl) hr)
theorem W.astore {k : Nat} {o : Slot} {v : Value} (hd : decode B.bytes pc = .ok (.astore k, 2)) (hv : v.isRef = true) (hp : Put Ls k (.val v) Ls') (ho : Ls[k]? = some o) (h1 : one1 o = true) (hq : pc + 2 = q) (K : W l Z n0 R B Q h cells slots q Ls' St) : W l Z n0 R B Q h cells slots pc Ls (v :: St) := by
  subst hq; exact W.same K (fun p e s m args below meth c T locs C X eT t hr => XS.astore (g := mkF m pc ⟨Ls⟩ (v :: St)) X.here C.1 rfl (hb C.2.1 hd) rfl hv (put1 hp ho (one1_of h1) (by cases v <;> simp_all [Value.isRef, Value.category])) hr)
theorem W.astoreN {k : Fin 4} {o : Slot} {v : Value} (hd : decode B.bytes pc = .ok (.astore_n k, 1)) (hv : v.isRef = true) (hp : Put Ls k.val (.val v) Ls') (ho : Ls[k.val]? = some o) (h1 : one1 o = true) (hq : pc + 1 = q) (K : W l Z n0 R B Q h cells slots q Ls' St) : W l Z n0 R B Q h cells slots pc Ls (v :: St) := by
  subst hq; exact W.same K (fun p e s m args below meth c T locs C X eT t hr => XS.astoreN (g := mkF m pc ⟨Ls⟩ (v :: St)) X.here C.1 rfl (hb C.2.1 hd) rfl hv (put1 hp ho (one1_of h1) (by cases v <;> simp_all [Value.isRef, Value.category])) hr)
theorem W.iinc {k : Nat} {cst : Int} {x z : Int32} (hd : decode B.bytes pc = .ok (.iinc k cst, 3)) (hl : Ls[k]? = some (.val (.int x))) (hz : Int32.ofInt cst = z) (hp : Put Ls k (.val (.int (x + z))) Ls') (hq : pc + 3 = q) (K : W l Z n0 R B Q h cells slots q Ls' St) : W l Z n0 R B Q h cells slots pc Ls St := by
  subst hq hz; exact W.same K (fun p e s m args below meth c T locs C X eT t hr => XS.iinc (g := mkF m pc ⟨Ls⟩ St) X.here C.1 rfl (hb C.2.1 hd) (by simpa using hl) (put1 hp hl (Or.inr ⟨_, rfl, rfl⟩) rfl) hr)
/-- l' is l with the long v at its k-th and k+1-st place -/
def Put2 (l : List Slot) (k : Nat) (v : Value) (l' : List Slot) : Prop := l' = (l.set k (.val v)).set (k + 1) .second ∧ k + 1 < l.length
theorem Put2.z {a b : Slot} {v : Value} {l : List Slot} : Put2 (a :: b :: l) 0 v (.val v :: .second :: l) := ⟨rfl, by simp⟩
theorem Put2.s {a : Slot} {v : Value} {l l' : List Slot} {k : Nat} (h : Put2 l k v l') : Put2 (a :: l) (k + 1) v (a :: l') := ⟨by simp [h.1], by simpa using h.2⟩
def two2 : Slot → Slot → Bool
  | .val w, .second => w.category == 2
  | o, o' => one1 o && one1 o'
theorem set_set_second (l : List Slot) (k : Nat) (v : Slot) : ((l.set (k + 1) .unset).set k v).set (k + 1) .second = (l.set k v).set (k + 1) .second := by
  apply List.ext_getElem? ; intro i; by_cases h1 : k + 1 = i <;> by_cases h2 : k = i <;> simp_all [List.getElem?_set]
theorem put2 {k : Nat} {o o' : Slot} {v : Value} (hp : Put2 Ls k v Ls') (ho : Ls[k]? = some o) (ho' : Ls[k + 1]? = some o') (h1 : two2 o o' = true) (hv : v.category = 2) : storeLocals ⟨Ls⟩ k v = some ⟨Ls'⟩ := by
  obtain ⟨rfl, hk⟩ := hp
  have hk' : k < Ls.length := by omega
  have e1 := (List.getElem?_eq_some_iff.mp ho).2
  have e2 := (List.getElem?_eq_some_iff.mp ho').2
  cases o <;> cases o' <;> simp [two2, one1] at h1 <;> simp [storeLocals, storeSelf, setAt, hv, hk, hk', e1, e2, h1, List.getElem_set, set_set_second]
theorem W.lstore {k : Nat} {o o' : Slot} {v : Int64} (hd : decode B.bytes pc = .ok (.lstore k, 2)) (hp : Put2 Ls k (.long v) Ls') (ho : Ls[k]? = some o) (ho' : Ls[k + 1]? = some o') (h1 : two2 o o' = true) (hq : pc + 2 = q) (K : W l Z n0 R B Q h cells slots q Ls' St) : W l Z n0 R B Q h cells slots pc Ls (.long v :: St) := by
  subst hq; exact W.same K (fun p e s m args below meth c T locs C X eT t hr => XS.lstore (g := mkF m pc ⟨Ls⟩ (.long v :: St)) X.here C.1 rfl (hb C.2.1 hd) rfl (put2 hp ho ho' h1 rfl) hr)
theorem W.lstoreN {k : Fin 4} {o o' : Slot} {v : Int64} (hd : decode B.bytes pc = .ok (.lstore_n k, 1)) (hp : Put2 Ls k.val (.long v) Ls') (ho : Ls[k.val]? = some o) (ho' : Ls[k.val + 1]? = some o') (h1 : two2 o o' = true) (hq : pc + 1 = q) (K : W l Z n0 R B Q h cells slots q Ls' St) : W l Z n0 R B Q h cells slots pc Ls (.long v :: St) := by
  subst hq; exact W.same K (fun p e s m args below meth c T locs C X eT t hr => XS.lstoreN (g := mkF m pc ⟨Ls⟩ (.long v :: St)) X.here C.1 rfl (hb C.2.1 hd) rfl (put2 hp ho ho' h1 rfl) hr)
theorem W.iadd {x : Int32} {y : Int32} (hd : decode B.bytes pc = .ok (.iadd, 1)) (hq : pc + 1 = q) (K : W l Z n0 R B Q h cells slots q Ls (.int (x + y) :: St)) : W l Z n0 R B Q h cells slots pc Ls (.int y :: .int x :: St) := by
  subst hq; exact W.same K (fun p e s m args below meth c T locs C X eT t hr => XS.iadd (g := mkF m pc ⟨Ls⟩ (.int y :: .int x :: St)) X.here C.1 rfl (hb C.2.1 hd) rfl hr)
theorem W.isub {x : Int32} {y : Int32} (hd : decode B.bytes pc = .ok (.isub, 1)) (hq : pc + 1 = q) (K : W l Z n0 R B Q h cells slots q Ls (.int (x - y) :: St)) : W l Z n0 R B Q h cells slots pc Ls (.int y :: .int x :: St) := by
  subst hq; exact W.same K (fun p e s m args below meth c T locs C X eT t hr => XS.isub (g := mkF m pc ⟨Ls⟩ (.int y :: .int x :: St)) X.here C.1 rfl (hb C.2.1 hd) rfl hr)
theorem W.imul {x : Int32} {y : Int32} (hd : decode B.bytes pc = .ok (.imul, 1)) (hq : pc + 1 = q) (K : W l Z n0 R B Q h cells slots q Ls (.int (x * y) :: St)) : W l Z n0 R B Q h cells slots pc Ls (.int y :: .int x :: St) := by
  subst hq; exact W.same K (fun p e s m args below meth c T locs C X eT t hr => XS.imul (g := mkF m pc ⟨Ls⟩ (.int y :: .int x :: St)) X.here C.1 rfl (hb C.2.1 hd) rfl hr)
theorem W.iand {x : Int32} {y : Int32} (hd : decode B.bytes pc = .ok (.iand, 1)) (hq : pc + 1 = q) (K : W l Z n0 R B Q h cells slots q Ls (.int (x &&& y) :: St)) : W l Z n0 R B Q h cells slots pc Ls (.int y :: .int x :: St) := by
  subst hq; exact W.same K (fun p e s m args below meth c T locs C X eT t hr => XS.iand (g := mkF m pc ⟨Ls⟩ (.int y :: .int x :: St)) X.here C.1 rfl (hb C.2.1 hd) rfl hr)
theorem W.ior {x : Int32} {y : Int32} (hd : decode B.bytes pc = .ok (.ior, 1)) (hq : pc + 1 = q) (K : W l Z n0 R B Q h cells slots q Ls (.int (x ||| y) :: St)) : W l Z n0 R B Q h cells slots pc Ls (.int y :: .int x :: St) := by
  subst hq; exact W.same K (fun p e s m args below meth c T locs C X eT t hr => XS.ior (g := mkF m pc ⟨Ls⟩ (.int y :: .int x :: St)) X.here C.1 rfl (hb C.2.1 hd) rfl hr)
theorem W.ixor {x : Int32} {y : Int32} (hd : decode B.bytes pc = .ok (.ixor, 1)) (hq : pc + 1 = q) (K : W l Z n0 R B Q h cells slots q Ls (.int (x ^^^ y) :: St)) : W l Z n0 R B Q h cells slots pc Ls (.int y :: .int x :: St) := by
  subst hq; exact W.same K (fun p e s m args below meth c T locs C X eT t hr => XS.ixor (g := mkF m pc ⟨Ls⟩ (.int y :: .int x :: St)) X.here C.1 rfl (hb C.2.1 hd) rfl hr)
theorem W.ishl {x : Int32} {y : Int32} (hd : decode B.bytes pc = .ok (.ishl, 1)) (hq : pc + 1 = q) (K : W l Z n0 R B Q h cells slots q Ls (.int (x <<< (y &&& 0x1f)) :: St)) : W l Z n0 R B Q h cells slots pc Ls (.int y :: .int x :: St) := by
  subst hq; exact W.same K (fun p e s m args below meth c T locs C X eT t hr => XS.ishl (g := mkF m pc ⟨Ls⟩ (.int y :: .int x :: St)) X.here C.1 rfl (hb C.2.1 hd) rfl hr)
theorem W.ishr {x : Int32} {y : Int32} (hd : decode B.bytes pc = .ok (.ishr, 1)) (hq : pc + 1 = q) (K : W l Z n0 R B Q h cells slots q Ls (.int (x >>> (y &&& 0x1f)) :: St)) : W l Z n0 R B Q h cells slots pc Ls (.int y :: .int x :: St) := by
  subst hq; exact W.same K (fun p e s m args below meth c T locs C X eT t hr => XS.ishr (g := mkF m pc ⟨Ls⟩ (.int y :: .int x :: St)) X.here C.1 rfl (hb C.2.1 hd) rfl hr)
theorem W.iushr {x : Int32} {y : Int32} (hd : decode B.bytes pc = .ok (.iushr, 1)) (hq : pc + 1 = q) (K : W l Z n0 R B Q h cells slots q Ls (.int ((x.toUInt32 >>> (y &&& 0x1f).toUInt32).toInt32) :: St)) : W l Z n0 R B Q h cells slots pc Ls (.int y :: .int x :: St) := by
  subst hq; exact W.same K (fun p e s m args below meth c T locs C X eT t hr => XS.iushr (g := mkF m pc ⟨Ls⟩ (.int y :: .int x :: St)) X.here C.1 rfl (hb C.2.1 hd) rfl hr)
theorem W.ladd {x : Int64} {y : Int64} (hd : decode B.bytes pc = .ok (.ladd, 1)) (hq : pc + 1 = q) (K : W l Z n0 R B Q h cells slots q Ls (.long (x + y) :: St)) : W l Z n0 R B Q h cells slots pc Ls (.long y :: .long x :: St) := by
  subst hq; exact W.same K (fun p e s m args below meth c T locs C X eT t hr => XS.ladd (g := mkF m pc ⟨Ls⟩ (.long y :: .long x :: St)) X.here C.1 rfl (hb C.2.1 hd) rfl hr)
theorem W.lsub {x : Int64} {y : Int64} (hd : decode B.bytes pc = .ok (.lsub, 1)) (hq : pc + 1 = q) (K : W l Z n0 R B Q h cells slots q Ls (.long (x - y) :: St)) : W l Z n0 R B Q h cells slots pc Ls (.long y :: .long x :: St) := by
  subst hq; exact W.same K (fun p e s m args below meth c T locs C X eT t hr => XS.lsub (g := mkF m pc ⟨Ls⟩ (.long y :: .long x :: St)) X.here C.1 rfl (hb C.2.1 hd) rfl hr)
theorem W.lmul {x : Int64} {y : Int64} (hd : decode B.bytes pc = .ok (.lmul, 1)) (hq : pc + 1 = q) (K : W l Z n0 R B Q h cells slots q Ls (.long (x * y) :: St)) : W l Z n0 R B Q h cells slots pc Ls (.long y :: .long x :: St) := by
  subst hq; exact W.same K (fun p e s m args below meth c T locs C X eT t hr => XS.lmul (g := mkF m pc ⟨Ls⟩ (.long y :: .long x :: St)) X.here C.1 rfl (hb C.2.1 hd) rfl hr)
theorem W.land {x : Int64} {y : Int64} (hd : decode B.bytes pc = .ok (.land, 1)) (hq : pc + 1 = q) (K : W l Z n0 R B Q h cells slots q Ls (.long (x &&& y) :: St)) : W l Z n0 R B Q h cells slots pc Ls (.long y :: .long x :: St) := by
  subst hq; exact W.same K (fun p e s m args below meth c T locs C X eT t hr => XS.land (g := mkF m pc ⟨Ls⟩ (.long y :: .long x :: St)) X.here C.1 rfl (hb C.2.1 hd) rfl hr)
theorem W.lor {x : Int64} {y : Int64} (hd : decode B.bytes pc = .ok (.lor, 1)) (hq : pc + 1 = q) (K : W l Z n0 R B Q h cells slots q Ls (.long (x ||| y) :: St)) : W l Z n0 R B Q h cells slots pc Ls (.long y :: .long x :: St) := by
  subst hq; exact W.same K (fun p e s m args below meth c T locs C X eT t hr => XS.lor (g := mkF m pc ⟨Ls⟩ (.long y :: .long x :: St)) X.here C.1 rfl (hb C.2.1 hd) rfl hr)
theorem W.lxor {x : Int64} {y : Int64} (hd : decode B.bytes pc = .ok (.lxor, 1)) (hq : pc + 1 = q) (K : W l Z n0 R B Q h cells slots q Ls (.long (x ^^^ y) :: St)) : W l Z n0 R B Q h cells slots pc Ls (.long y :: .long x :: St) := by
  subst hq; exact W.same K (fun p e s m args below meth c T locs C X eT t hr => XS.lxor (g := mkF m pc ⟨Ls⟩ (.long y :: .long x :: St)) X.here C.1 rfl (hb C.2.1 hd) rfl hr)
theorem W.lshl {x : Int64} {y : Int32} (hd : decode B.bytes pc = .ok (.lshl, 1)) (hq : pc + 1 = q) (K : W l Z n0 R B Q h cells slots q Ls (.long (x <<< (y &&& 0x3f).toInt64) :: St)) : W l Z n0 R B Q h cells slots pc Ls (.int y :: .long x :: St) := by
  subst hq; exact W.same K (fun p e s m args below meth c T locs C X eT t hr => XS.lshl (g := mkF m pc ⟨Ls⟩ (.int y :: .long x :: St)) X.here C.1 rfl (hb C.2.1 hd) rfl hr)
theorem W.lshr {x : Int64} {y : Int32} (hd : decode B.bytes pc = .ok (.lshr, 1)) (hq : pc + 1 = q) (K : W l Z n0 R B Q h cells slots q Ls (.long (x >>> (y &&& 0x3f).toInt64) :: St)) : W l Z n0 R B Q h cells slots pc Ls (.int y :: .long x :: St) := by
  subst hq; exact W.same K (fun p e s m args below meth c T locs C X eT t hr => XS.lshr (g := mkF m pc ⟨Ls⟩ (.int y :: .long x :: St)) X.here C.1 rfl (hb C.2.1 hd) rfl hr)
theorem W.lushr {x : Int64} {y : Int32} (hd : decode B.bytes pc = .ok (.lushr, 1)) (hq : pc + 1 = q) (K : W l Z n0 R B Q h cells slots q Ls (.long ((x.toUInt64 >>> (y &&& 0x3f).toInt64.toUInt64).toInt64) :: St)) : W l Z n0 R B Q h cells slots pc Ls (.int y :: .long x :: St) := by
  subst hq; exact W.same K (fun p e s m args below meth c T locs C X eT t hr => XS.lushr (g := mkF m pc ⟨Ls⟩ (.int y :: .long x :: St)) X.here C.1 rfl (hb C.2.1 hd) rfl hr)
theorem W.lcmp {x : Int64} {y : Int64} (hd : decode B.bytes pc = .ok (.lcmp, 1)) (hq : pc + 1 = q) (K : W l Z n0 R B Q h cells slots q Ls (.int (lcmpW x y) :: St)) : W l Z n0 R B Q h cells slots pc Ls (.long y :: .long x :: St) := by
  subst hq; exact W.same K (fun p e s m args below meth c T locs C X eT t hr => XS.lcmp (g := mkF m pc ⟨Ls⟩ (.long y :: .long x :: St)) X.here C.1 rfl (hb C.2.1 hd) rfl hr)
theorem W.ineg {x : Int32} (hd : decode B.bytes pc = .ok (.ineg, 1)) (hq : pc + 1 = q) (K : W l Z n0 R B Q h cells slots q Ls (.int (-x) :: St)) : W l Z n0 R B Q h cells slots pc Ls (.int x :: St) := by
  subst hq; exact W.same K (fun p e s m args below meth c T locs C X eT t hr => XS.ineg (g := mkF m pc ⟨Ls⟩ (.int x :: St)) X.here C.1 rfl (hb C.2.1 hd) rfl hr)
theorem W.i2l {x : Int32} (hd : decode B.bytes pc = .ok (.i2l, 1)) (hq : pc + 1 = q) (K : W l Z n0 R B Q h cells slots q Ls (.long (x.toInt64) :: St)) : W l Z n0 R B Q h cells slots pc Ls (.int x :: St) := by
  subst hq; exact W.same K (fun p e s m args below meth c T locs C X eT t hr => XS.i2l (g := mkF m pc ⟨Ls⟩ (.int x :: St)) X.here C.1 rfl (hb C.2.1 hd) rfl hr)
theorem W.l2i {x : Int64} (hd : decode B.bytes pc = .ok (.l2i, 1)) (hq : pc + 1 = q) (K : W l Z n0 R B Q h cells slots q Ls (.int (x.toInt32) :: St)) : W l Z n0 R B Q h cells slots pc Ls (.long x :: St) := by
  subst hq; exact W.same K (fun p e s m args below meth c T locs C X eT t hr => XS.l2i (g := mkF m pc ⟨Ls⟩ (.long x :: St)) X.here C.1 rfl (hb C.2.1 hd) rfl hr)
theorem W.i2b {x : Int32} (hd : decode B.bytes pc = .ok (.i2b, 1)) (hq : pc + 1 = q) (K : W l Z n0 R B Q h cells slots q Ls (.int (x.toInt8.toInt32) :: St)) : W l Z n0 R B Q h cells slots pc Ls (.int x :: St) := by
  subst hq; exact W.same K (fun p e s m args below meth c T locs C X eT t hr => XS.i2b (g := mkF m pc ⟨Ls⟩ (.int x :: St)) X.here C.1 rfl (hb C.2.1 hd) rfl hr)
theorem W.i2c {x : Int32} (hd : decode B.bytes pc = .ok (.i2c, 1)) (hq : pc + 1 = q) (K : W l Z n0 R B Q h cells slots q Ls (.int (x.toUInt32.toUInt16.toUInt32.toInt32) :: St)) : W l Z n0 R B Q h cells slots pc Ls (.int x :: St) := by
  subst hq; exact W.same K (fun p e s m args below meth c T locs C X eT t hr => XS.i2c (g := mkF m pc ⟨Ls⟩ (.int x :: St)) X.here C.1 rfl (hb C.2.1 hd) rfl hr)
theorem W.i2s {x : Int32} (hd : decode B.bytes pc = .ok (.i2s, 1)) (hq : pc + 1 = q) (K : W l Z n0 R B Q h cells slots q Ls (.int (x.toInt16.toInt32) :: St)) : W l Z n0 R B Q h cells slots pc Ls (.int x :: St) := by
  subst hq; exact W.same K (fun p e s m args below meth c T locs C X eT t hr => XS.i2s (g := mkF m pc ⟨Ls⟩ (.int x :: St)) X.here C.1 rfl (hb C.2.1 hd) rfl hr)
theorem W.irem {x y : Int32} (hd : decode B.bytes pc = .ok (.irem, 1)) (hy : y ≠ 0) (hq : pc + 1 = q) (K : W l Z n0 R B Q h cells slots q Ls (.int (x % y) :: St)) : W l Z n0 R B Q h cells slots pc Ls (.int y :: .int x :: St) := by
  subst hq; exact W.same K (fun p e s m args below meth c T locs C X eT t hr => iremM (g := mkF m pc ⟨Ls⟩ (.int y :: .int x :: St)) X C.1 rfl (hb C.2.1 hd) rfl hy hr)
theorem W.idiv {x y : Int32} (hd : decode B.bytes pc = .ok (.idiv, 1)) (hy : y ≠ 0) (hq : pc + 1 = q) (K : W l Z n0 R B Q h cells slots q Ls (.int (x / y) :: St)) : W l Z n0 R B Q h cells slots pc Ls (.int y :: .int x :: St) := by
  subst hq; exact W.same K (fun p e s m args below meth c T locs C X eT t hr => XS.idiv (g := mkF m pc ⟨Ls⟩ (.int y :: .int x :: St)) X.here C.1 rfl (hb C.2.1 hd) rfl hy hr)
theorem W.dup {x : Value} (hd : decode B.bytes pc = .ok (.dup, 1)) (hc : x.category = 1) (hq : pc + 1 = q) (K : W l Z n0 R B Q h cells slots q Ls (x :: x :: St)) : W l Z n0 R B Q h cells slots pc Ls (x :: St) := by
  subst hq; exact W.same K (fun p e s m args below meth c T locs C X eT t hr => XS.dup (g := mkF m pc ⟨Ls⟩ (x :: St)) X.here C.1 rfl (hb C.2.1 hd) rfl hc hr)
theorem W.pop {x : Value} (hd : decode B.bytes pc = .ok (.pop, 1)) (hc : x.category = 1) (hq : pc + 1 = q) (K : W l Z n0 R B Q h cells slots q Ls St) : W l Z n0 R B Q h cells slots pc Ls (x :: St) := by
  subst hq; exact W.same K (fun p e s m args below meth c T locs C X eT t hr => XS.pop (g := mkF m pc ⟨Ls⟩ (x :: St)) X.here C.1 rfl (hb C.2.1 hd) rfl hc hr)
theorem W.dup2 {x y : Value} (hd : decode B.bytes pc = .ok (.dup2, 1)) (hc : x.category = 1) (hc' : y.category = 1) (hq : pc + 1 = q) (K : W l Z n0 R B Q h cells slots q Ls (x :: y :: x :: y :: St)) : W l Z n0 R B Q h cells slots pc Ls (x :: y :: St) := by
  subst hq; exact W.same K (fun p e s m args below meth c T locs C X eT t hr => XT.dup2 (g := mkF m pc ⟨Ls⟩ (x :: y :: St)) X.here C.1 rfl (hb C.2.1 hd) rfl hc hc' hr)
theorem W.goto {o : Int} (hd : decode B.bytes pc = .ok (.goto o, 3)) (ho : 0 ≤ (pc : Int) + o) (hq : ((pc : Int) + o).toNat = q) (K : W l Z n0 R B Q h cells slots q Ls St) : W l Z n0 R B Q h cells slots pc Ls St :=
  W.same K (fun p e s m args below meth c T locs C X eT t hr => XS.goto (g := mkF m pc ⟨Ls⟩ St) X.here C.1 rfl rfl (hb C.2.1 hd) ho hq hr)
theorem W.icmp {cd : ClassFile.Cond} {o : Int} {x y : Int32} {q' : Nat} (hd : decode B.bytes pc = .ok (.if_icmp cd o, 3)) (ho : 0 ≤ (pc : Int) + o) (hq : ((pc : Int) + o).toNat = q) (hq' : pc + 3 = q') (K1 : if_icmp.holds cd x y = true → W l Z n0 R B Q h cells slots q Ls St) (K2 : if_icmp.holds cd x y = false → W l Z n0 R B Q h cells slots q' Ls St) : W l Z n0 R B Q h cells slots pc Ls (.int y :: .int x :: St) := by
  subst hq'
  rcases Bool.eq_false_or_eq_true (if_icmp.holds cd x y) with hc | hc
  · exact W.same (K1 hc) (fun p e s m args below meth c T locs C X eT t hr => XS.icmpYes (g := mkF m pc ⟨Ls⟩ (.int y :: .int x :: St)) X.here C.1 rfl rfl (hb C.2.1 hd) rfl hc ho hq hr)
  · exact W.same (K2 hc) (fun p e s m args below meth c T locs C X eT t hr => XS.icmpNo (g := mkF m pc ⟨Ls⟩ (.int y :: .int x :: St)) X.here C.1 rfl (hb C.2.1 hd) rfl hc hr)
theorem W.ifc {cd : ClassFile.Cond} {o : Int} {x : Int32} {q' : Nat} (hd : decode B.bytes pc = .ok (.ifCond cd o, 3)) (ho : 0 ≤ (pc : Int) + o) (hq : ((pc : Int) + o).toNat = q) (hq' : pc + 3 = q') (K1 : if_icmp.holds cd x 0 = true → W l Z n0 R B Q h cells slots q Ls St) (K2 : if_icmp.holds cd x 0 = false → W l Z n0 R B Q h cells slots q' Ls St) : W l Z n0 R B Q h cells slots pc Ls (.int x :: St) := by
  subst hq'
  rcases Bool.eq_false_or_eq_true (if_icmp.holds cd x 0) with hc | hc
  · exact W.same (K1 hc) (fun p e s m args below meth c T locs C X eT t hr => XS.ifYes (g := mkF m pc ⟨Ls⟩ (.int x :: St)) X.here C.1 rfl rfl (hb C.2.1 hd) rfl ((if0 cd x).trans hc) ho hq hr)
  · exact W.same (K2 hc) (fun p e s m args below meth c T locs C X eT t hr => XS.ifNo (g := mkF m pc ⟨Ls⟩ (.int x :: St)) X.here C.1 rfl (hb C.2.1 hd) rfl ((if0 cd x).trans hc) hr)
theorem W.icmp_eq {o : Int} {x y : Int32} {q' : Nat} (hd : decode B.bytes pc = .ok (.if_icmp .eq o, 3)) (ho : 0 ≤ (pc : Int) + o) (hq : ((pc : Int) + o).toNat = q) (hq' : pc + 3 = q') (K1 : x = y → W l Z n0 R B Q h cells slots q Ls St) (K2 : ¬ x = y → W l Z n0 R B Q h cells slots q' Ls St) : W l Z n0 R B Q h cells slots pc Ls (.int y :: .int x :: St) :=
  W.icmp hd ho hq hq' (fun hc => K1 (by simpa [if_icmp.holds, Int32.not_lt, Int32.not_le] using hc)) (fun hc => K2 (by simpa [if_icmp.holds, Int32.not_lt, Int32.not_le] using hc))
theorem W.ifc_eq {o : Int} {x : Int32} {q' : Nat} (hd : decode B.bytes pc = .ok (.ifCond .eq o, 3)) (ho : 0 ≤ (pc : Int) + o) (hq : ((pc : Int) + o).toNat = q) (hq' : pc + 3 = q') (K1 : x = 0 → W l Z n0 R B Q h cells slots q Ls St) (K2 : ¬ x = 0 → W l Z n0 R B Q h cells slots q' Ls St) : W l Z n0 R B Q h cells slots pc Ls (.int x :: St) :=
  W.ifc hd ho hq hq' (fun hc => K1 (by simpa [if_icmp.holds, Int32.not_lt, Int32.not_le] using hc)) (fun hc => K2 (by simpa [if_icmp.holds, Int32.not_lt, Int32.not_le] using hc))
theorem W.icmp_ne {o : Int} {x y : Int32} {q' : Nat} (hd : decode B.bytes pc = .ok (.if_icmp .ne o, 3)) (ho : 0 ≤ (pc : Int) + o) (hq : ((pc : Int) + o).toNat = q) (hq' : pc + 3 = q') (K1 : ¬ x = y → W l Z n0 R B Q h cells slots q Ls St) (K2 : x = y → W l Z n0 R B Q h cells slots q' Ls St) : W l Z n0 R B Q h cells slots pc Ls (.int y :: .int x :: St) :=
  W.icmp hd ho hq hq' (fun hc => K1 (by simpa [if_icmp.holds, Int32.not_lt, Int32.not_le] using hc)) (fun hc => K2 (by simpa [if_icmp.holds, Int32.not_lt, Int32.not_le] using hc))
theorem W.ifc_ne {o : Int} {x : Int32} {q' : Nat} (hd : decode B.bytes pc = .ok (.ifCond .ne o, 3)) (ho : 0 ≤ (pc : Int) + o) (hq : ((pc : Int) + o).toNat = q) (hq' : pc + 3 = q') (K1 : ¬ x = 0 → W l Z n0 R B Q h cells slots q Ls St) (K2 : x = 0 → W l Z n0 R B Q h cells slots q' Ls St) : W l Z n0 R B Q h cells slots pc Ls (.int x :: St) :=
  W.ifc hd ho hq hq' (fun hc => K1 (by simpa [if_icmp.holds, Int32.not_lt, Int32.not_le] using hc)) (fun hc => K2 (by simpa [if_icmp.holds, Int32.not_lt, Int32.not_le] using hc))
theorem W.icmp_lt {o : Int} {x y : Int32} {q' : Nat} (hd : decode B.bytes pc = .ok (.if_icmp .lt o, 3)) (ho : 0 ≤ (pc : Int) + o) (hq : ((pc : Int) + o).toNat = q) (hq' : pc + 3 = q') (K1 : x < y → W l Z n0 R B Q h cells slots q Ls St) (K2 : ¬ x < y → W l Z n0 R B Q h cells slots q' Ls St) : W l Z n0 R B Q h cells slots pc Ls (.int y :: .int x :: St) :=
  W.icmp hd ho hq hq' (fun hc => K1 (by simpa [if_icmp.holds, Int32.not_lt, Int32.not_le] using hc)) (fun hc => K2 (by simpa [if_icmp.holds, Int32.not_lt, Int32.not_le] using hc))
theorem W.ifc_lt {o : Int} {x : Int32} {q' : Nat} (hd : decode B.bytes pc = .ok (.ifCond .lt o, 3)) (ho : 0 ≤ (pc : Int) + o) (hq : ((pc : Int) + o).toNat = q) (hq' : pc + 3 = q') (K1 : x < 0 → W l Z n0 R B Q h cells slots q Ls St) (K2 : ¬ x < 0 → W l Z n0 R B Q h cells slots q' Ls St) : W l Z n0 R B Q h cells slots pc Ls (.int x :: St) :=
  W.ifc hd ho hq hq' (fun hc => K1 (by simpa [if_icmp.holds, Int32.not_lt, Int32.not_le] using hc)) (fun hc => K2 (by simpa [if_icmp.holds, Int32.not_lt, Int32.not_le] using hc))
theorem W.icmp_ge {o : Int} {x y : Int32} {q' : Nat} (hd : decode B.bytes pc = .ok (.if_icmp .ge o, 3)) (ho : 0 ≤ (pc : Int) + o) (hq : ((pc : Int) + o).toNat = q) (hq' : pc + 3 = q') (K1 : ¬ x < y → W l Z n0 R B Q h cells slots q Ls St) (K2 : x < y → W l Z n0 R B Q h cells slots q' Ls St) : W l Z n0 R B Q h cells slots pc Ls (.int y :: .int x :: St) :=
  W.icmp hd ho hq hq' (fun hc => K1 (by simpa [if_icmp.holds, Int32.not_lt, Int32.not_le] using hc)) (fun hc => K2 (by simpa [if_icmp.holds, Int32.not_lt, Int32.not_le] using hc))
theorem W.ifc_ge {o : Int} {x : Int32} {q' : Nat} (hd : decode B.bytes pc = .ok (.ifCond .ge o, 3)) (ho : 0 ≤ (pc : Int) + o) (hq : ((pc : Int) + o).toNat = q) (hq' : pc + 3 = q') (K1 : ¬ x < 0 → W l Z n0 R B Q h cells slots q Ls St) (K2 : x < 0 → W l Z n0 R B Q h cells slots q' Ls St) : W l Z n0 R B Q h cells slots pc Ls (.int x :: St) :=
  W.ifc hd ho hq hq' (fun hc => K1 (by simpa [if_icmp.holds, Int32.not_lt, Int32.not_le] using hc)) (fun hc => K2 (by simpa [if_icmp.holds, Int32.not_lt, Int32.not_le] using hc))
theorem W.icmp_gt {o : Int} {x y : Int32} {q' : Nat} (hd : decode B.bytes pc = .ok (.if_icmp .gt o, 3)) (ho : 0 ≤ (pc : Int) + o) (hq : ((pc : Int) + o).toNat = q) (hq' : pc + 3 = q') (K1 : y < x → W l Z n0 R B Q h cells slots q Ls St) (K2 : ¬ y < x → W l Z n0 R B Q h cells slots q' Ls St) : W l Z n0 R B Q h cells slots pc Ls (.int y :: .int x :: St) :=
  W.icmp hd ho hq hq' (fun hc => K1 (by simpa [if_icmp.holds, Int32.not_lt, Int32.not_le] using hc)) (fun hc => K2 (by simpa [if_icmp.holds, Int32.not_lt, Int32.not_le] using hc))
theorem W.ifc_gt {o : Int} {x : Int32} {q' : Nat} (hd : decode B.bytes pc = .ok (.ifCond .gt o, 3)) (ho : 0 ≤ (pc : Int) + o) (hq : ((pc : Int) + o).toNat = q) (hq' : pc + 3 = q') (K1 : 0 < x → W l Z n0 R B Q h cells slots q Ls St) (K2 : ¬ 0 < x → W l Z n0 R B Q h cells slots q' Ls St) : W l Z n0 R B Q h cells slots pc Ls (.int x :: St) :=
  W.ifc hd ho hq hq' (fun hc => K1 (by simpa [if_icmp.holds, Int32.not_lt, Int32.not_le] using hc)) (fun hc => K2 (by simpa [if_icmp.holds, Int32.not_lt, Int32.not_le] using hc))
theorem W.icmp_le {o : Int} {x y : Int32} {q' : Nat} (hd : decode B.bytes pc = .ok (.if_icmp .le o, 3)) (ho : 0 ≤ (pc : Int) + o) (hq : ((pc : Int) + o).toNat = q) (hq' : pc + 3 = q') (K1 : ¬ y < x → W l Z n0 R B Q h cells slots q Ls St) (K2 : y < x → W l Z n0 R B Q h cells slots q' Ls St) : W l Z n0 R B Q h cells slots pc Ls (.int y :: .int x :: St) :=
  W.icmp hd ho hq hq' (fun hc => K1 (by simpa [if_icmp.holds, Int32.not_lt, Int32.not_le] using hc)) (fun hc => K2 (by simpa [if_icmp.holds, Int32.not_lt, Int32.not_le] using hc))
theorem W.ifc_le {o : Int} {x : Int32} {q' : Nat} (hd : decode B.bytes pc = .ok (.ifCond .le o, 3)) (ho : 0 ≤ (pc : Int) + o) (hq : ((pc : Int) + o).toNat = q) (hq' : pc + 3 = q') (K1 : ¬ 0 < x → W l Z n0 R B Q h cells slots q Ls St) (K2 : 0 < x → W l Z n0 R B Q h cells slots q' Ls St) : W l Z n0 R B Q h cells slots pc Ls (.int x :: St) :=
  W.ifc hd ho hq hq' (fun hc => K1 (by simpa [if_icmp.holds, Int32.not_lt, Int32.not_le] using hc)) (fun hc => K2 (by simpa [if_icmp.holds, Int32.not_lt, Int32.not_le] using hc))
theorem W.ifnull_yes {o : Int} (hd : decode B.bytes pc = .ok (.ifnull o, 3)) (ho : 0 ≤ (pc : Int) + o) (hq : ((pc : Int) + o).toNat = q) (K : W l Z n0 R B Q h cells slots q Ls St) : W l Z n0 R B Q h cells slots pc Ls (.null :: St) :=
  W.same K (fun p e s m args below meth c T locs C X eT t hr => XS.ifnullYes (g := mkF m pc ⟨Ls⟩ (.null :: St)) X.here C.1 rfl rfl (hb C.2.1 hd) rfl ho hq hr)
theorem W.ifnull_no {o : Int} {b : Addr} (hd : decode B.bytes pc = .ok (.ifnull o, 3)) (hq : pc + 3 = q) (K : W l Z n0 R B Q h cells slots q Ls St) : W l Z n0 R B Q h cells slots pc Ls (.ref b :: St) := by
  subst hq; exact W.same K (fun p e s m args below meth c T locs C X eT t hr => XS.ifnullNo (g := mkF m pc ⟨Ls⟩ (.ref b :: St)) X.here C.1 rfl (hb C.2.1 hd) rfl hr)
theorem W.ifnonnull_yes {o : Int} {b : Addr} (hd : decode B.bytes pc = .ok (.ifnonnull o, 3)) (ho : 0 ≤ (pc : Int) + o) (hq : ((pc : Int) + o).toNat = q) (K : W l Z n0 R B Q h cells slots q Ls St) : W l Z n0 R B Q h cells slots pc Ls (.ref b :: St) :=
  W.same K (fun p e s m args below meth c T locs C X eT t hr => XS.ifnonnullYes (g := mkF m pc ⟨Ls⟩ (.ref b :: St)) X.here C.1 rfl rfl (hb C.2.1 hd) rfl ho hq hr)
theorem W.ifnonnull_no {o : Int} (hd : decode B.bytes pc = .ok (.ifnonnull o, 3)) (hq : pc + 3 = q) (K : W l Z n0 R B Q h cells slots q Ls St) : W l Z n0 R B Q h cells slots pc Ls (.null :: St) := by
  subst hq; exact W.same K (fun p e s m args below meth c T locs C X eT t hr => XS.ifnonnullNo (g := mkF m pc ⟨Ls⟩ (.null :: St)) X.here C.1 rfl (hb C.2.1 hd) rfl hr)
theorem W.acmp_ne {o : Int} {x y : Value} {q' : Nat} (hd : decode B.bytes pc = .ok (.if_acmp .ne o, 3)) (h1 : x.isRef = true) (h2 : y.isRef = true) (ho : 0 ≤ (pc : Int) + o) (hq : ((pc : Int) + o).toNat = q) (hq' : pc + 3 = q') (K1 : ¬ x = y → W l Z n0 R B Q h cells slots q Ls St) (K2 : x = y → W l Z n0 R B Q h cells slots q' Ls St) : W l Z n0 R B Q h cells slots pc Ls (y :: x :: St) := by
  subst hq hq'
  by_cases hc : x = y
  · exact W.same (K2 hc) (fun p e s m args below meth c T locs C X eT t hr => acmp (g := mkF m pc ⟨Ls⟩ (y :: x :: St)) X C.1 rfl h1 h2 rfl (hb C.2.1 hd) rfl (same := true) (by simpa using hc) ho (by simp [acV]) hr)
  · exact W.same (K1 hc) (fun p e s m args below meth c T locs C X eT t hr => acmp (g := mkF m pc ⟨Ls⟩ (y :: x :: St)) X C.1 rfl h1 h2 rfl (hb C.2.1 hd) rfl (same := false) (by simpa using hc) ho (by simp [acV]) hr)
theorem W.acmp_eq {o : Int} {x y : Value} {q' : Nat} (hd : decode B.bytes pc = .ok (.if_acmp .eq o, 3)) (h1 : x.isRef = true) (h2 : y.isRef = true) (ho : 0 ≤ (pc : Int) + o) (hq : ((pc : Int) + o).toNat = q) (hq' : pc + 3 = q') (K1 : x = y → W l Z n0 R B Q h cells slots q Ls St) (K2 : ¬ x = y → W l Z n0 R B Q h cells slots q' Ls St) : W l Z n0 R B Q h cells slots pc Ls (y :: x :: St) := by
  subst hq hq'
  by_cases hc : x = y
  · exact W.same (K1 hc) (fun p e s m args below meth c T locs C X eT t hr => acmp (g := mkF m pc ⟨Ls⟩ (y :: x :: St)) X C.1 rfl h1 h2 rfl (hb C.2.1 hd) rfl (same := true) (by simpa using hc) ho (by simp [acV]) hr)
  · exact W.same (K2 hc) (fun p e s m args below meth c T locs C X eT t hr => acmp (g := mkF m pc ⟨Ls⟩ (y :: x :: St)) X C.1 rfl h1 h2 rfl (hb C.2.1 hd) rfl (same := false) (by simpa using hc) ho (by simp [acV]) hr)
/-! ### the ends -/
theorem W.ireturn {z : Int32} (hd : decode B.bytes pc = .ok (.ireturn, 1)) (hret : B.ret = some .int) (hQ : Q (some (.int z)) h) : W l Z n0 R B Q h cells slots pc Ls (.int z :: St) := by
  intro p e s m args below meth c T locs C X eT N hc hs
  obtain ⟨fs, hr, hrun, hended, hW, hsame⟩ := X.leave (v := some (.int z)) (fun q => by rw [C.2.2.2.2.2.1, hret] at q; cases q) C.2.2.2.2.2.2.1
  exact ⟨_, _, locs, retOut X C.1 (C.2.2.2.2.2.1.trans hret) rfl (Or.inl ⟨rfl, Or.inl rfl, _, rfl⟩) (hb C.2.1 hd) hr, hrun, hended, eT ▸ hQ, N, ⟨_, rfl⟩, hW, hsame.mono hc hs⟩
theorem W.lreturn {z : Int64} (hd : decode B.bytes pc = .ok (.lreturn, 1)) (hret : B.ret = some .long) (hQ : Q (some (.long z)) h) : W l Z n0 R B Q h cells slots pc Ls (.long z :: St) := by
  intro p e s m args below meth c T locs C X eT N hc hs
  obtain ⟨fs, hr, hrun, hended, hW, hsame⟩ := X.leave (v := some (.long z)) (fun q => by rw [C.2.2.2.2.2.1, hret] at q; cases q) C.2.2.2.2.2.2.1
  exact ⟨_, _, locs, retOut X C.1 (C.2.2.2.2.2.1.trans hret) rfl (Or.inr (Or.inl ⟨rfl, rfl, _, rfl⟩)) (hb C.2.1 hd) hr, hrun, hended, eT ▸ hQ, N, ⟨_, rfl⟩, hW, hsame.mono hc hs⟩
theorem W.areturn {w : Value} {t : FieldType} (hd : decode B.bytes pc = .ok (.areturn, 1)) (hret : B.ret = some t) (ht : t.isReference = true) (hw : w.isRef = true) (hn : narrow t w = w) (hQ : Q (some w) h) : W l Z n0 R B Q h cells slots pc Ls (w :: St) := by
  intro p e s m args below meth c T locs C X eT N hc hs
  obtain ⟨fs, hr, hrun, hended, hW, hsame⟩ := X.leave (v := some w) (fun q => by rw [C.2.2.2.2.2.1, hret] at q; cases q) C.2.2.2.2.2.2.1
  exact ⟨_, _, locs, retOut X C.1 (C.2.2.2.2.2.1.trans hret) hn (Or.inr (Or.inr (Or.inr (Or.inr ⟨rfl, ht, hw⟩)))) (hb C.2.1 hd) hr, hrun, hended, eT ▸ hQ, N, ⟨_, rfl⟩, hW, hsame.mono hc hs⟩
theorem W.ireturnN {z z' : Int32} {t : FieldType} (hd : decode B.bytes pc = .ok (.ireturn, 1)) (hret : B.ret = some t) (ht : t = .boolean ∨ t = .byte ∨ t = .char ∨ t = .short) (hz : nar t z = z') (hQ : Q (some (.int z')) h) : W l Z n0 R B Q h cells slots pc Ls (.int z :: St) := by
  intro p e s m args below meth c T locs C X eT N hc hs
  subst hz
  obtain ⟨fs, hr, hrun, hended, hW, hsame⟩ := X.leave (v := some (.int (nar t z))) (fun q => by rw [C.2.2.2.2.2.1, hret] at q; cases q) C.2.2.2.2.2.2.1
  exact ⟨_, _, locs, retN X C.1 (C.2.2.2.2.2.1.trans hret) ht (hb C.2.1 hd) hr, hrun, hended, eT ▸ hQ, N, ⟨_, rfl⟩, hW, hsame.mono hc hs⟩
theorem W.vret (hd : decode B.bytes pc = .ok (.return_, 1)) (hret : B.ret = none) (hQ : Q none h) : W l Z n0 R B Q h cells slots pc Ls [] := by
  intro p e s m args below meth c T locs C X eT N hc hs
  obtain ⟨fs, hr, hrun, hended, hW, hsame⟩ := X.leave (v := none) (fun _ => rfl) C.2.2.2.2.2.2.1
  exact ⟨_, _, locs, X.returnOut C.1 (C.2.2.2.2.2.1.trans hret) (hb C.2.1 hd) hr, hrun, hended, eT ▸ hQ, N, ⟨_, rfl⟩, hW, hsame.mono hc hs⟩
theorem W.mono {Q' : Option Value → Heap → Prop} (hQ : ∀ v h, Q v h → Q' v h) (K : W l Z n0 R B Q h cells slots pc Ls St) : W l Z n0 R B Q' h cells slots pc Ls St := by
  intro p e s m args below meth c T locs C X eT N hc hs
  obtain ⟨s₂, v, L, h1, h2, h3, h4, h5⟩ := K p e s m args below meth c T locs C X eT N hc hs
  exact ⟨s₂, v, L, h1, h2, h3, hQ _ _ h4, h5⟩
theorem W.weak {c' s' : Nat} (hc : cells ≤ c') (hs : slots ≤ s') (hR : c' ≤ R.cells) (hR' : s' ≤ R.slots) (K : W l Z n0 R B Q h c' s' pc Ls St) : W l Z n0 R B Q h cells slots pc Ls St := by
  intro p e s m args below meth c T locs C X eT N _ _
  exact K p e s m args below meth c T locs C (X.more hc hs) eT N hR hR'
/-! ### arrays of ints (bytes, booleans, chars, shorts) and of longs -/
def AI (Z : State) (h : Heap) (a : Addr) (ty : FieldType) (xs : List Int32) : Prop := ∃ cl : Cell, Arr Z h a cl ty ∧ cl.slots = ⟨xs.map Value.int⟩ ∧ xs.length < 2 ^ 31
def AJ (Z : State) (h : Heap) (a : Addr) (xs : List Int64) : Prop := ∃ cl : Cell, Arr Z h a cl .long ∧ cl.slots = ⟨xs.map Value.long⟩ ∧ xs.length < 2 ^ 31
section Facts
variable {h' : Heap} {a b : Addr} {ty : FieldType} {xs : List Int32} {ys : List Int64} {sl : Nat} {v : Value} {ws : List Addr}
theorem AI.lt (A : AI Z h a ty xs) : a < h.size := by obtain ⟨c, A, -⟩ := A; exact A.lt
theorem AI.ext (A : AI Z h a ty xs) (E : Ext h h') : AI Z h' a ty xs := by obtain ⟨c, A, r⟩ := A; exact ⟨c, A.ext E, r⟩
theorem AI.keep (A : AI Z h a ty xs) (K : Keep h h' ws) (q : a ∉ ws) : AI Z h' a ty xs := by obtain ⟨c, A, r⟩ := A; exact ⟨c, ⟨K.2.1 a c A.1 q, A.2⟩, r⟩
theorem AI.other (A : AI Z h b ty xs) (w : Wr h h' a sl v) (q : b ≠ a) : AI Z h' b ty xs := by obtain ⟨c, A, r⟩ := A; exact ⟨c, A.other w q, r⟩
theorem AI.set {x : Int32} (A : AI Z h a ty xs) (w : Wr h h' a sl (.int x)) : AI Z h' a ty (xs.set sl x) := by
  obtain ⟨c, A, r, r'⟩ := A
  exact ⟨_, A.same w, by simp [Cell.setSlot, r, List.map_set], by simpa using r'⟩
theorem AJ.lt (A : AJ Z h a ys) : a < h.size := by obtain ⟨c, A, -⟩ := A; exact A.lt
theorem AJ.ext (A : AJ Z h a ys) (E : Ext h h') : AJ Z h' a ys := by obtain ⟨c, A, r⟩ := A; exact ⟨c, A.ext E, r⟩
theorem AJ.keep (A : AJ Z h a ys) (K : Keep h h' ws) (q : a ∉ ws) : AJ Z h' a ys := by obtain ⟨c, A, r⟩ := A; exact ⟨c, ⟨K.2.1 a c A.1 q, A.2⟩, r⟩
theorem AJ.other (A : AJ Z h b ys) (w : Wr h h' a sl v) (q : b ≠ a) : AJ Z h' b ys := by obtain ⟨c, A, r⟩ := A; exact ⟨c, A.other w q, r⟩
theorem AJ.set {x : Int64} (A : AJ Z h a ys) (w : Wr h h' a sl (.long x)) : AJ Z h' a (ys.set sl x) := by
  obtain ⟨c, A, r, r'⟩ := A
  exact ⟨_, A.same w, by simp [Cell.setSlot, r, List.map_set], by simpa using r'⟩
end Facts
theorem W.newarrayI {aty : ArrayType} {ty : FieldType} {n : Int32} {cap : Nat} (hd : decode B.bytes pc = .ok (.newarray aty, 2)) (hty : newarray.typeOf aty = ty) (h0 : defaultValue ty = .int 0) (w : (Cond.arrayClass ty).before a0 Z = true) (hn : ¬ n < 0) (hcap : n.toNatClampNeg ≤ cap) (hbig : cap * 8 ≤ 536870912) (hc : cells + 1 ≤ R.cells) (hl : slots + cap ≤ R.slots) (hq : pc + 2 = q)
    (K : ∀ h', Ext h h' → AI Z h' h.size ty (List.replicate n.toNatClampNeg 0) → W l Z n0 R B Q h' (cells + 1) (slots + cap) q Ls (.ref h.size :: St)) : W l Z n0 R B Q h cells slots pc Ls (.int n :: St) := by
  subst hq hty
  intro p e s m args below meth c T locs C X eT N _ _
  obtain ⟨T', h', cA, X', eT', E, A, st⟩ := newP X C.1 C.2.2.2.1 w eT (g := mkF m pc ⟨Ls⟩ (.int n :: St)) rfl (hb C.2.1 hd) rfl hn hcap hbig hc hl
  obtain ⟨s₂, v, L, h1, h2⟩ := K h' E ⟨_, A, by simp [newA, h0, ← Array.toList_inj], by simpa using (back32 hn).2⟩ p e s m args below meth c T' locs C X' eT' N hc hl
  exact ⟨s₂, v, L, st _ h1, h2⟩
theorem W.newarrayJ {n : Int32} {cap : Nat} (hd : decode B.bytes pc = .ok (.newarray .long, 2)) (w : (Cond.arrayClass .long).before a0 Z = true) (hn : ¬ n < 0) (hcap : n.toNatClampNeg ≤ cap) (hbig : cap * 8 ≤ 536870912) (hc : cells + 1 ≤ R.cells) (hl : slots + cap ≤ R.slots) (hq : pc + 2 = q)
    (K : ∀ h', Ext h h' → AJ Z h' h.size (List.replicate n.toNatClampNeg 0) → W l Z n0 R B Q h' (cells + 1) (slots + cap) q Ls (.ref h.size :: St)) : W l Z n0 R B Q h cells slots pc Ls (.int n :: St) := by
  subst hq
  intro p e s m args below meth c T locs C X eT N _ _
  obtain ⟨T', h', cA, X', eT', E, A, st⟩ := newP X (aty := .long) C.1 C.2.2.2.1 w eT (g := mkF m pc ⟨Ls⟩ (.int n :: St)) rfl (hb C.2.1 hd) rfl hn hcap hbig hc hl
  have A' : Arr Z h' h.size (newA cA .long n) .long := A
  have e1 : (newA cA .long n).slots = ⟨(List.replicate n.toNatClampNeg (0 : Int64)).map Value.long⟩ := by simp [newA, defaultValue, ← Array.toList_inj]
  have e2 : (List.replicate n.toNatClampNeg (0 : Int64)).length < 2 ^ 31 := by rw [List.length_replicate]; exact (back32 hn).2
  obtain ⟨s₂, v, L, h1, h2⟩ := K h' E ⟨_, A', e1, e2⟩ p e s m args below meth c T' locs C X' eT' N hc hl
  exact ⟨s₂, v, L, st _ h1, h2⟩
theorem inI {cl : Cell} {xs : List Int32} {j v : Int32} (hs : cl.slots = ⟨xs.map Value.int⟩) (h0 : ¬ j < 0) (hv : xs[j.toNatClampNeg]? = some v) : ¬ (j < 0 ∨ cl.slots.size ≤ j.toNatClampNeg) ∧ cl.slots[j.toNatClampNeg]? = some (.int v) := by
  obtain ⟨h1, -⟩ := List.getElem?_eq_some_iff.mp hv
  refine ⟨fun q => q.elim h0 fun q => ?_, by simp [hs, hv]⟩
  rw [hs] at q; simp at q; omega
theorem inJ {cl : Cell} {xs : List Int64} {j : Int32} {v : Int64} (hs : cl.slots = ⟨xs.map Value.long⟩) (h0 : ¬ j < 0) (hv : xs[j.toNatClampNeg]? = some v) : ¬ (j < 0 ∨ cl.slots.size ≤ j.toNatClampNeg) ∧ cl.slots[j.toNatClampNeg]? = some (.long v) := by
  obtain ⟨h1, -⟩ := List.getElem?_eq_some_iff.mp hv
  refine ⟨fun q => q.elim h0 fun q => ?_, by simp [hs, hv]⟩
  rw [hs] at q; simp at q; omega
theorem W.iaload {a : Addr} {xs : List Int32} {j v : Int32} (hd : decode B.bytes pc = .ok (.iaload, 1)) (A : AI Z h a .int xs) (h0 : ¬ j < 0) (hv : xs[j.toNatClampNeg]? = some v) (hq : pc + 1 = q) (K : W l Z n0 R B Q h cells slots q Ls (.int v :: St)) : W l Z n0 R B Q h cells slots pc Ls (.int j :: .ref a :: St) := by
  subst hq; obtain ⟨cl, A, hs, -⟩ := A
  exact W.same K (fun p e s m args below meth c T locs C X eT t hr => X.iaload (g := mkF m pc ⟨Ls⟩ (.int j :: .ref a :: St)) C.1 (by rw [eT]; exact A.1) (State.isArrayOf_alike C.2.2.2.1.alike A.2.1) A.2.2 (inI hs h0 hv).1 (inI hs h0 hv).2 rfl rfl (hb C.2.1 hd) t hr)
theorem W.baloadB {a : Addr} {xs : List Int32} {j v : Int32} (hd : decode B.bytes pc = .ok (.baload, 1)) (A : AI Z h a .byte xs) (h0 : ¬ j < 0) (hv : xs[j.toNatClampNeg]? = some v) (hq : pc + 1 = q) (K : W l Z n0 R B Q h cells slots q Ls (.int v :: St)) : W l Z n0 R B Q h cells slots pc Ls (.int j :: .ref a :: St) := by
  subst hq; obtain ⟨cl, A, hs, -⟩ := A
  exact W.same K (fun p e s m args below meth c T locs C X eT t hr => X.baloadBytes (g := mkF m pc ⟨Ls⟩ (.int j :: .ref a :: St)) C.1 (by rw [eT]; exact A.1) (State.isArrayOf_alike C.2.2.2.1.alike A.2.1) A.2.2 (inI hs h0 hv).1 (inI hs h0 hv).2 rfl rfl (hb C.2.1 hd) t hr)
theorem W.baloadZ {a : Addr} {xs : List Int32} {j v : Int32} (hd : decode B.bytes pc = .ok (.baload, 1)) (A : AI Z h a .boolean xs) (h0 : ¬ j < 0) (hv : xs[j.toNatClampNeg]? = some v) (hq : pc + 1 = q) (K : W l Z n0 R B Q h cells slots q Ls (.int v :: St)) : W l Z n0 R B Q h cells slots pc Ls (.int j :: .ref a :: St) := by
  subst hq; obtain ⟨cl, A, hs, -⟩ := A
  exact W.same K (fun p e s m args below meth c T locs C X eT t hr => X.baloadBooleans (g := mkF m pc ⟨Ls⟩ (.int j :: .ref a :: St)) C.1 (by rw [eT]; exact A.1) (State.isArrayOf_alike C.2.2.2.1.alike A.2.1) A.2.2 (inI hs h0 hv).1 (inI hs h0 hv).2 rfl rfl (hb C.2.1 hd) t hr)
theorem W.laload {a : Addr} {xs : List Int64} {j : Int32} {v : Int64} (hd : decode B.bytes pc = .ok (.laload, 1)) (A : AJ Z h a xs) (h0 : ¬ j < 0) (hv : xs[j.toNatClampNeg]? = some v) (hq : pc + 1 = q) (K : W l Z n0 R B Q h cells slots q Ls (.long v :: St)) : W l Z n0 R B Q h cells slots pc Ls (.int j :: .ref a :: St) := by
  subst hq; obtain ⟨cl, A, hs, -⟩ := A
  exact W.same K (fun p e s m args below meth c T locs C X eT t hr => X.laload (g := mkF m pc ⟨Ls⟩ (.int j :: .ref a :: St)) C.1 (by rw [eT]; exact A.1) (State.isArrayOf_alike C.2.2.2.1.alike A.2.1) A.2.2 (inJ hs h0 hv).1 (inJ hs h0 hv).2 rfl rfl (hb C.2.1 hd) t hr)
theorem W.arraylengthI {a : Addr} {ty : FieldType} {xs : List Int32} {n : Int32} (hd : decode B.bytes pc = .ok (.arraylength, 1)) (A : AI Z h a ty xs) (hn : xs.length.toInt32 = n) (hq : pc + 1 = q) (K : W l Z n0 R B Q h cells slots q Ls (.int n :: St)) : W l Z n0 R B Q h cells slots pc Ls (.ref a :: St) := by
  subst hq hn; obtain ⟨cl, A, hs, -⟩ := A
  have e1 : cl.slots.size = xs.length := by simp [hs]
  rw [← e1] at K
  exact W.same K (fun p e s m args below meth c T locs C X eT t hr => X.arraylength (g := mkF m pc ⟨Ls⟩ (.ref a :: St)) C.1 (by rw [eT]; exact A.1) (State.isArrayOf_alike C.2.2.2.1.alike A.2.1) rfl rfl (hb C.2.1 hd) t hr)
theorem W.arraylengthJ {a : Addr} {xs : List Int64} {n : Int32} (hd : decode B.bytes pc = .ok (.arraylength, 1)) (A : AJ Z h a xs) (hn : xs.length.toInt32 = n) (hq : pc + 1 = q) (K : W l Z n0 R B Q h cells slots q Ls (.int n :: St)) : W l Z n0 R B Q h cells slots pc Ls (.ref a :: St) := by
  subst hq hn; obtain ⟨cl, A, hs, -⟩ := A
  have e1 : cl.slots.size = xs.length := by simp [hs]
  rw [← e1] at K
  exact W.same K (fun p e s m args below meth c T locs C X eT t hr => X.arraylength (g := mkF m pc ⟨Ls⟩ (.ref a :: St)) C.1 (by rw [eT]; exact A.1) (State.isArrayOf_alike C.2.2.2.1.alike A.2.1) rfl rfl (hb C.2.1 hd) t hr)
theorem outI {cl : Cell} {xs : List Int32} {j : Int32} (hs : cl.slots = ⟨xs.map Value.int⟩) (h0 : ¬ j < 0) (hj : j.toNatClampNeg < xs.length) : ¬ (j < 0 ∨ cl.slots.size ≤ j.toNatClampNeg) := fun q => q.elim h0 fun q => by
  rw [hs] at q; simp at q; omega
theorem outJ {cl : Cell} {xs : List Int64} {j : Int32} (hs : cl.slots = ⟨xs.map Value.long⟩) (h0 : ¬ j < 0) (hj : j.toNatClampNeg < xs.length) : ¬ (j < 0 ∨ cl.slots.size ≤ j.toNatClampNeg) := fun q => q.elim h0 fun q => by
  rw [hs] at q; simp at q; omega
theorem W.iastore {a : Addr} {xs : List Int32} {j x : Int32} (hd : decode B.bytes pc = .ok (.iastore, 1)) (A : AI Z h a .int xs) (h0 : ¬ j < 0) (hj : j.toNatClampNeg < xs.length) (ha : n0 ≤ a) (hq : pc + 1 = q) (K : ∀ h', Wr h h' a j.toNatClampNeg (.int x) → AI Z h' a .int (xs.set j.toNatClampNeg x) → W l Z n0 R B Q h' cells slots q Ls St) : W l Z n0 R B Q h cells slots pc Ls (.int x :: .int j :: .ref a :: St) := by
  subst hq; obtain ⟨cl, A', hs, hl⟩ := A
  exact W.wrote (fun p e s m args below meth c T locs C X eT => stI X (g := mkF m pc ⟨Ls⟩ (.int x :: .int j :: .ref a :: St)) C.1 C.2.2.2.1 eT A' (outI hs h0 hj) rfl rfl (hb C.2.1 hd)) ha (fun h' w => K h' w (AI.set ⟨cl, A', hs, hl⟩ w))
theorem W.bastoreB {a : Addr} {xs : List Int32} {j x x' : Int32} (hd : decode B.bytes pc = .ok (.bastore, 1)) (A : AI Z h a .byte xs) (h0 : ¬ j < 0) (hj : j.toNatClampNeg < xs.length) (hx : x.toInt8.toInt32 = x') (ha : n0 ≤ a) (hq : pc + 1 = q) (K : ∀ h', Wr h h' a j.toNatClampNeg (.int x') → AI Z h' a .byte (xs.set j.toNatClampNeg x') → W l Z n0 R B Q h' cells slots q Ls St) : W l Z n0 R B Q h cells slots pc Ls (.int x :: .int j :: .ref a :: St) := by
  subst hq hx; obtain ⟨cl, A', hs, hl⟩ := A
  exact W.wrote (fun p e s m args below meth c T locs C X eT => stB X (g := mkF m pc ⟨Ls⟩ (.int x :: .int j :: .ref a :: St)) C.1 C.2.2.2.1 eT A' (outI hs h0 hj) rfl rfl (hb C.2.1 hd)) ha (fun h' w => K h' w (AI.set ⟨cl, A', hs, hl⟩ w))
theorem W.bastoreZ {a : Addr} {xs : List Int32} {j x x' : Int32} (hd : decode B.bytes pc = .ok (.bastore, 1)) (A : AI Z h a .boolean xs) (h0 : ¬ j < 0) (hj : j.toNatClampNeg < xs.length) (hx : x &&& 1 = x') (ha : n0 ≤ a) (hq : pc + 1 = q) (K : ∀ h', Wr h h' a j.toNatClampNeg (.int x') → AI Z h' a .boolean (xs.set j.toNatClampNeg x') → W l Z n0 R B Q h' cells slots q Ls St) : W l Z n0 R B Q h cells slots pc Ls (.int x :: .int j :: .ref a :: St) := by
  subst hq hx; obtain ⟨cl, A', hs, hl⟩ := A
  exact W.wrote (fun p e s m args below meth c T locs C X eT => stZ X (g := mkF m pc ⟨Ls⟩ (.int x :: .int j :: .ref a :: St)) C.1 C.2.2.2.1 eT A' (outI hs h0 hj) rfl rfl (hb C.2.1 hd)) ha (fun h' w => K h' w (AI.set ⟨cl, A', hs, hl⟩ w))
theorem W.lastore {a : Addr} {xs : List Int64} {j : Int32} {x : Int64} (hd : decode B.bytes pc = .ok (.lastore, 1)) (A : AJ Z h a xs) (h0 : ¬ j < 0) (hj : j.toNatClampNeg < xs.length) (ha : n0 ≤ a) (hq : pc + 1 = q) (K : ∀ h', Wr h h' a j.toNatClampNeg (.long x) → AJ Z h' a (xs.set j.toNatClampNeg x) → W l Z n0 R B Q h' cells slots q Ls St) : W l Z n0 R B Q h cells slots pc Ls (.long x :: .int j :: .ref a :: St) := by
  subst hq; obtain ⟨cl, A', hs, hl⟩ := A
  exact W.wrote (fun p e s m args below meth c T locs C X eT => stJ X (g := mkF m pc ⟨Ls⟩ (.long x :: .int j :: .ref a :: St)) C.1 C.2.2.2.1 eT A' (outJ hs h0 hj) rfl rfl (hb C.2.1 hd)) ha (fun h' w => K h' w (AJ.set ⟨cl, A', hs, hl⟩ w))
/-! ### fields, statics, objects -/
theorem W.getF {i : Nat} {O n d : String} {a : Addr} {v : Value} (hd : decode B.bytes pc = .ok (.getfield i, 3)) (w : (Cond.fieldLink B.own i O n d).before a0 Z = true) (F : Fld Z h a O n d v) (hq : pc + 3 = q) (K : W l Z n0 R B Q h cells slots q Ls (v :: St)) : W l Z n0 R B Q h cells slots pc Ls (.ref a :: St) := by
  subst hq; exact W.warm K (fun p e s m args below meth c T locs C X eT => RoadKit.getF X (g := mkF m pc ⟨Ls⟩ (.ref a :: St)) C.1 C.2.2.2.1 C.2.2.2.2.1 (host := "") (Or.inl w) Via.refl eT F rfl rfl (hb C.2.1 hd))
theorem W.getS {i : Nat} {O n d : String} {v : Value} (hd : decode B.bytes pc = .ok (.getstatic i, 3)) (w : (Cond.fieldLink B.own i O n d).before a0 Z = true) (F : Sta Z h O n d v) (hq : pc + 3 = q) (K : W l Z n0 R B Q h cells slots q Ls (v :: St)) : W l Z n0 R B Q h cells slots pc Ls St := by
  subst hq; exact W.warm K (fun p e s m args below meth c T locs C X eT => RoadKit.getS X (g := mkF m pc ⟨Ls⟩ St) C.1 C.2.2.2.1 (host := "") C.2.2.2.2.1 w Via.refl eT F rfl (hb C.2.1 hd))
theorem W.putF {i kk : Nat} {O n d C' : String} {a : Addr} {v old : Value} {ty : FieldType} (hd : decode B.bytes pc = .ok (.putfield i, 3)) (w : (Cond.fieldLink B.own i O n d).before a0 Z = true) (F : Fld Z h a O n d old) (E : Exa Z h a C') (L : (Cond.lays C' O n d).before a0 Z = true ∨ ((Cond.laysFinal C' O n d).before a0 Z = true ∧ B.own = O ∧ B.nm = "<init>")) (wi : (Cond.instantiable C' kk).before a0 Z = true)
    (hty : parseFieldDescriptor d = some ty) (hn : narrow ty v = v) (hf : fits ty v = true) (ha : n0 ≤ a) (hq : pc + 3 = q) (K : ∀ h', Wr h h' a (Jvm.RoadKit.slotOf Z O n d) v → W l Z n0 R B Q h' cells slots q Ls St) : W l Z n0 R B Q h cells slots pc Ls (v :: .ref a :: St) := by
  subst hq; exact W.wrote (fun p e s m args below meth c T locs C X eT => RoadKit.putF X (g := mkF m pc ⟨Ls⟩ (v :: .ref a :: St)) C.1 C.2.2.2.1 (host := "") C.2.2.2.2.1 (Or.inl w) Via.refl eT F E (L.imp id fun q => ⟨q.1, q.2.1, C.2.2.2.2.2.2.2.trans q.2.2⟩) wi hty hn hf rfl rfl (hb C.2.1 hd)) ha K
theorem W.newO {i n : Nat} {C' : String} (hd : decode B.bytes pc = .ok (.new i, 3)) (w : (Cond.classLink B.own i C').before a0 Z = true) (wi : (Cond.instantiable C' n).before a0 Z = true) (wz : (Cond.initialized C').before a0 Z = true) (hc : cells + 1 ≤ R.cells) (hl : slots + n ≤ R.slots) (hq : pc + 3 = q)
    (K : ∀ h', Ext h h' → Exa Z h' h.size C' → (∀ {O nm d : String} {ty : FieldType}, Laid Z a0 C' O nm d → parseFieldDescriptor d = some ty → Fld Z h' h.size O nm d (defaultValue ty)) → W l Z n0 R B Q h' (cells + 1) (slots + n) q Ls (.ref h.size :: St)) : W l Z n0 R B Q h cells slots pc Ls St := by
  subst hq
  intro p e s m args below meth c T locs C X eT N _ _
  obtain ⟨T', h', X', eT', E, A, D, -, st⟩ := RoadKit.newO X C.1 C.2.2.2.1 C.2.2.2.2.1 w wi wz eT (g := mkF m pc ⟨Ls⟩ St) rfl (hb C.2.1 hd) hc hl
  obtain ⟨s₂, v, L, h1, h2⟩ := K h' E A D p e s m args below meth c T' locs C X' eT' N hc hl
  exact ⟨s₂, v, L, st _ h1, h2⟩
theorem W.castY {i : Nat} {K' : String} {a : Addr} (hd : decode B.bytes pc = .ok (.checkcast i, 3)) (w : (Cond.classLink B.own i K').before a0 Z = true) (F : Ins Z h a K' true) (hq : pc + 3 = q) (K : W l Z n0 R B Q h cells slots q Ls (.ref a :: St)) : W l Z n0 R B Q h cells slots pc Ls (.ref a :: St) := by
  subst hq; exact W.warm K (fun p e s m args below meth c T locs C X eT => RoadKit.castY X C.1 C.2.2.2.1 C.2.2.2.2.1 w eT F (g := mkF m pc ⟨Ls⟩ (.ref a :: St)) rfl rfl (hb C.2.1 hd))
theorem W.instY {i : Nat} {K' : String} {a : Addr} (hd : decode B.bytes pc = .ok (.instanceof i, 3)) (w : (Cond.classLink B.own i K').before a0 Z = true) (F : Ins Z h a K' true) (hq : pc + 3 = q) (K : W l Z n0 R B Q h cells slots q Ls (.int 1 :: St)) : W l Z n0 R B Q h cells slots pc Ls (.ref a :: St) := by
  subst hq; exact W.warm K (fun p e s m args below meth c T locs C X eT => RoadKit.instY X C.1 C.2.2.2.1 C.2.2.2.2.1 w eT F (g := mkF m pc ⟨Ls⟩ (.ref a :: St)) rfl rfl (hb C.2.1 hd))
theorem W.instNo {i : Nat} {K' C' : String} {a : Addr} (hd : decode B.bytes pc = .ok (.instanceof i, 3)) (w : (Cond.classLink B.own i K').before a0 Z = true) (E : Exa Z h a C') (F : ∃ c t, Z.vm.findClass C' = some c ∧ Z.vm.findClass K' = some t ∧ Z.vm.assignable c t = false) (hq : pc + 3 = q) (K : W l Z n0 R B Q h cells slots q Ls (.int 0 :: St)) : W l Z n0 R B Q h cells slots pc Ls (.ref a :: St) := by
  subst hq; exact W.warm K (fun p e s m args below meth c T locs C X eT => RoadKit.instNo X C.1 C.2.2.2.1 C.2.2.2.2.1 w eT E F (g := mkF m pc ⟨Ls⟩ (.ref a :: St)) rfl rfl (hb C.2.1 hd))
theorem W.instNull {i : Nat} (hd : decode B.bytes pc = .ok (.instanceof i, 3)) (hq : pc + 3 = q) (K : W l Z n0 R B Q h cells slots q Ls (.int 0 :: St)) : W l Z n0 R B Q h cells slots pc Ls (.null :: St) := by
  subst hq; exact W.same K (fun p e s m args below meth c T locs C X eT t hr => X.instanceofNull C.1 (g := mkF m pc ⟨Ls⟩ (.null :: St)) rfl rfl (hb C.2.1 hd) t hr)
/-- what a callee leaves: an int, a long, a reference, nothing -/
def RI (P : Int32 → Heap → Prop) (v : Option Value) (h : Heap) : Prop := ∃ z, v = some (.int z) ∧ P z h
def RJ (P : Int64 → Heap → Prop) (v : Option Value) (h : Heap) : Prop := ∃ z, v = some (.long z) ∧ P z h
def RA (P : Value → Heap → Prop) (v : Option Value) (h : Heap) : Prop := ∃ z, v = some z ∧ P z h
def RN (P : Heap → Prop) (v : Option Value) (h : Heap) : Prop := v = none ∧ P h
/-! ### calls -/
def Met1 (l : Launch) (Z : State) (n0 : Nat) (y : MethodName) (B' : Bdy) (rm : Room) (as' : Array Value) (h : Heap) (Qc : Option Value → Heap → Prop) : Prop :=
  MetFree l y (head1 [Cond.code y B'.bytes B'.ml B'.ret] rm) (fun a U => a = as' ∧ Z.Warmed39 U.vm ∧ U.heap = h) (fun _ _ _ _ _ => True) (fun _ U o U' => ∃ v L, o = .returned v ∧ (Qc v U'.heap ∧ Fr n0 L) ∧ FrameEnd U o U' L rm.cells rm.slots)
theorem met_of {ws : List Jvm.Cond} {y : MethodName} {B' : Bdy} {rm : Room} {as' : Array Value} {Qc : Option Value → Heap → Prop} {L0 : List Slot} (hp : plainFor y = true) (ho : B'.own = y.cls) (hn : B'.nm = y.name) (hef : ∀ m, entryFrame m as' B'.ml = mkF m 0 ⟨L0⟩ []) (w : W l Z n0 rm B' Qc h 0 0 0 L0 []) :
    MetFree l y (head1 (Cond.code y B'.bytes B'.ml B'.ret :: ws) rm) (fun a U => a = as' ∧ Z.Warmed39 U.vm ∧ U.heap = h) (fun _ _ _ _ _ => True) (fun _ U o U' => ∃ v L, o = .returned v ∧ (Qc v U'.heap ∧ Fr n0 L) ∧ FrameEnd U o U' L rm.cells rm.slots) := by
  refine MetFree.of_bodySF hp hisR ?_
  intro p e s m args below meth c s₁ Bd hml0 hP hK
  obtain ⟨rfl, hZ, hh⟩ := hP
  have X0 : Stand p l e rm s m args below meth c s₁ [] 0 0 := Stand.of_body Bd
  have e0 : s₁.heap = h := by rw [← hh, Bd.state]; rfl
  obtain ⟨s₂, v, L, h1, h2, h3, h4, h5, h6⟩ := w p e s m args below meth c s₁ [] ⟨Bd.exec, Bd.bytes, hml0, hZ, by rw [ho]; exact findClass_of_methodNamed Bd.named, Bd.returns, Bd.notSynchronized, by rw [hn]; exact (name_of_methodNamed Bd.named Bd.method).1⟩ X0 e0 (Fr.nil n0) (Nat.zero_le _) (Nat.zero_le _)
  exact ⟨s₂, _, castTop (hef m) h1, h2, h3, v, L, rfl, ⟨h4, h5⟩, h6⟩
theorem W.callS {i : Nat} {y : MethodName} {B' : Bdy} {rm : Room} {Qc : Option Value → Heap → Prop} {L0 : List Slot} {argsL rest : List Value} {ps : List FieldType} {r : Option FieldType} (hd : decode B.bytes pc = .ok (.invokestatic i, 3)) (wl : (Cond.methodLink B.own i y).before a0 Z = true) (wst : (Cond.static y).before a0 Z = true) (wz : (Cond.initialized y.cls).before a0 Z = true) (wc : (Cond.code y B'.bytes B'.ml B'.ret).before a0 Z = true)
    (hst : argsL.reverse ++ rest = St) (w : W l Z n0 rm B' Qc h 0 0 0 L0 []) (hp : plainFor y = true) (hy : y.cls ≠ "java/lang/invoke/MethodHandle" ∧ y.cls ≠ "java/lang/invoke/VarHandle") (hpd : parseMethodDescriptor y.desc = some ⟨ps, r⟩) (ho : B'.own = y.cls) (hn : B'.nm = y.name) (hlen : argsL.length = ps.length) (hef : ∀ m, entryFrame m argsL.toArray B'.ml = mkF m 0 ⟨L0⟩ []) (hsz : Ls.length = B.ml)
    (hf : Nat.ble (rm.frames + 1) R.frames = true) (hlo : Nat.ble ((rest.map fun v => v.category).sum + (B'.ml + 11) + rm.locals) R.locals = true) (hc : Nat.ble (cells + rm.cells) R.cells = true) (hs : Nat.ble (slots + rm.slots) R.slots = true) (hq : pc + 3 = q)
    (K : ∀ v h', Qc v h' → W l Z n0 R B Q h' (cells + rm.cells) (slots + rm.slots) q Ls (v.toList ++ rest)) : W l Z n0 R B Q h cells slots pc Ls St := by
  subst hq hst
  intro p e s m args below meth c T locs C X eT N _ _
  have hc' := Nat.le_of_ble_eq_true hc
  have hs' := Nat.le_of_ble_eq_true hs
  obtain ⟨v, vm₁, ⟨T', L', c', s'⟩, -, X', ⟨Lc, hQ, l', y', z'⟩, st⟩ := Jvm.LawKit.callS X C.1 (y := y) C.2.2.2.2.1 (mvT C.2.2.2.1 wl) (mvT C.2.2.2.1 wst) (mvT C.2.2.2.1 wz) (mvT C.2.2.2.1 wc) hy
    (backOf (W := (rest.map fun v => v.category).sum) (Q := fun v h L => Qc v h ∧ Fr n0 L) (met_of (ws := []) hp ho hn hef w) C.2.2.2.1 wc wz (Nat.le_of_ble_eq_true hf) (Nat.le_of_ble_eq_true hlo)) (g := mkF m pc ⟨Ls⟩ (argsL.reverse ++ rest)) rfl (by show Ls.toArray.size = _; rw [C.2.2.1]; simpa using hsz) (argsL := argsL) (rest := rest) (lenOf hpd hlen) rfl (by show 2 * 0 + _ ≤ _; omega) (hb C.2.1 hd) (fun _ _ => ⟨rfl, eT, hc', hs'⟩)
  dsimp only [Pt.U, Pt.locs, Pt.cells, Pt.slots] at X' l' y' z' st hQ
  subst l' y' z'
  obtain ⟨s₂, v₂, L, h1, h2⟩ := K v T'.heap hQ.1 p e s m args below meth c T' _ C X' rfl (Fr.app N hQ.2) hc' hs'
  exact ⟨s₂, v₂, L, st _ h1, h2⟩
theorem W.callI {i : Nat} {y : MethodName} {B' : Bdy} {rm : Room} {Qc : Option Value → Heap → Prop} {L0 : List Slot} {a : Addr} {argsL rest : List Value} {ps : List FieldType} {r : Option FieldType} (hd : decode B.bytes pc = .ok (.invokespecial i, 3)) (wl : (Cond.methodLink B.own i y).before a0 Z = true) (wst : (Cond.instanceMethod y).before a0 Z = true) (wz : (Cond.initialized y.cls).before a0 Z = true) (wc : (Cond.code y B'.bytes B'.ml B'.ret).before a0 Z = true)
    (hst : argsL.reverse ++ .ref a :: rest = St) (w : W l Z n0 rm B' Qc h 0 0 0 L0 []) (hp : plainFor y = true) (hy : y.cls ≠ "java/lang/invoke/MethodHandle" ∧ y.cls ≠ "java/lang/invoke/VarHandle") (hpd : parseMethodDescriptor y.desc = some ⟨ps, r⟩) (ho : B'.own = y.cls) (hn : B'.nm = y.name) (hlen : argsL.length = ps.length) (hef : ∀ m, entryFrame m (.ref a :: argsL).toArray B'.ml = mkF m 0 ⟨L0⟩ []) (hsz : Ls.length = B.ml)
    (hf : Nat.ble (rm.frames + 1) R.frames = true) (hlo : Nat.ble ((rest.map fun v => v.category).sum + (B'.ml + 11) + rm.locals) R.locals = true) (hc : Nat.ble (cells + rm.cells) R.cells = true) (hs : Nat.ble (slots + rm.slots) R.slots = true) (hret : B'.ret = none) (hin : y.name = "<init>") (hq : pc + 3 = q)
    (K : ∀ v h', Qc v h' → W l Z n0 R B Q h' (cells + rm.cells) (slots + rm.slots) q Ls (v.toList ++ rest)) : W l Z n0 R B Q h cells slots pc Ls St := by
  subst hq hst
  intro p e s m args below meth c T locs C X eT N _ _
  have hc' := Nat.le_of_ble_eq_true hc
  have hs' := Nat.le_of_ble_eq_true hs
  obtain ⟨v, vm₁, ⟨T', L', c', s'⟩, -, X', ⟨Lc, hQ, l', y', z'⟩, st⟩ := X.specialBack C.1 (y := y) hin C.2.2.2.2.1 (mvT C.2.2.2.1 wl) (mvT C.2.2.2.1 wst) (mvT C.2.2.2.1 (hret ▸ wc)) hy
    (backOf (W := (rest.map fun v => v.category).sum) (Q := fun v h L => Qc v h ∧ Fr n0 L) (met_of (ws := []) hp ho hn hef w) C.2.2.2.1 wc wz (Nat.le_of_ble_eq_true hf) (Nat.le_of_ble_eq_true hlo)) (g := mkF m pc ⟨Ls⟩ (argsL.reverse ++ .ref a :: rest)) rfl (by show Ls.toArray.size = _; rw [C.2.2.1]; simpa using hsz) (Steps.refl _) (a := a) (argsL := argsL) (rest := rest) (lenOf hpd hlen) rfl (by show 2 * 0 + _ ≤ _; omega) (hb C.2.1 hd) (fun _ _ => ⟨rfl, eT, hc', hs'⟩)
  dsimp only [Pt.U, Pt.locs, Pt.cells, Pt.slots] at X' l' y' z' st hQ
  subst l' y' z'
  obtain ⟨s₂, v₂, L, h1, h2⟩ := K v T'.heap hQ.1 p e s m args below meth c T' _ C X' rfl (Fr.app N hQ.2) hc' hs'
  exact ⟨s₂, v₂, L, st.trans h1, h2⟩
theorem W.callV {i : Nat} {y : MethodName} {C' : String} {B' : Bdy} {rm : Room} {Qc : Option Value → Heap → Prop} {L0 : List Slot} {a : Addr} {argsL rest : List Value} {ps : List FieldType} {r : Option FieldType} (hd : decode B.bytes pc = .ok (.invokevirtual i, 3)) (wl : (Cond.methodLink B.own i y).before a0 Z = true) (wd : (Cond.declares y).before a0 Z = true) (wsel : (Cond.selects C' y y).before a0 Z = true) (wst : (Cond.instanceMethod y).before a0 Z = true) (wz : (Cond.initialized y.cls).before a0 Z = true) (wc : (Cond.code y B'.bytes B'.ml B'.ret).before a0 Z = true)
    (hst : argsL.reverse ++ .ref a :: rest = St) (E : Exa Z h a C') (w : W l Z n0 rm B' Qc h 0 0 0 L0 []) (hp : plainFor y = true) (hy : y.cls ≠ "java/lang/invoke/MethodHandle" ∧ y.cls ≠ "java/lang/invoke/VarHandle") (hpd : parseMethodDescriptor y.desc = some ⟨ps, r⟩) (ho : B'.own = y.cls) (hn : B'.nm = y.name) (hlen : argsL.length = ps.length) (hef : ∀ m, entryFrame m (.ref a :: argsL).toArray B'.ml = mkF m 0 ⟨L0⟩ []) (hsz : Ls.length = B.ml)
    (hf : Nat.ble (rm.frames + 1) R.frames = true) (hlo : Nat.ble ((rest.map fun v => v.category).sum + (B'.ml + 11) + rm.locals) R.locals = true) (hc : Nat.ble (cells + rm.cells) R.cells = true) (hs : Nat.ble (slots + rm.slots) R.slots = true) (hq : pc + 3 = q)
    (K : ∀ v h', Qc v h' → W l Z n0 R B Q h' (cells + rm.cells) (slots + rm.slots) q Ls (v.toList ++ rest)) : W l Z n0 R B Q h cells slots pc Ls St := by
  subst hq hst
  intro p e s m args below meth c T locs C X eT N _ _
  have hc' := Nat.le_of_ble_eq_true hc
  have hs' := Nat.le_of_ble_eq_true hs
  obtain ⟨cq, kq, qa, qb, qc⟩ := isOf C.2.2.2.1 eT E
  obtain ⟨v, vm₁, ⟨T', L', c', s'⟩, -, X', ⟨Lc, hQ, l', y', z'⟩, st⟩ := X.virtualBack C.1 (y := y) (z := y) C.2.2.2.2.1 (mvT C.2.2.2.1 wl) (mvT C.2.2.2.1 wd) (notFace_of_selects (args := #[]) (mvT C.2.2.2.1 wsel)) (mvT C.2.2.2.1 wsel) (mvT C.2.2.2.1 wst) hy
    (backOf (W := (rest.map fun v => v.category).sum) (Q := fun v h L => Qc v h ∧ Fr n0 L) (met_of (ws := []) hp ho hn hef w) C.2.2.2.1 wc wz (Nat.le_of_ble_eq_true hf) (Nat.le_of_ble_eq_true hlo)) qa qc (g := mkF m pc ⟨Ls⟩ (argsL.reverse ++ .ref a :: rest)) rfl (by show Ls.toArray.size = _; rw [C.2.2.1]; simpa using hsz) (Steps.refl _) (argsL := argsL) (rest := rest) (lenOf hpd hlen) rfl (by show 2 * 0 + _ ≤ _; omega) (hb C.2.1 hd) (fun _ _ => ⟨rfl, eT, hc', hs'⟩)
  dsimp only [Pt.U, Pt.locs, Pt.cells, Pt.slots] at X' l' y' z' st hQ
  subst l' y' z'
  obtain ⟨s₂, v₂, L, h1, h2⟩ := K v T'.heap hQ.1 p e s m args below meth c T' _ C X' rfl (Fr.app N hQ.2) hc' hs'
  exact ⟨s₂, v₂, L, st.trans h1, h2⟩
theorem W.callS_I {i : Nat} {y : MethodName} {B' : Bdy} {rm : Room} {P : Int32 → Heap → Prop} {L0 : List Slot} {argsL rest : List Value} {ps : List FieldType} {r : Option FieldType} (hd : decode B.bytes pc = .ok (.invokestatic i, 3)) (wl : (Cond.methodLink B.own i y).before a0 Z = true) (wst : (Cond.static y).before a0 Z = true) (wz : (Cond.initialized y.cls).before a0 Z = true) (wc : (Cond.code y B'.bytes B'.ml B'.ret).before a0 Z = true)
    (hst : argsL.reverse ++ rest = St) (w : W l Z n0 rm B' (RI P) h 0 0 0 L0 []) (hp : plainFor y = true) (hy : y.cls ≠ "java/lang/invoke/MethodHandle" ∧ y.cls ≠ "java/lang/invoke/VarHandle") (hpd : parseMethodDescriptor y.desc = some ⟨ps, r⟩) (ho : B'.own = y.cls) (hn : B'.nm = y.name) (hlen : argsL.length = ps.length) (hef : ∀ m, entryFrame m argsL.toArray B'.ml = mkF m 0 ⟨L0⟩ []) (hsz : Ls.length = B.ml)
    (hf : Nat.ble (rm.frames + 1) R.frames = true) (hlo : Nat.ble ((rest.map fun v => v.category).sum + (B'.ml + 11) + rm.locals) R.locals = true) (hc : Nat.ble (cells + rm.cells) R.cells = true) (hs : Nat.ble (slots + rm.slots) R.slots = true) (hq : pc + 3 = q)
    (K : ∀ (u : Int32) h', P u h' → W l Z n0 R B Q h' (cells + rm.cells) (slots + rm.slots) q Ls (.int u :: rest)) : W l Z n0 R B Q h cells slots pc Ls St :=
  W.callS hd wl wst wz wc hst w hp hy hpd ho hn hlen hef hsz hf hlo hc hs hq (fun v h' hQ => by obtain ⟨u, rfl, hP⟩ := hQ; exact K u h' hP)
theorem W.callS_J {i : Nat} {y : MethodName} {B' : Bdy} {rm : Room} {P : Int64 → Heap → Prop} {L0 : List Slot} {argsL rest : List Value} {ps : List FieldType} {r : Option FieldType} (hd : decode B.bytes pc = .ok (.invokestatic i, 3)) (wl : (Cond.methodLink B.own i y).before a0 Z = true) (wst : (Cond.static y).before a0 Z = true) (wz : (Cond.initialized y.cls).before a0 Z = true) (wc : (Cond.code y B'.bytes B'.ml B'.ret).before a0 Z = true)
    (hst : argsL.reverse ++ rest = St) (w : W l Z n0 rm B' (RJ P) h 0 0 0 L0 []) (hp : plainFor y = true) (hy : y.cls ≠ "java/lang/invoke/MethodHandle" ∧ y.cls ≠ "java/lang/invoke/VarHandle") (hpd : parseMethodDescriptor y.desc = some ⟨ps, r⟩) (ho : B'.own = y.cls) (hn : B'.nm = y.name) (hlen : argsL.length = ps.length) (hef : ∀ m, entryFrame m argsL.toArray B'.ml = mkF m 0 ⟨L0⟩ []) (hsz : Ls.length = B.ml)
    (hf : Nat.ble (rm.frames + 1) R.frames = true) (hlo : Nat.ble ((rest.map fun v => v.category).sum + (B'.ml + 11) + rm.locals) R.locals = true) (hc : Nat.ble (cells + rm.cells) R.cells = true) (hs : Nat.ble (slots + rm.slots) R.slots = true) (hq : pc + 3 = q)
    (K : ∀ (u : Int64) h', P u h' → W l Z n0 R B Q h' (cells + rm.cells) (slots + rm.slots) q Ls (.long u :: rest)) : W l Z n0 R B Q h cells slots pc Ls St :=
  W.callS hd wl wst wz wc hst w hp hy hpd ho hn hlen hef hsz hf hlo hc hs hq (fun v h' hQ => by obtain ⟨u, rfl, hP⟩ := hQ; exact K u h' hP)
theorem W.callS_A {i : Nat} {y : MethodName} {B' : Bdy} {rm : Room} {P : Value → Heap → Prop} {L0 : List Slot} {argsL rest : List Value} {ps : List FieldType} {r : Option FieldType} (hd : decode B.bytes pc = .ok (.invokestatic i, 3)) (wl : (Cond.methodLink B.own i y).before a0 Z = true) (wst : (Cond.static y).before a0 Z = true) (wz : (Cond.initialized y.cls).before a0 Z = true) (wc : (Cond.code y B'.bytes B'.ml B'.ret).before a0 Z = true)
    (hst : argsL.reverse ++ rest = St) (w : W l Z n0 rm B' (RA P) h 0 0 0 L0 []) (hp : plainFor y = true) (hy : y.cls ≠ "java/lang/invoke/MethodHandle" ∧ y.cls ≠ "java/lang/invoke/VarHandle") (hpd : parseMethodDescriptor y.desc = some ⟨ps, r⟩) (ho : B'.own = y.cls) (hn : B'.nm = y.name) (hlen : argsL.length = ps.length) (hef : ∀ m, entryFrame m argsL.toArray B'.ml = mkF m 0 ⟨L0⟩ []) (hsz : Ls.length = B.ml)
    (hf : Nat.ble (rm.frames + 1) R.frames = true) (hlo : Nat.ble ((rest.map fun v => v.category).sum + (B'.ml + 11) + rm.locals) R.locals = true) (hc : Nat.ble (cells + rm.cells) R.cells = true) (hs : Nat.ble (slots + rm.slots) R.slots = true) (hq : pc + 3 = q)
    (K : ∀ (u : Value) h', P u h' → W l Z n0 R B Q h' (cells + rm.cells) (slots + rm.slots) q Ls (u :: rest)) : W l Z n0 R B Q h cells slots pc Ls St :=
  W.callS hd wl wst wz wc hst w hp hy hpd ho hn hlen hef hsz hf hlo hc hs hq (fun v h' hQ => by obtain ⟨u, rfl, hP⟩ := hQ; exact K u h' hP)
theorem W.callS_N {i : Nat} {y : MethodName} {B' : Bdy} {rm : Room} {P : Heap → Prop} {L0 : List Slot} {argsL rest : List Value} {ps : List FieldType} {r : Option FieldType} (hd : decode B.bytes pc = .ok (.invokestatic i, 3)) (wl : (Cond.methodLink B.own i y).before a0 Z = true) (wst : (Cond.static y).before a0 Z = true) (wz : (Cond.initialized y.cls).before a0 Z = true) (wc : (Cond.code y B'.bytes B'.ml B'.ret).before a0 Z = true)
    (hst : argsL.reverse ++ rest = St) (w : W l Z n0 rm B' (RN P) h 0 0 0 L0 []) (hp : plainFor y = true) (hy : y.cls ≠ "java/lang/invoke/MethodHandle" ∧ y.cls ≠ "java/lang/invoke/VarHandle") (hpd : parseMethodDescriptor y.desc = some ⟨ps, r⟩) (ho : B'.own = y.cls) (hn : B'.nm = y.name) (hlen : argsL.length = ps.length) (hef : ∀ m, entryFrame m argsL.toArray B'.ml = mkF m 0 ⟨L0⟩ []) (hsz : Ls.length = B.ml)
    (hf : Nat.ble (rm.frames + 1) R.frames = true) (hlo : Nat.ble ((rest.map fun v => v.category).sum + (B'.ml + 11) + rm.locals) R.locals = true) (hc : Nat.ble (cells + rm.cells) R.cells = true) (hs : Nat.ble (slots + rm.slots) R.slots = true) (hq : pc + 3 = q)
    (K : ∀ h', P h' → W l Z n0 R B Q h' (cells + rm.cells) (slots + rm.slots) q Ls rest) : W l Z n0 R B Q h cells slots pc Ls St :=
  W.callS hd wl wst wz wc hst w hp hy hpd ho hn hlen hef hsz hf hlo hc hs hq (fun v h' hQ => by obtain ⟨rfl, hP⟩ := hQ; exact K h' hP)
theorem W.callI_N {i : Nat} {y : MethodName} {B' : Bdy} {rm : Room} {P : Heap → Prop} {L0 : List Slot} {a : Addr} {argsL rest : List Value} {ps : List FieldType} {r : Option FieldType} (hd : decode B.bytes pc = .ok (.invokespecial i, 3)) (wl : (Cond.methodLink B.own i y).before a0 Z = true) (wst : (Cond.instanceMethod y).before a0 Z = true) (wz : (Cond.initialized y.cls).before a0 Z = true) (wc : (Cond.code y B'.bytes B'.ml B'.ret).before a0 Z = true)
    (hst : argsL.reverse ++ .ref a :: rest = St) (w : W l Z n0 rm B' (RN P) h 0 0 0 L0 []) (hp : plainFor y = true) (hy : y.cls ≠ "java/lang/invoke/MethodHandle" ∧ y.cls ≠ "java/lang/invoke/VarHandle") (hpd : parseMethodDescriptor y.desc = some ⟨ps, r⟩) (ho : B'.own = y.cls) (hn : B'.nm = y.name) (hlen : argsL.length = ps.length) (hef : ∀ m, entryFrame m (.ref a :: argsL).toArray B'.ml = mkF m 0 ⟨L0⟩ []) (hsz : Ls.length = B.ml)
    (hf : Nat.ble (rm.frames + 1) R.frames = true) (hlo : Nat.ble ((rest.map fun v => v.category).sum + (B'.ml + 11) + rm.locals) R.locals = true) (hc : Nat.ble (cells + rm.cells) R.cells = true) (hs : Nat.ble (slots + rm.slots) R.slots = true) (hret : B'.ret = none) (hin : y.name = "<init>") (hq : pc + 3 = q)
    (K : ∀ h', P h' → W l Z n0 R B Q h' (cells + rm.cells) (slots + rm.slots) q Ls rest) : W l Z n0 R B Q h cells slots pc Ls St :=
  W.callI hd wl wst wz wc hst w hp hy hpd ho hn hlen hef hsz hf hlo hc hs hret hin hq (fun v h' hQ => by obtain ⟨rfl, hP⟩ := hQ; exact K h' hP)
theorem W.callV_I {i : Nat} {y : MethodName} {C' : String} {B' : Bdy} {rm : Room} {P : Int32 → Heap → Prop} {L0 : List Slot} {a : Addr} {argsL rest : List Value} {ps : List FieldType} {r : Option FieldType} (hd : decode B.bytes pc = .ok (.invokevirtual i, 3)) (wl : (Cond.methodLink B.own i y).before a0 Z = true) (wd : (Cond.declares y).before a0 Z = true) (wsel : (Cond.selects C' y y).before a0 Z = true) (wst : (Cond.instanceMethod y).before a0 Z = true) (wz : (Cond.initialized y.cls).before a0 Z = true) (wc : (Cond.code y B'.bytes B'.ml B'.ret).before a0 Z = true)
    (hst : argsL.reverse ++ .ref a :: rest = St) (E : Exa Z h a C') (w : W l Z n0 rm B' (RI P) h 0 0 0 L0 []) (hp : plainFor y = true) (hy : y.cls ≠ "java/lang/invoke/MethodHandle" ∧ y.cls ≠ "java/lang/invoke/VarHandle") (hpd : parseMethodDescriptor y.desc = some ⟨ps, r⟩) (ho : B'.own = y.cls) (hn : B'.nm = y.name) (hlen : argsL.length = ps.length) (hef : ∀ m, entryFrame m (.ref a :: argsL).toArray B'.ml = mkF m 0 ⟨L0⟩ []) (hsz : Ls.length = B.ml)
    (hf : Nat.ble (rm.frames + 1) R.frames = true) (hlo : Nat.ble ((rest.map fun v => v.category).sum + (B'.ml + 11) + rm.locals) R.locals = true) (hc : Nat.ble (cells + rm.cells) R.cells = true) (hs : Nat.ble (slots + rm.slots) R.slots = true) (hq : pc + 3 = q)
    (K : ∀ (u : Int32) h', P u h' → W l Z n0 R B Q h' (cells + rm.cells) (slots + rm.slots) q Ls (.int u :: rest)) : W l Z n0 R B Q h cells slots pc Ls St :=
  W.callV hd wl wd wsel wst wz wc hst E w hp hy hpd ho hn hlen hef hsz hf hlo hc hs hq (fun v h' hQ => by obtain ⟨u, rfl, hP⟩ := hQ; exact K u h' hP)
theorem W.callV_J {i : Nat} {y : MethodName} {C' : String} {B' : Bdy} {rm : Room} {P : Int64 → Heap → Prop} {L0 : List Slot} {a : Addr} {argsL rest : List Value} {ps : List FieldType} {r : Option FieldType} (hd : decode B.bytes pc = .ok (.invokevirtual i, 3)) (wl : (Cond.methodLink B.own i y).before a0 Z = true) (wd : (Cond.declares y).before a0 Z = true) (wsel : (Cond.selects C' y y).before a0 Z = true) (wst : (Cond.instanceMethod y).before a0 Z = true) (wz : (Cond.initialized y.cls).before a0 Z = true) (wc : (Cond.code y B'.bytes B'.ml B'.ret).before a0 Z = true)
    (hst : argsL.reverse ++ .ref a :: rest = St) (E : Exa Z h a C') (w : W l Z n0 rm B' (RJ P) h 0 0 0 L0 []) (hp : plainFor y = true) (hy : y.cls ≠ "java/lang/invoke/MethodHandle" ∧ y.cls ≠ "java/lang/invoke/VarHandle") (hpd : parseMethodDescriptor y.desc = some ⟨ps, r⟩) (ho : B'.own = y.cls) (hn : B'.nm = y.name) (hlen : argsL.length = ps.length) (hef : ∀ m, entryFrame m (.ref a :: argsL).toArray B'.ml = mkF m 0 ⟨L0⟩ []) (hsz : Ls.length = B.ml)
    (hf : Nat.ble (rm.frames + 1) R.frames = true) (hlo : Nat.ble ((rest.map fun v => v.category).sum + (B'.ml + 11) + rm.locals) R.locals = true) (hc : Nat.ble (cells + rm.cells) R.cells = true) (hs : Nat.ble (slots + rm.slots) R.slots = true) (hq : pc + 3 = q)
    (K : ∀ (u : Int64) h', P u h' → W l Z n0 R B Q h' (cells + rm.cells) (slots + rm.slots) q Ls (.long u :: rest)) : W l Z n0 R B Q h cells slots pc Ls St :=
  W.callV hd wl wd wsel wst wz wc hst E w hp hy hpd ho hn hlen hef hsz hf hlo hc hs hq (fun v h' hQ => by obtain ⟨u, rfl, hP⟩ := hQ; exact K u h' hP)
theorem W.callV_A {i : Nat} {y : MethodName} {C' : String} {B' : Bdy} {rm : Room} {P : Value → Heap → Prop} {L0 : List Slot} {a : Addr} {argsL rest : List Value} {ps : List FieldType} {r : Option FieldType} (hd : decode B.bytes pc = .ok (.invokevirtual i, 3)) (wl : (Cond.methodLink B.own i y).before a0 Z = true) (wd : (Cond.declares y).before a0 Z = true) (wsel : (Cond.selects C' y y).before a0 Z = true) (wst : (Cond.instanceMethod y).before a0 Z = true) (wz : (Cond.initialized y.cls).before a0 Z = true) (wc : (Cond.code y B'.bytes B'.ml B'.ret).before a0 Z = true)
    (hst : argsL.reverse ++ .ref a :: rest = St) (E : Exa Z h a C') (w : W l Z n0 rm B' (RA P) h 0 0 0 L0 []) (hp : plainFor y = true) (hy : y.cls ≠ "java/lang/invoke/MethodHandle" ∧ y.cls ≠ "java/lang/invoke/VarHandle") (hpd : parseMethodDescriptor y.desc = some ⟨ps, r⟩) (ho : B'.own = y.cls) (hn : B'.nm = y.name) (hlen : argsL.length = ps.length) (hef : ∀ m, entryFrame m (.ref a :: argsL).toArray B'.ml = mkF m 0 ⟨L0⟩ []) (hsz : Ls.length = B.ml)
    (hf : Nat.ble (rm.frames + 1) R.frames = true) (hlo : Nat.ble ((rest.map fun v => v.category).sum + (B'.ml + 11) + rm.locals) R.locals = true) (hc : Nat.ble (cells + rm.cells) R.cells = true) (hs : Nat.ble (slots + rm.slots) R.slots = true) (hq : pc + 3 = q)
    (K : ∀ (u : Value) h', P u h' → W l Z n0 R B Q h' (cells + rm.cells) (slots + rm.slots) q Ls (u :: rest)) : W l Z n0 R B Q h cells slots pc Ls St :=
  W.callV hd wl wd wsel wst wz wc hst E w hp hy hpd ho hn hlen hef hsz hf hlo hc hs hq (fun v h' hQ => by obtain ⟨u, rfl, hP⟩ := hQ; exact K u h' hP)
theorem W.callV_N {i : Nat} {y : MethodName} {C' : String} {B' : Bdy} {rm : Room} {P : Heap → Prop} {L0 : List Slot} {a : Addr} {argsL rest : List Value} {ps : List FieldType} {r : Option FieldType} (hd : decode B.bytes pc = .ok (.invokevirtual i, 3)) (wl : (Cond.methodLink B.own i y).before a0 Z = true) (wd : (Cond.declares y).before a0 Z = true) (wsel : (Cond.selects C' y y).before a0 Z = true) (wst : (Cond.instanceMethod y).before a0 Z = true) (wz : (Cond.initialized y.cls).before a0 Z = true) (wc : (Cond.code y B'.bytes B'.ml B'.ret).before a0 Z = true)
    (hst : argsL.reverse ++ .ref a :: rest = St) (E : Exa Z h a C') (w : W l Z n0 rm B' (RN P) h 0 0 0 L0 []) (hp : plainFor y = true) (hy : y.cls ≠ "java/lang/invoke/MethodHandle" ∧ y.cls ≠ "java/lang/invoke/VarHandle") (hpd : parseMethodDescriptor y.desc = some ⟨ps, r⟩) (ho : B'.own = y.cls) (hn : B'.nm = y.name) (hlen : argsL.length = ps.length) (hef : ∀ m, entryFrame m (.ref a :: argsL).toArray B'.ml = mkF m 0 ⟨L0⟩ []) (hsz : Ls.length = B.ml)
    (hf : Nat.ble (rm.frames + 1) R.frames = true) (hlo : Nat.ble ((rest.map fun v => v.category).sum + (B'.ml + 11) + rm.locals) R.locals = true) (hc : Nat.ble (cells + rm.cells) R.cells = true) (hs : Nat.ble (slots + rm.slots) R.slots = true) (hq : pc + 3 = q)
    (K : ∀ h', P h' → W l Z n0 R B Q h' (cells + rm.cells) (slots + rm.slots) q Ls rest) : W l Z n0 R B Q h cells slots pc Ls St :=
  W.callV hd wl wd wsel wst wz wc hst E w hp hy hpd ho hn hlen hef hsz hf hlo hc hs hq (fun v h' hQ => by obtain ⟨rfl, hP⟩ := hQ; exact K h' hP)
theorem W.initO {i : Nat} {a : Addr} (hd : decode B.bytes pc = .ok (.invokespecial i, 3)) (w1 : (Cond.methodLink B.own i Lib.objectInit).before a0 Z = true) (w2 : (Cond.instanceMethod Lib.objectInit).before a0 Z = true) (w3 : (Cond.code Lib.objectInit ⟨#[0xb1]⟩ 1 none).before a0 Z = true) (hsz : Ls.length = B.ml) (hf : Nat.ble 1 R.frames = true) (hlo : Nat.ble ((St.map fun v => v.category).sum + 12) R.locals = true) (hq : pc + 3 = q)
    (K : W l Z n0 R B Q h cells slots q Ls St) : W l Z n0 R B Q h cells slots pc Ls (.ref a :: St) := by
  subst hq
  exact W.warm K (fun p e s m args below meth c T locs C X eT => RoadKit.initO X C.1 C.2.2.2.1 C.2.2.2.2.1 w1 w2 w3 eT (g := mkF m pc ⟨Ls⟩ (.ref a :: St)) rfl (by show Ls.toArray.size = _; rw [C.2.2.1]; simpa using hsz) rfl (hb C.2.1 hd) (Nat.le_of_ble_eq_true hf) (W := (St.map fun v => v.category).sum) (by show 2 * 0 + _ ≤ _; omega) (Nat.le_of_ble_eq_true hlo))
end Steps
/-! ### no instance: a class two steps under the root, and another class -/
theorem noUp {Z : State} {a0 : Array Value} {C S O K : String} {n : Nat} (w1 : (Cond.superclass C S).before a0 Z = true) (w2 : (Cond.superclass S O).before a0 Z = true) (w3 : (Cond.noSuperclass O).before a0 Z = true) (w4 : (Cond.instantiable K n).before a0 Z = true) (h1 : C ≠ K) (h2 : S ≠ K) (h3 : O ≠ K) : ∃ c t, Z.vm.findClass C = some c ∧ Z.vm.findClass K = some t ∧ Z.vm.assignable c t = false := by
  obtain ⟨t, kt, g1, g2, g3, g4, -⟩ := Cond.instantiable_spec w4
  obtain ⟨c, f1⟩ := found_sup w1
  obtain ⟨s, k1, k2, f2, f3, f4, f5, f6, -⟩ := Cond.superclass_spec f1 w1
  obtain ⟨o, k3, k4, f7, f8, f9, f10, -⟩ := Cond.superclass_spec f2 w2
  obtain ⟨o', k5, e1, e2, e3, -⟩ := Cond.noSuperclass_spec w3
  cases f7.symm.trans e1
  cases f4.symm.trans f8
  have n1 := ids_ne f1 g1 h1
  have n2 := ids_ne f2 g1 h2
  have n3 := ids_ne e1 g1 h3
  have q : ∀ fuel, Z.vm.isSubclassAux fuel c t = false := by
    intro fuel
    rcases fuel with _ | _ | _ | fuel <;> simp [Vm.isSubclassAux, n1, n2, n3, f3, f5, f4, f10, e2, e3]
  have g5 : kt.isInterface = false := by simp only [Bool.or_eq_false_iff] at g4; exact g4.1
  refine ⟨c, t, f1, g1, ?_⟩
  show Z.vm.assignableAux (255 + 1) c t = false
  simp [Vm.assignableAux, n1, f3, g2, f6, g3, g5, Vm.isSubclass, q]
/-! ### words of a case -/
theorem own_eqi {args : Array Value} {s : State} {t : Term} {z : Int32} (h : (Cond.eq t (.int z)).value args s none s [] = some true) : t.eval args s none [] s = some (.int z) := by
  obtain ⟨x, y, hx, hy, k1, k2⟩ := cmp_v (Or.inl h)
  cases (Term.int_eval (args := args) (first := s) (o := none) (idx := []) (s := s) z).symm.trans hy
  obtain ⟨z', rfl⟩ := k2
  have := gotT (Cond.eq_ints hx hy) h
  subst this
  exact hx
/-! ### numbers -/
theorem nat32 {k : Nat} (h : k < 2147483640) : (k.toInt32).toInt = k ∧ k.toInt32.toNatClampNeg = k ∧ ¬ k.toInt32 < 0 ∧ k.toInt32 + 1 = (k + 1).toInt32 := by
  have e : (k.toInt32).toInt = k := Int32.toInt_ofNat_of_lt (by omega)
  refine ⟨e, ?_, ?_, ?_⟩
  · show (k.toInt32).toInt.toNat = k
    omega
  · rw [Int32.lt_iff_toInt_lt, e]; simp
  · show Int32.ofNat k + 1 = Int32.ofNat (k + 1)
    rw [Int32.ofNat_add]; rfl
theorem ltb {a b : Nat} (h : Nat.blt a b = true) : a < b := Nat.le_of_ble_eq_true h
theorem leb {a b : Nat} (h : Nat.ble a b = true) : a ≤ b := Nat.le_of_ble_eq_true h
theorem mask31 (x : Int32) : (x &&& 2147483647).toInt = x.toInt % 2147483648 := by
  have h : ((x &&& 2147483647 : Int32)).toInt = (x.toBitVec &&& 2147483647#32).toInt := rfl
  rw [h, BitVec.toInt_eq_toNat_bmod, BitVec.toNat_and]
  have e1 : (x.toBitVec.toNat &&& (2147483647#32).toNat) = x.toBitVec.toNat % 2147483648 := by
    show x.toBitVec.toNat &&& (2 ^ 31 - 1) = x.toBitVec.toNat % 2 ^ 31
    exact Nat.and_two_pow_sub_one_eq_mod _ 31
  rw [e1]
  have e2 : x.toInt = (x.toBitVec.toNat : Int).bmod (2 ^ 32) := BitVec.toInt_eq_toNat_bmod _
  rw [e2]
  have e3 := Int.bmod_emod (x := (x.toBitVec.toNat : Int)) (m := 2 ^ 32)
  rw [Int.bmod_eq_of_le (by omega) (by omega)]
  omega
theorem rem31 (x k : Int32) (hk : 0 < k.toInt) : 0 ≤ ((x &&& 2147483647) % k).toInt ∧ ((x &&& 2147483647) % k).toInt < k.toInt := by
  have h := mask31 x
  rw [Int32.toInt_mod, Int.tmod_eq_emod_of_nonneg (by omega)]
  exact ⟨Int.emod_nonneg _ (by omega), Int.emod_lt_of_pos _ hk⟩
theorem lt32 {a b : Int32} : a < b ↔ a.toInt < b.toInt := Int32.lt_iff_toInt_lt
theorem eq32 {a b : Int32} : a = b ↔ a.toInt = b.toInt := Int32.toInt_inj.symm
theorem add32 {x y : Int32} (h1 : -2147483648 ≤ x.toInt + y.toInt) (h2 : x.toInt + y.toInt < 2147483648) : (x + y).toInt = x.toInt + y.toInt := by
  rw [Int32.toInt_add, Int.bmod_eq_of_le (by omega) (by omega)]
theorem sub32 {x y : Int32} (h1 : -2147483648 ≤ x.toInt - y.toInt) (h2 : x.toInt - y.toInt < 2147483648) : (x - y).toInt = x.toInt - y.toInt := by
  rw [Int32.toInt_sub, Int.bmod_eq_of_le (by omega) (by omega)]
theorem div32 {x y : Int32} (hx : 0 ≤ x.toInt) (hy : 0 < y.toInt) : (x / y).toInt = x.toInt / y.toInt := by
  rw [Int32.toInt_div, Int.tdiv_eq_ediv_of_nonneg hx, Int.bmod_eq_of_le]
  · have := Int.ediv_nonneg hx (Int.le_of_lt hy); omega
  · have h1 := Int.ediv_le_self y.toInt hx
    have h2 := x.toInt_lt
    omega
theorem maskk (x m : Int32) (k : Nat) (hk : k < 32) (hm : m.toBitVec.toNat = 2 ^ k - 1) : (x &&& m).toInt = x.toInt % 2 ^ k := by
  have h : (x &&& m).toInt = (x.toBitVec &&& m.toBitVec).toInt := rfl
  have hle : 2 ^ k ≤ 2 ^ 31 := Nat.pow_le_pow_right (by decide) (by omega)
  rw [h, BitVec.toInt_eq_toNat_bmod, BitVec.toNat_and, hm, Nat.and_two_pow_sub_one_eq_mod]
  have e2 : x.toInt = (x.toBitVec.toNat : Int).bmod (2 ^ 32) := BitVec.toInt_eq_toNat_bmod _
  have hlt := Nat.mod_lt x.toBitVec.toNat (Nat.two_pow_pos k)
  rw [e2, Int.bmod_eq_of_le (by omega) (by omega)]
  have hd : ((2 ^ k : Nat) : Int) ∣ ((2 ^ 32 : Nat) : Int) := Int.natCast_dvd_natCast.mpr (Nat.pow_dvd_pow 2 (by omega))
  have e3 : ((x.toBitVec.toNat : Int).bmod (2 ^ 32)) % ((2 ^ k : Nat) : Int) = (x.toBitVec.toNat : Int) % ((2 ^ k : Nat) : Int) := by
    have f1 := Int.emod_emod_of_dvd ((x.toBitVec.toNat : Int).bmod (2 ^ 32)) hd
    have f2 := Int.emod_emod_of_dvd (x.toBitVec.toNat : Int) hd
    rw [← f1, ← f2, Int.bmod_emod]
  have e4 : ((2 ^ k : Nat) : Int) = 2 ^ k := by simp
  rw [← e4, e3]; simp
end Jvm.OwnW
namespace Jvm.OwnW
open Sem ClassFile Op Lib Jvm.Stand Jvm.Free Jvm.LawKit Jvm.RoadKit
section StepsX
variable {l : Launch} {Z : State} {n0 : Nat} {R : Room} {B : Bdy} {Q : Option Value → Heap → Prop} {h : Heap} {cells slots pc q : Nat} {Ls Ls' : List Slot} {St St' : List Value} {a0 : Array Value}
theorem W.newarrayV {aty : ArrayType} {ty : FieldType} {n : Int32} {cap : Nat} {ad : String} (hd : decode B.bytes pc = .ok (.newarray aty, 2)) (hty : newarray.typeOf aty = ty) (had : "[" ++ ty.toString = ad) (w : (Cond.arrayClass ty).before a0 Z = true) (hn : ¬ n < 0) (hcap : n.toNatClampNeg ≤ cap) (hbig : cap * 8 ≤ 536870912) (hc : cells + 1 ≤ R.cells) (hl : slots + cap ≤ R.slots) (hq : pc + 2 = q)
    (K : ∀ h' k, Ext h h' → Arv Z h' h.size k ty n [] (defaultValue ty) → Exa Z h' h.size ad → W l Z n0 R B Q h' (cells + 1) (slots + cap) q Ls (.ref h.size :: St)) : W l Z n0 R B Q h cells slots pc Ls (.int n :: St) := by
  subst hq hty
  intro p e s m args below meth c T locs C X eT N _ _
  obtain ⟨T', h', cA, X', eT', E, A, Ex, st⟩ := newPE X C.1 C.2.2.2.1 w eT (g := mkF m pc ⟨Ls⟩ (.int n :: St)) rfl (hb C.2.1 hd) rfl hn hcap hbig hc hl had
  obtain ⟨s₂, v, L, h1, h2⟩ := K h' cA E (Arv.new A hn) Ex p e s m args below meth c T' locs C X' eT' N hc hl
  exact ⟨s₂, v, L, st _ h1, h2⟩
theorem W.anewarrayA {i : Nat} {ty : FieldType} {C' ad : String} {n : Int32} {cap : Nat} (hd : decode B.bytes pc = .ok (.anewarray i, 3)) (hC : (FieldType.array ty).toString = C') (had : "[" ++ C' = ad) (w1 : (Cond.classLink B.own i C').before a0 Z = true) (w2 : (Cond.arrayOver (.array ty)).before a0 Z = true) (hn : ¬ n < 0) (hcap : n.toNatClampNeg ≤ cap) (hbig : cap * 8 ≤ 536870912) (hc : cells + 1 ≤ R.cells) (hl : slots + cap ≤ R.slots) (hq : pc + 3 = q)
    (K : ∀ h' k, Ext h h' → Arv Z h' h.size k (.array ty) n [] .null → OvrA Z k ty C' → W l Z n0 R B Q h' (cells + 1) (slots + cap) q Ls (.ref h.size :: St)) : W l Z n0 R B Q h cells slots pc Ls (.int n :: St) := by
  subst hq
  intro p e s m args below meth c T locs C X eT N _ _
  obtain ⟨T', h', cA, X', eT', E, A, Ex, O, st⟩ := newRA X C.1 C.2.2.2.1 C.2.2.2.2.1 hC w1 w2 eT (g := mkF m pc ⟨Ls⟩ (.int n :: St)) rfl (hb C.2.1 hd) rfl hn hcap hbig hc hl had
  obtain ⟨s₂, v, L, h1, h2⟩ := K h' cA E (Arv.new A hn) O p e s m args below meth c T' locs C X' eT' N hc hl
  exact ⟨s₂, v, L, st _ h1, h2⟩
theorem W.baloadV {a : Addr} {k : ClassId} {z j v : Int32} {vs : List Value} {d : Value} (hd : decode B.bytes pc = .ok (.baload, 1)) (A : Arv Z h a k .byte z vs d) (h0 : ¬ j < 0 ∧ j < z) (hv : vs.getD j.toNatClampNeg d = .int v) (hq : pc + 1 = q) (K : W l Z n0 R B Q h cells slots q Ls (.int v :: St)) : W l Z n0 R B Q h cells slots pc Ls (.int j :: .ref a :: St) := by
  subst hq; obtain ⟨cl, A, -, S, -, H, -⟩ := A
  exact W.same K (fun p e s m args below meth c T locs C X eT t hr => X.baloadBytes (g := mkF m pc ⟨Ls⟩ (.int j :: .ref a :: St)) C.1 (by rw [eT]; exact A.1) (State.isArrayOf_alike C.2.2.2.1.alike A.2.1) A.2.2 (inb_of S h0) (H.at (inb_of S h0) hv) rfl rfl (hb C.2.1 hd) t hr)
theorem W.aaloadV {a : Addr} {k : ClassId} {ty : FieldType} {z j : Int32} {vs : List Value} {d v : Value} (hd : decode B.bytes pc = .ok (.aaload, 1)) (A : Arv Z h a k ty z vs d) (hty : ty.isReference = true) (h0 : ¬ j < 0 ∧ j < z) (hv : vs.getD j.toNatClampNeg d = v) (hq : pc + 1 = q) (K : W l Z n0 R B Q h cells slots q Ls (v :: St)) : W l Z n0 R B Q h cells slots pc Ls (.int j :: .ref a :: St) := by
  subst hq; obtain ⟨cl, A, -, S, -, H, -⟩ := A
  exact W.same K (fun p e s m args below meth c T locs C X eT t hr => X.aaload (g := mkF m pc ⟨Ls⟩ (.int j :: .ref a :: St)) C.1 (by rw [eT]; exact A.1) (State.isArrayOf_alike C.2.2.2.1.alike A.2.1) hty A.2.2 (inb_of S h0) (H.at (inb_of S h0) hv) rfl rfl (hb C.2.1 hd) t hr)
theorem W.arraylengthV {a : Addr} {k : ClassId} {ty : FieldType} {z : Int32} {vs : List Value} {d : Value} (hd : decode B.bytes pc = .ok (.arraylength, 1)) (A : Arv Z h a k ty z vs d) (hq : pc + 1 = q) (K : W l Z n0 R B Q h cells slots q Ls (.int z :: St)) : W l Z n0 R B Q h cells slots pc Ls (.ref a :: St) := by
  subst hq; obtain ⟨cl, A, -, S, hz, -, -⟩ := A
  rw [← len_of S hz] at K
  exact W.same K (fun p e s m args below meth c T locs C X eT t hr => X.arraylength (g := mkF m pc ⟨Ls⟩ (.ref a :: St)) C.1 (by rw [eT]; exact A.1) (State.isArrayOf_alike C.2.2.2.1.alike A.2.1) rfl rfl (hb C.2.1 hd) t hr)
theorem W.aastoreV {a y : Addr} {k : ClassId} {ty : FieldType} {z j : Int32} {vs : List Value} {d : Value} {C' : String} (hd : decode B.bytes pc = .ok (.aastore, 1)) (A : Arv Z h a k (.array ty) z vs d) (O : OvrA Z k ty C') (I : Ins Z h y C' true) (h0 : ¬ j < 0 ∧ j < z) (hi : j.toNatClampNeg < vs.length) (ha : n0 ≤ a) (hq : pc + 1 = q) (K : ∀ h', Wr h h' a j.toNatClampNeg (.ref y) → Arv Z h' a k (.array ty) z (vs.set j.toNatClampNeg (.ref y)) d → W l Z n0 R B Q h' cells slots q Ls St) : W l Z n0 R B Q h cells slots pc Ls (.ref y :: .int j :: .ref a :: St) := by
  subst hq; obtain ⟨cl, A, q1, S, hz, H, G⟩ := A
  exact W.wrote (fun p e s m args below meth c T locs C X eT => stR X (g := mkF m pc ⟨Ls⟩ (.ref y :: .int j :: .ref a :: St)) C.1 C.2.2.2.1 eT A (inb_of S h0) rfl (Sto.ofVA A q1 O I) rfl rfl (hb C.2.1 hd)) ha (fun h' w => K h' w (Arv.set A q1 S hz H G rfl w _ rfl hi))
theorem W.bastoreV {a : Addr} {k : ClassId} {z j x x' : Int32} {vs : List Value} {d : Value} (hd : decode B.bytes pc = .ok (.bastore, 1)) (A : Arv Z h a k .byte z vs d) (h0 : ¬ j < 0 ∧ j < z) (hi : j.toNatClampNeg < vs.length) (hx : x.toInt8.toInt32 = x') (ha : n0 ≤ a) (hq : pc + 1 = q) (K : ∀ h', Wr h h' a j.toNatClampNeg (.int x') → Arv Z h' a k .byte z (vs.set j.toNatClampNeg (.int x')) d → W l Z n0 R B Q h' cells slots q Ls St) : W l Z n0 R B Q h cells slots pc Ls (.int x :: .int j :: .ref a :: St) := by
  subst hq hx; obtain ⟨cl, A, q1, S, hz, H, G⟩ := A
  exact W.wrote (fun p e s m args below meth c T locs C X eT => stB X (g := mkF m pc ⟨Ls⟩ (.int x :: .int j :: .ref a :: St)) C.1 C.2.2.2.1 eT A (inb_of S h0) rfl rfl (hb C.2.1 hd)) ha (fun h' w => K h' w (Arv.set A q1 S hz H G (fits_nar_byte x) w _ rfl hi))
theorem W.arraycopy {i : Nat} {a b : Addr} {k k' : ClassId} {ty : FieldType} {z z' sp dp nn : Int32} {vs vd us : List Value} {dv dd : Value} (hd : decode B.bytes pc = .ok (.invokestatic i, 3)) (w1 : (Cond.methodLink B.own i Jvm.Stand.acN).before a0 Z = true) (w2 : (Cond.native Jvm.Stand.acN).before a0 Z = true) (w3 : (Cond.static Jvm.Stand.acN).before a0 Z = true) (w4 : (Cond.initialized "java/lang/System").before a0 Z = true)
    (A : Arv Z h a k ty z vs dv) (A' : Arv Z h b k' ty z' vd dd) (hty : refKind ty = false) (h1 : ¬ sp < 0) (h2 : ¬ dp < 0) (h3 : ¬ nn < 0) (h4 : sp.toNatClampNeg + nn.toNatClampNeg ≤ z.toNatClampNeg) (h5 : dp.toNatClampNeg + nn.toNatClampNeg ≤ z'.toNatClampNeg) (hus : us = (List.range nn.toNatClampNeg).map fun i => vs.getD (sp.toNatClampNeg + i) dv) (hl : dp.toNatClampNeg + nn.toNatClampNeg ≤ vd.length) (ge : n0 ≤ b)
    (hsz : Ls.length = B.ml) (hf : Nat.ble 1 R.frames = true) (hlo : Nat.ble ((St.map fun v => v.category).sum + 18) R.locals = true) (hq : pc + 3 = q) (K : ∀ h', Keep h h' [b] → Arv Z h' b k' ty z' (vd.take dp.toNatClampNeg ++ us ++ vd.drop (dp.toNatClampNeg + nn.toNatClampNeg)) dd → W l Z n0 R B Q h' cells slots q Ls St) : W l Z n0 R B Q h cells slots pc Ls (.int nn :: .int dp :: .ref b :: .int sp :: .ref a :: St) := by
  subst hq
  intro p e s m args below meth c T locs C X eT N hc hs
  obtain ⟨T', h', L, X', eT', N', Kp, Av, st⟩ := cpA X C.1 C.2.2.2.1 C.2.2.2.2.1 w1 w2 w3 w4 eT A A' (Or.inl ⟨rfl, hty⟩) h1 h2 h3 h4 h5 hus hl N ge (g := mkF m pc ⟨Ls⟩ (.int nn :: .int dp :: .ref b :: .int sp :: .ref a :: St)) rfl (by show Ls.toArray.size = _; rw [C.2.2.1]; simpa using hsz) rfl (hb C.2.1 hd) (Nat.le_of_ble_eq_true hf) (W := (St.map fun v => v.category).sum) (by show 2 * 0 + _ ≤ _; omega) (Nat.le_of_ble_eq_true hlo)
  obtain ⟨s₂, v, L₂, g1, g2⟩ := K h' Kp Av p e s m args below meth c T' L C X' eT' N' hc hs
  exact ⟨s₂, v, L₂, st _ g1, g2⟩
theorem W.lookupHit {dflt : Int} {pairs : Array (Int × Int)} {len : Nat} {k : Int32} {a off : Int} (hd : decode B.bytes pc = .ok (.lookupswitch dflt pairs, len)) (hso : (pairs.toList.zip (pairs.toList.drop 1)).all (fun (a, next) => a.1 < next.1) = true) (hfi : pairs.find? (·.1 == k.toInt) = some (a, off)) (ho : 0 ≤ (pc : Int) + off) (hq : ((pc : Int) + off).toNat = q) (K : W l Z n0 R B Q h cells slots q Ls St) : W l Z n0 R B Q h cells slots pc Ls (.int k :: St) := by
  subst hq; exact W.same K (fun p e s m args below meth c T locs C X eT t hr => X.lookupswitchHit C.1 (g := mkF m pc ⟨Ls⟩ (.int k :: St)) rfl rfl (hb C.2.1 hd) hso hfi ho t hr)
theorem W.callP {i kk : Nat} {y : MethodName} {B' : Bdy} {rm : Room} {Qc : Option Value → Heap → Prop} {L0 : List Slot} {a : Addr} {argsL rest : List Value} {ps : List FieldType} {r : Option FieldType} (hd : decode B.bytes pc = .ok (.invokevirtual i, 3)) (wl : (Cond.methodLink B.own i y).before a0 Z = true) (wst : (Cond.instanceMethod y).before a0 Z = true) (wp : (Cond.privateMethod y).before a0 Z = true) (wk : (Cond.instantiable y.cls kk).before a0 Z = true) (wz : (Cond.initialized y.cls).before a0 Z = true) (wc : (Cond.code y B'.bytes B'.ml B'.ret).before a0 Z = true)
    (hst : argsL.reverse ++ .ref a :: rest = St) (E : Exa Z h a y.cls) (w : W l Z n0 rm B' Qc h 0 0 0 L0 []) (hp : plainFor y = true) (hy : y.cls ≠ "java/lang/invoke/MethodHandle" ∧ y.cls ≠ "java/lang/invoke/VarHandle") (hpd : parseMethodDescriptor y.desc = some ⟨ps, r⟩) (ho : B'.own = y.cls) (hn : B'.nm = y.name) (hlen : argsL.length = ps.length) (hef : ∀ m, entryFrame m (.ref a :: argsL).toArray B'.ml = mkF m 0 ⟨L0⟩ []) (hsz : Ls.length = B.ml)
    (hf : Nat.ble (rm.frames + 1) R.frames = true) (hlo : Nat.ble ((rest.map fun v => v.category).sum + (B'.ml + 11) + rm.locals) R.locals = true) (hc : Nat.ble (cells + rm.cells) R.cells = true) (hs : Nat.ble (slots + rm.slots) R.slots = true) (hq : pc + 3 = q)
    (K : ∀ v h', Qc v h' → W l Z n0 R B Q h' (cells + rm.cells) (slots + rm.slots) q Ls (v.toList ++ rest)) : W l Z n0 R B Q h cells slots pc Ls St := by
  subst hq hst
  intro p e s m args below meth c T locs C X eT N _ _
  have hc' := Nat.le_of_ble_eq_true hc
  have hs' := Nat.le_of_ble_eq_true hs
  obtain ⟨cq, hcq, hcq'⟩ := E.cell
  have hpr : s.PrivateAt y := Cond.privateMethod_at (mvP C.2.2.2.1 wp (args := #[]))
  obtain ⟨c1, k1, g1, g2, g3, g4, -⟩ := Cond.instantiable_spec (mvT (args := args) C.2.2.2.1 wk)
  have g5 : k1.isInterface = false := by simp only [Bool.or_eq_false_iff] at g4; exact g4.1
  obtain ⟨v, vm₁, ⟨T', L', c', s'⟩, -, X', ⟨Lc, hQ, l', y', z'⟩, st⟩ := X.privateBack C.1 (y := y) C.2.2.2.2.1 (mvT C.2.2.2.1 wl) (mvT C.2.2.2.1 wst) (selects_self_of_private g1 g2 g5 hpr (mvT C.2.2.2.1 wst) hy) hpr (mvT C.2.2.2.1 wc) hy
    (backOf (W := (rest.map fun v => v.category).sum) (Q := fun v h L => Qc v h ∧ Fr n0 L) (met_of (ws := []) hp ho hn hef w) C.2.2.2.1 wc wz (Nat.le_of_ble_eq_true hf) (Nat.le_of_ble_eq_true hlo)) (g := mkF m pc ⟨Ls⟩ (argsL.reverse ++ .ref a :: rest)) rfl (by show Ls.toArray.size = _; rw [C.2.2.1]; simpa using hsz) (Steps.refl _) (a := a) (by rw [eT]; exact hcq) hcq' (argsL := argsL) (rest := rest) (lenOf hpd hlen) rfl (by show 2 * 0 + _ ≤ _; omega) (hb C.2.1 hd) (fun _ _ => ⟨rfl, eT, hc', hs'⟩)
  dsimp only [Pt.U, Pt.locs, Pt.cells, Pt.slots] at X' l' y' z' st hQ
  subst l' y' z'
  obtain ⟨s₂, v₂, L, h1, h2⟩ := K v T'.heap hQ.1 p e s m args below meth c T' _ C X' rfl (Fr.app N hQ.2) hc' hs'
  exact ⟨s₂, v₂, L, st.trans h1, h2⟩
theorem W.callP_I {i kk : Nat} {y : MethodName} {B' : Bdy} {rm : Room} {P : Int32 → Heap → Prop} {L0 : List Slot} {a : Addr} {argsL rest : List Value} {ps : List FieldType} {r : Option FieldType} (hd : decode B.bytes pc = .ok (.invokevirtual i, 3)) (wl : (Cond.methodLink B.own i y).before a0 Z = true) (wst : (Cond.instanceMethod y).before a0 Z = true) (wp : (Cond.privateMethod y).before a0 Z = true) (wk : (Cond.instantiable y.cls kk).before a0 Z = true) (wz : (Cond.initialized y.cls).before a0 Z = true) (wc : (Cond.code y B'.bytes B'.ml B'.ret).before a0 Z = true)
    (hst : argsL.reverse ++ .ref a :: rest = St) (E : Exa Z h a y.cls) (w : W l Z n0 rm B' (RI P) h 0 0 0 L0 []) (hp : plainFor y = true) (hy : y.cls ≠ "java/lang/invoke/MethodHandle" ∧ y.cls ≠ "java/lang/invoke/VarHandle") (hpd : parseMethodDescriptor y.desc = some ⟨ps, r⟩) (ho : B'.own = y.cls) (hn : B'.nm = y.name) (hlen : argsL.length = ps.length) (hef : ∀ m, entryFrame m (.ref a :: argsL).toArray B'.ml = mkF m 0 ⟨L0⟩ []) (hsz : Ls.length = B.ml)
    (hf : Nat.ble (rm.frames + 1) R.frames = true) (hlo : Nat.ble ((rest.map fun v => v.category).sum + (B'.ml + 11) + rm.locals) R.locals = true) (hc : Nat.ble (cells + rm.cells) R.cells = true) (hs : Nat.ble (slots + rm.slots) R.slots = true) (hq : pc + 3 = q)
    (K : ∀ (u : Int32) h', P u h' → W l Z n0 R B Q h' (cells + rm.cells) (slots + rm.slots) q Ls (.int u :: rest)) : W l Z n0 R B Q h cells slots pc Ls St :=
  W.callP hd wl wst wp wk wz wc hst E w hp hy hpd ho hn hlen hef hsz hf hlo hc hs hq (fun v h' hQ => by obtain ⟨u, rfl, hP⟩ := hQ; exact K u h' hP)
end StepsX
end Jvm.OwnW
namespace Jvm.Pilot.@@N@@
open Jvm Jvm.ClassFile Sem Op Lib Jvm.Free Jvm.Stand Jvm.LawKit Jvm.RoadKit Bundle Jvm.OwnW Jvm.Pilot.@@N@@.Jvm.D
abbrev B0 : Bdy := (x.cls, x.name, code, maxLocals, ret)
theorem own_pf0 : plainFor x = true := by first | exact plainFor_of_name (by first | (simp [plainName, overriddenIn, x]; done) | decide +kernel) | decide +kernel
abbrev B1 : Bdy := ("org/afterlog/internal/json/JsonLine", "<init>", prog_63_method_1_code, 1, none)
theorem d1_0 : decode prog_63_method_1_code 0 = .ok (.aload_n 0, 1) := by decide +kernel
theorem d1_1 : decode prog_63_method_1_code 1 = .ok (.invokespecial 3, 3) := by decide +kernel
theorem d1_4 : decode prog_63_method_1_code 4 = .ok (.aload_n 0, 1) := by decide +kernel
theorem d1_5 : decode prog_63_method_1_code 5 = .ok (.iconst 1, 1) := by decide +kernel
theorem d1_6 : decode prog_63_method_1_code 6 = .ok (.anewarray 9, 3) := by decide +kernel
theorem d1_9 : decode prog_63_method_1_code 9 = .ok (.putfield 11, 3) := by decide +kernel
theorem d1_12 : decode prog_63_method_1_code 12 = .ok (.return_, 1) := by decide +kernel
theorem own_pf1 : plainFor (⟨"org/afterlog/internal/json/JsonLine", "<init>", "()V"⟩ : MethodName) = true := by first | exact plainFor_of_name (by first | (simp [plainName, overriddenIn, x]; done) | decide +kernel) | decide +kernel
theorem own_pd1 : parseMethodDescriptor "()V" = some ⟨[], none⟩ := by decide +kernel
abbrev B2 : Bdy := ("java/lang/Object", "<init>", object_method_1_code, 1, none)
abbrev B3 : Bdy := ("org/afterlog/internal/json/JsonLine", "append", prog_63_method_6_code, 8, none)
theorem d3_0 : decode prog_63_method_6_code 0 = .ok (.iload_n 2, 1) := by decide +kernel
theorem d3_1 : decode prog_63_method_6_code 1 = .ok (.istore 4, 2) := by decide +kernel
theorem d3_3 : decode prog_63_method_6_code 3 = .ok (.iload_n 2, 1) := by decide +kernel
theorem d3_4 : decode prog_63_method_6_code 4 = .ok (.iload_n 3, 1) := by decide +kernel
theorem d3_5 : decode prog_63_method_6_code 5 = .ok (.iadd, 1) := by decide +kernel
theorem d3_6 : decode prog_63_method_6_code 6 = .ok (.istore 5, 2) := by decide +kernel
theorem d3_8 : decode prog_63_method_6_code 8 = .ok (.iload 4, 2) := by decide +kernel
theorem d3_10 : decode prog_63_method_6_code 10 = .ok (.iload 5, 2) := by decide +kernel
theorem d3_12 : decode prog_63_method_6_code 12 = .ok (.if_icmp .ge 131, 3) := by decide +kernel
theorem d3_15 : decode prog_63_method_6_code 15 = .ok (.aload_n 0, 1) := by decide +kernel
theorem d3_16 : decode prog_63_method_6_code 16 = .ok (.getfield 15, 3) := by decide +kernel
theorem d3_19 : decode prog_63_method_6_code 19 = .ok (.bipush 14, 2) := by decide +kernel
theorem d3_21 : decode prog_63_method_6_code 21 = .ok (.iushr, 1) := by decide +kernel
theorem d3_22 : decode prog_63_method_6_code 22 = .ok (.istore 6, 2) := by decide +kernel
theorem d3_24 : decode prog_63_method_6_code 24 = .ok (.iload 6, 2) := by decide +kernel
theorem d3_26 : decode prog_63_method_6_code 26 = .ok (.aload_n 0, 1) := by decide +kernel
theorem d3_27 : decode prog_63_method_6_code 27 = .ok (.getfield 11, 3) := by decide +kernel
theorem d3_30 : decode prog_63_method_6_code 30 = .ok (.arraylength, 1) := by decide +kernel
theorem d3_31 : decode prog_63_method_6_code 31 = .ok (.if_icmp .ne 24, 3) := by decide +kernel
theorem d3_55 : decode prog_63_method_6_code 55 = .ok (.aload_n 0, 1) := by decide +kernel
theorem d3_56 : decode prog_63_method_6_code 56 = .ok (.getfield 11, 3) := by decide +kernel
theorem d3_59 : decode prog_63_method_6_code 59 = .ok (.iload 6, 2) := by decide +kernel
theorem d3_61 : decode prog_63_method_6_code 61 = .ok (.aaload, 1) := by decide +kernel
theorem d3_62 : decode prog_63_method_6_code 62 = .ok (.ifnonnull 15, 3) := by decide +kernel
theorem d3_65 : decode prog_63_method_6_code 65 = .ok (.aload_n 0, 1) := by decide +kernel
theorem d3_66 : decode prog_63_method_6_code 66 = .ok (.getfield 11, 3) := by decide +kernel
theorem d3_69 : decode prog_63_method_6_code 69 = .ok (.iload 6, 2) := by decide +kernel
theorem d3_71 : decode prog_63_method_6_code 71 = .ok (.sipush 16384, 3) := by decide +kernel
theorem d3_74 : decode prog_63_method_6_code 74 = .ok (.newarray .byte, 2) := by decide +kernel
theorem d3_76 : decode prog_63_method_6_code 76 = .ok (.aastore, 1) := by decide +kernel
theorem d3_77 : decode prog_63_method_6_code 77 = .ok (.iload 5, 2) := by decide +kernel
theorem d3_79 : decode prog_63_method_6_code 79 = .ok (.iload 4, 2) := by decide +kernel
theorem d3_81 : decode prog_63_method_6_code 81 = .ok (.isub, 1) := by decide +kernel
theorem d3_82 : decode prog_63_method_6_code 82 = .ok (.sipush 16384, 3) := by decide +kernel
theorem d3_85 : decode prog_63_method_6_code 85 = .ok (.aload_n 0, 1) := by decide +kernel
theorem d3_86 : decode prog_63_method_6_code 86 = .ok (.getfield 15, 3) := by decide +kernel
theorem d3_89 : decode prog_63_method_6_code 89 = .ok (.sipush 16383, 3) := by decide +kernel
theorem d3_92 : decode prog_63_method_6_code 92 = .ok (.iand, 1) := by decide +kernel
theorem d3_93 : decode prog_63_method_6_code 93 = .ok (.isub, 1) := by decide +kernel
theorem d3_94 : decode prog_63_method_6_code 94 = .ok (.invokestatic 19, 3) := by decide +kernel
theorem d3_97 : decode prog_63_method_6_code 97 = .ok (.istore 7, 2) := by decide +kernel
theorem d3_99 : decode prog_63_method_6_code 99 = .ok (.aload_n 1, 1) := by decide +kernel
theorem d3_100 : decode prog_63_method_6_code 100 = .ok (.iload 4, 2) := by decide +kernel
theorem d3_102 : decode prog_63_method_6_code 102 = .ok (.aload_n 0, 1) := by decide +kernel
theorem d3_103 : decode prog_63_method_6_code 103 = .ok (.getfield 11, 3) := by decide +kernel
theorem d3_106 : decode prog_63_method_6_code 106 = .ok (.iload 6, 2) := by decide +kernel
theorem d3_108 : decode prog_63_method_6_code 108 = .ok (.aaload, 1) := by decide +kernel
theorem d3_109 : decode prog_63_method_6_code 109 = .ok (.aload_n 0, 1) := by decide +kernel
theorem d3_110 : decode prog_63_method_6_code 110 = .ok (.getfield 15, 3) := by decide +kernel
theorem d3_113 : decode prog_63_method_6_code 113 = .ok (.sipush 16383, 3) := by decide +kernel
theorem d3_116 : decode prog_63_method_6_code 116 = .ok (.iand, 1) := by decide +kernel
theorem d3_117 : decode prog_63_method_6_code 117 = .ok (.iload 7, 2) := by decide +kernel
theorem d3_119 : decode prog_63_method_6_code 119 = .ok (.invokestatic 25, 3) := by decide +kernel
theorem d3_122 : decode prog_63_method_6_code 122 = .ok (.iload 4, 2) := by decide +kernel
theorem d3_124 : decode prog_63_method_6_code 124 = .ok (.iload 7, 2) := by decide +kernel
theorem d3_126 : decode prog_63_method_6_code 126 = .ok (.iadd, 1) := by decide +kernel
theorem d3_127 : decode prog_63_method_6_code 127 = .ok (.istore 4, 2) := by decide +kernel
theorem d3_129 : decode prog_63_method_6_code 129 = .ok (.aload_n 0, 1) := by decide +kernel
theorem d3_130 : decode prog_63_method_6_code 130 = .ok (.dup, 1) := by decide +kernel
theorem d3_131 : decode prog_63_method_6_code 131 = .ok (.getfield 15, 3) := by decide +kernel
theorem d3_134 : decode prog_63_method_6_code 134 = .ok (.iload 7, 2) := by decide +kernel
theorem d3_136 : decode prog_63_method_6_code 136 = .ok (.iadd, 1) := by decide +kernel
theorem d3_137 : decode prog_63_method_6_code 137 = .ok (.putfield 15, 3) := by decide +kernel
theorem d3_140 : decode prog_63_method_6_code 140 = .ok (.goto (-132), 3) := by decide +kernel
theorem d3_143 : decode prog_63_method_6_code 143 = .ok (.return_, 1) := by decide +kernel
theorem own_pf3 : plainFor (⟨"org/afterlog/internal/json/JsonLine", "append", "([BII)V"⟩ : MethodName) = true := by first | exact plainFor_of_name (by first | (simp [plainName, overriddenIn, x]; done) | decide +kernel) | decide +kernel
theorem own_pd3 : parseMethodDescriptor "([BII)V" = some ⟨[(.array .byte), .int, .int], none⟩ := by decide +kernel
abbrev B4 : Bdy := ("java/lang/Math", "min", jdk_29_method_69_code, 2, (some .int))
theorem d4_0 : decode jdk_29_method_69_code 0 = .ok (.iload_n 0, 1) := by decide +kernel
theorem d4_1 : decode jdk_29_method_69_code 1 = .ok (.iload_n 1, 1) := by decide +kernel
theorem d4_2 : decode jdk_29_method_69_code 2 = .ok (.if_icmp .gt 7, 3) := by decide +kernel
theorem d4_5 : decode jdk_29_method_69_code 5 = .ok (.iload_n 0, 1) := by decide +kernel
theorem d4_6 : decode jdk_29_method_69_code 6 = .ok (.goto 4, 3) := by decide +kernel
theorem d4_9 : decode jdk_29_method_69_code 9 = .ok (.iload_n 1, 1) := by decide +kernel
theorem d4_10 : decode jdk_29_method_69_code 10 = .ok (.ireturn, 1) := by decide +kernel
theorem own_pf4 : plainFor (⟨"java/lang/Math", "min", "(II)I"⟩ : MethodName) = true := by first | exact plainFor_of_name (by first | (simp [plainName, overriddenIn, x]; done) | decide +kernel) | decide +kernel
theorem own_pd4 : parseMethodDescriptor "(II)I" = some ⟨[.int, .int], (some .int)⟩ := by decide +kernel
abbrev B5 : Bdy := ("org/afterlog/internal/json/JsonText", "<init>", prog_67_method_1_code, 1, none)
theorem d5_0 : decode prog_67_method_1_code 0 = .ok (.aload_n 0, 1) := by decide +kernel
theorem d5_1 : decode prog_67_method_1_code 1 = .ok (.invokespecial 1, 3) := by decide +kernel
theorem d5_4 : decode prog_67_method_1_code 4 = .ok (.return_, 1) := by decide +kernel
theorem own_pf5 : plainFor (⟨"org/afterlog/internal/json/JsonText", "<init>", "()V"⟩ : MethodName) = true := by first | exact plainFor_of_name (by first | (simp [plainName, overriddenIn, x]; done) | decide +kernel) | decide +kernel
theorem own_pd5 : parseMethodDescriptor "()V" = some ⟨[], none⟩ := by decide +kernel
abbrev B6 : Bdy := ("org/afterlog/internal/json/JsonText", "set", prog_67_method_2_code, 8, none)
theorem d6_0 : decode prog_67_method_2_code 0 = .ok (.aload_n 0, 1) := by decide +kernel
theorem d6_1 : decode prog_67_method_2_code 1 = .ok (.aload_n 1, 1) := by decide +kernel
theorem d6_2 : decode prog_67_method_2_code 2 = .ok (.putfield 7, 3) := by decide +kernel
theorem d6_5 : decode prog_67_method_2_code 5 = .ok (.aload_n 0, 1) := by decide +kernel
theorem d6_6 : decode prog_67_method_2_code 6 = .ok (.iload_n 2, 1) := by decide +kernel
theorem d6_7 : decode prog_67_method_2_code 7 = .ok (.putfield 13, 3) := by decide +kernel
theorem d6_10 : decode prog_67_method_2_code 10 = .ok (.aload_n 0, 1) := by decide +kernel
theorem d6_11 : decode prog_67_method_2_code 11 = .ok (.iload_n 3, 1) := by decide +kernel
theorem d6_12 : decode prog_67_method_2_code 12 = .ok (.putfield 17, 3) := by decide +kernel
theorem d6_15 : decode prog_67_method_2_code 15 = .ok (.aload_n 0, 1) := by decide +kernel
theorem d6_16 : decode prog_67_method_2_code 16 = .ok (.iload 4, 2) := by decide +kernel
theorem d6_18 : decode prog_67_method_2_code 18 = .ok (.putfield 20, 3) := by decide +kernel
theorem d6_21 : decode prog_67_method_2_code 21 = .ok (.aload_n 0, 1) := by decide +kernel
theorem d6_22 : decode prog_67_method_2_code 22 = .ok (.lload 5, 2) := by decide +kernel
theorem d6_24 : decode prog_67_method_2_code 24 = .ok (.putfield 24, 3) := by decide +kernel
theorem d6_27 : decode prog_67_method_2_code 27 = .ok (.aload_n 0, 1) := by decide +kernel
theorem d6_28 : decode prog_67_method_2_code 28 = .ok (.iload 7, 2) := by decide +kernel
theorem d6_30 : decode prog_67_method_2_code 30 = .ok (.putfield 28, 3) := by decide +kernel
theorem d6_33 : decode prog_67_method_2_code 33 = .ok (.return_, 1) := by decide +kernel
theorem own_pf6 : plainFor (⟨"org/afterlog/internal/json/JsonText", "set", "(Lorg/afterlog/internal/json/JsonLine;IIZJI)V"⟩ : MethodName) = true := by first | exact plainFor_of_name (by first | (simp [plainName, overriddenIn, x]; done) | decide +kernel) | decide +kernel
theorem own_pd6 : parseMethodDescriptor "(Lorg/afterlog/internal/json/JsonLine;IIZJI)V" = some ⟨[(.object "org/afterlog/internal/json/JsonLine"), .int, .int, .boolean, .long, .int], none⟩ := by decide +kernel
abbrev B7 : Bdy := ("org/afterlog/internal/json/JsonText", "length", prog_67_method_3_code, 1, (some .long))
theorem d7_0 : decode prog_67_method_3_code 0 = .ok (.aload_n 0, 1) := by decide +kernel
theorem d7_1 : decode prog_67_method_3_code 1 = .ok (.getfield 24, 3) := by decide +kernel
theorem d7_4 : decode prog_67_method_3_code 4 = .ok (.lreturn, 1) := by decide +kernel
theorem own_pf7 : plainFor (⟨"org/afterlog/internal/json/JsonText", "length", "()J"⟩ : MethodName) = true := by first | exact plainFor_of_name (by first | (simp [plainName, overriddenIn, x]; done) | decide +kernel) | decide +kernel
theorem own_pd7 : parseMethodDescriptor "()J" = some ⟨[], (some .long)⟩ := by decide +kernel
abbrev B8 : Bdy := ("org/afterlog/internal/json/JsonText", "unpaired", prog_67_method_4_code, 1, (some .int))
theorem d8_0 : decode prog_67_method_4_code 0 = .ok (.aload_n 0, 1) := by decide +kernel
theorem d8_1 : decode prog_67_method_4_code 1 = .ok (.getfield 28, 3) := by decide +kernel
theorem d8_4 : decode prog_67_method_4_code 4 = .ok (.ireturn, 1) := by decide +kernel
theorem own_pf8 : plainFor (⟨"org/afterlog/internal/json/JsonText", "unpaired", "()I"⟩ : MethodName) = true := by first | exact plainFor_of_name (by first | (simp [plainName, overriddenIn, x]; done) | decide +kernel) | decide +kernel
theorem own_pd8 : parseMethodDescriptor "()I" = some ⟨[], (some .int)⟩ := by decide +kernel
abbrev B9 : Bdy := ("org/afterlog/internal/json/JsonText", "isEmpty", prog_67_method_5_code, 1, (some .boolean))
theorem d9_0 : decode prog_67_method_5_code 0 = .ok (.aload_n 0, 1) := by decide +kernel
theorem d9_1 : decode prog_67_method_5_code 1 = .ok (.getfield 13, 3) := by decide +kernel
theorem d9_4 : decode prog_67_method_5_code 4 = .ok (.aload_n 0, 1) := by decide +kernel
theorem d9_5 : decode prog_67_method_5_code 5 = .ok (.getfield 17, 3) := by decide +kernel
theorem d9_8 : decode prog_67_method_5_code 8 = .ok (.if_icmp .ne 7, 3) := by decide +kernel
theorem d9_11 : decode prog_67_method_5_code 11 = .ok (.iconst 1, 1) := by decide +kernel
theorem d9_12 : decode prog_67_method_5_code 12 = .ok (.goto 4, 3) := by decide +kernel
theorem d9_15 : decode prog_67_method_5_code 15 = .ok (.iconst 0, 1) := by decide +kernel
theorem d9_16 : decode prog_67_method_5_code 16 = .ok (.ireturn, 1) := by decide +kernel
theorem own_pf9 : plainFor (⟨"org/afterlog/internal/json/JsonText", "isEmpty", "()Z"⟩ : MethodName) = true := by first | exact plainFor_of_name (by first | (simp [plainName, overriddenIn, x]; done) | decide +kernel) | decide +kernel
theorem own_pd9 : parseMethodDescriptor "()Z" = some ⟨[], (some .boolean)⟩ := by decide +kernel
abbrev B10 : Bdy := ("org/afterlog/internal/json/JsonText", "copyTo", prog_67_method_6_code, 3, (some .int))
theorem d10_0 : decode prog_67_method_6_code 0 = .ok (.aload_n 0, 1) := by decide +kernel
theorem d10_1 : decode prog_67_method_6_code 1 = .ok (.getfield 20, 3) := by decide +kernel
theorem d10_4 : decode prog_67_method_6_code 4 = .ok (.ifCond .eq 12, 3) := by decide +kernel
theorem d10_7 : decode prog_67_method_6_code 7 = .ok (.aload_n 0, 1) := by decide +kernel
theorem d10_8 : decode prog_67_method_6_code 8 = .ok (.aload_n 1, 1) := by decide +kernel
theorem d10_9 : decode prog_67_method_6_code 9 = .ok (.iload_n 2, 1) := by decide +kernel
theorem d10_10 : decode prog_67_method_6_code 10 = .ok (.invokevirtual 31, 3) := by decide +kernel
theorem d10_13 : decode prog_67_method_6_code 13 = .ok (.goto 20, 3) := by decide +kernel
theorem d10_16 : decode prog_67_method_6_code 16 = .ok (.aload_n 0, 1) := by decide +kernel
theorem d10_17 : decode prog_67_method_6_code 17 = .ok (.getfield 7, 3) := by decide +kernel
theorem d10_20 : decode prog_67_method_6_code 20 = .ok (.aload_n 0, 1) := by decide +kernel
theorem d10_21 : decode prog_67_method_6_code 21 = .ok (.getfield 13, 3) := by decide +kernel
theorem d10_24 : decode prog_67_method_6_code 24 = .ok (.aload_n 0, 1) := by decide +kernel
theorem d10_25 : decode prog_67_method_6_code 25 = .ok (.getfield 17, 3) := by decide +kernel
theorem d10_28 : decode prog_67_method_6_code 28 = .ok (.aload_n 1, 1) := by decide +kernel
theorem d10_29 : decode prog_67_method_6_code 29 = .ok (.iload_n 2, 1) := by decide +kernel
theorem d10_30 : decode prog_67_method_6_code 30 = .ok (.invokevirtual 35, 3) := by decide +kernel
theorem d10_33 : decode prog_67_method_6_code 33 = .ok (.ireturn, 1) := by decide +kernel
theorem own_pf10 : plainFor (⟨"org/afterlog/internal/json/JsonText", "copyTo", "([BI)I"⟩ : MethodName) = true := by first | exact plainFor_of_name (by first | (simp [plainName, overriddenIn, x]; done) | decide +kernel) | decide +kernel
theorem own_pd10 : parseMethodDescriptor "([BI)I" = some ⟨[(.array .byte), .int], (some .int)⟩ := by decide +kernel
abbrev B11 : Bdy := ("org/afterlog/internal/json/JsonLine", "copy", prog_63_method_4_code, 8, (some .int))
theorem d11_0 : decode prog_63_method_4_code 0 = .ok (.iload_n 1, 1) := by decide +kernel
theorem d11_1 : decode prog_63_method_4_code 1 = .ok (.istore 5, 2) := by decide +kernel
theorem d11_3 : decode prog_63_method_4_code 3 = .ok (.iload 4, 2) := by decide +kernel
theorem d11_5 : decode prog_63_method_4_code 5 = .ok (.istore 6, 2) := by decide +kernel
theorem d11_7 : decode prog_63_method_4_code 7 = .ok (.iload 5, 2) := by decide +kernel
theorem d11_9 : decode prog_63_method_4_code 9 = .ok (.iload_n 2, 1) := by decide +kernel
theorem d11_10 : decode prog_63_method_4_code 10 = .ok (.if_icmp .ge 63, 3) := by decide +kernel
theorem d11_13 : decode prog_63_method_4_code 13 = .ok (.iload_n 2, 1) := by decide +kernel
theorem d11_14 : decode prog_63_method_4_code 14 = .ok (.iload 5, 2) := by decide +kernel
theorem d11_16 : decode prog_63_method_4_code 16 = .ok (.isub, 1) := by decide +kernel
theorem d11_17 : decode prog_63_method_4_code 17 = .ok (.sipush 16384, 3) := by decide +kernel
theorem d11_20 : decode prog_63_method_4_code 20 = .ok (.iload 5, 2) := by decide +kernel
theorem d11_22 : decode prog_63_method_4_code 22 = .ok (.sipush 16383, 3) := by decide +kernel
theorem d11_25 : decode prog_63_method_4_code 25 = .ok (.iand, 1) := by decide +kernel
theorem d11_26 : decode prog_63_method_4_code 26 = .ok (.isub, 1) := by decide +kernel
theorem d11_27 : decode prog_63_method_4_code 27 = .ok (.invokestatic 19, 3) := by decide +kernel
theorem d11_30 : decode prog_63_method_4_code 30 = .ok (.istore 7, 2) := by decide +kernel
theorem d11_32 : decode prog_63_method_4_code 32 = .ok (.aload_n 0, 1) := by decide +kernel
theorem d11_33 : decode prog_63_method_4_code 33 = .ok (.getfield 11, 3) := by decide +kernel
theorem d11_36 : decode prog_63_method_4_code 36 = .ok (.iload 5, 2) := by decide +kernel
theorem d11_38 : decode prog_63_method_4_code 38 = .ok (.bipush 14, 2) := by decide +kernel
theorem d11_40 : decode prog_63_method_4_code 40 = .ok (.iushr, 1) := by decide +kernel
theorem d11_41 : decode prog_63_method_4_code 41 = .ok (.aaload, 1) := by decide +kernel
theorem d11_42 : decode prog_63_method_4_code 42 = .ok (.iload 5, 2) := by decide +kernel
theorem d11_44 : decode prog_63_method_4_code 44 = .ok (.sipush 16383, 3) := by decide +kernel
theorem d11_47 : decode prog_63_method_4_code 47 = .ok (.iand, 1) := by decide +kernel
theorem d11_48 : decode prog_63_method_4_code 48 = .ok (.aload_n 3, 1) := by decide +kernel
theorem d11_49 : decode prog_63_method_4_code 49 = .ok (.iload 6, 2) := by decide +kernel
theorem d11_51 : decode prog_63_method_4_code 51 = .ok (.iload 7, 2) := by decide +kernel
theorem d11_53 : decode prog_63_method_4_code 53 = .ok (.invokestatic 25, 3) := by decide +kernel
theorem d11_56 : decode prog_63_method_4_code 56 = .ok (.iload 5, 2) := by decide +kernel
theorem d11_58 : decode prog_63_method_4_code 58 = .ok (.iload 7, 2) := by decide +kernel
theorem d11_60 : decode prog_63_method_4_code 60 = .ok (.iadd, 1) := by decide +kernel
theorem d11_61 : decode prog_63_method_4_code 61 = .ok (.istore 5, 2) := by decide +kernel
theorem d11_63 : decode prog_63_method_4_code 63 = .ok (.iload 6, 2) := by decide +kernel
theorem d11_65 : decode prog_63_method_4_code 65 = .ok (.iload 7, 2) := by decide +kernel
theorem d11_67 : decode prog_63_method_4_code 67 = .ok (.iadd, 1) := by decide +kernel
theorem d11_68 : decode prog_63_method_4_code 68 = .ok (.istore 6, 2) := by decide +kernel
theorem d11_70 : decode prog_63_method_4_code 70 = .ok (.goto (-63), 3) := by decide +kernel
theorem d11_73 : decode prog_63_method_4_code 73 = .ok (.iload 6, 2) := by decide +kernel
theorem d11_75 : decode prog_63_method_4_code 75 = .ok (.ireturn, 1) := by decide +kernel
theorem own_pf11 : plainFor (⟨"org/afterlog/internal/json/JsonLine", "copy", "(II[BI)I"⟩ : MethodName) = true := by first | exact plainFor_of_name (by first | (simp [plainName, overriddenIn, x]; done) | decide +kernel) | decide +kernel
theorem own_pd11 : parseMethodDescriptor "(II[BI)I" = some ⟨[.int, .int, (.array .byte), .int], (some .int)⟩ := by decide +kernel
abbrev B12 : Bdy := ("org/afterlog/internal/json/JsonText", "copyDecoded", prog_67_method_7_code, 8, (some .int))
theorem d12_0 : decode prog_67_method_7_code 0 = .ok (.iload_n 2, 1) := by decide +kernel
theorem d12_1 : decode prog_67_method_7_code 1 = .ok (.istore_n 3, 1) := by decide +kernel
theorem d12_2 : decode prog_67_method_7_code 2 = .ok (.aload_n 0, 1) := by decide +kernel
theorem d12_3 : decode prog_67_method_7_code 3 = .ok (.getfield 13, 3) := by decide +kernel
theorem d12_6 : decode prog_67_method_7_code 6 = .ok (.istore 4, 2) := by decide +kernel
theorem d12_8 : decode prog_67_method_7_code 8 = .ok (.iload 4, 2) := by decide +kernel
theorem d12_10 : decode prog_67_method_7_code 10 = .ok (.aload_n 0, 1) := by decide +kernel
theorem d12_11 : decode prog_67_method_7_code 11 = .ok (.getfield 17, 3) := by decide +kernel
theorem d12_14 : decode prog_67_method_7_code 14 = .ok (.if_icmp .ge 119, 3) := by decide +kernel
theorem d12_17 : decode prog_67_method_7_code 17 = .ok (.aload_n 0, 1) := by decide +kernel
theorem d12_18 : decode prog_67_method_7_code 18 = .ok (.iload 4, 2) := by decide +kernel
theorem d12_20 : decode prog_67_method_7_code 20 = .ok (.invokevirtual 41, 3) := by decide +kernel
theorem d12_23 : decode prog_67_method_7_code 23 = .ok (.istore 5, 2) := by decide +kernel
theorem d12_25 : decode prog_67_method_7_code 25 = .ok (.aload_n 0, 1) := by decide +kernel
theorem d12_26 : decode prog_67_method_7_code 26 = .ok (.getfield 7, 3) := by decide +kernel
theorem d12_29 : decode prog_67_method_7_code 29 = .ok (.iload 4, 2) := by decide +kernel
theorem d12_31 : decode prog_67_method_7_code 31 = .ok (.iload 5, 2) := by decide +kernel
theorem d12_33 : decode prog_67_method_7_code 33 = .ok (.aload_n 1, 1) := by decide +kernel
theorem d12_34 : decode prog_67_method_7_code 34 = .ok (.iload_n 3, 1) := by decide +kernel
theorem d12_35 : decode prog_67_method_7_code 35 = .ok (.invokevirtual 35, 3) := by decide +kernel
theorem d12_38 : decode prog_67_method_7_code 38 = .ok (.istore_n 3, 1) := by decide +kernel
theorem d12_39 : decode prog_67_method_7_code 39 = .ok (.iload 5, 2) := by decide +kernel
theorem d12_41 : decode prog_67_method_7_code 41 = .ok (.istore 4, 2) := by decide +kernel
theorem d12_43 : decode prog_67_method_7_code 43 = .ok (.iload 4, 2) := by decide +kernel
theorem d12_45 : decode prog_67_method_7_code 45 = .ok (.aload_n 0, 1) := by decide +kernel
theorem d12_46 : decode prog_67_method_7_code 46 = .ok (.getfield 17, 3) := by decide +kernel
theorem d12_49 : decode prog_67_method_7_code 49 = .ok (.if_icmp .ge 81, 3) := by decide +kernel
theorem d12_52 : decode prog_67_method_7_code 52 = .ok (.aload_n 0, 1) := by decide +kernel
theorem d12_53 : decode prog_67_method_7_code 53 = .ok (.getfield 7, 3) := by decide +kernel
theorem d12_56 : decode prog_67_method_7_code 56 = .ok (.iload 4, 2) := by decide +kernel
theorem d12_58 : decode prog_67_method_7_code 58 = .ok (.invokestatic 45, 3) := by decide +kernel
theorem d12_61 : decode prog_67_method_7_code 61 = .ok (.istore 6, 2) := by decide +kernel
theorem d12_63 : decode prog_67_method_7_code 63 = .ok (.iload 4, 2) := by decide +kernel
theorem d12_65 : decode prog_67_method_7_code 65 = .ok (.aload_n 0, 1) := by decide +kernel
theorem d12_66 : decode prog_67_method_7_code 66 = .ok (.getfield 7, 3) := by decide +kernel
theorem d12_69 : decode prog_67_method_7_code 69 = .ok (.iload 4, 2) := by decide +kernel
theorem d12_71 : decode prog_67_method_7_code 71 = .ok (.invokestatic 49, 3) := by decide +kernel
theorem d12_74 : decode prog_67_method_7_code 74 = .ok (.iadd, 1) := by decide +kernel
theorem d12_75 : decode prog_67_method_7_code 75 = .ok (.istore 4, 2) := by decide +kernel
theorem d12_77 : decode prog_67_method_7_code 77 = .ok (.iload 6, 2) := by decide +kernel
theorem d12_79 : decode prog_67_method_7_code 79 = .ok (.istore 7, 2) := by decide +kernel
theorem d12_81 : decode prog_67_method_7_code 81 = .ok (.iload 6, 2) := by decide +kernel
theorem d12_83 : decode prog_67_method_7_code 83 = .ok (.i2c, 1) := by decide +kernel
theorem d12_84 : decode prog_67_method_7_code 84 = .ok (.invokestatic 52, 3) := by decide +kernel
theorem d12_87 : decode prog_67_method_7_code 87 = .ok (.ifCond .eq 35, 3) := by decide +kernel
theorem d12_122 : decode prog_67_method_7_code 122 = .ok (.aload_n 1, 1) := by decide +kernel
theorem d12_123 : decode prog_67_method_7_code 123 = .ok (.iload_n 3, 1) := by decide +kernel
theorem d12_124 : decode prog_67_method_7_code 124 = .ok (.iload 7, 2) := by decide +kernel
theorem d12_126 : decode prog_67_method_7_code 126 = .ok (.invokestatic 62, 3) := by decide +kernel
theorem d12_129 : decode prog_67_method_7_code 129 = .ok (.istore_n 3, 1) := by decide +kernel
theorem d12_130 : decode prog_67_method_7_code 130 = .ok (.goto (-122), 3) := by decide +kernel
theorem d12_133 : decode prog_67_method_7_code 133 = .ok (.iload_n 3, 1) := by decide +kernel
theorem d12_134 : decode prog_67_method_7_code 134 = .ok (.ireturn, 1) := by decide +kernel
theorem own_pf12 : plainFor (⟨"org/afterlog/internal/json/JsonText", "copyDecoded", "([BI)I"⟩ : MethodName) = true := by first | exact plainFor_of_name (by first | (simp [plainName, overriddenIn, x]; done) | decide +kernel) | decide +kernel
theorem own_pd12 : parseMethodDescriptor "([BI)I" = some ⟨[(.array .byte), .int], (some .int)⟩ := by decide +kernel
abbrev B13 : Bdy := ("org/afterlog/internal/json/JsonText", "plainEnd", prog_67_method_10_code, 3, (some .int))
theorem d13_0 : decode prog_67_method_10_code 0 = .ok (.iload_n 1, 1) := by decide +kernel
theorem d13_1 : decode prog_67_method_10_code 1 = .ok (.istore_n 2, 1) := by decide +kernel
theorem d13_2 : decode prog_67_method_10_code 2 = .ok (.iload_n 2, 1) := by decide +kernel
theorem d13_3 : decode prog_67_method_10_code 3 = .ok (.aload_n 0, 1) := by decide +kernel
theorem d13_4 : decode prog_67_method_10_code 4 = .ok (.getfield 17, 3) := by decide +kernel
theorem d13_7 : decode prog_67_method_10_code 7 = .ok (.if_icmp .ge 22, 3) := by decide +kernel
theorem d13_10 : decode prog_67_method_10_code 10 = .ok (.aload_n 0, 1) := by decide +kernel
theorem d13_11 : decode prog_67_method_10_code 11 = .ok (.getfield 7, 3) := by decide +kernel
theorem d13_14 : decode prog_67_method_10_code 14 = .ok (.iload_n 2, 1) := by decide +kernel
theorem d13_15 : decode prog_67_method_10_code 15 = .ok (.invokevirtual 81, 3) := by decide +kernel
theorem d13_18 : decode prog_67_method_10_code 18 = .ok (.bipush 92, 2) := by decide +kernel
theorem d13_20 : decode prog_67_method_10_code 20 = .ok (.if_icmp .eq 9, 3) := by decide +kernel
theorem d13_23 : decode prog_67_method_10_code 23 = .ok (.iinc 2 1, 3) := by decide +kernel
theorem d13_26 : decode prog_67_method_10_code 26 = .ok (.goto (-24), 3) := by decide +kernel
theorem d13_29 : decode prog_67_method_10_code 29 = .ok (.iload_n 2, 1) := by decide +kernel
theorem d13_30 : decode prog_67_method_10_code 30 = .ok (.ireturn, 1) := by decide +kernel
theorem own_pf13 : plainFor (⟨"org/afterlog/internal/json/JsonText", "plainEnd", "(I)I"⟩ : MethodName) = true := by first | exact plainFor_of_name (by first | (simp [plainName, overriddenIn, x]; done) | decide +kernel) | decide +kernel
theorem own_pd13 : parseMethodDescriptor "(I)I" = some ⟨[.int], (some .int)⟩ := by decide +kernel
abbrev B14 : Bdy := ("org/afterlog/internal/json/JsonLine", "byteAt", prog_63_method_3_code, 2, (some .byte))
theorem d14_0 : decode prog_63_method_3_code 0 = .ok (.aload_n 0, 1) := by decide +kernel
theorem d14_1 : decode prog_63_method_3_code 1 = .ok (.getfield 11, 3) := by decide +kernel
theorem d14_4 : decode prog_63_method_3_code 4 = .ok (.iload_n 1, 1) := by decide +kernel
theorem d14_5 : decode prog_63_method_3_code 5 = .ok (.bipush 14, 2) := by decide +kernel
theorem d14_7 : decode prog_63_method_3_code 7 = .ok (.iushr, 1) := by decide +kernel
theorem d14_8 : decode prog_63_method_3_code 8 = .ok (.aaload, 1) := by decide +kernel
theorem d14_9 : decode prog_63_method_3_code 9 = .ok (.iload_n 1, 1) := by decide +kernel
theorem d14_10 : decode prog_63_method_3_code 10 = .ok (.sipush 16383, 3) := by decide +kernel
theorem d14_13 : decode prog_63_method_3_code 13 = .ok (.iand, 1) := by decide +kernel
theorem d14_14 : decode prog_63_method_3_code 14 = .ok (.baload, 1) := by decide +kernel
theorem d14_15 : decode prog_63_method_3_code 15 = .ok (.ireturn, 1) := by decide +kernel
theorem own_pf14 : plainFor (⟨"org/afterlog/internal/json/JsonLine", "byteAt", "(I)B"⟩ : MethodName) = true := by first | exact plainFor_of_name (by first | (simp [plainName, overriddenIn, x]; done) | decide +kernel) | decide +kernel
theorem own_pd14 : parseMethodDescriptor "(I)B" = some ⟨[.int], (some .byte)⟩ := by decide +kernel
abbrev B15 : Bdy := ("org/afterlog/internal/json/JsonText", "escape", prog_67_method_11_code, 4, (some .int))
theorem d15_0 : decode prog_67_method_11_code 0 = .ok (.aload_n 0, 1) := by decide +kernel
theorem d15_1 : decode prog_67_method_11_code 1 = .ok (.iload_n 1, 1) := by decide +kernel
theorem d15_2 : decode prog_67_method_11_code 2 = .ok (.iconst 1, 1) := by decide +kernel
theorem d15_3 : decode prog_67_method_11_code 3 = .ok (.iadd, 1) := by decide +kernel
theorem d15_4 : decode prog_67_method_11_code 4 = .ok (.invokevirtual 81, 3) := by decide +kernel
theorem d15_7 : decode prog_67_method_11_code 7 = .ok (.istore_n 2, 1) := by decide +kernel
theorem d15_8 : decode prog_67_method_11_code 8 = .ok (.iload_n 2, 1) := by decide +kernel
theorem d15_9 : decode prog_67_method_11_code 9 = .ok (.lookupswitch 129 #[(34, 83), (47, 83), (92, 83), (98, 88), (102, 94), (110, 100), (114, 106), (116, 112), (117, 118)], 83) := by decide +kernel
theorem d15_109 : decode prog_67_method_11_code 109 = .ok (.bipush 10, 2) := by decide +kernel
theorem d15_111 : decode prog_67_method_11_code 111 = .ok (.istore_n 3, 1) := by decide +kernel
theorem d15_112 : decode prog_67_method_11_code 112 = .ok (.goto 28, 3) := by decide +kernel
theorem d15_140 : decode prog_67_method_11_code 140 = .ok (.iload_n 3, 1) := by decide +kernel
theorem d15_141 : decode prog_67_method_11_code 141 = .ok (.ireturn, 1) := by decide +kernel
theorem own_pf15 : plainFor (⟨"org/afterlog/internal/json/JsonText", "escape", "(Lorg/afterlog/internal/json/JsonLine;I)I"⟩ : MethodName) = true := by first | exact plainFor_of_name (by first | (simp [plainName, overriddenIn, x]; done) | decide +kernel) | decide +kernel
theorem own_pd15 : parseMethodDescriptor "(Lorg/afterlog/internal/json/JsonLine;I)I" = some ⟨[(.object "org/afterlog/internal/json/JsonLine"), .int], (some .int)⟩ := by decide +kernel
abbrev B16 : Bdy := ("org/afterlog/internal/json/JsonText", "escapeLength", prog_67_method_12_code, 2, (some .int))
theorem d16_0 : decode prog_67_method_12_code 0 = .ok (.aload_n 0, 1) := by decide +kernel
theorem d16_1 : decode prog_67_method_12_code 1 = .ok (.iload_n 1, 1) := by decide +kernel
theorem d16_2 : decode prog_67_method_12_code 2 = .ok (.iconst 1, 1) := by decide +kernel
theorem d16_3 : decode prog_67_method_12_code 3 = .ok (.iadd, 1) := by decide +kernel
theorem d16_4 : decode prog_67_method_12_code 4 = .ok (.invokevirtual 81, 3) := by decide +kernel
theorem d16_7 : decode prog_67_method_12_code 7 = .ok (.bipush 117, 2) := by decide +kernel
theorem d16_9 : decode prog_67_method_12_code 9 = .ok (.if_icmp .ne 8, 3) := by decide +kernel
theorem d16_17 : decode prog_67_method_12_code 17 = .ok (.iconst 2, 1) := by decide +kernel
theorem d16_18 : decode prog_67_method_12_code 18 = .ok (.ireturn, 1) := by decide +kernel
theorem own_pf16 : plainFor (⟨"org/afterlog/internal/json/JsonText", "escapeLength", "(Lorg/afterlog/internal/json/JsonLine;I)I"⟩ : MethodName) = true := by first | exact plainFor_of_name (by first | (simp [plainName, overriddenIn, x]; done) | decide +kernel) | decide +kernel
theorem own_pd16 : parseMethodDescriptor "(Lorg/afterlog/internal/json/JsonLine;I)I" = some ⟨[(.object "org/afterlog/internal/json/JsonLine"), .int], (some .int)⟩ := by decide +kernel
abbrev B17 : Bdy := ("java/lang/Character", "isHighSurrogate", jdk_89_method_14_code, 1, (some .boolean))
theorem d17_0 : decode jdk_89_method_14_code 0 = .ok (.iload_n 0, 1) := by decide +kernel
theorem d17_1 : decode jdk_89_method_14_code 1 = .ok (.ldc 75, 2) := by decide +kernel
theorem d17_3 : decode jdk_89_method_14_code 3 = .ok (.if_icmp .lt 13, 3) := by decide +kernel
theorem d17_16 : decode jdk_89_method_14_code 16 = .ok (.iconst 0, 1) := by decide +kernel
theorem d17_17 : decode jdk_89_method_14_code 17 = .ok (.ireturn, 1) := by decide +kernel
theorem own_pf17 : plainFor (⟨"java/lang/Character", "isHighSurrogate", "(C)Z"⟩ : MethodName) = true := by first | exact plainFor_of_name (by first | (simp [plainName, overriddenIn, x]; done) | decide +kernel) | decide +kernel
theorem own_pd17 : parseMethodDescriptor "(C)Z" = some ⟨[.char], (some .boolean)⟩ := by decide +kernel
abbrev B18 : Bdy := ("org/afterlog/internal/json/JsonString", "utf8", prog_66_method_4_code, 4, (some .int))
theorem d18_0 : decode prog_66_method_4_code 0 = .ok (.iload_n 1, 1) := by decide +kernel
theorem d18_1 : decode prog_66_method_4_code 1 = .ok (.istore_n 3, 1) := by decide +kernel
theorem d18_2 : decode prog_66_method_4_code 2 = .ok (.iload_n 2, 1) := by decide +kernel
theorem d18_3 : decode prog_66_method_4_code 3 = .ok (.sipush 128, 3) := by decide +kernel
theorem d18_6 : decode prog_66_method_4_code 6 = .ok (.if_icmp .ge 14, 3) := by decide +kernel
theorem d18_9 : decode prog_66_method_4_code 9 = .ok (.aload_n 0, 1) := by decide +kernel
theorem d18_10 : decode prog_66_method_4_code 10 = .ok (.iload_n 3, 1) := by decide +kernel
theorem d18_11 : decode prog_66_method_4_code 11 = .ok (.iinc 3 1, 3) := by decide +kernel
theorem d18_14 : decode prog_66_method_4_code 14 = .ok (.iload_n 2, 1) := by decide +kernel
theorem d18_15 : decode prog_66_method_4_code 15 = .ok (.i2b, 1) := by decide +kernel
theorem d18_16 : decode prog_66_method_4_code 16 = .ok (.bastore, 1) := by decide +kernel
theorem d18_17 : decode prog_66_method_4_code 17 = .ok (.goto 166, 3) := by decide +kernel
theorem d18_183 : decode prog_66_method_4_code 183 = .ok (.iload_n 3, 1) := by decide +kernel
theorem d18_184 : decode prog_66_method_4_code 184 = .ok (.ireturn, 1) := by decide +kernel
theorem own_pf18 : plainFor (⟨"org/afterlog/internal/json/JsonString", "utf8", "([BII)I"⟩ : MethodName) = true := by first | exact plainFor_of_name (by first | (simp [plainName, overriddenIn, x]; done) | decide +kernel) | decide +kernel
theorem own_pd18 : parseMethodDescriptor "([BII)I" = some ⟨[(.array .byte), .int, .int], (some .int)⟩ := by decide +kernel
theorem own_cb_10 : (Int8.ofInt (10)).toInt32 = (10 : Int32) := by decide
theorem own_cb_110 : (Int8.ofInt (110)).toInt32 = (110 : Int32) := by decide
theorem own_cb_117 : (Int8.ofInt (117)).toInt32 = (117 : Int32) := by decide
theorem own_cb_14 : (Int8.ofInt (14)).toInt32 = (14 : Int32) := by decide
theorem own_cb_16 : (Int8.ofInt (16)).toInt32 = (16 : Int32) := by decide
theorem own_cb_24 : (Int8.ofInt (24)).toInt32 = (24 : Int32) := by decide
theorem own_cb_25 : (Int8.ofInt (25)).toInt32 = (25 : Int32) := by decide
theorem own_cb_63 : (Int8.ofInt (63)).toInt32 = (63 : Int32) := by decide
theorem own_cb_8 : (Int8.ofInt (8)).toInt32 = (8 : Int32) := by decide
theorem own_cb_92 : (Int8.ofInt (92)).toInt32 = (92 : Int32) := by decide
theorem own_ci_0 : Int32.ofInt (0) = (0 : Int32) := by decide
theorem own_ci_1 : Int32.ofInt (1) = (1 : Int32) := by decide
theorem own_ci_2 : Int32.ofInt (2) = (2 : Int32) := by decide
theorem own_ci_3 : Int32.ofInt (3) = (3 : Int32) := by decide
theorem own_ci_4 : Int32.ofInt (4) = (4 : Int32) := by decide
theorem own_cs_128 : (Int16.ofInt (128)).toInt32 = (128 : Int32) := by decide
theorem own_cs_16383 : (Int16.ofInt (16383)).toInt32 = (16383 : Int32) := by decide
theorem own_cs_16384 : (Int16.ofInt (16384)).toInt32 = (16384 : Int32) := by decide
abbrev own_JL : String := "org/afterlog/internal/json/JsonLine"
abbrev own_JT : String := "org/afterlog/internal/json/JsonText"
def own_bi (b : Bool) : Int32 := if b then 1 else 0
theorem own_bi0 (b : Bool) : own_bi b = 0 ↔ b = false := by cases b <;> decide
theorem own_nar (b : Bool) : nar .boolean (own_bi b) = own_bi b := by cases b <;> decide
abbrev own_min (x y : Int32) : Int32 := if y < x then y else x
def own_Ln (Z : State) (h : Heap) (ln p : Addr) (n : Int32) : Prop := Exa Z h ln own_JL ∧ Fld Z h ln own_JL "pieces" "[[B" (.ref p) ∧ Fld Z h ln own_JL "length" "I" (.int n)
def own_L (Z : State) (h : Heap) (ln p g : Addr) (kp kg : ClassId) (n : Int32) (vs : List Value) : Prop := own_Ln Z h ln p n ∧ Arv Z h p kp (.array .byte) 1 [.ref g] .null ∧ Arv Z h g kg .byte 16384 vs (.int 0)
theorem own_Ln.ext {Z : State} {h h' : Heap} {ln p : Addr} {n : Int32} (F : own_Ln Z h ln p n) (E : Ext h h') : own_Ln Z h' ln p n := ⟨F.1.ext E, F.2.1.ext E, F.2.2.ext E⟩
theorem own_Ln.keep {Z : State} {h h' : Heap} {ln p : Addr} {n : Int32} {ws : List Addr} (F : own_Ln Z h ln p n) (K : Keep h h' ws) (q : ln ∉ ws) : own_Ln Z h' ln p n := ⟨F.1.keep K, F.2.1.keep K q, F.2.2.keep K q⟩
theorem own_L.ext {Z : State} {h h' : Heap} {ln p g : Addr} {kp kg : ClassId} {n : Int32} {vs : List Value} (F : own_L Z h ln p g kp kg n vs) (E : Ext h h') : own_L Z h' ln p g kp kg n vs := ⟨F.1.ext E, F.2.1.ext E, F.2.2.ext E⟩
theorem own_L.keep {Z : State} {h h' : Heap} {ln p g : Addr} {kp kg : ClassId} {n : Int32} {vs : List Value} {ws : List Addr} (F : own_L Z h ln p g kp kg n vs) (K : Keep h h' ws) (q : ln ∉ ws ∧ p ∉ ws ∧ g ∉ ws) : own_L Z h' ln p g kp kg n vs := ⟨F.1.keep K q.1, F.2.1.keep K q.2.1, F.2.2.keep K q.2.2⟩
def own_T (Z : State) (h : Heap) (tx : Addr) (lv : Value) (f t e : Int32) (n : Int64) (u : Int32) : Prop := Exa Z h tx own_JT ∧ Fld Z h tx own_JT "line" "Lorg/afterlog/internal/json/JsonLine;" lv ∧ Fld Z h tx own_JT "from" "I" (.int f) ∧ Fld Z h tx own_JT "to" "I" (.int t) ∧ Fld Z h tx own_JT "escaped" "Z" (.int e) ∧ Fld Z h tx own_JT "length" "J" (.long n) ∧ Fld Z h tx own_JT "unpaired" "I" (.int u)
theorem own_T.keep {Z : State} {h h' : Heap} {tx : Addr} {lv : Value} {f t e u : Int32} {n : Int64} {ws : List Addr} (F : own_T Z h tx lv f t e n u) (K : Keep h h' ws) (q : tx ∉ ws) : own_T Z h' tx lv f t e n u := by
  obtain ⟨E, F0, F1, F2, F3, F4, F5⟩ := F
  exact ⟨E.keep K, F0.keep K q, F1.keep K q, F2.keep K q, F3.keep K q, F4.keep K q, F5.keep K q⟩

theorem own_c4 (l : Launch) (Z : State) (n0 : Nat) (h : Heap) (x y : Int32) : W l Z n0 (rmF 0 0 0 0) B4 (RI (fun v h' => v = own_min x y ∧ h' = h)) h 0 0 0 [.val (.int x), .val (.int y)] [] := by
  refine W.iloadN d4_0 rfl rfl ?_
  refine W.iloadN d4_1 rfl rfl ?_
  refine W.icmp_gt d4_2 (by decide) rfl rfl (fun q1 => ?_) (fun q2 => ?_)
  · refine W.iloadN d4_9 rfl rfl ?_
    exact W.ireturn d4_10 rfl ⟨_, rfl, (if_pos q1).symm, rfl⟩
  · refine W.iloadN d4_5 rfl rfl ?_
    refine W.goto d4_6 (by decide) rfl ?_
    exact W.ireturn d4_10 rfl ⟨_, rfl, (if_neg q2).symm, rfl⟩
theorem own_c1 (l : Launch) (Z : State) (a0 : Array Value) (hw : ∀ d ∈ tables_1, d.before a0 Z = true) (n0 : Nat) (h : Heap) (a : Addr) (ha : n0 ≤ a) (E : Exa Z h a own_JL) (F : Fld Z h a own_JL "pieces" "[[B" .null) (G : Fld Z h a own_JL "length" "I" (.int 0)) :
    W l Z n0 (rmF 1 1 1 12) B1 (RN (fun h' => ∃ p kp, Keep h h' [a] ∧ own_Ln Z h' a p 0 ∧ Arv Z h' p kp (.array .byte) 1 [.null] .null ∧ OvrA Z kp .byte "[B" ∧ h.size ≤ p)) h 0 0 0 [.val (.ref a)] [] := by
  refine W.aloadN d1_0 rfl rfl rfl ?_
  refine W.initO d1_1 (hw _ (List.mem_of_getElem? (i := 7) rfl)) (hw _ (List.mem_of_getElem? (i := 8) rfl)) (hw _ (List.mem_of_getElem? (i := 9) rfl)) rfl rfl rfl rfl ?_
  refine W.aloadN d1_4 rfl rfl rfl ?_
  refine W.iconst d1_5 own_ci_1 rfl ?_
  refine W.anewarrayA (ty := .byte) (C' := "[B") (ad := "[[B") (cap := 1) d1_6 rfl rfl (hw _ (List.mem_of_getElem? (i := 10) rfl)) (hw _ (List.mem_of_getElem? (i := 11) rfl)) (by decide) (by decide) (by decide) (by decide) (by decide) rfl (fun h1 kp X1 A1 O1 => ?_)
  have A1 : Arv Z h1 h.size kp (.array .byte) 1 [.null] .null := A1.pad (pad_rep [] .null 1)
  refine W.putF (ty := .array (.array .byte)) d1_9 (hw _ (List.mem_of_getElem? (i := 12) rfl)) (F.ext X1) (E.ext X1) (Or.inl (hw _ (List.mem_of_getElem? (i := 13) rfl))) (hw _ (List.mem_of_getElem? (i := 2) rfl)) (by decide) rfl rfl ha rfl (fun h2 W2 => ?_)
  have hne : h.size ≠ a := Nat.ne_of_gt E.lt
  refine W.vret d1_12 rfl ⟨rfl, h.size, kp, ((Keep.refl h [a]).ext X1).wr W2 (Or.inl (List.mem_singleton.mpr rfl)), ⟨(E.ext X1).wr W2, (F.ext X1).same W2, (G.ext X1).other W2 (Or.inr (slot_ne (Or.inl (hw _ (List.mem_of_getElem? (i := 20) rfl))) (Or.inl (hw _ (List.mem_of_getElem? (i := 13) rfl))) (by decide) (t := .int) (t' := .array (.array .byte)) (by decide) (by decide)))⟩, A1.other W2 hne, O1, Nat.le_refl _⟩
theorem own_c5 (l : Launch) (Z : State) (a0 : Array Value) (hw : ∀ d ∈ tables_1, d.before a0 Z = true) (n0 : Nat) (h : Heap) (a : Addr) : W l Z n0 (rmF 1 0 0 12) B5 (RN (fun h' => h' = h)) h 0 0 0 [.val (.ref a)] [] := by
  refine W.aloadN d5_0 rfl rfl rfl ?_
  refine W.initO d5_1 (hw _ (List.mem_of_getElem? (i := 36) rfl)) (hw _ (List.mem_of_getElem? (i := 8) rfl)) (hw _ (List.mem_of_getElem? (i := 9) rfl)) rfl rfl rfl rfl ?_
  exact W.vret d5_4 rfl ⟨rfl, rfl⟩
set_option maxHeartbeats 8000000 in
theorem own_c3 (l : Launch) (Z : State) (a0 : Array Value) (hw : ∀ d ∈ tables_1, d.before a0 Z = true) (n0 : Nat) (h : Heap) (ln p sr : Addr) (kp ks : ClassId) (x0 x1 x2 x3 : Value) (hln : n0 ≤ ln) (hp : n0 ≤ p) (hn : n0 ≤ h.size) (hlp : ln ≠ p) (F : own_Ln Z h ln p 0) (P : Arv Z h p kp (.array .byte) 1 [.null] .null) (O : OvrA Z kp .byte "[B") (S : Arv Z h sr ks .byte 4 [x0, x1, x2, x3] (.int 0)) (hsp : sr ≠ p) :
    W l Z n0 (rmF 1 1 16384 18) B3 (RN (fun h' => ∃ g kg, Keep h h' [ln, p] ∧ own_L Z h' ln p g kp kg 4 [x0, x1, x2, x3] ∧ h.size ≤ g)) h 0 0 0 [.val (.ref ln), .val (.ref sr), .val (.int 0), .val (.int 4), .unset, .unset, .unset, .unset] [] := by
  have z1 : ((0 : Int32).toUInt32 >>> ((14 : Int32) &&& 31).toUInt32).toInt32 = 0 := by decide
  have z2 : (0 : Int32) + 4 = 4 := by decide
  have z3 : (0 : Int32) &&& 16383 = 0 := by decide
  refine W.iloadN d3_0 rfl rfl ?_
  refine W.istore d3_1 (Put.s (Put.s (Put.s (Put.s Put.z)))) rfl rfl rfl ?_
  refine W.iloadN d3_3 rfl rfl ?_
  refine W.iloadN d3_4 rfl rfl ?_
  refine W.iadd d3_5 rfl ?_
  rw [z2]
  refine W.istore d3_6 (Put.s (Put.s (Put.s (Put.s (Put.s Put.z))))) rfl rfl rfl ?_
  refine W.iload d3_8 rfl rfl ?_
  refine W.iload d3_10 rfl rfl ?_
  refine W.icmp_ge d3_12 (by decide) rfl rfl (fun p1 => ?_) (fun q1 => ?_)
  · exact absurd (by decide) p1
  refine W.aloadN d3_15 rfl rfl rfl ?_
  refine W.getF d3_16 (hw _ (List.mem_of_getElem? (i := 19) rfl)) F.2.2 rfl ?_
  refine W.bipush d3_19 own_cb_14 rfl ?_
  refine W.iushr d3_21 rfl ?_
  rw [z1]
  refine W.istore d3_22 (Put.s (Put.s (Put.s (Put.s (Put.s (Put.s Put.z)))))) rfl rfl rfl ?_
  refine W.iload d3_24 rfl rfl ?_
  refine W.aloadN d3_26 rfl rfl rfl ?_
  refine W.getF d3_27 (hw _ (List.mem_of_getElem? (i := 12) rfl)) F.2.1 rfl ?_
  refine W.arraylengthV d3_30 P rfl ?_
  refine W.icmp_ne d3_31 (by decide) rfl rfl (fun p2 => ?_) (fun q2 => ?_)
  rotate_left
  · exact absurd q2 (by decide)
  refine W.aloadN d3_55 rfl rfl rfl ?_
  refine W.getF d3_56 (hw _ (List.mem_of_getElem? (i := 12) rfl)) F.2.1 rfl ?_
  refine W.iload d3_59 rfl rfl ?_
  refine W.aaloadV (v := .null) d3_61 P rfl (by decide) rfl rfl ?_
  refine W.ifnonnull_no d3_62 rfl ?_
  refine W.aloadN d3_65 rfl rfl rfl ?_
  refine W.getF d3_66 (hw _ (List.mem_of_getElem? (i := 12) rfl)) F.2.1 rfl ?_
  refine W.iload d3_69 rfl rfl ?_
  refine W.sipush d3_71 own_cs_16384 rfl ?_
  refine W.newarrayV (ty := .byte) (ad := "[B") (cap := 16384) d3_74 rfl rfl (hw _ (List.mem_of_getElem? (i := 0) rfl)) (by decide) (by decide) (by decide) (by decide) (by decide) rfl (fun h1 kg X1 G1 E1 => ?_)
  have hpg : p < h.size := P.lt
  have hlg : ln < h.size := F.1.lt
  have hsg : sr < h.size := S.lt
  refine W.aastoreV d3_76 (P.ext X1) O (Ins.self E1) (by decide) (by decide) hp rfl (fun h2 W2 P2 => ?_)
  have P2 : Arv Z h2 p kp (.array .byte) 1 [.ref h.size] .null := P2
  have K2 : Keep h h2 [ln, p] := ((Keep.refl h [ln, p]).ext X1).wr W2 (Or.inl (by simp))
  have G2 : Arv Z h2 h.size kg .byte 16384 [.int 0, .int 0, .int 0, .int 0] (.int 0) := (G1.pad (pad_rep [] (.int 0) 4)).other W2 (Nat.ne_of_gt hpg)
  have F2 : own_Ln Z h2 ln p 0 := (F.ext X1).keep (Keep.of_wr W2) (ninS hlp nin0)
  have S2 := (S.ext X1).other W2 hsp
  refine W.iload d3_77 rfl rfl ?_
  refine W.iload d3_79 rfl rfl ?_
  refine W.isub d3_81 rfl ?_
  refine W.sipush d3_82 own_cs_16384 rfl ?_
  refine W.aloadN d3_85 rfl rfl rfl ?_
  refine W.getF d3_86 (hw _ (List.mem_of_getElem? (i := 19) rfl)) F2.2.2 rfl ?_
  refine W.sipush d3_89 own_cs_16383 rfl ?_
  refine W.iand d3_92 rfl ?_
  refine W.isub d3_93 rfl ?_
  refine W.callS_I (B' := B4) (argsL := [_, _]) d3_94 (hw _ (List.mem_of_getElem? (i := 22) rfl)) (hw _ (List.mem_of_getElem? (i := 23) rfl)) (hw _ (List.mem_of_getElem? (i := 24) rfl)) (hw _ (List.mem_of_getElem? (i := 25) rfl)) rfl (own_c4 l Z n0 h2 (4 - 0) (16384 - (0 &&& 16383))) own_pf4 (by decide) own_pd4 rfl rfl rfl (fun m => by first | (simp [entryFrame, mkF, argsToLocals, Value.category]; done) | rfl) rfl rfl rfl rfl rfl rfl (fun u h3 hh => ?_)
  obtain ⟨hu, rfl⟩ := hh
  rw [show own_min (4 - 0) (16384 - (0 &&& 16383)) = 4 from by decide] at hu
  rw [hu]
  refine W.istore d3_97 (Put.s (Put.s (Put.s (Put.s (Put.s (Put.s (Put.s Put.z))))))) rfl rfl rfl ?_
  refine W.aloadN d3_99 rfl rfl rfl ?_
  refine W.iload d3_100 rfl rfl ?_
  refine W.aloadN d3_102 rfl rfl rfl ?_
  refine W.getF d3_103 (hw _ (List.mem_of_getElem? (i := 12) rfl)) F2.2.1 rfl ?_
  refine W.iload d3_106 rfl rfl ?_
  refine W.aaloadV (v := .ref h.size) d3_108 P2 rfl (by decide) rfl rfl ?_
  refine W.aloadN d3_109 rfl rfl rfl ?_
  refine W.getF d3_110 (hw _ (List.mem_of_getElem? (i := 19) rfl)) F2.2.2 rfl ?_
  refine W.sipush d3_113 own_cs_16383 rfl ?_
  refine W.iand d3_116 rfl ?_
  refine W.iload d3_117 rfl rfl ?_
  rw [z3]
  refine W.arraycopy (us := [x0, x1, x2, x3]) d3_119 (hw _ (List.mem_of_getElem? (i := 26) rfl)) (hw _ (List.mem_of_getElem? (i := 29) rfl)) (hw _ (List.mem_of_getElem? (i := 27) rfl)) (hw _ (List.mem_of_getElem? (i := 28) rfl)) S2 G2 rfl (by decide) (by decide) (by decide) (leb rfl) (leb rfl) rfl (leb rfl) hn rfl rfl rfl rfl (fun h4 K4 G4 => ?_)
  have G4 : Arv Z h4 h.size kg .byte 16384 [x0, x1, x2, x3] (.int 0) := G4
  have F4 := F2.keep K4 (ninS (Nat.ne_of_lt hlg) nin0)
  have P4 := P2.keep K4 (ninS (Nat.ne_of_lt hpg) nin0)
  refine W.iload d3_122 rfl rfl ?_
  refine W.iload d3_124 rfl rfl ?_
  refine W.iadd d3_126 rfl ?_
  refine W.istore d3_127 (Put.s (Put.s (Put.s (Put.s Put.z)))) rfl rfl rfl ?_
  refine W.aloadN d3_129 rfl rfl rfl ?_
  refine W.dup d3_130 rfl rfl ?_
  rw [z2]
  refine W.getF d3_131 (hw _ (List.mem_of_getElem? (i := 19) rfl)) F4.2.2 rfl ?_
  refine W.iload d3_134 rfl rfl ?_
  refine W.iadd d3_136 rfl ?_
  rw [z2]
  refine W.putF (ty := .int) d3_137 (hw _ (List.mem_of_getElem? (i := 19) rfl)) F4.2.2 F4.1 (Or.inl (hw _ (List.mem_of_getElem? (i := 20) rfl))) (hw _ (List.mem_of_getElem? (i := 2) rfl)) (by decide) rfl rfl hln rfl (fun h5 W5 => ?_)
  have K5 : Keep h h5 [ln, p] := (K2.trans K4 (fun x hx => Or.inr (by rw [List.mem_singleton.mp hx]; exact Nat.le_refl _))).wr W5 (Or.inl (by simp))
  refine W.goto d3_140 (by decide) rfl ?_
  refine W.iload d3_8 rfl rfl ?_
  refine W.iload d3_10 rfl rfl ?_
  refine W.icmp_ge d3_12 (by decide) rfl rfl (fun p3 => ?_) (fun q3 => ?_)
  rotate_left
  · exact absurd q3 (by decide)
  exact W.vret d3_143 rfl ⟨rfl, h.size, kg, K5, ⟨⟨F4.1.wr W5, F4.2.1.other W5 (Or.inr (slot_ne (Or.inl (hw _ (List.mem_of_getElem? (i := 13) rfl))) (Or.inl (hw _ (List.mem_of_getElem? (i := 20) rfl))) (by decide) (t := .array (.array .byte)) (t' := .int) (by decide) (by decide))), F4.2.2.same W5⟩, P4.other W5 (Ne.symm hlp), G4.other W5 (Nat.ne_of_gt hlg)⟩, Nat.le_refl _⟩
theorem own_c6 (l : Launch) (Z : State) (a0 : Array Value) (hw : ∀ d ∈ tables_1, d.before a0 Z = true) (n0 : Nat) (h : Heap) (tx ln : Addr) (lv : Value) (f' t' e' u' : Int32) (n' : Int64) (f t u : Int32) (e : Bool) (n : Int64) (ha : n0 ≤ tx) (S : own_T Z h tx lv f' t' e' n' u') :
    W l Z n0 (rmF 0 0 0 0) B6 (RN (fun h' => Keep h h' [tx] ∧ own_T Z h' tx (.ref ln) f t (own_bi e) n u)) h 0 0 0 [.val (.ref tx), .val (.ref ln), .val (.int f), .val (.int t), .val (.int (own_bi e)), .val (.long n), .second, .val (.int u)] [] := by
  obtain ⟨E, F0, F1, F2, F3, F4, F5⟩ := S
  have K0 : Keep h h [tx] := Keep.refl _ _
  refine W.aloadN d6_0 rfl rfl rfl ?_
  refine W.aloadN d6_1 rfl rfl rfl ?_
  refine W.putF (ty := (.object "org/afterlog/internal/json/JsonLine")) d6_2 (hw _ (List.mem_of_getElem? (i := 42) rfl)) F0 E (Or.inl (hw _ (List.mem_of_getElem? (i := 43) rfl))) (hw _ (List.mem_of_getElem? (i := 31) rfl)) (by decide) rfl rfl ha rfl (fun h1 W0 => ?_)
  have K1 := K0.wr W0 (Or.inl (List.mem_singleton.mpr rfl))
  have E := E.wr W0
  have F0 : Fld Z h1 tx own_JT "line" "Lorg/afterlog/internal/json/JsonLine;" (.ref ln) := F0.same W0
  have F1 := F1.other W0 (Or.inr (slot_ne (Or.inl (hw _ (List.mem_of_getElem? (i := 45) rfl))) (Or.inl (hw _ (List.mem_of_getElem? (i := 43) rfl))) (by decide) (t := .int) (t' := (.object "org/afterlog/internal/json/JsonLine")) (by decide) (by decide)))
  have F2 := F2.other W0 (Or.inr (slot_ne (Or.inl (hw _ (List.mem_of_getElem? (i := 47) rfl))) (Or.inl (hw _ (List.mem_of_getElem? (i := 43) rfl))) (by decide) (t := .int) (t' := (.object "org/afterlog/internal/json/JsonLine")) (by decide) (by decide)))
  have F3 := F3.other W0 (Or.inr (slot_ne (Or.inl (hw _ (List.mem_of_getElem? (i := 49) rfl))) (Or.inl (hw _ (List.mem_of_getElem? (i := 43) rfl))) (by decide) (t := .boolean) (t' := (.object "org/afterlog/internal/json/JsonLine")) (by decide) (by decide)))
  have F4 := F4.other W0 (Or.inr (slot_ne (Or.inl (hw _ (List.mem_of_getElem? (i := 51) rfl))) (Or.inl (hw _ (List.mem_of_getElem? (i := 43) rfl))) (by decide) (t := .long) (t' := (.object "org/afterlog/internal/json/JsonLine")) (by decide) (by decide)))
  have F5 := F5.other W0 (Or.inr (slot_ne (Or.inl (hw _ (List.mem_of_getElem? (i := 53) rfl))) (Or.inl (hw _ (List.mem_of_getElem? (i := 43) rfl))) (by decide) (t := .int) (t' := (.object "org/afterlog/internal/json/JsonLine")) (by decide) (by decide)))
  refine W.aloadN d6_5 rfl rfl rfl ?_
  refine W.iloadN d6_6 rfl rfl ?_
  refine W.putF (ty := .int) d6_7 (hw _ (List.mem_of_getElem? (i := 44) rfl)) F1 E (Or.inl (hw _ (List.mem_of_getElem? (i := 45) rfl))) (hw _ (List.mem_of_getElem? (i := 31) rfl)) (by decide) rfl rfl ha rfl (fun h2 W1 => ?_)
  have K2 := K1.wr W1 (Or.inl (List.mem_singleton.mpr rfl))
  have E := E.wr W1
  have F0 := F0.other W1 (Or.inr (slot_ne (Or.inl (hw _ (List.mem_of_getElem? (i := 43) rfl))) (Or.inl (hw _ (List.mem_of_getElem? (i := 45) rfl))) (by decide) (t := (.object "org/afterlog/internal/json/JsonLine")) (t' := .int) (by decide) (by decide)))
  have F1 : Fld Z h2 tx own_JT "from" "I" (.int f) := F1.same W1
  have F2 := F2.other W1 (Or.inr (slot_ne (Or.inl (hw _ (List.mem_of_getElem? (i := 47) rfl))) (Or.inl (hw _ (List.mem_of_getElem? (i := 45) rfl))) (by decide) (t := .int) (t' := .int) (by decide) (by decide)))
  have F3 := F3.other W1 (Or.inr (slot_ne (Or.inl (hw _ (List.mem_of_getElem? (i := 49) rfl))) (Or.inl (hw _ (List.mem_of_getElem? (i := 45) rfl))) (by decide) (t := .boolean) (t' := .int) (by decide) (by decide)))
  have F4 := F4.other W1 (Or.inr (slot_ne (Or.inl (hw _ (List.mem_of_getElem? (i := 51) rfl))) (Or.inl (hw _ (List.mem_of_getElem? (i := 45) rfl))) (by decide) (t := .long) (t' := .int) (by decide) (by decide)))
  have F5 := F5.other W1 (Or.inr (slot_ne (Or.inl (hw _ (List.mem_of_getElem? (i := 53) rfl))) (Or.inl (hw _ (List.mem_of_getElem? (i := 45) rfl))) (by decide) (t := .int) (t' := .int) (by decide) (by decide)))
  refine W.aloadN d6_10 rfl rfl rfl ?_
  refine W.iloadN d6_11 rfl rfl ?_
  refine W.putF (ty := .int) d6_12 (hw _ (List.mem_of_getElem? (i := 46) rfl)) F2 E (Or.inl (hw _ (List.mem_of_getElem? (i := 47) rfl))) (hw _ (List.mem_of_getElem? (i := 31) rfl)) (by decide) rfl rfl ha rfl (fun h3 W2 => ?_)
  have K3 := K2.wr W2 (Or.inl (List.mem_singleton.mpr rfl))
  have E := E.wr W2
  have F0 := F0.other W2 (Or.inr (slot_ne (Or.inl (hw _ (List.mem_of_getElem? (i := 43) rfl))) (Or.inl (hw _ (List.mem_of_getElem? (i := 47) rfl))) (by decide) (t := (.object "org/afterlog/internal/json/JsonLine")) (t' := .int) (by decide) (by decide)))
  have F1 := F1.other W2 (Or.inr (slot_ne (Or.inl (hw _ (List.mem_of_getElem? (i := 45) rfl))) (Or.inl (hw _ (List.mem_of_getElem? (i := 47) rfl))) (by decide) (t := .int) (t' := .int) (by decide) (by decide)))
  have F2 : Fld Z h3 tx own_JT "to" "I" (.int t) := F2.same W2
  have F3 := F3.other W2 (Or.inr (slot_ne (Or.inl (hw _ (List.mem_of_getElem? (i := 49) rfl))) (Or.inl (hw _ (List.mem_of_getElem? (i := 47) rfl))) (by decide) (t := .boolean) (t' := .int) (by decide) (by decide)))
  have F4 := F4.other W2 (Or.inr (slot_ne (Or.inl (hw _ (List.mem_of_getElem? (i := 51) rfl))) (Or.inl (hw _ (List.mem_of_getElem? (i := 47) rfl))) (by decide) (t := .long) (t' := .int) (by decide) (by decide)))
  have F5 := F5.other W2 (Or.inr (slot_ne (Or.inl (hw _ (List.mem_of_getElem? (i := 53) rfl))) (Or.inl (hw _ (List.mem_of_getElem? (i := 47) rfl))) (by decide) (t := .int) (t' := .int) (by decide) (by decide)))
  refine W.aloadN d6_15 rfl rfl rfl ?_
  refine W.iload d6_16 rfl rfl ?_
  refine W.putF (ty := .boolean) d6_18 (hw _ (List.mem_of_getElem? (i := 48) rfl)) F3 E (Or.inl (hw _ (List.mem_of_getElem? (i := 49) rfl))) (hw _ (List.mem_of_getElem? (i := 31) rfl)) (by decide) (by cases e <;> rfl) (by cases e <;> rfl) ha rfl (fun h4 W3 => ?_)
  have K4 := K3.wr W3 (Or.inl (List.mem_singleton.mpr rfl))
  have E := E.wr W3
  have F0 := F0.other W3 (Or.inr (slot_ne (Or.inl (hw _ (List.mem_of_getElem? (i := 43) rfl))) (Or.inl (hw _ (List.mem_of_getElem? (i := 49) rfl))) (by decide) (t := (.object "org/afterlog/internal/json/JsonLine")) (t' := .boolean) (by decide) (by decide)))
  have F1 := F1.other W3 (Or.inr (slot_ne (Or.inl (hw _ (List.mem_of_getElem? (i := 45) rfl))) (Or.inl (hw _ (List.mem_of_getElem? (i := 49) rfl))) (by decide) (t := .int) (t' := .boolean) (by decide) (by decide)))
  have F2 := F2.other W3 (Or.inr (slot_ne (Or.inl (hw _ (List.mem_of_getElem? (i := 47) rfl))) (Or.inl (hw _ (List.mem_of_getElem? (i := 49) rfl))) (by decide) (t := .int) (t' := .boolean) (by decide) (by decide)))
  have F3 : Fld Z h4 tx own_JT "escaped" "Z" (.int (own_bi e)) := F3.same W3
  have F4 := F4.other W3 (Or.inr (slot_ne (Or.inl (hw _ (List.mem_of_getElem? (i := 51) rfl))) (Or.inl (hw _ (List.mem_of_getElem? (i := 49) rfl))) (by decide) (t := .long) (t' := .boolean) (by decide) (by decide)))
  have F5 := F5.other W3 (Or.inr (slot_ne (Or.inl (hw _ (List.mem_of_getElem? (i := 53) rfl))) (Or.inl (hw _ (List.mem_of_getElem? (i := 49) rfl))) (by decide) (t := .int) (t' := .boolean) (by decide) (by decide)))
  refine W.aloadN d6_21 rfl rfl rfl ?_
  refine W.lload d6_22 rfl rfl ?_
  refine W.putF (ty := .long) d6_24 (hw _ (List.mem_of_getElem? (i := 50) rfl)) F4 E (Or.inl (hw _ (List.mem_of_getElem? (i := 51) rfl))) (hw _ (List.mem_of_getElem? (i := 31) rfl)) (by decide) rfl rfl ha rfl (fun h5 W4 => ?_)
  have K5 := K4.wr W4 (Or.inl (List.mem_singleton.mpr rfl))
  have E := E.wr W4
  have F0 := F0.other W4 (Or.inr (slot_ne (Or.inl (hw _ (List.mem_of_getElem? (i := 43) rfl))) (Or.inl (hw _ (List.mem_of_getElem? (i := 51) rfl))) (by decide) (t := (.object "org/afterlog/internal/json/JsonLine")) (t' := .long) (by decide) (by decide)))
  have F1 := F1.other W4 (Or.inr (slot_ne (Or.inl (hw _ (List.mem_of_getElem? (i := 45) rfl))) (Or.inl (hw _ (List.mem_of_getElem? (i := 51) rfl))) (by decide) (t := .int) (t' := .long) (by decide) (by decide)))
  have F2 := F2.other W4 (Or.inr (slot_ne (Or.inl (hw _ (List.mem_of_getElem? (i := 47) rfl))) (Or.inl (hw _ (List.mem_of_getElem? (i := 51) rfl))) (by decide) (t := .int) (t' := .long) (by decide) (by decide)))
  have F3 := F3.other W4 (Or.inr (slot_ne (Or.inl (hw _ (List.mem_of_getElem? (i := 49) rfl))) (Or.inl (hw _ (List.mem_of_getElem? (i := 51) rfl))) (by decide) (t := .boolean) (t' := .long) (by decide) (by decide)))
  have F4 : Fld Z h5 tx own_JT "length" "J" (.long n) := F4.same W4
  have F5 := F5.other W4 (Or.inr (slot_ne (Or.inl (hw _ (List.mem_of_getElem? (i := 53) rfl))) (Or.inl (hw _ (List.mem_of_getElem? (i := 51) rfl))) (by decide) (t := .int) (t' := .long) (by decide) (by decide)))
  refine W.aloadN d6_27 rfl rfl rfl ?_
  refine W.iload d6_28 rfl rfl ?_
  refine W.putF (ty := .int) d6_30 (hw _ (List.mem_of_getElem? (i := 52) rfl)) F5 E (Or.inl (hw _ (List.mem_of_getElem? (i := 53) rfl))) (hw _ (List.mem_of_getElem? (i := 31) rfl)) (by decide) rfl rfl ha rfl (fun h6 W5 => ?_)
  have K6 := K5.wr W5 (Or.inl (List.mem_singleton.mpr rfl))
  have E := E.wr W5
  have F0 := F0.other W5 (Or.inr (slot_ne (Or.inl (hw _ (List.mem_of_getElem? (i := 43) rfl))) (Or.inl (hw _ (List.mem_of_getElem? (i := 53) rfl))) (by decide) (t := (.object "org/afterlog/internal/json/JsonLine")) (t' := .int) (by decide) (by decide)))
  have F1 := F1.other W5 (Or.inr (slot_ne (Or.inl (hw _ (List.mem_of_getElem? (i := 45) rfl))) (Or.inl (hw _ (List.mem_of_getElem? (i := 53) rfl))) (by decide) (t := .int) (t' := .int) (by decide) (by decide)))
  have F2 := F2.other W5 (Or.inr (slot_ne (Or.inl (hw _ (List.mem_of_getElem? (i := 47) rfl))) (Or.inl (hw _ (List.mem_of_getElem? (i := 53) rfl))) (by decide) (t := .int) (t' := .int) (by decide) (by decide)))
  have F3 := F3.other W5 (Or.inr (slot_ne (Or.inl (hw _ (List.mem_of_getElem? (i := 49) rfl))) (Or.inl (hw _ (List.mem_of_getElem? (i := 53) rfl))) (by decide) (t := .boolean) (t' := .int) (by decide) (by decide)))
  have F4 := F4.other W5 (Or.inr (slot_ne (Or.inl (hw _ (List.mem_of_getElem? (i := 51) rfl))) (Or.inl (hw _ (List.mem_of_getElem? (i := 53) rfl))) (by decide) (t := .long) (t' := .int) (by decide) (by decide)))
  have F5 : Fld Z h6 tx own_JT "unpaired" "I" (.int u) := F5.same W5
  exact W.vret d6_33 rfl ⟨rfl, K6, E, F0, F1, F2, F3, F4, F5⟩
theorem own_c7 (l : Launch) (Z : State) (a0 : Array Value) (hw : ∀ d ∈ tables_1, d.before a0 Z = true) (n0 : Nat) (h : Heap) (tx : Addr) (n : Int64) (F : Fld Z h tx own_JT "length" "J" (.long n)) : W l Z n0 (rmF 0 0 0 0) B7 (RJ (fun v h' => v = n ∧ h' = h)) h 0 0 0 [.val (.ref tx)] [] := by
  refine W.aloadN d7_0 rfl rfl rfl ?_
  refine W.getF d7_1 (hw _ (List.mem_of_getElem? (i := 50) rfl)) F rfl ?_
  exact W.lreturn d7_4 rfl ⟨_, rfl, rfl, rfl⟩
theorem own_c8 (l : Launch) (Z : State) (a0 : Array Value) (hw : ∀ d ∈ tables_1, d.before a0 Z = true) (n0 : Nat) (h : Heap) (tx : Addr) (n : Int32) (F : Fld Z h tx own_JT "unpaired" "I" (.int n)) : W l Z n0 (rmF 0 0 0 0) B8 (RI (fun v h' => v = n ∧ h' = h)) h 0 0 0 [.val (.ref tx)] [] := by
  refine W.aloadN d8_0 rfl rfl rfl ?_
  refine W.getF d8_1 (hw _ (List.mem_of_getElem? (i := 52) rfl)) F rfl ?_
  exact W.ireturn d8_4 rfl ⟨_, rfl, rfl, rfl⟩
theorem own_c9 (l : Launch) (Z : State) (a0 : Array Value) (hw : ∀ d ∈ tables_1, d.before a0 Z = true) (n0 : Nat) (h : Heap) (tx : Addr) (f t : Int32) (F : Fld Z h tx own_JT "from" "I" (.int f)) (G : Fld Z h tx own_JT "to" "I" (.int t)) : W l Z n0 (rmF 0 0 0 0) B9 (RI (fun v h' => v = own_bi (decide (f = t)) ∧ h' = h)) h 0 0 0 [.val (.ref tx)] [] := by
  refine W.aloadN d9_0 rfl rfl rfl ?_
  refine W.getF d9_1 (hw _ (List.mem_of_getElem? (i := 44) rfl)) F rfl ?_
  refine W.aloadN d9_4 rfl rfl rfl ?_
  refine W.getF d9_5 (hw _ (List.mem_of_getElem? (i := 46) rfl)) G rfl ?_
  refine W.icmp_ne d9_8 (by decide) rfl rfl (fun p => ?_) (fun q => ?_)
  · refine W.iconst d9_15 own_ci_0 rfl ?_
    exact W.ireturnN d9_16 rfl (Or.inl rfl) rfl ⟨_, rfl, by rw [decide_eq_false p]; rfl, rfl⟩
  · refine W.iconst d9_11 own_ci_1 rfl ?_
    refine W.goto d9_12 (by decide) rfl ?_
    exact W.ireturnN d9_16 rfl (Or.inl rfl) rfl ⟨_, rfl, by rw [decide_eq_true q]; rfl, rfl⟩
theorem own_at0 (l : Launch) (Z : State) (a0 : Array Value) (hw : ∀ d ∈ tables_1, d.before a0 Z = true) (n0 : Nat) (h : Heap) (ln p g : Addr) (kp kg : ClassId) (x0 x1 x2 x3 : Int32) (S : own_L Z h ln p g kp kg 4 [.int x0, .int x1, .int x2, .int x3]) (hx : x0.toInt8.toInt32 = x0) : W l Z n0 (rmF 0 0 0 0) B14 (RI (fun v h' => v = x0 ∧ h' = h)) h 0 0 0 [.val (.ref ln), .val (.int 0)] [] := by
  refine W.aloadN d14_0 rfl rfl rfl ?_
  refine W.getF d14_1 (hw _ (List.mem_of_getElem? (i := 12) rfl)) S.1.2.1 rfl ?_
  refine W.iloadN d14_4 rfl rfl ?_
  refine W.bipush d14_5 own_cb_14 rfl ?_
  refine W.iushr d14_7 rfl ?_
  refine W.aaloadV (v := .ref g) d14_8 S.2.1 rfl (by decide) rfl rfl ?_
  refine W.iloadN d14_9 rfl rfl ?_
  refine W.sipush d14_10 own_cs_16383 rfl ?_
  refine W.iand d14_13 rfl ?_
  refine W.baloadV (v := x0) d14_14 S.2.2 (by decide) rfl rfl ?_
  exact W.ireturnN d14_15 rfl (Or.inr (Or.inl rfl)) hx ⟨_, rfl, rfl, rfl⟩
theorem own_at1 (l : Launch) (Z : State) (a0 : Array Value) (hw : ∀ d ∈ tables_1, d.before a0 Z = true) (n0 : Nat) (h : Heap) (ln p g : Addr) (kp kg : ClassId) (x0 x1 x2 x3 : Int32) (S : own_L Z h ln p g kp kg 4 [.int x0, .int x1, .int x2, .int x3]) (hx : x1.toInt8.toInt32 = x1) : W l Z n0 (rmF 0 0 0 0) B14 (RI (fun v h' => v = x1 ∧ h' = h)) h 0 0 0 [.val (.ref ln), .val (.int 1)] [] := by
  refine W.aloadN d14_0 rfl rfl rfl ?_
  refine W.getF d14_1 (hw _ (List.mem_of_getElem? (i := 12) rfl)) S.1.2.1 rfl ?_
  refine W.iloadN d14_4 rfl rfl ?_
  refine W.bipush d14_5 own_cb_14 rfl ?_
  refine W.iushr d14_7 rfl ?_
  refine W.aaloadV (v := .ref g) d14_8 S.2.1 rfl (by decide) rfl rfl ?_
  refine W.iloadN d14_9 rfl rfl ?_
  refine W.sipush d14_10 own_cs_16383 rfl ?_
  refine W.iand d14_13 rfl ?_
  refine W.baloadV (v := x1) d14_14 S.2.2 (by decide) rfl rfl ?_
  exact W.ireturnN d14_15 rfl (Or.inr (Or.inl rfl)) hx ⟨_, rfl, rfl, rfl⟩
theorem own_at2 (l : Launch) (Z : State) (a0 : Array Value) (hw : ∀ d ∈ tables_1, d.before a0 Z = true) (n0 : Nat) (h : Heap) (ln p g : Addr) (kp kg : ClassId) (x0 x1 x2 x3 : Int32) (S : own_L Z h ln p g kp kg 4 [.int x0, .int x1, .int x2, .int x3]) (hx : x2.toInt8.toInt32 = x2) : W l Z n0 (rmF 0 0 0 0) B14 (RI (fun v h' => v = x2 ∧ h' = h)) h 0 0 0 [.val (.ref ln), .val (.int 2)] [] := by
  refine W.aloadN d14_0 rfl rfl rfl ?_
  refine W.getF d14_1 (hw _ (List.mem_of_getElem? (i := 12) rfl)) S.1.2.1 rfl ?_
  refine W.iloadN d14_4 rfl rfl ?_
  refine W.bipush d14_5 own_cb_14 rfl ?_
  refine W.iushr d14_7 rfl ?_
  refine W.aaloadV (v := .ref g) d14_8 S.2.1 rfl (by decide) rfl rfl ?_
  refine W.iloadN d14_9 rfl rfl ?_
  refine W.sipush d14_10 own_cs_16383 rfl ?_
  refine W.iand d14_13 rfl ?_
  refine W.baloadV (v := x2) d14_14 S.2.2 (by decide) rfl rfl ?_
  exact W.ireturnN d14_15 rfl (Or.inr (Or.inl rfl)) hx ⟨_, rfl, rfl, rfl⟩
theorem own_at3 (l : Launch) (Z : State) (a0 : Array Value) (hw : ∀ d ∈ tables_1, d.before a0 Z = true) (n0 : Nat) (h : Heap) (ln p g : Addr) (kp kg : ClassId) (x0 x1 x2 x3 : Int32) (S : own_L Z h ln p g kp kg 4 [.int x0, .int x1, .int x2, .int x3]) (hx : x3.toInt8.toInt32 = x3) : W l Z n0 (rmF 0 0 0 0) B14 (RI (fun v h' => v = x3 ∧ h' = h)) h 0 0 0 [.val (.ref ln), .val (.int 3)] [] := by
  refine W.aloadN d14_0 rfl rfl rfl ?_
  refine W.getF d14_1 (hw _ (List.mem_of_getElem? (i := 12) rfl)) S.1.2.1 rfl ?_
  refine W.iloadN d14_4 rfl rfl ?_
  refine W.bipush d14_5 own_cb_14 rfl ?_
  refine W.iushr d14_7 rfl ?_
  refine W.aaloadV (v := .ref g) d14_8 S.2.1 rfl (by decide) rfl rfl ?_
  refine W.iloadN d14_9 rfl rfl ?_
  refine W.sipush d14_10 own_cs_16383 rfl ?_
  refine W.iand d14_13 rfl ?_
  refine W.baloadV (v := x3) d14_14 S.2.2 (by decide) rfl rfl ?_
  exact W.ireturnN d14_15 rfl (Or.inr (Or.inl rfl)) hx ⟨_, rfl, rfl, rfl⟩
theorem own_pe0 (l : Launch) (Z : State) (a0 : Array Value) (hw : ∀ d ∈ tables_1, d.before a0 Z = true) (n0 : Nat) (h : Heap) (ln p g : Addr) (kp kg : ClassId) (x0 x1 x2 x3 : Int32) (S : own_L Z h ln p g kp kg 4 [.int x0, .int x1, .int x2, .int x3]) (h0 : x0.toInt8.toInt32 = x0) (h1 : x1.toInt8.toInt32 = x1) (h2 : x2.toInt8.toInt32 = x2) (h3 : x3.toInt8.toInt32 = x3) (tx : Addr) (e u : Int32) (n : Int64) (T : own_T Z h tx (.ref ln) 0 4 e n u) (e0 : ¬ x0 = 92) (e1 : x1 = 92) : W l Z n0 (rmF 1 0 0 13) B13 (RI (fun v h' => v = 1 ∧ h' = h)) h 0 0 0 [.val (.ref tx), .val (.int 0), .unset] [] := by
  refine W.iloadN d13_0 rfl rfl ?_
  refine W.istoreN d13_1 (Put.s (Put.s Put.z)) rfl rfl rfl ?_
  refine W.iloadN d13_2 rfl rfl ?_
  refine W.aloadN d13_3 rfl rfl rfl ?_
  refine W.getF d13_4 (hw _ (List.mem_of_getElem? (i := 46) rfl)) T.2.2.2.1 rfl ?_
  refine W.icmp_ge d13_7 (by decide) rfl rfl (fun p => ?_) (fun q => ?_)
  · exact absurd (by decide) p
  refine W.aloadN d13_10 rfl rfl rfl ?_
  refine W.getF d13_11 (hw _ (List.mem_of_getElem? (i := 42) rfl)) T.2.1 rfl ?_
  refine W.iloadN d13_14 rfl rfl ?_
  refine W.callV_I (B' := B14) (argsL := [_]) d13_15 (hw _ (List.mem_of_getElem? (i := 87) rfl)) (hw _ (List.mem_of_getElem? (i := 88) rfl)) (hw _ (List.mem_of_getElem? (i := 90) rfl)) (hw _ (List.mem_of_getElem? (i := 89) rfl)) (hw _ (List.mem_of_getElem? (i := 3) rfl)) (hw _ (List.mem_of_getElem? (i := 91) rfl)) rfl S.1.1 (own_at0 l Z a0 hw n0 h ln p g kp kg x0 x1 x2 x3 S h0) own_pf14 (by decide) own_pd14 rfl rfl rfl (fun m => by first | (simp [entryFrame, mkF, argsToLocals, Value.category]; done) | rfl) rfl rfl rfl rfl rfl rfl (fun v h' hh => ?_)
  obtain ⟨hv, rfl⟩ := hh
  rw [hv]
  refine W.bipush d13_18 own_cb_92 rfl ?_
  refine W.icmp_eq d13_20 (by decide) rfl rfl (fun p1 => ?_) (fun q1 => ?_)
  · exact absurd p1 e0
  refine W.iinc d13_23 rfl own_ci_1 (Put.s (Put.s Put.z)) rfl ?_
  refine W.goto d13_26 (by decide) rfl ?_
  rw [show (0 : Int32) + 1 = 1 from by decide]
  refine W.iloadN d13_2 rfl rfl ?_
  refine W.aloadN d13_3 rfl rfl rfl ?_
  refine W.getF d13_4 (hw _ (List.mem_of_getElem? (i := 46) rfl)) T.2.2.2.1 rfl ?_
  refine W.icmp_ge d13_7 (by decide) rfl rfl (fun p2 => ?_) (fun q2 => ?_)
  · exact absurd (by decide) p2
  refine W.aloadN d13_10 rfl rfl rfl ?_
  refine W.getF d13_11 (hw _ (List.mem_of_getElem? (i := 42) rfl)) T.2.1 rfl ?_
  refine W.iloadN d13_14 rfl rfl ?_
  refine W.callV_I (B' := B14) (argsL := [_]) d13_15 (hw _ (List.mem_of_getElem? (i := 87) rfl)) (hw _ (List.mem_of_getElem? (i := 88) rfl)) (hw _ (List.mem_of_getElem? (i := 90) rfl)) (hw _ (List.mem_of_getElem? (i := 89) rfl)) (hw _ (List.mem_of_getElem? (i := 3) rfl)) (hw _ (List.mem_of_getElem? (i := 91) rfl)) rfl S.1.1 (own_at1 l Z a0 hw n0 _ ln p g kp kg x0 x1 x2 x3 S h1) own_pf14 (by decide) own_pd14 rfl rfl rfl (fun m => by first | (simp [entryFrame, mkF, argsToLocals, Value.category]; done) | rfl) rfl rfl rfl rfl rfl rfl (fun v h' hh => ?_)
  obtain ⟨hv, rfl⟩ := hh
  rw [hv]
  refine W.bipush d13_18 own_cb_92 rfl ?_
  refine W.icmp_eq d13_20 (by decide) rfl rfl (fun p3 => ?_) (fun q3 => ?_)
  rotate_left
  · exact absurd e1 q3
  refine W.iloadN d13_29 rfl rfl ?_
  exact W.ireturn d13_30 rfl ⟨_, rfl, rfl, rfl⟩
theorem own_pe3 (l : Launch) (Z : State) (a0 : Array Value) (hw : ∀ d ∈ tables_1, d.before a0 Z = true) (n0 : Nat) (h : Heap) (ln p g : Addr) (kp kg : ClassId) (x0 x1 x2 x3 : Int32) (S : own_L Z h ln p g kp kg 4 [.int x0, .int x1, .int x2, .int x3]) (h0 : x0.toInt8.toInt32 = x0) (h1 : x1.toInt8.toInt32 = x1) (h2 : x2.toInt8.toInt32 = x2) (h3 : x3.toInt8.toInt32 = x3) (tx : Addr) (e u : Int32) (n : Int64) (T : own_T Z h tx (.ref ln) 0 4 e n u) (e3 : ¬ x3 = 92) : W l Z n0 (rmF 1 0 0 13) B13 (RI (fun v h' => v = 4 ∧ h' = h)) h 0 0 0 [.val (.ref tx), .val (.int 3), .unset] [] := by
  refine W.iloadN d13_0 rfl rfl ?_
  refine W.istoreN d13_1 (Put.s (Put.s Put.z)) rfl rfl rfl ?_
  refine W.iloadN d13_2 rfl rfl ?_
  refine W.aloadN d13_3 rfl rfl rfl ?_
  refine W.getF d13_4 (hw _ (List.mem_of_getElem? (i := 46) rfl)) T.2.2.2.1 rfl ?_
  refine W.icmp_ge d13_7 (by decide) rfl rfl (fun p => ?_) (fun q => ?_)
  · exact absurd (by decide) p
  refine W.aloadN d13_10 rfl rfl rfl ?_
  refine W.getF d13_11 (hw _ (List.mem_of_getElem? (i := 42) rfl)) T.2.1 rfl ?_
  refine W.iloadN d13_14 rfl rfl ?_
  refine W.callV_I (B' := B14) (argsL := [_]) d13_15 (hw _ (List.mem_of_getElem? (i := 87) rfl)) (hw _ (List.mem_of_getElem? (i := 88) rfl)) (hw _ (List.mem_of_getElem? (i := 90) rfl)) (hw _ (List.mem_of_getElem? (i := 89) rfl)) (hw _ (List.mem_of_getElem? (i := 3) rfl)) (hw _ (List.mem_of_getElem? (i := 91) rfl)) rfl S.1.1 (own_at3 l Z a0 hw n0 h ln p g kp kg x0 x1 x2 x3 S h3) own_pf14 (by decide) own_pd14 rfl rfl rfl (fun m => by first | (simp [entryFrame, mkF, argsToLocals, Value.category]; done) | rfl) rfl rfl rfl rfl rfl rfl (fun v h' hh => ?_)
  obtain ⟨hv, rfl⟩ := hh
  rw [hv]
  refine W.bipush d13_18 own_cb_92 rfl ?_
  refine W.icmp_eq d13_20 (by decide) rfl rfl (fun p1 => ?_) (fun q1 => ?_)
  · exact absurd p1 e3
  refine W.iinc d13_23 rfl own_ci_1 (Put.s (Put.s Put.z)) rfl ?_
  refine W.goto d13_26 (by decide) rfl ?_
  rw [show (3 : Int32) + 1 = 4 from by decide]
  refine W.iloadN d13_2 rfl rfl ?_
  refine W.aloadN d13_3 rfl rfl rfl ?_
  refine W.getF d13_4 (hw _ (List.mem_of_getElem? (i := 46) rfl)) T.2.2.2.1 rfl ?_
  refine W.icmp_ge d13_7 (by decide) rfl rfl (fun p2 => ?_) (fun q2 => ?_)
  rotate_left
  · exact absurd q2 (by decide)
  refine W.iloadN d13_29 rfl rfl ?_
  exact W.ireturn d13_30 rfl ⟨_, rfl, rfl, rfl⟩
theorem own_c15 (l : Launch) (Z : State) (a0 : Array Value) (hw : ∀ d ∈ tables_1, d.before a0 Z = true) (n0 : Nat) (h : Heap) (ln p g : Addr) (kp kg : ClassId) (x0 x1 x2 x3 : Int32) (S : own_L Z h ln p g kp kg 4 [.int x0, .int x1, .int x2, .int x3]) (h0 : x0.toInt8.toInt32 = x0) (h1 : x1.toInt8.toInt32 = x1) (h2 : x2.toInt8.toInt32 = x2) (h3 : x3.toInt8.toInt32 = x3) (e2 : x2 = 110) : W l Z n0 (rmF 1 0 0 13) B15 (RI (fun v h' => v = 10 ∧ h' = h)) h 0 0 0 [.val (.ref ln), .val (.int 1), .unset, .unset] [] := by
  refine W.aloadN d15_0 rfl rfl rfl ?_
  refine W.iloadN d15_1 rfl rfl ?_
  refine W.iconst d15_2 own_ci_1 rfl ?_
  refine W.iadd d15_3 rfl ?_
  rw [show (1 : Int32) + 1 = 2 from by decide]
  refine W.callV_I (B' := B14) (argsL := [_]) d15_4 (hw _ (List.mem_of_getElem? (i := 87) rfl)) (hw _ (List.mem_of_getElem? (i := 88) rfl)) (hw _ (List.mem_of_getElem? (i := 90) rfl)) (hw _ (List.mem_of_getElem? (i := 89) rfl)) (hw _ (List.mem_of_getElem? (i := 3) rfl)) (hw _ (List.mem_of_getElem? (i := 91) rfl)) rfl S.1.1 (own_at2 l Z a0 hw n0 h ln p g kp kg x0 x1 x2 x3 S h2) own_pf14 (by decide) own_pd14 rfl rfl rfl (fun m => by first | (simp [entryFrame, mkF, argsToLocals, Value.category]; done) | rfl) rfl rfl rfl rfl rfl rfl (fun v h' hh => ?_)
  obtain ⟨hv, rfl⟩ := hh
  rw [hv, e2]
  refine W.istoreN d15_7 (Put.s (Put.s Put.z)) rfl rfl rfl ?_
  refine W.iloadN d15_8 rfl rfl ?_
  refine W.lookupHit (a := 110) (off := 100) d15_9 (by decide) (by decide) (by decide) rfl ?_
  refine W.bipush d15_109 own_cb_10 rfl ?_
  refine W.istoreN d15_111 (Put.s (Put.s (Put.s Put.z))) rfl rfl rfl ?_
  refine W.goto d15_112 (by decide) rfl ?_
  refine W.iloadN d15_140 rfl rfl ?_
  exact W.ireturn d15_141 rfl ⟨_, rfl, rfl, rfl⟩
theorem own_c16 (l : Launch) (Z : State) (a0 : Array Value) (hw : ∀ d ∈ tables_1, d.before a0 Z = true) (n0 : Nat) (h : Heap) (ln p g : Addr) (kp kg : ClassId) (x0 x1 x2 x3 : Int32) (S : own_L Z h ln p g kp kg 4 [.int x0, .int x1, .int x2, .int x3]) (h0 : x0.toInt8.toInt32 = x0) (h1 : x1.toInt8.toInt32 = x1) (h2 : x2.toInt8.toInt32 = x2) (h3 : x3.toInt8.toInt32 = x3) (e2 : x2 = 110) : W l Z n0 (rmF 1 0 0 13) B16 (RI (fun v h' => v = 2 ∧ h' = h)) h 0 0 0 [.val (.ref ln), .val (.int 1)] [] := by
  refine W.aloadN d16_0 rfl rfl rfl ?_
  refine W.iloadN d16_1 rfl rfl ?_
  refine W.iconst d16_2 own_ci_1 rfl ?_
  refine W.iadd d16_3 rfl ?_
  rw [show (1 : Int32) + 1 = 2 from by decide]
  refine W.callV_I (B' := B14) (argsL := [_]) d16_4 (hw _ (List.mem_of_getElem? (i := 87) rfl)) (hw _ (List.mem_of_getElem? (i := 88) rfl)) (hw _ (List.mem_of_getElem? (i := 90) rfl)) (hw _ (List.mem_of_getElem? (i := 89) rfl)) (hw _ (List.mem_of_getElem? (i := 3) rfl)) (hw _ (List.mem_of_getElem? (i := 91) rfl)) rfl S.1.1 (own_at2 l Z a0 hw n0 h ln p g kp kg x0 x1 x2 x3 S h2) own_pf14 (by decide) own_pd14 rfl rfl rfl (fun m => by first | (simp [entryFrame, mkF, argsToLocals, Value.category]; done) | rfl) rfl rfl rfl rfl rfl rfl (fun v h' hh => ?_)
  obtain ⟨hv, rfl⟩ := hh
  rw [hv, e2]
  refine W.bipush d16_7 own_cb_117 rfl ?_
  refine W.icmp_ne d16_9 (by decide) rfl rfl (fun p1 => ?_) (fun q1 => ?_)
  rotate_left
  · exact absurd q1 (by decide)
  refine W.iconst d16_17 own_ci_2 rfl ?_
  exact W.ireturn d16_18 rfl ⟨_, rfl, rfl, rfl⟩
theorem own_c17 (l : Launch) (Z : State) (a0 : Array Value) (hw : ∀ d ∈ tables_1, d.before a0 Z = true) (n0 : Nat) (h : Heap) : W l Z n0 (rmF 0 0 0 0) B17 (RI (fun v h' => v = 0 ∧ h' = h)) h 0 0 0 [.val (.int 10)] [] := by
  refine W.iloadN d17_0 rfl rfl ?_
  refine W.ldc d17_1 (hw _ (List.mem_of_getElem? (i := 102) rfl)) rfl ?_
  refine W.icmp_lt d17_3 (by decide) rfl rfl (fun p => ?_) (fun q => ?_)
  rotate_left
  · exact absurd (by decide) q
  refine W.iconst d17_16 own_ci_0 rfl ?_
  exact W.ireturnN d17_17 rfl (Or.inl rfl) rfl ⟨_, rfl, rfl, rfl⟩
theorem own_c18 (l : Launch) (Z : State) (a0 : Array Value) (hw : ∀ d ∈ tables_1, d.before a0 Z = true) (n0 : Nat) (h : Heap) (o : Addr) (ko : ClassId) (vd : List Value) (k : Nat) (Ar : Arv Z h o ko .byte 8 vd (.int 0)) (hl : vd.length = 8) (hk : k < 8) (ho : n0 ≤ o) :
    W l Z n0 (rmF 0 0 0 0) B18 (RI (fun v h' => v = (k + 1).toInt32 ∧ Keep h h' [o] ∧ Arv Z h' o ko .byte 8 (vd.set k (.int 10)) (.int 0))) h 0 0 0 [.val (.ref o), .val (.int k.toInt32), .val (.int 10), .unset] [] := by
  have m0 := nat32 (k := k) (by omega)
  have k8 : (8 : Int32).toInt = 8 := by decide
  refine W.iloadN d18_0 rfl rfl ?_
  refine W.istoreN d18_1 (Put.s (Put.s (Put.s Put.z))) rfl rfl rfl ?_
  refine W.iloadN d18_2 rfl rfl ?_
  refine W.sipush d18_3 own_cs_128 rfl ?_
  refine W.icmp_ge d18_6 (by decide) rfl rfl (fun p => ?_) (fun q => ?_)
  · exact absurd (by decide) p
  refine W.aloadN d18_9 rfl rfl rfl ?_
  refine W.iloadN d18_10 rfl rfl ?_
  refine W.iinc d18_11 rfl own_ci_1 (Put.s (Put.s (Put.s Put.z))) rfl ?_
  refine W.iloadN d18_14 rfl rfl ?_
  refine W.i2b d18_15 rfl ?_
  rw [m0.2.2.2]
  refine W.bastoreV (x' := 10) d18_16 Ar ⟨m0.2.2.1, by rw [lt32, m0.1]; omega⟩ (by rw [m0.2.1]; omega) (by decide) ho rfl (fun h1 W1 A1 => ?_)
  rw [m0.2.1] at A1
  refine W.goto d18_17 (by decide) rfl ?_
  refine W.iloadN d18_183 rfl rfl ?_
  exact W.ireturn d18_184 rfl ⟨_, rfl, rfl, Keep.of_wr W1, A1⟩
theorem own_cp04 (l : Launch) (Z : State) (a0 : Array Value) (hw : ∀ d ∈ tables_1, d.before a0 Z = true) (n0 : Nat) (h : Heap) (ln p g : Addr) (kp kg : ClassId) (x0 x1 x2 x3 : Int32) (S : own_L Z h ln p g kp kg 4 [.int x0, .int x1, .int x2, .int x3]) (o : Addr) (ko : ClassId) (vd : List Value) (k : Nat) (Ar : Arv Z h o ko .byte 8 vd (.int 0)) (hl : vd.length = 8) (ho : n0 ≤ o) (hk : k + 4 ≤ 8) :
    W l Z n0 (rmF 1 0 0 18) B11 (RI (fun v h' => v = (k + 4).toInt32 ∧ Keep h h' [o] ∧ Arv Z h' o ko .byte 8 (vd.take k ++ [.int x0, .int x1, .int x2, .int x3] ++ vd.drop (k + 4)) (.int 0))) h 0 0 0 [.val (.ref ln), .val (.int 0), .val (.int 4), .val (.ref o), .val (.int k.toInt32), .unset, .unset, .unset] [] := by
  have m0 := nat32 (k := k) (by omega)
  have an : k.toInt32 + 4 = (k + 4).toInt32 := by show Int32.ofNat k + Int32.ofNat 4 = Int32.ofNat (k + 4); rw [Int32.ofNat_add]
  have z3 : (0 : Int32) &&& 16383 = 0 := by decide
  refine W.iloadN d11_0 rfl rfl ?_
  refine W.istore d11_1 (Put.s (Put.s (Put.s (Put.s (Put.s Put.z))))) rfl rfl rfl ?_
  refine W.iload d11_3 rfl rfl ?_
  refine W.istore d11_5 (Put.s (Put.s (Put.s (Put.s (Put.s (Put.s Put.z)))))) rfl rfl rfl ?_
  refine W.iload d11_7 rfl rfl ?_
  refine W.iloadN d11_9 rfl rfl ?_
  refine W.icmp_ge d11_10 (by decide) rfl rfl (fun p => ?_) (fun q => ?_)
  · exact absurd (by decide) p
  refine W.iloadN d11_13 rfl rfl ?_
  refine W.iload d11_14 rfl rfl ?_
  refine W.isub d11_16 rfl ?_
  refine W.sipush d11_17 own_cs_16384 rfl ?_
  refine W.iload d11_20 rfl rfl ?_
  refine W.sipush d11_22 own_cs_16383 rfl ?_
  refine W.iand d11_25 rfl ?_
  refine W.isub d11_26 rfl ?_
  refine W.callS_I (B' := B4) (argsL := [_, _]) d11_27 (hw _ (List.mem_of_getElem? (i := 22) rfl)) (hw _ (List.mem_of_getElem? (i := 23) rfl)) (hw _ (List.mem_of_getElem? (i := 24) rfl)) (hw _ (List.mem_of_getElem? (i := 25) rfl)) rfl (own_c4 l Z n0 h (4 - 0) (16384 - (0 &&& 16383))) own_pf4 (by decide) own_pd4 rfl rfl rfl (fun m => by first | (simp [entryFrame, mkF, argsToLocals, Value.category]; done) | rfl) rfl rfl rfl rfl rfl rfl (fun u h3 hh => ?_)
  obtain ⟨hu, rfl⟩ := hh
  rw [show own_min (4 - 0) (16384 - (0 &&& 16383)) = 4 from by decide] at hu
  rw [hu]
  refine W.istore d11_30 (Put.s (Put.s (Put.s (Put.s (Put.s (Put.s (Put.s Put.z))))))) rfl rfl rfl ?_
  refine W.aloadN d11_32 rfl rfl rfl ?_
  refine W.getF d11_33 (hw _ (List.mem_of_getElem? (i := 12) rfl)) S.1.2.1 rfl ?_
  refine W.iload d11_36 rfl rfl ?_
  refine W.bipush d11_38 own_cb_14 rfl ?_
  refine W.iushr d11_40 rfl ?_
  refine W.aaloadV (v := .ref g) d11_41 S.2.1 rfl (by decide) rfl rfl ?_
  refine W.iload d11_42 rfl rfl ?_
  refine W.sipush d11_44 own_cs_16383 rfl ?_
  refine W.iand d11_47 rfl ?_
  refine W.aloadN d11_48 rfl rfl rfl ?_
  refine W.iload d11_49 rfl rfl ?_
  refine W.iload d11_51 rfl rfl ?_
  rw [z3]
  refine W.arraycopy (us := [.int x0, .int x1, .int x2, .int x3]) d11_53 (hw _ (List.mem_of_getElem? (i := 26) rfl)) (hw _ (List.mem_of_getElem? (i := 29) rfl)) (hw _ (List.mem_of_getElem? (i := 27) rfl)) (hw _ (List.mem_of_getElem? (i := 28) rfl)) S.2.2 Ar rfl (by decide) m0.2.2.1 (by decide) (leb rfl) (by rw [m0.2.1]; show k + 4 ≤ 8; omega) rfl (by rw [m0.2.1, hl]; show k + 4 ≤ 8; omega) ho rfl rfl rfl rfl (fun h4 K4 G4 => ?_)
  rw [m0.2.1] at G4
  have G4 : Arv Z h4 o ko .byte 8 (vd.take k ++ [.int x0, .int x1, .int x2, .int x3] ++ vd.drop (k + 4)) (.int 0) := G4
  refine W.iload d11_56 rfl rfl ?_
  refine W.iload d11_58 rfl rfl ?_
  refine W.iadd d11_60 rfl ?_
  refine W.istore d11_61 (Put.s (Put.s (Put.s (Put.s (Put.s Put.z))))) rfl rfl rfl ?_
  refine W.iload d11_63 rfl rfl ?_
  refine W.iload d11_65 rfl rfl ?_
  refine W.iadd d11_67 rfl ?_
  refine W.istore d11_68 (Put.s (Put.s (Put.s (Put.s (Put.s (Put.s Put.z)))))) rfl rfl rfl ?_
  refine W.goto d11_70 (by decide) rfl ?_
  rw [an, show (0 : Int32) + 4 = 4 from by decide]
  refine W.iload d11_7 rfl rfl ?_
  refine W.iloadN d11_9 rfl rfl ?_
  refine W.icmp_ge d11_10 (by decide) rfl rfl (fun p => ?_) (fun q => ?_)
  rotate_left
  · exact absurd q (by decide)
  refine W.iload d11_73 rfl rfl ?_
  exact W.ireturn d11_75 rfl ⟨_, rfl, rfl, K4, G4⟩
theorem own_cp01 (l : Launch) (Z : State) (a0 : Array Value) (hw : ∀ d ∈ tables_1, d.before a0 Z = true) (n0 : Nat) (h : Heap) (ln p g : Addr) (kp kg : ClassId) (x0 x1 x2 x3 : Int32) (S : own_L Z h ln p g kp kg 4 [.int x0, .int x1, .int x2, .int x3]) (o : Addr) (ko : ClassId) (vd : List Value) (k : Nat) (Ar : Arv Z h o ko .byte 8 vd (.int 0)) (hl : vd.length = 8) (ho : n0 ≤ o) (hk : k + 1 ≤ 8) :
    W l Z n0 (rmF 1 0 0 18) B11 (RI (fun v h' => v = (k + 1).toInt32 ∧ Keep h h' [o] ∧ Arv Z h' o ko .byte 8 (vd.take k ++ [.int x0] ++ vd.drop (k + 1)) (.int 0))) h 0 0 0 [.val (.ref ln), .val (.int 0), .val (.int 1), .val (.ref o), .val (.int k.toInt32), .unset, .unset, .unset] [] := by
  have m0 := nat32 (k := k) (by omega)
  have an : k.toInt32 + 1 = (k + 1).toInt32 := by show Int32.ofNat k + Int32.ofNat 1 = Int32.ofNat (k + 1); rw [Int32.ofNat_add]
  have z3 : (0 : Int32) &&& 16383 = 0 := by decide
  refine W.iloadN d11_0 rfl rfl ?_
  refine W.istore d11_1 (Put.s (Put.s (Put.s (Put.s (Put.s Put.z))))) rfl rfl rfl ?_
  refine W.iload d11_3 rfl rfl ?_
  refine W.istore d11_5 (Put.s (Put.s (Put.s (Put.s (Put.s (Put.s Put.z)))))) rfl rfl rfl ?_
  refine W.iload d11_7 rfl rfl ?_
  refine W.iloadN d11_9 rfl rfl ?_
  refine W.icmp_ge d11_10 (by decide) rfl rfl (fun p => ?_) (fun q => ?_)
  · exact absurd (by decide) p
  refine W.iloadN d11_13 rfl rfl ?_
  refine W.iload d11_14 rfl rfl ?_
  refine W.isub d11_16 rfl ?_
  refine W.sipush d11_17 own_cs_16384 rfl ?_
  refine W.iload d11_20 rfl rfl ?_
  refine W.sipush d11_22 own_cs_16383 rfl ?_
  refine W.iand d11_25 rfl ?_
  refine W.isub d11_26 rfl ?_
  refine W.callS_I (B' := B4) (argsL := [_, _]) d11_27 (hw _ (List.mem_of_getElem? (i := 22) rfl)) (hw _ (List.mem_of_getElem? (i := 23) rfl)) (hw _ (List.mem_of_getElem? (i := 24) rfl)) (hw _ (List.mem_of_getElem? (i := 25) rfl)) rfl (own_c4 l Z n0 h (1 - 0) (16384 - (0 &&& 16383))) own_pf4 (by decide) own_pd4 rfl rfl rfl (fun m => by first | (simp [entryFrame, mkF, argsToLocals, Value.category]; done) | rfl) rfl rfl rfl rfl rfl rfl (fun u h3 hh => ?_)
  obtain ⟨hu, rfl⟩ := hh
  rw [show own_min (1 - 0) (16384 - (0 &&& 16383)) = 1 from by decide] at hu
  rw [hu]
  refine W.istore d11_30 (Put.s (Put.s (Put.s (Put.s (Put.s (Put.s (Put.s Put.z))))))) rfl rfl rfl ?_
  refine W.aloadN d11_32 rfl rfl rfl ?_
  refine W.getF d11_33 (hw _ (List.mem_of_getElem? (i := 12) rfl)) S.1.2.1 rfl ?_
  refine W.iload d11_36 rfl rfl ?_
  refine W.bipush d11_38 own_cb_14 rfl ?_
  refine W.iushr d11_40 rfl ?_
  refine W.aaloadV (v := .ref g) d11_41 S.2.1 rfl (by decide) rfl rfl ?_
  refine W.iload d11_42 rfl rfl ?_
  refine W.sipush d11_44 own_cs_16383 rfl ?_
  refine W.iand d11_47 rfl ?_
  refine W.aloadN d11_48 rfl rfl rfl ?_
  refine W.iload d11_49 rfl rfl ?_
  refine W.iload d11_51 rfl rfl ?_
  rw [z3]
  refine W.arraycopy (us := [.int x0]) d11_53 (hw _ (List.mem_of_getElem? (i := 26) rfl)) (hw _ (List.mem_of_getElem? (i := 29) rfl)) (hw _ (List.mem_of_getElem? (i := 27) rfl)) (hw _ (List.mem_of_getElem? (i := 28) rfl)) S.2.2 Ar rfl (by decide) m0.2.2.1 (by decide) (leb rfl) (by rw [m0.2.1]; show k + 1 ≤ 8; omega) rfl (by rw [m0.2.1, hl]; show k + 1 ≤ 8; omega) ho rfl rfl rfl rfl (fun h4 K4 G4 => ?_)
  rw [m0.2.1] at G4
  have G4 : Arv Z h4 o ko .byte 8 (vd.take k ++ [.int x0] ++ vd.drop (k + 1)) (.int 0) := G4
  refine W.iload d11_56 rfl rfl ?_
  refine W.iload d11_58 rfl rfl ?_
  refine W.iadd d11_60 rfl ?_
  refine W.istore d11_61 (Put.s (Put.s (Put.s (Put.s (Put.s Put.z))))) rfl rfl rfl ?_
  refine W.iload d11_63 rfl rfl ?_
  refine W.iload d11_65 rfl rfl ?_
  refine W.iadd d11_67 rfl ?_
  refine W.istore d11_68 (Put.s (Put.s (Put.s (Put.s (Put.s (Put.s Put.z)))))) rfl rfl rfl ?_
  refine W.goto d11_70 (by decide) rfl ?_
  rw [an, show (0 : Int32) + 1 = 1 from by decide]
  refine W.iload d11_7 rfl rfl ?_
  refine W.iloadN d11_9 rfl rfl ?_
  refine W.icmp_ge d11_10 (by decide) rfl rfl (fun p => ?_) (fun q => ?_)
  rotate_left
  · exact absurd q (by decide)
  refine W.iload d11_73 rfl rfl ?_
  exact W.ireturn d11_75 rfl ⟨_, rfl, rfl, K4, G4⟩
theorem own_cp34 (l : Launch) (Z : State) (a0 : Array Value) (hw : ∀ d ∈ tables_1, d.before a0 Z = true) (n0 : Nat) (h : Heap) (ln p g : Addr) (kp kg : ClassId) (x0 x1 x2 x3 : Int32) (S : own_L Z h ln p g kp kg 4 [.int x0, .int x1, .int x2, .int x3]) (o : Addr) (ko : ClassId) (vd : List Value) (k : Nat) (Ar : Arv Z h o ko .byte 8 vd (.int 0)) (hl : vd.length = 8) (ho : n0 ≤ o) (hk : k + 1 ≤ 8) :
    W l Z n0 (rmF 1 0 0 18) B11 (RI (fun v h' => v = (k + 1).toInt32 ∧ Keep h h' [o] ∧ Arv Z h' o ko .byte 8 (vd.take k ++ [.int x3] ++ vd.drop (k + 1)) (.int 0))) h 0 0 0 [.val (.ref ln), .val (.int 3), .val (.int 4), .val (.ref o), .val (.int k.toInt32), .unset, .unset, .unset] [] := by
  have m0 := nat32 (k := k) (by omega)
  have an : k.toInt32 + 1 = (k + 1).toInt32 := by show Int32.ofNat k + Int32.ofNat 1 = Int32.ofNat (k + 1); rw [Int32.ofNat_add]
  have z3 : (3 : Int32) &&& 16383 = 3 := by decide
  refine W.iloadN d11_0 rfl rfl ?_
  refine W.istore d11_1 (Put.s (Put.s (Put.s (Put.s (Put.s Put.z))))) rfl rfl rfl ?_
  refine W.iload d11_3 rfl rfl ?_
  refine W.istore d11_5 (Put.s (Put.s (Put.s (Put.s (Put.s (Put.s Put.z)))))) rfl rfl rfl ?_
  refine W.iload d11_7 rfl rfl ?_
  refine W.iloadN d11_9 rfl rfl ?_
  refine W.icmp_ge d11_10 (by decide) rfl rfl (fun p => ?_) (fun q => ?_)
  · exact absurd (by decide) p
  refine W.iloadN d11_13 rfl rfl ?_
  refine W.iload d11_14 rfl rfl ?_
  refine W.isub d11_16 rfl ?_
  refine W.sipush d11_17 own_cs_16384 rfl ?_
  refine W.iload d11_20 rfl rfl ?_
  refine W.sipush d11_22 own_cs_16383 rfl ?_
  refine W.iand d11_25 rfl ?_
  refine W.isub d11_26 rfl ?_
  refine W.callS_I (B' := B4) (argsL := [_, _]) d11_27 (hw _ (List.mem_of_getElem? (i := 22) rfl)) (hw _ (List.mem_of_getElem? (i := 23) rfl)) (hw _ (List.mem_of_getElem? (i := 24) rfl)) (hw _ (List.mem_of_getElem? (i := 25) rfl)) rfl (own_c4 l Z n0 h (4 - 3) (16384 - (3 &&& 16383))) own_pf4 (by decide) own_pd4 rfl rfl rfl (fun m => by first | (simp [entryFrame, mkF, argsToLocals, Value.category]; done) | rfl) rfl rfl rfl rfl rfl rfl (fun u h3 hh => ?_)
  obtain ⟨hu, rfl⟩ := hh
  rw [show own_min (4 - 3) (16384 - (3 &&& 16383)) = 1 from by decide] at hu
  rw [hu]
  refine W.istore d11_30 (Put.s (Put.s (Put.s (Put.s (Put.s (Put.s (Put.s Put.z))))))) rfl rfl rfl ?_
  refine W.aloadN d11_32 rfl rfl rfl ?_
  refine W.getF d11_33 (hw _ (List.mem_of_getElem? (i := 12) rfl)) S.1.2.1 rfl ?_
  refine W.iload d11_36 rfl rfl ?_
  refine W.bipush d11_38 own_cb_14 rfl ?_
  refine W.iushr d11_40 rfl ?_
  refine W.aaloadV (v := .ref g) d11_41 S.2.1 rfl (by decide) rfl rfl ?_
  refine W.iload d11_42 rfl rfl ?_
  refine W.sipush d11_44 own_cs_16383 rfl ?_
  refine W.iand d11_47 rfl ?_
  refine W.aloadN d11_48 rfl rfl rfl ?_
  refine W.iload d11_49 rfl rfl ?_
  refine W.iload d11_51 rfl rfl ?_
  rw [z3]
  refine W.arraycopy (us := [.int x3]) d11_53 (hw _ (List.mem_of_getElem? (i := 26) rfl)) (hw _ (List.mem_of_getElem? (i := 29) rfl)) (hw _ (List.mem_of_getElem? (i := 27) rfl)) (hw _ (List.mem_of_getElem? (i := 28) rfl)) S.2.2 Ar rfl (by decide) m0.2.2.1 (by decide) (leb rfl) (by rw [m0.2.1]; show k + 1 ≤ 8; omega) rfl (by rw [m0.2.1, hl]; show k + 1 ≤ 8; omega) ho rfl rfl rfl rfl (fun h4 K4 G4 => ?_)
  rw [m0.2.1] at G4
  have G4 : Arv Z h4 o ko .byte 8 (vd.take k ++ [.int x3] ++ vd.drop (k + 1)) (.int 0) := G4
  refine W.iload d11_56 rfl rfl ?_
  refine W.iload d11_58 rfl rfl ?_
  refine W.iadd d11_60 rfl ?_
  refine W.istore d11_61 (Put.s (Put.s (Put.s (Put.s (Put.s Put.z))))) rfl rfl rfl ?_
  refine W.iload d11_63 rfl rfl ?_
  refine W.iload d11_65 rfl rfl ?_
  refine W.iadd d11_67 rfl ?_
  refine W.istore d11_68 (Put.s (Put.s (Put.s (Put.s (Put.s (Put.s Put.z)))))) rfl rfl rfl ?_
  refine W.goto d11_70 (by decide) rfl ?_
  rw [an, show (3 : Int32) + 1 = 4 from by decide]
  refine W.iload d11_7 rfl rfl ?_
  refine W.iloadN d11_9 rfl rfl ?_
  refine W.icmp_ge d11_10 (by decide) rfl rfl (fun p => ?_) (fun q => ?_)
  rotate_left
  · exact absurd q (by decide)
  refine W.iload d11_73 rfl rfl ?_
  exact W.ireturn d11_75 rfl ⟨_, rfl, rfl, K4, G4⟩
set_option maxHeartbeats 8000000 in
theorem own_c12 (l : Launch) (Z : State) (a0 : Array Value) (hw : ∀ d ∈ tables_1, d.before a0 Z = true) (n0 : Nat) (h : Heap) (ln p g : Addr) (kp kg : ClassId) (x0 x1 x2 x3 : Int32) (S : own_L Z h ln p g kp kg 4 [.int x0, .int x1, .int x2, .int x3]) (h0 : x0.toInt8.toInt32 = x0) (h1 : x1.toInt8.toInt32 = x1) (h2 : x2.toInt8.toInt32 = x2) (h3 : x3.toInt8.toInt32 = x3) (tx : Addr) (e u : Int32) (n : Int64) (T : own_T Z h tx (.ref ln) 0 4 e n u) (o : Addr) (ko : ClassId) (vd : List Value) (k : Nat) (Ar : Arv Z h o ko .byte 8 vd (.int 0)) (hl : vd.length = 8) (ho : n0 ≤ o) (e0 : ¬ x0 = 92) (e1 : x1 = 92) (e2 : x2 = 110) (e3 : ¬ x3 = 92) (hk : k ≤ 3) (d1 : ln ≠ o) (d2 : p ≠ o) (d3 : g ≠ o) (d4 : tx ≠ o) :
    W l Z n0 (rmF 2 0 0 40) B12 (RI (fun v h' => v = (k + 3).toInt32 ∧ Keep h h' [o] ∧ Arv Z h' o ko .byte 8 ((((vd.take k ++ [Value.int x0] ++ vd.drop (k + 1)).set (k + 1) (.int 10)).take (k + 2)) ++ [.int x3] ++ (((vd.take k ++ [Value.int x0] ++ vd.drop (k + 1)).set (k + 1) (.int 10)).drop (k + 2 + 1))) (.int 0))) h 0 0 0 [.val (.ref tx), .val (.ref o), .val (.int k.toInt32), .unset, .unset, .unset, .unset, .unset] [] := by
  have nn1 := ninS d1 (nin0 (x := ln))
  have nn2 := ninS d2 (nin0 (x := p))
  have nn3 := ninS d3 (nin0 (x := g))
  have nn4 := ninS d4 (nin0 (x := tx))
  have l1 : (vd.take k ++ [Value.int x0] ++ vd.drop (k + 1)).length = 8 := by simp [hl]; omega
  refine W.iloadN d12_0 rfl rfl ?_
  refine W.istoreN d12_1 (Put.s (Put.s (Put.s Put.z))) rfl rfl rfl ?_
  refine W.aloadN d12_2 rfl rfl rfl ?_
  refine W.getF d12_3 (hw _ (List.mem_of_getElem? (i := 44) rfl)) T.2.2.1 rfl ?_
  refine W.istore d12_6 (Put.s (Put.s (Put.s (Put.s Put.z)))) rfl rfl rfl ?_
  refine W.iload d12_8 rfl rfl ?_
  refine W.aloadN d12_10 rfl rfl rfl ?_
  refine W.getF d12_11 (hw _ (List.mem_of_getElem? (i := 46) rfl)) T.2.2.2.1 rfl ?_
  refine W.icmp_ge d12_14 (by decide) rfl rfl (fun p1 => ?_) (fun q1 => ?_)
  · exact absurd (by decide) p1
  refine W.aloadN d12_17 rfl rfl rfl ?_
  refine W.iload d12_18 rfl rfl ?_
  refine W.callP_I (B' := B13) (argsL := [_]) d12_20 (hw _ (List.mem_of_getElem? (i := 83) rfl)) (hw _ (List.mem_of_getElem? (i := 84) rfl)) (hw _ (List.mem_of_getElem? (i := 85) rfl)) (hw _ (List.mem_of_getElem? (i := 31) rfl)) (hw _ (List.mem_of_getElem? (i := 32) rfl)) (hw _ (List.mem_of_getElem? (i := 86) rfl)) rfl T.1 (own_pe0 l Z a0 hw n0 h ln p g kp kg x0 x1 x2 x3 S h0 h1 h2 h3 tx e u n T e0 e1) own_pf13 (by decide) own_pd13 rfl rfl rfl (fun m => by first | (simp [entryFrame, mkF, argsToLocals, Value.category]; done) | rfl) rfl rfl rfl rfl rfl rfl (fun v h' hh => ?_)
  obtain ⟨hv, rfl⟩ := hh
  rw [hv]
  refine W.istore d12_23 (Put.s (Put.s (Put.s (Put.s (Put.s Put.z))))) rfl rfl rfl ?_
  refine W.aloadN d12_25 rfl rfl rfl ?_
  refine W.getF d12_26 (hw _ (List.mem_of_getElem? (i := 42) rfl)) T.2.1 rfl ?_
  refine W.iload d12_29 rfl rfl ?_
  refine W.iload d12_31 rfl rfl ?_
  refine W.aloadN d12_33 rfl rfl rfl ?_
  refine W.iloadN d12_34 rfl rfl ?_
  refine W.callV_I (B' := B11) (argsL := [_, _, _, _]) d12_35 (hw _ (List.mem_of_getElem? (i := 74) rfl)) (hw _ (List.mem_of_getElem? (i := 75) rfl)) (hw _ (List.mem_of_getElem? (i := 77) rfl)) (hw _ (List.mem_of_getElem? (i := 76) rfl)) (hw _ (List.mem_of_getElem? (i := 3) rfl)) (hw _ (List.mem_of_getElem? (i := 78) rfl)) rfl S.1.1 (own_cp01 l Z a0 hw n0 _ ln p g kp kg x0 x1 x2 x3 S o ko vd k Ar hl ho (by omega)) own_pf11 (by decide) own_pd11 rfl rfl rfl (fun m => by first | (simp [entryFrame, mkF, argsToLocals, Value.category]; done) | rfl) rfl rfl rfl rfl rfl rfl (fun v g1 hh => ?_)
  obtain ⟨hv, K1, A1⟩ := hh
  rw [hv]
  have S1 := S.keep K1 ⟨nn1, nn2, nn3⟩
  have T1 := T.keep K1 nn4
  refine W.istoreN d12_38 (Put.s (Put.s (Put.s Put.z))) rfl rfl rfl ?_
  refine W.iload d12_39 rfl rfl ?_
  refine W.istore d12_41 (Put.s (Put.s (Put.s (Put.s Put.z)))) rfl rfl rfl ?_
  refine W.iload d12_43 rfl rfl ?_
  refine W.aloadN d12_45 rfl rfl rfl ?_
  refine W.getF d12_46 (hw _ (List.mem_of_getElem? (i := 46) rfl)) T1.2.2.2.1 rfl ?_
  refine W.icmp_ge d12_49 (by decide) rfl rfl (fun p2 => ?_) (fun q2 => ?_)
  · exact absurd (by decide) p2
  refine W.aloadN d12_52 rfl rfl rfl ?_
  refine W.getF d12_53 (hw _ (List.mem_of_getElem? (i := 42) rfl)) T1.2.1 rfl ?_
  refine W.iload d12_56 rfl rfl ?_
  refine W.callS_I (B' := B15) (argsL := [_, _]) d12_58 (hw _ (List.mem_of_getElem? (i := 92) rfl)) (hw _ (List.mem_of_getElem? (i := 93) rfl)) (hw _ (List.mem_of_getElem? (i := 32) rfl)) (hw _ (List.mem_of_getElem? (i := 94) rfl)) rfl (own_c15 l Z a0 hw n0 _ ln p g kp kg x0 x1 x2 x3 S1 h0 h1 h2 h3 e2) own_pf15 (by decide) own_pd15 rfl rfl rfl (fun m => by first | (simp [entryFrame, mkF, argsToLocals, Value.category]; done) | rfl) rfl rfl rfl rfl rfl rfl (fun v h' hh => ?_)
  obtain ⟨hv, rfl⟩ := hh
  rw [hv]
  refine W.istore d12_61 (Put.s (Put.s (Put.s (Put.s (Put.s (Put.s Put.z)))))) rfl rfl rfl ?_
  refine W.iload d12_63 rfl rfl ?_
  refine W.aloadN d12_65 rfl rfl rfl ?_
  refine W.getF d12_66 (hw _ (List.mem_of_getElem? (i := 42) rfl)) T1.2.1 rfl ?_
  refine W.iload d12_69 rfl rfl ?_
  refine W.callS_I (B' := B16) (argsL := [_, _]) d12_71 (hw _ (List.mem_of_getElem? (i := 95) rfl)) (hw _ (List.mem_of_getElem? (i := 96) rfl)) (hw _ (List.mem_of_getElem? (i := 32) rfl)) (hw _ (List.mem_of_getElem? (i := 97) rfl)) rfl (own_c16 l Z a0 hw n0 _ ln p g kp kg x0 x1 x2 x3 S1 h0 h1 h2 h3 e2) own_pf16 (by decide) own_pd16 rfl rfl rfl (fun m => by first | (simp [entryFrame, mkF, argsToLocals, Value.category]; done) | rfl) rfl rfl rfl rfl rfl rfl (fun v h' hh => ?_)
  obtain ⟨hv, rfl⟩ := hh
  rw [hv]
  refine W.iadd d12_74 rfl ?_
  rw [show (1 : Int32) + 2 = 3 from by decide]
  refine W.istore d12_75 (Put.s (Put.s (Put.s (Put.s Put.z)))) rfl rfl rfl ?_
  refine W.iload d12_77 rfl rfl ?_
  refine W.istore d12_79 (Put.s (Put.s (Put.s (Put.s (Put.s (Put.s (Put.s Put.z))))))) rfl rfl rfl ?_
  refine W.iload d12_81 rfl rfl ?_
  refine W.i2c d12_83 rfl ?_
  rw [show (10 : Int32).toUInt32.toUInt16.toUInt32.toInt32 = 10 from by decide]
  refine W.callS_I (B' := B17) (argsL := [_]) d12_84 (hw _ (List.mem_of_getElem? (i := 98) rfl)) (hw _ (List.mem_of_getElem? (i := 99) rfl)) (hw _ (List.mem_of_getElem? (i := 100) rfl)) (hw _ (List.mem_of_getElem? (i := 101) rfl)) rfl (own_c17 l Z a0 hw n0 _) own_pf17 (by decide) own_pd17 rfl rfl rfl (fun m => by first | (simp [entryFrame, mkF, argsToLocals, Value.category]; done) | rfl) rfl rfl rfl rfl rfl rfl (fun v h' hh => ?_)
  obtain ⟨hv, rfl⟩ := hh
  rw [hv]
  refine W.ifc_eq d12_87 (by decide) rfl rfl (fun p3 => ?_) (fun q3 => ?_)
  rotate_left
  · exact absurd rfl q3
  refine W.aloadN d12_122 rfl rfl rfl ?_
  refine W.iloadN d12_123 rfl rfl ?_
  refine W.iload d12_124 rfl rfl ?_
  refine W.callS_I (B' := B18) (argsL := [_, _, _]) d12_126 (hw _ (List.mem_of_getElem? (i := 103) rfl)) (hw _ (List.mem_of_getElem? (i := 104) rfl)) (hw _ (List.mem_of_getElem? (i := 105) rfl)) (hw _ (List.mem_of_getElem? (i := 106) rfl)) rfl (own_c18 l Z a0 hw n0 _ o ko _ (k + 1) A1 l1 (by omega) ho) own_pf18 (by decide) own_pd18 rfl rfl rfl (fun m => by first | (simp [entryFrame, mkF, argsToLocals, Value.category]; done) | rfl) rfl rfl rfl rfl rfl rfl (fun v g2 hh => ?_)
  obtain ⟨hv, K2, A2⟩ := hh
  rw [hv]
  have S2 := S1.keep K2 ⟨nn1, nn2, nn3⟩
  have T2 := T1.keep K2 nn4
  refine W.istoreN d12_129 (Put.s (Put.s (Put.s Put.z))) rfl rfl rfl ?_
  refine W.goto d12_130 (by decide) rfl ?_
  refine W.iload d12_8 rfl rfl ?_
  refine W.aloadN d12_10 rfl rfl rfl ?_
  refine W.getF d12_11 (hw _ (List.mem_of_getElem? (i := 46) rfl)) T2.2.2.2.1 rfl ?_
  refine W.icmp_ge d12_14 (by decide) rfl rfl (fun p4 => ?_) (fun q4 => ?_)
  · exact absurd (by decide) p4
  refine W.aloadN d12_17 rfl rfl rfl ?_
  refine W.iload d12_18 rfl rfl ?_
  refine W.callP_I (B' := B13) (argsL := [_]) d12_20 (hw _ (List.mem_of_getElem? (i := 83) rfl)) (hw _ (List.mem_of_getElem? (i := 84) rfl)) (hw _ (List.mem_of_getElem? (i := 85) rfl)) (hw _ (List.mem_of_getElem? (i := 31) rfl)) (hw _ (List.mem_of_getElem? (i := 32) rfl)) (hw _ (List.mem_of_getElem? (i := 86) rfl)) rfl T2.1 (own_pe3 l Z a0 hw n0 _ ln p g kp kg x0 x1 x2 x3 S2 h0 h1 h2 h3 tx e u n T2 e3) own_pf13 (by decide) own_pd13 rfl rfl rfl (fun m => by first | (simp [entryFrame, mkF, argsToLocals, Value.category]; done) | rfl) rfl rfl rfl rfl rfl rfl (fun v h' hh => ?_)
  obtain ⟨hv, rfl⟩ := hh
  rw [hv]
  refine W.istore d12_23 (Put.s (Put.s (Put.s (Put.s (Put.s Put.z))))) rfl rfl rfl ?_
  refine W.aloadN d12_25 rfl rfl rfl ?_
  refine W.getF d12_26 (hw _ (List.mem_of_getElem? (i := 42) rfl)) T2.2.1 rfl ?_
  refine W.iload d12_29 rfl rfl ?_
  refine W.iload d12_31 rfl rfl ?_
  refine W.aloadN d12_33 rfl rfl rfl ?_
  refine W.iloadN d12_34 rfl rfl ?_
  refine W.callV_I (B' := B11) (argsL := [_, _, _, _]) d12_35 (hw _ (List.mem_of_getElem? (i := 74) rfl)) (hw _ (List.mem_of_getElem? (i := 75) rfl)) (hw _ (List.mem_of_getElem? (i := 77) rfl)) (hw _ (List.mem_of_getElem? (i := 76) rfl)) (hw _ (List.mem_of_getElem? (i := 3) rfl)) (hw _ (List.mem_of_getElem? (i := 78) rfl)) rfl S2.1.1 (own_cp34 l Z a0 hw n0 _ ln p g kp kg x0 x1 x2 x3 S2 o ko _ (k + 1 + 1) A2 (by rw [List.length_set]; exact l1) ho (by omega)) own_pf11 (by decide) own_pd11 rfl rfl rfl (fun m => by first | (simp [entryFrame, mkF, argsToLocals, Value.category]; done) | rfl) rfl rfl rfl rfl rfl rfl (fun v g3 hh => ?_)
  obtain ⟨hv, K3, A3⟩ := hh
  rw [hv]
  have T3 := T2.keep K3 nn4
  refine W.istoreN d12_38 (Put.s (Put.s (Put.s Put.z))) rfl rfl rfl ?_
  refine W.iload d12_39 rfl rfl ?_
  refine W.istore d12_41 (Put.s (Put.s (Put.s (Put.s Put.z)))) rfl rfl rfl ?_
  refine W.iload d12_43 rfl rfl ?_
  refine W.aloadN d12_45 rfl rfl rfl ?_
  refine W.getF d12_46 (hw _ (List.mem_of_getElem? (i := 46) rfl)) T3.2.2.2.1 rfl ?_
  refine W.icmp_ge d12_49 (by decide) rfl rfl (fun p5 => ?_) (fun q5 => ?_)
  rotate_left
  · exact absurd q5 (by decide)
  refine W.goto d12_130 (by decide) rfl ?_
  refine W.iload d12_8 rfl rfl ?_
  refine W.aloadN d12_10 rfl rfl rfl ?_
  refine W.getF d12_11 (hw _ (List.mem_of_getElem? (i := 46) rfl)) T3.2.2.2.1 rfl ?_
  refine W.icmp_ge d12_14 (by decide) rfl rfl (fun p6 => ?_) (fun q6 => ?_)
  rotate_left
  · exact absurd q6 (by decide)
  refine W.iloadN d12_133 rfl rfl ?_
  exact W.ireturn d12_134 rfl ⟨_, rfl, rfl, (K1.trans K2 (fun x hx => Or.inl hx)).trans K3 (fun x hx => Or.inl hx), A3⟩
theorem own_c10E (l : Launch) (Z : State) (a0 : Array Value) (hw : ∀ d ∈ tables_1, d.before a0 Z = true) (n0 : Nat) (h : Heap) (ln p g : Addr) (kp kg : ClassId) (x0 x1 x2 x3 : Int32) (S : own_L Z h ln p g kp kg 4 [.int x0, .int x1, .int x2, .int x3]) (h0 : x0.toInt8.toInt32 = x0) (h1 : x1.toInt8.toInt32 = x1) (h2 : x2.toInt8.toInt32 = x2) (h3 : x3.toInt8.toInt32 = x3) (tx : Addr) (u : Int32) (n : Int64) (T : own_T Z h tx (.ref ln) 0 4 (own_bi true) n u) (o : Addr) (ko : ClassId) (vd : List Value) (k : Nat) (Ar : Arv Z h o ko .byte 8 vd (.int 0)) (hl : vd.length = 8) (ho : n0 ≤ o) (e0 : ¬ x0 = 92) (e1 : x1 = 92) (e2 : x2 = 110) (e3 : ¬ x3 = 92) (hk : k ≤ 3) (d1 : ln ≠ o) (d2 : p ≠ o) (d3 : g ≠ o) (d4 : tx ≠ o) :
    W l Z n0 (rmF 3 0 0 60) B10 (RI (fun v h' => v = (k + 3).toInt32 ∧ Keep h h' [o] ∧ Arv Z h' o ko .byte 8 ((((vd.take k ++ [Value.int x0] ++ vd.drop (k + 1)).set (k + 1) (.int 10)).take (k + 2)) ++ [.int x3] ++ (((vd.take k ++ [Value.int x0] ++ vd.drop (k + 1)).set (k + 1) (.int 10)).drop (k + 2 + 1))) (.int 0))) h 0 0 0 [.val (.ref tx), .val (.ref o), .val (.int k.toInt32)] [] := by
  refine W.aloadN d10_0 rfl rfl rfl ?_
  refine W.getF d10_1 (hw _ (List.mem_of_getElem? (i := 48) rfl)) T.2.2.2.2.1 rfl ?_
  refine W.ifc_eq d10_4 (by decide) rfl rfl (fun p1 => ?_) (fun q1 => ?_)
  · exact absurd p1 (by decide)
  refine W.aloadN d10_7 rfl rfl rfl ?_
  refine W.aloadN d10_8 rfl rfl rfl ?_
  refine W.iloadN d10_9 rfl rfl ?_
  refine W.callP_I (B' := B12) (argsL := [_, _]) d10_10 (hw _ (List.mem_of_getElem? (i := 79) rfl)) (hw _ (List.mem_of_getElem? (i := 80) rfl)) (hw _ (List.mem_of_getElem? (i := 81) rfl)) (hw _ (List.mem_of_getElem? (i := 31) rfl)) (hw _ (List.mem_of_getElem? (i := 32) rfl)) (hw _ (List.mem_of_getElem? (i := 82) rfl)) rfl T.1 (own_c12 l Z a0 hw n0 h ln p g kp kg x0 x1 x2 x3 S h0 h1 h2 h3 tx _ u n T o ko vd k Ar hl ho e0 e1 e2 e3 hk d1 d2 d3 d4) own_pf12 (by decide) own_pd12 rfl rfl rfl (fun m => by first | (simp [entryFrame, mkF, argsToLocals, Value.category]; done) | rfl) rfl rfl rfl rfl rfl rfl (fun v h' hh => ?_)
  refine W.goto d10_13 (by decide) rfl ?_
  exact W.ireturn d10_33 rfl ⟨_, rfl, hh⟩
theorem own_c10N (l : Launch) (Z : State) (a0 : Array Value) (hw : ∀ d ∈ tables_1, d.before a0 Z = true) (n0 : Nat) (h : Heap) (ln p g : Addr) (kp kg : ClassId) (x0 x1 x2 x3 : Int32) (S : own_L Z h ln p g kp kg 4 [.int x0, .int x1, .int x2, .int x3]) (tx : Addr) (u : Int32) (n : Int64) (T : own_T Z h tx (.ref ln) 0 4 (own_bi false) n u) (o : Addr) (ko : ClassId) (vd : List Value) (k : Nat) (Ar : Arv Z h o ko .byte 8 vd (.int 0)) (hl : vd.length = 8) (ho : n0 ≤ o) (hk : k ≤ 3) :
    W l Z n0 (rmF 3 0 0 60) B10 (RI (fun v h' => v = (k + 4).toInt32 ∧ Keep h h' [o] ∧ Arv Z h' o ko .byte 8 (vd.take k ++ [.int x0, .int x1, .int x2, .int x3] ++ vd.drop (k + 4)) (.int 0))) h 0 0 0 [.val (.ref tx), .val (.ref o), .val (.int k.toInt32)] [] := by
  refine W.aloadN d10_0 rfl rfl rfl ?_
  refine W.getF d10_1 (hw _ (List.mem_of_getElem? (i := 48) rfl)) T.2.2.2.2.1 rfl ?_
  refine W.ifc_eq d10_4 (by decide) rfl rfl (fun p1 => ?_) (fun q1 => ?_)
  rotate_left
  · exact absurd rfl q1
  refine W.aloadN d10_16 rfl rfl rfl ?_
  refine W.getF d10_17 (hw _ (List.mem_of_getElem? (i := 42) rfl)) T.2.1 rfl ?_
  refine W.aloadN d10_20 rfl rfl rfl ?_
  refine W.getF d10_21 (hw _ (List.mem_of_getElem? (i := 44) rfl)) T.2.2.1 rfl ?_
  refine W.aloadN d10_24 rfl rfl rfl ?_
  refine W.getF d10_25 (hw _ (List.mem_of_getElem? (i := 46) rfl)) T.2.2.2.1 rfl ?_
  refine W.aloadN d10_28 rfl rfl rfl ?_
  refine W.iloadN d10_29 rfl rfl ?_
  refine W.callV_I (B' := B11) (argsL := [_, _, _, _]) d10_30 (hw _ (List.mem_of_getElem? (i := 74) rfl)) (hw _ (List.mem_of_getElem? (i := 75) rfl)) (hw _ (List.mem_of_getElem? (i := 77) rfl)) (hw _ (List.mem_of_getElem? (i := 76) rfl)) (hw _ (List.mem_of_getElem? (i := 3) rfl)) (hw _ (List.mem_of_getElem? (i := 78) rfl)) rfl S.1.1 (own_cp04 l Z a0 hw n0 h ln p g kp kg x0 x1 x2 x3 S o ko vd k Ar hl ho (by omega)) own_pf11 (by decide) own_pd11 rfl rfl rfl (fun m => by first | (simp [entryFrame, mkF, argsToLocals, Value.category]; done) | rfl) rfl rfl rfl rfl rfl rfl (fun v h' hh => ?_)
  exact W.ireturn d10_33 rfl ⟨_, rfl, hh⟩
theorem own_zE0 (l : Launch) (Z : State) (a0 : Array Value) (hw : ∀ d ∈ tables_1, d.before a0 Z = true) (h : Heap) (cc ss : Nat) (i0 i1 : Int32) (i2 : Int64) (i3 i4 c0 c1 : Int32) (fe : Bool) (ba oa ln tx : Addr) (ko : ClassId) (Ar : Arv Z h oa ko .byte 8 [.int c0, .int 10, .int c1, .int 0, .int 0, .int 0, .int 0, .int 0] (.int 0)) : W l Z Z.heap.size room_1 B0 (fun v _ => v = some (.int 1)) h cc ss 202 [.val (.int i0), .val (.int i1), .val (.long i2), .second, .val (.int i3), .val (.int i4), .val (.int c0), .val (.int c1), .val (.int (0 : Nat).toInt32), .val (.int (own_bi fe)), .val (.int (own_bi true)), .val (.ref ba), .val (.ref oa), .val (.ref ln), .val (.ref tx), .val (.int 1), .unset, .unset, .unset] [.int (3 : Nat).toInt32] := by
  refine W.istore at_202 (Put.s (Put.s (Put.s (Put.s (Put.s (Put.s (Put.s (Put.s (Put.s (Put.s (Put.s (Put.s (Put.s (Put.s (Put.s (Put.s Put.z)))))))))))))))) rfl rfl rfl ?_
  refine W.iload at_204 rfl rfl ?_
  refine W.ifc_eq at_206 (by decide) rfl rfl (fun p => ?_) (fun q => ?_)
  · exact absurd p (by decide)
  refine W.iload at_209 rfl rfl ?_
  refine W.iload at_211 rfl rfl ?_
  refine W.iconst at_213 own_ci_3 rfl ?_
  refine W.iadd at_214 rfl ?_
  refine W.icmp_ne at_215 (by decide) rfl rfl (fun p => ?_) (fun q => ?_)
  · exact absurd (by decide) p
  refine W.aload at_218 rfl rfl rfl ?_
  refine W.iload at_220 rfl rfl ?_
  refine W.baloadV (v := c0) at_222 Ar (by decide) rfl rfl ?_
  refine W.iload at_223 rfl rfl ?_
  refine W.icmp_ne at_225 (by decide) rfl rfl (fun p => ?_) (fun q => ?_)
  · exact absurd rfl p
  refine W.aload at_228 rfl rfl rfl ?_
  refine W.iload at_230 rfl rfl ?_
  refine W.iconst at_232 own_ci_1 rfl ?_
  refine W.iadd at_233 rfl ?_
  refine W.baloadV (v := 10) at_234 Ar (by decide) rfl rfl ?_
  refine W.bipush at_235 own_cb_10 rfl ?_
  refine W.icmp_ne at_237 (by decide) rfl rfl (fun p => ?_) (fun q => ?_)
  · exact absurd rfl p
  refine W.aload at_240 rfl rfl rfl ?_
  refine W.iload at_242 rfl rfl ?_
  refine W.iconst at_244 own_ci_2 rfl ?_
  refine W.iadd at_245 rfl ?_
  refine W.baloadV (v := c1) at_246 Ar (by decide) rfl rfl ?_
  refine W.iload at_247 rfl rfl ?_
  refine W.icmp_ne at_249 (by decide) rfl rfl (fun p => ?_) (fun q => ?_)
  · exact absurd rfl p
  refine W.aload at_252 rfl rfl rfl ?_
  refine W.iload at_254 rfl rfl ?_
  refine W.iconst at_256 own_ci_3 rfl ?_
  refine W.iadd at_257 rfl ?_
  refine W.baloadV (v := 0) at_258 Ar (by decide) rfl rfl ?_
  refine W.ifc_ne at_259 (by decide) rfl rfl (fun p => ?_) (fun q => ?_)
  · exact absurd rfl p
  refine W.iconst at_262 own_ci_1 rfl ?_
  refine W.goto at_263 (by decide) rfl ?_
  refine W.istore at_267 (Put.s (Put.s (Put.s (Put.s (Put.s (Put.s (Put.s (Put.s (Put.s (Put.s (Put.s (Put.s (Put.s (Put.s (Put.s (Put.s (Put.s Put.z))))))))))))))))) rfl rfl rfl ?_
  refine W.goto at_269 (by decide) rfl ?_
  refine W.iload at_334 rfl rfl ?_
  refine W.ifc_eq at_336 (by decide) rfl rfl (fun p => ?_) (fun q => ?_)
  rotate_left
  · exact absurd (by decide) q
  refine W.aload at_349 rfl rfl rfl ?_
  refine W.iload at_351 rfl rfl ?_
  refine W.iconst at_353 own_ci_4 rfl ?_
  refine W.iadd at_354 rfl ?_
  refine W.baloadV (v := 0) at_355 Ar (by decide) rfl rfl ?_
  refine W.ifc_ne at_356 (by decide) rfl rfl (fun p => ?_) (fun q => ?_)
  · exact absurd rfl p
  refine W.iconst at_359 own_ci_1 rfl ?_
  refine W.goto at_360 (by decide) rfl ?_
  refine W.istore at_364 (Put.s (Put.s (Put.s (Put.s (Put.s (Put.s (Put.s (Put.s (Put.s (Put.s (Put.s (Put.s (Put.s (Put.s (Put.s (Put.s (Put.s (Put.s Put.z)))))))))))))))))) rfl rfl rfl ?_
  refine W.iload at_366 rfl rfl ?_
  refine W.ifc_eq at_368 (by decide) rfl rfl (fun p => ?_) (fun q => ?_)
  · exact absurd p (by decide)
  refine W.iload at_371 rfl rfl ?_
  refine W.ifc_eq at_373 (by decide) rfl rfl (fun p => ?_) (fun q => ?_)
  · exact absurd p (by decide)
  refine W.iload at_376 rfl rfl ?_
  refine W.ifc_eq at_378 (by decide) rfl rfl (fun p => ?_) (fun q => ?_)
  · exact absurd p (by decide)
  refine W.iconst at_381 own_ci_1 rfl ?_
  refine W.goto at_382 (by decide) rfl ?_
  exact W.ireturnN at_386 rfl (Or.inl rfl) rfl rfl
theorem own_zE1 (l : Launch) (Z : State) (a0 : Array Value) (hw : ∀ d ∈ tables_1, d.before a0 Z = true) (h : Heap) (cc ss : Nat) (i0 i1 : Int32) (i2 : Int64) (i3 i4 c0 c1 : Int32) (fe : Bool) (ba oa ln tx : Addr) (ko : ClassId) (Ar : Arv Z h oa ko .byte 8 [.int 0, .int c0, .int 10, .int c1, .int 0, .int 0, .int 0, .int 0] (.int 0)) : W l Z Z.heap.size room_1 B0 (fun v _ => v = some (.int 1)) h cc ss 202 [.val (.int i0), .val (.int i1), .val (.long i2), .second, .val (.int i3), .val (.int i4), .val (.int c0), .val (.int c1), .val (.int (1 : Nat).toInt32), .val (.int (own_bi fe)), .val (.int (own_bi true)), .val (.ref ba), .val (.ref oa), .val (.ref ln), .val (.ref tx), .val (.int 1), .unset, .unset, .unset] [.int (4 : Nat).toInt32] := by
  refine W.istore at_202 (Put.s (Put.s (Put.s (Put.s (Put.s (Put.s (Put.s (Put.s (Put.s (Put.s (Put.s (Put.s (Put.s (Put.s (Put.s (Put.s Put.z)))))))))))))))) rfl rfl rfl ?_
  refine W.iload at_204 rfl rfl ?_
  refine W.ifc_eq at_206 (by decide) rfl rfl (fun p => ?_) (fun q => ?_)
  · exact absurd p (by decide)
  refine W.iload at_209 rfl rfl ?_
  refine W.iload at_211 rfl rfl ?_
  refine W.iconst at_213 own_ci_3 rfl ?_
  refine W.iadd at_214 rfl ?_
  refine W.icmp_ne at_215 (by decide) rfl rfl (fun p => ?_) (fun q => ?_)
  · exact absurd (by decide) p
  refine W.aload at_218 rfl rfl rfl ?_
  refine W.iload at_220 rfl rfl ?_
  refine W.baloadV (v := c0) at_222 Ar (by decide) rfl rfl ?_
  refine W.iload at_223 rfl rfl ?_
  refine W.icmp_ne at_225 (by decide) rfl rfl (fun p => ?_) (fun q => ?_)
  · exact absurd rfl p
  refine W.aload at_228 rfl rfl rfl ?_
  refine W.iload at_230 rfl rfl ?_
  refine W.iconst at_232 own_ci_1 rfl ?_
  refine W.iadd at_233 rfl ?_
  refine W.baloadV (v := 10) at_234 Ar (by decide) rfl rfl ?_
  refine W.bipush at_235 own_cb_10 rfl ?_
  refine W.icmp_ne at_237 (by decide) rfl rfl (fun p => ?_) (fun q => ?_)
  · exact absurd rfl p
  refine W.aload at_240 rfl rfl rfl ?_
  refine W.iload at_242 rfl rfl ?_
  refine W.iconst at_244 own_ci_2 rfl ?_
  refine W.iadd at_245 rfl ?_
  refine W.baloadV (v := c1) at_246 Ar (by decide) rfl rfl ?_
  refine W.iload at_247 rfl rfl ?_
  refine W.icmp_ne at_249 (by decide) rfl rfl (fun p => ?_) (fun q => ?_)
  · exact absurd rfl p
  refine W.aload at_252 rfl rfl rfl ?_
  refine W.iload at_254 rfl rfl ?_
  refine W.iconst at_256 own_ci_3 rfl ?_
  refine W.iadd at_257 rfl ?_
  refine W.baloadV (v := 0) at_258 Ar (by decide) rfl rfl ?_
  refine W.ifc_ne at_259 (by decide) rfl rfl (fun p => ?_) (fun q => ?_)
  · exact absurd rfl p
  refine W.iconst at_262 own_ci_1 rfl ?_
  refine W.goto at_263 (by decide) rfl ?_
  refine W.istore at_267 (Put.s (Put.s (Put.s (Put.s (Put.s (Put.s (Put.s (Put.s (Put.s (Put.s (Put.s (Put.s (Put.s (Put.s (Put.s (Put.s (Put.s Put.z))))))))))))))))) rfl rfl rfl ?_
  refine W.goto at_269 (by decide) rfl ?_
  refine W.iload at_334 rfl rfl ?_
  refine W.ifc_eq at_336 (by decide) rfl rfl (fun p => ?_) (fun q => ?_)
  · exact absurd p (by decide)
  refine W.aload at_339 rfl rfl rfl ?_
  refine W.iload at_341 rfl rfl ?_
  refine W.iconst at_343 own_ci_1 rfl ?_
  refine W.isub at_344 rfl ?_
  refine W.baloadV (v := 0) at_345 Ar (by decide) rfl rfl ?_
  refine W.ifc_ne at_346 (by decide) rfl rfl (fun p => ?_) (fun q => ?_)
  · exact absurd rfl p
  refine W.aload at_349 rfl rfl rfl ?_
  refine W.iload at_351 rfl rfl ?_
  refine W.iconst at_353 own_ci_4 rfl ?_
  refine W.iadd at_354 rfl ?_
  refine W.baloadV (v := 0) at_355 Ar (by decide) rfl rfl ?_
  refine W.ifc_ne at_356 (by decide) rfl rfl (fun p => ?_) (fun q => ?_)
  · exact absurd rfl p
  refine W.iconst at_359 own_ci_1 rfl ?_
  refine W.goto at_360 (by decide) rfl ?_
  refine W.istore at_364 (Put.s (Put.s (Put.s (Put.s (Put.s (Put.s (Put.s (Put.s (Put.s (Put.s (Put.s (Put.s (Put.s (Put.s (Put.s (Put.s (Put.s (Put.s Put.z)))))))))))))))))) rfl rfl rfl ?_
  refine W.iload at_366 rfl rfl ?_
  refine W.ifc_eq at_368 (by decide) rfl rfl (fun p => ?_) (fun q => ?_)
  · exact absurd p (by decide)
  refine W.iload at_371 rfl rfl ?_
  refine W.ifc_eq at_373 (by decide) rfl rfl (fun p => ?_) (fun q => ?_)
  · exact absurd p (by decide)
  refine W.iload at_376 rfl rfl ?_
  refine W.ifc_eq at_378 (by decide) rfl rfl (fun p => ?_) (fun q => ?_)
  · exact absurd p (by decide)
  refine W.iconst at_381 own_ci_1 rfl ?_
  refine W.goto at_382 (by decide) rfl ?_
  exact W.ireturnN at_386 rfl (Or.inl rfl) rfl rfl
theorem own_zE2 (l : Launch) (Z : State) (a0 : Array Value) (hw : ∀ d ∈ tables_1, d.before a0 Z = true) (h : Heap) (cc ss : Nat) (i0 i1 : Int32) (i2 : Int64) (i3 i4 c0 c1 : Int32) (fe : Bool) (ba oa ln tx : Addr) (ko : ClassId) (Ar : Arv Z h oa ko .byte 8 [.int 0, .int 0, .int c0, .int 10, .int c1, .int 0, .int 0, .int 0] (.int 0)) : W l Z Z.heap.size room_1 B0 (fun v _ => v = some (.int 1)) h cc ss 202 [.val (.int i0), .val (.int i1), .val (.long i2), .second, .val (.int i3), .val (.int i4), .val (.int c0), .val (.int c1), .val (.int (2 : Nat).toInt32), .val (.int (own_bi fe)), .val (.int (own_bi true)), .val (.ref ba), .val (.ref oa), .val (.ref ln), .val (.ref tx), .val (.int 1), .unset, .unset, .unset] [.int (5 : Nat).toInt32] := by
  refine W.istore at_202 (Put.s (Put.s (Put.s (Put.s (Put.s (Put.s (Put.s (Put.s (Put.s (Put.s (Put.s (Put.s (Put.s (Put.s (Put.s (Put.s Put.z)))))))))))))))) rfl rfl rfl ?_
  refine W.iload at_204 rfl rfl ?_
  refine W.ifc_eq at_206 (by decide) rfl rfl (fun p => ?_) (fun q => ?_)
  · exact absurd p (by decide)
  refine W.iload at_209 rfl rfl ?_
  refine W.iload at_211 rfl rfl ?_
  refine W.iconst at_213 own_ci_3 rfl ?_
  refine W.iadd at_214 rfl ?_
  refine W.icmp_ne at_215 (by decide) rfl rfl (fun p => ?_) (fun q => ?_)
  · exact absurd (by decide) p
  refine W.aload at_218 rfl rfl rfl ?_
  refine W.iload at_220 rfl rfl ?_
  refine W.baloadV (v := c0) at_222 Ar (by decide) rfl rfl ?_
  refine W.iload at_223 rfl rfl ?_
  refine W.icmp_ne at_225 (by decide) rfl rfl (fun p => ?_) (fun q => ?_)
  · exact absurd rfl p
  refine W.aload at_228 rfl rfl rfl ?_
  refine W.iload at_230 rfl rfl ?_
  refine W.iconst at_232 own_ci_1 rfl ?_
  refine W.iadd at_233 rfl ?_
  refine W.baloadV (v := 10) at_234 Ar (by decide) rfl rfl ?_
  refine W.bipush at_235 own_cb_10 rfl ?_
  refine W.icmp_ne at_237 (by decide) rfl rfl (fun p => ?_) (fun q => ?_)
  · exact absurd rfl p
  refine W.aload at_240 rfl rfl rfl ?_
  refine W.iload at_242 rfl rfl ?_
  refine W.iconst at_244 own_ci_2 rfl ?_
  refine W.iadd at_245 rfl ?_
  refine W.baloadV (v := c1) at_246 Ar (by decide) rfl rfl ?_
  refine W.iload at_247 rfl rfl ?_
  refine W.icmp_ne at_249 (by decide) rfl rfl (fun p => ?_) (fun q => ?_)
  · exact absurd rfl p
  refine W.aload at_252 rfl rfl rfl ?_
  refine W.iload at_254 rfl rfl ?_
  refine W.iconst at_256 own_ci_3 rfl ?_
  refine W.iadd at_257 rfl ?_
  refine W.baloadV (v := 0) at_258 Ar (by decide) rfl rfl ?_
  refine W.ifc_ne at_259 (by decide) rfl rfl (fun p => ?_) (fun q => ?_)
  · exact absurd rfl p
  refine W.iconst at_262 own_ci_1 rfl ?_
  refine W.goto at_263 (by decide) rfl ?_
  refine W.istore at_267 (Put.s (Put.s (Put.s (Put.s (Put.s (Put.s (Put.s (Put.s (Put.s (Put.s (Put.s (Put.s (Put.s (Put.s (Put.s (Put.s (Put.s Put.z))))))))))))))))) rfl rfl rfl ?_
  refine W.goto at_269 (by decide) rfl ?_
  refine W.iload at_334 rfl rfl ?_
  refine W.ifc_eq at_336 (by decide) rfl rfl (fun p => ?_) (fun q => ?_)
  · exact absurd p (by decide)
  refine W.aload at_339 rfl rfl rfl ?_
  refine W.iload at_341 rfl rfl ?_
  refine W.iconst at_343 own_ci_1 rfl ?_
  refine W.isub at_344 rfl ?_
  refine W.baloadV (v := 0) at_345 Ar (by decide) rfl rfl ?_
  refine W.ifc_ne at_346 (by decide) rfl rfl (fun p => ?_) (fun q => ?_)
  · exact absurd rfl p
  refine W.aload at_349 rfl rfl rfl ?_
  refine W.iload at_351 rfl rfl ?_
  refine W.iconst at_353 own_ci_4 rfl ?_
  refine W.iadd at_354 rfl ?_
  refine W.baloadV (v := 0) at_355 Ar (by decide) rfl rfl ?_
  refine W.ifc_ne at_356 (by decide) rfl rfl (fun p => ?_) (fun q => ?_)
  · exact absurd rfl p
  refine W.iconst at_359 own_ci_1 rfl ?_
  refine W.goto at_360 (by decide) rfl ?_
  refine W.istore at_364 (Put.s (Put.s (Put.s (Put.s (Put.s (Put.s (Put.s (Put.s (Put.s (Put.s (Put.s (Put.s (Put.s (Put.s (Put.s (Put.s (Put.s (Put.s Put.z)))))))))))))))))) rfl rfl rfl ?_
  refine W.iload at_366 rfl rfl ?_
  refine W.ifc_eq at_368 (by decide) rfl rfl (fun p => ?_) (fun q => ?_)
  · exact absurd p (by decide)
  refine W.iload at_371 rfl rfl ?_
  refine W.ifc_eq at_373 (by decide) rfl rfl (fun p => ?_) (fun q => ?_)
  · exact absurd p (by decide)
  refine W.iload at_376 rfl rfl ?_
  refine W.ifc_eq at_378 (by decide) rfl rfl (fun p => ?_) (fun q => ?_)
  · exact absurd p (by decide)
  refine W.iconst at_381 own_ci_1 rfl ?_
  refine W.goto at_382 (by decide) rfl ?_
  exact W.ireturnN at_386 rfl (Or.inl rfl) rfl rfl
theorem own_zE3 (l : Launch) (Z : State) (a0 : Array Value) (hw : ∀ d ∈ tables_1, d.before a0 Z = true) (h : Heap) (cc ss : Nat) (i0 i1 : Int32) (i2 : Int64) (i3 i4 c0 c1 : Int32) (fe : Bool) (ba oa ln tx : Addr) (ko : ClassId) (Ar : Arv Z h oa ko .byte 8 [.int 0, .int 0, .int 0, .int c0, .int 10, .int c1, .int 0, .int 0] (.int 0)) : W l Z Z.heap.size room_1 B0 (fun v _ => v = some (.int 1)) h cc ss 202 [.val (.int i0), .val (.int i1), .val (.long i2), .second, .val (.int i3), .val (.int i4), .val (.int c0), .val (.int c1), .val (.int (3 : Nat).toInt32), .val (.int (own_bi fe)), .val (.int (own_bi true)), .val (.ref ba), .val (.ref oa), .val (.ref ln), .val (.ref tx), .val (.int 1), .unset, .unset, .unset] [.int (6 : Nat).toInt32] := by
  refine W.istore at_202 (Put.s (Put.s (Put.s (Put.s (Put.s (Put.s (Put.s (Put.s (Put.s (Put.s (Put.s (Put.s (Put.s (Put.s (Put.s (Put.s Put.z)))))))))))))))) rfl rfl rfl ?_
  refine W.iload at_204 rfl rfl ?_
  refine W.ifc_eq at_206 (by decide) rfl rfl (fun p => ?_) (fun q => ?_)
  · exact absurd p (by decide)
  refine W.iload at_209 rfl rfl ?_
  refine W.iload at_211 rfl rfl ?_
  refine W.iconst at_213 own_ci_3 rfl ?_
  refine W.iadd at_214 rfl ?_
  refine W.icmp_ne at_215 (by decide) rfl rfl (fun p => ?_) (fun q => ?_)
  · exact absurd (by decide) p
  refine W.aload at_218 rfl rfl rfl ?_
  refine W.iload at_220 rfl rfl ?_
  refine W.baloadV (v := c0) at_222 Ar (by decide) rfl rfl ?_
  refine W.iload at_223 rfl rfl ?_
  refine W.icmp_ne at_225 (by decide) rfl rfl (fun p => ?_) (fun q => ?_)
  · exact absurd rfl p
  refine W.aload at_228 rfl rfl rfl ?_
  refine W.iload at_230 rfl rfl ?_
  refine W.iconst at_232 own_ci_1 rfl ?_
  refine W.iadd at_233 rfl ?_
  refine W.baloadV (v := 10) at_234 Ar (by decide) rfl rfl ?_
  refine W.bipush at_235 own_cb_10 rfl ?_
  refine W.icmp_ne at_237 (by decide) rfl rfl (fun p => ?_) (fun q => ?_)
  · exact absurd rfl p
  refine W.aload at_240 rfl rfl rfl ?_
  refine W.iload at_242 rfl rfl ?_
  refine W.iconst at_244 own_ci_2 rfl ?_
  refine W.iadd at_245 rfl ?_
  refine W.baloadV (v := c1) at_246 Ar (by decide) rfl rfl ?_
  refine W.iload at_247 rfl rfl ?_
  refine W.icmp_ne at_249 (by decide) rfl rfl (fun p => ?_) (fun q => ?_)
  · exact absurd rfl p
  refine W.aload at_252 rfl rfl rfl ?_
  refine W.iload at_254 rfl rfl ?_
  refine W.iconst at_256 own_ci_3 rfl ?_
  refine W.iadd at_257 rfl ?_
  refine W.baloadV (v := 0) at_258 Ar (by decide) rfl rfl ?_
  refine W.ifc_ne at_259 (by decide) rfl rfl (fun p => ?_) (fun q => ?_)
  · exact absurd rfl p
  refine W.iconst at_262 own_ci_1 rfl ?_
  refine W.goto at_263 (by decide) rfl ?_
  refine W.istore at_267 (Put.s (Put.s (Put.s (Put.s (Put.s (Put.s (Put.s (Put.s (Put.s (Put.s (Put.s (Put.s (Put.s (Put.s (Put.s (Put.s (Put.s Put.z))))))))))))))))) rfl rfl rfl ?_
  refine W.goto at_269 (by decide) rfl ?_
  refine W.iload at_334 rfl rfl ?_
  refine W.ifc_eq at_336 (by decide) rfl rfl (fun p => ?_) (fun q => ?_)
  · exact absurd p (by decide)
  refine W.aload at_339 rfl rfl rfl ?_
  refine W.iload at_341 rfl rfl ?_
  refine W.iconst at_343 own_ci_1 rfl ?_
  refine W.isub at_344 rfl ?_
  refine W.baloadV (v := 0) at_345 Ar (by decide) rfl rfl ?_
  refine W.ifc_ne at_346 (by decide) rfl rfl (fun p => ?_) (fun q => ?_)
  · exact absurd rfl p
  refine W.aload at_349 rfl rfl rfl ?_
  refine W.iload at_351 rfl rfl ?_
  refine W.iconst at_353 own_ci_4 rfl ?_
  refine W.iadd at_354 rfl ?_
  refine W.baloadV (v := 0) at_355 Ar (by decide) rfl rfl ?_
  refine W.ifc_ne at_356 (by decide) rfl rfl (fun p => ?_) (fun q => ?_)
  · exact absurd rfl p
  refine W.iconst at_359 own_ci_1 rfl ?_
  refine W.goto at_360 (by decide) rfl ?_
  refine W.istore at_364 (Put.s (Put.s (Put.s (Put.s (Put.s (Put.s (Put.s (Put.s (Put.s (Put.s (Put.s (Put.s (Put.s (Put.s (Put.s (Put.s (Put.s (Put.s Put.z)))))))))))))))))) rfl rfl rfl ?_
  refine W.iload at_366 rfl rfl ?_
  refine W.ifc_eq at_368 (by decide) rfl rfl (fun p => ?_) (fun q => ?_)
  · exact absurd p (by decide)
  refine W.iload at_371 rfl rfl ?_
  refine W.ifc_eq at_373 (by decide) rfl rfl (fun p => ?_) (fun q => ?_)
  · exact absurd p (by decide)
  refine W.iload at_376 rfl rfl ?_
  refine W.ifc_eq at_378 (by decide) rfl rfl (fun p => ?_) (fun q => ?_)
  · exact absurd p (by decide)
  refine W.iconst at_381 own_ci_1 rfl ?_
  refine W.goto at_382 (by decide) rfl ?_
  exact W.ireturnN at_386 rfl (Or.inl rfl) rfl rfl
theorem own_zN0 (l : Launch) (Z : State) (a0 : Array Value) (hw : ∀ d ∈ tables_1, d.before a0 Z = true) (h : Heap) (cc ss : Nat) (i0 i1 : Int32) (i2 : Int64) (i3 i4 c0 c1 : Int32) (fe : Bool) (ba oa ln tx : Addr) (ko : ClassId) (Ar : Arv Z h oa ko .byte 8 [.int c0, .int 92, .int 110, .int c1, .int 0, .int 0, .int 0, .int 0] (.int 0)) : W l Z Z.heap.size room_1 B0 (fun v _ => v = some (.int 1)) h cc ss 202 [.val (.int i0), .val (.int i1), .val (.long i2), .second, .val (.int i3), .val (.int i4), .val (.int c0), .val (.int c1), .val (.int (0 : Nat).toInt32), .val (.int (own_bi fe)), .val (.int (own_bi false)), .val (.ref ba), .val (.ref oa), .val (.ref ln), .val (.ref tx), .val (.int 1), .unset, .unset, .unset] [.int (4 : Nat).toInt32] := by
  refine W.istore at_202 (Put.s (Put.s (Put.s (Put.s (Put.s (Put.s (Put.s (Put.s (Put.s (Put.s (Put.s (Put.s (Put.s (Put.s (Put.s (Put.s Put.z)))))))))))))))) rfl rfl rfl ?_
  refine W.iload at_204 rfl rfl ?_
  refine W.ifc_eq at_206 (by decide) rfl rfl (fun p => ?_) (fun q => ?_)
  rotate_left
  · exact absurd rfl q
  refine W.iload at_272 rfl rfl ?_
  refine W.iload at_274 rfl rfl ?_
  refine W.iconst at_276 own_ci_4 rfl ?_
  refine W.iadd at_277 rfl ?_
  refine W.icmp_ne at_278 (by decide) rfl rfl (fun p => ?_) (fun q => ?_)
  · exact absurd (by decide) p
  refine W.aload at_281 rfl rfl rfl ?_
  refine W.iload at_283 rfl rfl ?_
  refine W.baloadV (v := c0) at_285 Ar (by decide) rfl rfl ?_
  refine W.iload at_286 rfl rfl ?_
  refine W.icmp_ne at_288 (by decide) rfl rfl (fun p => ?_) (fun q => ?_)
  · exact absurd rfl p
  refine W.aload at_291 rfl rfl rfl ?_
  refine W.iload at_293 rfl rfl ?_
  refine W.iconst at_295 own_ci_1 rfl ?_
  refine W.iadd at_296 rfl ?_
  refine W.baloadV (v := 92) at_297 Ar (by decide) rfl rfl ?_
  refine W.bipush at_298 own_cb_92 rfl ?_
  refine W.icmp_ne at_300 (by decide) rfl rfl (fun p => ?_) (fun q => ?_)
  · exact absurd rfl p
  refine W.aload at_303 rfl rfl rfl ?_
  refine W.iload at_305 rfl rfl ?_
  refine W.iconst at_307 own_ci_2 rfl ?_
  refine W.iadd at_308 rfl ?_
  refine W.baloadV (v := 110) at_309 Ar (by decide) rfl rfl ?_
  refine W.bipush at_310 own_cb_110 rfl ?_
  refine W.icmp_ne at_312 (by decide) rfl rfl (fun p => ?_) (fun q => ?_)
  · exact absurd rfl p
  refine W.aload at_315 rfl rfl rfl ?_
  refine W.iload at_317 rfl rfl ?_
  refine W.iconst at_319 own_ci_3 rfl ?_
  refine W.iadd at_320 rfl ?_
  refine W.baloadV (v := c1) at_321 Ar (by decide) rfl rfl ?_
  refine W.iload at_322 rfl rfl ?_
  refine W.icmp_ne at_324 (by decide) rfl rfl (fun p => ?_) (fun q => ?_)
  · exact absurd rfl p
  refine W.iconst at_327 own_ci_1 rfl ?_
  refine W.goto at_328 (by decide) rfl ?_
  refine W.istore at_332 (Put.s (Put.s (Put.s (Put.s (Put.s (Put.s (Put.s (Put.s (Put.s (Put.s (Put.s (Put.s (Put.s (Put.s (Put.s (Put.s (Put.s Put.z))))))))))))))))) rfl rfl rfl ?_
  refine W.iload at_334 rfl rfl ?_
  refine W.ifc_eq at_336 (by decide) rfl rfl (fun p => ?_) (fun q => ?_)
  rotate_left
  · exact absurd (by decide) q
  refine W.aload at_349 rfl rfl rfl ?_
  refine W.iload at_351 rfl rfl ?_
  refine W.iconst at_353 own_ci_4 rfl ?_
  refine W.iadd at_354 rfl ?_
  refine W.baloadV (v := 0) at_355 Ar (by decide) rfl rfl ?_
  refine W.ifc_ne at_356 (by decide) rfl rfl (fun p => ?_) (fun q => ?_)
  · exact absurd rfl p
  refine W.iconst at_359 own_ci_1 rfl ?_
  refine W.goto at_360 (by decide) rfl ?_
  refine W.istore at_364 (Put.s (Put.s (Put.s (Put.s (Put.s (Put.s (Put.s (Put.s (Put.s (Put.s (Put.s (Put.s (Put.s (Put.s (Put.s (Put.s (Put.s (Put.s Put.z)))))))))))))))))) rfl rfl rfl ?_
  refine W.iload at_366 rfl rfl ?_
  refine W.ifc_eq at_368 (by decide) rfl rfl (fun p => ?_) (fun q => ?_)
  · exact absurd p (by decide)
  refine W.iload at_371 rfl rfl ?_
  refine W.ifc_eq at_373 (by decide) rfl rfl (fun p => ?_) (fun q => ?_)
  · exact absurd p (by decide)
  refine W.iload at_376 rfl rfl ?_
  refine W.ifc_eq at_378 (by decide) rfl rfl (fun p => ?_) (fun q => ?_)
  · exact absurd p (by decide)
  refine W.iconst at_381 own_ci_1 rfl ?_
  refine W.goto at_382 (by decide) rfl ?_
  exact W.ireturnN at_386 rfl (Or.inl rfl) rfl rfl
theorem own_zN1 (l : Launch) (Z : State) (a0 : Array Value) (hw : ∀ d ∈ tables_1, d.before a0 Z = true) (h : Heap) (cc ss : Nat) (i0 i1 : Int32) (i2 : Int64) (i3 i4 c0 c1 : Int32) (fe : Bool) (ba oa ln tx : Addr) (ko : ClassId) (Ar : Arv Z h oa ko .byte 8 [.int 0, .int c0, .int 92, .int 110, .int c1, .int 0, .int 0, .int 0] (.int 0)) : W l Z Z.heap.size room_1 B0 (fun v _ => v = some (.int 1)) h cc ss 202 [.val (.int i0), .val (.int i1), .val (.long i2), .second, .val (.int i3), .val (.int i4), .val (.int c0), .val (.int c1), .val (.int (1 : Nat).toInt32), .val (.int (own_bi fe)), .val (.int (own_bi false)), .val (.ref ba), .val (.ref oa), .val (.ref ln), .val (.ref tx), .val (.int 1), .unset, .unset, .unset] [.int (5 : Nat).toInt32] := by
  refine W.istore at_202 (Put.s (Put.s (Put.s (Put.s (Put.s (Put.s (Put.s (Put.s (Put.s (Put.s (Put.s (Put.s (Put.s (Put.s (Put.s (Put.s Put.z)))))))))))))))) rfl rfl rfl ?_
  refine W.iload at_204 rfl rfl ?_
  refine W.ifc_eq at_206 (by decide) rfl rfl (fun p => ?_) (fun q => ?_)
  rotate_left
  · exact absurd rfl q
  refine W.iload at_272 rfl rfl ?_
  refine W.iload at_274 rfl rfl ?_
  refine W.iconst at_276 own_ci_4 rfl ?_
  refine W.iadd at_277 rfl ?_
  refine W.icmp_ne at_278 (by decide) rfl rfl (fun p => ?_) (fun q => ?_)
  · exact absurd (by decide) p
  refine W.aload at_281 rfl rfl rfl ?_
  refine W.iload at_283 rfl rfl ?_
  refine W.baloadV (v := c0) at_285 Ar (by decide) rfl rfl ?_
  refine W.iload at_286 rfl rfl ?_
  refine W.icmp_ne at_288 (by decide) rfl rfl (fun p => ?_) (fun q => ?_)
  · exact absurd rfl p
  refine W.aload at_291 rfl rfl rfl ?_
  refine W.iload at_293 rfl rfl ?_
  refine W.iconst at_295 own_ci_1 rfl ?_
  refine W.iadd at_296 rfl ?_
  refine W.baloadV (v := 92) at_297 Ar (by decide) rfl rfl ?_
  refine W.bipush at_298 own_cb_92 rfl ?_
  refine W.icmp_ne at_300 (by decide) rfl rfl (fun p => ?_) (fun q => ?_)
  · exact absurd rfl p
  refine W.aload at_303 rfl rfl rfl ?_
  refine W.iload at_305 rfl rfl ?_
  refine W.iconst at_307 own_ci_2 rfl ?_
  refine W.iadd at_308 rfl ?_
  refine W.baloadV (v := 110) at_309 Ar (by decide) rfl rfl ?_
  refine W.bipush at_310 own_cb_110 rfl ?_
  refine W.icmp_ne at_312 (by decide) rfl rfl (fun p => ?_) (fun q => ?_)
  · exact absurd rfl p
  refine W.aload at_315 rfl rfl rfl ?_
  refine W.iload at_317 rfl rfl ?_
  refine W.iconst at_319 own_ci_3 rfl ?_
  refine W.iadd at_320 rfl ?_
  refine W.baloadV (v := c1) at_321 Ar (by decide) rfl rfl ?_
  refine W.iload at_322 rfl rfl ?_
  refine W.icmp_ne at_324 (by decide) rfl rfl (fun p => ?_) (fun q => ?_)
  · exact absurd rfl p
  refine W.iconst at_327 own_ci_1 rfl ?_
  refine W.goto at_328 (by decide) rfl ?_
  refine W.istore at_332 (Put.s (Put.s (Put.s (Put.s (Put.s (Put.s (Put.s (Put.s (Put.s (Put.s (Put.s (Put.s (Put.s (Put.s (Put.s (Put.s (Put.s Put.z))))))))))))))))) rfl rfl rfl ?_
  refine W.iload at_334 rfl rfl ?_
  refine W.ifc_eq at_336 (by decide) rfl rfl (fun p => ?_) (fun q => ?_)
  · exact absurd p (by decide)
  refine W.aload at_339 rfl rfl rfl ?_
  refine W.iload at_341 rfl rfl ?_
  refine W.iconst at_343 own_ci_1 rfl ?_
  refine W.isub at_344 rfl ?_
  refine W.baloadV (v := 0) at_345 Ar (by decide) rfl rfl ?_
  refine W.ifc_ne at_346 (by decide) rfl rfl (fun p => ?_) (fun q => ?_)
  · exact absurd rfl p
  refine W.aload at_349 rfl rfl rfl ?_
  refine W.iload at_351 rfl rfl ?_
  refine W.iconst at_353 own_ci_4 rfl ?_
  refine W.iadd at_354 rfl ?_
  refine W.baloadV (v := 0) at_355 Ar (by decide) rfl rfl ?_
  refine W.ifc_ne at_356 (by decide) rfl rfl (fun p => ?_) (fun q => ?_)
  · exact absurd rfl p
  refine W.iconst at_359 own_ci_1 rfl ?_
  refine W.goto at_360 (by decide) rfl ?_
  refine W.istore at_364 (Put.s (Put.s (Put.s (Put.s (Put.s (Put.s (Put.s (Put.s (Put.s (Put.s (Put.s (Put.s (Put.s (Put.s (Put.s (Put.s (Put.s (Put.s Put.z)))))))))))))))))) rfl rfl rfl ?_
  refine W.iload at_366 rfl rfl ?_
  refine W.ifc_eq at_368 (by decide) rfl rfl (fun p => ?_) (fun q => ?_)
  · exact absurd p (by decide)
  refine W.iload at_371 rfl rfl ?_
  refine W.ifc_eq at_373 (by decide) rfl rfl (fun p => ?_) (fun q => ?_)
  · exact absurd p (by decide)
  refine W.iload at_376 rfl rfl ?_
  refine W.ifc_eq at_378 (by decide) rfl rfl (fun p => ?_) (fun q => ?_)
  · exact absurd p (by decide)
  refine W.iconst at_381 own_ci_1 rfl ?_
  refine W.goto at_382 (by decide) rfl ?_
  exact W.ireturnN at_386 rfl (Or.inl rfl) rfl rfl
theorem own_zN2 (l : Launch) (Z : State) (a0 : Array Value) (hw : ∀ d ∈ tables_1, d.before a0 Z = true) (h : Heap) (cc ss : Nat) (i0 i1 : Int32) (i2 : Int64) (i3 i4 c0 c1 : Int32) (fe : Bool) (ba oa ln tx : Addr) (ko : ClassId) (Ar : Arv Z h oa ko .byte 8 [.int 0, .int 0, .int c0, .int 92, .int 110, .int c1, .int 0, .int 0] (.int 0)) : W l Z Z.heap.size room_1 B0 (fun v _ => v = some (.int 1)) h cc ss 202 [.val (.int i0), .val (.int i1), .val (.long i2), .second, .val (.int i3), .val (.int i4), .val (.int c0), .val (.int c1), .val (.int (2 : Nat).toInt32), .val (.int (own_bi fe)), .val (.int (own_bi false)), .val (.ref ba), .val (.ref oa), .val (.ref ln), .val (.ref tx), .val (.int 1), .unset, .unset, .unset] [.int (6 : Nat).toInt32] := by
  refine W.istore at_202 (Put.s (Put.s (Put.s (Put.s (Put.s (Put.s (Put.s (Put.s (Put.s (Put.s (Put.s (Put.s (Put.s (Put.s (Put.s (Put.s Put.z)))))))))))))))) rfl rfl rfl ?_
  refine W.iload at_204 rfl rfl ?_
  refine W.ifc_eq at_206 (by decide) rfl rfl (fun p => ?_) (fun q => ?_)
  rotate_left
  · exact absurd rfl q
  refine W.iload at_272 rfl rfl ?_
  refine W.iload at_274 rfl rfl ?_
  refine W.iconst at_276 own_ci_4 rfl ?_
  refine W.iadd at_277 rfl ?_
  refine W.icmp_ne at_278 (by decide) rfl rfl (fun p => ?_) (fun q => ?_)
  · exact absurd (by decide) p
  refine W.aload at_281 rfl rfl rfl ?_
  refine W.iload at_283 rfl rfl ?_
  refine W.baloadV (v := c0) at_285 Ar (by decide) rfl rfl ?_
  refine W.iload at_286 rfl rfl ?_
  refine W.icmp_ne at_288 (by decide) rfl rfl (fun p => ?_) (fun q => ?_)
  · exact absurd rfl p
  refine W.aload at_291 rfl rfl rfl ?_
  refine W.iload at_293 rfl rfl ?_
  refine W.iconst at_295 own_ci_1 rfl ?_
  refine W.iadd at_296 rfl ?_
  refine W.baloadV (v := 92) at_297 Ar (by decide) rfl rfl ?_
  refine W.bipush at_298 own_cb_92 rfl ?_
  refine W.icmp_ne at_300 (by decide) rfl rfl (fun p => ?_) (fun q => ?_)
  · exact absurd rfl p
  refine W.aload at_303 rfl rfl rfl ?_
  refine W.iload at_305 rfl rfl ?_
  refine W.iconst at_307 own_ci_2 rfl ?_
  refine W.iadd at_308 rfl ?_
  refine W.baloadV (v := 110) at_309 Ar (by decide) rfl rfl ?_
  refine W.bipush at_310 own_cb_110 rfl ?_
  refine W.icmp_ne at_312 (by decide) rfl rfl (fun p => ?_) (fun q => ?_)
  · exact absurd rfl p
  refine W.aload at_315 rfl rfl rfl ?_
  refine W.iload at_317 rfl rfl ?_
  refine W.iconst at_319 own_ci_3 rfl ?_
  refine W.iadd at_320 rfl ?_
  refine W.baloadV (v := c1) at_321 Ar (by decide) rfl rfl ?_
  refine W.iload at_322 rfl rfl ?_
  refine W.icmp_ne at_324 (by decide) rfl rfl (fun p => ?_) (fun q => ?_)
  · exact absurd rfl p
  refine W.iconst at_327 own_ci_1 rfl ?_
  refine W.goto at_328 (by decide) rfl ?_
  refine W.istore at_332 (Put.s (Put.s (Put.s (Put.s (Put.s (Put.s (Put.s (Put.s (Put.s (Put.s (Put.s (Put.s (Put.s (Put.s (Put.s (Put.s (Put.s Put.z))))))))))))))))) rfl rfl rfl ?_
  refine W.iload at_334 rfl rfl ?_
  refine W.ifc_eq at_336 (by decide) rfl rfl (fun p => ?_) (fun q => ?_)
  · exact absurd p (by decide)
  refine W.aload at_339 rfl rfl rfl ?_
  refine W.iload at_341 rfl rfl ?_
  refine W.iconst at_343 own_ci_1 rfl ?_
  refine W.isub at_344 rfl ?_
  refine W.baloadV (v := 0) at_345 Ar (by decide) rfl rfl ?_
  refine W.ifc_ne at_346 (by decide) rfl rfl (fun p => ?_) (fun q => ?_)
  · exact absurd rfl p
  refine W.aload at_349 rfl rfl rfl ?_
  refine W.iload at_351 rfl rfl ?_
  refine W.iconst at_353 own_ci_4 rfl ?_
  refine W.iadd at_354 rfl ?_
  refine W.baloadV (v := 0) at_355 Ar (by decide) rfl rfl ?_
  refine W.ifc_ne at_356 (by decide) rfl rfl (fun p => ?_) (fun q => ?_)
  · exact absurd rfl p
  refine W.iconst at_359 own_ci_1 rfl ?_
  refine W.goto at_360 (by decide) rfl ?_
  refine W.istore at_364 (Put.s (Put.s (Put.s (Put.s (Put.s (Put.s (Put.s (Put.s (Put.s (Put.s (Put.s (Put.s (Put.s (Put.s (Put.s (Put.s (Put.s (Put.s Put.z)))))))))))))))))) rfl rfl rfl ?_
  refine W.iload at_366 rfl rfl ?_
  refine W.ifc_eq at_368 (by decide) rfl rfl (fun p => ?_) (fun q => ?_)
  · exact absurd p (by decide)
  refine W.iload at_371 rfl rfl ?_
  refine W.ifc_eq at_373 (by decide) rfl rfl (fun p => ?_) (fun q => ?_)
  · exact absurd p (by decide)
  refine W.iload at_376 rfl rfl ?_
  refine W.ifc_eq at_378 (by decide) rfl rfl (fun p => ?_) (fun q => ?_)
  · exact absurd p (by decide)
  refine W.iconst at_381 own_ci_1 rfl ?_
  refine W.goto at_382 (by decide) rfl ?_
  exact W.ireturnN at_386 rfl (Or.inl rfl) rfl rfl
theorem own_zN3 (l : Launch) (Z : State) (a0 : Array Value) (hw : ∀ d ∈ tables_1, d.before a0 Z = true) (h : Heap) (cc ss : Nat) (i0 i1 : Int32) (i2 : Int64) (i3 i4 c0 c1 : Int32) (fe : Bool) (ba oa ln tx : Addr) (ko : ClassId) (Ar : Arv Z h oa ko .byte 8 [.int 0, .int 0, .int 0, .int c0, .int 92, .int 110, .int c1, .int 0] (.int 0)) : W l Z Z.heap.size room_1 B0 (fun v _ => v = some (.int 1)) h cc ss 202 [.val (.int i0), .val (.int i1), .val (.long i2), .second, .val (.int i3), .val (.int i4), .val (.int c0), .val (.int c1), .val (.int (3 : Nat).toInt32), .val (.int (own_bi fe)), .val (.int (own_bi false)), .val (.ref ba), .val (.ref oa), .val (.ref ln), .val (.ref tx), .val (.int 1), .unset, .unset, .unset] [.int (7 : Nat).toInt32] := by
  refine W.istore at_202 (Put.s (Put.s (Put.s (Put.s (Put.s (Put.s (Put.s (Put.s (Put.s (Put.s (Put.s (Put.s (Put.s (Put.s (Put.s (Put.s Put.z)))))))))))))))) rfl rfl rfl ?_
  refine W.iload at_204 rfl rfl ?_
  refine W.ifc_eq at_206 (by decide) rfl rfl (fun p => ?_) (fun q => ?_)
  rotate_left
  · exact absurd rfl q
  refine W.iload at_272 rfl rfl ?_
  refine W.iload at_274 rfl rfl ?_
  refine W.iconst at_276 own_ci_4 rfl ?_
  refine W.iadd at_277 rfl ?_
  refine W.icmp_ne at_278 (by decide) rfl rfl (fun p => ?_) (fun q => ?_)
  · exact absurd (by decide) p
  refine W.aload at_281 rfl rfl rfl ?_
  refine W.iload at_283 rfl rfl ?_
  refine W.baloadV (v := c0) at_285 Ar (by decide) rfl rfl ?_
  refine W.iload at_286 rfl rfl ?_
  refine W.icmp_ne at_288 (by decide) rfl rfl (fun p => ?_) (fun q => ?_)
  · exact absurd rfl p
  refine W.aload at_291 rfl rfl rfl ?_
  refine W.iload at_293 rfl rfl ?_
  refine W.iconst at_295 own_ci_1 rfl ?_
  refine W.iadd at_296 rfl ?_
  refine W.baloadV (v := 92) at_297 Ar (by decide) rfl rfl ?_
  refine W.bipush at_298 own_cb_92 rfl ?_
  refine W.icmp_ne at_300 (by decide) rfl rfl (fun p => ?_) (fun q => ?_)
  · exact absurd rfl p
  refine W.aload at_303 rfl rfl rfl ?_
  refine W.iload at_305 rfl rfl ?_
  refine W.iconst at_307 own_ci_2 rfl ?_
  refine W.iadd at_308 rfl ?_
  refine W.baloadV (v := 110) at_309 Ar (by decide) rfl rfl ?_
  refine W.bipush at_310 own_cb_110 rfl ?_
  refine W.icmp_ne at_312 (by decide) rfl rfl (fun p => ?_) (fun q => ?_)
  · exact absurd rfl p
  refine W.aload at_315 rfl rfl rfl ?_
  refine W.iload at_317 rfl rfl ?_
  refine W.iconst at_319 own_ci_3 rfl ?_
  refine W.iadd at_320 rfl ?_
  refine W.baloadV (v := c1) at_321 Ar (by decide) rfl rfl ?_
  refine W.iload at_322 rfl rfl ?_
  refine W.icmp_ne at_324 (by decide) rfl rfl (fun p => ?_) (fun q => ?_)
  · exact absurd rfl p
  refine W.iconst at_327 own_ci_1 rfl ?_
  refine W.goto at_328 (by decide) rfl ?_
  refine W.istore at_332 (Put.s (Put.s (Put.s (Put.s (Put.s (Put.s (Put.s (Put.s (Put.s (Put.s (Put.s (Put.s (Put.s (Put.s (Put.s (Put.s (Put.s Put.z))))))))))))))))) rfl rfl rfl ?_
  refine W.iload at_334 rfl rfl ?_
  refine W.ifc_eq at_336 (by decide) rfl rfl (fun p => ?_) (fun q => ?_)
  · exact absurd p (by decide)
  refine W.aload at_339 rfl rfl rfl ?_
  refine W.iload at_341 rfl rfl ?_
  refine W.iconst at_343 own_ci_1 rfl ?_
  refine W.isub at_344 rfl ?_
  refine W.baloadV (v := 0) at_345 Ar (by decide) rfl rfl ?_
  refine W.ifc_ne at_346 (by decide) rfl rfl (fun p => ?_) (fun q => ?_)
  · exact absurd rfl p
  refine W.aload at_349 rfl rfl rfl ?_
  refine W.iload at_351 rfl rfl ?_
  refine W.iconst at_353 own_ci_4 rfl ?_
  refine W.iadd at_354 rfl ?_
  refine W.baloadV (v := 0) at_355 Ar (by decide) rfl rfl ?_
  refine W.ifc_ne at_356 (by decide) rfl rfl (fun p => ?_) (fun q => ?_)
  · exact absurd rfl p
  refine W.iconst at_359 own_ci_1 rfl ?_
  refine W.goto at_360 (by decide) rfl ?_
  refine W.istore at_364 (Put.s (Put.s (Put.s (Put.s (Put.s (Put.s (Put.s (Put.s (Put.s (Put.s (Put.s (Put.s (Put.s (Put.s (Put.s (Put.s (Put.s (Put.s Put.z)))))))))))))))))) rfl rfl rfl ?_
  refine W.iload at_366 rfl rfl ?_
  refine W.ifc_eq at_368 (by decide) rfl rfl (fun p => ?_) (fun q => ?_)
  · exact absurd p (by decide)
  refine W.iload at_371 rfl rfl ?_
  refine W.ifc_eq at_373 (by decide) rfl rfl (fun p => ?_) (fun q => ?_)
  · exact absurd p (by decide)
  refine W.iload at_376 rfl rfl ?_
  refine W.ifc_eq at_378 (by decide) rfl rfl (fun p => ?_) (fun q => ?_)
  · exact absurd p (by decide)
  refine W.iconst at_381 own_ci_1 rfl ?_
  refine W.goto at_382 (by decide) rfl ?_
  exact W.ireturnN at_386 rfl (Or.inl rfl) rfl rfl
theorem own_t177 (l : Launch) (Z : State) (a0 : Array Value) (hw : ∀ d ∈ tables_1, d.before a0 Z = true) (h : Heap) (i0 i1 : Int32) (i2 : Int64) (i3 i4 c0 c1 : Int32) (fe es : Bool) (ba oa ln tx p g : Addr) (ko kp kg : ClassId) (k : Nat) (hk : k ≤ 3) (e' : Int32) (S : own_L Z h ln p g kp kg 4 [.int c0, .int 92, .int 110, .int c1]) (T : own_T Z h tx (.ref ln) i0 i1 e' i2 i3) (Ar : Arv Z h oa ko .byte 8 [.int 0, .int 0, .int 0, .int 0, .int 0, .int 0, .int 0, .int 0] (.int 0)) (b0 : c0.toInt8.toInt32 = c0) (b1 : c1.toInt8.toInt32 = c1) (n0' : ¬ c0 = 92) (n1' : ¬ c1 = 92) (ho : Z.heap.size ≤ oa) (ht : Z.heap.size ≤ tx) (d1 : ln ≠ oa) (d2 : p ≠ oa) (d3 : g ≠ oa) (d4 : tx ≠ oa) (f1 : ln ≠ tx) (f2 : p ≠ tx) (f3 : g ≠ tx) :
    W l Z Z.heap.size room_1 B0 (fun v _ => v = some (.int 1)) h 6 16405 177 [.val (.int i0), .val (.int i1), .val (.long i2), .second, .val (.int i3), .val (.int i4), .val (.int c0), .val (.int c1), .val (.int (k : Nat).toInt32), .val (.int (own_bi fe)), .val (.int (own_bi es)), .val (.ref ba), .val (.ref oa), .val (.ref ln), .val (.ref tx), .unset, .unset, .unset, .unset] [.int 1] := by
  refine W.istore at_177 (Put.s (Put.s (Put.s (Put.s (Put.s (Put.s (Put.s (Put.s (Put.s (Put.s (Put.s (Put.s (Put.s (Put.s (Put.s Put.z))))))))))))))) rfl rfl rfl ?_
  refine W.aload at_179 rfl rfl rfl ?_
  refine W.aload at_181 rfl rfl rfl ?_
  refine W.iconst at_183 own_ci_0 rfl ?_
  refine W.iconst at_184 own_ci_4 rfl ?_
  refine W.iload at_185 rfl rfl ?_
  refine W.lloadN at_187 rfl rfl ?_
  refine W.iload at_188 rfl rfl ?_
  refine W.callV_N (B' := B6) (argsL := [_, _, _, _, _, _]) at_190 (hw _ (List.mem_of_getElem? (i := 37) rfl)) (hw _ (List.mem_of_getElem? (i := 38) rfl)) (hw _ (List.mem_of_getElem? (i := 40) rfl)) (hw _ (List.mem_of_getElem? (i := 39) rfl)) (hw _ (List.mem_of_getElem? (i := 32) rfl)) (hw _ (List.mem_of_getElem? (i := 41) rfl)) rfl T.1 (own_c6 l Z a0 hw _ h tx ln _ _ _ _ _ _ 0 4 i3 es i2 ht T) own_pf6 (by decide) own_pd6 rfl rfl rfl (fun m => by first | (simp [entryFrame, mkF, argsToLocals, Value.category]; done) | rfl) rfl rfl rfl rfl rfl rfl (fun h1 hh => ?_)
  obtain ⟨K1, T1⟩ := hh
  have S1 := S.keep K1 ⟨ninS f1 nin0, ninS f2 nin0, ninS f3 nin0⟩
  have A1 := Ar.keep K1 (ninS (Ne.symm d4) nin0)
  refine W.aload at_193 rfl rfl rfl ?_
  refine W.aload at_195 rfl rfl rfl ?_
  refine W.iload at_197 rfl rfl ?_
  cases es
  · refine W.callV_I (B' := B10) (argsL := [_, _]) at_199 (hw _ (List.mem_of_getElem? (i := 69) rfl)) (hw _ (List.mem_of_getElem? (i := 70) rfl)) (hw _ (List.mem_of_getElem? (i := 72) rfl)) (hw _ (List.mem_of_getElem? (i := 71) rfl)) (hw _ (List.mem_of_getElem? (i := 32) rfl)) (hw _ (List.mem_of_getElem? (i := 73) rfl)) rfl T1.1 (own_c10N l Z a0 hw _ h1 ln p g kp kg c0 92 110 c1 S1 tx i3 i2 T1 oa ko _ k A1 rfl ho hk) own_pf10 (by decide) own_pd10 rfl rfl rfl (fun m => by first | (simp [entryFrame, mkF, argsToLocals, Value.category]; done) | rfl) rfl rfl rfl rfl rfl rfl (fun v h2 hh => ?_)
    obtain ⟨hv, K2, A2⟩ := hh
    rw [hv]
    rcases (by omega : k = 0 ∨ k = 1 ∨ k = 2 ∨ k = 3) with rfl | rfl | rfl | rfl
    · exact own_zN0 l Z a0 hw h2 _ _ i0 i1 i2 i3 i4 c0 c1 fe ba oa ln tx ko A2
    · exact own_zN1 l Z a0 hw h2 _ _ i0 i1 i2 i3 i4 c0 c1 fe ba oa ln tx ko A2
    · exact own_zN2 l Z a0 hw h2 _ _ i0 i1 i2 i3 i4 c0 c1 fe ba oa ln tx ko A2
    · exact own_zN3 l Z a0 hw h2 _ _ i0 i1 i2 i3 i4 c0 c1 fe ba oa ln tx ko A2
  · refine W.callV_I (B' := B10) (argsL := [_, _]) at_199 (hw _ (List.mem_of_getElem? (i := 69) rfl)) (hw _ (List.mem_of_getElem? (i := 70) rfl)) (hw _ (List.mem_of_getElem? (i := 72) rfl)) (hw _ (List.mem_of_getElem? (i := 71) rfl)) (hw _ (List.mem_of_getElem? (i := 32) rfl)) (hw _ (List.mem_of_getElem? (i := 73) rfl)) rfl T1.1 (own_c10E l Z a0 hw _ h1 ln p g kp kg c0 92 110 c1 S1 b0 (by decide) (by decide) b1 tx i3 i2 T1 oa ko _ k A1 rfl ho n0' rfl rfl n1' hk d1 d2 d3 d4) own_pf10 (by decide) own_pd10 rfl rfl rfl (fun m => by first | (simp [entryFrame, mkF, argsToLocals, Value.category]; done) | rfl) rfl rfl rfl rfl rfl rfl (fun v h2 hh => ?_)
    obtain ⟨hv, K2, A2⟩ := hh
    rw [hv]
    rcases (by omega : k = 0 ∨ k = 1 ∨ k = 2 ∨ k = 3) with rfl | rfl | rfl | rfl
    · exact own_zE0 l Z a0 hw h2 _ _ i0 i1 i2 i3 i4 c0 c1 fe ba oa ln tx ko A2
    · exact own_zE1 l Z a0 hw h2 _ _ i0 i1 i2 i3 i4 c0 c1 fe ba oa ln tx ko A2
    · exact own_zE2 l Z a0 hw h2 _ _ i0 i1 i2 i3 i4 c0 c1 fe ba oa ln tx ko A2
    · exact own_zE3 l Z a0 hw h2 _ _ i0 i1 i2 i3 i4 c0 c1 fe ba oa ln tx ko A2
theorem own_t62 (l : Launch) (Z : State) (a0 : Array Value) (hw : ∀ d ∈ tables_1, d.before a0 Z = true) (i0 i1 : Int32) (i2 : Int64) (i3 i4 c0 c1 : Int32) (fe es : Bool) (k : Nat) (hk : k ≤ 3) (b0 : c0.toInt8.toInt32 = c0) (b1 : c1.toInt8.toInt32 = c1) (n0' : ¬ c0 = 92) (n1' : ¬ c1 = 92) :
    W l Z Z.heap.size room_1 B0 (fun v _ => v = some (.int 1)) Z.heap 0 0 62 [.val (.int i0), .val (.int i1), .val (.long i2), .second, .val (.int i3), .val (.int i4), .val (.int c0), .val (.int c1), .val (.int k.toInt32), .val (.int (own_bi fe)), .val (.int (own_bi es)), .unset, .unset, .unset, .unset, .unset, .unset, .unset, .unset] [] := by
  refine W.iconst at_62 own_ci_4 rfl ?_
  refine W.newarrayV (ty := .byte) (ad := "[B") (cap := 4) at_63 rfl rfl (hw _ (List.mem_of_getElem? (i := 0) rfl)) (by decide) (by decide) (by decide) (by decide) (by decide) rfl (fun h1 kb X1 A1 E1 => ?_)
  have A1 : Arv Z h1 Z.heap.size kb .byte 4 [.int 0, .int 0, .int 0, .int 0] (.int 0) := A1.pad (pad_rep [] (.int 0) 4)
  refine W.dup at_65 rfl rfl ?_
  refine W.iconst at_66 own_ci_0 rfl ?_
  refine W.iload at_67 rfl rfl ?_
  refine W.bastoreV at_69 A1 (by decide) (ltb rfl) b0 (Nat.le_refl _) rfl (fun h2 W2 A1 => ?_)
  have A1 : Arv Z h2 Z.heap.size kb .byte 4 [.int c0, .int 0, .int 0, .int 0] (.int 0) := A1
  refine W.dup at_70 rfl rfl ?_
  refine W.iconst at_71 own_ci_1 rfl ?_
  refine W.bipush at_72 own_cb_92 rfl ?_
  refine W.bastoreV (x' := 92) at_74 A1 (by decide) (ltb rfl) (by decide) (Nat.le_refl _) rfl (fun h3 W3 A1 => ?_)
  have A1 : Arv Z h3 Z.heap.size kb .byte 4 [.int c0, .int 92, .int 0, .int 0] (.int 0) := A1
  refine W.dup at_75 rfl rfl ?_
  refine W.iconst at_76 own_ci_2 rfl ?_
  refine W.bipush at_77 own_cb_110 rfl ?_
  refine W.bastoreV (x' := 110) at_79 A1 (by decide) (ltb rfl) (by decide) (Nat.le_refl _) rfl (fun h4 W4 A1 => ?_)
  have A1 : Arv Z h4 Z.heap.size kb .byte 4 [.int c0, .int 92, .int 110, .int 0] (.int 0) := A1
  refine W.dup at_80 rfl rfl ?_
  refine W.iconst at_81 own_ci_3 rfl ?_
  refine W.iload at_82 rfl rfl ?_
  refine W.bastoreV at_84 A1 (by decide) (ltb rfl) b1 (Nat.le_refl _) rfl (fun h5 W5 A1 => ?_)
  have A1 : Arv Z h5 Z.heap.size kb .byte 4 [.int c0, .int 92, .int 110, .int c1] (.int 0) := A1
  have s5 : @LT.lt Nat _ Z.heap.size h5.size := A1.lt
  refine W.astore at_85 rfl (Put.s (Put.s (Put.s (Put.s (Put.s (Put.s (Put.s (Put.s (Put.s (Put.s (Put.s Put.z))))))))))) rfl rfl rfl ?_
  refine W.bipush at_87 own_cb_8 rfl ?_
  refine W.newarrayV (ty := .byte) (ad := "[B") (cap := 8) at_89 rfl rfl (hw _ (List.mem_of_getElem? (i := 0) rfl)) (by decide) (by decide) (by decide) (by decide) (by decide) rfl (fun h6 ko X6 A6 E6 => ?_)
  have A6 : Arv Z h6 h5.size ko .byte 8 [.int 0, .int 0, .int 0, .int 0, .int 0, .int 0, .int 0, .int 0] (.int 0) := A6.pad (pad_rep [] (.int 0) 8)
  have A1 := A1.ext X6
  have s6 : @LT.lt Nat _ h5.size h6.size := A6.lt
  refine W.astore at_91 rfl (Put.s (Put.s (Put.s (Put.s (Put.s (Put.s (Put.s (Put.s (Put.s (Put.s (Put.s (Put.s Put.z)))))))))))) rfl rfl rfl ?_
  refine W.newO at_93 (hw _ (List.mem_of_getElem? (i := 1) rfl)) (hw _ (List.mem_of_getElem? (i := 2) rfl)) (hw _ (List.mem_of_getElem? (i := 3) rfl)) (by decide) (by decide) rfl (fun h7 X7 E7 D7 => ?_)
  have F7 : Fld Z h7 h6.size own_JL "pieces" "[[B" .null := D7 (Or.inl (hw _ (List.mem_of_getElem? (i := 13) rfl))) (ty := .array (.array .byte)) (by decide)
  have G7 : Fld Z h7 h6.size own_JL "length" "I" (.int 0) := D7 (Or.inl (hw _ (List.mem_of_getElem? (i := 20) rfl))) (ty := .int) (by decide)
  have A1 := A1.ext X7
  have A6 := A6.ext X7
  have s7 : @LT.lt Nat _ h6.size h7.size := E7.lt
  refine W.dup at_96 rfl rfl ?_
  refine W.callI_N (B' := B1) (argsL := []) at_97 (hw _ (List.mem_of_getElem? (i := 4) rfl)) (hw _ (List.mem_of_getElem? (i := 5) rfl)) (hw _ (List.mem_of_getElem? (i := 3) rfl)) (hw _ (List.mem_of_getElem? (i := 6) rfl)) rfl (own_c1 l Z a0 hw _ h7 _ (by omega) E7 F7 G7) own_pf1 (by decide) own_pd1 rfl rfl rfl (fun m => by first | (simp [entryFrame, mkF, argsToLocals, Value.category]; done) | rfl) rfl rfl rfl rfl rfl rfl rfl rfl (fun h8 hh => ?_)
  obtain ⟨p, kp, K8, L8, P8, O8, s8⟩ := hh
  have A1 := A1.keep K8 (ninS (Nat.ne_of_lt (by omega)) nin0)
  have A6 := A6.keep K8 (ninS (Nat.ne_of_lt s6) nin0)
  have s8' : @LT.lt Nat _ p h8.size := P8.lt
  refine W.astore at_100 rfl (Put.s (Put.s (Put.s (Put.s (Put.s (Put.s (Put.s (Put.s (Put.s (Put.s (Put.s (Put.s (Put.s Put.z))))))))))))) rfl rfl rfl ?_
  refine W.aload at_102 rfl rfl rfl ?_
  refine W.aload at_104 rfl rfl rfl ?_
  refine W.iconst at_106 own_ci_0 rfl ?_
  refine W.iconst at_107 own_ci_4 rfl ?_
  refine W.callV_N (B' := B3) (argsL := [_, _, _]) at_108 (hw _ (List.mem_of_getElem? (i := 14) rfl)) (hw _ (List.mem_of_getElem? (i := 15) rfl)) (hw _ (List.mem_of_getElem? (i := 17) rfl)) (hw _ (List.mem_of_getElem? (i := 16) rfl)) (hw _ (List.mem_of_getElem? (i := 3) rfl)) (hw _ (List.mem_of_getElem? (i := 18) rfl)) rfl L8.1 (own_c3 l Z a0 hw _ h8 h6.size p Z.heap.size kp kb _ _ _ _ (by omega) (by omega) (by omega) (Nat.ne_of_lt (by omega)) L8 P8 O8 A1 (Nat.ne_of_lt (by omega))) own_pf3 (by decide) own_pd3 rfl rfl rfl (fun m => by first | (simp [entryFrame, mkF, argsToLocals, Value.category]; done) | rfl) rfl rfl rfl rfl rfl rfl (fun h9 hh => ?_)
  obtain ⟨g, kg, K9, S9, s9⟩ := hh
  have A6 := A6.keep K9 (ninS (Nat.ne_of_lt s6) (ninS (Nat.ne_of_lt (by omega)) nin0))
  have s9' : @LT.lt Nat _ g h9.size := S9.2.2.lt
  refine W.newO at_111 (hw _ (List.mem_of_getElem? (i := 30) rfl)) (hw _ (List.mem_of_getElem? (i := 31) rfl)) (hw _ (List.mem_of_getElem? (i := 32) rfl)) (by decide) (by decide) rfl (fun ha Xa Ea Da => ?_)
  have Ta : own_T Z ha h9.size .null 0 0 0 0 0 := ⟨Ea, Da (Or.inl (hw _ (List.mem_of_getElem? (i := 43) rfl))) (ty := .object "org/afterlog/internal/json/JsonLine") (by decide), Da (Or.inl (hw _ (List.mem_of_getElem? (i := 45) rfl))) (ty := .int) (by decide), Da (Or.inl (hw _ (List.mem_of_getElem? (i := 47) rfl))) (ty := .int) (by decide), Da (Or.inl (hw _ (List.mem_of_getElem? (i := 49) rfl))) (ty := .boolean) (by decide), Da (Or.inl (hw _ (List.mem_of_getElem? (i := 51) rfl))) (ty := .long) (by decide), Da (Or.inl (hw _ (List.mem_of_getElem? (i := 53) rfl))) (ty := .int) (by decide)⟩
  have S9 := S9.ext Xa
  have A6 := A6.ext Xa
  refine W.dup at_114 rfl rfl ?_
  refine W.callI_N (B' := B5) (argsL := []) at_115 (hw _ (List.mem_of_getElem? (i := 33) rfl)) (hw _ (List.mem_of_getElem? (i := 34) rfl)) (hw _ (List.mem_of_getElem? (i := 32) rfl)) (hw _ (List.mem_of_getElem? (i := 35) rfl)) rfl (own_c5 l Z a0 hw _ ha _) own_pf5 (by decide) own_pd5 rfl rfl rfl (fun m => by first | (simp [entryFrame, mkF, argsToLocals, Value.category]; done) | rfl) rfl rfl rfl rfl rfl rfl rfl rfl (fun hb' hh => ?_)
  subst hh
  refine W.astore at_118 rfl (Put.s (Put.s (Put.s (Put.s (Put.s (Put.s (Put.s (Put.s (Put.s (Put.s (Put.s (Put.s (Put.s (Put.s Put.z)))))))))))))) rfl rfl rfl ?_
  refine W.aload at_120 rfl rfl rfl ?_
  refine W.aload at_122 rfl rfl rfl ?_
  refine W.iloadN at_124 rfl rfl ?_
  refine W.iloadN at_125 rfl rfl ?_
  refine W.iload at_126 rfl rfl ?_
  refine W.lloadN at_128 rfl rfl ?_
  refine W.iload at_129 rfl rfl ?_
  refine W.callV_N (B' := B6) (argsL := [_, _, _, _, _, _]) at_131 (hw _ (List.mem_of_getElem? (i := 37) rfl)) (hw _ (List.mem_of_getElem? (i := 38) rfl)) (hw _ (List.mem_of_getElem? (i := 40) rfl)) (hw _ (List.mem_of_getElem? (i := 39) rfl)) (hw _ (List.mem_of_getElem? (i := 32) rfl)) (hw _ (List.mem_of_getElem? (i := 41) rfl)) rfl Ta.1 (own_c6 l Z a0 hw _ _ h9.size h6.size .null 0 0 0 0 0 i0 i1 i3 fe i2 (by omega) Ta) own_pf6 (by decide) own_pd6 rfl rfl rfl (fun m => by first | (simp [entryFrame, mkF, argsToLocals, Value.category]; done) | rfl) rfl rfl rfl rfl rfl rfl (fun hc hh => ?_)
  obtain ⟨Kc, Tc⟩ := hh
  have S9 := S9.keep Kc ⟨ninS (Nat.ne_of_lt (by omega)) nin0, ninS (Nat.ne_of_lt (by omega)) nin0, ninS (Nat.ne_of_lt (by omega)) nin0⟩
  have A6 := A6.keep Kc (ninS (Nat.ne_of_lt (by omega)) nin0)
  have fin := own_t177 l Z a0 hw hc i0 i1 i2 i3 i4 c0 c1 fe es Z.heap.size h5.size h6.size h9.size p g ko kp kg k hk _ S9 Tc A6 b0 b1 n0' n1' (by omega) (by omega) (Nat.ne_of_gt (by omega)) (Nat.ne_of_gt (by omega)) (Nat.ne_of_gt (by omega)) (Nat.ne_of_gt (by omega)) (Nat.ne_of_lt (by omega)) (Nat.ne_of_lt (by omega)) (Nat.ne_of_lt (by omega))
  refine W.aload at_134 rfl rfl rfl ?_
  refine W.callV_J (B' := B7) (argsL := []) at_136 (hw _ (List.mem_of_getElem? (i := 54) rfl)) (hw _ (List.mem_of_getElem? (i := 55) rfl)) (hw _ (List.mem_of_getElem? (i := 57) rfl)) (hw _ (List.mem_of_getElem? (i := 56) rfl)) (hw _ (List.mem_of_getElem? (i := 32) rfl)) (hw _ (List.mem_of_getElem? (i := 58) rfl)) rfl Tc.1 (own_c7 l Z a0 hw _ hc h9.size i2 Tc.2.2.2.2.2.1) own_pf7 (by decide) own_pd7 rfl rfl rfl (fun m => by first | (simp [entryFrame, mkF, argsToLocals, Value.category]; done) | rfl) rfl rfl rfl rfl rfl rfl (fun v h' hh => ?_)
  obtain ⟨hv, rfl⟩ := hh
  rw [hv]
  refine W.lloadN at_139 rfl rfl ?_
  refine W.lcmp at_140 rfl ?_
  refine W.ifc_ne at_141 (by decide) rfl rfl (fun p1 => ?_) (fun q1 => ?_)
  · exact absurd ((lw_eq _ _).mpr rfl) p1
  refine W.aload at_144 rfl rfl rfl ?_
  refine W.callV_I (B' := B8) (argsL := []) at_146 (hw _ (List.mem_of_getElem? (i := 59) rfl)) (hw _ (List.mem_of_getElem? (i := 60) rfl)) (hw _ (List.mem_of_getElem? (i := 62) rfl)) (hw _ (List.mem_of_getElem? (i := 61) rfl)) (hw _ (List.mem_of_getElem? (i := 32) rfl)) (hw _ (List.mem_of_getElem? (i := 63) rfl)) rfl Tc.1 (own_c8 l Z a0 hw _ _ h9.size i3 Tc.2.2.2.2.2.2) own_pf8 (by decide) own_pd8 rfl rfl rfl (fun m => by first | (simp [entryFrame, mkF, argsToLocals, Value.category]; done) | rfl) rfl rfl rfl rfl rfl rfl (fun v h' hh => ?_)
  obtain ⟨hv, rfl⟩ := hh
  rw [hv]
  refine W.iload at_149 rfl rfl ?_
  refine W.icmp_ne at_151 (by decide) rfl rfl (fun p2 => ?_) (fun q2 => ?_)
  · exact absurd rfl p2
  refine W.aload at_154 rfl rfl rfl ?_
  refine W.callV_I (B' := B9) (argsL := []) at_156 (hw _ (List.mem_of_getElem? (i := 64) rfl)) (hw _ (List.mem_of_getElem? (i := 65) rfl)) (hw _ (List.mem_of_getElem? (i := 67) rfl)) (hw _ (List.mem_of_getElem? (i := 66) rfl)) (hw _ (List.mem_of_getElem? (i := 32) rfl)) (hw _ (List.mem_of_getElem? (i := 68) rfl)) rfl Tc.1 (own_c9 l Z a0 hw _ _ h9.size i0 i1 Tc.2.2.1 Tc.2.2.2.1) own_pf9 (by decide) own_pd9 rfl rfl rfl (fun m => by first | (simp [entryFrame, mkF, argsToLocals, Value.category]; done) | rfl) rfl rfl rfl rfl rfl rfl (fun v h' hh => ?_)
  obtain ⟨hv, rfl⟩ := hh
  rw [hv]
  refine W.iloadN at_159 rfl rfl ?_
  refine W.iloadN at_160 rfl rfl ?_
  refine W.icmp_ne at_161 (by decide) rfl rfl (fun p3 => ?_) (fun q3 => ?_)
  · rw [decide_eq_false p3]
    refine W.iconst at_168 own_ci_0 rfl ?_
    refine W.icmp_ne at_169 (by decide) rfl rfl (fun p4 => ?_) (fun q4 => ?_)
    · exact absurd rfl p4
    refine W.iconst at_172 own_ci_1 rfl ?_
    refine W.goto at_173 (by decide) rfl ?_
    exact fin
  · rw [decide_eq_true q3]
    refine W.iconst at_164 own_ci_1 rfl ?_
    refine W.goto at_165 (by decide) rfl ?_
    refine W.icmp_ne at_169 (by decide) rfl rfl (fun p4 => ?_) (fun q4 => ?_)
    · exact absurd rfl p4
    refine W.iconst at_172 own_ci_1 rfl ?_
    refine W.goto at_173 (by decide) rfl ?_
    exact fin
theorem own_b63 (z : Int32) : (z &&& 63).toInt8.toInt32 = z &&& 63 ∧ ¬ (z &&& 63) = 92 := by
  have h := maskk z 63 6 (by decide) (by decide)
  have h1 := Int.emod_nonneg z.toInt (b := 2 ^ 6) (by decide)
  have h2 := Int.emod_lt_of_pos z.toInt (b := 2 ^ 6) (by decide)
  constructor
  · rw [eq32]
    simp only [Int8.toInt_toInt32, Int32.toInt_toInt8, h]
    rw [Int.bmod_eq_of_le (by omega) (by omega)]
  · rw [eq32, h]
    have : (92 : Int32).toInt = 92 := by decide
    omega
theorem own_law (l : Launch) (Z : State) (a0 : Array Value) (hw : ∀ d ∈ tables_1, d.before a0 Z = true) (i0 i1 : Int32) (i2 : Int64) (i3 i4 : Int32) : W l Z Z.heap.size room_1 B0 (fun v _ => v = some (.int 1)) Z.heap 0 0 0 [.val (.int i0), .val (.int i1), .val (.long i2), .second, .val (.int i3), .val (.int i4), .unset, .unset, .unset, .unset, .unset, .unset, .unset, .unset, .unset, .unset, .unset, .unset, .unset] [] := by
  refine W.iload at_0 rfl rfl ?_
  refine W.bipush at_2 own_cb_63 rfl ?_
  refine W.iand at_4 rfl ?_
  refine W.i2b at_5 rfl ?_
  refine W.istore at_6 (Put.s (Put.s (Put.s (Put.s (Put.s (Put.s Put.z)))))) rfl rfl rfl ?_
  refine W.iload at_8 rfl rfl ?_
  refine W.bipush at_10 own_cb_8 rfl ?_
  refine W.iushr at_12 rfl ?_
  refine W.bipush at_13 own_cb_63 rfl ?_
  refine W.iand at_15 rfl ?_
  refine W.i2b at_16 rfl ?_
  refine W.istore at_17 (Put.s (Put.s (Put.s (Put.s (Put.s (Put.s (Put.s Put.z))))))) rfl rfl rfl ?_
  refine W.iload at_19 rfl rfl ?_
  refine W.bipush at_21 own_cb_16 rfl ?_
  refine W.iushr at_23 rfl ?_
  refine W.iconst at_24 own_ci_3 rfl ?_
  refine W.iand at_25 rfl ?_
  have q0 := own_b63 i4
  rw [q0.1]
  generalize i4 &&& 63 = c0 at *
  have q1 := own_b63 ((i4.toUInt32 >>> ((8 : Int32) &&& 31).toUInt32).toInt32)
  rw [q1.1]
  generalize ((i4.toUInt32 >>> ((8 : Int32) &&& 31).toUInt32).toInt32) &&& 63 = c1 at *
  have hm := maskk ((i4.toUInt32 >>> ((16 : Int32) &&& 31).toUInt32).toInt32) 3 2 (by decide) (by decide)
  generalize ((i4.toUInt32 >>> ((16 : Int32) &&& 31).toUInt32).toInt32) &&& 3 = a at *
  obtain ⟨k, hk, rfl⟩ : ∃ k : Nat, k ≤ 3 ∧ a = k.toInt32 := by
    refine ⟨a.toInt.toNat, by omega, ?_⟩
    rw [eq32, (nat32 (k := a.toInt.toNat) (by omega)).1]
    omega
  have J2 : ∀ fe es : Bool, W l Z Z.heap.size room_1 B0 (fun v _ => v = some (.int 1)) Z.heap 0 0 60 [.val (.int i0), .val (.int i1), .val (.long i2), .second, .val (.int i3), .val (.int i4), .val (.int c0), .val (.int c1), .val (.int k.toInt32), .val (.int (own_bi fe)), .unset, .unset, .unset, .unset, .unset, .unset, .unset, .unset, .unset] [.int (own_bi es)] := by
    intro fe es
    refine W.istore at_60 (Put.s (Put.s (Put.s (Put.s (Put.s (Put.s (Put.s (Put.s (Put.s (Put.s Put.z)))))))))) rfl rfl rfl ?_
    exact own_t62 l Z a0 hw i0 i1 i2 i3 i4 c0 c1 fe es k hk q0.1 q1.1 q0.2 q1.2
  have J1 : ∀ fe : Bool, W l Z Z.heap.size room_1 B0 (fun v _ => v = some (.int 1)) Z.heap 0 0 43 [.val (.int i0), .val (.int i1), .val (.long i2), .second, .val (.int i3), .val (.int i4), .val (.int c0), .val (.int c1), .val (.int k.toInt32), .unset, .unset, .unset, .unset, .unset, .unset, .unset, .unset, .unset, .unset] [.int (own_bi fe)] := by
    intro fe
    refine W.istore at_43 (Put.s (Put.s (Put.s (Put.s (Put.s (Put.s (Put.s (Put.s (Put.s Put.z))))))))) rfl rfl rfl ?_
    refine W.iload at_45 rfl rfl ?_
    refine W.bipush at_47 own_cb_25 rfl ?_
    refine W.iushr at_49 rfl ?_
    refine W.iconst at_50 own_ci_1 rfl ?_
    refine W.iand at_51 rfl ?_
    refine W.ifc_eq at_52 (by decide) rfl rfl (fun p => ?_) (fun q => ?_)
    · refine W.iconst at_59 own_ci_0 rfl ?_
      exact J2 fe false
    · refine W.iconst at_55 own_ci_1 rfl ?_
      refine W.goto at_56 (by decide) rfl ?_
      exact J2 fe true
  refine W.istore at_26 (Put.s (Put.s (Put.s (Put.s (Put.s (Put.s (Put.s (Put.s Put.z)))))))) rfl rfl rfl ?_
  refine W.iload at_28 rfl rfl ?_
  refine W.bipush at_30 own_cb_24 rfl ?_
  refine W.iushr at_32 rfl ?_
  refine W.iconst at_33 own_ci_1 rfl ?_
  refine W.iand at_34 rfl ?_
  refine W.ifc_eq at_35 (by decide) rfl rfl (fun p => ?_) (fun q => ?_)
  · refine W.iconst at_42 own_ci_0 rfl ?_
    exact J1 false
  · refine W.iconst at_38 own_ci_1 rfl ?_
    refine W.goto at_39 (by decide) rfl ?_
    exact J1 true
theorem own_ef0 (m : MethodId) (i0 : Int32) (i1 : Int32) (i2 : Int64) (i3 : Int32) (i4 : Int32) : entryFrame m #[.int i0, .int i1, .long i2, .int i3, .int i4] maxLocals = mkF m 0 #[.val (.int i0), .val (.int i1), .val (.long i2), .second, .val (.int i3), .val (.int i4), .unset, .unset, .unset, .unset, .unset, .unset, .unset, .unset, .unset, .unset, .unset, .unset, .unset] [] := by first | (simp [entryFrame, mkF, argsToLocals, Value.category, maxLocals]; done) | rfl
theorem comes_1 {Post : Tables → Env → Array Value → State → Outcome → State → Prop} (hpost : ∀ tb e args s v u, (limb_1_1.after args s (.returned v) u = true ∧ limb_1_2.after args s (.returned v) u = true ∧ True) → FrameEnd s (.returned v) u (Jvm.fieldLocs frame_1_writes args s ++ Jvm.arrayLocs frame_1_arrays args s ++ Jvm.staticLocs frame_1_statics s) 24 32896 → Post tb e args s (.returned v) u) :
    ArmFor flags0 classFile x code maxLocals ret World_1 tables_1 room_1 Calls_1 rest_1 Pre_1 Post := by
  intro l hfl _ _ p e ha hc hk s m args below hf hA hF happ hP
  obtain ⟨hcalls, hrest, hpre⟩ := hP
  obtain ⟨-, -, -, hnamed, -, -, -, hat⟩ := (Spec.applies_iff hf).mp happ
  obtain ⟨hg, hn⟩ := and_e (Cond.before_iff.mp (show (Jvm.Cond.and given_1 narrow_1).before args s = true from hpre))
  obtain ⟨g0, t0⟩ := and_e hg
  obtain ⟨k0, t1⟩ := and_e t0
  obtain ⟨k1, t2⟩ := and_e t1
  obtain ⟨k2, t3⟩ := and_e t2
  obtain ⟨k3, t4⟩ := and_e t3
  obtain ⟨w0, w1, w2, w3, w4, rfl⟩ : ∃ w0 w1 w2 w3 w4 : Value, args = #[w0, w1, w2, w3, w4] := by
    have hs : args.size = 5 := by simpa [Cond.value, given_1] using g0
    obtain ⟨L⟩ := args
    match L, hs with
    | [w0, w1, w2, w3, w4], _ => exact ⟨w0, w1, w2, w3, w4, rfl⟩
  have hw := fun d (hd : d ∈ tables_1) => atoms_spec (ws := Jvm.Cond.code x code maxLocals ret :: tables_1) hat d (List.mem_cons_of_mem _ hd)
  obtain ⟨i0, e0⟩ := is_v k0
  obtain rfl : w0 = (.int i0) := Option.some.inj e0
  obtain ⟨i1, e1⟩ := is_v k1
  obtain rfl : w1 = (.int i1) := Option.some.inj e1
  obtain ⟨i2, e2⟩ := isL_v k2
  obtain rfl : w2 = (.long i2) := Option.some.inj e2
  obtain ⟨i3, e3⟩ := is_v k3
  obtain rfl : w3 = (.int i3) := Option.some.inj e3
  obtain ⟨i4, e4⟩ := is_v t4
  obtain rfl : w4 = (.int i4) := Option.some.inj e4
  obtain ⟨n, o, h1, h2, h3, _, L, rfl, ⟨rfl, N⟩, hq⟩ := met_of (ws := tables_1) (y := x) (B' := B0) (as' := #[.int i0, .int i1, .long i2, .int i3, .int i4]) own_pf0 rfl rfl (fun m => own_ef0 m i0 i1 i2 i3 i4) (own_law l s _ hw i0 i1 i2 i3 i4) p e ha hc hk s m _ below hf ((Spec.applies_iff_loose hf).mp happ).1 ⟨rfl, State.Warmed39.refl s, rfl⟩ trivial
  refine ⟨n, _, h1, h2, h3, hpost _ _ _ _ _ _ ⟨Cond.after_iff.mpr rfl, Cond.after_iff.mpr (eq_i res_at (Term.int_eval (1)) rfl), trivial⟩ ⟨hq.1, hq.2.1, (hq.2.2.sift fun y hy => Or.inr (N y hy)).mono (by decide) (by decide)⟩⟩
theorem main_1_1 : Claimed_1_1 := comes_1 fun _ _ _ _ _ _ h hF => ⟨h.1, hF⟩
theorem main_1_2 : Claimed_1_2 := comes_1 fun _ _ _ _ _ _ h hF => ⟨h.2.1, hF⟩
end Jvm.Pilot.@@N@@
namespace Jvm.Pilot.@@N@@
open Jvm Jvm.ClassFile Sem Op Lib Jvm.Free Jvm.Stand Jvm.Pilot.@@N@@.Jvm.D
/-! MADE BY PROGRAM (witnessworld.py) out of the Statement's table words and the real class files: 17 classes; the members and pool entries that the words name. The judged class is class 1, her method 1. -/
namespace start1
open Jvm.ClassFile
def u (s : String) : CpInfo := .utf8 (stringToUtf16 s)
/-- a pool by its gaps: so many unusable entries, then the entry; so many at the end -/
def gap : Nat → List CpInfo → List CpInfo
  | 0, r => r
  | n + 1, r => .unusable :: gap n r
def poolList (es : List (Nat × CpInfo)) (last : Nat) : List CpInfo := es.foldr (fun e r => gap e.1 (e.2 :: r)) (gap last [])
def pool (es : List (Nat × CpInfo)) (last : Nat) : Array CpInfo := ⟨poolList es last⟩
def fileOf (pool : Array CpInfo) (this : Nat) (attrs : Array Attribute := #[]) (ms : Array MethodInfo := #[]) (fl : Nat := 33) (sup : Nat := 0) (ifs : Array Nat := #[]) (fds : Array FieldInfo := #[]) : ClassFile where
  minorVersion := 0
  majorVersion := 65
  constantPool := pool
  accessFlags := fl
  thisClass := this
  superClass := sup
  interfaces := ifs
  fields := fds
  methods := ms
  attributes := attrs
def plain (name : String) (sup : Option ClassId) : Class where
  name := name
  kind := .ordinary
  loader := none
  accessFlags := 33
  super := sup
  interfaces := #[]
  cf := none
  fields := #[]
  methods := #[]
  instanceTypes := #[]
  staticTypes := #[]
  resolved := #[]
  callSites := []
  init := .initialized
  statics := none
  mirror := none

def pool0 : Array CpInfo := pool [(5, u "<init>"), (0, u "()V"), (1, .class_ 10), (1, u "java/lang/Object")] 113

def k0c0 : Code := { maxStack := 0, maxLocals := 1, code := object_method_1_code, exceptionTable := #[], attributes := #[] }
def k0m0 : Method := { name := "<init>", desc := "()V", sig := { parameters := [], returnType := none }, accessFlags := 1, code := some k0c0 }
/-- java/lang/Object -/
def k0 : Class := { plain "java/lang/Object" none with
  accessFlags := 33
  interfaces := #[]
  cf := some (fileOf pool0 8 #[] #[{ accessFlags := 1, nameIndex := 5, descriptorIndex := 6, attributes := #[] }] 33 0 #[] #[])
  fields := #[]
  methods := #[k0m0]
  instanceTypes := #[]
  staticTypes := #[]
  resolved := Array.replicate 124 none
  statics := none }

def pool1 : Array CpInfo := pool [(2, .class_ 4), (0, .nameAndType 5 6), (0, u "java/lang/Object"), (0, u "<init>"), (0, u "()V"), (0, .class_ 8), (0, u "org/afterlog/internal/json/JsonLine"), (0, .methodref 7 3), (0, .methodref 7 11), (0, .nameAndType 12 13), (0, u "append"), (0, u "([BII)V"), (0, .class_ 15), (0, u "org/afterlog/internal/json/JsonText"), (0, .methodref 14 3), (0, .methodref 14 18), (0, .nameAndType 19 20), (0, u "set"), (0, u "(Lorg/afterlog/internal/json/JsonLine;IIZJI)V"), (0, .methodref 14 22), (0, .nameAndType 23 24), (0, u "length"), (0, u "()J"), (0, .methodref 14 26), (0, .nameAndType 27 28), (0, u "unpaired"), (0, u "()I"), (0, .methodref 14 30), (0, .nameAndType 31 32), (0, u "isEmpty"), (0, u "()Z"), (0, .methodref 14 34), (0, .nameAndType 35 36), (0, u "copyTo"), (0, u "([BI)I"), (0, .class_ 38), (0, u "org/afterlog/internal/json/JsonTextSetPinLaw"), (2, u "law"), (0, u "(IIJII)Z")] 5

def k1m0 : Method := { name := "<init>", desc := "()V", sig := { parameters := [], returnType := none }, accessFlags := 2, code := none }
def k1c1 : Code := { maxStack := 8, maxLocals := 19, code := code, exceptionTable := #[], attributes := #[] }
def k1m1 : Method := { name := "law", desc := "(IIJII)Z", sig := { parameters := [.int, .int, .long, .int, .int], returnType := some .boolean }, accessFlags := 9, code := some k1c1 }
/-- org/afterlog/internal/json/JsonTextSetPinLaw -/
def k1 : Class := { plain "org/afterlog/internal/json/JsonTextSetPinLaw" (some 0) with
  accessFlags := 49
  interfaces := #[]
  cf := some (fileOf pool1 37 #[] #[{ accessFlags := 2, nameIndex := 5, descriptorIndex := 6, attributes := #[] }, { accessFlags := 9, nameIndex := 41, descriptorIndex := 42, attributes := #[] }] 49 2 #[] #[])
  fields := #[]
  methods := #[k1m0, k1m1]
  instanceTypes := #[]
  staticTypes := #[]
  resolved := Array.replicate 48 none
  statics := none }

def pool2 : Array CpInfo := pool [(1, .class_ 2), (0, u "org/afterlog/internal/json/JsonLine"), (0, .methodref 4 5), (0, .class_ 6), (0, .nameAndType 7 8), (0, u "java/lang/Object"), (0, u "<init>"), (0, u "()V"), (0, .class_ 10), (0, u "[B"), (0, .fieldref 1 12), (0, .nameAndType 13 14), (0, u "pieces"), (0, u "[[B"), (0, .fieldref 1 16), (0, .nameAndType 17 18), (0, u "length"), (0, u "I"), (0, .methodref 20 21), (0, .class_ 22), (0, .nameAndType 23 24), (0, u "java/lang/Math"), (0, u "min"), (0, u "(II)I"), (0, .methodref 26 27), (0, .class_ 28), (0, .nameAndType 29 30), (0, u "java/lang/System"), (0, u "arraycopy"), (0, u "(Ljava/lang/Object;ILjava/lang/Object;II)V"), (17, u "PIECE_SHIFT"), (2, u "PIECE_SIZE"), (1, u "PIECE_MASK"), (1, u "KEPT_PIECES"), (4, u "byteAt"), (0, u "(I)B"), (0, u "copy"), (0, u "(II[BI)I"), (2, u "append"), (0, u "([BII)V")] 3

def k2c0 : Code := { maxStack := 2, maxLocals := 1, code := prog_63_method_1_code, exceptionTable := #[], attributes := #[] }
def k2m0 : Method := { name := "<init>", desc := "()V", sig := { parameters := [], returnType := none }, accessFlags := 0, code := some k2c0 }
def k2c1 : Code := { maxStack := 3, maxLocals := 2, code := prog_63_method_3_code, exceptionTable := #[], attributes := #[] }
def k2m1 : Method := { name := "byteAt", desc := "(I)B", sig := { parameters := [.int], returnType := some .byte }, accessFlags := 0, code := some k2c1 }
def k2c2 : Code := { maxStack := 5, maxLocals := 8, code := prog_63_method_4_code, exceptionTable := #[], attributes := #[] }
def k2m2 : Method := { name := "copy", desc := "(II[BI)I", sig := { parameters := [.int, .int, (.array .byte), .int], returnType := some .int }, accessFlags := 0, code := some k2c2 }
def k2c3 : Code := { maxStack := 5, maxLocals := 8, code := prog_63_method_6_code, exceptionTable := #[], attributes := #[] }
def k2m3 : Method := { name := "append", desc := "([BII)V", sig := { parameters := [(.array .byte), .int, .int], returnType := none }, accessFlags := 0, code := some k2c3 }
/-- org/afterlog/internal/json/JsonLine -/
def k2 : Class := { plain "org/afterlog/internal/json/JsonLine" (some 0) with
  accessFlags := 49
  interfaces := #[]
  cf := some (fileOf pool2 1 #[] #[{ accessFlags := 0, nameIndex := 7, descriptorIndex := 8, attributes := #[] }, { accessFlags := 0, nameIndex := 60, descriptorIndex := 61, attributes := #[] }, { accessFlags := 0, nameIndex := 62, descriptorIndex := 63, attributes := #[] }, { accessFlags := 0, nameIndex := 66, descriptorIndex := 67, attributes := #[] }] 49 4 #[] #[{ accessFlags := 26, nameIndex := 48, descriptorIndex := 18, attributes := #[] }, { accessFlags := 24, nameIndex := 51, descriptorIndex := 18, attributes := #[] }, { accessFlags := 26, nameIndex := 53, descriptorIndex := 18, attributes := #[] }, { accessFlags := 26, nameIndex := 55, descriptorIndex := 18, attributes := #[] }, { accessFlags := 2, nameIndex := 13, descriptorIndex := 14, attributes := #[] }, { accessFlags := 2, nameIndex := 17, descriptorIndex := 18, attributes := #[] }])
  fields := #[{ name := "PIECE_SHIFT", type := .int, accessFlags := 26, slot := 0, constantValue := 0 }, { name := "PIECE_SIZE", type := .int, accessFlags := 24, slot := 1, constantValue := 0 }, { name := "PIECE_MASK", type := .int, accessFlags := 26, slot := 2, constantValue := 0 }, { name := "KEPT_PIECES", type := .int, accessFlags := 26, slot := 3, constantValue := 0 }, { name := "pieces", type := (.array (.array .byte)), accessFlags := 2, slot := 0, constantValue := 0 }, { name := "length", type := .int, accessFlags := 2, slot := 1, constantValue := 0 }]
  methods := #[k2m0, k2m1, k2m2, k2m3]
  instanceTypes := #[(.array (.array .byte)), .int]
  staticTypes := #[.int, .int, .int, .int]
  resolved := Array.replicate 71 none
  statics := none }

def pool3 : Array CpInfo := pool [(1, .class_ 2), (0, u "java/lang/Math"), (1, .class_ 6), (1, u "java/lang/Object"), (0, u "<init>"), (0, u "()V"), (89, .class_ 100), (1, u "java/lang/Math$RandomNumberGeneratorHolder"), (71, u "negativeZeroFloatBits"), (0, u "J"), (2, u "negativeZeroDoubleBits"), (24, u "min"), (43, u "$assertionsDisabled"), (0, u "Z"), (88, u "(II)I"), (2, u "twoToTheDoubleScaleDown"), (0, u "D"), (4, u "twoToTheDoubleScaleUp"), (9, u "E"), (3, u "PI"), (2, u "TAU"), (2, u "DEGREES_TO_RADIANS"), (0, u "RADIANS_TO_DEGREES")] 94

def k3m0 : Method := { name := "<init>", desc := "()V", sig := { parameters := [], returnType := none }, accessFlags := 2, code := none }
def k3c1 : Code := { maxStack := 2, maxLocals := 2, code := jdk_29_method_69_code, exceptionTable := #[], attributes := #[] }
def k3m1 : Method := { name := "min", desc := "(II)I", sig := { parameters := [.int, .int], returnType := some .int }, accessFlags := 9, code := some k3c1 }
/-- java/lang/Math -/
def k3 : Class := { plain "java/lang/Math" (some 0) with
  accessFlags := 49
  interfaces := #[]
  cf := some (fileOf pool3 1 #[.nestMembers #[98]] #[{ accessFlags := 2, nameIndex := 7, descriptorIndex := 8, attributes := #[] }, { accessFlags := 9, nameIndex := 201, descriptorIndex := 335, attributes := #[] }] 49 4 #[] #[{ accessFlags := 25, nameIndex := 354, descriptorIndex := 339, attributes := #[] }, { accessFlags := 25, nameIndex := 358, descriptorIndex := 339, attributes := #[] }, { accessFlags := 25, nameIndex := 361, descriptorIndex := 339, attributes := #[] }, { accessFlags := 26, nameIndex := 364, descriptorIndex := 339, attributes := #[] }, { accessFlags := 26, nameIndex := 365, descriptorIndex := 339, attributes := #[] }, { accessFlags := 26, nameIndex := 172, descriptorIndex := 173, attributes := #[] }, { accessFlags := 26, nameIndex := 176, descriptorIndex := 173, attributes := #[] }, { accessFlags := 8, nameIndex := 344, descriptorIndex := 339, attributes := #[] }, { accessFlags := 8, nameIndex := 338, descriptorIndex := 339, attributes := #[] }, { accessFlags := 4120, nameIndex := 245, descriptorIndex := 246, attributes := #[] }])
  fields := #[{ name := "E", type := .double, accessFlags := 25, slot := 0, constantValue := 0 }, { name := "PI", type := .double, accessFlags := 25, slot := 1, constantValue := 0 }, { name := "TAU", type := .double, accessFlags := 25, slot := 2, constantValue := 0 }, { name := "DEGREES_TO_RADIANS", type := .double, accessFlags := 26, slot := 3, constantValue := 0 }, { name := "RADIANS_TO_DEGREES", type := .double, accessFlags := 26, slot := 4, constantValue := 0 }, { name := "negativeZeroFloatBits", type := .long, accessFlags := 26, slot := 5, constantValue := 0 }, { name := "negativeZeroDoubleBits", type := .long, accessFlags := 26, slot := 6, constantValue := 0 }, { name := "twoToTheDoubleScaleUp", type := .double, accessFlags := 8, slot := 7, constantValue := 0 }, { name := "twoToTheDoubleScaleDown", type := .double, accessFlags := 8, slot := 8, constantValue := 0 }, { name := "$assertionsDisabled", type := .boolean, accessFlags := 4120, slot := 9, constantValue := 0 }]
  methods := #[k3m0, k3m1]
  instanceTypes := #[]
  staticTypes := #[.double, .double, .double, .double, .double, .long, .long, .double, .double, .boolean]
  resolved := Array.replicate 460 none
  statics := none }

def pool4 : Array CpInfo := pool [(2, .class_ 4), (1, u "java/lang/Object"), (0, u "<init>"), (0, u "()V"), (1, .class_ 10), (1, u "java/lang/System"), (0, u "allowSecurityManager"), (0, u "I"), (16, u "cons"), (0, u "Ljava/io/Console;"), (77, .class_ 110), (1, u "java/lang/System$CallersHolder"), (43, u "initialErrStream"), (0, u "Ljava/io/PrintStream;"), (19, u "security"), (0, u "Ljava/lang/SecurityManager;"), (31, .class_ 209), (0, u "java/lang/System$1"), (7, u "props"), (0, u "Ljava/util/Properties;"), (2, u "lineSeparator"), (0, u "Ljava/lang/String;"), (96, .class_ 321), (1, u "java/lang/System$LoggerFinder"), (5, .class_ 328), (0, u "java/lang/System$Logger"), (67, u "err"), (2, u "out"), (91, u "notSupportedJnuEncoding"), (15, u "in"), (17, u "initialIn"), (0, u "Ljava/io/InputStream;"), (35, u "bootLayer"), (0, u "Ljava/lang/ModuleLayer;"), (99, .class_ 664), (0, u "java/lang/System$2"), (9, u "NEVER"), (2, u "MAYBE"), (49, u "arraycopy"), (0, u "(Ljava/lang/Object;ILjava/lang/Object;II)V"), (72, .class_ 802), (0, u "java/lang/System$Logger$Level")] 31

def k4m0 : Method := { name := "<init>", desc := "()V", sig := { parameters := [], returnType := none }, accessFlags := 2, code := none }
def k4m1 : Method := { name := "arraycopy", desc := "(Ljava/lang/Object;ILjava/lang/Object;II)V", sig := { parameters := [(.object "java/lang/Object"), .int, (.object "java/lang/Object"), .int, .int], returnType := none }, accessFlags := 265, code := none }
/-- java/lang/System -/
def k4 : Class := { plain "java/lang/System" (some 0) with
  accessFlags := 49
  interfaces := #[]
  cf := some (fileOf pool4 8 #[.nestMembers #[319, 327, 801, 108, 663, 208]] #[{ accessFlags := 2, nameIndex := 5, descriptorIndex := 6, attributes := #[] }, { accessFlags := 265, nameIndex := 727, descriptorIndex := 728, attributes := #[] }] 49 2 #[] #[{ accessFlags := 25, nameIndex := 507, descriptorIndex := 526, attributes := #[] }, { accessFlags := 25, nameIndex := 399, descriptorIndex := 155, attributes := #[] }, { accessFlags := 25, nameIndex := 396, descriptorIndex := 155, attributes := #[] }, { accessFlags := 10, nameIndex := 525, descriptorIndex := 526, attributes := #[] }, { accessFlags := 26, nameIndex := 674, descriptorIndex := 12, attributes := #[] }, { accessFlags := 26, nameIndex := 677, descriptorIndex := 12, attributes := #[] }, { accessFlags := 10, nameIndex := 11, descriptorIndex := 12, attributes := #[] }, { accessFlags := 74, nameIndex := 175, descriptorIndex := 176, attributes := #[] }, { accessFlags := 10, nameIndex := 491, descriptorIndex := 222, attributes := #[] }, { accessFlags := 74, nameIndex := 29, descriptorIndex := 30, attributes := #[] }, { accessFlags := 74, nameIndex := 154, descriptorIndex := 155, attributes := #[] }, { accessFlags := 10, nameIndex := 217, descriptorIndex := 218, attributes := #[] }, { accessFlags := 10, nameIndex := 221, descriptorIndex := 222, attributes := #[] }, { accessFlags := 8, nameIndex := 562, descriptorIndex := 563, attributes := #[] }])
  fields := #[{ name := "in", type := (.object "java/io/InputStream"), accessFlags := 25, slot := 0, constantValue := 0 }, { name := "out", type := (.object "java/io/PrintStream"), accessFlags := 25, slot := 1, constantValue := 0 }, { name := "err", type := (.object "java/io/PrintStream"), accessFlags := 25, slot := 2, constantValue := 0 }, { name := "initialIn", type := (.object "java/io/InputStream"), accessFlags := 10, slot := 3, constantValue := 0 }, { name := "NEVER", type := .int, accessFlags := 26, slot := 4, constantValue := 0 }, { name := "MAYBE", type := .int, accessFlags := 26, slot := 5, constantValue := 0 }, { name := "allowSecurityManager", type := .int, accessFlags := 10, slot := 6, constantValue := 0 }, { name := "security", type := (.object "java/lang/SecurityManager"), accessFlags := 74, slot := 7, constantValue := 0 }, { name := "notSupportedJnuEncoding", type := (.object "java/lang/String"), accessFlags := 10, slot := 8, constantValue := 0 }, { name := "cons", type := (.object "java/io/Console"), accessFlags := 74, slot := 9, constantValue := 0 }, { name := "initialErrStream", type := (.object "java/io/PrintStream"), accessFlags := 74, slot := 10, constantValue := 0 }, { name := "props", type := (.object "java/util/Properties"), accessFlags := 10, slot := 11, constantValue := 0 }, { name := "lineSeparator", type := (.object "java/lang/String"), accessFlags := 10, slot := 12, constantValue := 0 }, { name := "bootLayer", type := (.object "java/lang/ModuleLayer"), accessFlags := 8, slot := 13, constantValue := 0 }]
  methods := #[k4m0, k4m1]
  instanceTypes := #[]
  staticTypes := #[(.object "java/io/InputStream"), (.object "java/io/PrintStream"), (.object "java/io/PrintStream"), (.object "java/io/InputStream"), .int, .int, .int, (.object "java/lang/SecurityManager"), (.object "java/lang/String"), (.object "java/io/Console"), (.object "java/io/PrintStream"), (.object "java/util/Properties"), (.object "java/lang/String"), (.object "java/lang/ModuleLayer")]
  resolved := Array.replicate 834 none
  statics := none }

def pool5 : Array CpInfo := pool [(1, .class_ 2), (0, u "org/afterlog/internal/text/Utf8Text"), (0, .class_ 4), (0, u "java/lang/Object")] 6

/-- org/afterlog/internal/text/Utf8Text -/
def k5 : Class := { plain "org/afterlog/internal/text/Utf8Text" (some 0) with
  accessFlags := 1537
  interfaces := #[]
  cf := some (fileOf pool5 1 #[] #[] 1537 3 #[] #[])
  fields := #[]
  methods := #[]
  instanceTypes := #[]
  staticTypes := #[]
  resolved := Array.replicate 11 none
  statics := none }

def pool6 : Array CpInfo := pool [(1, .methodref 2 3), (0, .class_ 4), (0, .nameAndType 5 6), (0, u "java/lang/Object"), (0, u "<init>"), (0, u "()V"), (0, .fieldref 8 9), (0, .class_ 10), (0, .nameAndType 11 12), (0, u "org/afterlog/internal/json/JsonText"), (0, u "line"), (0, u "Lorg/afterlog/internal/json/JsonLine;"), (0, .fieldref 8 14), (0, .nameAndType 15 16), (0, u "from"), (0, u "I"), (0, .fieldref 8 18), (0, .nameAndType 19 16), (0, u "to"), (0, .fieldref 8 21), (0, .nameAndType 22 23), (0, u "escaped"), (0, u "Z"), (0, .fieldref 8 25), (0, .nameAndType 26 27), (0, u "length"), (0, u "J"), (0, .fieldref 8 29), (0, .nameAndType 30 16), (0, u "unpaired"), (0, .methodref 8 32), (0, .nameAndType 33 34), (0, u "copyDecoded"), (0, u "([BI)I"), (0, .methodref 36 37), (0, .class_ 38), (0, .nameAndType 39 40), (0, u "org/afterlog/internal/json/JsonLine"), (0, u "copy"), (0, u "(II[BI)I"), (0, .methodref 8 42), (0, .nameAndType 43 44), (0, u "plainEnd"), (0, u "(I)I"), (0, .methodref 8 46), (0, .nameAndType 47 48), (0, u "escape"), (0, u "(Lorg/afterlog/internal/json/JsonLine;I)I"), (0, .methodref 8 50), (0, .nameAndType 51 48), (0, u "escapeLength"), (0, .methodref 53 54), (0, .class_ 55), (0, .nameAndType 56 57), (0, u "java/lang/Character"), (0, u "isHighSurrogate"), (0, u "(C)Z"), (4, .methodref 63 64), (0, .class_ 65), (0, .nameAndType 66 67), (0, u "org/afterlog/internal/json/JsonString"), (0, u "utf8"), (0, u "([BII)I"), (12, u "()I"), (0, .methodref 36 82), (0, .nameAndType 83 84), (0, u "byteAt"), (0, u "(I)B"), (34, .class_ 120), (0, u "org/afterlog/internal/text/Utf8Text"), (0, u "NOT_AN_ESCAPE"), (2, u "NOT_FOUR_DIGITS"), (3, u "set"), (0, u "(Lorg/afterlog/internal/json/JsonLine;IIZJI)V"), (0, u "()J"), (0, u "isEmpty"), (0, u "()Z"), (1, u "copyTo")] 4

def k6c0 : Code := { maxStack := 1, maxLocals := 1, code := prog_67_method_1_code, exceptionTable := #[], attributes := #[] }
def k6m0 : Method := { name := "<init>", desc := "()V", sig := { parameters := [], returnType := none }, accessFlags := 0, code := some k6c0 }
def k6c1 : Code := { maxStack := 3, maxLocals := 8, code := prog_67_method_2_code, exceptionTable := #[], attributes := #[] }
def k6m1 : Method := { name := "set", desc := "(Lorg/afterlog/internal/json/JsonLine;IIZJI)V", sig := { parameters := [(.object "org/afterlog/internal/json/JsonLine"), .int, .int, .boolean, .long, .int], returnType := none }, accessFlags := 0, code := some k6c1 }
def k6c2 : Code := { maxStack := 2, maxLocals := 1, code := prog_67_method_3_code, exceptionTable := #[], attributes := #[] }
def k6m2 : Method := { name := "length", desc := "()J", sig := { parameters := [], returnType := some .long }, accessFlags := 1, code := some k6c2 }
def k6c3 : Code := { maxStack := 1, maxLocals := 1, code := prog_67_method_4_code, exceptionTable := #[], attributes := #[] }
def k6m3 : Method := { name := "unpaired", desc := "()I", sig := { parameters := [], returnType := some .int }, accessFlags := 0, code := some k6c3 }
def k6c4 : Code := { maxStack := 2, maxLocals := 1, code := prog_67_method_5_code, exceptionTable := #[], attributes := #[] }
def k6m4 : Method := { name := "isEmpty", desc := "()Z", sig := { parameters := [], returnType := some .boolean }, accessFlags := 0, code := some k6c4 }
def k6c5 : Code := { maxStack := 5, maxLocals := 3, code := prog_67_method_6_code, exceptionTable := #[], attributes := #[] }
def k6m5 : Method := { name := "copyTo", desc := "([BI)I", sig := { parameters := [(.array .byte), .int], returnType := some .int }, accessFlags := 1, code := some k6c5 }
def k6c6 : Code := { maxStack := 5, maxLocals := 8, code := prog_67_method_7_code, exceptionTable := #[], attributes := #[] }
def k6m6 : Method := { name := "copyDecoded", desc := "([BI)I", sig := { parameters := [(.array .byte), .int], returnType := some .int }, accessFlags := 2, code := some k6c6 }
def k6c7 : Code := { maxStack := 2, maxLocals := 3, code := prog_67_method_10_code, exceptionTable := #[], attributes := #[] }
def k6m7 : Method := { name := "plainEnd", desc := "(I)I", sig := { parameters := [.int], returnType := some .int }, accessFlags := 2, code := some k6c7 }
def k6c8 : Code := { maxStack := 3, maxLocals := 4, code := prog_67_method_11_code, exceptionTable := #[], attributes := #[] }
def k6m8 : Method := { name := "escape", desc := "(Lorg/afterlog/internal/json/JsonLine;I)I", sig := { parameters := [(.object "org/afterlog/internal/json/JsonLine"), .int], returnType := some .int }, accessFlags := 8, code := some k6c8 }
def k6c9 : Code := { maxStack := 3, maxLocals := 2, code := prog_67_method_12_code, exceptionTable := #[], attributes := #[] }
def k6m9 : Method := { name := "escapeLength", desc := "(Lorg/afterlog/internal/json/JsonLine;I)I", sig := { parameters := [(.object "org/afterlog/internal/json/JsonLine"), .int], returnType := some .int }, accessFlags := 8, code := some k6c9 }
/-- org/afterlog/internal/json/JsonText -/
def k6 : Class := { plain "org/afterlog/internal/json/JsonText" (some 0) with
  accessFlags := 48
  interfaces := #[5]
  cf := some (fileOf pool6 8 #[] #[{ accessFlags := 0, nameIndex := 5, descriptorIndex := 6, attributes := #[] }, { accessFlags := 0, nameIndex := 128, descriptorIndex := 129, attributes := #[] }, { accessFlags := 1, nameIndex := 26, descriptorIndex := 130, attributes := #[] }, { accessFlags := 0, nameIndex := 30, descriptorIndex := 80, attributes := #[] }, { accessFlags := 0, nameIndex := 131, descriptorIndex := 132, attributes := #[] }, { accessFlags := 1, nameIndex := 134, descriptorIndex := 34, attributes := #[] }, { accessFlags := 2, nameIndex := 33, descriptorIndex := 34, attributes := #[] }, { accessFlags := 2, nameIndex := 43, descriptorIndex := 44, attributes := #[] }, { accessFlags := 8, nameIndex := 47, descriptorIndex := 48, attributes := #[] }, { accessFlags := 8, nameIndex := 51, descriptorIndex := 48, attributes := #[] }] 48 2 #[119] #[{ accessFlags := 24, nameIndex := 121, descriptorIndex := 16, attributes := #[] }, { accessFlags := 24, nameIndex := 124, descriptorIndex := 16, attributes := #[] }, { accessFlags := 2, nameIndex := 11, descriptorIndex := 12, attributes := #[] }, { accessFlags := 2, nameIndex := 15, descriptorIndex := 16, attributes := #[] }, { accessFlags := 2, nameIndex := 19, descriptorIndex := 16, attributes := #[] }, { accessFlags := 2, nameIndex := 22, descriptorIndex := 23, attributes := #[] }, { accessFlags := 2, nameIndex := 26, descriptorIndex := 27, attributes := #[] }, { accessFlags := 2, nameIndex := 30, descriptorIndex := 16, attributes := #[] }])
  fields := #[{ name := "NOT_AN_ESCAPE", type := .int, accessFlags := 24, slot := 0, constantValue := 0 }, { name := "NOT_FOUR_DIGITS", type := .int, accessFlags := 24, slot := 1, constantValue := 0 }, { name := "line", type := (.object "org/afterlog/internal/json/JsonLine"), accessFlags := 2, slot := 0, constantValue := 0 }, { name := "from", type := .int, accessFlags := 2, slot := 1, constantValue := 0 }, { name := "to", type := .int, accessFlags := 2, slot := 2, constantValue := 0 }, { name := "escaped", type := .boolean, accessFlags := 2, slot := 3, constantValue := 0 }, { name := "length", type := .long, accessFlags := 2, slot := 4, constantValue := 0 }, { name := "unpaired", type := .int, accessFlags := 2, slot := 5, constantValue := 0 }]
  methods := #[k6m0, k6m1, k6m2, k6m3, k6m4, k6m5, k6m6, k6m7, k6m8, k6m9]
  instanceTypes := #[(.object "org/afterlog/internal/json/JsonLine"), .int, .int, .boolean, .long, .int]
  staticTypes := #[.int, .int]
  resolved := Array.replicate 139 none
  statics := none }

def pool7 : Array CpInfo := pool [(1, .class_ 2), (0, u "java/io/Serializable"), (0, .class_ 4), (0, u "java/lang/Object")] 2

/-- java/io/Serializable -/
def k7 : Class := { plain "java/io/Serializable" (some 0) with
  accessFlags := 1537
  interfaces := #[]
  cf := some (fileOf pool7 1 #[] #[] 1537 3 #[] #[])
  fields := #[]
  methods := #[]
  instanceTypes := #[]
  staticTypes := #[]
  resolved := Array.replicate 7 none
  statics := none }

def pool8 : Array CpInfo := pool [(1, .class_ 2), (0, u "java/lang/Comparable"), (0, .class_ 4), (0, u "java/lang/Object")] 7

/-- java/lang/Comparable -/
def k8 : Class := { plain "java/lang/Comparable" (some 0) with
  accessFlags := 1537
  interfaces := #[]
  cf := some (fileOf pool8 1 #[] #[] 1537 3 #[] #[])
  fields := #[]
  methods := #[]
  instanceTypes := #[]
  staticTypes := #[]
  resolved := Array.replicate 12 none
  statics := none }

def pool9 : Array CpInfo := pool [(1, .class_ 2), (0, u "java/lang/constant/Constable"), (0, .class_ 4), (0, u "java/lang/Object")] 6

/-- java/lang/constant/Constable -/
def k9 : Class := { plain "java/lang/constant/Constable" (some 0) with
  accessFlags := 1537
  interfaces := #[]
  cf := some (fileOf pool9 1 #[] #[] 1537 3 #[] #[])
  fields := #[]
  methods := #[]
  instanceTypes := #[]
  staticTypes := #[]
  resolved := Array.replicate 11 none
  statics := none }

def pool10 : Array CpInfo := pool [(1, .class_ 2), (0, u "java/lang/Character"), (18, u "value"), (0, u "C"), (19, .class_ 44), (1, u "java/lang/Object"), (3, .class_ 50), (1, u "java/lang/Character$CharacterCache"), (24, .integer 55296), (4, u "isHighSurrogate"), (0, u "(C)Z"), (202, u "$assertionsDisabled"), (0, u "Z"), (21, .class_ 309), (1, u "java/lang/Character$UnicodeBlock"), (73, u "TYPE"), (0, u "Ljava/lang/Class;"), (0, .class_ 386), (0, u "java/io/Serializable"), (0, .class_ 388), (0, u "java/lang/Comparable"), (0, .class_ 390), (0, u "java/lang/constant/Constable"), (0, u "MIN_RADIX"), (0, u "I"), (2, u "MAX_RADIX"), (1, u "MIN_VALUE"), (1, u "MAX_VALUE"), (3, u "UNASSIGNED"), (0, u "B"), (0, u "UPPERCASE_LETTER"), (1, u "LOWERCASE_LETTER"), (0, u "TITLECASE_LETTER"), (1, u "MODIFIER_LETTER"), (1, u "OTHER_LETTER"), (1, u "NON_SPACING_MARK"), (1, u "ENCLOSING_MARK"), (1, u "COMBINING_SPACING_MARK"), (1, u "DECIMAL_DIGIT_NUMBER"), (1, u "LETTER_NUMBER"), (1, u "OTHER_NUMBER"), (1, u "SPACE_SEPARATOR"), (1, u "LINE_SEPARATOR"), (1, u "PARAGRAPH_SEPARATOR"), (1, u "CONTROL"), (1, u "FORMAT"), (1, u "PRIVATE_USE"), (1, u "SURROGATE"), (1, u "DASH_PUNCTUATION"), (1, u "START_PUNCTUATION"), (1, u "END_PUNCTUATION"), (1, u "CONNECTOR_PUNCTUATION"), (1, u "OTHER_PUNCTUATION"), (1, u "MATH_SYMBOL"), (1, u "CURRENCY_SYMBOL"), (1, u "MODIFIER_SYMBOL"), (1, u "OTHER_SYMBOL"), (1, u "INITIAL_QUOTE_PUNCTUATION"), (1, u "FINAL_QUOTE_PUNCTUATION"), (1, u "ERROR"), (1, u "DIRECTIONALITY_UNDEFINED"), (0, u "DIRECTIONALITY_LEFT_TO_RIGHT"), (0, u "DIRECTIONALITY_RIGHT_TO_LEFT"), (0, u "DIRECTIONALITY_RIGHT_TO_LEFT_ARABIC"), (0, u "DIRECTIONALITY_EUROPEAN_NUMBER"), (0, u "DIRECTIONALITY_EUROPEAN_NUMBER_SEPARATOR"), (0, u "DIRECTIONALITY_EUROPEAN_NUMBER_TERMINATOR"), (0, u "DIRECTIONALITY_ARABIC_NUMBER"), (0, u "DIRECTIONALITY_COMMON_NUMBER_SEPARATOR"), (0, u "DIRECTIONALITY_NONSPACING_MARK"), (0, u "DIRECTIONALITY_BOUNDARY_NEUTRAL"), (0, u "DIRECTIONALITY_PARAGRAPH_SEPARATOR"), (0, u "DIRECTIONALITY_SEGMENT_SEPARATOR"), (0, u "DIRECTIONALITY_WHITESPACE"), (0, u "DIRECTIONALITY_OTHER_NEUTRALS"), (0, u "DIRECTIONALITY_LEFT_TO_RIGHT_EMBEDDING"), (0, u "DIRECTIONALITY_LEFT_TO_RIGHT_OVERRIDE"), (0, u "DIRECTIONALITY_RIGHT_TO_LEFT_EMBEDDING"), (0, u "DIRECTIONALITY_RIGHT_TO_LEFT_OVERRIDE"), (1, u "DIRECTIONALITY_POP_DIRECTIONAL_FORMAT"), (0, u "DIRECTIONALITY_LEFT_TO_RIGHT_ISOLATE"), (0, u "DIRECTIONALITY_RIGHT_TO_LEFT_ISOLATE"), (0, u "DIRECTIONALITY_FIRST_STRONG_ISOLATE"), (0, u "DIRECTIONALITY_POP_DIRECTIONAL_ISOLATE"), (0, u "MIN_HIGH_SURROGATE"), (0, u "MAX_HIGH_SURROGATE"), (1, u "MIN_LOW_SURROGATE"), (0, u "MAX_LOW_SURROGATE"), (1, u "MIN_SURROGATE"), (0, u "MAX_SURROGATE"), (0, u "MIN_SUPPLEMENTARY_CODE_POINT"), (0, u "MIN_CODE_POINT"), (0, u "MAX_CODE_POINT"), (1, u "serialVersionUID"), (0, u "J"), (2, u "SIZE"), (0, u "BYTES"), (88, .class_ 596), (0, u "java/lang/Character$UnicodeScript"), (0, .class_ 598), (0, u "java/lang/Character$Subset")] 5

def k10c0 : Code := { maxStack := 2, maxLocals := 1, code := jdk_89_method_14_code, exceptionTable := #[], attributes := #[] }
def k10m0 : Method := { name := "isHighSurrogate", desc := "(C)Z", sig := { parameters := [.char], returnType := some .boolean }, accessFlags := 9, code := some k10c0 }
/-- java/lang/Character -/
def k10 : Class := { plain "java/lang/Character" (some 0) with
  accessFlags := 49
  interfaces := #[7, 8, 9]
  cf := some (fileOf pool10 1 #[.nestMembers #[48, 595, 307, 597]] #[{ accessFlags := 9, nameIndex := 80, descriptorIndex := 81, attributes := #[] }] 49 42 #[385, 387, 389] #[{ accessFlags := 25, nameIndex := 391, descriptorIndex := 392, attributes := #[] }, { accessFlags := 25, nameIndex := 395, descriptorIndex := 392, attributes := #[] }, { accessFlags := 25, nameIndex := 397, descriptorIndex := 22, attributes := #[] }, { accessFlags := 25, nameIndex := 399, descriptorIndex := 22, attributes := #[] }, { accessFlags := 25, nameIndex := 383, descriptorIndex := 384, attributes := #[] }, { accessFlags := 25, nameIndex := 403, descriptorIndex := 404, attributes := #[] }, { accessFlags := 25, nameIndex := 405, descriptorIndex := 404, attributes := #[] }, { accessFlags := 25, nameIndex := 407, descriptorIndex := 404, attributes := #[] }, { accessFlags := 25, nameIndex := 408, descriptorIndex := 404, attributes := #[] }, { accessFlags := 25, nameIndex := 410, descriptorIndex := 404, attributes := #[] }, { accessFlags := 25, nameIndex := 412, descriptorIndex := 404, attributes := #[] }, { accessFlags := 25, nameIndex := 414, descriptorIndex := 404, attributes := #[] }, { accessFlags := 25, nameIndex := 416, descriptorIndex := 404, attributes := #[] }, { accessFlags := 25, nameIndex := 418, descriptorIndex := 404, attributes := #[] }, { accessFlags := 25, nameIndex := 420, descriptorIndex := 404, attributes := #[] }, { accessFlags := 25, nameIndex := 422, descriptorIndex := 404, attributes := #[] }, { accessFlags := 25, nameIndex := 424, descriptorIndex := 404, attributes := #[] }, { accessFlags := 25, nameIndex := 426, descriptorIndex := 404, attributes := #[] }, { accessFlags := 25, nameIndex := 428, descriptorIndex := 404, attributes := #[] }, { accessFlags := 25, nameIndex := 430, descriptorIndex := 404, attributes := #[] }, { accessFlags := 25, nameIndex := 432, descriptorIndex := 404, attributes := #[] }, { accessFlags := 25, nameIndex := 434, descriptorIndex := 404, attributes := #[] }, { accessFlags := 25, nameIndex := 436, descriptorIndex := 404, attributes := #[] }, { accessFlags := 25, nameIndex := 438, descriptorIndex := 404, attributes := #[] }, { accessFlags := 25, nameIndex := 440, descriptorIndex := 404, attributes := #[] }, { accessFlags := 25, nameIndex := 442, descriptorIndex := 404, attributes := #[] }, { accessFlags := 25, nameIndex := 444, descriptorIndex := 404, attributes := #[] }, { accessFlags := 25, nameIndex := 446, descriptorIndex := 404, attributes := #[] }, { accessFlags := 25, nameIndex := 448, descriptorIndex := 404, attributes := #[] }, { accessFlags := 25, nameIndex := 450, descriptorIndex := 404, attributes := #[] }, { accessFlags := 25, nameIndex := 452, descriptorIndex := 404, attributes := #[] }, { accessFlags := 25, nameIndex := 454, descriptorIndex := 404, attributes := #[] }, { accessFlags := 25, nameIndex := 456, descriptorIndex := 404, attributes := #[] }, { accessFlags := 25, nameIndex := 458, descriptorIndex := 404, attributes := #[] }, { accessFlags := 25, nameIndex := 460, descriptorIndex := 404, attributes := #[] }, { accessFlags := 24, nameIndex := 462, descriptorIndex := 392, attributes := #[] }, { accessFlags := 25, nameIndex := 464, descriptorIndex := 404, attributes := #[] }, { accessFlags := 25, nameIndex := 465, descriptorIndex := 404, attributes := #[] }, { accessFlags := 25, nameIndex := 466, descriptorIndex := 404, attributes := #[] }, { accessFlags := 25, nameIndex := 467, descriptorIndex := 404, attributes := #[] }, { accessFlags := 25, nameIndex := 468, descriptorIndex := 404, attributes := #[] }, { accessFlags := 25, nameIndex := 469, descriptorIndex := 404, attributes := #[] }, { accessFlags := 25, nameIndex := 470, descriptorIndex := 404, attributes := #[] }, { accessFlags := 25, nameIndex := 471, descriptorIndex := 404, attributes := #[] }, { accessFlags := 25, nameIndex := 472, descriptorIndex := 404, attributes := #[] }, { accessFlags := 25, nameIndex := 473, descriptorIndex := 404, attributes := #[] }, { accessFlags := 25, nameIndex := 474, descriptorIndex := 404, attributes := #[] }, { accessFlags := 25, nameIndex := 475, descriptorIndex := 404, attributes := #[] }, { accessFlags := 25, nameIndex := 476, descriptorIndex := 404, attributes := #[] }, { accessFlags := 25, nameIndex := 477, descriptorIndex := 404, attributes := #[] }, { accessFlags := 25, nameIndex := 478, descriptorIndex := 404, attributes := #[] }, { accessFlags := 25, nameIndex := 479, descriptorIndex := 404, attributes := #[] }, { accessFlags := 25, nameIndex := 480, descriptorIndex := 404, attributes := #[] }, { accessFlags := 25, nameIndex := 481, descriptorIndex := 404, attributes := #[] }, { accessFlags := 25, nameIndex := 482, descriptorIndex := 404, attributes := #[] }, { accessFlags := 25, nameIndex := 484, descriptorIndex := 404, attributes := #[] }, { accessFlags := 25, nameIndex := 485, descriptorIndex := 404, attributes := #[] }, { accessFlags := 25, nameIndex := 486, descriptorIndex := 404, attributes := #[] }, { accessFlags := 25, nameIndex := 487, descriptorIndex := 404, attributes := #[] }, { accessFlags := 25, nameIndex := 488, descriptorIndex := 404, attributes := #[] }, { accessFlags := 25, nameIndex := 489, descriptorIndex := 22, attributes := #[] }, { accessFlags := 25, nameIndex := 490, descriptorIndex := 22, attributes := #[] }, { accessFlags := 25, nameIndex := 492, descriptorIndex := 22, attributes := #[] }, { accessFlags := 25, nameIndex := 493, descriptorIndex := 22, attributes := #[] }, { accessFlags := 25, nameIndex := 495, descriptorIndex := 22, attributes := #[] }, { accessFlags := 25, nameIndex := 496, descriptorIndex := 22, attributes := #[] }, { accessFlags := 25, nameIndex := 497, descriptorIndex := 392, attributes := #[] }, { accessFlags := 25, nameIndex := 498, descriptorIndex := 392, attributes := #[] }, { accessFlags := 25, nameIndex := 499, descriptorIndex := 392, attributes := #[] }, { accessFlags := 18, nameIndex := 21, descriptorIndex := 22, attributes := #[] }, { accessFlags := 26, nameIndex := 501, descriptorIndex := 502, attributes := #[] }, { accessFlags := 25, nameIndex := 505, descriptorIndex := 392, attributes := #[] }, { accessFlags := 25, nameIndex := 506, descriptorIndex := 392, attributes := #[] }, { accessFlags := 4120, nameIndex := 284, descriptorIndex := 285, attributes := #[] }])
  fields := #[{ name := "MIN_RADIX", type := .int, accessFlags := 25, slot := 0, constantValue := 0 }, { name := "MAX_RADIX", type := .int, accessFlags := 25, slot := 1, constantValue := 0 }, { name := "MIN_VALUE", type := .char, accessFlags := 25, slot := 2, constantValue := 0 }, { name := "MAX_VALUE", type := .char, accessFlags := 25, slot := 3, constantValue := 0 }, { name := "TYPE", type := (.object "java/lang/Class"), accessFlags := 25, slot := 4, constantValue := 0 }, { name := "UNASSIGNED", type := .byte, accessFlags := 25, slot := 5, constantValue := 0 }, { name := "UPPERCASE_LETTER", type := .byte, accessFlags := 25, slot := 6, constantValue := 0 }, { name := "LOWERCASE_LETTER", type := .byte, accessFlags := 25, slot := 7, constantValue := 0 }, { name := "TITLECASE_LETTER", type := .byte, accessFlags := 25, slot := 8, constantValue := 0 }, { name := "MODIFIER_LETTER", type := .byte, accessFlags := 25, slot := 9, constantValue := 0 }, { name := "OTHER_LETTER", type := .byte, accessFlags := 25, slot := 10, constantValue := 0 }, { name := "NON_SPACING_MARK", type := .byte, accessFlags := 25, slot := 11, constantValue := 0 }, { name := "ENCLOSING_MARK", type := .byte, accessFlags := 25, slot := 12, constantValue := 0 }, { name := "COMBINING_SPACING_MARK", type := .byte, accessFlags := 25, slot := 13, constantValue := 0 }, { name := "DECIMAL_DIGIT_NUMBER", type := .byte, accessFlags := 25, slot := 14, constantValue := 0 }, { name := "LETTER_NUMBER", type := .byte, accessFlags := 25, slot := 15, constantValue := 0 }, { name := "OTHER_NUMBER", type := .byte, accessFlags := 25, slot := 16, constantValue := 0 }, { name := "SPACE_SEPARATOR", type := .byte, accessFlags := 25, slot := 17, constantValue := 0 }, { name := "LINE_SEPARATOR", type := .byte, accessFlags := 25, slot := 18, constantValue := 0 }, { name := "PARAGRAPH_SEPARATOR", type := .byte, accessFlags := 25, slot := 19, constantValue := 0 }, { name := "CONTROL", type := .byte, accessFlags := 25, slot := 20, constantValue := 0 }, { name := "FORMAT", type := .byte, accessFlags := 25, slot := 21, constantValue := 0 }, { name := "PRIVATE_USE", type := .byte, accessFlags := 25, slot := 22, constantValue := 0 }, { name := "SURROGATE", type := .byte, accessFlags := 25, slot := 23, constantValue := 0 }, { name := "DASH_PUNCTUATION", type := .byte, accessFlags := 25, slot := 24, constantValue := 0 }, { name := "START_PUNCTUATION", type := .byte, accessFlags := 25, slot := 25, constantValue := 0 }, { name := "END_PUNCTUATION", type := .byte, accessFlags := 25, slot := 26, constantValue := 0 }, { name := "CONNECTOR_PUNCTUATION", type := .byte, accessFlags := 25, slot := 27, constantValue := 0 }, { name := "OTHER_PUNCTUATION", type := .byte, accessFlags := 25, slot := 28, constantValue := 0 }, { name := "MATH_SYMBOL", type := .byte, accessFlags := 25, slot := 29, constantValue := 0 }, { name := "CURRENCY_SYMBOL", type := .byte, accessFlags := 25, slot := 30, constantValue := 0 }, { name := "MODIFIER_SYMBOL", type := .byte, accessFlags := 25, slot := 31, constantValue := 0 }, { name := "OTHER_SYMBOL", type := .byte, accessFlags := 25, slot := 32, constantValue := 0 }, { name := "INITIAL_QUOTE_PUNCTUATION", type := .byte, accessFlags := 25, slot := 33, constantValue := 0 }, { name := "FINAL_QUOTE_PUNCTUATION", type := .byte, accessFlags := 25, slot := 34, constantValue := 0 }, { name := "ERROR", type := .int, accessFlags := 24, slot := 35, constantValue := 0 }, { name := "DIRECTIONALITY_UNDEFINED", type := .byte, accessFlags := 25, slot := 36, constantValue := 0 }, { name := "DIRECTIONALITY_LEFT_TO_RIGHT", type := .byte, accessFlags := 25, slot := 37, constantValue := 0 }, { name := "DIRECTIONALITY_RIGHT_TO_LEFT", type := .byte, accessFlags := 25, slot := 38, constantValue := 0 }, { name := "DIRECTIONALITY_RIGHT_TO_LEFT_ARABIC", type := .byte, accessFlags := 25, slot := 39, constantValue := 0 }, { name := "DIRECTIONALITY_EUROPEAN_NUMBER", type := .byte, accessFlags := 25, slot := 40, constantValue := 0 }, { name := "DIRECTIONALITY_EUROPEAN_NUMBER_SEPARATOR", type := .byte, accessFlags := 25, slot := 41, constantValue := 0 }, { name := "DIRECTIONALITY_EUROPEAN_NUMBER_TERMINATOR", type := .byte, accessFlags := 25, slot := 42, constantValue := 0 }, { name := "DIRECTIONALITY_ARABIC_NUMBER", type := .byte, accessFlags := 25, slot := 43, constantValue := 0 }, { name := "DIRECTIONALITY_COMMON_NUMBER_SEPARATOR", type := .byte, accessFlags := 25, slot := 44, constantValue := 0 }, { name := "DIRECTIONALITY_NONSPACING_MARK", type := .byte, accessFlags := 25, slot := 45, constantValue := 0 }, { name := "DIRECTIONALITY_BOUNDARY_NEUTRAL", type := .byte, accessFlags := 25, slot := 46, constantValue := 0 }, { name := "DIRECTIONALITY_PARAGRAPH_SEPARATOR", type := .byte, accessFlags := 25, slot := 47, constantValue := 0 }, { name := "DIRECTIONALITY_SEGMENT_SEPARATOR", type := .byte, accessFlags := 25, slot := 48, constantValue := 0 }, { name := "DIRECTIONALITY_WHITESPACE", type := .byte, accessFlags := 25, slot := 49, constantValue := 0 }, { name := "DIRECTIONALITY_OTHER_NEUTRALS", type := .byte, accessFlags := 25, slot := 50, constantValue := 0 }, { name := "DIRECTIONALITY_LEFT_TO_RIGHT_EMBEDDING", type := .byte, accessFlags := 25, slot := 51, constantValue := 0 }, { name := "DIRECTIONALITY_LEFT_TO_RIGHT_OVERRIDE", type := .byte, accessFlags := 25, slot := 52, constantValue := 0 }, { name := "DIRECTIONALITY_RIGHT_TO_LEFT_EMBEDDING", type := .byte, accessFlags := 25, slot := 53, constantValue := 0 }, { name := "DIRECTIONALITY_RIGHT_TO_LEFT_OVERRIDE", type := .byte, accessFlags := 25, slot := 54, constantValue := 0 }, { name := "DIRECTIONALITY_POP_DIRECTIONAL_FORMAT", type := .byte, accessFlags := 25, slot := 55, constantValue := 0 }, { name := "DIRECTIONALITY_LEFT_TO_RIGHT_ISOLATE", type := .byte, accessFlags := 25, slot := 56, constantValue := 0 }, { name := "DIRECTIONALITY_RIGHT_TO_LEFT_ISOLATE", type := .byte, accessFlags := 25, slot := 57, constantValue := 0 }, { name := "DIRECTIONALITY_FIRST_STRONG_ISOLATE", type := .byte, accessFlags := 25, slot := 58, constantValue := 0 }, { name := "DIRECTIONALITY_POP_DIRECTIONAL_ISOLATE", type := .byte, accessFlags := 25, slot := 59, constantValue := 0 }, { name := "MIN_HIGH_SURROGATE", type := .char, accessFlags := 25, slot := 60, constantValue := 0 }, { name := "MAX_HIGH_SURROGATE", type := .char, accessFlags := 25, slot := 61, constantValue := 0 }, { name := "MIN_LOW_SURROGATE", type := .char, accessFlags := 25, slot := 62, constantValue := 0 }, { name := "MAX_LOW_SURROGATE", type := .char, accessFlags := 25, slot := 63, constantValue := 0 }, { name := "MIN_SURROGATE", type := .char, accessFlags := 25, slot := 64, constantValue := 0 }, { name := "MAX_SURROGATE", type := .char, accessFlags := 25, slot := 65, constantValue := 0 }, { name := "MIN_SUPPLEMENTARY_CODE_POINT", type := .int, accessFlags := 25, slot := 66, constantValue := 0 }, { name := "MIN_CODE_POINT", type := .int, accessFlags := 25, slot := 67, constantValue := 0 }, { name := "MAX_CODE_POINT", type := .int, accessFlags := 25, slot := 68, constantValue := 0 }, { name := "value", type := .char, accessFlags := 18, slot := 0, constantValue := 0 }, { name := "serialVersionUID", type := .long, accessFlags := 26, slot := 69, constantValue := 0 }, { name := "SIZE", type := .int, accessFlags := 25, slot := 70, constantValue := 0 }, { name := "BYTES", type := .int, accessFlags := 25, slot := 71, constantValue := 0 }, { name := "$assertionsDisabled", type := .boolean, accessFlags := 4120, slot := 72, constantValue := 0 }]
  methods := #[k10m0]
  instanceTypes := #[.char]
  staticTypes := #[.int, .int, .char, .char, (.object "java/lang/Class"), .byte, .byte, .byte, .byte, .byte, .byte, .byte, .byte, .byte, .byte, .byte, .byte, .byte, .byte, .byte, .byte, .byte, .byte, .byte, .byte, .byte, .byte, .byte, .byte, .byte, .byte, .byte, .byte, .byte, .byte, .int, .byte, .byte, .byte, .byte, .byte, .byte, .byte, .byte, .byte, .byte, .byte, .byte, .byte, .byte, .byte, .byte, .byte, .byte, .byte, .byte, .byte, .byte, .byte, .byte, .char, .char, .char, .char, .char, .char, .int, .int, .int, .long, .int, .int, .boolean]
  resolved := Array.replicate 604 none
  statics := none }

def pool11 : Array CpInfo := pool [(2, .class_ 4), (1, u "java/lang/Object"), (0, u "<init>"), (0, u "()V"), (17, .class_ 26), (1, u "org/afterlog/internal/json/JsonString"), (21, u "utf8"), (0, u "([BII)I"), (0, .integer 65536), (20, u "ESCAPES"), (0, u "[Ljava/lang/String;"), (2, u "HEX"), (0, u "[C")] 54

def k11m0 : Method := { name := "<init>", desc := "()V", sig := { parameters := [], returnType := none }, accessFlags := 2, code := none }
def k11c1 : Code := { maxStack := 5, maxLocals := 4, code := prog_66_method_4_code, exceptionTable := #[], attributes := #[] }
def k11m1 : Method := { name := "utf8", desc := "([BII)I", sig := { parameters := [(.array .byte), .int, .int], returnType := some .int }, accessFlags := 8, code := some k11c1 }
/-- org/afterlog/internal/json/JsonString -/
def k11 : Class := { plain "org/afterlog/internal/json/JsonString" (some 0) with
  accessFlags := 49
  interfaces := #[]
  cf := some (fileOf pool11 24 #[] #[{ accessFlags := 2, nameIndex := 5, descriptorIndex := 6, attributes := #[] }, { accessFlags := 8, nameIndex := 48, descriptorIndex := 49, attributes := #[] }] 49 2 #[] #[{ accessFlags := 26, nameIndex := 75, descriptorIndex := 76, attributes := #[] }, { accessFlags := 26, nameIndex := 71, descriptorIndex := 72, attributes := #[] }])
  fields := #[{ name := "HEX", type := (.array .char), accessFlags := 26, slot := 0, constantValue := 0 }, { name := "ESCAPES", type := (.array (.object "java/lang/String")), accessFlags := 26, slot := 1, constantValue := 0 }]
  methods := #[k11m0, k11m1]
  instanceTypes := #[]
  staticTypes := #[(.array .char), (.array (.object "java/lang/String"))]
  resolved := Array.replicate 131 none
  statics := none }

def pool12 : Array CpInfo := pool [(1, u "java/lang/Cloneable"), (0, .class_ 1), (0, u "java/lang/Object"), (0, .class_ 3)] 3

/-- java/lang/Cloneable -/
def k12 : Class := { plain "java/lang/Cloneable" (some 0) with
  accessFlags := 1537
  interfaces := #[]
  cf := some (fileOf pool12 2 #[] #[] 1537 4 #[] #[])
  fields := #[]
  methods := #[]
  instanceTypes := #[]
  staticTypes := #[]
  resolved := Array.replicate 8 none
  statics := none }

/-- the primitive byte -/
def k13 : Class := { plain "byte" none with kind := .primitive 'B', accessFlags := 0x411 }
/-- [B -/
def k14 : Class := { plain "[B" (some 0) with kind := .array 13 .byte, interfaces := #[12, 7], accessFlags := 1041 }

/-- the primitive int -/
def k15 : Class := { plain "int" none with kind := .primitive 'I', accessFlags := 0x411 }
/-- [I -/
def k16 : Class := { plain "[I" (some 0) with kind := .array 15 .int, interfaces := #[12, 7], accessFlags := 1041 }

/-- [[B -/
def k17 : Class := { plain "[[B" (some 0) with kind := .array 14 (.array .byte), interfaces := #[12, 7], accessFlags := 1041 }
def heap : Heap := #[]
def classes : Array Class := #[k0, k1, k2, k3, k4, k5, k6, k7, k8, k9, k10, k11, k12, k13, k14, k15, k16, k17]
def interned : List (Array UInt16 × Addr) := []
def slotsUsed : Nat := 0
def theMethod : MethodId := ⟨1, 1⟩
def args0 : Array Value := #[.int 5, .int 6, .long 7, .int 8, .int 1]
def aboutOver (below : List Frame) : State where
  vm := { classes := classes, interned := interned.toArray }
  heap := heap
  slotsUsed := slotsUsed
  threads := #[{ frames := .invoking theMethod args0 :: below }]
def below0 : List Frame := [.native { method := ⟨0, 0⟩, args := #[] }]
def about1 : State := aboutOver below0
def p0 : Program := .bare "" "" ""
def e0 : Env := launch0.env 0 0 0
theorem w_frames : about1.frames = Frame.invoking theMethod args0 :: below0 := rfl
set_option maxRecDepth 65536 in
theorem w_args : argsFit about1.vm theMethod args0 = true := by decide +kernel
set_option maxRecDepth 65536 in
theorem w_heap : heapFits about1 = true := by decide +kernel
set_option maxRecDepth 65536 in
theorem w_runnable : about1.curStatus? = some .runnable := by decide +kernel
set_option maxRecDepth 65536 in
theorem w_alone : about1.alone = true := by decide +kernel
set_option maxRecDepth 65536 in
theorem w_named : about1.methodNamed? x = some theMethod := by decide +kernel
set_option maxRecDepth 65536 in
theorem w_hears : about1.hears theMethod below0 = true := by decide +kernel
set_option maxRecDepth 65536 in
theorem w_ripe : about1.ripe theMethod args0 below0 = true := by decide +kernel
theorem w_running : about1.status = .running := rfl
set_option maxRecDepth 65536 in
theorem w_room : about1.hasRoom e0.platform room_1 = true :=
  launch0.hasRoom_least _ room_1 (by decide +kernel) (by decide +kernel) (by decide +kernel) (by decide +kernel) (by decide +kernel) (by decide +kernel)
theorem allAtoms_all (ts : List Jvm.Cond) (a : Array Jvm.Value) (st : Jvm.State) : (allAtoms ts).before a st = ts.all (fun c => c.before a st) := by
  induction ts with
  | nil => rfl
  | cons c t ih =>
    show (Jvm.Cond.and c (allAtoms t)).before a st = _
    rw [Jvm.Cond.before_and, ih, List.all_cons]
def words1 : List Jvm.Cond := Jvm.Cond.code x code maxLocals ret :: tables_1
/-- a 'code' word, met by the world's own term for the bytes: nothing is compared byte by byte -/
theorem code_word {y : MethodName} {bytes : ByteArray} {mx : Nat} {rt : Option FieldType} {a : Array Value} {s : State} {m : MethodId} {meth : Method} {c : Code} (h1 : s.methodNamed? y = some m) (h2 : s.vm.method? m = some meth) (h3 : meth.code = some c) (h4 : c.code = bytes)
    (h5 : (c.maxLocals == mx && c.exceptionTable.isEmpty && decide (c.maxStack ≤ mostOperands) && decide (meth.sig.returnType = rt) && !meth.locks && decide (parseMethodDescriptor y.desc = some meth.sig)) = true) : (Jvm.Cond.code y bytes mx rt).before a s = true := by
  simp only [Bool.and_eq_true, beq_iff_eq, Bool.not_eq_true', decide_eq_true_eq] at h5
  obtain ⟨⟨⟨⟨⟨g1, g2⟩, g3⟩, g4⟩, g5⟩, g6⟩ := h5
  simp [Cond.before, Cond.holds, Cond.value, h1, h2, h3, h4, g1, g2, g3, g4, g5, g6]
def isCode : Jvm.Cond → Bool
  | .code _ _ _ _ => true
  | _ => false
theorem all_split {L : List Jvm.Cond} {P : Jvm.Cond → Bool} (h1 : L.all (fun c => isCode c || P c) = true) (h2 : ∀ c ∈ L.filter isCode, P c = true) : L.all P = true := by
  refine List.all_eq_true.mpr fun c hc => ?_
  have h := List.all_eq_true.mp h1 c hc
  rcases Bool.eq_false_or_eq_true (isCode c) with hi | hi
  · exact h2 c (List.mem_filter.mpr ⟨hc, hi⟩)
  · simpa [hi] using h
set_option maxRecDepth 65536 in
theorem w_c0 : (Jvm.Cond.code x code maxLocals ret).before args0 about1 = true := code_word (m := ⟨1, 1⟩) (meth := k1m1) (c := k1c1) (by decide +kernel) rfl rfl rfl (by decide +kernel)
set_option maxRecDepth 65536 in
theorem w_c1 : (Jvm.Cond.code ({ cls := "org/afterlog/internal/json/JsonLine", name := "<init>", desc := "()V" } : Jvm.MethodName) prog_63_method_1_code (1 : Nat) (Option.none : Option Jvm.ClassFile.FieldType)).before args0 about1 = true := code_word (m := ⟨2, 0⟩) (meth := k2m0) (c := k2c0) (by decide +kernel) rfl rfl rfl (by decide +kernel)
set_option maxRecDepth 65536 in
theorem w_c2 : (Jvm.Cond.code ({ cls := "java/lang/Object", name := "<init>", desc := "()V" } : Jvm.MethodName) object_method_1_code (1 : Nat) (Option.none : Option Jvm.ClassFile.FieldType)).before args0 about1 = true := code_word (m := ⟨0, 0⟩) (meth := k0m0) (c := k0c0) (by decide +kernel) rfl rfl rfl (by decide +kernel)
set_option maxRecDepth 65536 in
theorem w_c3 : (Jvm.Cond.code ({ cls := "org/afterlog/internal/json/JsonLine", name := "append", desc := "([BII)V" } : Jvm.MethodName) prog_63_method_6_code (8 : Nat) (Option.none : Option Jvm.ClassFile.FieldType)).before args0 about1 = true := code_word (m := ⟨2, 3⟩) (meth := k2m3) (c := k2c3) (by decide +kernel) rfl rfl rfl (by decide +kernel)
set_option maxRecDepth 65536 in
theorem w_c4 : (Jvm.Cond.code ({ cls := "java/lang/Math", name := "min", desc := "(II)I" } : Jvm.MethodName) jdk_29_method_69_code (2 : Nat) (Option.some Jvm.ClassFile.FieldType.int)).before args0 about1 = true := code_word (m := ⟨3, 1⟩) (meth := k3m1) (c := k3c1) (by decide +kernel) rfl rfl rfl (by decide +kernel)
set_option maxRecDepth 65536 in
theorem w_c5 : (Jvm.Cond.code ({ cls := "org/afterlog/internal/json/JsonText", name := "<init>", desc := "()V" } : Jvm.MethodName) prog_67_method_1_code (1 : Nat) (Option.none : Option Jvm.ClassFile.FieldType)).before args0 about1 = true := code_word (m := ⟨6, 0⟩) (meth := k6m0) (c := k6c0) (by decide +kernel) rfl rfl rfl (by decide +kernel)
set_option maxRecDepth 65536 in
theorem w_c6 : (Jvm.Cond.code ({ cls := "org/afterlog/internal/json/JsonText", name := "set", desc := "(Lorg/afterlog/internal/json/JsonLine;IIZJI)V" } : Jvm.MethodName) prog_67_method_2_code (8 : Nat) (Option.none : Option Jvm.ClassFile.FieldType)).before args0 about1 = true := code_word (m := ⟨6, 1⟩) (meth := k6m1) (c := k6c1) (by decide +kernel) rfl rfl rfl (by decide +kernel)
set_option maxRecDepth 65536 in
theorem w_c7 : (Jvm.Cond.code ({ cls := "org/afterlog/internal/json/JsonText", name := "length", desc := "()J" } : Jvm.MethodName) prog_67_method_3_code (1 : Nat) (Option.some Jvm.ClassFile.FieldType.long)).before args0 about1 = true := code_word (m := ⟨6, 2⟩) (meth := k6m2) (c := k6c2) (by decide +kernel) rfl rfl rfl (by decide +kernel)
set_option maxRecDepth 65536 in
theorem w_c8 : (Jvm.Cond.code ({ cls := "org/afterlog/internal/json/JsonText", name := "unpaired", desc := "()I" } : Jvm.MethodName) prog_67_method_4_code (1 : Nat) (Option.some Jvm.ClassFile.FieldType.int)).before args0 about1 = true := code_word (m := ⟨6, 3⟩) (meth := k6m3) (c := k6c3) (by decide +kernel) rfl rfl rfl (by decide +kernel)
set_option maxRecDepth 65536 in
theorem w_c9 : (Jvm.Cond.code ({ cls := "org/afterlog/internal/json/JsonText", name := "isEmpty", desc := "()Z" } : Jvm.MethodName) prog_67_method_5_code (1 : Nat) (Option.some Jvm.ClassFile.FieldType.boolean)).before args0 about1 = true := code_word (m := ⟨6, 4⟩) (meth := k6m4) (c := k6c4) (by decide +kernel) rfl rfl rfl (by decide +kernel)
set_option maxRecDepth 65536 in
theorem w_c10 : (Jvm.Cond.code ({ cls := "org/afterlog/internal/json/JsonText", name := "copyTo", desc := "([BI)I" } : Jvm.MethodName) prog_67_method_6_code (3 : Nat) (Option.some Jvm.ClassFile.FieldType.int)).before args0 about1 = true := code_word (m := ⟨6, 5⟩) (meth := k6m5) (c := k6c5) (by decide +kernel) rfl rfl rfl (by decide +kernel)
set_option maxRecDepth 65536 in
theorem w_c11 : (Jvm.Cond.code ({ cls := "org/afterlog/internal/json/JsonLine", name := "copy", desc := "(II[BI)I" } : Jvm.MethodName) prog_63_method_4_code (8 : Nat) (Option.some Jvm.ClassFile.FieldType.int)).before args0 about1 = true := code_word (m := ⟨2, 2⟩) (meth := k2m2) (c := k2c2) (by decide +kernel) rfl rfl rfl (by decide +kernel)
set_option maxRecDepth 65536 in
theorem w_c12 : (Jvm.Cond.code ({ cls := "org/afterlog/internal/json/JsonText", name := "copyDecoded", desc := "([BI)I" } : Jvm.MethodName) prog_67_method_7_code (8 : Nat) (Option.some Jvm.ClassFile.FieldType.int)).before args0 about1 = true := code_word (m := ⟨6, 6⟩) (meth := k6m6) (c := k6c6) (by decide +kernel) rfl rfl rfl (by decide +kernel)
set_option maxRecDepth 65536 in
theorem w_c13 : (Jvm.Cond.code ({ cls := "org/afterlog/internal/json/JsonText", name := "plainEnd", desc := "(I)I" } : Jvm.MethodName) prog_67_method_10_code (3 : Nat) (Option.some Jvm.ClassFile.FieldType.int)).before args0 about1 = true := code_word (m := ⟨6, 7⟩) (meth := k6m7) (c := k6c7) (by decide +kernel) rfl rfl rfl (by decide +kernel)
set_option maxRecDepth 65536 in
theorem w_c14 : (Jvm.Cond.code ({ cls := "org/afterlog/internal/json/JsonLine", name := "byteAt", desc := "(I)B" } : Jvm.MethodName) prog_63_method_3_code (2 : Nat) (Option.some Jvm.ClassFile.FieldType.byte)).before args0 about1 = true := code_word (m := ⟨2, 1⟩) (meth := k2m1) (c := k2c1) (by decide +kernel) rfl rfl rfl (by decide +kernel)
set_option maxRecDepth 65536 in
theorem w_c15 : (Jvm.Cond.code ({ cls := "org/afterlog/internal/json/JsonText", name := "escape", desc := "(Lorg/afterlog/internal/json/JsonLine;I)I" } : Jvm.MethodName) prog_67_method_11_code (4 : Nat) (Option.some Jvm.ClassFile.FieldType.int)).before args0 about1 = true := code_word (m := ⟨6, 8⟩) (meth := k6m8) (c := k6c8) (by decide +kernel) rfl rfl rfl (by decide +kernel)
set_option maxRecDepth 65536 in
theorem w_c16 : (Jvm.Cond.code ({ cls := "org/afterlog/internal/json/JsonText", name := "escapeLength", desc := "(Lorg/afterlog/internal/json/JsonLine;I)I" } : Jvm.MethodName) prog_67_method_12_code (2 : Nat) (Option.some Jvm.ClassFile.FieldType.int)).before args0 about1 = true := code_word (m := ⟨6, 9⟩) (meth := k6m9) (c := k6c9) (by decide +kernel) rfl rfl rfl (by decide +kernel)
set_option maxRecDepth 65536 in
theorem w_c17 : (Jvm.Cond.code ({ cls := "java/lang/Character", name := "isHighSurrogate", desc := "(C)Z" } : Jvm.MethodName) jdk_89_method_14_code (1 : Nat) (Option.some Jvm.ClassFile.FieldType.boolean)).before args0 about1 = true := code_word (m := ⟨10, 0⟩) (meth := k10m0) (c := k10c0) (by decide +kernel) rfl rfl rfl (by decide +kernel)
set_option maxRecDepth 65536 in
theorem w_c18 : (Jvm.Cond.code ({ cls := "org/afterlog/internal/json/JsonString", name := "utf8", desc := "([BII)I" } : Jvm.MethodName) prog_66_method_4_code (4 : Nat) (Option.some Jvm.ClassFile.FieldType.int)).before args0 about1 = true := code_word (m := ⟨11, 1⟩) (meth := k11m1) (c := k11c1) (by decide +kernel) rfl rfl rfl (by decide +kernel)
def codes1 : List Jvm.Cond := [Jvm.Cond.code x code maxLocals ret, Jvm.Cond.code ({ cls := "org/afterlog/internal/json/JsonLine", name := "<init>", desc := "()V" } : Jvm.MethodName) prog_63_method_1_code (1 : Nat) (Option.none : Option Jvm.ClassFile.FieldType), Jvm.Cond.code ({ cls := "java/lang/Object", name := "<init>", desc := "()V" } : Jvm.MethodName) object_method_1_code (1 : Nat) (Option.none : Option Jvm.ClassFile.FieldType), Jvm.Cond.code ({ cls := "org/afterlog/internal/json/JsonLine", name := "append", desc := "([BII)V" } : Jvm.MethodName) prog_63_method_6_code (8 : Nat) (Option.none : Option Jvm.ClassFile.FieldType), Jvm.Cond.code ({ cls := "java/lang/Math", name := "min", desc := "(II)I" } : Jvm.MethodName) jdk_29_method_69_code (2 : Nat) (Option.some Jvm.ClassFile.FieldType.int), Jvm.Cond.code ({ cls := "org/afterlog/internal/json/JsonText", name := "<init>", desc := "()V" } : Jvm.MethodName) prog_67_method_1_code (1 : Nat) (Option.none : Option Jvm.ClassFile.FieldType), Jvm.Cond.code ({ cls := "org/afterlog/internal/json/JsonText", name := "set", desc := "(Lorg/afterlog/internal/json/JsonLine;IIZJI)V" } : Jvm.MethodName) prog_67_method_2_code (8 : Nat) (Option.none : Option Jvm.ClassFile.FieldType), Jvm.Cond.code ({ cls := "org/afterlog/internal/json/JsonText", name := "length", desc := "()J" } : Jvm.MethodName) prog_67_method_3_code (1 : Nat) (Option.some Jvm.ClassFile.FieldType.long), Jvm.Cond.code ({ cls := "org/afterlog/internal/json/JsonText", name := "unpaired", desc := "()I" } : Jvm.MethodName) prog_67_method_4_code (1 : Nat) (Option.some Jvm.ClassFile.FieldType.int), Jvm.Cond.code ({ cls := "org/afterlog/internal/json/JsonText", name := "isEmpty", desc := "()Z" } : Jvm.MethodName) prog_67_method_5_code (1 : Nat) (Option.some Jvm.ClassFile.FieldType.boolean), Jvm.Cond.code ({ cls := "org/afterlog/internal/json/JsonText", name := "copyTo", desc := "([BI)I" } : Jvm.MethodName) prog_67_method_6_code (3 : Nat) (Option.some Jvm.ClassFile.FieldType.int), Jvm.Cond.code ({ cls := "org/afterlog/internal/json/JsonLine", name := "copy", desc := "(II[BI)I" } : Jvm.MethodName) prog_63_method_4_code (8 : Nat) (Option.some Jvm.ClassFile.FieldType.int), Jvm.Cond.code ({ cls := "org/afterlog/internal/json/JsonText", name := "copyDecoded", desc := "([BI)I" } : Jvm.MethodName) prog_67_method_7_code (8 : Nat) (Option.some Jvm.ClassFile.FieldType.int), Jvm.Cond.code ({ cls := "org/afterlog/internal/json/JsonText", name := "plainEnd", desc := "(I)I" } : Jvm.MethodName) prog_67_method_10_code (3 : Nat) (Option.some Jvm.ClassFile.FieldType.int), Jvm.Cond.code ({ cls := "org/afterlog/internal/json/JsonLine", name := "byteAt", desc := "(I)B" } : Jvm.MethodName) prog_63_method_3_code (2 : Nat) (Option.some Jvm.ClassFile.FieldType.byte), Jvm.Cond.code ({ cls := "org/afterlog/internal/json/JsonText", name := "escape", desc := "(Lorg/afterlog/internal/json/JsonLine;I)I" } : Jvm.MethodName) prog_67_method_11_code (4 : Nat) (Option.some Jvm.ClassFile.FieldType.int), Jvm.Cond.code ({ cls := "org/afterlog/internal/json/JsonText", name := "escapeLength", desc := "(Lorg/afterlog/internal/json/JsonLine;I)I" } : Jvm.MethodName) prog_67_method_12_code (2 : Nat) (Option.some Jvm.ClassFile.FieldType.int), Jvm.Cond.code ({ cls := "java/lang/Character", name := "isHighSurrogate", desc := "(C)Z" } : Jvm.MethodName) jdk_89_method_14_code (1 : Nat) (Option.some Jvm.ClassFile.FieldType.boolean), Jvm.Cond.code ({ cls := "org/afterlog/internal/json/JsonString", name := "utf8", desc := "([BII)I" } : Jvm.MethodName) prog_66_method_4_code (4 : Nat) (Option.some Jvm.ClassFile.FieldType.int)]
set_option maxRecDepth 65536 in
theorem codes_eq : words1.filter isCode = codes1 := rfl
theorem w_codes : ∀ c ∈ words1.filter isCode, c.before args0 about1 = true := by
  rw [codes_eq]
  intro c hc
  simp only [codes1, List.mem_cons, List.not_mem_nil, or_false] at hc
  rcases hc with rfl | rfl | rfl | rfl | rfl | rfl | rfl | rfl | rfl | rfl | rfl | rfl | rfl | rfl | rfl | rfl | rfl | rfl | rfl
  · exact w_c0
  · exact w_c1
  · exact w_c2
  · exact w_c3
  · exact w_c4
  · exact w_c5
  · exact w_c6
  · exact w_c7
  · exact w_c8
  · exact w_c9
  · exact w_c10
  · exact w_c11
  · exact w_c12
  · exact w_c13
  · exact w_c14
  · exact w_c15
  · exact w_c16
  · exact w_c17
  · exact w_c18
set_option maxRecDepth 65536 in
theorem w_t1 : (words1.take 24).all (fun c => isCode c || c.before args0 about1) = true := by decide +kernel
set_option maxRecDepth 65536 in
theorem w_t2 : ((words1.drop 24).take 24).all (fun c => isCode c || c.before args0 about1) = true := by decide +kernel
set_option maxRecDepth 65536 in
theorem w_t3 : (((words1.drop 24).drop 24).take 24).all (fun c => isCode c || c.before args0 about1) = true := by decide +kernel
set_option maxRecDepth 65536 in
theorem w_t4 : ((((words1.drop 24).drop 24).drop 24).take 24).all (fun c => isCode c || c.before args0 about1) = true := by decide +kernel
set_option maxRecDepth 65536 in
theorem w_t5 : ((((words1.drop 24).drop 24).drop 24).drop 24).all (fun c => isCode c || c.before args0 about1) = true := by decide +kernel
theorem w_tables : (allAtoms (Jvm.Cond.code x code maxLocals ret :: tables_1)).before args0 about1 = true := by
  rw [allAtoms_all]
  show words1.all (fun c => c.before args0 about1) = true
  refine all_split ?_ w_codes
  rw [← List.take_append_drop 24 words1, List.all_append, w_t1, ← List.take_append_drop 24 (words1.drop 24), List.all_append, w_t2, ← List.take_append_drop 24 ((words1.drop 24).drop 24), List.all_append, w_t3, ← List.take_append_drop 24 (((words1.drop 24).drop 24).drop 24), List.all_append, w_t4, w_t5]
  rfl
set_option maxRecDepth 65536 in
theorem w_case : (Jvm.Cond.and given_1 narrow_1).before args0 about1 = true := by decide +kernel
theorem w_applies : (headSpec (Jvm.Cond.code x code maxLocals ret :: tables_1) room_1).applies x e0.platform about1 = true :=
  (Spec.applies_iff w_frames).mpr ⟨w_running, w_runnable, w_alone, w_named, w_hears, w_ripe, w_room, w_tables⟩
theorem atStart : AtStart classFile x code maxLocals ret World_1 tables_1 room_1 Calls_1 rest_1 Pre_1 launch0 p0 e0 about1 theMethod args0 below0 :=
  ⟨lists_1, trivial, launch0.admits_env _ _ _, launch0.least_env, fairChoices_fair.cas, fairChoices_fair.clock, w_frames, w_args, w_heap, w_applies, trivial, trivial, w_case⟩
end start1
theorem witness_1 : WitnessClaimed_1 := ⟨start1.p0, start1.e0, start1.about1, start1.theMethod, start1.args0, start1.below0, start1.atStart⟩
end Jvm.Pilot.@@N@@
