import JvmDerived
import JvmDerived.Pilot.@@N@@Statement
import JvmDerived.Pilot.@@N@@Code
set_option linter.unusedVariables false
set_option linter.unusedSimpArgs false
namespace Jvm.OwnW
open Sem ClassFile Op Lib Jvm.Stand Jvm.Free Jvm.LawKit Jvm.RoadKit
/-- a body: its class, name, bytes, locals, return kind -/
abbrev Bdy : Type := String × String × ByteArray × Nat × Option FieldType
abbrev Bdy.own (B : Bdy) : String := B.1
abbrev Bdy.nm (B : Bdy) : String := B.2.1
abbrev Bdy.bytes (B : Bdy) : ByteArray := B.2.2.1
abbrev Bdy.ml (B : Bdy) : Nat := B.2.2.2.1
abbrev Bdy.ret (B : Bdy) : Option FieldType := B.2.2.2.2
/-- what stays through one invocation -/
def Ctx (p : Program) (s : State) (m : MethodId) (meth : Method) (c : Code) (Z : State) (B : Bdy) : Prop :=
  p.tables.exec = Jvm.exec ∧ c.code = B.bytes ∧ c.maxLocals = B.ml ∧ Z.Warmed39 s.vm ∧ s.vm.findClass B.own = some m.cls ∧ meth.sig.returnType = B.ret ∧ meth.locks = false ∧ meth.name = B.nm
/-- FROM HERE THE INVOCATION RETURNS, AND Q: whatever the rest of the state is -/
def W (l : Launch) (Z : State) (n0 : Nat) (R : Room) (B : Bdy) (Q : Option Value → Heap → Prop) (h : Heap) (cells slots : Nat) (pc : Nat) (Ls : List Slot) (St : List Value) : Prop :=
  ∀ (p : Program) (e : Env) (s : State) (m : MethodId) (args : Array Value) (below : List Frame) (meth : Method) (c : Code) (T : State) (locs : List Loc),
    Ctx p s m meth c Z B → Stand p l e R s m args below meth c T locs cells slots → T.heap = h → Fr n0 locs → cells ≤ R.cells → slots ≤ R.slots →
    ∃ (s₂ : State) (v : Option Value) (L : List Loc), Steps p.tables e below (T.setTop (mkF m pc ⟨Ls⟩ St)) s₂ ∧ s₂.status = .running ∧ Ended s₂ below (.returned v) ∧ Q v s₂.heap ∧ Fr n0 L ∧ FrameEnd s (.returned v) s₂ L R.cells R.slots
/-- l' is l with v at its k-th place -/
def Put (l : List Slot) (k : Nat) (v : Slot) (l' : List Slot) : Prop := l' = l.set k v ∧ k < l.length
theorem Put.z {a v : Slot} {l : List Slot} : Put (a :: l) 0 v (v :: l) := ⟨rfl, by simp⟩
theorem Put.s {a v : Slot} {l l' : List Slot} {k : Nat} (h : Put l k v l') : Put (a :: l) (k + 1) v (a :: l') := ⟨by simp [h.1], by simpa using h.2⟩
/-- the room of a callee -/
abbrev rmF (f c s w : Nat) : Room := { frames := f, cells := c, slots := s, locals := w }
section Steps
variable {l : Launch} {Z : State} {n0 : Nat} {R : Room} {B : Bdy} {Q : Option Value → Heap → Prop} {h : Heap} {cells slots pc q : Nat} {Ls Ls' : List Slot} {St St' : List Value} {a0 : Array Value}
theorem W.same (K : W l Z n0 R B Q h cells slots q Ls' St') (f : ∀ (p : Program) (e : Env) (s : State) (m : MethodId) (args : Array Value) (below : List Frame) (meth : Method) (c : Code) (T : State) (locs : List Loc), Ctx p s m meth c Z B → Stand p l e R s m args below meth c T locs cells slots → T.heap = h →
      ∀ target, Steps p.tables e below (T.setTop (mkF m q ⟨Ls'⟩ St')) target → Steps p.tables e below (T.setTop (mkF m pc ⟨Ls⟩ St)) target) : W l Z n0 R B Q h cells slots pc Ls St := by
  intro p e s m args below meth c T locs C X eT N hc hs
  obtain ⟨s₂, v, L, h1, h2⟩ := K p e s m args below meth c T locs C X eT N hc hs
  exact ⟨s₂, v, L, f p e s m args below meth c T locs C X eT _ h1, h2⟩
theorem W.warm (K : W l Z n0 R B Q h cells slots q Ls' St') (f : ∀ (p : Program) (e : Env) (s : State) (m : MethodId) (args : Array Value) (below : List Frame) (meth : Method) (c : Code) (T : State) (locs : List Loc), Ctx p s m meth c Z B → Stand p l e R s m args below meth c T locs cells slots → T.heap = h →
      ∃ T', Stand p l e R s m args below meth c T' locs cells slots ∧ T'.heap = h ∧ ∀ target, Steps p.tables e below (T'.setTop (mkF m q ⟨Ls'⟩ St')) target → Steps p.tables e below (T.setTop (mkF m pc ⟨Ls⟩ St)) target) : W l Z n0 R B Q h cells slots pc Ls St := by
  intro p e s m args below meth c T locs C X eT N hc hs
  obtain ⟨T', X', eT', st⟩ := f p e s m args below meth c T locs C X eT
  obtain ⟨s₂, v, L, h1, h2⟩ := K p e s m args below meth c T' locs C X' eT' N hc hs
  exact ⟨s₂, v, L, st _ h1, h2⟩
theorem W.wrote {a : Addr} {sl : Nat} {x : Value} (f : ∀ (p : Program) (e : Env) (s : State) (m : MethodId) (args : Array Value) (below : List Frame) (meth : Method) (c : Code) (T : State) (locs : List Loc), Ctx p s m meth c Z B → Stand p l e R s m args below meth c T locs cells slots → T.heap = h →
      ∃ T' h', Stand p l e R s m args below meth c T' (locs ++ [⟨a, sl⟩]) cells slots ∧ T'.heap = h' ∧ Wr h h' a sl x ∧ ∀ target, Steps p.tables e below (T'.setTop (mkF m q ⟨Ls'⟩ St')) target → Steps p.tables e below (T.setTop (mkF m pc ⟨Ls⟩ St)) target) (ha : n0 ≤ a) (K : ∀ h', Wr h h' a sl x → W l Z n0 R B Q h' cells slots q Ls' St') : W l Z n0 R B Q h cells slots pc Ls St := by
  intro p e s m args below meth c T locs C X eT N hc hs
  obtain ⟨T', h', X', eT', w, st⟩ := f p e s m args below meth c T locs C X eT
  obtain ⟨s₂, v, L, h1, h2⟩ := K h' w p e s m args below meth c T' _ C X' eT' (Fr.snoc X' N ha) hc hs
  exact ⟨s₂, v, L, st _ h1, h2⟩
/-! ### loads, stores, constants -/
theorem W.iload {k : Nat} {v : Int32} (hd : decode B.bytes pc = .ok (.iload k, 2)) (hl : Ls[k]? = some (.val (.int v))) (hq : pc + 2 = q) (K : W l Z n0 R B Q h cells slots q Ls (.int v :: St)) : W l Z n0 R B Q h cells slots pc Ls St := by
  subst hq; exact W.same K (fun p e s m args below meth c T locs C X eT t hr => XS.iload (g := mkF m pc ⟨Ls⟩ St) X.here C.1 rfl (hb C.2.1 hd) (by simpa using hl) hr)
theorem W.iloadN {k : Fin 4} {v : Int32} (hd : decode B.bytes pc = .ok (.iload_n k, 1)) (hl : Ls[k.val]? = some (.val (.int v))) (hq : pc + 1 = q) (K : W l Z n0 R B Q h cells slots q Ls (.int v :: St)) : W l Z n0 R B Q h cells slots pc Ls St := by
  subst hq; exact W.same K (fun p e s m args below meth c T locs C X eT t hr => XS.iloadN (g := mkF m pc ⟨Ls⟩ St) X.here C.1 rfl (hb C.2.1 hd) (by simpa using hl) hr)
theorem W.aload {k : Nat} {v : Value} (hd : decode B.bytes pc = .ok (.aload k, 2)) (hl : Ls[k]? = some (.val v)) (hv : v.isRef = true) (hq : pc + 2 = q) (K : W l Z n0 R B Q h cells slots q Ls (v :: St)) : W l Z n0 R B Q h cells slots pc Ls St := by
  subst hq; exact W.same K (fun p e s m args below meth c T locs C X eT t hr => XS.aload (g := mkF m pc ⟨Ls⟩ St) X.here C.1 rfl (hb C.2.1 hd) (by simpa using hl) hv hr)
theorem W.aloadN {k : Fin 4} {v : Value} (hd : decode B.bytes pc = .ok (.aload_n k, 1)) (hl : Ls[k.val]? = some (.val v)) (hv : v.isRef = true) (hq : pc + 1 = q) (K : W l Z n0 R B Q h cells slots q Ls (v :: St)) : W l Z n0 R B Q h cells slots pc Ls St := by
  subst hq; exact W.same K (fun p e s m args below meth c T locs C X eT t hr => XS.aloadN (g := mkF m pc ⟨Ls⟩ St) X.here C.1 rfl (hb C.2.1 hd) (by simpa using hl) hv hr)
theorem W.lload {k : Nat} {v : Int64} (hd : decode B.bytes pc = .ok (.lload k, 2)) (hl : Ls[k]? = some (.val (.long v))) (hq : pc + 2 = q) (K : W l Z n0 R B Q h cells slots q Ls (.long v :: St)) : W l Z n0 R B Q h cells slots pc Ls St := by
  subst hq; exact W.same K (fun p e s m args below meth c T locs C X eT t hr => XS.lload (g := mkF m pc ⟨Ls⟩ St) X.here C.1 rfl (hb C.2.1 hd) (by simpa using hl) hr)
theorem W.lloadN {k : Fin 4} {v : Int64} (hd : decode B.bytes pc = .ok (.lload_n k, 1)) (hl : Ls[k.val]? = some (.val (.long v))) (hq : pc + 1 = q) (K : W l Z n0 R B Q h cells slots q Ls (.long v :: St)) : W l Z n0 R B Q h cells slots pc Ls St := by
  subst hq; exact W.same K (fun p e s m args below meth c T locs C X eT t hr => XS.lloadN (g := mkF m pc ⟨Ls⟩ St) X.here C.1 rfl (hb C.2.1 hd) (by simpa using hl) hr)
theorem W.iconst {i : Int} {z : Int32} (hd : decode B.bytes pc = .ok (.iconst i, 1)) (hz : Int32.ofInt i = z) (hq : pc + 1 = q) (K : W l Z n0 R B Q h cells slots q Ls (.int z :: St)) : W l Z n0 R B Q h cells slots pc Ls St := by
  subst hq hz; exact W.same K (fun p e s m args below meth c T locs C X eT t hr => XS.iconst (g := mkF m pc ⟨Ls⟩ St) X.here C.1 rfl (hb C.2.1 hd) hr)
theorem W.bipush {i : Int} {z : Int32} (hd : decode B.bytes pc = .ok (.bipush i, 2)) (hz : (Int8.ofInt i).toInt32 = z) (hq : pc + 2 = q) (K : W l Z n0 R B Q h cells slots q Ls (.int z :: St)) : W l Z n0 R B Q h cells slots pc Ls St := by
  subst hq hz; exact W.same K (fun p e s m args below meth c T locs C X eT t hr => XS.bipush (g := mkF m pc ⟨Ls⟩ St) X.here C.1 rfl (hb C.2.1 hd) hr)
theorem W.sipush {i : Int} {z : Int32} (hd : decode B.bytes pc = .ok (.sipush i, 3)) (hz : (Int16.ofInt i).toInt32 = z) (hq : pc + 3 = q) (K : W l Z n0 R B Q h cells slots q Ls (.int z :: St)) : W l Z n0 R B Q h cells slots pc Ls St := by
  subst hq hz; exact W.same K (fun p e s m args below meth c T locs C X eT t hr => XS.sipush (g := mkF m pc ⟨Ls⟩ St) X.here C.1 rfl (hb C.2.1 hd) hr)
theorem W.ldc {i : Nat} {z : Int32} (hd : decode B.bytes pc = .ok (.ldc i, 2)) (w : (Cond.constant B.own i z).before a0 Z = true) (hq : pc + 2 = q) (K : W l Z n0 R B Q h cells slots q Ls (.int z :: St)) : W l Z n0 R B Q h cells slots pc Ls St := by
  subst hq; exact W.same K (fun p e s m args below meth c T locs C X eT t hr => X.ldcI (g := mkF m pc ⟨Ls⟩ St) C.1 C.2.2.2.2.1 (mvT C.2.2.2.1 w) rfl (hb C.2.1 hd) hr)
theorem W.ldcw {i : Nat} {z : Int32} (hd : decode B.bytes pc = .ok (.ldc_w i, 3)) (w : (Cond.constant B.own i z).before a0 Z = true) (hq : pc + 3 = q) (K : W l Z n0 R B Q h cells slots q Ls (.int z :: St)) : W l Z n0 R B Q h cells slots pc Ls St := by
  subst hq; exact W.same K (fun p e s m args below meth c T locs C X eT t hr => X.ldcWI (g := mkF m pc ⟨Ls⟩ St) C.1 C.2.2.2.2.1 (mvT C.2.2.2.1 w) rfl (hb C.2.1 hd) hr)
theorem W.ldc2 {i : Nat} {z : Int64} (hd : decode B.bytes pc = .ok (.ldc2_w i, 3)) (w : (Cond.constantLong B.own i z).before a0 Z = true) (hq : pc + 3 = q) (K : W l Z n0 R B Q h cells slots q Ls (.long z :: St)) : W l Z n0 R B Q h cells slots pc Ls St := by
  subst hq; exact W.same K (fun p e s m args below meth c T locs C X eT t hr => X.ldc2J (g := mkF m pc ⟨Ls⟩ St) C.1 C.2.2.2.2.1 (mvT C.2.2.2.1 w) rfl (hb C.2.1 hd) hr)
theorem W.lconst {k : Fin 2} {z : Int64} (hd : decode B.bytes pc = .ok (.lconst k, 1)) (hz : Int64.ofNat k.val = z) (hq : pc + 1 = q) (K : W l Z n0 R B Q h cells slots q Ls (.long z :: St)) : W l Z n0 R B Q h cells slots pc Ls St := by
  subst hq hz; exact W.same K (fun p e s m args below meth c T locs C X eT t hr => XS.lconst (g := mkF m pc ⟨Ls⟩ St) X.here C.1 rfl (hb C.2.1 hd) hr)
theorem W.aconstNull (hd : decode B.bytes pc = .ok (.aconst_null, 1)) (hq : pc + 1 = q) (K : W l Z n0 R B Q h cells slots q Ls (.null :: St)) : W l Z n0 R B Q h cells slots pc Ls St := by
  subst hq; exact W.same K (fun p e s m args below meth c T locs C X eT t hr => XS.aconstNull (g := mkF m pc ⟨Ls⟩ St) X.here C.1 rfl (hb C.2.1 hd) hr)
theorem put1 {k : Nat} {o : Slot} {v : Value} (hp : Put Ls k (.val v) Ls') (ho : Ls[k]? = some o) (h1 : o = .unset ∨ ∃ w, o = .val w ∧ w.category = 1) (hv : v.category = 1) : storeLocals ⟨Ls⟩ k v = some ⟨Ls'⟩ := by
  rw [XS.store1 (l := ⟨Ls⟩) (o := o) (by simpa using ho) h1 hv, hp.1]; simp
def one1 : Slot → Bool
  | .unset => true
  | .val w => w.category == 1
  | _ => false
theorem one1_of {o : Slot} (h : one1 o = true) : o = .unset ∨ ∃ w, o = .val w ∧ w.category = 1 := by
  cases o <;> simp_all [one1]
theorem W.istore {k : Nat} {o : Slot} {v : Int32} (hd : decode B.bytes pc = .ok (.istore k, 2)) (hp : Put Ls k (.val (.int v)) Ls') (ho : Ls[k]? = some o) (h1 : one1 o = true) (hq : pc + 2 = q) (K : W l Z n0 R B Q h cells slots q Ls' St) : W l Z n0 R B Q h cells slots pc Ls (.int v :: St) := by
  subst hq; exact W.same K (fun p e s m args below meth c T locs C X eT t hr => XS.istore (g := mkF m pc ⟨Ls⟩ (.int v :: St)) X.here C.1 rfl (hb C.2.1 hd) rfl (put1 hp ho (one1_of h1) rfl) hr)
theorem W.istoreN {k : Fin 4} {o : Slot} {v : Int32} (hd : decode B.bytes pc = .ok (.istore_n k, 1)) (hp : Put Ls k.val (.val (.int v)) Ls') (ho : Ls[k.val]? = some o) (h1 : one1 o = true) (hq : pc + 1 = q) (K : W l Z n0 R B Q h cells slots q Ls' St) : W l Z n0 R B Q h cells slots pc Ls (.int v :: St) := by
  subst hq; exact W.same K (fun p e s m args below meth c T locs C X eT t hr => XS.istoreN (g := mkF m pc ⟨Ls⟩ (.int v :: St)) X.here C.1 rfl (hb C.2.1 hd) rfl (put1 hp ho (one1_of h1) rfl) hr)
theorem W.astore {k : Nat} {o : Slot} {v : Value} (hd : decode B.bytes pc = .ok (.astore k, 2)) (hv : v.isRef = true) (hp : Put Ls k (.val v) Ls') (ho : Ls[k]? = some o) (h1 : one1 o = true) (hq : pc + 2 = q) (K : W l Z n0 R B Q h cells slots q Ls' St) : W l Z n0 R B Q h cells slots pc Ls (v :: St) := by
  subst hq; exact W.same K (fun p e s m args below meth c T locs C X eT t hr => XS.astore (g := mkF m pc ⟨Ls⟩ (v :: St)) X.here C.1 rfl (hb C.2.1 hd) rfl hv (put1 hp ho (one1_of h1) (by cases v <;> simp_all [Value.isRef, Value.category])) hr)
theorem W.astoreN {k : Fin 4} {o : Slot} {v : Value} (hd : decode B.bytes pc = .ok (.astore_n k, 1)) (hv : v.isRef = true) (hp : Put Ls k.val (.val v) Ls') (ho : Ls[k.val]? = some o) (h1 : one1 o = true) (hq : pc + 1 = q) (K : W l Z n0 R B Q h cells slots q Ls' St) : W l Z n0 R B Q h cells slots pc Ls (v :: St) := by
  subst hq; exact W.same K (fun p e s m args below meth c T locs C X eT t hr => XS.astoreN (g := mkF m pc ⟨Ls⟩ (v :: St)) X.here C.1 rfl (hb C.2.1 hd) rfl hv (put1 hp ho (one1_of h1) (by cases v <;> simp_all [Value.isRef, Value.category])) hr)
theorem W.iinc {k : Nat} {cst : Int} {x z : Int32} (hd : decode B.bytes pc = .ok (.iinc k cst, 3)) (hl : Ls[k]? = some (.val (.int x))) (hz : Int32.ofInt cst = z) (hp : Put Ls k (.val (.int (x + z))) Ls') (hq : pc + 3 = q) (K : W l Z n0 R B Q h cells slots q Ls' St) : W l Z n0 R B Q h cells slots pc Ls St := by
  subst hq hz; exact W.same K (fun p e s m args below meth c T locs C X eT t hr => XS.iinc (g := mkF m pc ⟨Ls⟩ St) X.here C.1 rfl (hb C.2.1 hd) (by simpa using hl) (put1 hp hl (Or.inr ⟨_, rfl, rfl⟩) rfl) hr)
/-- l' is l with the long v at its k-th and k+1-st place -/
def Put2 (l : List Slot) (k : Nat) (v : Value) (l' : List Slot) : Prop := l' = (l.set k (.val v)).set (k + 1) .second ∧ k + 1 < l.length
theorem Put2.z {a b : Slot} {v : Value} {l : List Slot} : Put2 (a :: b :: l) 0 v (.val v :: .second :: l) := ⟨rfl, by simp⟩
theorem Put2.s {a : Slot} {v : Value} {l l' : List Slot} {k : Nat} (h : Put2 l k v l') : Put2 (a :: l) (k + 1) v (a :: l') := ⟨by simp [h.1], by simpa using h.2⟩
def two2 : Slot → Slot → Bool
  | .val w, .second => w.category == 2
  | o, o' => one1 o && one1 o'
theorem set_set_second (l : List Slot) (k : Nat) (v : Slot) : ((l.set (k + 1) .unset).set k v).set (k + 1) .second = (l.set k v).set (k + 1) .second := by
  apply List.ext_getElem? ; intro i; by_cases h1 : k + 1 = i <;> by_cases h2 : k = i <;> simp_all [List.getElem?_set]
theorem put2 {k : Nat} {o o' : Slot} {v : Value} (hp : Put2 Ls k v Ls') (ho : Ls[k]? = some o) (ho' : Ls[k + 1]? = some o') (h1 : two2 o o' = true) (hv : v.category = 2) : storeLocals ⟨Ls⟩ k v = some ⟨Ls'⟩ := by
  obtain ⟨rfl, hk⟩ := hp
  have hk' : k < Ls.length := by omega
  have e1 := (List.getElem?_eq_some_iff.mp ho).2
  have e2 := (List.getElem?_eq_some_iff.mp ho').2
  cases o <;> cases o' <;> simp [two2, one1] at h1 <;> simp [storeLocals, storeSelf, setAt, hv, hk, hk', e1, e2, h1, List.getElem_set, set_set_second]
theorem W.lstore {k : Nat} {o o' : Slot} {v : Int64} (hd : decode B.bytes pc = .ok (.lstore k, 2)) (hp : Put2 Ls k (.long v) Ls') (ho : Ls[k]? = some o) (ho' : Ls[k + 1]? = some o') (h1 : two2 o o' = true) (hq : pc + 2 = q) (K : W l Z n0 R B Q h cells slots q Ls' St) : W l Z n0 R B Q h cells slots pc Ls (.long v :: St) := by
  subst hq; exact W.same K (fun p e s m args below meth c T locs C X eT t hr => XS.lstore (g := mkF m pc ⟨Ls⟩ (.long v :: St)) X.here C.1 rfl (hb C.2.1 hd) rfl (put2 hp ho ho' h1 rfl) hr)
theorem W.lstoreN {k : Fin 4} {o o' : Slot} {v : Int64} (hd : decode B.bytes pc = .ok (.lstore_n k, 1)) (hp : Put2 Ls k.val (.long v) Ls') (ho : Ls[k.val]? = some o) (ho' : Ls[k.val + 1]? = some o') (h1 : two2 o o' = true) (hq : pc + 1 = q) (K : W l Z n0 R B Q h cells slots q Ls' St) : W l Z n0 R B Q h cells slots pc Ls (.long v :: St) := by
  subst hq; exact W.same K (fun p e s m args below meth c T locs C X eT t hr => XS.lstoreN (g := mkF m pc ⟨Ls⟩ (.long v :: St)) X.here C.1 rfl (hb C.2.1 hd) rfl (put2 hp ho ho' h1 rfl) hr)
theorem W.iadd {x : Int32} {y : Int32} (hd : decode B.bytes pc = .ok (.iadd, 1)) (hq : pc + 1 = q) (K : W l Z n0 R B Q h cells slots q Ls (.int (x + y) :: St)) : W l Z n0 R B Q h cells slots pc Ls (.int y :: .int x :: St) := by
  subst hq; exact W.same K (fun p e s m args below meth c T locs C X eT t hr => XS.iadd (g := mkF m pc ⟨Ls⟩ (.int y :: .int x :: St)) X.here C.1 rfl (hb C.2.1 hd) rfl hr)
theorem W.isub {x : Int32} {y : Int32} (hd : decode B.bytes pc = .ok (.isub, 1)) (hq : pc + 1 = q) (K : W l Z n0 R B Q h cells slots q Ls (.int (x - y) :: St)) : W l Z n0 R B Q h cells slots pc Ls (.int y :: .int x :: St) := by
  subst hq; exact W.same K (fun p e s m args below meth c T locs C X eT t hr => XS.isub (g := mkF m pc ⟨Ls⟩ (.int y :: .int x :: St)) X.here C.1 rfl (hb C.2.1 hd) rfl hr)
theorem W.imul {x : Int32} {y : Int32} (hd : decode B.bytes pc = .ok (.imul, 1)) (hq : pc + 1 = q) (K : W l Z n0 R B Q h cells slots q Ls (.int (x * y) :: St)) : W l Z n0 R B Q h cells slots pc Ls (.int y :: .int x :: St) := by
  subst hq; exact W.same K (fun p e s m args below meth c T locs C X eT t hr => XS.imul (g := mkF m pc ⟨Ls⟩ (.int y :: .int x :: St)) X.here C.1 rfl (hb C.2.1 hd) rfl hr)
theorem W.iand {x : Int32} {y : Int32} (hd : decode B.bytes pc = .ok (.iand, 1)) (hq : pc + 1 = q) (K : W l Z n0 R B Q h cells slots q Ls (.int (x &&& y) :: St)) : W l Z n0 R B Q h cells slots pc Ls (.int y :: .int x :: St) := by
  subst hq; exact W.same K (fun p e s m args below meth c T locs C X eT t hr => XS.iand (g := mkF m pc ⟨Ls⟩ (.int y :: .int x :: St)) X.here C.1 rfl (hb C.2.1 hd) rfl hr)
theorem W.ior {x : Int32} {y : Int32} (hd : decode B.bytes pc = .ok (.ior, 1)) (hq : pc + 1 = q) (K : W l Z n0 R B Q h cells slots q Ls (.int (x ||| y) :: St)) : W l Z n0 R B Q h cells slots pc Ls (.int y :: .int x :: St) := by
  subst hq; exact W.same K (fun p e s m args below meth c T locs C X eT t hr => XS.ior (g := mkF m pc ⟨Ls⟩ (.int y :: .int x :: St)) X.here C.1 rfl (hb C.2.1 hd) rfl hr)
theorem W.ixor {x : Int32} {y : Int32} (hd : decode B.bytes pc = .ok (.ixor, 1)) (hq : pc + 1 = q) (K : W l Z n0 R B Q h cells slots q Ls (.int (x ^^^ y) :: St)) : W l Z n0 R B Q h cells slots pc Ls (.int y :: .int x :: St) := by
  subst hq; exact W.same K (fun p e s m args below meth c T locs C X eT t hr => XS.ixor (g := mkF m pc ⟨Ls⟩ (.int y :: .int x :: St)) X.here C.1 rfl (hb C.2.1 hd) rfl hr)
theorem W.ishl {x : Int32} {y : Int32} (hd : decode B.bytes pc = .ok (.ishl, 1)) (hq : pc + 1 = q) (K : W l Z n0 R B Q h cells slots q Ls (.int (x <<< (y &&& 0x1f)) :: St)) : W l Z n0 R B Q h cells slots pc Ls (.int y :: .int x :: St) := by
  subst hq; exact W.same K (fun p e s m args below meth c T locs C X eT t hr => XS.ishl (g := mkF m pc ⟨Ls⟩ (.int y :: .int x :: St)) X.here C.1 rfl (hb C.2.1 hd) rfl hr)
theorem W.ishr {x : Int32} {y : Int32} (hd : decode B.bytes pc = .ok (.ishr, 1)) (hq : pc + 1 = q) (K : W l Z n0 R B Q h cells slots q Ls (.int (x >>> (y &&& 0x1f)) :: St)) : W l Z n0 R B Q h cells slots pc Ls (.int y :: .int x :: St) := by
  subst hq; exact W.same K (fun p e s m args below meth c T locs C X eT t hr => XS.ishr (g := mkF m pc ⟨Ls⟩ (.int y :: .int x :: St)) X.here C.1 rfl (hb C.2.1 hd) rfl hr)
theorem W.iushr {x : Int32} {y : Int32} (hd : decode B.bytes pc = .ok (.iushr, 1)) (hq : pc + 1 = q) (K : W l Z n0 R B Q h cells slots q Ls (.int ((x.toUInt32 >>> (y &&& 0x1f).toUInt32).toInt32) :: St)) : W l Z n0 R B Q h cells slots pc Ls (.int y :: .int x :: St) := by
  subst hq; exact W.same K (fun p e s m args below meth c T locs C X eT t hr => XS.iushr (g := mkF m pc ⟨Ls⟩ (.int y :: .int x :: St)) X.here C.1 rfl (hb C.2.1 hd) rfl hr)
theorem W.ladd {x : Int64} {y : Int64} (hd : decode B.bytes pc = .ok (.ladd, 1)) (hq : pc + 1 = q) (K : W l Z n0 R B Q h cells slots q Ls (.long (x + y) :: St)) : W l Z n0 R B Q h cells slots pc Ls (.long y :: .long x :: St) := by
  subst hq; exact W.same K (fun p e s m args below meth c T locs C X eT t hr => XS.ladd (g := mkF m pc ⟨Ls⟩ (.long y :: .long x :: St)) X.here C.1 rfl (hb C.2.1 hd) rfl hr)
theorem W.lsub {x : Int64} {y : Int64} (hd : decode B.bytes pc = .ok (.lsub, 1)) (hq : pc + 1 = q) (K : W l Z n0 R B Q h cells slots q Ls (.long (x - y) :: St)) : W l Z n0 R B Q h cells slots pc Ls (.long y :: .long x :: St) := by
  subst hq; exact W.same K (fun p e s m args below meth c T locs C X eT t hr => XS.lsub (g := mkF m pc ⟨Ls⟩ (.long y :: .long x :: St)) X.here C.1 rfl (hb C.2.1 hd) rfl hr)
theorem W.lmul {x : Int64} {y : Int64} (hd : decode B.bytes pc = .ok (.lmul, 1)) (hq : pc + 1 = q) (K : W l Z n0 R B Q h cells slots q Ls (.long (x * y) :: St)) : W l Z n0 R B Q h cells slots pc Ls (.long y :: .long x :: St) := by
  subst hq; exact W.same K (fun p e s m args below meth c T locs C X eT t hr => XS.lmul (g := mkF m pc ⟨Ls⟩ (.long y :: .long x :: St)) X.here C.1 rfl (hb C.2.1 hd) rfl hr)
theorem W.land {x : Int64} {y : Int64} (hd : decode B.bytes pc = .ok (.land, 1)) (hq : pc + 1 = q) (K : W l Z n0 R B Q h cells slots q Ls (.long (x &&& y) :: St)) : W l Z n0 R B Q h cells slots pc Ls (.long y :: .long x :: St) := by
  subst hq; exact W.same K (fun p e s m args below meth c T locs C X eT t hr => XS.land (g := mkF m pc ⟨Ls⟩ (.long y :: .long x :: St)) X.here C.1 rfl (hb C.2.1 hd) rfl hr)
theorem W.lor {x : Int64} {y : Int64} (hd : decode B.bytes pc = .ok (.lor, 1)) (hq : pc + 1 = q) (K : W l Z n0 R B Q h cells slots q Ls (.long (x ||| y) :: St)) : W l Z n0 R B Q h cells slots pc Ls (.long y :: .long x :: St) := by
  subst hq; exact W.same K (fun p e s m args below meth c T locs C X eT t hr => XS.lor (g := mkF m pc ⟨Ls⟩ (.long y :: .long x :: St)) X.here C.1 rfl (hb C.2.1 hd) rfl hr)
theorem W.lxor {x : Int64} {y : Int64} (hd : decode B.bytes pc = .ok (.lxor, 1)) (hq : pc + 1 = q) (K : W l Z n0 R B Q h cells slots q Ls (.long (x ^^^ y) :: St)) : W l Z n0 R B Q h cells slots pc Ls (.long y :: .long x :: St) := by
  subst hq; exact W.same K (fun p e s m args below meth c T locs C X eT t hr => XS.lxor (g := mkF m pc ⟨Ls⟩ (.long y :: .long x :: St)) X.here C.1 rfl (hb C.2.1 hd) rfl hr)
theorem W.lshl {x : Int64} {y : Int32} (hd : decode B.bytes pc = .ok (.lshl, 1)) (hq : pc + 1 = q) (K : W l Z n0 R B Q h cells slots q Ls (.long (x <<< (y &&& 0x3f).toInt64) :: St)) : W l Z n0 R B Q h cells slots pc Ls (.int y :: .long x :: St) := by
  subst hq; exact W.same K (fun p e s m args below meth c T locs C X eT t hr => XS.lshl (g := mkF m pc ⟨Ls⟩ (.int y :: .long x :: St)) X.here C.1 rfl (hb C.2.1 hd) rfl hr)
theorem W.lshr {x : Int64} {y : Int32} (hd : decode B.bytes pc = .ok (.lshr, 1)) (hq : pc + 1 = q) (K : W l Z n0 R B Q h cells slots q Ls (.long (x >>> (y &&& 0x3f).toInt64) :: St)) : W l Z n0 R B Q h cells slots pc Ls (.int y :: .long x :: St) := by
  subst hq; exact W.same K (fun p e s m args below meth c T locs C X eT t hr => XS.lshr (g := mkF m pc ⟨Ls⟩ (.int y :: .long x :: St)) X.here C.1 rfl (hb C.2.1 hd) rfl hr)
theorem W.lushr {x : Int64} {y : Int32} (hd : decode B.bytes pc = .ok (.lushr, 1)) (hq : pc + 1 = q) (K : W l Z n0 R B Q h cells slots q Ls (.long ((x.toUInt64 >>> (y &&& 0x3f).toInt64.toUInt64).toInt64) :: St)) : W l Z n0 R B Q h cells slots pc Ls (.int y :: .long x :: St) := by
  subst hq; exact W.same K (fun p e s m args below meth c T locs C X eT t hr => XS.lushr (g := mkF m pc ⟨Ls⟩ (.int y :: .long x :: St)) X.here C.1 rfl (hb C.2.1 hd) rfl hr)
theorem W.lcmp {x : Int64} {y : Int64} (hd : decode B.bytes pc = .ok (.lcmp, 1)) (hq : pc + 1 = q) (K : W l Z n0 R B Q h cells slots q Ls (.int (lcmpW x y) :: St)) : W l Z n0 R B Q h cells slots pc Ls (.long y :: .long x :: St) := by
  subst hq; exact W.same K (fun p e s m args below meth c T locs C X eT t hr => XS.lcmp (g := mkF m pc ⟨Ls⟩ (.long y :: .long x :: St)) X.here C.1 rfl (hb C.2.1 hd) rfl hr)
theorem W.ineg {x : Int32} (hd : decode B.bytes pc = .ok (.ineg, 1)) (hq : pc + 1 = q) (K : W l Z n0 R B Q h cells slots q Ls (.int (-x) :: St)) : W l Z n0 R B Q h cells slots pc Ls (.int x :: St) := by
  subst hq; exact W.same K (fun p e s m args below meth c T locs C X eT t hr => XS.ineg (g := mkF m pc ⟨Ls⟩ (.int x :: St)) X.here C.1 rfl (hb C.2.1 hd) rfl hr)
theorem W.i2l {x : Int32} (hd : decode B.bytes pc = .ok (.i2l, 1)) (hq : pc + 1 = q) (K : W l Z n0 R B Q h cells slots q Ls (.long (x.toInt64) :: St)) : W l Z n0 R B Q h cells slots pc Ls (.int x :: St) := by
  subst hq; exact W.same K (fun p e s m args below meth c T locs C X eT t hr => XS.i2l (g := mkF m pc ⟨Ls⟩ (.int x :: St)) X.here C.1 rfl (hb C.2.1 hd) rfl hr)
theorem W.l2i {x : Int64} (hd : decode B.bytes pc = .ok (.l2i, 1)) (hq : pc + 1 = q) (K : W l Z n0 R B Q h cells slots q Ls (.int (x.toInt32) :: St)) : W l Z n0 R B Q h cells slots pc Ls (.long x :: St) := by
  subst hq; exact W.same K (fun p e s m args below meth c T locs C X eT t hr => XS.l2i (g := mkF m pc ⟨Ls⟩ (.long x :: St)) X.here C.1 rfl (hb C.2.1 hd) rfl hr)
theorem W.i2b {x : Int32} (hd : decode B.bytes pc = .ok (.i2b, 1)) (hq : pc + 1 = q) (K : W l Z n0 R B Q h cells slots q Ls (.int (x.toInt8.toInt32) :: St)) : W l Z n0 R B Q h cells slots pc Ls (.int x :: St) := by
  subst hq; exact W.same K (fun p e s m args below meth c T locs C X eT t hr => XS.i2b (g := mkF m pc ⟨Ls⟩ (.int x :: St)) X.here C.1 rfl (hb C.2.1 hd) rfl hr)
theorem W.i2c {x : Int32} (hd : decode B.bytes pc = .ok (.i2c, 1)) (hq : pc + 1 = q) (K : W l Z n0 R B Q h cells slots q Ls (.int (x.toUInt32.toUInt16.toUInt32.toInt32) :: St)) : W l Z n0 R B Q h cells slots pc Ls (.int x :: St) := by
  subst hq; exact W.same K (fun p e s m args below meth c T locs C X eT t hr => XS.i2c (g := mkF m pc ⟨Ls⟩ (.int x :: St)) X.here C.1 rfl (hb C.2.1 hd) rfl hr)
theorem W.i2s {x : Int32} (hd : decode B.bytes pc = .ok (.i2s, 1)) (hq : pc + 1 = q) (K : W l Z n0 R B Q h cells slots q Ls (.int (x.toInt16.toInt32) :: St)) : W l Z n0 R B Q h cells slots pc Ls (.int x :: St) := by
  subst hq; exact W.same K (fun p e s m args below meth c T locs C X eT t hr => XS.i2s (g := mkF m pc ⟨Ls⟩ (.int x :: St)) X.here C.1 rfl (hb C.2.1 hd) rfl hr)
theorem W.irem {x y : Int32} (hd : decode B.bytes pc = .ok (.irem, 1)) (hy : y ≠ 0) (hq : pc + 1 = q) (K : W l Z n0 R B Q h cells slots q Ls (.int (x % y) :: St)) : W l Z n0 R B Q h cells slots pc Ls (.int y :: .int x :: St) := by
  subst hq; exact W.same K (fun p e s m args below meth c T locs C X eT t hr => iremM (g := mkF m pc ⟨Ls⟩ (.int y :: .int x :: St)) X C.1 rfl (hb C.2.1 hd) rfl hy hr)
theorem W.idiv {x y : Int32} (hd : decode B.bytes pc = .ok (.idiv, 1)) (hy : y ≠ 0) (hq : pc + 1 = q) (K : W l Z n0 R B Q h cells slots q Ls (.int (x / y) :: St)) : W l Z n0 R B Q h cells slots pc Ls (.int y :: .int x :: St) := by
  subst hq; exact W.same K (fun p e s m args below meth c T locs C X eT t hr => XS.idiv (g := mkF m pc ⟨Ls⟩ (.int y :: .int x :: St)) X.here C.1 rfl (hb C.2.1 hd) rfl hy hr)
theorem W.dup {x : Value} (hd : decode B.bytes pc = .ok (.dup, 1)) (hc : x.category = 1) (hq : pc + 1 = q) (K : W l Z n0 R B Q h cells slots q Ls (x :: x :: St)) : W l Z n0 R B Q h cells slots pc Ls (x :: St) := by
  subst hq; exact W.same K (fun p e s m args below meth c T locs C X eT t hr => XS.dup (g := mkF m pc ⟨Ls⟩ (x :: St)) X.here C.1 rfl (hb C.2.1 hd) rfl hc hr)
theorem W.pop {x : Value} (hd : decode B.bytes pc = .ok (.pop, 1)) (hc : x.category = 1) (hq : pc + 1 = q) (K : W l Z n0 R B Q h cells slots q Ls St) : W l Z n0 R B Q h cells slots pc Ls (x :: St) := by
  subst hq; exact W.same K (fun p e s m args below meth c T locs C X eT t hr => XS.pop (g := mkF m pc ⟨Ls⟩ (x :: St)) X.here C.1 rfl (hb C.2.1 hd) rfl hc hr)
theorem W.dup2 {x y : Value} (hd : decode B.bytes pc = .ok (.dup2, 1)) (hc : x.category = 1) (hc' : y.category = 1) (hq : pc + 1 = q) (K : W l Z n0 R B Q h cells slots q Ls (x :: y :: x :: y :: St)) : W l Z n0 R B Q h cells slots pc Ls (x :: y :: St) := by
  subst hq; exact W.same K (fun p e s m args below meth c T locs C X eT t hr => XT.dup2 (g := mkF m pc ⟨Ls⟩ (x :: y :: St)) X.here C.1 rfl (hb C.2.1 hd) rfl hc hc' hr)
theorem W.goto {o : Int} (hd : decode B.bytes pc = .ok (.goto o, 3)) (ho : 0 ≤ (pc : Int) + o) (hq : ((pc : Int) + o).toNat = q) (K : W l Z n0 R B Q h cells slots q Ls St) : W l Z n0 R B Q h cells slots pc Ls St :=
  W.same K (fun p e s m args below meth c T locs C X eT t hr => XS.goto (g := mkF m pc ⟨Ls⟩ St) X.here C.1 rfl rfl (hb C.2.1 hd) ho hq hr)
theorem W.icmp {cd : ClassFile.Cond} {o : Int} {x y : Int32} {q' : Nat} (hd : decode B.bytes pc = .ok (.if_icmp cd o, 3)) (ho : 0 ≤ (pc : Int) + o) (hq : ((pc : Int) + o).toNat = q) (hq' : pc + 3 = q') (K1 : if_icmp.holds cd x y = true → W l Z n0 R B Q h cells slots q Ls St) (K2 : if_icmp.holds cd x y = false → W l Z n0 R B Q h cells slots q' Ls St) : W l Z n0 R B Q h cells slots pc Ls (.int y :: .int x :: St) := by
  subst hq'
  rcases Bool.eq_false_or_eq_true (if_icmp.holds cd x y) with hc | hc
  · exact W.same (K1 hc) (fun p e s m args below meth c T locs C X eT t hr => XS.icmpYes (g := mkF m pc ⟨Ls⟩ (.int y :: .int x :: St)) X.here C.1 rfl rfl (hb C.2.1 hd) rfl hc ho hq hr)
  · exact W.same (K2 hc) (fun p e s m args below meth c T locs C X eT t hr => XS.icmpNo (g := mkF m pc ⟨Ls⟩ (.int y :: .int x :: St)) X.here C.1 rfl (hb C.2.1 hd) rfl hc hr)
theorem W.ifc {cd : ClassFile.Cond} {o : Int} {x : Int32} {q' : Nat} (hd : decode B.bytes pc = .ok (.ifCond cd o, 3)) (ho : 0 ≤ (pc : Int) + o) (hq : ((pc : Int) + o).toNat = q) (hq' : pc + 3 = q') (K1 : if_icmp.holds cd x 0 = true → W l Z n0 R B Q h cells slots q Ls St) (K2 : if_icmp.holds cd x 0 = false → W l Z n0 R B Q h cells slots q' Ls St) : W l Z n0 R B Q h cells slots pc Ls (.int x :: St) := by
  subst hq'
  rcases Bool.eq_false_or_eq_true (if_icmp.holds cd x 0) with hc | hc
  · exact W.same (K1 hc) (fun p e s m args below meth c T locs C X eT t hr => XS.ifYes (g := mkF m pc ⟨Ls⟩ (.int x :: St)) X.here C.1 rfl rfl (hb C.2.1 hd) rfl ((if0 cd x).trans hc) ho hq hr)
  · exact W.same (K2 hc) (fun p e s m args below meth c T locs C X eT t hr => XS.ifNo (g := mkF m pc ⟨Ls⟩ (.int x :: St)) X.here C.1 rfl (hb C.2.1 hd) rfl ((if0 cd x).trans hc) hr)
theorem W.icmp_eq {o : Int} {x y : Int32} {q' : Nat} (hd : decode B.bytes pc = .ok (.if_icmp .eq o, 3)) (ho : 0 ≤ (pc : Int) + o) (hq : ((pc : Int) + o).toNat = q) (hq' : pc + 3 = q') (K1 : x = y → W l Z n0 R B Q h cells slots q Ls St) (K2 : ¬ x = y → W l Z n0 R B Q h cells slots q' Ls St) : W l Z n0 R B Q h cells slots pc Ls (.int y :: .int x :: St) :=
  W.icmp hd ho hq hq' (fun hc => K1 (by simpa [if_icmp.holds, Int32.not_lt, Int32.not_le] using hc)) (fun hc => K2 (by simpa [if_icmp.holds, Int32.not_lt, Int32.not_le] using hc))
theorem W.ifc_eq {o : Int} {x : Int32} {q' : Nat} (hd : decode B.bytes pc = .ok (.ifCond .eq o, 3)) (ho : 0 ≤ (pc : Int) + o) (hq : ((pc : Int) + o).toNat = q) (hq' : pc + 3 = q') (K1 : x = 0 → W l Z n0 R B Q h cells slots q Ls St) (K2 : ¬ x = 0 → W l Z n0 R B Q h cells slots q' Ls St) : W l Z n0 R B Q h cells slots pc Ls (.int x :: St) :=
  W.ifc hd ho hq hq' (fun hc => K1 (by simpa [if_icmp.holds, Int32.not_lt, Int32.not_le] using hc)) (fun hc => K2 (by simpa [if_icmp.holds, Int32.not_lt, Int32.not_le] using hc))
theorem W.icmp_ne {o : Int} {x y : Int32} {q' : Nat} (hd : decode B.bytes pc = .ok (.if_icmp .ne o, 3)) (ho : 0 ≤ (pc : Int) + o) (hq : ((pc : Int) + o).toNat = q) (hq' : pc + 3 = q') (K1 : ¬ x = y → W l Z n0 R B Q h cells slots q Ls St) (K2 : x = y → W l Z n0 R B Q h cells slots q' Ls St) : W l Z n0 R B Q h cells slots pc Ls (.int y :: .int x :: St) :=
  W.icmp hd ho hq hq' (fun hc => K1 (by simpa [if_icmp.holds, Int32.not_lt, Int32.not_le] using hc)) (fun hc => K2 (by simpa [if_icmp.holds, Int32.not_lt, Int32.not_le] using hc))
theorem W.ifc_ne {o : Int} {x : Int32} {q' : Nat} (hd : decode B.bytes pc = .ok (.ifCond .ne o, 3)) (ho : 0 ≤ (pc : Int) + o) (hq : ((pc : Int) + o).toNat = q) (hq' : pc + 3 = q') (K1 : ¬ x = 0 → W l Z n0 R B Q h cells slots q Ls St) (K2 : x = 0 → W l Z n0 R B Q h cells slots q' Ls St) : W l Z n0 R B Q h cells slots pc Ls (.int x :: St) :=
  W.ifc hd ho hq hq' (fun hc => K1 (by simpa [if_icmp.holds, Int32.not_lt, Int32.not_le] using hc)) (fun hc => K2 (by simpa [if_icmp.holds, Int32.not_lt, Int32.not_le] using hc))
theorem W.icmp_lt {o : Int} {x y : Int32} {q' : Nat} (hd : decode B.bytes pc = .ok (.if_icmp .lt o, 3)) (ho : 0 ≤ (pc : Int) + o) (hq : ((pc : Int) + o).toNat = q) (hq' : pc + 3 = q') (K1 : x < y → W l Z n0 R B Q h cells slots q Ls St) (K2 : ¬ x < y → W l Z n0 R B Q h cells slots q' Ls St) : W l Z n0 R B Q h cells slots pc Ls (.int y :: .int x :: St) :=
  W.icmp hd ho hq hq' (fun hc => K1 (by simpa [if_icmp.holds, Int32.not_lt, Int32.not_le] using hc)) (fun hc => K2 (by simpa [if_icmp.holds, Int32.not_lt, Int32.not_le] using hc))
theorem W.ifc_lt {o : Int} {x : Int32} {q' : Nat} (hd : decode B.bytes pc = .ok (.ifCond .lt o, 3)) (ho : 0 ≤ (pc : Int) + o) (hq : ((pc : Int) + o).toNat = q) (hq' : pc + 3 = q') (K1 : x < 0 → W l Z n0 R B Q h cells slots q Ls St) (K2 : ¬ x < 0 → W l Z n0 R B Q h cells slots q' Ls St) : W l Z n0 R B Q h cells slots pc Ls (.int x :: St) :=
  W.ifc hd ho hq hq' (fun hc => K1 (by simpa [if_icmp.holds, Int32.not_lt, Int32.not_le] using hc)) (fun hc => K2 (by simpa [if_icmp.holds, Int32.not_lt, Int32.not_le] using hc))
theorem W.icmp_ge {o : Int} {x y : Int32} {q' : Nat} (hd : decode B.bytes pc = .ok (.if_icmp .ge o, 3)) (ho : 0 ≤ (pc : Int) + o) (hq : ((pc : Int) + o).toNat = q) (hq' : pc + 3 = q') (K1 : ¬ x < y → W l Z n0 R B Q h cells slots q Ls St) (K2 : x < y → W l Z n0 R B Q h cells slots q' Ls St) : W l Z n0 R B Q h cells slots pc Ls (.int y :: .int x :: St) :=
  W.icmp hd ho hq hq' (fun hc => K1 (by simpa [if_icmp.holds, Int32.not_lt, Int32.not_le] using hc)) (fun hc => K2 (by simpa [if_icmp.holds, Int32.not_lt, Int32.not_le] using hc))
theorem W.ifc_ge {o : Int} {x : Int32} {q' : Nat} (hd : decode B.bytes pc = .ok (.ifCond .ge o, 3)) (ho : 0 ≤ (pc : Int) + o) (hq : ((pc : Int) + o).toNat = q) (hq' : pc + 3 = q') (K1 : ¬ x < 0 → W l Z n0 R B Q h cells slots q Ls St) (K2 : x < 0 → W l Z n0 R B Q h cells slots q' Ls St) : W l Z n0 R B Q h cells slots pc Ls (.int x :: St) :=
  W.ifc hd ho hq hq' (fun hc => K1 (by simpa [if_icmp.holds, Int32.not_lt, Int32.not_le] using hc)) (fun hc => K2 (by simpa [if_icmp.holds, Int32.not_lt, Int32.not_le] using hc))
theorem W.icmp_gt {o : Int} {x y : Int32} {q' : Nat} (hd : decode B.bytes pc = .ok (.if_icmp .gt o, 3)) (ho : 0 ≤ (pc : Int) + o) (hq : ((pc : Int) + o).toNat = q) (hq' : pc + 3 = q') (K1 : y < x → W l Z n0 R B Q h cells slots q Ls St) (K2 : ¬ y < x → W l Z n0 R B Q h cells slots q' Ls St) : W l Z n0 R B Q h cells slots pc Ls (.int y :: .int x :: St) :=
  W.icmp hd ho hq hq' (fun hc => K1 (by simpa [if_icmp.holds, Int32.not_lt, Int32.not_le] using hc)) (fun hc => K2 (by simpa [if_icmp.holds, Int32.not_lt, Int32.not_le] using hc))
theorem W.ifc_gt {o : Int} {x : Int32} {q' : Nat} (hd : decode B.bytes pc = .ok (.ifCond .gt o, 3)) (ho : 0 ≤ (pc : Int) + o) (hq : ((pc : Int) + o).toNat = q) (hq' : pc + 3 = q') (K1 : 0 < x → W l Z n0 R B Q h cells slots q Ls St) (K2 : ¬ 0 < x → W l Z n0 R B Q h cells slots q' Ls St) : W l Z n0 R B Q h cells slots pc Ls (.int x :: St) :=
  W.ifc hd ho hq hq' (fun hc => K1 (by simpa [if_icmp.holds, Int32.not_lt, Int32.not_le] using hc)) (fun hc => K2 (by simpa [if_icmp.holds, Int32.not_lt, Int32.not_le] using hc))
theorem W.icmp_le {o : Int} {x y : Int32} {q' : Nat} (hd : decode B.bytes pc = .ok (.if_icmp .le o, 3)) (ho : 0 ≤ (pc : Int) + o) (hq : ((pc : Int) + o).toNat = q) (hq' : pc + 3 = q') (K1 : ¬ y < x → W l Z n0 R B Q h cells slots q Ls St) (K2 : y < x → W l Z n0 R B Q h cells slots q' Ls St) : W l Z n0 R B Q h cells slots pc Ls (.int y :: .int x :: St) :=
  W.icmp hd ho hq hq' (fun hc => K1 (by simpa [if_icmp.holds, Int32.not_lt, Int32.not_le] using hc)) (fun hc => K2 (by simpa [if_icmp.holds, Int32.not_lt, Int32.not_le] using hc))
theorem W.ifc_le {o : Int} {x : Int32} {q' : Nat} (hd : decode B.bytes pc = .ok (.ifCond .le o, 3)) (ho : 0 ≤ (pc : Int) + o) (hq : ((pc : Int) + o).toNat = q) (hq' : pc + 3 = q') (K1 : ¬ 0 < x → W l Z n0 R B Q h cells slots q Ls St) (K2 : 0 < x → W l Z n0 R B Q h cells slots q' Ls St) : W l Z n0 R B Q h cells slots pc Ls (.int x :: St) :=
  W.ifc hd ho hq hq' (fun hc => K1 (by simpa [if_icmp.holds, Int32.not_lt, Int32.not_le] using hc)) (fun hc => K2 (by simpa [if_icmp.holds, Int32.not_lt, Int32.not_le] using hc))
theorem W.ifnull_yes {o : Int} (hd : decode B.bytes pc = .ok (.ifnull o, 3)) (ho : 0 ≤ (pc : Int) + o) (hq : ((pc : Int) + o).toNat = q) (K : W l Z n0 R B Q h cells slots q Ls St) : W l Z n0 R B Q h cells slots pc Ls (.null :: St) :=
  W.same K (fun p e s m args below meth c T locs C X eT t hr => XS.ifnullYes (g := mkF m pc ⟨Ls⟩ (.null :: St)) X.here C.1 rfl rfl (hb C.2.1 hd) rfl ho hq hr)
theorem W.ifnull_no {o : Int} {b : Addr} (hd : decode B.bytes pc = .ok (.ifnull o, 3)) (hq : pc + 3 = q) (K : W l Z n0 R B Q h cells slots q Ls St) : W l Z n0 R B Q h cells slots pc Ls (.ref b :: St) := by
  subst hq; exact W.same K (fun p e s m args below meth c T locs C X eT t hr => XS.ifnullNo (g := mkF m pc ⟨Ls⟩ (.ref b :: St)) X.here C.1 rfl (hb C.2.1 hd) rfl hr)
theorem W.ifnonnull_yes {o : Int} {b : Addr} (hd : decode B.bytes pc = .ok (.ifnonnull o, 3)) (ho : 0 ≤ (pc : Int) + o) (hq : ((pc : Int) + o).toNat = q) (K : W l Z n0 R B Q h cells slots q Ls St) : W l Z n0 R B Q h cells slots pc Ls (.ref b :: St) :=
  W.same K (fun p e s m args below meth c T locs C X eT t hr => XS.ifnonnullYes (g := mkF m pc ⟨Ls⟩ (.ref b :: St)) X.here C.1 rfl rfl (hb C.2.1 hd) rfl ho hq hr)
theorem W.ifnonnull_no {o : Int} (hd : decode B.bytes pc = .ok (.ifnonnull o, 3)) (hq : pc + 3 = q) (K : W l Z n0 R B Q h cells slots q Ls St) : W l Z n0 R B Q h cells slots pc Ls (.null :: St) := by
  subst hq; exact W.same K (fun p e s m args below meth c T locs C X eT t hr => XS.ifnonnullNo (g := mkF m pc ⟨Ls⟩ (.null :: St)) X.here C.1 rfl (hb C.2.1 hd) rfl hr)
theorem W.acmp_ne {o : Int} {x y : Value} {q' : Nat} (hd : decode B.bytes pc = .ok (.if_acmp .ne o, 3)) (h1 : x.isRef = true) (h2 : y.isRef = true) (ho : 0 ≤ (pc : Int) + o) (hq : ((pc : Int) + o).toNat = q) (hq' : pc + 3 = q') (K1 : ¬ x = y → W l Z n0 R B Q h cells slots q Ls St) (K2 : x = y → W l Z n0 R B Q h cells slots q' Ls St) : W l Z n0 R B Q h cells slots pc Ls (y :: x :: St) := by
  subst hq hq'
  by_cases hc : x = y
  · exact W.same (K2 hc) (fun p e s m args below meth c T locs C X eT t hr => acmp (g := mkF m pc ⟨Ls⟩ (y :: x :: St)) X C.1 rfl h1 h2 rfl (hb C.2.1 hd) rfl (same := true) (by simpa using hc) ho (by simp [acV]) hr)
  · exact W.same (K1 hc) (fun p e s m args below meth c T locs C X eT t hr => acmp (g := mkF m pc ⟨Ls⟩ (y :: x :: St)) X C.1 rfl h1 h2 rfl (hb C.2.1 hd) rfl (same := false) (by simpa using hc) ho (by simp [acV]) hr)
theorem W.acmp_eq {o : Int} {x y : Value} {q' : Nat} (hd : decode B.bytes pc = .ok (.if_acmp .eq o, 3)) (h1 : x.isRef = true) (h2 : y.isRef = true) (ho : 0 ≤ (pc : Int) + o) (hq : ((pc : Int) + o).toNat = q) (hq' : pc + 3 = q') (K1 : x = y → W l Z n0 R B Q h cells slots q Ls St) (K2 : ¬ x = y → W l Z n0 R B Q h cells slots q' Ls St) : W l Z n0 R B Q h cells slots pc Ls (y :: x :: St) := by
  subst hq hq'
  by_cases hc : x = y
  · exact W.same (K1 hc) (fun p e s m args below meth c T locs C X eT t hr => acmp (g := mkF m pc ⟨Ls⟩ (y :: x :: St)) X C.1 rfl h1 h2 rfl (hb C.2.1 hd) rfl (same := true) (by simpa using hc) ho (by simp [acV]) hr)
  · exact W.same (K2 hc) (fun p e s m args below meth c T locs C X eT t hr => acmp (g := mkF m pc ⟨Ls⟩ (y :: x :: St)) X C.1 rfl h1 h2 rfl (hb C.2.1 hd) rfl (same := false) (by simpa using hc) ho (by simp [acV]) hr)
/-! ### the ends -/
theorem W.ireturn {z : Int32} (hd : decode B.bytes pc = .ok (.ireturn, 1)) (hret : B.ret = some .int) (hQ : Q (some (.int z)) h) : W l Z n0 R B Q h cells slots pc Ls (.int z :: St) := by
  intro p e s m args below meth c T locs C X eT N hc hs
  obtain ⟨fs, hr, hrun, hended, hW, hsame⟩ := X.leave (v := some (.int z)) (fun q => by rw [C.2.2.2.2.2.1, hret] at q; cases q) C.2.2.2.2.2.2.1
  exact ⟨_, _, locs, retOut X C.1 (C.2.2.2.2.2.1.trans hret) rfl (Or.inl ⟨rfl, Or.inl rfl, _, rfl⟩) (hb C.2.1 hd) hr, hrun, hended, eT ▸ hQ, N, ⟨_, rfl⟩, hW, hsame.mono hc hs⟩
theorem W.lreturn {z : Int64} (hd : decode B.bytes pc = .ok (.lreturn, 1)) (hret : B.ret = some .long) (hQ : Q (some (.long z)) h) : W l Z n0 R B Q h cells slots pc Ls (.long z :: St) := by
  intro p e s m args below meth c T locs C X eT N hc hs
  obtain ⟨fs, hr, hrun, hended, hW, hsame⟩ := X.leave (v := some (.long z)) (fun q => by rw [C.2.2.2.2.2.1, hret] at q; cases q) C.2.2.2.2.2.2.1
  exact ⟨_, _, locs, retOut X C.1 (C.2.2.2.2.2.1.trans hret) rfl (Or.inr (Or.inl ⟨rfl, rfl, _, rfl⟩)) (hb C.2.1 hd) hr, hrun, hended, eT ▸ hQ, N, ⟨_, rfl⟩, hW, hsame.mono hc hs⟩
theorem W.areturn {w : Value} {t : FieldType} (hd : decode B.bytes pc = .ok (.areturn, 1)) (hret : B.ret = some t) (ht : t.isReference = true) (hw : w.isRef = true) (hn : narrow t w = w) (hQ : Q (some w) h) : W l Z n0 R B Q h cells slots pc Ls (w :: St) := by
  intro p e s m args below meth c T locs C X eT N hc hs
  obtain ⟨fs, hr, hrun, hended, hW, hsame⟩ := X.leave (v := some w) (fun q => by rw [C.2.2.2.2.2.1, hret] at q; cases q) C.2.2.2.2.2.2.1
  exact ⟨_, _, locs, retOut X C.1 (C.2.2.2.2.2.1.trans hret) hn (Or.inr (Or.inr (Or.inr (Or.inr ⟨rfl, ht, hw⟩)))) (hb C.2.1 hd) hr, hrun, hended, eT ▸ hQ, N, ⟨_, rfl⟩, hW, hsame.mono hc hs⟩
theorem W.ireturnN {z z' : Int32} {t : FieldType} (hd : decode B.bytes pc = .ok (.ireturn, 1)) (hret : B.ret = some t) (ht : t = .boolean ∨ t = .byte ∨ t = .char ∨ t = .short) (hz : nar t z = z') (hQ : Q (some (.int z')) h) : W l Z n0 R B Q h cells slots pc Ls (.int z :: St) := by
  intro p e s m args below meth c T locs C X eT N hc hs
  subst hz
  obtain ⟨fs, hr, hrun, hended, hW, hsame⟩ := X.leave (v := some (.int (nar t z))) (fun q => by rw [C.2.2.2.2.2.1, hret] at q; cases q) C.2.2.2.2.2.2.1
  exact ⟨_, _, locs, retN X C.1 (C.2.2.2.2.2.1.trans hret) ht (hb C.2.1 hd) hr, hrun, hended, eT ▸ hQ, N, ⟨_, rfl⟩, hW, hsame.mono hc hs⟩
theorem W.vret (hd : decode B.bytes pc = .ok (.return_, 1)) (hret : B.ret = none) (hQ : Q none h) : W l Z n0 R B Q h cells slots pc Ls [] := by
  intro p e s m args below meth c T locs C X eT N hc hs
  obtain ⟨fs, hr, hrun, hended, hW, hsame⟩ := X.leave (v := none) (fun _ => rfl) C.2.2.2.2.2.2.1
  exact ⟨_, _, locs, X.returnOut C.1 (C.2.2.2.2.2.1.trans hret) (hb C.2.1 hd) hr, hrun, hended, eT ▸ hQ, N, ⟨_, rfl⟩, hW, hsame.mono hc hs⟩
theorem W.mono {Q' : Option Value → Heap → Prop} (hQ : ∀ v h, Q v h → Q' v h) (K : W l Z n0 R B Q h cells slots pc Ls St) : W l Z n0 R B Q' h cells slots pc Ls St := by
  intro p e s m args below meth c T locs C X eT N hc hs
  obtain ⟨s₂, v, L, h1, h2, h3, h4, h5⟩ := K p e s m args below meth c T locs C X eT N hc hs
  exact ⟨s₂, v, L, h1, h2, h3, hQ _ _ h4, h5⟩
theorem W.weak {c' s' : Nat} (hc : cells ≤ c') (hs : slots ≤ s') (hR : c' ≤ R.cells) (hR' : s' ≤ R.slots) (K : W l Z n0 R B Q h c' s' pc Ls St) : W l Z n0 R B Q h cells slots pc Ls St := by
  intro p e s m args below meth c T locs C X eT N _ _
  exact K p e s m args below meth c T locs C (X.more hc hs) eT N hR hR'
/-! ### arrays of ints (bytes, booleans, chars, shorts) and of longs -/
def AI (Z : State) (h : Heap) (a : Addr) (ty : FieldType) (xs : List Int32) : Prop := ∃ cl : Cell, Arr Z h a cl ty ∧ cl.slots = ⟨xs.map Value.int⟩ ∧ xs.length < 2 ^ 31
def AJ (Z : State) (h : Heap) (a : Addr) (xs : List Int64) : Prop := ∃ cl : Cell, Arr Z h a cl .long ∧ cl.slots = ⟨xs.map Value.long⟩ ∧ xs.length < 2 ^ 31
section Facts
variable {h' : Heap} {a b : Addr} {ty : FieldType} {xs : List Int32} {ys : List Int64} {sl : Nat} {v : Value} {ws : List Addr}
theorem AI.lt (A : AI Z h a ty xs) : a < h.size := by obtain ⟨c, A, -⟩ := A; exact A.lt
theorem AI.ext (A : AI Z h a ty xs) (E : Ext h h') : AI Z h' a ty xs := by obtain ⟨c, A, r⟩ := A; exact ⟨c, A.ext E, r⟩
theorem AI.keep (A : AI Z h a ty xs) (K : Keep h h' ws) (q : a ∉ ws) : AI Z h' a ty xs := by obtain ⟨c, A, r⟩ := A; exact ⟨c, ⟨K.2.1 a c A.1 q, A.2⟩, r⟩
theorem AI.other (A : AI Z h b ty xs) (w : Wr h h' a sl v) (q : b ≠ a) : AI Z h' b ty xs := by obtain ⟨c, A, r⟩ := A; exact ⟨c, A.other w q, r⟩
theorem AI.set {x : Int32} (A : AI Z h a ty xs) (w : Wr h h' a sl (.int x)) : AI Z h' a ty (xs.set sl x) := by
  obtain ⟨c, A, r, r'⟩ := A
  exact ⟨_, A.same w, by simp [Cell.setSlot, r, List.map_set], by simpa using r'⟩
theorem AJ.lt (A : AJ Z h a ys) : a < h.size := by obtain ⟨c, A, -⟩ := A; exact A.lt
theorem AJ.ext (A : AJ Z h a ys) (E : Ext h h') : AJ Z h' a ys := by obtain ⟨c, A, r⟩ := A; exact ⟨c, A.ext E, r⟩
theorem AJ.keep (A : AJ Z h a ys) (K : Keep h h' ws) (q : a ∉ ws) : AJ Z h' a ys := by obtain ⟨c, A, r⟩ := A; exact ⟨c, ⟨K.2.1 a c A.1 q, A.2⟩, r⟩
theorem AJ.other (A : AJ Z h b ys) (w : Wr h h' a sl v) (q : b ≠ a) : AJ Z h' b ys := by obtain ⟨c, A, r⟩ := A; exact ⟨c, A.other w q, r⟩
theorem AJ.set {x : Int64} (A : AJ Z h a ys) (w : Wr h h' a sl (.long x)) : AJ Z h' a (ys.set sl x) := by
  obtain ⟨c, A, r, r'⟩ := A
  exact ⟨_, A.same w, by simp [Cell.setSlot, r, List.map_set], by simpa using r'⟩
end Facts
theorem W.newarrayI {aty : ArrayType} {ty : FieldType} {n : Int32} {cap : Nat} (hd : decode B.bytes pc = .ok (.newarray aty, 2)) (hty : newarray.typeOf aty = ty) (h0 : defaultValue ty = .int 0) (w : (Cond.arrayClass ty).before a0 Z = true) (hn : ¬ n < 0) (hcap : n.toNatClampNeg ≤ cap) (hbig : cap * 8 ≤ 536870912) (hc : cells + 1 ≤ R.cells) (hl : slots + cap ≤ R.slots) (hq : pc + 2 = q)
    (K : ∀ h', Ext h h' → AI Z h' h.size ty (List.replicate n.toNatClampNeg 0) → W l Z n0 R B Q h' (cells + 1) (slots + cap) q Ls (.ref h.size :: St)) : W l Z n0 R B Q h cells slots pc Ls (.int n :: St) := by
  subst hq hty
  intro p e s m args below meth c T locs C X eT N _ _
  obtain ⟨T', h', cA, X', eT', E, A, st⟩ := newP X C.1 C.2.2.2.1 w eT (g := mkF m pc ⟨Ls⟩ (.int n :: St)) rfl (hb C.2.1 hd) rfl hn hcap hbig hc hl
  obtain ⟨s₂, v, L, h1, h2⟩ := K h' E ⟨_, A, by simp [newA, h0, ← Array.toList_inj], by simpa using (back32 hn).2⟩ p e s m args below meth c T' locs C X' eT' N hc hl
  exact ⟨s₂, v, L, st _ h1, h2⟩
theorem W.newarrayJ {n : Int32} {cap : Nat} (hd : decode B.bytes pc = .ok (.newarray .long, 2)) (w : (Cond.arrayClass .long).before a0 Z = true) (hn : ¬ n < 0) (hcap : n.toNatClampNeg ≤ cap) (hbig : cap * 8 ≤ 536870912) (hc : cells + 1 ≤ R.cells) (hl : slots + cap ≤ R.slots) (hq : pc + 2 = q)
    (K : ∀ h', Ext h h' → AJ Z h' h.size (List.replicate n.toNatClampNeg 0) → W l Z n0 R B Q h' (cells + 1) (slots + cap) q Ls (.ref h.size :: St)) : W l Z n0 R B Q h cells slots pc Ls (.int n :: St) := by
  subst hq
  intro p e s m args below meth c T locs C X eT N _ _
  obtain ⟨T', h', cA, X', eT', E, A, st⟩ := newP X (aty := .long) C.1 C.2.2.2.1 w eT (g := mkF m pc ⟨Ls⟩ (.int n :: St)) rfl (hb C.2.1 hd) rfl hn hcap hbig hc hl
  have A' : Arr Z h' h.size (newA cA .long n) .long := A
  have e1 : (newA cA .long n).slots = ⟨(List.replicate n.toNatClampNeg (0 : Int64)).map Value.long⟩ := by simp [newA, defaultValue, ← Array.toList_inj]
  have e2 : (List.replicate n.toNatClampNeg (0 : Int64)).length < 2 ^ 31 := by rw [List.length_replicate]; exact (back32 hn).2
  obtain ⟨s₂, v, L, h1, h2⟩ := K h' E ⟨_, A', e1, e2⟩ p e s m args below meth c T' locs C X' eT' N hc hl
  exact ⟨s₂, v, L, st _ h1, h2⟩
theorem inI {cl : Cell} {xs : List Int32} {j v : Int32} (hs : cl.slots = ⟨xs.map Value.int⟩) (h0 : ¬ j < 0) (hv : xs[j.toNatClampNeg]? = some v) : ¬ (j < 0 ∨ cl.slots.size ≤ j.toNatClampNeg) ∧ cl.slots[j.toNatClampNeg]? = some (.int v) := by
  obtain ⟨h1, -⟩ := List.getElem?_eq_some_iff.mp hv
  refine ⟨fun q => q.elim h0 fun q => ?_, by simp [hs, hv]⟩
  rw [hs] at q; simp at q; omega
theorem inJ {cl : Cell} {xs : List Int64} {j : Int32} {v : Int64} (hs : cl.slots = ⟨xs.map Value.long⟩) (h0 : ¬ j < 0) (hv : xs[j.toNatClampNeg]? = some v) : ¬ (j < 0 ∨ cl.slots.size ≤ j.toNatClampNeg) ∧ cl.slots[j.toNatClampNeg]? = some (.long v) := by
  obtain ⟨h1, -⟩ := List.getElem?_eq_some_iff.mp hv
  refine ⟨fun q => q.elim h0 fun q => ?_, by simp [hs, hv]⟩
  rw [hs] at q; simp at q; omega
theorem W.iaload {a : Addr} {xs : List Int32} {j v : Int32} (hd : decode B.bytes pc = .ok (.iaload, 1)) (A : AI Z h a .int xs) (h0 : ¬ j < 0) (hv : xs[j.toNatClampNeg]? = some v) (hq : pc + 1 = q) (K : W l Z n0 R B Q h cells slots q Ls (.int v :: St)) : W l Z n0 R B Q h cells slots pc Ls (.int j :: .ref a :: St) := by
  subst hq; obtain ⟨cl, A, hs, -⟩ := A
  exact W.same K (fun p e s m args below meth c T locs C X eT t hr => X.iaload (g := mkF m pc ⟨Ls⟩ (.int j :: .ref a :: St)) C.1 (by rw [eT]; exact A.1) (State.isArrayOf_alike C.2.2.2.1.alike A.2.1) A.2.2 (inI hs h0 hv).1 (inI hs h0 hv).2 rfl rfl (hb C.2.1 hd) t hr)
theorem W.baloadB {a : Addr} {xs : List Int32} {j v : Int32} (hd : decode B.bytes pc = .ok (.baload, 1)) (A : AI Z h a .byte xs) (h0 : ¬ j < 0) (hv : xs[j.toNatClampNeg]? = some v) (hq : pc + 1 = q) (K : W l Z n0 R B Q h cells slots q Ls (.int v :: St)) : W l Z n0 R B Q h cells slots pc Ls (.int j :: .ref a :: St) := by
  subst hq; obtain ⟨cl, A, hs, -⟩ := A
  exact W.same K (fun p e s m args below meth c T locs C X eT t hr => X.baloadBytes (g := mkF m pc ⟨Ls⟩ (.int j :: .ref a :: St)) C.1 (by rw [eT]; exact A.1) (State.isArrayOf_alike C.2.2.2.1.alike A.2.1) A.2.2 (inI hs h0 hv).1 (inI hs h0 hv).2 rfl rfl (hb C.2.1 hd) t hr)
theorem W.baloadZ {a : Addr} {xs : List Int32} {j v : Int32} (hd : decode B.bytes pc = .ok (.baload, 1)) (A : AI Z h a .boolean xs) (h0 : ¬ j < 0) (hv : xs[j.toNatClampNeg]? = some v) (hq : pc + 1 = q) (K : W l Z n0 R B Q h cells slots q Ls (.int v :: St)) : W l Z n0 R B Q h cells slots pc Ls (.int j :: .ref a :: St) := by
  subst hq; obtain ⟨cl, A, hs, -⟩ := A
  exact W.same K (fun p e s m args below meth c T locs C X eT t hr => X.baloadBooleans (g := mkF m pc ⟨Ls⟩ (.int j :: .ref a :: St)) C.1 (by rw [eT]; exact A.1) (State.isArrayOf_alike C.2.2.2.1.alike A.2.1) A.2.2 (inI hs h0 hv).1 (inI hs h0 hv).2 rfl rfl (hb C.2.1 hd) t hr)
theorem W.laload {a : Addr} {xs : List Int64} {j : Int32} {v : Int64} (hd : decode B.bytes pc = .ok (.laload, 1)) (A : AJ Z h a xs) (h0 : ¬ j < 0) (hv : xs[j.toNatClampNeg]? = some v) (hq : pc + 1 = q) (K : W l Z n0 R B Q h cells slots q Ls (.long v :: St)) : W l Z n0 R B Q h cells slots pc Ls (.int j :: .ref a :: St) := by
  subst hq; obtain ⟨cl, A, hs, -⟩ := A
  exact W.same K (fun p e s m args below meth c T locs C X eT t hr => X.laload (g := mkF m pc ⟨Ls⟩ (.int j :: .ref a :: St)) C.1 (by rw [eT]; exact A.1) (State.isArrayOf_alike C.2.2.2.1.alike A.2.1) A.2.2 (inJ hs h0 hv).1 (inJ hs h0 hv).2 rfl rfl (hb C.2.1 hd) t hr)
theorem W.arraylengthI {a : Addr} {ty : FieldType} {xs : List Int32} {n : Int32} (hd : decode B.bytes pc = .ok (.arraylength, 1)) (A : AI Z h a ty xs) (hn : xs.length.toInt32 = n) (hq : pc + 1 = q) (K : W l Z n0 R B Q h cells slots q Ls (.int n :: St)) : W l Z n0 R B Q h cells slots pc Ls (.ref a :: St) := by
  subst hq hn; obtain ⟨cl, A, hs, -⟩ := A
  have e1 : cl.slots.size = xs.length := by simp [hs]
  rw [← e1] at K
  exact W.same K (fun p e s m args below meth c T locs C X eT t hr => X.arraylength (g := mkF m pc ⟨Ls⟩ (.ref a :: St)) C.1 (by rw [eT]; exact A.1) (State.isArrayOf_alike C.2.2.2.1.alike A.2.1) rfl rfl (hb C.2.1 hd) t hr)
theorem W.arraylengthJ {a : Addr} {xs : List Int64} {n : Int32} (hd : decode B.bytes pc = .ok (.arraylength, 1)) (A : AJ Z h a xs) (hn : xs.length.toInt32 = n) (hq : pc + 1 = q) (K : W l Z n0 R B Q h cells slots q Ls (.int n :: St)) : W l Z n0 R B Q h cells slots pc Ls (.ref a :: St) := by
  subst hq hn; obtain ⟨cl, A, hs, -⟩ := A
  have e1 : cl.slots.size = xs.length := by simp [hs]
  rw [← e1] at K
  exact W.same K (fun p e s m args below meth c T locs C X eT t hr => X.arraylength (g := mkF m pc ⟨Ls⟩ (.ref a :: St)) C.1 (by rw [eT]; exact A.1) (State.isArrayOf_alike C.2.2.2.1.alike A.2.1) rfl rfl (hb C.2.1 hd) t hr)
theorem outI {cl : Cell} {xs : List Int32} {j : Int32} (hs : cl.slots = ⟨xs.map Value.int⟩) (h0 : ¬ j < 0) (hj : j.toNatClampNeg < xs.length) : ¬ (j < 0 ∨ cl.slots.size ≤ j.toNatClampNeg) := fun q => q.elim h0 fun q => by
  rw [hs] at q; simp at q; omega
theorem outJ {cl : Cell} {xs : List Int64} {j : Int32} (hs : cl.slots = ⟨xs.map Value.long⟩) (h0 : ¬ j < 0) (hj : j.toNatClampNeg < xs.length) : ¬ (j < 0 ∨ cl.slots.size ≤ j.toNatClampNeg) := fun q => q.elim h0 fun q => by
  rw [hs] at q; simp at q; omega
theorem W.iastore {a : Addr} {xs : List Int32} {j x : Int32} (hd : decode B.bytes pc = .ok (.iastore, 1)) (A : AI Z h a .int xs) (h0 : ¬ j < 0) (hj : j.toNatClampNeg < xs.length) (ha : n0 ≤ a) (hq : pc + 1 = q) (K : ∀ h', Wr h h' a j.toNatClampNeg (.int x) → AI Z h' a .int (xs.set j.toNatClampNeg x) → W l Z n0 R B Q h' cells slots q Ls St) : W l Z n0 R B Q h cells slots pc Ls (.int x :: .int j :: .ref a :: St) := by
  subst hq; obtain ⟨cl, A', hs, hl⟩ := A
  exact W.wrote (fun p e s m args below meth c T locs C X eT => stI X (g := mkF m pc ⟨Ls⟩ (.int x :: .int j :: .ref a :: St)) C.1 C.2.2.2.1 eT A' (outI hs h0 hj) rfl rfl (hb C.2.1 hd)) ha (fun h' w => K h' w (AI.set ⟨cl, A', hs, hl⟩ w))
theorem W.bastoreB {a : Addr} {xs : List Int32} {j x x' : Int32} (hd : decode B.bytes pc = .ok (.bastore, 1)) (A : AI Z h a .byte xs) (h0 : ¬ j < 0) (hj : j.toNatClampNeg < xs.length) (hx : x.toInt8.toInt32 = x') (ha : n0 ≤ a) (hq : pc + 1 = q) (K : ∀ h', Wr h h' a j.toNatClampNeg (.int x') → AI Z h' a .byte (xs.set j.toNatClampNeg x') → W l Z n0 R B Q h' cells slots q Ls St) : W l Z n0 R B Q h cells slots pc Ls (.int x :: .int j :: .ref a :: St) := by
  subst hq hx; obtain ⟨cl, A', hs, hl⟩ := A
  exact W.wrote (fun p e s m args below meth c T locs C X eT => stB X (g := mkF m pc ⟨Ls⟩ (.int x :: .int j :: .ref a :: St)) C.1 C.2.2.2.1 eT A' (outI hs h0 hj) rfl rfl (hb C.2.1 hd)) ha (fun h' w => K h' w (AI.set ⟨cl, A', hs, hl⟩ w))
theorem W.bastoreZ {a : Addr} {xs : List Int32} {j x x' : Int32} (hd : decode B.bytes pc = .ok (.bastore, 1)) (A : AI Z h a .boolean xs) (h0 : ¬ j < 0) (hj : j.toNatClampNeg < xs.length) (hx : x &&& 1 = x') (ha : n0 ≤ a) (hq : pc + 1 = q) (K : ∀ h', Wr h h' a j.toNatClampNeg (.int x') → AI Z h' a .boolean (xs.set j.toNatClampNeg x') → W l Z n0 R B Q h' cells slots q Ls St) : W l Z n0 R B Q h cells slots pc Ls (.int x :: .int j :: .ref a :: St) := by
  subst hq hx; obtain ⟨cl, A', hs, hl⟩ := A
  exact W.wrote (fun p e s m args below meth c T locs C X eT => stZ X (g := mkF m pc ⟨Ls⟩ (.int x :: .int j :: .ref a :: St)) C.1 C.2.2.2.1 eT A' (outI hs h0 hj) rfl rfl (hb C.2.1 hd)) ha (fun h' w => K h' w (AI.set ⟨cl, A', hs, hl⟩ w))
theorem W.lastore {a : Addr} {xs : List Int64} {j : Int32} {x : Int64} (hd : decode B.bytes pc = .ok (.lastore, 1)) (A : AJ Z h a xs) (h0 : ¬ j < 0) (hj : j.toNatClampNeg < xs.length) (ha : n0 ≤ a) (hq : pc + 1 = q) (K : ∀ h', Wr h h' a j.toNatClampNeg (.long x) → AJ Z h' a (xs.set j.toNatClampNeg x) → W l Z n0 R B Q h' cells slots q Ls St) : W l Z n0 R B Q h cells slots pc Ls (.long x :: .int j :: .ref a :: St) := by
  subst hq; obtain ⟨cl, A', hs, hl⟩ := A
  exact W.wrote (fun p e s m args below meth c T locs C X eT => stJ X (g := mkF m pc ⟨Ls⟩ (.long x :: .int j :: .ref a :: St)) C.1 C.2.2.2.1 eT A' (outJ hs h0 hj) rfl rfl (hb C.2.1 hd)) ha (fun h' w => K h' w (AJ.set ⟨cl, A', hs, hl⟩ w))
/-! ### fields, statics, objects -/
theorem W.getF {i : Nat} {O n d : String} {a : Addr} {v : Value} (hd : decode B.bytes pc = .ok (.getfield i, 3)) (w : (Cond.fieldLink B.own i O n d).before a0 Z = true) (F : Fld Z h a O n d v) (hq : pc + 3 = q) (K : W l Z n0 R B Q h cells slots q Ls (v :: St)) : W l Z n0 R B Q h cells slots pc Ls (.ref a :: St) := by
  subst hq; exact W.warm K (fun p e s m args below meth c T locs C X eT => RoadKit.getF X (g := mkF m pc ⟨Ls⟩ (.ref a :: St)) C.1 C.2.2.2.1 C.2.2.2.2.1 (host := "") (Or.inl w) Via.refl eT F rfl rfl (hb C.2.1 hd))
theorem W.getS {i : Nat} {O n d : String} {v : Value} (hd : decode B.bytes pc = .ok (.getstatic i, 3)) (w : (Cond.fieldLink B.own i O n d).before a0 Z = true) (F : Sta Z h O n d v) (hq : pc + 3 = q) (K : W l Z n0 R B Q h cells slots q Ls (v :: St)) : W l Z n0 R B Q h cells slots pc Ls St := by
  subst hq; exact W.warm K (fun p e s m args below meth c T locs C X eT => RoadKit.getS X (g := mkF m pc ⟨Ls⟩ St) C.1 C.2.2.2.1 (host := "") C.2.2.2.2.1 w Via.refl eT F rfl (hb C.2.1 hd))
theorem W.putF {i kk : Nat} {O n d C' : String} {a : Addr} {v old : Value} {ty : FieldType} (hd : decode B.bytes pc = .ok (.putfield i, 3)) (w : (Cond.fieldLink B.own i O n d).before a0 Z = true) (F : Fld Z h a O n d old) (E : Exa Z h a C') (L : (Cond.lays C' O n d).before a0 Z = true ∨ ((Cond.laysFinal C' O n d).before a0 Z = true ∧ B.own = O ∧ B.nm = "<init>")) (wi : (Cond.instantiable C' kk).before a0 Z = true)
    (hty : parseFieldDescriptor d = some ty) (hn : narrow ty v = v) (hf : fits ty v = true) (ha : n0 ≤ a) (hq : pc + 3 = q) (K : ∀ h', Wr h h' a (Jvm.RoadKit.slotOf Z O n d) v → W l Z n0 R B Q h' cells slots q Ls St) : W l Z n0 R B Q h cells slots pc Ls (v :: .ref a :: St) := by
  subst hq; exact W.wrote (fun p e s m args below meth c T locs C X eT => RoadKit.putF X (g := mkF m pc ⟨Ls⟩ (v :: .ref a :: St)) C.1 C.2.2.2.1 (host := "") C.2.2.2.2.1 (Or.inl w) Via.refl eT F E (L.imp id fun q => ⟨q.1, q.2.1, C.2.2.2.2.2.2.2.trans q.2.2⟩) wi hty hn hf rfl rfl (hb C.2.1 hd)) ha K
theorem W.newO {i n : Nat} {C' : String} (hd : decode B.bytes pc = .ok (.new i, 3)) (w : (Cond.classLink B.own i C').before a0 Z = true) (wi : (Cond.instantiable C' n).before a0 Z = true) (wz : (Cond.initialized C').before a0 Z = true) (hc : cells + 1 ≤ R.cells) (hl : slots + n ≤ R.slots) (hq : pc + 3 = q)
    (K : ∀ h', Ext h h' → Exa Z h' h.size C' → (∀ {O nm d : String} {ty : FieldType}, Laid Z a0 C' O nm d → parseFieldDescriptor d = some ty → Fld Z h' h.size O nm d (defaultValue ty)) → W l Z n0 R B Q h' (cells + 1) (slots + n) q Ls (.ref h.size :: St)) : W l Z n0 R B Q h cells slots pc Ls St := by
  subst hq
  intro p e s m args below meth c T locs C X eT N _ _
  obtain ⟨T', h', X', eT', E, A, D, -, st⟩ := RoadKit.newO X C.1 C.2.2.2.1 C.2.2.2.2.1 w wi wz eT (g := mkF m pc ⟨Ls⟩ St) rfl (hb C.2.1 hd) hc hl
  obtain ⟨s₂, v, L, h1, h2⟩ := K h' E A D p e s m args below meth c T' locs C X' eT' N hc hl
  exact ⟨s₂, v, L, st _ h1, h2⟩
theorem W.castY {i : Nat} {K' : String} {a : Addr} (hd : decode B.bytes pc = .ok (.checkcast i, 3)) (w : (Cond.classLink B.own i K').before a0 Z = true) (F : Ins Z h a K' true) (hq : pc + 3 = q) (K : W l Z n0 R B Q h cells slots q Ls (.ref a :: St)) : W l Z n0 R B Q h cells slots pc Ls (.ref a :: St) := by
  subst hq; exact W.warm K (fun p e s m args below meth c T locs C X eT => RoadKit.castY X C.1 C.2.2.2.1 C.2.2.2.2.1 w eT F (g := mkF m pc ⟨Ls⟩ (.ref a :: St)) rfl rfl (hb C.2.1 hd))
theorem W.instY {i : Nat} {K' : String} {a : Addr} (hd : decode B.bytes pc = .ok (.instanceof i, 3)) (w : (Cond.classLink B.own i K').before a0 Z = true) (F : Ins Z h a K' true) (hq : pc + 3 = q) (K : W l Z n0 R B Q h cells slots q Ls (.int 1 :: St)) : W l Z n0 R B Q h cells slots pc Ls (.ref a :: St) := by
  subst hq; exact W.warm K (fun p e s m args below meth c T locs C X eT => RoadKit.instY X C.1 C.2.2.2.1 C.2.2.2.2.1 w eT F (g := mkF m pc ⟨Ls⟩ (.ref a :: St)) rfl rfl (hb C.2.1 hd))
theorem W.instNo {i : Nat} {K' C' : String} {a : Addr} (hd : decode B.bytes pc = .ok (.instanceof i, 3)) (w : (Cond.classLink B.own i K').before a0 Z = true) (E : Exa Z h a C') (F : ∃ c t, Z.vm.findClass C' = some c ∧ Z.vm.findClass K' = some t ∧ Z.vm.assignable c t = false) (hq : pc + 3 = q) (K : W l Z n0 R B Q h cells slots q Ls (.int 0 :: St)) : W l Z n0 R B Q h cells slots pc Ls (.ref a :: St) := by
  subst hq; exact W.warm K (fun p e s m args below meth c T locs C X eT => RoadKit.instNo X C.1 C.2.2.2.1 C.2.2.2.2.1 w eT E F (g := mkF m pc ⟨Ls⟩ (.ref a :: St)) rfl rfl (hb C.2.1 hd))
theorem W.instNull {i : Nat} (hd : decode B.bytes pc = .ok (.instanceof i, 3)) (hq : pc + 3 = q) (K : W l Z n0 R B Q h cells slots q Ls (.int 0 :: St)) : W l Z n0 R B Q h cells slots pc Ls (.null :: St) := by
  subst hq; exact W.same K (fun p e s m args below meth c T locs C X eT t hr => X.instanceofNull C.1 (g := mkF m pc ⟨Ls⟩ (.null :: St)) rfl rfl (hb C.2.1 hd) t hr)
/-- what a callee leaves: an int, a long, a reference, nothing -/
def RI (P : Int32 → Heap → Prop) (v : Option Value) (h : Heap) : Prop := ∃ z, v = some (.int z) ∧ P z h
def RJ (P : Int64 → Heap → Prop) (v : Option Value) (h : Heap) : Prop := ∃ z, v = some (.long z) ∧ P z h
def RA (P : Value → Heap → Prop) (v : Option Value) (h : Heap) : Prop := ∃ z, v = some z ∧ P z h
def RN (P : Heap → Prop) (v : Option Value) (h : Heap) : Prop := v = none ∧ P h
/-! ### calls -/
def Met1 (l : Launch) (Z : State) (n0 : Nat) (y : MethodName) (B' : Bdy) (rm : Room) (as' : Array Value) (h : Heap) (Qc : Option Value → Heap → Prop) : Prop :=
  MetFree l y (head1 [Cond.code y B'.bytes B'.ml B'.ret] rm) (fun a U => a = as' ∧ Z.Warmed39 U.vm ∧ U.heap = h) (fun _ _ _ _ _ => True) (fun _ U o U' => ∃ v L, o = .returned v ∧ (Qc v U'.heap ∧ Fr n0 L) ∧ FrameEnd U o U' L rm.cells rm.slots)
theorem met_of {ws : List Jvm.Cond} {y : MethodName} {B' : Bdy} {rm : Room} {as' : Array Value} {Qc : Option Value → Heap → Prop} {L0 : List Slot} (hp : plainFor y = true) (ho : B'.own = y.cls) (hn : B'.nm = y.name) (hef : ∀ m, entryFrame m as' B'.ml = mkF m 0 ⟨L0⟩ []) (w : W l Z n0 rm B' Qc h 0 0 0 L0 []) :
    MetFree l y (head1 (Cond.code y B'.bytes B'.ml B'.ret :: ws) rm) (fun a U => a = as' ∧ Z.Warmed39 U.vm ∧ U.heap = h) (fun _ _ _ _ _ => True) (fun _ U o U' => ∃ v L, o = .returned v ∧ (Qc v U'.heap ∧ Fr n0 L) ∧ FrameEnd U o U' L rm.cells rm.slots) := by
  refine MetFree.of_bodySF hp hisR ?_
  intro p e s m args below meth c s₁ Bd hml0 hP hK
  obtain ⟨rfl, hZ, hh⟩ := hP
  have X0 : Stand p l e rm s m args below meth c s₁ [] 0 0 := Stand.of_body Bd
  have e0 : s₁.heap = h := by rw [← hh, Bd.state]; rfl
  obtain ⟨s₂, v, L, h1, h2, h3, h4, h5, h6⟩ := w p e s m args below meth c s₁ [] ⟨Bd.exec, Bd.bytes, hml0, hZ, by rw [ho]; exact findClass_of_methodNamed Bd.named, Bd.returns, Bd.notSynchronized, by rw [hn]; exact (name_of_methodNamed Bd.named Bd.method).1⟩ X0 e0 (Fr.nil n0) (Nat.zero_le _) (Nat.zero_le _)
  exact ⟨s₂, _, castTop (hef m) h1, h2, h3, v, L, rfl, ⟨h4, h5⟩, h6⟩
theorem W.callS {i : Nat} {y : MethodName} {B' : Bdy} {rm : Room} {Qc : Option Value → Heap → Prop} {L0 : List Slot} {argsL rest : List Value} {ps : List FieldType} {r : Option FieldType} (hd : decode B.bytes pc = .ok (.invokestatic i, 3)) (wl : (Cond.methodLink B.own i y).before a0 Z = true) (wst : (Cond.static y).before a0 Z = true) (wz : (Cond.initialized y.cls).before a0 Z = true) (wc : (Cond.code y B'.bytes B'.ml B'.ret).before a0 Z = true)
    (hst : argsL.reverse ++ rest = St) (w : W l Z n0 rm B' Qc h 0 0 0 L0 []) (hp : plainFor y = true) (hy : y.cls ≠ "java/lang/invoke/MethodHandle" ∧ y.cls ≠ "java/lang/invoke/VarHandle") (hpd : parseMethodDescriptor y.desc = some ⟨ps, r⟩) (ho : B'.own = y.cls) (hn : B'.nm = y.name) (hlen : argsL.length = ps.length) (hef : ∀ m, entryFrame m argsL.toArray B'.ml = mkF m 0 ⟨L0⟩ []) (hsz : Ls.length = B.ml)
    (hf : Nat.ble (rm.frames + 1) R.frames = true) (hlo : Nat.ble ((rest.map fun v => v.category).sum + (B'.ml + 11) + rm.locals) R.locals = true) (hc : Nat.ble (cells + rm.cells) R.cells = true) (hs : Nat.ble (slots + rm.slots) R.slots = true) (hq : pc + 3 = q)
    (K : ∀ v h', Qc v h' → W l Z n0 R B Q h' (cells + rm.cells) (slots + rm.slots) q Ls (v.toList ++ rest)) : W l Z n0 R B Q h cells slots pc Ls St := by
  subst hq hst
  intro p e s m args below meth c T locs C X eT N _ _
  have hc' := Nat.le_of_ble_eq_true hc
  have hs' := Nat.le_of_ble_eq_true hs
  obtain ⟨v, vm₁, ⟨T', L', c', s'⟩, -, X', ⟨Lc, hQ, l', y', z'⟩, st⟩ := Jvm.LawKit.callS X C.1 (y := y) C.2.2.2.2.1 (mvT C.2.2.2.1 wl) (mvT C.2.2.2.1 wst) (mvT C.2.2.2.1 wz) (mvT C.2.2.2.1 wc) hy
    (backOf (W := (rest.map fun v => v.category).sum) (Q := fun v h L => Qc v h ∧ Fr n0 L) (met_of (ws := []) hp ho hn hef w) C.2.2.2.1 wc wz (Nat.le_of_ble_eq_true hf) (Nat.le_of_ble_eq_true hlo)) (g := mkF m pc ⟨Ls⟩ (argsL.reverse ++ rest)) rfl (by show Ls.toArray.size = _; rw [C.2.2.1]; simpa using hsz) (argsL := argsL) (rest := rest) (lenOf hpd hlen) rfl (by show 2 * 0 + _ ≤ _; omega) (hb C.2.1 hd) (fun _ _ => ⟨rfl, eT, hc', hs'⟩)
  dsimp only [Pt.U, Pt.locs, Pt.cells, Pt.slots] at X' l' y' z' st hQ
  subst l' y' z'
  obtain ⟨s₂, v₂, L, h1, h2⟩ := K v T'.heap hQ.1 p e s m args below meth c T' _ C X' rfl (Fr.app N hQ.2) hc' hs'
  exact ⟨s₂, v₂, L, st _ h1, h2⟩
theorem W.callI {i : Nat} {y : MethodName} {B' : Bdy} {rm : Room} {Qc : Option Value → Heap → Prop} {L0 : List Slot} {a : Addr} {argsL rest : List Value} {ps : List FieldType} {r : Option FieldType} (hd : decode B.bytes pc = .ok (.invokespecial i, 3)) (wl : (Cond.methodLink B.own i y).before a0 Z = true) (wst : (Cond.instanceMethod y).before a0 Z = true) (wz : (Cond.initialized y.cls).before a0 Z = true) (wc : (Cond.code y B'.bytes B'.ml B'.ret).before a0 Z = true)
    (hst : argsL.reverse ++ .ref a :: rest = St) (w : W l Z n0 rm B' Qc h 0 0 0 L0 []) (hp : plainFor y = true) (hy : y.cls ≠ "java/lang/invoke/MethodHandle" ∧ y.cls ≠ "java/lang/invoke/VarHandle") (hpd : parseMethodDescriptor y.desc = some ⟨ps, r⟩) (ho : B'.own = y.cls) (hn : B'.nm = y.name) (hlen : argsL.length = ps.length) (hef : ∀ m, entryFrame m (.ref a :: argsL).toArray B'.ml = mkF m 0 ⟨L0⟩ []) (hsz : Ls.length = B.ml)
    (hf : Nat.ble (rm.frames + 1) R.frames = true) (hlo : Nat.ble ((rest.map fun v => v.category).sum + (B'.ml + 11) + rm.locals) R.locals = true) (hc : Nat.ble (cells + rm.cells) R.cells = true) (hs : Nat.ble (slots + rm.slots) R.slots = true) (hret : B'.ret = none) (hin : y.name = "<init>") (hq : pc + 3 = q)
    (K : ∀ v h', Qc v h' → W l Z n0 R B Q h' (cells + rm.cells) (slots + rm.slots) q Ls (v.toList ++ rest)) : W l Z n0 R B Q h cells slots pc Ls St := by
  subst hq hst
  intro p e s m args below meth c T locs C X eT N _ _
  have hc' := Nat.le_of_ble_eq_true hc
  have hs' := Nat.le_of_ble_eq_true hs
  obtain ⟨v, vm₁, ⟨T', L', c', s'⟩, -, X', ⟨Lc, hQ, l', y', z'⟩, st⟩ := X.specialBack C.1 (y := y) hin C.2.2.2.2.1 (mvT C.2.2.2.1 wl) (mvT C.2.2.2.1 wst) (mvT C.2.2.2.1 (hret ▸ wc)) hy
    (backOf (W := (rest.map fun v => v.category).sum) (Q := fun v h L => Qc v h ∧ Fr n0 L) (met_of (ws := []) hp ho hn hef w) C.2.2.2.1 wc wz (Nat.le_of_ble_eq_true hf) (Nat.le_of_ble_eq_true hlo)) (g := mkF m pc ⟨Ls⟩ (argsL.reverse ++ .ref a :: rest)) rfl (by show Ls.toArray.size = _; rw [C.2.2.1]; simpa using hsz) (Steps.refl _) (a := a) (argsL := argsL) (rest := rest) (lenOf hpd hlen) rfl (by show 2 * 0 + _ ≤ _; omega) (hb C.2.1 hd) (fun _ _ => ⟨rfl, eT, hc', hs'⟩)
  dsimp only [Pt.U, Pt.locs, Pt.cells, Pt.slots] at X' l' y' z' st hQ
  subst l' y' z'
  obtain ⟨s₂, v₂, L, h1, h2⟩ := K v T'.heap hQ.1 p e s m args below meth c T' _ C X' rfl (Fr.app N hQ.2) hc' hs'
  exact ⟨s₂, v₂, L, st.trans h1, h2⟩
theorem W.callV {i : Nat} {y : MethodName} {C' : String} {B' : Bdy} {rm : Room} {Qc : Option Value → Heap → Prop} {L0 : List Slot} {a : Addr} {argsL rest : List Value} {ps : List FieldType} {r : Option FieldType} (hd : decode B.bytes pc = .ok (.invokevirtual i, 3)) (wl : (Cond.methodLink B.own i y).before a0 Z = true) (wd : (Cond.declares y).before a0 Z = true) (wsel : (Cond.selects C' y y).before a0 Z = true) (wst : (Cond.instanceMethod y).before a0 Z = true) (wz : (Cond.initialized y.cls).before a0 Z = true) (wc : (Cond.code y B'.bytes B'.ml B'.ret).before a0 Z = true)
    (hst : argsL.reverse ++ .ref a :: rest = St) (E : Exa Z h a C') (w : W l Z n0 rm B' Qc h 0 0 0 L0 []) (hp : plainFor y = true) (hy : y.cls ≠ "java/lang/invoke/MethodHandle" ∧ y.cls ≠ "java/lang/invoke/VarHandle") (hpd : parseMethodDescriptor y.desc = some ⟨ps, r⟩) (ho : B'.own = y.cls) (hn : B'.nm = y.name) (hlen : argsL.length = ps.length) (hef : ∀ m, entryFrame m (.ref a :: argsL).toArray B'.ml = mkF m 0 ⟨L0⟩ []) (hsz : Ls.length = B.ml)
    (hf : Nat.ble (rm.frames + 1) R.frames = true) (hlo : Nat.ble ((rest.map fun v => v.category).sum + (B'.ml + 11) + rm.locals) R.locals = true) (hc : Nat.ble (cells + rm.cells) R.cells = true) (hs : Nat.ble (slots + rm.slots) R.slots = true) (hq : pc + 3 = q)
    (K : ∀ v h', Qc v h' → W l Z n0 R B Q h' (cells + rm.cells) (slots + rm.slots) q Ls (v.toList ++ rest)) : W l Z n0 R B Q h cells slots pc Ls St := by
  subst hq hst
  intro p e s m args below meth c T locs C X eT N _ _
  have hc' := Nat.le_of_ble_eq_true hc
  have hs' := Nat.le_of_ble_eq_true hs
  obtain ⟨cq, kq, qa, qb, qc⟩ := isOf C.2.2.2.1 eT E
  obtain ⟨v, vm₁, ⟨T', L', c', s'⟩, -, X', ⟨Lc, hQ, l', y', z'⟩, st⟩ := X.virtualBack C.1 (y := y) (z := y) C.2.2.2.2.1 (mvT C.2.2.2.1 wl) (mvT C.2.2.2.1 wd) (notFace_of_selects (args := #[]) (mvT C.2.2.2.1 wsel)) (mvT C.2.2.2.1 wsel) (mvT C.2.2.2.1 wst) hy
    (backOf (W := (rest.map fun v => v.category).sum) (Q := fun v h L => Qc v h ∧ Fr n0 L) (met_of (ws := []) hp ho hn hef w) C.2.2.2.1 wc wz (Nat.le_of_ble_eq_true hf) (Nat.le_of_ble_eq_true hlo)) qa qc (g := mkF m pc ⟨Ls⟩ (argsL.reverse ++ .ref a :: rest)) rfl (by show Ls.toArray.size = _; rw [C.2.2.1]; simpa using hsz) (Steps.refl _) (argsL := argsL) (rest := rest) (lenOf hpd hlen) rfl (by show 2 * 0 + _ ≤ _; omega) (hb C.2.1 hd) (fun _ _ => ⟨rfl, eT, hc', hs'⟩)
  dsimp only [Pt.U, Pt.locs, Pt.cells, Pt.slots] at X' l' y' z' st hQ
  subst l' y' z'
  obtain ⟨s₂, v₂, L, h1, h2⟩ := K v T'.heap hQ.1 p e s m args below meth c T' _ C X' rfl (Fr.app N hQ.2) hc' hs'
  exact ⟨s₂, v₂, L, st.trans h1, h2⟩
theorem W.callS_I {i : Nat} {y : MethodName} {B' : Bdy} {rm : Room} {P : Int32 → Heap → Prop} {L0 : List Slot} {argsL rest : List Value} {ps : List FieldType} {r : Option FieldType} (hd : decode B.bytes pc = .ok (.invokestatic i, 3)) (wl : (Cond.methodLink B.own i y).before a0 Z = true) (wst : (Cond.static y).before a0 Z = true) (wz : (Cond.initialized y.cls).before a0 Z = true) (wc : (Cond.code y B'.bytes B'.ml B'.ret).before a0 Z = true)
    (hst : argsL.reverse ++ rest = St) (w : W l Z n0 rm B' (RI P) h 0 0 0 L0 []) (hp : plainFor y = true) (hy : y.cls ≠ "java/lang/invoke/MethodHandle" ∧ y.cls ≠ "java/lang/invoke/VarHandle") (hpd : parseMethodDescriptor y.desc = some ⟨ps, r⟩) (ho : B'.own = y.cls) (hn : B'.nm = y.name) (hlen : argsL.length = ps.length) (hef : ∀ m, entryFrame m argsL.toArray B'.ml = mkF m 0 ⟨L0⟩ []) (hsz : Ls.length = B.ml)
    (hf : Nat.ble (rm.frames + 1) R.frames = true) (hlo : Nat.ble ((rest.map fun v => v.category).sum + (B'.ml + 11) + rm.locals) R.locals = true) (hc : Nat.ble (cells + rm.cells) R.cells = true) (hs : Nat.ble (slots + rm.slots) R.slots = true) (hq : pc + 3 = q)
    (K : ∀ (u : Int32) h', P u h' → W l Z n0 R B Q h' (cells + rm.cells) (slots + rm.slots) q Ls (.int u :: rest)) : W l Z n0 R B Q h cells slots pc Ls St :=
  W.callS hd wl wst wz wc hst w hp hy hpd ho hn hlen hef hsz hf hlo hc hs hq (fun v h' hQ => by obtain ⟨u, rfl, hP⟩ := hQ; exact K u h' hP)
theorem W.callS_J {i : Nat} {y : MethodName} {B' : Bdy} {rm : Room} {P : Int64 → Heap → Prop} {L0 : List Slot} {argsL rest : List Value} {ps : List FieldType} {r : Option FieldType} (hd : decode B.bytes pc = .ok (.invokestatic i, 3)) (wl : (Cond.methodLink B.own i y).before a0 Z = true) (wst : (Cond.static y).before a0 Z = true) (wz : (Cond.initialized y.cls).before a0 Z = true) (wc : (Cond.code y B'.bytes B'.ml B'.ret).before a0 Z = true)
    (hst : argsL.reverse ++ rest = St) (w : W l Z n0 rm B' (RJ P) h 0 0 0 L0 []) (hp : plainFor y = true) (hy : y.cls ≠ "java/lang/invoke/MethodHandle" ∧ y.cls ≠ "java/lang/invoke/VarHandle") (hpd : parseMethodDescriptor y.desc = some ⟨ps, r⟩) (ho : B'.own = y.cls) (hn : B'.nm = y.name) (hlen : argsL.length = ps.length) (hef : ∀ m, entryFrame m argsL.toArray B'.ml = mkF m 0 ⟨L0⟩ []) (hsz : Ls.length = B.ml)
    (hf : Nat.ble (rm.frames + 1) R.frames = true) (hlo : Nat.ble ((rest.map fun v => v.category).sum + (B'.ml + 11) + rm.locals) R.locals = true) (hc : Nat.ble (cells + rm.cells) R.cells = true) (hs : Nat.ble (slots + rm.slots) R.slots = true) (hq : pc + 3 = q)
    (K : ∀ (u : Int64) h', P u h' → W l Z n0 R B Q h' (cells + rm.cells) (slots + rm.slots) q Ls (.long u :: rest)) : W l Z n0 R B Q h cells slots pc Ls St :=
  W.callS hd wl wst wz wc hst w hp hy hpd ho hn hlen hef hsz hf hlo hc hs hq (fun v h' hQ => by obtain ⟨u, rfl, hP⟩ := hQ; exact K u h' hP)
theorem W.callS_A {i : Nat} {y : MethodName} {B' : Bdy} {rm : Room} {P : Value → Heap → Prop} {L0 : List Slot} {argsL rest : List Value} {ps : List FieldType} {r : Option FieldType} (hd : decode B.bytes pc = .ok (.invokestatic i, 3)) (wl : (Cond.methodLink B.own i y).before a0 Z = true) (wst : (Cond.static y).before a0 Z = true) (wz : (Cond.initialized y.cls).before a0 Z = true) (wc : (Cond.code y B'.bytes B'.ml B'.ret).before a0 Z = true)
    (hst : argsL.reverse ++ rest = St) (w : W l Z n0 rm B' (RA P) h 0 0 0 L0 []) (hp : plainFor y = true) (hy : y.cls ≠ "java/lang/invoke/MethodHandle" ∧ y.cls ≠ "java/lang/invoke/VarHandle") (hpd : parseMethodDescriptor y.desc = some ⟨ps, r⟩) (ho : B'.own = y.cls) (hn : B'.nm = y.name) (hlen : argsL.length = ps.length) (hef : ∀ m, entryFrame m argsL.toArray B'.ml = mkF m 0 ⟨L0⟩ []) (hsz : Ls.length = B.ml)
    (hf : Nat.ble (rm.frames + 1) R.frames = true) (hlo : Nat.ble ((rest.map fun v => v.category).sum + (B'.ml + 11) + rm.locals) R.locals = true) (hc : Nat.ble (cells + rm.cells) R.cells = true) (hs : Nat.ble (slots + rm.slots) R.slots = true) (hq : pc + 3 = q)
    (K : ∀ (u : Value) h', P u h' → W l Z n0 R B Q h' (cells + rm.cells) (slots + rm.slots) q Ls (u :: rest)) : W l Z n0 R B Q h cells slots pc Ls St :=
  W.callS hd wl wst wz wc hst w hp hy hpd ho hn hlen hef hsz hf hlo hc hs hq (fun v h' hQ => by obtain ⟨u, rfl, hP⟩ := hQ; exact K u h' hP)
theorem W.callS_N {i : Nat} {y : MethodName} {B' : Bdy} {rm : Room} {P : Heap → Prop} {L0 : List Slot} {argsL rest : List Value} {ps : List FieldType} {r : Option FieldType} (hd : decode B.bytes pc = .ok (.invokestatic i, 3)) (wl : (Cond.methodLink B.own i y).before a0 Z = true) (wst : (Cond.static y).before a0 Z = true) (wz : (Cond.initialized y.cls).before a0 Z = true) (wc : (Cond.code y B'.bytes B'.ml B'.ret).before a0 Z = true)
    (hst : argsL.reverse ++ rest = St) (w : W l Z n0 rm B' (RN P) h 0 0 0 L0 []) (hp : plainFor y = true) (hy : y.cls ≠ "java/lang/invoke/MethodHandle" ∧ y.cls ≠ "java/lang/invoke/VarHandle") (hpd : parseMethodDescriptor y.desc = some ⟨ps, r⟩) (ho : B'.own = y.cls) (hn : B'.nm = y.name) (hlen : argsL.length = ps.length) (hef : ∀ m, entryFrame m argsL.toArray B'.ml = mkF m 0 ⟨L0⟩ []) (hsz : Ls.length = B.ml)
    (hf : Nat.ble (rm.frames + 1) R.frames = true) (hlo : Nat.ble ((rest.map fun v => v.category).sum + (B'.ml + 11) + rm.locals) R.locals = true) (hc : Nat.ble (cells + rm.cells) R.cells = true) (hs : Nat.ble (slots + rm.slots) R.slots = true) (hq : pc + 3 = q)
    (K : ∀ h', P h' → W l Z n0 R B Q h' (cells + rm.cells) (slots + rm.slots) q Ls rest) : W l Z n0 R B Q h cells slots pc Ls St :=
  W.callS hd wl wst wz wc hst w hp hy hpd ho hn hlen hef hsz hf hlo hc hs hq (fun v h' hQ => by obtain ⟨rfl, hP⟩ := hQ; exact K h' hP)
theorem W.callI_N {i : Nat} {y : MethodName} {B' : Bdy} {rm : Room} {P : Heap → Prop} {L0 : List Slot} {a : Addr} {argsL rest : List Value} {ps : List FieldType} {r : Option FieldType} (hd : decode B.bytes pc = .ok (.invokespecial i, 3)) (wl : (Cond.methodLink B.own i y).before a0 Z = true) (wst : (Cond.instanceMethod y).before a0 Z = true) (wz : (Cond.initialized y.cls).before a0 Z = true) (wc : (Cond.code y B'.bytes B'.ml B'.ret).before a0 Z = true)
    (hst : argsL.reverse ++ .ref a :: rest = St) (w : W l Z n0 rm B' (RN P) h 0 0 0 L0 []) (hp : plainFor y = true) (hy : y.cls ≠ "java/lang/invoke/MethodHandle" ∧ y.cls ≠ "java/lang/invoke/VarHandle") (hpd : parseMethodDescriptor y.desc = some ⟨ps, r⟩) (ho : B'.own = y.cls) (hn : B'.nm = y.name) (hlen : argsL.length = ps.length) (hef : ∀ m, entryFrame m (.ref a :: argsL).toArray B'.ml = mkF m 0 ⟨L0⟩ []) (hsz : Ls.length = B.ml)
    (hf : Nat.ble (rm.frames + 1) R.frames = true) (hlo : Nat.ble ((rest.map fun v => v.category).sum + (B'.ml + 11) + rm.locals) R.locals = true) (hc : Nat.ble (cells + rm.cells) R.cells = true) (hs : Nat.ble (slots + rm.slots) R.slots = true) (hret : B'.ret = none) (hin : y.name = "<init>") (hq : pc + 3 = q)
    (K : ∀ h', P h' → W l Z n0 R B Q h' (cells + rm.cells) (slots + rm.slots) q Ls rest) : W l Z n0 R B Q h cells slots pc Ls St :=
  W.callI hd wl wst wz wc hst w hp hy hpd ho hn hlen hef hsz hf hlo hc hs hret hin hq (fun v h' hQ => by obtain ⟨rfl, hP⟩ := hQ; exact K h' hP)
theorem W.callV_I {i : Nat} {y : MethodName} {C' : String} {B' : Bdy} {rm : Room} {P : Int32 → Heap → Prop} {L0 : List Slot} {a : Addr} {argsL rest : List Value} {ps : List FieldType} {r : Option FieldType} (hd : decode B.bytes pc = .ok (.invokevirtual i, 3)) (wl : (Cond.methodLink B.own i y).before a0 Z = true) (wd : (Cond.declares y).before a0 Z = true) (wsel : (Cond.selects C' y y).before a0 Z = true) (wst : (Cond.instanceMethod y).before a0 Z = true) (wz : (Cond.initialized y.cls).before a0 Z = true) (wc : (Cond.code y B'.bytes B'.ml B'.ret).before a0 Z = true)
    (hst : argsL.reverse ++ .ref a :: rest = St) (E : Exa Z h a C') (w : W l Z n0 rm B' (RI P) h 0 0 0 L0 []) (hp : plainFor y = true) (hy : y.cls ≠ "java/lang/invoke/MethodHandle" ∧ y.cls ≠ "java/lang/invoke/VarHandle") (hpd : parseMethodDescriptor y.desc = some ⟨ps, r⟩) (ho : B'.own = y.cls) (hn : B'.nm = y.name) (hlen : argsL.length = ps.length) (hef : ∀ m, entryFrame m (.ref a :: argsL).toArray B'.ml = mkF m 0 ⟨L0⟩ []) (hsz : Ls.length = B.ml)
    (hf : Nat.ble (rm.frames + 1) R.frames = true) (hlo : Nat.ble ((rest.map fun v => v.category).sum + (B'.ml + 11) + rm.locals) R.locals = true) (hc : Nat.ble (cells + rm.cells) R.cells = true) (hs : Nat.ble (slots + rm.slots) R.slots = true) (hq : pc + 3 = q)
    (K : ∀ (u : Int32) h', P u h' → W l Z n0 R B Q h' (cells + rm.cells) (slots + rm.slots) q Ls (.int u :: rest)) : W l Z n0 R B Q h cells slots pc Ls St :=
  W.callV hd wl wd wsel wst wz wc hst E w hp hy hpd ho hn hlen hef hsz hf hlo hc hs hq (fun v h' hQ => by obtain ⟨u, rfl, hP⟩ := hQ; exact K u h' hP)
theorem W.callV_J {i : Nat} {y : MethodName} {C' : String} {B' : Bdy} {rm : Room} {P : Int64 → Heap → Prop} {L0 : List Slot} {a : Addr} {argsL rest : List Value} {ps : List FieldType} {r : Option FieldType} (hd : decode B.bytes pc = .ok (.invokevirtual i, 3)) (wl : (Cond.methodLink B.own i y).before a0 Z = true) (wd : (Cond.declares y).before a0 Z = true) (wsel : (Cond.selects C' y y).before a0 Z = true) (wst : (Cond.instanceMethod y).before a0 Z = true) (wz : (Cond.initialized y.cls).before a0 Z = true) (wc : (Cond.code y B'.bytes B'.ml B'.ret).before a0 Z = true)
    (hst : argsL.reverse ++ .ref a :: rest = St) (E : Exa Z h a C') (w : W l Z n0 rm B' (RJ P) h 0 0 0 L0 []) (hp : plainFor y = true) (hy : y.cls ≠ "java/lang/invoke/MethodHandle" ∧ y.cls ≠ "java/lang/invoke/VarHandle") (hpd : parseMethodDescriptor y.desc = some ⟨ps, r⟩) (ho : B'.own = y.cls) (hn : B'.nm = y.name) (hlen : argsL.length = ps.length) (hef : ∀ m, entryFrame m (.ref a :: argsL).toArray B'.ml = mkF m 0 ⟨L0⟩ []) (hsz : Ls.length = B.ml)
    (hf : Nat.ble (rm.frames + 1) R.frames = true) (hlo : Nat.ble ((rest.map fun v => v.category).sum + (B'.ml + 11) + rm.locals) R.locals = true) (hc : Nat.ble (cells + rm.cells) R.cells = true) (hs : Nat.ble (slots + rm.slots) R.slots = true) (hq : pc + 3 = q)
    (K : ∀ (u : Int64) h', P u h' → W l Z n0 R B Q h' (cells + rm.cells) (slots + rm.slots) q Ls (.long u :: rest)) : W l Z n0 R B Q h cells slots pc Ls St :=
  W.callV hd wl wd wsel wst wz wc hst E w hp hy hpd ho hn hlen hef hsz hf hlo hc hs hq (fun v h' hQ => by obtain ⟨u, rfl, hP⟩ := hQ; exact K u h' hP)
theorem W.callV_A {i : Nat} {y : MethodName} {C' : String} {B' : Bdy} {rm : Room} {P : Value → Heap → Prop} {L0 : List Slot} {a : Addr} {argsL rest : List Value} {ps : List FieldType} {r : Option FieldType} (hd : decode B.bytes pc = .ok (.invokevirtual i, 3)) (wl : (Cond.methodLink B.own i y).before a0 Z = true) (wd : (Cond.declares y).before a0 Z = true) (wsel : (Cond.selects C' y y).before a0 Z = true) (wst : (Cond.instanceMethod y).before a0 Z = true) (wz : (Cond.initialized y.cls).before a0 Z = true) (wc : (Cond.code y B'.bytes B'.ml B'.ret).before a0 Z = true)
    (hst : argsL.reverse ++ .ref a :: rest = St) (E : Exa Z h a C') (w : W l Z n0 rm B' (RA P) h 0 0 0 L0 []) (hp : plainFor y = true) (hy : y.cls ≠ "java/lang/invoke/MethodHandle" ∧ y.cls ≠ "java/lang/invoke/VarHandle") (hpd : parseMethodDescriptor y.desc = some ⟨ps, r⟩) (ho : B'.own = y.cls) (hn : B'.nm = y.name) (hlen : argsL.length = ps.length) (hef : ∀ m, entryFrame m (.ref a :: argsL).toArray B'.ml = mkF m 0 ⟨L0⟩ []) (hsz : Ls.length = B.ml)
    (hf : Nat.ble (rm.frames + 1) R.frames = true) (hlo : Nat.ble ((rest.map fun v => v.category).sum + (B'.ml + 11) + rm.locals) R.locals = true) (hc : Nat.ble (cells + rm.cells) R.cells = true) (hs : Nat.ble (slots + rm.slots) R.slots = true) (hq : pc + 3 = q)
    (K : ∀ (u : Value) h', P u h' → W l Z n0 R B Q h' (cells + rm.cells) (slots + rm.slots) q Ls (u :: rest)) : W l Z n0 R B Q h cells slots pc Ls St :=
  W.callV hd wl wd wsel wst wz wc hst E w hp hy hpd ho hn hlen hef hsz hf hlo hc hs hq (fun v h' hQ => by obtain ⟨u, rfl, hP⟩ := hQ; exact K u h' hP)
theorem W.callV_N {i : Nat} {y : MethodName} {C' : String} {B' : Bdy} {rm : Room} {P : Heap → Prop} {L0 : List Slot} {a : Addr} {argsL rest : List Value} {ps : List FieldType} {r : Option FieldType} (hd : decode B.bytes pc = .ok (.invokevirtual i, 3)) (wl : (Cond.methodLink B.own i y).before a0 Z = true) (wd : (Cond.declares y).before a0 Z = true) (wsel : (Cond.selects C' y y).before a0 Z = true) (wst : (Cond.instanceMethod y).before a0 Z = true) (wz : (Cond.initialized y.cls).before a0 Z = true) (wc : (Cond.code y B'.bytes B'.ml B'.ret).before a0 Z = true)
    (hst : argsL.reverse ++ .ref a :: rest = St) (E : Exa Z h a C') (w : W l Z n0 rm B' (RN P) h 0 0 0 L0 []) (hp : plainFor y = true) (hy : y.cls ≠ "java/lang/invoke/MethodHandle" ∧ y.cls ≠ "java/lang/invoke/VarHandle") (hpd : parseMethodDescriptor y.desc = some ⟨ps, r⟩) (ho : B'.own = y.cls) (hn : B'.nm = y.name) (hlen : argsL.length = ps.length) (hef : ∀ m, entryFrame m (.ref a :: argsL).toArray B'.ml = mkF m 0 ⟨L0⟩ []) (hsz : Ls.length = B.ml)
    (hf : Nat.ble (rm.frames + 1) R.frames = true) (hlo : Nat.ble ((rest.map fun v => v.category).sum + (B'.ml + 11) + rm.locals) R.locals = true) (hc : Nat.ble (cells + rm.cells) R.cells = true) (hs : Nat.ble (slots + rm.slots) R.slots = true) (hq : pc + 3 = q)
    (K : ∀ h', P h' → W l Z n0 R B Q h' (cells + rm.cells) (slots + rm.slots) q Ls rest) : W l Z n0 R B Q h cells slots pc Ls St :=
  W.callV hd wl wd wsel wst wz wc hst E w hp hy hpd ho hn hlen hef hsz hf hlo hc hs hq (fun v h' hQ => by obtain ⟨rfl, hP⟩ := hQ; exact K h' hP)
theorem W.initO {i : Nat} {a : Addr} (hd : decode B.bytes pc = .ok (.invokespecial i, 3)) (w1 : (Cond.methodLink B.own i Lib.objectInit).before a0 Z = true) (w2 : (Cond.instanceMethod Lib.objectInit).before a0 Z = true) (w3 : (Cond.code Lib.objectInit ⟨#[0xb1]⟩ 1 none).before a0 Z = true) (hsz : Ls.length = B.ml) (hf : Nat.ble 1 R.frames = true) (hlo : Nat.ble ((St.map fun v => v.category).sum + 12) R.locals = true) (hq : pc + 3 = q)
    (K : W l Z n0 R B Q h cells slots q Ls St) : W l Z n0 R B Q h cells slots pc Ls (.ref a :: St) := by
  subst hq
  exact W.warm K (fun p e s m args below meth c T locs C X eT => RoadKit.initO X C.1 C.2.2.2.1 C.2.2.2.2.1 w1 w2 w3 eT (g := mkF m pc ⟨Ls⟩ (.ref a :: St)) rfl (by show Ls.toArray.size = _; rw [C.2.2.1]; simpa using hsz) rfl (hb C.2.1 hd) (Nat.le_of_ble_eq_true hf) (W := (St.map fun v => v.category).sum) (by show 2 * 0 + _ ≤ _; omega) (Nat.le_of_ble_eq_true hlo))
end Steps
/-! ### no instance: a class two steps under the root, and another class -/
theorem noUp {Z : State} {a0 : Array Value} {C S O K : String} {n : Nat} (w1 : (Cond.superclass C S).before a0 Z = true) (w2 : (Cond.superclass S O).before a0 Z = true) (w3 : (Cond.noSuperclass O).before a0 Z = true) (w4 : (Cond.instantiable K n).before a0 Z = true) (h1 : C ≠ K) (h2 : S ≠ K) (h3 : O ≠ K) : ∃ c t, Z.vm.findClass C = some c ∧ Z.vm.findClass K = some t ∧ Z.vm.assignable c t = false := by
  obtain ⟨t, kt, g1, g2, g3, g4, -⟩ := Cond.instantiable_spec w4
  obtain ⟨c, f1⟩ := found_sup w1
  obtain ⟨s, k1, k2, f2, f3, f4, f5, f6, -⟩ := Cond.superclass_spec f1 w1
  obtain ⟨o, k3, k4, f7, f8, f9, f10, -⟩ := Cond.superclass_spec f2 w2
  obtain ⟨o', k5, e1, e2, e3, -⟩ := Cond.noSuperclass_spec w3
  cases f7.symm.trans e1
  cases f4.symm.trans f8
  have n1 := ids_ne f1 g1 h1
  have n2 := ids_ne f2 g1 h2
  have n3 := ids_ne e1 g1 h3
  have q : ∀ fuel, Z.vm.isSubclassAux fuel c t = false := by
    intro fuel
    rcases fuel with _ | _ | _ | fuel <;> simp [Vm.isSubclassAux, n1, n2, n3, f3, f5, f4, f10, e2, e3]
  have g5 : kt.isInterface = false := by simp only [Bool.or_eq_false_iff] at g4; exact g4.1
  refine ⟨c, t, f1, g1, ?_⟩
  show Z.vm.assignableAux (255 + 1) c t = false
  simp [Vm.assignableAux, n1, f3, g2, f6, g3, g5, Vm.isSubclass, q]
/-! ### words of a case -/
theorem own_eqi {args : Array Value} {s : State} {t : Term} {z : Int32} (h : (Cond.eq t (.int z)).value args s none s [] = some true) : t.eval args s none [] s = some (.int z) := by
  obtain ⟨x, y, hx, hy, k1, k2⟩ := cmp_v (Or.inl h)
  cases (Term.int_eval (args := args) (first := s) (o := none) (idx := []) (s := s) z).symm.trans hy
  obtain ⟨z', rfl⟩ := k2
  have := gotT (Cond.eq_ints hx hy) h
  subst this
  exact hx
/-! ### numbers -/
theorem nat32 {k : Nat} (h : k < 2147483640) : (k.toInt32).toInt = k ∧ k.toInt32.toNatClampNeg = k ∧ ¬ k.toInt32 < 0 ∧ k.toInt32 + 1 = (k + 1).toInt32 := by
  have e : (k.toInt32).toInt = k := Int32.toInt_ofNat_of_lt (by omega)
  refine ⟨e, ?_, ?_, ?_⟩
  · show (k.toInt32).toInt.toNat = k
    omega
  · rw [Int32.lt_iff_toInt_lt, e]; simp
  · show Int32.ofNat k + 1 = Int32.ofNat (k + 1)
    rw [Int32.ofNat_add]; rfl
theorem ltb {a b : Nat} (h : Nat.blt a b = true) : a < b := Nat.le_of_ble_eq_true h
theorem leb {a b : Nat} (h : Nat.ble a b = true) : a ≤ b := Nat.le_of_ble_eq_true h
theorem mask31 (x : Int32) : (x &&& 2147483647).toInt = x.toInt % 2147483648 := by
  have h : ((x &&& 2147483647 : Int32)).toInt = (x.toBitVec &&& 2147483647#32).toInt := rfl
  rw [h, BitVec.toInt_eq_toNat_bmod, BitVec.toNat_and]
  have e1 : (x.toBitVec.toNat &&& (2147483647#32).toNat) = x.toBitVec.toNat % 2147483648 := by
    show x.toBitVec.toNat &&& (2 ^ 31 - 1) = x.toBitVec.toNat % 2 ^ 31
    exact Nat.and_two_pow_sub_one_eq_mod _ 31
  rw [e1]
  have e2 : x.toInt = (x.toBitVec.toNat : Int).bmod (2 ^ 32) := BitVec.toInt_eq_toNat_bmod _
  rw [e2]
  have e3 := Int.bmod_emod (x := (x.toBitVec.toNat : Int)) (m := 2 ^ 32)
  rw [Int.bmod_eq_of_le (by omega) (by omega)]
  omega
theorem rem31 (x k : Int32) (hk : 0 < k.toInt) : 0 ≤ ((x &&& 2147483647) % k).toInt ∧ ((x &&& 2147483647) % k).toInt < k.toInt := by
  have h := mask31 x
  rw [Int32.toInt_mod, Int.tmod_eq_emod_of_nonneg (by omega)]
  exact ⟨Int.emod_nonneg _ (by omega), Int.emod_lt_of_pos _ hk⟩
theorem lt32 {a b : Int32} : a < b ↔ a.toInt < b.toInt := Int32.lt_iff_toInt_lt
theorem eq32 {a b : Int32} : a = b ↔ a.toInt = b.toInt := Int32.toInt_inj.symm
theorem add32 {x y : Int32} (h1 : -2147483648 ≤ x.toInt + y.toInt) (h2 : x.toInt + y.toInt < 2147483648) : (x + y).toInt = x.toInt + y.toInt := by
  rw [Int32.toInt_add, Int.bmod_eq_of_le (by omega) (by omega)]
theorem sub32 {x y : Int32} (h1 : -2147483648 ≤ x.toInt - y.toInt) (h2 : x.toInt - y.toInt < 2147483648) : (x - y).toInt = x.toInt - y.toInt := by
  rw [Int32.toInt_sub, Int.bmod_eq_of_le (by omega) (by omega)]
theorem div32 {x y : Int32} (hx : 0 ≤ x.toInt) (hy : 0 < y.toInt) : (x / y).toInt = x.toInt / y.toInt := by
  rw [Int32.toInt_div, Int.tdiv_eq_ediv_of_nonneg hx, Int.bmod_eq_of_le]
  · have := Int.ediv_nonneg hx (Int.le_of_lt hy); omega
  · have h1 := Int.ediv_le_self y.toInt hx
    have h2 := x.toInt_lt
    omega
theorem maskk (x m : Int32) (k : Nat) (hk : k < 32) (hm : m.toBitVec.toNat = 2 ^ k - 1) : (x &&& m).toInt = x.toInt % 2 ^ k := by
  have h : (x &&& m).toInt = (x.toBitVec &&& m.toBitVec).toInt := rfl
  have hle : 2 ^ k ≤ 2 ^ 31 := Nat.pow_le_pow_right (by decide) (by omega)
  rw [h, BitVec.toInt_eq_toNat_bmod, BitVec.toNat_and, hm, Nat.and_two_pow_sub_one_eq_mod]
  have e2 : x.toInt = (x.toBitVec.toNat : Int).bmod (2 ^ 32) := BitVec.toInt_eq_toNat_bmod _
  have hlt := Nat.mod_lt x.toBitVec.toNat (Nat.two_pow_pos k)
  rw [e2, Int.bmod_eq_of_le (by omega) (by omega)]
  have hd : ((2 ^ k : Nat) : Int) ∣ ((2 ^ 32 : Nat) : Int) := Int.natCast_dvd_natCast.mpr (Nat.pow_dvd_pow 2 (by omega))
  have e3 : ((x.toBitVec.toNat : Int).bmod (2 ^ 32)) % ((2 ^ k : Nat) : Int) = (x.toBitVec.toNat : Int) % ((2 ^ k : Nat) : Int) := by
    have f1 := Int.emod_emod_of_dvd ((x.toBitVec.toNat : Int).bmod (2 ^ 32)) hd
    have f2 := Int.emod_emod_of_dvd (x.toBitVec.toNat : Int) hd
    rw [← f1, ← f2, Int.bmod_emod]
  have e4 : ((2 ^ k : Nat) : Int) = 2 ^ k := by simp
  rw [← e4, e3]; simp
end Jvm.OwnW
namespace Jvm.Pilot.@@N@@
open Jvm Jvm.ClassFile Sem Op Lib Jvm.Free Jvm.Stand Jvm.LawKit Jvm.RoadKit Bundle Jvm.OwnW Jvm.Pilot.@@N@@.Jvm.D
abbrev B0 : Bdy := (x.cls, x.name, code, maxLocals, ret)
theorem own_pf0 : plainFor x = true := by first | exact plainFor_of_name (by first | (simp [plainName, overriddenIn, x]; done) | decide +kernel) | decide +kernel
abbrev B1 : Bdy := ("com/example/lagline/lagline/exam/ConflictGraph", "members", prog_5_method_8_code, 7, (some (.array .int)))
theorem d1_0 : decode prog_5_method_8_code 0 = .ok (.iconst 0, 1) := by decide +kernel
theorem d1_1 : decode prog_5_method_8_code 1 = .ok (.istore_n 1, 1) := by decide +kernel
theorem d1_2 : decode prog_5_method_8_code 2 = .ok (.aload_n 0, 1) := by decide +kernel
theorem d1_3 : decode prog_5_method_8_code 3 = .ok (.astore_n 2, 1) := by decide +kernel
theorem d1_4 : decode prog_5_method_8_code 4 = .ok (.aload_n 2, 1) := by decide +kernel
theorem d1_5 : decode prog_5_method_8_code 5 = .ok (.arraylength, 1) := by decide +kernel
theorem d1_6 : decode prog_5_method_8_code 6 = .ok (.istore_n 3, 1) := by decide +kernel
theorem d1_7 : decode prog_5_method_8_code 7 = .ok (.iconst 0, 1) := by decide +kernel
theorem d1_8 : decode prog_5_method_8_code 8 = .ok (.istore 4, 2) := by decide +kernel
theorem d1_10 : decode prog_5_method_8_code 10 = .ok (.iload 4, 2) := by decide +kernel
theorem d1_12 : decode prog_5_method_8_code 12 = .ok (.iload_n 3, 1) := by decide +kernel
theorem d1_13 : decode prog_5_method_8_code 13 = .ok (.if_icmp .ge 23, 3) := by decide +kernel
theorem d1_16 : decode prog_5_method_8_code 16 = .ok (.aload_n 2, 1) := by decide +kernel
theorem d1_17 : decode prog_5_method_8_code 17 = .ok (.iload 4, 2) := by decide +kernel
theorem d1_19 : decode prog_5_method_8_code 19 = .ok (.laload, 1) := by decide +kernel
theorem d1_20 : decode prog_5_method_8_code 20 = .ok (.lstore 5, 2) := by decide +kernel
theorem d1_22 : decode prog_5_method_8_code 22 = .ok (.iload_n 1, 1) := by decide +kernel
theorem d1_23 : decode prog_5_method_8_code 23 = .ok (.lload 5, 2) := by decide +kernel
theorem d1_25 : decode prog_5_method_8_code 25 = .ok (.invokestatic 52, 3) := by decide +kernel
theorem d1_28 : decode prog_5_method_8_code 28 = .ok (.iadd, 1) := by decide +kernel
theorem d1_29 : decode prog_5_method_8_code 29 = .ok (.istore_n 1, 1) := by decide +kernel
theorem d1_30 : decode prog_5_method_8_code 30 = .ok (.iinc 4 1, 3) := by decide +kernel
theorem d1_33 : decode prog_5_method_8_code 33 = .ok (.goto (-23), 3) := by decide +kernel
theorem d1_36 : decode prog_5_method_8_code 36 = .ok (.iload_n 1, 1) := by decide +kernel
theorem d1_37 : decode prog_5_method_8_code 37 = .ok (.newarray .int, 2) := by decide +kernel
theorem d1_39 : decode prog_5_method_8_code 39 = .ok (.astore_n 2, 1) := by decide +kernel
theorem d1_40 : decode prog_5_method_8_code 40 = .ok (.iconst 0, 1) := by decide +kernel
theorem d1_41 : decode prog_5_method_8_code 41 = .ok (.istore_n 3, 1) := by decide +kernel
theorem d1_42 : decode prog_5_method_8_code 42 = .ok (.iconst 0, 1) := by decide +kernel
theorem d1_43 : decode prog_5_method_8_code 43 = .ok (.istore 4, 2) := by decide +kernel
theorem d1_45 : decode prog_5_method_8_code 45 = .ok (.iload 4, 2) := by decide +kernel
theorem d1_47 : decode prog_5_method_8_code 47 = .ok (.aload_n 0, 1) := by decide +kernel
theorem d1_48 : decode prog_5_method_8_code 48 = .ok (.arraylength, 1) := by decide +kernel
theorem d1_49 : decode prog_5_method_8_code 49 = .ok (.if_icmp .ge 51, 3) := by decide +kernel
theorem d1_52 : decode prog_5_method_8_code 52 = .ok (.aload_n 0, 1) := by decide +kernel
theorem d1_53 : decode prog_5_method_8_code 53 = .ok (.iload 4, 2) := by decide +kernel
theorem d1_55 : decode prog_5_method_8_code 55 = .ok (.laload, 1) := by decide +kernel
theorem d1_56 : decode prog_5_method_8_code 56 = .ok (.lstore 5, 2) := by decide +kernel
theorem d1_58 : decode prog_5_method_8_code 58 = .ok (.lload 5, 2) := by decide +kernel
theorem d1_60 : decode prog_5_method_8_code 60 = .ok (.lconst 0, 1) := by decide +kernel
theorem d1_61 : decode prog_5_method_8_code 61 = .ok (.lcmp, 1) := by decide +kernel
theorem d1_62 : decode prog_5_method_8_code 62 = .ok (.ifCond .eq 32, 3) := by decide +kernel
theorem d1_65 : decode prog_5_method_8_code 65 = .ok (.aload_n 2, 1) := by decide +kernel
theorem d1_66 : decode prog_5_method_8_code 66 = .ok (.iload_n 3, 1) := by decide +kernel
theorem d1_67 : decode prog_5_method_8_code 67 = .ok (.iinc 3 1, 3) := by decide +kernel
theorem d1_70 : decode prog_5_method_8_code 70 = .ok (.iload 4, 2) := by decide +kernel
theorem d1_72 : decode prog_5_method_8_code 72 = .ok (.bipush 64, 2) := by decide +kernel
theorem d1_74 : decode prog_5_method_8_code 74 = .ok (.imul, 1) := by decide +kernel
theorem d1_75 : decode prog_5_method_8_code 75 = .ok (.lload 5, 2) := by decide +kernel
theorem d1_77 : decode prog_5_method_8_code 77 = .ok (.invokestatic 56, 3) := by decide +kernel
theorem d1_80 : decode prog_5_method_8_code 80 = .ok (.iadd, 1) := by decide +kernel
theorem d1_81 : decode prog_5_method_8_code 81 = .ok (.iastore, 1) := by decide +kernel
theorem d1_82 : decode prog_5_method_8_code 82 = .ok (.lload 5, 2) := by decide +kernel
theorem d1_84 : decode prog_5_method_8_code 84 = .ok (.lload 5, 2) := by decide +kernel
theorem d1_86 : decode prog_5_method_8_code 86 = .ok (.lconst 1, 1) := by decide +kernel
theorem d1_87 : decode prog_5_method_8_code 87 = .ok (.lsub, 1) := by decide +kernel
theorem d1_88 : decode prog_5_method_8_code 88 = .ok (.land, 1) := by decide +kernel
theorem d1_89 : decode prog_5_method_8_code 89 = .ok (.lstore 5, 2) := by decide +kernel
theorem d1_91 : decode prog_5_method_8_code 91 = .ok (.goto (-33), 3) := by decide +kernel
theorem d1_94 : decode prog_5_method_8_code 94 = .ok (.iinc 4 1, 3) := by decide +kernel
theorem d1_97 : decode prog_5_method_8_code 97 = .ok (.goto (-52), 3) := by decide +kernel
theorem d1_100 : decode prog_5_method_8_code 100 = .ok (.aload_n 2, 1) := by decide +kernel
theorem d1_101 : decode prog_5_method_8_code 101 = .ok (.areturn, 1) := by decide +kernel
theorem own_pf1 : plainFor (⟨"com/example/lagline/lagline/exam/ConflictGraph", "members", "([J)[I"⟩ : MethodName) = true := by first | exact plainFor_of_name (by first | (simp [plainName, overriddenIn, x]; done) | decide +kernel) | decide +kernel
theorem own_pd1 : parseMethodDescriptor "([J)[I" = some ⟨[(.array .long)], (some (.array .int))⟩ := by decide +kernel
abbrev B2 : Bdy := ("com/example/lagline/lagline/exam/ConflictGraphMembersPinLaw", "at", method_5_code, 4, (some .boolean))
theorem d2_0 : decode method_5_code 0 = .ok (.iload_n 3, 1) := by decide +kernel
theorem d2_1 : decode method_5_code 1 = .ok (.iload_n 2, 1) := by decide +kernel
theorem d2_2 : decode method_5_code 2 = .ok (.if_icmp .ge 12, 3) := by decide +kernel
theorem d2_5 : decode method_5_code 5 = .ok (.aload_n 0, 1) := by decide +kernel
theorem d2_6 : decode method_5_code 6 = .ok (.iload_n 3, 1) := by decide +kernel
theorem d2_7 : decode method_5_code 7 = .ok (.iaload, 1) := by decide +kernel
theorem d2_8 : decode method_5_code 8 = .ok (.aload_n 1, 1) := by decide +kernel
theorem d2_9 : decode method_5_code 9 = .ok (.iload_n 3, 1) := by decide +kernel
theorem d2_10 : decode method_5_code 10 = .ok (.iaload, 1) := by decide +kernel
theorem d2_11 : decode method_5_code 11 = .ok (.if_icmp .ne 7, 3) := by decide +kernel
theorem d2_14 : decode method_5_code 14 = .ok (.iconst 1, 1) := by decide +kernel
theorem d2_15 : decode method_5_code 15 = .ok (.goto 4, 3) := by decide +kernel
theorem d2_19 : decode method_5_code 19 = .ok (.ireturn, 1) := by decide +kernel
theorem own_pf2 : plainFor (⟨"com/example/lagline/lagline/exam/ConflictGraphMembersPinLaw", "at", "([I[III)Z"⟩ : MethodName) = true := by first | exact plainFor_of_name (by first | (simp [plainName, overriddenIn, x]; done) | decide +kernel) | decide +kernel
theorem own_pd2 : parseMethodDescriptor "([I[III)Z" = some ⟨[(.array .int), (.array .int), .int, .int], (some .boolean)⟩ := by decide +kernel
abbrev B3 : Bdy := ("com/example/lagline/lagline/exam/ConflictGraphMembersPinLaw", "word", method_3_code, 6, (some .long))
theorem d3_0 : decode method_3_code 0 = .ok (.lconst 0, 1) := by decide +kernel
theorem d3_1 : decode method_3_code 1 = .ok (.lstore 4, 2) := by decide +kernel
theorem d3_3 : decode method_3_code 3 = .ok (.iload_n 0, 1) := by decide +kernel
theorem d3_4 : decode method_3_code 4 = .ok (.ifCond .eq 11, 3) := by decide +kernel
theorem d3_7 : decode method_3_code 7 = .ok (.lload 4, 2) := by decide +kernel
theorem d3_9 : decode method_3_code 9 = .ok (.lconst 1, 1) := by decide +kernel
theorem d3_10 : decode method_3_code 10 = .ok (.iload_n 1, 1) := by decide +kernel
theorem d3_11 : decode method_3_code 11 = .ok (.lshl, 1) := by decide +kernel
theorem d3_12 : decode method_3_code 12 = .ok (.lor, 1) := by decide +kernel
theorem d3_13 : decode method_3_code 13 = .ok (.lstore 4, 2) := by decide +kernel
theorem d3_15 : decode method_3_code 15 = .ok (.iload_n 2, 1) := by decide +kernel
theorem d3_16 : decode method_3_code 16 = .ok (.ifCond .eq 11, 3) := by decide +kernel
theorem d3_19 : decode method_3_code 19 = .ok (.lload 4, 2) := by decide +kernel
theorem d3_21 : decode method_3_code 21 = .ok (.lconst 1, 1) := by decide +kernel
theorem d3_22 : decode method_3_code 22 = .ok (.iload_n 3, 1) := by decide +kernel
theorem d3_23 : decode method_3_code 23 = .ok (.lshl, 1) := by decide +kernel
theorem d3_24 : decode method_3_code 24 = .ok (.lor, 1) := by decide +kernel
theorem d3_25 : decode method_3_code 25 = .ok (.lstore 4, 2) := by decide +kernel
theorem d3_27 : decode method_3_code 27 = .ok (.lload 4, 2) := by decide +kernel
theorem d3_29 : decode method_3_code 29 = .ok (.lreturn, 1) := by decide +kernel
theorem own_pf3 : plainFor (⟨"com/example/lagline/lagline/exam/ConflictGraphMembersPinLaw", "word", "(ZIZI)J"⟩ : MethodName) = true := by first | exact plainFor_of_name (by first | (simp [plainName, overriddenIn, x]; done) | decide +kernel) | decide +kernel
theorem own_pd3 : parseMethodDescriptor "(ZIZI)J" = some ⟨[.boolean, .int, .boolean, .int], (some .long)⟩ := by decide +kernel
abbrev B4 : Bdy := ("com/example/lagline/lagline/exam/ConflictGraphMembersPinLaw", "expect", method_4_code, 7, (some .int))
theorem d4_0 : decode method_4_code 0 = .ok (.iload_n 3, 1) := by decide +kernel
theorem d4_1 : decode method_4_code 1 = .ok (.ifCond .eq 56, 3) := by decide +kernel
theorem d4_4 : decode method_4_code 4 = .ok (.iload 5, 2) := by decide +kernel
theorem d4_6 : decode method_4_code 6 = .ok (.ifCond .eq 51, 3) := by decide +kernel
theorem d4_9 : decode method_4_code 9 = .ok (.iload 4, 2) := by decide +kernel
theorem d4_11 : decode method_4_code 11 = .ok (.iload 6, 2) := by decide +kernel
theorem d4_13 : decode method_4_code 13 = .ok (.if_icmp .ne 14, 3) := by decide +kernel
theorem d4_16 : decode method_4_code 16 = .ok (.aload_n 0, 1) := by decide +kernel
theorem d4_17 : decode method_4_code 17 = .ok (.iload_n 1, 1) := by decide +kernel
theorem d4_18 : decode method_4_code 18 = .ok (.iload_n 2, 1) := by decide +kernel
theorem d4_19 : decode method_4_code 19 = .ok (.iload 4, 2) := by decide +kernel
theorem d4_21 : decode method_4_code 21 = .ok (.iadd, 1) := by decide +kernel
theorem d4_22 : decode method_4_code 22 = .ok (.iastore, 1) := by decide +kernel
theorem d4_23 : decode method_4_code 23 = .ok (.iload_n 1, 1) := by decide +kernel
theorem d4_24 : decode method_4_code 24 = .ok (.iconst 1, 1) := by decide +kernel
theorem d4_25 : decode method_4_code 25 = .ok (.iadd, 1) := by decide +kernel
theorem d4_26 : decode method_4_code 26 = .ok (.ireturn, 1) := by decide +kernel
theorem d4_27 : decode method_4_code 27 = .ok (.aload_n 0, 1) := by decide +kernel
theorem d4_28 : decode method_4_code 28 = .ok (.iload_n 1, 1) := by decide +kernel
theorem d4_29 : decode method_4_code 29 = .ok (.iload_n 2, 1) := by decide +kernel
theorem d4_30 : decode method_4_code 30 = .ok (.iload 4, 2) := by decide +kernel
theorem d4_32 : decode method_4_code 32 = .ok (.iload 6, 2) := by decide +kernel
theorem d4_34 : decode method_4_code 34 = .ok (.invokestatic 27, 3) := by decide +kernel
theorem d4_37 : decode method_4_code 37 = .ok (.iadd, 1) := by decide +kernel
theorem d4_38 : decode method_4_code 38 = .ok (.iastore, 1) := by decide +kernel
theorem d4_39 : decode method_4_code 39 = .ok (.aload_n 0, 1) := by decide +kernel
theorem d4_40 : decode method_4_code 40 = .ok (.iload_n 1, 1) := by decide +kernel
theorem d4_41 : decode method_4_code 41 = .ok (.iconst 1, 1) := by decide +kernel
theorem d4_42 : decode method_4_code 42 = .ok (.iadd, 1) := by decide +kernel
theorem d4_43 : decode method_4_code 43 = .ok (.iload_n 2, 1) := by decide +kernel
theorem d4_44 : decode method_4_code 44 = .ok (.iload 4, 2) := by decide +kernel
theorem d4_46 : decode method_4_code 46 = .ok (.iload 6, 2) := by decide +kernel
theorem d4_48 : decode method_4_code 48 = .ok (.invokestatic 33, 3) := by decide +kernel
theorem d4_51 : decode method_4_code 51 = .ok (.iadd, 1) := by decide +kernel
theorem d4_52 : decode method_4_code 52 = .ok (.iastore, 1) := by decide +kernel
theorem d4_53 : decode method_4_code 53 = .ok (.iload_n 1, 1) := by decide +kernel
theorem d4_54 : decode method_4_code 54 = .ok (.iconst 2, 1) := by decide +kernel
theorem d4_55 : decode method_4_code 55 = .ok (.iadd, 1) := by decide +kernel
theorem d4_56 : decode method_4_code 56 = .ok (.ireturn, 1) := by decide +kernel
theorem d4_57 : decode method_4_code 57 = .ok (.iload_n 3, 1) := by decide +kernel
theorem d4_58 : decode method_4_code 58 = .ok (.ifCond .eq 14, 3) := by decide +kernel
theorem d4_61 : decode method_4_code 61 = .ok (.aload_n 0, 1) := by decide +kernel
theorem d4_62 : decode method_4_code 62 = .ok (.iload_n 1, 1) := by decide +kernel
theorem d4_63 : decode method_4_code 63 = .ok (.iload_n 2, 1) := by decide +kernel
theorem d4_64 : decode method_4_code 64 = .ok (.iload 4, 2) := by decide +kernel
theorem d4_66 : decode method_4_code 66 = .ok (.iadd, 1) := by decide +kernel
theorem d4_67 : decode method_4_code 67 = .ok (.iastore, 1) := by decide +kernel
theorem d4_68 : decode method_4_code 68 = .ok (.iload_n 1, 1) := by decide +kernel
theorem d4_69 : decode method_4_code 69 = .ok (.iconst 1, 1) := by decide +kernel
theorem d4_70 : decode method_4_code 70 = .ok (.iadd, 1) := by decide +kernel
theorem d4_71 : decode method_4_code 71 = .ok (.ireturn, 1) := by decide +kernel
theorem d4_72 : decode method_4_code 72 = .ok (.iload 5, 2) := by decide +kernel
theorem d4_74 : decode method_4_code 74 = .ok (.ifCond .eq 14, 3) := by decide +kernel
theorem d4_77 : decode method_4_code 77 = .ok (.aload_n 0, 1) := by decide +kernel
theorem d4_78 : decode method_4_code 78 = .ok (.iload_n 1, 1) := by decide +kernel
theorem d4_79 : decode method_4_code 79 = .ok (.iload_n 2, 1) := by decide +kernel
theorem d4_80 : decode method_4_code 80 = .ok (.iload 6, 2) := by decide +kernel
theorem d4_82 : decode method_4_code 82 = .ok (.iadd, 1) := by decide +kernel
theorem d4_83 : decode method_4_code 83 = .ok (.iastore, 1) := by decide +kernel
theorem d4_84 : decode method_4_code 84 = .ok (.iload_n 1, 1) := by decide +kernel
theorem d4_85 : decode method_4_code 85 = .ok (.iconst 1, 1) := by decide +kernel
theorem d4_86 : decode method_4_code 86 = .ok (.iadd, 1) := by decide +kernel
theorem d4_87 : decode method_4_code 87 = .ok (.ireturn, 1) := by decide +kernel
theorem d4_88 : decode method_4_code 88 = .ok (.iload_n 1, 1) := by decide +kernel
theorem d4_89 : decode method_4_code 89 = .ok (.ireturn, 1) := by decide +kernel
theorem own_pf4 : plainFor (⟨"com/example/lagline/lagline/exam/ConflictGraphMembersPinLaw", "expect", "([IIIZIZI)I"⟩ : MethodName) = true := by first | exact plainFor_of_name (by first | (simp [plainName, overriddenIn, x]; done) | decide +kernel) | decide +kernel
theorem own_pd4 : parseMethodDescriptor "([IIIZIZI)I" = some ⟨[(.array .int), .int, .int, .boolean, .int, .boolean, .int], (some .int)⟩ := by decide +kernel
abbrev B5 : Bdy := ("java/lang/Long", "bitCount", jdk_35_method_50_code, 2, (some .int))
theorem d5_0 : decode jdk_35_method_50_code 0 = .ok (.lload_n 0, 1) := by decide +kernel
theorem d5_1 : decode jdk_35_method_50_code 1 = .ok (.lload_n 0, 1) := by decide +kernel
theorem d5_2 : decode jdk_35_method_50_code 2 = .ok (.iconst 1, 1) := by decide +kernel
theorem d5_3 : decode jdk_35_method_50_code 3 = .ok (.lushr, 1) := by decide +kernel
theorem d5_4 : decode jdk_35_method_50_code 4 = .ok (.ldc2_w 314, 3) := by decide +kernel
theorem d5_7 : decode jdk_35_method_50_code 7 = .ok (.land, 1) := by decide +kernel
theorem d5_8 : decode jdk_35_method_50_code 8 = .ok (.lsub, 1) := by decide +kernel
theorem d5_9 : decode jdk_35_method_50_code 9 = .ok (.lstore_n 0, 1) := by decide +kernel
theorem d5_10 : decode jdk_35_method_50_code 10 = .ok (.lload_n 0, 1) := by decide +kernel
theorem d5_11 : decode jdk_35_method_50_code 11 = .ok (.ldc2_w 316, 3) := by decide +kernel
theorem d5_14 : decode jdk_35_method_50_code 14 = .ok (.land, 1) := by decide +kernel
theorem d5_15 : decode jdk_35_method_50_code 15 = .ok (.lload_n 0, 1) := by decide +kernel
theorem d5_16 : decode jdk_35_method_50_code 16 = .ok (.iconst 2, 1) := by decide +kernel
theorem d5_17 : decode jdk_35_method_50_code 17 = .ok (.lushr, 1) := by decide +kernel
theorem d5_18 : decode jdk_35_method_50_code 18 = .ok (.ldc2_w 316, 3) := by decide +kernel
theorem d5_21 : decode jdk_35_method_50_code 21 = .ok (.land, 1) := by decide +kernel
theorem d5_22 : decode jdk_35_method_50_code 22 = .ok (.ladd, 1) := by decide +kernel
theorem d5_23 : decode jdk_35_method_50_code 23 = .ok (.lstore_n 0, 1) := by decide +kernel
theorem d5_24 : decode jdk_35_method_50_code 24 = .ok (.lload_n 0, 1) := by decide +kernel
theorem d5_25 : decode jdk_35_method_50_code 25 = .ok (.lload_n 0, 1) := by decide +kernel
theorem d5_26 : decode jdk_35_method_50_code 26 = .ok (.iconst 4, 1) := by decide +kernel
theorem d5_27 : decode jdk_35_method_50_code 27 = .ok (.lushr, 1) := by decide +kernel
theorem d5_28 : decode jdk_35_method_50_code 28 = .ok (.ladd, 1) := by decide +kernel
theorem d5_29 : decode jdk_35_method_50_code 29 = .ok (.ldc2_w 318, 3) := by decide +kernel
theorem d5_32 : decode jdk_35_method_50_code 32 = .ok (.land, 1) := by decide +kernel
theorem d5_33 : decode jdk_35_method_50_code 33 = .ok (.lstore_n 0, 1) := by decide +kernel
theorem d5_34 : decode jdk_35_method_50_code 34 = .ok (.lload_n 0, 1) := by decide +kernel
theorem d5_35 : decode jdk_35_method_50_code 35 = .ok (.lload_n 0, 1) := by decide +kernel
theorem d5_36 : decode jdk_35_method_50_code 36 = .ok (.bipush 8, 2) := by decide +kernel
theorem d5_38 : decode jdk_35_method_50_code 38 = .ok (.lushr, 1) := by decide +kernel
theorem d5_39 : decode jdk_35_method_50_code 39 = .ok (.ladd, 1) := by decide +kernel
theorem d5_40 : decode jdk_35_method_50_code 40 = .ok (.lstore_n 0, 1) := by decide +kernel
theorem d5_41 : decode jdk_35_method_50_code 41 = .ok (.lload_n 0, 1) := by decide +kernel
theorem d5_42 : decode jdk_35_method_50_code 42 = .ok (.lload_n 0, 1) := by decide +kernel
theorem d5_43 : decode jdk_35_method_50_code 43 = .ok (.bipush 16, 2) := by decide +kernel
theorem d5_45 : decode jdk_35_method_50_code 45 = .ok (.lushr, 1) := by decide +kernel
theorem d5_46 : decode jdk_35_method_50_code 46 = .ok (.ladd, 1) := by decide +kernel
theorem d5_47 : decode jdk_35_method_50_code 47 = .ok (.lstore_n 0, 1) := by decide +kernel
theorem d5_48 : decode jdk_35_method_50_code 48 = .ok (.lload_n 0, 1) := by decide +kernel
theorem d5_49 : decode jdk_35_method_50_code 49 = .ok (.lload_n 0, 1) := by decide +kernel
theorem d5_50 : decode jdk_35_method_50_code 50 = .ok (.bipush 32, 2) := by decide +kernel
theorem d5_52 : decode jdk_35_method_50_code 52 = .ok (.lushr, 1) := by decide +kernel
theorem d5_53 : decode jdk_35_method_50_code 53 = .ok (.ladd, 1) := by decide +kernel
theorem d5_54 : decode jdk_35_method_50_code 54 = .ok (.lstore_n 0, 1) := by decide +kernel
theorem d5_55 : decode jdk_35_method_50_code 55 = .ok (.lload_n 0, 1) := by decide +kernel
theorem d5_56 : decode jdk_35_method_50_code 56 = .ok (.l2i, 1) := by decide +kernel
theorem d5_57 : decode jdk_35_method_50_code 57 = .ok (.bipush 127, 2) := by decide +kernel
theorem d5_59 : decode jdk_35_method_50_code 59 = .ok (.iand, 1) := by decide +kernel
theorem d5_60 : decode jdk_35_method_50_code 60 = .ok (.ireturn, 1) := by decide +kernel
theorem own_pf5 : plainFor (⟨"java/lang/Long", "bitCount", "(J)I"⟩ : MethodName) = true := by first | exact plainFor_of_name (by first | (simp [plainName, overriddenIn, x]; done) | decide +kernel) | decide +kernel
theorem own_pd5 : parseMethodDescriptor "(J)I" = some ⟨[.long], (some .int)⟩ := by decide +kernel
abbrev B6 : Bdy := ("java/lang/Long", "numberOfTrailingZeros", jdk_35_method_49_code, 3, (some .int))
theorem d6_0 : decode jdk_35_method_49_code 0 = .ok (.lload_n 0, 1) := by decide +kernel
theorem d6_1 : decode jdk_35_method_49_code 1 = .ok (.l2i, 1) := by decide +kernel
theorem d6_2 : decode jdk_35_method_49_code 2 = .ok (.istore_n 2, 1) := by decide +kernel
theorem d6_3 : decode jdk_35_method_49_code 3 = .ok (.iload_n 2, 1) := by decide +kernel
theorem d6_4 : decode jdk_35_method_49_code 4 = .ok (.ifCond .ne 17, 3) := by decide +kernel
theorem d6_7 : decode jdk_35_method_49_code 7 = .ok (.bipush 32, 2) := by decide +kernel
theorem d6_9 : decode jdk_35_method_49_code 9 = .ok (.lload_n 0, 1) := by decide +kernel
theorem d6_10 : decode jdk_35_method_49_code 10 = .ok (.bipush 32, 2) := by decide +kernel
theorem d6_12 : decode jdk_35_method_49_code 12 = .ok (.lushr, 1) := by decide +kernel
theorem d6_13 : decode jdk_35_method_49_code 13 = .ok (.l2i, 1) := by decide +kernel
theorem d6_14 : decode jdk_35_method_49_code 14 = .ok (.invokestatic 311, 3) := by decide +kernel
theorem d6_17 : decode jdk_35_method_49_code 17 = .ok (.iadd, 1) := by decide +kernel
theorem d6_18 : decode jdk_35_method_49_code 18 = .ok (.goto 7, 3) := by decide +kernel
theorem d6_21 : decode jdk_35_method_49_code 21 = .ok (.iload_n 2, 1) := by decide +kernel
theorem d6_22 : decode jdk_35_method_49_code 22 = .ok (.invokestatic 311, 3) := by decide +kernel
theorem d6_25 : decode jdk_35_method_49_code 25 = .ok (.ireturn, 1) := by decide +kernel
theorem own_pf6 : plainFor (⟨"java/lang/Long", "numberOfTrailingZeros", "(J)I"⟩ : MethodName) = true := by first | exact plainFor_of_name (by first | (simp [plainName, overriddenIn, x]; done) | decide +kernel) | decide +kernel
theorem own_pd6 : parseMethodDescriptor "(J)I" = some ⟨[.long], (some .int)⟩ := by decide +kernel
abbrev B7 : Bdy := ("java/lang/Integer", "numberOfTrailingZeros", jdk_33_method_48_code, 2, (some .int))
theorem d7_0 : decode jdk_33_method_48_code 0 = .ok (.iload_n 0, 1) := by decide +kernel
theorem d7_1 : decode jdk_33_method_48_code 1 = .ok (.iconst (-1), 1) := by decide +kernel
theorem d7_2 : decode jdk_33_method_48_code 2 = .ok (.ixor, 1) := by decide +kernel
theorem d7_3 : decode jdk_33_method_48_code 3 = .ok (.iload_n 0, 1) := by decide +kernel
theorem d7_4 : decode jdk_33_method_48_code 4 = .ok (.iconst 1, 1) := by decide +kernel
theorem d7_5 : decode jdk_33_method_48_code 5 = .ok (.isub, 1) := by decide +kernel
theorem d7_6 : decode jdk_33_method_48_code 6 = .ok (.iand, 1) := by decide +kernel
theorem d7_7 : decode jdk_33_method_48_code 7 = .ok (.istore_n 0, 1) := by decide +kernel
theorem d7_8 : decode jdk_33_method_48_code 8 = .ok (.iload_n 0, 1) := by decide +kernel
theorem d7_9 : decode jdk_33_method_48_code 9 = .ok (.ifCond .gt 8, 3) := by decide +kernel
theorem d7_12 : decode jdk_33_method_48_code 12 = .ok (.iload_n 0, 1) := by decide +kernel
theorem d7_13 : decode jdk_33_method_48_code 13 = .ok (.bipush 32, 2) := by decide +kernel
theorem d7_15 : decode jdk_33_method_48_code 15 = .ok (.iand, 1) := by decide +kernel
theorem d7_16 : decode jdk_33_method_48_code 16 = .ok (.ireturn, 1) := by decide +kernel
theorem d7_17 : decode jdk_33_method_48_code 17 = .ok (.iconst 1, 1) := by decide +kernel
theorem d7_18 : decode jdk_33_method_48_code 18 = .ok (.istore_n 1, 1) := by decide +kernel
theorem d7_19 : decode jdk_33_method_48_code 19 = .ok (.iload_n 0, 1) := by decide +kernel
theorem d7_20 : decode jdk_33_method_48_code 20 = .ok (.ldc_w 264, 3) := by decide +kernel
theorem d7_23 : decode jdk_33_method_48_code 23 = .ok (.if_icmp .le 11, 3) := by decide +kernel
theorem d7_26 : decode jdk_33_method_48_code 26 = .ok (.iinc 1 16, 3) := by decide +kernel
theorem d7_29 : decode jdk_33_method_48_code 29 = .ok (.iload_n 0, 1) := by decide +kernel
theorem d7_30 : decode jdk_33_method_48_code 30 = .ok (.bipush 16, 2) := by decide +kernel
theorem d7_32 : decode jdk_33_method_48_code 32 = .ok (.iushr, 1) := by decide +kernel
theorem d7_33 : decode jdk_33_method_48_code 33 = .ok (.istore_n 0, 1) := by decide +kernel
theorem d7_34 : decode jdk_33_method_48_code 34 = .ok (.iload_n 0, 1) := by decide +kernel
theorem d7_35 : decode jdk_33_method_48_code 35 = .ok (.sipush 256, 3) := by decide +kernel
theorem d7_38 : decode jdk_33_method_48_code 38 = .ok (.if_icmp .le 11, 3) := by decide +kernel
theorem d7_41 : decode jdk_33_method_48_code 41 = .ok (.iinc 1 8, 3) := by decide +kernel
theorem d7_44 : decode jdk_33_method_48_code 44 = .ok (.iload_n 0, 1) := by decide +kernel
theorem d7_45 : decode jdk_33_method_48_code 45 = .ok (.bipush 8, 2) := by decide +kernel
theorem d7_47 : decode jdk_33_method_48_code 47 = .ok (.iushr, 1) := by decide +kernel
theorem d7_48 : decode jdk_33_method_48_code 48 = .ok (.istore_n 0, 1) := by decide +kernel
theorem d7_49 : decode jdk_33_method_48_code 49 = .ok (.iload_n 0, 1) := by decide +kernel
theorem d7_50 : decode jdk_33_method_48_code 50 = .ok (.bipush 16, 2) := by decide +kernel
theorem d7_52 : decode jdk_33_method_48_code 52 = .ok (.if_icmp .le 10, 3) := by decide +kernel
theorem d7_55 : decode jdk_33_method_48_code 55 = .ok (.iinc 1 4, 3) := by decide +kernel
theorem d7_58 : decode jdk_33_method_48_code 58 = .ok (.iload_n 0, 1) := by decide +kernel
theorem d7_59 : decode jdk_33_method_48_code 59 = .ok (.iconst 4, 1) := by decide +kernel
theorem d7_60 : decode jdk_33_method_48_code 60 = .ok (.iushr, 1) := by decide +kernel
theorem d7_61 : decode jdk_33_method_48_code 61 = .ok (.istore_n 0, 1) := by decide +kernel
theorem d7_62 : decode jdk_33_method_48_code 62 = .ok (.iload_n 0, 1) := by decide +kernel
theorem d7_63 : decode jdk_33_method_48_code 63 = .ok (.iconst 4, 1) := by decide +kernel
theorem d7_64 : decode jdk_33_method_48_code 64 = .ok (.if_icmp .le 10, 3) := by decide +kernel
theorem d7_67 : decode jdk_33_method_48_code 67 = .ok (.iinc 1 2, 3) := by decide +kernel
theorem d7_70 : decode jdk_33_method_48_code 70 = .ok (.iload_n 0, 1) := by decide +kernel
theorem d7_71 : decode jdk_33_method_48_code 71 = .ok (.iconst 2, 1) := by decide +kernel
theorem d7_72 : decode jdk_33_method_48_code 72 = .ok (.iushr, 1) := by decide +kernel
theorem d7_73 : decode jdk_33_method_48_code 73 = .ok (.istore_n 0, 1) := by decide +kernel
theorem d7_74 : decode jdk_33_method_48_code 74 = .ok (.iload_n 1, 1) := by decide +kernel
theorem d7_75 : decode jdk_33_method_48_code 75 = .ok (.iload_n 0, 1) := by decide +kernel
theorem d7_76 : decode jdk_33_method_48_code 76 = .ok (.iconst 1, 1) := by decide +kernel
theorem d7_77 : decode jdk_33_method_48_code 77 = .ok (.iushr, 1) := by decide +kernel
theorem d7_78 : decode jdk_33_method_48_code 78 = .ok (.iadd, 1) := by decide +kernel
theorem d7_79 : decode jdk_33_method_48_code 79 = .ok (.ireturn, 1) := by decide +kernel
theorem own_pf7 : plainFor (⟨"java/lang/Integer", "numberOfTrailingZeros", "(I)I"⟩ : MethodName) = true := by first | exact plainFor_of_name (by first | (simp [plainName, overriddenIn, x]; done) | decide +kernel) | decide +kernel
theorem own_pd7 : parseMethodDescriptor "(I)I" = some ⟨[.int], (some .int)⟩ := by decide +kernel
abbrev B8 : Bdy := ("java/lang/Math", "min", jdk_29_method_69_code, 2, (some .int))
theorem d8_0 : decode jdk_29_method_69_code 0 = .ok (.iload_n 0, 1) := by decide +kernel
theorem d8_1 : decode jdk_29_method_69_code 1 = .ok (.iload_n 1, 1) := by decide +kernel
theorem d8_2 : decode jdk_29_method_69_code 2 = .ok (.if_icmp .gt 7, 3) := by decide +kernel
theorem d8_5 : decode jdk_29_method_69_code 5 = .ok (.iload_n 0, 1) := by decide +kernel
theorem d8_6 : decode jdk_29_method_69_code 6 = .ok (.goto 4, 3) := by decide +kernel
theorem d8_9 : decode jdk_29_method_69_code 9 = .ok (.iload_n 1, 1) := by decide +kernel
theorem d8_10 : decode jdk_29_method_69_code 10 = .ok (.ireturn, 1) := by decide +kernel
theorem own_pf8 : plainFor (⟨"java/lang/Math", "min", "(II)I"⟩ : MethodName) = true := by first | exact plainFor_of_name (by first | (simp [plainName, overriddenIn, x]; done) | decide +kernel) | decide +kernel
theorem own_pd8 : parseMethodDescriptor "(II)I" = some ⟨[.int, .int], (some .int)⟩ := by decide +kernel
abbrev B9 : Bdy := ("java/lang/Math", "max", jdk_29_method_65_code, 2, (some .int))
theorem d9_0 : decode jdk_29_method_65_code 0 = .ok (.iload_n 0, 1) := by decide +kernel
theorem d9_1 : decode jdk_29_method_65_code 1 = .ok (.iload_n 1, 1) := by decide +kernel
theorem d9_2 : decode jdk_29_method_65_code 2 = .ok (.if_icmp .lt 7, 3) := by decide +kernel
theorem d9_5 : decode jdk_29_method_65_code 5 = .ok (.iload_n 0, 1) := by decide +kernel
theorem d9_6 : decode jdk_29_method_65_code 6 = .ok (.goto 4, 3) := by decide +kernel
theorem d9_9 : decode jdk_29_method_65_code 9 = .ok (.iload_n 1, 1) := by decide +kernel
theorem d9_10 : decode jdk_29_method_65_code 10 = .ok (.ireturn, 1) := by decide +kernel
theorem own_pf9 : plainFor (⟨"java/lang/Math", "max", "(II)I"⟩ : MethodName) = true := by first | exact plainFor_of_name (by first | (simp [plainName, overriddenIn, x]; done) | decide +kernel) | decide +kernel
theorem own_pd9 : parseMethodDescriptor "(II)I" = some ⟨[.int, .int], (some .int)⟩ := by decide +kernel
theorem own_cb_127 : (Int8.ofInt (127)).toInt32 = (127 : Int32) := by decide
theorem own_cb_16 : (Int8.ofInt (16)).toInt32 = (16 : Int32) := by decide
theorem own_cb_32 : (Int8.ofInt (32)).toInt32 = (32 : Int32) := by decide
theorem own_cb_63 : (Int8.ofInt (63)).toInt32 = (63 : Int32) := by decide
theorem own_cb_64 : (Int8.ofInt (64)).toInt32 = (64 : Int32) := by decide
theorem own_cb_8 : (Int8.ofInt (8)).toInt32 = (8 : Int32) := by decide
theorem own_ci_0 : Int32.ofInt (0) = (0 : Int32) := by decide
theorem own_ci_1 : Int32.ofInt (1) = (1 : Int32) := by decide
theorem own_ci_16 : Int32.ofInt (16) = (16 : Int32) := by decide
theorem own_ci_2 : Int32.ofInt (2) = (2 : Int32) := by decide
theorem own_ci_3 : Int32.ofInt (3) = (3 : Int32) := by decide
theorem own_ci_4 : Int32.ofInt (4) = (4 : Int32) := by decide
theorem own_ci_5 : Int32.ofInt (5) = (5 : Int32) := by decide
theorem own_ci_8 : Int32.ofInt (8) = (8 : Int32) := by decide
theorem own_ci_m1 : Int32.ofInt (-1) = (-1 : Int32) := by decide
theorem own_cj_0 : Int64.ofNat 0 = (0 : Int64) := by decide
theorem own_cj_1 : Int64.ofNat 1 = (1 : Int64) := by decide
theorem own_cs_128 : (Int16.ofInt (128)).toInt32 = (128 : Int32) := by decide
theorem own_cs_256 : (Int16.ofInt (256)).toInt32 = (256 : Int32) := by decide
def own_bi (b : Bool) : Int32 := if b then 1 else 0
theorem own_bi0 (b : Bool) : own_bi b = 0 ↔ b = false := by cases b <;> decide
abbrev own_min (x y : Int32) : Int32 := if y < x then y else x
abbrev own_max (x y : Int32) : Int32 := if x < y then y else x
def own_ul (x : Int64) (k : Int32) : Int64 := (x.toUInt64 >>> (k &&& 0x3f).toInt64.toUInt64).toInt64
def own_ui (x : Int32) (k : Int32) : Int32 := (x.toUInt32 >>> (k &&& 31).toUInt32).toInt32
def own_b1 (a : Int64) : Int64 := a - (own_ul a 1 &&& 6148914691236517205)
def own_b2 (a : Int64) : Int64 := (a &&& 3689348814741910323) + (own_ul a 2 &&& 3689348814741910323)
def own_b3 (a : Int64) : Int64 := (a + own_ul a 4) &&& 1085102592571150095
def own_b4 (a : Int64) (k : Int32) : Int64 := a + own_ul a k
def own_bc (a : Int64) : Int32 := (own_b4 (own_b4 (own_b4 (own_b3 (own_b2 (own_b1 a))) 8) 16) 32).toInt32 &&& 127
theorem own_c5 (l : Launch) (Z : State) (a0 : Array Value) (hw : ∀ d ∈ tables_1, d.before a0 Z = true) (n0 : Nat) (h : Heap) (a : Int64) : W l Z n0 (rmF 0 0 0 0) B5 (RI (fun v h' => v = own_bc a ∧ h' = h)) h 0 0 0 [.val (.long a), .second] [] := by
  unfold own_bc
  refine W.lloadN d5_0 rfl rfl ?_
  refine W.lloadN d5_1 rfl rfl ?_
  refine W.iconst d5_2 own_ci_1 rfl ?_
  refine W.lushr d5_3 rfl ?_
  refine W.ldc2 d5_4 (hw _ (List.mem_of_getElem? (i := 20) rfl)) rfl ?_
  refine W.land d5_7 rfl ?_
  refine W.lsub d5_8 rfl ?_
  refine W.lstoreN d5_9 Put2.z rfl rfl rfl rfl ?_
  show W _ _ _ _ _ _ _ _ _ _ [.val (.long (own_b1 a)), .second] _
  generalize own_b1 a = a1
  refine W.lloadN d5_10 rfl rfl ?_
  refine W.ldc2 d5_11 (hw _ (List.mem_of_getElem? (i := 21) rfl)) rfl ?_
  refine W.land d5_14 rfl ?_
  refine W.lloadN d5_15 rfl rfl ?_
  refine W.iconst d5_16 own_ci_2 rfl ?_
  refine W.lushr d5_17 rfl ?_
  refine W.ldc2 d5_18 (hw _ (List.mem_of_getElem? (i := 21) rfl)) rfl ?_
  refine W.land d5_21 rfl ?_
  refine W.ladd d5_22 rfl ?_
  refine W.lstoreN d5_23 Put2.z rfl rfl rfl rfl ?_
  show W _ _ _ _ _ _ _ _ _ _ [.val (.long (own_b2 a1)), .second] _
  generalize own_b2 a1 = a2
  refine W.lloadN d5_24 rfl rfl ?_
  refine W.lloadN d5_25 rfl rfl ?_
  refine W.iconst d5_26 own_ci_4 rfl ?_
  refine W.lushr d5_27 rfl ?_
  refine W.ladd d5_28 rfl ?_
  refine W.ldc2 d5_29 (hw _ (List.mem_of_getElem? (i := 22) rfl)) rfl ?_
  refine W.land d5_32 rfl ?_
  refine W.lstoreN d5_33 Put2.z rfl rfl rfl rfl ?_
  show W _ _ _ _ _ _ _ _ _ _ [.val (.long (own_b3 a2)), .second] _
  generalize own_b3 a2 = a3
  refine W.lloadN d5_34 rfl rfl ?_
  refine W.lloadN d5_35 rfl rfl ?_
  refine W.bipush d5_36 own_cb_8 rfl ?_
  refine W.lushr d5_38 rfl ?_
  refine W.ladd d5_39 rfl ?_
  refine W.lstoreN d5_40 Put2.z rfl rfl rfl rfl ?_
  show W _ _ _ _ _ _ _ _ _ _ [.val (.long (own_b4 a3 8)), .second] _
  generalize own_b4 a3 8 = a4
  refine W.lloadN d5_41 rfl rfl ?_
  refine W.lloadN d5_42 rfl rfl ?_
  refine W.bipush d5_43 own_cb_16 rfl ?_
  refine W.lushr d5_45 rfl ?_
  refine W.ladd d5_46 rfl ?_
  refine W.lstoreN d5_47 Put2.z rfl rfl rfl rfl ?_
  show W _ _ _ _ _ _ _ _ _ _ [.val (.long (own_b4 a4 16)), .second] _
  generalize own_b4 a4 16 = a5
  refine W.lloadN d5_48 rfl rfl ?_
  refine W.lloadN d5_49 rfl rfl ?_
  refine W.bipush d5_50 own_cb_32 rfl ?_
  refine W.lushr d5_52 rfl ?_
  refine W.ladd d5_53 rfl ?_
  refine W.lstoreN d5_54 Put2.z rfl rfl rfl rfl ?_
  show W _ _ _ _ _ _ _ _ _ _ [.val (.long (own_b4 a5 32)), .second] _
  generalize own_b4 a5 32 = a6
  refine W.lloadN d5_55 rfl rfl ?_
  refine W.l2i d5_56 rfl ?_
  refine W.bipush d5_57 own_cb_127 rfl ?_
  refine W.iand d5_59 rfl ?_
  exact W.ireturn d5_60 rfl ⟨_, rfl, rfl, rfl⟩
def own_s4 (i y : Int32) : Int32 := i + own_ui y 1
def own_s3 (i y : Int32) : Int32 := if 4 < y then own_s4 (i + 2) (own_ui y 2) else own_s4 i y
def own_s2 (i y : Int32) : Int32 := if 16 < y then own_s3 (i + 4) (own_ui y 4) else own_s3 i y
def own_s1 (i y : Int32) : Int32 := if 256 < y then own_s2 (i + 8) (own_ui y 8) else own_s2 i y
def own_s0 (i y : Int32) : Int32 := if 65536 < y then own_s1 (i + 16) (own_ui y 16) else own_s1 i y
def own_tz (x : Int32) : Int32 := if 0 < ((x ^^^ (-1)) &&& (x - 1)) then own_s0 1 ((x ^^^ (-1)) &&& (x - 1)) else ((x ^^^ (-1)) &&& (x - 1)) &&& 32

theorem own_z74 (l : Launch) (Z : State) (a0 : Array Value) (hw : ∀ d ∈ tables_1, d.before a0 Z = true) (n0 : Nat) (h : Heap) (i y : Int32) : W l Z n0 (rmF 0 0 0 0) B7 (RI (fun v h' => v = own_s4 i y ∧ h' = h)) h 0 0 74 [.val (.int y), .val (.int i)] [] := by
  refine W.iloadN d7_74 rfl rfl ?_
  refine W.iloadN d7_75 rfl rfl ?_
  refine W.iconst d7_76 own_ci_1 rfl ?_
  refine W.iushr d7_77 rfl ?_
  refine W.iadd d7_78 rfl ?_
  exact W.ireturn d7_79 rfl ⟨_, rfl, rfl, rfl⟩
theorem own_z62 (l : Launch) (Z : State) (a0 : Array Value) (hw : ∀ d ∈ tables_1, d.before a0 Z = true) (n0 : Nat) (h : Heap) (i y : Int32) : W l Z n0 (rmF 0 0 0 0) B7 (RI (fun v h' => v = own_s3 i y ∧ h' = h)) h 0 0 62 [.val (.int y), .val (.int i)] [] := by
  refine W.iloadN d7_62 rfl rfl ?_
  refine W.iconst d7_63 own_ci_4 rfl ?_
  refine W.icmp_le d7_64 (by decide) rfl rfl (fun p => ?_) (fun q => ?_)
  · unfold own_s3
    rw [if_neg p]
    exact own_z74 l Z a0 hw n0 h i y
  · unfold own_s3
    rw [if_pos q]
    refine W.iinc d7_67 rfl own_ci_2 (Put.s Put.z) rfl ?_
    refine W.iloadN d7_70 rfl rfl ?_
    refine W.iconst d7_71 own_ci_2 rfl ?_
    refine W.iushr d7_72 rfl ?_
    refine W.istoreN d7_73 Put.z rfl rfl rfl ?_
    exact own_z74 l Z a0 hw n0 h (i + 2) (own_ui y 2)
theorem own_z49 (l : Launch) (Z : State) (a0 : Array Value) (hw : ∀ d ∈ tables_1, d.before a0 Z = true) (n0 : Nat) (h : Heap) (i y : Int32) : W l Z n0 (rmF 0 0 0 0) B7 (RI (fun v h' => v = own_s2 i y ∧ h' = h)) h 0 0 49 [.val (.int y), .val (.int i)] [] := by
  refine W.iloadN d7_49 rfl rfl ?_
  refine W.bipush d7_50 own_cb_16 rfl ?_
  refine W.icmp_le d7_52 (by decide) rfl rfl (fun p => ?_) (fun q => ?_)
  · unfold own_s2
    rw [if_neg p]
    exact own_z62 l Z a0 hw n0 h i y
  · unfold own_s2
    rw [if_pos q]
    refine W.iinc d7_55 rfl own_ci_4 (Put.s Put.z) rfl ?_
    refine W.iloadN d7_58 rfl rfl ?_
    refine W.iconst d7_59 own_ci_4 rfl ?_
    refine W.iushr d7_60 rfl ?_
    refine W.istoreN d7_61 Put.z rfl rfl rfl ?_
    exact own_z62 l Z a0 hw n0 h (i + 4) (own_ui y 4)
theorem own_z34 (l : Launch) (Z : State) (a0 : Array Value) (hw : ∀ d ∈ tables_1, d.before a0 Z = true) (n0 : Nat) (h : Heap) (i y : Int32) : W l Z n0 (rmF 0 0 0 0) B7 (RI (fun v h' => v = own_s1 i y ∧ h' = h)) h 0 0 34 [.val (.int y), .val (.int i)] [] := by
  refine W.iloadN d7_34 rfl rfl ?_
  refine W.sipush d7_35 own_cs_256 rfl ?_
  refine W.icmp_le d7_38 (by decide) rfl rfl (fun p => ?_) (fun q => ?_)
  · unfold own_s1
    rw [if_neg p]
    exact own_z49 l Z a0 hw n0 h i y
  · unfold own_s1
    rw [if_pos q]
    refine W.iinc d7_41 rfl own_ci_8 (Put.s Put.z) rfl ?_
    refine W.iloadN d7_44 rfl rfl ?_
    refine W.bipush d7_45 own_cb_8 rfl ?_
    refine W.iushr d7_47 rfl ?_
    refine W.istoreN d7_48 Put.z rfl rfl rfl ?_
    exact own_z49 l Z a0 hw n0 h (i + 8) (own_ui y 8)
theorem own_z19 (l : Launch) (Z : State) (a0 : Array Value) (hw : ∀ d ∈ tables_1, d.before a0 Z = true) (n0 : Nat) (h : Heap) (i y : Int32) : W l Z n0 (rmF 0 0 0 0) B7 (RI (fun v h' => v = own_s0 i y ∧ h' = h)) h 0 0 19 [.val (.int y), .val (.int i)] [] := by
  refine W.iloadN d7_19 rfl rfl ?_
  refine W.ldcw d7_20 (hw _ (List.mem_of_getElem? (i := 30) rfl)) rfl ?_
  refine W.icmp_le d7_23 (by decide) rfl rfl (fun p => ?_) (fun q => ?_)
  · unfold own_s0
    rw [if_neg p]
    exact own_z34 l Z a0 hw n0 h i y
  · unfold own_s0
    rw [if_pos q]
    refine W.iinc d7_26 rfl own_ci_16 (Put.s Put.z) rfl ?_
    refine W.iloadN d7_29 rfl rfl ?_
    refine W.bipush d7_30 own_cb_16 rfl ?_
    refine W.iushr d7_32 rfl ?_
    refine W.istoreN d7_33 Put.z rfl rfl rfl ?_
    exact own_z34 l Z a0 hw n0 h (i + 16) (own_ui y 16)
theorem own_c7 (l : Launch) (Z : State) (a0 : Array Value) (hw : ∀ d ∈ tables_1, d.before a0 Z = true) (n0 : Nat) (h : Heap) (x : Int32) : W l Z n0 (rmF 0 0 0 0) B7 (RI (fun v h' => v = own_tz x ∧ h' = h)) h 0 0 0 [.val (.int x), .unset] [] := by
  refine W.iloadN d7_0 rfl rfl ?_
  refine W.iconst d7_1 own_ci_m1 rfl ?_
  refine W.ixor d7_2 rfl ?_
  refine W.iloadN d7_3 rfl rfl ?_
  refine W.iconst d7_4 own_ci_1 rfl ?_
  refine W.isub d7_5 rfl ?_
  refine W.iand d7_6 rfl ?_
  refine W.istoreN d7_7 Put.z rfl rfl rfl ?_
  refine W.iloadN d7_8 rfl rfl ?_
  refine W.ifc_gt d7_9 (by decide) rfl rfl (fun p => ?_) (fun q => ?_)
  · unfold own_tz
    rw [if_pos p]
    refine W.iconst d7_17 own_ci_1 rfl ?_
    refine W.istoreN d7_18 (Put.s Put.z) rfl rfl rfl ?_
    exact own_z19 l Z a0 hw n0 h 1 _
  · unfold own_tz
    rw [if_neg q]
    refine W.iloadN d7_12 rfl rfl ?_
    refine W.bipush d7_13 own_cb_32 rfl ?_
    refine W.iand d7_15 rfl ?_
    exact W.ireturn d7_16 rfl ⟨_, rfl, rfl, rfl⟩
def own_tzl (a : Int64) : Int32 := if a.toInt32 = 0 then 32 + own_tz (own_ul a 32).toInt32 else own_tz a.toInt32
theorem own_c6 (l : Launch) (Z : State) (a0 : Array Value) (hw : ∀ d ∈ tables_1, d.before a0 Z = true) (n0 : Nat) (h : Heap) (a : Int64) : W l Z n0 (rmF 1 0 0 14) B6 (RI (fun v h' => v = own_tzl a ∧ h' = h)) h 0 0 0 [.val (.long a), .second, .unset] [] := by
  refine W.lloadN d6_0 rfl rfl ?_
  refine W.l2i d6_1 rfl ?_
  refine W.istoreN d6_2 (Put.s (Put.s Put.z)) rfl rfl rfl ?_
  refine W.iloadN d6_3 rfl rfl ?_
  unfold own_tzl
  refine W.ifc_ne d6_4 (by decide) rfl rfl (fun p => ?_) (fun q => ?_)
  · rw [if_neg p]
    refine W.iloadN d6_21 rfl rfl ?_
    refine W.callS_I (B' := B7) (argsL := [_]) d6_22 (hw _ (List.mem_of_getElem? (i := 26) rfl)) (hw _ (List.mem_of_getElem? (i := 27) rfl)) (hw _ (List.mem_of_getElem? (i := 28) rfl)) (hw _ (List.mem_of_getElem? (i := 29) rfl)) rfl (own_c7 l Z a0 hw n0 h _) own_pf7 (by decide) own_pd7 rfl rfl rfl (fun m => by first | (simp [entryFrame, mkF, argsToLocals, Value.category]; done) | rfl) rfl rfl rfl rfl rfl rfl (fun u h' hh => ?_)
    obtain ⟨rfl, rfl⟩ := hh
    exact W.ireturn d6_25 rfl ⟨_, rfl, rfl, rfl⟩
  · rw [if_pos q]
    refine W.bipush d6_7 own_cb_32 rfl ?_
    refine W.lloadN d6_9 rfl rfl ?_
    refine W.bipush d6_10 own_cb_32 rfl ?_
    refine W.lushr d6_12 rfl ?_
    refine W.l2i d6_13 rfl ?_
    refine W.callS_I (B' := B7) (argsL := [_]) d6_14 (hw _ (List.mem_of_getElem? (i := 26) rfl)) (hw _ (List.mem_of_getElem? (i := 27) rfl)) (hw _ (List.mem_of_getElem? (i := 28) rfl)) (hw _ (List.mem_of_getElem? (i := 29) rfl)) rfl (own_c7 l Z a0 hw n0 h _) own_pf7 (by decide) own_pd7 rfl rfl rfl (fun m => by first | (simp [entryFrame, mkF, argsToLocals, Value.category]; done) | rfl) rfl rfl rfl rfl rfl rfl (fun u h' hh => ?_)
    obtain ⟨rfl, rfl⟩ := hh
    refine W.iadd d6_17 rfl ?_
    refine W.goto d6_18 (by decide) rfl ?_
    exact W.ireturn d6_25 rfl ⟨_, rfl, rfl, rfl⟩
theorem own_c8 (l : Launch) (Z : State) (n0 : Nat) (h : Heap) (x y : Int32) : W l Z n0 (rmF 0 0 0 0) B8 (RI (fun v h' => v = own_min x y ∧ h' = h)) h 0 0 0 [.val (.int x), .val (.int y)] [] := by
  refine W.iloadN d8_0 rfl rfl ?_
  refine W.iloadN d8_1 rfl rfl ?_
  refine W.icmp_gt d8_2 (by decide) rfl rfl (fun q1 => ?_) (fun q2 => ?_)
  · refine W.iloadN d8_9 rfl rfl ?_
    exact W.ireturn d8_10 rfl ⟨_, rfl, (if_pos q1).symm, rfl⟩
  · refine W.iloadN d8_5 rfl rfl ?_
    refine W.goto d8_6 (by decide) rfl ?_
    exact W.ireturn d8_10 rfl ⟨_, rfl, (if_neg q2).symm, rfl⟩
theorem own_c9 (l : Launch) (Z : State) (n0 : Nat) (h : Heap) (x y : Int32) : W l Z n0 (rmF 0 0 0 0) B9 (RI (fun v h' => v = own_max x y ∧ h' = h)) h 0 0 0 [.val (.int x), .val (.int y)] [] := by
  refine W.iloadN d9_0 rfl rfl ?_
  refine W.iloadN d9_1 rfl rfl ?_
  refine W.icmp_lt d9_2 (by decide) rfl rfl (fun q1 => ?_) (fun q2 => ?_)
  · refine W.iloadN d9_9 rfl rfl ?_
    exact W.ireturn d9_10 rfl ⟨_, rfl, (if_pos q1).symm, rfl⟩
  · refine W.iloadN d9_5 rfl rfl ?_
    refine W.goto d9_6 (by decide) rfl ?_
    exact W.ireturn d9_10 rfl ⟨_, rfl, (if_neg q2).symm, rfl⟩
def own_sh (p : Int32) : Int64 := (1 : Int64) <<< (p &&& 0x3f).toInt64
def own_w (f g : Bool) (p q : Int32) : Int64 := match f, g with
  | true, true => (0 ||| own_sh p) ||| own_sh q
  | true, false => 0 ||| own_sh p
  | false, true => 0 ||| own_sh q
  | false, false => 0
theorem own_c3 (l : Launch) (Z : State) (n0 : Nat) (h : Heap) (f g : Bool) (p q : Int32) : W l Z n0 (rmF 0 0 0 0) B3 (RJ (fun v h' => v = own_w f g p q ∧ h' = h)) h 0 0 0 [.val (.int (own_bi f)), .val (.int p), .val (.int (own_bi g)), .val (.int q), .unset, .unset] [] := by
  refine W.lconst d3_0 own_cj_0 rfl ?_
  refine W.lstore d3_1 (Put2.s (Put2.s (Put2.s (Put2.s Put2.z)))) rfl rfl rfl rfl ?_
  refine W.iloadN d3_3 rfl rfl ?_
  refine W.ifc_eq d3_4 (by decide) rfl rfl (fun p1 => ?_) (fun q1 => ?_)
  · rw [own_bi0] at p1
    subst p1
    refine W.iloadN d3_15 rfl rfl ?_
    refine W.ifc_eq d3_16 (by decide) rfl rfl (fun p2 => ?_) (fun q2 => ?_)
    · rw [own_bi0] at p2
      subst p2
      refine W.lload d3_27 rfl rfl ?_
      exact W.lreturn d3_29 rfl ⟨_, rfl, rfl, rfl⟩
    · rw [own_bi0, Bool.not_eq_false] at q2
      subst q2
      refine W.lload d3_19 rfl rfl ?_
      refine W.lconst d3_21 own_cj_1 rfl ?_
      refine W.iloadN d3_22 rfl rfl ?_
      refine W.lshl d3_23 rfl ?_
      refine W.lor d3_24 rfl ?_
      refine W.lstore d3_25 (Put2.s (Put2.s (Put2.s (Put2.s Put2.z)))) rfl rfl rfl rfl ?_
      refine W.lload d3_27 rfl rfl ?_
      exact W.lreturn d3_29 rfl ⟨_, rfl, rfl, rfl⟩
  · rw [own_bi0, Bool.not_eq_false] at q1
    subst q1
    refine W.lload d3_7 rfl rfl ?_
    refine W.lconst d3_9 own_cj_1 rfl ?_
    refine W.iloadN d3_10 rfl rfl ?_
    refine W.lshl d3_11 rfl ?_
    refine W.lor d3_12 rfl ?_
    refine W.lstore d3_13 (Put2.s (Put2.s (Put2.s (Put2.s Put2.z)))) rfl rfl rfl rfl ?_
    refine W.iloadN d3_15 rfl rfl ?_
    refine W.ifc_eq d3_16 (by decide) rfl rfl (fun p2 => ?_) (fun q2 => ?_)
    · rw [own_bi0] at p2
      subst p2
      refine W.lload d3_27 rfl rfl ?_
      exact W.lreturn d3_29 rfl ⟨_, rfl, rfl, rfl⟩
    · rw [own_bi0, Bool.not_eq_false] at q2
      subst q2
      refine W.lload d3_19 rfl rfl ?_
      refine W.lconst d3_21 own_cj_1 rfl ?_
      refine W.iloadN d3_22 rfl rfl ?_
      refine W.lshl d3_23 rfl ?_
      refine W.lor d3_24 rfl ?_
      refine W.lstore d3_25 (Put2.s (Put2.s (Put2.s (Put2.s Put2.z)))) rfl rfl rfl rfl ?_
      refine W.lload d3_27 rfl rfl ?_
      exact W.lreturn d3_29 rfl ⟨_, rfl, rfl, rfl⟩
def own_ex (base : Int32) (f g : Bool) (p q : Int32) : List Int32 := match f, g with
  | true, true => if p = q then [base + p] else [base + own_min p q, base + own_max p q]
  | true, false => [base + p]
  | false, true => [base + q]
  | false, false => []
theorem own_push (L : List Int32) (m : Nat) (x : Int32) : (L ++ List.replicate (m + 1) (0 : Int32)).set L.length x = (L ++ [x]) ++ List.replicate m 0 := by
  rw [List.set_append_right _ _ (Nat.le_refl _), Nat.sub_self, List.replicate_succ, List.set_cons_zero, List.append_assoc]; rfl
theorem own_c4 (l : Launch) (Z : State) (a0 : Array Value) (hw : ∀ d ∈ tables_1, d.before a0 Z = true) (n0 : Nat) (h : Heap) (e : Addr) (base : Int32) (f g : Bool) (p q : Int32) (M X : List Int32) (hX : own_ex base f g p q = X) (AE : AI Z h e .int (M ++ List.replicate (5 - M.length) 0)) (he : n0 ≤ e) (hl : M.length + X.length ≤ 5) :
    W l Z n0 (rmF 1 0 0 16) B4 (RI (fun v h' => v = (M ++ X).length.toInt32 ∧ AI Z h' e .int ((M ++ X) ++ List.replicate (5 - (M ++ X).length) 0) ∧ Keep h h' [e])) h 0 0 0 [.val (.ref e), .val (.int M.length.toInt32), .val (.int base), .val (.int (own_bi f)), .val (.int p), .val (.int (own_bi g)), .val (.int q)] [] := by
  have n1 := nat32 (k := M.length) (by omega)
  have P1 : ∀ (x : Int32) (h' : Heap), X = [x] → Wr h h' e M.length (.int x) → M.length.toInt32 + 1 = (M ++ X).length.toInt32 ∧ AI Z h' e .int ((M ++ X) ++ List.replicate (5 - (M ++ X).length) 0) ∧ Keep h h' [e] := by
    intro x h' hx w
    subst hx
    have AE' := AE.set w
    simp only [List.length_cons, List.length_nil] at hl
    have e7 : 5 - M.length = (5 - (M.length + 1)) + 1 := by omega
    rw [e7, own_push] at AE'
    refine ⟨by rw [n1.2.2.2]; simp, ?_, Keep.of_wr w⟩
    simpa using AE'
  refine W.iloadN d4_0 rfl rfl ?_
  have S1 : ∀ (pc : Nat) (x : Int32), True := fun _ _ => trivial
  refine W.ifc_eq d4_1 (by decide) rfl rfl (fun p1 => ?_) (fun q1 => ?_)
  · rw [own_bi0] at p1
    subst p1
    refine W.iloadN d4_57 rfl rfl ?_
    refine W.ifc_eq d4_58 (by decide) rfl rfl (fun p2 => ?_) (fun q2 => ?_)
    rotate_left
    · exact absurd rfl q2
    refine W.iload d4_72 rfl rfl ?_
    refine W.ifc_eq d4_74 (by decide) rfl rfl (fun p3 => ?_) (fun q3 => ?_)
    · rw [own_bi0] at p3
      subst p3
      subst hX
      refine W.iloadN d4_88 rfl rfl ?_
      exact W.ireturn d4_89 rfl ⟨_, rfl, by simp [own_ex], by simpa [own_ex] using AE, Keep.refl _ _⟩
    · rw [own_bi0, Bool.not_eq_false] at q3
      subst q3
      refine W.aloadN d4_77 rfl rfl rfl ?_
      refine W.iloadN d4_78 rfl rfl ?_
      refine W.iloadN d4_79 rfl rfl ?_
      refine W.iload d4_80 rfl rfl ?_
      refine W.iadd d4_82 rfl ?_
      refine W.iastore d4_83 AE n1.2.2.1 (by rw [n1.2.1]; rw [← hX] at hl; simp [own_ex] at hl ⊢; omega) he rfl (fun h' w A' => ?_)
      rw [n1.2.1] at w
      refine W.iloadN d4_84 rfl rfl ?_
      refine W.iconst d4_85 own_ci_1 rfl ?_
      refine W.iadd d4_86 rfl ?_
      exact W.ireturn d4_87 rfl ⟨_, rfl, P1 _ h' hX.symm w⟩
  rw [own_bi0, Bool.not_eq_false] at q1
  subst q1
  refine W.iload d4_4 rfl rfl ?_
  refine W.ifc_eq d4_6 (by decide) rfl rfl (fun p2 => ?_) (fun q2 => ?_)
  · rw [own_bi0] at p2
    subst p2
    refine W.iloadN d4_57 rfl rfl ?_
    refine W.ifc_eq d4_58 (by decide) rfl rfl (fun p3 => ?_) (fun q3 => ?_)
    · exact absurd p3 (by decide)
    refine W.aloadN d4_61 rfl rfl rfl ?_
    refine W.iloadN d4_62 rfl rfl ?_
    refine W.iloadN d4_63 rfl rfl ?_
    refine W.iload d4_64 rfl rfl ?_
    refine W.iadd d4_66 rfl ?_
    refine W.iastore d4_67 AE n1.2.2.1 (by rw [n1.2.1]; rw [← hX] at hl; simp [own_ex] at hl ⊢; omega) he rfl (fun h' w A' => ?_)
    rw [n1.2.1] at w
    refine W.iloadN d4_68 rfl rfl ?_
    refine W.iconst d4_69 own_ci_1 rfl ?_
    refine W.iadd d4_70 rfl ?_
    exact W.ireturn d4_71 rfl ⟨_, rfl, P1 _ h' hX.symm w⟩
  rw [own_bi0, Bool.not_eq_false] at q2
  subst q2
  refine W.iload d4_9 rfl rfl ?_
  refine W.iload d4_11 rfl rfl ?_
  refine W.icmp_ne d4_13 (by decide) rfl rfl (fun p3 => ?_) (fun q3 => ?_)
  rotate_left
  · have hX1 : X = [base + p] := by rw [← hX]; simp only [own_ex, q3, if_true]
    refine W.aloadN d4_16 rfl rfl rfl ?_
    refine W.iloadN d4_17 rfl rfl ?_
    refine W.iloadN d4_18 rfl rfl ?_
    refine W.iload d4_19 rfl rfl ?_
    refine W.iadd d4_21 rfl ?_
    refine W.iastore d4_22 AE n1.2.2.1 (by rw [n1.2.1]; rw [hX1] at hl; simp at hl ⊢; omega) he rfl (fun h' w A' => ?_)
    rw [n1.2.1] at w
    refine W.iloadN d4_23 rfl rfl ?_
    refine W.iconst d4_24 own_ci_1 rfl ?_
    refine W.iadd d4_25 rfl ?_
    exact W.ireturn d4_26 rfl ⟨_, rfl, P1 _ h' hX1 w⟩
  have hX2 : X = [base + own_min p q, base + own_max p q] := by rw [← hX]; simp only [own_ex, p3, if_false]
  rw [hX2] at hl
  simp only [List.length_cons, List.length_nil] at hl
  refine W.aloadN d4_27 rfl rfl rfl ?_
  refine W.iloadN d4_28 rfl rfl ?_
  refine W.iloadN d4_29 rfl rfl ?_
  refine W.iload d4_30 rfl rfl ?_
  refine W.iload d4_32 rfl rfl ?_
  refine W.callS_I (B' := B8) (argsL := [_, _]) d4_34 (hw _ (List.mem_of_getElem? (i := 31) rfl)) (hw _ (List.mem_of_getElem? (i := 32) rfl)) (hw _ (List.mem_of_getElem? (i := 33) rfl)) (hw _ (List.mem_of_getElem? (i := 34) rfl)) rfl (own_c8 l Z n0 h p q) own_pf8 (by decide) own_pd8 rfl rfl rfl (fun m => by first | (simp [entryFrame, mkF, argsToLocals, Value.category]; done) | rfl) rfl rfl rfl rfl rfl rfl (fun u h1 hh => ?_)
  obtain ⟨rfl, rfl⟩ := hh
  refine W.iadd d4_37 rfl ?_
  refine W.iastore d4_38 AE n1.2.2.1 (by rw [n1.2.1]; simp; omega) he rfl (fun h2 w2 A2 => ?_)
  have e7 : 5 - M.length = (5 - (M.length + 2)) + 1 + 1 := by omega
  rw [n1.2.1, e7, own_push] at A2
  refine W.aloadN d4_39 rfl rfl rfl ?_
  refine W.iloadN d4_40 rfl rfl ?_
  refine W.iconst d4_41 own_ci_1 rfl ?_
  refine W.iadd d4_42 rfl ?_
  refine W.iloadN d4_43 rfl rfl ?_
  refine W.iload d4_44 rfl rfl ?_
  refine W.iload d4_46 rfl rfl ?_
  refine W.callS_I (B' := B9) (argsL := [_, _]) d4_48 (hw _ (List.mem_of_getElem? (i := 35) rfl)) (hw _ (List.mem_of_getElem? (i := 36) rfl)) (hw _ (List.mem_of_getElem? (i := 33) rfl)) (hw _ (List.mem_of_getElem? (i := 37) rfl)) rfl (own_c9 l Z n0 h2 p q) own_pf9 (by decide) own_pd9 rfl rfl rfl (fun m => by first | (simp [entryFrame, mkF, argsToLocals, Value.category]; done) | rfl) rfl rfl rfl rfl rfl rfl (fun u h3 hh => ?_)
  obtain ⟨rfl, rfl⟩ := hh
  refine W.iadd d4_51 rfl ?_
  have n2 := nat32 (k := M.length + 1) (by omega)
  rw [n1.2.2.2]
  refine W.iastore d4_52 A2 n2.2.2.1 (by rw [n2.2.1]; simp) he rfl (fun h4 w4 A4 => ?_)
  have e8 : (M ++ [base + own_min p q]).length = M.length + 1 := by simp
  rw [n2.2.1, ← e8, own_push] at A4
  rw [n1.2.1] at w2
  refine W.iloadN d4_53 rfl rfl ?_
  refine W.iconst d4_54 own_ci_2 rfl ?_
  refine W.iadd d4_55 rfl ?_
  refine W.ireturn d4_56 rfl ⟨_, rfl, ?_, ?_, (Keep.of_wr w2).wr w4 (Or.inl (List.mem_singleton.mpr rfl))⟩
  · rw [hX2, eq32]
    have n3 := nat32 (k := M.length + 2) (by omega)
    have k2 : (2 : Int32).toInt = 2 := by decide
    have e9 : (M ++ [base + own_min p q, base + own_max p q]).length = M.length + 2 := by simp
    rw [e9, n3.1, add32 (by rw [n1.1, k2]; omega) (by rw [n1.1, k2]; omega), n1.1, k2]
    omega
  · rw [hX2]; simpa using A4
theorem own_c2 (l : Launch) (Z : State) (n0 : Nat) (h : Heap) (a b : Addr) (G : List Int32) (i : Int32) (A : AI Z h a .int G) (B : AI Z h b .int (G ++ List.replicate (5 - G.length) 0)) (hG : G.length ≤ 5) (h0 : 0 ≤ i.toInt) :
    W l Z n0 (rmF 0 0 0 0) B2 (RI (fun r h' => r = 1 ∧ h' = h)) h 0 0 0 [.val (.ref a), .val (.ref b), .val (.int G.length.toInt32), .val (.int i)] [] := by
  have n1 := nat32 (k := G.length) (by omega)
  have k0 : (0 : Int32).toInt = 0 := by decide
  refine W.iloadN d2_0 rfl rfl ?_
  refine W.iloadN d2_1 rfl rfl ?_
  refine W.icmp_ge d2_2 (by decide) rfl rfl (fun p => ?_) (fun q => ?_)
  · refine W.iconst d2_14 own_ci_1 rfl ?_
    refine W.goto d2_15 (by decide) rfl ?_
    exact W.ireturnN d2_19 rfl (Or.inl rfl) rfl ⟨_, rfl, rfl, rfl⟩
  rw [lt32, n1.1] at q
  have hi : i.toNatClampNeg < G.length := by show i.toInt.toNat < _; omega
  have e1 : G[i.toNatClampNeg]? = some (G[i.toNatClampNeg]'hi) := List.getElem?_eq_getElem hi
  refine W.aloadN d2_5 rfl rfl rfl ?_
  refine W.iloadN d2_6 rfl rfl ?_
  refine W.iaload d2_7 A (by rw [lt32]; omega) e1 rfl ?_
  refine W.aloadN d2_8 rfl rfl rfl ?_
  refine W.iloadN d2_9 rfl rfl ?_
  refine W.iaload d2_10 B (by rw [lt32]; omega) (by rw [List.getElem?_append_left hi]; exact e1) rfl ?_
  refine W.icmp_ne d2_11 (by decide) rfl rfl (fun p => ?_) (fun q => ?_)
  · exact absurd rfl p
  refine W.iconst d2_14 own_ci_1 rfl ?_
  refine W.goto d2_15 (by decide) rfl ?_
  exact W.ireturnN d2_19 rfl (Or.inl rfl) rfl ⟨_, rfl, rfl, rfl⟩
def own_Bt (base : Int32) : Int64 → List Int32 → Prop
  | w, [] => w = 0
  | w, x :: L => ¬ w = 0 ∧ base + own_tzl w = x ∧ own_Bt base (w &&& (w - 1)) L
def own_Ok : Nat → List (Int64 × List Int32) → Prop
  | _, [] => True
  | i, p :: r => own_Bt (i.toInt32 * 64) p.1 p.2 ∧ own_bc p.1 = p.2.length.toInt32 ∧ own_Ok (i + 1) r
def own_flat : List (Int64 × List Int32) → List Int32
  | [] => []
  | p :: r => p.2 ++ own_flat r
theorem own_flat_app : ∀ a b, own_flat (a ++ b) = own_flat a ++ own_flat b
  | [], b => rfl
  | p :: r, b => by simp [own_flat, own_flat_app r b]
theorem own_atJ (d r : List (Int64 × List Int32)) (x : Int64 × List Int32) : ((d ++ x :: r).map Prod.fst)[d.length]? = some x.1 := by
  rw [List.map_append, List.getElem?_append_right (by simp)]; simp
theorem own_Ok_tail : ∀ (d r : List (Int64 × List Int32)) (k : Nat), own_Ok k (d ++ r) → own_Ok (k + d.length) r
  | [], r, k, h => h
  | p :: d, r, k, h => by
    have := own_Ok_tail d r (k + 1) h.2.2
    rw [List.length_cons]
    have e : k + (d.length + 1) = k + 1 + d.length := by omega
    rw [e]; exact this

theorem own_inner (l : Launch) (Z : State) (a0 : Array Value) (hw : ∀ d ∈ tables_1, d.before a0 Z = true) (n0 : Nat) (h0 : Heap) (ps : List (Int64 × List Int32)) (a r : Addr) (tot : Int32) (i : Nat) (ws : List Int64) (hr : n0 ≤ r) (har : a ≠ r) (m : Nat) : ∀ (X : List Int32) (w : Int64) (h : Heap) (M : List Int32), own_Bt (i.toInt32 * 64) w X → M.length ≤ 100 → M.length + X.length ≤ 100 → AJ Z h a ws → AI Z h r .int (M ++ List.replicate (X.length + m) 0) → Keep h0 h [] → h0.size ≤ r →
    (∀ h', AJ Z h' a ws → AI Z h' r .int ((M ++ X) ++ List.replicate m 0) → Keep h0 h' [] → W l Z n0 (rmF 2 1 5 31) B1 (RA (fun v h' => ∃ r, v = .ref r ∧ AI Z h' r .int (own_flat ps) ∧ n0 ≤ r ∧ Keep h0 h' [])) h' 1 5 94 [.val (.ref a), .val (.int tot), .val (.ref r), .val (.int (M ++ X).length.toInt32), .val (.int i.toInt32), .val (.long 0), .second] []) →
    W l Z n0 (rmF 2 1 5 31) B1 (RA (fun v h' => ∃ r, v = .ref r ∧ AI Z h' r .int (own_flat ps) ∧ n0 ≤ r ∧ Keep h0 h' [])) h 1 5 58 [.val (.ref a), .val (.int tot), .val (.ref r), .val (.int M.length.toInt32), .val (.int i.toInt32), .val (.long w), .second] [] := by
  intro X
  induction X with
  | nil =>
    intro w h M hB hm hmx AJ1 AI1 K0 hr0 K
    have hw0 : w = 0 := hB
    subst hw0
    refine W.lload d1_58 rfl rfl ?_
    refine W.lconst d1_60 own_cj_0 rfl ?_
    refine W.lcmp d1_61 rfl ?_
    refine W.ifc_eq d1_62 (by decide) rfl rfl (fun p => ?_) (fun q => ?_)
    · have := K h AJ1 (by simpa using AI1) K0
      simpa using this
    · exact absurd ((lw_eq _ _).mpr rfl) q
  | cons x X ih =>
    intro w h M hB hm hmx AJ1 AI1 K0 hr0 K
    obtain ⟨b1, b2, b3⟩ := hB
    have n1 := nat32 (k := M.length) (by omega)
    refine W.lload d1_58 rfl rfl ?_
    refine W.lconst d1_60 own_cj_0 rfl ?_
    refine W.lcmp d1_61 rfl ?_
    refine W.ifc_eq d1_62 (by decide) rfl rfl (fun p => ?_) (fun q => ?_)
    · exact absurd ((lw_eq _ _).mp p) b1
    refine W.aloadN d1_65 rfl rfl rfl ?_
    refine W.iloadN d1_66 rfl rfl ?_
    refine W.iinc d1_67 rfl own_ci_1 (Put.s (Put.s (Put.s Put.z))) rfl ?_
    refine W.iload d1_70 rfl rfl ?_
    refine W.bipush d1_72 own_cb_64 rfl ?_
    refine W.imul d1_74 rfl ?_
    refine W.lload d1_75 rfl rfl ?_
    refine W.callS_I (B' := B6) (argsL := [_]) d1_77 (hw _ (List.mem_of_getElem? (i := 23) rfl)) (hw _ (List.mem_of_getElem? (i := 24) rfl)) (hw _ (List.mem_of_getElem? (i := 18) rfl)) (hw _ (List.mem_of_getElem? (i := 25) rfl)) rfl (own_c6 l Z a0 hw n0 h w) own_pf6 (by decide) own_pd6 rfl rfl rfl (fun m => by first | (simp [entryFrame, mkF, argsToLocals, Value.category]; done) | rfl) rfl rfl rfl rfl rfl rfl (fun u h1 hh => ?_)
    obtain ⟨rfl, rfl⟩ := hh
    refine W.iadd d1_80 rfl ?_
    rw [b2]
    have e1 : (x :: X).length + m = (X.length + m) + 1 := by simp; omega
    rw [e1] at AI1
    refine W.iastore d1_81 AI1 n1.2.2.1 (by rw [n1.2.1]; simp) hr rfl (fun h2 w2 A2 => ?_)
    rw [n1.2.1, own_push] at A2
    have hml : (M ++ [x]).length = M.length + 1 := by simp
    refine W.lload d1_82 rfl rfl ?_
    refine W.lload d1_84 rfl rfl ?_
    refine W.lconst d1_86 own_cj_1 rfl ?_
    refine W.lsub d1_87 rfl ?_
    refine W.land d1_88 rfl ?_
    refine W.lstore d1_89 (Put2.s (Put2.s (Put2.s (Put2.s (Put2.s Put2.z))))) rfl rfl rfl rfl ?_
    refine W.goto d1_91 (by decide) rfl ?_
    rw [n1.2.2.2, ← hml]
    refine ih _ h2 (M ++ [x]) b3 (by simp at hmx ⊢; omega) (by simp at hmx ⊢; omega) (AJ1.other w2 har) A2 (K0.wr w2 (Or.inr hr0)) hr0 ?_
    intro h' g1 g2 g3
    have e2 : M ++ [x] ++ X = M ++ x :: X := by simp
    rw [e2] at g2 ⊢
    exact K h' g1 g2 g3
theorem own_outer (l : Launch) (Z : State) (a0 : Array Value) (hw : ∀ d ∈ tables_1, d.before a0 Z = true) (n0 : Nat) (h0 : Heap) (ps : List (Int64 × List Int32)) (a r : Addr) (tot : Int32) (hr : n0 ≤ r) (har : a ≠ r) (hps : ps.length ≤ 50) (hfl : (own_flat ps).length ≤ 50) (hok : own_Ok 0 ps) (hr0 : h0.size ≤ r) : ∀ (rem done : List (Int64 × List Int32)) (h : Heap) (s5 s6 : Slot), ps = done ++ rem → two2 s5 s6 = true → AJ Z h a (ps.map Prod.fst) → AI Z h r .int (own_flat done ++ List.replicate (own_flat rem).length 0) → Keep h0 h [] →
    W l Z n0 (rmF 2 1 5 31) B1 (RA (fun v h' => ∃ r, v = .ref r ∧ AI Z h' r .int (own_flat ps) ∧ n0 ≤ r ∧ Keep h0 h' [])) h 1 5 45 [.val (.ref a), .val (.int tot), .val (.ref r), .val (.int (own_flat done).length.toInt32), .val (.int done.length.toInt32), s5, s6] [] := by
  intro rem
  induction rem with
  | nil =>
    intro done h s5 s6 hd h56 AJ1 AI1 K0
    have hlen : done.length = (ps.map Prod.fst).length := by rw [hd]; simp
    refine W.iload d1_45 rfl rfl ?_
    refine W.aloadN d1_47 rfl rfl rfl ?_
    refine W.arraylengthJ d1_48 AJ1 rfl rfl ?_
    rw [hlen]
    refine W.icmp_ge d1_49 (by decide) rfl rfl (fun p => ?_) (fun q => ?_)
    · refine W.aloadN d1_100 rfl rfl rfl ?_
      refine W.areturn d1_101 rfl rfl rfl rfl ⟨_, rfl, r, rfl, ?_, hr, K0⟩
      have e : ps = done := by rw [hd]; simp
      rw [e]; simpa [own_flat] using AI1
    · rw [lt32] at q; omega
  | cons x rem ih =>
    intro done h s5 s6 hd h56 AJ1 AI1 K0
    have hlen : done.length < ps.length := by rw [hd]; simp
    have n1 := nat32 (k := done.length) (by omega)
    have n2 := nat32 (k := ps.length) (by omega)
    have hnext : ps = (done ++ [x]) ++ rem := by rw [hd]; simp
    have hdl : (done ++ [x]).length = done.length + 1 := by simp
    have ht : own_Ok (0 + done.length) (x :: rem) := own_Ok_tail done (x :: rem) 0 (hd ▸ hok)
    rw [Nat.zero_add] at ht
    have hsum : (own_flat done).length + (x.2.length + (own_flat rem).length) ≤ 50 := by
      rw [hd, own_flat_app] at hfl; simpa [own_flat] using hfl
    refine W.iload d1_45 rfl rfl ?_
    refine W.aloadN d1_47 rfl rfl rfl ?_
    refine W.arraylengthJ (n := ps.length.toInt32) d1_48 AJ1 (by simp) rfl ?_
    refine W.icmp_ge d1_49 (by decide) rfl rfl (fun p => ?_) (fun q => ?_)
    · rw [lt32, n1.1, n2.1] at p; omega
    refine W.aloadN d1_52 rfl rfl rfl ?_
    refine W.iload d1_53 rfl rfl ?_
    refine W.laload d1_55 AJ1 n1.2.2.1 (v := x.1) (by rw [n1.2.1, hd]; exact own_atJ _ _ _) rfl ?_
    refine W.lstore d1_56 (Put2.s (Put2.s (Put2.s (Put2.s (Put2.s Put2.z))))) rfl rfl h56 rfl ?_
    have e1 : (own_flat (x :: rem)).length = x.2.length + (own_flat rem).length := by simp [own_flat]
    rw [e1] at AI1
    refine own_inner l Z a0 hw n0 h0 ps a r tot done.length _ hr har (own_flat rem).length x.2 x.1 h (own_flat done) ht.1 (by omega) (by omega) AJ1 AI1 K0 hr0 ?_
    intro h' g1 g2 g3
    have e2 : own_flat (done ++ [x]) = own_flat done ++ x.2 := by simp [own_flat_app, own_flat]
    rw [← e2] at g2 ⊢
    refine W.iinc d1_94 rfl own_ci_1 (Put.s (Put.s (Put.s (Put.s Put.z)))) rfl ?_
    refine W.goto d1_97 (by decide) rfl ?_
    rw [n1.2.2.2, ← hdl]
    exact ih (done ++ [x]) h' _ _ hnext rfl g1 g2 g3
theorem own_mid (l : Launch) (Z : State) (a0 : Array Value) (hw : ∀ d ∈ tables_1, d.before a0 Z = true) (n0 : Nat) (h : Heap) (ps : List (Int64 × List Int32)) (a : Addr) (s4 s5 s6 : Slot) (s3 : Int32) (hn : n0 ≤ h.size) (hps : ps.length ≤ 50) (hfl : (own_flat ps).length ≤ 5) (hok : own_Ok 0 ps) (A : AJ Z h a (ps.map Prod.fst)) (h4 : one1 s4 = true) (h56 : two2 s5 s6 = true) :
    W l Z n0 (rmF 2 1 5 31) B1 (RA (fun v h' => ∃ r, v = .ref r ∧ AI Z h' r .int (own_flat ps) ∧ n0 ≤ r ∧ Keep h h' [])) h 0 0 36 [.val (.ref a), .val (.int (own_flat ps).length.toInt32), .val (.ref a), .val (.int s3), s4, s5, s6] [] := by
  have n1 := nat32 (k := (own_flat ps).length) (by omega)
  refine W.iloadN d1_36 rfl rfl ?_
  refine W.newarrayI (ty := .int) (cap := 5) d1_37 rfl rfl (hw _ (List.mem_of_getElem? (i := 1) rfl)) n1.2.2.1 (by rw [n1.2.1]; omega) (by decide) (by decide) (by decide) rfl (fun h1 E1 A1 => ?_)
  rw [n1.2.1] at A1
  refine W.astoreN d1_39 rfl (Put.s (Put.s Put.z)) rfl rfl rfl ?_
  refine W.iconst d1_40 own_ci_0 rfl ?_
  refine W.istoreN d1_41 (Put.s (Put.s (Put.s Put.z))) rfl rfl rfl ?_
  refine W.iconst d1_42 own_ci_0 rfl ?_
  refine W.istore d1_43 (Put.s (Put.s (Put.s (Put.s Put.z)))) rfl h4 rfl ?_
  exact own_outer l Z a0 hw n0 h ps a h.size _ hn (Nat.ne_of_lt A.lt) hps (by omega) hok (Nat.le_refl _) ps [] h1 s5 s6 rfl h56 (A.ext E1) A1 ((Keep.refl h []).ext E1)
theorem own_loop1 (l : Launch) (Z : State) (a0 : Array Value) (hw : ∀ d ∈ tables_1, d.before a0 Z = true) (n0 : Nat) (h : Heap) (ps : List (Int64 × List Int32)) (a : Addr) (hn : n0 ≤ h.size) (hps : ps.length ≤ 50) (hfl : (own_flat ps).length ≤ 5) (hok : own_Ok 0 ps) (A : AJ Z h a (ps.map Prod.fst)) : ∀ (rem done : List (Int64 × List Int32)) (s5 s6 : Slot), ps = done ++ rem → two2 s5 s6 = true →
    W l Z n0 (rmF 2 1 5 31) B1 (RA (fun v h' => ∃ r, v = .ref r ∧ AI Z h' r .int (own_flat ps) ∧ n0 ≤ r ∧ Keep h h' [])) h 0 0 10 [.val (.ref a), .val (.int (own_flat done).length.toInt32), .val (.ref a), .val (.int ps.length.toInt32), .val (.int done.length.toInt32), s5, s6] [] := by
  intro rem
  have n2 := nat32 (k := ps.length) (by omega)
  induction rem with
  | nil =>
    intro done s5 s6 hd h56
    have e : ps = done := by rw [hd]; simp
    have hlen : done.length = ps.length := by rw [e]
    refine W.iload d1_10 rfl rfl ?_
    refine W.iloadN d1_12 rfl rfl ?_
    refine W.icmp_ge d1_13 (by decide) rfl rfl (fun p => ?_) (fun q => ?_)
    · rw [← e]
      exact own_mid l Z a0 hw n0 h ps a _ s5 s6 _ hn hps hfl hok A rfl h56
    · rw [hlen, lt32] at q; omega
  | cons x rem ih =>
    intro done s5 s6 hd h56
    have hlen : done.length < ps.length := by rw [hd]; simp
    have n1 := nat32 (k := done.length) (by omega)
    have hnext : ps = (done ++ [x]) ++ rem := by rw [hd]; simp
    have hdl : (done ++ [x]).length = done.length + 1 := by simp
    have ht : own_Ok (0 + done.length) (x :: rem) := own_Ok_tail done (x :: rem) 0 (hd ▸ hok)
    have hsum : (own_flat done).length + (x.2.length + (own_flat rem).length) ≤ 5 := by
      rw [hd, own_flat_app] at hfl; simpa [own_flat] using hfl
    have e2 : own_flat (done ++ [x]) = own_flat done ++ x.2 := by simp [own_flat_app, own_flat]
    refine W.iload d1_10 rfl rfl ?_
    refine W.iloadN d1_12 rfl rfl ?_
    refine W.icmp_ge d1_13 (by decide) rfl rfl (fun p => ?_) (fun q => ?_)
    · rw [lt32, n1.1, n2.1] at p; omega
    refine W.aloadN d1_16 rfl rfl rfl ?_
    refine W.iload d1_17 rfl rfl ?_
    refine W.laload d1_19 A n1.2.2.1 (v := x.1) (by rw [n1.2.1, hd]; exact own_atJ _ _ _) rfl ?_
    refine W.lstore d1_20 (Put2.s (Put2.s (Put2.s (Put2.s (Put2.s Put2.z))))) rfl rfl h56 rfl ?_
    refine W.iloadN d1_22 rfl rfl ?_
    refine W.lload d1_23 rfl rfl ?_
    refine W.callS_I (B' := B5) (argsL := [_]) d1_25 (hw _ (List.mem_of_getElem? (i := 16) rfl)) (hw _ (List.mem_of_getElem? (i := 17) rfl)) (hw _ (List.mem_of_getElem? (i := 18) rfl)) (hw _ (List.mem_of_getElem? (i := 19) rfl)) rfl (own_c5 l Z a0 hw n0 h x.1) own_pf5 (by decide) own_pd5 rfl rfl rfl (fun m => by first | (simp [entryFrame, mkF, argsToLocals, Value.category]; done) | rfl) rfl rfl rfl rfl rfl rfl (fun u h1 hh => ?_)
    obtain ⟨rfl, rfl⟩ := hh
    rw [ht.2.1]
    refine W.iadd d1_28 rfl ?_
    refine W.istoreN d1_29 (Put.s Put.z) rfl rfl rfl ?_
    refine W.iinc d1_30 rfl own_ci_1 (Put.s (Put.s (Put.s (Put.s Put.z)))) rfl ?_
    refine W.goto d1_33 (by decide) rfl ?_
    have e3 : (own_flat done).length.toInt32 + x.2.length.toInt32 = (own_flat (done ++ [x])).length.toInt32 := by
      rw [e2, List.length_append]
      show Int32.ofNat _ + Int32.ofNat _ = Int32.ofNat _
      rw [Int32.ofNat_add]
    rw [n1.2.2.2, e3, ← hdl]
    exact ih (done ++ [x]) _ _ hnext rfl
theorem own_c1 (l : Launch) (Z : State) (a0 : Array Value) (hw : ∀ d ∈ tables_1, d.before a0 Z = true) (n0 : Nat) (h : Heap) (ps : List (Int64 × List Int32)) (a : Addr) (hn : n0 ≤ h.size) (hps : ps.length ≤ 50) (hfl : (own_flat ps).length ≤ 5) (hok : own_Ok 0 ps) (A : AJ Z h a (ps.map Prod.fst)) :
    W l Z n0 (rmF 2 1 5 31) B1 (RA (fun v h' => ∃ r, v = .ref r ∧ AI Z h' r .int (own_flat ps) ∧ n0 ≤ r ∧ Keep h h' [])) h 0 0 0 [.val (.ref a), .unset, .unset, .unset, .unset, .unset, .unset] [] := by
  refine W.iconst d1_0 own_ci_0 rfl ?_
  refine W.istoreN d1_1 (Put.s Put.z) rfl rfl rfl ?_
  refine W.aloadN d1_2 rfl rfl rfl ?_
  refine W.astoreN d1_3 rfl (Put.s (Put.s Put.z)) rfl rfl rfl ?_
  refine W.aloadN d1_4 rfl rfl rfl ?_
  refine W.arraylengthJ (n := ps.length.toInt32) d1_5 A (by simp) rfl ?_
  refine W.istoreN d1_6 (Put.s (Put.s (Put.s Put.z))) rfl rfl rfl ?_
  refine W.iconst d1_7 own_ci_0 rfl ?_
  refine W.istore d1_8 (Put.s (Put.s (Put.s (Put.s Put.z)))) rfl rfl rfl ?_
  exact own_loop1 l Z a0 hw n0 h ps a hn hps hfl hok A ps [] .unset .unset rfl rfl
theorem own_f2 : ∀ j k : Fin 64, ¬ own_w true true j.val.toInt32 k.val.toInt32 = 0 ∧ own_tzl (own_w true true j.val.toInt32 k.val.toInt32) = own_min j.val.toInt32 k.val.toInt32 ∧ (own_w true true j.val.toInt32 k.val.toInt32 &&& (own_w true true j.val.toInt32 k.val.toInt32 - 1)) = (if j.val = k.val then 0 else own_w true false (own_max j.val.toInt32 k.val.toInt32) 0) ∧ own_bc (own_w true true j.val.toInt32 k.val.toInt32) = (if j.val = k.val then 1 else 2) := by decide +kernel
theorem own_f1 : ∀ j : Fin 64, ¬ own_w true false j.val.toInt32 0 = 0 ∧ own_tzl (own_w true false j.val.toInt32 0) = j.val.toInt32 ∧ (own_w true false j.val.toInt32 0 &&& (own_w true false j.val.toInt32 0 - 1)) = 0 ∧ own_bc (own_w true false j.val.toInt32 0) = 1 := by decide +kernel
theorem own_f0 : own_bc 0 = 0 := by decide +kernel
theorem own_inj : ∀ j k : Fin 64, (j.val.toInt32 = k.val.toInt32 ↔ j.val = k.val) := by decide +kernel
theorem own_fin (p : Int32) (h0 : 0 ≤ p.toInt) (h1 : p.toInt < 64) : ∃ j : Fin 64, p = j.val.toInt32 := by
  refine ⟨⟨p.toInt.toNat, by omega⟩, ?_⟩
  rw [eq32, (nat32 (k := p.toInt.toNat) (by omega)).1]
  omega
theorem own_word (base : Int32) (f g : Bool) (p q : Int32) (hp : 0 ≤ p.toInt ∧ p.toInt < 64) (hq : 0 ≤ q.toInt ∧ q.toInt < 64) : own_Bt base (own_w f g p q) (own_ex base f g p q) ∧ own_bc (own_w f g p q) = (own_ex base f g p q).length.toInt32 ∧ (own_ex base f g p q).length ≤ (own_bi f).toInt.toNat + (own_bi g).toInt.toNat := by
  obtain ⟨j, rfl⟩ := own_fin p hp.1 hp.2
  obtain ⟨k, rfl⟩ := own_fin q hq.1 hq.2
  have one : ∀ j : Fin 64, own_Bt base (own_w true false j.val.toInt32 0) [base + j.val.toInt32] := by
    intro j
    obtain ⟨a1, a2, a3, -⟩ := own_f1 j
    exact ⟨a1, by rw [a2], a3⟩
  match f, g with
  | false, false => exact ⟨rfl, own_f0, leb rfl⟩
  | true, false => exact ⟨one j, (own_f1 j).2.2.2, by simp [own_ex]; decide⟩
  | false, true => exact ⟨one k, (own_f1 k).2.2.2, by simp [own_ex]; decide⟩
  | true, true =>
    obtain ⟨a1, a2, a3, a4⟩ := own_f2 j k
    by_cases e : j.val = k.val
    · have e' := (own_inj j k).mpr e
      rw [if_pos e] at a3 a4
      have hx : own_ex base true true j.val.toInt32 k.val.toInt32 = [base + j.val.toInt32] := by simp only [own_ex, e', if_true]
      rw [hx]
      refine ⟨⟨a1, ?_, a3⟩, a4, leb rfl⟩
      rw [a2, e']; simp
    · have e' : ¬ j.val.toInt32 = k.val.toInt32 := fun z => e ((own_inj j k).mp z)
      rw [if_neg e] at a3 a4
      have hx : own_ex base true true j.val.toInt32 k.val.toInt32 = [base + own_min j.val.toInt32 k.val.toInt32, base + own_max j.val.toInt32 k.val.toInt32] := by simp only [own_ex, e', if_false]
      rw [hx]
      refine ⟨⟨a1, by rw [a2], ?_⟩, a4, leb rfl⟩
      rw [a3]
      by_cases c : j.val.toInt32 < k.val.toInt32
      · have : own_max j.val.toInt32 k.val.toInt32 = k.val.toInt32 := if_pos c
        rw [this]; exact one k
      · have : own_max j.val.toInt32 k.val.toInt32 = j.val.toInt32 := if_neg c
        rw [this]; exact one j
theorem own_t257 (l : Launch) (Z : State) (a0 : Array Value) (hw : ∀ d ∈ tables_1, d.before a0 Z = true) (h : Heap) (ln : Int32) (i0 i1 i2 i3 i4 i5 : Int32) (fa fb fc fd fe : Bool) (pa pb pc pd pe : Int32) (ba ea : Addr) (qs : List (Int64 × List Int32)) (AB : AJ Z h ba (qs.map Prod.fst)) (AE : AI Z h ea .int (own_flat qs ++ List.replicate (5 - (own_flat qs).length) 0)) (hok : own_Ok 0 qs) (hfl : (own_flat qs).length ≤ 5) (hq : qs.length ≤ 50) (hn : Z.heap.size ≤ h.size) :
    W l Z Z.heap.size room_1 B0 (fun v _ => v = some (.int 1)) h 2 8 257 [.val (.int i0), .val (.int i1), .val (.int i2), .val (.int i3), .val (.int i4), .val (.int i5), .val (.int ln), .val (.int (own_bi fa)), .val (.int (own_bi fb)), .val (.int (own_bi fc)), .val (.int (own_bi fd)), .val (.int (own_bi fe)), .val (.int pa), .val (.int pb), .val (.int pc), .val (.int pd), .val (.int pe), .val (.ref ba), .val (.ref ea), .val (.int (own_flat qs).length.toInt32), .unset] [] := by
  refine W.aload at_257 rfl rfl rfl ?_
  refine W.callS_A (B' := B1) (argsL := [_]) at_259 (hw _ (List.mem_of_getElem? (i := 2) rfl)) (hw _ (List.mem_of_getElem? (i := 3) rfl)) (hw _ (List.mem_of_getElem? (i := 4) rfl)) (hw _ (List.mem_of_getElem? (i := 5) rfl)) rfl (own_c1 l Z a0 hw _ h qs ba hn hq hfl hok AB) own_pf1 (by decide) own_pd1 rfl rfl rfl (fun m => by first | (simp [entryFrame, mkF, argsToLocals, Value.category]; done) | rfl) rfl rfl rfl rfl rfl rfl (fun u h1 hh => ?_)
  obtain ⟨r, rfl, AG, hr, K1⟩ := hh
  have AE := AE.keep K1 nin0
  refine W.astore at_262 rfl (Put.s (Put.s (Put.s (Put.s (Put.s (Put.s (Put.s (Put.s (Put.s (Put.s (Put.s (Put.s (Put.s (Put.s (Put.s (Put.s (Put.s (Put.s (Put.s (Put.s Put.z)))))))))))))))))))) rfl rfl rfl ?_
  refine W.aload at_264 rfl rfl rfl ?_
  refine W.arraylengthI at_266 AG rfl rfl ?_
  refine W.iload at_267 rfl rfl ?_
  refine W.icmp_eq at_269 (by decide) rfl rfl (fun p => ?_) (fun q => ?_)
  rotate_left
  · exact absurd rfl q
  refine W.aload at_274 rfl rfl rfl ?_
  refine W.aload at_276 rfl rfl rfl ?_
  refine W.iload at_278 rfl rfl ?_
  refine W.iconst at_280 own_ci_0 rfl ?_
  refine W.callS_I (B' := B2) (argsL := [_, _, _, _]) at_281 (hw _ (List.mem_of_getElem? (i := 6) rfl)) (hw _ (List.mem_of_getElem? (i := 7) rfl)) (hw _ (List.mem_of_getElem? (i := 8) rfl)) (hw _ (List.mem_of_getElem? (i := 9) rfl)) rfl (own_c2 l Z _ _ _ _ _ 0 AG AE hfl (by decide)) own_pf2 (by decide) own_pd2 rfl rfl rfl (fun m => by first | (simp [entryFrame, mkF, argsToLocals, Value.category]; done) | rfl) rfl rfl rfl rfl rfl rfl (fun u h' hh => ?_)
  obtain ⟨rfl, rfl⟩ := hh
  refine W.ifc_eq at_284 (by decide) rfl rfl (fun p => ?_) (fun q => ?_)
  · exact absurd p (by decide)
  refine W.aload at_287 rfl rfl rfl ?_
  refine W.aload at_289 rfl rfl rfl ?_
  refine W.iload at_291 rfl rfl ?_
  refine W.iconst at_293 own_ci_1 rfl ?_
  refine W.callS_I (B' := B2) (argsL := [_, _, _, _]) at_294 (hw _ (List.mem_of_getElem? (i := 6) rfl)) (hw _ (List.mem_of_getElem? (i := 7) rfl)) (hw _ (List.mem_of_getElem? (i := 8) rfl)) (hw _ (List.mem_of_getElem? (i := 9) rfl)) rfl (own_c2 l Z _ _ _ _ _ 1 AG AE hfl (by decide)) own_pf2 (by decide) own_pd2 rfl rfl rfl (fun m => by first | (simp [entryFrame, mkF, argsToLocals, Value.category]; done) | rfl) rfl rfl rfl rfl rfl rfl (fun u h' hh => ?_)
  obtain ⟨rfl, rfl⟩ := hh
  refine W.ifc_eq at_297 (by decide) rfl rfl (fun p => ?_) (fun q => ?_)
  · exact absurd p (by decide)
  refine W.aload at_300 rfl rfl rfl ?_
  refine W.aload at_302 rfl rfl rfl ?_
  refine W.iload at_304 rfl rfl ?_
  refine W.iconst at_306 own_ci_2 rfl ?_
  refine W.callS_I (B' := B2) (argsL := [_, _, _, _]) at_307 (hw _ (List.mem_of_getElem? (i := 6) rfl)) (hw _ (List.mem_of_getElem? (i := 7) rfl)) (hw _ (List.mem_of_getElem? (i := 8) rfl)) (hw _ (List.mem_of_getElem? (i := 9) rfl)) rfl (own_c2 l Z _ _ _ _ _ 2 AG AE hfl (by decide)) own_pf2 (by decide) own_pd2 rfl rfl rfl (fun m => by first | (simp [entryFrame, mkF, argsToLocals, Value.category]; done) | rfl) rfl rfl rfl rfl rfl rfl (fun u h' hh => ?_)
  obtain ⟨rfl, rfl⟩ := hh
  refine W.ifc_eq at_310 (by decide) rfl rfl (fun p => ?_) (fun q => ?_)
  · exact absurd p (by decide)
  refine W.aload at_313 rfl rfl rfl ?_
  refine W.aload at_315 rfl rfl rfl ?_
  refine W.iload at_317 rfl rfl ?_
  refine W.iconst at_319 own_ci_3 rfl ?_
  refine W.callS_I (B' := B2) (argsL := [_, _, _, _]) at_320 (hw _ (List.mem_of_getElem? (i := 6) rfl)) (hw _ (List.mem_of_getElem? (i := 7) rfl)) (hw _ (List.mem_of_getElem? (i := 8) rfl)) (hw _ (List.mem_of_getElem? (i := 9) rfl)) rfl (own_c2 l Z _ _ _ _ _ 3 AG AE hfl (by decide)) own_pf2 (by decide) own_pd2 rfl rfl rfl (fun m => by first | (simp [entryFrame, mkF, argsToLocals, Value.category]; done) | rfl) rfl rfl rfl rfl rfl rfl (fun u h' hh => ?_)
  obtain ⟨rfl, rfl⟩ := hh
  refine W.ifc_eq at_323 (by decide) rfl rfl (fun p => ?_) (fun q => ?_)
  · exact absurd p (by decide)
  refine W.aload at_326 rfl rfl rfl ?_
  refine W.aload at_328 rfl rfl rfl ?_
  refine W.iload at_330 rfl rfl ?_
  refine W.iconst at_332 own_ci_4 rfl ?_
  refine W.callS_I (B' := B2) (argsL := [_, _, _, _]) at_333 (hw _ (List.mem_of_getElem? (i := 6) rfl)) (hw _ (List.mem_of_getElem? (i := 7) rfl)) (hw _ (List.mem_of_getElem? (i := 8) rfl)) (hw _ (List.mem_of_getElem? (i := 9) rfl)) rfl (own_c2 l Z _ _ _ _ _ 4 AG AE hfl (by decide)) own_pf2 (by decide) own_pd2 rfl rfl rfl (fun m => by first | (simp [entryFrame, mkF, argsToLocals, Value.category]; done) | rfl) rfl rfl rfl rfl rfl rfl (fun u h' hh => ?_)
  obtain ⟨rfl, rfl⟩ := hh
  refine W.ifc_eq at_336 (by decide) rfl rfl (fun p => ?_) (fun q => ?_)
  · exact absurd p (by decide)
  refine W.iconst at_339 own_ci_1 rfl ?_
  refine W.goto at_340 (by decide) rfl ?_
  exact W.ireturnN at_344 rfl (Or.inl rfl) rfl rfl
set_option maxHeartbeats 8000000 in
theorem own_n0 (l : Launch) (Z : State) (a0 : Array Value) (hw : ∀ d ∈ tables_1, d.before a0 Z = true) (i0 i1 i2 i3 i4 i5 : Int32) (fa fb fc fd fe : Bool) (pa pb pc pd pe : Int32) (ha : 0 ≤ pa.toInt ∧ pa.toInt < 64) (hb : 0 ≤ pb.toInt ∧ pb.toInt < 64) (hc : 0 ≤ pc.toInt ∧ pc.toInt < 64) (hd : 0 ≤ pd.toInt ∧ pd.toInt < 64) (he : 0 ≤ pe.toInt ∧ pe.toInt < 64) : W l Z Z.heap.size room_1 B0 (fun v _ => v = some (.int 1)) Z.heap 0 0 111 [.val (.int i0), .val (.int i1), .val (.int i2), .val (.int i3), .val (.int i4), .val (.int i5), .val (.int 0), .val (.int (own_bi fa)), .val (.int (own_bi fb)), .val (.int (own_bi fc)), .val (.int (own_bi fd)), .val (.int (own_bi fe)), .val (.int pa), .val (.int pb), .val (.int pc), .val (.int pd), .val (.int pe), .unset, .unset, .unset, .unset] [] := by
  have bl : ∀ b : Bool, (own_bi b).toInt.toNat ≤ 1 := by intro b; cases b <;> decide
  have g0 := own_word 0 fa fb pa pb ha hb
  have g1 := own_word 64 fc fd pc pd hc hd
  have g2 := own_word 128 fe false pe 0 he (by decide)
  have y0 := bl fa
  have y1 := bl fb
  have y2 := bl fc
  have y3 := bl fd
  have y4 := bl fe
  have y5 : (own_bi false).toInt.toNat = 0 := by decide
  refine W.iload at_111 rfl rfl ?_
  refine W.newarrayJ (cap := 3) at_113 (hw _ (List.mem_of_getElem? (i := 0) rfl)) (by decide) (by decide) (by decide) (by decide) (by decide) rfl (fun h0 E0 A0 => ?_)
  have A0 : AJ Z h0 Z.heap.size [] := A0
  refine W.astore at_115 rfl (Put.s (Put.s (Put.s (Put.s (Put.s (Put.s (Put.s (Put.s (Put.s (Put.s (Put.s (Put.s (Put.s (Put.s (Put.s (Put.s (Put.s Put.z))))))))))))))))) rfl rfl rfl ?_
  refine W.iload at_117 rfl rfl ?_
  refine W.ifc_le at_119 (by decide) rfl rfl (fun p => ?_) (fun q => ?_)
  rotate_left
  · exact absurd q (by decide)
  refine W.iload at_137 rfl rfl ?_
  refine W.iconst at_139 own_ci_1 rfl ?_
  refine W.icmp_le at_140 (by decide) rfl rfl (fun p => ?_) (fun q => ?_)
  rotate_left
  · exact absurd q (by decide)
  refine W.iload at_158 rfl rfl ?_
  refine W.iconst at_160 own_ci_2 rfl ?_
  refine W.icmp_le at_161 (by decide) rfl rfl (fun p => ?_) (fun q => ?_)
  rotate_left
  · exact absurd q (by decide)
  refine W.iconst at_177 own_ci_5 rfl ?_
  refine W.newarrayI (ty := .int) (cap := 5) at_178 rfl rfl (hw _ (List.mem_of_getElem? (i := 1) rfl)) (by decide) (by decide) (by decide) (by decide) (by decide) rfl (fun hx Ex AE => ?_)
  have hz := A0.lt
  have A0 := A0.ext Ex
  have hne := Nat.ne_of_lt hz
  have AE : AI Z hx _ .int ([] ++ List.replicate (5 - 0) 0) := AE
  refine W.astore at_180 rfl (Put.s (Put.s (Put.s (Put.s (Put.s (Put.s (Put.s (Put.s (Put.s (Put.s (Put.s (Put.s (Put.s (Put.s (Put.s (Put.s (Put.s (Put.s Put.z)))))))))))))))))) rfl rfl rfl ?_
  refine W.iconst at_182 own_ci_0 rfl ?_
  refine W.istore at_183 (Put.s (Put.s (Put.s (Put.s (Put.s (Put.s (Put.s (Put.s (Put.s (Put.s (Put.s (Put.s (Put.s (Put.s (Put.s (Put.s (Put.s (Put.s (Put.s Put.z))))))))))))))))))) rfl rfl rfl ?_
  refine W.iload at_185 rfl rfl ?_
  refine W.ifc_le at_187 (by decide) rfl rfl (fun p => ?_) (fun q => ?_)
  rotate_left
  · exact absurd q (by decide)
  refine W.iload at_208 rfl rfl ?_
  refine W.iconst at_210 own_ci_1 rfl ?_
  refine W.icmp_le at_211 (by decide) rfl rfl (fun p => ?_) (fun q => ?_)
  rotate_left
  · exact absurd q (by decide)
  refine W.iload at_233 rfl rfl ?_
  refine W.iconst at_235 own_ci_2 rfl ?_
  refine W.icmp_le at_236 (by decide) rfl rfl (fun p => ?_) (fun q => ?_)
  rotate_left
  · exact absurd q (by decide)
  have hfe : own_flat [] = [] := by simp [own_flat]
  exact own_t257 l Z a0 hw _ _ i0 i1 i2 i3 i4 i5 fa fb fc fd fe pa pb pc pd pe _ _ [] A0 AE trivial (by decide) (by decide) (Nat.le_of_lt A0.lt)
set_option maxHeartbeats 8000000 in
theorem own_n1 (l : Launch) (Z : State) (a0 : Array Value) (hw : ∀ d ∈ tables_1, d.before a0 Z = true) (i0 i1 i2 i3 i4 i5 : Int32) (fa fb fc fd fe : Bool) (pa pb pc pd pe : Int32) (ha : 0 ≤ pa.toInt ∧ pa.toInt < 64) (hb : 0 ≤ pb.toInt ∧ pb.toInt < 64) (hc : 0 ≤ pc.toInt ∧ pc.toInt < 64) (hd : 0 ≤ pd.toInt ∧ pd.toInt < 64) (he : 0 ≤ pe.toInt ∧ pe.toInt < 64) : W l Z Z.heap.size room_1 B0 (fun v _ => v = some (.int 1)) Z.heap 0 0 111 [.val (.int i0), .val (.int i1), .val (.int i2), .val (.int i3), .val (.int i4), .val (.int i5), .val (.int 1), .val (.int (own_bi fa)), .val (.int (own_bi fb)), .val (.int (own_bi fc)), .val (.int (own_bi fd)), .val (.int (own_bi fe)), .val (.int pa), .val (.int pb), .val (.int pc), .val (.int pd), .val (.int pe), .unset, .unset, .unset, .unset] [] := by
  have bl : ∀ b : Bool, (own_bi b).toInt.toNat ≤ 1 := by intro b; cases b <;> decide
  have g0 := own_word 0 fa fb pa pb ha hb
  have g1 := own_word 64 fc fd pc pd hc hd
  have g2 := own_word 128 fe false pe 0 he (by decide)
  have y0 := bl fa
  have y1 := bl fb
  have y2 := bl fc
  have y3 := bl fd
  have y4 := bl fe
  have y5 : (own_bi false).toInt.toNat = 0 := by decide
  refine W.iload at_111 rfl rfl ?_
  refine W.newarrayJ (cap := 3) at_113 (hw _ (List.mem_of_getElem? (i := 0) rfl)) (by decide) (by decide) (by decide) (by decide) (by decide) rfl (fun h0 E0 A0 => ?_)
  have A0 : AJ Z h0 Z.heap.size [0] := A0
  refine W.astore at_115 rfl (Put.s (Put.s (Put.s (Put.s (Put.s (Put.s (Put.s (Put.s (Put.s (Put.s (Put.s (Put.s (Put.s (Put.s (Put.s (Put.s (Put.s Put.z))))))))))))))))) rfl rfl rfl ?_
  refine W.iload at_117 rfl rfl ?_
  refine W.ifc_le at_119 (by decide) rfl rfl (fun p => ?_) (fun q => ?_)
  · exact absurd (by decide) p
  refine W.aload at_122 rfl rfl rfl ?_
  refine W.iconst at_124 own_ci_0 rfl ?_
  refine W.iload at_125 rfl rfl ?_
  refine W.iload at_127 rfl rfl ?_
  refine W.iload at_129 rfl rfl ?_
  refine W.iload at_131 rfl rfl ?_
  refine W.callS_J (B' := B3) (argsL := [_, _, _, _]) at_133 (hw _ (List.mem_of_getElem? (i := 10) rfl)) (hw _ (List.mem_of_getElem? (i := 11) rfl)) (hw _ (List.mem_of_getElem? (i := 8) rfl)) (hw _ (List.mem_of_getElem? (i := 12) rfl)) rfl (own_c3 l Z _ _ fa fb pa pb) own_pf3 (by decide) own_pd3 rfl rfl rfl (fun m => by first | (simp [entryFrame, mkF, argsToLocals, Value.category]; done) | rfl) rfl rfl rfl rfl rfl rfl (fun u h' hh => ?_)
  obtain ⟨rfl, rfl⟩ := hh
  refine W.lastore at_136 A0 (by decide) (ltb rfl) (Nat.le_refl _) rfl (fun k0 W0 A0 => ?_)
  have A0 : AJ Z k0 Z.heap.size [own_w fa fb pa pb] := A0
  refine W.iload at_137 rfl rfl ?_
  refine W.iconst at_139 own_ci_1 rfl ?_
  refine W.icmp_le at_140 (by decide) rfl rfl (fun p => ?_) (fun q => ?_)
  rotate_left
  · exact absurd q (by decide)
  refine W.iload at_158 rfl rfl ?_
  refine W.iconst at_160 own_ci_2 rfl ?_
  refine W.icmp_le at_161 (by decide) rfl rfl (fun p => ?_) (fun q => ?_)
  rotate_left
  · exact absurd q (by decide)
  refine W.iconst at_177 own_ci_5 rfl ?_
  refine W.newarrayI (ty := .int) (cap := 5) at_178 rfl rfl (hw _ (List.mem_of_getElem? (i := 1) rfl)) (by decide) (by decide) (by decide) (by decide) (by decide) rfl (fun hx Ex AE => ?_)
  have hz := A0.lt
  have A0 := A0.ext Ex
  have hne := Nat.ne_of_lt hz
  have AE : AI Z hx _ .int ([] ++ List.replicate (5 - 0) 0) := AE
  refine W.astore at_180 rfl (Put.s (Put.s (Put.s (Put.s (Put.s (Put.s (Put.s (Put.s (Put.s (Put.s (Put.s (Put.s (Put.s (Put.s (Put.s (Put.s (Put.s (Put.s Put.z)))))))))))))))))) rfl rfl rfl ?_
  refine W.iconst at_182 own_ci_0 rfl ?_
  refine W.istore at_183 (Put.s (Put.s (Put.s (Put.s (Put.s (Put.s (Put.s (Put.s (Put.s (Put.s (Put.s (Put.s (Put.s (Put.s (Put.s (Put.s (Put.s (Put.s (Put.s Put.z))))))))))))))))))) rfl rfl rfl ?_
  refine W.iload at_185 rfl rfl ?_
  refine W.ifc_le at_187 (by decide) rfl rfl (fun p => ?_) (fun q => ?_)
  · exact absurd (by decide) p
  refine W.aload at_190 rfl rfl rfl ?_
  refine W.iload at_192 rfl rfl ?_
  refine W.iconst at_194 own_ci_0 rfl ?_
  refine W.iload at_195 rfl rfl ?_
  refine W.iload at_197 rfl rfl ?_
  refine W.iload at_199 rfl rfl ?_
  refine W.iload at_201 rfl rfl ?_
  refine W.callS_I (B' := B4) (argsL := [_, _, _, _, _, _, _]) at_203 (hw _ (List.mem_of_getElem? (i := 13) rfl)) (hw _ (List.mem_of_getElem? (i := 14) rfl)) (hw _ (List.mem_of_getElem? (i := 8) rfl)) (hw _ (List.mem_of_getElem? (i := 15) rfl)) rfl (own_c4 l Z a0 hw _ _ _ 0 fa fb pa pb ([]) _ rfl AE (Nat.le_of_lt hz) (by simp only [List.length_append, List.length_nil]; omega)) own_pf4 (by decide) own_pd4 rfl rfl rfl (fun m => by first | (simp [entryFrame, mkF, argsToLocals, Value.category]; done) | rfl) rfl rfl rfl rfl rfl rfl (fun u e0 hh => ?_)
  obtain ⟨rfl, AE, Ke0⟩ := hh
  have A0 := A0.keep Ke0 (ninS hne nin0)
  refine W.istore at_206 (Put.s (Put.s (Put.s (Put.s (Put.s (Put.s (Put.s (Put.s (Put.s (Put.s (Put.s (Put.s (Put.s (Put.s (Put.s (Put.s (Put.s (Put.s (Put.s Put.z))))))))))))))))))) rfl rfl rfl ?_
  refine W.iload at_208 rfl rfl ?_
  refine W.iconst at_210 own_ci_1 rfl ?_
  refine W.icmp_le at_211 (by decide) rfl rfl (fun p => ?_) (fun q => ?_)
  rotate_left
  · exact absurd q (by decide)
  refine W.iload at_233 rfl rfl ?_
  refine W.iconst at_235 own_ci_2 rfl ?_
  refine W.icmp_le at_236 (by decide) rfl rfl (fun p => ?_) (fun q => ?_)
  rotate_left
  · exact absurd q (by decide)
  have hfe : own_flat [(own_w fa fb pa pb, own_ex 0 fa fb pa pb)] = [] ++ own_ex 0 fa fb pa pb := by simp [own_flat]
  have T := own_t257 l Z a0 hw _ 1 i0 i1 i2 i3 i4 i5 fa fb fc fd fe pa pb pc pd pe _ _ [(own_w fa fb pa pb, own_ex 0 fa fb pa pb)] A0 (by rw [hfe]; exact AE) ⟨g0.1, g0.2.1, trivial⟩ (by rw [hfe]; simp only [List.length_append, List.length_nil]; omega) (by simp) (Nat.le_of_lt A0.lt)
  rw [hfe] at T
  exact T
set_option maxHeartbeats 8000000 in
theorem own_n2 (l : Launch) (Z : State) (a0 : Array Value) (hw : ∀ d ∈ tables_1, d.before a0 Z = true) (i0 i1 i2 i3 i4 i5 : Int32) (fa fb fc fd fe : Bool) (pa pb pc pd pe : Int32) (ha : 0 ≤ pa.toInt ∧ pa.toInt < 64) (hb : 0 ≤ pb.toInt ∧ pb.toInt < 64) (hc : 0 ≤ pc.toInt ∧ pc.toInt < 64) (hd : 0 ≤ pd.toInt ∧ pd.toInt < 64) (he : 0 ≤ pe.toInt ∧ pe.toInt < 64) : W l Z Z.heap.size room_1 B0 (fun v _ => v = some (.int 1)) Z.heap 0 0 111 [.val (.int i0), .val (.int i1), .val (.int i2), .val (.int i3), .val (.int i4), .val (.int i5), .val (.int 2), .val (.int (own_bi fa)), .val (.int (own_bi fb)), .val (.int (own_bi fc)), .val (.int (own_bi fd)), .val (.int (own_bi fe)), .val (.int pa), .val (.int pb), .val (.int pc), .val (.int pd), .val (.int pe), .unset, .unset, .unset, .unset] [] := by
  have bl : ∀ b : Bool, (own_bi b).toInt.toNat ≤ 1 := by intro b; cases b <;> decide
  have g0 := own_word 0 fa fb pa pb ha hb
  have g1 := own_word 64 fc fd pc pd hc hd
  have g2 := own_word 128 fe false pe 0 he (by decide)
  have y0 := bl fa
  have y1 := bl fb
  have y2 := bl fc
  have y3 := bl fd
  have y4 := bl fe
  have y5 : (own_bi false).toInt.toNat = 0 := by decide
  refine W.iload at_111 rfl rfl ?_
  refine W.newarrayJ (cap := 3) at_113 (hw _ (List.mem_of_getElem? (i := 0) rfl)) (by decide) (by decide) (by decide) (by decide) (by decide) rfl (fun h0 E0 A0 => ?_)
  have A0 : AJ Z h0 Z.heap.size [0, 0] := A0
  refine W.astore at_115 rfl (Put.s (Put.s (Put.s (Put.s (Put.s (Put.s (Put.s (Put.s (Put.s (Put.s (Put.s (Put.s (Put.s (Put.s (Put.s (Put.s (Put.s Put.z))))))))))))))))) rfl rfl rfl ?_
  refine W.iload at_117 rfl rfl ?_
  refine W.ifc_le at_119 (by decide) rfl rfl (fun p => ?_) (fun q => ?_)
  · exact absurd (by decide) p
  refine W.aload at_122 rfl rfl rfl ?_
  refine W.iconst at_124 own_ci_0 rfl ?_
  refine W.iload at_125 rfl rfl ?_
  refine W.iload at_127 rfl rfl ?_
  refine W.iload at_129 rfl rfl ?_
  refine W.iload at_131 rfl rfl ?_
  refine W.callS_J (B' := B3) (argsL := [_, _, _, _]) at_133 (hw _ (List.mem_of_getElem? (i := 10) rfl)) (hw _ (List.mem_of_getElem? (i := 11) rfl)) (hw _ (List.mem_of_getElem? (i := 8) rfl)) (hw _ (List.mem_of_getElem? (i := 12) rfl)) rfl (own_c3 l Z _ _ fa fb pa pb) own_pf3 (by decide) own_pd3 rfl rfl rfl (fun m => by first | (simp [entryFrame, mkF, argsToLocals, Value.category]; done) | rfl) rfl rfl rfl rfl rfl rfl (fun u h' hh => ?_)
  obtain ⟨rfl, rfl⟩ := hh
  refine W.lastore at_136 A0 (by decide) (ltb rfl) (Nat.le_refl _) rfl (fun k0 W0 A0 => ?_)
  have A0 : AJ Z k0 Z.heap.size [own_w fa fb pa pb, 0] := A0
  refine W.iload at_137 rfl rfl ?_
  refine W.iconst at_139 own_ci_1 rfl ?_
  refine W.icmp_le at_140 (by decide) rfl rfl (fun p => ?_) (fun q => ?_)
  · exact absurd (by decide) p
  refine W.aload at_143 rfl rfl rfl ?_
  refine W.iconst at_145 own_ci_1 rfl ?_
  refine W.iload at_146 rfl rfl ?_
  refine W.iload at_148 rfl rfl ?_
  refine W.iload at_150 rfl rfl ?_
  refine W.iload at_152 rfl rfl ?_
  refine W.callS_J (B' := B3) (argsL := [_, _, _, _]) at_154 (hw _ (List.mem_of_getElem? (i := 10) rfl)) (hw _ (List.mem_of_getElem? (i := 11) rfl)) (hw _ (List.mem_of_getElem? (i := 8) rfl)) (hw _ (List.mem_of_getElem? (i := 12) rfl)) rfl (own_c3 l Z _ _ fc fd pc pd) own_pf3 (by decide) own_pd3 rfl rfl rfl (fun m => by first | (simp [entryFrame, mkF, argsToLocals, Value.category]; done) | rfl) rfl rfl rfl rfl rfl rfl (fun u h' hh => ?_)
  obtain ⟨rfl, rfl⟩ := hh
  refine W.lastore at_157 A0 (by decide) (ltb rfl) (Nat.le_refl _) rfl (fun k1 W1 A0 => ?_)
  have A0 : AJ Z k1 Z.heap.size [own_w fa fb pa pb, own_w fc fd pc pd] := A0
  refine W.iload at_158 rfl rfl ?_
  refine W.iconst at_160 own_ci_2 rfl ?_
  refine W.icmp_le at_161 (by decide) rfl rfl (fun p => ?_) (fun q => ?_)
  rotate_left
  · exact absurd q (by decide)
  refine W.iconst at_177 own_ci_5 rfl ?_
  refine W.newarrayI (ty := .int) (cap := 5) at_178 rfl rfl (hw _ (List.mem_of_getElem? (i := 1) rfl)) (by decide) (by decide) (by decide) (by decide) (by decide) rfl (fun hx Ex AE => ?_)
  have hz := A0.lt
  have A0 := A0.ext Ex
  have hne := Nat.ne_of_lt hz
  have AE : AI Z hx _ .int ([] ++ List.replicate (5 - 0) 0) := AE
  refine W.astore at_180 rfl (Put.s (Put.s (Put.s (Put.s (Put.s (Put.s (Put.s (Put.s (Put.s (Put.s (Put.s (Put.s (Put.s (Put.s (Put.s (Put.s (Put.s (Put.s Put.z)))))))))))))))))) rfl rfl rfl ?_
  refine W.iconst at_182 own_ci_0 rfl ?_
  refine W.istore at_183 (Put.s (Put.s (Put.s (Put.s (Put.s (Put.s (Put.s (Put.s (Put.s (Put.s (Put.s (Put.s (Put.s (Put.s (Put.s (Put.s (Put.s (Put.s (Put.s Put.z))))))))))))))))))) rfl rfl rfl ?_
  refine W.iload at_185 rfl rfl ?_
  refine W.ifc_le at_187 (by decide) rfl rfl (fun p => ?_) (fun q => ?_)
  · exact absurd (by decide) p
  refine W.aload at_190 rfl rfl rfl ?_
  refine W.iload at_192 rfl rfl ?_
  refine W.iconst at_194 own_ci_0 rfl ?_
  refine W.iload at_195 rfl rfl ?_
  refine W.iload at_197 rfl rfl ?_
  refine W.iload at_199 rfl rfl ?_
  refine W.iload at_201 rfl rfl ?_
  refine W.callS_I (B' := B4) (argsL := [_, _, _, _, _, _, _]) at_203 (hw _ (List.mem_of_getElem? (i := 13) rfl)) (hw _ (List.mem_of_getElem? (i := 14) rfl)) (hw _ (List.mem_of_getElem? (i := 8) rfl)) (hw _ (List.mem_of_getElem? (i := 15) rfl)) rfl (own_c4 l Z a0 hw _ _ _ 0 fa fb pa pb ([]) _ rfl AE (Nat.le_of_lt hz) (by simp only [List.length_append, List.length_nil]; omega)) own_pf4 (by decide) own_pd4 rfl rfl rfl (fun m => by first | (simp [entryFrame, mkF, argsToLocals, Value.category]; done) | rfl) rfl rfl rfl rfl rfl rfl (fun u e0 hh => ?_)
  obtain ⟨rfl, AE, Ke0⟩ := hh
  have A0 := A0.keep Ke0 (ninS hne nin0)
  refine W.istore at_206 (Put.s (Put.s (Put.s (Put.s (Put.s (Put.s (Put.s (Put.s (Put.s (Put.s (Put.s (Put.s (Put.s (Put.s (Put.s (Put.s (Put.s (Put.s (Put.s Put.z))))))))))))))))))) rfl rfl rfl ?_
  refine W.iload at_208 rfl rfl ?_
  refine W.iconst at_210 own_ci_1 rfl ?_
  refine W.icmp_le at_211 (by decide) rfl rfl (fun p => ?_) (fun q => ?_)
  · exact absurd (by decide) p
  refine W.aload at_214 rfl rfl rfl ?_
  refine W.iload at_216 rfl rfl ?_
  refine W.bipush at_218 own_cb_64 rfl ?_
  refine W.iload at_220 rfl rfl ?_
  refine W.iload at_222 rfl rfl ?_
  refine W.iload at_224 rfl rfl ?_
  refine W.iload at_226 rfl rfl ?_
  refine W.callS_I (B' := B4) (argsL := [_, _, _, _, _, _, _]) at_228 (hw _ (List.mem_of_getElem? (i := 13) rfl)) (hw _ (List.mem_of_getElem? (i := 14) rfl)) (hw _ (List.mem_of_getElem? (i := 8) rfl)) (hw _ (List.mem_of_getElem? (i := 15) rfl)) rfl (own_c4 l Z a0 hw _ _ _ 64 fc fd pc pd ([] ++ own_ex 0 fa fb pa pb) _ rfl AE (Nat.le_of_lt hz) (by simp only [List.length_append, List.length_nil]; omega)) own_pf4 (by decide) own_pd4 rfl rfl rfl (fun m => by first | (simp [entryFrame, mkF, argsToLocals, Value.category]; done) | rfl) rfl rfl rfl rfl rfl rfl (fun u e1 hh => ?_)
  obtain ⟨rfl, AE, Ke1⟩ := hh
  have A0 := A0.keep Ke1 (ninS hne nin0)
  refine W.istore at_231 (Put.s (Put.s (Put.s (Put.s (Put.s (Put.s (Put.s (Put.s (Put.s (Put.s (Put.s (Put.s (Put.s (Put.s (Put.s (Put.s (Put.s (Put.s (Put.s Put.z))))))))))))))))))) rfl rfl rfl ?_
  refine W.iload at_233 rfl rfl ?_
  refine W.iconst at_235 own_ci_2 rfl ?_
  refine W.icmp_le at_236 (by decide) rfl rfl (fun p => ?_) (fun q => ?_)
  rotate_left
  · exact absurd q (by decide)
  have hfe : own_flat [(own_w fa fb pa pb, own_ex 0 fa fb pa pb), (own_w fc fd pc pd, own_ex 64 fc fd pc pd)] = [] ++ own_ex 0 fa fb pa pb ++ own_ex 64 fc fd pc pd := by simp [own_flat]
  have T := own_t257 l Z a0 hw _ 2 i0 i1 i2 i3 i4 i5 fa fb fc fd fe pa pb pc pd pe _ _ [(own_w fa fb pa pb, own_ex 0 fa fb pa pb), (own_w fc fd pc pd, own_ex 64 fc fd pc pd)] A0 (by rw [hfe]; exact AE) ⟨g0.1, g0.2.1, g1.1, g1.2.1, trivial⟩ (by rw [hfe]; simp only [List.length_append, List.length_nil]; omega) (by simp) (Nat.le_of_lt A0.lt)
  rw [hfe] at T
  exact T
set_option maxHeartbeats 8000000 in
theorem own_n3 (l : Launch) (Z : State) (a0 : Array Value) (hw : ∀ d ∈ tables_1, d.before a0 Z = true) (i0 i1 i2 i3 i4 i5 : Int32) (fa fb fc fd fe : Bool) (pa pb pc pd pe : Int32) (ha : 0 ≤ pa.toInt ∧ pa.toInt < 64) (hb : 0 ≤ pb.toInt ∧ pb.toInt < 64) (hc : 0 ≤ pc.toInt ∧ pc.toInt < 64) (hd : 0 ≤ pd.toInt ∧ pd.toInt < 64) (he : 0 ≤ pe.toInt ∧ pe.toInt < 64) : W l Z Z.heap.size room_1 B0 (fun v _ => v = some (.int 1)) Z.heap 0 0 111 [.val (.int i0), .val (.int i1), .val (.int i2), .val (.int i3), .val (.int i4), .val (.int i5), .val (.int 3), .val (.int (own_bi fa)), .val (.int (own_bi fb)), .val (.int (own_bi fc)), .val (.int (own_bi fd)), .val (.int (own_bi fe)), .val (.int pa), .val (.int pb), .val (.int pc), .val (.int pd), .val (.int pe), .unset, .unset, .unset, .unset] [] := by
  have bl : ∀ b : Bool, (own_bi b).toInt.toNat ≤ 1 := by intro b; cases b <;> decide
  have g0 := own_word 0 fa fb pa pb ha hb
  have g1 := own_word 64 fc fd pc pd hc hd
  have g2 := own_word 128 fe false pe 0 he (by decide)
  have y0 := bl fa
  have y1 := bl fb
  have y2 := bl fc
  have y3 := bl fd
  have y4 := bl fe
  have y5 : (own_bi false).toInt.toNat = 0 := by decide
  refine W.iload at_111 rfl rfl ?_
  refine W.newarrayJ (cap := 3) at_113 (hw _ (List.mem_of_getElem? (i := 0) rfl)) (by decide) (by decide) (by decide) (by decide) (by decide) rfl (fun h0 E0 A0 => ?_)
  have A0 : AJ Z h0 Z.heap.size [0, 0, 0] := A0
  refine W.astore at_115 rfl (Put.s (Put.s (Put.s (Put.s (Put.s (Put.s (Put.s (Put.s (Put.s (Put.s (Put.s (Put.s (Put.s (Put.s (Put.s (Put.s (Put.s Put.z))))))))))))))))) rfl rfl rfl ?_
  refine W.iload at_117 rfl rfl ?_
  refine W.ifc_le at_119 (by decide) rfl rfl (fun p => ?_) (fun q => ?_)
  · exact absurd (by decide) p
  refine W.aload at_122 rfl rfl rfl ?_
  refine W.iconst at_124 own_ci_0 rfl ?_
  refine W.iload at_125 rfl rfl ?_
  refine W.iload at_127 rfl rfl ?_
  refine W.iload at_129 rfl rfl ?_
  refine W.iload at_131 rfl rfl ?_
  refine W.callS_J (B' := B3) (argsL := [_, _, _, _]) at_133 (hw _ (List.mem_of_getElem? (i := 10) rfl)) (hw _ (List.mem_of_getElem? (i := 11) rfl)) (hw _ (List.mem_of_getElem? (i := 8) rfl)) (hw _ (List.mem_of_getElem? (i := 12) rfl)) rfl (own_c3 l Z _ _ fa fb pa pb) own_pf3 (by decide) own_pd3 rfl rfl rfl (fun m => by first | (simp [entryFrame, mkF, argsToLocals, Value.category]; done) | rfl) rfl rfl rfl rfl rfl rfl (fun u h' hh => ?_)
  obtain ⟨rfl, rfl⟩ := hh
  refine W.lastore at_136 A0 (by decide) (ltb rfl) (Nat.le_refl _) rfl (fun k0 W0 A0 => ?_)
  have A0 : AJ Z k0 Z.heap.size [own_w fa fb pa pb, 0, 0] := A0
  refine W.iload at_137 rfl rfl ?_
  refine W.iconst at_139 own_ci_1 rfl ?_
  refine W.icmp_le at_140 (by decide) rfl rfl (fun p => ?_) (fun q => ?_)
  · exact absurd (by decide) p
  refine W.aload at_143 rfl rfl rfl ?_
  refine W.iconst at_145 own_ci_1 rfl ?_
  refine W.iload at_146 rfl rfl ?_
  refine W.iload at_148 rfl rfl ?_
  refine W.iload at_150 rfl rfl ?_
  refine W.iload at_152 rfl rfl ?_
  refine W.callS_J (B' := B3) (argsL := [_, _, _, _]) at_154 (hw _ (List.mem_of_getElem? (i := 10) rfl)) (hw _ (List.mem_of_getElem? (i := 11) rfl)) (hw _ (List.mem_of_getElem? (i := 8) rfl)) (hw _ (List.mem_of_getElem? (i := 12) rfl)) rfl (own_c3 l Z _ _ fc fd pc pd) own_pf3 (by decide) own_pd3 rfl rfl rfl (fun m => by first | (simp [entryFrame, mkF, argsToLocals, Value.category]; done) | rfl) rfl rfl rfl rfl rfl rfl (fun u h' hh => ?_)
  obtain ⟨rfl, rfl⟩ := hh
  refine W.lastore at_157 A0 (by decide) (ltb rfl) (Nat.le_refl _) rfl (fun k1 W1 A0 => ?_)
  have A0 : AJ Z k1 Z.heap.size [own_w fa fb pa pb, own_w fc fd pc pd, 0] := A0
  refine W.iload at_158 rfl rfl ?_
  refine W.iconst at_160 own_ci_2 rfl ?_
  refine W.icmp_le at_161 (by decide) rfl rfl (fun p => ?_) (fun q => ?_)
  · exact absurd (by decide) p
  refine W.aload at_164 rfl rfl rfl ?_
  refine W.iconst at_166 own_ci_2 rfl ?_
  refine W.iload at_167 rfl rfl ?_
  refine W.iload at_169 rfl rfl ?_
  refine W.iconst at_171 own_ci_0 rfl ?_
  refine W.iconst at_172 own_ci_0 rfl ?_
  refine W.callS_J (B' := B3) (argsL := [_, _, _, _]) at_173 (hw _ (List.mem_of_getElem? (i := 10) rfl)) (hw _ (List.mem_of_getElem? (i := 11) rfl)) (hw _ (List.mem_of_getElem? (i := 8) rfl)) (hw _ (List.mem_of_getElem? (i := 12) rfl)) rfl (own_c3 l Z _ _ fe false pe 0) own_pf3 (by decide) own_pd3 rfl rfl rfl (fun m => by first | (simp [entryFrame, mkF, argsToLocals, Value.category]; done) | rfl) rfl rfl rfl rfl rfl rfl (fun u h' hh => ?_)
  obtain ⟨rfl, rfl⟩ := hh
  refine W.lastore at_176 A0 (by decide) (ltb rfl) (Nat.le_refl _) rfl (fun k2 W2 A0 => ?_)
  have A0 : AJ Z k2 Z.heap.size [own_w fa fb pa pb, own_w fc fd pc pd, own_w fe false pe 0] := A0
  refine W.iconst at_177 own_ci_5 rfl ?_
  refine W.newarrayI (ty := .int) (cap := 5) at_178 rfl rfl (hw _ (List.mem_of_getElem? (i := 1) rfl)) (by decide) (by decide) (by decide) (by decide) (by decide) rfl (fun hx Ex AE => ?_)
  have hz := A0.lt
  have A0 := A0.ext Ex
  have hne := Nat.ne_of_lt hz
  have AE : AI Z hx _ .int ([] ++ List.replicate (5 - 0) 0) := AE
  refine W.astore at_180 rfl (Put.s (Put.s (Put.s (Put.s (Put.s (Put.s (Put.s (Put.s (Put.s (Put.s (Put.s (Put.s (Put.s (Put.s (Put.s (Put.s (Put.s (Put.s Put.z)))))))))))))))))) rfl rfl rfl ?_
  refine W.iconst at_182 own_ci_0 rfl ?_
  refine W.istore at_183 (Put.s (Put.s (Put.s (Put.s (Put.s (Put.s (Put.s (Put.s (Put.s (Put.s (Put.s (Put.s (Put.s (Put.s (Put.s (Put.s (Put.s (Put.s (Put.s Put.z))))))))))))))))))) rfl rfl rfl ?_
  refine W.iload at_185 rfl rfl ?_
  refine W.ifc_le at_187 (by decide) rfl rfl (fun p => ?_) (fun q => ?_)
  · exact absurd (by decide) p
  refine W.aload at_190 rfl rfl rfl ?_
  refine W.iload at_192 rfl rfl ?_
  refine W.iconst at_194 own_ci_0 rfl ?_
  refine W.iload at_195 rfl rfl ?_
  refine W.iload at_197 rfl rfl ?_
  refine W.iload at_199 rfl rfl ?_
  refine W.iload at_201 rfl rfl ?_
  refine W.callS_I (B' := B4) (argsL := [_, _, _, _, _, _, _]) at_203 (hw _ (List.mem_of_getElem? (i := 13) rfl)) (hw _ (List.mem_of_getElem? (i := 14) rfl)) (hw _ (List.mem_of_getElem? (i := 8) rfl)) (hw _ (List.mem_of_getElem? (i := 15) rfl)) rfl (own_c4 l Z a0 hw _ _ _ 0 fa fb pa pb ([]) _ rfl AE (Nat.le_of_lt hz) (by simp only [List.length_append, List.length_nil]; omega)) own_pf4 (by decide) own_pd4 rfl rfl rfl (fun m => by first | (simp [entryFrame, mkF, argsToLocals, Value.category]; done) | rfl) rfl rfl rfl rfl rfl rfl (fun u e0 hh => ?_)
  obtain ⟨rfl, AE, Ke0⟩ := hh
  have A0 := A0.keep Ke0 (ninS hne nin0)
  refine W.istore at_206 (Put.s (Put.s (Put.s (Put.s (Put.s (Put.s (Put.s (Put.s (Put.s (Put.s (Put.s (Put.s (Put.s (Put.s (Put.s (Put.s (Put.s (Put.s (Put.s Put.z))))))))))))))))))) rfl rfl rfl ?_
  refine W.iload at_208 rfl rfl ?_
  refine W.iconst at_210 own_ci_1 rfl ?_
  refine W.icmp_le at_211 (by decide) rfl rfl (fun p => ?_) (fun q => ?_)
  · exact absurd (by decide) p
  refine W.aload at_214 rfl rfl rfl ?_
  refine W.iload at_216 rfl rfl ?_
  refine W.bipush at_218 own_cb_64 rfl ?_
  refine W.iload at_220 rfl rfl ?_
  refine W.iload at_222 rfl rfl ?_
  refine W.iload at_224 rfl rfl ?_
  refine W.iload at_226 rfl rfl ?_
  refine W.callS_I (B' := B4) (argsL := [_, _, _, _, _, _, _]) at_228 (hw _ (List.mem_of_getElem? (i := 13) rfl)) (hw _ (List.mem_of_getElem? (i := 14) rfl)) (hw _ (List.mem_of_getElem? (i := 8) rfl)) (hw _ (List.mem_of_getElem? (i := 15) rfl)) rfl (own_c4 l Z a0 hw _ _ _ 64 fc fd pc pd ([] ++ own_ex 0 fa fb pa pb) _ rfl AE (Nat.le_of_lt hz) (by simp only [List.length_append, List.length_nil]; omega)) own_pf4 (by decide) own_pd4 rfl rfl rfl (fun m => by first | (simp [entryFrame, mkF, argsToLocals, Value.category]; done) | rfl) rfl rfl rfl rfl rfl rfl (fun u e1 hh => ?_)
  obtain ⟨rfl, AE, Ke1⟩ := hh
  have A0 := A0.keep Ke1 (ninS hne nin0)
  refine W.istore at_231 (Put.s (Put.s (Put.s (Put.s (Put.s (Put.s (Put.s (Put.s (Put.s (Put.s (Put.s (Put.s (Put.s (Put.s (Put.s (Put.s (Put.s (Put.s (Put.s Put.z))))))))))))))))))) rfl rfl rfl ?_
  refine W.iload at_233 rfl rfl ?_
  refine W.iconst at_235 own_ci_2 rfl ?_
  refine W.icmp_le at_236 (by decide) rfl rfl (fun p => ?_) (fun q => ?_)
  · exact absurd (by decide) p
  refine W.aload at_239 rfl rfl rfl ?_
  refine W.iload at_241 rfl rfl ?_
  refine W.sipush at_243 own_cs_128 rfl ?_
  refine W.iload at_246 rfl rfl ?_
  refine W.iload at_248 rfl rfl ?_
  refine W.iconst at_250 own_ci_0 rfl ?_
  refine W.iconst at_251 own_ci_0 rfl ?_
  refine W.callS_I (B' := B4) (argsL := [_, _, _, _, _, _, _]) at_252 (hw _ (List.mem_of_getElem? (i := 13) rfl)) (hw _ (List.mem_of_getElem? (i := 14) rfl)) (hw _ (List.mem_of_getElem? (i := 8) rfl)) (hw _ (List.mem_of_getElem? (i := 15) rfl)) rfl (own_c4 l Z a0 hw _ _ _ 128 fe false pe 0 ([] ++ own_ex 0 fa fb pa pb ++ own_ex 64 fc fd pc pd) _ rfl AE (Nat.le_of_lt hz) (by simp only [List.length_append, List.length_nil]; omega)) own_pf4 (by decide) own_pd4 rfl rfl rfl (fun m => by first | (simp [entryFrame, mkF, argsToLocals, Value.category]; done) | rfl) rfl rfl rfl rfl rfl rfl (fun u e2 hh => ?_)
  obtain ⟨rfl, AE, Ke2⟩ := hh
  have A0 := A0.keep Ke2 (ninS hne nin0)
  refine W.istore at_255 (Put.s (Put.s (Put.s (Put.s (Put.s (Put.s (Put.s (Put.s (Put.s (Put.s (Put.s (Put.s (Put.s (Put.s (Put.s (Put.s (Put.s (Put.s (Put.s Put.z))))))))))))))))))) rfl rfl rfl ?_
  have hfe : own_flat [(own_w fa fb pa pb, own_ex 0 fa fb pa pb), (own_w fc fd pc pd, own_ex 64 fc fd pc pd), (own_w fe false pe 0, own_ex 128 fe false pe 0)] = [] ++ own_ex 0 fa fb pa pb ++ own_ex 64 fc fd pc pd ++ own_ex 128 fe false pe 0 := by simp [own_flat]
  have T := own_t257 l Z a0 hw _ 3 i0 i1 i2 i3 i4 i5 fa fb fc fd fe pa pb pc pd pe _ _ [(own_w fa fb pa pb, own_ex 0 fa fb pa pb), (own_w fc fd pc pd, own_ex 64 fc fd pc pd), (own_w fe false pe 0, own_ex 128 fe false pe 0)] A0 (by rw [hfe]; exact AE) ⟨g0.1, g0.2.1, g1.1, g1.2.1, g2.1, g2.2.1, trivial⟩ (by rw [hfe]; simp only [List.length_append, List.length_nil]; omega) (by simp) (Nat.le_of_lt A0.lt)
  rw [hfe] at T
  exact T
theorem own_g5 (l : Launch) (Z : State) (a0 : Array Value) (hw : ∀ d ∈ tables_1, d.before a0 Z = true) (i0 i1 i2 i3 i4 i5 n : Int32) (fa fb fc fd fe : Bool) (h0 : 0 ≤ n.toInt) (h7 : n.toInt < 4) : W l Z Z.heap.size room_1 B0 (fun v _ => v = some (.int 1)) Z.heap 0 0 80 [.val (.int i0), .val (.int i1), .val (.int i2), .val (.int i3), .val (.int i4), .val (.int i5), .val (.int n), .val (.int (own_bi fa)), .val (.int (own_bi fb)), .val (.int (own_bi fc)), .val (.int (own_bi fd)), .val (.int (own_bi fe)), .unset, .unset, .unset, .unset, .unset, .unset, .unset, .unset, .unset] [] := by
  have mk : ∀ z : Int32, 0 ≤ (z &&& 63).toInt ∧ (z &&& 63).toInt < 64 := by intro z; rw [maskk z 63 6 (by decide) (by decide)]; omega
  refine W.iloadN at_80 rfl rfl ?_
  refine W.bipush at_81 own_cb_63 rfl ?_
  refine W.iand at_83 rfl ?_
  refine W.istore at_84 (Put.s (Put.s (Put.s (Put.s (Put.s (Put.s (Put.s (Put.s (Put.s (Put.s (Put.s (Put.s Put.z)))))))))))) rfl rfl rfl ?_
  refine W.iloadN at_86 rfl rfl ?_
  refine W.bipush at_87 own_cb_63 rfl ?_
  refine W.iand at_89 rfl ?_
  refine W.istore at_90 (Put.s (Put.s (Put.s (Put.s (Put.s (Put.s (Put.s (Put.s (Put.s (Put.s (Put.s (Put.s (Put.s Put.z))))))))))))) rfl rfl rfl ?_
  refine W.iloadN at_92 rfl rfl ?_
  refine W.bipush at_93 own_cb_63 rfl ?_
  refine W.iand at_95 rfl ?_
  refine W.istore at_96 (Put.s (Put.s (Put.s (Put.s (Put.s (Put.s (Put.s (Put.s (Put.s (Put.s (Put.s (Put.s (Put.s (Put.s Put.z)))))))))))))) rfl rfl rfl ?_
  refine W.iloadN at_98 rfl rfl ?_
  refine W.bipush at_99 own_cb_63 rfl ?_
  refine W.iand at_101 rfl ?_
  refine W.istore at_102 (Put.s (Put.s (Put.s (Put.s (Put.s (Put.s (Put.s (Put.s (Put.s (Put.s (Put.s (Put.s (Put.s (Put.s (Put.s Put.z))))))))))))))) rfl rfl rfl ?_
  refine W.iload at_104 rfl rfl ?_
  refine W.bipush at_106 own_cb_63 rfl ?_
  refine W.iand at_108 rfl ?_
  refine W.istore at_109 (Put.s (Put.s (Put.s (Put.s (Put.s (Put.s (Put.s (Put.s (Put.s (Put.s (Put.s (Put.s (Put.s (Put.s (Put.s (Put.s Put.z)))))))))))))))) rfl rfl rfl ?_
  rcases (by omega : n.toInt = 0 ∨ n.toInt = 1 ∨ n.toInt = 2 ∨ n.toInt = 3) with c | c | c | c
  · obtain rfl : n = 0 := by rw [eq32, c]; decide
    exact own_n0 l Z a0 hw i0 i1 i2 i3 i4 i5 fa fb fc fd fe _ _ _ _ _ (mk i0) (mk i1) (mk i2) (mk i3) (mk i4)
  · obtain rfl : n = 1 := by rw [eq32, c]; decide
    exact own_n1 l Z a0 hw i0 i1 i2 i3 i4 i5 fa fb fc fd fe _ _ _ _ _ (mk i0) (mk i1) (mk i2) (mk i3) (mk i4)
  · obtain rfl : n = 2 := by rw [eq32, c]; decide
    exact own_n2 l Z a0 hw i0 i1 i2 i3 i4 i5 fa fb fc fd fe _ _ _ _ _ (mk i0) (mk i1) (mk i2) (mk i3) (mk i4)
  · obtain rfl : n = 3 := by rw [eq32, c]; decide
    exact own_n3 l Z a0 hw i0 i1 i2 i3 i4 i5 fa fb fc fd fe _ _ _ _ _ (mk i0) (mk i1) (mk i2) (mk i3) (mk i4)
theorem own_g4 (l : Launch) (Z : State) (a0 : Array Value) (hw : ∀ d ∈ tables_1, d.before a0 Z = true) (i0 i1 i2 i3 i4 i5 n : Int32) (fa fb fc fd : Bool) (h0 : 0 ≤ n.toInt) (h7 : n.toInt < 4) : W l Z Z.heap.size room_1 B0 (fun v _ => v = some (.int 1)) Z.heap 0 0 65 [.val (.int i0), .val (.int i1), .val (.int i2), .val (.int i3), .val (.int i4), .val (.int i5), .val (.int n), .val (.int (own_bi fa)), .val (.int (own_bi fb)), .val (.int (own_bi fc)), .val (.int (own_bi fd)), .unset, .unset, .unset, .unset, .unset, .unset, .unset, .unset, .unset, .unset] [] := by
  refine W.iload at_65 rfl rfl ?_
  refine W.bipush at_67 own_cb_16 rfl ?_
  refine W.iand at_69 rfl ?_
  refine W.ifc_eq at_70 (by decide) rfl rfl (fun p => ?_) (fun q => ?_)
  · refine W.iconst at_77 own_ci_0 rfl ?_
    refine W.istore at_78 (Put.s (Put.s (Put.s (Put.s (Put.s (Put.s (Put.s (Put.s (Put.s (Put.s (Put.s Put.z))))))))))) rfl rfl rfl ?_
    exact own_g5 l Z a0 hw i0 i1 i2 i3 i4 i5 n fa fb fc fd false h0 h7
  · refine W.iconst at_73 own_ci_1 rfl ?_
    refine W.goto at_74 (by decide) rfl ?_
    refine W.istore at_78 (Put.s (Put.s (Put.s (Put.s (Put.s (Put.s (Put.s (Put.s (Put.s (Put.s (Put.s Put.z))))))))))) rfl rfl rfl ?_
    exact own_g5 l Z a0 hw i0 i1 i2 i3 i4 i5 n fa fb fc fd true h0 h7
theorem own_g3 (l : Launch) (Z : State) (a0 : Array Value) (hw : ∀ d ∈ tables_1, d.before a0 Z = true) (i0 i1 i2 i3 i4 i5 n : Int32) (fa fb fc : Bool) (h0 : 0 ≤ n.toInt) (h7 : n.toInt < 4) : W l Z Z.heap.size room_1 B0 (fun v _ => v = some (.int 1)) Z.heap 0 0 50 [.val (.int i0), .val (.int i1), .val (.int i2), .val (.int i3), .val (.int i4), .val (.int i5), .val (.int n), .val (.int (own_bi fa)), .val (.int (own_bi fb)), .val (.int (own_bi fc)), .unset, .unset, .unset, .unset, .unset, .unset, .unset, .unset, .unset, .unset, .unset] [] := by
  refine W.iload at_50 rfl rfl ?_
  refine W.bipush at_52 own_cb_8 rfl ?_
  refine W.iand at_54 rfl ?_
  refine W.ifc_eq at_55 (by decide) rfl rfl (fun p => ?_) (fun q => ?_)
  · refine W.iconst at_62 own_ci_0 rfl ?_
    refine W.istore at_63 (Put.s (Put.s (Put.s (Put.s (Put.s (Put.s (Put.s (Put.s (Put.s (Put.s Put.z)))))))))) rfl rfl rfl ?_
    exact own_g4 l Z a0 hw i0 i1 i2 i3 i4 i5 n fa fb fc false h0 h7
  · refine W.iconst at_58 own_ci_1 rfl ?_
    refine W.goto at_59 (by decide) rfl ?_
    refine W.istore at_63 (Put.s (Put.s (Put.s (Put.s (Put.s (Put.s (Put.s (Put.s (Put.s (Put.s Put.z)))))))))) rfl rfl rfl ?_
    exact own_g4 l Z a0 hw i0 i1 i2 i3 i4 i5 n fa fb fc true h0 h7
theorem own_g2 (l : Launch) (Z : State) (a0 : Array Value) (hw : ∀ d ∈ tables_1, d.before a0 Z = true) (i0 i1 i2 i3 i4 i5 n : Int32) (fa fb : Bool) (h0 : 0 ≤ n.toInt) (h7 : n.toInt < 4) : W l Z Z.heap.size room_1 B0 (fun v _ => v = some (.int 1)) Z.heap 0 0 36 [.val (.int i0), .val (.int i1), .val (.int i2), .val (.int i3), .val (.int i4), .val (.int i5), .val (.int n), .val (.int (own_bi fa)), .val (.int (own_bi fb)), .unset, .unset, .unset, .unset, .unset, .unset, .unset, .unset, .unset, .unset, .unset, .unset] [] := by
  refine W.iload at_36 rfl rfl ?_
  refine W.iconst at_38 own_ci_4 rfl ?_
  refine W.iand at_39 rfl ?_
  refine W.ifc_eq at_40 (by decide) rfl rfl (fun p => ?_) (fun q => ?_)
  · refine W.iconst at_47 own_ci_0 rfl ?_
    refine W.istore at_48 (Put.s (Put.s (Put.s (Put.s (Put.s (Put.s (Put.s (Put.s (Put.s Put.z))))))))) rfl rfl rfl ?_
    exact own_g3 l Z a0 hw i0 i1 i2 i3 i4 i5 n fa fb false h0 h7
  · refine W.iconst at_43 own_ci_1 rfl ?_
    refine W.goto at_44 (by decide) rfl ?_
    refine W.istore at_48 (Put.s (Put.s (Put.s (Put.s (Put.s (Put.s (Put.s (Put.s (Put.s Put.z))))))))) rfl rfl rfl ?_
    exact own_g3 l Z a0 hw i0 i1 i2 i3 i4 i5 n fa fb true h0 h7
theorem own_g1 (l : Launch) (Z : State) (a0 : Array Value) (hw : ∀ d ∈ tables_1, d.before a0 Z = true) (i0 i1 i2 i3 i4 i5 n : Int32) (fa : Bool) (h0 : 0 ≤ n.toInt) (h7 : n.toInt < 4) : W l Z Z.heap.size room_1 B0 (fun v _ => v = some (.int 1)) Z.heap 0 0 22 [.val (.int i0), .val (.int i1), .val (.int i2), .val (.int i3), .val (.int i4), .val (.int i5), .val (.int n), .val (.int (own_bi fa)), .unset, .unset, .unset, .unset, .unset, .unset, .unset, .unset, .unset, .unset, .unset, .unset, .unset] [] := by
  refine W.iload at_22 rfl rfl ?_
  refine W.iconst at_24 own_ci_2 rfl ?_
  refine W.iand at_25 rfl ?_
  refine W.ifc_eq at_26 (by decide) rfl rfl (fun p => ?_) (fun q => ?_)
  · refine W.iconst at_33 own_ci_0 rfl ?_
    refine W.istore at_34 (Put.s (Put.s (Put.s (Put.s (Put.s (Put.s (Put.s (Put.s Put.z)))))))) rfl rfl rfl ?_
    exact own_g2 l Z a0 hw i0 i1 i2 i3 i4 i5 n fa false h0 h7
  · refine W.iconst at_29 own_ci_1 rfl ?_
    refine W.goto at_30 (by decide) rfl ?_
    refine W.istore at_34 (Put.s (Put.s (Put.s (Put.s (Put.s (Put.s (Put.s (Put.s Put.z)))))))) rfl rfl rfl ?_
    exact own_g2 l Z a0 hw i0 i1 i2 i3 i4 i5 n fa true h0 h7
theorem own_g0 (l : Launch) (Z : State) (a0 : Array Value) (hw : ∀ d ∈ tables_1, d.before a0 Z = true) (i0 i1 i2 i3 i4 i5 n : Int32) (h0 : 0 ≤ n.toInt) (h7 : n.toInt < 4) : W l Z Z.heap.size room_1 B0 (fun v _ => v = some (.int 1)) Z.heap 0 0 8 [.val (.int i0), .val (.int i1), .val (.int i2), .val (.int i3), .val (.int i4), .val (.int i5), .val (.int n), .unset, .unset, .unset, .unset, .unset, .unset, .unset, .unset, .unset, .unset, .unset, .unset, .unset, .unset] [] := by
  refine W.iload at_8 rfl rfl ?_
  refine W.iconst at_10 own_ci_1 rfl ?_
  refine W.iand at_11 rfl ?_
  refine W.ifc_eq at_12 (by decide) rfl rfl (fun p => ?_) (fun q => ?_)
  · refine W.iconst at_19 own_ci_0 rfl ?_
    refine W.istore at_20 (Put.s (Put.s (Put.s (Put.s (Put.s (Put.s (Put.s Put.z))))))) rfl rfl rfl ?_
    exact own_g1 l Z a0 hw i0 i1 i2 i3 i4 i5 n  false h0 h7
  · refine W.iconst at_15 own_ci_1 rfl ?_
    refine W.goto at_16 (by decide) rfl ?_
    refine W.istore at_20 (Put.s (Put.s (Put.s (Put.s (Put.s (Put.s (Put.s Put.z))))))) rfl rfl rfl ?_
    exact own_g1 l Z a0 hw i0 i1 i2 i3 i4 i5 n  true h0 h7
theorem own_law (l : Launch) (Z : State) (a0 : Array Value) (hw : ∀ d ∈ tables_1, d.before a0 Z = true) (i0 i1 i2 i3 i4 i5 : Int32) : W l Z Z.heap.size room_1 B0 (fun v _ => v = some (.int 1)) Z.heap 0 0 0 [.val (.int i0), .val (.int i1), .val (.int i2), .val (.int i3), .val (.int i4), .val (.int i5), .unset, .unset, .unset, .unset, .unset, .unset, .unset, .unset, .unset, .unset, .unset, .unset, .unset, .unset, .unset] [] := by
  refine W.iload at_0 rfl rfl ?_
  refine W.iconst at_2 own_ci_5 rfl ?_
  refine W.iushr at_3 rfl ?_
  refine W.iconst at_4 own_ci_3 rfl ?_
  refine W.iand at_5 rfl ?_
  refine W.istore at_6 (Put.s (Put.s (Put.s (Put.s (Put.s (Put.s Put.z)))))) rfl rfl rfl ?_
  have hr := maskk ((i5.toUInt32 >>> (5 &&& 31 : Int32).toUInt32).toInt32) 3 2 (by decide) (by decide)
  generalize (i5.toUInt32 >>> (5 &&& 31 : Int32).toUInt32).toInt32 &&& 3 = n at *
  exact own_g0 l Z a0 hw i0 i1 i2 i3 i4 i5 n (by omega) (by omega)
theorem own_ef0 (m : MethodId) (i0 : Int32) (i1 : Int32) (i2 : Int32) (i3 : Int32) (i4 : Int32) (i5 : Int32) : entryFrame m #[.int i0, .int i1, .int i2, .int i3, .int i4, .int i5] maxLocals = mkF m 0 #[.val (.int i0), .val (.int i1), .val (.int i2), .val (.int i3), .val (.int i4), .val (.int i5), .unset, .unset, .unset, .unset, .unset, .unset, .unset, .unset, .unset, .unset, .unset, .unset, .unset, .unset, .unset] [] := by first | (simp [entryFrame, mkF, argsToLocals, Value.category, maxLocals]; done) | rfl
theorem comes_1 {Post : Tables → Env → Array Value → State → Outcome → State → Prop} (hpost : ∀ tb e args s v u, (limb_1_1.after args s (.returned v) u = true ∧ limb_1_2.after args s (.returned v) u = true ∧ True) → FrameEnd s (.returned v) u (Jvm.fieldLocs frame_1_writes args s ++ Jvm.arrayLocs frame_1_arrays args s ++ Jvm.staticLocs frame_1_statics s) 16 128 → Post tb e args s (.returned v) u) :
    ArmFor flags0 classFile x code maxLocals ret World_1 tables_1 room_1 Calls_1 rest_1 Pre_1 Post := by
  intro l hfl _ _ p e ha hc hk s m args below hf hA hF happ hP
  obtain ⟨hcalls, hrest, hpre⟩ := hP
  obtain ⟨-, -, -, hnamed, -, -, -, hat⟩ := (Spec.applies_iff hf).mp happ
  obtain ⟨hg, hn⟩ := and_e (Cond.before_iff.mp (show (Jvm.Cond.and given_1 narrow_1).before args s = true from hpre))
  obtain ⟨g0, t0⟩ := and_e hg
  obtain ⟨k0, t1⟩ := and_e t0
  obtain ⟨k1, t2⟩ := and_e t1
  obtain ⟨k2, t3⟩ := and_e t2
  obtain ⟨k3, t4⟩ := and_e t3
  obtain ⟨k4, t5⟩ := and_e t4
  obtain ⟨w0, w1, w2, w3, w4, w5, rfl⟩ : ∃ w0 w1 w2 w3 w4 w5 : Value, args = #[w0, w1, w2, w3, w4, w5] := by
    have hs : args.size = 6 := by simpa [Cond.value, given_1] using g0
    obtain ⟨L⟩ := args
    match L, hs with
    | [w0, w1, w2, w3, w4, w5], _ => exact ⟨w0, w1, w2, w3, w4, w5, rfl⟩
  have hw := fun d (hd : d ∈ tables_1) => atoms_spec (ws := Jvm.Cond.code x code maxLocals ret :: tables_1) hat d (List.mem_cons_of_mem _ hd)
  obtain ⟨i0, e0⟩ := is_v k0
  obtain rfl : w0 = (.int i0) := Option.some.inj e0
  obtain ⟨i1, e1⟩ := is_v k1
  obtain rfl : w1 = (.int i1) := Option.some.inj e1
  obtain ⟨i2, e2⟩ := is_v k2
  obtain rfl : w2 = (.int i2) := Option.some.inj e2
  obtain ⟨i3, e3⟩ := is_v k3
  obtain rfl : w3 = (.int i3) := Option.some.inj e3
  obtain ⟨i4, e4⟩ := is_v k4
  obtain rfl : w4 = (.int i4) := Option.some.inj e4
  obtain ⟨i5, e5⟩ := is_v t5
  obtain rfl : w5 = (.int i5) := Option.some.inj e5
  obtain ⟨n, o, h1, h2, h3, _, L, rfl, ⟨rfl, N⟩, hq⟩ := met_of (ws := tables_1) (y := x) (B' := B0) (as' := #[.int i0, .int i1, .int i2, .int i3, .int i4, .int i5]) own_pf0 rfl rfl (fun m => own_ef0 m i0 i1 i2 i3 i4 i5) (own_law l s _ hw i0 i1 i2 i3 i4 i5) p e ha hc hk s m _ below hf ((Spec.applies_iff_loose hf).mp happ).1 ⟨rfl, State.Warmed39.refl s, rfl⟩ trivial
  refine ⟨n, _, h1, h2, h3, hpost _ _ _ _ _ _ ⟨Cond.after_iff.mpr rfl, Cond.after_iff.mpr (eq_i res_at (Term.int_eval (1)) rfl), trivial⟩ ⟨hq.1, hq.2.1, (hq.2.2.sift fun y hy => Or.inr (N y hy)).mono (by decide) (by decide)⟩⟩
theorem main_1_1 : Claimed_1_1 := comes_1 fun _ _ _ _ _ _ h hF => ⟨h.1, hF⟩
theorem main_1_2 : Claimed_1_2 := comes_1 fun _ _ _ _ _ _ h hF => ⟨h.2.1, hF⟩
end Jvm.Pilot.@@N@@
namespace Jvm.Pilot.@@N@@
open Jvm Jvm.ClassFile Sem Op Lib Jvm.Free Jvm.Stand Jvm.Pilot.@@N@@.Jvm.D
/-! MADE BY PROGRAM (witnessworld.py) out of the Statement's table words and the real class files: 18 classes; the members and pool entries that the words name. The judged class is class 1, her method 1. -/
namespace start1
open Jvm.ClassFile
def u (s : String) : CpInfo := .utf8 (stringToUtf16 s)
/-- a pool by its gaps: so many unusable entries, then the entry; so many at the end -/
def gap : Nat → List CpInfo → List CpInfo
  | 0, r => r
  | n + 1, r => .unusable :: gap n r
def poolList (es : List (Nat × CpInfo)) (last : Nat) : List CpInfo := es.foldr (fun e r => gap e.1 (e.2 :: r)) (gap last [])
def pool (es : List (Nat × CpInfo)) (last : Nat) : Array CpInfo := ⟨poolList es last⟩
def fileOf (pool : Array CpInfo) (this : Nat) (attrs : Array Attribute := #[]) (ms : Array MethodInfo := #[]) (fl : Nat := 33) (sup : Nat := 0) (ifs : Array Nat := #[]) (fds : Array FieldInfo := #[]) : ClassFile where
  minorVersion := 0
  majorVersion := 65
  constantPool := pool
  accessFlags := fl
  thisClass := this
  superClass := sup
  interfaces := ifs
  fields := fds
  methods := ms
  attributes := attrs
def plain (name : String) (sup : Option ClassId) : Class where
  name := name
  kind := .ordinary
  loader := none
  accessFlags := 33
  super := sup
  interfaces := #[]
  cf := none
  fields := #[]
  methods := #[]
  instanceTypes := #[]
  staticTypes := #[]
  resolved := #[]
  callSites := []
  init := .initialized
  statics := none
  mirror := none

def pool0 : Array CpInfo := pool [(5, u "<init>"), (0, u "()V"), (1, .class_ 10), (1, u "java/lang/Object")] 113

def k0m0 : Method := { name := "<init>", desc := "()V", sig := { parameters := [], returnType := none }, accessFlags := 1, code := none }
/-- java/lang/Object -/
def k0 : Class := { plain "java/lang/Object" none with
  accessFlags := 33
  interfaces := #[]
  cf := some (fileOf pool0 8 #[] #[{ accessFlags := 1, nameIndex := 5, descriptorIndex := 6, attributes := #[] }] 33 0 #[] #[])
  fields := #[]
  methods := #[k0m0]
  instanceTypes := #[]
  staticTypes := #[]
  resolved := Array.replicate 124 none
  statics := none }

def pool1 : Array CpInfo := pool [(2, .class_ 4), (1, u "java/lang/Object"), (0, u "<init>"), (0, u "()V"), (0, .methodref 8 9), (0, .class_ 10), (0, .nameAndType 11 12), (0, u "com/example/lagline/lagline/exam/ConflictGraphMembersPinLaw"), (0, u "word"), (0, u "(ZIZI)J"), (0, .methodref 8 14), (0, .nameAndType 15 16), (0, u "expect"), (0, u "([IIIZIZI)I"), (0, .methodref 18 19), (0, .class_ 20), (0, .nameAndType 21 22), (0, u "com/example/lagline/lagline/exam/ConflictGraph"), (0, u "members"), (0, u "([J)[I"), (0, .methodref 8 24), (0, .nameAndType 25 26), (0, u "at"), (0, u "([I[III)Z"), (0, .methodref 28 29), (0, .class_ 30), (0, .nameAndType 31 32), (0, u "java/lang/Math"), (0, u "min"), (0, u "(II)I"), (0, .methodref 28 34), (0, .nameAndType 35 32), (0, u "max"), (2, u "law"), (0, u "(IIIIII)Z")] 7

def k1m0 : Method := { name := "<init>", desc := "()V", sig := { parameters := [], returnType := none }, accessFlags := 1, code := none }
def k1c1 : Code := { maxStack := 7, maxLocals := 21, code := code, exceptionTable := #[], attributes := #[] }
def k1m1 : Method := { name := "law", desc := "(IIIIII)Z", sig := { parameters := [.int, .int, .int, .int, .int, .int], returnType := some .boolean }, accessFlags := 9, code := some k1c1 }
def k1c2 : Code := { maxStack := 5, maxLocals := 6, code := method_3_code, exceptionTable := #[], attributes := #[] }
def k1m2 : Method := { name := "word", desc := "(ZIZI)J", sig := { parameters := [.boolean, .int, .boolean, .int], returnType := some .long }, accessFlags := 10, code := some k1c2 }
def k1c3 : Code := { maxStack := 5, maxLocals := 7, code := method_4_code, exceptionTable := #[], attributes := #[] }
def k1m3 : Method := { name := "expect", desc := "([IIIZIZI)I", sig := { parameters := [(.array .int), .int, .int, .boolean, .int, .boolean, .int], returnType := some .int }, accessFlags := 10, code := some k1c3 }
def k1c4 : Code := { maxStack := 3, maxLocals := 4, code := method_5_code, exceptionTable := #[], attributes := #[] }
def k1m4 : Method := { name := "at", desc := "([I[III)Z", sig := { parameters := [(.array .int), (.array .int), .int, .int], returnType := some .boolean }, accessFlags := 10, code := some k1c4 }
/-- com/example/lagline/lagline/exam/ConflictGraphMembersPinLaw -/
def k1 : Class := { plain "com/example/lagline/lagline/exam/ConflictGraphMembersPinLaw" (some 0) with
  accessFlags := 49
  interfaces := #[]
  cf := some (fileOf pool1 8 #[] #[{ accessFlags := 1, nameIndex := 5, descriptorIndex := 6, attributes := #[] }, { accessFlags := 9, nameIndex := 38, descriptorIndex := 39, attributes := #[] }, { accessFlags := 10, nameIndex := 11, descriptorIndex := 12, attributes := #[] }, { accessFlags := 10, nameIndex := 15, descriptorIndex := 16, attributes := #[] }, { accessFlags := 10, nameIndex := 25, descriptorIndex := 26, attributes := #[] }] 49 2 #[] #[])
  fields := #[]
  methods := #[k1m0, k1m1, k1m2, k1m3, k1m4]
  instanceTypes := #[]
  staticTypes := #[]
  resolved := Array.replicate 47 none
  statics := none }

def pool2 : Array CpInfo := pool [(2, .class_ 4), (1, u "java/lang/Object"), (8, .class_ 14), (0, u "java/lang/Long"), (1, u "[[J"), (1, .class_ 20), (1, u "com/example/lagline/lagline/exam/ConflictGraph"), (0, u "adjacency"), (15, u "neighbours"), (0, u "[[I"), (2, u "sharedStudents"), (2, u "members"), (0, u "([J)[I"), (6, .methodref 13 53), (0, .nameAndType 54 55), (0, u "bitCount"), (0, u "(J)I"), (0, .methodref 13 57), (0, .nameAndType 58 55), (0, u "numberOfTrailingZeros")] 11

def k2c0 : Code := { maxStack := 6, maxLocals := 7, code := prog_5_method_8_code, exceptionTable := #[], attributes := #[] }
def k2m0 : Method := { name := "members", desc := "([J)[I", sig := { parameters := [(.array .long)], returnType := some (.array .int) }, accessFlags := 8, code := some k2c0 }
/-- com/example/lagline/lagline/exam/ConflictGraph -/
def k2 : Class := { plain "com/example/lagline/lagline/exam/ConflictGraph" (some 0) with
  accessFlags := 48
  interfaces := #[]
  cf := some (fileOf pool2 18 #[] #[{ accessFlags := 8, nameIndex := 44, descriptorIndex := 45, attributes := #[] }] 48 2 #[] #[{ accessFlags := 18, nameIndex := 37, descriptorIndex := 38, attributes := #[] }, { accessFlags := 18, nameIndex := 41, descriptorIndex := 38, attributes := #[] }, { accessFlags := 18, nameIndex := 21, descriptorIndex := 16, attributes := #[] }])
  fields := #[{ name := "neighbours", type := (.array (.array .int)), accessFlags := 18, slot := 0, constantValue := 0 }, { name := "sharedStudents", type := (.array (.array .int)), accessFlags := 18, slot := 1, constantValue := 0 }, { name := "adjacency", type := (.array (.array .long)), accessFlags := 18, slot := 2, constantValue := 0 }]
  methods := #[k2m0]
  instanceTypes := #[(.array (.array .int)), (.array (.array .int)), (.array (.array .long))]
  staticTypes := #[]
  resolved := Array.replicate 70 none
  statics := none }

def pool3 : Array CpInfo := pool [(1, .class_ 2), (0, u "java/io/Serializable"), (0, .class_ 4), (0, u "java/lang/Object")] 2

/-- java/io/Serializable -/
def k3 : Class := { plain "java/io/Serializable" (some 0) with
  accessFlags := 1537
  interfaces := #[]
  cf := some (fileOf pool3 1 #[] #[] 1537 3 #[] #[])
  fields := #[]
  methods := #[]
  instanceTypes := #[]
  staticTypes := #[]
  resolved := Array.replicate 7 none
  statics := none }

def pool4 : Array CpInfo := pool [(2, .class_ 4), (1, u "java/lang/Object"), (0, u "<init>"), (0, u "()V"), (1, .class_ 10), (1, u "java/lang/Number"), (2, .class_ 14), (0, u "java/io/Serializable"), (0, u "serialVersionUID"), (0, u "J")] 20

def k4m0 : Method := { name := "<init>", desc := "()V", sig := { parameters := [], returnType := none }, accessFlags := 1, code := none }
/-- java/lang/Number -/
def k4 : Class := { plain "java/lang/Number" (some 0) with
  accessFlags := 1057
  interfaces := #[3]
  cf := some (fileOf pool4 8 #[] #[{ accessFlags := 1, nameIndex := 5, descriptorIndex := 6, attributes := #[] }] 1057 2 #[13] #[{ accessFlags := 26, nameIndex := 15, descriptorIndex := 16, attributes := #[] }])
  fields := #[{ name := "serialVersionUID", type := .long, accessFlags := 26, slot := 0, constantValue := 0 }]
  methods := #[k4m0]
  instanceTypes := #[]
  staticTypes := #[.long]
  resolved := Array.replicate 37 none
  statics := none }

def pool5 : Array CpInfo := pool [(1, .class_ 2), (0, u "java/lang/Comparable"), (0, .class_ 4), (0, u "java/lang/Object")] 7

/-- java/lang/Comparable -/
def k5 : Class := { plain "java/lang/Comparable" (some 0) with
  accessFlags := 1537
  interfaces := #[]
  cf := some (fileOf pool5 1 #[] #[] 1537 3 #[] #[])
  fields := #[]
  methods := #[]
  instanceTypes := #[]
  staticTypes := #[]
  resolved := Array.replicate 12 none
  statics := none }

def pool6 : Array CpInfo := pool [(1, .class_ 2), (0, u "java/lang/constant/Constable"), (0, .class_ 4), (0, u "java/lang/Object")] 6

/-- java/lang/constant/Constable -/
def k6 : Class := { plain "java/lang/constant/Constable" (some 0) with
  accessFlags := 1537
  interfaces := #[]
  cf := some (fileOf pool6 1 #[] #[] 1537 3 #[] #[])
  fields := #[]
  methods := #[]
  instanceTypes := #[]
  staticTypes := #[]
  resolved := Array.replicate 11 none
  statics := none }

def pool7 : Array CpInfo := pool [(1, .class_ 2), (0, u "java/lang/constant/ConstantDesc"), (0, .class_ 4), (0, u "java/lang/Object")] 32

/-- java/lang/constant/ConstantDesc -/
def k7 : Class := { plain "java/lang/constant/ConstantDesc" (some 0) with
  accessFlags := 1537
  interfaces := #[]
  cf := some (fileOf pool7 1 #[] #[] 1537 3 #[] #[])
  fields := #[]
  methods := #[]
  instanceTypes := #[]
  staticTypes := #[]
  resolved := Array.replicate 37 none
  statics := none }

def pool8 : Array CpInfo := pool [(1, .class_ 2), (0, u "java/lang/Long"), (15, .class_ 20), (1, u "java/lang/Integer"), (80, u "(J)I"), (133, .class_ 237), (1, u "java/lang/Long$LongCache"), (33, .class_ 272), (0, u "java/lang/Number"), (2, u "value"), (0, u "J"), (33, u "(I)I"), (0, .methodref 18 312), (0, .nameAndType 313 310), (0, u "numberOfTrailingZeros"), (0, .long 6148914691236517205), (1, .long 3689348814741910323), (1, .long 1085102592571150095), (42, u "TYPE"), (0, u "Ljava/lang/Class;"), (0, .class_ 364), (0, u "java/lang/Comparable"), (0, .class_ 366), (0, u "java/lang/constant/Constable"), (0, .class_ 368), (0, u "java/lang/constant/ConstantDesc"), (0, u "MIN_VALUE"), (1, u "MAX_VALUE"), (4, u "SIZE"), (0, u "I"), (1, u "BYTES"), (1, u "serialVersionUID"), (94, u "bitCount")] 47

def k8c0 : Code := { maxStack := 4, maxLocals := 3, code := jdk_35_method_49_code, exceptionTable := #[], attributes := #[] }
def k8m0 : Method := { name := "numberOfTrailingZeros", desc := "(J)I", sig := { parameters := [.long], returnType := some .int }, accessFlags := 9, code := some k8c0 }
def k8c1 : Code := { maxStack := 6, maxLocals := 2, code := jdk_35_method_50_code, exceptionTable := #[], attributes := #[] }
def k8m1 : Method := { name := "bitCount", desc := "(J)I", sig := { parameters := [.long], returnType := some .int }, accessFlags := 9, code := some k8c1 }
/-- java/lang/Long -/
def k8 : Class := { plain "java/lang/Long" (some 4) with
  accessFlags := 49
  interfaces := #[5, 6, 7]
  cf := some (fileOf pool8 1 #[.nestMembers #[235]] #[{ accessFlags := 9, nameIndex := 313, descriptorIndex := 101, attributes := #[] }, { accessFlags := 9, nameIndex := 476, descriptorIndex := 101, attributes := #[] }] 49 271 #[363, 365, 367] #[{ accessFlags := 25, nameIndex := 369, descriptorIndex := 276, attributes := #[] }, { accessFlags := 25, nameIndex := 371, descriptorIndex := 276, attributes := #[] }, { accessFlags := 25, nameIndex := 361, descriptorIndex := 362, attributes := #[] }, { accessFlags := 18, nameIndex := 275, descriptorIndex := 276, attributes := #[] }, { accessFlags := 25, nameIndex := 376, descriptorIndex := 377, attributes := #[] }, { accessFlags := 25, nameIndex := 379, descriptorIndex := 377, attributes := #[] }, { accessFlags := 26, nameIndex := 381, descriptorIndex := 276, attributes := #[] }])
  fields := #[{ name := "MIN_VALUE", type := .long, accessFlags := 25, slot := 0, constantValue := 0 }, { name := "MAX_VALUE", type := .long, accessFlags := 25, slot := 1, constantValue := 0 }, { name := "TYPE", type := (.object "java/lang/Class"), accessFlags := 25, slot := 2, constantValue := 0 }, { name := "value", type := .long, accessFlags := 18, slot := 0, constantValue := 0 }, { name := "SIZE", type := .int, accessFlags := 25, slot := 3, constantValue := 0 }, { name := "BYTES", type := .int, accessFlags := 25, slot := 4, constantValue := 0 }, { name := "serialVersionUID", type := .long, accessFlags := 26, slot := 5, constantValue := 0 }]
  methods := #[k8m0, k8m1]
  instanceTypes := #[.long]
  staticTypes := #[.long, .long, (.object "java/lang/Class"), .int, .int, .long]
  resolved := Array.replicate 524 none
  statics := none }

def pool9 : Array CpInfo := pool [(1, .class_ 2), (0, u "java/lang/Integer"), (16, u "digits"), (0, u "[C"), (33, u "(I)I"), (30, u "DigitOnes"), (0, u "[B"), (2, u "DigitTens"), (99, .class_ 190), (0, u "java/lang/Integer$IntegerCache"), (3, u "I"), (8, .class_ 204), (0, u "java/lang/Number"), (2, u "value"), (56, .integer 65536), (37, u "TYPE"), (0, u "Ljava/lang/Class;"), (0, .class_ 305), (0, u "java/lang/Comparable"), (0, .class_ 307), (0, u "java/lang/constant/Constable"), (0, .class_ 309), (0, u "java/lang/constant/ConstantDesc"), (0, u "MIN_VALUE"), (1, u "MAX_VALUE"), (3, u "SIZE"), (1, u "BYTES"), (1, u "serialVersionUID"), (0, u "J"), (84, u "numberOfTrailingZeros")] 46

def k9c0 : Code := { maxStack := 3, maxLocals := 2, code := jdk_33_method_48_code, exceptionTable := #[], attributes := #[] }
def k9m0 : Method := { name := "numberOfTrailingZeros", desc := "(I)I", sig := { parameters := [.int], returnType := some .int }, accessFlags := 9, code := some k9c0 }
/-- java/lang/Integer -/
def k9 : Class := { plain "java/lang/Integer" (some 4) with
  accessFlags := 49
  interfaces := #[5, 6, 7]
  cf := some (fileOf pool9 1 #[.nestMembers #[189]] #[{ accessFlags := 9, nameIndex := 406, descriptorIndex := 54, attributes := #[] }] 49 203 #[304, 306, 308] #[{ accessFlags := 25, nameIndex := 310, descriptorIndex := 194, attributes := #[] }, { accessFlags := 25, nameIndex := 312, descriptorIndex := 194, attributes := #[] }, { accessFlags := 25, nameIndex := 302, descriptorIndex := 303, attributes := #[] }, { accessFlags := 24, nameIndex := 19, descriptorIndex := 20, attributes := #[] }, { accessFlags := 24, nameIndex := 89, descriptorIndex := 86, attributes := #[] }, { accessFlags := 24, nameIndex := 85, descriptorIndex := 86, attributes := #[] }, { accessFlags := 18, nameIndex := 207, descriptorIndex := 194, attributes := #[] }, { accessFlags := 25, nameIndex := 316, descriptorIndex := 194, attributes := #[] }, { accessFlags := 25, nameIndex := 318, descriptorIndex := 194, attributes := #[] }, { accessFlags := 26, nameIndex := 320, descriptorIndex := 321, attributes := #[] }])
  fields := #[{ name := "MIN_VALUE", type := .int, accessFlags := 25, slot := 0, constantValue := 0 }, { name := "MAX_VALUE", type := .int, accessFlags := 25, slot := 1, constantValue := 0 }, { name := "TYPE", type := (.object "java/lang/Class"), accessFlags := 25, slot := 2, constantValue := 0 }, { name := "digits", type := (.array .char), accessFlags := 24, slot := 3, constantValue := 0 }, { name := "DigitTens", type := (.array .byte), accessFlags := 24, slot := 4, constantValue := 0 }, { name := "DigitOnes", type := (.array .byte), accessFlags := 24, slot := 5, constantValue := 0 }, { name := "value", type := .int, accessFlags := 18, slot := 0, constantValue := 0 }, { name := "SIZE", type := .int, accessFlags := 25, slot := 6, constantValue := 0 }, { name := "BYTES", type := .int, accessFlags := 25, slot := 7, constantValue := 0 }, { name := "serialVersionUID", type := .long, accessFlags := 26, slot := 8, constantValue := 0 }]
  methods := #[k9m0]
  instanceTypes := #[.int]
  staticTypes := #[.int, .int, (.object "java/lang/Class"), (.array .char), (.array .byte), (.array .byte), .int, .int, .long]
  resolved := Array.replicate 453 none
  statics := none }

def pool10 : Array CpInfo := pool [(1, .class_ 2), (0, u "java/lang/Math"), (1, .class_ 6), (1, u "java/lang/Object"), (0, u "<init>"), (0, u "()V"), (89, .class_ 100), (1, u "java/lang/Math$RandomNumberGeneratorHolder"), (71, u "negativeZeroFloatBits"), (0, u "J"), (2, u "negativeZeroDoubleBits"), (21, u "max"), (2, u "min"), (43, u "$assertionsDisabled"), (0, u "Z"), (88, u "(II)I"), (2, u "twoToTheDoubleScaleDown"), (0, u "D"), (4, u "twoToTheDoubleScaleUp"), (9, u "E"), (3, u "PI"), (2, u "TAU"), (2, u "DEGREES_TO_RADIANS"), (0, u "RADIANS_TO_DEGREES")] 94

def k10m0 : Method := { name := "<init>", desc := "()V", sig := { parameters := [], returnType := none }, accessFlags := 2, code := none }
def k10c1 : Code := { maxStack := 2, maxLocals := 2, code := jdk_29_method_65_code, exceptionTable := #[], attributes := #[] }
def k10m1 : Method := { name := "max", desc := "(II)I", sig := { parameters := [.int, .int], returnType := some .int }, accessFlags := 9, code := some k10c1 }
def k10c2 : Code := { maxStack := 2, maxLocals := 2, code := jdk_29_method_69_code, exceptionTable := #[], attributes := #[] }
def k10m2 : Method := { name := "min", desc := "(II)I", sig := { parameters := [.int, .int], returnType := some .int }, accessFlags := 9, code := some k10c2 }
/-- java/lang/Math -/
def k10 : Class := { plain "java/lang/Math" (some 0) with
  accessFlags := 49
  interfaces := #[]
  cf := some (fileOf pool10 1 #[.nestMembers #[98]] #[{ accessFlags := 2, nameIndex := 7, descriptorIndex := 8, attributes := #[] }, { accessFlags := 9, nameIndex := 198, descriptorIndex := 335, attributes := #[] }, { accessFlags := 9, nameIndex := 201, descriptorIndex := 335, attributes := #[] }] 49 4 #[] #[{ accessFlags := 25, nameIndex := 354, descriptorIndex := 339, attributes := #[] }, { accessFlags := 25, nameIndex := 358, descriptorIndex := 339, attributes := #[] }, { accessFlags := 25, nameIndex := 361, descriptorIndex := 339, attributes := #[] }, { accessFlags := 26, nameIndex := 364, descriptorIndex := 339, attributes := #[] }, { accessFlags := 26, nameIndex := 365, descriptorIndex := 339, attributes := #[] }, { accessFlags := 26, nameIndex := 172, descriptorIndex := 173, attributes := #[] }, { accessFlags := 26, nameIndex := 176, descriptorIndex := 173, attributes := #[] }, { accessFlags := 8, nameIndex := 344, descriptorIndex := 339, attributes := #[] }, { accessFlags := 8, nameIndex := 338, descriptorIndex := 339, attributes := #[] }, { accessFlags := 4120, nameIndex := 245, descriptorIndex := 246, attributes := #[] }])
  fields := #[{ name := "E", type := .double, accessFlags := 25, slot := 0, constantValue := 0 }, { name := "PI", type := .double, accessFlags := 25, slot := 1, constantValue := 0 }, { name := "TAU", type := .double, accessFlags := 25, slot := 2, constantValue := 0 }, { name := "DEGREES_TO_RADIANS", type := .double, accessFlags := 26, slot := 3, constantValue := 0 }, { name := "RADIANS_TO_DEGREES", type := .double, accessFlags := 26, slot := 4, constantValue := 0 }, { name := "negativeZeroFloatBits", type := .long, accessFlags := 26, slot := 5, constantValue := 0 }, { name := "negativeZeroDoubleBits", type := .long, accessFlags := 26, slot := 6, constantValue := 0 }, { name := "twoToTheDoubleScaleUp", type := .double, accessFlags := 8, slot := 7, constantValue := 0 }, { name := "twoToTheDoubleScaleDown", type := .double, accessFlags := 8, slot := 8, constantValue := 0 }, { name := "$assertionsDisabled", type := .boolean, accessFlags := 4120, slot := 9, constantValue := 0 }]
  methods := #[k10m0, k10m1, k10m2]
  instanceTypes := #[]
  staticTypes := #[.double, .double, .double, .double, .double, .long, .long, .double, .double, .boolean]
  resolved := Array.replicate 460 none
  statics := none }

def pool11 : Array CpInfo := pool [(1, u "java/lang/Cloneable"), (0, .class_ 1), (0, u "java/lang/Object"), (0, .class_ 3)] 3

/-- java/lang/Cloneable -/
def k11 : Class := { plain "java/lang/Cloneable" (some 0) with
  accessFlags := 1537
  interfaces := #[]
  cf := some (fileOf pool11 2 #[] #[] 1537 4 #[] #[])
  fields := #[]
  methods := #[]
  instanceTypes := #[]
  staticTypes := #[]
  resolved := Array.replicate 8 none
  statics := none }

/-- the primitive byte -/
def k12 : Class := { plain "byte" none with kind := .primitive 'B', accessFlags := 0x411 }
/-- [B -/
def k13 : Class := { plain "[B" (some 0) with kind := .array 12 .byte, interfaces := #[11, 3], accessFlags := 1041 }

/-- the primitive int -/
def k14 : Class := { plain "int" none with kind := .primitive 'I', accessFlags := 0x411 }
/-- [I -/
def k15 : Class := { plain "[I" (some 0) with kind := .array 14 .int, interfaces := #[11, 3], accessFlags := 1041 }

/-- the primitive long -/
def k16 : Class := { plain "long" none with kind := .primitive 'J', accessFlags := 0x411 }
/-- [J -/
def k17 : Class := { plain "[J" (some 0) with kind := .array 16 .long, interfaces := #[11, 3], accessFlags := 1041 }

def heap : Heap := #[]
def classes : Array Class := #[k0, k1, k2, k3, k4, k5, k6, k7, k8, k9, k10, k11, k12, k13, k14, k15, k16, k17]
def interned : List (Array UInt16 × Addr) := []
def slotsUsed : Nat := 0
def theMethod : MethodId := ⟨1, 1⟩
def args0 : Array Value := #[.int 5, .int 6, .int 7, .int 8, .int 1, .int 103]
def aboutOver (below : List Frame) : State where
  vm := { classes := classes, interned := interned.toArray }
  heap := heap
  slotsUsed := slotsUsed
  threads := #[{ frames := .invoking theMethod args0 :: below }]
def below0 : List Frame := [.native { method := ⟨0, 0⟩, args := #[] }]
def about1 : State := aboutOver below0
def p0 : Program := .bare "" "" ""
def e0 : Env := launch0.env 0 0 0
theorem w_frames : about1.frames = Frame.invoking theMethod args0 :: below0 := rfl
set_option maxRecDepth 65536 in
theorem w_args : argsFit about1.vm theMethod args0 = true := by decide +kernel
set_option maxRecDepth 65536 in
theorem w_heap : heapFits about1 = true := by decide +kernel
set_option maxRecDepth 65536 in
theorem w_runnable : about1.curStatus? = some .runnable := by decide +kernel
set_option maxRecDepth 65536 in
theorem w_alone : about1.alone = true := by decide +kernel
set_option maxRecDepth 65536 in
theorem w_named : about1.methodNamed? x = some theMethod := by decide +kernel
set_option maxRecDepth 65536 in
theorem w_hears : about1.hears theMethod below0 = true := by decide +kernel
set_option maxRecDepth 65536 in
theorem w_ripe : about1.ripe theMethod args0 below0 = true := by decide +kernel
theorem w_running : about1.status = .running := rfl
set_option maxRecDepth 65536 in
theorem w_room : about1.hasRoom e0.platform room_1 = true :=
  launch0.hasRoom_least _ room_1 (by decide +kernel) (by decide +kernel) (by decide +kernel) (by decide +kernel) (by decide +kernel) (by decide +kernel)
theorem allAtoms_all (ts : List Jvm.Cond) (a : Array Jvm.Value) (st : Jvm.State) : (allAtoms ts).before a st = ts.all (fun c => c.before a st) := by
  induction ts with
  | nil => rfl
  | cons c t ih =>
    show (Jvm.Cond.and c (allAtoms t)).before a st = _
    rw [Jvm.Cond.before_and, ih, List.all_cons]
def words1 : List Jvm.Cond := Jvm.Cond.code x code maxLocals ret :: tables_1
/-- a 'code' word, met by the world's own term for the bytes: nothing is compared byte by byte -/
theorem code_word {y : MethodName} {bytes : ByteArray} {mx : Nat} {rt : Option FieldType} {a : Array Value} {s : State} {m : MethodId} {meth : Method} {c : Code} (h1 : s.methodNamed? y = some m) (h2 : s.vm.method? m = some meth) (h3 : meth.code = some c) (h4 : c.code = bytes)
    (h5 : (c.maxLocals == mx && c.exceptionTable.isEmpty && decide (c.maxStack ≤ mostOperands) && decide (meth.sig.returnType = rt) && !meth.locks && decide (parseMethodDescriptor y.desc = some meth.sig)) = true) : (Jvm.Cond.code y bytes mx rt).before a s = true := by
  simp only [Bool.and_eq_true, beq_iff_eq, Bool.not_eq_true', decide_eq_true_eq] at h5
  obtain ⟨⟨⟨⟨⟨g1, g2⟩, g3⟩, g4⟩, g5⟩, g6⟩ := h5
  simp [Cond.before, Cond.holds, Cond.value, h1, h2, h3, h4, g1, g2, g3, g4, g5, g6]
def isCode : Jvm.Cond → Bool
  | .code _ _ _ _ => true
  | _ => false
theorem all_split {L : List Jvm.Cond} {P : Jvm.Cond → Bool} (h1 : L.all (fun c => isCode c || P c) = true) (h2 : ∀ c ∈ L.filter isCode, P c = true) : L.all P = true := by
  refine List.all_eq_true.mpr fun c hc => ?_
  have h := List.all_eq_true.mp h1 c hc
  rcases Bool.eq_false_or_eq_true (isCode c) with hi | hi
  · exact h2 c (List.mem_filter.mpr ⟨hc, hi⟩)
  · simpa [hi] using h
set_option maxRecDepth 65536 in
theorem w_c0 : (Jvm.Cond.code x code maxLocals ret).before args0 about1 = true := code_word (m := ⟨1, 1⟩) (meth := k1m1) (c := k1c1) (by decide +kernel) rfl rfl rfl (by decide +kernel)
set_option maxRecDepth 65536 in
theorem w_c1 : (Jvm.Cond.code ({ cls := "com/example/lagline/lagline/exam/ConflictGraph", name := "members", desc := "([J)[I" } : Jvm.MethodName) prog_5_method_8_code (7 : Nat) (Option.some (Jvm.ClassFile.FieldType.array Jvm.ClassFile.FieldType.int))).before args0 about1 = true := code_word (m := ⟨2, 0⟩) (meth := k2m0) (c := k2c0) (by decide +kernel) rfl rfl rfl (by decide +kernel)
set_option maxRecDepth 65536 in
theorem w_c2 : (Jvm.Cond.code ({ cls := "com/example/lagline/lagline/exam/ConflictGraphMembersPinLaw", name := "at", desc := "([I[III)Z" } : Jvm.MethodName) method_5_code (4 : Nat) (Option.some Jvm.ClassFile.FieldType.boolean)).before args0 about1 = true := code_word (m := ⟨1, 4⟩) (meth := k1m4) (c := k1c4) (by decide +kernel) rfl rfl rfl (by decide +kernel)
set_option maxRecDepth 65536 in
theorem w_c3 : (Jvm.Cond.code ({ cls := "com/example/lagline/lagline/exam/ConflictGraphMembersPinLaw", name := "word", desc := "(ZIZI)J" } : Jvm.MethodName) method_3_code (6 : Nat) (Option.some Jvm.ClassFile.FieldType.long)).before args0 about1 = true := code_word (m := ⟨1, 2⟩) (meth := k1m2) (c := k1c2) (by decide +kernel) rfl rfl rfl (by decide +kernel)
set_option maxRecDepth 65536 in
theorem w_c4 : (Jvm.Cond.code ({ cls := "com/example/lagline/lagline/exam/ConflictGraphMembersPinLaw", name := "expect", desc := "([IIIZIZI)I" } : Jvm.MethodName) method_4_code (7 : Nat) (Option.some Jvm.ClassFile.FieldType.int)).before args0 about1 = true := code_word (m := ⟨1, 3⟩) (meth := k1m3) (c := k1c3) (by decide +kernel) rfl rfl rfl (by decide +kernel)
set_option maxRecDepth 65536 in
theorem w_c5 : (Jvm.Cond.code ({ cls := "java/lang/Long", name := "bitCount", desc := "(J)I" } : Jvm.MethodName) jdk_35_method_50_code (2 : Nat) (Option.some Jvm.ClassFile.FieldType.int)).before args0 about1 = true := code_word (m := ⟨8, 1⟩) (meth := k8m1) (c := k8c1) (by decide +kernel) rfl rfl rfl (by decide +kernel)
set_option maxRecDepth 65536 in
theorem w_c6 : (Jvm.Cond.code ({ cls := "java/lang/Long", name := "numberOfTrailingZeros", desc := "(J)I" } : Jvm.MethodName) jdk_35_method_49_code (3 : Nat) (Option.some Jvm.ClassFile.FieldType.int)).before args0 about1 = true := code_word (m := ⟨8, 0⟩) (meth := k8m0) (c := k8c0) (by decide +kernel) rfl rfl rfl (by decide +kernel)
set_option maxRecDepth 65536 in
theorem w_c7 : (Jvm.Cond.code ({ cls := "java/lang/Integer", name := "numberOfTrailingZeros", desc := "(I)I" } : Jvm.MethodName) jdk_33_method_48_code (2 : Nat) (Option.some Jvm.ClassFile.FieldType.int)).before args0 about1 = true := code_word (m := ⟨9, 0⟩) (meth := k9m0) (c := k9c0) (by decide +kernel) rfl rfl rfl (by decide +kernel)
set_option maxRecDepth 65536 in
theorem w_c8 : (Jvm.Cond.code ({ cls := "java/lang/Math", name := "min", desc := "(II)I" } : Jvm.MethodName) jdk_29_method_69_code (2 : Nat) (Option.some Jvm.ClassFile.FieldType.int)).before args0 about1 = true := code_word (m := ⟨10, 2⟩) (meth := k10m2) (c := k10c2) (by decide +kernel) rfl rfl rfl (by decide +kernel)
set_option maxRecDepth 65536 in
theorem w_c9 : (Jvm.Cond.code ({ cls := "java/lang/Math", name := "max", desc := "(II)I" } : Jvm.MethodName) jdk_29_method_65_code (2 : Nat) (Option.some Jvm.ClassFile.FieldType.int)).before args0 about1 = true := code_word (m := ⟨10, 1⟩) (meth := k10m1) (c := k10c1) (by decide +kernel) rfl rfl rfl (by decide +kernel)
def codes1 : List Jvm.Cond := [Jvm.Cond.code x code maxLocals ret, Jvm.Cond.code ({ cls := "com/example/lagline/lagline/exam/ConflictGraph", name := "members", desc := "([J)[I" } : Jvm.MethodName) prog_5_method_8_code (7 : Nat) (Option.some (Jvm.ClassFile.FieldType.array Jvm.ClassFile.FieldType.int)), Jvm.Cond.code ({ cls := "com/example/lagline/lagline/exam/ConflictGraphMembersPinLaw", name := "at", desc := "([I[III)Z" } : Jvm.MethodName) method_5_code (4 : Nat) (Option.some Jvm.ClassFile.FieldType.boolean), Jvm.Cond.code ({ cls := "com/example/lagline/lagline/exam/ConflictGraphMembersPinLaw", name := "word", desc := "(ZIZI)J" } : Jvm.MethodName) method_3_code (6 : Nat) (Option.some Jvm.ClassFile.FieldType.long), Jvm.Cond.code ({ cls := "com/example/lagline/lagline/exam/ConflictGraphMembersPinLaw", name := "expect", desc := "([IIIZIZI)I" } : Jvm.MethodName) method_4_code (7 : Nat) (Option.some Jvm.ClassFile.FieldType.int), Jvm.Cond.code ({ cls := "java/lang/Long", name := "bitCount", desc := "(J)I" } : Jvm.MethodName) jdk_35_method_50_code (2 : Nat) (Option.some Jvm.ClassFile.FieldType.int), Jvm.Cond.code ({ cls := "java/lang/Long", name := "numberOfTrailingZeros", desc := "(J)I" } : Jvm.MethodName) jdk_35_method_49_code (3 : Nat) (Option.some Jvm.ClassFile.FieldType.int), Jvm.Cond.code ({ cls := "java/lang/Integer", name := "numberOfTrailingZeros", desc := "(I)I" } : Jvm.MethodName) jdk_33_method_48_code (2 : Nat) (Option.some Jvm.ClassFile.FieldType.int), Jvm.Cond.code ({ cls := "java/lang/Math", name := "min", desc := "(II)I" } : Jvm.MethodName) jdk_29_method_69_code (2 : Nat) (Option.some Jvm.ClassFile.FieldType.int), Jvm.Cond.code ({ cls := "java/lang/Math", name := "max", desc := "(II)I" } : Jvm.MethodName) jdk_29_method_65_code (2 : Nat) (Option.some Jvm.ClassFile.FieldType.int)]
set_option maxRecDepth 65536 in
theorem codes_eq : words1.filter isCode = codes1 := rfl
theorem w_codes : ∀ c ∈ words1.filter isCode, c.before args0 about1 = true := by
  rw [codes_eq]
  intro c hc
  simp only [codes1, List.mem_cons, List.not_mem_nil, or_false] at hc
  rcases hc with rfl | rfl | rfl | rfl | rfl | rfl | rfl | rfl | rfl | rfl
  · exact w_c0
  · exact w_c1
  · exact w_c2
  · exact w_c3
  · exact w_c4
  · exact w_c5
  · exact w_c6
  · exact w_c7
  · exact w_c8
  · exact w_c9
set_option maxRecDepth 65536 in
theorem w_t1 : (words1.take 24).all (fun c => isCode c || c.before args0 about1) = true := by decide +kernel
set_option maxRecDepth 65536 in
theorem w_t2 : (words1.drop 24).all (fun c => isCode c || c.before args0 about1) = true := by decide +kernel
theorem w_tables : (allAtoms (Jvm.Cond.code x code maxLocals ret :: tables_1)).before args0 about1 = true := by
  rw [allAtoms_all]
  show words1.all (fun c => c.before args0 about1) = true
  refine all_split ?_ w_codes
  rw [← List.take_append_drop 24 words1, List.all_append, w_t1, w_t2]
  rfl
set_option maxRecDepth 65536 in
theorem w_case : (Jvm.Cond.and given_1 narrow_1).before args0 about1 = true := by decide +kernel
theorem w_applies : (headSpec (Jvm.Cond.code x code maxLocals ret :: tables_1) room_1).applies x e0.platform about1 = true :=
  (Spec.applies_iff w_frames).mpr ⟨w_running, w_runnable, w_alone, w_named, w_hears, w_ripe, w_room, w_tables⟩
theorem atStart : AtStart classFile x code maxLocals ret World_1 tables_1 room_1 Calls_1 rest_1 Pre_1 launch0 p0 e0 about1 theMethod args0 below0 :=
  ⟨lists_1, trivial, launch0.admits_env _ _ _, launch0.least_env, fairChoices_fair.cas, fairChoices_fair.clock, w_frames, w_args, w_heap, w_applies, trivial, trivial, w_case⟩
end start1
theorem witness_1 : WitnessClaimed_1 := ⟨start1.p0, start1.e0, start1.about1, start1.theMethod, start1.args0, start1.below0, start1.atStart⟩
end Jvm.Pilot.@@N@@
