import JvmDerived
import JvmDerived.Pilot.@@N@@Statement
import JvmDerived.Pilot.@@N@@Code
set_option linter.unusedVariables false
set_option linter.unusedSimpArgs false
namespace Jvm.OwnW
open Sem ClassFile Op Lib Jvm.Stand Jvm.Free Jvm.LawKit Jvm.RoadKit
/-- a body: its class, name, bytes, locals, return kind -/
abbrev Bdy : Type := String × String × ByteArray × Nat × Option FieldType
abbrev Bdy.own (B : Bdy) : String := B.1
abbrev Bdy.nm (B : Bdy) : String := B.2.1
abbrev Bdy.bytes (B : Bdy) : ByteArray := B.2.2.1
abbrev Bdy.ml (B : Bdy) : Nat := B.2.2.2.1
abbrev Bdy.ret (B : Bdy) : Option FieldType := B.2.2.2.2
/-- what stays through one invocation -/
def Ctx (p : Program) (s : State) (m : MethodId) (meth : Method) (c : Code) (Z : State) (B : Bdy) : Prop :=
  p.tables.exec = Jvm.exec ∧ c.code = B.bytes ∧ c.maxLocals = B.ml ∧ Z.Warmed39 s.vm ∧ s.vm.findClass B.own = some m.cls ∧ meth.sig.returnType = B.ret ∧ meth.locks = false ∧ meth.name = B.nm
/-- FROM HERE THE INVOCATION RETURNS, AND Q: whatever the rest of the state is -/
def W (l : Launch) (Z : State) (n0 : Nat) (R : Room) (B : Bdy) (Q : Option Value → Heap → Prop) (h : Heap) (cells slots : Nat) (pc : Nat) (Ls : List Slot) (St : List Value) : Prop :=
  ∀ (p : Program) (e : Env) (s : State) (m : MethodId) (args : Array Value) (below : List Frame) (meth : Method) (c : Code) (T : State) (locs : List Loc),
    Ctx p s m meth c Z B → Stand p l e R s m args below meth c T locs cells slots → T.heap = h → Fr n0 locs → cells ≤ R.cells → slots ≤ R.slots →
    ∃ (s₂ : State) (v : Option Value) (L : List Loc), Steps p.tables e below (T.setTop (mkF m pc ⟨Ls⟩ St)) s₂ ∧ s₂.status = .running ∧ Ended s₂ below (.returned v) ∧ Q v s₂.heap ∧ Fr n0 L ∧ FrameEnd s (.returned v) s₂ L R.cells R.slots
/-- l' is l with v at its k-th place -/
def Put (l : List Slot) (k : Nat) (v : Slot) (l' : List Slot) : Prop := l' = l.set k v ∧ k < l.length
theorem Put.z {a v : Slot} {l : List Slot} : Put (a :: l) 0 v (v :: l) := ⟨rfl, by simp⟩
theorem Put.s {a v : Slot} {l l' : List Slot} {k : Nat} (h : Put l k v l') : Put (a :: l) (k + 1) v (a :: l') := ⟨by simp [h.1], by simpa using h.2⟩
/-- the room of a callee -/
abbrev rmF (f c s w : Nat) : Room := { frames := f, cells := c, slots := s, locals := w }
section Steps
variable {l : Launch} {Z : State} {n0 : Nat} {R : Room} {B : Bdy} {Q : Option Value → Heap → Prop} {h : Heap} {cells slots pc q : Nat} {Ls Ls' : List Slot} {St St' : List Value} {a0 : Array Value}
theorem W.same (K : W l Z n0 R B Q h cells slots q Ls' St') (f : ∀ (p : Program) (e : Env) (s : State) (m : MethodId) (args : Array Value) (below : List Frame) (meth : Method) (c : Code) (T : State) (locs : List Loc), Ctx p s m meth c Z B → Stand p l e R s m args below meth c T locs cells slots → T.heap = h →
      ∀ target, Steps p.tables e below (T.setTop (mkF m q ⟨Ls'⟩ St')) target → Steps p.tables e below (T.setTop (mkF m pc ⟨Ls⟩ St)) target) : W l Z n0 R B Q h cells slots pc Ls St := by
  intro p e s m args below meth c T locs C X eT N hc hs
  obtain ⟨s₂, v, L, h1, h2⟩ := K p e s m args below meth c T locs C X eT N hc hs
  exact ⟨s₂, v, L, f p e s m args below meth c T locs C X eT _ h1, h2⟩
theorem W.warm (K : W l Z n0 R B Q h cells slots q Ls' St') (f : ∀ (p : Program) (e : Env) (s : State) (m : MethodId) (args : Array Value) (below : List Frame) (meth : Method) (c : Code) (T : State) (locs : List Loc), Ctx p s m meth c Z B → Stand p l e R s m args below meth c T locs cells slots → T.heap = h →
      ∃ T', Stand p l e R s m args below meth c T' locs cells slots ∧ T'.heap = h ∧ ∀ target, Steps p.tables e below (T'.setTop (mkF m q ⟨Ls'⟩ St')) target → Steps p.tables e below (T.setTop (mkF m pc ⟨Ls⟩ St)) target) : W l Z n0 R B Q h cells slots pc Ls St := by
  intro p e s m args below meth c T locs C X eT N hc hs
  obtain ⟨T', X', eT', st⟩ := f p e s m args below meth c T locs C X eT
  obtain ⟨s₂, v, L, h1, h2⟩ := K p e s m args below meth c T' locs C X' eT' N hc hs
  exact ⟨s₂, v, L, st _ h1, h2⟩
theorem W.wrote {a : Addr} {sl : Nat} {x : Value} (f : ∀ (p : Program) (e : Env) (s : State) (m : MethodId) (args : Array Value) (below : List Frame) (meth : Method) (c : Code) (T : State) (locs : List Loc), Ctx p s m meth c Z B → Stand p l e R s m args below meth c T locs cells slots → T.heap = h →
      ∃ T' h', Stand p l e R s m args below meth c T' (locs ++ [⟨a, sl⟩]) cells slots ∧ T'.heap = h' ∧ Wr h h' a sl x ∧ ∀ target, Steps p.tables e below (T'.setTop (mkF m q ⟨Ls'⟩ St')) target → Steps p.tables e below (T.setTop (mkF m pc ⟨Ls⟩ St)) target) (ha : n0 ≤ a) (K : ∀ h', Wr h h' a sl x → W l Z n0 R B Q h' cells slots q Ls' St') : W l Z n0 R B Q h cells slots pc Ls St := by
  intro p e s m args below meth c T locs C X eT N hc hs
  obtain ⟨T', h', X', eT', w, st⟩ := f p e s m args below meth c T locs C X eT
  obtain ⟨s₂, v, L, h1, h2⟩ := K h' w p e s m args below meth c T' _ C X' eT' (Fr.snoc X' N ha) hc hs
  exact ⟨s₂, v, L, st _ h1, h2⟩
/-! ### loads, stores, constants -/
theorem W.iload {k : Nat} {v : Int32} (hd : decode B.bytes pc = .ok (.iload k, 2)) (hl : Ls[k]? = some (.val (.int v))) (hq : pc + 2 = q) (K : W l Z n0 R B Q h cells slots q Ls (.int v :: St)) : W l Z n0 R B Q h cells slots pc Ls St := by
  subst hq; exact W.same K (fun p e s m args below meth c T locs C X eT t hr => XS.iload (g := mkF m pc ⟨Ls⟩ St) X.here C.1 rfl (hb C.2.1 hd) (by simpa using hl) hr)
theorem W.iloadN {k : Fin 4} {v : Int32} (hd : decode B.bytes pc = .ok (.iload_n k, 1)) (hl : Ls[k.val]? = some (.val (.int v))) (hq : pc + 1 = q) (K : W l Z n0 R B Q h cells slots q Ls (.int v :: St)) : W l Z n0 R B Q h cells slots pc Ls St := by
  subst hq; exact W.same K (fun p e s m args below meth c T locs C X eT t hr => XS.iloadN (g := mkF m pc ⟨Ls⟩ St) X.here C.1 rfl (hb C.2.1 hd) (by simpa using hl) hr)
theorem W.aload {k : Nat} {v : Value} (hd : decode B.bytes pc = .ok (.aload k, 2)) (hl : Ls[k]? = some (.val v)) (hv : v.isRef = true) (hq : pc + 2 = q) (K : W l Z n0 R B Q h cells slots q Ls (v :: St)) : W l Z n0 R B Q h cells slots pc Ls St := by
  subst hq; exact W.same K (fun p e s m args below meth c T locs C X eT t hr => XS.aload (g := mkF m pc ⟨Ls⟩ St) X.here C.1 rfl (hb C.2.1 hd) (by simpa using hl) hv hr)
theorem W.aloadN {k : Fin 4} {v : Value} (hd : decode B.bytes pc = .ok (.aload_n k, 1)) (hl : Ls[k.val]? = some (.val v)) (hv : v.isRef = true) (hq : pc + 1 = q) (K : W l Z n0 R B Q h cells slots q Ls (v :: St)) : W l Z n0 R B Q h cells slots pc Ls St := by
  subst hq; exact W.same K (fun p e s m args below meth c T locs C X eT t hr => XS.aloadN (g := mkF m pc ⟨Ls⟩ St) X.here C.1 rfl (hb C.2.1 hd) (by simpa using hl) hv hr)
theorem W.lload {k : Nat} {v : Int64} (hd : decode B.bytes pc = .ok (.lload k, 2)) (hl : Ls[k]? = some (.val (.long v))) (hq : pc + 2 = q) (K : W l Z n0 R B Q h cells slots q Ls (.long v :: St)) : W l Z n0 R B Q h cells slots pc Ls St := by
  subst hq; exact W.same K (fun p e s m args below meth c T locs C X eT t hr => XS.lload (g := mkF m pc ⟨Ls⟩ St) X.here C.1 rfl (hb C.2.1 hd) (by simpa using hl) hr)
theorem W.lloadN {k : Fin 4} {v : Int64} (hd : decode B.bytes pc = .ok (.lload_n k, 1)) (hl : Ls[k.val]? = some (.val (.long v))) (hq : pc + 1 = q) (K : W l Z n0 R B Q h cells slots q Ls (.long v :: St)) : W l Z n0 R B Q h cells slots pc Ls St := by
  subst hq; exact W.same K (fun p e s m args below meth c T locs C X eT t hr => XS.lloadN (g := mkF m pc ⟨Ls⟩ St) X.here C.1 rfl (hb C.2.1 hd) (by simpa using hl) hr)
theorem W.iconst {i : Int} {z : Int32} (hd : decode B.bytes pc = .ok (.iconst i, 1)) (hz : Int32.ofInt i = z) (hq : pc + 1 = q) (K : W l Z n0 R B Q h cells slots q Ls (.int z :: St)) : W l Z n0 R B Q h cells slots pc Ls St := by
  subst hq hz; exact W.same K (fun p e s m args below meth c T locs C X eT t hr => XS.iconst (g := mkF m pc ⟨Ls⟩ St) X.here C.1 rfl (hb C.2.1 hd) hr)
theorem W.bipush {i : Int} {z : Int32} (hd : decode B.bytes pc = .ok (.bipush i, 2)) (hz : (Int8.ofInt i).toInt32 = z) (hq : pc + 2 = q) (K : W l Z n0 R B Q h cells slots q Ls (.int z :: St)) : W l Z n0 R B Q h cells slots pc Ls St := by
  subst hq hz; exact W.same K (fun p e s m args below meth c T locs C X eT t hr => XS.bipush (g := mkF m pc ⟨Ls⟩ St) X.here C.1 rfl (hb C.2.1 hd) hr)
theorem W.sipush {i : Int} {z : Int32} (hd : decode B.bytes pc = .ok (.sipush i, 3)) (hz : (Int16.ofInt i).toInt32 = z) (hq : pc + 3 = q) (K : W l Z n0 R B Q h cells slots q Ls (.int z :: St)) : W l Z n0 R B Q h cells slots pc Ls St := by
  subst hq hz; exact W.same K (fun p e s m args below meth c T locs C X eT t hr => XS.sipush (g := mkF m pc ⟨Ls⟩ St) X.here C.1 rfl (hb C.2.1 hd) hr)
theorem W.ldc {i : Nat} {z : Int32} (hd : decode B.bytes pc = .ok (.ldc i, 2)) (w : (Cond.constant B.own i z).before a0 Z = true) (hq : pc + 2 = q) (K : W l Z n0 R B Q h cells slots q Ls (.int z :: St)) : W l Z n0 R B Q h cells slots pc Ls St := by
  subst hq; exact W.same K (fun p e s m args below meth c T locs C X eT t hr => X.ldcI (g := mkF m pc ⟨Ls⟩ St) C.1 C.2.2.2.2.1 (mvT C.2.2.2.1 w) rfl (hb C.2.1 hd) hr)
theorem W.ldcw {i : Nat} {z : Int32} (hd : decode B.bytes pc = .ok (.ldc_w i, 3)) (w : (Cond.constant B.own i z).before a0 Z = true) (hq : pc + 3 = q) (K : W l Z n0 R B Q h cells slots q Ls (.int z :: St)) : W l Z n0 R B Q h cells slots pc Ls St := by
  subst hq; exact W.same K (fun p e s m args below meth c T locs C X eT t hr => X.ldcWI (g := mkF m pc ⟨Ls⟩ St) C.1 C.2.2.2.2.1 (mvT C.2.2.2.1 w) rfl (hb C.2.1 hd) hr)
theorem W.ldc2 {i : Nat} {z : Int64} (hd : decode B.bytes pc = .ok (.ldc2_w i, 3)) (w : (Cond.constantLong B.own i z).before a0 Z = true) (hq : pc + 3 = q) (K : W l Z n0 R B Q h cells slots q Ls (.long z :: St)) : W l Z n0 R B Q h cells slots pc Ls St := by
  subst hq; exact W.same K (fun p e s m args below meth c T locs C X eT t hr => X.ldc2J (g := mkF m pc ⟨Ls⟩ St) C.1 C.2.2.2.2.1 (mvT C.2.2.2.1 w) rfl (hb C.2.1 hd) hr)
theorem W.lconst {k : Fin 2} {z : Int64} (hd : decode B.bytes pc = .ok (.lconst k, 1)) (hz : Int64.ofNat k.val = z) (hq : pc + 1 = q) (K : W l Z n0 R B Q h cells slots q Ls (.long z :: St)) : W l Z n0 R B Q h cells slots pc Ls St := by
  subst hq hz; exact W.same K (fun p e s m args below meth c T locs C X eT t hr => XS.lconst (g := mkF m pc ⟨Ls⟩ St) X.here C.1 rfl (hb C.2.1 hd) hr)
theorem W.aconstNull (hd : decode B.bytes pc = .ok (.aconst_null, 1)) (hq : pc + 1 = q) (K : W l Z n0 R B Q h cells slots q Ls (.null :: St)) : W l Z n0 R B Q h cells slots pc Ls St := by
  subst hq; exact W.same K (fun p e s m args below meth c T locs C X eT t hr => XS.aconstNull (g := mkF m pc ⟨Ls⟩ St) X.here C.1 rfl (hb C.2.1 hd) hr)
theorem put1 {k : Nat} {o : Slot} {v : Value} (hp : Put Ls k (.val v) Ls') (ho : Ls[k]? = some o) (h1 : o = .unset ∨ ∃ w, o = .val w ∧ w.category = 1) (hv : v.category = 1) : storeLocals ⟨Ls⟩ k v = some ⟨Ls'⟩ := by
  rw [XS.store1 (l := ⟨Ls⟩) (o := o) (by simpa using ho) h1 hv, hp.1]; simp
def one1 : Slot → Bool
  | .unset => true
  | .val w => w.category == 1
  | _ => false
theorem one1_of {o : Slot} (h : one1 o = true) : o = .unset ∨ ∃ w, o = .val w ∧ w.category = 1 := by
  cases o <;> simp_all [one1]
theorem W.istore {k : Nat} {o : Slot} {v : Int32} (hd : decode B.bytes pc = .ok (.istore k, 2)) (hp : Put Ls k (.val (.int v)) Ls') (ho : Ls[k]? = some o) (h1 : one1 o = true) (hq : pc + 2 = q) (K : W l Z n0 R B Q h cells slots q Ls' St) : W l Z n0 R B Q h cells slots pc Ls (.int v :: St) := by
  subst hq; exact W.same K (fun p e s m args below meth c T locs C X eT t hr => XS.istore (g := mkF m pc ⟨Ls⟩ (.int v :: St)) X.here C.1 rfl (hb C.2.1 hd) rfl (put1 hp ho (one1_of h1) rfl) hr)
theorem W.istoreN {k : Fin 4} {o : Slot} {v : Int32} (hd : decode B.bytes pc = .ok (.istore_n k, 1)) (hp : Put Ls k.val (.val (.int v)) Ls') (ho : Ls[k.val]? = some o) (h1 : one1 o = true) (hq : pc + 1 = q) (K : W l Z n0 R B Q h cells slots q Ls' St) : W l Z n0 R B Q h cells slots pc Ls (.int v :: St) := by
  subst hq; exact W.same K (fun p e s m args below meth c T locs C X eT t hr => XS.istoreN (g := mkF m pc ⟨Ls⟩ (.int v :: St)) X.here C.1 rfl (hb C.2.1 hd) rfl (put1 hp ho (one1_of h1) rfl) hr)
theorem W.astore {k : Nat} {o : Slot} {v : Value} (hd : decode B.bytes pc = .ok (.astore k, 2)) (hv : v.isRef = true) (hp : Put Ls k (.val v) Ls') (ho : Ls[k]? = some o) (h1 : one1 o = true) (hq : pc + 2 = q) (K : W l Z n0 R B Q h cells slots q Ls' St) : W l Z n0 R B Q h cells slots pc Ls (v :: St) := by
  subst hq; exact W.same K (fun p e s m args below meth c T locs C X eT t hr => XS.astore (g := mkF m pc ⟨Ls⟩ (v :: St)) X.here C.1 rfl (hb C.2.1 hd) rfl hv (put1 hp ho (one1_of h1) (by cases v <;> simp_all [Value.isRef, Value.category])) hr)
theorem W.astoreN {k : Fin 4} {o : Slot} {v : Value} (hd : decode B.bytes pc = .ok (.astore_n k, 1)) (hv : v.isRef = true) (hp : Put Ls k.val (.val v) Ls') (ho : Ls[k.val]? = some o) (h1 : one1 o = true) (hq : pc + 1 = q) (K : W l Z n0 R B Q h cells slots q Ls' St) : W l Z n0 R B Q h cells slots pc Ls (v :: St) := by
  subst hq; exact W.same K (fun p e s m args below meth c T locs C X eT t hr => XS.astoreN (g := mkF m pc ⟨Ls⟩ (v :: St)) X.here C.1 rfl (hb C.2.1 hd) rfl hv (put1 hp ho (one1_of h1) (by cases v <;> simp_all [Value.isRef, Value.category])) hr)
theorem W.iinc {k : Nat} {cst : Int} {x z : Int32} (hd : decode B.bytes pc = .ok (.iinc k cst, 3)) (hl : Ls[k]? = some (.val (.int x))) (hz : Int32.ofInt cst = z) (hp : Put Ls k (.val (.int (x + z))) Ls') (hq : pc + 3 = q) (K : W l Z n0 R B Q h cells slots q Ls' St) : W l Z n0 R B Q h cells slots pc Ls St := by
  subst hq hz; exact W.same K (fun p e s m args below meth c T locs C X eT t hr => XS.iinc (g := mkF m pc ⟨Ls⟩ St) X.here C.1 rfl (hb C.2.1 hd) (by simpa using hl) (put1 hp hl (Or.inr ⟨_, rfl, rfl⟩) rfl) hr)
/-- l' is l with the long v at its k-th and k+1-st place -/
def Put2 (l : List Slot) (k : Nat) (v : Value) (l' : List Slot) : Prop := l' = (l.set k (.val v)).set (k + 1) .second ∧ k + 1 < l.length
theorem Put2.z {a b : Slot} {v : Value} {l : List Slot} : Put2 (a :: b :: l) 0 v (.val v :: .second :: l) := ⟨rfl, by simp⟩
theorem Put2.s {a : Slot} {v : Value} {l l' : List Slot} {k : Nat} (h : Put2 l k v l') : Put2 (a :: l) (k + 1) v (a :: l') := ⟨by simp [h.1], by simpa using h.2⟩
def two2 : Slot → Slot → Bool
  | .val w, .second => w.category == 2
  | o, o' => one1 o && one1 o'
theorem set_set_second (l : List Slot) (k : Nat) (v : Slot) : ((l.set (k + 1) .unset).set k v).set (k + 1) .second = (l.set k v).set (k + 1) .second := by
  apply List.ext_getElem? ; intro i; by_cases h1 : k + 1 = i <;> by_cases h2 : k = i <;> simp_all [List.getElem?_set]
theorem put2 {k : Nat} {o o' : Slot} {v : Value} (hp : Put2 Ls k v Ls') (ho : Ls[k]? = some o) (ho' : Ls[k + 1]? = some o') (h1 : two2 o o' = true) (hv : v.category = 2) : storeLocals ⟨Ls⟩ k v = some ⟨Ls'⟩ := by
  obtain ⟨rfl, hk⟩ := hp
  have hk' : k < Ls.length := by omega
  have e1 := (List.getElem?_eq_some_iff.mp ho).2
  have e2 := (List.getElem?_eq_some_iff.mp ho').2
  cases o <;> cases o' <;> simp [two2, one1] at h1 <;> simp [storeLocals, storeSelf, setAt, hv, hk, hk', e1, e2, h1, List.getElem_set, set_set_second]
theorem W.lstore {k : Nat} {o o' : Slot} {v : Int64} (hd : decode B.bytes pc = .ok (.lstore k, 2)) (hp : Put2 Ls k (.long v) Ls') (ho : Ls[k]? = some o) (ho' : Ls[k + 1]? = some o') (h1 : two2 o o' = true) (hq : pc + 2 = q) (K : W l Z n0 R B Q h cells slots q Ls' St) : W l Z n0 R B Q h cells slots pc Ls (.long v :: St) := by
  subst hq; exact W.same K (fun p e s m args below meth c T locs C X eT t hr => XS.lstore (g := mkF m pc ⟨Ls⟩ (.long v :: St)) X.here C.1 rfl (hb C.2.1 hd) rfl (put2 hp ho ho' h1 rfl) hr)
theorem W.lstoreN {k : Fin 4} {o o' : Slot} {v : Int64} (hd : decode B.bytes pc = .ok (.lstore_n k, 1)) (hp : Put2 Ls k.val (.long v) Ls') (ho : Ls[k.val]? = some o) (ho' : Ls[k.val + 1]? = some o') (h1 : two2 o o' = true) (hq : pc + 1 = q) (K : W l Z n0 R B Q h cells slots q Ls' St) : W l Z n0 R B Q h cells slots pc Ls (.long v :: St) := by
  subst hq; exact W.same K (fun p e s m args below meth c T locs C X eT t hr => XS.lstoreN (g := mkF m pc ⟨Ls⟩ (.long v :: St)) X.here C.1 rfl (hb C.2.1 hd) rfl (put2 hp ho ho' h1 rfl) hr)
theorem W.iadd {x : Int32} {y : Int32} (hd : decode B.bytes pc = .ok (.iadd, 1)) (hq : pc + 1 = q) (K : W l Z n0 R B Q h cells slots q Ls (.int (x + y) :: St)) : W l Z n0 R B Q h cells slots pc Ls (.int y :: .int x :: St) := by
  subst hq; exact W.same K (fun p e s m args below meth c T locs C X eT t hr => XS.iadd (g := mkF m pc ⟨Ls⟩ (.int y :: .int x :: St)) X.here C.1 rfl (hb C.2.1 hd) rfl hr)
theorem W.isub {x : Int32} {y : Int32} (hd : decode B.bytes pc = .ok (.isub, 1)) (hq : pc + 1 = q) (K : W l Z n0 R B Q h cells slots q Ls (.int (x - y) :: St)) : W l Z n0 R B Q h cells slots pc Ls (.int y :: .int x :: St) := by
  subst hq; exact W.same K (fun p e s m args below meth c T locs C X eT t hr => XS.isub (g := mkF m pc ⟨Ls⟩ (.int y :: .int x :: St)) X.here C.1 rfl (hb C.2.1 hd) rfl hr)
theorem W.imul {x : Int32} {y : Int32} (hd : decode B.bytes pc = .ok (.imul, 1)) (hq : pc + 1 = q) (K : W l Z n0 R B Q h cells slots q Ls (.int (x * y) :: St)) : W l Z n0 R B Q h cells slots pc Ls (.int y :: .int x :: St) := by
  subst hq; exact W.same K (fun p e s m args below meth c T locs C X eT t hr => XS.imul (g := mkF m pc ⟨Ls⟩ (.int y :: .int x :: St)) X.here C.1 rfl (hb C.2.1 hd) rfl hr)
theorem W.iand {x : Int32} {y : Int32} (hd : decode B.bytes pc = .ok (.iand, 1)) (hq : pc + 1 = q) (K : W l Z n0 R B Q h cells slots q Ls (.int (x &&& y) :: St)) : W l Z n0 R B Q h cells slots pc Ls (.int y :: .int x :: St) := by
  subst hq; exact W.same K (fun p e s m args below meth c T locs C X eT t hr => XS.iand (g := mkF m pc ⟨Ls⟩ (.int y :: .int x :: St)) X.here C.1 rfl (hb C.2.1 hd) rfl hr)
theorem W.ior {x : Int32} {y : Int32} (hd : decode B.bytes pc = .ok (.ior, 1)) (hq : pc + 1 = q) (K : W l Z n0 R B Q h cells slots q Ls (.int (x ||| y) :: St)) : W l Z n0 R B Q h cells slots pc Ls (.int y :: .int x :: St) := by
  subst hq; exact W.same K (fun p e s m args below meth c T locs C X eT t hr => XS.ior (g := mkF m pc ⟨Ls⟩ (.int y :: .int x :: St)) X.here C.1 rfl (hb C.2.1 hd) rfl hr)
theorem W.ixor {x : Int32} {y : Int32} (hd : decode B.bytes pc = .ok (.ixor, 1)) (hq : pc + 1 = q) (K : W l Z n0 R B Q h cells slots q Ls (.int (x ^^^ y) :: St)) : W l Z n0 R B Q h cells slots pc Ls (.int y :: .int x :: St) := by
  subst hq; exact W.same K (fun p e s m args below meth c T locs C X eT t hr => XS.ixor (g := mkF m pc ⟨Ls⟩ (.int y :: .int x :: St)) X.here C.1 rfl (hb C.2.1 hd) rfl hr)
theorem W.ishl {x : Int32} {y : Int32} (hd : decode B.bytes pc = .ok (.ishl, 1)) (hq : pc + 1 = q) (K : W l Z n0 R B Q h cells slots q Ls (.int (x <<< (y &&& 0x1f)) :: St)) : W l Z n0 R B Q h cells slots pc Ls (.int y :: .int x :: St) := by
  subst hq; exact W.same K (fun p e s m args below meth c T locs C X eT t hr => XS.ishl (g := mkF m pc ⟨Ls⟩ (.int y :: .int x :: St)) X.here C.1 rfl (hb C.2.1 hd) rfl hr)
theorem W.ishr {x : Int32} {y : Int32} (hd : decode B.bytes pc = .ok (.ishr, 1)) (hq : pc + 1 = q) (K : W l Z n0 R B Q h cells slots q Ls (.int (x >>> (y &&& 0x1f)) :: St)) : W l Z n0 R B Q h cells slots pc Ls (.int y :: .int x :: St) := by
  subst hq; exact W.same K (fun p e s m args below meth c T locs C X eT t hr => XS.ishr (g := mkF m pc ⟨Ls⟩ (.int y :: .int x :: St)) X.here C.1 rfl (hb C.2.1 hd) rfl hr)
theorem W.iushr {x : Int32} {y : Int32} (hd : decode B.bytes pc = .ok (.iushr, 1)) (hq : pc + 1 = q) (K : W l Z n0 R B Q h cells slots q Ls (.int ((x.toUInt32 >>> (y &&& 0x1f).toUInt32).toInt32) :: St)) : W l Z n0 R B Q h cells slots pc Ls (.int y :: .int x :: St) := by
  subst hq; exact W.same K (fun p e s m args below meth c T locs C X eT t hr => XS.iushr (g := mkF m pc ⟨Ls⟩ (.int y :: .int x :: St)) X.here C.1 rfl (hb C.2.1 hd) rfl hr)
theorem W.ladd {x : Int64} {y : Int64} (hd : decode B.bytes pc = .ok (.ladd, 1)) (hq : pc + 1 = q) (K : W l Z n0 R B Q h cells slots q Ls (.long (x + y) :: St)) : W l Z n0 R B Q h cells slots pc Ls (.long y :: .long x :: St) := by
  subst hq; exact W.same K (fun p e s m args below meth c T locs C X eT t hr => XS.ladd (g := mkF m pc ⟨Ls⟩ (.long y :: .long x :: St)) X.here C.1 rfl (hb C.2.1 hd) rfl hr)
theorem W.lsub {x : Int64} {y : Int64} (hd : decode B.bytes pc = .ok (.lsub, 1)) (hq : pc + 1 = q) (K : W l Z n0 R B Q h cells slots q Ls (.long (x - y) :: St)) : W l Z n0 R B Q h cells slots pc Ls (.long y :: .long x :: St) := by
  subst hq; exact W.same K (fun p e s m args below meth c T locs C X eT t hr => XS.lsub (g := mkF m pc ⟨Ls⟩ (.long y :: .long x :: St)) X.here C.1 rfl (hb C.2.1 hd) rfl hr)
theorem W.lmul {x : Int64} {y : Int64} (hd : decode B.bytes pc = .ok (.lmul, 1)) (hq : pc + 1 = q) (K : W l Z n0 R B Q h cells slots q Ls (.long (x * y) :: St)) : W l Z n0 R B Q h cells slots pc Ls (.long y :: .long x :: St) := by
  subst hq; exact W.same K (fun p e s m args below meth c T locs C X eT t hr => XS.lmul (g := mkF m pc ⟨Ls⟩ (.long y :: .long x :: St)) X.here C.1 rfl (hb C.2.1 hd) rfl hr)
theorem W.land {x : Int64} {y : Int64} (hd : decode B.bytes pc = .ok (.land, 1)) (hq : pc + 1 = q) (K : W l Z n0 R B Q h cells slots q Ls (.long (x &&& y) :: St)) : W l Z n0 R B Q h cells slots pc Ls (.long y :: .long x :: St) := by
  subst hq; exact W.same K (fun p e s m args below meth c T locs C X eT t hr => XS.land (g := mkF m pc ⟨Ls⟩ (.long y :: .long x :: St)) X.here C.1 rfl (hb C.2.1 hd) rfl hr)
theorem W.lor {x : Int64} {y : Int64} (hd : decode B.bytes pc = .ok (.lor, 1)) (hq : pc + 1 = q) (K : W l Z n0 R B Q h cells slots q Ls (.long (x ||| y) :: St)) : W l Z n0 R B Q h cells slots pc Ls (.long y :: .long x :: St) := by
  subst hq; exact W.same K (fun p e s m args below meth c T locs C X eT t hr => XS.lor (g := mkF m pc ⟨Ls⟩ (.long y :: .long x :: St)) X.here C.1 rfl (hb C.2.1 hd) rfl hr)
theorem W.lxor {x : Int64} {y : Int64} (hd : decode B.bytes pc = .ok (.lxor, 1)) (hq : pc + 1 = q) (K : W l Z n0 R B Q h cells slots q Ls (.long (x ^^^ y) :: St)) : W l Z n0 R B Q h cells slots pc Ls (.long y :: .long x :: St) := by
  subst hq; exact W.same K (fun p e s m args below meth c T locs C X eT t hr => XS.lxor (g := mkF m pc ⟨Ls⟩ (.long y :: .long x :: St)) X.here C.1 rfl (hb C.2.1 hd) rfl hr)
theorem W.lshl {x : Int64} {y : Int32} (hd : decode B.bytes pc = .ok (.lshl, 1)) (hq : pc + 1 = q) (K : W l Z n0 R B Q h cells slots q Ls (.long (x <<< (y &&& 0x3f).toInt64) :: St)) : W l Z n0 R B Q h cells slots pc Ls (.int y :: .long x :: St) := by
  subst hq; exact W.same K (fun p e s m args below meth c T locs C X eT t hr => XS.lshl (g := mkF m pc ⟨Ls⟩ (.int y :: .long x :: St)) X.here C.1 rfl (hb C.2.1 hd) rfl hr)
theorem W.lshr {x : Int64} {y : Int32} (hd : decode B.bytes pc = .ok (.lshr, 1)) (hq : pc + 1 = q) (K : W l Z n0 R B Q h cells slots q Ls (.long (x >>> (y &&& 0x3f).toInt64) :: St)) : W l Z n0 R B Q h cells slots pc Ls (.int y :: .long x :: St) := by
  subst hq; exact W.same K (fun p e s m args below meth c T locs C X eT t hr => XS.lshr (g := mkF m pc ⟨Ls⟩ (.int y :: .long x :: St)) X.here C.1 rfl (hb C.2.1 hd) rfl hr)
theorem W.lushr {x : Int64} {y : Int32} (hd : decode B.bytes pc = .ok (.lushr, 1)) (hq : pc + 1 = q) (K : W l Z n0 R B Q h cells slots q Ls (.long ((x.toUInt64 >>> (y &&& 0x3f).toInt64.toUInt64).toInt64) :: St)) : W l Z n0 R B Q h cells slots pc Ls (.int y :: .long x :: St) := by
  subst hq; exact W.same K (fun p e s m args below meth c T locs C X eT t hr => XS.lushr (g := mkF m pc ⟨Ls⟩ (.int y :: .long x :: St)) X.here C.1 rfl (hb C.2.1 hd) rfl hr)
theorem W.lcmp {x : Int64} {y : Int64} (hd : decode B.bytes pc = .ok (.lcmp, 1)) (hq : pc + 1 = q) (K : W l Z n0 R B Q h cells slots q Ls (.int (lcmpW x y) :: St)) : W l Z n0 R B Q h cells slots pc Ls (.long y :: .long x :: St) := by
  subst hq; exact W.same K (fun p e s m args below meth c T locs C X eT t hr => XS.lcmp (g := mkF m pc ⟨Ls⟩ (.long y :: .long x :: St)) X.here C.1 rfl (hb C.2.1 hd) rfl hr)
theorem W.ineg {x : Int32} (hd : decode B.bytes pc = .ok (.ineg, 1)) (hq : pc + 1 = q) (K : W l Z n0 R B Q h cells slots q Ls (.int (-x) :: St)) : W l Z n0 R B Q h cells slots pc Ls (.int x :: St) := by
  subst hq; exact W.same K (fun p e s m args below meth c T locs C X eT t hr => XS.ineg (g := mkF m pc ⟨Ls⟩ (.int x :: St)) X.here C.1 rfl (hb C.2.1 hd) rfl hr)
theorem W.i2l {x : Int32} (hd : decode B.bytes pc = .ok (.i2l, 1)) (hq : pc + 1 = q) (K : W l Z n0 R B Q h cells slots q Ls (.long (x.toInt64) :: St)) : W l Z n0 R B Q h cells slots pc Ls (.int x :: St) := by
  subst hq; exact W.same K (fun p e s m args below meth c T locs C X eT t hr => XS.i2l (g := mkF m pc ⟨Ls⟩ (.int x :: St)) X.here C.1 rfl (hb C.2.1 hd) rfl hr)
theorem W.l2i {x : Int64} (hd : decode B.bytes pc = .ok (.l2i, 1)) (hq : pc + 1 = q) (K : W l Z n0 R B Q h cells slots q Ls (.int (x.toInt32) :: St)) : W l Z n0 R B Q h cells slots pc Ls (.long x :: St) := by
  subst hq; exact W.same K (fun p e s m args below meth c T locs C X eT t hr => XS.l2i (g := mkF m pc ⟨Ls⟩ (.long x :: St)) X.here C.1 rfl (hb C.2.1 hd) rfl hr)
theorem W.i2b {x : Int32} (hd : decode B.bytes pc = .ok (.i2b, 1)) (hq : pc + 1 = q) (K : W l Z n0 R B Q h cells slots q Ls (.int (x.toInt8.toInt32) :: St)) : W l Z n0 R B Q h cells slots pc Ls (.int x :: St) := by
  subst hq; exact W.same K (fun p e s m args below meth c T locs C X eT t hr => XS.i2b (g := mkF m pc ⟨Ls⟩ (.int x :: St)) X.here C.1 rfl (hb C.2.1 hd) rfl hr)
theorem W.i2c {x : Int32} (hd : decode B.bytes pc = .ok (.i2c, 1)) (hq : pc + 1 = q) (K : W l Z n0 R B Q h cells slots q Ls (.int (x.toUInt32.toUInt16.toUInt32.toInt32) :: St)) : W l Z n0 R B Q h cells slots pc Ls (.int x :: St) := by
  subst hq; exact W.same K (fun p e s m args below meth c T locs C X eT t hr => XS.i2c (g := mkF m pc ⟨Ls⟩ (.int x :: St)) X.here C.1 rfl (hb C.2.1 hd) rfl hr)
theorem W.i2s {x : Int32} (hd : decode B.bytes pc = .ok (.i2s, 1)) (hq : pc + 1 = q) (K : W l Z n0 R B Q h cells slots q Ls (.int (x.toInt16.toInt32) :: St)) : W l Z n0 R B Q h cells slots pc Ls (.int x :: St) := by
  subst hq; exact W.same K (fun p e s m args below meth c T locs C X eT t hr => XS.i2s (g := mkF m pc ⟨Ls⟩ (.int x :: St)) X.here C.1 rfl (hb C.2.1 hd) rfl hr)
theorem W.irem {x y : Int32} (hd : decode B.bytes pc = .ok (.irem, 1)) (hy : y ≠ 0) (hq : pc + 1 = q) (K : W l Z n0 R B Q h cells slots q Ls (.int (x % y) :: St)) : W l Z n0 R B Q h cells slots pc Ls (.int y :: .int x :: St) := by
  subst hq; exact W.same K (fun p e s m args below meth c T locs C X eT t hr => iremM (g := mkF m pc ⟨Ls⟩ (.int y :: .int x :: St)) X C.1 rfl (hb C.2.1 hd) rfl hy hr)
theorem W.idiv {x y : Int32} (hd : decode B.bytes pc = .ok (.idiv, 1)) (hy : y ≠ 0) (hq : pc + 1 = q) (K : W l Z n0 R B Q h cells slots q Ls (.int (x / y) :: St)) : W l Z n0 R B Q h cells slots pc Ls (.int y :: .int x :: St) := by
  subst hq; exact W.same K (fun p e s m args below meth c T locs C X eT t hr => XS.idiv (g := mkF m pc ⟨Ls⟩ (.int y :: .int x :: St)) X.here C.1 rfl (hb C.2.1 hd) rfl hy hr)
theorem W.dup {x : Value} (hd : decode B.bytes pc = .ok (.dup, 1)) (hc : x.category = 1) (hq : pc + 1 = q) (K : W l Z n0 R B Q h cells slots q Ls (x :: x :: St)) : W l Z n0 R B Q h cells slots pc Ls (x :: St) := by
  subst hq; exact W.same K (fun p e s m args below meth c T locs C X eT t hr => XS.dup (g := mkF m pc ⟨Ls⟩ (x :: St)) X.here C.1 rfl (hb C.2.1 hd) rfl hc hr)
theorem W.pop {x : Value} (hd : decode B.bytes pc = .ok (.pop, 1)) (hc : x.category = 1) (hq : pc + 1 = q) (K : W l Z n0 R B Q h cells slots q Ls St) : W l Z n0 R B Q h cells slots pc Ls (x :: St) := by
  subst hq; exact W.same K (fun p e s m args below meth c T locs C X eT t hr => XS.pop (g := mkF m pc ⟨Ls⟩ (x :: St)) X.here C.1 rfl (hb C.2.1 hd) rfl hc hr)
theorem W.dup2 {x y : Value} (hd : decode B.bytes pc = .ok (.dup2, 1)) (hc : x.category = 1) (hc' : y.category = 1) (hq : pc + 1 = q) (K : W l Z n0 R B Q h cells slots q Ls (x :: y :: x :: y :: St)) : W l Z n0 R B Q h cells slots pc Ls (x :: y :: St) := by
  subst hq; exact W.same K (fun p e s m args below meth c T locs C X eT t hr => XT.dup2 (g := mkF m pc ⟨Ls⟩ (x :: y :: St)) X.here C.1 rfl (hb C.2.1 hd) rfl hc hc' hr)
theorem W.goto {o : Int} (hd : decode B.bytes pc = .ok (.goto o, 3)) (ho : 0 ≤ (pc : Int) + o) (hq : ((pc : Int) + o).toNat = q) (K : W l Z n0 R B Q h cells slots q Ls St) : W l Z n0 R B Q h cells slots pc Ls St :=
  W.same K (fun p e s m args below meth c T locs C X eT t hr => XS.goto (g := mkF m pc ⟨Ls⟩ St) X.here C.1 rfl rfl (hb C.2.1 hd) ho hq hr)
theorem W.icmp {cd : ClassFile.Cond} {o : Int} {x y : Int32} {q' : Nat} (hd : decode B.bytes pc = .ok (.if_icmp cd o, 3)) (ho : 0 ≤ (pc : Int) + o) (hq : ((pc : Int) + o).toNat = q) (hq' : pc + 3 = q') (K1 : if_icmp.holds cd x y = true → W l Z n0 R B Q h cells slots q Ls St) (K2 : if_icmp.holds cd x y = false → W l Z n0 R B Q h cells slots q' Ls St) : W l Z n0 R B Q h cells slots pc Ls (.int y :: .int x :: St) := by
  subst hq'
  rcases Bool.eq_false_or_eq_true (if_icmp.holds cd x y) with hc | hc
  · exact W.same (K1 hc) (fun p e s m args below meth c T locs C X eT t hr => XS.icmpYes (g := mkF m pc ⟨Ls⟩ (.int y :: .int x :: St)) X.here C.1 rfl rfl (hb C.2.1 hd) rfl hc ho hq hr)
  · exact W.same (K2 hc) (fun p e s m args below meth c T locs C X eT t hr => XS.icmpNo (g := mkF m pc ⟨Ls⟩ (.int y :: .int x :: St)) X.here C.1 rfl (hb C.2.1 hd) rfl hc hr)
theorem W.ifc {cd : ClassFile.Cond} {o : Int} {x : Int32} {q' : Nat} (hd : decode B.bytes pc = .ok (.ifCond cd o, 3)) (ho : 0 ≤ (pc : Int) + o) (hq : ((pc : Int) + o).toNat = q) (hq' : pc + 3 = q') (K1 : if_icmp.holds cd x 0 = true → W l Z n0 R B Q h cells slots q Ls St) (K2 : if_icmp.holds cd x 0 = false → W l Z n0 R B Q h cells slots q' Ls St) : W l Z n0 R B Q h cells slots pc Ls (.int x :: St) := by
  subst hq'
  rcases Bool.eq_false_or_eq_true (if_icmp.holds cd x 0) with hc | hc
  · exact W.same (K1 hc) (fun p e s m args below meth c T locs C X eT t hr => XS.ifYes (g := mkF m pc ⟨Ls⟩ (.int x :: St)) X.here C.1 rfl rfl (hb C.2.1 hd) rfl ((if0 cd x).trans hc) ho hq hr)
  · exact W.same (K2 hc) (fun p e s m args below meth c T locs C X eT t hr => XS.ifNo (g := mkF m pc ⟨Ls⟩ (.int x :: St)) X.here C.1 rfl (hb C.2.1 hd) rfl ((if0 cd x).trans hc) hr)
theorem W.icmp_eq {o : Int} {x y : Int32} {q' : Nat} (hd : decode B.bytes pc = .ok (.if_icmp .eq o, 3)) (ho : 0 ≤ (pc : Int) + o) (hq : ((pc : Int) + o).toNat = q) (hq' : pc + 3 = q') (K1 : x = y → W l Z n0 R B Q h cells slots q Ls St) (K2 : ¬ x = y → W l Z n0 R B Q h cells slots q' Ls St) : W l Z n0 R B Q h cells slots pc Ls (.int y :: .int x :: St) :=
  W.icmp hd ho hq hq' (fun hc => K1 (by simpa [if_icmp.holds, Int32.not_lt, Int32.not_le] using hc)) (fun hc => K2 (by simpa [if_icmp.holds, Int32.not_lt, Int32.not_le] using hc))
theorem W.ifc_eq {o : Int} {x : Int32} {q' : Nat} (hd : decode B.bytes pc = .ok (.ifCond .eq o, 3)) (ho : 0 ≤ (pc : Int) + o) (hq : ((pc : Int) + o).toNat = q) (hq' : pc + 3 = q') (K1 : x = 0 → W l Z n0 R B Q h cells slots q Ls St) (K2 : ¬ x = 0 → W l Z n0 R B Q h cells slots q' Ls St) : W l Z n0 R B Q h cells slots pc Ls (.int x :: St) :=
  W.ifc hd ho hq hq' (fun hc => K1 (by simpa [if_icmp.holds, Int32.not_lt, Int32.not_le] using hc)) (fun hc => K2 (by simpa [if_icmp.holds, Int32.not_lt, Int32.not_le] using hc))
theorem W.icmp_ne {o : Int} {x y : Int32} {q' : Nat} (hd : decode B.bytes pc = .ok (.if_icmp .ne o, 3)) (ho : 0 ≤ (pc : Int) + o) (hq : ((pc : Int) + o).toNat = q) (hq' : pc + 3 = q') (K1 : ¬ x = y → W l Z n0 R B Q h cells slots q Ls St) (K2 : x = y → W l Z n0 R B Q h cells slots q' Ls St) : W l Z n0 R B Q h cells slots pc Ls (.int y :: .int x :: St) :=
  W.icmp hd ho hq hq' (fun hc => K1 (by simpa [if_icmp.holds, Int32.not_lt, Int32.not_le] using hc)) (fun hc => K2 (by simpa [if_icmp.holds, Int32.not_lt, Int32.not_le] using hc))
theorem W.ifc_ne {o : Int} {x : Int32} {q' : Nat} (hd : decode B.bytes pc = .ok (.ifCond .ne o, 3)) (ho : 0 ≤ (pc : Int) + o) (hq : ((pc : Int) + o).toNat = q) (hq' : pc + 3 = q') (K1 : ¬ x = 0 → W l Z n0 R B Q h cells slots q Ls St) (K2 : x = 0 → W l Z n0 R B Q h cells slots q' Ls St) : W l Z n0 R B Q h cells slots pc Ls (.int x :: St) :=
  W.ifc hd ho hq hq' (fun hc => K1 (by simpa [if_icmp.holds, Int32.not_lt, Int32.not_le] using hc)) (fun hc => K2 (by simpa [if_icmp.holds, Int32.not_lt, Int32.not_le] using hc))
theorem W.icmp_lt {o : Int} {x y : Int32} {q' : Nat} (hd : decode B.bytes pc = .ok (.if_icmp .lt o, 3)) (ho : 0 ≤ (pc : Int) + o) (hq : ((pc : Int) + o).toNat = q) (hq' : pc + 3 = q') (K1 : x < y → W l Z n0 R B Q h cells slots q Ls St) (K2 : ¬ x < y → W l Z n0 R B Q h cells slots q' Ls St) : W l Z n0 R B Q h cells slots pc Ls (.int y :: .int x :: St) :=
  W.icmp hd ho hq hq' (fun hc => K1 (by simpa [if_icmp.holds, Int32.not_lt, Int32.not_le] using hc)) (fun hc => K2 (by simpa [if_icmp.holds, Int32.not_lt, Int32.not_le] using hc))
theorem W.ifc_lt {o : Int} {x : Int32} {q' : Nat} (hd : decode B.bytes pc = .ok (.ifCond .lt o, 3)) (ho : 0 ≤ (pc : Int) + o) (hq : ((pc : Int) + o).toNat = q) (hq' : pc + 3 = q') (K1 : x < 0 → W l Z n0 R B Q h cells slots q Ls St) (K2 : ¬ x < 0 → W l Z n0 R B Q h cells slots q' Ls St) : W l Z n0 R B Q h cells slots pc Ls (.int x :: St) :=
  W.ifc hd ho hq hq' (fun hc => K1 (by simpa [if_icmp.holds, Int32.not_lt, Int32.not_le] using hc)) (fun hc => K2 (by simpa [if_icmp.holds, Int32.not_lt, Int32.not_le] using hc))
theorem W.icmp_ge {o : Int} {x y : Int32} {q' : Nat} (hd : decode B.bytes pc = .ok (.if_icmp .ge o, 3)) (ho : 0 ≤ (pc : Int) + o) (hq : ((pc : Int) + o).toNat = q) (hq' : pc + 3 = q') (K1 : ¬ x < y → W l Z n0 R B Q h cells slots q Ls St) (K2 : x < y → W l Z n0 R B Q h cells slots q' Ls St) : W l Z n0 R B Q h cells slots pc Ls (.int y :: .int x :: St) :=
  W.icmp hd ho hq hq' (fun hc => K1 (by simpa [if_icmp.holds, Int32.not_lt, Int32.not_le] using hc)) (fun hc => K2 (by simpa [if_icmp.holds, Int32.not_lt, Int32.not_le] using hc))
theorem W.ifc_ge {o : Int} {x : Int32} {q' : Nat} (hd : decode B.bytes pc = .ok (.ifCond .ge o, 3)) (ho : 0 ≤ (pc : Int) + o) (hq : ((pc : Int) + o).toNat = q) (hq' : pc + 3 = q') (K1 : ¬ x < 0 → W l Z n0 R B Q h cells slots q Ls St) (K2 : x < 0 → W l Z n0 R B Q h cells slots q' Ls St) : W l Z n0 R B Q h cells slots pc Ls (.int x :: St) :=
  W.ifc hd ho hq hq' (fun hc => K1 (by simpa [if_icmp.holds, Int32.not_lt, Int32.not_le] using hc)) (fun hc => K2 (by simpa [if_icmp.holds, Int32.not_lt, Int32.not_le] using hc))
theorem W.icmp_gt {o : Int} {x y : Int32} {q' : Nat} (hd : decode B.bytes pc = .ok (.if_icmp .gt o, 3)) (ho : 0 ≤ (pc : Int) + o) (hq : ((pc : Int) + o).toNat = q) (hq' : pc + 3 = q') (K1 : y < x → W l Z n0 R B Q h cells slots q Ls St) (K2 : ¬ y < x → W l Z n0 R B Q h cells slots q' Ls St) : W l Z n0 R B Q h cells slots pc Ls (.int y :: .int x :: St) :=
  W.icmp hd ho hq hq' (fun hc => K1 (by simpa [if_icmp.holds, Int32.not_lt, Int32.not_le] using hc)) (fun hc => K2 (by simpa [if_icmp.holds, Int32.not_lt, Int32.not_le] using hc))
theorem W.ifc_gt {o : Int} {x : Int32} {q' : Nat} (hd : decode B.bytes pc = .ok (.ifCond .gt o, 3)) (ho : 0 ≤ (pc : Int) + o) (hq : ((pc : Int) + o).toNat = q) (hq' : pc + 3 = q') (K1 : 0 < x → W l Z n0 R B Q h cells slots q Ls St) (K2 : ¬ 0 < x → W l Z n0 R B Q h cells slots q' Ls St) : W l Z n0 R B Q h cells slots pc Ls (.int x :: St) :=
  W.ifc hd ho hq hq' (fun hc => K1 (by simpa [if_icmp.holds, Int32.not_lt, Int32.not_le] using hc)) (fun hc => K2 (by simpa [if_icmp.holds, Int32.not_lt, Int32.not_le] using hc))
theorem W.icmp_le {o : Int} {x y : Int32} {q' : Nat} (hd : decode B.bytes pc = .ok (.if_icmp .le o, 3)) (ho : 0 ≤ (pc : Int) + o) (hq : ((pc : Int) + o).toNat = q) (hq' : pc + 3 = q') (K1 : ¬ y < x → W l Z n0 R B Q h cells slots q Ls St) (K2 : y < x → W l Z n0 R B Q h cells slots q' Ls St) : W l Z n0 R B Q h cells slots pc Ls (.int y :: .int x :: St) :=
  W.icmp hd ho hq hq' (fun hc => K1 (by simpa [if_icmp.holds, Int32.not_lt, Int32.not_le] using hc)) (fun hc => K2 (by simpa [if_icmp.holds, Int32.not_lt, Int32.not_le] using hc))
theorem W.ifc_le {o : Int} {x : Int32} {q' : Nat} (hd : decode B.bytes pc = .ok (.ifCond .le o, 3)) (ho : 0 ≤ (pc : Int) + o) (hq : ((pc : Int) + o).toNat = q) (hq' : pc + 3 = q') (K1 : ¬ 0 < x → W l Z n0 R B Q h cells slots q Ls St) (K2 : 0 < x → W l Z n0 R B Q h cells slots q' Ls St) : W l Z n0 R B Q h cells slots pc Ls (.int x :: St) :=
  W.ifc hd ho hq hq' (fun hc => K1 (by simpa [if_icmp.holds, Int32.not_lt, Int32.not_le] using hc)) (fun hc => K2 (by simpa [if_icmp.holds, Int32.not_lt, Int32.not_le] using hc))
theorem W.ifnull_yes {o : Int} (hd : decode B.bytes pc = .ok (.ifnull o, 3)) (ho : 0 ≤ (pc : Int) + o) (hq : ((pc : Int) + o).toNat = q) (K : W l Z n0 R B Q h cells slots q Ls St) : W l Z n0 R B Q h cells slots pc Ls (.null :: St) :=
  W.same K (fun p e s m args below meth c T locs C X eT t hr => XS.ifnullYes (g := mkF m pc ⟨Ls⟩ (.null :: St)) X.here C.1 rfl rfl (hb C.2.1 hd) rfl ho hq hr)
theorem W.ifnull_no {o : Int} {b : Addr} (hd : decode B.bytes pc = .ok (.ifnull o, 3)) (hq : pc + 3 = q) (K : W l Z n0 R B Q h cells slots q Ls St) : W l Z n0 R B Q h cells slots pc Ls (.ref b :: St) := by
  subst hq; exact W.same K (fun p e s m args below meth c T locs C X eT t hr => XS.ifnullNo (g := mkF m pc ⟨Ls⟩ (.ref b :: St)) X.here C.1 rfl (hb C.2.1 hd) rfl hr)
theorem W.ifnonnull_yes {o : Int} {b : Addr} (hd : decode B.bytes pc = .ok (.ifnonnull o, 3)) (ho : 0 ≤ (pc : Int) + o) (hq : ((pc : Int) + o).toNat = q) (K : W l Z n0 R B Q h cells slots q Ls St) : W l Z n0 R B Q h cells slots pc Ls (.ref b :: St) :=
  W.same K (fun p e s m args below meth c T locs C X eT t hr => XS.ifnonnullYes (g := mkF m pc ⟨Ls⟩ (.ref b :: St)) X.here C.1 rfl rfl (hb C.2.1 hd) rfl ho hq hr)
theorem W.ifnonnull_no {o : Int} (hd : decode B.bytes pc = .ok (.ifnonnull o, 3)) (hq : pc + 3 = q) (K : W l Z n0 R B Q h cells slots q Ls St) : W l Z n0 R B Q h cells slots pc Ls (.null :: St) := by
  subst hq; exact W.same K (fun p e s m args below meth c T locs C X eT t hr => XS.ifnonnullNo (g := mkF m pc ⟨Ls⟩ (.null :: St)) X.here C.1 rfl (hb C.2.1 hd) rfl hr)
theorem W.acmp_ne {o : Int} {x y : Value} {q' : Nat} (hd : decode B.bytes pc = .ok (.if_acmp .ne o, 3)) (h1 : x.isRef = true) (h2 : y.isRef = true) (ho : 0 ≤ (pc : Int) + o) (hq : ((pc : Int) + o).toNat = q) (hq' : pc + 3 = q') (K1 : ¬ x = y → W l Z n0 R B Q h cells slots q Ls St) (K2 : x = y → W l Z n0 R B Q h cells slots q' Ls St) : W l Z n0 R B Q h cells slots pc Ls (y :: x :: St) := by
  subst hq hq'
  by_cases hc : x = y
  · exact W.same (K2 hc) (fun p e s m args below meth c T locs C X eT t hr => acmp (g := mkF m pc ⟨Ls⟩ (y :: x :: St)) X C.1 rfl h1 h2 rfl (hb C.2.1 hd) rfl (same := true) (by simpa using hc) ho (by simp [acV]) hr)
  · exact W.same (K1 hc) (fun p e s m args below meth c T locs C X eT t hr => acmp (g := mkF m pc ⟨Ls⟩ (y :: x :: St)) X C.1 rfl h1 h2 rfl (hb C.2.1 hd) rfl (same := false) (by simpa using hc) ho (by simp [acV]) hr)
theorem W.acmp_eq {o : Int} {x y : Value} {q' : Nat} (hd : decode B.bytes pc = .ok (.if_acmp .eq o, 3)) (h1 : x.isRef = true) (h2 : y.isRef = true) (ho : 0 ≤ (pc : Int) + o) (hq : ((pc : Int) + o).toNat = q) (hq' : pc + 3 = q') (K1 : x = y → W l Z n0 R B Q h cells slots q Ls St) (K2 : ¬ x = y → W l Z n0 R B Q h cells slots q' Ls St) : W l Z n0 R B Q h cells slots pc Ls (y :: x :: St) := by
  subst hq hq'
  by_cases hc : x = y
  · exact W.same (K1 hc) (fun p e s m args below meth c T locs C X eT t hr => acmp (g := mkF m pc ⟨Ls⟩ (y :: x :: St)) X C.1 rfl h1 h2 rfl (hb C.2.1 hd) rfl (same := true) (by simpa using hc) ho (by simp [acV]) hr)
  · exact W.same (K2 hc) (fun p e s m args below meth c T locs C X eT t hr => acmp (g := mkF m pc ⟨Ls⟩ (y :: x :: St)) X C.1 rfl h1 h2 rfl (hb C.2.1 hd) rfl (same := false) (by simpa using hc) ho (by simp [acV]) hr)
/-! ### the ends -/
theorem W.ireturn {z : Int32} (hd : decode B.bytes pc = .ok (.ireturn, 1)) (hret : B.ret = some .int) (hQ : Q (some (.int z)) h) : W l Z n0 R B Q h cells slots pc Ls (.int z :: St) := by
  intro p e s m args below meth c T locs C X eT N hc hs
  obtain ⟨fs, hr, hrun, hended, hW, hsame⟩ := X.leave (v := some (.int z)) (fun q => by rw [C.2.2.2.2.2.1, hret] at q; cases q) C.2.2.2.2.2.2.1
  exact ⟨_, _, locs, retOut X C.1 (C.2.2.2.2.2.1.trans hret) rfl (Or.inl ⟨rfl, Or.inl rfl, _, rfl⟩) (hb C.2.1 hd) hr, hrun, hended, eT ▸ hQ, N, ⟨_, rfl⟩, hW, hsame.mono hc hs⟩
theorem W.lreturn {z : Int64} (hd : decode B.bytes pc = .ok (.lreturn, 1)) (hret : B.ret = some .long) (hQ : Q (some (.long z)) h) : W l Z n0 R B Q h cells slots pc Ls (.long z :: St) := by
  intro p e s m args below meth c T locs C X eT N hc hs
  obtain ⟨fs, hr, hrun, hended, hW, hsame⟩ := X.leave (v := some (.long z)) (fun q => by rw [C.2.2.2.2.2.1, hret] at q; cases q) C.2.2.2.2.2.2.1
  exact ⟨_, _, locs, retOut X C.1 (C.2.2.2.2.2.1.trans hret) rfl (Or.inr (Or.inl ⟨rfl, rfl, _, rfl⟩)) (hb C.2.1 hd) hr, hrun, hended, eT ▸ hQ, N, ⟨_, rfl⟩, hW, hsame.mono hc hs⟩
theorem W.areturn {w : Value} {t : FieldType} (hd : decode B.bytes pc = .ok (.areturn, 1)) (hret : B.ret = some t) (ht : t.isReference = true) (hw : w.isRef = true) (hn : narrow t w = w) (hQ : Q (some w) h) : W l Z n0 R B Q h cells slots pc Ls (w :: St) := by
  intro p e s m args below meth c T locs C X eT N hc hs
  obtain ⟨fs, hr, hrun, hended, hW, hsame⟩ := X.leave (v := some w) (fun q => by rw [C.2.2.2.2.2.1, hret] at q; cases q) C.2.2.2.2.2.2.1
  exact ⟨_, _, locs, retOut X C.1 (C.2.2.2.2.2.1.trans hret) hn (Or.inr (Or.inr (Or.inr (Or.inr ⟨rfl, ht, hw⟩)))) (hb C.2.1 hd) hr, hrun, hended, eT ▸ hQ, N, ⟨_, rfl⟩, hW, hsame.mono hc hs⟩
theorem W.ireturnN {z z' : Int32} {t : FieldType} (hd : decode B.bytes pc = .ok (.ireturn, 1)) (hret : B.ret = some t) (ht : t = .boolean ∨ t = .byte ∨ t = .char ∨ t = .short) (hz : nar t z = z') (hQ : Q (some (.int z')) h) : W l Z n0 R B Q h cells slots pc Ls (.int z :: St) := by
  intro p e s m args below meth c T locs C X eT N hc hs
  subst hz
  obtain ⟨fs, hr, hrun, hended, hW, hsame⟩ := X.leave (v := some (.int (nar t z))) (fun q => by rw [C.2.2.2.2.2.1, hret] at q; cases q) C.2.2.2.2.2.2.1
  exact ⟨_, _, locs, retN X C.1 (C.2.2.2.2.2.1.trans hret) ht (hb C.2.1 hd) hr, hrun, hended, eT ▸ hQ, N, ⟨_, rfl⟩, hW, hsame.mono hc hs⟩
theorem W.vret (hd : decode B.bytes pc = .ok (.return_, 1)) (hret : B.ret = none) (hQ : Q none h) : W l Z n0 R B Q h cells slots pc Ls [] := by
  intro p e s m args below meth c T locs C X eT N hc hs
  obtain ⟨fs, hr, hrun, hended, hW, hsame⟩ := X.leave (v := none) (fun _ => rfl) C.2.2.2.2.2.2.1
  exact ⟨_, _, locs, X.returnOut C.1 (C.2.2.2.2.2.1.trans hret) (hb C.2.1 hd) hr, hrun, hended, eT ▸ hQ, N, ⟨_, rfl⟩, hW, hsame.mono hc hs⟩
theorem W.mono {Q' : Option Value → Heap → Prop} (hQ : ∀ v h, Q v h → Q' v h) (K : W l Z n0 R B Q h cells slots pc Ls St) : W l Z n0 R B Q' h cells slots pc Ls St := by
  intro p e s m args below meth c T locs C X eT N hc hs
  obtain ⟨s₂, v, L, h1, h2, h3, h4, h5⟩ := K p e s m args below meth c T locs C X eT N hc hs
  exact ⟨s₂, v, L, h1, h2, h3, hQ _ _ h4, h5⟩
theorem W.weak {c' s' : Nat} (hc : cells ≤ c') (hs : slots ≤ s') (hR : c' ≤ R.cells) (hR' : s' ≤ R.slots) (K : W l Z n0 R B Q h c' s' pc Ls St) : W l Z n0 R B Q h cells slots pc Ls St := by
  intro p e s m args below meth c T locs C X eT N _ _
  exact K p e s m args below meth c T locs C (X.more hc hs) eT N hR hR'
/-! ### arrays of ints (bytes, booleans, chars, shorts) and of longs -/
def AI (Z : State) (h : Heap) (a : Addr) (ty : FieldType) (xs : List Int32) : Prop := ∃ cl : Cell, Arr Z h a cl ty ∧ cl.slots = ⟨xs.map Value.int⟩ ∧ xs.length < 2 ^ 31
def AJ (Z : State) (h : Heap) (a : Addr) (xs : List Int64) : Prop := ∃ cl : Cell, Arr Z h a cl .long ∧ cl.slots = ⟨xs.map Value.long⟩ ∧ xs.length < 2 ^ 31
section Facts
variable {h' : Heap} {a b : Addr} {ty : FieldType} {xs : List Int32} {ys : List Int64} {sl : Nat} {v : Value} {ws : List Addr}
theorem AI.lt (A : AI Z h a ty xs) : a < h.size := by obtain ⟨c, A, -⟩ := A; exact A.lt
theorem AI.ext (A : AI Z h a ty xs) (E : Ext h h') : AI Z h' a ty xs := by obtain ⟨c, A, r⟩ := A; exact ⟨c, A.ext E, r⟩
theorem AI.keep (A : AI Z h a ty xs) (K : Keep h h' ws) (q : a ∉ ws) : AI Z h' a ty xs := by obtain ⟨c, A, r⟩ := A; exact ⟨c, ⟨K.2.1 a c A.1 q, A.2⟩, r⟩
theorem AI.other (A : AI Z h b ty xs) (w : Wr h h' a sl v) (q : b ≠ a) : AI Z h' b ty xs := by obtain ⟨c, A, r⟩ := A; exact ⟨c, A.other w q, r⟩
theorem AI.set {x : Int32} (A : AI Z h a ty xs) (w : Wr h h' a sl (.int x)) : AI Z h' a ty (xs.set sl x) := by
  obtain ⟨c, A, r, r'⟩ := A
  exact ⟨_, A.same w, by simp [Cell.setSlot, r, List.map_set], by simpa using r'⟩
theorem AJ.lt (A : AJ Z h a ys) : a < h.size := by obtain ⟨c, A, -⟩ := A; exact A.lt
theorem AJ.ext (A : AJ Z h a ys) (E : Ext h h') : AJ Z h' a ys := by obtain ⟨c, A, r⟩ := A; exact ⟨c, A.ext E, r⟩
theorem AJ.keep (A : AJ Z h a ys) (K : Keep h h' ws) (q : a ∉ ws) : AJ Z h' a ys := by obtain ⟨c, A, r⟩ := A; exact ⟨c, ⟨K.2.1 a c A.1 q, A.2⟩, r⟩
theorem AJ.other (A : AJ Z h b ys) (w : Wr h h' a sl v) (q : b ≠ a) : AJ Z h' b ys := by obtain ⟨c, A, r⟩ := A; exact ⟨c, A.other w q, r⟩
theorem AJ.set {x : Int64} (A : AJ Z h a ys) (w : Wr h h' a sl (.long x)) : AJ Z h' a (ys.set sl x) := by
  obtain ⟨c, A, r, r'⟩ := A
  exact ⟨_, A.same w, by simp [Cell.setSlot, r, List.map_set], by simpa using r'⟩
end Facts
theorem W.newarrayI {aty : ArrayType} {ty : FieldType} {n : Int32} {cap : Nat} (hd : decode B.bytes pc = .ok (.newarray aty, 2)) (hty : newarray.typeOf aty = ty) (h0 : defaultValue ty = .int 0) (w : (Cond.arrayClass ty).before a0 Z = true) (hn : ¬ n < 0) (hcap : n.toNatClampNeg ≤ cap) (hbig : cap * 8 ≤ 536870912) (hc : cells + 1 ≤ R.cells) (hl : slots + cap ≤ R.slots) (hq : pc + 2 = q)
    (K : ∀ h', Ext h h' → AI Z h' h.size ty (List.replicate n.toNatClampNeg 0) → W l Z n0 R B Q h' (cells + 1) (slots + cap) q Ls (.ref h.size :: St)) : W l Z n0 R B Q h cells slots pc Ls (.int n :: St) := by
  subst hq hty
  intro p e s m args below meth c T locs C X eT N _ _
  obtain ⟨T', h', cA, X', eT', E, A, st⟩ := newP X C.1 C.2.2.2.1 w eT (g := mkF m pc ⟨Ls⟩ (.int n :: St)) rfl (hb C.2.1 hd) rfl hn hcap hbig hc hl
  obtain ⟨s₂, v, L, h1, h2⟩ := K h' E ⟨_, A, by simp [newA, h0, ← Array.toList_inj], by simpa using (back32 hn).2⟩ p e s m args below meth c T' locs C X' eT' N hc hl
  exact ⟨s₂, v, L, st _ h1, h2⟩
theorem W.newarrayJ {n : Int32} {cap : Nat} (hd : decode B.bytes pc = .ok (.newarray .long, 2)) (w : (Cond.arrayClass .long).before a0 Z = true) (hn : ¬ n < 0) (hcap : n.toNatClampNeg ≤ cap) (hbig : cap * 8 ≤ 536870912) (hc : cells + 1 ≤ R.cells) (hl : slots + cap ≤ R.slots) (hq : pc + 2 = q)
    (K : ∀ h', Ext h h' → AJ Z h' h.size (List.replicate n.toNatClampNeg 0) → W l Z n0 R B Q h' (cells + 1) (slots + cap) q Ls (.ref h.size :: St)) : W l Z n0 R B Q h cells slots pc Ls (.int n :: St) := by
  subst hq
  intro p e s m args below meth c T locs C X eT N _ _
  obtain ⟨T', h', cA, X', eT', E, A, st⟩ := newP X (aty := .long) C.1 C.2.2.2.1 w eT (g := mkF m pc ⟨Ls⟩ (.int n :: St)) rfl (hb C.2.1 hd) rfl hn hcap hbig hc hl
  have A' : Arr Z h' h.size (newA cA .long n) .long := A
  have e1 : (newA cA .long n).slots = ⟨(List.replicate n.toNatClampNeg (0 : Int64)).map Value.long⟩ := by simp [newA, defaultValue, ← Array.toList_inj]
  have e2 : (List.replicate n.toNatClampNeg (0 : Int64)).length < 2 ^ 31 := by rw [List.length_replicate]; exact (back32 hn).2
  obtain ⟨s₂, v, L, h1, h2⟩ := K h' E ⟨_, A', e1, e2⟩ p e s m args below meth c T' locs C X' eT' N hc hl
  exact ⟨s₂, v, L, st _ h1, h2⟩
theorem inI {cl : Cell} {xs : List Int32} {j v : Int32} (hs : cl.slots = ⟨xs.map Value.int⟩) (h0 : ¬ j < 0) (hv : xs[j.toNatClampNeg]? = some v) : ¬ (j < 0 ∨ cl.slots.size ≤ j.toNatClampNeg) ∧ cl.slots[j.toNatClampNeg]? = some (.int v) := by
  obtain ⟨h1, -⟩ := List.getElem?_eq_some_iff.mp hv
  refine ⟨fun q => q.elim h0 fun q => ?_, by simp [hs, hv]⟩
  rw [hs] at q; simp at q; omega
theorem inJ {cl : Cell} {xs : List Int64} {j : Int32} {v : Int64} (hs : cl.slots = ⟨xs.map Value.long⟩) (h0 : ¬ j < 0) (hv : xs[j.toNatClampNeg]? = some v) : ¬ (j < 0 ∨ cl.slots.size ≤ j.toNatClampNeg) ∧ cl.slots[j.toNatClampNeg]? = some (.long v) := by
  obtain ⟨h1, -⟩ := List.getElem?_eq_some_iff.mp hv
  refine ⟨fun q => q.elim h0 fun q => ?_, by simp [hs, hv]⟩
  rw [hs] at q; simp at q; omega
theorem W.iaload {a : Addr} {xs : List Int32} {j v : Int32} (hd : decode B.bytes pc = .ok (.iaload, 1)) (A : AI Z h a .int xs) (h0 : ¬ j < 0) (hv : xs[j.toNatClampNeg]? = some v) (hq : pc + 1 = q) (K : W l Z n0 R B Q h cells slots q Ls (.int v :: St)) : W l Z n0 R B Q h cells slots pc Ls (.int j :: .ref a :: St) := by
  subst hq; obtain ⟨cl, A, hs, -⟩ := A
  exact W.same K (fun p e s m args below meth c T locs C X eT t hr => X.iaload (g := mkF m pc ⟨Ls⟩ (.int j :: .ref a :: St)) C.1 (by rw [eT]; exact A.1) (State.isArrayOf_alike C.2.2.2.1.alike A.2.1) A.2.2 (inI hs h0 hv).1 (inI hs h0 hv).2 rfl rfl (hb C.2.1 hd) t hr)
theorem W.baloadB {a : Addr} {xs : List Int32} {j v : Int32} (hd : decode B.bytes pc = .ok (.baload, 1)) (A : AI Z h a .byte xs) (h0 : ¬ j < 0) (hv : xs[j.toNatClampNeg]? = some v) (hq : pc + 1 = q) (K : W l Z n0 R B Q h cells slots q Ls (.int v :: St)) : W l Z n0 R B Q h cells slots pc Ls (.int j :: .ref a :: St) := by
  subst hq; obtain ⟨cl, A, hs, -⟩ := A
  exact W.same K (fun p e s m args below meth c T locs C X eT t hr => X.baloadBytes (g := mkF m pc ⟨Ls⟩ (.int j :: .ref a :: St)) C.1 (by rw [eT]; exact A.1) (State.isArrayOf_alike C.2.2.2.1.alike A.2.1) A.2.2 (inI hs h0 hv).1 (inI hs h0 hv).2 rfl rfl (hb C.2.1 hd) t hr)
theorem W.baloadZ {a : Addr} {xs : List Int32} {j v : Int32} (hd : decode B.bytes pc = .ok (.baload, 1)) (A : AI Z h a .boolean xs) (h0 : ¬ j < 0) (hv : xs[j.toNatClampNeg]? = some v) (hq : pc + 1 = q) (K : W l Z n0 R B Q h cells slots q Ls (.int v :: St)) : W l Z n0 R B Q h cells slots pc Ls (.int j :: .ref a :: St) := by
  subst hq; obtain ⟨cl, A, hs, -⟩ := A
  exact W.same K (fun p e s m args below meth c T locs C X eT t hr => X.baloadBooleans (g := mkF m pc ⟨Ls⟩ (.int j :: .ref a :: St)) C.1 (by rw [eT]; exact A.1) (State.isArrayOf_alike C.2.2.2.1.alike A.2.1) A.2.2 (inI hs h0 hv).1 (inI hs h0 hv).2 rfl rfl (hb C.2.1 hd) t hr)
theorem W.laload {a : Addr} {xs : List Int64} {j : Int32} {v : Int64} (hd : decode B.bytes pc = .ok (.laload, 1)) (A : AJ Z h a xs) (h0 : ¬ j < 0) (hv : xs[j.toNatClampNeg]? = some v) (hq : pc + 1 = q) (K : W l Z n0 R B Q h cells slots q Ls (.long v :: St)) : W l Z n0 R B Q h cells slots pc Ls (.int j :: .ref a :: St) := by
  subst hq; obtain ⟨cl, A, hs, -⟩ := A
  exact W.same K (fun p e s m args below meth c T locs C X eT t hr => X.laload (g := mkF m pc ⟨Ls⟩ (.int j :: .ref a :: St)) C.1 (by rw [eT]; exact A.1) (State.isArrayOf_alike C.2.2.2.1.alike A.2.1) A.2.2 (inJ hs h0 hv).1 (inJ hs h0 hv).2 rfl rfl (hb C.2.1 hd) t hr)
theorem W.arraylengthI {a : Addr} {ty : FieldType} {xs : List Int32} {n : Int32} (hd : decode B.bytes pc = .ok (.arraylength, 1)) (A : AI Z h a ty xs) (hn : xs.length.toInt32 = n) (hq : pc + 1 = q) (K : W l Z n0 R B Q h cells slots q Ls (.int n :: St)) : W l Z n0 R B Q h cells slots pc Ls (.ref a :: St) := by
  subst hq hn; obtain ⟨cl, A, hs, -⟩ := A
  have e1 : cl.slots.size = xs.length := by simp [hs]
  rw [← e1] at K
  exact W.same K (fun p e s m args below meth c T locs C X eT t hr => X.arraylength (g := mkF m pc ⟨Ls⟩ (.ref a :: St)) C.1 (by rw [eT]; exact A.1) (State.isArrayOf_alike C.2.2.2.1.alike A.2.1) rfl rfl (hb C.2.1 hd) t hr)
theorem W.arraylengthJ {a : Addr} {xs : List Int64} {n : Int32} (hd : decode B.bytes pc = .ok (.arraylength, 1)) (A : AJ Z h a xs) (hn : xs.length.toInt32 = n) (hq : pc + 1 = q) (K : W l Z n0 R B Q h cells slots q Ls (.int n :: St)) : W l Z n0 R B Q h cells slots pc Ls (.ref a :: St) := by
  subst hq hn; obtain ⟨cl, A, hs, -⟩ := A
  have e1 : cl.slots.size = xs.length := by simp [hs]
  rw [← e1] at K
  exact W.same K (fun p e s m args below meth c T locs C X eT t hr => X.arraylength (g := mkF m pc ⟨Ls⟩ (.ref a :: St)) C.1 (by rw [eT]; exact A.1) (State.isArrayOf_alike C.2.2.2.1.alike A.2.1) rfl rfl (hb C.2.1 hd) t hr)
theorem outI {cl : Cell} {xs : List Int32} {j : Int32} (hs : cl.slots = ⟨xs.map Value.int⟩) (h0 : ¬ j < 0) (hj : j.toNatClampNeg < xs.length) : ¬ (j < 0 ∨ cl.slots.size ≤ j.toNatClampNeg) := fun q => q.elim h0 fun q => by
  rw [hs] at q; simp at q; omega
theorem outJ {cl : Cell} {xs : List Int64} {j : Int32} (hs : cl.slots = ⟨xs.map Value.long⟩) (h0 : ¬ j < 0) (hj : j.toNatClampNeg < xs.length) : ¬ (j < 0 ∨ cl.slots.size ≤ j.toNatClampNeg) := fun q => q.elim h0 fun q => by
  rw [hs] at q; simp at q; omega
theorem W.iastore {a : Addr} {xs : List Int32} {j x : Int32} (hd : decode B.bytes pc = .ok (.iastore, 1)) (A : AI Z h a .int xs) (h0 : ¬ j < 0) (hj : j.toNatClampNeg < xs.length) (ha : n0 ≤ a) (hq : pc + 1 = q) (K : ∀ h', Wr h h' a j.toNatClampNeg (.int x) → AI Z h' a .int (xs.set j.toNatClampNeg x) → W l Z n0 R B Q h' cells slots q Ls St) : W l Z n0 R B Q h cells slots pc Ls (.int x :: .int j :: .ref a :: St) := by
  subst hq; obtain ⟨cl, A', hs, hl⟩ := A
  exact W.wrote (fun p e s m args below meth c T locs C X eT => stI X (g := mkF m pc ⟨Ls⟩ (.int x :: .int j :: .ref a :: St)) C.1 C.2.2.2.1 eT A' (outI hs h0 hj) rfl rfl (hb C.2.1 hd)) ha (fun h' w => K h' w (AI.set ⟨cl, A', hs, hl⟩ w))
theorem W.bastoreB {a : Addr} {xs : List Int32} {j x x' : Int32} (hd : decode B.bytes pc = .ok (.bastore, 1)) (A : AI Z h a .byte xs) (h0 : ¬ j < 0) (hj : j.toNatClampNeg < xs.length) (hx : x.toInt8.toInt32 = x') (ha : n0 ≤ a) (hq : pc + 1 = q) (K : ∀ h', Wr h h' a j.toNatClampNeg (.int x') → AI Z h' a .byte (xs.set j.toNatClampNeg x') → W l Z n0 R B Q h' cells slots q Ls St) : W l Z n0 R B Q h cells slots pc Ls (.int x :: .int j :: .ref a :: St) := by
  subst hq hx; obtain ⟨cl, A', hs, hl⟩ := A
  exact W.wrote (fun p e s m args below meth c T locs C X eT => stB X (g := mkF m pc ⟨Ls⟩ (.int x :: .int j :: .ref a :: St)) C.1 C.2.2.2.1 eT A' (outI hs h0 hj) rfl rfl (hb C.2.1 hd)) ha (fun h' w => K h' w (AI.set ⟨cl, A', hs, hl⟩ w))
theorem W.bastoreZ {a : Addr} {xs : List Int32} {j x x' : Int32} (hd : decode B.bytes pc = .ok (.bastore, 1)) (A : AI Z h a .boolean xs) (h0 : ¬ j < 0) (hj : j.toNatClampNeg < xs.length) (hx : x &&& 1 = x') (ha : n0 ≤ a) (hq : pc + 1 = q) (K : ∀ h', Wr h h' a j.toNatClampNeg (.int x') → AI Z h' a .boolean (xs.set j.toNatClampNeg x') → W l Z n0 R B Q h' cells slots q Ls St) : W l Z n0 R B Q h cells slots pc Ls (.int x :: .int j :: .ref a :: St) := by
  subst hq hx; obtain ⟨cl, A', hs, hl⟩ := A
  exact W.wrote (fun p e s m args below meth c T locs C X eT => stZ X (g := mkF m pc ⟨Ls⟩ (.int x :: .int j :: .ref a :: St)) C.1 C.2.2.2.1 eT A' (outI hs h0 hj) rfl rfl (hb C.2.1 hd)) ha (fun h' w => K h' w (AI.set ⟨cl, A', hs, hl⟩ w))
theorem W.lastore {a : Addr} {xs : List Int64} {j : Int32} {x : Int64} (hd : decode B.bytes pc = .ok (.lastore, 1)) (A : AJ Z h a xs) (h0 : ¬ j < 0) (hj : j.toNatClampNeg < xs.length) (ha : n0 ≤ a) (hq : pc + 1 = q) (K : ∀ h', Wr h h' a j.toNatClampNeg (.long x) → AJ Z h' a (xs.set j.toNatClampNeg x) → W l Z n0 R B Q h' cells slots q Ls St) : W l Z n0 R B Q h cells slots pc Ls (.long x :: .int j :: .ref a :: St) := by
  subst hq; obtain ⟨cl, A', hs, hl⟩ := A
  exact W.wrote (fun p e s m args below meth c T locs C X eT => stJ X (g := mkF m pc ⟨Ls⟩ (.long x :: .int j :: .ref a :: St)) C.1 C.2.2.2.1 eT A' (outJ hs h0 hj) rfl rfl (hb C.2.1 hd)) ha (fun h' w => K h' w (AJ.set ⟨cl, A', hs, hl⟩ w))
/-! ### fields, statics, objects -/
theorem W.getF {i : Nat} {O n d : String} {a : Addr} {v : Value} (hd : decode B.bytes pc = .ok (.getfield i, 3)) (w : (Cond.fieldLink B.own i O n d).before a0 Z = true) (F : Fld Z h a O n d v) (hq : pc + 3 = q) (K : W l Z n0 R B Q h cells slots q Ls (v :: St)) : W l Z n0 R B Q h cells slots pc Ls (.ref a :: St) := by
  subst hq; exact W.warm K (fun p e s m args below meth c T locs C X eT => RoadKit.getF X (g := mkF m pc ⟨Ls⟩ (.ref a :: St)) C.1 C.2.2.2.1 C.2.2.2.2.1 (host := "") (Or.inl w) Via.refl eT F rfl rfl (hb C.2.1 hd))
theorem W.getS {i : Nat} {O n d : String} {v : Value} (hd : decode B.bytes pc = .ok (.getstatic i, 3)) (w : (Cond.fieldLink B.own i O n d).before a0 Z = true) (F : Sta Z h O n d v) (hq : pc + 3 = q) (K : W l Z n0 R B Q h cells slots q Ls (v :: St)) : W l Z n0 R B Q h cells slots pc Ls St := by
  subst hq; exact W.warm K (fun p e s m args below meth c T locs C X eT => RoadKit.getS X (g := mkF m pc ⟨Ls⟩ St) C.1 C.2.2.2.1 (host := "") C.2.2.2.2.1 w Via.refl eT F rfl (hb C.2.1 hd))
theorem W.putF {i kk : Nat} {O n d C' : String} {a : Addr} {v old : Value} {ty : FieldType} (hd : decode B.bytes pc = .ok (.putfield i, 3)) (w : (Cond.fieldLink B.own i O n d).before a0 Z = true) (F : Fld Z h a O n d old) (E : Exa Z h a C') (L : (Cond.lays C' O n d).before a0 Z = true ∨ ((Cond.laysFinal C' O n d).before a0 Z = true ∧ B.own = O ∧ B.nm = "<init>")) (wi : (Cond.instantiable C' kk).before a0 Z = true)
    (hty : parseFieldDescriptor d = some ty) (hn : narrow ty v = v) (hf : fits ty v = true) (ha : n0 ≤ a) (hq : pc + 3 = q) (K : ∀ h', Wr h h' a (Jvm.RoadKit.slotOf Z O n d) v → W l Z n0 R B Q h' cells slots q Ls St) : W l Z n0 R B Q h cells slots pc Ls (v :: .ref a :: St) := by
  subst hq; exact W.wrote (fun p e s m args below meth c T locs C X eT => RoadKit.putF X (g := mkF m pc ⟨Ls⟩ (v :: .ref a :: St)) C.1 C.2.2.2.1 (host := "") C.2.2.2.2.1 (Or.inl w) Via.refl eT F E (L.imp id fun q => ⟨q.1, q.2.1, C.2.2.2.2.2.2.2.trans q.2.2⟩) wi hty hn hf rfl rfl (hb C.2.1 hd)) ha K
theorem W.newO {i n : Nat} {C' : String} (hd : decode B.bytes pc = .ok (.new i, 3)) (w : (Cond.classLink B.own i C').before a0 Z = true) (wi : (Cond.instantiable C' n).before a0 Z = true) (wz : (Cond.initialized C').before a0 Z = true) (hc : cells + 1 ≤ R.cells) (hl : slots + n ≤ R.slots) (hq : pc + 3 = q)
    (K : ∀ h', Ext h h' → Exa Z h' h.size C' → (∀ {O nm d : String} {ty : FieldType}, Laid Z a0 C' O nm d → parseFieldDescriptor d = some ty → Fld Z h' h.size O nm d (defaultValue ty)) → W l Z n0 R B Q h' (cells + 1) (slots + n) q Ls (.ref h.size :: St)) : W l Z n0 R B Q h cells slots pc Ls St := by
  subst hq
  intro p e s m args below meth c T locs C X eT N _ _
  obtain ⟨T', h', X', eT', E, A, D, -, st⟩ := RoadKit.newO X C.1 C.2.2.2.1 C.2.2.2.2.1 w wi wz eT (g := mkF m pc ⟨Ls⟩ St) rfl (hb C.2.1 hd) hc hl
  obtain ⟨s₂, v, L, h1, h2⟩ := K h' E A D p e s m args below meth c T' locs C X' eT' N hc hl
  exact ⟨s₂, v, L, st _ h1, h2⟩
theorem W.castY {i : Nat} {K' : String} {a : Addr} (hd : decode B.bytes pc = .ok (.checkcast i, 3)) (w : (Cond.classLink B.own i K').before a0 Z = true) (F : Ins Z h a K' true) (hq : pc + 3 = q) (K : W l Z n0 R B Q h cells slots q Ls (.ref a :: St)) : W l Z n0 R B Q h cells slots pc Ls (.ref a :: St) := by
  subst hq; exact W.warm K (fun p e s m args below meth c T locs C X eT => RoadKit.castY X C.1 C.2.2.2.1 C.2.2.2.2.1 w eT F (g := mkF m pc ⟨Ls⟩ (.ref a :: St)) rfl rfl (hb C.2.1 hd))
theorem W.instY {i : Nat} {K' : String} {a : Addr} (hd : decode B.bytes pc = .ok (.instanceof i, 3)) (w : (Cond.classLink B.own i K').before a0 Z = true) (F : Ins Z h a K' true) (hq : pc + 3 = q) (K : W l Z n0 R B Q h cells slots q Ls (.int 1 :: St)) : W l Z n0 R B Q h cells slots pc Ls (.ref a :: St) := by
  subst hq; exact W.warm K (fun p e s m args below meth c T locs C X eT => RoadKit.instY X C.1 C.2.2.2.1 C.2.2.2.2.1 w eT F (g := mkF m pc ⟨Ls⟩ (.ref a :: St)) rfl rfl (hb C.2.1 hd))
theorem W.instNo {i : Nat} {K' C' : String} {a : Addr} (hd : decode B.bytes pc = .ok (.instanceof i, 3)) (w : (Cond.classLink B.own i K').before a0 Z = true) (E : Exa Z h a C') (F : ∃ c t, Z.vm.findClass C' = some c ∧ Z.vm.findClass K' = some t ∧ Z.vm.assignable c t = false) (hq : pc + 3 = q) (K : W l Z n0 R B Q h cells slots q Ls (.int 0 :: St)) : W l Z n0 R B Q h cells slots pc Ls (.ref a :: St) := by
  subst hq; exact W.warm K (fun p e s m args below meth c T locs C X eT => RoadKit.instNo X C.1 C.2.2.2.1 C.2.2.2.2.1 w eT E F (g := mkF m pc ⟨Ls⟩ (.ref a :: St)) rfl rfl (hb C.2.1 hd))
theorem W.instNull {i : Nat} (hd : decode B.bytes pc = .ok (.instanceof i, 3)) (hq : pc + 3 = q) (K : W l Z n0 R B Q h cells slots q Ls (.int 0 :: St)) : W l Z n0 R B Q h cells slots pc Ls (.null :: St) := by
  subst hq; exact W.same K (fun p e s m args below meth c T locs C X eT t hr => X.instanceofNull C.1 (g := mkF m pc ⟨Ls⟩ (.null :: St)) rfl rfl (hb C.2.1 hd) t hr)
/-- what a callee leaves: an int, a long, a reference, nothing -/
def RI (P : Int32 → Heap → Prop) (v : Option Value) (h : Heap) : Prop := ∃ z, v = some (.int z) ∧ P z h
def RJ (P : Int64 → Heap → Prop) (v : Option Value) (h : Heap) : Prop := ∃ z, v = some (.long z) ∧ P z h
def RA (P : Value → Heap → Prop) (v : Option Value) (h : Heap) : Prop := ∃ z, v = some z ∧ P z h
def RN (P : Heap → Prop) (v : Option Value) (h : Heap) : Prop := v = none ∧ P h
/-! ### calls -/
def Met1 (l : Launch) (Z : State) (n0 : Nat) (y : MethodName) (B' : Bdy) (rm : Room) (as' : Array Value) (h : Heap) (Qc : Option Value → Heap → Prop) : Prop :=
  MetFree l y (head1 [Cond.code y B'.bytes B'.ml B'.ret] rm) (fun a U => a = as' ∧ Z.Warmed39 U.vm ∧ U.heap = h) (fun _ _ _ _ _ => True) (fun _ U o U' => ∃ v L, o = .returned v ∧ (Qc v U'.heap ∧ Fr n0 L) ∧ FrameEnd U o U' L rm.cells rm.slots)
theorem met_of {ws : List Jvm.Cond} {y : MethodName} {B' : Bdy} {rm : Room} {as' : Array Value} {Qc : Option Value → Heap → Prop} {L0 : List Slot} (hp : plainFor y = true) (ho : B'.own = y.cls) (hn : B'.nm = y.name) (hef : ∀ m, entryFrame m as' B'.ml = mkF m 0 ⟨L0⟩ []) (w : W l Z n0 rm B' Qc h 0 0 0 L0 []) :
    MetFree l y (head1 (Cond.code y B'.bytes B'.ml B'.ret :: ws) rm) (fun a U => a = as' ∧ Z.Warmed39 U.vm ∧ U.heap = h) (fun _ _ _ _ _ => True) (fun _ U o U' => ∃ v L, o = .returned v ∧ (Qc v U'.heap ∧ Fr n0 L) ∧ FrameEnd U o U' L rm.cells rm.slots) := by
  refine MetFree.of_bodySF hp hisR ?_
  intro p e s m args below meth c s₁ Bd hml0 hP hK
  obtain ⟨rfl, hZ, hh⟩ := hP
  have X0 : Stand p l e rm s m args below meth c s₁ [] 0 0 := Stand.of_body Bd
  have e0 : s₁.heap = h := by rw [← hh, Bd.state]; rfl
  obtain ⟨s₂, v, L, h1, h2, h3, h4, h5, h6⟩ := w p e s m args below meth c s₁ [] ⟨Bd.exec, Bd.bytes, hml0, hZ, by rw [ho]; exact findClass_of_methodNamed Bd.named, Bd.returns, Bd.notSynchronized, by rw [hn]; exact (name_of_methodNamed Bd.named Bd.method).1⟩ X0 e0 (Fr.nil n0) (Nat.zero_le _) (Nat.zero_le _)
  exact ⟨s₂, _, castTop (hef m) h1, h2, h3, v, L, rfl, ⟨h4, h5⟩, h6⟩
theorem W.callS {i : Nat} {y : MethodName} {B' : Bdy} {rm : Room} {Qc : Option Value → Heap → Prop} {L0 : List Slot} {argsL rest : List Value} {ps : List FieldType} {r : Option FieldType} (hd : decode B.bytes pc = .ok (.invokestatic i, 3)) (wl : (Cond.methodLink B.own i y).before a0 Z = true) (wst : (Cond.static y).before a0 Z = true) (wz : (Cond.initialized y.cls).before a0 Z = true) (wc : (Cond.code y B'.bytes B'.ml B'.ret).before a0 Z = true)
    (hst : argsL.reverse ++ rest = St) (w : W l Z n0 rm B' Qc h 0 0 0 L0 []) (hp : plainFor y = true) (hy : y.cls ≠ "java/lang/invoke/MethodHandle" ∧ y.cls ≠ "java/lang/invoke/VarHandle") (hpd : parseMethodDescriptor y.desc = some ⟨ps, r⟩) (ho : B'.own = y.cls) (hn : B'.nm = y.name) (hlen : argsL.length = ps.length) (hef : ∀ m, entryFrame m argsL.toArray B'.ml = mkF m 0 ⟨L0⟩ []) (hsz : Ls.length = B.ml)
    (hf : Nat.ble (rm.frames + 1) R.frames = true) (hlo : Nat.ble ((rest.map fun v => v.category).sum + (B'.ml + 11) + rm.locals) R.locals = true) (hc : Nat.ble (cells + rm.cells) R.cells = true) (hs : Nat.ble (slots + rm.slots) R.slots = true) (hq : pc + 3 = q)
    (K : ∀ v h', Qc v h' → W l Z n0 R B Q h' (cells + rm.cells) (slots + rm.slots) q Ls (v.toList ++ rest)) : W l Z n0 R B Q h cells slots pc Ls St := by
  subst hq hst
  intro p e s m args below meth c T locs C X eT N _ _
  have hc' := Nat.le_of_ble_eq_true hc
  have hs' := Nat.le_of_ble_eq_true hs
  obtain ⟨v, vm₁, ⟨T', L', c', s'⟩, -, X', ⟨Lc, hQ, l', y', z'⟩, st⟩ := Jvm.LawKit.callS X C.1 (y := y) C.2.2.2.2.1 (mvT C.2.2.2.1 wl) (mvT C.2.2.2.1 wst) (mvT C.2.2.2.1 wz) (mvT C.2.2.2.1 wc) hy
    (backOf (W := (rest.map fun v => v.category).sum) (Q := fun v h L => Qc v h ∧ Fr n0 L) (met_of (ws := []) hp ho hn hef w) C.2.2.2.1 wc wz (Nat.le_of_ble_eq_true hf) (Nat.le_of_ble_eq_true hlo)) (g := mkF m pc ⟨Ls⟩ (argsL.reverse ++ rest)) rfl (by show Ls.toArray.size = _; rw [C.2.2.1]; simpa using hsz) (argsL := argsL) (rest := rest) (lenOf hpd hlen) rfl (by show 2 * 0 + _ ≤ _; omega) (hb C.2.1 hd) (fun _ _ => ⟨rfl, eT, hc', hs'⟩)
  dsimp only [Pt.U, Pt.locs, Pt.cells, Pt.slots] at X' l' y' z' st hQ
  subst l' y' z'
  obtain ⟨s₂, v₂, L, h1, h2⟩ := K v T'.heap hQ.1 p e s m args below meth c T' _ C X' rfl (Fr.app N hQ.2) hc' hs'
  exact ⟨s₂, v₂, L, st _ h1, h2⟩
theorem W.callI {i : Nat} {y : MethodName} {B' : Bdy} {rm : Room} {Qc : Option Value → Heap → Prop} {L0 : List Slot} {a : Addr} {argsL rest : List Value} {ps : List FieldType} {r : Option FieldType} (hd : decode B.bytes pc = .ok (.invokespecial i, 3)) (wl : (Cond.methodLink B.own i y).before a0 Z = true) (wst : (Cond.instanceMethod y).before a0 Z = true) (wz : (Cond.initialized y.cls).before a0 Z = true) (wc : (Cond.code y B'.bytes B'.ml B'.ret).before a0 Z = true)
    (hst : argsL.reverse ++ .ref a :: rest = St) (w : W l Z n0 rm B' Qc h 0 0 0 L0 []) (hp : plainFor y = true) (hy : y.cls ≠ "java/lang/invoke/MethodHandle" ∧ y.cls ≠ "java/lang/invoke/VarHandle") (hpd : parseMethodDescriptor y.desc = some ⟨ps, r⟩) (ho : B'.own = y.cls) (hn : B'.nm = y.name) (hlen : argsL.length = ps.length) (hef : ∀ m, entryFrame m (.ref a :: argsL).toArray B'.ml = mkF m 0 ⟨L0⟩ []) (hsz : Ls.length = B.ml)
    (hf : Nat.ble (rm.frames + 1) R.frames = true) (hlo : Nat.ble ((rest.map fun v => v.category).sum + (B'.ml + 11) + rm.locals) R.locals = true) (hc : Nat.ble (cells + rm.cells) R.cells = true) (hs : Nat.ble (slots + rm.slots) R.slots = true) (hret : B'.ret = none) (hin : y.name = "<init>") (hq : pc + 3 = q)
    (K : ∀ v h', Qc v h' → W l Z n0 R B Q h' (cells + rm.cells) (slots + rm.slots) q Ls (v.toList ++ rest)) : W l Z n0 R B Q h cells slots pc Ls St := by
  subst hq hst
  intro p e s m args below meth c T locs C X eT N _ _
  have hc' := Nat.le_of_ble_eq_true hc
  have hs' := Nat.le_of_ble_eq_true hs
  obtain ⟨v, vm₁, ⟨T', L', c', s'⟩, -, X', ⟨Lc, hQ, l', y', z'⟩, st⟩ := X.specialBack C.1 (y := y) hin C.2.2.2.2.1 (mvT C.2.2.2.1 wl) (mvT C.2.2.2.1 wst) (mvT C.2.2.2.1 (hret ▸ wc)) hy
    (backOf (W := (rest.map fun v => v.category).sum) (Q := fun v h L => Qc v h ∧ Fr n0 L) (met_of (ws := []) hp ho hn hef w) C.2.2.2.1 wc wz (Nat.le_of_ble_eq_true hf) (Nat.le_of_ble_eq_true hlo)) (g := mkF m pc ⟨Ls⟩ (argsL.reverse ++ .ref a :: rest)) rfl (by show Ls.toArray.size = _; rw [C.2.2.1]; simpa using hsz) (Steps.refl _) (a := a) (argsL := argsL) (rest := rest) (lenOf hpd hlen) rfl (by show 2 * 0 + _ ≤ _; omega) (hb C.2.1 hd) (fun _ _ => ⟨rfl, eT, hc', hs'⟩)
  dsimp only [Pt.U, Pt.locs, Pt.cells, Pt.slots] at X' l' y' z' st hQ
  subst l' y' z'
  obtain ⟨s₂, v₂, L, h1, h2⟩ := K v T'.heap hQ.1 p e s m args below meth c T' _ C X' rfl (Fr.app N hQ.2) hc' hs'
  exact ⟨s₂, v₂, L, st.trans h1, h2⟩
theorem W.callV {i : Nat} {y : MethodName} {C' : String} {B' : Bdy} {rm : Room} {Qc : Option Value → Heap → Prop} {L0 : List Slot} {a : Addr} {argsL rest : List Value} {ps : List FieldType} {r : Option FieldType} (hd : decode B.bytes pc = .ok (.invokevirtual i, 3)) (wl : (Cond.methodLink B.own i y).before a0 Z = true) (wd : (Cond.declares y).before a0 Z = true) (wsel : (Cond.selects C' y y).before a0 Z = true) (wst : (Cond.instanceMethod y).before a0 Z = true) (wz : (Cond.initialized y.cls).before a0 Z = true) (wc : (Cond.code y B'.bytes B'.ml B'.ret).before a0 Z = true)
    (hst : argsL.reverse ++ .ref a :: rest = St) (E : Exa Z h a C') (w : W l Z n0 rm B' Qc h 0 0 0 L0 []) (hp : plainFor y = true) (hy : y.cls ≠ "java/lang/invoke/MethodHandle" ∧ y.cls ≠ "java/lang/invoke/VarHandle") (hpd : parseMethodDescriptor y.desc = some ⟨ps, r⟩) (ho : B'.own = y.cls) (hn : B'.nm = y.name) (hlen : argsL.length = ps.length) (hef : ∀ m, entryFrame m (.ref a :: argsL).toArray B'.ml = mkF m 0 ⟨L0⟩ []) (hsz : Ls.length = B.ml)
    (hf : Nat.ble (rm.frames + 1) R.frames = true) (hlo : Nat.ble ((rest.map fun v => v.category).sum + (B'.ml + 11) + rm.locals) R.locals = true) (hc : Nat.ble (cells + rm.cells) R.cells = true) (hs : Nat.ble (slots + rm.slots) R.slots = true) (hq : pc + 3 = q)
    (K : ∀ v h', Qc v h' → W l Z n0 R B Q h' (cells + rm.cells) (slots + rm.slots) q Ls (v.toList ++ rest)) : W l Z n0 R B Q h cells slots pc Ls St := by
  subst hq hst
  intro p e s m args below meth c T locs C X eT N _ _
  have hc' := Nat.le_of_ble_eq_true hc
  have hs' := Nat.le_of_ble_eq_true hs
  obtain ⟨cq, kq, qa, qb, qc⟩ := isOf C.2.2.2.1 eT E
  obtain ⟨v, vm₁, ⟨T', L', c', s'⟩, -, X', ⟨Lc, hQ, l', y', z'⟩, st⟩ := X.virtualBack C.1 (y := y) (z := y) C.2.2.2.2.1 (mvT C.2.2.2.1 wl) (mvT C.2.2.2.1 wd) (notFace_of_selects (args := #[]) (mvT C.2.2.2.1 wsel)) (mvT C.2.2.2.1 wsel) (mvT C.2.2.2.1 wst) hy
    (backOf (W := (rest.map fun v => v.category).sum) (Q := fun v h L => Qc v h ∧ Fr n0 L) (met_of (ws := []) hp ho hn hef w) C.2.2.2.1 wc wz (Nat.le_of_ble_eq_true hf) (Nat.le_of_ble_eq_true hlo)) qa qc (g := mkF m pc ⟨Ls⟩ (argsL.reverse ++ .ref a :: rest)) rfl (by show Ls.toArray.size = _; rw [C.2.2.1]; simpa using hsz) (Steps.refl _) (argsL := argsL) (rest := rest) (lenOf hpd hlen) rfl (by show 2 * 0 + _ ≤ _; omega) (hb C.2.1 hd) (fun _ _ => ⟨rfl, eT, hc', hs'⟩)
  dsimp only [Pt.U, Pt.locs, Pt.cells, Pt.slots] at X' l' y' z' st hQ
  subst l' y' z'
  obtain ⟨s₂, v₂, L, h1, h2⟩ := K v T'.heap hQ.1 p e s m args below meth c T' _ C X' rfl (Fr.app N hQ.2) hc' hs'
  exact ⟨s₂, v₂, L, st.trans h1, h2⟩
theorem W.callS_I {i : Nat} {y : MethodName} {B' : Bdy} {rm : Room} {P : Int32 → Heap → Prop} {L0 : List Slot} {argsL rest : List Value} {ps : List FieldType} {r : Option FieldType} (hd : decode B.bytes pc = .ok (.invokestatic i, 3)) (wl : (Cond.methodLink B.own i y).before a0 Z = true) (wst : (Cond.static y).before a0 Z = true) (wz : (Cond.initialized y.cls).before a0 Z = true) (wc : (Cond.code y B'.bytes B'.ml B'.ret).before a0 Z = true)
    (hst : argsL.reverse ++ rest = St) (w : W l Z n0 rm B' (RI P) h 0 0 0 L0 []) (hp : plainFor y = true) (hy : y.cls ≠ "java/lang/invoke/MethodHandle" ∧ y.cls ≠ "java/lang/invoke/VarHandle") (hpd : parseMethodDescriptor y.desc = some ⟨ps, r⟩) (ho : B'.own = y.cls) (hn : B'.nm = y.name) (hlen : argsL.length = ps.length) (hef : ∀ m, entryFrame m argsL.toArray B'.ml = mkF m 0 ⟨L0⟩ []) (hsz : Ls.length = B.ml)
    (hf : Nat.ble (rm.frames + 1) R.frames = true) (hlo : Nat.ble ((rest.map fun v => v.category).sum + (B'.ml + 11) + rm.locals) R.locals = true) (hc : Nat.ble (cells + rm.cells) R.cells = true) (hs : Nat.ble (slots + rm.slots) R.slots = true) (hq : pc + 3 = q)
    (K : ∀ (u : Int32) h', P u h' → W l Z n0 R B Q h' (cells + rm.cells) (slots + rm.slots) q Ls (.int u :: rest)) : W l Z n0 R B Q h cells slots pc Ls St :=
  W.callS hd wl wst wz wc hst w hp hy hpd ho hn hlen hef hsz hf hlo hc hs hq (fun v h' hQ => by obtain ⟨u, rfl, hP⟩ := hQ; exact K u h' hP)
theorem W.callS_J {i : Nat} {y : MethodName} {B' : Bdy} {rm : Room} {P : Int64 → Heap → Prop} {L0 : List Slot} {argsL rest : List Value} {ps : List FieldType} {r : Option FieldType} (hd : decode B.bytes pc = .ok (.invokestatic i, 3)) (wl : (Cond.methodLink B.own i y).before a0 Z = true) (wst : (Cond.static y).before a0 Z = true) (wz : (Cond.initialized y.cls).before a0 Z = true) (wc : (Cond.code y B'.bytes B'.ml B'.ret).before a0 Z = true)
    (hst : argsL.reverse ++ rest = St) (w : W l Z n0 rm B' (RJ P) h 0 0 0 L0 []) (hp : plainFor y = true) (hy : y.cls ≠ "java/lang/invoke/MethodHandle" ∧ y.cls ≠ "java/lang/invoke/VarHandle") (hpd : parseMethodDescriptor y.desc = some ⟨ps, r⟩) (ho : B'.own = y.cls) (hn : B'.nm = y.name) (hlen : argsL.length = ps.length) (hef : ∀ m, entryFrame m argsL.toArray B'.ml = mkF m 0 ⟨L0⟩ []) (hsz : Ls.length = B.ml)
    (hf : Nat.ble (rm.frames + 1) R.frames = true) (hlo : Nat.ble ((rest.map fun v => v.category).sum + (B'.ml + 11) + rm.locals) R.locals = true) (hc : Nat.ble (cells + rm.cells) R.cells = true) (hs : Nat.ble (slots + rm.slots) R.slots = true) (hq : pc + 3 = q)
    (K : ∀ (u : Int64) h', P u h' → W l Z n0 R B Q h' (cells + rm.cells) (slots + rm.slots) q Ls (.long u :: rest)) : W l Z n0 R B Q h cells slots pc Ls St :=
  W.callS hd wl wst wz wc hst w hp hy hpd ho hn hlen hef hsz hf hlo hc hs hq (fun v h' hQ => by obtain ⟨u, rfl, hP⟩ := hQ; exact K u h' hP)
theorem W.callS_A {i : Nat} {y : MethodName} {B' : Bdy} {rm : Room} {P : Value → Heap → Prop} {L0 : List Slot} {argsL rest : List Value} {ps : List FieldType} {r : Option FieldType} (hd : decode B.bytes pc = .ok (.invokestatic i, 3)) (wl : (Cond.methodLink B.own i y).before a0 Z = true) (wst : (Cond.static y).before a0 Z = true) (wz : (Cond.initialized y.cls).before a0 Z = true) (wc : (Cond.code y B'.bytes B'.ml B'.ret).before a0 Z = true)
    (hst : argsL.reverse ++ rest = St) (w : W l Z n0 rm B' (RA P) h 0 0 0 L0 []) (hp : plainFor y = true) (hy : y.cls ≠ "java/lang/invoke/MethodHandle" ∧ y.cls ≠ "java/lang/invoke/VarHandle") (hpd : parseMethodDescriptor y.desc = some ⟨ps, r⟩) (ho : B'.own = y.cls) (hn : B'.nm = y.name) (hlen : argsL.length = ps.length) (hef : ∀ m, entryFrame m argsL.toArray B'.ml = mkF m 0 ⟨L0⟩ []) (hsz : Ls.length = B.ml)
    (hf : Nat.ble (rm.frames + 1) R.frames = true) (hlo : Nat.ble ((rest.map fun v => v.category).sum + (B'.ml + 11) + rm.locals) R.locals = true) (hc : Nat.ble (cells + rm.cells) R.cells = true) (hs : Nat.ble (slots + rm.slots) R.slots = true) (hq : pc + 3 = q)
    (K : ∀ (u : Value) h', P u h' → W l Z n0 R B Q h' (cells + rm.cells) (slots + rm.slots) q Ls (u :: rest)) : W l Z n0 R B Q h cells slots pc Ls St :=
  W.callS hd wl wst wz wc hst w hp hy hpd ho hn hlen hef hsz hf hlo hc hs hq (fun v h' hQ => by obtain ⟨u, rfl, hP⟩ := hQ; exact K u h' hP)
theorem W.callS_N {i : Nat} {y : MethodName} {B' : Bdy} {rm : Room} {P : Heap → Prop} {L0 : List Slot} {argsL rest : List Value} {ps : List FieldType} {r : Option FieldType} (hd : decode B.bytes pc = .ok (.invokestatic i, 3)) (wl : (Cond.methodLink B.own i y).before a0 Z = true) (wst : (Cond.static y).before a0 Z = true) (wz : (Cond.initialized y.cls).before a0 Z = true) (wc : (Cond.code y B'.bytes B'.ml B'.ret).before a0 Z = true)
    (hst : argsL.reverse ++ rest = St) (w : W l Z n0 rm B' (RN P) h 0 0 0 L0 []) (hp : plainFor y = true) (hy : y.cls ≠ "java/lang/invoke/MethodHandle" ∧ y.cls ≠ "java/lang/invoke/VarHandle") (hpd : parseMethodDescriptor y.desc = some ⟨ps, r⟩) (ho : B'.own = y.cls) (hn : B'.nm = y.name) (hlen : argsL.length = ps.length) (hef : ∀ m, entryFrame m argsL.toArray B'.ml = mkF m 0 ⟨L0⟩ []) (hsz : Ls.length = B.ml)
    (hf : Nat.ble (rm.frames + 1) R.frames = true) (hlo : Nat.ble ((rest.map fun v => v.category).sum + (B'.ml + 11) + rm.locals) R.locals = true) (hc : Nat.ble (cells + rm.cells) R.cells = true) (hs : Nat.ble (slots + rm.slots) R.slots = true) (hq : pc + 3 = q)
    (K : ∀ h', P h' → W l Z n0 R B Q h' (cells + rm.cells) (slots + rm.slots) q Ls rest) : W l Z n0 R B Q h cells slots pc Ls St :=
  W.callS hd wl wst wz wc hst w hp hy hpd ho hn hlen hef hsz hf hlo hc hs hq (fun v h' hQ => by obtain ⟨rfl, hP⟩ := hQ; exact K h' hP)
theorem W.callI_N {i : Nat} {y : MethodName} {B' : Bdy} {rm : Room} {P : Heap → Prop} {L0 : List Slot} {a : Addr} {argsL rest : List Value} {ps : List FieldType} {r : Option FieldType} (hd : decode B.bytes pc = .ok (.invokespecial i, 3)) (wl : (Cond.methodLink B.own i y).before a0 Z = true) (wst : (Cond.instanceMethod y).before a0 Z = true) (wz : (Cond.initialized y.cls).before a0 Z = true) (wc : (Cond.code y B'.bytes B'.ml B'.ret).before a0 Z = true)
    (hst : argsL.reverse ++ .ref a :: rest = St) (w : W l Z n0 rm B' (RN P) h 0 0 0 L0 []) (hp : plainFor y = true) (hy : y.cls ≠ "java/lang/invoke/MethodHandle" ∧ y.cls ≠ "java/lang/invoke/VarHandle") (hpd : parseMethodDescriptor y.desc = some ⟨ps, r⟩) (ho : B'.own = y.cls) (hn : B'.nm = y.name) (hlen : argsL.length = ps.length) (hef : ∀ m, entryFrame m (.ref a :: argsL).toArray B'.ml = mkF m 0 ⟨L0⟩ []) (hsz : Ls.length = B.ml)
    (hf : Nat.ble (rm.frames + 1) R.frames = true) (hlo : Nat.ble ((rest.map fun v => v.category).sum + (B'.ml + 11) + rm.locals) R.locals = true) (hc : Nat.ble (cells + rm.cells) R.cells = true) (hs : Nat.ble (slots + rm.slots) R.slots = true) (hret : B'.ret = none) (hin : y.name = "<init>") (hq : pc + 3 = q)
    (K : ∀ h', P h' → W l Z n0 R B Q h' (cells + rm.cells) (slots + rm.slots) q Ls rest) : W l Z n0 R B Q h cells slots pc Ls St :=
  W.callI hd wl wst wz wc hst w hp hy hpd ho hn hlen hef hsz hf hlo hc hs hret hin hq (fun v h' hQ => by obtain ⟨rfl, hP⟩ := hQ; exact K h' hP)
theorem W.callV_I {i : Nat} {y : MethodName} {C' : String} {B' : Bdy} {rm : Room} {P : Int32 → Heap → Prop} {L0 : List Slot} {a : Addr} {argsL rest : List Value} {ps : List FieldType} {r : Option FieldType} (hd : decode B.bytes pc = .ok (.invokevirtual i, 3)) (wl : (Cond.methodLink B.own i y).before a0 Z = true) (wd : (Cond.declares y).before a0 Z = true) (wsel : (Cond.selects C' y y).before a0 Z = true) (wst : (Cond.instanceMethod y).before a0 Z = true) (wz : (Cond.initialized y.cls).before a0 Z = true) (wc : (Cond.code y B'.bytes B'.ml B'.ret).before a0 Z = true)
    (hst : argsL.reverse ++ .ref a :: rest = St) (E : Exa Z h a C') (w : W l Z n0 rm B' (RI P) h 0 0 0 L0 []) (hp : plainFor y = true) (hy : y.cls ≠ "java/lang/invoke/MethodHandle" ∧ y.cls ≠ "java/lang/invoke/VarHandle") (hpd : parseMethodDescriptor y.desc = some ⟨ps, r⟩) (ho : B'.own = y.cls) (hn : B'.nm = y.name) (hlen : argsL.length = ps.length) (hef : ∀ m, entryFrame m (.ref a :: argsL).toArray B'.ml = mkF m 0 ⟨L0⟩ []) (hsz : Ls.length = B.ml)
    (hf : Nat.ble (rm.frames + 1) R.frames = true) (hlo : Nat.ble ((rest.map fun v => v.category).sum + (B'.ml + 11) + rm.locals) R.locals = true) (hc : Nat.ble (cells + rm.cells) R.cells = true) (hs : Nat.ble (slots + rm.slots) R.slots = true) (hq : pc + 3 = q)
    (K : ∀ (u : Int32) h', P u h' → W l Z n0 R B Q h' (cells + rm.cells) (slots + rm.slots) q Ls (.int u :: rest)) : W l Z n0 R B Q h cells slots pc Ls St :=
  W.callV hd wl wd wsel wst wz wc hst E w hp hy hpd ho hn hlen hef hsz hf hlo hc hs hq (fun v h' hQ => by obtain ⟨u, rfl, hP⟩ := hQ; exact K u h' hP)
theorem W.callV_J {i : Nat} {y : MethodName} {C' : String} {B' : Bdy} {rm : Room} {P : Int64 → Heap → Prop} {L0 : List Slot} {a : Addr} {argsL rest : List Value} {ps : List FieldType} {r : Option FieldType} (hd : decode B.bytes pc = .ok (.invokevirtual i, 3)) (wl : (Cond.methodLink B.own i y).before a0 Z = true) (wd : (Cond.declares y).before a0 Z = true) (wsel : (Cond.selects C' y y).before a0 Z = true) (wst : (Cond.instanceMethod y).before a0 Z = true) (wz : (Cond.initialized y.cls).before a0 Z = true) (wc : (Cond.code y B'.bytes B'.ml B'.ret).before a0 Z = true)
    (hst : argsL.reverse ++ .ref a :: rest = St) (E : Exa Z h a C') (w : W l Z n0 rm B' (RJ P) h 0 0 0 L0 []) (hp : plainFor y = true) (hy : y.cls ≠ "java/lang/invoke/MethodHandle" ∧ y.cls ≠ "java/lang/invoke/VarHandle") (hpd : parseMethodDescriptor y.desc = some ⟨ps, r⟩) (ho : B'.own = y.cls) (hn : B'.nm = y.name) (hlen : argsL.length = ps.length) (hef : ∀ m, entryFrame m (.ref a :: argsL).toArray B'.ml = mkF m 0 ⟨L0⟩ []) (hsz : Ls.length = B.ml)
    (hf : Nat.ble (rm.frames + 1) R.frames = true) (hlo : Nat.ble ((rest.map fun v => v.category).sum + (B'.ml + 11) + rm.locals) R.locals = true) (hc : Nat.ble (cells + rm.cells) R.cells = true) (hs : Nat.ble (slots + rm.slots) R.slots = true) (hq : pc + 3 = q)
    (K : ∀ (u : Int64) h', P u h' → W l Z n0 R B Q h' (cells + rm.cells) (slots + rm.slots) q Ls (.long u :: rest)) : W l Z n0 R B Q h cells slots pc Ls St :=
  W.callV hd wl wd wsel wst wz wc hst E w hp hy hpd ho hn hlen hef hsz hf hlo hc hs hq (fun v h' hQ => by obtain ⟨u, rfl, hP⟩ := hQ; exact K u h' hP)
theorem W.callV_A {i : Nat} {y : MethodName} {C' : String} {B' : Bdy} {rm : Room} {P : Value → Heap → Prop} {L0 : List Slot} {a : Addr} {argsL rest : List Value} {ps : List FieldType} {r : Option FieldType} (hd : decode B.bytes pc = .ok (.invokevirtual i, 3)) (wl : (Cond.methodLink B.own i y).before a0 Z = true) (wd : (Cond.declares y).before a0 Z = true) (wsel : (Cond.selects C' y y).before a0 Z = true) (wst : (Cond.instanceMethod y).before a0 Z = true) (wz : (Cond.initialized y.cls).before a0 Z = true) (wc : (Cond.code y B'.bytes B'.ml B'.ret).before a0 Z = true)
    (hst : argsL.reverse ++ .ref a :: rest = St) (E : Exa Z h a C') (w : W l Z n0 rm B' (RA P) h 0 0 0 L0 []) (hp : plainFor y = true) (hy : y.cls ≠ "java/lang/invoke/MethodHandle" ∧ y.cls ≠ "java/lang/invoke/VarHandle") (hpd : parseMethodDescriptor y.desc = some ⟨ps, r⟩) (ho : B'.own = y.cls) (hn : B'.nm = y.name) (hlen : argsL.length = ps.length) (hef : ∀ m, entryFrame m (.ref a :: argsL).toArray B'.ml = mkF m 0 ⟨L0⟩ []) (hsz : Ls.length = B.ml)
    (hf : Nat.ble (rm.frames + 1) R.frames = true) (hlo : Nat.ble ((rest.map fun v => v.category).sum + (B'.ml + 11) + rm.locals) R.locals = true) (hc : Nat.ble (cells + rm.cells) R.cells = true) (hs : Nat.ble (slots + rm.slots) R.slots = true) (hq : pc + 3 = q)
    (K : ∀ (u : Value) h', P u h' → W l Z n0 R B Q h' (cells + rm.cells) (slots + rm.slots) q Ls (u :: rest)) : W l Z n0 R B Q h cells slots pc Ls St :=
  W.callV hd wl wd wsel wst wz wc hst E w hp hy hpd ho hn hlen hef hsz hf hlo hc hs hq (fun v h' hQ => by obtain ⟨u, rfl, hP⟩ := hQ; exact K u h' hP)
theorem W.callV_N {i : Nat} {y : MethodName} {C' : String} {B' : Bdy} {rm : Room} {P : Heap → Prop} {L0 : List Slot} {a : Addr} {argsL rest : List Value} {ps : List FieldType} {r : Option FieldType} (hd : decode B.bytes pc = .ok (.invokevirtual i, 3)) (wl : (Cond.methodLink B.own i y).before a0 Z = true) (wd : (Cond.declares y).before a0 Z = true) (wsel : (Cond.selects C' y y).before a0 Z = true) (wst : (Cond.instanceMethod y).before a0 Z = true) (wz : (Cond.initialized y.cls).before a0 Z = true) (wc : (Cond.code y B'.bytes B'.ml B'.ret).before a0 Z = true)
    (hst : argsL.reverse ++ .ref a :: rest = St) (E : Exa Z h a C') (w : W l Z n0 rm B' (RN P) h 0 0 0 L0 []) (hp : plainFor y = true) (hy : y.cls ≠ "java/lang/invoke/MethodHandle" ∧ y.cls ≠ "java/lang/invoke/VarHandle") (hpd : parseMethodDescriptor y.desc = some ⟨ps, r⟩) (ho : B'.own = y.cls) (hn : B'.nm = y.name) (hlen : argsL.length = ps.length) (hef : ∀ m, entryFrame m (.ref a :: argsL).toArray B'.ml = mkF m 0 ⟨L0⟩ []) (hsz : Ls.length = B.ml)
    (hf : Nat.ble (rm.frames + 1) R.frames = true) (hlo : Nat.ble ((rest.map fun v => v.category).sum + (B'.ml + 11) + rm.locals) R.locals = true) (hc : Nat.ble (cells + rm.cells) R.cells = true) (hs : Nat.ble (slots + rm.slots) R.slots = true) (hq : pc + 3 = q)
    (K : ∀ h', P h' → W l Z n0 R B Q h' (cells + rm.cells) (slots + rm.slots) q Ls rest) : W l Z n0 R B Q h cells slots pc Ls St :=
  W.callV hd wl wd wsel wst wz wc hst E w hp hy hpd ho hn hlen hef hsz hf hlo hc hs hq (fun v h' hQ => by obtain ⟨rfl, hP⟩ := hQ; exact K h' hP)
theorem W.initO {i : Nat} {a : Addr} (hd : decode B.bytes pc = .ok (.invokespecial i, 3)) (w1 : (Cond.methodLink B.own i Lib.objectInit).before a0 Z = true) (w2 : (Cond.instanceMethod Lib.objectInit).before a0 Z = true) (w3 : (Cond.code Lib.objectInit ⟨#[0xb1]⟩ 1 none).before a0 Z = true) (hsz : Ls.length = B.ml) (hf : Nat.ble 1 R.frames = true) (hlo : Nat.ble ((St.map fun v => v.category).sum + 12) R.locals = true) (hq : pc + 3 = q)
    (K : W l Z n0 R B Q h cells slots q Ls St) : W l Z n0 R B Q h cells slots pc Ls (.ref a :: St) := by
  subst hq
  exact W.warm K (fun p e s m args below meth c T locs C X eT => RoadKit.initO X C.1 C.2.2.2.1 C.2.2.2.2.1 w1 w2 w3 eT (g := mkF m pc ⟨Ls⟩ (.ref a :: St)) rfl (by show Ls.toArray.size = _; rw [C.2.2.1]; simpa using hsz) rfl (hb C.2.1 hd) (Nat.le_of_ble_eq_true hf) (W := (St.map fun v => v.category).sum) (by show 2 * 0 + _ ≤ _; omega) (Nat.le_of_ble_eq_true hlo))
end Steps
/-! ### no instance: a class two steps under the root, and another class -/
theorem noUp {Z : State} {a0 : Array Value} {C S O K : String} {n : Nat} (w1 : (Cond.superclass C S).before a0 Z = true) (w2 : (Cond.superclass S O).before a0 Z = true) (w3 : (Cond.noSuperclass O).before a0 Z = true) (w4 : (Cond.instantiable K n).before a0 Z = true) (h1 : C ≠ K) (h2 : S ≠ K) (h3 : O ≠ K) : ∃ c t, Z.vm.findClass C = some c ∧ Z.vm.findClass K = some t ∧ Z.vm.assignable c t = false := by
  obtain ⟨t, kt, g1, g2, g3, g4, -⟩ := Cond.instantiable_spec w4
  obtain ⟨c, f1⟩ := found_sup w1
  obtain ⟨s, k1, k2, f2, f3, f4, f5, f6, -⟩ := Cond.superclass_spec f1 w1
  obtain ⟨o, k3, k4, f7, f8, f9, f10, -⟩ := Cond.superclass_spec f2 w2
  obtain ⟨o', k5, e1, e2, e3, -⟩ := Cond.noSuperclass_spec w3
  cases f7.symm.trans e1
  cases f4.symm.trans f8
  have n1 := ids_ne f1 g1 h1
  have n2 := ids_ne f2 g1 h2
  have n3 := ids_ne e1 g1 h3
  have q : ∀ fuel, Z.vm.isSubclassAux fuel c t = false := by
    intro fuel
    rcases fuel with _ | _ | _ | fuel <;> simp [Vm.isSubclassAux, n1, n2, n3, f3, f5, f4, f10, e2, e3]
  have g5 : kt.isInterface = false := by simp only [Bool.or_eq_false_iff] at g4; exact g4.1
  refine ⟨c, t, f1, g1, ?_⟩
  show Z.vm.assignableAux (255 + 1) c t = false
  simp [Vm.assignableAux, n1, f3, g2, f6, g3, g5, Vm.isSubclass, q]
/-! ### words of a case -/
theorem own_eqi {args : Array Value} {s : State} {t : Term} {z : Int32} (h : (Cond.eq t (.int z)).value args s none s [] = some true) : t.eval args s none [] s = some (.int z) := by
  obtain ⟨x, y, hx, hy, k1, k2⟩ := cmp_v (Or.inl h)
  cases (Term.int_eval (args := args) (first := s) (o := none) (idx := []) (s := s) z).symm.trans hy
  obtain ⟨z', rfl⟩ := k2
  have := gotT (Cond.eq_ints hx hy) h
  subst this
  exact hx
/-! ### numbers -/
theorem nat32 {k : Nat} (h : k < 2147483640) : (k.toInt32).toInt = k ∧ k.toInt32.toNatClampNeg = k ∧ ¬ k.toInt32 < 0 ∧ k.toInt32 + 1 = (k + 1).toInt32 := by
  have e : (k.toInt32).toInt = k := Int32.toInt_ofNat_of_lt (by omega)
  refine ⟨e, ?_, ?_, ?_⟩
  · show (k.toInt32).toInt.toNat = k
    omega
  · rw [Int32.lt_iff_toInt_lt, e]; simp
  · show Int32.ofNat k + 1 = Int32.ofNat (k + 1)
    rw [Int32.ofNat_add]; rfl
theorem ltb {a b : Nat} (h : Nat.blt a b = true) : a < b := Nat.le_of_ble_eq_true h
theorem leb {a b : Nat} (h : Nat.ble a b = true) : a ≤ b := Nat.le_of_ble_eq_true h
theorem mask31 (x : Int32) : (x &&& 2147483647).toInt = x.toInt % 2147483648 := by
  have h : ((x &&& 2147483647 : Int32)).toInt = (x.toBitVec &&& 2147483647#32).toInt := rfl
  rw [h, BitVec.toInt_eq_toNat_bmod, BitVec.toNat_and]
  have e1 : (x.toBitVec.toNat &&& (2147483647#32).toNat) = x.toBitVec.toNat % 2147483648 := by
    show x.toBitVec.toNat &&& (2 ^ 31 - 1) = x.toBitVec.toNat % 2 ^ 31
    exact Nat.and_two_pow_sub_one_eq_mod _ 31
  rw [e1]
  have e2 : x.toInt = (x.toBitVec.toNat : Int).bmod (2 ^ 32) := BitVec.toInt_eq_toNat_bmod _
  rw [e2]
  have e3 := Int.bmod_emod (x := (x.toBitVec.toNat : Int)) (m := 2 ^ 32)
  rw [Int.bmod_eq_of_le (by omega) (by omega)]
  omega
theorem rem31 (x k : Int32) (hk : 0 < k.toInt) : 0 ≤ ((x &&& 2147483647) % k).toInt ∧ ((x &&& 2147483647) % k).toInt < k.toInt := by
  have h := mask31 x
  rw [Int32.toInt_mod, Int.tmod_eq_emod_of_nonneg (by omega)]
  exact ⟨Int.emod_nonneg _ (by omega), Int.emod_lt_of_pos _ hk⟩
theorem lt32 {a b : Int32} : a < b ↔ a.toInt < b.toInt := Int32.lt_iff_toInt_lt
theorem eq32 {a b : Int32} : a = b ↔ a.toInt = b.toInt := Int32.toInt_inj.symm
theorem add32 {x y : Int32} (h1 : -2147483648 ≤ x.toInt + y.toInt) (h2 : x.toInt + y.toInt < 2147483648) : (x + y).toInt = x.toInt + y.toInt := by
  rw [Int32.toInt_add, Int.bmod_eq_of_le (by omega) (by omega)]
theorem sub32 {x y : Int32} (h1 : -2147483648 ≤ x.toInt - y.toInt) (h2 : x.toInt - y.toInt < 2147483648) : (x - y).toInt = x.toInt - y.toInt := by
  rw [Int32.toInt_sub, Int.bmod_eq_of_le (by omega) (by omega)]
theorem div32 {x y : Int32} (hx : 0 ≤ x.toInt) (hy : 0 < y.toInt) : (x / y).toInt = x.toInt / y.toInt := by
  rw [Int32.toInt_div, Int.tdiv_eq_ediv_of_nonneg hx, Int.bmod_eq_of_le]
  · have := Int.ediv_nonneg hx (Int.le_of_lt hy); omega
  · have h1 := Int.ediv_le_self y.toInt hx
    have h2 := x.toInt_lt
    omega
theorem maskk (x m : Int32) (k : Nat) (hk : k < 32) (hm : m.toBitVec.toNat = 2 ^ k - 1) : (x &&& m).toInt = x.toInt % 2 ^ k := by
  have h : (x &&& m).toInt = (x.toBitVec &&& m.toBitVec).toInt := rfl
  have hle : 2 ^ k ≤ 2 ^ 31 := Nat.pow_le_pow_right (by decide) (by omega)
  rw [h, BitVec.toInt_eq_toNat_bmod, BitVec.toNat_and, hm, Nat.and_two_pow_sub_one_eq_mod]
  have e2 : x.toInt = (x.toBitVec.toNat : Int).bmod (2 ^ 32) := BitVec.toInt_eq_toNat_bmod _
  have hlt := Nat.mod_lt x.toBitVec.toNat (Nat.two_pow_pos k)
  rw [e2, Int.bmod_eq_of_le (by omega) (by omega)]
  have hd : ((2 ^ k : Nat) : Int) ∣ ((2 ^ 32 : Nat) : Int) := Int.natCast_dvd_natCast.mpr (Nat.pow_dvd_pow 2 (by omega))
  have e3 : ((x.toBitVec.toNat : Int).bmod (2 ^ 32)) % ((2 ^ k : Nat) : Int) = (x.toBitVec.toNat : Int) % ((2 ^ k : Nat) : Int) := by
    have f1 := Int.emod_emod_of_dvd ((x.toBitVec.toNat : Int).bmod (2 ^ 32)) hd
    have f2 := Int.emod_emod_of_dvd (x.toBitVec.toNat : Int) hd
    rw [← f1, ← f2, Int.bmod_emod]
  have e4 : ((2 ^ k : Nat) : Int) = 2 ^ k := by simp
  rw [← e4, e3]; simp
end Jvm.OwnW
namespace Jvm.Pilot.@@N@@
open Jvm Jvm.ClassFile Sem Op Lib Jvm.Free Jvm.Stand Jvm.LawKit Jvm.RoadKit Bundle Jvm.OwnW Jvm.Pilot.@@N@@.Jvm.D
abbrev B0 : Bdy := (x.cls, x.name, code, maxLocals, ret)
theorem own_pf0 : plainFor x = true := by first | exact plainFor_of_name (by first | (simp [plainName, overriddenIn, x]; done) | decide +kernel) | decide +kernel
abbrev B1 : Bdy := ("com/example/tideline/tideline/engine/CompactionLog", "places", prog_68_method_10_code, 6, (some (.array .int)))
theorem d1_0 : decode prog_68_method_10_code 0 = .ok (.iconst 0, 1) := by decide +kernel
theorem d1_1 : decode prog_68_method_10_code 1 = .ok (.istore_n 1, 1) := by decide +kernel
theorem d1_2 : decode prog_68_method_10_code 2 = .ok (.aload_n 0, 1) := by decide +kernel
theorem d1_3 : decode prog_68_method_10_code 3 = .ok (.astore_n 2, 1) := by decide +kernel
theorem d1_4 : decode prog_68_method_10_code 4 = .ok (.aload_n 2, 1) := by decide +kernel
theorem d1_5 : decode prog_68_method_10_code 5 = .ok (.arraylength, 1) := by decide +kernel
theorem d1_6 : decode prog_68_method_10_code 6 = .ok (.istore_n 3, 1) := by decide +kernel
theorem d1_7 : decode prog_68_method_10_code 7 = .ok (.iconst 0, 1) := by decide +kernel
theorem d1_8 : decode prog_68_method_10_code 8 = .ok (.istore 4, 2) := by decide +kernel
theorem d1_10 : decode prog_68_method_10_code 10 = .ok (.iload 4, 2) := by decide +kernel
theorem d1_12 : decode prog_68_method_10_code 12 = .ok (.iload_n 3, 1) := by decide +kernel
theorem d1_13 : decode prog_68_method_10_code 13 = .ok (.if_icmp .ge 23, 3) := by decide +kernel
theorem d1_16 : decode prog_68_method_10_code 16 = .ok (.aload_n 2, 1) := by decide +kernel
theorem d1_17 : decode prog_68_method_10_code 17 = .ok (.iload 4, 2) := by decide +kernel
theorem d1_19 : decode prog_68_method_10_code 19 = .ok (.baload, 1) := by decide +kernel
theorem d1_20 : decode prog_68_method_10_code 20 = .ok (.istore 5, 2) := by decide +kernel
theorem d1_22 : decode prog_68_method_10_code 22 = .ok (.iload 5, 2) := by decide +kernel
theorem d1_24 : decode prog_68_method_10_code 24 = .ok (.ifCond .eq 6, 3) := by decide +kernel
theorem d1_27 : decode prog_68_method_10_code 27 = .ok (.iinc 1 1, 3) := by decide +kernel
theorem d1_30 : decode prog_68_method_10_code 30 = .ok (.iinc 4 1, 3) := by decide +kernel
theorem d1_33 : decode prog_68_method_10_code 33 = .ok (.goto (-23), 3) := by decide +kernel
theorem d1_36 : decode prog_68_method_10_code 36 = .ok (.iload_n 1, 1) := by decide +kernel
theorem d1_37 : decode prog_68_method_10_code 37 = .ok (.aload_n 0, 1) := by decide +kernel
theorem d1_38 : decode prog_68_method_10_code 38 = .ok (.arraylength, 1) := by decide +kernel
theorem d1_39 : decode prog_68_method_10_code 39 = .ok (.if_icmp .ge 9, 3) := by decide +kernel
theorem d1_42 : decode prog_68_method_10_code 42 = .ok (.iload_n 1, 1) := by decide +kernel
theorem d1_43 : decode prog_68_method_10_code 43 = .ok (.iconst 1, 1) := by decide +kernel
theorem d1_44 : decode prog_68_method_10_code 44 = .ok (.iadd, 1) := by decide +kernel
theorem d1_45 : decode prog_68_method_10_code 45 = .ok (.goto 4, 3) := by decide +kernel
theorem d1_48 : decode prog_68_method_10_code 48 = .ok (.iload_n 1, 1) := by decide +kernel
theorem d1_49 : decode prog_68_method_10_code 49 = .ok (.newarray .int, 2) := by decide +kernel
theorem d1_51 : decode prog_68_method_10_code 51 = .ok (.astore_n 2, 1) := by decide +kernel
theorem d1_52 : decode prog_68_method_10_code 52 = .ok (.iconst 0, 1) := by decide +kernel
theorem d1_53 : decode prog_68_method_10_code 53 = .ok (.istore_n 3, 1) := by decide +kernel
theorem d1_54 : decode prog_68_method_10_code 54 = .ok (.iload_n 1, 1) := by decide +kernel
theorem d1_55 : decode prog_68_method_10_code 55 = .ok (.aload_n 0, 1) := by decide +kernel
theorem d1_56 : decode prog_68_method_10_code 56 = .ok (.arraylength, 1) := by decide +kernel
theorem d1_57 : decode prog_68_method_10_code 57 = .ok (.if_icmp .ge 10, 3) := by decide +kernel
theorem d1_60 : decode prog_68_method_10_code 60 = .ok (.aload_n 2, 1) := by decide +kernel
theorem d1_61 : decode prog_68_method_10_code 61 = .ok (.iload_n 3, 1) := by decide +kernel
theorem d1_62 : decode prog_68_method_10_code 62 = .ok (.iinc 3 1, 3) := by decide +kernel
theorem d1_65 : decode prog_68_method_10_code 65 = .ok (.iconst (-1), 1) := by decide +kernel
theorem d1_66 : decode prog_68_method_10_code 66 = .ok (.iastore, 1) := by decide +kernel
theorem d1_67 : decode prog_68_method_10_code 67 = .ok (.iconst 0, 1) := by decide +kernel
theorem d1_68 : decode prog_68_method_10_code 68 = .ok (.istore 4, 2) := by decide +kernel
theorem d1_70 : decode prog_68_method_10_code 70 = .ok (.iload 4, 2) := by decide +kernel
theorem d1_72 : decode prog_68_method_10_code 72 = .ok (.aload_n 0, 1) := by decide +kernel
theorem d1_73 : decode prog_68_method_10_code 73 = .ok (.arraylength, 1) := by decide +kernel
theorem d1_74 : decode prog_68_method_10_code 74 = .ok (.if_icmp .ge 24, 3) := by decide +kernel
theorem d1_77 : decode prog_68_method_10_code 77 = .ok (.aload_n 0, 1) := by decide +kernel
theorem d1_78 : decode prog_68_method_10_code 78 = .ok (.iload 4, 2) := by decide +kernel
theorem d1_80 : decode prog_68_method_10_code 80 = .ok (.baload, 1) := by decide +kernel
theorem d1_81 : decode prog_68_method_10_code 81 = .ok (.ifCond .eq 11, 3) := by decide +kernel
theorem d1_84 : decode prog_68_method_10_code 84 = .ok (.aload_n 2, 1) := by decide +kernel
theorem d1_85 : decode prog_68_method_10_code 85 = .ok (.iload_n 3, 1) := by decide +kernel
theorem d1_86 : decode prog_68_method_10_code 86 = .ok (.iinc 3 1, 3) := by decide +kernel
theorem d1_89 : decode prog_68_method_10_code 89 = .ok (.iload 4, 2) := by decide +kernel
theorem d1_91 : decode prog_68_method_10_code 91 = .ok (.iastore, 1) := by decide +kernel
theorem d1_92 : decode prog_68_method_10_code 92 = .ok (.iinc 4 1, 3) := by decide +kernel
theorem d1_95 : decode prog_68_method_10_code 95 = .ok (.goto (-25), 3) := by decide +kernel
theorem d1_98 : decode prog_68_method_10_code 98 = .ok (.aload_n 2, 1) := by decide +kernel
theorem d1_99 : decode prog_68_method_10_code 99 = .ok (.areturn, 1) := by decide +kernel
theorem own_pf1 : plainFor (⟨"com/example/tideline/tideline/engine/CompactionLog", "places", "([Z)[I"⟩ : MethodName) = true := by first | exact plainFor_of_name (by first | (simp [plainName, overriddenIn, x]; done) | decide +kernel) | decide +kernel
theorem own_pd1 : parseMethodDescriptor "([Z)[I" = some ⟨[(.array .boolean)], (some (.array .int))⟩ := by decide +kernel
abbrev B2 : Bdy := ("com/example/tideline/tideline/engine/CompactionLogPlacesPinLaw", "same", method_3_code, 3, (some .boolean))
theorem d2_0 : decode method_3_code 0 = .ok (.iload_n 2, 1) := by decide +kernel
theorem d2_1 : decode method_3_code 1 = .ok (.aload_n 0, 1) := by decide +kernel
theorem d2_2 : decode method_3_code 2 = .ok (.arraylength, 1) := by decide +kernel
theorem d2_3 : decode method_3_code 3 = .ok (.if_icmp .ge 12, 3) := by decide +kernel
theorem d2_6 : decode method_3_code 6 = .ok (.aload_n 0, 1) := by decide +kernel
theorem d2_7 : decode method_3_code 7 = .ok (.iload_n 2, 1) := by decide +kernel
theorem d2_8 : decode method_3_code 8 = .ok (.iaload, 1) := by decide +kernel
theorem d2_9 : decode method_3_code 9 = .ok (.aload_n 1, 1) := by decide +kernel
theorem d2_10 : decode method_3_code 10 = .ok (.iload_n 2, 1) := by decide +kernel
theorem d2_11 : decode method_3_code 11 = .ok (.iaload, 1) := by decide +kernel
theorem d2_12 : decode method_3_code 12 = .ok (.if_icmp .ne 7, 3) := by decide +kernel
theorem d2_15 : decode method_3_code 15 = .ok (.iconst 1, 1) := by decide +kernel
theorem d2_16 : decode method_3_code 16 = .ok (.goto 4, 3) := by decide +kernel
theorem d2_20 : decode method_3_code 20 = .ok (.ireturn, 1) := by decide +kernel
theorem own_pf2 : plainFor (⟨"com/example/tideline/tideline/engine/CompactionLogPlacesPinLaw", "same", "([I[II)Z"⟩ : MethodName) = true := by first | exact plainFor_of_name (by first | (simp [plainName, overriddenIn, x]; done) | decide +kernel) | decide +kernel
theorem own_pd2 : parseMethodDescriptor "([I[II)Z" = some ⟨[(.array .int), (.array .int), .int], (some .boolean)⟩ := by decide +kernel
theorem own_cb_16 : (Int8.ofInt (16)).toInt32 = (16 : Int32) := by decide
theorem own_cb_32 : (Int8.ofInt (32)).toInt32 = (32 : Int32) := by decide
theorem own_cb_6 : (Int8.ofInt (6)).toInt32 = (6 : Int32) := by decide
theorem own_cb_7 : (Int8.ofInt (7)).toInt32 = (7 : Int32) := by decide
theorem own_cb_8 : (Int8.ofInt (8)).toInt32 = (8 : Int32) := by decide
theorem own_ci_0 : Int32.ofInt (0) = (0 : Int32) := by decide
theorem own_ci_1 : Int32.ofInt (1) = (1 : Int32) := by decide
theorem own_ci_2 : Int32.ofInt (2) = (2 : Int32) := by decide
theorem own_ci_3 : Int32.ofInt (3) = (3 : Int32) := by decide
theorem own_ci_4 : Int32.ofInt (4) = (4 : Int32) := by decide
theorem own_ci_5 : Int32.ofInt (5) = (5 : Int32) := by decide
theorem own_ci_m1 : Int32.ofInt (-1) = (-1 : Int32) := by decide
def own_bi (b : Bool) : Int32 := if b then 1 else 0
theorem own_bi0 (b : Bool) : own_bi b = 0 ↔ b = false := by cases b <;> decide
def own_cnt : List Int32 → Nat
  | [] => 0
  | x :: r => if x = 0 then own_cnt r else own_cnt r + 1
def own_idx : Nat → List Int32 → List Int32
  | _, [] => []
  | k, x :: r => if x = 0 then own_idx (k + 1) r else k.toInt32 :: own_idx (k + 1) r
def own_places (bs : List Int32) : List Int32 := (if own_cnt bs < bs.length then [-1] else []) ++ own_idx 0 bs
theorem own_idx_len : ∀ (bs : List Int32) (k : Nat), (own_idx k bs).length = own_cnt bs
  | [], _ => rfl
  | x :: r, k => by
    simp only [own_idx, own_cnt]
    split
    · exact own_idx_len r _
    · simp [own_idx_len r]
theorem own_cnt_le : ∀ bs : List Int32, own_cnt bs ≤ bs.length
  | [] => Nat.le_refl _
  | x :: r => by
    have := own_cnt_le r
    simp only [own_cnt, List.length_cons]
    split <;> omega
theorem own_push (L : List Int32) (m : Nat) (x : Int32) : (L ++ List.replicate (m + 1) (0 : Int32)).set L.length x = (L ++ [x]) ++ List.replicate m 0 := by
  rw [List.set_append_right _ _ (Nat.le_refl _), Nat.sub_self, List.replicate_succ, List.set_cons_zero, List.append_assoc]; rfl
theorem own_at (d r : List Int32) (x : Int32) : (d ++ x :: r)[d.length]? = some x := by
  rw [List.getElem?_append_right (Nat.le_refl _), Nat.sub_self]; rfl

theorem own_loop2 (l : Launch) (Z : State) (n0 : Nat) (a r : Addr) (cn : Int32) (s5 : Slot) (bs P : List Int32) (har : a ≠ r) (hr : n0 ≤ r) (hb : bs.length < 100) (hP : own_places bs = P ++ own_idx 0 bs) (hPl : P.length ≤ 1) : ∀ (rem done : List Int32) (h : Heap) (M : List Int32), bs = done ++ rem → P ++ own_idx 0 bs = M ++ own_idx done.length rem → AI Z h a .boolean bs → AI Z h r .int (M ++ List.replicate (own_cnt rem) 0) → M.length ≤ 101 →
    W l Z n0 (rmF 0 1 7 0) B1 (RA (fun v h' => ∃ r, v = .ref r ∧ AI Z h' r .int (own_places bs) ∧ n0 ≤ r)) h 1 7 70 [.val (.ref a), .val (.int cn), .val (.ref r), .val (.int M.length.toInt32), .val (.int done.length.toInt32), s5] [] := by
  intro rem
  induction rem with
  | nil =>
    intro done h M hd hM Ab Ar hl
    refine W.iload d1_70 rfl rfl ?_
    refine W.aloadN d1_72 rfl rfl rfl ?_
    refine W.arraylengthI d1_73 Ab rfl rfl ?_
    have hlen : done.length = bs.length := by rw [hd]; simp
    rw [hlen]
    refine W.icmp_ge d1_74 (by decide) rfl rfl (fun p => ?_) (fun q => ?_)
    · refine W.aloadN d1_98 rfl rfl rfl ?_
      refine W.areturn d1_99 rfl rfl rfl rfl ⟨_, rfl, r, rfl, ?_, hr⟩
      rw [hP, hM]
      simpa [own_cnt, own_idx] using Ar
    · rw [lt32] at q; omega
  | cons x rem ih =>
    intro done h M hd hM Ab Ar hl
    have hlen : done.length < bs.length := by rw [hd]; simp
    have n1 := nat32 (k := done.length) (by omega)
    have n2 := nat32 (k := bs.length) (by omega)
    have n3 := nat32 (k := M.length) (by omega)
    have hnext : bs = (done ++ [x]) ++ rem := by rw [hd]; simp
    have hdl : (done ++ [x]).length = done.length + 1 := by simp
    refine W.iload d1_70 rfl rfl ?_
    refine W.aloadN d1_72 rfl rfl rfl ?_
    refine W.arraylengthI d1_73 Ab rfl rfl ?_
    refine W.icmp_ge d1_74 (by decide) rfl rfl (fun p => ?_) (fun q => ?_)
    · rw [lt32, n1.1, n2.1] at p; omega
    refine W.aloadN d1_77 rfl rfl rfl ?_
    refine W.iload d1_78 rfl rfl ?_
    refine W.baloadZ d1_80 Ab n1.2.2.1 (v := x) (by rw [n1.2.1, hd]; exact own_at _ _ _) rfl ?_
    refine W.ifc_eq d1_81 (by decide) rfl rfl (fun p => ?_) (fun q => ?_)
    · refine W.iinc d1_92 rfl own_ci_1 (Put.s (Put.s (Put.s (Put.s Put.z)))) rfl ?_
      refine W.goto d1_95 (by decide) rfl ?_
      rw [n1.2.2.2, ← hdl]
      refine ih (done ++ [x]) h M hnext ?_ Ab ?_ hl
      · rw [hM, hdl]; simp only [own_idx, p, if_true]
      · simpa only [own_cnt, p, if_true] using Ar
    · have e1 : own_cnt (x :: rem) = own_cnt rem + 1 := by simp only [own_cnt, q, if_false]
      rw [e1] at Ar
      refine W.aloadN d1_84 rfl rfl rfl ?_
      refine W.iloadN d1_85 rfl rfl ?_
      refine W.iinc d1_86 rfl own_ci_1 (Put.s (Put.s (Put.s Put.z))) rfl ?_
      refine W.iload d1_89 rfl rfl ?_
      refine W.iastore d1_91 Ar n3.2.2.1 (by rw [n3.2.1]; simp) hr rfl (fun h' W' Ar' => ?_)
      rw [n3.2.1, own_push] at Ar'
      have hml : (M ++ [done.length.toInt32]).length = M.length + 1 := by simp
      have hMM : M.length ≤ 100 := by
        have e2 := congrArg List.length hM
        have e3 := own_cnt_le bs
        simp only [List.length_append, own_idx_len, e1] at e2
        omega
      refine W.iinc d1_92 rfl own_ci_1 (Put.s (Put.s (Put.s (Put.s Put.z)))) rfl ?_
      refine W.goto d1_95 (by decide) rfl ?_
      rw [n1.2.2.2, n3.2.2.2, ← hdl, ← hml]
      refine ih (done ++ [x]) h' _ hnext ?_ (Ab.other W' har) Ar' (by omega)
      rw [hM, hdl]; simp only [own_idx, q, if_false]; simp
theorem own_mid (l : Launch) (Z : State) (a0 : Array Value) (hw : ∀ d ∈ tables_1, d.before a0 Z = true) (n0 : Nat) (h : Heap) (a : Addr) (s4 s5 : Slot) (s3 : Int32) (bs : List Int32) (A : AI Z h a .boolean bs) (hn : n0 ≤ h.size) (hb : bs.length ≤ 6) (h4 : one1 s4 = true) :
    W l Z n0 (rmF 0 1 7 0) B1 (RA (fun v h' => ∃ r, v = .ref r ∧ AI Z h' r .int (own_places bs) ∧ n0 ≤ r)) h 0 0 36 [.val (.ref a), .val (.int (own_cnt bs).toInt32), .val (.ref a), .val (.int s3), s4, s5] [] := by
  have hc := own_cnt_le bs
  have n1 := nat32 (k := own_cnt bs) (by omega)
  have n2 := nat32 (k := bs.length) (by omega)
  have k0 : (0 : Int32).toInt = 0 := by decide
  refine W.iloadN d1_36 rfl rfl ?_
  refine W.aloadN d1_37 rfl rfl rfl ?_
  refine W.arraylengthI d1_38 A rfl rfl ?_
  refine W.icmp_ge d1_39 (by decide) rfl rfl (fun p => ?_) (fun q => ?_)
  · rw [lt32, n1.1, n2.1] at p
    refine W.iloadN d1_48 rfl rfl ?_
    refine W.newarrayI (ty := .int) (cap := 7) d1_49 rfl rfl (hw _ (List.mem_of_getElem? (i := 6) rfl)) n1.2.2.1 (by rw [n1.2.1]; omega) (by decide) (by decide) (by decide) rfl (fun h1 E1 A1 => ?_)
    rw [n1.2.1] at A1
    refine W.astoreN d1_51 rfl (Put.s (Put.s Put.z)) rfl rfl rfl ?_
    refine W.iconst d1_52 own_ci_0 rfl ?_
    refine W.istoreN d1_53 (Put.s (Put.s (Put.s Put.z))) rfl rfl rfl ?_
    refine W.iloadN d1_54 rfl rfl ?_
    refine W.aloadN d1_55 rfl rfl rfl ?_
    refine W.arraylengthI d1_56 (A.ext E1) rfl rfl ?_
    refine W.icmp_ge d1_57 (by decide) rfl rfl (fun p' => ?_) (fun q' => ?_)
    · refine W.iconst d1_67 own_ci_0 rfl ?_
      refine W.istore d1_68 (Put.s (Put.s (Put.s (Put.s Put.z)))) rfl h4 rfl ?_
      exact own_loop2 l Z n0 a h.size _ s5 bs [] (Nat.ne_of_lt A.lt) hn (by omega) (by simp only [own_places]; rw [if_neg (by omega)]) (by decide) bs [] h1 [] rfl rfl (A.ext E1) (by simpa using A1) (by decide)
    · rw [lt32, n1.1, n2.1] at q'; omega
  · rw [lt32, n1.1, n2.1] at q
    refine W.iloadN d1_42 rfl rfl ?_
    refine W.iconst d1_43 own_ci_1 rfl ?_
    refine W.iadd d1_44 rfl ?_
    refine W.goto d1_45 (by decide) rfl ?_
    rw [n1.2.2.2]
    have n3 := nat32 (k := own_cnt bs + 1) (by omega)
    refine W.newarrayI (ty := .int) (cap := 7) d1_49 rfl rfl (hw _ (List.mem_of_getElem? (i := 6) rfl)) n3.2.2.1 (by rw [n3.2.1]; omega) (by decide) (by decide) (by decide) rfl (fun h1 E1 A1 => ?_)
    rw [n3.2.1] at A1
    refine W.astoreN d1_51 rfl (Put.s (Put.s Put.z)) rfl rfl rfl ?_
    refine W.iconst d1_52 own_ci_0 rfl ?_
    refine W.istoreN d1_53 (Put.s (Put.s (Put.s Put.z))) rfl rfl rfl ?_
    refine W.iloadN d1_54 rfl rfl ?_
    refine W.aloadN d1_55 rfl rfl rfl ?_
    refine W.arraylengthI d1_56 (A.ext E1) rfl rfl ?_
    refine W.icmp_ge d1_57 (by decide) rfl rfl (fun p' => ?_) (fun q' => ?_)
    · rw [lt32, n1.1, n2.1] at p'; omega
    refine W.aloadN d1_60 rfl rfl rfl ?_
    refine W.iloadN d1_61 rfl rfl ?_
    refine W.iinc d1_62 rfl own_ci_1 (Put.s (Put.s (Put.s Put.z))) rfl ?_
    refine W.iconst d1_65 own_ci_m1 rfl ?_
    refine W.iastore d1_66 A1 (by decide) (by simp [List.length_replicate]) hn rfl (fun h2 W2 A2 => ?_)
    refine W.iconst d1_67 own_ci_0 rfl ?_
    refine W.istore d1_68 (Put.s (Put.s (Put.s (Put.s Put.z)))) rfl h4 rfl ?_
    exact own_loop2 l Z n0 a h.size _ s5 bs [-1] (Nat.ne_of_lt A.lt) hn (by omega) (by simp only [own_places]; rw [if_pos (by omega)]) (by decide) bs [] h2 [-1] rfl rfl ((A.ext E1).other W2 (Nat.ne_of_lt A.lt)) (by simpa [List.replicate_succ] using A2) (by decide)
theorem own_loop1 (l : Launch) (Z : State) (a0 : Array Value) (hw : ∀ d ∈ tables_1, d.before a0 Z = true) (n0 : Nat) (h : Heap) (a : Addr) (bs : List Int32) (A : AI Z h a .boolean bs) (hn : n0 ≤ h.size) (hb : bs.length ≤ 6) : ∀ (rem done : List Int32) (s5 : Slot), bs = done ++ rem → one1 s5 = true →
    W l Z n0 (rmF 0 1 7 0) B1 (RA (fun v h' => ∃ r, v = .ref r ∧ AI Z h' r .int (own_places bs) ∧ n0 ≤ r)) h 0 0 10 [.val (.ref a), .val (.int (own_cnt bs - own_cnt rem).toInt32), .val (.ref a), .val (.int bs.length.toInt32), .val (.int done.length.toInt32), s5] [] := by
  intro rem
  have hc := own_cnt_le bs
  have n2 := nat32 (k := bs.length) (by omega)
  induction rem with
  | nil =>
    intro done s5 hd h5
    have hlen : done.length = bs.length := by rw [hd]; simp
    rw [hlen]
    refine W.iload d1_10 rfl rfl ?_
    refine W.iloadN d1_12 rfl rfl ?_
    refine W.icmp_ge d1_13 (by decide) rfl rfl (fun p => ?_) (fun q => ?_)
    · exact own_mid l Z a0 hw n0 h a _ s5 _ bs A hn hb rfl
    · rw [lt32] at q; omega
  | cons x rem ih =>
    intro done s5 hd h5
    have hlen : done.length < bs.length := by rw [hd]; simp
    have n1 := nat32 (k := done.length) (by omega)
    have hnext : bs = (done ++ [x]) ++ rem := by rw [hd]; simp
    have hdl : (done ++ [x]).length = done.length + 1 := by simp
    have hle : own_cnt (x :: rem) ≤ own_cnt bs := by
      clear ih hnext hdl n1 n2 A
      subst hd
      clear hb hc hlen h5
      induction done with
      | nil => exact Nat.le_refl _
      | cons y d ihd =>
        have e : own_cnt (y :: (d ++ x :: rem)) = if y = 0 then own_cnt (d ++ x :: rem) else own_cnt (d ++ x :: rem) + 1 := rfl
        rw [List.cons_append, e]; split <;> omega
    refine W.iload d1_10 rfl rfl ?_
    refine W.iloadN d1_12 rfl rfl ?_
    refine W.icmp_ge d1_13 (by decide) rfl rfl (fun p => ?_) (fun q => ?_)
    · rw [lt32, n1.1, n2.1] at p; omega
    refine W.aloadN d1_16 rfl rfl rfl ?_
    refine W.iload d1_17 rfl rfl ?_
    refine W.baloadZ d1_19 A n1.2.2.1 (v := x) (by rw [n1.2.1, hd]; exact own_at _ _ _) rfl ?_
    refine W.istore d1_20 (Put.s (Put.s (Put.s (Put.s (Put.s Put.z))))) rfl h5 rfl ?_
    refine W.iload d1_22 rfl rfl ?_
    refine W.ifc_eq d1_24 (by decide) rfl rfl (fun p => ?_) (fun q => ?_)
    · have e : own_cnt (x :: rem) = own_cnt rem := by simp only [own_cnt, p, if_true]
      rw [e]
      refine W.iinc d1_30 rfl own_ci_1 (Put.s (Put.s (Put.s (Put.s Put.z)))) rfl ?_
      refine W.goto d1_33 (by decide) rfl ?_
      rw [n1.2.2.2, ← hdl]
      exact ih (done ++ [x]) _ hnext rfl
    · have e : own_cnt (x :: rem) = own_cnt rem + 1 := by simp only [own_cnt, q, if_false]
      rw [e] at hle
      have n3 := nat32 (k := own_cnt bs - own_cnt (x :: rem)) (by omega)
      refine W.iinc d1_27 rfl own_ci_1 (Put.s Put.z) rfl ?_
      refine W.iinc d1_30 rfl own_ci_1 (Put.s (Put.s (Put.s (Put.s Put.z)))) rfl ?_
      refine W.goto d1_33 (by decide) rfl ?_
      rw [n1.2.2.2, n3.2.2.2, e, ← hdl]
      have e2 : own_cnt bs - (own_cnt rem + 1) + 1 = own_cnt bs - own_cnt rem := by omega
      rw [e2]
      exact ih (done ++ [x]) _ hnext rfl
theorem own_c1 (l : Launch) (Z : State) (a0 : Array Value) (hw : ∀ d ∈ tables_1, d.before a0 Z = true) (n0 : Nat) (h : Heap) (a : Addr) (bs : List Int32) (A : AI Z h a .boolean bs) (hn : n0 ≤ h.size) (hb : bs.length ≤ 6) :
    W l Z n0 (rmF 0 1 7 0) B1 (RA (fun v h' => ∃ r, v = .ref r ∧ AI Z h' r .int (own_places bs) ∧ n0 ≤ r)) h 0 0 0 [.val (.ref a), .unset, .unset, .unset, .unset, .unset] [] := by
  refine W.iconst d1_0 own_ci_0 rfl ?_
  refine W.istoreN d1_1 (Put.s Put.z) rfl rfl rfl ?_
  refine W.aloadN d1_2 rfl rfl rfl ?_
  refine W.astoreN d1_3 rfl (Put.s (Put.s Put.z)) rfl rfl rfl ?_
  refine W.aloadN d1_4 rfl rfl rfl ?_
  refine W.arraylengthI d1_5 A rfl rfl ?_
  refine W.istoreN d1_6 (Put.s (Put.s (Put.s Put.z))) rfl rfl rfl ?_
  refine W.iconst d1_7 own_ci_0 rfl ?_
  refine W.istore d1_8 (Put.s (Put.s (Put.s (Put.s Put.z)))) rfl rfl rfl ?_
  have T := own_loop1 l Z a0 hw n0 h a bs A hn hb bs [] .unset rfl rfl
  rw [Nat.sub_self] at T
  exact T
theorem own_c2 (l : Launch) (Z : State) (n0 : Nat) (h : Heap) (a b : Addr) (G : List Int32) (i : Int32) (A : AI Z h a .int G) (B : AI Z h b .int (G ++ List.replicate (7 - G.length) 0)) (hG : G.length ≤ 7) (h0 : 0 ≤ i.toInt) (h7 : i.toInt < 7) :
    W l Z n0 (rmF 0 0 0 0) B2 (RI (fun r h' => r = 1 ∧ h' = h)) h 0 0 0 [.val (.ref a), .val (.ref b), .val (.int i)] [] := by
  have n1 := nat32 (k := G.length) (by omega)
  have k0 : (0 : Int32).toInt = 0 := by decide
  refine W.iloadN d2_0 rfl rfl ?_
  refine W.aloadN d2_1 rfl rfl rfl ?_
  refine W.arraylengthI d2_2 A rfl rfl ?_
  refine W.icmp_ge d2_3 (by decide) rfl rfl (fun p => ?_) (fun q => ?_)
  · refine W.iconst d2_15 own_ci_1 rfl ?_
    refine W.goto d2_16 (by decide) rfl ?_
    exact W.ireturnN d2_20 rfl (Or.inl rfl) rfl ⟨_, rfl, rfl, rfl⟩
  rw [lt32, n1.1] at q
  have hi : i.toNatClampNeg < G.length := by show i.toInt.toNat < _; omega
  have e1 : G[i.toNatClampNeg]? = some (G[i.toNatClampNeg]'hi) := List.getElem?_eq_getElem hi
  refine W.aloadN d2_6 rfl rfl rfl ?_
  refine W.iloadN d2_7 rfl rfl ?_
  refine W.iaload d2_8 A (by rw [lt32]; omega) e1 rfl ?_
  refine W.aloadN d2_9 rfl rfl rfl ?_
  refine W.iloadN d2_10 rfl rfl ?_
  refine W.iaload d2_11 B (by rw [lt32]; omega) (by rw [List.getElem?_append_left hi]; exact e1) rfl ?_
  refine W.icmp_ne d2_12 (by decide) rfl rfl (fun p => ?_) (fun q => ?_)
  · exact absurd rfl p
  refine W.iconst d2_15 own_ci_1 rfl ?_
  refine W.goto d2_16 (by decide) rfl ?_
  exact W.ireturnN d2_20 rfl (Or.inl rfl) rfl ⟨_, rfl, rfl, rfl⟩
theorem own_t364 (l : Launch) (Z : State) (a0 : Array Value) (hw : ∀ d ∈ tables_1, d.before a0 Z = true) (h : Heap) (i0 i1 n : Int32) (b0 b1 b2 b3 b4 b5 : Bool) (ia r ea : Addr) (G : List Int32) (ao : Int32) (AG : AI Z h r .int G) (AE : AI Z h ea .int (G ++ List.replicate (7 - G.length) 0)) (hG : G.length ≤ 7) :
    W l Z Z.heap.size room_1 B0 (fun v _ => v = some (.int 1)) h 3 20 364 [.val (.int i0), .val (.int i1), .val (.int n), .val (.int (own_bi b0)), .val (.int (own_bi b1)), .val (.int (own_bi b2)), .val (.int (own_bi b3)), .val (.int (own_bi b4)), .val (.int (own_bi b5)), .val (.ref ia), .val (.ref r), .val (.ref ea), .val (.int G.length.toInt32), .val (.int ao)] [] := by
  refine W.aload at_364 rfl rfl rfl ?_
  refine W.arraylengthI at_366 AG rfl rfl ?_
  refine W.iload at_367 rfl rfl ?_
  refine W.icmp_eq at_369 (by decide) rfl rfl (fun p => ?_) (fun q => ?_)
  rotate_left
  · exact absurd rfl q
  refine W.aload at_374 rfl rfl rfl ?_
  refine W.aload at_376 rfl rfl rfl ?_
  refine W.iconst at_378 own_ci_0 rfl ?_
  refine W.callS_I (B' := B2) (argsL := [_, _, _]) at_379 (hw _ (List.mem_of_getElem? (i := 7) rfl)) (hw _ (List.mem_of_getElem? (i := 8) rfl)) (hw _ (List.mem_of_getElem? (i := 9) rfl)) (hw _ (List.mem_of_getElem? (i := 10) rfl)) rfl (own_c2 l Z _ _ _ _ G 0 AG AE hG (by decide) (by decide)) own_pf2 (by decide) own_pd2 rfl rfl rfl (fun m => by first | (simp [entryFrame, mkF, argsToLocals, Value.category]; done) | rfl) rfl rfl rfl rfl rfl rfl (fun u h' hh => ?_)
  obtain ⟨rfl, rfl⟩ := hh
  refine W.ifc_eq at_382 (by decide) rfl rfl (fun p => ?_) (fun q => ?_)
  · exact absurd p (by decide)
  refine W.aload at_385 rfl rfl rfl ?_
  refine W.aload at_387 rfl rfl rfl ?_
  refine W.iconst at_389 own_ci_1 rfl ?_
  refine W.callS_I (B' := B2) (argsL := [_, _, _]) at_390 (hw _ (List.mem_of_getElem? (i := 7) rfl)) (hw _ (List.mem_of_getElem? (i := 8) rfl)) (hw _ (List.mem_of_getElem? (i := 9) rfl)) (hw _ (List.mem_of_getElem? (i := 10) rfl)) rfl (own_c2 l Z _ _ _ _ G 1 AG AE hG (by decide) (by decide)) own_pf2 (by decide) own_pd2 rfl rfl rfl (fun m => by first | (simp [entryFrame, mkF, argsToLocals, Value.category]; done) | rfl) rfl rfl rfl rfl rfl rfl (fun u h' hh => ?_)
  obtain ⟨rfl, rfl⟩ := hh
  refine W.ifc_eq at_393 (by decide) rfl rfl (fun p => ?_) (fun q => ?_)
  · exact absurd p (by decide)
  refine W.aload at_396 rfl rfl rfl ?_
  refine W.aload at_398 rfl rfl rfl ?_
  refine W.iconst at_400 own_ci_2 rfl ?_
  refine W.callS_I (B' := B2) (argsL := [_, _, _]) at_401 (hw _ (List.mem_of_getElem? (i := 7) rfl)) (hw _ (List.mem_of_getElem? (i := 8) rfl)) (hw _ (List.mem_of_getElem? (i := 9) rfl)) (hw _ (List.mem_of_getElem? (i := 10) rfl)) rfl (own_c2 l Z _ _ _ _ G 2 AG AE hG (by decide) (by decide)) own_pf2 (by decide) own_pd2 rfl rfl rfl (fun m => by first | (simp [entryFrame, mkF, argsToLocals, Value.category]; done) | rfl) rfl rfl rfl rfl rfl rfl (fun u h' hh => ?_)
  obtain ⟨rfl, rfl⟩ := hh
  refine W.ifc_eq at_404 (by decide) rfl rfl (fun p => ?_) (fun q => ?_)
  · exact absurd p (by decide)
  refine W.aload at_407 rfl rfl rfl ?_
  refine W.aload at_409 rfl rfl rfl ?_
  refine W.iconst at_411 own_ci_3 rfl ?_
  refine W.callS_I (B' := B2) (argsL := [_, _, _]) at_412 (hw _ (List.mem_of_getElem? (i := 7) rfl)) (hw _ (List.mem_of_getElem? (i := 8) rfl)) (hw _ (List.mem_of_getElem? (i := 9) rfl)) (hw _ (List.mem_of_getElem? (i := 10) rfl)) rfl (own_c2 l Z _ _ _ _ G 3 AG AE hG (by decide) (by decide)) own_pf2 (by decide) own_pd2 rfl rfl rfl (fun m => by first | (simp [entryFrame, mkF, argsToLocals, Value.category]; done) | rfl) rfl rfl rfl rfl rfl rfl (fun u h' hh => ?_)
  obtain ⟨rfl, rfl⟩ := hh
  refine W.ifc_eq at_415 (by decide) rfl rfl (fun p => ?_) (fun q => ?_)
  · exact absurd p (by decide)
  refine W.aload at_418 rfl rfl rfl ?_
  refine W.aload at_420 rfl rfl rfl ?_
  refine W.iconst at_422 own_ci_4 rfl ?_
  refine W.callS_I (B' := B2) (argsL := [_, _, _]) at_423 (hw _ (List.mem_of_getElem? (i := 7) rfl)) (hw _ (List.mem_of_getElem? (i := 8) rfl)) (hw _ (List.mem_of_getElem? (i := 9) rfl)) (hw _ (List.mem_of_getElem? (i := 10) rfl)) rfl (own_c2 l Z _ _ _ _ G 4 AG AE hG (by decide) (by decide)) own_pf2 (by decide) own_pd2 rfl rfl rfl (fun m => by first | (simp [entryFrame, mkF, argsToLocals, Value.category]; done) | rfl) rfl rfl rfl rfl rfl rfl (fun u h' hh => ?_)
  obtain ⟨rfl, rfl⟩ := hh
  refine W.ifc_eq at_426 (by decide) rfl rfl (fun p => ?_) (fun q => ?_)
  · exact absurd p (by decide)
  refine W.aload at_429 rfl rfl rfl ?_
  refine W.aload at_431 rfl rfl rfl ?_
  refine W.iconst at_433 own_ci_5 rfl ?_
  refine W.callS_I (B' := B2) (argsL := [_, _, _]) at_434 (hw _ (List.mem_of_getElem? (i := 7) rfl)) (hw _ (List.mem_of_getElem? (i := 8) rfl)) (hw _ (List.mem_of_getElem? (i := 9) rfl)) (hw _ (List.mem_of_getElem? (i := 10) rfl)) rfl (own_c2 l Z _ _ _ _ G 5 AG AE hG (by decide) (by decide)) own_pf2 (by decide) own_pd2 rfl rfl rfl (fun m => by first | (simp [entryFrame, mkF, argsToLocals, Value.category]; done) | rfl) rfl rfl rfl rfl rfl rfl (fun u h' hh => ?_)
  obtain ⟨rfl, rfl⟩ := hh
  refine W.ifc_eq at_437 (by decide) rfl rfl (fun p => ?_) (fun q => ?_)
  · exact absurd p (by decide)
  refine W.aload at_440 rfl rfl rfl ?_
  refine W.aload at_442 rfl rfl rfl ?_
  refine W.bipush at_444 own_cb_6 rfl ?_
  refine W.callS_I (B' := B2) (argsL := [_, _, _]) at_446 (hw _ (List.mem_of_getElem? (i := 7) rfl)) (hw _ (List.mem_of_getElem? (i := 8) rfl)) (hw _ (List.mem_of_getElem? (i := 9) rfl)) (hw _ (List.mem_of_getElem? (i := 10) rfl)) rfl (own_c2 l Z _ _ _ _ G 6 AG AE hG (by decide) (by decide)) own_pf2 (by decide) own_pd2 rfl rfl rfl (fun m => by first | (simp [entryFrame, mkF, argsToLocals, Value.category]; done) | rfl) rfl rfl rfl rfl rfl rfl (fun u h' hh => ?_)
  obtain ⟨rfl, rfl⟩ := hh
  refine W.ifc_eq at_449 (by decide) rfl rfl (fun p => ?_) (fun q => ?_)
  · exact absurd p (by decide)
  refine W.iconst at_452 own_ci_1 rfl ?_
  refine W.goto at_453 (by decide) rfl ?_
  exact W.ireturnN at_457 rfl (Or.inl rfl) rfl rfl
def own_p (i n : Int32) (b : Bool) : List Int32 := if i < n ∧ b = true then [i] else []
theorem own_t345 (l : Launch) (Z : State) (a0 : Array Value) (hw : ∀ d ∈ tables_1, d.before a0 Z = true) (h : Heap) (i0 i1 n : Int32) (b0 b1 b2 b3 b4 b5 : Bool) (ia r ea : Addr) (G : List Int32) (ao : Int32) (AG : AI Z h r .int G) (M : List Int32) (AE : AI Z h ea .int (M ++ List.replicate (7 - M.length) 0)) (hM : G = M ++ (own_p 5 n b5 ++ [])) (hl : M.length ≤ 6) (hea : Z.heap.size ≤ ea) (hre : r ≠ ea) :
    W l Z Z.heap.size room_1 B0 (fun v _ => v = some (.int 1)) h 3 20 345 [.val (.int i0), .val (.int i1), .val (.int n), .val (.int (own_bi b0)), .val (.int (own_bi b1)), .val (.int (own_bi b2)), .val (.int (own_bi b3)), .val (.int (own_bi b4)), .val (.int (own_bi b5)), .val (.ref ia), .val (.ref r), .val (.ref ea), .val (.int M.length.toInt32), .val (.int ao)] [] := by
  have n1 := nat32 (k := M.length) (by omega)
  refine W.iloadN at_345 rfl rfl ?_
  refine W.iconst at_346 own_ci_5 rfl ?_
  refine W.icmp_le at_347 (by decide) rfl rfl (fun p => ?_) (fun q => ?_)
  · have hG' : M = G := by rw [hM]; simp only [own_p]; rw [if_neg (fun c => p c.1)]; simp
    subst hG'
    exact own_t364 l Z a0 hw h i0 i1 n b0 b1 b2 b3 b4 b5 ia r ea M ao AG AE (by omega)
  refine W.iload at_350 rfl rfl ?_
  refine W.ifc_eq at_352 (by decide) rfl rfl (fun p' => ?_) (fun q' => ?_)
  · rw [own_bi0] at p'
    have hG' : M = G := by rw [hM]; simp only [own_p]; rw [if_neg (fun c => by rw [p'] at c; cases c.2)]; simp
    subst hG'
    exact own_t364 l Z a0 hw h i0 i1 n b0 b1 b2 b3 b4 b5 ia r ea M ao AG AE (by omega)
  rw [own_bi0, Bool.not_eq_false] at q'
  refine W.aload at_355 rfl rfl rfl ?_
  refine W.iload at_357 rfl rfl ?_
  refine W.iconst at_359 own_ci_5 rfl ?_
  have e7 : 7 - M.length = (7 - (M.length + 1)) + 1 := by omega
  rw [e7] at AE
  refine W.iastore at_360 AE n1.2.2.1 (by rw [n1.2.1]; simp) hea rfl (fun h' W' AE' => ?_)
  rw [n1.2.1, own_push] at AE'
  have hml : (M ++ [5]).length = M.length + 1 := by simp
  rw [← hml] at AE'
  refine W.iinc at_361 rfl own_ci_1 (Put.s (Put.s (Put.s (Put.s (Put.s (Put.s (Put.s (Put.s (Put.s (Put.s (Put.s (Put.s Put.z)))))))))))) rfl ?_
  rw [n1.2.2.2, ← hml]
  have hG' : M ++ [5] = G := by rw [hM]; simp only [own_p]; rw [if_pos ⟨q, q'⟩]; simp
  rw [hG'] at AE' ⊢
  exact own_t364 l Z a0 hw h' i0 i1 n b0 b1 b2 b3 b4 b5 ia r ea G ao (AG.other W' hre) AE' (by rw [← hG']; simp; omega)
theorem own_t326 (l : Launch) (Z : State) (a0 : Array Value) (hw : ∀ d ∈ tables_1, d.before a0 Z = true) (h : Heap) (i0 i1 n : Int32) (b0 b1 b2 b3 b4 b5 : Bool) (ia r ea : Addr) (G : List Int32) (ao : Int32) (AG : AI Z h r .int G) (M : List Int32) (AE : AI Z h ea .int (M ++ List.replicate (7 - M.length) 0)) (hM : G = M ++ (own_p 4 n b4 ++ (own_p 5 n b5 ++ []))) (hl : M.length ≤ 5) (hea : Z.heap.size ≤ ea) (hre : r ≠ ea) :
    W l Z Z.heap.size room_1 B0 (fun v _ => v = some (.int 1)) h 3 20 326 [.val (.int i0), .val (.int i1), .val (.int n), .val (.int (own_bi b0)), .val (.int (own_bi b1)), .val (.int (own_bi b2)), .val (.int (own_bi b3)), .val (.int (own_bi b4)), .val (.int (own_bi b5)), .val (.ref ia), .val (.ref r), .val (.ref ea), .val (.int M.length.toInt32), .val (.int ao)] [] := by
  have n1 := nat32 (k := M.length) (by omega)
  refine W.iloadN at_326 rfl rfl ?_
  refine W.iconst at_327 own_ci_4 rfl ?_
  refine W.icmp_le at_328 (by decide) rfl rfl (fun p => ?_) (fun q => ?_)
  · exact own_t345 l Z a0 hw h i0 i1 n b0 b1 b2 b3 b4 b5 ia r ea G ao AG M AE (by rw [hM]; simp only [own_p]; rw [if_neg (fun c => p c.1)]; rfl) (by omega) hea hre
  refine W.iload at_331 rfl rfl ?_
  refine W.ifc_eq at_333 (by decide) rfl rfl (fun p' => ?_) (fun q' => ?_)
  · rw [own_bi0] at p'
    exact own_t345 l Z a0 hw h i0 i1 n b0 b1 b2 b3 b4 b5 ia r ea G ao AG M AE (by rw [hM]; simp only [own_p]; rw [if_neg (fun c => by rw [p'] at c; cases c.2)]; rfl) (by omega) hea hre
  rw [own_bi0, Bool.not_eq_false] at q'
  refine W.aload at_336 rfl rfl rfl ?_
  refine W.iload at_338 rfl rfl ?_
  refine W.iconst at_340 own_ci_4 rfl ?_
  have e7 : 7 - M.length = (7 - (M.length + 1)) + 1 := by omega
  rw [e7] at AE
  refine W.iastore at_341 AE n1.2.2.1 (by rw [n1.2.1]; simp) hea rfl (fun h' W' AE' => ?_)
  rw [n1.2.1, own_push] at AE'
  have hml : (M ++ [4]).length = M.length + 1 := by simp
  rw [← hml] at AE'
  refine W.iinc at_342 rfl own_ci_1 (Put.s (Put.s (Put.s (Put.s (Put.s (Put.s (Put.s (Put.s (Put.s (Put.s (Put.s (Put.s Put.z)))))))))))) rfl ?_
  rw [n1.2.2.2, ← hml]
  exact own_t345 l Z a0 hw h' i0 i1 n b0 b1 b2 b3 b4 b5 ia r ea G ao (AG.other W' hre) _ AE' (by rw [hM]; simp only [own_p]; rw [if_pos ⟨q, q'⟩]; simp) (by omega) hea hre
theorem own_t307 (l : Launch) (Z : State) (a0 : Array Value) (hw : ∀ d ∈ tables_1, d.before a0 Z = true) (h : Heap) (i0 i1 n : Int32) (b0 b1 b2 b3 b4 b5 : Bool) (ia r ea : Addr) (G : List Int32) (ao : Int32) (AG : AI Z h r .int G) (M : List Int32) (AE : AI Z h ea .int (M ++ List.replicate (7 - M.length) 0)) (hM : G = M ++ (own_p 3 n b3 ++ (own_p 4 n b4 ++ (own_p 5 n b5 ++ [])))) (hl : M.length ≤ 4) (hea : Z.heap.size ≤ ea) (hre : r ≠ ea) :
    W l Z Z.heap.size room_1 B0 (fun v _ => v = some (.int 1)) h 3 20 307 [.val (.int i0), .val (.int i1), .val (.int n), .val (.int (own_bi b0)), .val (.int (own_bi b1)), .val (.int (own_bi b2)), .val (.int (own_bi b3)), .val (.int (own_bi b4)), .val (.int (own_bi b5)), .val (.ref ia), .val (.ref r), .val (.ref ea), .val (.int M.length.toInt32), .val (.int ao)] [] := by
  have n1 := nat32 (k := M.length) (by omega)
  refine W.iloadN at_307 rfl rfl ?_
  refine W.iconst at_308 own_ci_3 rfl ?_
  refine W.icmp_le at_309 (by decide) rfl rfl (fun p => ?_) (fun q => ?_)
  · exact own_t326 l Z a0 hw h i0 i1 n b0 b1 b2 b3 b4 b5 ia r ea G ao AG M AE (by rw [hM]; simp only [own_p]; rw [if_neg (fun c => p c.1)]; rfl) (by omega) hea hre
  refine W.iload at_312 rfl rfl ?_
  refine W.ifc_eq at_314 (by decide) rfl rfl (fun p' => ?_) (fun q' => ?_)
  · rw [own_bi0] at p'
    exact own_t326 l Z a0 hw h i0 i1 n b0 b1 b2 b3 b4 b5 ia r ea G ao AG M AE (by rw [hM]; simp only [own_p]; rw [if_neg (fun c => by rw [p'] at c; cases c.2)]; rfl) (by omega) hea hre
  rw [own_bi0, Bool.not_eq_false] at q'
  refine W.aload at_317 rfl rfl rfl ?_
  refine W.iload at_319 rfl rfl ?_
  refine W.iconst at_321 own_ci_3 rfl ?_
  have e7 : 7 - M.length = (7 - (M.length + 1)) + 1 := by omega
  rw [e7] at AE
  refine W.iastore at_322 AE n1.2.2.1 (by rw [n1.2.1]; simp) hea rfl (fun h' W' AE' => ?_)
  rw [n1.2.1, own_push] at AE'
  have hml : (M ++ [3]).length = M.length + 1 := by simp
  rw [← hml] at AE'
  refine W.iinc at_323 rfl own_ci_1 (Put.s (Put.s (Put.s (Put.s (Put.s (Put.s (Put.s (Put.s (Put.s (Put.s (Put.s (Put.s Put.z)))))))))))) rfl ?_
  rw [n1.2.2.2, ← hml]
  exact own_t326 l Z a0 hw h' i0 i1 n b0 b1 b2 b3 b4 b5 ia r ea G ao (AG.other W' hre) _ AE' (by rw [hM]; simp only [own_p]; rw [if_pos ⟨q, q'⟩]; simp) (by omega) hea hre
theorem own_t288 (l : Launch) (Z : State) (a0 : Array Value) (hw : ∀ d ∈ tables_1, d.before a0 Z = true) (h : Heap) (i0 i1 n : Int32) (b0 b1 b2 b3 b4 b5 : Bool) (ia r ea : Addr) (G : List Int32) (ao : Int32) (AG : AI Z h r .int G) (M : List Int32) (AE : AI Z h ea .int (M ++ List.replicate (7 - M.length) 0)) (hM : G = M ++ (own_p 2 n b2 ++ (own_p 3 n b3 ++ (own_p 4 n b4 ++ (own_p 5 n b5 ++ []))))) (hl : M.length ≤ 3) (hea : Z.heap.size ≤ ea) (hre : r ≠ ea) :
    W l Z Z.heap.size room_1 B0 (fun v _ => v = some (.int 1)) h 3 20 288 [.val (.int i0), .val (.int i1), .val (.int n), .val (.int (own_bi b0)), .val (.int (own_bi b1)), .val (.int (own_bi b2)), .val (.int (own_bi b3)), .val (.int (own_bi b4)), .val (.int (own_bi b5)), .val (.ref ia), .val (.ref r), .val (.ref ea), .val (.int M.length.toInt32), .val (.int ao)] [] := by
  have n1 := nat32 (k := M.length) (by omega)
  refine W.iloadN at_288 rfl rfl ?_
  refine W.iconst at_289 own_ci_2 rfl ?_
  refine W.icmp_le at_290 (by decide) rfl rfl (fun p => ?_) (fun q => ?_)
  · exact own_t307 l Z a0 hw h i0 i1 n b0 b1 b2 b3 b4 b5 ia r ea G ao AG M AE (by rw [hM]; simp only [own_p]; rw [if_neg (fun c => p c.1)]; rfl) (by omega) hea hre
  refine W.iload at_293 rfl rfl ?_
  refine W.ifc_eq at_295 (by decide) rfl rfl (fun p' => ?_) (fun q' => ?_)
  · rw [own_bi0] at p'
    exact own_t307 l Z a0 hw h i0 i1 n b0 b1 b2 b3 b4 b5 ia r ea G ao AG M AE (by rw [hM]; simp only [own_p]; rw [if_neg (fun c => by rw [p'] at c; cases c.2)]; rfl) (by omega) hea hre
  rw [own_bi0, Bool.not_eq_false] at q'
  refine W.aload at_298 rfl rfl rfl ?_
  refine W.iload at_300 rfl rfl ?_
  refine W.iconst at_302 own_ci_2 rfl ?_
  have e7 : 7 - M.length = (7 - (M.length + 1)) + 1 := by omega
  rw [e7] at AE
  refine W.iastore at_303 AE n1.2.2.1 (by rw [n1.2.1]; simp) hea rfl (fun h' W' AE' => ?_)
  rw [n1.2.1, own_push] at AE'
  have hml : (M ++ [2]).length = M.length + 1 := by simp
  rw [← hml] at AE'
  refine W.iinc at_304 rfl own_ci_1 (Put.s (Put.s (Put.s (Put.s (Put.s (Put.s (Put.s (Put.s (Put.s (Put.s (Put.s (Put.s Put.z)))))))))))) rfl ?_
  rw [n1.2.2.2, ← hml]
  exact own_t307 l Z a0 hw h' i0 i1 n b0 b1 b2 b3 b4 b5 ia r ea G ao (AG.other W' hre) _ AE' (by rw [hM]; simp only [own_p]; rw [if_pos ⟨q, q'⟩]; simp) (by omega) hea hre
theorem own_t269 (l : Launch) (Z : State) (a0 : Array Value) (hw : ∀ d ∈ tables_1, d.before a0 Z = true) (h : Heap) (i0 i1 n : Int32) (b0 b1 b2 b3 b4 b5 : Bool) (ia r ea : Addr) (G : List Int32) (ao : Int32) (AG : AI Z h r .int G) (M : List Int32) (AE : AI Z h ea .int (M ++ List.replicate (7 - M.length) 0)) (hM : G = M ++ (own_p 1 n b1 ++ (own_p 2 n b2 ++ (own_p 3 n b3 ++ (own_p 4 n b4 ++ (own_p 5 n b5 ++ [])))))) (hl : M.length ≤ 2) (hea : Z.heap.size ≤ ea) (hre : r ≠ ea) :
    W l Z Z.heap.size room_1 B0 (fun v _ => v = some (.int 1)) h 3 20 269 [.val (.int i0), .val (.int i1), .val (.int n), .val (.int (own_bi b0)), .val (.int (own_bi b1)), .val (.int (own_bi b2)), .val (.int (own_bi b3)), .val (.int (own_bi b4)), .val (.int (own_bi b5)), .val (.ref ia), .val (.ref r), .val (.ref ea), .val (.int M.length.toInt32), .val (.int ao)] [] := by
  have n1 := nat32 (k := M.length) (by omega)
  refine W.iloadN at_269 rfl rfl ?_
  refine W.iconst at_270 own_ci_1 rfl ?_
  refine W.icmp_le at_271 (by decide) rfl rfl (fun p => ?_) (fun q => ?_)
  · exact own_t288 l Z a0 hw h i0 i1 n b0 b1 b2 b3 b4 b5 ia r ea G ao AG M AE (by rw [hM]; simp only [own_p]; rw [if_neg (fun c => p c.1)]; rfl) (by omega) hea hre
  refine W.iload at_274 rfl rfl ?_
  refine W.ifc_eq at_276 (by decide) rfl rfl (fun p' => ?_) (fun q' => ?_)
  · rw [own_bi0] at p'
    exact own_t288 l Z a0 hw h i0 i1 n b0 b1 b2 b3 b4 b5 ia r ea G ao AG M AE (by rw [hM]; simp only [own_p]; rw [if_neg (fun c => by rw [p'] at c; cases c.2)]; rfl) (by omega) hea hre
  rw [own_bi0, Bool.not_eq_false] at q'
  refine W.aload at_279 rfl rfl rfl ?_
  refine W.iload at_281 rfl rfl ?_
  refine W.iconst at_283 own_ci_1 rfl ?_
  have e7 : 7 - M.length = (7 - (M.length + 1)) + 1 := by omega
  rw [e7] at AE
  refine W.iastore at_284 AE n1.2.2.1 (by rw [n1.2.1]; simp) hea rfl (fun h' W' AE' => ?_)
  rw [n1.2.1, own_push] at AE'
  have hml : (M ++ [1]).length = M.length + 1 := by simp
  rw [← hml] at AE'
  refine W.iinc at_285 rfl own_ci_1 (Put.s (Put.s (Put.s (Put.s (Put.s (Put.s (Put.s (Put.s (Put.s (Put.s (Put.s (Put.s Put.z)))))))))))) rfl ?_
  rw [n1.2.2.2, ← hml]
  exact own_t288 l Z a0 hw h' i0 i1 n b0 b1 b2 b3 b4 b5 ia r ea G ao (AG.other W' hre) _ AE' (by rw [hM]; simp only [own_p]; rw [if_pos ⟨q, q'⟩]; simp) (by omega) hea hre
theorem own_t252 (l : Launch) (Z : State) (a0 : Array Value) (hw : ∀ d ∈ tables_1, d.before a0 Z = true) (h : Heap) (i0 i1 n : Int32) (b0 b1 b2 b3 b4 b5 : Bool) (ia r ea : Addr) (G : List Int32) (ao : Int32) (AG : AI Z h r .int G) (M : List Int32) (AE : AI Z h ea .int (M ++ List.replicate (7 - M.length) 0)) (hM : G = M ++ (own_p 0 n b0 ++ (own_p 1 n b1 ++ (own_p 2 n b2 ++ (own_p 3 n b3 ++ (own_p 4 n b4 ++ (own_p 5 n b5 ++ []))))))) (hl : M.length ≤ 1) (hea : Z.heap.size ≤ ea) (hre : r ≠ ea) :
    W l Z Z.heap.size room_1 B0 (fun v _ => v = some (.int 1)) h 3 20 252 [.val (.int i0), .val (.int i1), .val (.int n), .val (.int (own_bi b0)), .val (.int (own_bi b1)), .val (.int (own_bi b2)), .val (.int (own_bi b3)), .val (.int (own_bi b4)), .val (.int (own_bi b5)), .val (.ref ia), .val (.ref r), .val (.ref ea), .val (.int M.length.toInt32), .val (.int ao)] [] := by
  have n1 := nat32 (k := M.length) (by omega)
  refine W.iloadN at_252 rfl rfl ?_
  refine W.ifc_le at_253 (by decide) rfl rfl (fun p => ?_) (fun q => ?_)
  · exact own_t269 l Z a0 hw h i0 i1 n b0 b1 b2 b3 b4 b5 ia r ea G ao AG M AE (by rw [hM]; simp only [own_p]; rw [if_neg (fun c => p c.1)]; rfl) (by omega) hea hre
  refine W.iloadN at_256 rfl rfl ?_
  refine W.ifc_eq at_257 (by decide) rfl rfl (fun p' => ?_) (fun q' => ?_)
  · rw [own_bi0] at p'
    exact own_t269 l Z a0 hw h i0 i1 n b0 b1 b2 b3 b4 b5 ia r ea G ao AG M AE (by rw [hM]; simp only [own_p]; rw [if_neg (fun c => by rw [p'] at c; cases c.2)]; rfl) (by omega) hea hre
  rw [own_bi0, Bool.not_eq_false] at q'
  refine W.aload at_260 rfl rfl rfl ?_
  refine W.iload at_262 rfl rfl ?_
  refine W.iconst at_264 own_ci_0 rfl ?_
  have e7 : 7 - M.length = (7 - (M.length + 1)) + 1 := by omega
  rw [e7] at AE
  refine W.iastore at_265 AE n1.2.2.1 (by rw [n1.2.1]; simp) hea rfl (fun h' W' AE' => ?_)
  rw [n1.2.1, own_push] at AE'
  have hml : (M ++ [0]).length = M.length + 1 := by simp
  rw [← hml] at AE'
  refine W.iinc at_266 rfl own_ci_1 (Put.s (Put.s (Put.s (Put.s (Put.s (Put.s (Put.s (Put.s (Put.s (Put.s (Put.s (Put.s Put.z)))))))))))) rfl ?_
  rw [n1.2.2.2, ← hml]
  exact own_t269 l Z a0 hw h' i0 i1 n b0 b1 b2 b3 b4 b5 ia r ea G ao (AG.other W' hre) _ AE' (by rw [hM]; simp only [own_p]; rw [if_pos ⟨q, q'⟩]; simp) (by omega) hea hre
def own_any (n : Int32) (b0 b1 b2 b3 b4 b5 : Bool) : Bool := decide (0 < n ∧ b0 = false) || (decide (1 < n ∧ b1 = false) || (decide (2 < n ∧ b2 = false) || (decide (3 < n ∧ b3 = false) || (decide (4 < n ∧ b4 = false) || decide (5 < n ∧ b5 = false)))))
theorem own_t236 (l : Launch) (Z : State) (a0 : Array Value) (hw : ∀ d ∈ tables_1, d.before a0 Z = true) (h : Heap) (i0 i1 n : Int32) (b0 b1 b2 b3 b4 b5 : Bool) (ia r ea : Addr) (G : List Int32) (an : Bool) (AG : AI Z h r .int G) (AE : AI Z h ea .int [0, 0, 0, 0, 0, 0, 0]) (hM : G = (if an = true then [-1] else []) ++ (own_p 0 n b0 ++ (own_p 1 n b1 ++ (own_p 2 n b2 ++ (own_p 3 n b3 ++ (own_p 4 n b4 ++ (own_p 5 n b5 ++ []))))))) (hea : Z.heap.size ≤ ea) (hre : r ≠ ea) :
    W l Z Z.heap.size room_1 B0 (fun v _ => v = some (.int 1)) h 3 20 236 [.val (.int i0), .val (.int i1), .val (.int n), .val (.int (own_bi b0)), .val (.int (own_bi b1)), .val (.int (own_bi b2)), .val (.int (own_bi b3)), .val (.int (own_bi b4)), .val (.int (own_bi b5)), .val (.ref ia), .val (.ref r), .val (.ref ea), .val (.int 0), .unset] [.int (own_bi an)] := by
  refine W.istore at_236 (Put.s (Put.s (Put.s (Put.s (Put.s (Put.s (Put.s (Put.s (Put.s (Put.s (Put.s (Put.s (Put.s Put.z))))))))))))) rfl rfl rfl ?_
  refine W.iload at_238 rfl rfl ?_
  refine W.ifc_eq at_240 (by decide) rfl rfl (fun p => ?_) (fun q => ?_)
  · rw [own_bi0] at p
    subst p
    exact own_t252 l Z a0 hw h i0 i1 n b0 b1 b2 b3 b4 b5 ia r ea G _ AG [] AE hM (by decide) hea hre
  rw [own_bi0, Bool.not_eq_false] at q
  subst q
  refine W.aload at_243 rfl rfl rfl ?_
  refine W.iload at_245 rfl rfl ?_
  refine W.iconst at_247 own_ci_m1 rfl ?_
  refine W.iastore at_248 AE (by decide) (ltb rfl) hea rfl (fun h' W' AE' => ?_)
  have AE' : AI Z h' ea .int ([-1] ++ List.replicate (7 - 1) 0) := AE'
  refine W.iinc at_249 rfl own_ci_1 (Put.s (Put.s (Put.s (Put.s (Put.s (Put.s (Put.s (Put.s (Put.s (Put.s (Put.s (Put.s Put.z)))))))))))) rfl ?_
  exact own_t252 l Z a0 hw h' i0 i1 n b0 b1 b2 b3 b4 b5 ia r ea G _ (AG.other W' hre) [-1] AE' hM (by decide) hea hre
theorem own_t173 (l : Launch) (Z : State) (a0 : Array Value) (hw : ∀ d ∈ tables_1, d.before a0 Z = true) (h : Heap) (i0 i1 n : Int32) (b0 b1 b2 b3 b4 b5 : Bool) (ia r ea : Addr) (G : List Int32) (AG : AI Z h r .int G) (AE : AI Z h ea .int [0, 0, 0, 0, 0, 0, 0]) (hM : G = (if own_any n b0 b1 b2 b3 b4 b5 = true then [-1] else []) ++ (own_p 0 n b0 ++ (own_p 1 n b1 ++ (own_p 2 n b2 ++ (own_p 3 n b3 ++ (own_p 4 n b4 ++ (own_p 5 n b5 ++ []))))))) (hea : Z.heap.size ≤ ea) (hre : r ≠ ea) :
    W l Z Z.heap.size room_1 B0 (fun v _ => v = some (.int 1)) h 3 20 173 [.val (.int i0), .val (.int i1), .val (.int n), .val (.int (own_bi b0)), .val (.int (own_bi b1)), .val (.int (own_bi b2)), .val (.int (own_bi b3)), .val (.int (own_bi b4)), .val (.int (own_bi b5)), .val (.ref ia), .val (.ref r), .val (.ref ea), .val (.int 0), .unset] [] := by
  have Y : own_any n b0 b1 b2 b3 b4 b5 = true → W l Z Z.heap.size room_1 B0 (fun v _ => v = some (.int 1)) h 3 20 231 [.val (.int i0), .val (.int i1), .val (.int n), .val (.int (own_bi b0)), .val (.int (own_bi b1)), .val (.int (own_bi b2)), .val (.int (own_bi b3)), .val (.int (own_bi b4)), .val (.int (own_bi b5)), .val (.ref ia), .val (.ref r), .val (.ref ea), .val (.int 0), .unset] [] := by
    intro e
    rw [e] at hM
    refine W.iconst at_231 own_ci_1 rfl ?_
    refine W.goto at_232 (by decide) rfl ?_
    exact own_t236 l Z a0 hw h i0 i1 n b0 b1 b2 b3 b4 b5 ia r ea G true AG AE hM hea hre
  have N : own_any n b0 b1 b2 b3 b4 b5 = false → W l Z Z.heap.size room_1 B0 (fun v _ => v = some (.int 1)) h 3 20 235 [.val (.int i0), .val (.int i1), .val (.int n), .val (.int (own_bi b0)), .val (.int (own_bi b1)), .val (.int (own_bi b2)), .val (.int (own_bi b3)), .val (.int (own_bi b4)), .val (.int (own_bi b5)), .val (.ref ia), .val (.ref r), .val (.ref ea), .val (.int 0), .unset] [] := by
    intro e
    rw [e] at hM
    refine W.iconst at_235 own_ci_0 rfl ?_
    exact own_t236 l Z a0 hw h i0 i1 n b0 b1 b2 b3 b4 b5 ia r ea G false AG AE hM hea hre
  have S5 : ¬ (0 < n ∧ b0 = false) → ¬ (1 < n ∧ b1 = false) → ¬ (2 < n ∧ b2 = false) → ¬ (3 < n ∧ b3 = false) → ¬ (4 < n ∧ b4 = false) → W l Z Z.heap.size room_1 B0 (fun v _ => v = some (.int 1)) h 3 20 221 [.val (.int i0), .val (.int i1), .val (.int n), .val (.int (own_bi b0)), .val (.int (own_bi b1)), .val (.int (own_bi b2)), .val (.int (own_bi b3)), .val (.int (own_bi b4)), .val (.int (own_bi b5)), .val (.ref ia), .val (.ref r), .val (.ref ea), .val (.int 0), .unset] [] := by
    intro f0 f1 f2 f3 f4
    refine W.iloadN at_221 rfl rfl ?_
    refine W.iconst at_222 own_ci_5 rfl ?_
    refine W.icmp_le at_223 (by decide) rfl rfl (fun p => ?_) (fun q => ?_)
    · exact N (by simp only [own_any, f0, f1, f2, f3, f4, p]; simp)
    refine W.iload at_226 rfl rfl ?_
    refine W.ifc_ne at_228 (by decide) rfl rfl (fun p' => ?_) (fun q' => ?_)
    · rw [own_bi0] at p'
      exact N (by simp only [own_any, f0, f1, f2, f3, f4, p']; simp)
    · rw [own_bi0] at q'
      exact Y (by simp only [own_any, q, q']; simp)
  have S4 : ¬ (0 < n ∧ b0 = false) → ¬ (1 < n ∧ b1 = false) → ¬ (2 < n ∧ b2 = false) → ¬ (3 < n ∧ b3 = false) → W l Z Z.heap.size room_1 B0 (fun v _ => v = some (.int 1)) h 3 20 211 [.val (.int i0), .val (.int i1), .val (.int n), .val (.int (own_bi b0)), .val (.int (own_bi b1)), .val (.int (own_bi b2)), .val (.int (own_bi b3)), .val (.int (own_bi b4)), .val (.int (own_bi b5)), .val (.ref ia), .val (.ref r), .val (.ref ea), .val (.int 0), .unset] [] := by
    intro f0 f1 f2 f3
    refine W.iloadN at_211 rfl rfl ?_
    refine W.iconst at_212 own_ci_4 rfl ?_
    refine W.icmp_le at_213 (by decide) rfl rfl (fun p => ?_) (fun q => ?_)
    · exact S5 f0 f1 f2 f3 (fun c => p c.1)
    refine W.iload at_216 rfl rfl ?_
    refine W.ifc_eq at_218 (by decide) rfl rfl (fun p' => ?_) (fun q' => ?_)
    · rw [own_bi0] at p'
      exact Y (by simp only [own_any, p', q]; simp)
    · rw [own_bi0] at q'
      exact S5 f0 f1 f2 f3 (fun c => q' c.2)
  have S3 : ¬ (0 < n ∧ b0 = false) → ¬ (1 < n ∧ b1 = false) → ¬ (2 < n ∧ b2 = false) → W l Z Z.heap.size room_1 B0 (fun v _ => v = some (.int 1)) h 3 20 201 [.val (.int i0), .val (.int i1), .val (.int n), .val (.int (own_bi b0)), .val (.int (own_bi b1)), .val (.int (own_bi b2)), .val (.int (own_bi b3)), .val (.int (own_bi b4)), .val (.int (own_bi b5)), .val (.ref ia), .val (.ref r), .val (.ref ea), .val (.int 0), .unset] [] := by
    intro f0 f1 f2
    refine W.iloadN at_201 rfl rfl ?_
    refine W.iconst at_202 own_ci_3 rfl ?_
    refine W.icmp_le at_203 (by decide) rfl rfl (fun p => ?_) (fun q => ?_)
    · exact S4 f0 f1 f2 (fun c => p c.1)
    refine W.iload at_206 rfl rfl ?_
    refine W.ifc_eq at_208 (by decide) rfl rfl (fun p' => ?_) (fun q' => ?_)
    · rw [own_bi0] at p'
      exact Y (by simp only [own_any, p', q]; simp)
    · rw [own_bi0] at q'
      exact S4 f0 f1 f2 (fun c => q' c.2)
  have S2 : ¬ (0 < n ∧ b0 = false) → ¬ (1 < n ∧ b1 = false) → W l Z Z.heap.size room_1 B0 (fun v _ => v = some (.int 1)) h 3 20 191 [.val (.int i0), .val (.int i1), .val (.int n), .val (.int (own_bi b0)), .val (.int (own_bi b1)), .val (.int (own_bi b2)), .val (.int (own_bi b3)), .val (.int (own_bi b4)), .val (.int (own_bi b5)), .val (.ref ia), .val (.ref r), .val (.ref ea), .val (.int 0), .unset] [] := by
    intro f0 f1
    refine W.iloadN at_191 rfl rfl ?_
    refine W.iconst at_192 own_ci_2 rfl ?_
    refine W.icmp_le at_193 (by decide) rfl rfl (fun p => ?_) (fun q => ?_)
    · exact S3 f0 f1 (fun c => p c.1)
    refine W.iload at_196 rfl rfl ?_
    refine W.ifc_eq at_198 (by decide) rfl rfl (fun p' => ?_) (fun q' => ?_)
    · rw [own_bi0] at p'
      exact Y (by simp only [own_any, p', q]; simp)
    · rw [own_bi0] at q'
      exact S3 f0 f1 (fun c => q' c.2)
  have S1 : ¬ (0 < n ∧ b0 = false) → W l Z Z.heap.size room_1 B0 (fun v _ => v = some (.int 1)) h 3 20 181 [.val (.int i0), .val (.int i1), .val (.int n), .val (.int (own_bi b0)), .val (.int (own_bi b1)), .val (.int (own_bi b2)), .val (.int (own_bi b3)), .val (.int (own_bi b4)), .val (.int (own_bi b5)), .val (.ref ia), .val (.ref r), .val (.ref ea), .val (.int 0), .unset] [] := by
    intro f0
    refine W.iloadN at_181 rfl rfl ?_
    refine W.iconst at_182 own_ci_1 rfl ?_
    refine W.icmp_le at_183 (by decide) rfl rfl (fun p => ?_) (fun q => ?_)
    · exact S2 f0 (fun c => p c.1)
    refine W.iload at_186 rfl rfl ?_
    refine W.ifc_eq at_188 (by decide) rfl rfl (fun p' => ?_) (fun q' => ?_)
    · rw [own_bi0] at p'
      exact Y (by simp only [own_any, p', q]; simp)
    · rw [own_bi0] at q'
      exact S2 f0 (fun c => q' c.2)
  have S0 : W l Z Z.heap.size room_1 B0 (fun v _ => v = some (.int 1)) h 3 20 173 [.val (.int i0), .val (.int i1), .val (.int n), .val (.int (own_bi b0)), .val (.int (own_bi b1)), .val (.int (own_bi b2)), .val (.int (own_bi b3)), .val (.int (own_bi b4)), .val (.int (own_bi b5)), .val (.ref ia), .val (.ref r), .val (.ref ea), .val (.int 0), .unset] [] := by
    refine W.iloadN at_173 rfl rfl ?_
    refine W.ifc_le at_174 (by decide) rfl rfl (fun p => ?_) (fun q => ?_)
    · exact S1  (fun c => p c.1)
    refine W.iloadN at_177 rfl rfl ?_
    refine W.ifc_eq at_178 (by decide) rfl rfl (fun p' => ?_) (fun q' => ?_)
    · rw [own_bi0] at p'
      exact Y (by simp only [own_any, p', q]; simp)
    · rw [own_bi0] at q'
      exact S1  (fun c => q' c.2)
  exact S0
theorem own_pure : ∀ (n : Fin 7) (b0 b1 b2 b3 b4 b5 : Bool), own_places (([b0, b1, b2, b3, b4, b5].map own_bi).take n.val) = (if own_any n.val.toInt32 b0 b1 b2 b3 b4 b5 = true then [-1] else []) ++ (own_p 0 n.val.toInt32 b0 ++ (own_p 1 n.val.toInt32 b1 ++ (own_p 2 n.val.toInt32 b2 ++ (own_p 3 n.val.toInt32 b3 ++ (own_p 4 n.val.toInt32 b4 ++ (own_p 5 n.val.toInt32 b5 ++ [])))))) := by decide +kernel
theorem own_t157 (l : Launch) (Z : State) (a0 : Array Value) (hw : ∀ d ∈ tables_1, d.before a0 Z = true) (h : Heap) (i0 i1 n : Int32) (b0 b1 b2 b3 b4 b5 : Bool) (k : Fin 7) (hk : n = k.val.toInt32) (A : AI Z h Z.heap.size .boolean (([b0, b1, b2, b3, b4, b5].map own_bi).take k.val)) :
    W l Z Z.heap.size room_1 B0 (fun v _ => v = some (.int 1)) h 1 6 157 [.val (.int i0), .val (.int i1), .val (.int n), .val (.int (own_bi b0)), .val (.int (own_bi b1)), .val (.int (own_bi b2)), .val (.int (own_bi b3)), .val (.int (own_bi b4)), .val (.int (own_bi b5)), .val (.ref Z.heap.size), .unset, .unset, .unset, .unset] [] := by
  refine W.aload at_157 rfl rfl rfl ?_
  refine W.callS_A (B' := B1) (argsL := [_]) at_159 (hw _ (List.mem_of_getElem? (i := 2) rfl)) (hw _ (List.mem_of_getElem? (i := 3) rfl)) (hw _ (List.mem_of_getElem? (i := 4) rfl)) (hw _ (List.mem_of_getElem? (i := 5) rfl)) rfl (own_c1 l Z a0 hw _ _ _ _ A (Nat.le_of_lt A.lt) (by simp; omega)) own_pf1 (by decide) own_pd1 rfl rfl rfl (fun m => by first | (simp [entryFrame, mkF, argsToLocals, Value.category]; done) | rfl) rfl rfl rfl rfl rfl rfl (fun u h1 hh => ?_)
  obtain ⟨r, rfl, AG, hr⟩ := hh
  refine W.astore at_162 rfl (Put.s (Put.s (Put.s (Put.s (Put.s (Put.s (Put.s (Put.s (Put.s (Put.s Put.z)))))))))) rfl rfl rfl ?_
  refine W.bipush at_164 own_cb_7 rfl ?_
  refine W.newarrayI (ty := .int) (cap := 7) at_166 rfl rfl (hw _ (List.mem_of_getElem? (i := 6) rfl)) (by decide) (by decide) (by decide) (by decide) (by decide) rfl (fun h2 E2 AE => ?_)
  have AE : AI Z h2 h1.size .int [0, 0, 0, 0, 0, 0, 0] := AE
  refine W.astore at_168 rfl (Put.s (Put.s (Put.s (Put.s (Put.s (Put.s (Put.s (Put.s (Put.s (Put.s (Put.s Put.z))))))))))) rfl rfl rfl ?_
  refine W.iconst at_170 own_ci_0 rfl ?_
  refine W.istore at_171 (Put.s (Put.s (Put.s (Put.s (Put.s (Put.s (Put.s (Put.s (Put.s (Put.s (Put.s (Put.s Put.z)))))))))))) rfl rfl rfl ?_
  subst hk
  exact own_t173 l Z a0 hw h2 i0 i1 _ b0 b1 b2 b3 b4 b5 _ r h1.size _ (AG.ext E2) AE (own_pure k b0 b1 b2 b3 b4 b5) (Nat.le_trans hr (Nat.le_of_lt AG.lt)) (Nat.ne_of_lt AG.lt)
theorem own_n0 (l : Launch) (Z : State) (a0 : Array Value) (hw : ∀ d ∈ tables_1, d.before a0 Z = true) (i0 i1 : Int32) (b0 b1 b2 b3 b4 b5 : Bool) : W l Z Z.heap.size room_1 B0 (fun v _ => v = some (.int 1)) Z.heap 0 0 88 [.val (.int i0), .val (.int i1), .val (.int 0), .val (.int (own_bi b0)), .val (.int (own_bi b1)), .val (.int (own_bi b2)), .val (.int (own_bi b3)), .val (.int (own_bi b4)), .val (.int (own_bi b5)), .unset, .unset, .unset, .unset, .unset] [] := by
  have hz : ∀ b : Bool, own_bi b &&& 1 = own_bi b := by intro b; cases b <;> decide
  refine W.iloadN at_88 rfl rfl ?_
  refine W.newarrayI (ty := .boolean) (cap := 6) at_89 rfl rfl (hw _ (List.mem_of_getElem? (i := 1) rfl)) (by decide) (by decide) (by decide) (by decide) (by decide) rfl (fun h0 E0 A0 => ?_)
  have A0 : AI Z h0 Z.heap.size .boolean [] := A0
  refine W.astore at_91 rfl (Put.s (Put.s (Put.s (Put.s (Put.s (Put.s (Put.s (Put.s (Put.s Put.z))))))))) rfl rfl rfl ?_
  refine W.iloadN at_93 rfl rfl ?_
  refine W.ifc_le at_94 (by decide) rfl rfl (fun p => ?_) (fun q => ?_)
  rotate_left
  · exact absurd q (by decide)
  refine W.iloadN at_102 rfl rfl ?_
  refine W.iconst at_103 own_ci_1 rfl ?_
  refine W.icmp_le at_104 (by decide) rfl rfl (fun p => ?_) (fun q => ?_)
  rotate_left
  · exact absurd q (by decide)
  refine W.iloadN at_113 rfl rfl ?_
  refine W.iconst at_114 own_ci_2 rfl ?_
  refine W.icmp_le at_115 (by decide) rfl rfl (fun p => ?_) (fun q => ?_)
  rotate_left
  · exact absurd q (by decide)
  refine W.iloadN at_124 rfl rfl ?_
  refine W.iconst at_125 own_ci_3 rfl ?_
  refine W.icmp_le at_126 (by decide) rfl rfl (fun p => ?_) (fun q => ?_)
  rotate_left
  · exact absurd q (by decide)
  refine W.iloadN at_135 rfl rfl ?_
  refine W.iconst at_136 own_ci_4 rfl ?_
  refine W.icmp_le at_137 (by decide) rfl rfl (fun p => ?_) (fun q => ?_)
  rotate_left
  · exact absurd q (by decide)
  refine W.iloadN at_146 rfl rfl ?_
  refine W.iconst at_147 own_ci_5 rfl ?_
  refine W.icmp_le at_148 (by decide) rfl rfl (fun p => ?_) (fun q => ?_)
  rotate_left
  · exact absurd q (by decide)
  exact own_t157 l Z a0 hw _ i0 i1 _ b0 b1 b2 b3 b4 b5 ⟨0, by decide⟩ (by decide) A0
theorem own_n1 (l : Launch) (Z : State) (a0 : Array Value) (hw : ∀ d ∈ tables_1, d.before a0 Z = true) (i0 i1 : Int32) (b0 b1 b2 b3 b4 b5 : Bool) : W l Z Z.heap.size room_1 B0 (fun v _ => v = some (.int 1)) Z.heap 0 0 88 [.val (.int i0), .val (.int i1), .val (.int 1), .val (.int (own_bi b0)), .val (.int (own_bi b1)), .val (.int (own_bi b2)), .val (.int (own_bi b3)), .val (.int (own_bi b4)), .val (.int (own_bi b5)), .unset, .unset, .unset, .unset, .unset] [] := by
  have hz : ∀ b : Bool, own_bi b &&& 1 = own_bi b := by intro b; cases b <;> decide
  refine W.iloadN at_88 rfl rfl ?_
  refine W.newarrayI (ty := .boolean) (cap := 6) at_89 rfl rfl (hw _ (List.mem_of_getElem? (i := 1) rfl)) (by decide) (by decide) (by decide) (by decide) (by decide) rfl (fun h0 E0 A0 => ?_)
  have A0 : AI Z h0 Z.heap.size .boolean [0] := A0
  refine W.astore at_91 rfl (Put.s (Put.s (Put.s (Put.s (Put.s (Put.s (Put.s (Put.s (Put.s Put.z))))))))) rfl rfl rfl ?_
  refine W.iloadN at_93 rfl rfl ?_
  refine W.ifc_le at_94 (by decide) rfl rfl (fun p => ?_) (fun q => ?_)
  · exact absurd (by decide) p
  refine W.aload at_97 rfl rfl rfl ?_
  refine W.iconst at_99 own_ci_0 rfl ?_
  refine W.iloadN at_100 rfl rfl ?_
  refine W.bastoreZ at_101 A0 (by decide) (ltb rfl) (hz b0) (Nat.le_refl _) rfl (fun h1 W1 A0 => ?_)
  have A0 : AI Z h1 Z.heap.size .boolean [own_bi b0] := A0
  refine W.iloadN at_102 rfl rfl ?_
  refine W.iconst at_103 own_ci_1 rfl ?_
  refine W.icmp_le at_104 (by decide) rfl rfl (fun p => ?_) (fun q => ?_)
  rotate_left
  · exact absurd q (by decide)
  refine W.iloadN at_113 rfl rfl ?_
  refine W.iconst at_114 own_ci_2 rfl ?_
  refine W.icmp_le at_115 (by decide) rfl rfl (fun p => ?_) (fun q => ?_)
  rotate_left
  · exact absurd q (by decide)
  refine W.iloadN at_124 rfl rfl ?_
  refine W.iconst at_125 own_ci_3 rfl ?_
  refine W.icmp_le at_126 (by decide) rfl rfl (fun p => ?_) (fun q => ?_)
  rotate_left
  · exact absurd q (by decide)
  refine W.iloadN at_135 rfl rfl ?_
  refine W.iconst at_136 own_ci_4 rfl ?_
  refine W.icmp_le at_137 (by decide) rfl rfl (fun p => ?_) (fun q => ?_)
  rotate_left
  · exact absurd q (by decide)
  refine W.iloadN at_146 rfl rfl ?_
  refine W.iconst at_147 own_ci_5 rfl ?_
  refine W.icmp_le at_148 (by decide) rfl rfl (fun p => ?_) (fun q => ?_)
  rotate_left
  · exact absurd q (by decide)
  exact own_t157 l Z a0 hw _ i0 i1 _ b0 b1 b2 b3 b4 b5 ⟨1, by decide⟩ (by decide) A0
theorem own_n2 (l : Launch) (Z : State) (a0 : Array Value) (hw : ∀ d ∈ tables_1, d.before a0 Z = true) (i0 i1 : Int32) (b0 b1 b2 b3 b4 b5 : Bool) : W l Z Z.heap.size room_1 B0 (fun v _ => v = some (.int 1)) Z.heap 0 0 88 [.val (.int i0), .val (.int i1), .val (.int 2), .val (.int (own_bi b0)), .val (.int (own_bi b1)), .val (.int (own_bi b2)), .val (.int (own_bi b3)), .val (.int (own_bi b4)), .val (.int (own_bi b5)), .unset, .unset, .unset, .unset, .unset] [] := by
  have hz : ∀ b : Bool, own_bi b &&& 1 = own_bi b := by intro b; cases b <;> decide
  refine W.iloadN at_88 rfl rfl ?_
  refine W.newarrayI (ty := .boolean) (cap := 6) at_89 rfl rfl (hw _ (List.mem_of_getElem? (i := 1) rfl)) (by decide) (by decide) (by decide) (by decide) (by decide) rfl (fun h0 E0 A0 => ?_)
  have A0 : AI Z h0 Z.heap.size .boolean [0, 0] := A0
  refine W.astore at_91 rfl (Put.s (Put.s (Put.s (Put.s (Put.s (Put.s (Put.s (Put.s (Put.s Put.z))))))))) rfl rfl rfl ?_
  refine W.iloadN at_93 rfl rfl ?_
  refine W.ifc_le at_94 (by decide) rfl rfl (fun p => ?_) (fun q => ?_)
  · exact absurd (by decide) p
  refine W.aload at_97 rfl rfl rfl ?_
  refine W.iconst at_99 own_ci_0 rfl ?_
  refine W.iloadN at_100 rfl rfl ?_
  refine W.bastoreZ at_101 A0 (by decide) (ltb rfl) (hz b0) (Nat.le_refl _) rfl (fun h1 W1 A0 => ?_)
  have A0 : AI Z h1 Z.heap.size .boolean [own_bi b0, 0] := A0
  refine W.iloadN at_102 rfl rfl ?_
  refine W.iconst at_103 own_ci_1 rfl ?_
  refine W.icmp_le at_104 (by decide) rfl rfl (fun p => ?_) (fun q => ?_)
  · exact absurd (by decide) p
  refine W.aload at_107 rfl rfl rfl ?_
  refine W.iconst at_109 own_ci_1 rfl ?_
  refine W.iload at_110 rfl rfl ?_
  refine W.bastoreZ at_112 A0 (by decide) (ltb rfl) (hz b1) (Nat.le_refl _) rfl (fun h2 W2 A0 => ?_)
  have A0 : AI Z h2 Z.heap.size .boolean [own_bi b0, own_bi b1] := A0
  refine W.iloadN at_113 rfl rfl ?_
  refine W.iconst at_114 own_ci_2 rfl ?_
  refine W.icmp_le at_115 (by decide) rfl rfl (fun p => ?_) (fun q => ?_)
  rotate_left
  · exact absurd q (by decide)
  refine W.iloadN at_124 rfl rfl ?_
  refine W.iconst at_125 own_ci_3 rfl ?_
  refine W.icmp_le at_126 (by decide) rfl rfl (fun p => ?_) (fun q => ?_)
  rotate_left
  · exact absurd q (by decide)
  refine W.iloadN at_135 rfl rfl ?_
  refine W.iconst at_136 own_ci_4 rfl ?_
  refine W.icmp_le at_137 (by decide) rfl rfl (fun p => ?_) (fun q => ?_)
  rotate_left
  · exact absurd q (by decide)
  refine W.iloadN at_146 rfl rfl ?_
  refine W.iconst at_147 own_ci_5 rfl ?_
  refine W.icmp_le at_148 (by decide) rfl rfl (fun p => ?_) (fun q => ?_)
  rotate_left
  · exact absurd q (by decide)
  exact own_t157 l Z a0 hw _ i0 i1 _ b0 b1 b2 b3 b4 b5 ⟨2, by decide⟩ (by decide) A0
theorem own_n3 (l : Launch) (Z : State) (a0 : Array Value) (hw : ∀ d ∈ tables_1, d.before a0 Z = true) (i0 i1 : Int32) (b0 b1 b2 b3 b4 b5 : Bool) : W l Z Z.heap.size room_1 B0 (fun v _ => v = some (.int 1)) Z.heap 0 0 88 [.val (.int i0), .val (.int i1), .val (.int 3), .val (.int (own_bi b0)), .val (.int (own_bi b1)), .val (.int (own_bi b2)), .val (.int (own_bi b3)), .val (.int (own_bi b4)), .val (.int (own_bi b5)), .unset, .unset, .unset, .unset, .unset] [] := by
  have hz : ∀ b : Bool, own_bi b &&& 1 = own_bi b := by intro b; cases b <;> decide
  refine W.iloadN at_88 rfl rfl ?_
  refine W.newarrayI (ty := .boolean) (cap := 6) at_89 rfl rfl (hw _ (List.mem_of_getElem? (i := 1) rfl)) (by decide) (by decide) (by decide) (by decide) (by decide) rfl (fun h0 E0 A0 => ?_)
  have A0 : AI Z h0 Z.heap.size .boolean [0, 0, 0] := A0
  refine W.astore at_91 rfl (Put.s (Put.s (Put.s (Put.s (Put.s (Put.s (Put.s (Put.s (Put.s Put.z))))))))) rfl rfl rfl ?_
  refine W.iloadN at_93 rfl rfl ?_
  refine W.ifc_le at_94 (by decide) rfl rfl (fun p => ?_) (fun q => ?_)
  · exact absurd (by decide) p
  refine W.aload at_97 rfl rfl rfl ?_
  refine W.iconst at_99 own_ci_0 rfl ?_
  refine W.iloadN at_100 rfl rfl ?_
  refine W.bastoreZ at_101 A0 (by decide) (ltb rfl) (hz b0) (Nat.le_refl _) rfl (fun h1 W1 A0 => ?_)
  have A0 : AI Z h1 Z.heap.size .boolean [own_bi b0, 0, 0] := A0
  refine W.iloadN at_102 rfl rfl ?_
  refine W.iconst at_103 own_ci_1 rfl ?_
  refine W.icmp_le at_104 (by decide) rfl rfl (fun p => ?_) (fun q => ?_)
  · exact absurd (by decide) p
  refine W.aload at_107 rfl rfl rfl ?_
  refine W.iconst at_109 own_ci_1 rfl ?_
  refine W.iload at_110 rfl rfl ?_
  refine W.bastoreZ at_112 A0 (by decide) (ltb rfl) (hz b1) (Nat.le_refl _) rfl (fun h2 W2 A0 => ?_)
  have A0 : AI Z h2 Z.heap.size .boolean [own_bi b0, own_bi b1, 0] := A0
  refine W.iloadN at_113 rfl rfl ?_
  refine W.iconst at_114 own_ci_2 rfl ?_
  refine W.icmp_le at_115 (by decide) rfl rfl (fun p => ?_) (fun q => ?_)
  · exact absurd (by decide) p
  refine W.aload at_118 rfl rfl rfl ?_
  refine W.iconst at_120 own_ci_2 rfl ?_
  refine W.iload at_121 rfl rfl ?_
  refine W.bastoreZ at_123 A0 (by decide) (ltb rfl) (hz b2) (Nat.le_refl _) rfl (fun h3 W3 A0 => ?_)
  have A0 : AI Z h3 Z.heap.size .boolean [own_bi b0, own_bi b1, own_bi b2] := A0
  refine W.iloadN at_124 rfl rfl ?_
  refine W.iconst at_125 own_ci_3 rfl ?_
  refine W.icmp_le at_126 (by decide) rfl rfl (fun p => ?_) (fun q => ?_)
  rotate_left
  · exact absurd q (by decide)
  refine W.iloadN at_135 rfl rfl ?_
  refine W.iconst at_136 own_ci_4 rfl ?_
  refine W.icmp_le at_137 (by decide) rfl rfl (fun p => ?_) (fun q => ?_)
  rotate_left
  · exact absurd q (by decide)
  refine W.iloadN at_146 rfl rfl ?_
  refine W.iconst at_147 own_ci_5 rfl ?_
  refine W.icmp_le at_148 (by decide) rfl rfl (fun p => ?_) (fun q => ?_)
  rotate_left
  · exact absurd q (by decide)
  exact own_t157 l Z a0 hw _ i0 i1 _ b0 b1 b2 b3 b4 b5 ⟨3, by decide⟩ (by decide) A0
theorem own_n4 (l : Launch) (Z : State) (a0 : Array Value) (hw : ∀ d ∈ tables_1, d.before a0 Z = true) (i0 i1 : Int32) (b0 b1 b2 b3 b4 b5 : Bool) : W l Z Z.heap.size room_1 B0 (fun v _ => v = some (.int 1)) Z.heap 0 0 88 [.val (.int i0), .val (.int i1), .val (.int 4), .val (.int (own_bi b0)), .val (.int (own_bi b1)), .val (.int (own_bi b2)), .val (.int (own_bi b3)), .val (.int (own_bi b4)), .val (.int (own_bi b5)), .unset, .unset, .unset, .unset, .unset] [] := by
  have hz : ∀ b : Bool, own_bi b &&& 1 = own_bi b := by intro b; cases b <;> decide
  refine W.iloadN at_88 rfl rfl ?_
  refine W.newarrayI (ty := .boolean) (cap := 6) at_89 rfl rfl (hw _ (List.mem_of_getElem? (i := 1) rfl)) (by decide) (by decide) (by decide) (by decide) (by decide) rfl (fun h0 E0 A0 => ?_)
  have A0 : AI Z h0 Z.heap.size .boolean [0, 0, 0, 0] := A0
  refine W.astore at_91 rfl (Put.s (Put.s (Put.s (Put.s (Put.s (Put.s (Put.s (Put.s (Put.s Put.z))))))))) rfl rfl rfl ?_
  refine W.iloadN at_93 rfl rfl ?_
  refine W.ifc_le at_94 (by decide) rfl rfl (fun p => ?_) (fun q => ?_)
  · exact absurd (by decide) p
  refine W.aload at_97 rfl rfl rfl ?_
  refine W.iconst at_99 own_ci_0 rfl ?_
  refine W.iloadN at_100 rfl rfl ?_
  refine W.bastoreZ at_101 A0 (by decide) (ltb rfl) (hz b0) (Nat.le_refl _) rfl (fun h1 W1 A0 => ?_)
  have A0 : AI Z h1 Z.heap.size .boolean [own_bi b0, 0, 0, 0] := A0
  refine W.iloadN at_102 rfl rfl ?_
  refine W.iconst at_103 own_ci_1 rfl ?_
  refine W.icmp_le at_104 (by decide) rfl rfl (fun p => ?_) (fun q => ?_)
  · exact absurd (by decide) p
  refine W.aload at_107 rfl rfl rfl ?_
  refine W.iconst at_109 own_ci_1 rfl ?_
  refine W.iload at_110 rfl rfl ?_
  refine W.bastoreZ at_112 A0 (by decide) (ltb rfl) (hz b1) (Nat.le_refl _) rfl (fun h2 W2 A0 => ?_)
  have A0 : AI Z h2 Z.heap.size .boolean [own_bi b0, own_bi b1, 0, 0] := A0
  refine W.iloadN at_113 rfl rfl ?_
  refine W.iconst at_114 own_ci_2 rfl ?_
  refine W.icmp_le at_115 (by decide) rfl rfl (fun p => ?_) (fun q => ?_)
  · exact absurd (by decide) p
  refine W.aload at_118 rfl rfl rfl ?_
  refine W.iconst at_120 own_ci_2 rfl ?_
  refine W.iload at_121 rfl rfl ?_
  refine W.bastoreZ at_123 A0 (by decide) (ltb rfl) (hz b2) (Nat.le_refl _) rfl (fun h3 W3 A0 => ?_)
  have A0 : AI Z h3 Z.heap.size .boolean [own_bi b0, own_bi b1, own_bi b2, 0] := A0
  refine W.iloadN at_124 rfl rfl ?_
  refine W.iconst at_125 own_ci_3 rfl ?_
  refine W.icmp_le at_126 (by decide) rfl rfl (fun p => ?_) (fun q => ?_)
  · exact absurd (by decide) p
  refine W.aload at_129 rfl rfl rfl ?_
  refine W.iconst at_131 own_ci_3 rfl ?_
  refine W.iload at_132 rfl rfl ?_
  refine W.bastoreZ at_134 A0 (by decide) (ltb rfl) (hz b3) (Nat.le_refl _) rfl (fun h4 W4 A0 => ?_)
  have A0 : AI Z h4 Z.heap.size .boolean [own_bi b0, own_bi b1, own_bi b2, own_bi b3] := A0
  refine W.iloadN at_135 rfl rfl ?_
  refine W.iconst at_136 own_ci_4 rfl ?_
  refine W.icmp_le at_137 (by decide) rfl rfl (fun p => ?_) (fun q => ?_)
  rotate_left
  · exact absurd q (by decide)
  refine W.iloadN at_146 rfl rfl ?_
  refine W.iconst at_147 own_ci_5 rfl ?_
  refine W.icmp_le at_148 (by decide) rfl rfl (fun p => ?_) (fun q => ?_)
  rotate_left
  · exact absurd q (by decide)
  exact own_t157 l Z a0 hw _ i0 i1 _ b0 b1 b2 b3 b4 b5 ⟨4, by decide⟩ (by decide) A0
theorem own_n5 (l : Launch) (Z : State) (a0 : Array Value) (hw : ∀ d ∈ tables_1, d.before a0 Z = true) (i0 i1 : Int32) (b0 b1 b2 b3 b4 b5 : Bool) : W l Z Z.heap.size room_1 B0 (fun v _ => v = some (.int 1)) Z.heap 0 0 88 [.val (.int i0), .val (.int i1), .val (.int 5), .val (.int (own_bi b0)), .val (.int (own_bi b1)), .val (.int (own_bi b2)), .val (.int (own_bi b3)), .val (.int (own_bi b4)), .val (.int (own_bi b5)), .unset, .unset, .unset, .unset, .unset] [] := by
  have hz : ∀ b : Bool, own_bi b &&& 1 = own_bi b := by intro b; cases b <;> decide
  refine W.iloadN at_88 rfl rfl ?_
  refine W.newarrayI (ty := .boolean) (cap := 6) at_89 rfl rfl (hw _ (List.mem_of_getElem? (i := 1) rfl)) (by decide) (by decide) (by decide) (by decide) (by decide) rfl (fun h0 E0 A0 => ?_)
  have A0 : AI Z h0 Z.heap.size .boolean [0, 0, 0, 0, 0] := A0
  refine W.astore at_91 rfl (Put.s (Put.s (Put.s (Put.s (Put.s (Put.s (Put.s (Put.s (Put.s Put.z))))))))) rfl rfl rfl ?_
  refine W.iloadN at_93 rfl rfl ?_
  refine W.ifc_le at_94 (by decide) rfl rfl (fun p => ?_) (fun q => ?_)
  · exact absurd (by decide) p
  refine W.aload at_97 rfl rfl rfl ?_
  refine W.iconst at_99 own_ci_0 rfl ?_
  refine W.iloadN at_100 rfl rfl ?_
  refine W.bastoreZ at_101 A0 (by decide) (ltb rfl) (hz b0) (Nat.le_refl _) rfl (fun h1 W1 A0 => ?_)
  have A0 : AI Z h1 Z.heap.size .boolean [own_bi b0, 0, 0, 0, 0] := A0
  refine W.iloadN at_102 rfl rfl ?_
  refine W.iconst at_103 own_ci_1 rfl ?_
  refine W.icmp_le at_104 (by decide) rfl rfl (fun p => ?_) (fun q => ?_)
  · exact absurd (by decide) p
  refine W.aload at_107 rfl rfl rfl ?_
  refine W.iconst at_109 own_ci_1 rfl ?_
  refine W.iload at_110 rfl rfl ?_
  refine W.bastoreZ at_112 A0 (by decide) (ltb rfl) (hz b1) (Nat.le_refl _) rfl (fun h2 W2 A0 => ?_)
  have A0 : AI Z h2 Z.heap.size .boolean [own_bi b0, own_bi b1, 0, 0, 0] := A0
  refine W.iloadN at_113 rfl rfl ?_
  refine W.iconst at_114 own_ci_2 rfl ?_
  refine W.icmp_le at_115 (by decide) rfl rfl (fun p => ?_) (fun q => ?_)
  · exact absurd (by decide) p
  refine W.aload at_118 rfl rfl rfl ?_
  refine W.iconst at_120 own_ci_2 rfl ?_
  refine W.iload at_121 rfl rfl ?_
  refine W.bastoreZ at_123 A0 (by decide) (ltb rfl) (hz b2) (Nat.le_refl _) rfl (fun h3 W3 A0 => ?_)
  have A0 : AI Z h3 Z.heap.size .boolean [own_bi b0, own_bi b1, own_bi b2, 0, 0] := A0
  refine W.iloadN at_124 rfl rfl ?_
  refine W.iconst at_125 own_ci_3 rfl ?_
  refine W.icmp_le at_126 (by decide) rfl rfl (fun p => ?_) (fun q => ?_)
  · exact absurd (by decide) p
  refine W.aload at_129 rfl rfl rfl ?_
  refine W.iconst at_131 own_ci_3 rfl ?_
  refine W.iload at_132 rfl rfl ?_
  refine W.bastoreZ at_134 A0 (by decide) (ltb rfl) (hz b3) (Nat.le_refl _) rfl (fun h4 W4 A0 => ?_)
  have A0 : AI Z h4 Z.heap.size .boolean [own_bi b0, own_bi b1, own_bi b2, own_bi b3, 0] := A0
  refine W.iloadN at_135 rfl rfl ?_
  refine W.iconst at_136 own_ci_4 rfl ?_
  refine W.icmp_le at_137 (by decide) rfl rfl (fun p => ?_) (fun q => ?_)
  · exact absurd (by decide) p
  refine W.aload at_140 rfl rfl rfl ?_
  refine W.iconst at_142 own_ci_4 rfl ?_
  refine W.iload at_143 rfl rfl ?_
  refine W.bastoreZ at_145 A0 (by decide) (ltb rfl) (hz b4) (Nat.le_refl _) rfl (fun h5 W5 A0 => ?_)
  have A0 : AI Z h5 Z.heap.size .boolean [own_bi b0, own_bi b1, own_bi b2, own_bi b3, own_bi b4] := A0
  refine W.iloadN at_146 rfl rfl ?_
  refine W.iconst at_147 own_ci_5 rfl ?_
  refine W.icmp_le at_148 (by decide) rfl rfl (fun p => ?_) (fun q => ?_)
  rotate_left
  · exact absurd q (by decide)
  exact own_t157 l Z a0 hw _ i0 i1 _ b0 b1 b2 b3 b4 b5 ⟨5, by decide⟩ (by decide) A0
theorem own_n6 (l : Launch) (Z : State) (a0 : Array Value) (hw : ∀ d ∈ tables_1, d.before a0 Z = true) (i0 i1 : Int32) (b0 b1 b2 b3 b4 b5 : Bool) : W l Z Z.heap.size room_1 B0 (fun v _ => v = some (.int 1)) Z.heap 0 0 88 [.val (.int i0), .val (.int i1), .val (.int 6), .val (.int (own_bi b0)), .val (.int (own_bi b1)), .val (.int (own_bi b2)), .val (.int (own_bi b3)), .val (.int (own_bi b4)), .val (.int (own_bi b5)), .unset, .unset, .unset, .unset, .unset] [] := by
  have hz : ∀ b : Bool, own_bi b &&& 1 = own_bi b := by intro b; cases b <;> decide
  refine W.iloadN at_88 rfl rfl ?_
  refine W.newarrayI (ty := .boolean) (cap := 6) at_89 rfl rfl (hw _ (List.mem_of_getElem? (i := 1) rfl)) (by decide) (by decide) (by decide) (by decide) (by decide) rfl (fun h0 E0 A0 => ?_)
  have A0 : AI Z h0 Z.heap.size .boolean [0, 0, 0, 0, 0, 0] := A0
  refine W.astore at_91 rfl (Put.s (Put.s (Put.s (Put.s (Put.s (Put.s (Put.s (Put.s (Put.s Put.z))))))))) rfl rfl rfl ?_
  refine W.iloadN at_93 rfl rfl ?_
  refine W.ifc_le at_94 (by decide) rfl rfl (fun p => ?_) (fun q => ?_)
  · exact absurd (by decide) p
  refine W.aload at_97 rfl rfl rfl ?_
  refine W.iconst at_99 own_ci_0 rfl ?_
  refine W.iloadN at_100 rfl rfl ?_
  refine W.bastoreZ at_101 A0 (by decide) (ltb rfl) (hz b0) (Nat.le_refl _) rfl (fun h1 W1 A0 => ?_)
  have A0 : AI Z h1 Z.heap.size .boolean [own_bi b0, 0, 0, 0, 0, 0] := A0
  refine W.iloadN at_102 rfl rfl ?_
  refine W.iconst at_103 own_ci_1 rfl ?_
  refine W.icmp_le at_104 (by decide) rfl rfl (fun p => ?_) (fun q => ?_)
  · exact absurd (by decide) p
  refine W.aload at_107 rfl rfl rfl ?_
  refine W.iconst at_109 own_ci_1 rfl ?_
  refine W.iload at_110 rfl rfl ?_
  refine W.bastoreZ at_112 A0 (by decide) (ltb rfl) (hz b1) (Nat.le_refl _) rfl (fun h2 W2 A0 => ?_)
  have A0 : AI Z h2 Z.heap.size .boolean [own_bi b0, own_bi b1, 0, 0, 0, 0] := A0
  refine W.iloadN at_113 rfl rfl ?_
  refine W.iconst at_114 own_ci_2 rfl ?_
  refine W.icmp_le at_115 (by decide) rfl rfl (fun p => ?_) (fun q => ?_)
  · exact absurd (by decide) p
  refine W.aload at_118 rfl rfl rfl ?_
  refine W.iconst at_120 own_ci_2 rfl ?_
  refine W.iload at_121 rfl rfl ?_
  refine W.bastoreZ at_123 A0 (by decide) (ltb rfl) (hz b2) (Nat.le_refl _) rfl (fun h3 W3 A0 => ?_)
  have A0 : AI Z h3 Z.heap.size .boolean [own_bi b0, own_bi b1, own_bi b2, 0, 0, 0] := A0
  refine W.iloadN at_124 rfl rfl ?_
  refine W.iconst at_125 own_ci_3 rfl ?_
  refine W.icmp_le at_126 (by decide) rfl rfl (fun p => ?_) (fun q => ?_)
  · exact absurd (by decide) p
  refine W.aload at_129 rfl rfl rfl ?_
  refine W.iconst at_131 own_ci_3 rfl ?_
  refine W.iload at_132 rfl rfl ?_
  refine W.bastoreZ at_134 A0 (by decide) (ltb rfl) (hz b3) (Nat.le_refl _) rfl (fun h4 W4 A0 => ?_)
  have A0 : AI Z h4 Z.heap.size .boolean [own_bi b0, own_bi b1, own_bi b2, own_bi b3, 0, 0] := A0
  refine W.iloadN at_135 rfl rfl ?_
  refine W.iconst at_136 own_ci_4 rfl ?_
  refine W.icmp_le at_137 (by decide) rfl rfl (fun p => ?_) (fun q => ?_)
  · exact absurd (by decide) p
  refine W.aload at_140 rfl rfl rfl ?_
  refine W.iconst at_142 own_ci_4 rfl ?_
  refine W.iload at_143 rfl rfl ?_
  refine W.bastoreZ at_145 A0 (by decide) (ltb rfl) (hz b4) (Nat.le_refl _) rfl (fun h5 W5 A0 => ?_)
  have A0 : AI Z h5 Z.heap.size .boolean [own_bi b0, own_bi b1, own_bi b2, own_bi b3, own_bi b4, 0] := A0
  refine W.iloadN at_146 rfl rfl ?_
  refine W.iconst at_147 own_ci_5 rfl ?_
  refine W.icmp_le at_148 (by decide) rfl rfl (fun p => ?_) (fun q => ?_)
  · exact absurd (by decide) p
  refine W.aload at_151 rfl rfl rfl ?_
  refine W.iconst at_153 own_ci_5 rfl ?_
  refine W.iload at_154 rfl rfl ?_
  refine W.bastoreZ at_156 A0 (by decide) (ltb rfl) (hz b5) (Nat.le_refl _) rfl (fun h6 W6 A0 => ?_)
  have A0 : AI Z h6 Z.heap.size .boolean [own_bi b0, own_bi b1, own_bi b2, own_bi b3, own_bi b4, own_bi b5] := A0
  exact own_t157 l Z a0 hw _ i0 i1 _ b0 b1 b2 b3 b4 b5 ⟨6, by decide⟩ (by decide) A0
theorem own_f6 (l : Launch) (Z : State) (a0 : Array Value) (hw : ∀ d ∈ tables_1, d.before a0 Z = true) (i0 i1 n : Int32) (b0 b1 b2 b3 b4 b5 : Bool) (h0 : 0 ≤ n.toInt) (h7 : n.toInt < 7) : W l Z Z.heap.size room_1 B0 (fun v _ => v = some (.int 1)) Z.heap 0 0 88 [.val (.int i0), .val (.int i1), .val (.int n), .val (.int (own_bi b0)), .val (.int (own_bi b1)), .val (.int (own_bi b2)), .val (.int (own_bi b3)), .val (.int (own_bi b4)), .val (.int (own_bi b5)), .unset, .unset, .unset, .unset, .unset] [] := by
  rcases (by omega : n.toInt = 0 ∨ n.toInt = 1 ∨ n.toInt = 2 ∨ n.toInt = 3 ∨ n.toInt = 4 ∨ n.toInt = 5 ∨ n.toInt = 6) with c | c | c | c | c | c | c
  · obtain rfl : n = 0 := by rw [eq32, c]; decide
    exact own_n0 l Z a0 hw i0 i1 b0 b1 b2 b3 b4 b5
  · obtain rfl : n = 1 := by rw [eq32, c]; decide
    exact own_n1 l Z a0 hw i0 i1 b0 b1 b2 b3 b4 b5
  · obtain rfl : n = 2 := by rw [eq32, c]; decide
    exact own_n2 l Z a0 hw i0 i1 b0 b1 b2 b3 b4 b5
  · obtain rfl : n = 3 := by rw [eq32, c]; decide
    exact own_n3 l Z a0 hw i0 i1 b0 b1 b2 b3 b4 b5
  · obtain rfl : n = 4 := by rw [eq32, c]; decide
    exact own_n4 l Z a0 hw i0 i1 b0 b1 b2 b3 b4 b5
  · obtain rfl : n = 5 := by rw [eq32, c]; decide
    exact own_n5 l Z a0 hw i0 i1 b0 b1 b2 b3 b4 b5
  · obtain rfl : n = 6 := by rw [eq32, c]; decide
    exact own_n6 l Z a0 hw i0 i1 b0 b1 b2 b3 b4 b5
theorem own_f5 (l : Launch) (Z : State) (a0 : Array Value) (hw : ∀ d ∈ tables_1, d.before a0 Z = true) (i0 i1 n : Int32) (b0 b1 b2 b3 b4 : Bool) (h0 : 0 ≤ n.toInt) (h7 : n.toInt < 7) : W l Z Z.heap.size room_1 B0 (fun v _ => v = some (.int 1)) Z.heap 0 0 74 [.val (.int i0), .val (.int i1), .val (.int n), .val (.int (own_bi b0)), .val (.int (own_bi b1)), .val (.int (own_bi b2)), .val (.int (own_bi b3)), .val (.int (own_bi b4)), .unset, .unset, .unset, .unset, .unset, .unset] [] := by
  refine W.iloadN at_74 rfl rfl ?_
  refine W.bipush at_75 own_cb_32 rfl ?_
  refine W.iand at_77 rfl ?_
  refine W.ifc_eq at_78 (by decide) rfl rfl (fun p => ?_) (fun q => ?_)
  · refine W.iconst at_85 own_ci_0 rfl ?_
    refine W.istore at_86 (Put.s (Put.s (Put.s (Put.s (Put.s (Put.s (Put.s (Put.s Put.z)))))))) rfl rfl rfl ?_
    exact own_f6 l Z a0 hw i0 i1 n b0 b1 b2 b3 b4 false h0 h7
  · refine W.iconst at_81 own_ci_1 rfl ?_
    refine W.goto at_82 (by decide) rfl ?_
    refine W.istore at_86 (Put.s (Put.s (Put.s (Put.s (Put.s (Put.s (Put.s (Put.s Put.z)))))))) rfl rfl rfl ?_
    exact own_f6 l Z a0 hw i0 i1 n b0 b1 b2 b3 b4 true h0 h7
theorem own_f4 (l : Launch) (Z : State) (a0 : Array Value) (hw : ∀ d ∈ tables_1, d.before a0 Z = true) (i0 i1 n : Int32) (b0 b1 b2 b3 : Bool) (h0 : 0 ≤ n.toInt) (h7 : n.toInt < 7) : W l Z Z.heap.size room_1 B0 (fun v _ => v = some (.int 1)) Z.heap 0 0 60 [.val (.int i0), .val (.int i1), .val (.int n), .val (.int (own_bi b0)), .val (.int (own_bi b1)), .val (.int (own_bi b2)), .val (.int (own_bi b3)), .unset, .unset, .unset, .unset, .unset, .unset, .unset] [] := by
  refine W.iloadN at_60 rfl rfl ?_
  refine W.bipush at_61 own_cb_16 rfl ?_
  refine W.iand at_63 rfl ?_
  refine W.ifc_eq at_64 (by decide) rfl rfl (fun p => ?_) (fun q => ?_)
  · refine W.iconst at_71 own_ci_0 rfl ?_
    refine W.istore at_72 (Put.s (Put.s (Put.s (Put.s (Put.s (Put.s (Put.s Put.z))))))) rfl rfl rfl ?_
    exact own_f5 l Z a0 hw i0 i1 n b0 b1 b2 b3 false h0 h7
  · refine W.iconst at_67 own_ci_1 rfl ?_
    refine W.goto at_68 (by decide) rfl ?_
    refine W.istore at_72 (Put.s (Put.s (Put.s (Put.s (Put.s (Put.s (Put.s Put.z))))))) rfl rfl rfl ?_
    exact own_f5 l Z a0 hw i0 i1 n b0 b1 b2 b3 true h0 h7
theorem own_f3 (l : Launch) (Z : State) (a0 : Array Value) (hw : ∀ d ∈ tables_1, d.before a0 Z = true) (i0 i1 n : Int32) (b0 b1 b2 : Bool) (h0 : 0 ≤ n.toInt) (h7 : n.toInt < 7) : W l Z Z.heap.size room_1 B0 (fun v _ => v = some (.int 1)) Z.heap 0 0 46 [.val (.int i0), .val (.int i1), .val (.int n), .val (.int (own_bi b0)), .val (.int (own_bi b1)), .val (.int (own_bi b2)), .unset, .unset, .unset, .unset, .unset, .unset, .unset, .unset] [] := by
  refine W.iloadN at_46 rfl rfl ?_
  refine W.bipush at_47 own_cb_8 rfl ?_
  refine W.iand at_49 rfl ?_
  refine W.ifc_eq at_50 (by decide) rfl rfl (fun p => ?_) (fun q => ?_)
  · refine W.iconst at_57 own_ci_0 rfl ?_
    refine W.istore at_58 (Put.s (Put.s (Put.s (Put.s (Put.s (Put.s Put.z)))))) rfl rfl rfl ?_
    exact own_f4 l Z a0 hw i0 i1 n b0 b1 b2 false h0 h7
  · refine W.iconst at_53 own_ci_1 rfl ?_
    refine W.goto at_54 (by decide) rfl ?_
    refine W.istore at_58 (Put.s (Put.s (Put.s (Put.s (Put.s (Put.s Put.z)))))) rfl rfl rfl ?_
    exact own_f4 l Z a0 hw i0 i1 n b0 b1 b2 true h0 h7
theorem own_f2 (l : Launch) (Z : State) (a0 : Array Value) (hw : ∀ d ∈ tables_1, d.before a0 Z = true) (i0 i1 n : Int32) (b0 b1 : Bool) (h0 : 0 ≤ n.toInt) (h7 : n.toInt < 7) : W l Z Z.heap.size room_1 B0 (fun v _ => v = some (.int 1)) Z.heap 0 0 33 [.val (.int i0), .val (.int i1), .val (.int n), .val (.int (own_bi b0)), .val (.int (own_bi b1)), .unset, .unset, .unset, .unset, .unset, .unset, .unset, .unset, .unset] [] := by
  refine W.iloadN at_33 rfl rfl ?_
  refine W.iconst at_34 own_ci_4 rfl ?_
  refine W.iand at_35 rfl ?_
  refine W.ifc_eq at_36 (by decide) rfl rfl (fun p => ?_) (fun q => ?_)
  · refine W.iconst at_43 own_ci_0 rfl ?_
    refine W.istore at_44 (Put.s (Put.s (Put.s (Put.s (Put.s Put.z))))) rfl rfl rfl ?_
    exact own_f3 l Z a0 hw i0 i1 n b0 b1 false h0 h7
  · refine W.iconst at_39 own_ci_1 rfl ?_
    refine W.goto at_40 (by decide) rfl ?_
    refine W.istore at_44 (Put.s (Put.s (Put.s (Put.s (Put.s Put.z))))) rfl rfl rfl ?_
    exact own_f3 l Z a0 hw i0 i1 n b0 b1 true h0 h7
theorem own_f1 (l : Launch) (Z : State) (a0 : Array Value) (hw : ∀ d ∈ tables_1, d.before a0 Z = true) (i0 i1 n : Int32) (b0 : Bool) (h0 : 0 ≤ n.toInt) (h7 : n.toInt < 7) : W l Z Z.heap.size room_1 B0 (fun v _ => v = some (.int 1)) Z.heap 0 0 20 [.val (.int i0), .val (.int i1), .val (.int n), .val (.int (own_bi b0)), .unset, .unset, .unset, .unset, .unset, .unset, .unset, .unset, .unset, .unset] [] := by
  refine W.iloadN at_20 rfl rfl ?_
  refine W.iconst at_21 own_ci_2 rfl ?_
  refine W.iand at_22 rfl ?_
  refine W.ifc_eq at_23 (by decide) rfl rfl (fun p => ?_) (fun q => ?_)
  · refine W.iconst at_30 own_ci_0 rfl ?_
    refine W.istore at_31 (Put.s (Put.s (Put.s (Put.s Put.z)))) rfl rfl rfl ?_
    exact own_f2 l Z a0 hw i0 i1 n b0 false h0 h7
  · refine W.iconst at_26 own_ci_1 rfl ?_
    refine W.goto at_27 (by decide) rfl ?_
    refine W.istore at_31 (Put.s (Put.s (Put.s (Put.s Put.z)))) rfl rfl rfl ?_
    exact own_f2 l Z a0 hw i0 i1 n b0 true h0 h7
theorem own_f0 (l : Launch) (Z : State) (a0 : Array Value) (hw : ∀ d ∈ tables_1, d.before a0 Z = true) (i0 i1 n : Int32) (h0 : 0 ≤ n.toInt) (h7 : n.toInt < 7) : W l Z Z.heap.size room_1 B0 (fun v _ => v = some (.int 1)) Z.heap 0 0 8 [.val (.int i0), .val (.int i1), .val (.int n), .unset, .unset, .unset, .unset, .unset, .unset, .unset, .unset, .unset, .unset, .unset] [] := by
  refine W.iloadN at_8 rfl rfl ?_
  refine W.iconst at_9 own_ci_1 rfl ?_
  refine W.iand at_10 rfl ?_
  refine W.ifc_eq at_11 (by decide) rfl rfl (fun p => ?_) (fun q => ?_)
  · refine W.iconst at_18 own_ci_0 rfl ?_
    refine W.istoreN at_19 (Put.s (Put.s (Put.s Put.z))) rfl rfl rfl ?_
    exact own_f1 l Z a0 hw i0 i1 n  false h0 h7
  · refine W.iconst at_14 own_ci_1 rfl ?_
    refine W.goto at_15 (by decide) rfl ?_
    refine W.istoreN at_19 (Put.s (Put.s (Put.s Put.z))) rfl rfl rfl ?_
    exact own_f1 l Z a0 hw i0 i1 n  true h0 h7
theorem own_law (l : Launch) (Z : State) (a0 : Array Value) (hw : ∀ d ∈ tables_1, d.before a0 Z = true) (i0 i1 : Int32) : W l Z Z.heap.size room_1 B0 (fun v _ => v = some (.int 1)) Z.heap 0 0 0 [.val (.int i0), .val (.int i1), .unset, .unset, .unset, .unset, .unset, .unset, .unset, .unset, .unset, .unset, .unset, .unset] [] := by
  have k7 : (7 : Int32).toInt = 7 := by decide
  refine W.iloadN at_0 rfl rfl ?_
  refine W.ldc at_1 (hw _ (List.mem_of_getElem? (i := 0) rfl)) rfl ?_
  refine W.iand at_3 rfl ?_
  refine W.bipush at_4 own_cb_7 rfl ?_
  refine W.irem at_6 (by decide) rfl ?_
  refine W.istoreN at_7 (Put.s (Put.s Put.z)) rfl rfl rfl ?_
  have hr := rem31 i0 7 (by decide)
  generalize (i0 &&& 2147483647) % 7 = n at *
  exact own_f0 l Z a0 hw i0 i1 n hr.1 (by omega)
theorem own_ef0 (m : MethodId) (i0 : Int32) (i1 : Int32) : entryFrame m #[.int i0, .int i1] maxLocals = mkF m 0 #[.val (.int i0), .val (.int i1), .unset, .unset, .unset, .unset, .unset, .unset, .unset, .unset, .unset, .unset, .unset, .unset] [] := by first | (simp [entryFrame, mkF, argsToLocals, Value.category, maxLocals]; done) | rfl
theorem comes_1 {Post : Tables → Env → Array Value → State → Outcome → State → Prop} (hpost : ∀ tb e args s v u, (limb_1_1.after args s (.returned v) u = true ∧ limb_1_2.after args s (.returned v) u = true ∧ True) → FrameEnd s (.returned v) u (Jvm.fieldLocs frame_1_writes args s ++ Jvm.arrayLocs frame_1_arrays args s ++ Jvm.staticLocs frame_1_statics s) 16 128 → Post tb e args s (.returned v) u) :
    ArmFor flags0 classFile x code maxLocals ret World_1 tables_1 room_1 Calls_1 rest_1 Pre_1 Post := by
  intro l hfl _ _ p e ha hc hk s m args below hf hA hF happ hP
  obtain ⟨hcalls, hrest, hpre⟩ := hP
  obtain ⟨-, -, -, hnamed, -, -, -, hat⟩ := (Spec.applies_iff hf).mp happ
  obtain ⟨hg, hn⟩ := and_e (Cond.before_iff.mp (show (Jvm.Cond.and given_1 narrow_1).before args s = true from hpre))
  obtain ⟨g0, t0⟩ := and_e hg
  obtain ⟨k0, t1⟩ := and_e t0
  obtain ⟨w0, w1, rfl⟩ : ∃ w0 w1 : Value, args = #[w0, w1] := by
    have hs : args.size = 2 := by simpa [Cond.value, given_1] using g0
    obtain ⟨L⟩ := args
    match L, hs with
    | [w0, w1], _ => exact ⟨w0, w1, rfl⟩
  have hw := fun d (hd : d ∈ tables_1) => atoms_spec (ws := Jvm.Cond.code x code maxLocals ret :: tables_1) hat d (List.mem_cons_of_mem _ hd)
  obtain ⟨i0, e0⟩ := is_v k0
  obtain rfl : w0 = (.int i0) := Option.some.inj e0
  obtain ⟨i1, e1⟩ := is_v t1
  obtain rfl : w1 = (.int i1) := Option.some.inj e1
  obtain ⟨n, o, h1, h2, h3, _, L, rfl, ⟨rfl, N⟩, hq⟩ := met_of (ws := tables_1) (y := x) (B' := B0) (as' := #[.int i0, .int i1]) own_pf0 rfl rfl (fun m => own_ef0 m i0 i1) (own_law l s _ hw i0 i1) p e ha hc hk s m _ below hf ((Spec.applies_iff_loose hf).mp happ).1 ⟨rfl, State.Warmed39.refl s, rfl⟩ trivial
  refine ⟨n, _, h1, h2, h3, hpost _ _ _ _ _ _ ⟨Cond.after_iff.mpr rfl, Cond.after_iff.mpr (eq_i res_at (Term.int_eval (1)) rfl), trivial⟩ ⟨hq.1, hq.2.1, (hq.2.2.sift fun y hy => Or.inr (N y hy)).mono (by decide) (by decide)⟩⟩
theorem main_1_1 : Claimed_1_1 := comes_1 fun _ _ _ _ _ _ h hF => ⟨h.1, hF⟩
theorem main_1_2 : Claimed_1_2 := comes_1 fun _ _ _ _ _ _ h hF => ⟨h.2.1, hF⟩
end Jvm.Pilot.@@N@@
namespace Jvm.Pilot.@@N@@
open Jvm Jvm.ClassFile Sem Op Lib Jvm.Free Jvm.Stand Jvm.Pilot.@@N@@.Jvm.D
/-! MADE BY PROGRAM (witnessworld.py) out of the Statement's table words and the real class files: 13 classes; the members and pool entries that the words name. The judged class is class 1, her method 1. -/
namespace start1
open Jvm.ClassFile
def u (s : String) : CpInfo := .utf8 (stringToUtf16 s)
/-- a pool by its gaps: so many unusable entries, then the entry; so many at the end -/
def gap : Nat → List CpInfo → List CpInfo
  | 0, r => r
  | n + 1, r => .unusable :: gap n r
def poolList (es : List (Nat × CpInfo)) (last : Nat) : List CpInfo := es.foldr (fun e r => gap e.1 (e.2 :: r)) (gap last [])
def pool (es : List (Nat × CpInfo)) (last : Nat) : Array CpInfo := ⟨poolList es last⟩
def fileOf (pool : Array CpInfo) (this : Nat) (attrs : Array Attribute := #[]) (ms : Array MethodInfo := #[]) (fl : Nat := 33) (sup : Nat := 0) (ifs : Array Nat := #[]) (fds : Array FieldInfo := #[]) : ClassFile where
  minorVersion := 0
  majorVersion := 65
  constantPool := pool
  accessFlags := fl
  thisClass := this
  superClass := sup
  interfaces := ifs
  fields := fds
  methods := ms
  attributes := attrs
def plain (name : String) (sup : Option ClassId) : Class where
  name := name
  kind := .ordinary
  loader := none
  accessFlags := 33
  super := sup
  interfaces := #[]
  cf := none
  fields := #[]
  methods := #[]
  instanceTypes := #[]
  staticTypes := #[]
  resolved := #[]
  callSites := []
  init := .initialized
  statics := none
  mirror := none

def pool0 : Array CpInfo := pool [(5, u "<init>"), (0, u "()V"), (1, .class_ 10), (1, u "java/lang/Object")] 113

def k0m0 : Method := { name := "<init>", desc := "()V", sig := { parameters := [], returnType := none }, accessFlags := 1, code := none }
/-- java/lang/Object -/
def k0 : Class := { plain "java/lang/Object" none with
  accessFlags := 33
  interfaces := #[]
  cf := some (fileOf pool0 8 #[] #[{ accessFlags := 1, nameIndex := 5, descriptorIndex := 6, attributes := #[] }] 33 0 #[] #[])
  fields := #[]
  methods := #[k0m0]
  instanceTypes := #[]
  staticTypes := #[]
  resolved := Array.replicate 124 none
  statics := none }

def pool1 : Array CpInfo := pool [(2, .class_ 4), (1, u "java/lang/Object"), (0, u "<init>"), (0, u "()V"), (0, .integer 2147483647), (0, .methodref 9 10), (0, .class_ 11), (0, .nameAndType 12 13), (0, u "com/example/tideline/tideline/engine/CompactionLog"), (0, u "places"), (0, u "([Z)[I"), (0, .methodref 15 16), (0, .class_ 17), (0, .nameAndType 18 19), (0, u "com/example/tideline/tideline/engine/CompactionLogPlacesPinLaw"), (0, u "same"), (0, u "([I[II)Z"), (2, u "law"), (0, u "(II)Z")] 7

def k1m0 : Method := { name := "<init>", desc := "()V", sig := { parameters := [], returnType := none }, accessFlags := 1, code := none }
def k1c1 : Code := { maxStack := 3, maxLocals := 14, code := code, exceptionTable := #[], attributes := #[] }
def k1m1 : Method := { name := "law", desc := "(II)Z", sig := { parameters := [.int, .int], returnType := some .boolean }, accessFlags := 9, code := some k1c1 }
def k1c2 : Code := { maxStack := 3, maxLocals := 3, code := method_3_code, exceptionTable := #[], attributes := #[] }
def k1m2 : Method := { name := "same", desc := "([I[II)Z", sig := { parameters := [(.array .int), (.array .int), .int], returnType := some .boolean }, accessFlags := 10, code := some k1c2 }
/-- com/example/tideline/tideline/engine/CompactionLogPlacesPinLaw -/
def k1 : Class := { plain "com/example/tideline/tideline/engine/CompactionLogPlacesPinLaw" (some 0) with
  accessFlags := 49
  interfaces := #[]
  cf := some (fileOf pool1 15 #[] #[{ accessFlags := 1, nameIndex := 5, descriptorIndex := 6, attributes := #[] }, { accessFlags := 9, nameIndex := 22, descriptorIndex := 23, attributes := #[] }, { accessFlags := 10, nameIndex := 18, descriptorIndex := 19, attributes := #[] }] 49 2 #[] #[])
  fields := #[]
  methods := #[k1m0, k1m1, k1m2]
  instanceTypes := #[]
  staticTypes := #[]
  resolved := Array.replicate 31 none
  statics := none }

def pool2 : Array CpInfo := pool [(1, .class_ 2), (0, u "java/lang/AutoCloseable"), (0, .class_ 4), (0, u "java/lang/Object")] 7

/-- java/lang/AutoCloseable -/
def k2 : Class := { plain "java/lang/AutoCloseable" (some 0) with
  accessFlags := 1537
  interfaces := #[]
  cf := some (fileOf pool2 1 #[] #[] 1537 3 #[] #[])
  fields := #[]
  methods := #[]
  instanceTypes := #[]
  staticTypes := #[]
  resolved := Array.replicate 12 none
  statics := none }

def pool3 : Array CpInfo := pool [(1, .class_ 2), (0, u "java/io/Closeable"), (0, .class_ 4), (0, u "java/lang/Object"), (0, .class_ 6), (0, u "java/lang/AutoCloseable")] 7

/-- java/io/Closeable -/
def k3 : Class := { plain "java/io/Closeable" (some 0) with
  accessFlags := 1537
  interfaces := #[2]
  cf := some (fileOf pool3 1 #[] #[] 1537 3 #[5] #[])
  fields := #[]
  methods := #[]
  instanceTypes := #[]
  staticTypes := #[]
  resolved := Array.replicate 14 none
  statics := none }

def pool4 : Array CpInfo := pool [(2, .class_ 4), (1, u "java/lang/Object"), (9, .class_ 16), (1, u "com/example/tideline/tideline/engine/CompactionLog"), (0, u "gathered"), (0, u "Ljava/nio/ByteBuffer;"), (0, .class_ 20), (0, u "com/example/tideline/tideline/engine/CompactionLog$DeviceRecords"), (5, u "records"), (0, u "Lcom/example/tideline/tideline/engine/CompactionLog$DeviceRecords;"), (2, u "path"), (0, u "Ljava/nio/file/Path;"), (2, u "file"), (0, u "Lcom/example/tideline/tideline/engine/OpenFile;"), (2, u "salt"), (0, u "[B"), (2, u "end"), (0, u "J"), (161, u "NO_SALT"), (104, .class_ 311), (0, u "com/example/tideline/tideline/engine/CompactionLog$Target"), (50, .class_ 363), (0, u "com/example/tideline/tideline/engine/CompactionLog$Recorded"), (50, u "places"), (0, u "([Z)[I"), (69, .class_ 487), (1, u "com/example/tideline/tideline/engine/CompactionLog$Body"), (89, .class_ 578), (0, u "java/io/Closeable"), (0, u "KIND"), (0, u "Ljava/lang/String;"), (1, u "MAGIC"), (0, u "I"), (0, u "FORMAT_VERSION"), (1, u "NUMBERS_VERSION"), (1, u "ONE_TARGET_VERSION"), (1, u "SERIES_VERSION"), (1, u "MERGED_INTO_VERSION"), (1, u "LAST_VALUE_VERSION"), (1, u "RESUMABLE_VERSION"), (0, u "SALTED_VERSION"), (1, u "INTO_ONE_TARGET"), (1, u "IN_PLACE"), (0, u "HEADER_BYTES"), (1, u "UNSALTED_HEADER_BYTES"), (1, u "RECORD_HEADER_BYTES"), (0, u "GATHERED_BYTES"), (0, u "SOURCE"), (0, u "SPACE"), (1, u "TARGET"), (0, u "DEVICE"), (0, u "COMPLETE"), (0, u "SERIES")] 121

def k4c0 : Code := { maxStack := 3, maxLocals := 6, code := prog_68_method_10_code, exceptionTable := #[], attributes := #[] }
def k4m0 : Method := { name := "places", desc := "([Z)[I", sig := { parameters := [(.array .boolean)], returnType := some (.array .int) }, accessFlags := 8, code := some k4c0 }
/-- com/example/tideline/tideline/engine/CompactionLog -/
def k4 : Class := { plain "com/example/tideline/tideline/engine/CompactionLog" (some 0) with
  accessFlags := 48
  interfaces := #[3]
  cf := some (fileOf pool4 14 #[.nestMembers #[310, 362, 485, 19]] #[{ accessFlags := 8, nameIndex := 414, descriptorIndex := 415, attributes := #[] }] 48 2 #[577] #[{ accessFlags := 26, nameIndex := 579, descriptorIndex := 580, attributes := #[] }, { accessFlags := 26, nameIndex := 582, descriptorIndex := 583, attributes := #[] }, { accessFlags := 26, nameIndex := 584, descriptorIndex := 583, attributes := #[] }, { accessFlags := 26, nameIndex := 586, descriptorIndex := 583, attributes := #[] }, { accessFlags := 26, nameIndex := 588, descriptorIndex := 583, attributes := #[] }, { accessFlags := 26, nameIndex := 590, descriptorIndex := 583, attributes := #[] }, { accessFlags := 26, nameIndex := 592, descriptorIndex := 583, attributes := #[] }, { accessFlags := 26, nameIndex := 594, descriptorIndex := 583, attributes := #[] }, { accessFlags := 26, nameIndex := 596, descriptorIndex := 583, attributes := #[] }, { accessFlags := 26, nameIndex := 597, descriptorIndex := 583, attributes := #[] }, { accessFlags := 26, nameIndex := 599, descriptorIndex := 583, attributes := #[] }, { accessFlags := 26, nameIndex := 601, descriptorIndex := 583, attributes := #[] }, { accessFlags := 26, nameIndex := 602, descriptorIndex := 583, attributes := #[] }, { accessFlags := 26, nameIndex := 604, descriptorIndex := 583, attributes := #[] }, { accessFlags := 26, nameIndex := 606, descriptorIndex := 583, attributes := #[] }, { accessFlags := 26, nameIndex := 205, descriptorIndex := 39, attributes := #[] }, { accessFlags := 24, nameIndex := 607, descriptorIndex := 583, attributes := #[] }, { accessFlags := 26, nameIndex := 608, descriptorIndex := 583, attributes := #[] }, { accessFlags := 26, nameIndex := 609, descriptorIndex := 583, attributes := #[] }, { accessFlags := 26, nameIndex := 611, descriptorIndex := 583, attributes := #[] }, { accessFlags := 26, nameIndex := 612, descriptorIndex := 583, attributes := #[] }, { accessFlags := 26, nameIndex := 613, descriptorIndex := 583, attributes := #[] }, { accessFlags := 26, nameIndex := 614, descriptorIndex := 583, attributes := #[] }, { accessFlags := 18, nameIndex := 30, descriptorIndex := 31, attributes := #[] }, { accessFlags := 18, nameIndex := 34, descriptorIndex := 35, attributes := #[] }, { accessFlags := 18, nameIndex := 38, descriptorIndex := 39, attributes := #[] }, { accessFlags := 2, nameIndex := 42, descriptorIndex := 43, attributes := #[] }, { accessFlags := 2, nameIndex := 17, descriptorIndex := 18, attributes := #[] }, { accessFlags := 18, nameIndex := 26, descriptorIndex := 27, attributes := #[] }])
  fields := #[{ name := "KIND", type := (.object "java/lang/String"), accessFlags := 26, slot := 0, constantValue := 0 }, { name := "MAGIC", type := .int, accessFlags := 26, slot := 1, constantValue := 0 }, { name := "FORMAT_VERSION", type := .int, accessFlags := 26, slot := 2, constantValue := 0 }, { name := "NUMBERS_VERSION", type := .int, accessFlags := 26, slot := 3, constantValue := 0 }, { name := "ONE_TARGET_VERSION", type := .int, accessFlags := 26, slot := 4, constantValue := 0 }, { name := "SERIES_VERSION", type := .int, accessFlags := 26, slot := 5, constantValue := 0 }, { name := "MERGED_INTO_VERSION", type := .int, accessFlags := 26, slot := 6, constantValue := 0 }, { name := "LAST_VALUE_VERSION", type := .int, accessFlags := 26, slot := 7, constantValue := 0 }, { name := "RESUMABLE_VERSION", type := .int, accessFlags := 26, slot := 8, constantValue := 0 }, { name := "SALTED_VERSION", type := .int, accessFlags := 26, slot := 9, constantValue := 0 }, { name := "INTO_ONE_TARGET", type := .int, accessFlags := 26, slot := 10, constantValue := 0 }, { name := "IN_PLACE", type := .int, accessFlags := 26, slot := 11, constantValue := 0 }, { name := "HEADER_BYTES", type := .int, accessFlags := 26, slot := 12, constantValue := 0 }, { name := "UNSALTED_HEADER_BYTES", type := .int, accessFlags := 26, slot := 13, constantValue := 0 }, { name := "RECORD_HEADER_BYTES", type := .int, accessFlags := 26, slot := 14, constantValue := 0 }, { name := "NO_SALT", type := (.array .byte), accessFlags := 26, slot := 15, constantValue := 0 }, { name := "GATHERED_BYTES", type := .int, accessFlags := 24, slot := 16, constantValue := 0 }, { name := "SOURCE", type := .int, accessFlags := 26, slot := 17, constantValue := 0 }, { name := "SPACE", type := .int, accessFlags := 26, slot := 18, constantValue := 0 }, { name := "TARGET", type := .int, accessFlags := 26, slot := 19, constantValue := 0 }, { name := "DEVICE", type := .int, accessFlags := 26, slot := 20, constantValue := 0 }, { name := "COMPLETE", type := .int, accessFlags := 26, slot := 21, constantValue := 0 }, { name := "SERIES", type := .int, accessFlags := 26, slot := 22, constantValue := 0 }, { name := "path", type := (.object "java/nio/file/Path"), accessFlags := 18, slot := 0, constantValue := 0 }, { name := "file", type := (.object "com/example/tideline/tideline/engine/OpenFile"), accessFlags := 18, slot := 1, constantValue := 0 }, { name := "salt", type := (.array .byte), accessFlags := 18, slot := 2, constantValue := 0 }, { name := "end", type := .long, accessFlags := 2, slot := 3, constantValue := 0 }, { name := "gathered", type := (.object "java/nio/ByteBuffer"), accessFlags := 2, slot := 4, constantValue := 0 }, { name := "records", type := (.object "com/example/tideline/tideline/engine/CompactionLog$DeviceRecords"), accessFlags := 18, slot := 5, constantValue := 0 }]
  methods := #[k4m0]
  instanceTypes := #[(.object "java/nio/file/Path"), (.object "com/example/tideline/tideline/engine/OpenFile"), (.array .byte), .long, (.object "java/nio/ByteBuffer"), (.object "com/example/tideline/tideline/engine/CompactionLog$DeviceRecords")]
  staticTypes := #[(.object "java/lang/String"), .int, .int, .int, .int, .int, .int, .int, .int, .int, .int, .int, .int, .int, .int, (.array .byte), .int, .int, .int, .int, .int, .int, .int]
  resolved := Array.replicate 736 none
  statics := none }

def pool5 : Array CpInfo := pool [(1, u "java/lang/Cloneable"), (0, .class_ 1), (0, u "java/lang/Object"), (0, .class_ 3)] 3

/-- java/lang/Cloneable -/
def k5 : Class := { plain "java/lang/Cloneable" (some 0) with
  accessFlags := 1537
  interfaces := #[]
  cf := some (fileOf pool5 2 #[] #[] 1537 4 #[] #[])
  fields := #[]
  methods := #[]
  instanceTypes := #[]
  staticTypes := #[]
  resolved := Array.replicate 8 none
  statics := none }

def pool6 : Array CpInfo := pool [(1, u "java/io/Serializable"), (0, .class_ 1), (0, u "java/lang/Object"), (0, .class_ 3)] 3

/-- java/io/Serializable -/
def k6 : Class := { plain "java/io/Serializable" (some 0) with
  accessFlags := 1537
  interfaces := #[]
  cf := some (fileOf pool6 2 #[] #[] 1537 4 #[] #[])
  fields := #[]
  methods := #[]
  instanceTypes := #[]
  staticTypes := #[]
  resolved := Array.replicate 8 none
  statics := none }

/-- the primitive boolean -/
def k7 : Class := { plain "boolean" none with kind := .primitive 'Z', accessFlags := 0x411 }
/-- [Z -/
def k8 : Class := { plain "[Z" (some 0) with kind := .array 7 .boolean, interfaces := #[5, 6], accessFlags := 1041 }

/-- the primitive byte -/
def k9 : Class := { plain "byte" none with kind := .primitive 'B', accessFlags := 0x411 }
/-- [B -/
def k10 : Class := { plain "[B" (some 0) with kind := .array 9 .byte, interfaces := #[5, 6], accessFlags := 1041 }

/-- the primitive int -/
def k11 : Class := { plain "int" none with kind := .primitive 'I', accessFlags := 0x411 }
/-- [I -/
def k12 : Class := { plain "[I" (some 0) with kind := .array 11 .int, interfaces := #[5, 6], accessFlags := 1041 }

def heap : Heap := #[]
def classes : Array Class := #[k0, k1, k2, k3, k4, k5, k6, k7, k8, k9, k10, k11, k12]
def interned : List (Array UInt16 × Addr) := []
def slotsUsed : Nat := 0
def theMethod : MethodId := ⟨1, 1⟩
def args0 : Array Value := #[.int 5, .int 6]
def aboutOver (below : List Frame) : State where
  vm := { classes := classes, interned := interned.toArray }
  heap := heap
  slotsUsed := slotsUsed
  threads := #[{ frames := .invoking theMethod args0 :: below }]
def below0 : List Frame := [.native { method := ⟨0, 0⟩, args := #[] }]
def about1 : State := aboutOver below0
def p0 : Program := .bare "" "" ""
def e0 : Env := launch0.env 0 0 0
theorem w_frames : about1.frames = Frame.invoking theMethod args0 :: below0 := rfl
set_option maxRecDepth 65536 in
theorem w_args : argsFit about1.vm theMethod args0 = true := by decide +kernel
set_option maxRecDepth 65536 in
theorem w_heap : heapFits about1 = true := by decide +kernel
set_option maxRecDepth 65536 in
theorem w_runnable : about1.curStatus? = some .runnable := by decide +kernel
set_option maxRecDepth 65536 in
theorem w_alone : about1.alone = true := by decide +kernel
set_option maxRecDepth 65536 in
theorem w_named : about1.methodNamed? x = some theMethod := by decide +kernel
set_option maxRecDepth 65536 in
theorem w_hears : about1.hears theMethod below0 = true := by decide +kernel
set_option maxRecDepth 65536 in
theorem w_ripe : about1.ripe theMethod args0 below0 = true := by decide +kernel
theorem w_running : about1.status = .running := rfl
set_option maxRecDepth 65536 in
theorem w_room : about1.hasRoom e0.platform room_1 = true :=
  launch0.hasRoom_least _ room_1 (by decide +kernel) (by decide +kernel) (by decide +kernel) (by decide +kernel) (by decide +kernel) (by decide +kernel)
theorem allAtoms_all (ts : List Jvm.Cond) (a : Array Jvm.Value) (st : Jvm.State) : (allAtoms ts).before a st = ts.all (fun c => c.before a st) := by
  induction ts with
  | nil => rfl
  | cons c t ih =>
    show (Jvm.Cond.and c (allAtoms t)).before a st = _
    rw [Jvm.Cond.before_and, ih, List.all_cons]
def words1 : List Jvm.Cond := Jvm.Cond.code x code maxLocals ret :: tables_1
/-- a 'code' word, met by the world's own term for the bytes: nothing is compared byte by byte -/
theorem code_word {y : MethodName} {bytes : ByteArray} {mx : Nat} {rt : Option FieldType} {a : Array Value} {s : State} {m : MethodId} {meth : Method} {c : Code} (h1 : s.methodNamed? y = some m) (h2 : s.vm.method? m = some meth) (h3 : meth.code = some c) (h4 : c.code = bytes)
    (h5 : (c.maxLocals == mx && c.exceptionTable.isEmpty && decide (c.maxStack ≤ mostOperands) && decide (meth.sig.returnType = rt) && !meth.locks && decide (parseMethodDescriptor y.desc = some meth.sig)) = true) : (Jvm.Cond.code y bytes mx rt).before a s = true := by
  simp only [Bool.and_eq_true, beq_iff_eq, Bool.not_eq_true', decide_eq_true_eq] at h5
  obtain ⟨⟨⟨⟨⟨g1, g2⟩, g3⟩, g4⟩, g5⟩, g6⟩ := h5
  simp [Cond.before, Cond.holds, Cond.value, h1, h2, h3, h4, g1, g2, g3, g4, g5, g6]
def isCode : Jvm.Cond → Bool
  | .code _ _ _ _ => true
  | _ => false
theorem all_split {L : List Jvm.Cond} {P : Jvm.Cond → Bool} (h1 : L.all (fun c => isCode c || P c) = true) (h2 : ∀ c ∈ L.filter isCode, P c = true) : L.all P = true := by
  refine List.all_eq_true.mpr fun c hc => ?_
  have h := List.all_eq_true.mp h1 c hc
  rcases Bool.eq_false_or_eq_true (isCode c) with hi | hi
  · exact h2 c (List.mem_filter.mpr ⟨hc, hi⟩)
  · simpa [hi] using h
set_option maxRecDepth 65536 in
theorem w_c0 : (Jvm.Cond.code x code maxLocals ret).before args0 about1 = true := code_word (m := ⟨1, 1⟩) (meth := k1m1) (c := k1c1) (by decide +kernel) rfl rfl rfl (by decide +kernel)
set_option maxRecDepth 65536 in
theorem w_c1 : (Jvm.Cond.code ({ cls := "com/example/tideline/tideline/engine/CompactionLog", name := "places", desc := "([Z)[I" } : Jvm.MethodName) prog_68_method_10_code (6 : Nat) (Option.some (Jvm.ClassFile.FieldType.array Jvm.ClassFile.FieldType.int))).before args0 about1 = true := code_word (m := ⟨4, 0⟩) (meth := k4m0) (c := k4c0) (by decide +kernel) rfl rfl rfl (by decide +kernel)
set_option maxRecDepth 65536 in
theorem w_c2 : (Jvm.Cond.code ({ cls := "com/example/tideline/tideline/engine/CompactionLogPlacesPinLaw", name := "same", desc := "([I[II)Z" } : Jvm.MethodName) method_3_code (3 : Nat) (Option.some Jvm.ClassFile.FieldType.boolean)).before args0 about1 = true := code_word (m := ⟨1, 2⟩) (meth := k1m2) (c := k1c2) (by decide +kernel) rfl rfl rfl (by decide +kernel)
def codes1 : List Jvm.Cond := [Jvm.Cond.code x code maxLocals ret, Jvm.Cond.code ({ cls := "com/example/tideline/tideline/engine/CompactionLog", name := "places", desc := "([Z)[I" } : Jvm.MethodName) prog_68_method_10_code (6 : Nat) (Option.some (Jvm.ClassFile.FieldType.array Jvm.ClassFile.FieldType.int)), Jvm.Cond.code ({ cls := "com/example/tideline/tideline/engine/CompactionLogPlacesPinLaw", name := "same", desc := "([I[II)Z" } : Jvm.MethodName) method_3_code (3 : Nat) (Option.some Jvm.ClassFile.FieldType.boolean)]
set_option maxRecDepth 65536 in
theorem codes_eq : words1.filter isCode = codes1 := rfl
theorem w_codes : ∀ c ∈ words1.filter isCode, c.before args0 about1 = true := by
  rw [codes_eq]
  intro c hc
  simp only [codes1, List.mem_cons, List.not_mem_nil, or_false] at hc
  rcases hc with rfl | rfl | rfl
  · exact w_c0
  · exact w_c1
  · exact w_c2
set_option maxRecDepth 65536 in
theorem w_t1 : words1.all (fun c => isCode c || c.before args0 about1) = true := by decide +kernel
theorem w_tables : (allAtoms (Jvm.Cond.code x code maxLocals ret :: tables_1)).before args0 about1 = true := by
  rw [allAtoms_all]
  show words1.all (fun c => c.before args0 about1) = true
  refine all_split ?_ w_codes
  rw [w_t1]
set_option maxRecDepth 65536 in
theorem w_case : (Jvm.Cond.and given_1 narrow_1).before args0 about1 = true := by decide +kernel
theorem w_applies : (headSpec (Jvm.Cond.code x code maxLocals ret :: tables_1) room_1).applies x e0.platform about1 = true :=
  (Spec.applies_iff w_frames).mpr ⟨w_running, w_runnable, w_alone, w_named, w_hears, w_ripe, w_room, w_tables⟩
theorem atStart : AtStart classFile x code maxLocals ret World_1 tables_1 room_1 Calls_1 rest_1 Pre_1 launch0 p0 e0 about1 theMethod args0 below0 :=
  ⟨lists_1, trivial, launch0.admits_env _ _ _, launch0.least_env, fairChoices_fair.cas, fairChoices_fair.clock, w_frames, w_args, w_heap, w_applies, trivial, trivial, w_case⟩
end start1
theorem witness_1 : WitnessClaimed_1 := ⟨start1.p0, start1.e0, start1.about1, start1.theMethod, start1.args0, start1.below0, start1.atStart⟩
end Jvm.Pilot.@@N@@
