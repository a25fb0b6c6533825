import JvmDerived
import JvmDerived.Pilot.@@N@@Statement
import JvmDerived.Pilot.@@N@@Code
set_option linter.unusedVariables false
set_option linter.unusedSimpArgs false
namespace Jvm.Pilot.@@N@@
open Jvm Jvm.ClassFile Sem Op Lib Jvm.Free Jvm.Stand Jvm.LawKit Jvm.RoadKit Bundle Jvm.Pilot.@@N@@.Jvm.D
/-! own kit: walks in continuation form -/
def Go (p : Program) (e : Env) (below : List Frame) (P : State → Outcome → Prop) (A : State) : Prop := ∃ t o, Steps p.tables e below A t ∧ t.status = .running ∧ Ended t below o ∧ P t o
/-- the facts on the body that is walked, which no step moves -/
def Bo (Z : State) (p : Program) (s : State) (m : MethodId) (meth : Method) (c : Code) (own nm : String) (bytes : ByteArray) (maxL : Nat) (ret : Option FieldType) : Prop :=
  p.tables.exec = Jvm.exec ∧ c.code = bytes ∧ c.maxLocals = maxL ∧ Z.Warmed39 s.vm ∧ s.vm.findClass own = some m.cls ∧ meth.name = nm ∧ meth.sig.returnType = ret ∧ meth.locks = false
/-- what an end must be -/
def EndsQ (s : State) (Q : Option Value → Heap → List Loc → Prop) (cc ss : Nat) : State → Outcome → Prop := fun t o => ∃ v L, o = .returned v ∧ Q v t.heap L ∧ FrameEnd s o t L cc ss
/-- a body's contract -/
def Ctr (l : Launch) (Z : State) (y : MethodName) (bytes : ByteArray) (maxL : Nat) (ret : Option FieldType) (rm : Room) (as : Array Value) (h0 : Heap) (Q : Option Value → Heap → List Loc → Prop) : Prop :=
  ∀ ws, MetFree l y (head1 (Jvm.Cond.code y bytes maxL ret :: ws) rm) (fun a U => a = as ∧ Z.Warmed39 U.vm ∧ U.heap = h0) (fun _ _ _ _ _ => True) (fun _ U o U' => ∃ v L, o = .returned v ∧ Q v U'.heap L ∧ FrameEnd U o U' L rm.cells rm.slots)
/-! own: an array whose whole contents are known -/
def Av (Z : State) (h : Heap) (a : Addr) (ty : FieldType) (vs : List Value) : Prop := ∃ c : Cell, Arr Z h a c ty ∧ c.slots.toList = vs
theorem Av.lt {Z : State} {h : Heap} {a : Addr} {ty : FieldType} {vs : List Value} (A : Av Z h a ty vs) : a < h.size := by obtain ⟨c, q, -⟩ := A; exact q.lt
theorem Av.ext {Z : State} {h h' : Heap} {a : Addr} {ty : FieldType} {vs : List Value} (A : Av Z h a ty vs) (E : Ext h h') : Av Z h' a ty vs := by obtain ⟨c, q, r⟩ := A; exact ⟨c, q.ext E, r⟩
theorem Av.other {Z : State} {h h' : Heap} {a b : Addr} {ty : FieldType} {vs : List Value} {sl : Nat} {v : Value} (A : Av Z h b ty vs) (W : Wr h h' a sl v) (q : b ≠ a) : Av Z h' b ty vs := by obtain ⟨c, q1, r⟩ := A; exact ⟨c, q1.other W q, r⟩
theorem Av.keep {Z : State} {h h' : Heap} {a : Addr} {ty : FieldType} {vs : List Value} {ws : List Addr} (A : Av Z h a ty vs) (K : Keep h h' ws) (q : a ∉ ws) : Av Z h' a ty vs := by obtain ⟨c, q1, r⟩ := A; exact ⟨c, ⟨K.2.1 a c q1.1 q, q1.2⟩, r⟩
theorem Av.set {Z : State} {h h' : Heap} {a : Addr} {ty : FieldType} {vs : List Value} {i : Nat} {v : Value} (A : Av Z h a ty vs) (W : Wr h h' a i v) : Av Z h' a ty (vs.set i v) := by
  obtain ⟨c, q, rfl⟩ := A
  exact ⟨_, q.same W, by simp [Cell.setSlot]⟩
theorem Av.inb {Z : State} {h : Heap} {a : Addr} {ty : FieldType} {vs : List Value} {c : Cell} (q : c.slots.toList = vs) {j : Int32} {i : Nat} (hi : j.toNatClampNeg = i) (h0 : ¬ j < 0) (hl : i < vs.length) : ¬ (j < 0 ∨ c.slots.size ≤ j.toNatClampNeg) := by
  subst q hi
  simp only [Array.length_toList] at hl
  exact fun z => z.elim h0 (fun w => absurd hl (Nat.not_lt.mpr w))
section OwnKit
variable {p : Program} {l : Launch} {e : Env} {R : Room} {s : State} {m : MethodId} {args : Array Value} {below : List Frame} {meth : Method} {c : Code} {T : State} {locs : List Loc} {cells slots : Nat} {Z : State} {a0 : Array Value} {h : Heap} {P : State → Outcome → Prop} {pc : Nat} {Ls : Array Slot} {st rest : List Value} {own nm : String} {bytes : ByteArray} {maxL : Nat} {ret : Option FieldType}
theorem Bo.x (B : Bo Z p s m meth c own nm bytes maxL ret) : p.tables.exec = Jvm.exec := B.1
theorem Bo.z (B : Bo Z p s m meth c own nm bytes maxL ret) : Z.Warmed39 s.vm := B.2.2.2.1
theorem Bo.o (B : Bo Z p s m meth c own nm bytes maxL ret) : s.vm.findClass own = some m.cls := B.2.2.2.2.1
theorem Bo.d (B : Bo Z p s m meth c own nm bytes maxL ret) {r : Except ClassFile.DecodeError (ClassFile.Instr × Nat)} (q : decode bytes pc = r) : decode c.code pc = r := hb B.2.1 q
theorem Bo.n (B : Bo Z p s m meth c own nm bytes maxL ret) : meth.name = nm := B.2.2.2.2.2.1
theorem Bo.r (B : Bo Z p s m meth c own nm bytes maxL ret) : meth.sig.returnType = ret := B.2.2.2.2.2.2.1
theorem Bo.lk (B : Bo Z p s m meth c own nm bytes maxL ret) : meth.locks = false := B.2.2.2.2.2.2.2
theorem Bo.mx (B : Bo Z p s m meth c own nm bytes maxL ret) (q : Ls.size = maxL) {pc : Nat} {st : List Value} : (mkF m pc Ls st).locals.size = c.maxLocals := by rw [B.2.2.1]; exact q
theorem Go.via {A A' : State} (q : ∀ t, Steps p.tables e below A' t → Steps p.tables e below A t) (g : Go p e below P A') : Go p e below P A := by
  obtain ⟨t, o, h1, h2⟩ := g
  exact ⟨t, o, q t h1, h2⟩
theorem Go.cast {f f' : JFrame} (q : f = f') (g : Go p e below P (T.setTop f')) : Go p e below P (T.setTop f) := q ▸ g
theorem Ctr.of {y : MethodName} {rm : Room} {as : Array Value} {h0 : Heap} {Q : Option Value → Heap → List Loc → Prop} (hn : plainName y.cls = true)
    (body : ∀ (p : Program) (e : Env) (s : State) (m : MethodId) (below : List Frame) (meth : Method) (c : Code) (T : State), Stand p l e rm s m as below meth c T [] 0 0 → Bo Z p s m meth c y.cls y.name bytes maxL ret → T.heap = h0 → Go p e below (EndsQ s Q rm.cells rm.slots) (T.setTop (entryFrame m as maxL))) :
    Ctr l Z y bytes maxL ret rm as h0 Q := by
  intro ws
  refine MetFree.of_bodySF (plainFor_of_name hn) hisR ?_
  intro p e s m args below meth c s₁ Bd hml0 hP hK
  obtain ⟨rfl, hZ, hh⟩ := hP
  exact body p e s m below meth c s₁ (Stand.of_body Bd) ⟨Bd.exec, Bd.bytes, hml0, hZ, findClass_of_methodNamed Bd.named, (name_of_methodNamed Bd.named Bd.method).1, Bd.returns, BodyLoose.notSynchronized Bd⟩ (by rw [← hh, Bd.state]; rfl)
theorem Ctr.back {y : MethodName} {rm : Room} {as : Array Value} {Q : Option Value → Heap → List Loc → Prop} {W len : Nat} (C : Ctr l Z y bytes maxL ret rm as h Q) (hZ : Z.Warmed39 s.vm) (wc : (Jvm.Cond.code y bytes maxL ret).before a0 Z = true) (wz : (Jvm.Cond.initialized y.cls).before a0 Z = true) (hf : rm.frames + 1 ≤ R.frames) (hl : W + (maxL + 11) + rm.locals ≤ R.locals) :
    Back l R p e below s args y len W (fun A a => a = as ∧ A.U.heap = h ∧ A.cells + rm.cells ≤ R.cells ∧ A.slots + rm.slots ≤ R.slots)
      (fun A _ v B => ∃ L, Q v B.U.heap L ∧ B.locs = A.locs ++ L ∧ B.cells = A.cells + rm.cells ∧ B.slots = A.slots + rm.slots) := backOf (C []) hZ wc wz hf hl
theorem g_iloadN (X : Stand p l e R s m args below meth c T locs cells slots) (B : Bo Z p s m meth c own nm bytes maxL ret) {k : Fin 4} {v : Int32} (q : decode bytes pc = .ok (.iload_n k, 1)) (pc' : Nat) (hp : pc + 1 = pc') (u : Ls[k.val]? = some (.val (.int v))) (g : Go p e below P (T.setTop (mkF m pc' Ls (.int v :: st)))) : Go p e below P (T.setTop (mkF m pc Ls st)) := by
  subst hp
  exact g.via fun _ => XS.iloadN X.here B.x rfl (B.d q) u
theorem g_iload (X : Stand p l e R s m args below meth c T locs cells slots) (B : Bo Z p s m meth c own nm bytes maxL ret) {k : Nat} {v : Int32} (q : decode bytes pc = .ok (.iload k, 2)) (pc' : Nat) (hp : pc + 2 = pc') (u : Ls[k]? = some (.val (.int v))) (g : Go p e below P (T.setTop (mkF m pc' Ls (.int v :: st)))) : Go p e below P (T.setTop (mkF m pc Ls st)) := by
  subst hp
  exact g.via fun _ => XS.iload X.here B.x rfl (B.d q) u
theorem g_aloadN (X : Stand p l e R s m args below meth c T locs cells slots) (B : Bo Z p s m meth c own nm bytes maxL ret) {k : Fin 4} {v : Value} (q : decode bytes pc = .ok (.aload_n k, 1)) (pc' : Nat) (hp : pc + 1 = pc') (u : Ls[k.val]? = some (.val v)) (i : v.isRef = true) (g : Go p e below P (T.setTop (mkF m pc' Ls (v :: st)))) : Go p e below P (T.setTop (mkF m pc Ls st)) := by
  subst hp
  exact g.via fun _ => XS.aloadN X.here B.x rfl (B.d q) u i
theorem g_aload (X : Stand p l e R s m args below meth c T locs cells slots) (B : Bo Z p s m meth c own nm bytes maxL ret) {k : Nat} {v : Value} (q : decode bytes pc = .ok (.aload k, 2)) (pc' : Nat) (hp : pc + 2 = pc') (u : Ls[k]? = some (.val v)) (i : v.isRef = true) (g : Go p e below P (T.setTop (mkF m pc' Ls (v :: st)))) : Go p e below P (T.setTop (mkF m pc Ls st)) := by
  subst hp
  exact g.via fun _ => XS.aload X.here B.x rfl (B.d q) u i
theorem g_lloadN (X : Stand p l e R s m args below meth c T locs cells slots) (B : Bo Z p s m meth c own nm bytes maxL ret) {k : Fin 4} {v : Int64} (q : decode bytes pc = .ok (.lload_n k, 1)) (pc' : Nat) (hp : pc + 1 = pc') (u : Ls[k.val]? = some (.val (.long v))) (g : Go p e below P (T.setTop (mkF m pc' Ls (.long v :: st)))) : Go p e below P (T.setTop (mkF m pc Ls st)) := by
  subst hp
  exact g.via fun _ => XT.lloadN X.here B.x rfl (B.d q) u
theorem g_lload (X : Stand p l e R s m args below meth c T locs cells slots) (B : Bo Z p s m meth c own nm bytes maxL ret) {k : Nat} {v : Int64} (q : decode bytes pc = .ok (.lload k, 2)) (pc' : Nat) (hp : pc + 2 = pc') (u : Ls[k]? = some (.val (.long v))) (g : Go p e below P (T.setTop (mkF m pc' Ls (.long v :: st)))) : Go p e below P (T.setTop (mkF m pc Ls st)) := by
  subst hp
  exact g.via fun _ => XT.lload X.here B.x rfl (B.d q) u
theorem g_istoreN (X : Stand p l e R s m args below meth c T locs cells slots) (B : Bo Z p s m meth c own nm bytes maxL ret) {k : Fin 4} {x : Int32} (l' : Array Slot) (q : decode bytes pc = .ok (.istore_n k, 1)) (pc' : Nat) (hp : pc + 1 = pc') (u : storeLocals Ls k.val (.int x) = some l') (g : Go p e below P (T.setTop (mkF m pc' l' st))) : Go p e below P (T.setTop (mkF m pc Ls (.int x :: st))) := by
  subst hp
  exact g.via fun _ => XS.istoreN X.here B.x rfl (B.d q) rfl u
theorem g_istore (X : Stand p l e R s m args below meth c T locs cells slots) (B : Bo Z p s m meth c own nm bytes maxL ret) {k : Nat} {x : Int32} (l' : Array Slot) (q : decode bytes pc = .ok (.istore k, 2)) (pc' : Nat) (hp : pc + 2 = pc') (u : storeLocals Ls k (.int x) = some l') (g : Go p e below P (T.setTop (mkF m pc' l' st))) : Go p e below P (T.setTop (mkF m pc Ls (.int x :: st))) := by
  subst hp
  exact g.via fun _ => XS.istore X.here B.x rfl (B.d q) rfl u
theorem g_astoreN (X : Stand p l e R s m args below meth c T locs cells slots) (B : Bo Z p s m meth c own nm bytes maxL ret) {k : Fin 4} {x : Value} (l' : Array Slot) (q : decode bytes pc = .ok (.astore_n k, 1)) (pc' : Nat) (hp : pc + 1 = pc') (i : x.isRef = true) (u : storeLocals Ls k.val x = some l') (g : Go p e below P (T.setTop (mkF m pc' l' st))) : Go p e below P (T.setTop (mkF m pc Ls (x :: st))) := by
  subst hp
  exact g.via fun _ => XS.astoreN X.here B.x rfl (B.d q) rfl i u
theorem g_astore (X : Stand p l e R s m args below meth c T locs cells slots) (B : Bo Z p s m meth c own nm bytes maxL ret) {k : Nat} {x : Value} (l' : Array Slot) (q : decode bytes pc = .ok (.astore k, 2)) (pc' : Nat) (hp : pc + 2 = pc') (i : x.isRef = true) (u : storeLocals Ls k x = some l') (g : Go p e below P (T.setTop (mkF m pc' l' st))) : Go p e below P (T.setTop (mkF m pc Ls (x :: st))) := by
  subst hp
  exact g.via fun _ => XS.astore X.here B.x rfl (B.d q) rfl i u
theorem g_lstoreN (X : Stand p l e R s m args below meth c T locs cells slots) (B : Bo Z p s m meth c own nm bytes maxL ret) {k : Fin 4} {x : Int64} (l' : Array Slot) (q : decode bytes pc = .ok (.lstore_n k, 1)) (pc' : Nat) (hp : pc + 1 = pc') (u : storeLocals Ls k.val (.long x) = some l') (g : Go p e below P (T.setTop (mkF m pc' l' st))) : Go p e below P (T.setTop (mkF m pc Ls (.long x :: st))) := by
  subst hp
  exact g.via fun _ => XT.lstoreN X.here B.x rfl (B.d q) rfl u
theorem g_lstore (X : Stand p l e R s m args below meth c T locs cells slots) (B : Bo Z p s m meth c own nm bytes maxL ret) {k : Nat} {x : Int64} (l' : Array Slot) (q : decode bytes pc = .ok (.lstore k, 2)) (pc' : Nat) (hp : pc + 2 = pc') (u : storeLocals Ls k (.long x) = some l') (g : Go p e below P (T.setTop (mkF m pc' l' st))) : Go p e below P (T.setTop (mkF m pc Ls (.long x :: st))) := by
  subst hp
  exact g.via fun _ => XT.lstore X.here B.x rfl (B.d q) rfl u
theorem g_iconst (X : Stand p l e R s m args below meth c T locs cells slots) (B : Bo Z p s m meth c own nm bytes maxL ret) {i : Int} (v : Int32) (q : decode bytes pc = .ok (.iconst i, 1)) (pc' : Nat) (hp : pc + 1 = pc') (u : Int32.ofInt i = v) (g : Go p e below P (T.setTop (mkF m pc' Ls (.int v :: st)))) : Go p e below P (T.setTop (mkF m pc Ls st)) := by
  subst hp
  exact g.via fun _ => XT.iconstV X.here B.x rfl v (B.d q) u
theorem g_bipush (X : Stand p l e R s m args below meth c T locs cells slots) (B : Bo Z p s m meth c own nm bytes maxL ret) {i : Int} (v : Int32) (q : decode bytes pc = .ok (.bipush i, 2)) (pc' : Nat) (hp : pc + 2 = pc') (u : (Int8.ofInt i).toInt32 = v) (g : Go p e below P (T.setTop (mkF m pc' Ls (.int v :: st)))) : Go p e below P (T.setTop (mkF m pc Ls st)) := by
  subst hp
  exact g.via fun _ => XT.bipushV X.here B.x rfl v (B.d q) u
theorem g_sipush (X : Stand p l e R s m args below meth c T locs cells slots) (B : Bo Z p s m meth c own nm bytes maxL ret) {i : Int} (v : Int32) (q : decode bytes pc = .ok (.sipush i, 3)) (pc' : Nat) (hp : pc + 3 = pc') (u : (Int16.ofInt i).toInt32 = v) (g : Go p e below P (T.setTop (mkF m pc' Ls (.int v :: st)))) : Go p e below P (T.setTop (mkF m pc Ls st)) := by
  subst hp
  exact g.via fun _ => XT.sipushV X.here B.x rfl v (B.d q) u
theorem g_lconst (X : Stand p l e R s m args below meth c T locs cells slots) (B : Bo Z p s m meth c own nm bytes maxL ret) {k : Fin 2} (v : Int64) (q : decode bytes pc = .ok (.lconst k, 1)) (pc' : Nat) (hp : pc + 1 = pc') (u : Int64.ofNat k = v) (g : Go p e below P (T.setTop (mkF m pc' Ls (.long v :: st)))) : Go p e below P (T.setTop (mkF m pc Ls st)) := by
  subst hp
  exact g.via fun _ => XT.lconstV X.here B.x rfl v (B.d q) u
theorem g_aconstNull (X : Stand p l e R s m args below meth c T locs cells slots) (B : Bo Z p s m meth c own nm bytes maxL ret)  (q : decode bytes pc = .ok (.aconst_null, 1)) (pc' : Nat) (hp : pc + 1 = pc')  (g : Go p e below P (T.setTop (mkF m pc' Ls (.null :: st)))) : Go p e below P (T.setTop (mkF m pc Ls st)) := by
  subst hp
  exact g.via fun _ => XS.aconstNull X.here B.x rfl (B.d q)
theorem g_iadd (X : Stand p l e R s m args below meth c T locs cells slots) (B : Bo Z p s m meth c own nm bytes maxL ret) {x y : Int32} (q : decode bytes pc = .ok (.iadd, 1)) (pc' : Nat) (hp : pc + 1 = pc')  (g : Go p e below P (T.setTop (mkF m pc' Ls (.int (x + y) :: st)))) : Go p e below P (T.setTop (mkF m pc Ls (.int y :: .int x :: st))) := by
  subst hp
  exact g.via fun _ => XS.iadd X.here B.x rfl (B.d q) rfl
theorem g_isub (X : Stand p l e R s m args below meth c T locs cells slots) (B : Bo Z p s m meth c own nm bytes maxL ret) {x y : Int32} (q : decode bytes pc = .ok (.isub, 1)) (pc' : Nat) (hp : pc + 1 = pc')  (g : Go p e below P (T.setTop (mkF m pc' Ls (.int (x - y) :: st)))) : Go p e below P (T.setTop (mkF m pc Ls (.int y :: .int x :: st))) := by
  subst hp
  exact g.via fun _ => XS.isub X.here B.x rfl (B.d q) rfl
theorem g_imul (X : Stand p l e R s m args below meth c T locs cells slots) (B : Bo Z p s m meth c own nm bytes maxL ret) {x y : Int32} (q : decode bytes pc = .ok (.imul, 1)) (pc' : Nat) (hp : pc + 1 = pc')  (g : Go p e below P (T.setTop (mkF m pc' Ls (.int (x * y) :: st)))) : Go p e below P (T.setTop (mkF m pc Ls (.int y :: .int x :: st))) := by
  subst hp
  exact g.via fun _ => XS.imul X.here B.x rfl (B.d q) rfl
theorem g_iand (X : Stand p l e R s m args below meth c T locs cells slots) (B : Bo Z p s m meth c own nm bytes maxL ret) {x y : Int32} (q : decode bytes pc = .ok (.iand, 1)) (pc' : Nat) (hp : pc + 1 = pc')  (g : Go p e below P (T.setTop (mkF m pc' Ls (.int (x &&& y) :: st)))) : Go p e below P (T.setTop (mkF m pc Ls (.int y :: .int x :: st))) := by
  subst hp
  exact g.via fun _ => XS.iand X.here B.x rfl (B.d q) rfl
theorem g_ixor (X : Stand p l e R s m args below meth c T locs cells slots) (B : Bo Z p s m meth c own nm bytes maxL ret) {x y : Int32} (q : decode bytes pc = .ok (.ixor, 1)) (pc' : Nat) (hp : pc + 1 = pc')  (g : Go p e below P (T.setTop (mkF m pc' Ls (.int (x ^^^ y) :: st)))) : Go p e below P (T.setTop (mkF m pc Ls (.int y :: .int x :: st))) := by
  subst hp
  exact g.via fun _ => XT.ixor X.here B.x rfl (B.d q) rfl
theorem g_ior (X : Stand p l e R s m args below meth c T locs cells slots) (B : Bo Z p s m meth c own nm bytes maxL ret) {x y : Int32} (q : decode bytes pc = .ok (.ior, 1)) (pc' : Nat) (hp : pc + 1 = pc')  (g : Go p e below P (T.setTop (mkF m pc' Ls (.int (x ||| y) :: st)))) : Go p e below P (T.setTop (mkF m pc Ls (.int y :: .int x :: st))) := by
  subst hp
  exact g.via fun _ => XT.ior X.here B.x rfl (B.d q) rfl
theorem g_ishl (X : Stand p l e R s m args below meth c T locs cells slots) (B : Bo Z p s m meth c own nm bytes maxL ret) {x y : Int32} (q : decode bytes pc = .ok (.ishl, 1)) (pc' : Nat) (hp : pc + 1 = pc')  (g : Go p e below P (T.setTop (mkF m pc' Ls (.int (x <<< (y &&& 31)) :: st)))) : Go p e below P (T.setTop (mkF m pc Ls (.int y :: .int x :: st))) := by
  subst hp
  exact g.via fun _ => XT.ishl X.here B.x rfl (B.d q) rfl
theorem g_ishr (X : Stand p l e R s m args below meth c T locs cells slots) (B : Bo Z p s m meth c own nm bytes maxL ret) {x y : Int32} (q : decode bytes pc = .ok (.ishr, 1)) (pc' : Nat) (hp : pc + 1 = pc')  (g : Go p e below P (T.setTop (mkF m pc' Ls (.int (x >>> (y &&& 31)) :: st)))) : Go p e below P (T.setTop (mkF m pc Ls (.int y :: .int x :: st))) := by
  subst hp
  exact g.via fun _ => XT.ishr X.here B.x rfl (B.d q) rfl
theorem g_iushr (X : Stand p l e R s m args below meth c T locs cells slots) (B : Bo Z p s m meth c own nm bytes maxL ret) {x y : Int32} (q : decode bytes pc = .ok (.iushr, 1)) (pc' : Nat) (hp : pc + 1 = pc')  (g : Go p e below P (T.setTop (mkF m pc' Ls (.int (XT.ushr x y) :: st)))) : Go p e below P (T.setTop (mkF m pc Ls (.int y :: .int x :: st))) := by
  subst hp
  exact g.via fun _ => XT.iushr X.here B.x rfl (B.d q) rfl
theorem g_idiv (X : Stand p l e R s m args below meth c T locs cells slots) (B : Bo Z p s m meth c own nm bytes maxL ret) {x y : Int32} (q : decode bytes pc = .ok (.idiv, 1)) (pc' : Nat) (hp : pc + 1 = pc') (u : y ≠ 0) (g : Go p e below P (T.setTop (mkF m pc' Ls (.int (x / y) :: st)))) : Go p e below P (T.setTop (mkF m pc Ls (.int y :: .int x :: st))) := by
  subst hp
  exact g.via fun _ => XS.idiv X.here B.x rfl (B.d q) rfl u
theorem g_irem (X : Stand p l e R s m args below meth c T locs cells slots) (B : Bo Z p s m meth c own nm bytes maxL ret) {x y : Int32} (q : decode bytes pc = .ok (.irem, 1)) (pc' : Nat) (hp : pc + 1 = pc') (u : y ≠ 0) (g : Go p e below P (T.setTop (mkF m pc' Ls (.int (x % y) :: st)))) : Go p e below P (T.setTop (mkF m pc Ls (.int y :: .int x :: st))) := by
  subst hp
  exact g.via fun _ => iremM X B.x rfl (B.d q) rfl u
theorem g_ineg (X : Stand p l e R s m args below meth c T locs cells slots) (B : Bo Z p s m meth c own nm bytes maxL ret) {x : Int32} (q : decode bytes pc = .ok (.ineg, 1)) (pc' : Nat) (hp : pc + 1 = pc')  (g : Go p e below P (T.setTop (mkF m pc' Ls (.int (-x) :: st)))) : Go p e below P (T.setTop (mkF m pc Ls (.int x :: st))) := by
  subst hp
  exact g.via fun _ => XS.ineg X.here B.x rfl (B.d q) rfl
theorem g_iinc (X : Stand p l e R s m args below meth c T locs cells slots) (B : Bo Z p s m meth c own nm bytes maxL ret) {k : Nat} {cst : Int} {x : Int32} (l' : Array Slot) (v : Int32) (q : decode bytes pc = .ok (.iinc k cst, 3)) (pc' : Nat) (hp : pc + 3 = pc') (w : Int32.ofInt cst = v) (u : Ls[k]? = some (.val (.int x))) (u2 : storeLocals Ls k (.int (x + v)) = some l') (g : Go p e below P (T.setTop (mkF m pc' l' st))) : Go p e below P (T.setTop (mkF m pc Ls st)) := by
  subst hp
  exact g.via fun _ => XT.iincV X.here B.x rfl v (B.d q) w u u2
theorem g_ladd (X : Stand p l e R s m args below meth c T locs cells slots) (B : Bo Z p s m meth c own nm bytes maxL ret) {x y : Int64} (q : decode bytes pc = .ok (.ladd, 1)) (pc' : Nat) (hp : pc + 1 = pc')  (g : Go p e below P (T.setTop (mkF m pc' Ls (.long (x + y) :: st)))) : Go p e below P (T.setTop (mkF m pc Ls (.long y :: .long x :: st))) := by
  subst hp
  exact g.via fun _ => XT.ladd X.here B.x rfl (B.d q) rfl
theorem g_lsub (X : Stand p l e R s m args below meth c T locs cells slots) (B : Bo Z p s m meth c own nm bytes maxL ret) {x y : Int64} (q : decode bytes pc = .ok (.lsub, 1)) (pc' : Nat) (hp : pc + 1 = pc')  (g : Go p e below P (T.setTop (mkF m pc' Ls (.long (x - y) :: st)))) : Go p e below P (T.setTop (mkF m pc Ls (.long y :: .long x :: st))) := by
  subst hp
  exact g.via fun _ => XT.lsub X.here B.x rfl (B.d q) rfl
theorem g_land (X : Stand p l e R s m args below meth c T locs cells slots) (B : Bo Z p s m meth c own nm bytes maxL ret) {x y : Int64} (q : decode bytes pc = .ok (.land, 1)) (pc' : Nat) (hp : pc + 1 = pc')  (g : Go p e below P (T.setTop (mkF m pc' Ls (.long (x &&& y) :: st)))) : Go p e below P (T.setTop (mkF m pc Ls (.long y :: .long x :: st))) := by
  subst hp
  exact g.via fun _ => XT.land X.here B.x rfl (B.d q) rfl
theorem g_lor (X : Stand p l e R s m args below meth c T locs cells slots) (B : Bo Z p s m meth c own nm bytes maxL ret) {x y : Int64} (q : decode bytes pc = .ok (.lor, 1)) (pc' : Nat) (hp : pc + 1 = pc')  (g : Go p e below P (T.setTop (mkF m pc' Ls (.long (x ||| y) :: st)))) : Go p e below P (T.setTop (mkF m pc Ls (.long y :: .long x :: st))) := by
  subst hp
  exact g.via fun _ => XT.lor X.here B.x rfl (B.d q) rfl
theorem g_lxor (X : Stand p l e R s m args below meth c T locs cells slots) (B : Bo Z p s m meth c own nm bytes maxL ret) {x y : Int64} (q : decode bytes pc = .ok (.lxor, 1)) (pc' : Nat) (hp : pc + 1 = pc')  (g : Go p e below P (T.setTop (mkF m pc' Ls (.long (x ^^^ y) :: st)))) : Go p e below P (T.setTop (mkF m pc Ls (.long y :: .long x :: st))) := by
  subst hp
  exact g.via fun _ => XT.lxor X.here B.x rfl (B.d q) rfl
theorem g_lmul (X : Stand p l e R s m args below meth c T locs cells slots) (B : Bo Z p s m meth c own nm bytes maxL ret) {x y : Int64} (q : decode bytes pc = .ok (.lmul, 1)) (pc' : Nat) (hp : pc + 1 = pc')  (g : Go p e below P (T.setTop (mkF m pc' Ls (.long (x * y) :: st)))) : Go p e below P (T.setTop (mkF m pc Ls (.long y :: .long x :: st))) := by
  subst hp
  exact g.via fun _ => XT.lmul X.here B.x rfl (B.d q) rfl
theorem g_dup (X : Stand p l e R s m args below meth c T locs cells slots) (B : Bo Z p s m meth c own nm bytes maxL ret) {x : Value} (q : decode bytes pc = .ok (.dup, 1)) (pc' : Nat) (hp : pc + 1 = pc') (u : x.category = 1) (g : Go p e below P (T.setTop (mkF m pc' Ls (x :: x :: st)))) : Go p e below P (T.setTop (mkF m pc Ls (x :: st))) := by
  subst hp
  exact g.via fun _ => XS.dup X.here B.x rfl (B.d q) rfl u
theorem g_pop (X : Stand p l e R s m args below meth c T locs cells slots) (B : Bo Z p s m meth c own nm bytes maxL ret) {x : Value} (q : decode bytes pc = .ok (.pop, 1)) (pc' : Nat) (hp : pc + 1 = pc') (u : x.category = 1) (g : Go p e below P (T.setTop (mkF m pc' Ls st))) : Go p e below P (T.setTop (mkF m pc Ls (x :: st))) := by
  subst hp
  exact g.via fun _ => XT.pop X.here B.x rfl (B.d q) rfl u
theorem g_goto (X : Stand p l e R s m args below meth c T locs cells slots) (B : Bo Z p s m meth c own nm bytes maxL ret) {o : Int} (q : decode bytes pc = .ok (.goto o, 3)) (pc' : Nat) (hp : ((pc : Int) + o).toNat = pc') (ho : 0 ≤ (pc : Int) + o) (g : Go p e below P (T.setTop (mkF m pc' Ls st))) : Go p e below P (T.setTop (mkF m pc Ls st)) := g.via fun _ => XS.goto X.here B.x rfl rfl (B.d q) ho hp
theorem g_icmp_eq (X : Stand p l e R s m args below meth c T locs cells slots) (B : Bo Z p s m meth c own nm bytes maxL ret) {o : Int} {x y : Int32} (q : decode bytes pc = .ok (.if_icmp .eq o, 3)) (pt pf : Nat) (hp : ((pc : Int) + o).toNat = pt) (ho : 0 ≤ (pc : Int) + o) (hf : pc + 3 = pf) (g1 : x = y → Go p e below P (T.setTop (mkF m pt Ls st))) (g2 : ¬ x = y → Go p e below P (T.setTop (mkF m pf Ls st))) : Go p e below P (T.setTop (mkF m pc Ls (.int y :: .int x :: st))) := by
  subst hf
  by_cases w : x = y
  · exact (g1 w).via fun _ => XS.icmpYes X.here B.x rfl rfl (B.d q) rfl (by simp [if_icmp.holds, w, Int32.not_lt, Int32.not_le]) ho hp
  · exact (g2 w).via fun _ => XS.icmpNo X.here B.x rfl (B.d q) rfl (by simp [if_icmp.holds, w, Int32.not_lt, Int32.not_le])
theorem g_icmp_ne (X : Stand p l e R s m args below meth c T locs cells slots) (B : Bo Z p s m meth c own nm bytes maxL ret) {o : Int} {x y : Int32} (q : decode bytes pc = .ok (.if_icmp .ne o, 3)) (pt pf : Nat) (hp : ((pc : Int) + o).toNat = pt) (ho : 0 ≤ (pc : Int) + o) (hf : pc + 3 = pf) (g1 : ¬ x = y → Go p e below P (T.setTop (mkF m pt Ls st))) (g2 : x = y → Go p e below P (T.setTop (mkF m pf Ls st))) : Go p e below P (T.setTop (mkF m pc Ls (.int y :: .int x :: st))) := by
  subst hf
  by_cases w : x = y
  · exact (g2 w).via fun _ => XS.icmpNo X.here B.x rfl (B.d q) rfl (by simp [if_icmp.holds, w, Int32.not_lt, Int32.not_le])
  · exact (g1 w).via fun _ => XS.icmpYes X.here B.x rfl rfl (B.d q) rfl (by simpa [if_icmp.holds, Int32.not_lt, Int32.not_le] using w) ho hp
theorem g_icmp_lt (X : Stand p l e R s m args below meth c T locs cells slots) (B : Bo Z p s m meth c own nm bytes maxL ret) {o : Int} {x y : Int32} (q : decode bytes pc = .ok (.if_icmp .lt o, 3)) (pt pf : Nat) (hp : ((pc : Int) + o).toNat = pt) (ho : 0 ≤ (pc : Int) + o) (hf : pc + 3 = pf) (g1 : x < y → Go p e below P (T.setTop (mkF m pt Ls st))) (g2 : ¬ x < y → Go p e below P (T.setTop (mkF m pf Ls st))) : Go p e below P (T.setTop (mkF m pc Ls (.int y :: .int x :: st))) := by
  subst hf
  by_cases w : x < y
  · exact (g1 w).via fun _ => XS.icmpYes X.here B.x rfl rfl (B.d q) rfl (by simp [if_icmp.holds, w, Int32.not_lt, Int32.not_le]) ho hp
  · exact (g2 w).via fun _ => XS.icmpNo X.here B.x rfl (B.d q) rfl (by simp [if_icmp.holds, w, Int32.not_lt, Int32.not_le])
theorem g_icmp_ge (X : Stand p l e R s m args below meth c T locs cells slots) (B : Bo Z p s m meth c own nm bytes maxL ret) {o : Int} {x y : Int32} (q : decode bytes pc = .ok (.if_icmp .ge o, 3)) (pt pf : Nat) (hp : ((pc : Int) + o).toNat = pt) (ho : 0 ≤ (pc : Int) + o) (hf : pc + 3 = pf) (g1 : ¬ x < y → Go p e below P (T.setTop (mkF m pt Ls st))) (g2 : x < y → Go p e below P (T.setTop (mkF m pf Ls st))) : Go p e below P (T.setTop (mkF m pc Ls (.int y :: .int x :: st))) := by
  subst hf
  by_cases w : x < y
  · exact (g2 w).via fun _ => XS.icmpNo X.here B.x rfl (B.d q) rfl (by simp [if_icmp.holds, w, Int32.not_lt, Int32.not_le])
  · exact (g1 w).via fun _ => XS.icmpYes X.here B.x rfl rfl (B.d q) rfl (by simpa [if_icmp.holds, Int32.not_lt, Int32.not_le] using w) ho hp
theorem g_icmp_gt (X : Stand p l e R s m args below meth c T locs cells slots) (B : Bo Z p s m meth c own nm bytes maxL ret) {o : Int} {x y : Int32} (q : decode bytes pc = .ok (.if_icmp .gt o, 3)) (pt pf : Nat) (hp : ((pc : Int) + o).toNat = pt) (ho : 0 ≤ (pc : Int) + o) (hf : pc + 3 = pf) (g1 : y < x → Go p e below P (T.setTop (mkF m pt Ls st))) (g2 : ¬ y < x → Go p e below P (T.setTop (mkF m pf Ls st))) : Go p e below P (T.setTop (mkF m pc Ls (.int y :: .int x :: st))) := by
  subst hf
  by_cases w : y < x
  · exact (g1 w).via fun _ => XS.icmpYes X.here B.x rfl rfl (B.d q) rfl (by simp [if_icmp.holds, w, Int32.not_lt, Int32.not_le]) ho hp
  · exact (g2 w).via fun _ => XS.icmpNo X.here B.x rfl (B.d q) rfl (by simp [if_icmp.holds, w, Int32.not_lt, Int32.not_le])
theorem g_icmp_le (X : Stand p l e R s m args below meth c T locs cells slots) (B : Bo Z p s m meth c own nm bytes maxL ret) {o : Int} {x y : Int32} (q : decode bytes pc = .ok (.if_icmp .le o, 3)) (pt pf : Nat) (hp : ((pc : Int) + o).toNat = pt) (ho : 0 ≤ (pc : Int) + o) (hf : pc + 3 = pf) (g1 : ¬ y < x → Go p e below P (T.setTop (mkF m pt Ls st))) (g2 : y < x → Go p e below P (T.setTop (mkF m pf Ls st))) : Go p e below P (T.setTop (mkF m pc Ls (.int y :: .int x :: st))) := by
  subst hf
  by_cases w : y < x
  · exact (g2 w).via fun _ => XS.icmpNo X.here B.x rfl (B.d q) rfl (by simp [if_icmp.holds, w, Int32.not_lt, Int32.not_le])
  · exact (g1 w).via fun _ => XS.icmpYes X.here B.x rfl rfl (B.d q) rfl (by simpa [if_icmp.holds, Int32.not_lt, Int32.not_le] using w) ho hp
theorem g_if_eq (X : Stand p l e R s m args below meth c T locs cells slots) (B : Bo Z p s m meth c own nm bytes maxL ret) {o : Int} {x : Int32} (q : decode bytes pc = .ok (.ifCond .eq o, 3)) (pt pf : Nat) (hp : ((pc : Int) + o).toNat = pt) (ho : 0 ≤ (pc : Int) + o) (hf : pc + 3 = pf) (g1 : x = 0 → Go p e below P (T.setTop (mkF m pt Ls st))) (g2 : ¬ x = 0 → Go p e below P (T.setTop (mkF m pf Ls st))) : Go p e below P (T.setTop (mkF m pc Ls (.int x :: st))) := by
  subst hf
  by_cases w : x = 0
  · exact (g1 w).via fun _ => XS.ifYes X.here B.x rfl rfl (B.d q) rfl (by simp [ifCond.holds, w, Int32.not_lt, Int32.not_le]) ho hp
  · exact (g2 w).via fun _ => XS.ifNo X.here B.x rfl (B.d q) rfl (by simp [ifCond.holds, w, Int32.not_lt, Int32.not_le])
theorem g_if_ne (X : Stand p l e R s m args below meth c T locs cells slots) (B : Bo Z p s m meth c own nm bytes maxL ret) {o : Int} {x : Int32} (q : decode bytes pc = .ok (.ifCond .ne o, 3)) (pt pf : Nat) (hp : ((pc : Int) + o).toNat = pt) (ho : 0 ≤ (pc : Int) + o) (hf : pc + 3 = pf) (g1 : ¬ x = 0 → Go p e below P (T.setTop (mkF m pt Ls st))) (g2 : x = 0 → Go p e below P (T.setTop (mkF m pf Ls st))) : Go p e below P (T.setTop (mkF m pc Ls (.int x :: st))) := by
  subst hf
  by_cases w : x = 0
  · exact (g2 w).via fun _ => XS.ifNo X.here B.x rfl (B.d q) rfl (by simp [ifCond.holds, w, Int32.not_lt, Int32.not_le])
  · exact (g1 w).via fun _ => XS.ifYes X.here B.x rfl rfl (B.d q) rfl (by simpa [ifCond.holds, Int32.not_lt, Int32.not_le] using w) ho hp
theorem g_if_lt (X : Stand p l e R s m args below meth c T locs cells slots) (B : Bo Z p s m meth c own nm bytes maxL ret) {o : Int} {x : Int32} (q : decode bytes pc = .ok (.ifCond .lt o, 3)) (pt pf : Nat) (hp : ((pc : Int) + o).toNat = pt) (ho : 0 ≤ (pc : Int) + o) (hf : pc + 3 = pf) (g1 : x < 0 → Go p e below P (T.setTop (mkF m pt Ls st))) (g2 : ¬ x < 0 → Go p e below P (T.setTop (mkF m pf Ls st))) : Go p e below P (T.setTop (mkF m pc Ls (.int x :: st))) := by
  subst hf
  by_cases w : x < 0
  · exact (g1 w).via fun _ => XS.ifYes X.here B.x rfl rfl (B.d q) rfl (by simp [ifCond.holds, w, Int32.not_lt, Int32.not_le]) ho hp
  · exact (g2 w).via fun _ => XS.ifNo X.here B.x rfl (B.d q) rfl (by simp [ifCond.holds, w, Int32.not_lt, Int32.not_le])
theorem g_if_ge (X : Stand p l e R s m args below meth c T locs cells slots) (B : Bo Z p s m meth c own nm bytes maxL ret) {o : Int} {x : Int32} (q : decode bytes pc = .ok (.ifCond .ge o, 3)) (pt pf : Nat) (hp : ((pc : Int) + o).toNat = pt) (ho : 0 ≤ (pc : Int) + o) (hf : pc + 3 = pf) (g1 : ¬ x < 0 → Go p e below P (T.setTop (mkF m pt Ls st))) (g2 : x < 0 → Go p e below P (T.setTop (mkF m pf Ls st))) : Go p e below P (T.setTop (mkF m pc Ls (.int x :: st))) := by
  subst hf
  by_cases w : x < 0
  · exact (g2 w).via fun _ => XS.ifNo X.here B.x rfl (B.d q) rfl (by simp [ifCond.holds, w, Int32.not_lt, Int32.not_le])
  · exact (g1 w).via fun _ => XS.ifYes X.here B.x rfl rfl (B.d q) rfl (by simpa [ifCond.holds, Int32.not_lt, Int32.not_le] using w) ho hp
theorem g_if_gt (X : Stand p l e R s m args below meth c T locs cells slots) (B : Bo Z p s m meth c own nm bytes maxL ret) {o : Int} {x : Int32} (q : decode bytes pc = .ok (.ifCond .gt o, 3)) (pt pf : Nat) (hp : ((pc : Int) + o).toNat = pt) (ho : 0 ≤ (pc : Int) + o) (hf : pc + 3 = pf) (g1 : 0 < x → Go p e below P (T.setTop (mkF m pt Ls st))) (g2 : ¬ 0 < x → Go p e below P (T.setTop (mkF m pf Ls st))) : Go p e below P (T.setTop (mkF m pc Ls (.int x :: st))) := by
  subst hf
  by_cases w : 0 < x
  · exact (g1 w).via fun _ => XS.ifYes X.here B.x rfl rfl (B.d q) rfl (by simp [ifCond.holds, w, Int32.not_lt, Int32.not_le]) ho hp
  · exact (g2 w).via fun _ => XS.ifNo X.here B.x rfl (B.d q) rfl (by simp [ifCond.holds, w, Int32.not_lt, Int32.not_le])
theorem g_if_le (X : Stand p l e R s m args below meth c T locs cells slots) (B : Bo Z p s m meth c own nm bytes maxL ret) {o : Int} {x : Int32} (q : decode bytes pc = .ok (.ifCond .le o, 3)) (pt pf : Nat) (hp : ((pc : Int) + o).toNat = pt) (ho : 0 ≤ (pc : Int) + o) (hf : pc + 3 = pf) (g1 : ¬ 0 < x → Go p e below P (T.setTop (mkF m pt Ls st))) (g2 : 0 < x → Go p e below P (T.setTop (mkF m pf Ls st))) : Go p e below P (T.setTop (mkF m pc Ls (.int x :: st))) := by
  subst hf
  by_cases w : 0 < x
  · exact (g2 w).via fun _ => XS.ifNo X.here B.x rfl (B.d q) rfl (by simp [ifCond.holds, w, Int32.not_lt, Int32.not_le])
  · exact (g1 w).via fun _ => XS.ifYes X.here B.x rfl rfl (B.d q) rfl (by simpa [ifCond.holds, Int32.not_lt, Int32.not_le] using w) ho hp
theorem g_acmp_eq (X : Stand p l e R s m args below meth c T locs cells slots) (B : Bo Z p s m meth c own nm bytes maxL ret) {o : Int} {x y : Value} (q : decode bytes pc = .ok (.if_acmp .eq o, 3)) (pt pf : Nat) (hp : ((pc : Int) + o).toNat = pt) (ho : 0 ≤ (pc : Int) + o) (hf : pc + 3 = pf) (i : x.isRef = true) (j : y.isRef = true) (g1 : x = y → Go p e below P (T.setTop (mkF m pt Ls st))) (g2 : ¬ x = y → Go p e below P (T.setTop (mkF m pf Ls st))) : Go p e below P (T.setTop (mkF m pc Ls (y :: x :: st))) := by
  subst hf
  by_cases w : x = y
  · exact (g1 w).via fun _ => XT.acmpYes X.here B.x rfl rfl (B.d q) rfl i j (by simp [XT.acmp, w]) ho hp
  · exact (g2 w).via fun _ => XT.acmpNo X.here B.x rfl (B.d q) rfl i j (by simp [XT.acmp, w])
theorem g_acmp_ne (X : Stand p l e R s m args below meth c T locs cells slots) (B : Bo Z p s m meth c own nm bytes maxL ret) {o : Int} {x y : Value} (q : decode bytes pc = .ok (.if_acmp .ne o, 3)) (pt pf : Nat) (hp : ((pc : Int) + o).toNat = pt) (ho : 0 ≤ (pc : Int) + o) (hf : pc + 3 = pf) (i : x.isRef = true) (j : y.isRef = true) (g1 : ¬ x = y → Go p e below P (T.setTop (mkF m pt Ls st))) (g2 : x = y → Go p e below P (T.setTop (mkF m pf Ls st))) : Go p e below P (T.setTop (mkF m pc Ls (y :: x :: st))) := by
  subst hf
  by_cases w : x = y
  · exact (g2 w).via fun _ => XT.acmpNo X.here B.x rfl (B.d q) rfl i j (by simp [XT.acmp, w])
  · exact (g1 w).via fun _ => XT.acmpYes X.here B.x rfl rfl (B.d q) rfl i j (by simp [XT.acmp, w]) ho hp
theorem g_ifnull (X : Stand p l e R s m args below meth c T locs cells slots) (B : Bo Z p s m meth c own nm bytes maxL ret) {o : Int} {v : Value} (q : decode bytes pc = .ok (.ifnull o, 3)) (pt pf : Nat) (hp : ((pc : Int) + o).toNat = pt) (ho : 0 ≤ (pc : Int) + o) (hf : pc + 3 = pf) (i : v.isRef = true) (g1 : v = .null → Go p e below P (T.setTop (mkF m pt Ls st))) (g2 : ¬ v = .null → Go p e below P (T.setTop (mkF m pf Ls st))) : Go p e below P (T.setTop (mkF m pc Ls (v :: st))) := by
  subst hf
  by_cases w : v = .null
  · exact (g1 w).via fun _ => XT.nullYes X.here B.x rfl rfl (B.d q) rfl w ho hp
  · exact (g2 w).via fun _ => XT.nullNo X.here B.x rfl (B.d q) rfl i w
theorem g_ifnonnull (X : Stand p l e R s m args below meth c T locs cells slots) (B : Bo Z p s m meth c own nm bytes maxL ret) {o : Int} {v : Value} (q : decode bytes pc = .ok (.ifnonnull o, 3)) (pt pf : Nat) (hp : ((pc : Int) + o).toNat = pt) (ho : 0 ≤ (pc : Int) + o) (hf : pc + 3 = pf) (i : v.isRef = true) (g1 : ¬ v = .null → Go p e below P (T.setTop (mkF m pt Ls st))) (g2 : v = .null → Go p e below P (T.setTop (mkF m pf Ls st))) : Go p e below P (T.setTop (mkF m pc Ls (v :: st))) := by
  subst hf
  by_cases w : v = .null
  · exact (g2 w).via fun _ => XT.nonnullNo X.here B.x rfl (B.d q) rfl w
  · exact (g1 w).via fun _ => XT.nonnullYes X.here B.x rfl rfl (B.d q) rfl i w ho hp
theorem g_tsw (X : Stand p l e R s m args below meth c T locs cells slots) (B : Bo Z p s m meth c own nm bytes maxL ret) {dflt low high : Int} {offs : Array Int} {len : Nat} {i : Int32} (o : Int) (q : decode bytes pc = .ok (.tableswitch dflt low high offs, len)) (pc' : Nat) (hin : ¬ (i.toInt < low ∨ i.toInt > high)) (hoff : offs[(i.toInt - low).toNat]? = some o) (ho : 0 ≤ (pc : Int) + o) (hp : ((pc : Int) + o).toNat = pc') (g : Go p e below P (T.setTop (mkF m pc' Ls st))) : Go p e below P (T.setTop (mkF m pc Ls (.int i :: st))) := g.via fun t => XS.tswIn (target := t) (g := mkF m pc Ls (.int i :: st)) (pc0 := pc) (pc' := pc') X.here B.x rfl rfl (B.d q) rfl hin hoff ho hp
theorem g_ldcI (X : Stand p l e R s m args below meth c T locs cells slots) (B : Bo Z p s m meth c own nm bytes maxL ret) {index : Nat} {v : Int32} (q : decode bytes pc = .ok (.ldc index, 2)) (pc' : Nat) (hp : pc + 2 = pc') (w : (Jvm.Cond.constant own index v).before a0 Z = true) (g : Go p e below P (T.setTop (mkF m pc' Ls (.int v :: st)))) : Go p e below P (T.setTop (mkF m pc Ls st)) := by
  subst hp
  exact g.via fun _ => X.ldcI B.x B.o (mvT B.z w) rfl (B.d q)
theorem g_getS (X : Stand p l e R s m args below meth c T locs cells slots) (B : Bo Z p s m meth c own nm bytes maxL ret) {R0 O n d : String} {index : Nat} {v : Value} (q : decode bytes pc = .ok (.getstatic index, 3)) (pc' : Nat) (hp : pc + 3 = pc') (w : (Jvm.Cond.fieldLink own index R0 n d).before a0 Z = true) (via : Via Z R0 O n d) (eT : T.heap = h) (F : Sta Z h O n d v) (k : ∀ T', Stand p l e R s m args below meth c T' locs cells slots → T'.heap = h → Go p e below P (T'.setTop (mkF m pc' Ls (v :: st)))) : Go p e below P (T.setTop (mkF m pc Ls st)) := by
  subst hp
  obtain ⟨T', X', e', q'⟩ := getS (host := "") X B.x B.z B.o w via eT F (g := mkF m pc Ls st) rfl (B.d q)
  exact (k T' X' e').via q'
theorem g_getF (X : Stand p l e R s m args below meth c T locs cells slots) (B : Bo Z p s m meth c own nm bytes maxL ret) {R0 O n d : String} {index : Nat} {a : Addr} {v : Value} (q : decode bytes pc = .ok (.getfield index, 3)) (pc' : Nat) (hp : pc + 3 = pc') (w : (Jvm.Cond.fieldLink own index R0 n d).before a0 Z = true) (via : Via Z R0 O n d) (eT : T.heap = h) (F : Fld Z h a O n d v) (k : ∀ T', Stand p l e R s m args below meth c T' locs cells slots → T'.heap = h → Go p e below P (T'.setTop (mkF m pc' Ls (v :: st)))) : Go p e below P (T.setTop (mkF m pc Ls (.ref a :: st))) := by
  subst hp
  obtain ⟨T', X', e', q'⟩ := getF (host := "") X B.x B.z B.o (Or.inl w) via eT F (g := mkF m pc Ls (.ref a :: st)) rfl rfl (B.d q)
  exact (k T' X' e').via q'
theorem g_putF (X : Stand p l e R s m args below meth c T locs cells slots) (B : Bo Z p s m meth c own nm bytes maxL ret) {R0 O n d C : String} {index kk : Nat} {ty : FieldType} {a : Addr} {v old : Value} (q : decode bytes pc = .ok (.putfield index, 3)) (pc' : Nat) (hp : pc + 3 = pc') (w : (Jvm.Cond.fieldLink own index R0 n d).before a0 Z = true) (via : Via Z R0 O n d) (eT : T.heap = h) (F : Fld Z h a O n d old) (E : Exa Z h a C) (L : (Jvm.Cond.lays C O n d).before a0 Z = true ∨ ((Jvm.Cond.laysFinal C O n d).before a0 Z = true ∧ own = O ∧ nm = "<init>")) (wi : (Jvm.Cond.instantiable C kk).before a0 Z = true) (hty : parseFieldDescriptor d = some ty) (hn : narrow ty v = v) (hf : fits ty v = true) (k : ∀ T' h', Stand p l e R s m args below meth c T' (locs ++ [⟨a, Jvm.RoadKit.slotOf Z O n d⟩]) cells slots → T'.heap = h' → Wr h h' a (Jvm.RoadKit.slotOf Z O n d) v → Go p e below P (T'.setTop (mkF m pc' Ls st))) : Go p e below P (T.setTop (mkF m pc Ls (v :: .ref a :: st))) := by
  subst hp
  obtain ⟨T', h', X', e', W', q'⟩ := putF (host := "") X B.x B.z B.o (Or.inl w) via eT F E (L.imp id fun y => ⟨y.1, y.2.1, B.n.trans y.2.2⟩) wi hty hn hf (g := mkF m pc Ls (v :: .ref a :: st)) rfl rfl (B.d q)
  exact (k T' h' X' e' W').via q'
theorem g_new (X : Stand p l e R s m args below meth c T locs cells slots) (B : Bo Z p s m meth c own nm bytes maxL ret) {C : String} {index n : Nat} (q : decode bytes pc = .ok (.new index, 3)) (pc' : Nat) (hp : pc + 3 = pc') (w : (Jvm.Cond.classLink own index C).before a0 Z = true) (wi : (Jvm.Cond.instantiable C n).before a0 Z = true) (wz : (Jvm.Cond.initialized C).before a0 Z = true) (eT : T.heap = h) (hc : cells + 1 ≤ R.cells) (hl : slots + n ≤ R.slots) (k : ∀ T' h' a, Stand p l e R s m args below meth c T' locs (cells + 1) (slots + n) → T'.heap = h' → a = h.size → Ext h h' → Exa Z h' a C → (∀ {O nm d : String} {ty : FieldType}, Laid Z a0 C O nm d → parseFieldDescriptor d = some ty → Fld Z h' a O nm d (defaultValue ty)) → Go p e below P (T'.setTop (mkF m pc' Ls (.ref a :: st)))) : Go p e below P (T.setTop (mkF m pc Ls st)) := by
  subst hp
  obtain ⟨T', h', X', e', E', A', D', -, q'⟩ := newO X B.x B.z B.o w wi wz eT (g := mkF m pc Ls st) rfl (B.d q) hc hl
  exact (k T' h' _ X' e' rfl E' A' D').via q'
theorem g_callS (X : Stand p l e R s m args below meth c T locs cells slots) (B : Bo Z p s m meth c own nm bytes maxL ret) {y : MethodName} {by' : ByteArray} {mx : Nat} {rt : Option FieldType} {rm : Room} {Q : Option Value → Heap → List Loc → Prop} {index : Nat} (argsL rest : List Value) (q : decode bytes pc = .ok (.invokestatic index, 3)) (pc' : Nat) (hp : pc + 3 = pc') (hst : st = argsL.reverse ++ rest) (w1 : (Jvm.Cond.methodLink own index y).before a0 Z = true) (w2 : (Jvm.Cond.static y).before a0 Z = true) (w3 : (Jvm.Cond.initialized y.cls).before a0 Z = true) (w4 : (Jvm.Cond.code y by' mx rt).before a0 Z = true) (hy : y.cls ≠ "java/lang/invoke/MethodHandle" ∧ y.cls ≠ "java/lang/invoke/VarHandle") (hlen : ∀ sig, parseMethodDescriptor y.desc = some sig → argsL.length = sig.parameters.length) (C : Ctr l Z y by' mx rt rm argsL.toArray h Q) (eT : T.heap = h) (hm : Ls.size = maxL) (W : Nat) (hW : (rest.map fun v => v.category).sum ≤ W) (hf : rm.frames + 1 ≤ R.frames) (hl : W + (mx + 11) + rm.locals ≤ R.locals) (hc : cells + rm.cells ≤ R.cells) (hs : slots + rm.slots ≤ R.slots) (k : ∀ v T' h' L', Stand p l e R s m args below meth c T' (locs ++ L') (cells + rm.cells) (slots + rm.slots) → T'.heap = h' → Q v h' L' → Go p e below P (T'.setTop (mkF m pc' Ls (v.toList ++ rest)))) : Go p e below P (T.setTop (mkF m pc Ls st)) := by
  subst hp hst
  obtain ⟨v, _, ⟨T', L', k', n'⟩, -, X', ⟨Lc, hQ, l1, l2, l3⟩, q'⟩ := Jvm.LawKit.callS X B.x (y := y) B.o (mvT B.z w1) (mvT B.z w2) (mvT B.z w3) (mvT B.z w4) hy (C.back (W := W) B.z w4 w3 hf hl) (g := mkF m pc Ls (argsL.reverse ++ rest)) rfl (B.mx hm) (argsL := argsL) (rest := rest) hlen rfl (by show 2 * 0 + _ ≤ _; omega) (B.d q) (fun _ _ => ⟨rfl, eT, hc, hs⟩)
  dsimp only [Pt.U, Pt.locs, Pt.cells, Pt.slots] at X' l1 l2 l3 q' hQ
  subst l1 l2 l3
  exact (k v T' _ Lc X' rfl hQ).via q'
theorem g_callV (X : Stand p l e R s m args below meth c T locs cells slots) (B : Bo Z p s m meth c own nm bytes maxL ret) {z : MethodName} {by' : ByteArray} {mx : Nat} {rt : Option FieldType} {rm : Room} {Q : Option Value → Heap → List Loc → Prop} {index : Nat} {K : String} {a : Addr} (argsL rest : List Value) (q : decode bytes pc = .ok (.invokevirtual index, 3)) (pc' : Nat) (hp : pc + 3 = pc') (hst : st = argsL.reverse ++ .ref a :: rest) (w1 : (Jvm.Cond.methodLink own index z).before a0 Z = true) (w2 : (Jvm.Cond.declares z).before a0 Z = true) (w3 : (Jvm.Cond.selects K z z).before a0 Z = true) (w4 : (Jvm.Cond.instanceMethod z).before a0 Z = true) (w5 : (Jvm.Cond.initialized z.cls).before a0 Z = true) (w6 : (Jvm.Cond.code z by' mx rt).before a0 Z = true) (hy : z.cls ≠ "java/lang/invoke/MethodHandle" ∧ z.cls ≠ "java/lang/invoke/VarHandle") (hlen : ∀ sig, parseMethodDescriptor z.desc = some sig → argsL.length = sig.parameters.length) (E : Exa Z h a K) (C : Ctr l Z z by' mx rt rm (.ref a :: argsL).toArray h Q) (eT : T.heap = h) (hm : Ls.size = maxL) (W : Nat) (hW : (rest.map fun v => v.category).sum ≤ W) (hf : rm.frames + 1 ≤ R.frames) (hl : W + (mx + 11) + rm.locals ≤ R.locals) (hc : cells + rm.cells ≤ R.cells) (hs : slots + rm.slots ≤ R.slots) (k : ∀ v T' h' L', Stand p l e R s m args below meth c T' (locs ++ L') (cells + rm.cells) (slots + rm.slots) → T'.heap = h' → Q v h' L' → Go p e below P (T'.setTop (mkF m pc' Ls (v.toList ++ rest)))) : Go p e below P (T.setTop (mkF m pc Ls st)) := by
  subst hp hst
  obtain ⟨cq, kq, qa, qb, qc⟩ := isOf B.z eT E
  obtain ⟨v, _, ⟨T', L', k', n'⟩, -, X', ⟨Lc, hQ, l1, l2, l3⟩, q'⟩ := X.virtualBack B.x (y := z) (z := z) B.o (mvT B.z w1) (mvT B.z w2) (notFace_of_selects (args := #[]) (mvT B.z w3)) (mvT B.z w3) (mvT B.z w4) hy (C.back (W := W) B.z w6 w5 hf hl) qa qc (g := mkF m pc Ls (argsL.reverse ++ .ref a :: rest)) rfl (B.mx hm) (Steps.refl _) (argsL := argsL) (rest := rest) hlen rfl (by show 2 * 0 + _ ≤ _; omega) (B.d q) (fun _ _ => ⟨rfl, eT, hc, hs⟩)
  dsimp only [Pt.U, Pt.locs, Pt.cells, Pt.slots] at X' l1 l2 l3 q' hQ
  subst l1 l2 l3
  exact (k v T' _ Lc X' rfl hQ).via fun _ => q'.trans
theorem g_callN (X : Stand p l e R s m args below meth c T locs cells slots) (B : Bo Z p s m meth c own nm bytes maxL ret) {y : MethodName} {by' : ByteArray} {mx : Nat} {rm : Room} {Q : Option Value → Heap → List Loc → Prop} {index : Nat} {a : Addr} (argsL rest : List Value) (q : decode bytes pc = .ok (.invokespecial index, 3)) (pc' : Nat) (hp : pc + 3 = pc') (hst : st = argsL.reverse ++ .ref a :: rest) (hn : y.name = "<init>") (w1 : (Jvm.Cond.methodLink own index y).before a0 Z = true) (w2 : (Jvm.Cond.instanceMethod y).before a0 Z = true) (w3 : (Jvm.Cond.code y by' mx none).before a0 Z = true) (w4 : (Jvm.Cond.initialized y.cls).before a0 Z = true) (hy : y.cls ≠ "java/lang/invoke/MethodHandle" ∧ y.cls ≠ "java/lang/invoke/VarHandle") (hlen : ∀ sig, parseMethodDescriptor y.desc = some sig → argsL.length = sig.parameters.length) (C : Ctr l Z y by' mx none rm (.ref a :: argsL).toArray h Q) (eT : T.heap = h) (hm : Ls.size = maxL) (W : Nat) (hW : (rest.map fun v => v.category).sum ≤ W) (hf : rm.frames + 1 ≤ R.frames) (hl : W + (mx + 11) + rm.locals ≤ R.locals) (hc : cells + rm.cells ≤ R.cells) (hs : slots + rm.slots ≤ R.slots) (k : ∀ v T' h' L', Stand p l e R s m args below meth c T' (locs ++ L') (cells + rm.cells) (slots + rm.slots) → T'.heap = h' → Q v h' L' → Go p e below P (T'.setTop (mkF m pc' Ls (v.toList ++ rest)))) : Go p e below P (T.setTop (mkF m pc Ls st)) := by
  subst hp hst
  obtain ⟨v, _, ⟨T', L', k', n'⟩, -, X', ⟨Lc, hQ, l1, l2, l3⟩, q'⟩ := X.specialBack B.x (y := y) hn B.o (mvT B.z w1) (mvT B.z w2) (mvT B.z w3) hy (C.back (W := W) B.z w3 w4 hf hl) (g := mkF m pc Ls (argsL.reverse ++ .ref a :: rest)) rfl (B.mx hm) (Steps.refl _) (a := a) (argsL := argsL) (rest := rest) hlen rfl (by show 2 * 0 + _ ≤ _; omega) (B.d q) (fun _ _ => ⟨rfl, eT, hc, hs⟩)
  dsimp only [Pt.U, Pt.locs, Pt.cells, Pt.slots] at X' l1 l2 l3 q' hQ
  subst l1 l2 l3
  exact (k v T' _ Lc X' rfl hQ).via fun _ => q'.trans
theorem g_newP (X : Stand p l e R s m args below meth c T locs cells slots) (B : Bo Z p s m meth c own nm bytes maxL ret) {aty : ArrayType} {n : Int32} (vs : List Value) (q : decode bytes pc = .ok (.newarray aty, 2)) (pc' : Nat) (hp : pc + 2 = pc') (w : (Jvm.Cond.arrayClass (newarray.typeOf aty)).before a0 Z = true) (eT : T.heap = h) (hn : ¬ n < 0) (hvs : List.replicate n.toNatClampNeg (defaultValue (newarray.typeOf aty)) = vs) (hb : vs.length * 8 ≤ 536870912) (hc : cells + 1 ≤ R.cells) (hl : slots + vs.length ≤ R.slots) (k : ∀ T' h' a, Stand p l e R s m args below meth c T' locs (cells + 1) (slots + vs.length) → T'.heap = h' → a = h.size → Ext h h' → Av Z h' a (newarray.typeOf aty) vs → Go p e below P (T'.setTop (mkF m pc' Ls (.ref a :: st)))) : Go p e below P (T.setTop (mkF m pc Ls (.int n :: st))) := by
  subst hp
  obtain ⟨T', h', cA, X', e', E', A', q'⟩ := newP X B.x B.z w eT (g := mkF m pc Ls (.int n :: st)) rfl (B.d q) rfl hn (cap := vs.length) (by rw [← hvs]; simp) hb hc hl
  exact (k T' h' _ X' e' rfl E' ⟨_, A', by rw [← hvs]; simp [newA]⟩).via q'
theorem g_castore (X : Stand p l e R s m args below meth c T locs cells slots) (B : Bo Z p s m meth c own nm bytes maxL ret) {a : Addr} {j x : Int32} {vs : List Value} (i : Nat) (q : decode bytes pc = .ok (.castore, 1)) (pc' : Nat) (hp : pc + 1 = pc') (eT : T.heap = h) (A : Av Z h a .char vs) (hi : j.toNatClampNeg = i) (h0 : ¬ j < 0) (hl : i < vs.length) (k : ∀ T' h', Stand p l e R s m args below meth c T' (locs ++ [⟨a, i⟩]) cells slots → T'.heap = h' → Wr h h' a i (.int (nar .char x)) → Av Z h' a .char (vs.set i (.int (nar .char x))) → Go p e below P (T'.setTop (mkF m pc' Ls st))) : Go p e below P (T.setTop (mkF m pc Ls (.int x :: .int j :: .ref a :: st))) := by
  subst hp
  have A' := A
  obtain ⟨cl, Ar, hv⟩ := A'
  obtain ⟨T', h', X', e', W', q'⟩ := stC X B.x B.z eT Ar (Av.inb (Z := Z) (h := h) (a := a) (ty := .char) hv hi h0 hl) (g := mkF m pc Ls (.int x :: .int j :: .ref a :: st)) rfl rfl (B.d q)
  subst hi
  exact (k T' h' X' e' W' (A.set W')).via q'
theorem g_bastoreB (X : Stand p l e R s m args below meth c T locs cells slots) (B : Bo Z p s m meth c own nm bytes maxL ret) {a : Addr} {j x : Int32} {vs : List Value} (i : Nat) (q : decode bytes pc = .ok (.bastore, 1)) (pc' : Nat) (hp : pc + 1 = pc') (eT : T.heap = h) (A : Av Z h a .byte vs) (hi : j.toNatClampNeg = i) (h0 : ¬ j < 0) (hl : i < vs.length) (k : ∀ T' h', Stand p l e R s m args below meth c T' (locs ++ [⟨a, i⟩]) cells slots → T'.heap = h' → Wr h h' a i (.int (nar .byte x)) → Av Z h' a .byte (vs.set i (.int (nar .byte x))) → Go p e below P (T'.setTop (mkF m pc' Ls st))) : Go p e below P (T.setTop (mkF m pc Ls (.int x :: .int j :: .ref a :: st))) := by
  subst hp
  have A' := A
  obtain ⟨cl, Ar, hv⟩ := A'
  obtain ⟨T', h', X', e', W', q'⟩ := stB X B.x B.z eT Ar (Av.inb (Z := Z) (h := h) (a := a) (ty := .byte) hv hi h0 hl) (g := mkF m pc Ls (.int x :: .int j :: .ref a :: st)) rfl rfl (B.d q)
  subst hi
  exact (k T' h' X' e' W' (A.set W')).via q'
theorem g_bastoreZ (X : Stand p l e R s m args below meth c T locs cells slots) (B : Bo Z p s m meth c own nm bytes maxL ret) {a : Addr} {j x : Int32} {vs : List Value} (i : Nat) (q : decode bytes pc = .ok (.bastore, 1)) (pc' : Nat) (hp : pc + 1 = pc') (eT : T.heap = h) (A : Av Z h a .boolean vs) (hi : j.toNatClampNeg = i) (h0 : ¬ j < 0) (hl : i < vs.length) (k : ∀ T' h', Stand p l e R s m args below meth c T' (locs ++ [⟨a, i⟩]) cells slots → T'.heap = h' → Wr h h' a i (.int (nar .boolean x)) → Av Z h' a .boolean (vs.set i (.int (nar .boolean x))) → Go p e below P (T'.setTop (mkF m pc' Ls st))) : Go p e below P (T.setTop (mkF m pc Ls (.int x :: .int j :: .ref a :: st))) := by
  subst hp
  have A' := A
  obtain ⟨cl, Ar, hv⟩ := A'
  obtain ⟨T', h', X', e', W', q'⟩ := stZ X B.x B.z eT Ar (Av.inb (Z := Z) (h := h) (a := a) (ty := .boolean) hv hi h0 hl) (g := mkF m pc Ls (.int x :: .int j :: .ref a :: st)) rfl rfl (B.d q)
  subst hi
  exact (k T' h' X' e' W' (A.set W')).via q'
theorem g_caload (X : Stand p l e R s m args below meth c T locs cells slots) (B : Bo Z p s m meth c own nm bytes maxL ret) {a : Addr} {j : Int32} {vs : List Value} {v : Value} (i : Nat) (q : decode bytes pc = .ok (.caload, 1)) (pc' : Nat) (hp : pc + 1 = pc') (eT : T.heap = h) (A : Av Z h a .char vs) (hi : j.toNatClampNeg = i) (h0 : ¬ j < 0) (hv : vs[i]? = some v) (g : Go p e below P (T.setTop (mkF m pc' Ls (v :: st)))) : Go p e below P (T.setTop (mkF m pc Ls (.int j :: .ref a :: st))) := by
  subst hp
  obtain ⟨cl, Ar, hc⟩ := A
  have hl : i < vs.length := (List.getElem?_eq_some_iff.mp hv).1
  have hin := Av.inb (Z := Z) (h := h) (a := a) (ty := .char) hc hi h0 hl
  have k1 : T.heap[a]? = some cl := by rw [eT]; exact Ar.1
  have k2 : s.isArrayOf cl .char := State.isArrayOf_alike B.z.alike Ar.2.1
  have k3 : cl.slots[j.toNatClampNeg]? = some v := by rw [hi, ← hv, ← hc]; simp
  exact g.via fun t => X.caload B.x k1 k2 Ar.2.2 hin k3 (g := mkF m pc Ls (.int j :: .ref a :: st)) rfl rfl (B.d q) t
theorem g_baloadB (X : Stand p l e R s m args below meth c T locs cells slots) (B : Bo Z p s m meth c own nm bytes maxL ret) {a : Addr} {j : Int32} {vs : List Value} {v : Value} (i : Nat) (q : decode bytes pc = .ok (.baload, 1)) (pc' : Nat) (hp : pc + 1 = pc') (eT : T.heap = h) (A : Av Z h a .byte vs) (hi : j.toNatClampNeg = i) (h0 : ¬ j < 0) (hv : vs[i]? = some v) (g : Go p e below P (T.setTop (mkF m pc' Ls (v :: st)))) : Go p e below P (T.setTop (mkF m pc Ls (.int j :: .ref a :: st))) := by
  subst hp
  obtain ⟨cl, Ar, hc⟩ := A
  have hl : i < vs.length := (List.getElem?_eq_some_iff.mp hv).1
  have hin := Av.inb (Z := Z) (h := h) (a := a) (ty := .byte) hc hi h0 hl
  have k1 : T.heap[a]? = some cl := by rw [eT]; exact Ar.1
  have k2 : s.isArrayOf cl .byte := State.isArrayOf_alike B.z.alike Ar.2.1
  have k3 : cl.slots[j.toNatClampNeg]? = some v := by rw [hi, ← hv, ← hc]; simp
  exact g.via fun t => X.baloadBytes B.x k1 k2 Ar.2.2 hin k3 (g := mkF m pc Ls (.int j :: .ref a :: st)) rfl rfl (B.d q) t
theorem g_baloadZ (X : Stand p l e R s m args below meth c T locs cells slots) (B : Bo Z p s m meth c own nm bytes maxL ret) {a : Addr} {j : Int32} {vs : List Value} {v : Value} (i : Nat) (q : decode bytes pc = .ok (.baload, 1)) (pc' : Nat) (hp : pc + 1 = pc') (eT : T.heap = h) (A : Av Z h a .boolean vs) (hi : j.toNatClampNeg = i) (h0 : ¬ j < 0) (hv : vs[i]? = some v) (g : Go p e below P (T.setTop (mkF m pc' Ls (v :: st)))) : Go p e below P (T.setTop (mkF m pc Ls (.int j :: .ref a :: st))) := by
  subst hp
  obtain ⟨cl, Ar, hc⟩ := A
  have hl : i < vs.length := (List.getElem?_eq_some_iff.mp hv).1
  have hin := Av.inb (Z := Z) (h := h) (a := a) (ty := .boolean) hc hi h0 hl
  have k1 : T.heap[a]? = some cl := by rw [eT]; exact Ar.1
  have k2 : s.isArrayOf cl .boolean := State.isArrayOf_alike B.z.alike Ar.2.1
  have k3 : cl.slots[j.toNatClampNeg]? = some v := by rw [hi, ← hv, ← hc]; simp
  exact g.via fun t => X.baloadBooleans B.x k1 k2 Ar.2.2 hin k3 (g := mkF m pc Ls (.int j :: .ref a :: st)) rfl rfl (B.d q) t
theorem g_aaload (X : Stand p l e R s m args below meth c T locs cells slots) (B : Bo Z p s m meth c own nm bytes maxL ret) {ty : FieldType} (hty : ty.isReference = true) {a : Addr} {j : Int32} {vs : List Value} {v : Value} (i : Nat) (q : decode bytes pc = .ok (.aaload, 1)) (pc' : Nat) (hp : pc + 1 = pc') (eT : T.heap = h) (A : Av Z h a ty vs) (hi : j.toNatClampNeg = i) (h0 : ¬ j < 0) (hv : vs[i]? = some v) (g : Go p e below P (T.setTop (mkF m pc' Ls (v :: st)))) : Go p e below P (T.setTop (mkF m pc Ls (.int j :: .ref a :: st))) := by
  subst hp
  obtain ⟨cl, Ar, hc⟩ := A
  have hl : i < vs.length := (List.getElem?_eq_some_iff.mp hv).1
  have hin := Av.inb (Z := Z) (h := h) (a := a) (ty := ty) hc hi h0 hl
  have k1 : T.heap[a]? = some cl := by rw [eT]; exact Ar.1
  have k2 : s.isArrayOf cl ty := State.isArrayOf_alike B.z.alike Ar.2.1
  have k3 : cl.slots[j.toNatClampNeg]? = some v := by rw [hi, ← hv, ← hc]; simp
  exact g.via fun t => X.aaload B.x k1 k2 hty Ar.2.2 hin k3 (g := mkF m pc Ls (.int j :: .ref a :: st)) rfl rfl (B.d q) t
theorem g_arrlen (X : Stand p l e R s m args below meth c T locs cells slots) (B : Bo Z p s m meth c own nm bytes maxL ret) {ty : FieldType} {a : Addr} {vs : List Value} (n : Int32) (q : decode bytes pc = .ok (.arraylength, 1)) (pc' : Nat) (hp : pc + 1 = pc') (eT : T.heap = h) (A : Av Z h a ty vs) (hn : vs.length.toInt32 = n) (g : Go p e below P (T.setTop (mkF m pc' Ls (.int n :: st)))) : Go p e below P (T.setTop (mkF m pc Ls (.ref a :: st))) := by
  subst hp hn
  obtain ⟨cl, Ar, hc⟩ := A
  have k1 : T.heap[a]? = some cl := by rw [eT]; exact Ar.1
  have k2 : s.isArrayOf cl ty := State.isArrayOf_alike B.z.alike Ar.2.1
  rw [← hc, Array.length_toList] at g
  exact g.via fun t => X.arraylength B.x k1 k2 (g := mkF m pc Ls (.ref a :: st)) rfl rfl (B.d q) t
theorem g_callUp (X : Stand p l e R s m args below meth c T locs cells slots) (B : Bo Z p s m meth c own nm bytes maxL ret) {y z : MethodName} {by' : ByteArray} {mx : Nat} {rt : Option FieldType} {rm : Room} {Q : Option Value → Heap → List Loc → Prop} {index : Nat} {K owner : String} {a : Addr} (argsL rest : List Value) (q : decode bytes pc = .ok (.invokevirtual index, 3)) (pc' : Nat) (hp : pc + 3 = pc') (hst : st = argsL.reverse ++ .ref a :: rest) (w1 : (Jvm.Cond.methodLink own index y).before a0 Z = true) (w2 : (Jvm.Cond.sameMethod y.cls owner y.name y.desc).before a0 Z = true) (w2' : (Jvm.Cond.declares ⟨owner, y.name, y.desc⟩).before a0 Z = true) (w3 : (Jvm.Cond.selects K y z).before a0 Z = true) (w4 : (Jvm.Cond.instanceMethod z).before a0 Z = true) (w5 : (Jvm.Cond.initialized z.cls).before a0 Z = true) (w6 : (Jvm.Cond.code z by' mx rt).before a0 Z = true) (hy : owner ≠ "java/lang/invoke/MethodHandle" ∧ owner ≠ "java/lang/invoke/VarHandle") (hlen : ∀ sig, parseMethodDescriptor y.desc = some sig → argsL.length = sig.parameters.length) (E : Exa Z h a K) (C : Ctr l Z z by' mx rt rm (.ref a :: argsL).toArray h Q) (eT : T.heap = h) (hm : Ls.size = maxL) (W : Nat) (hW : (rest.map fun v => v.category).sum ≤ W) (hf : rm.frames + 1 ≤ R.frames) (hl : W + (mx + 11) + rm.locals ≤ R.locals) (hc : cells + rm.cells ≤ R.cells) (hs : slots + rm.slots ≤ R.slots) (k : ∀ v T' h' L', Stand p l e R s m args below meth c T' (locs ++ L') (cells + rm.cells) (slots + rm.slots) → T'.heap = h' → Q v h' L' → Go p e below P (T'.setTop (mkF m pc' Ls (v.toList ++ rest)))) : Go p e below P (T.setTop (mkF m pc Ls st)) := by
  subst hp hst
  obtain ⟨cq, kq, qa, qb, qc⟩ := isOf B.z eT E
  obtain ⟨v, _, ⟨T', L', k', n'⟩, -, X', ⟨Lc, hQ, l1, l2, l3⟩, q'⟩ := X.virtualBackUp B.x (x := y) (y := z) B.o (mvT B.z w1) (mvT B.z w2) (mvT B.z w2') hy (mvT B.z w3) (mvT B.z w4) (C.back (W := W) B.z w6 w5 hf hl) qa qc (g := mkF m pc Ls (argsL.reverse ++ .ref a :: rest)) rfl (B.mx hm) (Steps.refl _) (argsL := argsL) (rest := rest) hlen rfl (by show 2 * 0 + _ ≤ _; omega) (B.d q) (fun _ _ => ⟨rfl, eT, hc, hs⟩)
  dsimp only [Pt.U, Pt.locs, Pt.cells, Pt.slots] at X' l1 l2 l3 q' hQ
  subst l1 l2 l3
  exact (k v T' _ Lc X' rfl hQ).via fun _ => q'.trans
theorem g_cast (X : Stand p l e R s m args below meth c T locs cells slots) (B : Bo Z p s m meth c own nm bytes maxL ret) {K : String} {index : Nat} {a : Addr} (q : decode bytes pc = .ok (.checkcast index, 3)) (pc' : Nat) (hp : pc + 3 = pc') (w : (Jvm.Cond.classLink own index K).before a0 Z = true) (eT : T.heap = h) (F : Ins Z h a K true) (k : ∀ T', Stand p l e R s m args below meth c T' locs cells slots → T'.heap = h → Go p e below P (T'.setTop (mkF m pc' Ls (.ref a :: st)))) : Go p e below P (T.setTop (mkF m pc Ls (.ref a :: st))) := by
  subst hp
  obtain ⟨T', X', e', q'⟩ := castY X B.x B.z B.o w eT F (g := mkF m pc Ls (.ref a :: st)) rfl rfl (B.d q)
  exact (k T' X' e').via q'
theorem g_retOut (X : Stand p l e R s m args below meth c T locs cells slots) (B : Bo Z p s m meth c own nm bytes maxL ret) {Q : Option Value → Heap → List Loc → Prop} {cc ss : Nat} {w : Value} {t : FieldType} {i : Instr} (q : decode bytes pc = .ok (i, 1)) (ht : ret = some t) (hn : narrow t w = w)
    (hi : (i = .ireturn ∧ (t = .int ∨ t = .boolean ∨ t = .byte ∨ t = .char ∨ t = .short) ∧ ∃ z, w = .int z) ∨ (i = .lreturn ∧ t = .long ∧ ∃ z, w = .long z) ∨ (i = .dreturn ∧ t = .double ∧ ∃ z, w = .double z) ∨ (i = .freturn ∧ t = .float ∧ ∃ z, w = .float z) ∨ (i = .areturn ∧ t.isReference = true ∧ w.isRef = true))
    (hc : cells ≤ cc) (hs : slots ≤ ss) (eT : T.heap = h) (hQ : Q (some w) h locs) : Go p e below (EndsQ s Q cc ss) (T.setTop (mkF m pc Ls (w :: st))) := by
  have hl := B.lk
  obtain ⟨fs, hr, hrun, hended, hW, hsame⟩ := X.leave (v := some w) (fun z => by rw [B.r, ht] at z; cases z) hl
  subst eT
  exact ⟨_, _, retOut X B.x (B.r.trans ht) hn hi (B.d q) hr, hrun, hended, _, _, rfl, hQ, ⟨_, rfl⟩, hW, hsame.mono hc hs⟩
theorem g_retA (X : Stand p l e R s m args below meth c T locs cells slots) (B : Bo Z p s m meth c own nm bytes maxL ret) {Q : Option Value → Heap → List Loc → Prop} {cc ss : Nat} {w : Value} {t : FieldType} (q : decode bytes pc = .ok (.areturn, 1)) (ht : ret = some t) (hr : t.isReference = true) (hw : w.isRef = true) (hc : cells ≤ cc) (hs : slots ≤ ss) (eT : T.heap = h) (hQ : Q (some w) h locs) : Go p e below (EndsQ s Q cc ss) (T.setTop (mkF m pc Ls (w :: st))) :=
  g_retOut X B q ht (by cases t <;> first | (cases hr; done) | (cases w <;> first | rfl | (cases hw; done))) (Or.inr (Or.inr (Or.inr (Or.inr ⟨rfl, hr, hw⟩)))) hc hs eT hQ
theorem g_retI (X : Stand p l e R s m args below meth c T locs cells slots) (B : Bo Z p s m meth c own nm bytes maxL ret) {Q : Option Value → Heap → List Loc → Prop} {cc ss : Nat} {z : Int32} (q : decode bytes pc = .ok (.ireturn, 1)) (ht : ret = some .int) (hc : cells ≤ cc) (hs : slots ≤ ss) (eT : T.heap = h) (hQ : Q (some (.int z)) h locs) : Go p e below (EndsQ s Q cc ss) (T.setTop (mkF m pc Ls (.int z :: st))) :=
  g_retOut X B q ht rfl (Or.inl ⟨rfl, Or.inl rfl, _, rfl⟩) hc hs eT hQ
theorem g_retL (X : Stand p l e R s m args below meth c T locs cells slots) (B : Bo Z p s m meth c own nm bytes maxL ret) {Q : Option Value → Heap → List Loc → Prop} {cc ss : Nat} {z : Int64} (q : decode bytes pc = .ok (.lreturn, 1)) (ht : ret = some .long) (hc : cells ≤ cc) (hs : slots ≤ ss) (eT : T.heap = h) (hQ : Q (some (.long z)) h locs) : Go p e below (EndsQ s Q cc ss) (T.setTop (mkF m pc Ls (.long z :: st))) :=
  g_retOut X B q ht rfl (Or.inr (Or.inl ⟨rfl, rfl, _, rfl⟩)) hc hs eT hQ
theorem g_retN (X : Stand p l e R s m args below meth c T locs cells slots) (B : Bo Z p s m meth c own nm bytes maxL ret) {Q : Option Value → Heap → List Loc → Prop} {cc ss : Nat} {z : Int32} {t : FieldType} (q : decode bytes pc = .ok (.ireturn, 1)) (ht : ret = some t) (hn : narrow t (.int z) = .int z) (hk : t = .boolean ∨ t = .byte ∨ t = .char ∨ t = .short) (hc : cells ≤ cc) (hs : slots ≤ ss) (eT : T.heap = h) (hQ : Q (some (.int z)) h locs) : Go p e below (EndsQ s Q cc ss) (T.setTop (mkF m pc Ls (.int z :: st))) :=
  g_retOut X B q ht hn (Or.inl ⟨rfl, Or.inr hk, _, rfl⟩) hc hs eT hQ
theorem g_retV (X : Stand p l e R s m args below meth c T locs cells slots) (B : Bo Z p s m meth c own nm bytes maxL ret) {Q : Option Value → Heap → List Loc → Prop} {cc ss : Nat} (q : decode bytes pc = .ok (.return_, 1)) (ht : ret = none) (hc : cells ≤ cc) (hs : slots ≤ ss) (eT : T.heap = h) (hQ : Q none h locs) : Go p e below (EndsQ s Q cc ss) (T.setTop (mkF m pc Ls [])) := by
  have hl := B.lk
  obtain ⟨fs, hr, hrun, hended, hW, hsame⟩ := X.leave (v := none) (fun _ => rfl) hl
  subst eT
  exact ⟨_, _, X.returnOut B.x (B.r.trans ht) (B.d q) hr, hrun, hended, _, _, rfl, hQ, ⟨_, rfl⟩, hW, hsame.mono hc hs⟩
end OwnKit
theorem own_abs {P : Prop} {G : Prop} (q : P) (z : ¬ P) : G := absurd q z
theorem own_abs' {P : Prop} {G : Prop} (q : ¬ P) (z : P) : G := absurd z q
/-! own: from the words of a case to facts -/
theorem own_fldI {Z : State} {args : Array Value} {t : Term} {C n d : String} {a : Addr} {k : Int32} (ev : t.eval args Z none [] Z = some (.ref a)) (q : (Jvm.Cond.eq (.field t C n d) (.int k)).value args Z none Z [] = some true) : Fld Z Z.heap a C n d (.int k) := by
  obtain ⟨x, y, h1, h2, h3, -⟩ := cmp_v (Or.inl q)
  cases h2
  have h4 : Z.fieldOf? a C n d = some x := (fld_at ev).symm.trans h1
  have h5 : ∃ z, x = .int z := by cases x <;> simp [Kin, Value.isRef] at h3 ⊢
  obtain ⟨z, rfl⟩ := h5
  have h6 : z = k := by
    have h7 : (Jvm.Cond.eq (.field t C n d) (.int k)).value args Z none Z [] = some (decide (z = k)) := by simp only [Cond.value, h1, Term.int_eval]
    exact gotT h7 q
  exact h6 ▸ Fld.start h4
theorem own_fldN {Z : State} {args : Array Value} {t : Term} {C n d : String} {a : Addr} (ev : t.eval args Z none [] Z = some (.ref a)) (q : (Jvm.Cond.eq (.field t C n d) .null).value args Z none Z [] = some true) : Fld Z Z.heap a C n d .null := Fld.start ((fld_at ev).symm.trans (null_v q))
theorem own_stk {Z : State} {h h' : Heap} {C n d : String} {v : Value} (F : Sta Z h C n d v) (K : Keep h h' []) : Sta Z h' C n d v := by
  obtain ⟨cf, i, k, f, st, cell, h1, h2, h3, h4, h5, r⟩ := F
  exact ⟨cf, i, k, f, st, cell, h1, h2, h3, h4, K.2.1 _ _ h5 (fun q => nomatch q), r⟩
theorem own_fldR {Z : State} {args : Array Value} {t u : Term} {C n d : String} {a b : Addr} (ev : t.eval args Z none [] Z = some (.ref a)) (ew : u.eval args Z none [] Z = some (.ref b)) (q : (Jvm.Cond.eq (.field t C n d) u).value args Z none Z [] = some true) : Fld Z Z.heap a C n d (.ref b) := by
  obtain ⟨x, y, h1, h2, h3, -⟩ := cmp_v (Or.inl q)
  cases ew.symm.trans h2
  have h4 : Z.fieldOf? a C n d = some x := (fld_at ev).symm.trans h1
  have h5 : x.isRef = true := by cases x <;> simp [Kin, Value.isRef] at h3 ⊢
  have h6 : x = .ref b := gotT (eq_R h1 ew h5 rfl) q
  exact h6 ▸ Fld.start h4

theorem d1_0 : decode method_2_code 0 = .ok (.iload_n 0, 1) := by decide +kernel
theorem d1_1 : decode method_2_code 1 = .ok (.ifCond .ne 7, 3) := by decide +kernel
theorem d1_4 : decode method_2_code 4 = .ok (.getstatic 7, 3) := by decide +kernel
theorem d1_7 : decode method_2_code 7 = .ok (.areturn, 1) := by decide +kernel
theorem d1_8 : decode method_2_code 8 = .ok (.iload_n 0, 1) := by decide +kernel
theorem d1_9 : decode method_2_code 9 = .ok (.iconst 1, 1) := by decide +kernel
theorem d1_10 : decode method_2_code 10 = .ok (.if_icmp .ne 7, 3) := by decide +kernel
theorem d1_13 : decode method_2_code 13 = .ok (.getstatic 13, 3) := by decide +kernel
theorem d1_16 : decode method_2_code 16 = .ok (.areturn, 1) := by decide +kernel
theorem d1_17 : decode method_2_code 17 = .ok (.iload_n 0, 1) := by decide +kernel
theorem d1_18 : decode method_2_code 18 = .ok (.iconst 2, 1) := by decide +kernel
theorem d1_19 : decode method_2_code 19 = .ok (.if_icmp .ne 7, 3) := by decide +kernel
theorem d1_22 : decode method_2_code 22 = .ok (.getstatic 16, 3) := by decide +kernel
theorem d1_25 : decode method_2_code 25 = .ok (.areturn, 1) := by decide +kernel
theorem d1_26 : decode method_2_code 26 = .ok (.iload_n 0, 1) := by decide +kernel
theorem d1_27 : decode method_2_code 27 = .ok (.iconst 3, 1) := by decide +kernel
theorem d1_28 : decode method_2_code 28 = .ok (.if_icmp .ne 7, 3) := by decide +kernel
theorem d1_31 : decode method_2_code 31 = .ok (.getstatic 19, 3) := by decide +kernel
theorem d1_34 : decode method_2_code 34 = .ok (.areturn, 1) := by decide +kernel
theorem d1_35 : decode method_2_code 35 = .ok (.iload_n 0, 1) := by decide +kernel
theorem d1_36 : decode method_2_code 36 = .ok (.iconst 4, 1) := by decide +kernel
theorem d1_37 : decode method_2_code 37 = .ok (.if_icmp .ne 7, 3) := by decide +kernel
theorem d1_40 : decode method_2_code 40 = .ok (.getstatic 22, 3) := by decide +kernel
theorem d1_43 : decode method_2_code 43 = .ok (.areturn, 1) := by decide +kernel
theorem d1_44 : decode method_2_code 44 = .ok (.iload_n 0, 1) := by decide +kernel
theorem d1_45 : decode method_2_code 45 = .ok (.iconst 5, 1) := by decide +kernel
theorem d1_46 : decode method_2_code 46 = .ok (.if_icmp .ne 7, 3) := by decide +kernel
theorem d1_49 : decode method_2_code 49 = .ok (.getstatic 25, 3) := by decide +kernel
theorem d1_52 : decode method_2_code 52 = .ok (.areturn, 1) := by decide +kernel
theorem d1_53 : decode method_2_code 53 = .ok (.iload_n 0, 1) := by decide +kernel
theorem d1_54 : decode method_2_code 54 = .ok (.bipush 6, 2) := by decide +kernel
theorem d1_56 : decode method_2_code 56 = .ok (.if_icmp .ne 7, 3) := by decide +kernel
theorem d1_59 : decode method_2_code 59 = .ok (.getstatic 28, 3) := by decide +kernel
theorem d1_62 : decode method_2_code 62 = .ok (.areturn, 1) := by decide +kernel
theorem d1_63 : decode method_2_code 63 = .ok (.iload_n 0, 1) := by decide +kernel
theorem d1_64 : decode method_2_code 64 = .ok (.bipush 7, 2) := by decide +kernel
theorem d1_66 : decode method_2_code 66 = .ok (.if_icmp .ne 7, 3) := by decide +kernel
theorem d1_69 : decode method_2_code 69 = .ok (.getstatic 31, 3) := by decide +kernel
theorem d1_72 : decode method_2_code 72 = .ok (.areturn, 1) := by decide +kernel
theorem d1_73 : decode method_2_code 73 = .ok (.iload_n 0, 1) := by decide +kernel
theorem d1_74 : decode method_2_code 74 = .ok (.bipush 8, 2) := by decide +kernel
theorem d1_76 : decode method_2_code 76 = .ok (.if_icmp .ne 7, 3) := by decide +kernel
theorem d1_79 : decode method_2_code 79 = .ok (.getstatic 34, 3) := by decide +kernel
theorem d1_82 : decode method_2_code 82 = .ok (.areturn, 1) := by decide +kernel
theorem d1_83 : decode method_2_code 83 = .ok (.iload_n 0, 1) := by decide +kernel
theorem d1_84 : decode method_2_code 84 = .ok (.bipush 9, 2) := by decide +kernel
theorem d1_86 : decode method_2_code 86 = .ok (.if_icmp .ne 7, 3) := by decide +kernel
theorem d1_89 : decode method_2_code 89 = .ok (.getstatic 37, 3) := by decide +kernel
theorem d1_92 : decode method_2_code 92 = .ok (.areturn, 1) := by decide +kernel
theorem d1_93 : decode method_2_code 93 = .ok (.iload_n 0, 1) := by decide +kernel
theorem d1_94 : decode method_2_code 94 = .ok (.bipush 10, 2) := by decide +kernel
theorem d1_96 : decode method_2_code 96 = .ok (.if_icmp .ne 7, 3) := by decide +kernel
theorem d1_99 : decode method_2_code 99 = .ok (.getstatic 40, 3) := by decide +kernel
theorem d1_102 : decode method_2_code 102 = .ok (.areturn, 1) := by decide +kernel
theorem d1_103 : decode method_2_code 103 = .ok (.iload_n 0, 1) := by decide +kernel
theorem d1_104 : decode method_2_code 104 = .ok (.bipush 11, 2) := by decide +kernel
theorem d1_106 : decode method_2_code 106 = .ok (.if_icmp .ne 7, 3) := by decide +kernel
theorem d1_109 : decode method_2_code 109 = .ok (.getstatic 43, 3) := by decide +kernel
theorem d1_112 : decode method_2_code 112 = .ok (.areturn, 1) := by decide +kernel
theorem d1_113 : decode method_2_code 113 = .ok (.iload_n 0, 1) := by decide +kernel
theorem d1_114 : decode method_2_code 114 = .ok (.bipush 12, 2) := by decide +kernel
theorem d1_116 : decode method_2_code 116 = .ok (.if_icmp .ne 7, 3) := by decide +kernel
theorem d1_119 : decode method_2_code 119 = .ok (.getstatic 46, 3) := by decide +kernel
theorem d1_122 : decode method_2_code 122 = .ok (.areturn, 1) := by decide +kernel
theorem d1_123 : decode method_2_code 123 = .ok (.iload_n 0, 1) := by decide +kernel
theorem d1_124 : decode method_2_code 124 = .ok (.bipush 13, 2) := by decide +kernel
theorem d1_126 : decode method_2_code 126 = .ok (.if_icmp .ne 7, 3) := by decide +kernel
theorem d1_129 : decode method_2_code 129 = .ok (.getstatic 49, 3) := by decide +kernel
theorem d1_132 : decode method_2_code 132 = .ok (.areturn, 1) := by decide +kernel
theorem d1_133 : decode method_2_code 133 = .ok (.iload_n 0, 1) := by decide +kernel
theorem d1_134 : decode method_2_code 134 = .ok (.bipush 14, 2) := by decide +kernel
theorem d1_136 : decode method_2_code 136 = .ok (.if_icmp .ne 7, 3) := by decide +kernel
theorem d1_139 : decode method_2_code 139 = .ok (.getstatic 52, 3) := by decide +kernel
theorem d1_142 : decode method_2_code 142 = .ok (.areturn, 1) := by decide +kernel
theorem d1_143 : decode method_2_code 143 = .ok (.getstatic 55, 3) := by decide +kernel
theorem d1_146 : decode method_2_code 146 = .ok (.areturn, 1) := by decide +kernel

theorem d2_0 : decode prog_22_method_6_code 0 = .ok (.aload_n 0, 1) := by decide +kernel
theorem d2_1 : decode prog_22_method_6_code 1 = .ok (.getfield 79, 3) := by decide +kernel
theorem d2_4 : decode prog_22_method_6_code 4 = .ok (.invokevirtual 83, 3) := by decide +kernel
theorem d2_7 : decode prog_22_method_6_code 7 = .ok (.tableswitch 25 0 2 #[35, 39, 54], 25) := by decide +kernel
theorem d2_32 : decode prog_22_method_6_code 32 = .ok (.new 89, 3) := by decide +kernel
theorem d2_35 : decode prog_22_method_6_code 35 = .ok (.dup, 1) := by decide +kernel
theorem d2_36 : decode prog_22_method_6_code 36 = .ok (.aconst_null, 1) := by decide +kernel
theorem d2_37 : decode prog_22_method_6_code 37 = .ok (.aconst_null, 1) := by decide +kernel
theorem d2_38 : decode prog_22_method_6_code 38 = .ok (.invokespecial 91, 3) := by decide +kernel
theorem d2_41 : decode prog_22_method_6_code 41 = .ok (.athrow, 1) := by decide +kernel
theorem d2_42 : decode prog_22_method_6_code 42 = .ok (.iconst 1, 1) := by decide +kernel
theorem d2_43 : decode prog_22_method_6_code 43 = .ok (.goto 19, 3) := by decide +kernel
theorem d2_46 : decode prog_22_method_6_code 46 = .ok (.aload_n 1, 1) := by decide +kernel
theorem d2_47 : decode prog_22_method_6_code 47 = .ok (.getstatic 94, 3) := by decide +kernel
theorem d2_50 : decode prog_22_method_6_code 50 = .ok (.if_acmp .ne 7, 3) := by decide +kernel
theorem d2_53 : decode prog_22_method_6_code 53 = .ok (.iconst 1, 1) := by decide +kernel
theorem d2_54 : decode prog_22_method_6_code 54 = .ok (.goto 8, 3) := by decide +kernel
theorem d2_57 : decode prog_22_method_6_code 57 = .ok (.iconst 0, 1) := by decide +kernel
theorem d2_58 : decode prog_22_method_6_code 58 = .ok (.goto 4, 3) := by decide +kernel
theorem d2_61 : decode prog_22_method_6_code 61 = .ok (.iconst 0, 1) := by decide +kernel
theorem d2_62 : decode prog_22_method_6_code 62 = .ok (.ireturn, 1) := by decide +kernel

theorem d3_0 : decode jdk_37_method_2_code 0 = .ok (.aload_n 0, 1) := by decide +kernel
theorem d3_1 : decode jdk_37_method_2_code 1 = .ok (.getfield 7, 3) := by decide +kernel
theorem d3_4 : decode jdk_37_method_2_code 4 = .ok (.ireturn, 1) := by decide +kernel

theorem pn_0 : plainName "com/example/keeper_of_casements/keeperofcasements/engine/WindowKindMayBeAddedOnPinLaw" = true := by first | (simp [plainName, overriddenIn]; done) | decide +kernel

theorem pn_1 : plainName "com/example/keeper_of_casements/keeperofcasements/engine/WindowKindMayBeAddedOnPinLaw" = true := by first | (simp [plainName, overriddenIn]; done) | decide +kernel

theorem pn_2 : plainName "com/example/keeper_of_casements/keeperofcasements/engine/WindowKind" = true := by first | (simp [plainName, overriddenIn]; done) | decide +kernel

theorem pn_3 : plainName "java/lang/Enum" = true := by first | (simp [plainName, overriddenIn]; done) | decide +kernel

def own_KD (Z : State) (h : Heap) (a : Addr) (z : Int32) : Prop := ∃ b, Exa Z h a "com/example/keeper_of_casements/keeperofcasements/engine/WindowKind" ∧ Fld Z h a "com/example/keeper_of_casements/keeperofcasements/engine/WindowKind" "addedBy" "Lcom/example/keeper_of_casements/keeperofcasements/engine/WindowKind$AddedBy;" (.ref b) ∧ Exa Z h b "com/example/keeper_of_casements/keeperofcasements/engine/WindowKind$AddedBy" ∧ Fld Z h b "java/lang/Enum" "ordinal" "I" (.int z)
def own_z (k : Int32) : Int32 := if k = 2 then 2 else if k = 0 ∨ k = 1 ∨ k = 3 ∨ k = 4 ∨ k = 5 ∨ k = 6 ∨ k = 8 ∨ k = 9 then 0 else 1
theorem own_z3 (k : Int32) : own_z k = 0 ∨ own_z k = 1 ∨ own_z k = 2 := by unfold own_z; split <;> (try split) <;> simp
theorem own_m16 (x : Int32) : ∃ i : Nat, i < 16 ∧ ((x &&& (2147483647 : Int32)) % (16 : Int32)) = Int32.ofNat i := by
  have h1 := c_mask x 2147483647 31 (by decide) (by decide)
  have h2 := (c_irem (x &&& 2147483647) 16 16 (by decide)).1 (by omega)
  refine ⟨((x &&& (2147483647 : Int32)) % (16 : Int32)).toInt.toNat, by omega, ?_⟩
  apply Int32.toInt_inj.mp
  rw [Int32.toInt_ofNat_of_lt (by omega)]
  omega
theorem own_z0 : ∀ i : Nat, i < 16 → ¬ Int32.ofNat i = 2 → ¬ Int32.ofNat i = 7 → Int32.ofNat i < 10 → own_z (Int32.ofNat i) = 0 := by decide +kernel
theorem own_z1 : ∀ i : Nat, i < 16 → ¬ Int32.ofNat i < 10 → own_z (Int32.ofNat i) = 1 := by decide +kernel
def own_may (z : Int32) (c a : Addr) : Int32 := if z = 0 then 1 else if z = 1 then (if c = a then 1 else 0) else 0

theorem pd_3 : parseMethodDescriptor "()I" = some ⟨[], (some .int)⟩ := by decide +kernel
set_option maxRecDepth 65536 in
set_option maxHeartbeats 40000000 in
theorem rm3 (l : Launch) (Z : State) (ag : Array Value) (hw : ∀ d ∈ tables_1, d.before ag Z = true) (a : Addr) (z : Int32) (h0 : Heap) (n0 : Nat) (F : Fld Z h0 a "java/lang/Enum" "ordinal" "I" (.int z)) :
    Ctr l Z (⟨"java/lang/Enum", "ordinal", "()I"⟩ : MethodName) jdk_37_method_2_code 1 (some .int) ({ frames := 0, cells := 0, slots := 0, locals := 0 } : Room) #[.ref a] h0 (fun v h L => v = some (.int z) ∧ Fr n0 L ∧ h0 = h) := by
  refine Ctr.of pn_3 ?_
  intro p e s m below meth c T0 X0 B e0
  refine Go.cast (f' := mkF m 0 #[.val (.ref a)] []) (by first | rfl | (simp [entryFrame, mkF, argsToLocals, Value.category, maxLocals]; done)) ?_

  refine g_aloadN X0 B d3_0 1 rfl rfl rfl ?_
  refine g_getF X0 B d3_1 4 rfl (hw _ (List.mem_of_getElem? (i := 27) rfl)) Via.refl e0 F (fun T1 X1 e1 => ?_)
  exact g_retI X1 B d3_4 rfl (by decide) (by decide) e1 ⟨rfl, (Fr.nil n0), rfl⟩
theorem pd_1 : parseMethodDescriptor "(I)Lcom/example/keeper_of_casements/keeperofcasements/engine/WindowKind;" = some ⟨[.int], (some (.object "com/example/keeper_of_casements/keeperofcasements/engine/WindowKind"))⟩ := by decide +kernel
set_option maxRecDepth 65536 in
set_option maxHeartbeats 40000000 in
theorem rm1 (l : Launch) (Z : State) (ag : Array Value) (hw : ∀ d ∈ tables_1, d.before ag Z = true) (k : Int32) (h0 : Heap) (n0 : Nat) (a0 a1 a2 a3 a4 a5 a6 a7 a8 a9 a10 a11 a12 a13 a14 a15 : Addr) (S0 : Sta Z h0 "com/example/keeper_of_casements/keeperofcasements/engine/WindowKind" "BASE_APPLICATION" "Lcom/example/keeper_of_casements/keeperofcasements/engine/WindowKind;" (.ref a0)) (S1 : Sta Z h0 "com/example/keeper_of_casements/keeperofcasements/engine/WindowKind" "APPLICATION" "Lcom/example/keeper_of_casements/keeperofcasements/engine/WindowKind;" (.ref a1)) (S2 : Sta Z h0 "com/example/keeper_of_casements/keeperofcasements/engine/WindowKind" "APPLICATION_STARTING" "Lcom/example/keeper_of_casements/keeperofcasements/engine/WindowKind;" (.ref a2)) (S3 : Sta Z h0 "com/example/keeper_of_casements/keeperofcasements/engine/WindowKind" "MEDIA" "Lcom/example/keeper_of_casements/keeperofcasements/engine/WindowKind;" (.ref a3)) (S4 : Sta Z h0 "com/example/keeper_of_casements/keeperofcasements/engine/WindowKind" "PANEL" "Lcom/example/keeper_of_casements/keeperofcasements/engine/WindowKind;" (.ref a4)) (S5 : Sta Z h0 "com/example/keeper_of_casements/keeperofcasements/engine/WindowKind" "SUB_PANEL" "Lcom/example/keeper_of_casements/keeperofcasements/engine/WindowKind;" (.ref a5)) (S6 : Sta Z h0 "com/example/keeper_of_casements/keeperofcasements/engine/WindowKind" "ATTACHED_DIALOG" "Lcom/example/keeper_of_casements/keeperofcasements/engine/WindowKind;" (.ref a6)) (S7 : Sta Z h0 "com/example/keeper_of_casements/keeperofcasements/engine/WindowKind" "WALLPAPER" "Lcom/example/keeper_of_casements/keeperofcasements/engine/WindowKind;" (.ref a7)) (S8 : Sta Z h0 "com/example/keeper_of_casements/keeperofcasements/engine/WindowKind" "OVERLAY" "Lcom/example/keeper_of_casements/keeperofcasements/engine/WindowKind;" (.ref a8)) (S9 : Sta Z h0 "com/example/keeper_of_casements/keeperofcasements/engine/WindowKind" "TOAST" "Lcom/example/keeper_of_casements/keeperofcasements/engine/WindowKind;" (.ref a9)) (S10 : Sta Z h0 "com/example/keeper_of_casements/keeperofcasements/engine/WindowKind" "INPUT_METHOD" "Lcom/example/keeper_of_casements/keeperofcasements/engine/WindowKind;" (.ref a10)) (S11 : Sta Z h0 "com/example/keeper_of_casements/keeperofcasements/engine/WindowKind" "INPUT_METHOD_DIALOG" "Lcom/example/keeper_of_casements/keeperofcasements/engine/WindowKind;" (.ref a11)) (S12 : Sta Z h0 "com/example/keeper_of_casements/keeperofcasements/engine/WindowKind" "STATUS_BAR" "Lcom/example/keeper_of_casements/keeperofcasements/engine/WindowKind;" (.ref a12)) (S13 : Sta Z h0 "com/example/keeper_of_casements/keeperofcasements/engine/WindowKind" "SYSTEM_ALERT" "Lcom/example/keeper_of_casements/keeperofcasements/engine/WindowKind;" (.ref a13)) (S14 : Sta Z h0 "com/example/keeper_of_casements/keeperofcasements/engine/WindowKind" "NAVIGATION_BAR" "Lcom/example/keeper_of_casements/keeperofcasements/engine/WindowKind;" (.ref a14)) (S15 : Sta Z h0 "com/example/keeper_of_casements/keeperofcasements/engine/WindowKind" "DOCK_DIVIDER" "Lcom/example/keeper_of_casements/keeperofcasements/engine/WindowKind;" (.ref a15)) (G0 : own_KD Z h0 a0 0) (G1 : own_KD Z h0 a1 0) (G2 : own_KD Z h0 a2 2) (G3 : own_KD Z h0 a3 0) (G4 : own_KD Z h0 a4 0) (G5 : own_KD Z h0 a5 0) (G6 : own_KD Z h0 a6 0) (G7 : own_KD Z h0 a7 1) (G8 : own_KD Z h0 a8 0) (G9 : own_KD Z h0 a9 0) (G10 : own_KD Z h0 a10 1) (G11 : own_KD Z h0 a11 1) (G12 : own_KD Z h0 a12 1) (G13 : own_KD Z h0 a13 1) (G14 : own_KD Z h0 a14 1) (G15 : own_KD Z h0 a15 1) :
    Ctr l Z (⟨"com/example/keeper_of_casements/keeperofcasements/engine/WindowKindMayBeAddedOnPinLaw", "kindAt", "(I)Lcom/example/keeper_of_casements/keeperofcasements/engine/WindowKind;"⟩ : MethodName) method_2_code 1 (some (.object "com/example/keeper_of_casements/keeperofcasements/engine/WindowKind")) ({ frames := 0, cells := 0, slots := 0, locals := 0 } : Room) #[.int k] h0 (fun v h L => ∃ a, v = some (.ref a) ∧ own_KD Z h0 a (own_z k) ∧ Fr n0 L ∧ h0 = h) := by
  refine Ctr.of pn_1 ?_
  intro p e s m below meth c T0 X0 B e0
  refine Go.cast (f' := mkF m 0 #[.val (.int k)] []) (by first | rfl | (simp [entryFrame, mkF, argsToLocals, Value.category, maxLocals]; done)) ?_

  refine g_iloadN X0 B d1_0 1 rfl rfl ?_
  refine g_if_ne X0 B d1_1 8 4 rfl (by decide) rfl (fun c1 => ?_) (fun c1 => ?_)
  · skip
    refine g_iloadN X0 B d1_8 9 rfl rfl ?_
    refine g_iconst X0 B (1) d1_9 10 rfl rfl ?_
    refine g_icmp_ne X0 B d1_10 17 13 rfl (by decide) rfl (fun c2 => ?_) (fun c2 => ?_)
    · skip
      refine g_iloadN X0 B d1_17 18 rfl rfl ?_
      refine g_iconst X0 B (2) d1_18 19 rfl rfl ?_
      refine g_icmp_ne X0 B d1_19 26 22 rfl (by decide) rfl (fun c3 => ?_) (fun c3 => ?_)
      · skip
        refine g_iloadN X0 B d1_26 27 rfl rfl ?_
        refine g_iconst X0 B (3) d1_27 28 rfl rfl ?_
        refine g_icmp_ne X0 B d1_28 35 31 rfl (by decide) rfl (fun c4 => ?_) (fun c4 => ?_)
        · skip
          refine g_iloadN X0 B d1_35 36 rfl rfl ?_
          refine g_iconst X0 B (4) d1_36 37 rfl rfl ?_
          refine g_icmp_ne X0 B d1_37 44 40 rfl (by decide) rfl (fun c5 => ?_) (fun c5 => ?_)
          · skip
            refine g_iloadN X0 B d1_44 45 rfl rfl ?_
            refine g_iconst X0 B (5) d1_45 46 rfl rfl ?_
            refine g_icmp_ne X0 B d1_46 53 49 rfl (by decide) rfl (fun c6 => ?_) (fun c6 => ?_)
            · skip
              refine g_iloadN X0 B d1_53 54 rfl rfl ?_
              refine g_bipush X0 B (6) d1_54 56 rfl rfl ?_
              refine g_icmp_ne X0 B d1_56 63 59 rfl (by decide) rfl (fun c7 => ?_) (fun c7 => ?_)
              · skip
                refine g_iloadN X0 B d1_63 64 rfl rfl ?_
                refine g_bipush X0 B (7) d1_64 66 rfl rfl ?_
                refine g_icmp_ne X0 B d1_66 73 69 rfl (by decide) rfl (fun c8 => ?_) (fun c8 => ?_)
                · skip
                  refine g_iloadN X0 B d1_73 74 rfl rfl ?_
                  refine g_bipush X0 B (8) d1_74 76 rfl rfl ?_
                  refine g_icmp_ne X0 B d1_76 83 79 rfl (by decide) rfl (fun c9 => ?_) (fun c9 => ?_)
                  · skip
                    refine g_iloadN X0 B d1_83 84 rfl rfl ?_
                    refine g_bipush X0 B (9) d1_84 86 rfl rfl ?_
                    refine g_icmp_ne X0 B d1_86 93 89 rfl (by decide) rfl (fun c10 => ?_) (fun c10 => ?_)
                    · skip
                      refine g_iloadN X0 B d1_93 94 rfl rfl ?_
                      refine g_bipush X0 B (10) d1_94 96 rfl rfl ?_
                      refine g_icmp_ne X0 B d1_96 103 99 rfl (by decide) rfl (fun c11 => ?_) (fun c11 => ?_)
                      · skip
                        refine g_iloadN X0 B d1_103 104 rfl rfl ?_
                        refine g_bipush X0 B (11) d1_104 106 rfl rfl ?_
                        refine g_icmp_ne X0 B d1_106 113 109 rfl (by decide) rfl (fun c12 => ?_) (fun c12 => ?_)
                        · skip
                          refine g_iloadN X0 B d1_113 114 rfl rfl ?_
                          refine g_bipush X0 B (12) d1_114 116 rfl rfl ?_
                          refine g_icmp_ne X0 B d1_116 123 119 rfl (by decide) rfl (fun c13 => ?_) (fun c13 => ?_)
                          · skip
                            refine g_iloadN X0 B d1_123 124 rfl rfl ?_
                            refine g_bipush X0 B (13) d1_124 126 rfl rfl ?_
                            refine g_icmp_ne X0 B d1_126 133 129 rfl (by decide) rfl (fun c14 => ?_) (fun c14 => ?_)
                            · skip
                              refine g_iloadN X0 B d1_133 134 rfl rfl ?_
                              refine g_bipush X0 B (14) d1_134 136 rfl rfl ?_
                              refine g_icmp_ne X0 B d1_136 143 139 rfl (by decide) rfl (fun c15 => ?_) (fun c15 => ?_)
                              · skip
                                refine g_getS X0 B d1_143 146 rfl (hw _ (List.mem_of_getElem? (i := 47) rfl)) Via.refl e0 S15 (fun T16 X16 e16 => ?_)
                                exact g_retA X16 B d1_146 rfl rfl rfl (by decide) (by decide) e16 ⟨_, rfl, (by rw [show own_z k = 1 by simp [own_z, c1, c2, c3, c4, c5, c6, c7, c8, c9, c10, c11, c12, c13, c14, c15]]; exact G15), (Fr.nil n0), rfl⟩
                              · skip
                                refine g_getS X0 B d1_139 142 rfl (hw _ (List.mem_of_getElem? (i := 29) rfl)) Via.refl e0 S14 (fun T17 X17 e17 => ?_)
                                exact g_retA X17 B d1_142 rfl rfl rfl (by decide) (by decide) e17 ⟨_, rfl, (by rw [c15, show own_z 14 = 1 by decide]; exact G14), (Fr.nil n0), rfl⟩
                            · skip
                              refine g_getS X0 B d1_129 132 rfl (hw _ (List.mem_of_getElem? (i := 39) rfl)) Via.refl e0 S13 (fun T18 X18 e18 => ?_)
                              exact g_retA X18 B d1_132 rfl rfl rfl (by decide) (by decide) e18 ⟨_, rfl, (by rw [c14, show own_z 13 = 1 by decide]; exact G13), (Fr.nil n0), rfl⟩
                          · skip
                            refine g_getS X0 B d1_119 122 rfl (hw _ (List.mem_of_getElem? (i := 33) rfl)) Via.refl e0 S12 (fun T19 X19 e19 => ?_)
                            exact g_retA X19 B d1_122 rfl rfl rfl (by decide) (by decide) e19 ⟨_, rfl, (by rw [c13, show own_z 12 = 1 by decide]; exact G12), (Fr.nil n0), rfl⟩
                        · skip
                          refine g_getS X0 B d1_109 112 rfl (hw _ (List.mem_of_getElem? (i := 58) rfl)) Via.refl e0 S11 (fun T20 X20 e20 => ?_)
                          exact g_retA X20 B d1_112 rfl rfl rfl (by decide) (by decide) e20 ⟨_, rfl, (by rw [c12, show own_z 11 = 1 by decide]; exact G11), (Fr.nil n0), rfl⟩
                      · skip
                        refine g_getS X0 B d1_99 102 rfl (hw _ (List.mem_of_getElem? (i := 56) rfl)) Via.refl e0 S10 (fun T21 X21 e21 => ?_)
                        exact g_retA X21 B d1_102 rfl rfl rfl (by decide) (by decide) e21 ⟨_, rfl, (by rw [c11, show own_z 10 = 1 by decide]; exact G10), (Fr.nil n0), rfl⟩
                    · skip
                      refine g_getS X0 B d1_89 92 rfl (hw _ (List.mem_of_getElem? (i := 60) rfl)) Via.refl e0 S9 (fun T22 X22 e22 => ?_)
                      exact g_retA X22 B d1_92 rfl rfl rfl (by decide) (by decide) e22 ⟨_, rfl, (by rw [c10, show own_z 9 = 0 by decide]; exact G9), (Fr.nil n0), rfl⟩
                  · skip
                    refine g_getS X0 B d1_79 82 rfl (hw _ (List.mem_of_getElem? (i := 35) rfl)) Via.refl e0 S8 (fun T23 X23 e23 => ?_)
                    exact g_retA X23 B d1_82 rfl rfl rfl (by decide) (by decide) e23 ⟨_, rfl, (by rw [c9, show own_z 8 = 0 by decide]; exact G8), (Fr.nil n0), rfl⟩
                · skip
                  refine g_getS X0 B d1_69 72 rfl (hw _ (List.mem_of_getElem? (i := 43) rfl)) Via.refl e0 S7 (fun T24 X24 e24 => ?_)
                  exact g_retA X24 B d1_72 rfl rfl rfl (by decide) (by decide) e24 ⟨_, rfl, (by rw [c8, show own_z 7 = 1 by decide]; exact G7), (Fr.nil n0), rfl⟩
              · skip
                refine g_getS X0 B d1_59 62 rfl (hw _ (List.mem_of_getElem? (i := 41) rfl)) Via.refl e0 S6 (fun T25 X25 e25 => ?_)
                exact g_retA X25 B d1_62 rfl rfl rfl (by decide) (by decide) e25 ⟨_, rfl, (by rw [c7, show own_z 6 = 0 by decide]; exact G6), (Fr.nil n0), rfl⟩
            · skip
              refine g_getS X0 B d1_49 52 rfl (hw _ (List.mem_of_getElem? (i := 51) rfl)) Via.refl e0 S5 (fun T26 X26 e26 => ?_)
              exact g_retA X26 B d1_52 rfl rfl rfl (by decide) (by decide) e26 ⟨_, rfl, (by rw [c6, show own_z 5 = 0 by decide]; exact G5), (Fr.nil n0), rfl⟩
          · skip
            refine g_getS X0 B d1_40 43 rfl (hw _ (List.mem_of_getElem? (i := 62) rfl)) Via.refl e0 S4 (fun T27 X27 e27 => ?_)
            exact g_retA X27 B d1_43 rfl rfl rfl (by decide) (by decide) e27 ⟨_, rfl, (by rw [c5, show own_z 4 = 0 by decide]; exact G4), (Fr.nil n0), rfl⟩
        · skip
          refine g_getS X0 B d1_31 34 rfl (hw _ (List.mem_of_getElem? (i := 45) rfl)) Via.refl e0 S3 (fun T28 X28 e28 => ?_)
          exact g_retA X28 B d1_34 rfl rfl rfl (by decide) (by decide) e28 ⟨_, rfl, (by rw [c4, show own_z 3 = 0 by decide]; exact G3), (Fr.nil n0), rfl⟩
      · skip
        refine g_getS X0 B d1_22 25 rfl (hw _ (List.mem_of_getElem? (i := 53) rfl)) Via.refl e0 S2 (fun T29 X29 e29 => ?_)
        exact g_retA X29 B d1_25 rfl rfl rfl (by decide) (by decide) e29 ⟨_, rfl, (by rw [c3, show own_z 2 = 2 by decide]; exact G2), (Fr.nil n0), rfl⟩
    · skip
      refine g_getS X0 B d1_13 16 rfl (hw _ (List.mem_of_getElem? (i := 49) rfl)) Via.refl e0 S1 (fun T30 X30 e30 => ?_)
      exact g_retA X30 B d1_16 rfl rfl rfl (by decide) (by decide) e30 ⟨_, rfl, (by rw [c2, show own_z 1 = 0 by decide]; exact G1), (Fr.nil n0), rfl⟩
  · skip
    refine g_getS X0 B d1_4 7 rfl (hw _ (List.mem_of_getElem? (i := 5) rfl)) Via.refl e0 S0 (fun T31 X31 e31 => ?_)
    exact g_retA X31 B d1_7 rfl rfl rfl (by decide) (by decide) e31 ⟨_, rfl, (by rw [c1, show own_z 0 = 0 by decide]; exact G0), (Fr.nil n0), rfl⟩
theorem pd_2 : parseMethodDescriptor "(Lcom/example/keeper_of_casements/keeperofcasements/engine/ServiceSocket;)Z" = some ⟨[(.object "com/example/keeper_of_casements/keeperofcasements/engine/ServiceSocket")], (some .boolean)⟩ := by decide +kernel
set_option maxRecDepth 65536 in
set_option maxHeartbeats 40000000 in
theorem rm2 (l : Launch) (Z : State) (ag : Array Value) (hw : ∀ d ∈ tables_1, d.before ag Z = true) (a c : Addr) (z : Int32) (aS : Addr) (h0 : Heap) (n0 : Nat) (G : own_KD Z h0 a z) (hz : z = 0 ∨ z = 1 ∨ z = 2) (SY : Sta Z h0 "com/example/keeper_of_casements/keeperofcasements/engine/ServiceSocket" "SYSTEM" "Lcom/example/keeper_of_casements/keeperofcasements/engine/ServiceSocket;" (.ref aS)) :
    Ctr l Z (⟨"com/example/keeper_of_casements/keeperofcasements/engine/WindowKind", "mayBeAddedOn", "(Lcom/example/keeper_of_casements/keeperofcasements/engine/ServiceSocket;)Z"⟩ : MethodName) prog_22_method_6_code 2 (some .boolean) ({ frames := 1, cells := 0, slots := 0, locals := 12 } : Room) #[.ref a, .ref c] h0 (fun v h L => v = some (.int (own_may z c aS)) ∧ Fr n0 L ∧ h0 = h) := by
  refine Ctr.of pn_2 ?_
  intro p e s m below meth cd T0 X0 B e0
  refine Go.cast (f' := mkF m 0 #[.val (.ref a), .val (.ref c)] []) (by first | rfl | (simp [entryFrame, mkF, argsToLocals, Value.category, maxLocals]; done)) ?_

  obtain ⟨b, Ea, Fa, Eb, Fb⟩ := G
  refine g_aloadN X0 B d2_0 1 rfl rfl rfl ?_
  refine g_getF X0 B d2_1 4 rfl (hw _ (List.mem_of_getElem? (i := 16) rfl)) Via.refl e0 Fa (fun T1 X1 e1 => ?_)
  refine g_callUp X1 B (y := ⟨"com/example/keeper_of_casements/keeperofcasements/engine/WindowKind$AddedBy", "ordinal", "()I"⟩) (owner := "java/lang/Enum") [] [] d2_4 7 rfl rfl (hw _ (List.mem_of_getElem? (i := 20) rfl)) (hw _ (List.mem_of_getElem? (i := 21) rfl)) (hw _ (List.mem_of_getElem? (i := 22) rfl)) (hw _ (List.mem_of_getElem? (i := 24) rfl)) (hw _ (List.mem_of_getElem? (i := 23) rfl)) (hw _ (List.mem_of_getElem? (i := 25) rfl)) (hw _ (List.mem_of_getElem? (i := 26) rfl)) (by decide) (lenOf pd_3 rfl) Eb (rm3 l Z ag hw b z h0 n0 Fb) e1 rfl 0 (Nat.le_of_eq rfl) (by decide) (by decide) (by decide) (by decide) (fun v2 T2 h2 L2 X2 e2 q2 => ?_)
  obtain ⟨rfl, N2, rfl⟩ := q2
  show Go p e below _ (T2.setTop (mkF m 7 #[.val (.ref a), .val (.ref c)] [.int z]))
  rcases hz with rfl | rfl | rfl
  · skip
    refine g_tsw X2 B 35 d2_7 42 (by decide) (by decide) (by decide) (by decide) ?_
    show Go p e below _ (T2.setTop (mkF m 42 #[.val (.ref a), .val (.ref c)] []))
    refine g_iconst X2 B (1) d2_42 43 rfl rfl ?_
    refine g_goto X2 B d2_43 62 rfl (by decide) ?_
    exact g_retN X2 B d2_62 rfl rfl (by decide) (by decide) (by decide) e2 ⟨by simp [own_may], ((Fr.nil n0).app N2), rfl⟩
  · skip
    refine g_tsw X2 B 39 d2_7 46 (by decide) (by decide) (by decide) (by decide) ?_
    show Go p e below _ (T2.setTop (mkF m 46 #[.val (.ref a), .val (.ref c)] []))
    refine g_aloadN X2 B d2_46 47 rfl rfl rfl ?_
    refine g_getS X2 B d2_47 50 rfl (hw _ (List.mem_of_getElem? (i := 32) rfl)) Via.refl e2 SY (fun T3 X3 e3 => ?_)
    refine g_acmp_ne X3 B d2_50 57 53 rfl (by decide) rfl rfl rfl (fun c4 => ?_) (fun c4 => ?_)
    · skip
      refine g_iconst X3 B (0) d2_57 58 rfl rfl ?_
      refine g_goto X3 B d2_58 62 rfl (by decide) ?_
      exact g_retN X3 B d2_62 rfl rfl (by decide) (by decide) (by decide) e3 ⟨by simp only [Value.ref.injEq] at c4; simp [own_may, c4], ((Fr.nil n0).app N2), rfl⟩
    · skip
      refine g_iconst X3 B (1) d2_53 54 rfl rfl ?_
      refine g_goto X3 B d2_54 62 rfl (by decide) ?_
      exact g_retN X3 B d2_62 rfl rfl (by decide) (by decide) (by decide) e3 ⟨by simp only [Value.ref.injEq] at c4; simp [own_may, c4], ((Fr.nil n0).app N2), rfl⟩
  · skip
    refine g_tsw X2 B 54 d2_7 61 (by decide) (by decide) (by decide) (by decide) ?_
    show Go p e below _ (T2.setTop (mkF m 61 #[.val (.ref a), .val (.ref c)] []))
    refine g_iconst X2 B (0) d2_61 62 rfl rfl ?_
    exact g_retN X2 B d2_62 rfl rfl (by decide) (by decide) (by decide) e2 ⟨by simp [own_may], ((Fr.nil n0).app N2), rfl⟩
set_option maxRecDepth 65536 in
set_option maxHeartbeats 40000000 in
theorem rm0 (l : Launch) (Z : State) (ag : Array Value) (hw : ∀ d ∈ tables_1, d.before ag Z = true) (p0 p1 : Int32) (h0 : Heap) (n0 : Nat) (a0 a1 a2 a3 a4 a5 a6 a7 a8 a9 a10 a11 a12 a13 a14 a15 : Addr) (S0 : Sta Z h0 "com/example/keeper_of_casements/keeperofcasements/engine/WindowKind" "BASE_APPLICATION" "Lcom/example/keeper_of_casements/keeperofcasements/engine/WindowKind;" (.ref a0)) (S1 : Sta Z h0 "com/example/keeper_of_casements/keeperofcasements/engine/WindowKind" "APPLICATION" "Lcom/example/keeper_of_casements/keeperofcasements/engine/WindowKind;" (.ref a1)) (S2 : Sta Z h0 "com/example/keeper_of_casements/keeperofcasements/engine/WindowKind" "APPLICATION_STARTING" "Lcom/example/keeper_of_casements/keeperofcasements/engine/WindowKind;" (.ref a2)) (S3 : Sta Z h0 "com/example/keeper_of_casements/keeperofcasements/engine/WindowKind" "MEDIA" "Lcom/example/keeper_of_casements/keeperofcasements/engine/WindowKind;" (.ref a3)) (S4 : Sta Z h0 "com/example/keeper_of_casements/keeperofcasements/engine/WindowKind" "PANEL" "Lcom/example/keeper_of_casements/keeperofcasements/engine/WindowKind;" (.ref a4)) (S5 : Sta Z h0 "com/example/keeper_of_casements/keeperofcasements/engine/WindowKind" "SUB_PANEL" "Lcom/example/keeper_of_casements/keeperofcasements/engine/WindowKind;" (.ref a5)) (S6 : Sta Z h0 "com/example/keeper_of_casements/keeperofcasements/engine/WindowKind" "ATTACHED_DIALOG" "Lcom/example/keeper_of_casements/keeperofcasements/engine/WindowKind;" (.ref a6)) (S7 : Sta Z h0 "com/example/keeper_of_casements/keeperofcasements/engine/WindowKind" "WALLPAPER" "Lcom/example/keeper_of_casements/keeperofcasements/engine/WindowKind;" (.ref a7)) (S8 : Sta Z h0 "com/example/keeper_of_casements/keeperofcasements/engine/WindowKind" "OVERLAY" "Lcom/example/keeper_of_casements/keeperofcasements/engine/WindowKind;" (.ref a8)) (S9 : Sta Z h0 "com/example/keeper_of_casements/keeperofcasements/engine/WindowKind" "TOAST" "Lcom/example/keeper_of_casements/keeperofcasements/engine/WindowKind;" (.ref a9)) (S10 : Sta Z h0 "com/example/keeper_of_casements/keeperofcasements/engine/WindowKind" "INPUT_METHOD" "Lcom/example/keeper_of_casements/keeperofcasements/engine/WindowKind;" (.ref a10)) (S11 : Sta Z h0 "com/example/keeper_of_casements/keeperofcasements/engine/WindowKind" "INPUT_METHOD_DIALOG" "Lcom/example/keeper_of_casements/keeperofcasements/engine/WindowKind;" (.ref a11)) (S12 : Sta Z h0 "com/example/keeper_of_casements/keeperofcasements/engine/WindowKind" "STATUS_BAR" "Lcom/example/keeper_of_casements/keeperofcasements/engine/WindowKind;" (.ref a12)) (S13 : Sta Z h0 "com/example/keeper_of_casements/keeperofcasements/engine/WindowKind" "SYSTEM_ALERT" "Lcom/example/keeper_of_casements/keeperofcasements/engine/WindowKind;" (.ref a13)) (S14 : Sta Z h0 "com/example/keeper_of_casements/keeperofcasements/engine/WindowKind" "NAVIGATION_BAR" "Lcom/example/keeper_of_casements/keeperofcasements/engine/WindowKind;" (.ref a14)) (S15 : Sta Z h0 "com/example/keeper_of_casements/keeperofcasements/engine/WindowKind" "DOCK_DIVIDER" "Lcom/example/keeper_of_casements/keeperofcasements/engine/WindowKind;" (.ref a15)) (G0 : own_KD Z h0 a0 0) (G1 : own_KD Z h0 a1 0) (G2 : own_KD Z h0 a2 2) (G3 : own_KD Z h0 a3 0) (G4 : own_KD Z h0 a4 0) (G5 : own_KD Z h0 a5 0) (G6 : own_KD Z h0 a6 0) (G7 : own_KD Z h0 a7 1) (G8 : own_KD Z h0 a8 0) (G9 : own_KD Z h0 a9 0) (G10 : own_KD Z h0 a10 1) (G11 : own_KD Z h0 a11 1) (G12 : own_KD Z h0 a12 1) (G13 : own_KD Z h0 a13 1) (G14 : own_KD Z h0 a14 1) (G15 : own_KD Z h0 a15 1) (aS aA : Addr) (SY : Sta Z h0 "com/example/keeper_of_casements/keeperofcasements/engine/ServiceSocket" "SYSTEM" "Lcom/example/keeper_of_casements/keeperofcasements/engine/ServiceSocket;" (.ref aS)) (SA : Sta Z h0 "com/example/keeper_of_casements/keeperofcasements/engine/ServiceSocket" "APP" "Lcom/example/keeper_of_casements/keeperofcasements/engine/ServiceSocket;" (.ref aA)) (nA : aA ≠ aS) :
    Ctr l Z x code maxLocals ret room_1 #[.int p0, .int p1] h0 (fun v h L => v = some (.int 1) ∧ Fr n0 L ∧ h0 = h) := by
  refine Ctr.of pn_0 ?_
  intro p e s m below meth c T0 X0 B e0
  refine Go.cast (f' := mkF m 0 #[.val (.int p0), .val (.int p1), .unset, .unset, .unset, .unset, .unset] []) (by first | rfl | (simp [entryFrame, mkF, argsToLocals, Value.category, maxLocals]; done)) ?_

  obtain ⟨i, hi, ki⟩ := own_m16 p0
  refine g_iloadN X0 B at_0 1 rfl rfl ?_
  refine g_ldcI X0 B at_1 3 rfl (hw _ (List.mem_of_getElem? (i := 0) rfl)) ?_
  refine g_iand X0 B at_3 4 rfl ?_
  refine g_bipush X0 B (16) at_4 6 rfl rfl ?_
  refine g_irem X0 B at_6 7 rfl (by decide) ?_
  refine g_istoreN X0 B #[.val (.int p0), .val (.int p1), .val (.int ((p0 &&& (2147483647 : Int32)) % (16 : Int32))), .unset, .unset, .unset, .unset] at_7 8 rfl rfl ?_
  refine g_iloadN X0 B at_8 9 rfl rfl ?_
  refine g_iconst X0 B (1) at_9 10 rfl rfl ?_
  refine g_iand X0 B at_10 11 rfl ?_
  refine g_if_eq X0 B at_11 18 14 rfl (by decide) rfl (fun c1 => ?_) (fun c1 => ?_)
  · skip
    refine g_iconst X0 B (0) at_18 19 rfl rfl ?_
    refine g_istoreN X0 B #[.val (.int p0), .val (.int p1), .val (.int ((p0 &&& (2147483647 : Int32)) % (16 : Int32))), .val (.int (0 : Int32)), .unset, .unset, .unset] at_19 20 rfl rfl ?_
    refine g_iloadN X0 B at_20 21 rfl rfl ?_
    refine g_callS X0 B [.int ((p0 &&& (2147483647 : Int32)) % (16 : Int32))] [] at_21 24 rfl rfl (hw _ (List.mem_of_getElem? (i := 1) rfl)) (hw _ (List.mem_of_getElem? (i := 2) rfl)) (hw _ (List.mem_of_getElem? (i := 3) rfl)) (hw _ (List.mem_of_getElem? (i := 4) rfl)) (by decide) (lenOf pd_1 rfl) (rm1 l Z ag hw ((p0 &&& (2147483647 : Int32)) % (16 : Int32)) h0 n0 a0 a1 a2 a3 a4 a5 a6 a7 a8 a9 a10 a11 a12 a13 a14 a15 S0 S1 S2 S3 S4 S5 S6 S7 S8 S9 S10 S11 S12 S13 S14 S15 G0 G1 G2 G3 G4 G5 G6 G7 G8 G9 G10 G11 G12 G13 G14 G15) e0 rfl 0 (Nat.le_of_eq rfl) (by decide) (by decide) (by decide) (by decide) (fun v2 T2 h2 L2 X2 e2 q2 => ?_)
    obtain ⟨b, rfl, Gb, N2, rfl⟩ := q2
    obtain ⟨bb, Eb, -⟩ := id Gb
    show Go p e below _ (T2.setTop (mkF m 24 #[.val (.int p0), .val (.int p1), .val (.int ((p0 &&& (2147483647 : Int32)) % (16 : Int32))), .val (.int (0 : Int32)), .unset, .unset, .unset] [.ref b]))
    refine g_astore X2 B #[.val (.int p0), .val (.int p1), .val (.int ((p0 &&& (2147483647 : Int32)) % (16 : Int32))), .val (.int (0 : Int32)), .val (.ref b), .unset, .unset] at_24 26 rfl rfl rfl ?_
    refine g_iloadN X2 B at_26 27 rfl rfl ?_
    refine g_if_eq X2 B at_27 36 30 rfl (by decide) rfl (fun _ => ?_) (fun z => own_abs (by decide) z)
    refine g_getS X2 B at_36 39 rfl (hw _ (List.mem_of_getElem? (i := 37) rfl)) Via.refl e2 SA (fun T3 X3 e3 => ?_)
    refine g_astore X3 B #[.val (.int p0), .val (.int p1), .val (.int ((p0 &&& (2147483647 : Int32)) % (16 : Int32))), .val (.int (0 : Int32)), .val (.ref b), .val (.ref aA), .unset] at_39 41 rfl rfl rfl ?_
    refine g_iloadN X3 B at_41 42 rfl rfl ?_
    refine g_iconst X3 B (2) at_42 43 rfl rfl ?_
    refine g_icmp_ne X3 B at_43 52 46 rfl (by decide) rfl (fun c4 => ?_) (fun c4 => ?_)
    · skip
      refine g_iloadN X3 B at_52 53 rfl rfl ?_
      refine g_bipush X3 B (7) at_53 55 rfl rfl ?_
      refine g_icmp_eq X3 B at_55 64 58 rfl (by decide) rfl (fun c5 => ?_) (fun c5 => ?_)
      · skip
        refine g_iloadN X3 B at_64 65 rfl rfl ?_
        refine g_istore X3 B #[.val (.int p0), .val (.int p1), .val (.int ((p0 &&& (2147483647 : Int32)) % (16 : Int32))), .val (.int (0 : Int32)), .val (.ref b), .val (.ref aA), .val (.int (0 : Int32))] at_65 67 rfl rfl ?_
        refine g_goto X3 B at_67 73 rfl (by decide) ?_
        refine g_aload X3 B at_73 75 rfl rfl rfl ?_
        refine g_aload X3 B at_75 77 rfl rfl rfl ?_
        refine g_callV X3 B [.ref aA] [] at_77 80 rfl rfl (hw _ (List.mem_of_getElem? (i := 11) rfl)) (hw _ (List.mem_of_getElem? (i := 12) rfl)) (hw _ (List.mem_of_getElem? (i := 14) rfl)) (hw _ (List.mem_of_getElem? (i := 13) rfl)) (hw _ (List.mem_of_getElem? (i := 6) rfl)) (hw _ (List.mem_of_getElem? (i := 15) rfl)) (by decide) (lenOf pd_2 rfl) Eb (rm2 l Z ag hw b aA (own_z ((p0 &&& (2147483647 : Int32)) % (16 : Int32))) aS h0 n0 Gb (own_z3 _) SY) e3 rfl 0 (Nat.le_of_eq rfl) (by decide) (by decide) (by decide) (by decide) (fun v6 T6 h6 L6 X6 e6 q6 => ?_)
        obtain ⟨rfl, N6, rfl⟩ := q6
        show Go p e below _ (T6.setTop (mkF m 80 #[.val (.int p0), .val (.int p1), .val (.int ((p0 &&& (2147483647 : Int32)) % (16 : Int32))), .val (.int (0 : Int32)), .val (.ref b), .val (.ref aA), .val (.int (0 : Int32))] [.int (own_may (own_z ((p0 &&& (2147483647 : Int32)) % (16 : Int32))) aA aS)]))
        refine g_iload X6 B at_80 82 rfl rfl ?_
        refine g_icmp_ne X6 B at_82 89 85 rfl (by decide) rfl (fun z => own_abs (by rw [c5]; simp [own_may, own_z, nA]) z) (fun _ => ?_)
        refine g_iconst X6 B (1) at_85 86 rfl rfl ?_
        refine g_goto X6 B at_86 90 rfl (by decide) ?_
        exact g_retN X6 B at_90 rfl rfl (by decide) (by decide) (by decide) e6 ⟨rfl, (((Fr.nil n0).app N2).app N6), rfl⟩
      · skip
        refine g_iloadN X3 B at_58 59 rfl rfl ?_
        refine g_bipush X3 B (10) at_59 61 rfl rfl ?_
        refine g_icmp_lt X3 B at_61 70 64 rfl (by decide) rfl (fun c7 => ?_) (fun c7 => ?_)
        · skip
          refine g_iconst X3 B (1) at_70 71 rfl rfl ?_
          refine g_istore X3 B #[.val (.int p0), .val (.int p1), .val (.int ((p0 &&& (2147483647 : Int32)) % (16 : Int32))), .val (.int (0 : Int32)), .val (.ref b), .val (.ref aA), .val (.int (1 : Int32))] at_71 73 rfl rfl ?_
          refine g_aload X3 B at_73 75 rfl rfl rfl ?_
          refine g_aload X3 B at_75 77 rfl rfl rfl ?_
          refine g_callV X3 B [.ref aA] [] at_77 80 rfl rfl (hw _ (List.mem_of_getElem? (i := 11) rfl)) (hw _ (List.mem_of_getElem? (i := 12) rfl)) (hw _ (List.mem_of_getElem? (i := 14) rfl)) (hw _ (List.mem_of_getElem? (i := 13) rfl)) (hw _ (List.mem_of_getElem? (i := 6) rfl)) (hw _ (List.mem_of_getElem? (i := 15) rfl)) (by decide) (lenOf pd_2 rfl) Eb (rm2 l Z ag hw b aA (own_z ((p0 &&& (2147483647 : Int32)) % (16 : Int32))) aS h0 n0 Gb (own_z3 _) SY) e3 rfl 0 (Nat.le_of_eq rfl) (by decide) (by decide) (by decide) (by decide) (fun v8 T8 h8 L8 X8 e8 q8 => ?_)
          obtain ⟨rfl, N8, rfl⟩ := q8
          show Go p e below _ (T8.setTop (mkF m 80 #[.val (.int p0), .val (.int p1), .val (.int ((p0 &&& (2147483647 : Int32)) % (16 : Int32))), .val (.int (0 : Int32)), .val (.ref b), .val (.ref aA), .val (.int (1 : Int32))] [.int (own_may (own_z ((p0 &&& (2147483647 : Int32)) % (16 : Int32))) aA aS)]))
          refine g_iload X8 B at_80 82 rfl rfl ?_
          refine g_icmp_ne X8 B at_82 89 85 rfl (by decide) rfl (fun z => own_abs (by have q := own_z0 i hi (ki ▸ c4) (ki ▸ c5) (ki ▸ c7); rw [ki, q]; simp [own_may]) z) (fun _ => ?_)
          refine g_iconst X8 B (1) at_85 86 rfl rfl ?_
          refine g_goto X8 B at_86 90 rfl (by decide) ?_
          exact g_retN X8 B at_90 rfl rfl (by decide) (by decide) (by decide) e8 ⟨rfl, (((Fr.nil n0).app N2).app N8), rfl⟩
        · skip
          refine g_iloadN X3 B at_64 65 rfl rfl ?_
          refine g_istore X3 B #[.val (.int p0), .val (.int p1), .val (.int ((p0 &&& (2147483647 : Int32)) % (16 : Int32))), .val (.int (0 : Int32)), .val (.ref b), .val (.ref aA), .val (.int (0 : Int32))] at_65 67 rfl rfl ?_
          refine g_goto X3 B at_67 73 rfl (by decide) ?_
          refine g_aload X3 B at_73 75 rfl rfl rfl ?_
          refine g_aload X3 B at_75 77 rfl rfl rfl ?_
          refine g_callV X3 B [.ref aA] [] at_77 80 rfl rfl (hw _ (List.mem_of_getElem? (i := 11) rfl)) (hw _ (List.mem_of_getElem? (i := 12) rfl)) (hw _ (List.mem_of_getElem? (i := 14) rfl)) (hw _ (List.mem_of_getElem? (i := 13) rfl)) (hw _ (List.mem_of_getElem? (i := 6) rfl)) (hw _ (List.mem_of_getElem? (i := 15) rfl)) (by decide) (lenOf pd_2 rfl) Eb (rm2 l Z ag hw b aA (own_z ((p0 &&& (2147483647 : Int32)) % (16 : Int32))) aS h0 n0 Gb (own_z3 _) SY) e3 rfl 0 (Nat.le_of_eq rfl) (by decide) (by decide) (by decide) (by decide) (fun v9 T9 h9 L9 X9 e9 q9 => ?_)
          obtain ⟨rfl, N9, rfl⟩ := q9
          show Go p e below _ (T9.setTop (mkF m 80 #[.val (.int p0), .val (.int p1), .val (.int ((p0 &&& (2147483647 : Int32)) % (16 : Int32))), .val (.int (0 : Int32)), .val (.ref b), .val (.ref aA), .val (.int (0 : Int32))] [.int (own_may (own_z ((p0 &&& (2147483647 : Int32)) % (16 : Int32))) aA aS)]))
          refine g_iload X9 B at_80 82 rfl rfl ?_
          refine g_icmp_ne X9 B at_82 89 85 rfl (by decide) rfl (fun z => own_abs (by have q := own_z1 i hi (ki ▸ c7); rw [ki, q]; simp [own_may, nA]) z) (fun _ => ?_)
          refine g_iconst X9 B (1) at_85 86 rfl rfl ?_
          refine g_goto X9 B at_86 90 rfl (by decide) ?_
          exact g_retN X9 B at_90 rfl rfl (by decide) (by decide) (by decide) e9 ⟨rfl, (((Fr.nil n0).app N2).app N9), rfl⟩
    · skip
      refine g_iconst X3 B (0) at_46 47 rfl rfl ?_
      refine g_istore X3 B #[.val (.int p0), .val (.int p1), .val (.int ((p0 &&& (2147483647 : Int32)) % (16 : Int32))), .val (.int (0 : Int32)), .val (.ref b), .val (.ref aA), .val (.int (0 : Int32))] at_47 49 rfl rfl ?_
      refine g_goto X3 B at_49 73 rfl (by decide) ?_
      refine g_aload X3 B at_73 75 rfl rfl rfl ?_
      refine g_aload X3 B at_75 77 rfl rfl rfl ?_
      refine g_callV X3 B [.ref aA] [] at_77 80 rfl rfl (hw _ (List.mem_of_getElem? (i := 11) rfl)) (hw _ (List.mem_of_getElem? (i := 12) rfl)) (hw _ (List.mem_of_getElem? (i := 14) rfl)) (hw _ (List.mem_of_getElem? (i := 13) rfl)) (hw _ (List.mem_of_getElem? (i := 6) rfl)) (hw _ (List.mem_of_getElem? (i := 15) rfl)) (by decide) (lenOf pd_2 rfl) Eb (rm2 l Z ag hw b aA (own_z ((p0 &&& (2147483647 : Int32)) % (16 : Int32))) aS h0 n0 Gb (own_z3 _) SY) e3 rfl 0 (Nat.le_of_eq rfl) (by decide) (by decide) (by decide) (by decide) (fun v10 T10 h10 L10 X10 e10 q10 => ?_)
      obtain ⟨rfl, N10, rfl⟩ := q10
      show Go p e below _ (T10.setTop (mkF m 80 #[.val (.int p0), .val (.int p1), .val (.int ((p0 &&& (2147483647 : Int32)) % (16 : Int32))), .val (.int (0 : Int32)), .val (.ref b), .val (.ref aA), .val (.int (0 : Int32))] [.int (own_may (own_z ((p0 &&& (2147483647 : Int32)) % (16 : Int32))) aA aS)]))
      refine g_iload X10 B at_80 82 rfl rfl ?_
      refine g_icmp_ne X10 B at_82 89 85 rfl (by decide) rfl (fun z => own_abs (by rw [c4]; simp [own_may, own_z]) z) (fun _ => ?_)
      refine g_iconst X10 B (1) at_85 86 rfl rfl ?_
      refine g_goto X10 B at_86 90 rfl (by decide) ?_
      exact g_retN X10 B at_90 rfl rfl (by decide) (by decide) (by decide) e10 ⟨rfl, (((Fr.nil n0).app N2).app N10), rfl⟩
  · skip
    refine g_iconst X0 B (1) at_14 15 rfl rfl ?_
    refine g_goto X0 B at_15 19 rfl (by decide) ?_
    refine g_istoreN X0 B #[.val (.int p0), .val (.int p1), .val (.int ((p0 &&& (2147483647 : Int32)) % (16 : Int32))), .val (.int (1 : Int32)), .unset, .unset, .unset] at_19 20 rfl rfl ?_
    refine g_iloadN X0 B at_20 21 rfl rfl ?_
    refine g_callS X0 B [.int ((p0 &&& (2147483647 : Int32)) % (16 : Int32))] [] at_21 24 rfl rfl (hw _ (List.mem_of_getElem? (i := 1) rfl)) (hw _ (List.mem_of_getElem? (i := 2) rfl)) (hw _ (List.mem_of_getElem? (i := 3) rfl)) (hw _ (List.mem_of_getElem? (i := 4) rfl)) (by decide) (lenOf pd_1 rfl) (rm1 l Z ag hw ((p0 &&& (2147483647 : Int32)) % (16 : Int32)) h0 n0 a0 a1 a2 a3 a4 a5 a6 a7 a8 a9 a10 a11 a12 a13 a14 a15 S0 S1 S2 S3 S4 S5 S6 S7 S8 S9 S10 S11 S12 S13 S14 S15 G0 G1 G2 G3 G4 G5 G6 G7 G8 G9 G10 G11 G12 G13 G14 G15) e0 rfl 0 (Nat.le_of_eq rfl) (by decide) (by decide) (by decide) (by decide) (fun v11 T11 h11 L11 X11 e11 q11 => ?_)
    obtain ⟨b, rfl, Gb, N11, rfl⟩ := q11
    obtain ⟨bb, Eb, -⟩ := id Gb
    show Go p e below _ (T11.setTop (mkF m 24 #[.val (.int p0), .val (.int p1), .val (.int ((p0 &&& (2147483647 : Int32)) % (16 : Int32))), .val (.int (1 : Int32)), .unset, .unset, .unset] [.ref b]))
    refine g_astore X11 B #[.val (.int p0), .val (.int p1), .val (.int ((p0 &&& (2147483647 : Int32)) % (16 : Int32))), .val (.int (1 : Int32)), .val (.ref b), .unset, .unset] at_24 26 rfl rfl rfl ?_
    refine g_iloadN X11 B at_26 27 rfl rfl ?_
    refine g_if_eq X11 B at_27 36 30 rfl (by decide) rfl (fun z => own_abs' (by decide) z) (fun _ => ?_)
    refine g_getS X11 B at_30 33 rfl (hw _ (List.mem_of_getElem? (i := 8) rfl)) Via.refl e11 SY (fun T12 X12 e12 => ?_)
    refine g_goto X12 B at_33 39 rfl (by decide) ?_
    refine g_astore X12 B #[.val (.int p0), .val (.int p1), .val (.int ((p0 &&& (2147483647 : Int32)) % (16 : Int32))), .val (.int (1 : Int32)), .val (.ref b), .val (.ref aS), .unset] at_39 41 rfl rfl rfl ?_
    refine g_iloadN X12 B at_41 42 rfl rfl ?_
    refine g_iconst X12 B (2) at_42 43 rfl rfl ?_
    refine g_icmp_ne X12 B at_43 52 46 rfl (by decide) rfl (fun c13 => ?_) (fun c13 => ?_)
    · skip
      refine g_iloadN X12 B at_52 53 rfl rfl ?_
      refine g_bipush X12 B (7) at_53 55 rfl rfl ?_
      refine g_icmp_eq X12 B at_55 64 58 rfl (by decide) rfl (fun c14 => ?_) (fun c14 => ?_)
      · skip
        refine g_iloadN X12 B at_64 65 rfl rfl ?_
        refine g_istore X12 B #[.val (.int p0), .val (.int p1), .val (.int ((p0 &&& (2147483647 : Int32)) % (16 : Int32))), .val (.int (1 : Int32)), .val (.ref b), .val (.ref aS), .val (.int (1 : Int32))] at_65 67 rfl rfl ?_
        refine g_goto X12 B at_67 73 rfl (by decide) ?_
        refine g_aload X12 B at_73 75 rfl rfl rfl ?_
        refine g_aload X12 B at_75 77 rfl rfl rfl ?_
        refine g_callV X12 B [.ref aS] [] at_77 80 rfl rfl (hw _ (List.mem_of_getElem? (i := 11) rfl)) (hw _ (List.mem_of_getElem? (i := 12) rfl)) (hw _ (List.mem_of_getElem? (i := 14) rfl)) (hw _ (List.mem_of_getElem? (i := 13) rfl)) (hw _ (List.mem_of_getElem? (i := 6) rfl)) (hw _ (List.mem_of_getElem? (i := 15) rfl)) (by decide) (lenOf pd_2 rfl) Eb (rm2 l Z ag hw b aS (own_z ((p0 &&& (2147483647 : Int32)) % (16 : Int32))) aS h0 n0 Gb (own_z3 _) SY) e12 rfl 0 (Nat.le_of_eq rfl) (by decide) (by decide) (by decide) (by decide) (fun v15 T15 h15 L15 X15 e15 q15 => ?_)
        obtain ⟨rfl, N15, rfl⟩ := q15
        show Go p e below _ (T15.setTop (mkF m 80 #[.val (.int p0), .val (.int p1), .val (.int ((p0 &&& (2147483647 : Int32)) % (16 : Int32))), .val (.int (1 : Int32)), .val (.ref b), .val (.ref aS), .val (.int (1 : Int32))] [.int (own_may (own_z ((p0 &&& (2147483647 : Int32)) % (16 : Int32))) aS aS)]))
        refine g_iload X15 B at_80 82 rfl rfl ?_
        refine g_icmp_ne X15 B at_82 89 85 rfl (by decide) rfl (fun z => own_abs (by rw [c14]; simp [own_may, own_z]) z) (fun _ => ?_)
        refine g_iconst X15 B (1) at_85 86 rfl rfl ?_
        refine g_goto X15 B at_86 90 rfl (by decide) ?_
        exact g_retN X15 B at_90 rfl rfl (by decide) (by decide) (by decide) e15 ⟨rfl, (((Fr.nil n0).app N11).app N15), rfl⟩
      · skip
        refine g_iloadN X12 B at_58 59 rfl rfl ?_
        refine g_bipush X12 B (10) at_59 61 rfl rfl ?_
        refine g_icmp_lt X12 B at_61 70 64 rfl (by decide) rfl (fun c16 => ?_) (fun c16 => ?_)
        · skip
          refine g_iconst X12 B (1) at_70 71 rfl rfl ?_
          refine g_istore X12 B #[.val (.int p0), .val (.int p1), .val (.int ((p0 &&& (2147483647 : Int32)) % (16 : Int32))), .val (.int (1 : Int32)), .val (.ref b), .val (.ref aS), .val (.int (1 : Int32))] at_71 73 rfl rfl ?_
          refine g_aload X12 B at_73 75 rfl rfl rfl ?_
          refine g_aload X12 B at_75 77 rfl rfl rfl ?_
          refine g_callV X12 B [.ref aS] [] at_77 80 rfl rfl (hw _ (List.mem_of_getElem? (i := 11) rfl)) (hw _ (List.mem_of_getElem? (i := 12) rfl)) (hw _ (List.mem_of_getElem? (i := 14) rfl)) (hw _ (List.mem_of_getElem? (i := 13) rfl)) (hw _ (List.mem_of_getElem? (i := 6) rfl)) (hw _ (List.mem_of_getElem? (i := 15) rfl)) (by decide) (lenOf pd_2 rfl) Eb (rm2 l Z ag hw b aS (own_z ((p0 &&& (2147483647 : Int32)) % (16 : Int32))) aS h0 n0 Gb (own_z3 _) SY) e12 rfl 0 (Nat.le_of_eq rfl) (by decide) (by decide) (by decide) (by decide) (fun v17 T17 h17 L17 X17 e17 q17 => ?_)
          obtain ⟨rfl, N17, rfl⟩ := q17
          show Go p e below _ (T17.setTop (mkF m 80 #[.val (.int p0), .val (.int p1), .val (.int ((p0 &&& (2147483647 : Int32)) % (16 : Int32))), .val (.int (1 : Int32)), .val (.ref b), .val (.ref aS), .val (.int (1 : Int32))] [.int (own_may (own_z ((p0 &&& (2147483647 : Int32)) % (16 : Int32))) aS aS)]))
          refine g_iload X17 B at_80 82 rfl rfl ?_
          refine g_icmp_ne X17 B at_82 89 85 rfl (by decide) rfl (fun z => own_abs (by have q := own_z0 i hi (ki ▸ c13) (ki ▸ c14) (ki ▸ c16); rw [ki, q]; simp [own_may]) z) (fun _ => ?_)
          refine g_iconst X17 B (1) at_85 86 rfl rfl ?_
          refine g_goto X17 B at_86 90 rfl (by decide) ?_
          exact g_retN X17 B at_90 rfl rfl (by decide) (by decide) (by decide) e17 ⟨rfl, (((Fr.nil n0).app N11).app N17), rfl⟩
        · skip
          refine g_iloadN X12 B at_64 65 rfl rfl ?_
          refine g_istore X12 B #[.val (.int p0), .val (.int p1), .val (.int ((p0 &&& (2147483647 : Int32)) % (16 : Int32))), .val (.int (1 : Int32)), .val (.ref b), .val (.ref aS), .val (.int (1 : Int32))] at_65 67 rfl rfl ?_
          refine g_goto X12 B at_67 73 rfl (by decide) ?_
          refine g_aload X12 B at_73 75 rfl rfl rfl ?_
          refine g_aload X12 B at_75 77 rfl rfl rfl ?_
          refine g_callV X12 B [.ref aS] [] at_77 80 rfl rfl (hw _ (List.mem_of_getElem? (i := 11) rfl)) (hw _ (List.mem_of_getElem? (i := 12) rfl)) (hw _ (List.mem_of_getElem? (i := 14) rfl)) (hw _ (List.mem_of_getElem? (i := 13) rfl)) (hw _ (List.mem_of_getElem? (i := 6) rfl)) (hw _ (List.mem_of_getElem? (i := 15) rfl)) (by decide) (lenOf pd_2 rfl) Eb (rm2 l Z ag hw b aS (own_z ((p0 &&& (2147483647 : Int32)) % (16 : Int32))) aS h0 n0 Gb (own_z3 _) SY) e12 rfl 0 (Nat.le_of_eq rfl) (by decide) (by decide) (by decide) (by decide) (fun v18 T18 h18 L18 X18 e18 q18 => ?_)
          obtain ⟨rfl, N18, rfl⟩ := q18
          show Go p e below _ (T18.setTop (mkF m 80 #[.val (.int p0), .val (.int p1), .val (.int ((p0 &&& (2147483647 : Int32)) % (16 : Int32))), .val (.int (1 : Int32)), .val (.ref b), .val (.ref aS), .val (.int (1 : Int32))] [.int (own_may (own_z ((p0 &&& (2147483647 : Int32)) % (16 : Int32))) aS aS)]))
          refine g_iload X18 B at_80 82 rfl rfl ?_
          refine g_icmp_ne X18 B at_82 89 85 rfl (by decide) rfl (fun z => own_abs (by have q := own_z1 i hi (ki ▸ c16); rw [ki, q]; simp [own_may]) z) (fun _ => ?_)
          refine g_iconst X18 B (1) at_85 86 rfl rfl ?_
          refine g_goto X18 B at_86 90 rfl (by decide) ?_
          exact g_retN X18 B at_90 rfl rfl (by decide) (by decide) (by decide) e18 ⟨rfl, (((Fr.nil n0).app N11).app N18), rfl⟩
    · skip
      refine g_iconst X12 B (0) at_46 47 rfl rfl ?_
      refine g_istore X12 B #[.val (.int p0), .val (.int p1), .val (.int ((p0 &&& (2147483647 : Int32)) % (16 : Int32))), .val (.int (1 : Int32)), .val (.ref b), .val (.ref aS), .val (.int (0 : Int32))] at_47 49 rfl rfl ?_
      refine g_goto X12 B at_49 73 rfl (by decide) ?_
      refine g_aload X12 B at_73 75 rfl rfl rfl ?_
      refine g_aload X12 B at_75 77 rfl rfl rfl ?_
      refine g_callV X12 B [.ref aS] [] at_77 80 rfl rfl (hw _ (List.mem_of_getElem? (i := 11) rfl)) (hw _ (List.mem_of_getElem? (i := 12) rfl)) (hw _ (List.mem_of_getElem? (i := 14) rfl)) (hw _ (List.mem_of_getElem? (i := 13) rfl)) (hw _ (List.mem_of_getElem? (i := 6) rfl)) (hw _ (List.mem_of_getElem? (i := 15) rfl)) (by decide) (lenOf pd_2 rfl) Eb (rm2 l Z ag hw b aS (own_z ((p0 &&& (2147483647 : Int32)) % (16 : Int32))) aS h0 n0 Gb (own_z3 _) SY) e12 rfl 0 (Nat.le_of_eq rfl) (by decide) (by decide) (by decide) (by decide) (fun v19 T19 h19 L19 X19 e19 q19 => ?_)
      obtain ⟨rfl, N19, rfl⟩ := q19
      show Go p e below _ (T19.setTop (mkF m 80 #[.val (.int p0), .val (.int p1), .val (.int ((p0 &&& (2147483647 : Int32)) % (16 : Int32))), .val (.int (1 : Int32)), .val (.ref b), .val (.ref aS), .val (.int (0 : Int32))] [.int (own_may (own_z ((p0 &&& (2147483647 : Int32)) % (16 : Int32))) aS aS)]))
      refine g_iload X19 B at_80 82 rfl rfl ?_
      refine g_icmp_ne X19 B at_82 89 85 rfl (by decide) rfl (fun z => own_abs (by rw [c13]; simp [own_may, own_z]) z) (fun _ => ?_)
      refine g_iconst X19 B (1) at_85 86 rfl rfl ?_
      refine g_goto X19 B at_86 90 rfl (by decide) ?_
      exact g_retN X19 B at_90 rfl rfl (by decide) (by decide) (by decide) e19 ⟨rfl, (((Fr.nil n0).app N11).app N19), rfl⟩
set_option maxRecDepth 65536 in
set_option maxHeartbeats 40000000 in
theorem comes_1 {Post : Tables → Env → Array Value → State → Outcome → State → Prop} (hpost : ∀ tb e args s v u, (limb_1_1.after args s (.returned v) u = true ∧ limb_1_2.after args s (.returned v) u = true ∧ True) → FrameEnd s (.returned v) u (Jvm.fieldLocs frame_1_writes args s ++ Jvm.arrayLocs frame_1_arrays args s ++ Jvm.staticLocs frame_1_statics s) 0 0 → Post tb e args s (.returned v) u) :
    ArmFor flags0 classFile x code maxLocals ret World_1 tables_1 room_1 Calls_1 rest_1 Pre_1 Post := by
  intro l hfl _ _ p e ha hc hk s m args below hf hA hF happ hP
  obtain ⟨hcalls, hrest, hpre⟩ := hP
  obtain ⟨-, -, -, hnamed, -, -, -, hat⟩ := (Spec.applies_iff hf).mp happ
  obtain ⟨hg, hn⟩ := and_e (Cond.before_iff.mp (show (Jvm.Cond.and given_1 narrow_1).before args s = true from hpre))
  obtain ⟨g0, hg⟩ := and_e hg
  obtain ⟨g1, hg⟩ := and_e hg
  have g2 := hg
  obtain ⟨w0, w1, rfl⟩ : ∃ w0 w1 : Value, args = #[w0, w1] := by
    have hs : args.size = 2 := by simpa [Cond.value, given_1] using g0
    obtain ⟨L⟩ := args
    match L, hs with
    | [w0, w1], _ => exact ⟨w0, w1, rfl⟩
  have hw := fun d (hd : d ∈ tables_1) => atoms_spec (ws := Jvm.Cond.code x code maxLocals ret :: tables_1) hat d (List.mem_cons_of_mem _ hd)
  have hfit : Fit s := fun {y c} hc i hi => by
    obtain ⟨ha, rfl⟩ := Array.getElem?_eq_some_iff.mp hc
    have q := List.all_eq_true.mp ((Array.all_eq_true_iff_forall_mem.mp hF) _ (Array.getElem_mem ha)) i (List.mem_range.mpr hi)
    simpa [Array.getElem?_eq_getElem hi] using q
  obtain ⟨i0, q0⟩ := is_v g1
  obtain rfl : w0 = (.int i0) := Option.some.inj q0
  obtain ⟨i1, q1⟩ := is_v g2
  obtain rfl : w1 = (.int i1) := Option.some.inj q1
  obtain ⟨m0, hn⟩ := and_e hn
  obtain ⟨m1, hn⟩ := and_e hn
  obtain ⟨m2, hn⟩ := and_e hn
  obtain ⟨m3, hn⟩ := and_e hn
  obtain ⟨m4, hn⟩ := and_e hn
  obtain ⟨m5, hn⟩ := and_e hn
  obtain ⟨m6, hn⟩ := and_e hn
  obtain ⟨m7, hn⟩ := and_e hn
  obtain ⟨m8, hn⟩ := and_e hn
  obtain ⟨m9, hn⟩ := and_e hn
  obtain ⟨m10, hn⟩ := and_e hn
  obtain ⟨m11, hn⟩ := and_e hn
  obtain ⟨m12, hn⟩ := and_e hn
  obtain ⟨m13, hn⟩ := and_e hn
  obtain ⟨m14, hn⟩ := and_e hn
  obtain ⟨m15, hn⟩ := and_e hn
  obtain ⟨m16, hn⟩ := and_e hn
  obtain ⟨m17, hn⟩ := and_e hn
  obtain ⟨m18, hn⟩ := and_e hn
  obtain ⟨m19, hn⟩ := and_e hn
  obtain ⟨m20, hn⟩ := and_e hn
  obtain ⟨m21, hn⟩ := and_e hn
  obtain ⟨m22, hn⟩ := and_e hn
  obtain ⟨m23, hn⟩ := and_e hn
  obtain ⟨m24, hn⟩ := and_e hn
  obtain ⟨m25, hn⟩ := and_e hn
  obtain ⟨m26, hn⟩ := and_e hn
  obtain ⟨m27, hn⟩ := and_e hn
  obtain ⟨m28, hn⟩ := and_e hn
  obtain ⟨m29, hn⟩ := and_e hn
  obtain ⟨m30, hn⟩ := and_e hn
  obtain ⟨m31, hn⟩ := and_e hn
  obtain ⟨m32, hn⟩ := and_e hn
  obtain ⟨m33, hn⟩ := and_e hn
  obtain ⟨m34, hn⟩ := and_e hn
  obtain ⟨m35, hn⟩ := and_e hn
  obtain ⟨m36, hn⟩ := and_e hn
  obtain ⟨m37, hn⟩ := and_e hn
  obtain ⟨m38, hn⟩ := and_e hn
  obtain ⟨m39, hn⟩ := and_e hn
  obtain ⟨m40, hn⟩ := and_e hn
  have m41 := hn
  obtain ⟨b0, ev0⟩ := exa_v m0
  have S0 := Sta.start ev0 (Or.inr ⟨(hw _ (List.mem_of_getElem? (i := 6) rfl)), (hw _ (List.mem_of_getElem? (i := 7) rfl))⟩)
  have E0 := Exa.start ev0 m0
  obtain ⟨b1, ev1⟩ := exa_v m1
  have S1 := Sta.start ev1 (Or.inr ⟨(hw _ (List.mem_of_getElem? (i := 9) rfl)), (hw _ (List.mem_of_getElem? (i := 10) rfl))⟩)
  have E1 := Exa.start ev1 m1
  obtain ⟨b2, ev2⟩ := exa_v m2
  have S2 := Sta.start ev2 (Or.inr ⟨(hw _ (List.mem_of_getElem? (i := 18) rfl)), (hw _ (List.mem_of_getElem? (i := 19) rfl))⟩)
  have E2 := Exa.start ev2 m2
  obtain ⟨b5, ev5⟩ := exa_v m5
  have S5 := Sta.start ev5 (Or.inr ⟨(hw _ (List.mem_of_getElem? (i := 6) rfl)), (hw _ (List.mem_of_getElem? (i := 30) rfl))⟩)
  have E5 := Exa.start ev5 m5
  obtain ⟨b6, ev6⟩ := exa_v m6
  have S6 := Sta.start ev6 (Or.inr ⟨(hw _ (List.mem_of_getElem? (i := 18) rfl)), (hw _ (List.mem_of_getElem? (i := 31) rfl))⟩)
  have E6 := Exa.start ev6 m6
  obtain ⟨b9, ev9⟩ := exa_v m9
  have S9 := Sta.start ev9 (Or.inr ⟨(hw _ (List.mem_of_getElem? (i := 6) rfl)), (hw _ (List.mem_of_getElem? (i := 34) rfl))⟩)
  have E9 := Exa.start ev9 m9
  obtain ⟨b11, ev11⟩ := exa_v m11
  have S11 := Sta.start ev11 (Or.inr ⟨(hw _ (List.mem_of_getElem? (i := 6) rfl)), (hw _ (List.mem_of_getElem? (i := 36) rfl))⟩)
  have E11 := Exa.start ev11 m11
  obtain ⟨b12, ev12⟩ := exa_v m12
  have S12 := Sta.start ev12 (Or.inr ⟨(hw _ (List.mem_of_getElem? (i := 9) rfl)), (hw _ (List.mem_of_getElem? (i := 38) rfl))⟩)
  have E12 := Exa.start ev12 m12
  obtain ⟨b14, ev14⟩ := exa_v m14
  have S14 := Sta.start ev14 (Or.inr ⟨(hw _ (List.mem_of_getElem? (i := 6) rfl)), (hw _ (List.mem_of_getElem? (i := 40) rfl))⟩)
  have E14 := Exa.start ev14 m14
  obtain ⟨b16, ev16⟩ := exa_v m16
  have S16 := Sta.start ev16 (Or.inr ⟨(hw _ (List.mem_of_getElem? (i := 6) rfl)), (hw _ (List.mem_of_getElem? (i := 42) rfl))⟩)
  have E16 := Exa.start ev16 m16
  obtain ⟨b18, ev18⟩ := exa_v m18
  have S18 := Sta.start ev18 (Or.inr ⟨(hw _ (List.mem_of_getElem? (i := 6) rfl)), (hw _ (List.mem_of_getElem? (i := 44) rfl))⟩)
  have E18 := Exa.start ev18 m18
  obtain ⟨b22, ev22⟩ := exa_v m22
  have S22 := Sta.start ev22 (Or.inr ⟨(hw _ (List.mem_of_getElem? (i := 6) rfl)), (hw _ (List.mem_of_getElem? (i := 46) rfl))⟩)
  have E22 := Exa.start ev22 m22
  obtain ⟨b24, ev24⟩ := exa_v m24
  have S24 := Sta.start ev24 (Or.inr ⟨(hw _ (List.mem_of_getElem? (i := 6) rfl)), (hw _ (List.mem_of_getElem? (i := 48) rfl))⟩)
  have E24 := Exa.start ev24 m24
  obtain ⟨b26, ev26⟩ := exa_v m26
  have S26 := Sta.start ev26 (Or.inr ⟨(hw _ (List.mem_of_getElem? (i := 6) rfl)), (hw _ (List.mem_of_getElem? (i := 50) rfl))⟩)
  have E26 := Exa.start ev26 m26
  obtain ⟨b28, ev28⟩ := exa_v m28
  have S28 := Sta.start ev28 (Or.inr ⟨(hw _ (List.mem_of_getElem? (i := 6) rfl)), (hw _ (List.mem_of_getElem? (i := 52) rfl))⟩)
  have E28 := Exa.start ev28 m28
  obtain ⟨b30, ev30⟩ := exa_v m30
  have S30 := Sta.start ev30 (Or.inr ⟨(hw _ (List.mem_of_getElem? (i := 6) rfl)), (hw _ (List.mem_of_getElem? (i := 54) rfl))⟩)
  have E30 := Exa.start ev30 m30
  obtain ⟨b31, ev31⟩ := exa_v m31
  have S31 := Sta.start ev31 (Or.inr ⟨(hw _ (List.mem_of_getElem? (i := 18) rfl)), (hw _ (List.mem_of_getElem? (i := 55) rfl))⟩)
  have E31 := Exa.start ev31 m31
  obtain ⟨b34, ev34⟩ := exa_v m34
  have S34 := Sta.start ev34 (Or.inr ⟨(hw _ (List.mem_of_getElem? (i := 6) rfl)), (hw _ (List.mem_of_getElem? (i := 57) rfl))⟩)
  have E34 := Exa.start ev34 m34
  obtain ⟨b36, ev36⟩ := exa_v m36
  have S36 := Sta.start ev36 (Or.inr ⟨(hw _ (List.mem_of_getElem? (i := 6) rfl)), (hw _ (List.mem_of_getElem? (i := 59) rfl))⟩)
  have E36 := Exa.start ev36 m36
  obtain ⟨b38, ev38⟩ := exa_v m38
  have S38 := Sta.start ev38 (Or.inr ⟨(hw _ (List.mem_of_getElem? (i := 6) rfl)), (hw _ (List.mem_of_getElem? (i := 61) rfl))⟩)
  have E38 := Exa.start ev38 m38
  obtain ⟨b40, ev40⟩ := exa_v m40
  have S40 := Sta.start ev40 (Or.inr ⟨(hw _ (List.mem_of_getElem? (i := 6) rfl)), (hw _ (List.mem_of_getElem? (i := 63) rfl))⟩)
  have E40 := Exa.start ev40 m40
  have F3 := own_fldR ev0 ev2 m3
  have F4 := own_fldI ev2 m4
  have F7 := own_fldR ev5 ev6 m7
  have F8 := own_fldI ev6 m8
  have F10 := own_fldR ev9 ev6 m10
  have F13 := own_fldR ev11 ev2 m13
  have F15 := own_fldR ev14 ev6 m15
  have F17 := own_fldR ev16 ev2 m17
  have F19 := own_fldR ev18 ev6 m19
  have F20 := own_fldI ev12 m20
  have F21 := own_fldI ev1 m21
  have F23 := own_fldR ev22 ev2 m23
  have F25 := own_fldR ev24 ev6 m25
  have F27 := own_fldR ev26 ev2 m27
  have F29 := own_fldR ev28 ev2 m29
  have F32 := own_fldR ev30 ev31 m32
  have F33 := own_fldI ev31 m33
  have F35 := own_fldR ev34 ev6 m35
  have F37 := own_fldR ev36 ev6 m37
  have F39 := own_fldR ev38 ev2 m39
  have F41 := own_fldR ev40 ev2 m41
  obtain ⟨n, o, r1, r2, r3, _, L, rfl, ⟨rfl, N, -⟩, hq⟩ := rm0 l s _ hw i0 i1 s.heap s.heap.size b0 b26 b30 b22 b40 b28 b16 b18 b11 b38 b34 b36 b9 b14 b5 b24 S0 S26 S30 S22 S40 S28 S16 S18 S11 S38 S34 S36 S9 S14 S5 S24 ⟨_, E0, F3, E2, F4⟩ ⟨_, E26, F27, E2, F4⟩ ⟨_, E30, F32, E31, F33⟩ ⟨_, E22, F23, E2, F4⟩ ⟨_, E40, F41, E2, F4⟩ ⟨_, E28, F29, E2, F4⟩ ⟨_, E16, F17, E2, F4⟩ ⟨_, E18, F19, E6, F8⟩ ⟨_, E11, F13, E2, F4⟩ ⟨_, E38, F39, E2, F4⟩ ⟨_, E34, F35, E6, F8⟩ ⟨_, E36, F37, E6, F8⟩ ⟨_, E9, F10, E6, F8⟩ ⟨_, E14, F15, E6, F8⟩ ⟨_, E5, F7, E6, F8⟩ ⟨_, E24, F25, E6, F8⟩ b1 b12 S1 S12 (Fld.ne F20 F21 (by decide)) tables_1 p e ha hc hk s m _ below hf ((Spec.applies_iff_loose hf).mp happ).1 ⟨rfl, State.Warmed39.refl s, rfl⟩ trivial
  refine ⟨n, _, r1, r2, r3, hpost _ _ _ _ _ _ ⟨Cond.after_iff.mpr rfl, Cond.after_iff.mpr (eq_i res_at (Term.int_eval (1)) rfl), trivial⟩ ⟨hq.1, hq.2.1, (hq.2.2.sift fun y hy => Or.inr (N y hy)).mono (by decide) (by decide)⟩⟩
theorem main_1_1 : Claimed_1_1 := comes_1 fun _ _ _ _ _ _ h hF => ⟨h.1, hF⟩
theorem main_1_2 : Claimed_1_2 := comes_1 fun _ _ _ _ _ _ h hF => ⟨h.2.1, hF⟩
end Jvm.Pilot.@@N@@
namespace Jvm.Pilot.@@N@@
open Jvm Jvm.ClassFile Sem Op Lib Jvm.Free Jvm.Stand Jvm.Pilot.@@N@@.Jvm.D
/-! MADE BY PROGRAM (witnessworld.py) out of the Statement's table words and the real class files: 15 classes; the members and pool entries that the words name. The judged class is class 1, her method 2. -/
namespace start1
open Jvm.ClassFile
def u (s : String) : CpInfo := .utf8 (stringToUtf16 s)
/-- a pool by its gaps: so many unusable entries, then the entry; so many at the end -/
def gap : Nat → List CpInfo → List CpInfo
  | 0, r => r
  | n + 1, r => .unusable :: gap n r
def poolList (es : List (Nat × CpInfo)) (last : Nat) : List CpInfo := es.foldr (fun e r => gap e.1 (e.2 :: r)) (gap last [])
def pool (es : List (Nat × CpInfo)) (last : Nat) : Array CpInfo := ⟨poolList es last⟩
def fileOf (pool : Array CpInfo) (this : Nat) (attrs : Array Attribute := #[]) (ms : Array MethodInfo := #[]) (fl : Nat := 33) (sup : Nat := 0) (ifs : Array Nat := #[]) (fds : Array FieldInfo := #[]) : ClassFile where
  minorVersion := 0
  majorVersion := 65
  constantPool := pool
  accessFlags := fl
  thisClass := this
  superClass := sup
  interfaces := ifs
  fields := fds
  methods := ms
  attributes := attrs
def plain (name : String) (sup : Option ClassId) : Class where
  name := name
  kind := .ordinary
  loader := none
  accessFlags := 33
  super := sup
  interfaces := #[]
  cf := none
  fields := #[]
  methods := #[]
  instanceTypes := #[]
  staticTypes := #[]
  resolved := #[]
  callSites := []
  init := .initialized
  statics := none
  mirror := none

def pool0 : Array CpInfo := pool [(5, u "<init>"), (0, u "()V"), (1, .class_ 10), (1, u "java/lang/Object")] 113

def k0m0 : Method := { name := "<init>", desc := "()V", sig := { parameters := [], returnType := none }, accessFlags := 1, code := none }
/-- java/lang/Object -/
def k0 : Class := { plain "java/lang/Object" none with
  accessFlags := 33
  interfaces := #[]
  cf := some (fileOf pool0 8 #[] #[{ accessFlags := 1, nameIndex := 5, descriptorIndex := 6, attributes := #[] }] 33 0 #[] #[])
  fields := #[]
  methods := #[k0m0]
  instanceTypes := #[]
  staticTypes := #[]
  resolved := Array.replicate 124 none
  statics := none }

def pool1 : Array CpInfo := pool [(2, .class_ 4), (1, u "java/lang/Object"), (0, u "<init>"), (0, u "()V"), (0, .fieldref 8 9), (0, .class_ 10), (0, .nameAndType 11 12), (0, u "com/example/keeper_of_casements/keeperofcasements/engine/WindowKind"), (0, u "BASE_APPLICATION"), (0, u "Lcom/example/keeper_of_casements/keeperofcasements/engine/WindowKind;"), (0, .fieldref 8 14), (0, .nameAndType 15 12), (0, u "APPLICATION"), (0, .fieldref 8 17), (0, .nameAndType 18 12), (0, u "APPLICATION_STARTING"), (0, .fieldref 8 20), (0, .nameAndType 21 12), (0, u "MEDIA"), (0, .fieldref 8 23), (0, .nameAndType 24 12), (0, u "PANEL"), (0, .fieldref 8 26), (0, .nameAndType 27 12), (0, u "SUB_PANEL"), (0, .fieldref 8 29), (0, .nameAndType 30 12), (0, u "ATTACHED_DIALOG"), (0, .fieldref 8 32), (0, .nameAndType 33 12), (0, u "WALLPAPER"), (0, .fieldref 8 35), (0, .nameAndType 36 12), (0, u "OVERLAY"), (0, .fieldref 8 38), (0, .nameAndType 39 12), (0, u "TOAST"), (0, .fieldref 8 41), (0, .nameAndType 42 12), (0, u "INPUT_METHOD"), (0, .fieldref 8 44), (0, .nameAndType 45 12), (0, u "INPUT_METHOD_DIALOG"), (0, .fieldref 8 47), (0, .nameAndType 48 12), (0, u "STATUS_BAR"), (0, .fieldref 8 50), (0, .nameAndType 51 12), (0, u "SYSTEM_ALERT"), (0, .fieldref 8 53), (0, .nameAndType 54 12), (0, u "NAVIGATION_BAR"), (0, .fieldref 8 56), (0, .nameAndType 57 12), (0, u "DOCK_DIVIDER"), (0, .integer 2147483647), (0, .methodref 60 61), (0, .class_ 62), (0, .nameAndType 63 64), (0, u "com/example/keeper_of_casements/keeperofcasements/engine/WindowKindMayBeAddedOnPinLaw"), (0, u "kindAt"), (0, u "(I)Lcom/example/keeper_of_casements/keeperofcasements/engine/WindowKind;"), (0, .fieldref 66 67), (0, .class_ 68), (0, .nameAndType 69 70), (0, u "com/example/keeper_of_casements/keeperofcasements/engine/ServiceSocket"), (0, u "SYSTEM"), (0, u "Lcom/example/keeper_of_casements/keeperofcasements/engine/ServiceSocket;"), (0, .fieldref 66 72), (0, .nameAndType 73 70), (0, u "APP"), (0, .methodref 8 75), (0, .nameAndType 76 77), (0, u "mayBeAddedOn"), (0, u "(Lcom/example/keeper_of_casements/keeperofcasements/engine/ServiceSocket;)Z"), (3, u "law"), (0, u "(II)Z")] 2

def k1m0 : Method := { name := "<init>", desc := "()V", sig := { parameters := [], returnType := none }, accessFlags := 1, code := none }
def k1c1 : Code := { maxStack := 2, maxLocals := 1, code := method_2_code, exceptionTable := #[], attributes := #[] }
def k1m1 : Method := { name := "kindAt", desc := "(I)Lcom/example/keeper_of_casements/keeperofcasements/engine/WindowKind;", sig := { parameters := [.int], returnType := some (.object "com/example/keeper_of_casements/keeperofcasements/engine/WindowKind") }, accessFlags := 10, code := some k1c1 }
def k1c2 : Code := { maxStack := 2, maxLocals := 7, code := code, exceptionTable := #[], attributes := #[] }
def k1m2 : Method := { name := "law", desc := "(II)Z", sig := { parameters := [.int, .int], returnType := some .boolean }, accessFlags := 9, code := some k1c2 }
/-- com/example/keeper_of_casements/keeperofcasements/engine/WindowKindMayBeAddedOnPinLaw -/
def k1 : Class := { plain "com/example/keeper_of_casements/keeperofcasements/engine/WindowKindMayBeAddedOnPinLaw" (some 0) with
  accessFlags := 49
  interfaces := #[]
  cf := some (fileOf pool1 60 #[] #[{ accessFlags := 1, nameIndex := 5, descriptorIndex := 6, attributes := #[] }, { accessFlags := 10, nameIndex := 63, descriptorIndex := 64, attributes := #[] }, { accessFlags := 9, nameIndex := 81, descriptorIndex := 82, attributes := #[] }] 49 2 #[] #[])
  fields := #[]
  methods := #[k1m0, k1m1, k1m2]
  instanceTypes := #[]
  staticTypes := #[]
  resolved := Array.replicate 85 none
  statics := none }

def pool2 : Array CpInfo := pool [(1, .class_ 2), (0, u "java/lang/constant/Constable"), (0, .class_ 4), (0, u "java/lang/Object")] 6

/-- java/lang/constant/Constable -/
def k2 : Class := { plain "java/lang/constant/Constable" (some 0) with
  accessFlags := 1537
  interfaces := #[]
  cf := some (fileOf pool2 1 #[] #[] 1537 3 #[] #[])
  fields := #[]
  methods := #[]
  instanceTypes := #[]
  staticTypes := #[]
  resolved := Array.replicate 11 none
  statics := none }

def pool3 : Array CpInfo := pool [(1, .class_ 2), (0, u "java/lang/Comparable"), (0, .class_ 4), (0, u "java/lang/Object")] 7

/-- java/lang/Comparable -/
def k3 : Class := { plain "java/lang/Comparable" (some 0) with
  accessFlags := 1537
  interfaces := #[]
  cf := some (fileOf pool3 1 #[] #[] 1537 3 #[] #[])
  fields := #[]
  methods := #[]
  instanceTypes := #[]
  staticTypes := #[]
  resolved := Array.replicate 12 none
  statics := none }

def pool4 : Array CpInfo := pool [(1, .class_ 2), (0, u "java/io/Serializable"), (0, .class_ 4), (0, u "java/lang/Object")] 2

/-- java/io/Serializable -/
def k4 : Class := { plain "java/io/Serializable" (some 0) with
  accessFlags := 1537
  interfaces := #[]
  cf := some (fileOf pool4 1 #[] #[] 1537 3 #[] #[])
  fields := #[]
  methods := #[]
  instanceTypes := #[]
  staticTypes := #[]
  resolved := Array.replicate 7 none
  statics := none }

def pool5 : Array CpInfo := pool [(2, .class_ 4), (1, u "java/lang/Enum"), (0, u "name"), (0, u "Ljava/lang/String;"), (0, .fieldref 2 8), (0, .nameAndType 9 10), (0, u "ordinal"), (0, u "I"), (1, .class_ 14), (1, u "java/lang/Object"), (4, u "hash"), (86, .class_ 108), (1, u "java/lang/Enum$EnumDesc"), (2, .class_ 112), (0, u "java/lang/constant/Constable"), (0, .class_ 114), (0, u "java/lang/Comparable"), (0, .class_ 116), (0, u "java/io/Serializable"), (9, u "()I")] 77

def k5c0 : Code := { maxStack := 1, maxLocals := 1, code := jdk_37_method_2_code, exceptionTable := #[], attributes := #[] }
def k5m0 : Method := { name := "ordinal", desc := "()I", sig := { parameters := [], returnType := some .int }, accessFlags := 17, code := some k5c0 }
/-- java/lang/Enum -/
def k5 : Class := { plain "java/lang/Enum" (some 0) with
  accessFlags := 1057
  interfaces := #[2, 3, 4]
  cf := some (fileOf pool5 2 #[.nestMembers #[106]] #[{ accessFlags := 17, nameIndex := 9, descriptorIndex := 126, attributes := #[] }] 1057 12 #[111, 113, 115] #[{ accessFlags := 18, nameIndex := 5, descriptorIndex := 6, attributes := #[] }, { accessFlags := 18, nameIndex := 9, descriptorIndex := 10, attributes := #[] }, { accessFlags := 2, nameIndex := 19, descriptorIndex := 10, attributes := #[] }])
  fields := #[{ name := "name", type := (.object "java/lang/String"), accessFlags := 18, slot := 0, constantValue := 0 }, { name := "ordinal", type := .int, accessFlags := 18, slot := 1, constantValue := 0 }, { name := "hash", type := .int, accessFlags := 2, slot := 2, constantValue := 0 }]
  methods := #[k5m0]
  instanceTypes := #[(.object "java/lang/String"), .int, .int]
  staticTypes := #[]
  resolved := Array.replicate 204 none
  statics := none }

def pool6 : Array CpInfo := pool [(9, .class_ 10), (0, u "com/example/keeper_of_casements/keeperofcasements/engine/WireNamed"), (20, .class_ 32), (0, u "java/lang/Object")] 9

/-- com/example/keeper_of_casements/keeperofcasements/engine/WireNamed -/
def k6 : Class := { plain "com/example/keeper_of_casements/keeperofcasements/engine/WireNamed" (some 0) with
  accessFlags := 1537
  interfaces := #[]
  cf := some (fileOf pool6 9 #[] #[] 1537 31 #[] #[])
  fields := #[]
  methods := #[]
  instanceTypes := #[]
  staticTypes := #[]
  resolved := Array.replicate 42 none
  statics := none }

def pool7 : Array CpInfo := pool [(1, .class_ 2), (0, u "com/example/keeper_of_casements/keeperofcasements/engine/WindowKind"), (2, u "BASE_APPLICATION"), (0, u "Lcom/example/keeper_of_casements/keeperofcasements/engine/WindowKind;"), (2, u "APPLICATION"), (2, u "APPLICATION_STARTING"), (2, u "MEDIA"), (2, u "PANEL"), (2, u "SUB_PANEL"), (2, u "ATTACHED_DIALOG"), (2, u "WALLPAPER"), (2, u "OVERLAY"), (2, u "TOAST"), (2, u "INPUT_METHOD"), (2, u "INPUT_METHOD_DIALOG"), (2, u "STATUS_BAR"), (2, u "SYSTEM_ALERT"), (2, u "NAVIGATION_BAR"), (2, u "DOCK_DIVIDER"), (2, u "$VALUES"), (0, u "[Lcom/example/keeper_of_casements/keeperofcasements/engine/WindowKind;"), (6, .class_ 64), (1, u "java/lang/Enum"), (8, u "wireName"), (0, u "Ljava/lang/String;"), (2, u "family"), (0, u "Lcom/example/keeper_of_casements/keeperofcasements/engine/WindowKind$Family;"), (0, .fieldref 1 80), (0, .nameAndType 81 82), (0, u "addedBy"), (0, u "Lcom/example/keeper_of_casements/keeperofcasements/engine/WindowKind$AddedBy;"), (0, .methodref 84 85), (0, .class_ 86), (0, .nameAndType 87 88), (0, u "com/example/keeper_of_casements/keeperofcasements/engine/WindowKind$AddedBy"), (0, u "ordinal"), (0, u "()I"), (5, .fieldref 95 96), (0, .class_ 97), (0, .nameAndType 98 99), (0, u "com/example/keeper_of_casements/keeperofcasements/engine/ServiceSocket"), (0, u "SYSTEM"), (0, u "Lcom/example/keeper_of_casements/keeperofcasements/engine/ServiceSocket;"), (4, .class_ 106), (1, u "com/example/keeper_of_casements/keeperofcasements/engine/WindowKind$Family"), (66, .class_ 174), (0, u "com/example/keeper_of_casements/keeperofcasements/engine/WireNamed"), (11, u "mayBeAddedOn"), (0, u "(Lcom/example/keeper_of_casements/keeperofcasements/engine/ServiceSocket;)Z")] 10

def k7c0 : Code := { maxStack := 4, maxLocals := 2, code := prog_22_method_6_code, exceptionTable := #[], attributes := #[] }
def k7m0 : Method := { name := "mayBeAddedOn", desc := "(Lcom/example/keeper_of_casements/keeperofcasements/engine/ServiceSocket;)Z", sig := { parameters := [(.object "com/example/keeper_of_casements/keeperofcasements/engine/ServiceSocket")], returnType := some .boolean }, accessFlags := 0, code := some k7c0 }
/-- com/example/keeper_of_casements/keeperofcasements/engine/WindowKind -/
def k7 : Class := { plain "com/example/keeper_of_casements/keeperofcasements/engine/WindowKind" (some 5) with
  accessFlags := 16433
  interfaces := #[6]
  cf := some (fileOf pool7 1 #[.nestMembers #[84, 104]] #[{ accessFlags := 0, nameIndex := 186, descriptorIndex := 187, attributes := #[] }] 16433 62 #[173] #[{ accessFlags := 16409, nameIndex := 5, descriptorIndex := 6, attributes := #[] }, { accessFlags := 16409, nameIndex := 9, descriptorIndex := 6, attributes := #[] }, { accessFlags := 16409, nameIndex := 12, descriptorIndex := 6, attributes := #[] }, { accessFlags := 16409, nameIndex := 15, descriptorIndex := 6, attributes := #[] }, { accessFlags := 16409, nameIndex := 18, descriptorIndex := 6, attributes := #[] }, { accessFlags := 16409, nameIndex := 21, descriptorIndex := 6, attributes := #[] }, { accessFlags := 16409, nameIndex := 24, descriptorIndex := 6, attributes := #[] }, { accessFlags := 16409, nameIndex := 27, descriptorIndex := 6, attributes := #[] }, { accessFlags := 16409, nameIndex := 30, descriptorIndex := 6, attributes := #[] }, { accessFlags := 16409, nameIndex := 33, descriptorIndex := 6, attributes := #[] }, { accessFlags := 16409, nameIndex := 36, descriptorIndex := 6, attributes := #[] }, { accessFlags := 16409, nameIndex := 39, descriptorIndex := 6, attributes := #[] }, { accessFlags := 16409, nameIndex := 42, descriptorIndex := 6, attributes := #[] }, { accessFlags := 16409, nameIndex := 45, descriptorIndex := 6, attributes := #[] }, { accessFlags := 16409, nameIndex := 48, descriptorIndex := 6, attributes := #[] }, { accessFlags := 16409, nameIndex := 51, descriptorIndex := 6, attributes := #[] }, { accessFlags := 18, nameIndex := 73, descriptorIndex := 74, attributes := #[] }, { accessFlags := 18, nameIndex := 77, descriptorIndex := 78, attributes := #[] }, { accessFlags := 18, nameIndex := 81, descriptorIndex := 82, attributes := #[] }, { accessFlags := 4122, nameIndex := 54, descriptorIndex := 55, attributes := #[] }])
  fields := #[{ name := "BASE_APPLICATION", type := (.object "com/example/keeper_of_casements/keeperofcasements/engine/WindowKind"), accessFlags := 16409, slot := 0, constantValue := 0 }, { name := "APPLICATION", type := (.object "com/example/keeper_of_casements/keeperofcasements/engine/WindowKind"), accessFlags := 16409, slot := 1, constantValue := 0 }, { name := "APPLICATION_STARTING", type := (.object "com/example/keeper_of_casements/keeperofcasements/engine/WindowKind"), accessFlags := 16409, slot := 2, constantValue := 0 }, { name := "MEDIA", type := (.object "com/example/keeper_of_casements/keeperofcasements/engine/WindowKind"), accessFlags := 16409, slot := 3, constantValue := 0 }, { name := "PANEL", type := (.object "com/example/keeper_of_casements/keeperofcasements/engine/WindowKind"), accessFlags := 16409, slot := 4, constantValue := 0 }, { name := "SUB_PANEL", type := (.object "com/example/keeper_of_casements/keeperofcasements/engine/WindowKind"), accessFlags := 16409, slot := 5, constantValue := 0 }, { name := "ATTACHED_DIALOG", type := (.object "com/example/keeper_of_casements/keeperofcasements/engine/WindowKind"), accessFlags := 16409, slot := 6, constantValue := 0 }, { name := "WALLPAPER", type := (.object "com/example/keeper_of_casements/keeperofcasements/engine/WindowKind"), accessFlags := 16409, slot := 7, constantValue := 0 }, { name := "OVERLAY", type := (.object "com/example/keeper_of_casements/keeperofcasements/engine/WindowKind"), accessFlags := 16409, slot := 8, constantValue := 0 }, { name := "TOAST", type := (.object "com/example/keeper_of_casements/keeperofcasements/engine/WindowKind"), accessFlags := 16409, slot := 9, constantValue := 0 }, { name := "INPUT_METHOD", type := (.object "com/example/keeper_of_casements/keeperofcasements/engine/WindowKind"), accessFlags := 16409, slot := 10, constantValue := 0 }, { name := "INPUT_METHOD_DIALOG", type := (.object "com/example/keeper_of_casements/keeperofcasements/engine/WindowKind"), accessFlags := 16409, slot := 11, constantValue := 0 }, { name := "STATUS_BAR", type := (.object "com/example/keeper_of_casements/keeperofcasements/engine/WindowKind"), accessFlags := 16409, slot := 12, constantValue := 0 }, { name := "SYSTEM_ALERT", type := (.object "com/example/keeper_of_casements/keeperofcasements/engine/WindowKind"), accessFlags := 16409, slot := 13, constantValue := 0 }, { name := "NAVIGATION_BAR", type := (.object "com/example/keeper_of_casements/keeperofcasements/engine/WindowKind"), accessFlags := 16409, slot := 14, constantValue := 0 }, { name := "DOCK_DIVIDER", type := (.object "com/example/keeper_of_casements/keeperofcasements/engine/WindowKind"), accessFlags := 16409, slot := 15, constantValue := 0 }, { name := "wireName", type := (.object "java/lang/String"), accessFlags := 18, slot := 3, constantValue := 0 }, { name := "family", type := (.object "com/example/keeper_of_casements/keeperofcasements/engine/WindowKind$Family"), accessFlags := 18, slot := 4, constantValue := 0 }, { name := "addedBy", type := (.object "com/example/keeper_of_casements/keeperofcasements/engine/WindowKind$AddedBy"), accessFlags := 18, slot := 5, constantValue := 0 }, { name := "$VALUES", type := (.array (.object "com/example/keeper_of_casements/keeperofcasements/engine/WindowKind")), accessFlags := 4122, slot := 16, constantValue := 0 }]
  methods := #[k7m0]
  instanceTypes := #[(.object "java/lang/String"), .int, .int, (.object "java/lang/String"), (.object "com/example/keeper_of_casements/keeperofcasements/engine/WindowKind$Family"), (.object "com/example/keeper_of_casements/keeperofcasements/engine/WindowKind$AddedBy")]
  staticTypes := #[(.object "com/example/keeper_of_casements/keeperofcasements/engine/WindowKind"), (.object "com/example/keeper_of_casements/keeperofcasements/engine/WindowKind"), (.object "com/example/keeper_of_casements/keeperofcasements/engine/WindowKind"), (.object "com/example/keeper_of_casements/keeperofcasements/engine/WindowKind"), (.object "com/example/keeper_of_casements/keeperofcasements/engine/WindowKind"), (.object "com/example/keeper_of_casements/keeperofcasements/engine/WindowKind"), (.object "com/example/keeper_of_casements/keeperofcasements/engine/WindowKind"), (.object "com/example/keeper_of_casements/keeperofcasements/engine/WindowKind"), (.object "com/example/keeper_of_casements/keeperofcasements/engine/WindowKind"), (.object "com/example/keeper_of_casements/keeperofcasements/engine/WindowKind"), (.object "com/example/keeper_of_casements/keeperofcasements/engine/WindowKind"), (.object "com/example/keeper_of_casements/keeperofcasements/engine/WindowKind"), (.object "com/example/keeper_of_casements/keeperofcasements/engine/WindowKind"), (.object "com/example/keeper_of_casements/keeperofcasements/engine/WindowKind"), (.object "com/example/keeper_of_casements/keeperofcasements/engine/WindowKind"), (.object "com/example/keeper_of_casements/keeperofcasements/engine/WindowKind"), (.array (.object "com/example/keeper_of_casements/keeperofcasements/engine/WindowKind"))]
  resolved := Array.replicate 198 none
  statics := some 0 }

def pool8 : Array CpInfo := pool [(1, .class_ 2), (0, u "com/example/keeper_of_casements/keeperofcasements/engine/ServiceSocket"), (2, u "APP"), (0, u "Lcom/example/keeper_of_casements/keeperofcasements/engine/ServiceSocket;"), (2, u "SYSTEM"), (2, u "$VALUES"), (0, u "[Lcom/example/keeper_of_casements/keeperofcasements/engine/ServiceSocket;"), (6, .class_ 22), (1, u "java/lang/Enum"), (8, u "maxClients"), (0, u "I"), (2, u "maxWindows")] 24

/-- com/example/keeper_of_casements/keeperofcasements/engine/ServiceSocket -/
def k8 : Class := { plain "com/example/keeper_of_casements/keeperofcasements/engine/ServiceSocket" (some 5) with
  accessFlags := 16433
  interfaces := #[]
  cf := some (fileOf pool8 1 #[] #[] 16433 20 #[] #[{ accessFlags := 16409, nameIndex := 5, descriptorIndex := 6, attributes := #[] }, { accessFlags := 16409, nameIndex := 9, descriptorIndex := 6, attributes := #[] }, { accessFlags := 18, nameIndex := 31, descriptorIndex := 32, attributes := #[] }, { accessFlags := 18, nameIndex := 35, descriptorIndex := 32, attributes := #[] }, { accessFlags := 4122, nameIndex := 12, descriptorIndex := 13, attributes := #[] }])
  fields := #[{ name := "APP", type := (.object "com/example/keeper_of_casements/keeperofcasements/engine/ServiceSocket"), accessFlags := 16409, slot := 0, constantValue := 0 }, { name := "SYSTEM", type := (.object "com/example/keeper_of_casements/keeperofcasements/engine/ServiceSocket"), accessFlags := 16409, slot := 1, constantValue := 0 }, { name := "maxClients", type := .int, accessFlags := 18, slot := 3, constantValue := 0 }, { name := "maxWindows", type := .int, accessFlags := 18, slot := 4, constantValue := 0 }, { name := "$VALUES", type := (.array (.object "com/example/keeper_of_casements/keeperofcasements/engine/ServiceSocket")), accessFlags := 4122, slot := 2, constantValue := 0 }]
  methods := #[]
  instanceTypes := #[(.object "java/lang/String"), .int, .int, .int, .int]
  staticTypes := #[(.object "com/example/keeper_of_casements/keeperofcasements/engine/ServiceSocket"), (.object "com/example/keeper_of_casements/keeperofcasements/engine/ServiceSocket"), (.array (.object "com/example/keeper_of_casements/keeperofcasements/engine/ServiceSocket"))]
  resolved := Array.replicate 60 none
  statics := some 1 }

def pool9 : Array CpInfo := pool [(1, .class_ 2), (0, u "com/example/keeper_of_casements/keeperofcasements/engine/WindowKind$AddedBy"), (2, u "ANY_CLIENT"), (0, u "Lcom/example/keeper_of_casements/keeperofcasements/engine/WindowKind$AddedBy;"), (2, u "SYSTEM_CLIENT"), (2, u "SERVICE"), (2, u "$VALUES"), (0, u "[Lcom/example/keeper_of_casements/keeperofcasements/engine/WindowKind$AddedBy;"), (6, .class_ 25), (1, u "java/lang/Enum"), (26, .class_ 53), (0, u "com/example/keeper_of_casements/keeperofcasements/engine/WindowKind")] 2

/-- com/example/keeper_of_casements/keeperofcasements/engine/WindowKind$AddedBy -/
def k9 : Class := { plain "com/example/keeper_of_casements/keeperofcasements/engine/WindowKind$AddedBy" (some 5) with
  accessFlags := 16432
  interfaces := #[]
  cf := some (fileOf pool9 1 #[.nestHost 52] #[] 16432 23 #[] #[{ accessFlags := 16409, nameIndex := 5, descriptorIndex := 6, attributes := #[] }, { accessFlags := 16409, nameIndex := 9, descriptorIndex := 6, attributes := #[] }, { accessFlags := 16409, nameIndex := 12, descriptorIndex := 6, attributes := #[] }, { accessFlags := 4122, nameIndex := 15, descriptorIndex := 16, attributes := #[] }])
  fields := #[{ name := "ANY_CLIENT", type := (.object "com/example/keeper_of_casements/keeperofcasements/engine/WindowKind$AddedBy"), accessFlags := 16409, slot := 0, constantValue := 0 }, { name := "SYSTEM_CLIENT", type := (.object "com/example/keeper_of_casements/keeperofcasements/engine/WindowKind$AddedBy"), accessFlags := 16409, slot := 1, constantValue := 0 }, { name := "SERVICE", type := (.object "com/example/keeper_of_casements/keeperofcasements/engine/WindowKind$AddedBy"), accessFlags := 16409, slot := 2, constantValue := 0 }, { name := "$VALUES", type := (.array (.object "com/example/keeper_of_casements/keeperofcasements/engine/WindowKind$AddedBy")), accessFlags := 4122, slot := 3, constantValue := 0 }]
  methods := #[]
  instanceTypes := #[(.object "java/lang/String"), .int, .int]
  staticTypes := #[(.object "com/example/keeper_of_casements/keeperofcasements/engine/WindowKind$AddedBy"), (.object "com/example/keeper_of_casements/keeperofcasements/engine/WindowKind$AddedBy"), (.object "com/example/keeper_of_casements/keeperofcasements/engine/WindowKind$AddedBy"), (.array (.object "com/example/keeper_of_casements/keeperofcasements/engine/WindowKind$AddedBy"))]
  resolved := Array.replicate 56 none
  statics := some 2 }

def pool10 : Array CpInfo := pool [(1, u "java/lang/Cloneable"), (0, .class_ 1), (0, u "java/lang/Object"), (0, .class_ 3)] 3

/-- java/lang/Cloneable -/
def k10 : Class := { plain "java/lang/Cloneable" (some 0) with
  accessFlags := 1537
  interfaces := #[]
  cf := some (fileOf pool10 2 #[] #[] 1537 4 #[] #[])
  fields := #[]
  methods := #[]
  instanceTypes := #[]
  staticTypes := #[]
  resolved := Array.replicate 8 none
  statics := none }

/-- the primitive byte -/
def k11 : Class := { plain "byte" none with kind := .primitive 'B', accessFlags := 0x411 }
/-- [B -/
def k12 : Class := { plain "[B" (some 0) with kind := .array 11 .byte, interfaces := #[10, 4], accessFlags := 1041 }

/-- the primitive int -/
def k13 : Class := { plain "int" none with kind := .primitive 'I', accessFlags := 0x411 }
/-- [I -/
def k14 : Class := { plain "[I" (some 0) with kind := .array 13 .int, interfaces := #[10, 4], accessFlags := 1041 }

def heap : Heap := #[{ cls := 7, slots := #[.ref 8, .ref 9, .ref 10, .ref 11, .ref 12, .ref 13, .ref 14, .ref 15, .ref 16, .ref 17, .ref 18, .ref 19, .ref 20, .ref 21, .ref 22, .ref 23, .null], vm := .statics 7 },
  { cls := 8, slots := #[.ref 6, .ref 7, .null], vm := .statics 8 },
  { cls := 9, slots := #[.ref 3, .ref 4, .ref 5, .null], vm := .statics 9 },
  { cls := 9, slots := #[.null, .int 0, .int 0], vm := .none },
  { cls := 9, slots := #[.null, .int 1, .int 0], vm := .none },
  { cls := 9, slots := #[.null, .int 2, .int 0], vm := .none },
  { cls := 8, slots := #[.null, .int 0, .int 0, .int 0, .int 0], vm := .none },
  { cls := 8, slots := #[.null, .int 1, .int 0, .int 0, .int 0], vm := .none },
  { cls := 7, slots := #[.null, .int 0, .int 0, .null, .null, .ref 3], vm := .none },
  { cls := 7, slots := #[.null, .int 1, .int 0, .null, .null, .ref 3], vm := .none },
  { cls := 7, slots := #[.null, .int 2, .int 0, .null, .null, .ref 5], vm := .none },
  { cls := 7, slots := #[.null, .int 3, .int 0, .null, .null, .ref 3], vm := .none },
  { cls := 7, slots := #[.null, .int 4, .int 0, .null, .null, .ref 3], vm := .none },
  { cls := 7, slots := #[.null, .int 5, .int 0, .null, .null, .ref 3], vm := .none },
  { cls := 7, slots := #[.null, .int 6, .int 0, .null, .null, .ref 3], vm := .none },
  { cls := 7, slots := #[.null, .int 7, .int 0, .null, .null, .ref 4], vm := .none },
  { cls := 7, slots := #[.null, .int 8, .int 0, .null, .null, .ref 3], vm := .none },
  { cls := 7, slots := #[.null, .int 9, .int 0, .null, .null, .ref 3], vm := .none },
  { cls := 7, slots := #[.null, .int 10, .int 0, .null, .null, .ref 4], vm := .none },
  { cls := 7, slots := #[.null, .int 11, .int 0, .null, .null, .ref 4], vm := .none },
  { cls := 7, slots := #[.null, .int 12, .int 0, .null, .null, .ref 4], vm := .none },
  { cls := 7, slots := #[.null, .int 13, .int 0, .null, .null, .ref 4], vm := .none },
  { cls := 7, slots := #[.null, .int 14, .int 0, .null, .null, .ref 4], vm := .none },
  { cls := 7, slots := #[.null, .int 15, .int 0, .null, .null, .ref 4], vm := .none }]
def classes : Array Class := #[k0, k1, k2, k3, k4, k5, k6, k7, k8, k9, k10, k11, k12, k13, k14]
def interned : List (Array UInt16 × Addr) := []
def slotsUsed : Nat := 139
def theMethod : MethodId := ⟨1, 2⟩
def args0 : Array Value := #[.int 5, .int 7]
def aboutOver (below : List Frame) : State where
  vm := { classes := classes, interned := interned.toArray }
  heap := heap
  slotsUsed := slotsUsed
  threads := #[{ frames := .invoking theMethod args0 :: below }]
def below0 : List Frame := [.native { method := ⟨0, 0⟩, args := #[] }]
def about1 : State := aboutOver below0
def p0 : Program := .bare "" "" ""
def e0 : Env := launch0.env 0 0 0
theorem w_frames : about1.frames = Frame.invoking theMethod args0 :: below0 := rfl
set_option maxRecDepth 65536 in
theorem w_args : argsFit about1.vm theMethod args0 = true := by decide +kernel
set_option maxRecDepth 65536 in
theorem w_heap : heapFits about1 = true := by decide +kernel
set_option maxRecDepth 65536 in
theorem w_runnable : about1.curStatus? = some .runnable := by decide +kernel
set_option maxRecDepth 65536 in
theorem w_alone : about1.alone = true := by decide +kernel
set_option maxRecDepth 65536 in
theorem w_named : about1.methodNamed? x = some theMethod := by decide +kernel
set_option maxRecDepth 65536 in
theorem w_hears : about1.hears theMethod below0 = true := by decide +kernel
set_option maxRecDepth 65536 in
theorem w_ripe : about1.ripe theMethod args0 below0 = true := by decide +kernel
theorem w_running : about1.status = .running := rfl
set_option maxRecDepth 65536 in
theorem w_room : about1.hasRoom e0.platform room_1 = true :=
  launch0.hasRoom_least _ room_1 (by decide +kernel) (by decide +kernel) (by decide +kernel) (by decide +kernel) (by decide +kernel) (by decide +kernel)
theorem allAtoms_all (ts : List Jvm.Cond) (a : Array Jvm.Value) (st : Jvm.State) : (allAtoms ts).before a st = ts.all (fun c => c.before a st) := by
  induction ts with
  | nil => rfl
  | cons c t ih =>
    show (Jvm.Cond.and c (allAtoms t)).before a st = _
    rw [Jvm.Cond.before_and, ih, List.all_cons]
def words1 : List Jvm.Cond := Jvm.Cond.code x code maxLocals ret :: tables_1
/-- a 'code' word, met by the world's own term for the bytes: nothing is compared byte by byte -/
theorem code_word {y : MethodName} {bytes : ByteArray} {mx : Nat} {rt : Option FieldType} {a : Array Value} {s : State} {m : MethodId} {meth : Method} {c : Code} (h1 : s.methodNamed? y = some m) (h2 : s.vm.method? m = some meth) (h3 : meth.code = some c) (h4 : c.code = bytes)
    (h5 : (c.maxLocals == mx && c.exceptionTable.isEmpty && decide (c.maxStack ≤ mostOperands) && decide (meth.sig.returnType = rt) && !meth.locks && decide (parseMethodDescriptor y.desc = some meth.sig)) = true) : (Jvm.Cond.code y bytes mx rt).before a s = true := by
  simp only [Bool.and_eq_true, beq_iff_eq, Bool.not_eq_true', decide_eq_true_eq] at h5
  obtain ⟨⟨⟨⟨⟨g1, g2⟩, g3⟩, g4⟩, g5⟩, g6⟩ := h5
  simp [Cond.before, Cond.holds, Cond.value, h1, h2, h3, h4, g1, g2, g3, g4, g5, g6]
def isCode : Jvm.Cond → Bool
  | .code _ _ _ _ => true
  | _ => false
theorem all_split {L : List Jvm.Cond} {P : Jvm.Cond → Bool} (h1 : L.all (fun c => isCode c || P c) = true) (h2 : ∀ c ∈ L.filter isCode, P c = true) : L.all P = true := by
  refine List.all_eq_true.mpr fun c hc => ?_
  have h := List.all_eq_true.mp h1 c hc
  rcases Bool.eq_false_or_eq_true (isCode c) with hi | hi
  · exact h2 c (List.mem_filter.mpr ⟨hc, hi⟩)
  · simpa [hi] using h
set_option maxRecDepth 65536 in
theorem w_c0 : (Jvm.Cond.code x code maxLocals ret).before args0 about1 = true := code_word (m := ⟨1, 2⟩) (meth := k1m2) (c := k1c2) (by decide +kernel) rfl rfl rfl (by decide +kernel)
set_option maxRecDepth 65536 in
theorem w_c1 : (Jvm.Cond.code ({ cls := "com/example/keeper_of_casements/keeperofcasements/engine/WindowKindMayBeAddedOnPinLaw", name := "kindAt", desc := "(I)Lcom/example/keeper_of_casements/keeperofcasements/engine/WindowKind;" } : Jvm.MethodName) method_2_code (1 : Nat) (Option.some (Jvm.ClassFile.FieldType.object "com/example/keeper_of_casements/keeperofcasements/engine/WindowKind"))).before args0 about1 = true := code_word (m := ⟨1, 1⟩) (meth := k1m1) (c := k1c1) (by decide +kernel) rfl rfl rfl (by decide +kernel)
set_option maxRecDepth 65536 in
theorem w_c2 : (Jvm.Cond.code ({ cls := "com/example/keeper_of_casements/keeperofcasements/engine/WindowKind", name := "mayBeAddedOn", desc := "(Lcom/example/keeper_of_casements/keeperofcasements/engine/ServiceSocket;)Z" } : Jvm.MethodName) prog_22_method_6_code (2 : Nat) (Option.some Jvm.ClassFile.FieldType.boolean)).before args0 about1 = true := code_word (m := ⟨7, 0⟩) (meth := k7m0) (c := k7c0) (by decide +kernel) rfl rfl rfl (by decide +kernel)
set_option maxRecDepth 65536 in
theorem w_c3 : (Jvm.Cond.code ({ cls := "java/lang/Enum", name := "ordinal", desc := "()I" } : Jvm.MethodName) jdk_37_method_2_code (1 : Nat) (Option.some Jvm.ClassFile.FieldType.int)).before args0 about1 = true := code_word (m := ⟨5, 0⟩) (meth := k5m0) (c := k5c0) (by decide +kernel) rfl rfl rfl (by decide +kernel)
def codes1 : List Jvm.Cond := [Jvm.Cond.code x code maxLocals ret, Jvm.Cond.code ({ cls := "com/example/keeper_of_casements/keeperofcasements/engine/WindowKindMayBeAddedOnPinLaw", name := "kindAt", desc := "(I)Lcom/example/keeper_of_casements/keeperofcasements/engine/WindowKind;" } : Jvm.MethodName) method_2_code (1 : Nat) (Option.some (Jvm.ClassFile.FieldType.object "com/example/keeper_of_casements/keeperofcasements/engine/WindowKind")), Jvm.Cond.code ({ cls := "com/example/keeper_of_casements/keeperofcasements/engine/WindowKind", name := "mayBeAddedOn", desc := "(Lcom/example/keeper_of_casements/keeperofcasements/engine/ServiceSocket;)Z" } : Jvm.MethodName) prog_22_method_6_code (2 : Nat) (Option.some Jvm.ClassFile.FieldType.boolean), Jvm.Cond.code ({ cls := "java/lang/Enum", name := "ordinal", desc := "()I" } : Jvm.MethodName) jdk_37_method_2_code (1 : Nat) (Option.some Jvm.ClassFile.FieldType.int)]
set_option maxRecDepth 65536 in
theorem codes_eq : words1.filter isCode = codes1 := rfl
theorem w_codes : ∀ c ∈ words1.filter isCode, c.before args0 about1 = true := by
  rw [codes_eq]
  intro c hc
  simp only [codes1, List.mem_cons, List.not_mem_nil, or_false] at hc
  rcases hc with rfl | rfl | rfl | rfl
  · exact w_c0
  · exact w_c1
  · exact w_c2
  · exact w_c3
set_option maxRecDepth 65536 in
theorem w_t1 : (words1.take 24).all (fun c => isCode c || c.before args0 about1) = true := by decide +kernel
set_option maxRecDepth 65536 in
theorem w_t2 : ((words1.drop 24).take 24).all (fun c => isCode c || c.before args0 about1) = true := by decide +kernel
set_option maxRecDepth 65536 in
theorem w_t3 : ((words1.drop 24).drop 24).all (fun c => isCode c || c.before args0 about1) = true := by decide +kernel
theorem w_tables : (allAtoms (Jvm.Cond.code x code maxLocals ret :: tables_1)).before args0 about1 = true := by
  rw [allAtoms_all]
  show words1.all (fun c => c.before args0 about1) = true
  refine all_split ?_ w_codes
  rw [← List.take_append_drop 24 words1, List.all_append, w_t1, ← List.take_append_drop 24 (words1.drop 24), List.all_append, w_t2, w_t3]
  rfl
set_option maxRecDepth 65536 in
theorem w_case : (Jvm.Cond.and given_1 narrow_1).before args0 about1 = true := by decide +kernel
theorem w_applies : (headSpec (Jvm.Cond.code x code maxLocals ret :: tables_1) room_1).applies x e0.platform about1 = true :=
  (Spec.applies_iff w_frames).mpr ⟨w_running, w_runnable, w_alone, w_named, w_hears, w_ripe, w_room, w_tables⟩
theorem atStart : AtStart classFile x code maxLocals ret World_1 tables_1 room_1 Calls_1 rest_1 Pre_1 launch0 p0 e0 about1 theMethod args0 below0 :=
  ⟨lists_1, trivial, launch0.admits_env _ _ _, launch0.least_env, fairChoices_fair.cas, fairChoices_fair.clock, w_frames, w_args, w_heap, w_applies, trivial, trivial, w_case⟩
end start1
theorem witness_1 : WitnessClaimed_1 := ⟨start1.p0, start1.e0, start1.about1, start1.theMethod, start1.args0, start1.below0, start1.atStart⟩
end Jvm.Pilot.@@N@@
