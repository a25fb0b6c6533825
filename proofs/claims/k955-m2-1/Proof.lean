import JvmDerived
import JvmDerived.Pilot.@@N@@Statement
import JvmDerived.Pilot.@@N@@Code
set_option linter.unusedVariables false
set_option linter.unusedSimpArgs false
namespace Jvm.Pilot.@@N@@
open Jvm Jvm.ClassFile Sem Op Lib Jvm.Free Jvm.Stand Jvm.LawKit Jvm.RoadKit Bundle Jvm.Pilot.@@N@@.Jvm.D
/-! own kit: walks in continuation form -/
def Go (p : Program) (e : Env) (below : List Frame) (P : State → Outcome → Prop) (A : State) : Prop := ∃ t o, Steps p.tables e below A t ∧ t.status = .running ∧ Ended t below o ∧ P t o
/-- the facts on the body that is walked, which no step moves -/
def Bo (Z : State) (p : Program) (s : State) (m : MethodId) (meth : Method) (c : Code) (own nm : String) (bytes : ByteArray) (maxL : Nat) (ret : Option FieldType) : Prop :=
  p.tables.exec = Jvm.exec ∧ c.code = bytes ∧ c.maxLocals = maxL ∧ Z.Warmed39 s.vm ∧ s.vm.findClass own = some m.cls ∧ meth.name = nm ∧ meth.sig.returnType = ret ∧ meth.locks = false
/-- what an end must be -/
def EndsQ (s : State) (Q : Option Value → Heap → List Loc → Prop) (cc ss : Nat) : State → Outcome → Prop := fun t o => ∃ v L, o = .returned v ∧ Q v t.heap L ∧ FrameEnd s o t L cc ss
/-- a body's contract -/
def Ctr (l : Launch) (Z : State) (y : MethodName) (bytes : ByteArray) (maxL : Nat) (ret : Option FieldType) (rm : Room) (as : Array Value) (h0 : Heap) (Q : Option Value → Heap → List Loc → Prop) : Prop :=
  ∀ ws, MetFree l y (head1 (Jvm.Cond.code y bytes maxL ret :: ws) rm) (fun a U => a = as ∧ Z.Warmed39 U.vm ∧ U.heap = h0) (fun _ _ _ _ _ => True) (fun _ U o U' => ∃ v L, o = .returned v ∧ Q v U'.heap L ∧ FrameEnd U o U' L rm.cells rm.slots)
/-! own: an array whose whole contents are known -/
def Av (Z : State) (h : Heap) (a : Addr) (ty : FieldType) (vs : List Value) : Prop := ∃ c : Cell, Arr Z h a c ty ∧ c.slots.toList = vs
theorem Av.lt {Z : State} {h : Heap} {a : Addr} {ty : FieldType} {vs : List Value} (A : Av Z h a ty vs) : a < h.size := by obtain ⟨c, q, -⟩ := A; exact q.lt
theorem Av.ext {Z : State} {h h' : Heap} {a : Addr} {ty : FieldType} {vs : List Value} (A : Av Z h a ty vs) (E : Ext h h') : Av Z h' a ty vs := by obtain ⟨c, q, r⟩ := A; exact ⟨c, q.ext E, r⟩
theorem Av.other {Z : State} {h h' : Heap} {a b : Addr} {ty : FieldType} {vs : List Value} {sl : Nat} {v : Value} (A : Av Z h b ty vs) (W : Wr h h' a sl v) (q : b ≠ a) : Av Z h' b ty vs := by obtain ⟨c, q1, r⟩ := A; exact ⟨c, q1.other W q, r⟩
theorem Av.keep {Z : State} {h h' : Heap} {a : Addr} {ty : FieldType} {vs : List Value} {ws : List Addr} (A : Av Z h a ty vs) (K : Keep h h' ws) (q : a ∉ ws) : Av Z h' a ty vs := by obtain ⟨c, q1, r⟩ := A; exact ⟨c, ⟨K.2.1 a c q1.1 q, q1.2⟩, r⟩
theorem Av.set {Z : State} {h h' : Heap} {a : Addr} {ty : FieldType} {vs : List Value} {i : Nat} {v : Value} (A : Av Z h a ty vs) (W : Wr h h' a i v) : Av Z h' a ty (vs.set i v) := by
  obtain ⟨c, q, rfl⟩ := A
  exact ⟨_, q.same W, by simp [Cell.setSlot]⟩
theorem Av.inb {Z : State} {h : Heap} {a : Addr} {ty : FieldType} {vs : List Value} {c : Cell} (q : c.slots.toList = vs) {j : Int32} {i : Nat} (hi : j.toNatClampNeg = i) (h0 : ¬ j < 0) (hl : i < vs.length) : ¬ (j < 0 ∨ c.slots.size ≤ j.toNatClampNeg) := by
  subst q hi
  simp only [Array.length_toList] at hl
  exact fun z => z.elim h0 (fun w => absurd hl (Nat.not_lt.mpr w))
section OwnKit
variable {p : Program} {l : Launch} {e : Env} {R : Room} {s : State} {m : MethodId} {args : Array Value} {below : List Frame} {meth : Method} {c : Code} {T : State} {locs : List Loc} {cells slots : Nat} {Z : State} {a0 : Array Value} {h : Heap} {P : State → Outcome → Prop} {pc : Nat} {Ls : Array Slot} {st rest : List Value} {own nm : String} {bytes : ByteArray} {maxL : Nat} {ret : Option FieldType}
theorem Bo.x (B : Bo Z p s m meth c own nm bytes maxL ret) : p.tables.exec = Jvm.exec := B.1
theorem Bo.z (B : Bo Z p s m meth c own nm bytes maxL ret) : Z.Warmed39 s.vm := B.2.2.2.1
theorem Bo.o (B : Bo Z p s m meth c own nm bytes maxL ret) : s.vm.findClass own = some m.cls := B.2.2.2.2.1
theorem Bo.d (B : Bo Z p s m meth c own nm bytes maxL ret) {r : Except ClassFile.DecodeError (ClassFile.Instr × Nat)} (q : decode bytes pc = r) : decode c.code pc = r := hb B.2.1 q
theorem Bo.n (B : Bo Z p s m meth c own nm bytes maxL ret) : meth.name = nm := B.2.2.2.2.2.1
theorem Bo.r (B : Bo Z p s m meth c own nm bytes maxL ret) : meth.sig.returnType = ret := B.2.2.2.2.2.2.1
theorem Bo.lk (B : Bo Z p s m meth c own nm bytes maxL ret) : meth.locks = false := B.2.2.2.2.2.2.2
theorem Bo.mx (B : Bo Z p s m meth c own nm bytes maxL ret) (q : Ls.size = maxL) {pc : Nat} {st : List Value} : (mkF m pc Ls st).locals.size = c.maxLocals := by rw [B.2.2.1]; exact q
theorem Go.via {A A' : State} (q : ∀ t, Steps p.tables e below A' t → Steps p.tables e below A t) (g : Go p e below P A') : Go p e below P A := by
  obtain ⟨t, o, h1, h2⟩ := g
  exact ⟨t, o, q t h1, h2⟩
theorem Go.cast {f f' : JFrame} (q : f = f') (g : Go p e below P (T.setTop f')) : Go p e below P (T.setTop f) := q ▸ g
theorem Ctr.of {y : MethodName} {rm : Room} {as : Array Value} {h0 : Heap} {Q : Option Value → Heap → List Loc → Prop} (hn : plainName y.cls = true)
    (body : ∀ (p : Program) (e : Env) (s : State) (m : MethodId) (below : List Frame) (meth : Method) (c : Code) (T : State), Stand p l e rm s m as below meth c T [] 0 0 → Bo Z p s m meth c y.cls y.name bytes maxL ret → T.heap = h0 → Go p e below (EndsQ s Q rm.cells rm.slots) (T.setTop (entryFrame m as maxL))) :
    Ctr l Z y bytes maxL ret rm as h0 Q := by
  intro ws
  refine MetFree.of_bodySF (plainFor_of_name hn) hisR ?_
  intro p e s m args below meth c s₁ Bd hml0 hP hK
  obtain ⟨rfl, hZ, hh⟩ := hP
  exact body p e s m below meth c s₁ (Stand.of_body Bd) ⟨Bd.exec, Bd.bytes, hml0, hZ, findClass_of_methodNamed Bd.named, (name_of_methodNamed Bd.named Bd.method).1, Bd.returns, BodyLoose.notSynchronized Bd⟩ (by rw [← hh, Bd.state]; rfl)
theorem Ctr.back {y : MethodName} {rm : Room} {as : Array Value} {Q : Option Value → Heap → List Loc → Prop} {W len : Nat} (C : Ctr l Z y bytes maxL ret rm as h Q) (hZ : Z.Warmed39 s.vm) (wc : (Jvm.Cond.code y bytes maxL ret).before a0 Z = true) (wz : (Jvm.Cond.initialized y.cls).before a0 Z = true) (hf : rm.frames + 1 ≤ R.frames) (hl : W + (maxL + 11) + rm.locals ≤ R.locals) :
    Back l R p e below s args y len W (fun A a => a = as ∧ A.U.heap = h ∧ A.cells + rm.cells ≤ R.cells ∧ A.slots + rm.slots ≤ R.slots)
      (fun A _ v B => ∃ L, Q v B.U.heap L ∧ B.locs = A.locs ++ L ∧ B.cells = A.cells + rm.cells ∧ B.slots = A.slots + rm.slots) := backOf (C []) hZ wc wz hf hl
theorem g_iloadN (X : Stand p l e R s m args below meth c T locs cells slots) (B : Bo Z p s m meth c own nm bytes maxL ret) {k : Fin 4} {v : Int32} (q : decode bytes pc = .ok (.iload_n k, 1)) (pc' : Nat) (hp : pc + 1 = pc') (u : Ls[k.val]? = some (.val (.int v))) (g : Go p e below P (T.setTop (mkF m pc' Ls (.int v :: st)))) : Go p e below P (T.setTop (mkF m pc Ls st)) := by
  subst hp
  exact g.via fun _ => XS.iloadN X.here B.x rfl (B.d q) u
theorem g_iload (X : Stand p l e R s m args below meth c T locs cells slots) (B : Bo Z p s m meth c own nm bytes maxL ret) {k : Nat} {v : Int32} (q : decode bytes pc = .ok (.iload k, 2)) (pc' : Nat) (hp : pc + 2 = pc') (u : Ls[k]? = some (.val (.int v))) (g : Go p e below P (T.setTop (mkF m pc' Ls (.int v :: st)))) : Go p e below P (T.setTop (mkF m pc Ls st)) := by
  subst hp
  exact g.via fun _ => XS.iload X.here B.x rfl (B.d q) u
theorem g_aloadN (X : Stand p l e R s m args below meth c T locs cells slots) (B : Bo Z p s m meth c own nm bytes maxL ret) {k : Fin 4} {v : Value} (q : decode bytes pc = .ok (.aload_n k, 1)) (pc' : Nat) (hp : pc + 1 = pc') (u : Ls[k.val]? = some (.val v)) (i : v.isRef = true) (g : Go p e below P (T.setTop (mkF m pc' Ls (v :: st)))) : Go p e below P (T.setTop (mkF m pc Ls st)) := by
  subst hp
  exact g.via fun _ => XS.aloadN X.here B.x rfl (B.d q) u i
theorem g_aload (X : Stand p l e R s m args below meth c T locs cells slots) (B : Bo Z p s m meth c own nm bytes maxL ret) {k : Nat} {v : Value} (q : decode bytes pc = .ok (.aload k, 2)) (pc' : Nat) (hp : pc + 2 = pc') (u : Ls[k]? = some (.val v)) (i : v.isRef = true) (g : Go p e below P (T.setTop (mkF m pc' Ls (v :: st)))) : Go p e below P (T.setTop (mkF m pc Ls st)) := by
  subst hp
  exact g.via fun _ => XS.aload X.here B.x rfl (B.d q) u i
theorem g_lloadN (X : Stand p l e R s m args below meth c T locs cells slots) (B : Bo Z p s m meth c own nm bytes maxL ret) {k : Fin 4} {v : Int64} (q : decode bytes pc = .ok (.lload_n k, 1)) (pc' : Nat) (hp : pc + 1 = pc') (u : Ls[k.val]? = some (.val (.long v))) (g : Go p e below P (T.setTop (mkF m pc' Ls (.long v :: st)))) : Go p e below P (T.setTop (mkF m pc Ls st)) := by
  subst hp
  exact g.via fun _ => XT.lloadN X.here B.x rfl (B.d q) u
theorem g_lload (X : Stand p l e R s m args below meth c T locs cells slots) (B : Bo Z p s m meth c own nm bytes maxL ret) {k : Nat} {v : Int64} (q : decode bytes pc = .ok (.lload k, 2)) (pc' : Nat) (hp : pc + 2 = pc') (u : Ls[k]? = some (.val (.long v))) (g : Go p e below P (T.setTop (mkF m pc' Ls (.long v :: st)))) : Go p e below P (T.setTop (mkF m pc Ls st)) := by
  subst hp
  exact g.via fun _ => XT.lload X.here B.x rfl (B.d q) u
theorem g_istoreN (X : Stand p l e R s m args below meth c T locs cells slots) (B : Bo Z p s m meth c own nm bytes maxL ret) {k : Fin 4} {x : Int32} (l' : Array Slot) (q : decode bytes pc = .ok (.istore_n k, 1)) (pc' : Nat) (hp : pc + 1 = pc') (u : storeLocals Ls k.val (.int x) = some l') (g : Go p e below P (T.setTop (mkF m pc' l' st))) : Go p e below P (T.setTop (mkF m pc Ls (.int x :: st))) := by
  subst hp
  exact g.via fun _ => XS.istoreN X.here B.x rfl (B.d q) rfl u
theorem g_istore (X : Stand p l e R s m args below meth c T locs cells slots) (B : Bo Z p s m meth c own nm bytes maxL ret) {k : Nat} {x : Int32} (l' : Array Slot) (q : decode bytes pc = .ok (.istore k, 2)) (pc' : Nat) (hp : pc + 2 = pc') (u : storeLocals Ls k (.int x) = some l') (g : Go p e below P (T.setTop (mkF m pc' l' st))) : Go p e below P (T.setTop (mkF m pc Ls (.int x :: st))) := by
  subst hp
  exact g.via fun _ => XS.istore X.here B.x rfl (B.d q) rfl u
theorem g_astoreN (X : Stand p l e R s m args below meth c T locs cells slots) (B : Bo Z p s m meth c own nm bytes maxL ret) {k : Fin 4} {x : Value} (l' : Array Slot) (q : decode bytes pc = .ok (.astore_n k, 1)) (pc' : Nat) (hp : pc + 1 = pc') (i : x.isRef = true) (u : storeLocals Ls k.val x = some l') (g : Go p e below P (T.setTop (mkF m pc' l' st))) : Go p e below P (T.setTop (mkF m pc Ls (x :: st))) := by
  subst hp
  exact g.via fun _ => XS.astoreN X.here B.x rfl (B.d q) rfl i u
theorem g_astore (X : Stand p l e R s m args below meth c T locs cells slots) (B : Bo Z p s m meth c own nm bytes maxL ret) {k : Nat} {x : Value} (l' : Array Slot) (q : decode bytes pc = .ok (.astore k, 2)) (pc' : Nat) (hp : pc + 2 = pc') (i : x.isRef = true) (u : storeLocals Ls k x = some l') (g : Go p e below P (T.setTop (mkF m pc' l' st))) : Go p e below P (T.setTop (mkF m pc Ls (x :: st))) := by
  subst hp
  exact g.via fun _ => XS.astore X.here B.x rfl (B.d q) rfl i u
theorem g_lstoreN (X : Stand p l e R s m args below meth c T locs cells slots) (B : Bo Z p s m meth c own nm bytes maxL ret) {k : Fin 4} {x : Int64} (l' : Array Slot) (q : decode bytes pc = .ok (.lstore_n k, 1)) (pc' : Nat) (hp : pc + 1 = pc') (u : storeLocals Ls k.val (.long x) = some l') (g : Go p e below P (T.setTop (mkF m pc' l' st))) : Go p e below P (T.setTop (mkF m pc Ls (.long x :: st))) := by
  subst hp
  exact g.via fun _ => XT.lstoreN X.here B.x rfl (B.d q) rfl u
theorem g_lstore (X : Stand p l e R s m args below meth c T locs cells slots) (B : Bo Z p s m meth c own nm bytes maxL ret) {k : Nat} {x : Int64} (l' : Array Slot) (q : decode bytes pc = .ok (.lstore k, 2)) (pc' : Nat) (hp : pc + 2 = pc') (u : storeLocals Ls k (.long x) = some l') (g : Go p e below P (T.setTop (mkF m pc' l' st))) : Go p e below P (T.setTop (mkF m pc Ls (.long x :: st))) := by
  subst hp
  exact g.via fun _ => XT.lstore X.here B.x rfl (B.d q) rfl u
theorem g_iconst (X : Stand p l e R s m args below meth c T locs cells slots) (B : Bo Z p s m meth c own nm bytes maxL ret) {i : Int} (v : Int32) (q : decode bytes pc = .ok (.iconst i, 1)) (pc' : Nat) (hp : pc + 1 = pc') (u : Int32.ofInt i = v) (g : Go p e below P (T.setTop (mkF m pc' Ls (.int v :: st)))) : Go p e below P (T.setTop (mkF m pc Ls st)) := by
  subst hp
  exact g.via fun _ => XT.iconstV X.here B.x rfl v (B.d q) u
theorem g_bipush (X : Stand p l e R s m args below meth c T locs cells slots) (B : Bo Z p s m meth c own nm bytes maxL ret) {i : Int} (v : Int32) (q : decode bytes pc = .ok (.bipush i, 2)) (pc' : Nat) (hp : pc + 2 = pc') (u : (Int8.ofInt i).toInt32 = v) (g : Go p e below P (T.setTop (mkF m pc' Ls (.int v :: st)))) : Go p e below P (T.setTop (mkF m pc Ls st)) := by
  subst hp
  exact g.via fun _ => XT.bipushV X.here B.x rfl v (B.d q) u
theorem g_sipush (X : Stand p l e R s m args below meth c T locs cells slots) (B : Bo Z p s m meth c own nm bytes maxL ret) {i : Int} (v : Int32) (q : decode bytes pc = .ok (.sipush i, 3)) (pc' : Nat) (hp : pc + 3 = pc') (u : (Int16.ofInt i).toInt32 = v) (g : Go p e below P (T.setTop (mkF m pc' Ls (.int v :: st)))) : Go p e below P (T.setTop (mkF m pc Ls st)) := by
  subst hp
  exact g.via fun _ => XT.sipushV X.here B.x rfl v (B.d q) u
theorem g_lconst (X : Stand p l e R s m args below meth c T locs cells slots) (B : Bo Z p s m meth c own nm bytes maxL ret) {k : Fin 2} (v : Int64) (q : decode bytes pc = .ok (.lconst k, 1)) (pc' : Nat) (hp : pc + 1 = pc') (u : Int64.ofNat k = v) (g : Go p e below P (T.setTop (mkF m pc' Ls (.long v :: st)))) : Go p e below P (T.setTop (mkF m pc Ls st)) := by
  subst hp
  exact g.via fun _ => XT.lconstV X.here B.x rfl v (B.d q) u
theorem g_aconstNull (X : Stand p l e R s m args below meth c T locs cells slots) (B : Bo Z p s m meth c own nm bytes maxL ret)  (q : decode bytes pc = .ok (.aconst_null, 1)) (pc' : Nat) (hp : pc + 1 = pc')  (g : Go p e below P (T.setTop (mkF m pc' Ls (.null :: st)))) : Go p e below P (T.setTop (mkF m pc Ls st)) := by
  subst hp
  exact g.via fun _ => XS.aconstNull X.here B.x rfl (B.d q)
theorem g_iadd (X : Stand p l e R s m args below meth c T locs cells slots) (B : Bo Z p s m meth c own nm bytes maxL ret) {x y : Int32} (q : decode bytes pc = .ok (.iadd, 1)) (pc' : Nat) (hp : pc + 1 = pc')  (g : Go p e below P (T.setTop (mkF m pc' Ls (.int (x + y) :: st)))) : Go p e below P (T.setTop (mkF m pc Ls (.int y :: .int x :: st))) := by
  subst hp
  exact g.via fun _ => XS.iadd X.here B.x rfl (B.d q) rfl
theorem g_isub (X : Stand p l e R s m args below meth c T locs cells slots) (B : Bo Z p s m meth c own nm bytes maxL ret) {x y : Int32} (q : decode bytes pc = .ok (.isub, 1)) (pc' : Nat) (hp : pc + 1 = pc')  (g : Go p e below P (T.setTop (mkF m pc' Ls (.int (x - y) :: st)))) : Go p e below P (T.setTop (mkF m pc Ls (.int y :: .int x :: st))) := by
  subst hp
  exact g.via fun _ => XS.isub X.here B.x rfl (B.d q) rfl
theorem g_imul (X : Stand p l e R s m args below meth c T locs cells slots) (B : Bo Z p s m meth c own nm bytes maxL ret) {x y : Int32} (q : decode bytes pc = .ok (.imul, 1)) (pc' : Nat) (hp : pc + 1 = pc')  (g : Go p e below P (T.setTop (mkF m pc' Ls (.int (x * y) :: st)))) : Go p e below P (T.setTop (mkF m pc Ls (.int y :: .int x :: st))) := by
  subst hp
  exact g.via fun _ => XS.imul X.here B.x rfl (B.d q) rfl
theorem g_iand (X : Stand p l e R s m args below meth c T locs cells slots) (B : Bo Z p s m meth c own nm bytes maxL ret) {x y : Int32} (q : decode bytes pc = .ok (.iand, 1)) (pc' : Nat) (hp : pc + 1 = pc')  (g : Go p e below P (T.setTop (mkF m pc' Ls (.int (x &&& y) :: st)))) : Go p e below P (T.setTop (mkF m pc Ls (.int y :: .int x :: st))) := by
  subst hp
  exact g.via fun _ => XS.iand X.here B.x rfl (B.d q) rfl
theorem g_ixor (X : Stand p l e R s m args below meth c T locs cells slots) (B : Bo Z p s m meth c own nm bytes maxL ret) {x y : Int32} (q : decode bytes pc = .ok (.ixor, 1)) (pc' : Nat) (hp : pc + 1 = pc')  (g : Go p e below P (T.setTop (mkF m pc' Ls (.int (x ^^^ y) :: st)))) : Go p e below P (T.setTop (mkF m pc Ls (.int y :: .int x :: st))) := by
  subst hp
  exact g.via fun _ => XT.ixor X.here B.x rfl (B.d q) rfl
theorem g_ior (X : Stand p l e R s m args below meth c T locs cells slots) (B : Bo Z p s m meth c own nm bytes maxL ret) {x y : Int32} (q : decode bytes pc = .ok (.ior, 1)) (pc' : Nat) (hp : pc + 1 = pc')  (g : Go p e below P (T.setTop (mkF m pc' Ls (.int (x ||| y) :: st)))) : Go p e below P (T.setTop (mkF m pc Ls (.int y :: .int x :: st))) := by
  subst hp
  exact g.via fun _ => XT.ior X.here B.x rfl (B.d q) rfl
theorem g_ishl (X : Stand p l e R s m args below meth c T locs cells slots) (B : Bo Z p s m meth c own nm bytes maxL ret) {x y : Int32} (q : decode bytes pc = .ok (.ishl, 1)) (pc' : Nat) (hp : pc + 1 = pc')  (g : Go p e below P (T.setTop (mkF m pc' Ls (.int (x <<< (y &&& 31)) :: st)))) : Go p e below P (T.setTop (mkF m pc Ls (.int y :: .int x :: st))) := by
  subst hp
  exact g.via fun _ => XT.ishl X.here B.x rfl (B.d q) rfl
theorem g_ishr (X : Stand p l e R s m args below meth c T locs cells slots) (B : Bo Z p s m meth c own nm bytes maxL ret) {x y : Int32} (q : decode bytes pc = .ok (.ishr, 1)) (pc' : Nat) (hp : pc + 1 = pc')  (g : Go p e below P (T.setTop (mkF m pc' Ls (.int (x >>> (y &&& 31)) :: st)))) : Go p e below P (T.setTop (mkF m pc Ls (.int y :: .int x :: st))) := by
  subst hp
  exact g.via fun _ => XT.ishr X.here B.x rfl (B.d q) rfl
theorem g_iushr (X : Stand p l e R s m args below meth c T locs cells slots) (B : Bo Z p s m meth c own nm bytes maxL ret) {x y : Int32} (q : decode bytes pc = .ok (.iushr, 1)) (pc' : Nat) (hp : pc + 1 = pc')  (g : Go p e below P (T.setTop (mkF m pc' Ls (.int (XT.ushr x y) :: st)))) : Go p e below P (T.setTop (mkF m pc Ls (.int y :: .int x :: st))) := by
  subst hp
  exact g.via fun _ => XT.iushr X.here B.x rfl (B.d q) rfl
theorem g_idiv (X : Stand p l e R s m args below meth c T locs cells slots) (B : Bo Z p s m meth c own nm bytes maxL ret) {x y : Int32} (q : decode bytes pc = .ok (.idiv, 1)) (pc' : Nat) (hp : pc + 1 = pc') (u : y ≠ 0) (g : Go p e below P (T.setTop (mkF m pc' Ls (.int (x / y) :: st)))) : Go p e below P (T.setTop (mkF m pc Ls (.int y :: .int x :: st))) := by
  subst hp
  exact g.via fun _ => XS.idiv X.here B.x rfl (B.d q) rfl u
theorem g_irem (X : Stand p l e R s m args below meth c T locs cells slots) (B : Bo Z p s m meth c own nm bytes maxL ret) {x y : Int32} (q : decode bytes pc = .ok (.irem, 1)) (pc' : Nat) (hp : pc + 1 = pc') (u : y ≠ 0) (g : Go p e below P (T.setTop (mkF m pc' Ls (.int (x % y) :: st)))) : Go p e below P (T.setTop (mkF m pc Ls (.int y :: .int x :: st))) := by
  subst hp
  exact g.via fun _ => iremM X B.x rfl (B.d q) rfl u
theorem g_ineg (X : Stand p l e R s m args below meth c T locs cells slots) (B : Bo Z p s m meth c own nm bytes maxL ret) {x : Int32} (q : decode bytes pc = .ok (.ineg, 1)) (pc' : Nat) (hp : pc + 1 = pc')  (g : Go p e below P (T.setTop (mkF m pc' Ls (.int (-x) :: st)))) : Go p e below P (T.setTop (mkF m pc Ls (.int x :: st))) := by
  subst hp
  exact g.via fun _ => XS.ineg X.here B.x rfl (B.d q) rfl
theorem g_iinc (X : Stand p l e R s m args below meth c T locs cells slots) (B : Bo Z p s m meth c own nm bytes maxL ret) {k : Nat} {cst : Int} {x : Int32} (l' : Array Slot) (v : Int32) (q : decode bytes pc = .ok (.iinc k cst, 3)) (pc' : Nat) (hp : pc + 3 = pc') (w : Int32.ofInt cst = v) (u : Ls[k]? = some (.val (.int x))) (u2 : storeLocals Ls k (.int (x + v)) = some l') (g : Go p e below P (T.setTop (mkF m pc' l' st))) : Go p e below P (T.setTop (mkF m pc Ls st)) := by
  subst hp
  exact g.via fun _ => XT.iincV X.here B.x rfl v (B.d q) w u u2
theorem g_ladd (X : Stand p l e R s m args below meth c T locs cells slots) (B : Bo Z p s m meth c own nm bytes maxL ret) {x y : Int64} (q : decode bytes pc = .ok (.ladd, 1)) (pc' : Nat) (hp : pc + 1 = pc')  (g : Go p e below P (T.setTop (mkF m pc' Ls (.long (x + y) :: st)))) : Go p e below P (T.setTop (mkF m pc Ls (.long y :: .long x :: st))) := by
  subst hp
  exact g.via fun _ => XT.ladd X.here B.x rfl (B.d q) rfl
theorem g_lsub (X : Stand p l e R s m args below meth c T locs cells slots) (B : Bo Z p s m meth c own nm bytes maxL ret) {x y : Int64} (q : decode bytes pc = .ok (.lsub, 1)) (pc' : Nat) (hp : pc + 1 = pc')  (g : Go p e below P (T.setTop (mkF m pc' Ls (.long (x - y) :: st)))) : Go p e below P (T.setTop (mkF m pc Ls (.long y :: .long x :: st))) := by
  subst hp
  exact g.via fun _ => XT.lsub X.here B.x rfl (B.d q) rfl
theorem g_land (X : Stand p l e R s m args below meth c T locs cells slots) (B : Bo Z p s m meth c own nm bytes maxL ret) {x y : Int64} (q : decode bytes pc = .ok (.land, 1)) (pc' : Nat) (hp : pc + 1 = pc')  (g : Go p e below P (T.setTop (mkF m pc' Ls (.long (x &&& y) :: st)))) : Go p e below P (T.setTop (mkF m pc Ls (.long y :: .long x :: st))) := by
  subst hp
  exact g.via fun _ => XT.land X.here B.x rfl (B.d q) rfl
theorem g_lor (X : Stand p l e R s m args below meth c T locs cells slots) (B : Bo Z p s m meth c own nm bytes maxL ret) {x y : Int64} (q : decode bytes pc = .ok (.lor, 1)) (pc' : Nat) (hp : pc + 1 = pc')  (g : Go p e below P (T.setTop (mkF m pc' Ls (.long (x ||| y) :: st)))) : Go p e below P (T.setTop (mkF m pc Ls (.long y :: .long x :: st))) := by
  subst hp
  exact g.via fun _ => XT.lor X.here B.x rfl (B.d q) rfl
theorem g_lxor (X : Stand p l e R s m args below meth c T locs cells slots) (B : Bo Z p s m meth c own nm bytes maxL ret) {x y : Int64} (q : decode bytes pc = .ok (.lxor, 1)) (pc' : Nat) (hp : pc + 1 = pc')  (g : Go p e below P (T.setTop (mkF m pc' Ls (.long (x ^^^ y) :: st)))) : Go p e below P (T.setTop (mkF m pc Ls (.long y :: .long x :: st))) := by
  subst hp
  exact g.via fun _ => XT.lxor X.here B.x rfl (B.d q) rfl
theorem g_lmul (X : Stand p l e R s m args below meth c T locs cells slots) (B : Bo Z p s m meth c own nm bytes maxL ret) {x y : Int64} (q : decode bytes pc = .ok (.lmul, 1)) (pc' : Nat) (hp : pc + 1 = pc')  (g : Go p e below P (T.setTop (mkF m pc' Ls (.long (x * y) :: st)))) : Go p e below P (T.setTop (mkF m pc Ls (.long y :: .long x :: st))) := by
  subst hp
  exact g.via fun _ => XT.lmul X.here B.x rfl (B.d q) rfl
theorem g_dup (X : Stand p l e R s m args below meth c T locs cells slots) (B : Bo Z p s m meth c own nm bytes maxL ret) {x : Value} (q : decode bytes pc = .ok (.dup, 1)) (pc' : Nat) (hp : pc + 1 = pc') (u : x.category = 1) (g : Go p e below P (T.setTop (mkF m pc' Ls (x :: x :: st)))) : Go p e below P (T.setTop (mkF m pc Ls (x :: st))) := by
  subst hp
  exact g.via fun _ => XS.dup X.here B.x rfl (B.d q) rfl u
theorem g_pop (X : Stand p l e R s m args below meth c T locs cells slots) (B : Bo Z p s m meth c own nm bytes maxL ret) {x : Value} (q : decode bytes pc = .ok (.pop, 1)) (pc' : Nat) (hp : pc + 1 = pc') (u : x.category = 1) (g : Go p e below P (T.setTop (mkF m pc' Ls st))) : Go p e below P (T.setTop (mkF m pc Ls (x :: st))) := by
  subst hp
  exact g.via fun _ => XT.pop X.here B.x rfl (B.d q) rfl u
theorem g_goto (X : Stand p l e R s m args below meth c T locs cells slots) (B : Bo Z p s m meth c own nm bytes maxL ret) {o : Int} (q : decode bytes pc = .ok (.goto o, 3)) (pc' : Nat) (hp : ((pc : Int) + o).toNat = pc') (ho : 0 ≤ (pc : Int) + o) (g : Go p e below P (T.setTop (mkF m pc' Ls st))) : Go p e below P (T.setTop (mkF m pc Ls st)) := g.via fun _ => XS.goto X.here B.x rfl rfl (B.d q) ho hp
theorem g_icmp_eq (X : Stand p l e R s m args below meth c T locs cells slots) (B : Bo Z p s m meth c own nm bytes maxL ret) {o : Int} {x y : Int32} (q : decode bytes pc = .ok (.if_icmp .eq o, 3)) (pt pf : Nat) (hp : ((pc : Int) + o).toNat = pt) (ho : 0 ≤ (pc : Int) + o) (hf : pc + 3 = pf) (g1 : x = y → Go p e below P (T.setTop (mkF m pt Ls st))) (g2 : ¬ x = y → Go p e below P (T.setTop (mkF m pf Ls st))) : Go p e below P (T.setTop (mkF m pc Ls (.int y :: .int x :: st))) := by
  subst hf
  by_cases w : x = y
  · exact (g1 w).via fun _ => XS.icmpYes X.here B.x rfl rfl (B.d q) rfl (by simp [if_icmp.holds, w, Int32.not_lt, Int32.not_le]) ho hp
  · exact (g2 w).via fun _ => XS.icmpNo X.here B.x rfl (B.d q) rfl (by simp [if_icmp.holds, w, Int32.not_lt, Int32.not_le])
theorem g_icmp_ne (X : Stand p l e R s m args below meth c T locs cells slots) (B : Bo Z p s m meth c own nm bytes maxL ret) {o : Int} {x y : Int32} (q : decode bytes pc = .ok (.if_icmp .ne o, 3)) (pt pf : Nat) (hp : ((pc : Int) + o).toNat = pt) (ho : 0 ≤ (pc : Int) + o) (hf : pc + 3 = pf) (g1 : ¬ x = y → Go p e below P (T.setTop (mkF m pt Ls st))) (g2 : x = y → Go p e below P (T.setTop (mkF m pf Ls st))) : Go p e below P (T.setTop (mkF m pc Ls (.int y :: .int x :: st))) := by
  subst hf
  by_cases w : x = y
  · exact (g2 w).via fun _ => XS.icmpNo X.here B.x rfl (B.d q) rfl (by simp [if_icmp.holds, w, Int32.not_lt, Int32.not_le])
  · exact (g1 w).via fun _ => XS.icmpYes X.here B.x rfl rfl (B.d q) rfl (by simpa [if_icmp.holds, Int32.not_lt, Int32.not_le] using w) ho hp
theorem g_icmp_lt (X : Stand p l e R s m args below meth c T locs cells slots) (B : Bo Z p s m meth c own nm bytes maxL ret) {o : Int} {x y : Int32} (q : decode bytes pc = .ok (.if_icmp .lt o, 3)) (pt pf : Nat) (hp : ((pc : Int) + o).toNat = pt) (ho : 0 ≤ (pc : Int) + o) (hf : pc + 3 = pf) (g1 : x < y → Go p e below P (T.setTop (mkF m pt Ls st))) (g2 : ¬ x < y → Go p e below P (T.setTop (mkF m pf Ls st))) : Go p e below P (T.setTop (mkF m pc Ls (.int y :: .int x :: st))) := by
  subst hf
  by_cases w : x < y
  · exact (g1 w).via fun _ => XS.icmpYes X.here B.x rfl rfl (B.d q) rfl (by simp [if_icmp.holds, w, Int32.not_lt, Int32.not_le]) ho hp
  · exact (g2 w).via fun _ => XS.icmpNo X.here B.x rfl (B.d q) rfl (by simp [if_icmp.holds, w, Int32.not_lt, Int32.not_le])
theorem g_icmp_ge (X : Stand p l e R s m args below meth c T locs cells slots) (B : Bo Z p s m meth c own nm bytes maxL ret) {o : Int} {x y : Int32} (q : decode bytes pc = .ok (.if_icmp .ge o, 3)) (pt pf : Nat) (hp : ((pc : Int) + o).toNat = pt) (ho : 0 ≤ (pc : Int) + o) (hf : pc + 3 = pf) (g1 : ¬ x < y → Go p e below P (T.setTop (mkF m pt Ls st))) (g2 : x < y → Go p e below P (T.setTop (mkF m pf Ls st))) : Go p e below P (T.setTop (mkF m pc Ls (.int y :: .int x :: st))) := by
  subst hf
  by_cases w : x < y
  · exact (g2 w).via fun _ => XS.icmpNo X.here B.x rfl (B.d q) rfl (by simp [if_icmp.holds, w, Int32.not_lt, Int32.not_le])
  · exact (g1 w).via fun _ => XS.icmpYes X.here B.x rfl rfl (B.d q) rfl (by simpa [if_icmp.holds, Int32.not_lt, Int32.not_le] using w) ho hp
theorem g_icmp_gt (X : Stand p l e R s m args below meth c T locs cells slots) (B : Bo Z p s m meth c own nm bytes maxL ret) {o : Int} {x y : Int32} (q : decode bytes pc = .ok (.if_icmp .gt o, 3)) (pt pf : Nat) (hp : ((pc : Int) + o).toNat = pt) (ho : 0 ≤ (pc : Int) + o) (hf : pc + 3 = pf) (g1 : y < x → Go p e below P (T.setTop (mkF m pt Ls st))) (g2 : ¬ y < x → Go p e below P (T.setTop (mkF m pf Ls st))) : Go p e below P (T.setTop (mkF m pc Ls (.int y :: .int x :: st))) := by
  subst hf
  by_cases w : y < x
  · exact (g1 w).via fun _ => XS.icmpYes X.here B.x rfl rfl (B.d q) rfl (by simp [if_icmp.holds, w, Int32.not_lt, Int32.not_le]) ho hp
  · exact (g2 w).via fun _ => XS.icmpNo X.here B.x rfl (B.d q) rfl (by simp [if_icmp.holds, w, Int32.not_lt, Int32.not_le])
theorem g_icmp_le (X : Stand p l e R s m args below meth c T locs cells slots) (B : Bo Z p s m meth c own nm bytes maxL ret) {o : Int} {x y : Int32} (q : decode bytes pc = .ok (.if_icmp .le o, 3)) (pt pf : Nat) (hp : ((pc : Int) + o).toNat = pt) (ho : 0 ≤ (pc : Int) + o) (hf : pc + 3 = pf) (g1 : ¬ y < x → Go p e below P (T.setTop (mkF m pt Ls st))) (g2 : y < x → Go p e below P (T.setTop (mkF m pf Ls st))) : Go p e below P (T.setTop (mkF m pc Ls (.int y :: .int x :: st))) := by
  subst hf
  by_cases w : y < x
  · exact (g2 w).via fun _ => XS.icmpNo X.here B.x rfl (B.d q) rfl (by simp [if_icmp.holds, w, Int32.not_lt, Int32.not_le])
  · exact (g1 w).via fun _ => XS.icmpYes X.here B.x rfl rfl (B.d q) rfl (by simpa [if_icmp.holds, Int32.not_lt, Int32.not_le] using w) ho hp
theorem g_if_eq (X : Stand p l e R s m args below meth c T locs cells slots) (B : Bo Z p s m meth c own nm bytes maxL ret) {o : Int} {x : Int32} (q : decode bytes pc = .ok (.ifCond .eq o, 3)) (pt pf : Nat) (hp : ((pc : Int) + o).toNat = pt) (ho : 0 ≤ (pc : Int) + o) (hf : pc + 3 = pf) (g1 : x = 0 → Go p e below P (T.setTop (mkF m pt Ls st))) (g2 : ¬ x = 0 → Go p e below P (T.setTop (mkF m pf Ls st))) : Go p e below P (T.setTop (mkF m pc Ls (.int x :: st))) := by
  subst hf
  by_cases w : x = 0
  · exact (g1 w).via fun _ => XS.ifYes X.here B.x rfl rfl (B.d q) rfl (by simp [ifCond.holds, w, Int32.not_lt, Int32.not_le]) ho hp
  · exact (g2 w).via fun _ => XS.ifNo X.here B.x rfl (B.d q) rfl (by simp [ifCond.holds, w, Int32.not_lt, Int32.not_le])
theorem g_if_ne (X : Stand p l e R s m args below meth c T locs cells slots) (B : Bo Z p s m meth c own nm bytes maxL ret) {o : Int} {x : Int32} (q : decode bytes pc = .ok (.ifCond .ne o, 3)) (pt pf : Nat) (hp : ((pc : Int) + o).toNat = pt) (ho : 0 ≤ (pc : Int) + o) (hf : pc + 3 = pf) (g1 : ¬ x = 0 → Go p e below P (T.setTop (mkF m pt Ls st))) (g2 : x = 0 → Go p e below P (T.setTop (mkF m pf Ls st))) : Go p e below P (T.setTop (mkF m pc Ls (.int x :: st))) := by
  subst hf
  by_cases w : x = 0
  · exact (g2 w).via fun _ => XS.ifNo X.here B.x rfl (B.d q) rfl (by simp [ifCond.holds, w, Int32.not_lt, Int32.not_le])
  · exact (g1 w).via fun _ => XS.ifYes X.here B.x rfl rfl (B.d q) rfl (by simpa [ifCond.holds, Int32.not_lt, Int32.not_le] using w) ho hp
theorem g_if_lt (X : Stand p l e R s m args below meth c T locs cells slots) (B : Bo Z p s m meth c own nm bytes maxL ret) {o : Int} {x : Int32} (q : decode bytes pc = .ok (.ifCond .lt o, 3)) (pt pf : Nat) (hp : ((pc : Int) + o).toNat = pt) (ho : 0 ≤ (pc : Int) + o) (hf : pc + 3 = pf) (g1 : x < 0 → Go p e below P (T.setTop (mkF m pt Ls st))) (g2 : ¬ x < 0 → Go p e below P (T.setTop (mkF m pf Ls st))) : Go p e below P (T.setTop (mkF m pc Ls (.int x :: st))) := by
  subst hf
  by_cases w : x < 0
  · exact (g1 w).via fun _ => XS.ifYes X.here B.x rfl rfl (B.d q) rfl (by simp [ifCond.holds, w, Int32.not_lt, Int32.not_le]) ho hp
  · exact (g2 w).via fun _ => XS.ifNo X.here B.x rfl (B.d q) rfl (by simp [ifCond.holds, w, Int32.not_lt, Int32.not_le])
theorem g_if_ge (X : Stand p l e R s m args below meth c T locs cells slots) (B : Bo Z p s m meth c own nm bytes maxL ret) {o : Int} {x : Int32} (q : decode bytes pc = .ok (.ifCond .ge o, 3)) (pt pf : Nat) (hp : ((pc : Int) + o).toNat = pt) (ho : 0 ≤ (pc : Int) + o) (hf : pc + 3 = pf) (g1 : ¬ x < 0 → Go p e below P (T.setTop (mkF m pt Ls st))) (g2 : x < 0 → Go p e below P (T.setTop (mkF m pf Ls st))) : Go p e below P (T.setTop (mkF m pc Ls (.int x :: st))) := by
  subst hf
  by_cases w : x < 0
  · exact (g2 w).via fun _ => XS.ifNo X.here B.x rfl (B.d q) rfl (by simp [ifCond.holds, w, Int32.not_lt, Int32.not_le])
  · exact (g1 w).via fun _ => XS.ifYes X.here B.x rfl rfl (B.d q) rfl (by simpa [ifCond.holds, Int32.not_lt, Int32.not_le] using w) ho hp
theorem g_if_gt (X : Stand p l e R s m args below meth c T locs cells slots) (B : Bo Z p s m meth c own nm bytes maxL ret) {o : Int} {x : Int32} (q : decode bytes pc = .ok (.ifCond .gt o, 3)) (pt pf : Nat) (hp : ((pc : Int) + o).toNat = pt) (ho : 0 ≤ (pc : Int) + o) (hf : pc + 3 = pf) (g1 : 0 < x → Go p e below P (T.setTop (mkF m pt Ls st))) (g2 : ¬ 0 < x → Go p e below P (T.setTop (mkF m pf Ls st))) : Go p e below P (T.setTop (mkF m pc Ls (.int x :: st))) := by
  subst hf
  by_cases w : 0 < x
  · exact (g1 w).via fun _ => XS.ifYes X.here B.x rfl rfl (B.d q) rfl (by simp [ifCond.holds, w, Int32.not_lt, Int32.not_le]) ho hp
  · exact (g2 w).via fun _ => XS.ifNo X.here B.x rfl (B.d q) rfl (by simp [ifCond.holds, w, Int32.not_lt, Int32.not_le])
theorem g_if_le (X : Stand p l e R s m args below meth c T locs cells slots) (B : Bo Z p s m meth c own nm bytes maxL ret) {o : Int} {x : Int32} (q : decode bytes pc = .ok (.ifCond .le o, 3)) (pt pf : Nat) (hp : ((pc : Int) + o).toNat = pt) (ho : 0 ≤ (pc : Int) + o) (hf : pc + 3 = pf) (g1 : ¬ 0 < x → Go p e below P (T.setTop (mkF m pt Ls st))) (g2 : 0 < x → Go p e below P (T.setTop (mkF m pf Ls st))) : Go p e below P (T.setTop (mkF m pc Ls (.int x :: st))) := by
  subst hf
  by_cases w : 0 < x
  · exact (g2 w).via fun _ => XS.ifNo X.here B.x rfl (B.d q) rfl (by simp [ifCond.holds, w, Int32.not_lt, Int32.not_le])
  · exact (g1 w).via fun _ => XS.ifYes X.here B.x rfl rfl (B.d q) rfl (by simpa [ifCond.holds, Int32.not_lt, Int32.not_le] using w) ho hp
theorem g_acmp_eq (X : Stand p l e R s m args below meth c T locs cells slots) (B : Bo Z p s m meth c own nm bytes maxL ret) {o : Int} {x y : Value} (q : decode bytes pc = .ok (.if_acmp .eq o, 3)) (pt pf : Nat) (hp : ((pc : Int) + o).toNat = pt) (ho : 0 ≤ (pc : Int) + o) (hf : pc + 3 = pf) (i : x.isRef = true) (j : y.isRef = true) (g1 : x = y → Go p e below P (T.setTop (mkF m pt Ls st))) (g2 : ¬ x = y → Go p e below P (T.setTop (mkF m pf Ls st))) : Go p e below P (T.setTop (mkF m pc Ls (y :: x :: st))) := by
  subst hf
  by_cases w : x = y
  · exact (g1 w).via fun _ => XT.acmpYes X.here B.x rfl rfl (B.d q) rfl i j (by simp [XT.acmp, w]) ho hp
  · exact (g2 w).via fun _ => XT.acmpNo X.here B.x rfl (B.d q) rfl i j (by simp [XT.acmp, w])
theorem g_acmp_ne (X : Stand p l e R s m args below meth c T locs cells slots) (B : Bo Z p s m meth c own nm bytes maxL ret) {o : Int} {x y : Value} (q : decode bytes pc = .ok (.if_acmp .ne o, 3)) (pt pf : Nat) (hp : ((pc : Int) + o).toNat = pt) (ho : 0 ≤ (pc : Int) + o) (hf : pc + 3 = pf) (i : x.isRef = true) (j : y.isRef = true) (g1 : ¬ x = y → Go p e below P (T.setTop (mkF m pt Ls st))) (g2 : x = y → Go p e below P (T.setTop (mkF m pf Ls st))) : Go p e below P (T.setTop (mkF m pc Ls (y :: x :: st))) := by
  subst hf
  by_cases w : x = y
  · exact (g2 w).via fun _ => XT.acmpNo X.here B.x rfl (B.d q) rfl i j (by simp [XT.acmp, w])
  · exact (g1 w).via fun _ => XT.acmpYes X.here B.x rfl rfl (B.d q) rfl i j (by simp [XT.acmp, w]) ho hp
theorem g_ifnull (X : Stand p l e R s m args below meth c T locs cells slots) (B : Bo Z p s m meth c own nm bytes maxL ret) {o : Int} {v : Value} (q : decode bytes pc = .ok (.ifnull o, 3)) (pt pf : Nat) (hp : ((pc : Int) + o).toNat = pt) (ho : 0 ≤ (pc : Int) + o) (hf : pc + 3 = pf) (i : v.isRef = true) (g1 : v = .null → Go p e below P (T.setTop (mkF m pt Ls st))) (g2 : ¬ v = .null → Go p e below P (T.setTop (mkF m pf Ls st))) : Go p e below P (T.setTop (mkF m pc Ls (v :: st))) := by
  subst hf
  by_cases w : v = .null
  · exact (g1 w).via fun _ => XT.nullYes X.here B.x rfl rfl (B.d q) rfl w ho hp
  · exact (g2 w).via fun _ => XT.nullNo X.here B.x rfl (B.d q) rfl i w
theorem g_ifnonnull (X : Stand p l e R s m args below meth c T locs cells slots) (B : Bo Z p s m meth c own nm bytes maxL ret) {o : Int} {v : Value} (q : decode bytes pc = .ok (.ifnonnull o, 3)) (pt pf : Nat) (hp : ((pc : Int) + o).toNat = pt) (ho : 0 ≤ (pc : Int) + o) (hf : pc + 3 = pf) (i : v.isRef = true) (g1 : ¬ v = .null → Go p e below P (T.setTop (mkF m pt Ls st))) (g2 : v = .null → Go p e below P (T.setTop (mkF m pf Ls st))) : Go p e below P (T.setTop (mkF m pc Ls (v :: st))) := by
  subst hf
  by_cases w : v = .null
  · exact (g2 w).via fun _ => XT.nonnullNo X.here B.x rfl (B.d q) rfl w
  · exact (g1 w).via fun _ => XT.nonnullYes X.here B.x rfl rfl (B.d q) rfl i w ho hp
theorem g_ldcI (X : Stand p l e R s m args below meth c T locs cells slots) (B : Bo Z p s m meth c own nm bytes maxL ret) {index : Nat} {v : Int32} (q : decode bytes pc = .ok (.ldc index, 2)) (pc' : Nat) (hp : pc + 2 = pc') (w : (Jvm.Cond.constant own index v).before a0 Z = true) (g : Go p e below P (T.setTop (mkF m pc' Ls (.int v :: st)))) : Go p e below P (T.setTop (mkF m pc Ls st)) := by
  subst hp
  exact g.via fun _ => X.ldcI B.x B.o (mvT B.z w) rfl (B.d q)
theorem g_getS (X : Stand p l e R s m args below meth c T locs cells slots) (B : Bo Z p s m meth c own nm bytes maxL ret) {R0 O n d : String} {index : Nat} {v : Value} (q : decode bytes pc = .ok (.getstatic index, 3)) (pc' : Nat) (hp : pc + 3 = pc') (w : (Jvm.Cond.fieldLink own index R0 n d).before a0 Z = true) (via : Via Z R0 O n d) (eT : T.heap = h) (F : Sta Z h O n d v) (k : ∀ T', Stand p l e R s m args below meth c T' locs cells slots → T'.heap = h → Go p e below P (T'.setTop (mkF m pc' Ls (v :: st)))) : Go p e below P (T.setTop (mkF m pc Ls st)) := by
  subst hp
  obtain ⟨T', X', e', q'⟩ := getS (host := "") X B.x B.z B.o w via eT F (g := mkF m pc Ls st) rfl (B.d q)
  exact (k T' X' e').via q'
theorem g_getF (X : Stand p l e R s m args below meth c T locs cells slots) (B : Bo Z p s m meth c own nm bytes maxL ret) {R0 O n d : String} {index : Nat} {a : Addr} {v : Value} (q : decode bytes pc = .ok (.getfield index, 3)) (pc' : Nat) (hp : pc + 3 = pc') (w : (Jvm.Cond.fieldLink own index R0 n d).before a0 Z = true) (via : Via Z R0 O n d) (eT : T.heap = h) (F : Fld Z h a O n d v) (k : ∀ T', Stand p l e R s m args below meth c T' locs cells slots → T'.heap = h → Go p e below P (T'.setTop (mkF m pc' Ls (v :: st)))) : Go p e below P (T.setTop (mkF m pc Ls (.ref a :: st))) := by
  subst hp
  obtain ⟨T', X', e', q'⟩ := getF (host := "") X B.x B.z B.o (Or.inl w) via eT F (g := mkF m pc Ls (.ref a :: st)) rfl rfl (B.d q)
  exact (k T' X' e').via q'
theorem g_putF (X : Stand p l e R s m args below meth c T locs cells slots) (B : Bo Z p s m meth c own nm bytes maxL ret) {R0 O n d C : String} {index kk : Nat} {ty : FieldType} {a : Addr} {v old : Value} (q : decode bytes pc = .ok (.putfield index, 3)) (pc' : Nat) (hp : pc + 3 = pc') (w : (Jvm.Cond.fieldLink own index R0 n d).before a0 Z = true) (via : Via Z R0 O n d) (eT : T.heap = h) (F : Fld Z h a O n d old) (E : Exa Z h a C) (L : (Jvm.Cond.lays C O n d).before a0 Z = true ∨ ((Jvm.Cond.laysFinal C O n d).before a0 Z = true ∧ own = O ∧ nm = "<init>")) (wi : (Jvm.Cond.instantiable C kk).before a0 Z = true) (hty : parseFieldDescriptor d = some ty) (hn : narrow ty v = v) (hf : fits ty v = true) (k : ∀ T' h', Stand p l e R s m args below meth c T' (locs ++ [⟨a, Jvm.RoadKit.slotOf Z O n d⟩]) cells slots → T'.heap = h' → Wr h h' a (Jvm.RoadKit.slotOf Z O n d) v → Go p e below P (T'.setTop (mkF m pc' Ls st))) : Go p e below P (T.setTop (mkF m pc Ls (v :: .ref a :: st))) := by
  subst hp
  obtain ⟨T', h', X', e', W', q'⟩ := putF (host := "") X B.x B.z B.o (Or.inl w) via eT F E (L.imp id fun y => ⟨y.1, y.2.1, B.n.trans y.2.2⟩) wi hty hn hf (g := mkF m pc Ls (v :: .ref a :: st)) rfl rfl (B.d q)
  exact (k T' h' X' e' W').via q'
theorem g_new (X : Stand p l e R s m args below meth c T locs cells slots) (B : Bo Z p s m meth c own nm bytes maxL ret) {C : String} {index n : Nat} (q : decode bytes pc = .ok (.new index, 3)) (pc' : Nat) (hp : pc + 3 = pc') (w : (Jvm.Cond.classLink own index C).before a0 Z = true) (wi : (Jvm.Cond.instantiable C n).before a0 Z = true) (wz : (Jvm.Cond.initialized C).before a0 Z = true) (eT : T.heap = h) (hc : cells + 1 ≤ R.cells) (hl : slots + n ≤ R.slots) (k : ∀ T' h' a, Stand p l e R s m args below meth c T' locs (cells + 1) (slots + n) → T'.heap = h' → a = h.size → Ext h h' → Exa Z h' a C → (∀ {O nm d : String} {ty : FieldType}, Laid Z a0 C O nm d → parseFieldDescriptor d = some ty → Fld Z h' a O nm d (defaultValue ty)) → Go p e below P (T'.setTop (mkF m pc' Ls (.ref a :: st)))) : Go p e below P (T.setTop (mkF m pc Ls st)) := by
  subst hp
  obtain ⟨T', h', X', e', E', A', D', -, q'⟩ := newO X B.x B.z B.o w wi wz eT (g := mkF m pc Ls st) rfl (B.d q) hc hl
  exact (k T' h' _ X' e' rfl E' A' D').via q'
theorem g_callS (X : Stand p l e R s m args below meth c T locs cells slots) (B : Bo Z p s m meth c own nm bytes maxL ret) {y : MethodName} {by' : ByteArray} {mx : Nat} {rt : Option FieldType} {rm : Room} {Q : Option Value → Heap → List Loc → Prop} {index : Nat} (argsL rest : List Value) (q : decode bytes pc = .ok (.invokestatic index, 3)) (pc' : Nat) (hp : pc + 3 = pc') (hst : st = argsL.reverse ++ rest) (w1 : (Jvm.Cond.methodLink own index y).before a0 Z = true) (w2 : (Jvm.Cond.static y).before a0 Z = true) (w3 : (Jvm.Cond.initialized y.cls).before a0 Z = true) (w4 : (Jvm.Cond.code y by' mx rt).before a0 Z = true) (hy : y.cls ≠ "java/lang/invoke/MethodHandle" ∧ y.cls ≠ "java/lang/invoke/VarHandle") (hlen : ∀ sig, parseMethodDescriptor y.desc = some sig → argsL.length = sig.parameters.length) (C : Ctr l Z y by' mx rt rm argsL.toArray h Q) (eT : T.heap = h) (hm : Ls.size = maxL) (W : Nat) (hW : (rest.map fun v => v.category).sum ≤ W) (hf : rm.frames + 1 ≤ R.frames) (hl : W + (mx + 11) + rm.locals ≤ R.locals) (hc : cells + rm.cells ≤ R.cells) (hs : slots + rm.slots ≤ R.slots) (k : ∀ v T' h' L', Stand p l e R s m args below meth c T' (locs ++ L') (cells + rm.cells) (slots + rm.slots) → T'.heap = h' → Q v h' L' → Go p e below P (T'.setTop (mkF m pc' Ls (v.toList ++ rest)))) : Go p e below P (T.setTop (mkF m pc Ls st)) := by
  subst hp hst
  obtain ⟨v, _, ⟨T', L', k', n'⟩, -, X', ⟨Lc, hQ, l1, l2, l3⟩, q'⟩ := Jvm.LawKit.callS X B.x (y := y) B.o (mvT B.z w1) (mvT B.z w2) (mvT B.z w3) (mvT B.z w4) hy (C.back (W := W) B.z w4 w3 hf hl) (g := mkF m pc Ls (argsL.reverse ++ rest)) rfl (B.mx hm) (argsL := argsL) (rest := rest) hlen rfl (by show 2 * 0 + _ ≤ _; omega) (B.d q) (fun _ _ => ⟨rfl, eT, hc, hs⟩)
  dsimp only [Pt.U, Pt.locs, Pt.cells, Pt.slots] at X' l1 l2 l3 q' hQ
  subst l1 l2 l3
  exact (k v T' _ Lc X' rfl hQ).via q'
theorem g_callV (X : Stand p l e R s m args below meth c T locs cells slots) (B : Bo Z p s m meth c own nm bytes maxL ret) {z : MethodName} {by' : ByteArray} {mx : Nat} {rt : Option FieldType} {rm : Room} {Q : Option Value → Heap → List Loc → Prop} {index : Nat} {K : String} {a : Addr} (argsL rest : List Value) (q : decode bytes pc = .ok (.invokevirtual index, 3)) (pc' : Nat) (hp : pc + 3 = pc') (hst : st = argsL.reverse ++ .ref a :: rest) (w1 : (Jvm.Cond.methodLink own index z).before a0 Z = true) (w2 : (Jvm.Cond.declares z).before a0 Z = true) (w3 : (Jvm.Cond.selects K z z).before a0 Z = true) (w4 : (Jvm.Cond.instanceMethod z).before a0 Z = true) (w5 : (Jvm.Cond.initialized z.cls).before a0 Z = true) (w6 : (Jvm.Cond.code z by' mx rt).before a0 Z = true) (hy : z.cls ≠ "java/lang/invoke/MethodHandle" ∧ z.cls ≠ "java/lang/invoke/VarHandle") (hlen : ∀ sig, parseMethodDescriptor z.desc = some sig → argsL.length = sig.parameters.length) (E : Exa Z h a K) (C : Ctr l Z z by' mx rt rm (.ref a :: argsL).toArray h Q) (eT : T.heap = h) (hm : Ls.size = maxL) (W : Nat) (hW : (rest.map fun v => v.category).sum ≤ W) (hf : rm.frames + 1 ≤ R.frames) (hl : W + (mx + 11) + rm.locals ≤ R.locals) (hc : cells + rm.cells ≤ R.cells) (hs : slots + rm.slots ≤ R.slots) (k : ∀ v T' h' L', Stand p l e R s m args below meth c T' (locs ++ L') (cells + rm.cells) (slots + rm.slots) → T'.heap = h' → Q v h' L' → Go p e below P (T'.setTop (mkF m pc' Ls (v.toList ++ rest)))) : Go p e below P (T.setTop (mkF m pc Ls st)) := by
  subst hp hst
  obtain ⟨cq, kq, qa, qb, qc⟩ := isOf B.z eT E
  obtain ⟨v, _, ⟨T', L', k', n'⟩, -, X', ⟨Lc, hQ, l1, l2, l3⟩, q'⟩ := X.virtualBack B.x (y := z) (z := z) B.o (mvT B.z w1) (mvT B.z w2) (notFace_of_selects (args := #[]) (mvT B.z w3)) (mvT B.z w3) (mvT B.z w4) hy (C.back (W := W) B.z w6 w5 hf hl) qa qc (g := mkF m pc Ls (argsL.reverse ++ .ref a :: rest)) rfl (B.mx hm) (Steps.refl _) (argsL := argsL) (rest := rest) hlen rfl (by show 2 * 0 + _ ≤ _; omega) (B.d q) (fun _ _ => ⟨rfl, eT, hc, hs⟩)
  dsimp only [Pt.U, Pt.locs, Pt.cells, Pt.slots] at X' l1 l2 l3 q' hQ
  subst l1 l2 l3
  exact (k v T' _ Lc X' rfl hQ).via fun _ => q'.trans
theorem g_callN (X : Stand p l e R s m args below meth c T locs cells slots) (B : Bo Z p s m meth c own nm bytes maxL ret) {y : MethodName} {by' : ByteArray} {mx : Nat} {rm : Room} {Q : Option Value → Heap → List Loc → Prop} {index : Nat} {a : Addr} (argsL rest : List Value) (q : decode bytes pc = .ok (.invokespecial index, 3)) (pc' : Nat) (hp : pc + 3 = pc') (hst : st = argsL.reverse ++ .ref a :: rest) (hn : y.name = "<init>") (w1 : (Jvm.Cond.methodLink own index y).before a0 Z = true) (w2 : (Jvm.Cond.instanceMethod y).before a0 Z = true) (w3 : (Jvm.Cond.code y by' mx none).before a0 Z = true) (w4 : (Jvm.Cond.initialized y.cls).before a0 Z = true) (hy : y.cls ≠ "java/lang/invoke/MethodHandle" ∧ y.cls ≠ "java/lang/invoke/VarHandle") (hlen : ∀ sig, parseMethodDescriptor y.desc = some sig → argsL.length = sig.parameters.length) (C : Ctr l Z y by' mx none rm (.ref a :: argsL).toArray h Q) (eT : T.heap = h) (hm : Ls.size = maxL) (W : Nat) (hW : (rest.map fun v => v.category).sum ≤ W) (hf : rm.frames + 1 ≤ R.frames) (hl : W + (mx + 11) + rm.locals ≤ R.locals) (hc : cells + rm.cells ≤ R.cells) (hs : slots + rm.slots ≤ R.slots) (k : ∀ v T' h' L', Stand p l e R s m args below meth c T' (locs ++ L') (cells + rm.cells) (slots + rm.slots) → T'.heap = h' → Q v h' L' → Go p e below P (T'.setTop (mkF m pc' Ls (v.toList ++ rest)))) : Go p e below P (T.setTop (mkF m pc Ls st)) := by
  subst hp hst
  obtain ⟨v, _, ⟨T', L', k', n'⟩, -, X', ⟨Lc, hQ, l1, l2, l3⟩, q'⟩ := X.specialBack B.x (y := y) hn B.o (mvT B.z w1) (mvT B.z w2) (mvT B.z w3) hy (C.back (W := W) B.z w3 w4 hf hl) (g := mkF m pc Ls (argsL.reverse ++ .ref a :: rest)) rfl (B.mx hm) (Steps.refl _) (a := a) (argsL := argsL) (rest := rest) hlen rfl (by show 2 * 0 + _ ≤ _; omega) (B.d q) (fun _ _ => ⟨rfl, eT, hc, hs⟩)
  dsimp only [Pt.U, Pt.locs, Pt.cells, Pt.slots] at X' l1 l2 l3 q' hQ
  subst l1 l2 l3
  exact (k v T' _ Lc X' rfl hQ).via fun _ => q'.trans
theorem g_newP (X : Stand p l e R s m args below meth c T locs cells slots) (B : Bo Z p s m meth c own nm bytes maxL ret) {aty : ArrayType} {n : Int32} (vs : List Value) (q : decode bytes pc = .ok (.newarray aty, 2)) (pc' : Nat) (hp : pc + 2 = pc') (w : (Jvm.Cond.arrayClass (newarray.typeOf aty)).before a0 Z = true) (eT : T.heap = h) (hn : ¬ n < 0) (hvs : List.replicate n.toNatClampNeg (defaultValue (newarray.typeOf aty)) = vs) (hb : vs.length * 8 ≤ 536870912) (hc : cells + 1 ≤ R.cells) (hl : slots + vs.length ≤ R.slots) (k : ∀ T' h' a, Stand p l e R s m args below meth c T' locs (cells + 1) (slots + vs.length) → T'.heap = h' → a = h.size → Ext h h' → Av Z h' a (newarray.typeOf aty) vs → Go p e below P (T'.setTop (mkF m pc' Ls (.ref a :: st)))) : Go p e below P (T.setTop (mkF m pc Ls (.int n :: st))) := by
  subst hp
  obtain ⟨T', h', cA, X', e', E', A', q'⟩ := newP X B.x B.z w eT (g := mkF m pc Ls (.int n :: st)) rfl (B.d q) rfl hn (cap := vs.length) (by rw [← hvs]; simp) hb hc hl
  exact (k T' h' _ X' e' rfl E' ⟨_, A', by rw [← hvs]; simp [newA]⟩).via q'
theorem g_castore (X : Stand p l e R s m args below meth c T locs cells slots) (B : Bo Z p s m meth c own nm bytes maxL ret) {a : Addr} {j x : Int32} {vs : List Value} (i : Nat) (q : decode bytes pc = .ok (.castore, 1)) (pc' : Nat) (hp : pc + 1 = pc') (eT : T.heap = h) (A : Av Z h a .char vs) (hi : j.toNatClampNeg = i) (h0 : ¬ j < 0) (hl : i < vs.length) (k : ∀ T' h', Stand p l e R s m args below meth c T' (locs ++ [⟨a, i⟩]) cells slots → T'.heap = h' → Wr h h' a i (.int (nar .char x)) → Av Z h' a .char (vs.set i (.int (nar .char x))) → Go p e below P (T'.setTop (mkF m pc' Ls st))) : Go p e below P (T.setTop (mkF m pc Ls (.int x :: .int j :: .ref a :: st))) := by
  subst hp
  have A' := A
  obtain ⟨cl, Ar, hv⟩ := A'
  obtain ⟨T', h', X', e', W', q'⟩ := stC X B.x B.z eT Ar (Av.inb (Z := Z) (h := h) (a := a) (ty := .char) hv hi h0 hl) (g := mkF m pc Ls (.int x :: .int j :: .ref a :: st)) rfl rfl (B.d q)
  subst hi
  exact (k T' h' X' e' W' (A.set W')).via q'
theorem g_bastoreB (X : Stand p l e R s m args below meth c T locs cells slots) (B : Bo Z p s m meth c own nm bytes maxL ret) {a : Addr} {j x : Int32} {vs : List Value} (i : Nat) (q : decode bytes pc = .ok (.bastore, 1)) (pc' : Nat) (hp : pc + 1 = pc') (eT : T.heap = h) (A : Av Z h a .byte vs) (hi : j.toNatClampNeg = i) (h0 : ¬ j < 0) (hl : i < vs.length) (k : ∀ T' h', Stand p l e R s m args below meth c T' (locs ++ [⟨a, i⟩]) cells slots → T'.heap = h' → Wr h h' a i (.int (nar .byte x)) → Av Z h' a .byte (vs.set i (.int (nar .byte x))) → Go p e below P (T'.setTop (mkF m pc' Ls st))) : Go p e below P (T.setTop (mkF m pc Ls (.int x :: .int j :: .ref a :: st))) := by
  subst hp
  have A' := A
  obtain ⟨cl, Ar, hv⟩ := A'
  obtain ⟨T', h', X', e', W', q'⟩ := stB X B.x B.z eT Ar (Av.inb (Z := Z) (h := h) (a := a) (ty := .byte) hv hi h0 hl) (g := mkF m pc Ls (.int x :: .int j :: .ref a :: st)) rfl rfl (B.d q)
  subst hi
  exact (k T' h' X' e' W' (A.set W')).via q'
theorem g_bastoreZ (X : Stand p l e R s m args below meth c T locs cells slots) (B : Bo Z p s m meth c own nm bytes maxL ret) {a : Addr} {j x : Int32} {vs : List Value} (i : Nat) (q : decode bytes pc = .ok (.bastore, 1)) (pc' : Nat) (hp : pc + 1 = pc') (eT : T.heap = h) (A : Av Z h a .boolean vs) (hi : j.toNatClampNeg = i) (h0 : ¬ j < 0) (hl : i < vs.length) (k : ∀ T' h', Stand p l e R s m args below meth c T' (locs ++ [⟨a, i⟩]) cells slots → T'.heap = h' → Wr h h' a i (.int (nar .boolean x)) → Av Z h' a .boolean (vs.set i (.int (nar .boolean x))) → Go p e below P (T'.setTop (mkF m pc' Ls st))) : Go p e below P (T.setTop (mkF m pc Ls (.int x :: .int j :: .ref a :: st))) := by
  subst hp
  have A' := A
  obtain ⟨cl, Ar, hv⟩ := A'
  obtain ⟨T', h', X', e', W', q'⟩ := stZ X B.x B.z eT Ar (Av.inb (Z := Z) (h := h) (a := a) (ty := .boolean) hv hi h0 hl) (g := mkF m pc Ls (.int x :: .int j :: .ref a :: st)) rfl rfl (B.d q)
  subst hi
  exact (k T' h' X' e' W' (A.set W')).via q'
theorem g_caload (X : Stand p l e R s m args below meth c T locs cells slots) (B : Bo Z p s m meth c own nm bytes maxL ret) {a : Addr} {j : Int32} {vs : List Value} {v : Value} (i : Nat) (q : decode bytes pc = .ok (.caload, 1)) (pc' : Nat) (hp : pc + 1 = pc') (eT : T.heap = h) (A : Av Z h a .char vs) (hi : j.toNatClampNeg = i) (h0 : ¬ j < 0) (hv : vs[i]? = some v) (g : Go p e below P (T.setTop (mkF m pc' Ls (v :: st)))) : Go p e below P (T.setTop (mkF m pc Ls (.int j :: .ref a :: st))) := by
  subst hp
  obtain ⟨cl, Ar, hc⟩ := A
  have hl : i < vs.length := (List.getElem?_eq_some_iff.mp hv).1
  have hin := Av.inb (Z := Z) (h := h) (a := a) (ty := .char) hc hi h0 hl
  have k1 : T.heap[a]? = some cl := by rw [eT]; exact Ar.1
  have k2 : s.isArrayOf cl .char := State.isArrayOf_alike B.z.alike Ar.2.1
  have k3 : cl.slots[j.toNatClampNeg]? = some v := by rw [hi, ← hv, ← hc]; simp
  exact g.via fun t => X.caload B.x k1 k2 Ar.2.2 hin k3 (g := mkF m pc Ls (.int j :: .ref a :: st)) rfl rfl (B.d q) t
theorem g_baloadB (X : Stand p l e R s m args below meth c T locs cells slots) (B : Bo Z p s m meth c own nm bytes maxL ret) {a : Addr} {j : Int32} {vs : List Value} {v : Value} (i : Nat) (q : decode bytes pc = .ok (.baload, 1)) (pc' : Nat) (hp : pc + 1 = pc') (eT : T.heap = h) (A : Av Z h a .byte vs) (hi : j.toNatClampNeg = i) (h0 : ¬ j < 0) (hv : vs[i]? = some v) (g : Go p e below P (T.setTop (mkF m pc' Ls (v :: st)))) : Go p e below P (T.setTop (mkF m pc Ls (.int j :: .ref a :: st))) := by
  subst hp
  obtain ⟨cl, Ar, hc⟩ := A
  have hl : i < vs.length := (List.getElem?_eq_some_iff.mp hv).1
  have hin := Av.inb (Z := Z) (h := h) (a := a) (ty := .byte) hc hi h0 hl
  have k1 : T.heap[a]? = some cl := by rw [eT]; exact Ar.1
  have k2 : s.isArrayOf cl .byte := State.isArrayOf_alike B.z.alike Ar.2.1
  have k3 : cl.slots[j.toNatClampNeg]? = some v := by rw [hi, ← hv, ← hc]; simp
  exact g.via fun t => X.baloadBytes B.x k1 k2 Ar.2.2 hin k3 (g := mkF m pc Ls (.int j :: .ref a :: st)) rfl rfl (B.d q) t
theorem g_baloadZ (X : Stand p l e R s m args below meth c T locs cells slots) (B : Bo Z p s m meth c own nm bytes maxL ret) {a : Addr} {j : Int32} {vs : List Value} {v : Value} (i : Nat) (q : decode bytes pc = .ok (.baload, 1)) (pc' : Nat) (hp : pc + 1 = pc') (eT : T.heap = h) (A : Av Z h a .boolean vs) (hi : j.toNatClampNeg = i) (h0 : ¬ j < 0) (hv : vs[i]? = some v) (g : Go p e below P (T.setTop (mkF m pc' Ls (v :: st)))) : Go p e below P (T.setTop (mkF m pc Ls (.int j :: .ref a :: st))) := by
  subst hp
  obtain ⟨cl, Ar, hc⟩ := A
  have hl : i < vs.length := (List.getElem?_eq_some_iff.mp hv).1
  have hin := Av.inb (Z := Z) (h := h) (a := a) (ty := .boolean) hc hi h0 hl
  have k1 : T.heap[a]? = some cl := by rw [eT]; exact Ar.1
  have k2 : s.isArrayOf cl .boolean := State.isArrayOf_alike B.z.alike Ar.2.1
  have k3 : cl.slots[j.toNatClampNeg]? = some v := by rw [hi, ← hv, ← hc]; simp
  exact g.via fun t => X.baloadBooleans B.x k1 k2 Ar.2.2 hin k3 (g := mkF m pc Ls (.int j :: .ref a :: st)) rfl rfl (B.d q) t
theorem g_aaload (X : Stand p l e R s m args below meth c T locs cells slots) (B : Bo Z p s m meth c own nm bytes maxL ret) {ty : FieldType} (hty : ty.isReference = true) {a : Addr} {j : Int32} {vs : List Value} {v : Value} (i : Nat) (q : decode bytes pc = .ok (.aaload, 1)) (pc' : Nat) (hp : pc + 1 = pc') (eT : T.heap = h) (A : Av Z h a ty vs) (hi : j.toNatClampNeg = i) (h0 : ¬ j < 0) (hv : vs[i]? = some v) (g : Go p e below P (T.setTop (mkF m pc' Ls (v :: st)))) : Go p e below P (T.setTop (mkF m pc Ls (.int j :: .ref a :: st))) := by
  subst hp
  obtain ⟨cl, Ar, hc⟩ := A
  have hl : i < vs.length := (List.getElem?_eq_some_iff.mp hv).1
  have hin := Av.inb (Z := Z) (h := h) (a := a) (ty := ty) hc hi h0 hl
  have k1 : T.heap[a]? = some cl := by rw [eT]; exact Ar.1
  have k2 : s.isArrayOf cl ty := State.isArrayOf_alike B.z.alike Ar.2.1
  have k3 : cl.slots[j.toNatClampNeg]? = some v := by rw [hi, ← hv, ← hc]; simp
  exact g.via fun t => X.aaload B.x k1 k2 hty Ar.2.2 hin k3 (g := mkF m pc Ls (.int j :: .ref a :: st)) rfl rfl (B.d q) t
theorem g_arrlen (X : Stand p l e R s m args below meth c T locs cells slots) (B : Bo Z p s m meth c own nm bytes maxL ret) {ty : FieldType} {a : Addr} {vs : List Value} (n : Int32) (q : decode bytes pc = .ok (.arraylength, 1)) (pc' : Nat) (hp : pc + 1 = pc') (eT : T.heap = h) (A : Av Z h a ty vs) (hn : vs.length.toInt32 = n) (g : Go p e below P (T.setTop (mkF m pc' Ls (.int n :: st)))) : Go p e below P (T.setTop (mkF m pc Ls (.ref a :: st))) := by
  subst hp hn
  obtain ⟨cl, Ar, hc⟩ := A
  have k1 : T.heap[a]? = some cl := by rw [eT]; exact Ar.1
  have k2 : s.isArrayOf cl ty := State.isArrayOf_alike B.z.alike Ar.2.1
  rw [← hc, Array.length_toList] at g
  exact g.via fun t => X.arraylength B.x k1 k2 (g := mkF m pc Ls (.ref a :: st)) rfl rfl (B.d q) t
theorem g_callUp (X : Stand p l e R s m args below meth c T locs cells slots) (B : Bo Z p s m meth c own nm bytes maxL ret) {y z : MethodName} {by' : ByteArray} {mx : Nat} {rt : Option FieldType} {rm : Room} {Q : Option Value → Heap → List Loc → Prop} {index : Nat} {K owner : String} {a : Addr} (argsL rest : List Value) (q : decode bytes pc = .ok (.invokevirtual index, 3)) (pc' : Nat) (hp : pc + 3 = pc') (hst : st = argsL.reverse ++ .ref a :: rest) (w1 : (Jvm.Cond.methodLink own index y).before a0 Z = true) (w2 : (Jvm.Cond.sameMethod y.cls owner y.name y.desc).before a0 Z = true) (w2' : (Jvm.Cond.declares ⟨owner, y.name, y.desc⟩).before a0 Z = true) (w3 : (Jvm.Cond.selects K y z).before a0 Z = true) (w4 : (Jvm.Cond.instanceMethod z).before a0 Z = true) (w5 : (Jvm.Cond.initialized z.cls).before a0 Z = true) (w6 : (Jvm.Cond.code z by' mx rt).before a0 Z = true) (hy : owner ≠ "java/lang/invoke/MethodHandle" ∧ owner ≠ "java/lang/invoke/VarHandle") (hlen : ∀ sig, parseMethodDescriptor y.desc = some sig → argsL.length = sig.parameters.length) (E : Exa Z h a K) (C : Ctr l Z z by' mx rt rm (.ref a :: argsL).toArray h Q) (eT : T.heap = h) (hm : Ls.size = maxL) (W : Nat) (hW : (rest.map fun v => v.category).sum ≤ W) (hf : rm.frames + 1 ≤ R.frames) (hl : W + (mx + 11) + rm.locals ≤ R.locals) (hc : cells + rm.cells ≤ R.cells) (hs : slots + rm.slots ≤ R.slots) (k : ∀ v T' h' L', Stand p l e R s m args below meth c T' (locs ++ L') (cells + rm.cells) (slots + rm.slots) → T'.heap = h' → Q v h' L' → Go p e below P (T'.setTop (mkF m pc' Ls (v.toList ++ rest)))) : Go p e below P (T.setTop (mkF m pc Ls st)) := by
  subst hp hst
  obtain ⟨cq, kq, qa, qb, qc⟩ := isOf B.z eT E
  obtain ⟨v, _, ⟨T', L', k', n'⟩, -, X', ⟨Lc, hQ, l1, l2, l3⟩, q'⟩ := X.virtualBackUp B.x (x := y) (y := z) B.o (mvT B.z w1) (mvT B.z w2) (mvT B.z w2') hy (mvT B.z w3) (mvT B.z w4) (C.back (W := W) B.z w6 w5 hf hl) qa qc (g := mkF m pc Ls (argsL.reverse ++ .ref a :: rest)) rfl (B.mx hm) (Steps.refl _) (argsL := argsL) (rest := rest) hlen rfl (by show 2 * 0 + _ ≤ _; omega) (B.d q) (fun _ _ => ⟨rfl, eT, hc, hs⟩)
  dsimp only [Pt.U, Pt.locs, Pt.cells, Pt.slots] at X' l1 l2 l3 q' hQ
  subst l1 l2 l3
  exact (k v T' _ Lc X' rfl hQ).via fun _ => q'.trans
theorem g_cast (X : Stand p l e R s m args below meth c T locs cells slots) (B : Bo Z p s m meth c own nm bytes maxL ret) {K : String} {index : Nat} {a : Addr} (q : decode bytes pc = .ok (.checkcast index, 3)) (pc' : Nat) (hp : pc + 3 = pc') (w : (Jvm.Cond.classLink own index K).before a0 Z = true) (eT : T.heap = h) (F : Ins Z h a K true) (k : ∀ T', Stand p l e R s m args below meth c T' locs cells slots → T'.heap = h → Go p e below P (T'.setTop (mkF m pc' Ls (.ref a :: st)))) : Go p e below P (T.setTop (mkF m pc Ls (.ref a :: st))) := by
  subst hp
  obtain ⟨T', X', e', q'⟩ := castY X B.x B.z B.o w eT F (g := mkF m pc Ls (.ref a :: st)) rfl rfl (B.d q)
  exact (k T' X' e').via q'
theorem g_retOut (X : Stand p l e R s m args below meth c T locs cells slots) (B : Bo Z p s m meth c own nm bytes maxL ret) {Q : Option Value → Heap → List Loc → Prop} {cc ss : Nat} {w : Value} {t : FieldType} {i : Instr} (q : decode bytes pc = .ok (i, 1)) (ht : ret = some t) (hn : narrow t w = w)
    (hi : (i = .ireturn ∧ (t = .int ∨ t = .boolean ∨ t = .byte ∨ t = .char ∨ t = .short) ∧ ∃ z, w = .int z) ∨ (i = .lreturn ∧ t = .long ∧ ∃ z, w = .long z) ∨ (i = .dreturn ∧ t = .double ∧ ∃ z, w = .double z) ∨ (i = .freturn ∧ t = .float ∧ ∃ z, w = .float z) ∨ (i = .areturn ∧ t.isReference = true ∧ w.isRef = true))
    (hc : cells ≤ cc) (hs : slots ≤ ss) (eT : T.heap = h) (hQ : Q (some w) h locs) : Go p e below (EndsQ s Q cc ss) (T.setTop (mkF m pc Ls (w :: st))) := by
  have hl := B.lk
  obtain ⟨fs, hr, hrun, hended, hW, hsame⟩ := X.leave (v := some w) (fun z => by rw [B.r, ht] at z; cases z) hl
  subst eT
  exact ⟨_, _, retOut X B.x (B.r.trans ht) hn hi (B.d q) hr, hrun, hended, _, _, rfl, hQ, ⟨_, rfl⟩, hW, hsame.mono hc hs⟩
theorem g_retA (X : Stand p l e R s m args below meth c T locs cells slots) (B : Bo Z p s m meth c own nm bytes maxL ret) {Q : Option Value → Heap → List Loc → Prop} {cc ss : Nat} {w : Value} {t : FieldType} (q : decode bytes pc = .ok (.areturn, 1)) (ht : ret = some t) (hr : t.isReference = true) (hw : w.isRef = true) (hc : cells ≤ cc) (hs : slots ≤ ss) (eT : T.heap = h) (hQ : Q (some w) h locs) : Go p e below (EndsQ s Q cc ss) (T.setTop (mkF m pc Ls (w :: st))) :=
  g_retOut X B q ht (by cases t <;> first | (cases hr; done) | (cases w <;> first | rfl | (cases hw; done))) (Or.inr (Or.inr (Or.inr (Or.inr ⟨rfl, hr, hw⟩)))) hc hs eT hQ
theorem g_retI (X : Stand p l e R s m args below meth c T locs cells slots) (B : Bo Z p s m meth c own nm bytes maxL ret) {Q : Option Value → Heap → List Loc → Prop} {cc ss : Nat} {z : Int32} (q : decode bytes pc = .ok (.ireturn, 1)) (ht : ret = some .int) (hc : cells ≤ cc) (hs : slots ≤ ss) (eT : T.heap = h) (hQ : Q (some (.int z)) h locs) : Go p e below (EndsQ s Q cc ss) (T.setTop (mkF m pc Ls (.int z :: st))) :=
  g_retOut X B q ht rfl (Or.inl ⟨rfl, Or.inl rfl, _, rfl⟩) hc hs eT hQ
theorem g_retL (X : Stand p l e R s m args below meth c T locs cells slots) (B : Bo Z p s m meth c own nm bytes maxL ret) {Q : Option Value → Heap → List Loc → Prop} {cc ss : Nat} {z : Int64} (q : decode bytes pc = .ok (.lreturn, 1)) (ht : ret = some .long) (hc : cells ≤ cc) (hs : slots ≤ ss) (eT : T.heap = h) (hQ : Q (some (.long z)) h locs) : Go p e below (EndsQ s Q cc ss) (T.setTop (mkF m pc Ls (.long z :: st))) :=
  g_retOut X B q ht rfl (Or.inr (Or.inl ⟨rfl, rfl, _, rfl⟩)) hc hs eT hQ
theorem g_retN (X : Stand p l e R s m args below meth c T locs cells slots) (B : Bo Z p s m meth c own nm bytes maxL ret) {Q : Option Value → Heap → List Loc → Prop} {cc ss : Nat} {z : Int32} {t : FieldType} (q : decode bytes pc = .ok (.ireturn, 1)) (ht : ret = some t) (hn : narrow t (.int z) = .int z) (hk : t = .boolean ∨ t = .byte ∨ t = .char ∨ t = .short) (hc : cells ≤ cc) (hs : slots ≤ ss) (eT : T.heap = h) (hQ : Q (some (.int z)) h locs) : Go p e below (EndsQ s Q cc ss) (T.setTop (mkF m pc Ls (.int z :: st))) :=
  g_retOut X B q ht hn (Or.inl ⟨rfl, Or.inr hk, _, rfl⟩) hc hs eT hQ
theorem g_retV (X : Stand p l e R s m args below meth c T locs cells slots) (B : Bo Z p s m meth c own nm bytes maxL ret) {Q : Option Value → Heap → List Loc → Prop} {cc ss : Nat} (q : decode bytes pc = .ok (.return_, 1)) (ht : ret = none) (hc : cells ≤ cc) (hs : slots ≤ ss) (eT : T.heap = h) (hQ : Q none h locs) : Go p e below (EndsQ s Q cc ss) (T.setTop (mkF m pc Ls [])) := by
  have hl := B.lk
  obtain ⟨fs, hr, hrun, hended, hW, hsame⟩ := X.leave (v := none) (fun _ => rfl) hl
  subst eT
  exact ⟨_, _, X.returnOut B.x (B.r.trans ht) (B.d q) hr, hrun, hended, _, _, rfl, hQ, ⟨_, rfl⟩, hW, hsame.mono hc hs⟩
end OwnKit
theorem own_abs {P : Prop} {G : Prop} (q : P) (z : ¬ P) : G := absurd q z
theorem own_abs' {P : Prop} {G : Prop} (q : ¬ P) (z : P) : G := absurd z q
/-! own: from the words of a case to facts -/
theorem own_fldI {Z : State} {args : Array Value} {t : Term} {C n d : String} {a : Addr} {k : Int32} (ev : t.eval args Z none [] Z = some (.ref a)) (q : (Jvm.Cond.eq (.field t C n d) (.int k)).value args Z none Z [] = some true) : Fld Z Z.heap a C n d (.int k) := by
  obtain ⟨x, y, h1, h2, h3, -⟩ := cmp_v (Or.inl q)
  cases h2
  have h4 : Z.fieldOf? a C n d = some x := (fld_at ev).symm.trans h1
  have h5 : ∃ z, x = .int z := by cases x <;> simp [Kin, Value.isRef] at h3 ⊢
  obtain ⟨z, rfl⟩ := h5
  have h6 : z = k := by
    have h7 : (Jvm.Cond.eq (.field t C n d) (.int k)).value args Z none Z [] = some (decide (z = k)) := by simp only [Cond.value, h1, Term.int_eval]
    exact gotT h7 q
  exact h6 ▸ Fld.start h4
theorem own_fldN {Z : State} {args : Array Value} {t : Term} {C n d : String} {a : Addr} (ev : t.eval args Z none [] Z = some (.ref a)) (q : (Jvm.Cond.eq (.field t C n d) .null).value args Z none Z [] = some true) : Fld Z Z.heap a C n d .null := Fld.start ((fld_at ev).symm.trans (null_v q))
theorem own_stk {Z : State} {h h' : Heap} {C n d : String} {v : Value} (F : Sta Z h C n d v) (K : Keep h h' []) : Sta Z h' C n d v := by
  obtain ⟨cf, i, k, f, st, cell, h1, h2, h3, h4, h5, r⟩ := F
  exact ⟨cf, i, k, f, st, cell, h1, h2, h3, h4, K.2.1 _ _ h5 (fun q => nomatch q), r⟩
theorem own_fldR {Z : State} {args : Array Value} {t u : Term} {C n d : String} {a b : Addr} (ev : t.eval args Z none [] Z = some (.ref a)) (ew : u.eval args Z none [] Z = some (.ref b)) (q : (Jvm.Cond.eq (.field t C n d) u).value args Z none Z [] = some true) : Fld Z Z.heap a C n d (.ref b) := by
  obtain ⟨x, y, h1, h2, h3, -⟩ := cmp_v (Or.inl q)
  cases ew.symm.trans h2
  have h4 : Z.fieldOf? a C n d = some x := (fld_at ev).symm.trans h1
  have h5 : x.isRef = true := by cases x <;> simp [Kin, Value.isRef] at h3 ⊢
  have h6 : x = .ref b := gotT (eq_R h1 ew h5 rfl) q
  exact h6 ▸ Fld.start h4

theorem d1_0 : decode method_3_code 0 = .ok (.iload_n 0, 1) := by decide +kernel
theorem d1_1 : decode method_3_code 1 = .ok (.invokestatic 22, 3) := by decide +kernel
theorem d1_4 : decode method_3_code 4 = .ok (.astore_n 1, 1) := by decide +kernel
theorem d1_5 : decode method_3_code 5 = .ok (.iload_n 0, 1) := by decide +kernel
theorem d1_6 : decode method_3_code 6 = .ok (.invokestatic 28, 3) := by decide +kernel
theorem d1_9 : decode method_3_code 9 = .ok (.astore_n 2, 1) := by decide +kernel
theorem d1_10 : decode method_3_code 10 = .ok (.aload_n 1, 1) := by decide +kernel
theorem d1_11 : decode method_3_code 11 = .ok (.ifnonnull 16, 3) := by decide +kernel
theorem d1_14 : decode method_3_code 14 = .ok (.aload_n 2, 1) := by decide +kernel
theorem d1_15 : decode method_3_code 15 = .ok (.invokevirtual 32, 3) := by decide +kernel
theorem d1_18 : decode method_3_code 18 = .ok (.ifCond .ne 7, 3) := by decide +kernel
theorem d1_21 : decode method_3_code 21 = .ok (.iconst 1, 1) := by decide +kernel
theorem d1_22 : decode method_3_code 22 = .ok (.goto 4, 3) := by decide +kernel
theorem d1_25 : decode method_3_code 25 = .ok (.iconst 0, 1) := by decide +kernel
theorem d1_26 : decode method_3_code 26 = .ok (.ireturn, 1) := by decide +kernel
theorem d1_27 : decode method_3_code 27 = .ok (.aload_n 2, 1) := by decide +kernel
theorem d1_28 : decode method_3_code 28 = .ok (.invokevirtual 32, 3) := by decide +kernel
theorem d1_31 : decode method_3_code 31 = .ok (.ifCond .eq 15, 3) := by decide +kernel
theorem d1_34 : decode method_3_code 34 = .ok (.aload_n 2, 1) := by decide +kernel
theorem d1_35 : decode method_3_code 35 = .ok (.invokevirtual 38, 3) := by decide +kernel
theorem d1_38 : decode method_3_code 38 = .ok (.aload_n 1, 1) := by decide +kernel
theorem d1_39 : decode method_3_code 39 = .ok (.if_acmp .ne 7, 3) := by decide +kernel
theorem d1_42 : decode method_3_code 42 = .ok (.iconst 1, 1) := by decide +kernel
theorem d1_43 : decode method_3_code 43 = .ok (.goto 4, 3) := by decide +kernel
theorem d1_46 : decode method_3_code 46 = .ok (.iconst 0, 1) := by decide +kernel
theorem d1_47 : decode method_3_code 47 = .ok (.ireturn, 1) := by decide +kernel

theorem d2_0 : decode method_2_code 0 = .ok (.iload_n 0, 1) := by decide +kernel
theorem d2_1 : decode method_2_code 1 = .ok (.sipush 200, 3) := by decide +kernel
theorem d2_4 : decode method_2_code 4 = .ok (.if_icmp .ge 5, 3) := by decide +kernel
theorem d2_7 : decode method_2_code 7 = .ok (.aconst_null, 1) := by decide +kernel
theorem d2_8 : decode method_2_code 8 = .ok (.areturn, 1) := by decide +kernel
theorem d2_9 : decode method_2_code 9 = .ok (.iload_n 0, 1) := by decide +kernel
theorem d2_10 : decode method_2_code 10 = .ok (.sipush 599, 3) := by decide +kernel
theorem d2_13 : decode method_2_code 13 = .ok (.if_icmp .le 5, 3) := by decide +kernel
theorem d2_16 : decode method_2_code 16 = .ok (.aconst_null, 1) := by decide +kernel
theorem d2_17 : decode method_2_code 17 = .ok (.areturn, 1) := by decide +kernel
theorem d2_18 : decode method_2_code 18 = .ok (.iload_n 0, 1) := by decide +kernel
theorem d2_19 : decode method_2_code 19 = .ok (.sipush 300, 3) := by decide +kernel
theorem d2_22 : decode method_2_code 22 = .ok (.if_icmp .ge 7, 3) := by decide +kernel
theorem d2_25 : decode method_2_code 25 = .ok (.getstatic 7, 3) := by decide +kernel
theorem d2_28 : decode method_2_code 28 = .ok (.areturn, 1) := by decide +kernel
theorem d2_29 : decode method_2_code 29 = .ok (.iload_n 0, 1) := by decide +kernel
theorem d2_30 : decode method_2_code 30 = .ok (.sipush 400, 3) := by decide +kernel
theorem d2_33 : decode method_2_code 33 = .ok (.if_icmp .ge 7, 3) := by decide +kernel
theorem d2_36 : decode method_2_code 36 = .ok (.getstatic 13, 3) := by decide +kernel
theorem d2_39 : decode method_2_code 39 = .ok (.areturn, 1) := by decide +kernel
theorem d2_40 : decode method_2_code 40 = .ok (.iload_n 0, 1) := by decide +kernel
theorem d2_41 : decode method_2_code 41 = .ok (.sipush 500, 3) := by decide +kernel
theorem d2_44 : decode method_2_code 44 = .ok (.if_icmp .ge 7, 3) := by decide +kernel
theorem d2_47 : decode method_2_code 47 = .ok (.getstatic 16, 3) := by decide +kernel
theorem d2_50 : decode method_2_code 50 = .ok (.areturn, 1) := by decide +kernel
theorem d2_51 : decode method_2_code 51 = .ok (.getstatic 19, 3) := by decide +kernel
theorem d2_54 : decode method_2_code 54 = .ok (.areturn, 1) := by decide +kernel

theorem d3_0 : decode prog_16_method_5_code 0 = .ok (.invokestatic 39, 3) := by decide +kernel
theorem d3_3 : decode prog_16_method_5_code 3 = .ok (.astore_n 1, 1) := by decide +kernel
theorem d3_4 : decode prog_16_method_5_code 4 = .ok (.iload_n 0, 1) := by decide +kernel
theorem d3_5 : decode prog_16_method_5_code 5 = .ok (.sipush 200, 3) := by decide +kernel
theorem d3_8 : decode prog_16_method_5_code 8 = .ok (.if_icmp .lt 24, 3) := by decide +kernel
theorem d3_11 : decode prog_16_method_5_code 11 = .ok (.iload_n 0, 1) := by decide +kernel
theorem d3_12 : decode prog_16_method_5_code 12 = .ok (.sipush 599, 3) := by decide +kernel
theorem d3_15 : decode prog_16_method_5_code 15 = .ok (.if_icmp .gt 17, 3) := by decide +kernel
theorem d3_18 : decode prog_16_method_5_code 18 = .ok (.invokestatic 45, 3) := by decide +kernel
theorem d3_21 : decode prog_16_method_5_code 21 = .ok (.iload_n 0, 1) := by decide +kernel
theorem d3_22 : decode prog_16_method_5_code 22 = .ok (.bipush 100, 2) := by decide +kernel
theorem d3_24 : decode prog_16_method_5_code 24 = .ok (.idiv, 1) := by decide +kernel
theorem d3_25 : decode prog_16_method_5_code 25 = .ok (.iconst 2, 1) := by decide +kernel
theorem d3_26 : decode prog_16_method_5_code 26 = .ok (.isub, 1) := by decide +kernel
theorem d3_27 : decode prog_16_method_5_code 27 = .ok (.aaload, 1) := by decide +kernel
theorem d3_28 : decode prog_16_method_5_code 28 = .ok (.invokestatic 49, 3) := by decide +kernel
theorem d3_31 : decode prog_16_method_5_code 31 = .ok (.astore_n 1, 1) := by decide +kernel
theorem d3_32 : decode prog_16_method_5_code 32 = .ok (.aload_n 1, 1) := by decide +kernel
theorem d3_33 : decode prog_16_method_5_code 33 = .ok (.areturn, 1) := by decide +kernel

theorem d4_0 : decode jdk_32_method_1_code 0 = .ok (.getstatic 1, 3) := by decide +kernel
theorem d4_3 : decode jdk_32_method_1_code 3 = .ok (.astore_n 0, 1) := by decide +kernel
theorem d4_4 : decode jdk_32_method_1_code 4 = .ok (.aload_n 0, 1) := by decide +kernel
theorem d4_5 : decode jdk_32_method_1_code 5 = .ok (.areturn, 1) := by decide +kernel

theorem d5_0 : decode jdk_32_method_6_code 0 = .ok (.aload_n 0, 1) := by decide +kernel
theorem d5_1 : decode jdk_32_method_6_code 1 = .ok (.getfield 13, 3) := by decide +kernel
theorem d5_4 : decode jdk_32_method_6_code 4 = .ok (.ifnull 7, 3) := by decide +kernel
theorem d5_7 : decode jdk_32_method_6_code 7 = .ok (.iconst 1, 1) := by decide +kernel
theorem d5_8 : decode jdk_32_method_6_code 8 = .ok (.goto 4, 3) := by decide +kernel
theorem d5_11 : decode jdk_32_method_6_code 11 = .ok (.iconst 0, 1) := by decide +kernel
theorem d5_12 : decode jdk_32_method_6_code 12 = .ok (.ireturn, 1) := by decide +kernel

theorem d6_0 : decode prog_16_method_1_code 0 = .ok (.getstatic 16, 3) := by decide +kernel
theorem d6_3 : decode prog_16_method_1_code 3 = .ok (.invokevirtual 20, 3) := by decide +kernel
theorem d6_6 : decode prog_16_method_1_code 6 = .ok (.checkcast 21, 3) := by decide +kernel
theorem d6_9 : decode prog_16_method_1_code 9 = .ok (.areturn, 1) := by decide +kernel

theorem d7_0 : decode jdk_32_method_3_code 0 = .ok (.new 2, 3) := by decide +kernel
theorem d7_3 : decode jdk_32_method_3_code 3 = .ok (.dup, 1) := by decide +kernel
theorem d7_4 : decode jdk_32_method_3_code 4 = .ok (.aload_n 0, 1) := by decide +kernel
theorem d7_5 : decode jdk_32_method_3_code 5 = .ok (.invokestatic 17, 3) := by decide +kernel
theorem d7_8 : decode jdk_32_method_3_code 8 = .ok (.invokespecial 23, 3) := by decide +kernel
theorem d7_11 : decode jdk_32_method_3_code 11 = .ok (.areturn, 1) := by decide +kernel

theorem d8_0 : decode jdk_31_method_10_code 0 = .ok (.aload_n 0, 1) := by decide +kernel
theorem d8_1 : decode jdk_31_method_10_code 1 = .ok (.ifnonnull 11, 3) := by decide +kernel
theorem d8_4 : decode jdk_31_method_10_code 4 = .ok (.new 84, 3) := by decide +kernel
theorem d8_7 : decode jdk_31_method_10_code 7 = .ok (.dup, 1) := by decide +kernel
theorem d8_8 : decode jdk_31_method_10_code 8 = .ok (.invokespecial 86, 3) := by decide +kernel
theorem d8_11 : decode jdk_31_method_10_code 11 = .ok (.athrow, 1) := by decide +kernel
theorem d8_12 : decode jdk_31_method_10_code 12 = .ok (.aload_n 0, 1) := by decide +kernel
theorem d8_13 : decode jdk_31_method_10_code 13 = .ok (.areturn, 1) := by decide +kernel

theorem d9_0 : decode jdk_32_method_2_code 0 = .ok (.aload_n 0, 1) := by decide +kernel
theorem d9_1 : decode jdk_32_method_2_code 1 = .ok (.invokespecial 7, 3) := by decide +kernel
theorem d9_4 : decode jdk_32_method_2_code 4 = .ok (.aload_n 0, 1) := by decide +kernel
theorem d9_5 : decode jdk_32_method_2_code 5 = .ok (.aload_n 1, 1) := by decide +kernel
theorem d9_6 : decode jdk_32_method_2_code 6 = .ok (.putfield 13, 3) := by decide +kernel
theorem d9_9 : decode jdk_32_method_2_code 9 = .ok (.return_, 1) := by decide +kernel

theorem d11_0 : decode jdk_32_method_5_code 0 = .ok (.aload_n 0, 1) := by decide +kernel
theorem d11_1 : decode jdk_32_method_5_code 1 = .ok (.getfield 13, 3) := by decide +kernel
theorem d11_4 : decode jdk_32_method_5_code 4 = .ok (.ifnonnull 13, 3) := by decide +kernel
theorem d11_7 : decode jdk_32_method_5_code 7 = .ok (.new 26, 3) := by decide +kernel
theorem d11_10 : decode jdk_32_method_5_code 10 = .ok (.dup, 1) := by decide +kernel
theorem d11_11 : decode jdk_32_method_5_code 11 = .ok (.ldc 28, 2) := by decide +kernel
theorem d11_13 : decode jdk_32_method_5_code 13 = .ok (.invokespecial 30, 3) := by decide +kernel
theorem d11_16 : decode jdk_32_method_5_code 16 = .ok (.athrow, 1) := by decide +kernel
theorem d11_17 : decode jdk_32_method_5_code 17 = .ok (.aload_n 0, 1) := by decide +kernel
theorem d11_18 : decode jdk_32_method_5_code 18 = .ok (.getfield 13, 3) := by decide +kernel
theorem d11_21 : decode jdk_32_method_5_code 21 = .ok (.areturn, 1) := by decide +kernel

theorem pn_0 : plainName "com/example/corridor_hub/corridorhub/session/AnswerClassOfPinLaw" = true := by first | (simp [plainName, overriddenIn]; done) | decide +kernel

theorem pn_1 : plainName "com/example/corridor_hub/corridorhub/session/AnswerClassOfPinLaw" = true := by first | (simp [plainName, overriddenIn]; done) | decide +kernel

theorem pn_2 : plainName "com/example/corridor_hub/corridorhub/session/AnswerClassOfPinLaw" = true := by first | (simp [plainName, overriddenIn]; done) | decide +kernel

theorem pn_3 : plainName "com/example/corridor_hub/corridorhub/session/Counts$AnswerClass" = true := by first | (simp [plainName, overriddenIn]; done) | decide +kernel

theorem pn_4 : plainName "java/util/Optional" = true := by first | (simp [plainName, overriddenIn]; done) | decide +kernel

theorem pn_5 : plainName "java/util/Optional" = true := by first | (simp [plainName, overriddenIn]; done) | decide +kernel

theorem pn_6 : plainName "com/example/corridor_hub/corridorhub/session/Counts$AnswerClass" = true := by first | (simp [plainName, overriddenIn]; done) | decide +kernel

theorem pn_7 : plainName "java/util/Optional" = true := by first | (simp [plainName, overriddenIn]; done) | decide +kernel

theorem pn_8 : plainName "java/util/Objects" = true := by first | (simp [plainName, overriddenIn]; done) | decide +kernel

theorem pn_9 : plainName "java/util/Optional" = true := by first | (simp [plainName, overriddenIn]; done) | decide +kernel

theorem pn_11 : plainName "java/util/Optional" = true := by first | (simp [plainName, overriddenIn]; done) | decide +kernel

def own_val (a0 a1 a2 a3 : Addr) (s : Int32) : Value := if s < 200 then .null else if 599 < s then .null else if s < 300 then .ref a0 else if s < 400 then .ref a1 else if s < 500 then .ref a2 else .ref a3
theorem own_ref (a0 a1 a2 a3 : Addr) (s : Int32) : (own_val a0 a1 a2 a3 s).isRef = true := by unfold own_val; (repeat' split) <;> rfl
theorem own_null {a0 a1 a2 a3 : Addr} {s : Int32} (h : s < 200 ∨ 599 < s) : own_val a0 a1 a2 a3 s = .null := by
  unfold own_val; split
  · rfl
  · rename_i q; rw [if_pos (h.resolve_left q)]
theorem own_idx (a0 a1 a2 a3 : Addr) {s : Int32} (h1 : ¬ s < 200) (h2 : ¬ 599 < s) : ∃ i b, ((s / (100 : Int32)) - (2 : Int32)).toNatClampNeg = i ∧ ¬ ((s / (100 : Int32)) - (2 : Int32)) < 0 ∧ ([.ref a0, .ref a1, .ref a2, .ref a3] : List Value)[i]? = some (.ref b) ∧ own_val a0 a1 a2 a3 s = .ref b := by
  have e1 : 200 ≤ s.toInt := by rw [Int32.lt_iff_toInt_lt] at h1; exact Int.not_lt.mp h1
  have e2 : s.toInt ≤ 599 := by rw [Int32.lt_iff_toInt_lt] at h2; exact Int.not_lt.mp h2
  have d1 := (c_idiv s 100 100 (by decide) (by decide)).1 (by omega)
  have d2 := c_isub (s / 100) 2
  have d3 : (2 : Int32).toInt = 2 := by decide
  have r := rng32 (s / 100 - 2)
  have d4 : (s / 100 - 2).toInt = s.toInt / 100 - 2 := by omega
  have d5 : (s / 100 - 2).toNatClampNeg = (s.toInt / 100 - 2).toNat := by rw [Int32.toNatClampNeg, d4]
  have d6 : ¬ (s / 100 - 2) < 0 := by rw [Int32.lt_iff_toInt_lt, d4]; show ¬ _ < (0 : Int); omega
  have c3 : (300 : Int32).toInt = 300 := by decide
  have c4 : (400 : Int32).toInt = 400 := by decide
  have c5 : (500 : Int32).toInt = 500 := by decide
  unfold own_val
  rw [if_neg h1, if_neg h2, d5]
  by_cases g3 : s.toInt < 300
  · exact ⟨0, a0, by omega, d6, rfl, by rw [if_pos (by rw [Int32.lt_iff_toInt_lt]; omega)]⟩
  · rw [if_neg (by rw [Int32.lt_iff_toInt_lt]; omega)]
    by_cases g4 : s.toInt < 400
    · exact ⟨1, a1, by omega, d6, rfl, by rw [if_pos (by rw [Int32.lt_iff_toInt_lt]; omega)]⟩
    · rw [if_neg (by rw [Int32.lt_iff_toInt_lt]; omega)]
      by_cases g5 : s.toInt < 500
      · exact ⟨2, a2, by omega, d6, rfl, by rw [if_pos (by rw [Int32.lt_iff_toInt_lt]; omega)]⟩
      · rw [if_neg (by rw [Int32.lt_iff_toInt_lt]; omega)]
        exact ⟨3, a3, by omega, d6, rfl, rfl⟩

theorem pd_2 : parseMethodDescriptor "(I)Lcom/example/corridor_hub/corridorhub/session/Counts$AnswerClass;" = some ⟨[.int], (some (.object "com/example/corridor_hub/corridorhub/session/Counts$AnswerClass"))⟩ := by decide +kernel
set_option maxRecDepth 65536 in
set_option maxHeartbeats 40000000 in
theorem rm2 (l : Launch) (Z : State) (ag : Array Value) (hw : ∀ d ∈ tables_1, d.before ag Z = true) (a0 a1 a2 a3 : Addr) (s0 : Int32) (h0 : Heap) (n0 : Nat) (S0 : Sta Z h0 "com/example/corridor_hub/corridorhub/session/Counts$AnswerClass" "SUCCESSFUL" "Lcom/example/corridor_hub/corridorhub/session/Counts$AnswerClass;" (.ref a0)) (S1 : Sta Z h0 "com/example/corridor_hub/corridorhub/session/Counts$AnswerClass" "REDIRECTED" "Lcom/example/corridor_hub/corridorhub/session/Counts$AnswerClass;" (.ref a1)) (S2 : Sta Z h0 "com/example/corridor_hub/corridorhub/session/Counts$AnswerClass" "REFUSED" "Lcom/example/corridor_hub/corridorhub/session/Counts$AnswerClass;" (.ref a2)) (S3 : Sta Z h0 "com/example/corridor_hub/corridorhub/session/Counts$AnswerClass" "FAILED" "Lcom/example/corridor_hub/corridorhub/session/Counts$AnswerClass;" (.ref a3)) :
    Ctr l Z (⟨"com/example/corridor_hub/corridorhub/session/AnswerClassOfPinLaw", "expected", "(I)Lcom/example/corridor_hub/corridorhub/session/Counts$AnswerClass;"⟩ : MethodName) method_2_code 1 (some (.object "com/example/corridor_hub/corridorhub/session/Counts$AnswerClass")) ({ frames := 0, cells := 0, slots := 0, locals := 0 } : Room) #[.int s0] h0 (fun v h L => v = some (own_val a0 a1 a2 a3 s0) ∧ Fr n0 L ∧ h0 = h) := by
  refine Ctr.of pn_2 ?_
  intro p e s m below meth c T0 X0 B e0
  refine Go.cast (f' := mkF m 0 #[.val (.int s0)] []) (by first | rfl | (simp [entryFrame, mkF, argsToLocals, Value.category, maxLocals]; done)) ?_

  refine g_iloadN X0 B d2_0 1 rfl rfl ?_
  refine g_sipush X0 B (200) d2_1 4 rfl rfl ?_
  refine g_icmp_ge X0 B d2_4 9 7 rfl (by decide) rfl (fun c1 => ?_) (fun c1 => ?_)
  · skip
    refine g_iloadN X0 B d2_9 10 rfl rfl ?_
    refine g_sipush X0 B (599) d2_10 13 rfl rfl ?_
    refine g_icmp_le X0 B d2_13 18 16 rfl (by decide) rfl (fun c2 => ?_) (fun c2 => ?_)
    · skip
      refine g_iloadN X0 B d2_18 19 rfl rfl ?_
      refine g_sipush X0 B (300) d2_19 22 rfl rfl ?_
      refine g_icmp_ge X0 B d2_22 29 25 rfl (by decide) rfl (fun c3 => ?_) (fun c3 => ?_)
      · skip
        refine g_iloadN X0 B d2_29 30 rfl rfl ?_
        refine g_sipush X0 B (400) d2_30 33 rfl rfl ?_
        refine g_icmp_ge X0 B d2_33 40 36 rfl (by decide) rfl (fun c4 => ?_) (fun c4 => ?_)
        · skip
          refine g_iloadN X0 B d2_40 41 rfl rfl ?_
          refine g_sipush X0 B (500) d2_41 44 rfl rfl ?_
          refine g_icmp_ge X0 B d2_44 51 47 rfl (by decide) rfl (fun c5 => ?_) (fun c5 => ?_)
          · skip
            refine g_getS X0 B d2_51 54 rfl (hw _ (List.mem_of_getElem? (i := 67) rfl)) Via.refl e0 S3 (fun T6 X6 e6 => ?_)
            exact g_retA X6 B d2_54 rfl rfl rfl (by decide) (by decide) e6 ⟨by simp [own_val, c1, c2, c3, c4, c5], (Fr.nil n0), rfl⟩
          · skip
            refine g_getS X0 B d2_47 50 rfl (hw _ (List.mem_of_getElem? (i := 66) rfl)) Via.refl e0 S2 (fun T7 X7 e7 => ?_)
            exact g_retA X7 B d2_50 rfl rfl rfl (by decide) (by decide) e7 ⟨by simp [own_val, c1, c2, c3, c4, c5], (Fr.nil n0), rfl⟩
        · skip
          refine g_getS X0 B d2_36 39 rfl (hw _ (List.mem_of_getElem? (i := 65) rfl)) Via.refl e0 S1 (fun T8 X8 e8 => ?_)
          exact g_retA X8 B d2_39 rfl rfl rfl (by decide) (by decide) e8 ⟨by simp [own_val, c1, c2, c3, c4], (Fr.nil n0), rfl⟩
      · skip
        refine g_getS X0 B d2_25 28 rfl (hw _ (List.mem_of_getElem? (i := 24) rfl)) Via.refl e0 S0 (fun T9 X9 e9 => ?_)
        exact g_retA X9 B d2_28 rfl rfl rfl (by decide) (by decide) e9 ⟨by simp [own_val, c1, c2, c3], (Fr.nil n0), rfl⟩
    · skip
      refine g_aconstNull X0 B d2_16 17 rfl ?_
      exact g_retA X0 B d2_17 rfl rfl rfl (by decide) (by decide) e0 ⟨by simp [own_val, c1, c2], (Fr.nil n0), rfl⟩
  · skip
    refine g_aconstNull X0 B d2_7 8 rfl ?_
    exact g_retA X0 B d2_8 rfl rfl rfl (by decide) (by decide) e0 ⟨by simp [own_val, c1], (Fr.nil n0), rfl⟩
theorem pd_4 : parseMethodDescriptor "()Ljava/util/Optional;" = some ⟨[], (some (.object "java/util/Optional"))⟩ := by decide +kernel
set_option maxRecDepth 65536 in
set_option maxHeartbeats 40000000 in
theorem rm4 (l : Launch) (Z : State) (ag : Array Value) (hw : ∀ d ∈ tables_1, d.before ag Z = true) (aE : Addr) (h0 : Heap) (n0 : Nat) (SE : Sta Z h0 "java/util/Optional" "EMPTY" "Ljava/util/Optional;" (.ref aE)) :
    Ctr l Z (⟨"java/util/Optional", "empty", "()Ljava/util/Optional;"⟩ : MethodName) jdk_32_method_1_code 1 (some (.object "java/util/Optional")) ({ frames := 0, cells := 0, slots := 0, locals := 0 } : Room) #[] h0 (fun v h L => v = some (.ref aE) ∧ Fr n0 L ∧ h0 = h) := by
  refine Ctr.of pn_4 ?_
  intro p e s m below meth c T0 X0 B e0
  refine Go.cast (f' := mkF m 0 #[.unset] []) (by first | rfl | (simp [entryFrame, mkF, argsToLocals, Value.category, maxLocals]; done)) ?_

  refine g_getS X0 B d4_0 3 rfl (hw _ (List.mem_of_getElem? (i := 16) rfl)) Via.refl e0 SE (fun T1 X1 e1 => ?_)
  refine g_astoreN X1 B #[.val (.ref aE)] d4_3 4 rfl rfl rfl ?_
  refine g_aloadN X1 B d4_4 5 rfl rfl rfl ?_
  exact g_retA X1 B d4_5 rfl rfl rfl (by decide) (by decide) e1 ⟨rfl, (Fr.nil n0), rfl⟩
theorem pd_5 : parseMethodDescriptor "()Z" = some ⟨[], (some .boolean)⟩ := by decide +kernel
set_option maxRecDepth 65536 in
set_option maxHeartbeats 40000000 in
theorem rm5 (l : Launch) (Z : State) (ag : Array Value) (hw : ∀ d ∈ tables_1, d.before ag Z = true) (a : Addr) (x : Value) (rx : x.isRef = true) (h0 : Heap) (n0 : Nat) (F : Fld Z h0 a "java/util/Optional" "value" "Ljava/lang/Object;" x) :
    Ctr l Z (⟨"java/util/Optional", "isPresent", "()Z"⟩ : MethodName) jdk_32_method_6_code 1 (some .boolean) ({ frames := 0, cells := 0, slots := 0, locals := 0 } : Room) #[.ref a] h0 (fun v h L => v = some (.int (if x = .null then 0 else 1)) ∧ Fr n0 L ∧ h0 = h) := by
  refine Ctr.of pn_5 ?_
  intro p e s m below meth c T0 X0 B e0
  refine Go.cast (f' := mkF m 0 #[.val (.ref a)] []) (by first | rfl | (simp [entryFrame, mkF, argsToLocals, Value.category, maxLocals]; done)) ?_

  refine g_aloadN X0 B d5_0 1 rfl rfl rfl ?_
  refine g_getF X0 B d5_1 4 rfl (hw _ (List.mem_of_getElem? (i := 22) rfl)) Via.refl e0 F (fun T1 X1 e1 => ?_)
  refine g_ifnull X1 B d5_4 11 7 rfl (by decide) rfl rx (fun c2 => ?_) (fun c2 => ?_)
  · skip
    refine g_iconst X1 B (0) d5_11 12 rfl rfl ?_
    exact g_retN X1 B d5_12 rfl rfl (by decide) (by decide) (by decide) e1 ⟨by simp [c2], (Fr.nil n0), rfl⟩
  · skip
    refine g_iconst X1 B (1) d5_7 8 rfl rfl ?_
    refine g_goto X1 B d5_8 12 rfl (by decide) ?_
    exact g_retN X1 B d5_12 rfl rfl (by decide) (by decide) (by decide) e1 ⟨by simp [c2], (Fr.nil n0), rfl⟩
theorem pd_11 : parseMethodDescriptor "()Ljava/lang/Object;" = some ⟨[], (some (.object "java/lang/Object"))⟩ := by decide +kernel
set_option maxRecDepth 65536 in
set_option maxHeartbeats 40000000 in
theorem rm11 (l : Launch) (Z : State) (ag : Array Value) (hw : ∀ d ∈ tables_1, d.before ag Z = true) (a : Addr) (b : Addr) (h0 : Heap) (n0 : Nat) (F : Fld Z h0 a "java/util/Optional" "value" "Ljava/lang/Object;" (.ref b)) :
    Ctr l Z (⟨"java/util/Optional", "get", "()Ljava/lang/Object;"⟩ : MethodName) jdk_32_method_5_code 1 (some (.object "java/lang/Object")) ({ frames := 0, cells := 0, slots := 0, locals := 0 } : Room) #[.ref a] h0 (fun v h L => v = some (.ref b) ∧ Fr n0 L ∧ h0 = h) := by
  refine Ctr.of pn_11 ?_
  intro p e s m below meth c T0 X0 B e0
  refine Go.cast (f' := mkF m 0 #[.val (.ref a)] []) (by first | rfl | (simp [entryFrame, mkF, argsToLocals, Value.category, maxLocals]; done)) ?_

  refine g_aloadN X0 B d11_0 1 rfl rfl rfl ?_
  refine g_getF X0 B d11_1 4 rfl (hw _ (List.mem_of_getElem? (i := 22) rfl)) Via.refl e0 F (fun T1 X1 e1 => ?_)
  refine g_ifnonnull X1 B d11_4 17 7 rfl (by decide) rfl rfl (fun _ => ?_) (fun z => own_abs' (by simp) z)
  refine g_aloadN X1 B d11_17 18 rfl rfl rfl ?_
  refine g_getF X1 B d11_18 21 rfl (hw _ (List.mem_of_getElem? (i := 22) rfl)) Via.refl e1 F (fun T2 X2 e2 => ?_)
  exact g_retA X2 B d11_21 rfl rfl rfl (by decide) (by decide) e2 ⟨rfl, (Fr.nil n0), rfl⟩
theorem pd_8 : parseMethodDescriptor "(Ljava/lang/Object;)Ljava/lang/Object;" = some ⟨[(.object "java/lang/Object")], (some (.object "java/lang/Object"))⟩ := by decide +kernel
set_option maxRecDepth 65536 in
set_option maxHeartbeats 40000000 in
theorem rm8 (l : Launch) (Z : State) (ag : Array Value) (hw : ∀ d ∈ tables_1, d.before ag Z = true) (b : Addr) (h0 : Heap) (n0 : Nat)  :
    Ctr l Z (⟨"java/util/Objects", "requireNonNull", "(Ljava/lang/Object;)Ljava/lang/Object;"⟩ : MethodName) jdk_31_method_10_code 1 (some (.object "java/lang/Object")) ({ frames := 0, cells := 0, slots := 0, locals := 0 } : Room) #[.ref b] h0 (fun v h L => v = some (.ref b) ∧ Fr n0 L ∧ h0 = h) := by
  refine Ctr.of pn_8 ?_
  intro p e s m below meth c T0 X0 B e0
  refine Go.cast (f' := mkF m 0 #[.val (.ref b)] []) (by first | rfl | (simp [entryFrame, mkF, argsToLocals, Value.category, maxLocals]; done)) ?_

  refine g_aloadN X0 B d8_0 1 rfl rfl rfl ?_
  refine g_ifnonnull X0 B d8_1 12 4 rfl (by decide) rfl rfl (fun _ => ?_) (fun z => own_abs' (by simp) z)
  refine g_aloadN X0 B d8_12 13 rfl rfl rfl ?_
  exact g_retA X0 B d8_13 rfl rfl rfl (by decide) (by decide) e0 ⟨rfl, (Fr.nil n0), rfl⟩
theorem pd_9 : parseMethodDescriptor "(Ljava/lang/Object;)V" = some ⟨[(.object "java/lang/Object")], none⟩ := by decide +kernel
set_option maxRecDepth 65536 in
set_option maxHeartbeats 40000000 in
theorem rm9 (l : Launch) (Z : State) (ag : Array Value) (hw : ∀ d ∈ tables_1, d.before ag Z = true) (a b : Addr) (h0 : Heap) (n0 : Nat) (ga : n0 ≤ a) (E : Exa Z h0 a "java/util/Optional") (F : Fld Z h0 a "java/util/Optional" "value" "Ljava/lang/Object;" .null) :
    Ctr l Z (⟨"java/util/Optional", "<init>", "(Ljava/lang/Object;)V"⟩ : MethodName) jdk_32_method_2_code 2 none ({ frames := 1, cells := 0, slots := 0, locals := 12 } : Room) #[.ref a, .ref b] h0 (fun v h L => v = none ∧ Fr n0 L ∧ Keep h0 h [a] ∧ Exa Z h a "java/util/Optional" ∧ Fld Z h a "java/util/Optional" "value" "Ljava/lang/Object;" (.ref b)) := by
  refine Ctr.of pn_9 ?_
  intro p e s m below meth c T0 X0 B e0
  refine Go.cast (f' := mkF m 0 #[.val (.ref a), .val (.ref b)] []) (by first | rfl | (simp [entryFrame, mkF, argsToLocals, Value.category, maxLocals]; done)) ?_

  refine g_aloadN X0 B d9_0 1 rfl rfl rfl ?_
  obtain ⟨T1, X1, e1, st1⟩ := initO X0 B.x B.z B.o (hw _ (List.mem_of_getElem? (i := 57) rfl)) (hw _ (List.mem_of_getElem? (i := 58) rfl)) (hw _ (List.mem_of_getElem? (i := 59) rfl)) e0 (g := mkF m 1 #[.val (.ref a), .val (.ref b)] [.ref a]) rfl (B.mx rfl) rfl (B.d d9_1) (by decide) (W := 0) (by show 2 * 0 + _ ≤ _; exact Nat.le_of_eq rfl) (by decide)
  refine Go.via st1 ?_
  show Go p e below _ (T1.setTop (mkF m 4 #[.val (.ref a), .val (.ref b)] []))
  refine g_aloadN X1 B d9_4 5 rfl rfl rfl ?_
  refine g_aloadN X1 B d9_5 6 rfl rfl rfl ?_
  refine g_putF X1 B d9_6 9 rfl (hw _ (List.mem_of_getElem? (i := 22) rfl)) Via.refl e1 F E (Or.inr ⟨(hw _ (List.mem_of_getElem? (i := 23) rfl)), rfl, rfl⟩) (hw _ (List.mem_of_getElem? (i := 48) rfl)) (ty := .object "java/lang/Object") (by decide) rfl rfl (fun T2 h2 X2 e2 W2 => ?_)
  exact g_retV X2 B d9_9 rfl (by decide) (by decide) e2 ⟨rfl, (Fr.snoc X2 (Fr.nil n0) ga), (Keep.refl _ _).wr W2 (Or.inl (List.mem_singleton.mpr rfl)), E.wr W2, F.same W2⟩
theorem pd_7 : parseMethodDescriptor "(Ljava/lang/Object;)Ljava/util/Optional;" = some ⟨[(.object "java/lang/Object")], (some (.object "java/util/Optional"))⟩ := by decide +kernel
set_option maxRecDepth 65536 in
set_option maxHeartbeats 40000000 in
theorem rm7 (l : Launch) (Z : State) (ag : Array Value) (hw : ∀ d ∈ tables_1, d.before ag Z = true) (b : Addr) (h0 : Heap) (n0 : Nat) (Z0 : n0 ≤ h0.size) :
    Ctr l Z (⟨"java/util/Optional", "of", "(Ljava/lang/Object;)Ljava/util/Optional;"⟩ : MethodName) jdk_32_method_3_code 1 (some (.object "java/util/Optional")) ({ frames := 2, cells := 1, slots := 1, locals := 26 } : Room) #[.ref b] h0 (fun v h L => ∃ a, v = some (.ref a) ∧ Exa Z h a "java/util/Optional" ∧ Fld Z h a "java/util/Optional" "value" "Ljava/lang/Object;" (.ref b) ∧ Fr n0 L ∧ Keep h0 h []) := by
  refine Ctr.of pn_7 ?_
  intro p e s m below meth c T0 X0 B e0
  refine Go.cast (f' := mkF m 0 #[.val (.ref b)] []) (by first | rfl | (simp [entryFrame, mkF, argsToLocals, Value.category, maxLocals]; done)) ?_

  refine g_new X0 B d7_0 3 rfl (hw _ (List.mem_of_getElem? (i := 47) rfl)) (hw _ (List.mem_of_getElem? (i := 48) rfl)) (hw _ (List.mem_of_getElem? (i := 14) rfl)) e0 (by decide) (by decide) (fun T1 h1 a X1 e1 ea E1 A1 D1 => ?_)
  have F1 : Fld Z h1 a "java/util/Optional" "value" "Ljava/lang/Object;" .null := D1 (Or.inr (hw _ (List.mem_of_getElem? (i := 23) rfl))) (ty := .object "java/lang/Object") (by decide)
  have ga : n0 ≤ a := ea ▸ Z0
  refine g_dup X1 B d7_3 4 rfl rfl ?_
  refine g_aloadN X1 B d7_4 5 rfl rfl rfl ?_
  refine g_callS X1 B [.ref b] [.ref a, .ref a] d7_5 8 rfl rfl (hw _ (List.mem_of_getElem? (i := 49) rfl)) (hw _ (List.mem_of_getElem? (i := 50) rfl)) (hw _ (List.mem_of_getElem? (i := 51) rfl)) (hw _ (List.mem_of_getElem? (i := 52) rfl)) (by decide) (lenOf pd_8 rfl) (rm8 l Z ag hw b h1 n0) e1 rfl 2 (Nat.le_of_eq rfl) (by decide) (by decide) (by decide) (by decide) (fun v2 T2 h2 L2 X2 e2 q2 => ?_)
  obtain ⟨rfl, N2, rfl⟩ := q2
  show Go p e below _ (T2.setTop (mkF m 8 #[.val (.ref b)] [.ref b, .ref a, .ref a]))
  refine g_callN X2 B [.ref b] [.ref a] d7_8 11 rfl rfl rfl (hw _ (List.mem_of_getElem? (i := 53) rfl)) (hw _ (List.mem_of_getElem? (i := 54) rfl)) (hw _ (List.mem_of_getElem? (i := 56) rfl)) (hw _ (List.mem_of_getElem? (i := 14) rfl)) (by decide) (lenOf pd_9 rfl) (rm9 l Z ag hw a b h1 n0 ga A1 F1) e2 rfl 1 (Nat.le_of_eq rfl) (by decide) (by decide) (by decide) (by decide) (fun v3 T3 h3 L3 X3 e3 q3 => ?_)
  obtain ⟨rfl, N3, K3, Eo, Fo⟩ := q3
  show Go p e below _ (T3.setTop (mkF m 11 #[.val (.ref b)] [.ref a]))
  exact g_retA X3 B d7_11 rfl rfl rfl (by decide) (by decide) e3 ⟨_, rfl, Eo, Fo, (((Fr.nil n0).app N2).app N3), ((Keep.refl h0 []).ext E1).trans K3 (fun x hx => Or.inr (by cases List.mem_singleton.mp hx; exact Nat.le_of_eq ea.symm))⟩
theorem pd_6 : parseMethodDescriptor "()[Lcom/example/corridor_hub/corridorhub/session/Counts$AnswerClass;" = some ⟨[], (some (.array (.object "com/example/corridor_hub/corridorhub/session/Counts$AnswerClass")))⟩ := by decide +kernel
set_option maxRecDepth 65536 in
set_option maxHeartbeats 40000000 in
theorem rm6 (l : Launch) (Z : State) (ag : Array Value) (hw : ∀ d ∈ tables_1, d.before ag Z = true) (aV : Addr) (vs : List Value) (cl : Cell) (h0 : Heap) (n0 : Nat) (SV : Sta Z h0 "com/example/corridor_hub/corridorhub/session/Counts$AnswerClass" "$VALUES" "[Lcom/example/corridor_hub/corridorhub/session/Counts$AnswerClass;" (.ref aV)) (A : Arr Z h0 aV cl (.object "com/example/corridor_hub/corridorhub/session/Counts$AnswerClass")) (hv : cl.slots.toList = vs) (E : Exa Z h0 aV "[Lcom/example/corridor_hub/corridorhub/session/Counts$AnswerClass;") (F : FitC Z cl) (hl : cl.slots.size ≤ 4) :
    Ctr l Z (⟨"com/example/corridor_hub/corridorhub/session/Counts$AnswerClass", "values", "()[Lcom/example/corridor_hub/corridorhub/session/Counts$AnswerClass;"⟩ : MethodName) prog_16_method_1_code 0 (some (.array (.object "com/example/corridor_hub/corridorhub/session/Counts$AnswerClass"))) ({ frames := 1, cells := 1, slots := 4, locals := 14 } : Room) #[] h0 (fun v h L => ∃ a, v = some (.ref a) ∧ Av Z h a (.object "com/example/corridor_hub/corridorhub/session/Counts$AnswerClass") vs ∧ Fr n0 L ∧ Keep h0 h []) := by
  refine Ctr.of pn_6 ?_
  intro p e s m below meth c T0 X0 B e0
  refine Go.cast (f' := mkF m 0 #[] []) (by first | rfl | (simp [entryFrame, mkF, argsToLocals, Value.category, maxLocals]; done)) ?_

  refine g_getS X0 B d6_0 3 rfl (hw _ (List.mem_of_getElem? (i := 29) rfl)) Via.refl e0 SV (fun T1 X1 e1 => ?_)
  obtain ⟨T2, h2, X2, e2, E2, A2, Ex2, st2⟩ := cloneA X1 B.x B.z B.o (hw _ (List.mem_of_getElem? (i := 31) rfl)) (hw _ (List.mem_of_getElem? (i := 32) rfl)) (hw _ (List.mem_of_getElem? (i := 36) rfl)) (hw _ (List.mem_of_getElem? (i := 34) rfl)) (hw _ (List.mem_of_getElem? (i := 35) rfl)) (hw _ (List.mem_of_getElem? (i := 37) rfl)) e1 A E F (g := mkF m 3 #[] [.ref aV]) rfl (B.mx rfl) rfl (B.d d6_3) (by decide) (W := 0) (cap := 4) (by show 2 * 0 + _ ≤ _; exact Nat.le_of_eq rfl) (by decide) hl (by decide) (by decide)
  refine Go.via st2 ?_
  show Go p e below _ (T2.setTop (mkF m 6 #[] [.ref h0.size]))
  refine g_cast X2 B d6_6 9 rfl (hw _ (List.mem_of_getElem? (i := 42) rfl)) e2 (Ins.self Ex2) (fun T3 X3 e3 => ?_)
  exact g_retA X3 B d6_9 rfl rfl rfl (by decide) (by decide) e3 ⟨_, rfl, ⟨_, A2, hv⟩, (Fr.nil n0), (Keep.refl _ _).ext E2⟩
theorem pd_3 : parseMethodDescriptor "(I)Ljava/util/Optional;" = some ⟨[.int], (some (.object "java/util/Optional"))⟩ := by decide +kernel
set_option maxRecDepth 65536 in
set_option maxHeartbeats 40000000 in
theorem rm3 (l : Launch) (Z : State) (ag : Array Value) (hw : ∀ d ∈ tables_1, d.before ag Z = true) (a0 a1 a2 a3 : Addr) (aE aV : Addr) (cl : Cell) (s0 : Int32) (h0 : Heap) (n0 : Nat) (Z0 : n0 ≤ h0.size) (SE : Sta Z h0 "java/util/Optional" "EMPTY" "Ljava/util/Optional;" (.ref aE)) (EE : Exa Z h0 aE "java/util/Optional") (FE : Fld Z h0 aE "java/util/Optional" "value" "Ljava/lang/Object;" .null) (SV : Sta Z h0 "com/example/corridor_hub/corridorhub/session/Counts$AnswerClass" "$VALUES" "[Lcom/example/corridor_hub/corridorhub/session/Counts$AnswerClass;" (.ref aV)) (A : Arr Z h0 aV cl (.object "com/example/corridor_hub/corridorhub/session/Counts$AnswerClass")) (hv : cl.slots.toList = [.ref a0, .ref a1, .ref a2, .ref a3]) (E : Exa Z h0 aV "[Lcom/example/corridor_hub/corridorhub/session/Counts$AnswerClass;") (F : FitC Z cl) :
    Ctr l Z (⟨"com/example/corridor_hub/corridorhub/session/Counts$AnswerClass", "of", "(I)Ljava/util/Optional;"⟩ : MethodName) prog_16_method_5_code 2 (some (.object "java/util/Optional")) ({ frames := 3, cells := 2, slots := 5, locals := 38 } : Room) #[.int s0] h0 (fun v h L => ∃ a, v = some (.ref a) ∧ Exa Z h a "java/util/Optional" ∧ Fld Z h a "java/util/Optional" "value" "Ljava/lang/Object;" (own_val a0 a1 a2 a3 s0) ∧ Fr n0 L ∧ Keep h0 h []) := by
  refine Ctr.of pn_3 ?_
  intro p e s m below meth c T0 X0 B e0
  refine Go.cast (f' := mkF m 0 #[.val (.int s0), .unset] []) (by first | rfl | (simp [entryFrame, mkF, argsToLocals, Value.category, maxLocals]; done)) ?_

  refine g_callS X0 B [] [] d3_0 3 rfl rfl (hw _ (List.mem_of_getElem? (i := 12) rfl)) (hw _ (List.mem_of_getElem? (i := 13) rfl)) (hw _ (List.mem_of_getElem? (i := 14) rfl)) (hw _ (List.mem_of_getElem? (i := 15) rfl)) (by decide) (lenOf pd_4 rfl) (rm4 l Z ag hw aE h0 n0 SE) e0 rfl 0 (Nat.le_of_eq rfl) (by decide) (by decide) (by decide) (by decide) (fun v1 T1 h1 L1 X1 e1 q1 => ?_)
  obtain ⟨rfl, N1, rfl⟩ := q1
  show Go p e below _ (T1.setTop (mkF m 3 #[.val (.int s0), .unset] [.ref aE]))
  refine g_astoreN X1 B #[.val (.int s0), .val (.ref aE)] d3_3 4 rfl rfl rfl ?_
  refine g_iloadN X1 B d3_4 5 rfl rfl ?_
  refine g_sipush X1 B (200) d3_5 8 rfl rfl ?_
  refine g_icmp_lt X1 B d3_8 32 11 rfl (by decide) rfl (fun c2 => ?_) (fun c2 => ?_)
  · skip
    refine g_aloadN X1 B d3_32 33 rfl rfl rfl ?_
    exact g_retA X1 B d3_33 rfl rfl rfl (by decide) (by decide) e1 ⟨_, rfl, EE, (by rw [own_null (Or.inl c2)]; exact FE), ((Fr.nil n0).app N1), Keep.refl _ _⟩
  · skip
    refine g_iloadN X1 B d3_11 12 rfl rfl ?_
    refine g_sipush X1 B (599) d3_12 15 rfl rfl ?_
    refine g_icmp_gt X1 B d3_15 32 18 rfl (by decide) rfl (fun c3 => ?_) (fun c3 => ?_)
    · skip
      refine g_aloadN X1 B d3_32 33 rfl rfl rfl ?_
      exact g_retA X1 B d3_33 rfl rfl rfl (by decide) (by decide) e1 ⟨_, rfl, EE, (by rw [own_null (Or.inr c3)]; exact FE), ((Fr.nil n0).app N1), Keep.refl _ _⟩
    · skip
      obtain ⟨ix, bx, i1, i2, i3, i4⟩ := own_idx a0 a1 a2 a3 c2 c3
      refine g_callS X1 B [] [] d3_18 21 rfl rfl (hw _ (List.mem_of_getElem? (i := 26) rfl)) (hw _ (List.mem_of_getElem? (i := 27) rfl)) (hw _ (List.mem_of_getElem? (i := 10) rfl)) (hw _ (List.mem_of_getElem? (i := 28) rfl)) (by decide) (lenOf pd_6 rfl) (rm6 l Z ag hw aV [.ref a0, .ref a1, .ref a2, .ref a3] cl h0 n0 SV A hv E F (by have q := congrArg List.length hv; simp at q; omega)) e1 rfl 0 (Nat.le_of_eq rfl) (by decide) (by decide) (by decide) (by decide) (fun v4 T4 h4 L4 X4 e4 q4 => ?_)
      obtain ⟨ar, rfl, Aa, N4, K4⟩ := q4
      show Go p e below _ (T4.setTop (mkF m 21 #[.val (.int s0), .val (.ref aE)] [.ref ar]))
      refine g_iloadN X4 B d3_21 22 rfl rfl ?_
      refine g_bipush X4 B (100) d3_22 24 rfl rfl ?_
      refine g_idiv X4 B d3_24 25 rfl (by decide) ?_
      refine g_iconst X4 B (2) d3_25 26 rfl rfl ?_
      refine g_isub X4 B d3_26 27 rfl ?_
      refine g_aaload X4 B rfl ix d3_27 28 rfl e4 Aa i1 i2 i3 ?_
      refine g_callS X4 B [.ref bx] [] d3_28 31 rfl rfl (hw _ (List.mem_of_getElem? (i := 44) rfl)) (hw _ (List.mem_of_getElem? (i := 45) rfl)) (hw _ (List.mem_of_getElem? (i := 14) rfl)) (hw _ (List.mem_of_getElem? (i := 46) rfl)) (by decide) (lenOf pd_7 rfl) (rm7 l Z ag hw bx h4 n0 (Nat.le_trans Z0 K4.1)) e4 rfl 0 (Nat.le_of_eq rfl) (by decide) (by decide) (by decide) (by decide) (fun v5 T5 h5 L5 X5 e5 q5 => ?_)
      obtain ⟨oa, rfl, Eo, Fo, N5, K5⟩ := q5
      show Go p e below _ (T5.setTop (mkF m 31 #[.val (.int s0), .val (.ref aE)] [.ref oa]))
      refine g_astoreN X5 B #[.val (.int s0), .val (.ref oa)] d3_31 32 rfl rfl rfl ?_
      refine g_aloadN X5 B d3_32 33 rfl rfl rfl ?_
      exact g_retA X5 B d3_33 rfl rfl rfl (by decide) (by decide) e5 ⟨_, rfl, Eo, (by rw [i4]; exact Fo), ((((Fr.nil n0).app N1).app N4).app N5), K4.trans K5 (fun _ q => nomatch q)⟩
theorem pd_1 : parseMethodDescriptor "(I)Z" = some ⟨[.int], (some .boolean)⟩ := by decide +kernel
set_option maxRecDepth 65536 in
set_option maxHeartbeats 40000000 in
theorem rm1 (l : Launch) (Z : State) (ag : Array Value) (hw : ∀ d ∈ tables_1, d.before ag Z = true) (a0 a1 a2 a3 : Addr) (aE aV : Addr) (cl : Cell) (s0 : Int32) (h0 : Heap) (n0 : Nat) (Z0 : n0 ≤ h0.size) (S0 : Sta Z h0 "com/example/corridor_hub/corridorhub/session/Counts$AnswerClass" "SUCCESSFUL" "Lcom/example/corridor_hub/corridorhub/session/Counts$AnswerClass;" (.ref a0)) (S1 : Sta Z h0 "com/example/corridor_hub/corridorhub/session/Counts$AnswerClass" "REDIRECTED" "Lcom/example/corridor_hub/corridorhub/session/Counts$AnswerClass;" (.ref a1)) (S2 : Sta Z h0 "com/example/corridor_hub/corridorhub/session/Counts$AnswerClass" "REFUSED" "Lcom/example/corridor_hub/corridorhub/session/Counts$AnswerClass;" (.ref a2)) (S3 : Sta Z h0 "com/example/corridor_hub/corridorhub/session/Counts$AnswerClass" "FAILED" "Lcom/example/corridor_hub/corridorhub/session/Counts$AnswerClass;" (.ref a3)) (SE : Sta Z h0 "java/util/Optional" "EMPTY" "Ljava/util/Optional;" (.ref aE)) (EE : Exa Z h0 aE "java/util/Optional") (FE : Fld Z h0 aE "java/util/Optional" "value" "Ljava/lang/Object;" .null) (SV : Sta Z h0 "com/example/corridor_hub/corridorhub/session/Counts$AnswerClass" "$VALUES" "[Lcom/example/corridor_hub/corridorhub/session/Counts$AnswerClass;" (.ref aV)) (A : Arr Z h0 aV cl (.object "com/example/corridor_hub/corridorhub/session/Counts$AnswerClass")) (hv : cl.slots.toList = [.ref a0, .ref a1, .ref a2, .ref a3]) (E : Exa Z h0 aV "[Lcom/example/corridor_hub/corridorhub/session/Counts$AnswerClass;") (F : FitC Z cl) :
    Ctr l Z (⟨"com/example/corridor_hub/corridorhub/session/AnswerClassOfPinLaw", "check", "(I)Z"⟩ : MethodName) method_3_code 3 (some .boolean) ({ frames := 4, cells := 2, slots := 5, locals := 51 } : Room) #[.int s0] h0 (fun v h L => v = some (.int 1) ∧ Fr n0 L ∧ Keep h0 h []) := by
  refine Ctr.of pn_1 ?_
  intro p e s m below meth c T0 X0 B e0
  refine Go.cast (f' := mkF m 0 #[.val (.int s0), .unset, .unset] []) (by first | rfl | (simp [entryFrame, mkF, argsToLocals, Value.category, maxLocals]; done)) ?_

  refine g_iloadN X0 B d1_0 1 rfl rfl ?_
  refine g_callS X0 B [.int s0] [] d1_1 4 rfl rfl (hw _ (List.mem_of_getElem? (i := 5) rfl)) (hw _ (List.mem_of_getElem? (i := 6) rfl)) (hw _ (List.mem_of_getElem? (i := 3) rfl)) (hw _ (List.mem_of_getElem? (i := 7) rfl)) (by decide) (lenOf pd_2 rfl) (rm2 l Z ag hw a0 a1 a2 a3 s0 h0 n0 S0 S1 S2 S3) e0 rfl 0 (Nat.le_of_eq rfl) (by decide) (by decide) (by decide) (by decide) (fun v1 T1 h1 L1 X1 e1 q1 => ?_)
  obtain ⟨rfl, N1, rfl⟩ := q1
  show Go p e below _ (T1.setTop (mkF m 4 #[.val (.int s0), .unset, .unset] [own_val a0 a1 a2 a3 s0]))
  refine g_astoreN X1 B #[.val (.int s0), .val (own_val a0 a1 a2 a3 s0), .unset] d1_4 5 rfl (own_ref a0 a1 a2 a3 s0) (XS.store1 rfl (Or.inl rfl) (XT.cat1 (own_ref a0 a1 a2 a3 s0))) ?_
  refine g_iloadN X1 B d1_5 6 rfl rfl ?_
  refine g_callS X1 B [.int s0] [] d1_6 9 rfl rfl (hw _ (List.mem_of_getElem? (i := 8) rfl)) (hw _ (List.mem_of_getElem? (i := 9) rfl)) (hw _ (List.mem_of_getElem? (i := 10) rfl)) (hw _ (List.mem_of_getElem? (i := 11) rfl)) (by decide) (lenOf pd_3 rfl) (rm3 l Z ag hw a0 a1 a2 a3 aE aV cl s0 h0 n0 Z0 SE EE FE SV A hv E F) e1 rfl 0 (Nat.le_of_eq rfl) (by decide) (by decide) (by decide) (by decide) (fun v2 T2 h2 L2 X2 e2 q2 => ?_)
  obtain ⟨oa, rfl, Eo, Fo, N2, K2⟩ := q2
  show Go p e below _ (T2.setTop (mkF m 9 #[.val (.int s0), .val (own_val a0 a1 a2 a3 s0), .unset] [.ref oa]))
  refine g_astoreN X2 B #[.val (.int s0), .val (own_val a0 a1 a2 a3 s0), .val (.ref oa)] d1_9 10 rfl rfl rfl ?_
  refine g_aloadN X2 B d1_10 11 rfl rfl (own_ref a0 a1 a2 a3 s0) ?_
  refine g_ifnonnull X2 B d1_11 27 14 rfl (by decide) rfl (own_ref a0 a1 a2 a3 s0) (fun c3 => ?_) (fun c3 => ?_)
  · skip
    refine g_aloadN X2 B d1_27 28 rfl rfl rfl ?_
    refine g_callV X2 B [] [] d1_28 31 rfl rfl (hw _ (List.mem_of_getElem? (i := 17) rfl)) (hw _ (List.mem_of_getElem? (i := 18) rfl)) (hw _ (List.mem_of_getElem? (i := 20) rfl)) (hw _ (List.mem_of_getElem? (i := 19) rfl)) (hw _ (List.mem_of_getElem? (i := 14) rfl)) (hw _ (List.mem_of_getElem? (i := 21) rfl)) (by decide) (lenOf pd_5 rfl) Eo (rm5 l Z ag hw oa (own_val a0 a1 a2 a3 s0) (own_ref a0 a1 a2 a3 s0) h2 n0 Fo) e2 rfl 0 (Nat.le_of_eq rfl) (by decide) (by decide) (by decide) (by decide) (fun v4 T4 h4 L4 X4 e4 q4 => ?_)
    obtain ⟨rfl, N4, rfl⟩ := q4
    show Go p e below _ (T4.setTop (mkF m 31 #[.val (.int s0), .val (own_val a0 a1 a2 a3 s0), .val (.ref oa)] [.int (if own_val a0 a1 a2 a3 s0 = .null then 0 else 1)]))
    refine g_if_eq X4 B d1_31 46 34 rfl (by decide) rfl (fun z => own_abs' (by simp [c3]) z) (fun _ => ?_)
    refine g_aloadN X4 B d1_34 35 rfl rfl rfl ?_
    obtain ⟨bx, hbx⟩ := (XT.refc (own_ref a0 a1 a2 a3 s0)).resolve_left c3
    rw [hbx] at Fo
    refine g_callV X4 B [] [] d1_35 38 rfl rfl (hw _ (List.mem_of_getElem? (i := 60) rfl)) (hw _ (List.mem_of_getElem? (i := 61) rfl)) (hw _ (List.mem_of_getElem? (i := 63) rfl)) (hw _ (List.mem_of_getElem? (i := 62) rfl)) (hw _ (List.mem_of_getElem? (i := 14) rfl)) (hw _ (List.mem_of_getElem? (i := 64) rfl)) (by decide) (lenOf pd_11 rfl) Eo (rm11 l Z ag hw oa bx h2 n0 Fo) e4 rfl 0 (Nat.le_of_eq rfl) (by decide) (by decide) (by decide) (by decide) (fun v5 T5 h5 L5 X5 e5 q5 => ?_)
    obtain ⟨rfl, N5, rfl⟩ := q5
    show Go p e below _ (T5.setTop (mkF m 38 #[.val (.int s0), .val (own_val a0 a1 a2 a3 s0), .val (.ref oa)] [.ref bx]))
    refine g_aloadN X5 B d1_38 39 rfl rfl (own_ref a0 a1 a2 a3 s0) ?_
    refine g_acmp_ne X5 B d1_39 46 42 rfl (by decide) rfl rfl (own_ref a0 a1 a2 a3 s0) (fun z => own_abs (hbx.symm) z) (fun _ => ?_)
    refine g_iconst X5 B (1) d1_42 43 rfl rfl ?_
    refine g_goto X5 B d1_43 47 rfl (by decide) ?_
    exact g_retN X5 B d1_47 rfl rfl (by decide) (by decide) (by decide) e5 ⟨rfl, (((((Fr.nil n0).app N1).app N2).app N4).app N5), K2⟩
  · skip
    refine g_aloadN X2 B d1_14 15 rfl rfl rfl ?_
    refine g_callV X2 B [] [] d1_15 18 rfl rfl (hw _ (List.mem_of_getElem? (i := 17) rfl)) (hw _ (List.mem_of_getElem? (i := 18) rfl)) (hw _ (List.mem_of_getElem? (i := 20) rfl)) (hw _ (List.mem_of_getElem? (i := 19) rfl)) (hw _ (List.mem_of_getElem? (i := 14) rfl)) (hw _ (List.mem_of_getElem? (i := 21) rfl)) (by decide) (lenOf pd_5 rfl) Eo (rm5 l Z ag hw oa (own_val a0 a1 a2 a3 s0) (own_ref a0 a1 a2 a3 s0) h2 n0 Fo) e2 rfl 0 (Nat.le_of_eq rfl) (by decide) (by decide) (by decide) (by decide) (fun v6 T6 h6 L6 X6 e6 q6 => ?_)
    obtain ⟨rfl, N6, rfl⟩ := q6
    show Go p e below _ (T6.setTop (mkF m 18 #[.val (.int s0), .val (own_val a0 a1 a2 a3 s0), .val (.ref oa)] [.int (if own_val a0 a1 a2 a3 s0 = .null then 0 else 1)]))
    refine g_if_ne X6 B d1_18 25 21 rfl (by decide) rfl (fun z => own_abs (by simp [c3]) z) (fun _ => ?_)
    refine g_iconst X6 B (1) d1_21 22 rfl rfl ?_
    refine g_goto X6 B d1_22 26 rfl (by decide) ?_
    exact g_retN X6 B d1_26 rfl rfl (by decide) (by decide) (by decide) e6 ⟨rfl, ((((Fr.nil n0).app N1).app N2).app N6), K2⟩
set_option maxRecDepth 65536 in
set_option maxHeartbeats 40000000 in
theorem rm0 (l : Launch) (Z : State) (ag : Array Value) (hw : ∀ d ∈ tables_1, d.before ag Z = true) (a0 a1 a2 a3 : Addr) (aE aV : Addr) (cl : Cell) (p0 p1 : Int32) (h0 : Heap) (n0 : Nat) (Z0 : n0 ≤ h0.size) (S0 : Sta Z h0 "com/example/corridor_hub/corridorhub/session/Counts$AnswerClass" "SUCCESSFUL" "Lcom/example/corridor_hub/corridorhub/session/Counts$AnswerClass;" (.ref a0)) (S1 : Sta Z h0 "com/example/corridor_hub/corridorhub/session/Counts$AnswerClass" "REDIRECTED" "Lcom/example/corridor_hub/corridorhub/session/Counts$AnswerClass;" (.ref a1)) (S2 : Sta Z h0 "com/example/corridor_hub/corridorhub/session/Counts$AnswerClass" "REFUSED" "Lcom/example/corridor_hub/corridorhub/session/Counts$AnswerClass;" (.ref a2)) (S3 : Sta Z h0 "com/example/corridor_hub/corridorhub/session/Counts$AnswerClass" "FAILED" "Lcom/example/corridor_hub/corridorhub/session/Counts$AnswerClass;" (.ref a3)) (SE : Sta Z h0 "java/util/Optional" "EMPTY" "Ljava/util/Optional;" (.ref aE)) (EE : Exa Z h0 aE "java/util/Optional") (FE : Fld Z h0 aE "java/util/Optional" "value" "Ljava/lang/Object;" .null) (SV : Sta Z h0 "com/example/corridor_hub/corridorhub/session/Counts$AnswerClass" "$VALUES" "[Lcom/example/corridor_hub/corridorhub/session/Counts$AnswerClass;" (.ref aV)) (A : Arr Z h0 aV cl (.object "com/example/corridor_hub/corridorhub/session/Counts$AnswerClass")) (hv : cl.slots.toList = [.ref a0, .ref a1, .ref a2, .ref a3]) (E : Exa Z h0 aV "[Lcom/example/corridor_hub/corridorhub/session/Counts$AnswerClass;") (F : FitC Z cl) :
    Ctr l Z x code maxLocals ret room_1 #[.int p0, .int p1] h0 (fun v h L => v = some (.int 1) ∧ Fr n0 L) := by
  refine Ctr.of pn_0 ?_
  intro p e s m below meth c T0 X0 B e0
  refine Go.cast (f' := mkF m 0 #[.val (.int p0), .val (.int p1), .unset] []) (by first | rfl | (simp [entryFrame, mkF, argsToLocals, Value.category, maxLocals]; done)) ?_

  refine g_sipush X0 B (150) at_0 3 rfl rfl ?_
  refine g_iloadN X0 B at_3 4 rfl rfl ?_
  refine g_ldcI X0 B at_4 6 rfl (hw _ (List.mem_of_getElem? (i := 0) rfl)) ?_
  refine g_iand X0 B at_6 7 rfl ?_
  refine g_sipush X0 B (500) at_7 10 rfl rfl ?_
  refine g_irem X0 B at_10 11 rfl (by decide) ?_
  refine g_iadd X0 B at_11 12 rfl ?_
  refine g_istoreN X0 B #[.val (.int p0), .val (.int p1), .val (.int ((150 : Int32) + ((p1 &&& (2147483647 : Int32)) % (500 : Int32))))] at_12 13 rfl rfl ?_
  refine g_iloadN X0 B at_13 14 rfl rfl ?_
  refine g_callS X0 B [.int p0] [] at_14 17 rfl rfl (hw _ (List.mem_of_getElem? (i := 1) rfl)) (hw _ (List.mem_of_getElem? (i := 2) rfl)) (hw _ (List.mem_of_getElem? (i := 3) rfl)) (hw _ (List.mem_of_getElem? (i := 4) rfl)) (by decide) (lenOf pd_1 rfl) (rm1 l Z ag hw a0 a1 a2 a3 aE aV cl p0 h0 n0 Z0 S0 S1 S2 S3 SE EE FE SV A hv E F) e0 rfl 0 (Nat.le_of_eq rfl) (by decide) (by decide) (by decide) (by decide) (fun v1 T1 h1 L1 X1 e1 q1 => ?_)
  obtain ⟨rfl, N1, K1⟩ := q1
  show Go p e below _ (T1.setTop (mkF m 17 #[.val (.int p0), .val (.int p1), .val (.int ((150 : Int32) + ((p1 &&& (2147483647 : Int32)) % (500 : Int32))))] [.int 1]))
  refine g_if_eq X1 B at_17 31 20 rfl (by decide) rfl (fun z => own_abs' (by decide) z) (fun _ => ?_)
  refine g_iloadN X1 B at_20 21 rfl rfl ?_
  have S0 := own_stk S0 K1
  have S1 := own_stk S1 K1
  have S2 := own_stk S2 K1
  have S3 := own_stk S3 K1
  have SE := own_stk SE K1
  have SV := own_stk SV K1
  have EE := EE.keep K1
  have FE := FE.keep K1 nin0
  have E := E.keep K1
  have A : Arr Z h1 aV cl (.object "com/example/corridor_hub/corridorhub/session/Counts$AnswerClass") := ⟨K1.2.1 _ _ A.1 nin0, A.2⟩
  refine g_callS X1 B [.int ((150 : Int32) + ((p1 &&& (2147483647 : Int32)) % (500 : Int32)))] [] at_21 24 rfl rfl (hw _ (List.mem_of_getElem? (i := 1) rfl)) (hw _ (List.mem_of_getElem? (i := 2) rfl)) (hw _ (List.mem_of_getElem? (i := 3) rfl)) (hw _ (List.mem_of_getElem? (i := 4) rfl)) (by decide) (lenOf pd_1 rfl) (rm1 l Z ag hw a0 a1 a2 a3 aE aV cl ((150 : Int32) + ((p1 &&& (2147483647 : Int32)) % (500 : Int32))) h1 n0 (Nat.le_trans Z0 K1.1) S0 S1 S2 S3 SE EE FE SV A hv E F) e1 rfl 0 (Nat.le_of_eq rfl) (by decide) (by decide) (by decide) (by decide) (fun v2 T2 h2 L2 X2 e2 q2 => ?_)
  obtain ⟨rfl, N2, K2⟩ := q2
  show Go p e below _ (T2.setTop (mkF m 24 #[.val (.int p0), .val (.int p1), .val (.int ((150 : Int32) + ((p1 &&& (2147483647 : Int32)) % (500 : Int32))))] [.int 1]))
  refine g_if_eq X2 B at_24 31 27 rfl (by decide) rfl (fun z => own_abs' (by decide) z) (fun _ => ?_)
  refine g_iconst X2 B (1) at_27 28 rfl rfl ?_
  refine g_goto X2 B at_28 32 rfl (by decide) ?_
  exact g_retN X2 B at_32 rfl rfl (by decide) (by decide) (by decide) e2 ⟨rfl, (((Fr.nil n0).app N1).app N2)⟩
theorem own_len {Z : State} {args : Array Value} {t : Term} {a : Addr} {cl : Cell} {ty : FieldType} {n : Int32} (ev : t.eval args Z none [] Z = some (.ref a)) (A : Arr Z Z.heap a cl ty) (q : (Jvm.Cond.eq (.length t) (.int n)).value args Z none Z [] = some true) (hn : 0 ≤ n.toInt := by decide) : cl.slots.size = n.toInt.toNat := by
  obtain ⟨x, y, h1, h2, h3, -⟩ := cmp_v (Or.inl q)
  cases h2
  obtain ⟨b, cell, e1, e2, e3, rfl⟩ := length_spec h1
  cases ev.symm.trans e1
  cases (A.fin (Vm.Alike.refl _)).symm.trans e2
  have h7 : (Jvm.Cond.eq (.length t) (.int n)).value args Z none Z [] = some (decide (cl.slots.size.toInt32 = n)) := by simp only [Cond.value, h1, Term.int_eval]
  have h8 := gotT h7 q
  have h9 := congrArg Int32.toInt h8
  rw [len_toInt e3] at h9
  omega
theorem own_elem {Z : State} {args : Array Value} {t u : Term} {a b : Addr} {cl : Cell} {ty : FieldType} {n : Int32} (ev : t.eval args Z none [] Z = some (.ref a)) (A : Arr Z Z.heap a cl ty) (ew : u.eval args Z none [] Z = some (.ref b)) (q : (Jvm.Cond.eq (.elem t (.int n)) u).value args Z none Z [] = some true) : cl.slots[n.toNatClampNeg]? = some (.ref b) := by
  obtain ⟨x, y, h1, h2, h3, -⟩ := cmp_v (Or.inl q)
  cases ew.symm.trans h2
  have h4 := (elem_in h1 ev (Term.int_eval n) A.1).2
  have h5 : x.isRef = true := by cases x <;> simp [Kin, Value.isRef] at h3 ⊢
  have h6 : x = .ref b := gotT (eq_R h1 ew h5 rfl) q
  exact h6 ▸ h4
theorem own_list4 {c : Cell} {x0 x1 x2 x3 : Value} (hl : c.slots.size = 4) (e0 : c.slots[(0 : Int32).toNatClampNeg]? = some x0) (e1 : c.slots[(1 : Int32).toNatClampNeg]? = some x1) (e2 : c.slots[(2 : Int32).toNatClampNeg]? = some x2) (e3 : c.slots[(3 : Int32).toNatClampNeg]? = some x3) : c.slots.toList = [x0, x1, x2, x3] := by
  apply List.ext_getElem?
  intro i
  rw [Array.getElem?_toList]
  rcases i with _ | _ | _ | _ | i
  · exact e0
  · exact e1
  · exact e2
  · exact e3
  · rw [Array.getElem?_eq_none (by omega)]; rfl

set_option maxRecDepth 65536 in
set_option maxHeartbeats 40000000 in
theorem comes_1 {Post : Tables → Env → Array Value → State → Outcome → State → Prop} (hpost : ∀ tb e args s v u, (limb_1_1.after args s (.returned v) u = true ∧ limb_1_2.after args s (.returned v) u = true ∧ True) → FrameEnd s (.returned v) u (Jvm.fieldLocs frame_1_writes args s ++ Jvm.arrayLocs frame_1_arrays args s ++ Jvm.staticLocs frame_1_statics s) 16 128 → Post tb e args s (.returned v) u) :
    ArmFor flags0 classFile x code maxLocals ret World_1 tables_1 room_1 Calls_1 rest_1 Pre_1 Post := by
  intro l hfl _ _ p e ha hc hk s m args below hf hA hF happ hP
  obtain ⟨hcalls, hrest, hpre⟩ := hP
  obtain ⟨-, -, -, hnamed, -, -, -, hat⟩ := (Spec.applies_iff hf).mp happ
  obtain ⟨hg, hn⟩ := and_e (Cond.before_iff.mp (show (Jvm.Cond.and given_1 narrow_1).before args s = true from hpre))
  obtain ⟨g0, hg⟩ := and_e hg
  obtain ⟨g1, hg⟩ := and_e hg
  have g2 := hg
  obtain ⟨w0, w1, rfl⟩ : ∃ w0 w1 : Value, args = #[w0, w1] := by
    have hs : args.size = 2 := by simpa [Cond.value, given_1] using g0
    obtain ⟨L⟩ := args
    match L, hs with
    | [w0, w1], _ => exact ⟨w0, w1, rfl⟩
  have hw := fun d (hd : d ∈ tables_1) => atoms_spec (ws := Jvm.Cond.code x code maxLocals ret :: tables_1) hat d (List.mem_cons_of_mem _ hd)
  have hfit : Fit s := fun {y c} hc i hi => by
    obtain ⟨ha, rfl⟩ := Array.getElem?_eq_some_iff.mp hc
    have q := List.all_eq_true.mp ((Array.all_eq_true_iff_forall_mem.mp hF) _ (Array.getElem_mem ha)) i (List.mem_range.mpr hi)
    simpa [Array.getElem?_eq_getElem hi] using q
  obtain ⟨i0, q0⟩ := is_v g1
  obtain rfl : w0 = (.int i0) := Option.some.inj q0
  obtain ⟨i1, q1⟩ := is_v g2
  obtain rfl : w1 = (.int i1) := Option.some.inj q1
  obtain ⟨m0, hn⟩ := and_e hn
  obtain ⟨m1, hn⟩ := and_e hn
  obtain ⟨m2, hn⟩ := and_e hn
  obtain ⟨m3, hn⟩ := and_e hn
  obtain ⟨m4, hn⟩ := and_e hn
  obtain ⟨m5, hn⟩ := and_e hn
  obtain ⟨m6, hn⟩ := and_e hn
  obtain ⟨m7, hn⟩ := and_e hn
  obtain ⟨m8, hn⟩ := and_e hn
  obtain ⟨m9, hn⟩ := and_e hn
  have m10 := hn
  obtain ⟨b0, ev0⟩ := exa_v m0
  have S0 := Sta.start ev0 (Or.inr ⟨(hw _ (List.mem_of_getElem? (i := 10) rfl)), (hw _ (List.mem_of_getElem? (i := 25) rfl))⟩)
  have E0 := Exa.start ev0 m0
  obtain ⟨b2, ev2⟩ := exa_v m2
  have S2 := Sta.start ev2 (Or.inr ⟨(hw _ (List.mem_of_getElem? (i := 10) rfl)), (hw _ (List.mem_of_getElem? (i := 30) rfl))⟩)
  have E2 := Exa.start ev2 m2
  obtain ⟨b5, ev5⟩ := exa_v m5
  have S5 := Sta.start ev5 (Or.inr ⟨(hw _ (List.mem_of_getElem? (i := 10) rfl)), (hw _ (List.mem_of_getElem? (i := 38) rfl))⟩)
  have E5 := Exa.start ev5 m5
  obtain ⟨b7, ev7⟩ := exa_v m7
  have S7 := Sta.start ev7 (Or.inr ⟨(hw _ (List.mem_of_getElem? (i := 10) rfl)), (hw _ (List.mem_of_getElem? (i := 39) rfl))⟩)
  have E7 := Exa.start ev7 m7
  obtain ⟨b9, ev9⟩ := exa_v m9
  have S9 := Sta.start ev9 (Or.inr ⟨(hw _ (List.mem_of_getElem? (i := 10) rfl)), (hw _ (List.mem_of_getElem? (i := 40) rfl))⟩)
  have E9 := Exa.start ev9 m9
  obtain ⟨hsets, hown0⟩ := atoms_of _ (rest_1_c_eq ▸ (show rest_1_c.before _ s = true from hrest))
  obtain ⟨aE, evE⟩ := exa_v (Cond.before_iff.mp (hsets _ (List.mem_of_getElem? (i := 2) rfl)))
  have SE := Sta.start evE (Or.inl (hsets _ (List.mem_of_getElem? (i := 1) rfl)))
  have EE := Exa.start evE (Cond.before_iff.mp (hsets _ (List.mem_of_getElem? (i := 2) rfl)))
  have FE := own_fldN evE (Cond.before_iff.mp (hsets _ (List.mem_of_getElem? (i := 3) rfl)))
  obtain ⟨aV, evV⟩ := arr_v m1
  obtain ⟨cl, AV⟩ := Arr.start evV m1
  have SV := Sta.start evV (Or.inl (hw _ (List.mem_of_getElem? (i := 41) rfl)))
  have EV := Exa.start evV m2
  have hlen : cl.slots.size = 4 := own_len evV AV m3
  have v0 := own_elem evV AV ev0 m4
  have v1 := own_elem evV AV ev5 m6
  have v2 := own_elem evV AV ev7 m8
  have v3 := own_elem evV AV ev9 m10
  have hvs : cl.slots.toList = [.ref b0, .ref b5, .ref b7, .ref b9] := own_list4 hlen v0 v1 v2 v3
  obtain ⟨n, o, r1, r2, r3, _, L, rfl, ⟨rfl, N⟩, hq⟩ := rm0 l s _ hw b0 b5 b7 b9 aE aV cl i0 i1 s.heap s.heap.size (Nat.le_refl _) S0 S5 S7 S9 SE EE FE SV AV hvs EV (FitC.start hfit AV) tables_1 p e ha hc hk s m _ below hf ((Spec.applies_iff_loose hf).mp happ).1 ⟨rfl, State.Warmed39.refl s, rfl⟩ trivial
  refine ⟨n, _, r1, r2, r3, hpost _ _ _ _ _ _ ⟨Cond.after_iff.mpr rfl, Cond.after_iff.mpr (eq_i res_at (Term.int_eval (1)) rfl), trivial⟩ ⟨hq.1, hq.2.1, (hq.2.2.sift fun y hy => Or.inr (N y hy)).mono (by decide) (by decide)⟩⟩
theorem main_1_1 : Claimed_1_1 := comes_1 fun _ _ _ _ _ _ h hF => ⟨h.1, hF⟩
theorem main_1_2 : Claimed_1_2 := comes_1 fun _ _ _ _ _ _ h hF => ⟨h.2.1, hF⟩
end Jvm.Pilot.@@N@@
namespace Jvm.Pilot.@@N@@
open Jvm Jvm.ClassFile Sem Op Lib Jvm.Free Jvm.Stand Jvm.Pilot.@@N@@.Jvm.D
/-! MADE BY PROGRAM (witnessworld.py) out of the Statement's table words and the real class files: 15 classes; the members and pool entries that the words name. The judged class is class 1, her method 3. -/
namespace start1
open Jvm.ClassFile
def u (s : String) : CpInfo := .utf8 (stringToUtf16 s)
/-- a pool by its gaps: so many unusable entries, then the entry; so many at the end -/
def gap : Nat → List CpInfo → List CpInfo
  | 0, r => r
  | n + 1, r => .unusable :: gap n r
def poolList (es : List (Nat × CpInfo)) (last : Nat) : List CpInfo := es.foldr (fun e r => gap e.1 (e.2 :: r)) (gap last [])
def pool (es : List (Nat × CpInfo)) (last : Nat) : Array CpInfo := ⟨poolList es last⟩
def fileOf (pool : Array CpInfo) (this : Nat) (attrs : Array Attribute := #[]) (ms : Array MethodInfo := #[]) (fl : Nat := 33) (sup : Nat := 0) (ifs : Array Nat := #[]) (fds : Array FieldInfo := #[]) : ClassFile where
  minorVersion := 0
  majorVersion := 65
  constantPool := pool
  accessFlags := fl
  thisClass := this
  superClass := sup
  interfaces := ifs
  fields := fds
  methods := ms
  attributes := attrs
def plain (name : String) (sup : Option ClassId) : Class where
  name := name
  kind := .ordinary
  loader := none
  accessFlags := 33
  super := sup
  interfaces := #[]
  cf := none
  fields := #[]
  methods := #[]
  instanceTypes := #[]
  staticTypes := #[]
  resolved := #[]
  callSites := []
  init := .initialized
  statics := none
  mirror := none

def pool0 : Array CpInfo := pool [(5, u "<init>"), (0, u "()V"), (1, .class_ 10), (1, u "java/lang/Object"), (85, u "clone"), (0, u "()Ljava/lang/Object;")] 26

def k0c0 : Code := { maxStack := 0, maxLocals := 1, code := object_method_1_code, exceptionTable := #[], attributes := #[] }
def k0m0 : Method := { name := "<init>", desc := "()V", sig := { parameters := [], returnType := none }, accessFlags := 1, code := some k0c0 }
def k0m1 : Method := { name := "clone", desc := "()Ljava/lang/Object;", sig := { parameters := [], returnType := some (.object "java/lang/Object") }, accessFlags := 260, code := none }
/-- java/lang/Object -/
def k0 : Class := { plain "java/lang/Object" none with
  accessFlags := 33
  interfaces := #[]
  cf := some (fileOf pool0 8 #[] #[{ accessFlags := 1, nameIndex := 5, descriptorIndex := 6, attributes := #[] }, { accessFlags := 260, nameIndex := 96, descriptorIndex := 97, attributes := #[] }] 33 0 #[] #[])
  fields := #[]
  methods := #[k0m0, k0m1]
  instanceTypes := #[]
  staticTypes := #[]
  resolved := Array.replicate 124 none
  statics := none }

def pool1 : Array CpInfo := pool [(2, .class_ 4), (1, u "java/lang/Object"), (0, u "<init>"), (0, u "()V"), (0, .fieldref 8 9), (0, .class_ 10), (0, .nameAndType 11 12), (0, u "com/example/corridor_hub/corridorhub/session/Counts$AnswerClass"), (0, u "SUCCESSFUL"), (0, u "Lcom/example/corridor_hub/corridorhub/session/Counts$AnswerClass;"), (0, .fieldref 8 14), (0, .nameAndType 15 12), (0, u "REDIRECTED"), (0, .fieldref 8 17), (0, .nameAndType 18 12), (0, u "REFUSED"), (0, .fieldref 8 20), (0, .nameAndType 21 12), (0, u "FAILED"), (0, .methodref 23 24), (0, .class_ 25), (0, .nameAndType 26 27), (0, u "com/example/corridor_hub/corridorhub/session/AnswerClassOfPinLaw"), (0, u "expected"), (0, u "(I)Lcom/example/corridor_hub/corridorhub/session/Counts$AnswerClass;"), (0, .methodref 8 29), (0, .nameAndType 30 31), (0, u "of"), (0, u "(I)Ljava/util/Optional;"), (0, .methodref 33 34), (0, .class_ 35), (0, .nameAndType 36 37), (0, u "java/util/Optional"), (0, u "isPresent"), (0, u "()Z"), (0, .methodref 33 39), (0, .nameAndType 40 41), (0, u "get"), (0, u "()Ljava/lang/Object;"), (0, .integer 2147483647), (0, .methodref 23 44), (0, .nameAndType 45 46), (0, u "check"), (0, u "(I)Z"), (3, u "law"), (0, u "(II)Z")] 6

def k1m0 : Method := { name := "<init>", desc := "()V", sig := { parameters := [], returnType := none }, accessFlags := 1, code := none }
def k1c1 : Code := { maxStack := 2, maxLocals := 1, code := method_2_code, exceptionTable := #[], attributes := #[] }
def k1m1 : Method := { name := "expected", desc := "(I)Lcom/example/corridor_hub/corridorhub/session/Counts$AnswerClass;", sig := { parameters := [.int], returnType := some (.object "com/example/corridor_hub/corridorhub/session/Counts$AnswerClass") }, accessFlags := 10, code := some k1c1 }
def k1c2 : Code := { maxStack := 2, maxLocals := 3, code := method_3_code, exceptionTable := #[], attributes := #[] }
def k1m2 : Method := { name := "check", desc := "(I)Z", sig := { parameters := [.int], returnType := some .boolean }, accessFlags := 10, code := some k1c2 }
def k1c3 : Code := { maxStack := 3, maxLocals := 3, code := code, exceptionTable := #[], attributes := #[] }
def k1m3 : Method := { name := "law", desc := "(II)Z", sig := { parameters := [.int, .int], returnType := some .boolean }, accessFlags := 9, code := some k1c3 }
/-- com/example/corridor_hub/corridorhub/session/AnswerClassOfPinLaw -/
def k1 : Class := { plain "com/example/corridor_hub/corridorhub/session/AnswerClassOfPinLaw" (some 0) with
  accessFlags := 49
  interfaces := #[]
  cf := some (fileOf pool1 23 #[] #[{ accessFlags := 1, nameIndex := 5, descriptorIndex := 6, attributes := #[] }, { accessFlags := 10, nameIndex := 26, descriptorIndex := 27, attributes := #[] }, { accessFlags := 10, nameIndex := 45, descriptorIndex := 46, attributes := #[] }, { accessFlags := 9, nameIndex := 50, descriptorIndex := 51, attributes := #[] }] 49 2 #[] #[])
  fields := #[]
  methods := #[k1m0, k1m1, k1m2, k1m3]
  instanceTypes := #[]
  staticTypes := #[]
  resolved := Array.replicate 58 none
  statics := none }

def pool2 : Array CpInfo := pool [(1, .class_ 2), (0, u "java/lang/constant/Constable"), (0, .class_ 4), (0, u "java/lang/Object")] 6

/-- java/lang/constant/Constable -/
def k2 : Class := { plain "java/lang/constant/Constable" (some 0) with
  accessFlags := 1537
  interfaces := #[]
  cf := some (fileOf pool2 1 #[] #[] 1537 3 #[] #[])
  fields := #[]
  methods := #[]
  instanceTypes := #[]
  staticTypes := #[]
  resolved := Array.replicate 11 none
  statics := none }

def pool3 : Array CpInfo := pool [(1, .class_ 2), (0, u "java/lang/Comparable"), (0, .class_ 4), (0, u "java/lang/Object")] 7

/-- java/lang/Comparable -/
def k3 : Class := { plain "java/lang/Comparable" (some 0) with
  accessFlags := 1537
  interfaces := #[]
  cf := some (fileOf pool3 1 #[] #[] 1537 3 #[] #[])
  fields := #[]
  methods := #[]
  instanceTypes := #[]
  staticTypes := #[]
  resolved := Array.replicate 12 none
  statics := none }

def pool4 : Array CpInfo := pool [(1, .class_ 2), (0, u "java/io/Serializable"), (0, .class_ 4), (0, u "java/lang/Object")] 2

/-- java/io/Serializable -/
def k4 : Class := { plain "java/io/Serializable" (some 0) with
  accessFlags := 1537
  interfaces := #[]
  cf := some (fileOf pool4 1 #[] #[] 1537 3 #[] #[])
  fields := #[]
  methods := #[]
  instanceTypes := #[]
  staticTypes := #[]
  resolved := Array.replicate 7 none
  statics := none }

def pool5 : Array CpInfo := pool [(2, .class_ 4), (1, u "java/lang/Enum"), (0, u "name"), (0, u "Ljava/lang/String;"), (2, u "ordinal"), (0, u "I"), (1, .class_ 14), (1, u "java/lang/Object"), (4, u "hash"), (86, .class_ 108), (1, u "java/lang/Enum$EnumDesc"), (2, .class_ 112), (0, u "java/lang/constant/Constable"), (0, .class_ 114), (0, u "java/lang/Comparable"), (0, .class_ 116), (0, u "java/io/Serializable")] 87

/-- java/lang/Enum -/
def k5 : Class := { plain "java/lang/Enum" (some 0) with
  accessFlags := 1057
  interfaces := #[2, 3, 4]
  cf := some (fileOf pool5 2 #[.nestMembers #[106]] #[] 1057 12 #[111, 113, 115] #[{ accessFlags := 18, nameIndex := 5, descriptorIndex := 6, attributes := #[] }, { accessFlags := 18, nameIndex := 9, descriptorIndex := 10, attributes := #[] }, { accessFlags := 2, nameIndex := 19, descriptorIndex := 10, attributes := #[] }])
  fields := #[{ name := "name", type := (.object "java/lang/String"), accessFlags := 18, slot := 0, constantValue := 0 }, { name := "ordinal", type := .int, accessFlags := 18, slot := 1, constantValue := 0 }, { name := "hash", type := .int, accessFlags := 2, slot := 2, constantValue := 0 }]
  methods := #[]
  instanceTypes := #[(.object "java/lang/String"), .int, .int]
  staticTypes := #[]
  resolved := Array.replicate 204 none
  statics := none }

def pool6 : Array CpInfo := pool [(1, .class_ 2), (0, u "com/example/corridor_hub/corridorhub/session/Counts$AnswerClass"), (2, u "SUCCESSFUL"), (0, u "Lcom/example/corridor_hub/corridorhub/session/Counts$AnswerClass;"), (2, u "REDIRECTED"), (2, u "REFUSED"), (2, u "FAILED"), (0, .fieldref 1 17), (0, .nameAndType 18 19), (0, u "$VALUES"), (0, u "[Lcom/example/corridor_hub/corridorhub/session/Counts$AnswerClass;"), (0, .methodref 21 22), (0, .class_ 19), (0, .nameAndType 23 24), (0, u "clone"), (0, u "()Ljava/lang/Object;"), (1, .class_ 28), (1, u "java/lang/Enum"), (8, u "label"), (0, u "Ljava/lang/String;"), (0, .methodref 40 41), (0, .class_ 42), (0, .nameAndType 43 44), (0, u "java/util/Optional"), (0, u "empty"), (0, u "()Ljava/util/Optional;"), (0, .methodref 1 46), (0, .nameAndType 47 48), (0, u "values"), (0, u "()[Lcom/example/corridor_hub/corridorhub/session/Counts$AnswerClass;"), (0, .methodref 40 50), (0, .nameAndType 51 52), (0, u "of"), (0, u "(Ljava/lang/Object;)Ljava/util/Optional;"), (25, u "(I)Ljava/util/Optional;"), (8, .class_ 88), (0, u "com/example/corridor_hub/corridorhub/session/Counts")] 2

def k6c0 : Code := { maxStack := 1, maxLocals := 0, code := prog_16_method_1_code, exceptionTable := #[], attributes := #[] }
def k6m0 : Method := { name := "values", desc := "()[Lcom/example/corridor_hub/corridorhub/session/Counts$AnswerClass;", sig := { parameters := [], returnType := some (.array (.object "com/example/corridor_hub/corridorhub/session/Counts$AnswerClass")) }, accessFlags := 9, code := some k6c0 }
def k6c1 : Code := { maxStack := 3, maxLocals := 2, code := prog_16_method_5_code, exceptionTable := #[], attributes := #[] }
def k6m1 : Method := { name := "of", desc := "(I)Ljava/util/Optional;", sig := { parameters := [.int], returnType := some (.object "java/util/Optional") }, accessFlags := 8, code := some k6c1 }
/-- com/example/corridor_hub/corridorhub/session/Counts$AnswerClass -/
def k6 : Class := { plain "com/example/corridor_hub/corridorhub/session/Counts$AnswerClass" (some 5) with
  accessFlags := 16433
  interfaces := #[]
  cf := some (fileOf pool6 1 #[.nestHost 87] #[{ accessFlags := 9, nameIndex := 47, descriptorIndex := 48, attributes := #[] }, { accessFlags := 8, nameIndex := 51, descriptorIndex := 78, attributes := #[] }] 16433 26 #[] #[{ accessFlags := 16409, nameIndex := 5, descriptorIndex := 6, attributes := #[] }, { accessFlags := 16409, nameIndex := 9, descriptorIndex := 6, attributes := #[] }, { accessFlags := 16409, nameIndex := 12, descriptorIndex := 6, attributes := #[] }, { accessFlags := 16409, nameIndex := 15, descriptorIndex := 6, attributes := #[] }, { accessFlags := 18, nameIndex := 37, descriptorIndex := 38, attributes := #[] }, { accessFlags := 4122, nameIndex := 18, descriptorIndex := 19, attributes := #[] }])
  fields := #[{ name := "SUCCESSFUL", type := (.object "com/example/corridor_hub/corridorhub/session/Counts$AnswerClass"), accessFlags := 16409, slot := 0, constantValue := 0 }, { name := "REDIRECTED", type := (.object "com/example/corridor_hub/corridorhub/session/Counts$AnswerClass"), accessFlags := 16409, slot := 1, constantValue := 0 }, { name := "REFUSED", type := (.object "com/example/corridor_hub/corridorhub/session/Counts$AnswerClass"), accessFlags := 16409, slot := 2, constantValue := 0 }, { name := "FAILED", type := (.object "com/example/corridor_hub/corridorhub/session/Counts$AnswerClass"), accessFlags := 16409, slot := 3, constantValue := 0 }, { name := "label", type := (.object "java/lang/String"), accessFlags := 18, slot := 3, constantValue := 0 }, { name := "$VALUES", type := (.array (.object "com/example/corridor_hub/corridorhub/session/Counts$AnswerClass")), accessFlags := 4122, slot := 4, constantValue := 0 }]
  methods := #[k6m0, k6m1]
  instanceTypes := #[(.object "java/lang/String"), .int, .int, (.object "java/lang/String")]
  staticTypes := #[(.object "com/example/corridor_hub/corridorhub/session/Counts$AnswerClass"), (.object "com/example/corridor_hub/corridorhub/session/Counts$AnswerClass"), (.object "com/example/corridor_hub/corridorhub/session/Counts$AnswerClass"), (.object "com/example/corridor_hub/corridorhub/session/Counts$AnswerClass"), (.array (.object "com/example/corridor_hub/corridorhub/session/Counts$AnswerClass"))]
  resolved := Array.replicate 91 none
  statics := some 0 }

def pool7 : Array CpInfo := pool [(1, .fieldref 2 3), (0, .class_ 4), (0, .nameAndType 5 6), (0, u "java/util/Optional"), (0, u "EMPTY"), (0, u "Ljava/util/Optional;"), (0, .methodref 8 9), (0, .class_ 10), (0, .nameAndType 11 12), (0, u "java/lang/Object"), (0, u "<init>"), (0, u "()V"), (0, .fieldref 2 14), (0, .nameAndType 15 16), (0, u "value"), (0, u "Ljava/lang/Object;"), (0, .methodref 18 19), (0, .class_ 20), (0, .nameAndType 21 22), (0, u "java/util/Objects"), (0, u "requireNonNull"), (0, u "(Ljava/lang/Object;)Ljava/lang/Object;"), (0, .methodref 2 24), (0, .nameAndType 11 25), (0, u "(Ljava/lang/Object;)V"), (20, u "()Z"), (8, u "empty"), (0, u "()Ljava/util/Optional;"), (8, u "(Ljava/lang/Object;)Ljava/util/Optional;"), (2, u "isPresent"), (4, u "get"), (0, u "()Ljava/lang/Object;"), (7, u "of")] 104

def k7c0 : Code := { maxStack := 1, maxLocals := 1, code := jdk_32_method_1_code, exceptionTable := #[], attributes := #[] }
def k7m0 : Method := { name := "empty", desc := "()Ljava/util/Optional;", sig := { parameters := [], returnType := some (.object "java/util/Optional") }, accessFlags := 9, code := some k7c0 }
def k7c1 : Code := { maxStack := 2, maxLocals := 2, code := jdk_32_method_2_code, exceptionTable := #[], attributes := #[] }
def k7m1 : Method := { name := "<init>", desc := "(Ljava/lang/Object;)V", sig := { parameters := [(.object "java/lang/Object")], returnType := none }, accessFlags := 2, code := some k7c1 }
def k7c2 : Code := { maxStack := 3, maxLocals := 1, code := jdk_32_method_3_code, exceptionTable := #[], attributes := #[] }
def k7m2 : Method := { name := "of", desc := "(Ljava/lang/Object;)Ljava/util/Optional;", sig := { parameters := [(.object "java/lang/Object")], returnType := some (.object "java/util/Optional") }, accessFlags := 9, code := some k7c2 }
def k7c3 : Code := { maxStack := 3, maxLocals := 1, code := jdk_32_method_5_code, exceptionTable := #[], attributes := #[] }
def k7m3 : Method := { name := "get", desc := "()Ljava/lang/Object;", sig := { parameters := [], returnType := some (.object "java/lang/Object") }, accessFlags := 1, code := some k7c3 }
def k7c4 : Code := { maxStack := 1, maxLocals := 1, code := jdk_32_method_6_code, exceptionTable := #[], attributes := #[] }
def k7m4 : Method := { name := "isPresent", desc := "()Z", sig := { parameters := [], returnType := some .boolean }, accessFlags := 1, code := some k7c4 }
/-- java/util/Optional -/
def k7 : Class := { plain "java/util/Optional" (some 0) with
  accessFlags := 49
  interfaces := #[]
  cf := some (fileOf pool7 2 #[] #[{ accessFlags := 9, nameIndex := 55, descriptorIndex := 56, attributes := #[] }, { accessFlags := 2, nameIndex := 11, descriptorIndex := 25, attributes := #[] }, { accessFlags := 9, nameIndex := 82, descriptorIndex := 65, attributes := #[] }, { accessFlags := 1, nameIndex := 73, descriptorIndex := 74, attributes := #[] }, { accessFlags := 1, nameIndex := 68, descriptorIndex := 46, attributes := #[] }] 49 8 #[] #[{ accessFlags := 26, nameIndex := 5, descriptorIndex := 6, attributes := #[] }, { accessFlags := 18, nameIndex := 15, descriptorIndex := 16, attributes := #[] }])
  fields := #[{ name := "EMPTY", type := (.object "java/util/Optional"), accessFlags := 26, slot := 0, constantValue := 0 }, { name := "value", type := (.object "java/lang/Object"), accessFlags := 18, slot := 0, constantValue := 0 }]
  methods := #[k7m0, k7m1, k7m2, k7m3, k7m4]
  instanceTypes := #[(.object "java/lang/Object")]
  staticTypes := #[(.object "java/util/Optional")]
  resolved := Array.replicate 187 none
  statics := some 1 }

def pool8 : Array CpInfo := pool [(1, .class_ 2), (0, u "java/lang/Cloneable"), (0, .class_ 4), (0, u "java/lang/Object")] 2

/-- java/lang/Cloneable -/
def k8 : Class := { plain "java/lang/Cloneable" (some 0) with
  accessFlags := 1537
  interfaces := #[]
  cf := some (fileOf pool8 1 #[] #[] 1537 3 #[] #[])
  fields := #[]
  methods := #[]
  instanceTypes := #[]
  staticTypes := #[]
  resolved := Array.replicate 7 none
  statics := none }

def pool9 : Array CpInfo := pool [(2, .class_ 4), (1, u "java/lang/Object"), (0, u "<init>"), (0, u "()V"), (35, .class_ 44), (1, u "java/util/Objects"), (0, u "requireNonNull"), (0, u "(Ljava/lang/Object;)Ljava/lang/Object;")] 137

def k9m0 : Method := { name := "<init>", desc := "()V", sig := { parameters := [], returnType := none }, accessFlags := 2, code := none }
def k9c1 : Code := { maxStack := 2, maxLocals := 1, code := jdk_31_method_10_code, exceptionTable := #[], attributes := #[] }
def k9m1 : Method := { name := "requireNonNull", desc := "(Ljava/lang/Object;)Ljava/lang/Object;", sig := { parameters := [(.object "java/lang/Object")], returnType := some (.object "java/lang/Object") }, accessFlags := 9, code := some k9c1 }
/-- java/util/Objects -/
def k9 : Class := { plain "java/util/Objects" (some 0) with
  accessFlags := 49
  interfaces := #[]
  cf := some (fileOf pool9 42 #[] #[{ accessFlags := 2, nameIndex := 5, descriptorIndex := 6, attributes := #[] }, { accessFlags := 9, nameIndex := 45, descriptorIndex := 46, attributes := #[] }] 49 2 #[] #[])
  fields := #[]
  methods := #[k9m0, k9m1]
  instanceTypes := #[]
  staticTypes := #[]
  resolved := Array.replicate 184 none
  statics := none }

/-- the primitive byte -/
def k10 : Class := { plain "byte" none with kind := .primitive 'B', accessFlags := 0x411 }
/-- [B -/
def k11 : Class := { plain "[B" (some 0) with kind := .array 10 .byte, interfaces := #[8, 4], accessFlags := 1041 }

/-- the primitive int -/
def k12 : Class := { plain "int" none with kind := .primitive 'I', accessFlags := 0x411 }
/-- [I -/
def k13 : Class := { plain "[I" (some 0) with kind := .array 12 .int, interfaces := #[8, 4], accessFlags := 1041 }

/-- [Lcom/example/corridor_hub/corridorhub/session/Counts$AnswerClass; -/
def k14 : Class := { plain "[Lcom/example/corridor_hub/corridorhub/session/Counts$AnswerClass;" (some 0) with kind := .array 6 (.object "com/example/corridor_hub/corridorhub/session/Counts$AnswerClass"), interfaces := #[8, 4], accessFlags := 1041 }

def heap : Heap := #[{ cls := 6, slots := #[.ref 3, .ref 4, .ref 5, .ref 6, .ref 2], vm := .statics 6 },
  { cls := 7, slots := #[.ref 7], vm := .statics 7 },
  { cls := 14, slots := #[.ref 3, .ref 4, .ref 5, .ref 6], vm := .none },
  { cls := 6, slots := #[.null, .int 0, .int 0, .null], vm := .none },
  { cls := 6, slots := #[.null, .int 1, .int 0, .null], vm := .none },
  { cls := 6, slots := #[.null, .int 2, .int 0, .null], vm := .none },
  { cls := 6, slots := #[.null, .int 3, .int 0, .null], vm := .none },
  { cls := 7, slots := #[.null], vm := .none }]
def classes : Array Class := #[k0, k1, k2, k3, k4, k5, k6, k7, k8, k9, k10, k11, k12, k13, k14]
def interned : List (Array UInt16 × Addr) := []
def slotsUsed : Nat := 27
def theMethod : MethodId := ⟨1, 3⟩
def args0 : Array Value := #[.int 5, .int 7]
def aboutOver (below : List Frame) : State where
  vm := { classes := classes, interned := interned.toArray }
  heap := heap
  slotsUsed := slotsUsed
  threads := #[{ frames := .invoking theMethod args0 :: below }]
def below0 : List Frame := [.native { method := ⟨0, 0⟩, args := #[] }]
def about1 : State := aboutOver below0
def p0 : Program := .bare "" "" ""
def e0 : Env := launch0.env 0 0 0
theorem w_frames : about1.frames = Frame.invoking theMethod args0 :: below0 := rfl
set_option maxRecDepth 65536 in
theorem w_args : argsFit about1.vm theMethod args0 = true := by decide +kernel
set_option maxRecDepth 65536 in
theorem w_heap : heapFits about1 = true := by decide +kernel
set_option maxRecDepth 65536 in
theorem w_runnable : about1.curStatus? = some .runnable := by decide +kernel
set_option maxRecDepth 65536 in
theorem w_alone : about1.alone = true := by decide +kernel
set_option maxRecDepth 65536 in
theorem w_named : about1.methodNamed? x = some theMethod := by decide +kernel
set_option maxRecDepth 65536 in
theorem w_hears : about1.hears theMethod below0 = true := by decide +kernel
set_option maxRecDepth 65536 in
theorem w_ripe : about1.ripe theMethod args0 below0 = true := by decide +kernel
theorem w_running : about1.status = .running := rfl
set_option maxRecDepth 65536 in
theorem w_room : about1.hasRoom e0.platform room_1 = true :=
  launch0.hasRoom_least _ room_1 (by decide +kernel) (by decide +kernel) (by decide +kernel) (by decide +kernel) (by decide +kernel) (by decide +kernel)
theorem allAtoms_all (ts : List Jvm.Cond) (a : Array Jvm.Value) (st : Jvm.State) : (allAtoms ts).before a st = ts.all (fun c => c.before a st) := by
  induction ts with
  | nil => rfl
  | cons c t ih =>
    show (Jvm.Cond.and c (allAtoms t)).before a st = _
    rw [Jvm.Cond.before_and, ih, List.all_cons]
def words1 : List Jvm.Cond := Jvm.Cond.code x code maxLocals ret :: tables_1
/-- a 'code' word, met by the world's own term for the bytes: nothing is compared byte by byte -/
theorem code_word {y : MethodName} {bytes : ByteArray} {mx : Nat} {rt : Option FieldType} {a : Array Value} {s : State} {m : MethodId} {meth : Method} {c : Code} (h1 : s.methodNamed? y = some m) (h2 : s.vm.method? m = some meth) (h3 : meth.code = some c) (h4 : c.code = bytes)
    (h5 : (c.maxLocals == mx && c.exceptionTable.isEmpty && decide (c.maxStack ≤ mostOperands) && decide (meth.sig.returnType = rt) && !meth.locks && decide (parseMethodDescriptor y.desc = some meth.sig)) = true) : (Jvm.Cond.code y bytes mx rt).before a s = true := by
  simp only [Bool.and_eq_true, beq_iff_eq, Bool.not_eq_true', decide_eq_true_eq] at h5
  obtain ⟨⟨⟨⟨⟨g1, g2⟩, g3⟩, g4⟩, g5⟩, g6⟩ := h5
  simp [Cond.before, Cond.holds, Cond.value, h1, h2, h3, h4, g1, g2, g3, g4, g5, g6]
def isCode : Jvm.Cond → Bool
  | .code _ _ _ _ => true
  | _ => false
theorem all_split {L : List Jvm.Cond} {P : Jvm.Cond → Bool} (h1 : L.all (fun c => isCode c || P c) = true) (h2 : ∀ c ∈ L.filter isCode, P c = true) : L.all P = true := by
  refine List.all_eq_true.mpr fun c hc => ?_
  have h := List.all_eq_true.mp h1 c hc
  rcases Bool.eq_false_or_eq_true (isCode c) with hi | hi
  · exact h2 c (List.mem_filter.mpr ⟨hc, hi⟩)
  · simpa [hi] using h
set_option maxRecDepth 65536 in
theorem w_c0 : (Jvm.Cond.code x code maxLocals ret).before args0 about1 = true := code_word (m := ⟨1, 3⟩) (meth := k1m3) (c := k1c3) (by decide +kernel) rfl rfl rfl (by decide +kernel)
set_option maxRecDepth 65536 in
theorem w_c1 : (Jvm.Cond.code ({ cls := "com/example/corridor_hub/corridorhub/session/AnswerClassOfPinLaw", name := "check", desc := "(I)Z" } : Jvm.MethodName) method_3_code (3 : Nat) (Option.some Jvm.ClassFile.FieldType.boolean)).before args0 about1 = true := code_word (m := ⟨1, 2⟩) (meth := k1m2) (c := k1c2) (by decide +kernel) rfl rfl rfl (by decide +kernel)
set_option maxRecDepth 65536 in
theorem w_c2 : (Jvm.Cond.code ({ cls := "com/example/corridor_hub/corridorhub/session/AnswerClassOfPinLaw", name := "expected", desc := "(I)Lcom/example/corridor_hub/corridorhub/session/Counts$AnswerClass;" } : Jvm.MethodName) method_2_code (1 : Nat) (Option.some (Jvm.ClassFile.FieldType.object "com/example/corridor_hub/corridorhub/session/Counts$AnswerClass"))).before args0 about1 = true := code_word (m := ⟨1, 1⟩) (meth := k1m1) (c := k1c1) (by decide +kernel) rfl rfl rfl (by decide +kernel)
set_option maxRecDepth 65536 in
theorem w_c3 : (Jvm.Cond.code ({ cls := "com/example/corridor_hub/corridorhub/session/Counts$AnswerClass", name := "of", desc := "(I)Ljava/util/Optional;" } : Jvm.MethodName) prog_16_method_5_code (2 : Nat) (Option.some (Jvm.ClassFile.FieldType.object "java/util/Optional"))).before args0 about1 = true := code_word (m := ⟨6, 1⟩) (meth := k6m1) (c := k6c1) (by decide +kernel) rfl rfl rfl (by decide +kernel)
set_option maxRecDepth 65536 in
theorem w_c4 : (Jvm.Cond.code ({ cls := "java/util/Optional", name := "empty", desc := "()Ljava/util/Optional;" } : Jvm.MethodName) jdk_32_method_1_code (1 : Nat) (Option.some (Jvm.ClassFile.FieldType.object "java/util/Optional"))).before args0 about1 = true := code_word (m := ⟨7, 0⟩) (meth := k7m0) (c := k7c0) (by decide +kernel) rfl rfl rfl (by decide +kernel)
set_option maxRecDepth 65536 in
theorem w_c5 : (Jvm.Cond.code ({ cls := "java/util/Optional", name := "isPresent", desc := "()Z" } : Jvm.MethodName) jdk_32_method_6_code (1 : Nat) (Option.some Jvm.ClassFile.FieldType.boolean)).before args0 about1 = true := code_word (m := ⟨7, 4⟩) (meth := k7m4) (c := k7c4) (by decide +kernel) rfl rfl rfl (by decide +kernel)
set_option maxRecDepth 65536 in
theorem w_c6 : (Jvm.Cond.code ({ cls := "com/example/corridor_hub/corridorhub/session/Counts$AnswerClass", name := "values", desc := "()[Lcom/example/corridor_hub/corridorhub/session/Counts$AnswerClass;" } : Jvm.MethodName) prog_16_method_1_code (0 : Nat) (Option.some (Jvm.ClassFile.FieldType.array (Jvm.ClassFile.FieldType.object "com/example/corridor_hub/corridorhub/session/Counts$AnswerClass")))).before args0 about1 = true := code_word (m := ⟨6, 0⟩) (meth := k6m0) (c := k6c0) (by decide +kernel) rfl rfl rfl (by decide +kernel)
set_option maxRecDepth 65536 in
theorem w_c7 : (Jvm.Cond.code ({ cls := "java/util/Optional", name := "of", desc := "(Ljava/lang/Object;)Ljava/util/Optional;" } : Jvm.MethodName) jdk_32_method_3_code (1 : Nat) (Option.some (Jvm.ClassFile.FieldType.object "java/util/Optional"))).before args0 about1 = true := code_word (m := ⟨7, 2⟩) (meth := k7m2) (c := k7c2) (by decide +kernel) rfl rfl rfl (by decide +kernel)
set_option maxRecDepth 65536 in
theorem w_c8 : (Jvm.Cond.code ({ cls := "java/util/Objects", name := "requireNonNull", desc := "(Ljava/lang/Object;)Ljava/lang/Object;" } : Jvm.MethodName) jdk_31_method_10_code (1 : Nat) (Option.some (Jvm.ClassFile.FieldType.object "java/lang/Object"))).before args0 about1 = true := code_word (m := ⟨9, 1⟩) (meth := k9m1) (c := k9c1) (by decide +kernel) rfl rfl rfl (by decide +kernel)
set_option maxRecDepth 65536 in
theorem w_c9 : (Jvm.Cond.code ({ cls := "java/util/Optional", name := "<init>", desc := "(Ljava/lang/Object;)V" } : Jvm.MethodName) jdk_32_method_2_code (2 : Nat) (Option.none : Option Jvm.ClassFile.FieldType)).before args0 about1 = true := code_word (m := ⟨7, 1⟩) (meth := k7m1) (c := k7c1) (by decide +kernel) rfl rfl rfl (by decide +kernel)
set_option maxRecDepth 65536 in
theorem w_c10 : (Jvm.Cond.code ({ cls := "java/lang/Object", name := "<init>", desc := "()V" } : Jvm.MethodName) object_method_1_code (1 : Nat) (Option.none : Option Jvm.ClassFile.FieldType)).before args0 about1 = true := code_word (m := ⟨0, 0⟩) (meth := k0m0) (c := k0c0) (by decide +kernel) rfl rfl rfl (by decide +kernel)
set_option maxRecDepth 65536 in
theorem w_c11 : (Jvm.Cond.code ({ cls := "java/util/Optional", name := "get", desc := "()Ljava/lang/Object;" } : Jvm.MethodName) jdk_32_method_5_code (1 : Nat) (Option.some (Jvm.ClassFile.FieldType.object "java/lang/Object"))).before args0 about1 = true := code_word (m := ⟨7, 3⟩) (meth := k7m3) (c := k7c3) (by decide +kernel) rfl rfl rfl (by decide +kernel)
def codes1 : List Jvm.Cond := [Jvm.Cond.code x code maxLocals ret, Jvm.Cond.code ({ cls := "com/example/corridor_hub/corridorhub/session/AnswerClassOfPinLaw", name := "check", desc := "(I)Z" } : Jvm.MethodName) method_3_code (3 : Nat) (Option.some Jvm.ClassFile.FieldType.boolean), Jvm.Cond.code ({ cls := "com/example/corridor_hub/corridorhub/session/AnswerClassOfPinLaw", name := "expected", desc := "(I)Lcom/example/corridor_hub/corridorhub/session/Counts$AnswerClass;" } : Jvm.MethodName) method_2_code (1 : Nat) (Option.some (Jvm.ClassFile.FieldType.object "com/example/corridor_hub/corridorhub/session/Counts$AnswerClass")), Jvm.Cond.code ({ cls := "com/example/corridor_hub/corridorhub/session/Counts$AnswerClass", name := "of", desc := "(I)Ljava/util/Optional;" } : Jvm.MethodName) prog_16_method_5_code (2 : Nat) (Option.some (Jvm.ClassFile.FieldType.object "java/util/Optional")), Jvm.Cond.code ({ cls := "java/util/Optional", name := "empty", desc := "()Ljava/util/Optional;" } : Jvm.MethodName) jdk_32_method_1_code (1 : Nat) (Option.some (Jvm.ClassFile.FieldType.object "java/util/Optional")), Jvm.Cond.code ({ cls := "java/util/Optional", name := "isPresent", desc := "()Z" } : Jvm.MethodName) jdk_32_method_6_code (1 : Nat) (Option.some Jvm.ClassFile.FieldType.boolean), Jvm.Cond.code ({ cls := "com/example/corridor_hub/corridorhub/session/Counts$AnswerClass", name := "values", desc := "()[Lcom/example/corridor_hub/corridorhub/session/Counts$AnswerClass;" } : Jvm.MethodName) prog_16_method_1_code (0 : Nat) (Option.some (Jvm.ClassFile.FieldType.array (Jvm.ClassFile.FieldType.object "com/example/corridor_hub/corridorhub/session/Counts$AnswerClass"))), Jvm.Cond.code ({ cls := "java/util/Optional", name := "of", desc := "(Ljava/lang/Object;)Ljava/util/Optional;" } : Jvm.MethodName) jdk_32_method_3_code (1 : Nat) (Option.some (Jvm.ClassFile.FieldType.object "java/util/Optional")), Jvm.Cond.code ({ cls := "java/util/Objects", name := "requireNonNull", desc := "(Ljava/lang/Object;)Ljava/lang/Object;" } : Jvm.MethodName) jdk_31_method_10_code (1 : Nat) (Option.some (Jvm.ClassFile.FieldType.object "java/lang/Object")), Jvm.Cond.code ({ cls := "java/util/Optional", name := "<init>", desc := "(Ljava/lang/Object;)V" } : Jvm.MethodName) jdk_32_method_2_code (2 : Nat) (Option.none : Option Jvm.ClassFile.FieldType), Jvm.Cond.code ({ cls := "java/lang/Object", name := "<init>", desc := "()V" } : Jvm.MethodName) object_method_1_code (1 : Nat) (Option.none : Option Jvm.ClassFile.FieldType), Jvm.Cond.code ({ cls := "java/util/Optional", name := "get", desc := "()Ljava/lang/Object;" } : Jvm.MethodName) jdk_32_method_5_code (1 : Nat) (Option.some (Jvm.ClassFile.FieldType.object "java/lang/Object"))]
set_option maxRecDepth 65536 in
theorem codes_eq : words1.filter isCode = codes1 := rfl
theorem w_codes : ∀ c ∈ words1.filter isCode, c.before args0 about1 = true := by
  rw [codes_eq]
  intro c hc
  simp only [codes1, List.mem_cons, List.not_mem_nil, or_false] at hc
  rcases hc with rfl | rfl | rfl | rfl | rfl | rfl | rfl | rfl | rfl | rfl | rfl | rfl
  · exact w_c0
  · exact w_c1
  · exact w_c2
  · exact w_c3
  · exact w_c4
  · exact w_c5
  · exact w_c6
  · exact w_c7
  · exact w_c8
  · exact w_c9
  · exact w_c10
  · exact w_c11
set_option maxRecDepth 65536 in
theorem w_t1 : (words1.take 24).all (fun c => isCode c || c.before args0 about1) = true := by decide +kernel
set_option maxRecDepth 65536 in
theorem w_t2 : ((words1.drop 24).take 24).all (fun c => isCode c || c.before args0 about1) = true := by decide +kernel
set_option maxRecDepth 65536 in
theorem w_t3 : ((words1.drop 24).drop 24).all (fun c => isCode c || c.before args0 about1) = true := by decide +kernel
theorem w_tables : (allAtoms (Jvm.Cond.code x code maxLocals ret :: tables_1)).before args0 about1 = true := by
  rw [allAtoms_all]
  show words1.all (fun c => c.before args0 about1) = true
  refine all_split ?_ w_codes
  rw [← List.take_append_drop 24 words1, List.all_append, w_t1, ← List.take_append_drop 24 (words1.drop 24), List.all_append, w_t2, w_t3]
  rfl
set_option maxRecDepth 65536 in
theorem w_rest : rest_1_c.before args0 about1 = true := by decide +kernel
set_option maxRecDepth 65536 in
theorem w_case : (Jvm.Cond.and given_1 narrow_1).before args0 about1 = true := by decide +kernel
theorem w_applies : (headSpec (Jvm.Cond.code x code maxLocals ret :: tables_1) room_1).applies x e0.platform about1 = true :=
  (Spec.applies_iff w_frames).mpr ⟨w_running, w_runnable, w_alone, w_named, w_hears, w_ripe, w_room, w_tables⟩
theorem atStart : AtStart classFile x code maxLocals ret World_1 tables_1 room_1 Calls_1 rest_1 Pre_1 launch0 p0 e0 about1 theMethod args0 below0 :=
  ⟨lists_1, trivial, launch0.admits_env _ _ _, launch0.least_env, fairChoices_fair.cas, fairChoices_fair.clock, w_frames, w_args, w_heap, w_applies, trivial, w_rest, w_case⟩
end start1
theorem witness_1 : WitnessClaimed_1 := ⟨start1.p0, start1.e0, start1.about1, start1.theMethod, start1.args0, start1.below0, start1.atStart⟩
end Jvm.Pilot.@@N@@
