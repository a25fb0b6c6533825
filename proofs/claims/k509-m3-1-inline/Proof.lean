import JvmDerived
import JvmDerived.Pilot.@@N@@Statement
import JvmDerived.Pilot.@@N@@Code
set_option linter.unusedVariables false
set_option linter.unusedSimpArgs false
@@BLOCK:LamKit.lean.txt@@
namespace Jvm.Pilot.@@N@@
open Jvm Jvm.ClassFile Sem Op Lib Jvm.Free Jvm.Stand Jvm.LawKit Jvm.RoadKit Bundle Jvm.Pilot.@@N@@.Jvm.D
/-! own kit: walks in continuation form -/
def Go (p : Program) (e : Env) (below : List Frame) (P : State → Outcome → Prop) (A : State) : Prop := ∃ t o, Steps p.tables e below A t ∧ t.status = .running ∧ Ended t below o ∧ P t o
/-- the facts on the body that is walked, which no step moves -/
def Bo (Z : State) (p : Program) (s : State) (m : MethodId) (meth : Method) (c : Code) (own nm : String) (bytes : ByteArray) (maxL : Nat) (ret : Option FieldType) : Prop :=
  p.tables.exec = Jvm.exec ∧ c.code = bytes ∧ c.maxLocals = maxL ∧ Z.Warmed39 s.vm ∧ s.vm.findClass own = some m.cls ∧ meth.name = nm ∧ meth.sig.returnType = ret ∧ meth.locks = false
/-- what an end must be -/
def EndsQ (s : State) (Q : Option Value → Heap → List Loc → Prop) (cc ss : Nat) : State → Outcome → Prop := fun t o => ∃ v L, o = .returned v ∧ Q v t.heap L ∧ FrameEnd s o t L cc ss
/-- a body's contract -/
def Ctr (l : Launch) (Z : State) (y : MethodName) (bytes : ByteArray) (maxL : Nat) (ret : Option FieldType) (rm : Room) (as : Array Value) (h0 : Heap) (Q : Option Value → Heap → List Loc → Prop) : Prop :=
  ∀ ws, MetFree l y (head1 (Jvm.Cond.code y bytes maxL ret :: ws) rm) (fun a U => a = as ∧ Z.Warmed39 U.vm ∧ U.heap = h0) (fun _ _ _ _ _ => True) (fun _ U o U' => ∃ v L, o = .returned v ∧ Q v U'.heap L ∧ FrameEnd U o U' L rm.cells rm.slots)
/-! own: an array whose whole contents are known -/
def Av (Z : State) (h : Heap) (a : Addr) (ty : FieldType) (vs : List Value) : Prop := ∃ c : Cell, Arr Z h a c ty ∧ c.slots.toList = vs
theorem Av.lt {Z : State} {h : Heap} {a : Addr} {ty : FieldType} {vs : List Value} (A : Av Z h a ty vs) : a < h.size := by obtain ⟨c, q, -⟩ := A; exact q.lt
theorem Av.ext {Z : State} {h h' : Heap} {a : Addr} {ty : FieldType} {vs : List Value} (A : Av Z h a ty vs) (E : Ext h h') : Av Z h' a ty vs := by obtain ⟨c, q, r⟩ := A; exact ⟨c, q.ext E, r⟩
theorem Av.other {Z : State} {h h' : Heap} {a b : Addr} {ty : FieldType} {vs : List Value} {sl : Nat} {v : Value} (A : Av Z h b ty vs) (W : Wr h h' a sl v) (q : b ≠ a) : Av Z h' b ty vs := by obtain ⟨c, q1, r⟩ := A; exact ⟨c, q1.other W q, r⟩
theorem Av.keep {Z : State} {h h' : Heap} {a : Addr} {ty : FieldType} {vs : List Value} {ws : List Addr} (A : Av Z h a ty vs) (K : Keep h h' ws) (q : a ∉ ws) : Av Z h' a ty vs := by obtain ⟨c, q1, r⟩ := A; exact ⟨c, ⟨K.2.1 a c q1.1 q, q1.2⟩, r⟩
theorem Av.set {Z : State} {h h' : Heap} {a : Addr} {ty : FieldType} {vs : List Value} {i : Nat} {v : Value} (A : Av Z h a ty vs) (W : Wr h h' a i v) : Av Z h' a ty (vs.set i v) := by
  obtain ⟨c, q, rfl⟩ := A
  exact ⟨_, q.same W, by simp [Cell.setSlot]⟩
theorem Av.inb {Z : State} {h : Heap} {a : Addr} {ty : FieldType} {vs : List Value} {c : Cell} (q : c.slots.toList = vs) {j : Int32} {i : Nat} (hi : j.toNatClampNeg = i) (h0 : ¬ j < 0) (hl : i < vs.length) : ¬ (j < 0 ∨ c.slots.size ≤ j.toNatClampNeg) := by
  subst q hi
  simp only [Array.length_toList] at hl
  exact fun z => z.elim h0 (fun w => absurd hl (Nat.not_lt.mpr w))
section OwnKit
variable {p : Program} {l : Launch} {e : Env} {R : Room} {s : State} {m : MethodId} {args : Array Value} {below : List Frame} {meth : Method} {c : Code} {T : State} {locs : List Loc} {cells slots : Nat} {Z : State} {a0 : Array Value} {h : Heap} {P : State → Outcome → Prop} {pc : Nat} {Ls : Array Slot} {st rest : List Value} {own nm : String} {bytes : ByteArray} {maxL : Nat} {ret : Option FieldType}
theorem Bo.x (B : Bo Z p s m meth c own nm bytes maxL ret) : p.tables.exec = Jvm.exec := B.1
theorem Bo.z (B : Bo Z p s m meth c own nm bytes maxL ret) : Z.Warmed39 s.vm := B.2.2.2.1
theorem Bo.o (B : Bo Z p s m meth c own nm bytes maxL ret) : s.vm.findClass own = some m.cls := B.2.2.2.2.1
theorem Bo.d (B : Bo Z p s m meth c own nm bytes maxL ret) {r : Except ClassFile.DecodeError (ClassFile.Instr × Nat)} (q : decode bytes pc = r) : decode c.code pc = r := hb B.2.1 q
theorem Bo.n (B : Bo Z p s m meth c own nm bytes maxL ret) : meth.name = nm := B.2.2.2.2.2.1
theorem Bo.r (B : Bo Z p s m meth c own nm bytes maxL ret) : meth.sig.returnType = ret := B.2.2.2.2.2.2.1
theorem Bo.lk (B : Bo Z p s m meth c own nm bytes maxL ret) : meth.locks = false := B.2.2.2.2.2.2.2
theorem Bo.mx (B : Bo Z p s m meth c own nm bytes maxL ret) (q : Ls.size = maxL) {pc : Nat} {st : List Value} : (mkF m pc Ls st).locals.size = c.maxLocals := by rw [B.2.2.1]; exact q
theorem Go.via {A A' : State} (q : ∀ t, Steps p.tables e below A' t → Steps p.tables e below A t) (g : Go p e below P A') : Go p e below P A := by
  obtain ⟨t, o, h1, h2⟩ := g
  exact ⟨t, o, q t h1, h2⟩
theorem Go.cast {f f' : JFrame} (q : f = f') (g : Go p e below P (T.setTop f')) : Go p e below P (T.setTop f) := q ▸ g
theorem Ctr.of {y : MethodName} {rm : Room} {as : Array Value} {h0 : Heap} {Q : Option Value → Heap → List Loc → Prop} (hn : plainFor y = true)
    (body : ∀ (p : Program) (e : Env) (s : State) (m : MethodId) (below : List Frame) (meth : Method) (c : Code) (T : State), Stand p l e rm s m as below meth c T [] 0 0 → Bo Z p s m meth c y.cls y.name bytes maxL ret → T.heap = h0 → Go p e below (EndsQ s Q rm.cells rm.slots) (T.setTop (entryFrame m as maxL))) :
    Ctr l Z y bytes maxL ret rm as h0 Q := by
  intro ws
  refine MetFree.of_bodySF hn hisR ?_
  intro p e s m args below meth c s₁ Bd hml0 hP hK
  obtain ⟨rfl, hZ, hh⟩ := hP
  exact body p e s m below meth c s₁ (Stand.of_body Bd) ⟨Bd.exec, Bd.bytes, hml0, hZ, findClass_of_methodNamed Bd.named, (name_of_methodNamed Bd.named Bd.method).1, Bd.returns, BodyLoose.notSynchronized Bd⟩ (by rw [← hh, Bd.state]; rfl)
theorem Ctr.back {y : MethodName} {rm : Room} {as : Array Value} {Q : Option Value → Heap → List Loc → Prop} {W len : Nat} (C : Ctr l Z y bytes maxL ret rm as h Q) (hZ : Z.Warmed39 s.vm) (wc : (Jvm.Cond.code y bytes maxL ret).before a0 Z = true) (wz : (Jvm.Cond.initialized y.cls).before a0 Z = true) (hf : rm.frames + 1 ≤ R.frames) (hl : W + (maxL + 11) + rm.locals ≤ R.locals) :
    Back l R p e below s args y len W (fun A a => a = as ∧ A.U.heap = h ∧ A.cells + rm.cells ≤ R.cells ∧ A.slots + rm.slots ≤ R.slots)
      (fun A _ v B => ∃ L, Q v B.U.heap L ∧ B.locs = A.locs ++ L ∧ B.cells = A.cells + rm.cells ∧ B.slots = A.slots + rm.slots) := backOf (C []) hZ wc wz hf hl
theorem g_iloadN (X : Stand p l e R s m args below meth c T locs cells slots) (B : Bo Z p s m meth c own nm bytes maxL ret) {k : Fin 4} {v : Int32} (q : decode bytes pc = .ok (.iload_n k, 1)) (pc' : Nat) (hp : pc + 1 = pc') (u : Ls[k.val]? = some (.val (.int v))) (g : Go p e below P (T.setTop (mkF m pc' Ls (.int v :: st)))) : Go p e below P (T.setTop (mkF m pc Ls st)) := by
  subst hp
  exact g.via fun _ => XS.iloadN X.here B.x rfl (B.d q) u
theorem g_iload (X : Stand p l e R s m args below meth c T locs cells slots) (B : Bo Z p s m meth c own nm bytes maxL ret) {k : Nat} {v : Int32} (q : decode bytes pc = .ok (.iload k, 2)) (pc' : Nat) (hp : pc + 2 = pc') (u : Ls[k]? = some (.val (.int v))) (g : Go p e below P (T.setTop (mkF m pc' Ls (.int v :: st)))) : Go p e below P (T.setTop (mkF m pc Ls st)) := by
  subst hp
  exact g.via fun _ => XS.iload X.here B.x rfl (B.d q) u
theorem g_aloadN (X : Stand p l e R s m args below meth c T locs cells slots) (B : Bo Z p s m meth c own nm bytes maxL ret) {k : Fin 4} {v : Value} (q : decode bytes pc = .ok (.aload_n k, 1)) (pc' : Nat) (hp : pc + 1 = pc') (u : Ls[k.val]? = some (.val v)) (i : v.isRef = true) (g : Go p e below P (T.setTop (mkF m pc' Ls (v :: st)))) : Go p e below P (T.setTop (mkF m pc Ls st)) := by
  subst hp
  exact g.via fun _ => XS.aloadN X.here B.x rfl (B.d q) u i
theorem g_aload (X : Stand p l e R s m args below meth c T locs cells slots) (B : Bo Z p s m meth c own nm bytes maxL ret) {k : Nat} {v : Value} (q : decode bytes pc = .ok (.aload k, 2)) (pc' : Nat) (hp : pc + 2 = pc') (u : Ls[k]? = some (.val v)) (i : v.isRef = true) (g : Go p e below P (T.setTop (mkF m pc' Ls (v :: st)))) : Go p e below P (T.setTop (mkF m pc Ls st)) := by
  subst hp
  exact g.via fun _ => XS.aload X.here B.x rfl (B.d q) u i
theorem g_lloadN (X : Stand p l e R s m args below meth c T locs cells slots) (B : Bo Z p s m meth c own nm bytes maxL ret) {k : Fin 4} {v : Int64} (q : decode bytes pc = .ok (.lload_n k, 1)) (pc' : Nat) (hp : pc + 1 = pc') (u : Ls[k.val]? = some (.val (.long v))) (g : Go p e below P (T.setTop (mkF m pc' Ls (.long v :: st)))) : Go p e below P (T.setTop (mkF m pc Ls st)) := by
  subst hp
  exact g.via fun _ => XT.lloadN X.here B.x rfl (B.d q) u
theorem g_lload (X : Stand p l e R s m args below meth c T locs cells slots) (B : Bo Z p s m meth c own nm bytes maxL ret) {k : Nat} {v : Int64} (q : decode bytes pc = .ok (.lload k, 2)) (pc' : Nat) (hp : pc + 2 = pc') (u : Ls[k]? = some (.val (.long v))) (g : Go p e below P (T.setTop (mkF m pc' Ls (.long v :: st)))) : Go p e below P (T.setTop (mkF m pc Ls st)) := by
  subst hp
  exact g.via fun _ => XT.lload X.here B.x rfl (B.d q) u
theorem g_istoreN (X : Stand p l e R s m args below meth c T locs cells slots) (B : Bo Z p s m meth c own nm bytes maxL ret) {k : Fin 4} {x : Int32} (l' : Array Slot) (q : decode bytes pc = .ok (.istore_n k, 1)) (pc' : Nat) (hp : pc + 1 = pc') (u : storeLocals Ls k.val (.int x) = some l') (g : Go p e below P (T.setTop (mkF m pc' l' st))) : Go p e below P (T.setTop (mkF m pc Ls (.int x :: st))) := by
  subst hp
  exact g.via fun _ => XS.istoreN X.here B.x rfl (B.d q) rfl u
theorem g_istore (X : Stand p l e R s m args below meth c T locs cells slots) (B : Bo Z p s m meth c own nm bytes maxL ret) {k : Nat} {x : Int32} (l' : Array Slot) (q : decode bytes pc = .ok (.istore k, 2)) (pc' : Nat) (hp : pc + 2 = pc') (u : storeLocals Ls k (.int x) = some l') (g : Go p e below P (T.setTop (mkF m pc' l' st))) : Go p e below P (T.setTop (mkF m pc Ls (.int x :: st))) := by
  subst hp
  exact g.via fun _ => XS.istore X.here B.x rfl (B.d q) rfl u
theorem g_astoreN (X : Stand p l e R s m args below meth c T locs cells slots) (B : Bo Z p s m meth c own nm bytes maxL ret) {k : Fin 4} {x : Value} (l' : Array Slot) (q : decode bytes pc = .ok (.astore_n k, 1)) (pc' : Nat) (hp : pc + 1 = pc') (i : x.isRef = true) (u : storeLocals Ls k.val x = some l') (g : Go p e below P (T.setTop (mkF m pc' l' st))) : Go p e below P (T.setTop (mkF m pc Ls (x :: st))) := by
  subst hp
  exact g.via fun _ => XS.astoreN X.here B.x rfl (B.d q) rfl i u
theorem g_astore (X : Stand p l e R s m args below meth c T locs cells slots) (B : Bo Z p s m meth c own nm bytes maxL ret) {k : Nat} {x : Value} (l' : Array Slot) (q : decode bytes pc = .ok (.astore k, 2)) (pc' : Nat) (hp : pc + 2 = pc') (i : x.isRef = true) (u : storeLocals Ls k x = some l') (g : Go p e below P (T.setTop (mkF m pc' l' st))) : Go p e below P (T.setTop (mkF m pc Ls (x :: st))) := by
  subst hp
  exact g.via fun _ => XS.astore X.here B.x rfl (B.d q) rfl i u
theorem g_lstoreN (X : Stand p l e R s m args below meth c T locs cells slots) (B : Bo Z p s m meth c own nm bytes maxL ret) {k : Fin 4} {x : Int64} (l' : Array Slot) (q : decode bytes pc = .ok (.lstore_n k, 1)) (pc' : Nat) (hp : pc + 1 = pc') (u : storeLocals Ls k.val (.long x) = some l') (g : Go p e below P (T.setTop (mkF m pc' l' st))) : Go p e below P (T.setTop (mkF m pc Ls (.long x :: st))) := by
  subst hp
  exact g.via fun _ => XT.lstoreN X.here B.x rfl (B.d q) rfl u
theorem g_lstore (X : Stand p l e R s m args below meth c T locs cells slots) (B : Bo Z p s m meth c own nm bytes maxL ret) {k : Nat} {x : Int64} (l' : Array Slot) (q : decode bytes pc = .ok (.lstore k, 2)) (pc' : Nat) (hp : pc + 2 = pc') (u : storeLocals Ls k (.long x) = some l') (g : Go p e below P (T.setTop (mkF m pc' l' st))) : Go p e below P (T.setTop (mkF m pc Ls (.long x :: st))) := by
  subst hp
  exact g.via fun _ => XT.lstore X.here B.x rfl (B.d q) rfl u
theorem g_iconst (X : Stand p l e R s m args below meth c T locs cells slots) (B : Bo Z p s m meth c own nm bytes maxL ret) {i : Int} (v : Int32) (q : decode bytes pc = .ok (.iconst i, 1)) (pc' : Nat) (hp : pc + 1 = pc') (u : Int32.ofInt i = v) (g : Go p e below P (T.setTop (mkF m pc' Ls (.int v :: st)))) : Go p e below P (T.setTop (mkF m pc Ls st)) := by
  subst hp
  exact g.via fun _ => XT.iconstV X.here B.x rfl v (B.d q) u
theorem g_bipush (X : Stand p l e R s m args below meth c T locs cells slots) (B : Bo Z p s m meth c own nm bytes maxL ret) {i : Int} (v : Int32) (q : decode bytes pc = .ok (.bipush i, 2)) (pc' : Nat) (hp : pc + 2 = pc') (u : (Int8.ofInt i).toInt32 = v) (g : Go p e below P (T.setTop (mkF m pc' Ls (.int v :: st)))) : Go p e below P (T.setTop (mkF m pc Ls st)) := by
  subst hp
  exact g.via fun _ => XT.bipushV X.here B.x rfl v (B.d q) u
theorem g_sipush (X : Stand p l e R s m args below meth c T locs cells slots) (B : Bo Z p s m meth c own nm bytes maxL ret) {i : Int} (v : Int32) (q : decode bytes pc = .ok (.sipush i, 3)) (pc' : Nat) (hp : pc + 3 = pc') (u : (Int16.ofInt i).toInt32 = v) (g : Go p e below P (T.setTop (mkF m pc' Ls (.int v :: st)))) : Go p e below P (T.setTop (mkF m pc Ls st)) := by
  subst hp
  exact g.via fun _ => XT.sipushV X.here B.x rfl v (B.d q) u
theorem g_lconst (X : Stand p l e R s m args below meth c T locs cells slots) (B : Bo Z p s m meth c own nm bytes maxL ret) {k : Fin 2} (v : Int64) (q : decode bytes pc = .ok (.lconst k, 1)) (pc' : Nat) (hp : pc + 1 = pc') (u : Int64.ofNat k = v) (g : Go p e below P (T.setTop (mkF m pc' Ls (.long v :: st)))) : Go p e below P (T.setTop (mkF m pc Ls st)) := by
  subst hp
  exact g.via fun _ => XT.lconstV X.here B.x rfl v (B.d q) u
theorem g_aconstNull (X : Stand p l e R s m args below meth c T locs cells slots) (B : Bo Z p s m meth c own nm bytes maxL ret)  (q : decode bytes pc = .ok (.aconst_null, 1)) (pc' : Nat) (hp : pc + 1 = pc')  (g : Go p e below P (T.setTop (mkF m pc' Ls (.null :: st)))) : Go p e below P (T.setTop (mkF m pc Ls st)) := by
  subst hp
  exact g.via fun _ => XS.aconstNull X.here B.x rfl (B.d q)
theorem g_iadd (X : Stand p l e R s m args below meth c T locs cells slots) (B : Bo Z p s m meth c own nm bytes maxL ret) {x y : Int32} (q : decode bytes pc = .ok (.iadd, 1)) (pc' : Nat) (hp : pc + 1 = pc')  (g : Go p e below P (T.setTop (mkF m pc' Ls (.int (x + y) :: st)))) : Go p e below P (T.setTop (mkF m pc Ls (.int y :: .int x :: st))) := by
  subst hp
  exact g.via fun _ => XS.iadd X.here B.x rfl (B.d q) rfl
theorem g_isub (X : Stand p l e R s m args below meth c T locs cells slots) (B : Bo Z p s m meth c own nm bytes maxL ret) {x y : Int32} (q : decode bytes pc = .ok (.isub, 1)) (pc' : Nat) (hp : pc + 1 = pc')  (g : Go p e below P (T.setTop (mkF m pc' Ls (.int (x - y) :: st)))) : Go p e below P (T.setTop (mkF m pc Ls (.int y :: .int x :: st))) := by
  subst hp
  exact g.via fun _ => XS.isub X.here B.x rfl (B.d q) rfl
theorem g_imul (X : Stand p l e R s m args below meth c T locs cells slots) (B : Bo Z p s m meth c own nm bytes maxL ret) {x y : Int32} (q : decode bytes pc = .ok (.imul, 1)) (pc' : Nat) (hp : pc + 1 = pc')  (g : Go p e below P (T.setTop (mkF m pc' Ls (.int (x * y) :: st)))) : Go p e below P (T.setTop (mkF m pc Ls (.int y :: .int x :: st))) := by
  subst hp
  exact g.via fun _ => XS.imul X.here B.x rfl (B.d q) rfl
theorem g_iand (X : Stand p l e R s m args below meth c T locs cells slots) (B : Bo Z p s m meth c own nm bytes maxL ret) {x y : Int32} (q : decode bytes pc = .ok (.iand, 1)) (pc' : Nat) (hp : pc + 1 = pc')  (g : Go p e below P (T.setTop (mkF m pc' Ls (.int (x &&& y) :: st)))) : Go p e below P (T.setTop (mkF m pc Ls (.int y :: .int x :: st))) := by
  subst hp
  exact g.via fun _ => XS.iand X.here B.x rfl (B.d q) rfl
theorem g_ixor (X : Stand p l e R s m args below meth c T locs cells slots) (B : Bo Z p s m meth c own nm bytes maxL ret) {x y : Int32} (q : decode bytes pc = .ok (.ixor, 1)) (pc' : Nat) (hp : pc + 1 = pc')  (g : Go p e below P (T.setTop (mkF m pc' Ls (.int (x ^^^ y) :: st)))) : Go p e below P (T.setTop (mkF m pc Ls (.int y :: .int x :: st))) := by
  subst hp
  exact g.via fun _ => XT.ixor X.here B.x rfl (B.d q) rfl
theorem g_ior (X : Stand p l e R s m args below meth c T locs cells slots) (B : Bo Z p s m meth c own nm bytes maxL ret) {x y : Int32} (q : decode bytes pc = .ok (.ior, 1)) (pc' : Nat) (hp : pc + 1 = pc')  (g : Go p e below P (T.setTop (mkF m pc' Ls (.int (x ||| y) :: st)))) : Go p e below P (T.setTop (mkF m pc Ls (.int y :: .int x :: st))) := by
  subst hp
  exact g.via fun _ => XT.ior X.here B.x rfl (B.d q) rfl
theorem g_ishl (X : Stand p l e R s m args below meth c T locs cells slots) (B : Bo Z p s m meth c own nm bytes maxL ret) {x y : Int32} (q : decode bytes pc = .ok (.ishl, 1)) (pc' : Nat) (hp : pc + 1 = pc')  (g : Go p e below P (T.setTop (mkF m pc' Ls (.int (x <<< (y &&& 31)) :: st)))) : Go p e below P (T.setTop (mkF m pc Ls (.int y :: .int x :: st))) := by
  subst hp
  exact g.via fun _ => XT.ishl X.here B.x rfl (B.d q) rfl
theorem g_ishr (X : Stand p l e R s m args below meth c T locs cells slots) (B : Bo Z p s m meth c own nm bytes maxL ret) {x y : Int32} (q : decode bytes pc = .ok (.ishr, 1)) (pc' : Nat) (hp : pc + 1 = pc')  (g : Go p e below P (T.setTop (mkF m pc' Ls (.int (x >>> (y &&& 31)) :: st)))) : Go p e below P (T.setTop (mkF m pc Ls (.int y :: .int x :: st))) := by
  subst hp
  exact g.via fun _ => XT.ishr X.here B.x rfl (B.d q) rfl
theorem g_iushr (X : Stand p l e R s m args below meth c T locs cells slots) (B : Bo Z p s m meth c own nm bytes maxL ret) {x y : Int32} (q : decode bytes pc = .ok (.iushr, 1)) (pc' : Nat) (hp : pc + 1 = pc')  (g : Go p e below P (T.setTop (mkF m pc' Ls (.int (XT.ushr x y) :: st)))) : Go p e below P (T.setTop (mkF m pc Ls (.int y :: .int x :: st))) := by
  subst hp
  exact g.via fun _ => XT.iushr X.here B.x rfl (B.d q) rfl
theorem g_idiv (X : Stand p l e R s m args below meth c T locs cells slots) (B : Bo Z p s m meth c own nm bytes maxL ret) {x y : Int32} (q : decode bytes pc = .ok (.idiv, 1)) (pc' : Nat) (hp : pc + 1 = pc') (u : y ≠ 0) (g : Go p e below P (T.setTop (mkF m pc' Ls (.int (x / y) :: st)))) : Go p e below P (T.setTop (mkF m pc Ls (.int y :: .int x :: st))) := by
  subst hp
  exact g.via fun _ => XS.idiv X.here B.x rfl (B.d q) rfl u
theorem g_irem (X : Stand p l e R s m args below meth c T locs cells slots) (B : Bo Z p s m meth c own nm bytes maxL ret) {x y : Int32} (q : decode bytes pc = .ok (.irem, 1)) (pc' : Nat) (hp : pc + 1 = pc') (u : y ≠ 0) (g : Go p e below P (T.setTop (mkF m pc' Ls (.int (x % y) :: st)))) : Go p e below P (T.setTop (mkF m pc Ls (.int y :: .int x :: st))) := by
  subst hp
  exact g.via fun _ => iremM X B.x rfl (B.d q) rfl u
theorem g_ineg (X : Stand p l e R s m args below meth c T locs cells slots) (B : Bo Z p s m meth c own nm bytes maxL ret) {x : Int32} (q : decode bytes pc = .ok (.ineg, 1)) (pc' : Nat) (hp : pc + 1 = pc')  (g : Go p e below P (T.setTop (mkF m pc' Ls (.int (-x) :: st)))) : Go p e below P (T.setTop (mkF m pc Ls (.int x :: st))) := by
  subst hp
  exact g.via fun _ => XS.ineg X.here B.x rfl (B.d q) rfl
theorem g_iinc (X : Stand p l e R s m args below meth c T locs cells slots) (B : Bo Z p s m meth c own nm bytes maxL ret) {k : Nat} {cst : Int} {x : Int32} (l' : Array Slot) (v : Int32) (q : decode bytes pc = .ok (.iinc k cst, 3)) (pc' : Nat) (hp : pc + 3 = pc') (w : Int32.ofInt cst = v) (u : Ls[k]? = some (.val (.int x))) (u2 : storeLocals Ls k (.int (x + v)) = some l') (g : Go p e below P (T.setTop (mkF m pc' l' st))) : Go p e below P (T.setTop (mkF m pc Ls st)) := by
  subst hp
  exact g.via fun _ => XT.iincV X.here B.x rfl v (B.d q) w u u2
theorem g_ladd (X : Stand p l e R s m args below meth c T locs cells slots) (B : Bo Z p s m meth c own nm bytes maxL ret) {x y : Int64} (q : decode bytes pc = .ok (.ladd, 1)) (pc' : Nat) (hp : pc + 1 = pc')  (g : Go p e below P (T.setTop (mkF m pc' Ls (.long (x + y) :: st)))) : Go p e below P (T.setTop (mkF m pc Ls (.long y :: .long x :: st))) := by
  subst hp
  exact g.via fun _ => XT.ladd X.here B.x rfl (B.d q) rfl
theorem g_lsub (X : Stand p l e R s m args below meth c T locs cells slots) (B : Bo Z p s m meth c own nm bytes maxL ret) {x y : Int64} (q : decode bytes pc = .ok (.lsub, 1)) (pc' : Nat) (hp : pc + 1 = pc')  (g : Go p e below P (T.setTop (mkF m pc' Ls (.long (x - y) :: st)))) : Go p e below P (T.setTop (mkF m pc Ls (.long y :: .long x :: st))) := by
  subst hp
  exact g.via fun _ => XT.lsub X.here B.x rfl (B.d q) rfl
theorem g_land (X : Stand p l e R s m args below meth c T locs cells slots) (B : Bo Z p s m meth c own nm bytes maxL ret) {x y : Int64} (q : decode bytes pc = .ok (.land, 1)) (pc' : Nat) (hp : pc + 1 = pc')  (g : Go p e below P (T.setTop (mkF m pc' Ls (.long (x &&& y) :: st)))) : Go p e below P (T.setTop (mkF m pc Ls (.long y :: .long x :: st))) := by
  subst hp
  exact g.via fun _ => XT.land X.here B.x rfl (B.d q) rfl
theorem g_lor (X : Stand p l e R s m args below meth c T locs cells slots) (B : Bo Z p s m meth c own nm bytes maxL ret) {x y : Int64} (q : decode bytes pc = .ok (.lor, 1)) (pc' : Nat) (hp : pc + 1 = pc')  (g : Go p e below P (T.setTop (mkF m pc' Ls (.long (x ||| y) :: st)))) : Go p e below P (T.setTop (mkF m pc Ls (.long y :: .long x :: st))) := by
  subst hp
  exact g.via fun _ => XT.lor X.here B.x rfl (B.d q) rfl
theorem g_lxor (X : Stand p l e R s m args below meth c T locs cells slots) (B : Bo Z p s m meth c own nm bytes maxL ret) {x y : Int64} (q : decode bytes pc = .ok (.lxor, 1)) (pc' : Nat) (hp : pc + 1 = pc')  (g : Go p e below P (T.setTop (mkF m pc' Ls (.long (x ^^^ y) :: st)))) : Go p e below P (T.setTop (mkF m pc Ls (.long y :: .long x :: st))) := by
  subst hp
  exact g.via fun _ => XT.lxor X.here B.x rfl (B.d q) rfl
theorem g_lmul (X : Stand p l e R s m args below meth c T locs cells slots) (B : Bo Z p s m meth c own nm bytes maxL ret) {x y : Int64} (q : decode bytes pc = .ok (.lmul, 1)) (pc' : Nat) (hp : pc + 1 = pc')  (g : Go p e below P (T.setTop (mkF m pc' Ls (.long (x * y) :: st)))) : Go p e below P (T.setTop (mkF m pc Ls (.long y :: .long x :: st))) := by
  subst hp
  exact g.via fun _ => XT.lmul X.here B.x rfl (B.d q) rfl
theorem g_i2b (X : Stand p l e R s m args below meth c T locs cells slots) (B : Bo Z p s m meth c own nm bytes maxL ret) {x : Int32} (q : decode bytes pc = .ok (.i2b, 1)) (pc' : Nat) (hp : pc + 1 = pc')  (g : Go p e below P (T.setTop (mkF m pc' Ls (.int (x.toInt8.toInt32) :: st)))) : Go p e below P (T.setTop (mkF m pc Ls (.int x :: st))) := by
  subst hp
  exact g.via fun _ => XT.i2b X.here B.x rfl (B.d q) rfl
theorem g_i2c (X : Stand p l e R s m args below meth c T locs cells slots) (B : Bo Z p s m meth c own nm bytes maxL ret) {x : Int32} (q : decode bytes pc = .ok (.i2c, 1)) (pc' : Nat) (hp : pc + 1 = pc')  (g : Go p e below P (T.setTop (mkF m pc' Ls (.int (x.toUInt32.toUInt16.toUInt32.toInt32) :: st)))) : Go p e below P (T.setTop (mkF m pc Ls (.int x :: st))) := by
  subst hp
  exact g.via fun _ => XT.i2c X.here B.x rfl (B.d q) rfl
theorem g_i2l (X : Stand p l e R s m args below meth c T locs cells slots) (B : Bo Z p s m meth c own nm bytes maxL ret) {x : Int32} (q : decode bytes pc = .ok (.i2l, 1)) (pc' : Nat) (hp : pc + 1 = pc')  (g : Go p e below P (T.setTop (mkF m pc' Ls (.long (x.toInt64) :: st)))) : Go p e below P (T.setTop (mkF m pc Ls (.int x :: st))) := by
  subst hp
  exact g.via fun _ => XT.i2l X.here B.x rfl (B.d q) rfl
theorem g_l2i (X : Stand p l e R s m args below meth c T locs cells slots) (B : Bo Z p s m meth c own nm bytes maxL ret) {x : Int64} (q : decode bytes pc = .ok (.l2i, 1)) (pc' : Nat) (hp : pc + 1 = pc')  (g : Go p e below P (T.setTop (mkF m pc' Ls (.int (x.toInt32) :: st)))) : Go p e below P (T.setTop (mkF m pc Ls (.long x :: st))) := by
  subst hp
  exact g.via fun _ => XT.l2i X.here B.x rfl (B.d q) rfl
theorem g_dup (X : Stand p l e R s m args below meth c T locs cells slots) (B : Bo Z p s m meth c own nm bytes maxL ret) {x : Value} (q : decode bytes pc = .ok (.dup, 1)) (pc' : Nat) (hp : pc + 1 = pc') (u : x.category = 1) (g : Go p e below P (T.setTop (mkF m pc' Ls (x :: x :: st)))) : Go p e below P (T.setTop (mkF m pc Ls (x :: st))) := by
  subst hp
  exact g.via fun _ => XS.dup X.here B.x rfl (B.d q) rfl u
theorem g_pop (X : Stand p l e R s m args below meth c T locs cells slots) (B : Bo Z p s m meth c own nm bytes maxL ret) {x : Value} (q : decode bytes pc = .ok (.pop, 1)) (pc' : Nat) (hp : pc + 1 = pc') (u : x.category = 1) (g : Go p e below P (T.setTop (mkF m pc' Ls st))) : Go p e below P (T.setTop (mkF m pc Ls (x :: st))) := by
  subst hp
  exact g.via fun _ => XT.pop X.here B.x rfl (B.d q) rfl u
theorem g_goto (X : Stand p l e R s m args below meth c T locs cells slots) (B : Bo Z p s m meth c own nm bytes maxL ret) {o : Int} (q : decode bytes pc = .ok (.goto o, 3)) (pc' : Nat) (hp : ((pc : Int) + o).toNat = pc') (ho : 0 ≤ (pc : Int) + o) (g : Go p e below P (T.setTop (mkF m pc' Ls st))) : Go p e below P (T.setTop (mkF m pc Ls st)) := g.via fun _ => XS.goto X.here B.x rfl rfl (B.d q) ho hp
theorem g_icmp_eq (X : Stand p l e R s m args below meth c T locs cells slots) (B : Bo Z p s m meth c own nm bytes maxL ret) {o : Int} {x y : Int32} (q : decode bytes pc = .ok (.if_icmp .eq o, 3)) (pt pf : Nat) (hp : ((pc : Int) + o).toNat = pt) (ho : 0 ≤ (pc : Int) + o) (hf : pc + 3 = pf) (g1 : x = y → Go p e below P (T.setTop (mkF m pt Ls st))) (g2 : ¬ x = y → Go p e below P (T.setTop (mkF m pf Ls st))) : Go p e below P (T.setTop (mkF m pc Ls (.int y :: .int x :: st))) := by
  subst hf
  by_cases w : x = y
  · exact (g1 w).via fun _ => XS.icmpYes X.here B.x rfl rfl (B.d q) rfl (by simp [if_icmp.holds, w, Int32.not_lt, Int32.not_le]) ho hp
  · exact (g2 w).via fun _ => XS.icmpNo X.here B.x rfl (B.d q) rfl (by simp [if_icmp.holds, w, Int32.not_lt, Int32.not_le])
theorem g_icmp_ne (X : Stand p l e R s m args below meth c T locs cells slots) (B : Bo Z p s m meth c own nm bytes maxL ret) {o : Int} {x y : Int32} (q : decode bytes pc = .ok (.if_icmp .ne o, 3)) (pt pf : Nat) (hp : ((pc : Int) + o).toNat = pt) (ho : 0 ≤ (pc : Int) + o) (hf : pc + 3 = pf) (g1 : ¬ x = y → Go p e below P (T.setTop (mkF m pt Ls st))) (g2 : x = y → Go p e below P (T.setTop (mkF m pf Ls st))) : Go p e below P (T.setTop (mkF m pc Ls (.int y :: .int x :: st))) := by
  subst hf
  by_cases w : x = y
  · exact (g2 w).via fun _ => XS.icmpNo X.here B.x rfl (B.d q) rfl (by simp [if_icmp.holds, w, Int32.not_lt, Int32.not_le])
  · exact (g1 w).via fun _ => XS.icmpYes X.here B.x rfl rfl (B.d q) rfl (by simpa [if_icmp.holds, Int32.not_lt, Int32.not_le] using w) ho hp
theorem g_icmp_lt (X : Stand p l e R s m args below meth c T locs cells slots) (B : Bo Z p s m meth c own nm bytes maxL ret) {o : Int} {x y : Int32} (q : decode bytes pc = .ok (.if_icmp .lt o, 3)) (pt pf : Nat) (hp : ((pc : Int) + o).toNat = pt) (ho : 0 ≤ (pc : Int) + o) (hf : pc + 3 = pf) (g1 : x < y → Go p e below P (T.setTop (mkF m pt Ls st))) (g2 : ¬ x < y → Go p e below P (T.setTop (mkF m pf Ls st))) : Go p e below P (T.setTop (mkF m pc Ls (.int y :: .int x :: st))) := by
  subst hf
  by_cases w : x < y
  · exact (g1 w).via fun _ => XS.icmpYes X.here B.x rfl rfl (B.d q) rfl (by simp [if_icmp.holds, w, Int32.not_lt, Int32.not_le]) ho hp
  · exact (g2 w).via fun _ => XS.icmpNo X.here B.x rfl (B.d q) rfl (by simp [if_icmp.holds, w, Int32.not_lt, Int32.not_le])
theorem g_icmp_ge (X : Stand p l e R s m args below meth c T locs cells slots) (B : Bo Z p s m meth c own nm bytes maxL ret) {o : Int} {x y : Int32} (q : decode bytes pc = .ok (.if_icmp .ge o, 3)) (pt pf : Nat) (hp : ((pc : Int) + o).toNat = pt) (ho : 0 ≤ (pc : Int) + o) (hf : pc + 3 = pf) (g1 : ¬ x < y → Go p e below P (T.setTop (mkF m pt Ls st))) (g2 : x < y → Go p e below P (T.setTop (mkF m pf Ls st))) : Go p e below P (T.setTop (mkF m pc Ls (.int y :: .int x :: st))) := by
  subst hf
  by_cases w : x < y
  · exact (g2 w).via fun _ => XS.icmpNo X.here B.x rfl (B.d q) rfl (by simp [if_icmp.holds, w, Int32.not_lt, Int32.not_le])
  · exact (g1 w).via fun _ => XS.icmpYes X.here B.x rfl rfl (B.d q) rfl (by simpa [if_icmp.holds, Int32.not_lt, Int32.not_le] using w) ho hp
theorem g_icmp_gt (X : Stand p l e R s m args below meth c T locs cells slots) (B : Bo Z p s m meth c own nm bytes maxL ret) {o : Int} {x y : Int32} (q : decode bytes pc = .ok (.if_icmp .gt o, 3)) (pt pf : Nat) (hp : ((pc : Int) + o).toNat = pt) (ho : 0 ≤ (pc : Int) + o) (hf : pc + 3 = pf) (g1 : y < x → Go p e below P (T.setTop (mkF m pt Ls st))) (g2 : ¬ y < x → Go p e below P (T.setTop (mkF m pf Ls st))) : Go p e below P (T.setTop (mkF m pc Ls (.int y :: .int x :: st))) := by
  subst hf
  by_cases w : y < x
  · exact (g1 w).via fun _ => XS.icmpYes X.here B.x rfl rfl (B.d q) rfl (by simp [if_icmp.holds, w, Int32.not_lt, Int32.not_le]) ho hp
  · exact (g2 w).via fun _ => XS.icmpNo X.here B.x rfl (B.d q) rfl (by simp [if_icmp.holds, w, Int32.not_lt, Int32.not_le])
theorem g_icmp_le (X : Stand p l e R s m args below meth c T locs cells slots) (B : Bo Z p s m meth c own nm bytes maxL ret) {o : Int} {x y : Int32} (q : decode bytes pc = .ok (.if_icmp .le o, 3)) (pt pf : Nat) (hp : ((pc : Int) + o).toNat = pt) (ho : 0 ≤ (pc : Int) + o) (hf : pc + 3 = pf) (g1 : ¬ y < x → Go p e below P (T.setTop (mkF m pt Ls st))) (g2 : y < x → Go p e below P (T.setTop (mkF m pf Ls st))) : Go p e below P (T.setTop (mkF m pc Ls (.int y :: .int x :: st))) := by
  subst hf
  by_cases w : y < x
  · exact (g2 w).via fun _ => XS.icmpNo X.here B.x rfl (B.d q) rfl (by simp [if_icmp.holds, w, Int32.not_lt, Int32.not_le])
  · exact (g1 w).via fun _ => XS.icmpYes X.here B.x rfl rfl (B.d q) rfl (by simpa [if_icmp.holds, Int32.not_lt, Int32.not_le] using w) ho hp
theorem g_if_eq (X : Stand p l e R s m args below meth c T locs cells slots) (B : Bo Z p s m meth c own nm bytes maxL ret) {o : Int} {x : Int32} (q : decode bytes pc = .ok (.ifCond .eq o, 3)) (pt pf : Nat) (hp : ((pc : Int) + o).toNat = pt) (ho : 0 ≤ (pc : Int) + o) (hf : pc + 3 = pf) (g1 : x = 0 → Go p e below P (T.setTop (mkF m pt Ls st))) (g2 : ¬ x = 0 → Go p e below P (T.setTop (mkF m pf Ls st))) : Go p e below P (T.setTop (mkF m pc Ls (.int x :: st))) := by
  subst hf
  by_cases w : x = 0
  · exact (g1 w).via fun _ => XS.ifYes X.here B.x rfl rfl (B.d q) rfl (by simp [ifCond.holds, w, Int32.not_lt, Int32.not_le]) ho hp
  · exact (g2 w).via fun _ => XS.ifNo X.here B.x rfl (B.d q) rfl (by simp [ifCond.holds, w, Int32.not_lt, Int32.not_le])
theorem g_if_ne (X : Stand p l e R s m args below meth c T locs cells slots) (B : Bo Z p s m meth c own nm bytes maxL ret) {o : Int} {x : Int32} (q : decode bytes pc = .ok (.ifCond .ne o, 3)) (pt pf : Nat) (hp : ((pc : Int) + o).toNat = pt) (ho : 0 ≤ (pc : Int) + o) (hf : pc + 3 = pf) (g1 : ¬ x = 0 → Go p e below P (T.setTop (mkF m pt Ls st))) (g2 : x = 0 → Go p e below P (T.setTop (mkF m pf Ls st))) : Go p e below P (T.setTop (mkF m pc Ls (.int x :: st))) := by
  subst hf
  by_cases w : x = 0
  · exact (g2 w).via fun _ => XS.ifNo X.here B.x rfl (B.d q) rfl (by simp [ifCond.holds, w, Int32.not_lt, Int32.not_le])
  · exact (g1 w).via fun _ => XS.ifYes X.here B.x rfl rfl (B.d q) rfl (by simpa [ifCond.holds, Int32.not_lt, Int32.not_le] using w) ho hp
theorem g_if_lt (X : Stand p l e R s m args below meth c T locs cells slots) (B : Bo Z p s m meth c own nm bytes maxL ret) {o : Int} {x : Int32} (q : decode bytes pc = .ok (.ifCond .lt o, 3)) (pt pf : Nat) (hp : ((pc : Int) + o).toNat = pt) (ho : 0 ≤ (pc : Int) + o) (hf : pc + 3 = pf) (g1 : x < 0 → Go p e below P (T.setTop (mkF m pt Ls st))) (g2 : ¬ x < 0 → Go p e below P (T.setTop (mkF m pf Ls st))) : Go p e below P (T.setTop (mkF m pc Ls (.int x :: st))) := by
  subst hf
  by_cases w : x < 0
  · exact (g1 w).via fun _ => XS.ifYes X.here B.x rfl rfl (B.d q) rfl (by simp [ifCond.holds, w, Int32.not_lt, Int32.not_le]) ho hp
  · exact (g2 w).via fun _ => XS.ifNo X.here B.x rfl (B.d q) rfl (by simp [ifCond.holds, w, Int32.not_lt, Int32.not_le])
theorem g_if_ge (X : Stand p l e R s m args below meth c T locs cells slots) (B : Bo Z p s m meth c own nm bytes maxL ret) {o : Int} {x : Int32} (q : decode bytes pc = .ok (.ifCond .ge o, 3)) (pt pf : Nat) (hp : ((pc : Int) + o).toNat = pt) (ho : 0 ≤ (pc : Int) + o) (hf : pc + 3 = pf) (g1 : ¬ x < 0 → Go p e below P (T.setTop (mkF m pt Ls st))) (g2 : x < 0 → Go p e below P (T.setTop (mkF m pf Ls st))) : Go p e below P (T.setTop (mkF m pc Ls (.int x :: st))) := by
  subst hf
  by_cases w : x < 0
  · exact (g2 w).via fun _ => XS.ifNo X.here B.x rfl (B.d q) rfl (by simp [ifCond.holds, w, Int32.not_lt, Int32.not_le])
  · exact (g1 w).via fun _ => XS.ifYes X.here B.x rfl rfl (B.d q) rfl (by simpa [ifCond.holds, Int32.not_lt, Int32.not_le] using w) ho hp
theorem g_if_gt (X : Stand p l e R s m args below meth c T locs cells slots) (B : Bo Z p s m meth c own nm bytes maxL ret) {o : Int} {x : Int32} (q : decode bytes pc = .ok (.ifCond .gt o, 3)) (pt pf : Nat) (hp : ((pc : Int) + o).toNat = pt) (ho : 0 ≤ (pc : Int) + o) (hf : pc + 3 = pf) (g1 : 0 < x → Go p e below P (T.setTop (mkF m pt Ls st))) (g2 : ¬ 0 < x → Go p e below P (T.setTop (mkF m pf Ls st))) : Go p e below P (T.setTop (mkF m pc Ls (.int x :: st))) := by
  subst hf
  by_cases w : 0 < x
  · exact (g1 w).via fun _ => XS.ifYes X.here B.x rfl rfl (B.d q) rfl (by simp [ifCond.holds, w, Int32.not_lt, Int32.not_le]) ho hp
  · exact (g2 w).via fun _ => XS.ifNo X.here B.x rfl (B.d q) rfl (by simp [ifCond.holds, w, Int32.not_lt, Int32.not_le])
theorem g_if_le (X : Stand p l e R s m args below meth c T locs cells slots) (B : Bo Z p s m meth c own nm bytes maxL ret) {o : Int} {x : Int32} (q : decode bytes pc = .ok (.ifCond .le o, 3)) (pt pf : Nat) (hp : ((pc : Int) + o).toNat = pt) (ho : 0 ≤ (pc : Int) + o) (hf : pc + 3 = pf) (g1 : ¬ 0 < x → Go p e below P (T.setTop (mkF m pt Ls st))) (g2 : 0 < x → Go p e below P (T.setTop (mkF m pf Ls st))) : Go p e below P (T.setTop (mkF m pc Ls (.int x :: st))) := by
  subst hf
  by_cases w : 0 < x
  · exact (g2 w).via fun _ => XS.ifNo X.here B.x rfl (B.d q) rfl (by simp [ifCond.holds, w, Int32.not_lt, Int32.not_le])
  · exact (g1 w).via fun _ => XS.ifYes X.here B.x rfl rfl (B.d q) rfl (by simpa [ifCond.holds, Int32.not_lt, Int32.not_le] using w) ho hp
theorem g_acmp_eq (X : Stand p l e R s m args below meth c T locs cells slots) (B : Bo Z p s m meth c own nm bytes maxL ret) {o : Int} {x y : Value} (q : decode bytes pc = .ok (.if_acmp .eq o, 3)) (pt pf : Nat) (hp : ((pc : Int) + o).toNat = pt) (ho : 0 ≤ (pc : Int) + o) (hf : pc + 3 = pf) (i : x.isRef = true) (j : y.isRef = true) (g1 : x = y → Go p e below P (T.setTop (mkF m pt Ls st))) (g2 : ¬ x = y → Go p e below P (T.setTop (mkF m pf Ls st))) : Go p e below P (T.setTop (mkF m pc Ls (y :: x :: st))) := by
  subst hf
  by_cases w : x = y
  · exact (g1 w).via fun _ => XT.acmpYes X.here B.x rfl rfl (B.d q) rfl i j (by simp [XT.acmp, w]) ho hp
  · exact (g2 w).via fun _ => XT.acmpNo X.here B.x rfl (B.d q) rfl i j (by simp [XT.acmp, w])
theorem g_acmp_ne (X : Stand p l e R s m args below meth c T locs cells slots) (B : Bo Z p s m meth c own nm bytes maxL ret) {o : Int} {x y : Value} (q : decode bytes pc = .ok (.if_acmp .ne o, 3)) (pt pf : Nat) (hp : ((pc : Int) + o).toNat = pt) (ho : 0 ≤ (pc : Int) + o) (hf : pc + 3 = pf) (i : x.isRef = true) (j : y.isRef = true) (g1 : ¬ x = y → Go p e below P (T.setTop (mkF m pt Ls st))) (g2 : x = y → Go p e below P (T.setTop (mkF m pf Ls st))) : Go p e below P (T.setTop (mkF m pc Ls (y :: x :: st))) := by
  subst hf
  by_cases w : x = y
  · exact (g2 w).via fun _ => XT.acmpNo X.here B.x rfl (B.d q) rfl i j (by simp [XT.acmp, w])
  · exact (g1 w).via fun _ => XT.acmpYes X.here B.x rfl rfl (B.d q) rfl i j (by simp [XT.acmp, w]) ho hp
theorem g_ifnull (X : Stand p l e R s m args below meth c T locs cells slots) (B : Bo Z p s m meth c own nm bytes maxL ret) {o : Int} {v : Value} (q : decode bytes pc = .ok (.ifnull o, 3)) (pt pf : Nat) (hp : ((pc : Int) + o).toNat = pt) (ho : 0 ≤ (pc : Int) + o) (hf : pc + 3 = pf) (i : v.isRef = true) (g1 : v = .null → Go p e below P (T.setTop (mkF m pt Ls st))) (g2 : ¬ v = .null → Go p e below P (T.setTop (mkF m pf Ls st))) : Go p e below P (T.setTop (mkF m pc Ls (v :: st))) := by
  subst hf
  by_cases w : v = .null
  · exact (g1 w).via fun _ => XT.nullYes X.here B.x rfl rfl (B.d q) rfl w ho hp
  · exact (g2 w).via fun _ => XT.nullNo X.here B.x rfl (B.d q) rfl i w
theorem g_ifnonnull (X : Stand p l e R s m args below meth c T locs cells slots) (B : Bo Z p s m meth c own nm bytes maxL ret) {o : Int} {v : Value} (q : decode bytes pc = .ok (.ifnonnull o, 3)) (pt pf : Nat) (hp : ((pc : Int) + o).toNat = pt) (ho : 0 ≤ (pc : Int) + o) (hf : pc + 3 = pf) (i : v.isRef = true) (g1 : ¬ v = .null → Go p e below P (T.setTop (mkF m pt Ls st))) (g2 : v = .null → Go p e below P (T.setTop (mkF m pf Ls st))) : Go p e below P (T.setTop (mkF m pc Ls (v :: st))) := by
  subst hf
  by_cases w : v = .null
  · exact (g2 w).via fun _ => XT.nonnullNo X.here B.x rfl (B.d q) rfl w
  · exact (g1 w).via fun _ => XT.nonnullYes X.here B.x rfl rfl (B.d q) rfl i w ho hp
theorem g_tsw (X : Stand p l e R s m args below meth c T locs cells slots) (B : Bo Z p s m meth c own nm bytes maxL ret) {dflt low high : Int} {offs : Array Int} {len : Nat} {i : Int32} (o : Int) (q : decode bytes pc = .ok (.tableswitch dflt low high offs, len)) (pc' : Nat) (hin : ¬ (i.toInt < low ∨ i.toInt > high)) (hoff : offs[(i.toInt - low).toNat]? = some o) (ho : 0 ≤ (pc : Int) + o) (hp : ((pc : Int) + o).toNat = pc') (g : Go p e below P (T.setTop (mkF m pc' Ls st))) : Go p e below P (T.setTop (mkF m pc Ls (.int i :: st))) := g.via fun t => XS.tswIn (target := t) (g := mkF m pc Ls (.int i :: st)) (pc0 := pc) (pc' := pc') X.here B.x rfl rfl (B.d q) rfl hin hoff ho hp
theorem g_ldcI (X : Stand p l e R s m args below meth c T locs cells slots) (B : Bo Z p s m meth c own nm bytes maxL ret) {index : Nat} {v : Int32} (q : decode bytes pc = .ok (.ldc index, 2)) (pc' : Nat) (hp : pc + 2 = pc') (w : (Jvm.Cond.constant own index v).before a0 Z = true) (g : Go p e below P (T.setTop (mkF m pc' Ls (.int v :: st)))) : Go p e below P (T.setTop (mkF m pc Ls st)) := by
  subst hp
  exact g.via fun _ => X.ldcI B.x B.o (mvT B.z w) rfl (B.d q)
theorem g_getS (X : Stand p l e R s m args below meth c T locs cells slots) (B : Bo Z p s m meth c own nm bytes maxL ret) {R0 O n d : String} {index : Nat} {v : Value} (q : decode bytes pc = .ok (.getstatic index, 3)) (pc' : Nat) (hp : pc + 3 = pc') (w : (Jvm.Cond.fieldLink own index R0 n d).before a0 Z = true) (via : Via Z R0 O n d) (eT : T.heap = h) (F : Sta Z h O n d v) (k : ∀ T', Stand p l e R s m args below meth c T' locs cells slots → T'.heap = h → Go p e below P (T'.setTop (mkF m pc' Ls (v :: st)))) : Go p e below P (T.setTop (mkF m pc Ls st)) := by
  subst hp
  obtain ⟨T', X', e', q'⟩ := getS (host := "") X B.x B.z B.o w via eT F (g := mkF m pc Ls st) rfl (B.d q)
  exact (k T' X' e').via q'
theorem g_getF (X : Stand p l e R s m args below meth c T locs cells slots) (B : Bo Z p s m meth c own nm bytes maxL ret) {R0 O n d : String} {index : Nat} {a : Addr} {v : Value} (q : decode bytes pc = .ok (.getfield index, 3)) (pc' : Nat) (hp : pc + 3 = pc') (w : (Jvm.Cond.fieldLink own index R0 n d).before a0 Z = true) (via : Via Z R0 O n d) (eT : T.heap = h) (F : Fld Z h a O n d v) (k : ∀ T', Stand p l e R s m args below meth c T' locs cells slots → T'.heap = h → Go p e below P (T'.setTop (mkF m pc' Ls (v :: st)))) : Go p e below P (T.setTop (mkF m pc Ls (.ref a :: st))) := by
  subst hp
  obtain ⟨T', X', e', q'⟩ := getF (host := "") X B.x B.z B.o (Or.inl w) via eT F (g := mkF m pc Ls (.ref a :: st)) rfl rfl (B.d q)
  exact (k T' X' e').via q'
theorem g_putF (X : Stand p l e R s m args below meth c T locs cells slots) (B : Bo Z p s m meth c own nm bytes maxL ret) {R0 O n d C : String} {index kk : Nat} {ty : FieldType} {a : Addr} {v old : Value} (q : decode bytes pc = .ok (.putfield index, 3)) (pc' : Nat) (hp : pc + 3 = pc') (w : (Jvm.Cond.fieldLink own index R0 n d).before a0 Z = true) (via : Via Z R0 O n d) (eT : T.heap = h) (F : Fld Z h a O n d old) (E : Exa Z h a C) (L : (Jvm.Cond.lays C O n d).before a0 Z = true ∨ ((Jvm.Cond.laysFinal C O n d).before a0 Z = true ∧ own = O ∧ nm = "<init>")) (wi : (Jvm.Cond.instantiable C kk).before a0 Z = true) (hty : parseFieldDescriptor d = some ty) (hn : narrow ty v = v) (hf : fits ty v = true) (k : ∀ T' h', Stand p l e R s m args below meth c T' (locs ++ [⟨a, Jvm.RoadKit.slotOf Z O n d⟩]) cells slots → T'.heap = h' → Wr h h' a (Jvm.RoadKit.slotOf Z O n d) v → Go p e below P (T'.setTop (mkF m pc' Ls st))) : Go p e below P (T.setTop (mkF m pc Ls (v :: .ref a :: st))) := by
  subst hp
  obtain ⟨T', h', X', e', W', q'⟩ := putF (host := "") X B.x B.z B.o (Or.inl w) via eT F E (L.imp id fun y => ⟨y.1, y.2.1, B.n.trans y.2.2⟩) wi hty hn hf (g := mkF m pc Ls (v :: .ref a :: st)) rfl rfl (B.d q)
  exact (k T' h' X' e' W').via q'
theorem g_new (X : Stand p l e R s m args below meth c T locs cells slots) (B : Bo Z p s m meth c own nm bytes maxL ret) {C : String} {index n : Nat} (q : decode bytes pc = .ok (.new index, 3)) (pc' : Nat) (hp : pc + 3 = pc') (w : (Jvm.Cond.classLink own index C).before a0 Z = true) (wi : (Jvm.Cond.instantiable C n).before a0 Z = true) (wz : (Jvm.Cond.initialized C).before a0 Z = true) (eT : T.heap = h) (hc : cells + 1 ≤ R.cells) (hl : slots + n ≤ R.slots) (k : ∀ T' h' a, Stand p l e R s m args below meth c T' locs (cells + 1) (slots + n) → T'.heap = h' → a = h.size → Ext h h' → Exa Z h' a C → (∀ {O nm d : String} {ty : FieldType}, Laid Z a0 C O nm d → parseFieldDescriptor d = some ty → Fld Z h' a O nm d (defaultValue ty)) → Go p e below P (T'.setTop (mkF m pc' Ls (.ref a :: st)))) : Go p e below P (T.setTop (mkF m pc Ls st)) := by
  subst hp
  obtain ⟨T', h', X', e', E', A', D', -, q'⟩ := newO X B.x B.z B.o w wi wz eT (g := mkF m pc Ls st) rfl (B.d q) hc hl
  exact (k T' h' _ X' e' rfl E' A' D').via q'
theorem g_callS (X : Stand p l e R s m args below meth c T locs cells slots) (B : Bo Z p s m meth c own nm bytes maxL ret) {y : MethodName} {by' : ByteArray} {mx : Nat} {rt : Option FieldType} {rm : Room} {Q : Option Value → Heap → List Loc → Prop} {index : Nat} (argsL rest : List Value) (q : decode bytes pc = .ok (.invokestatic index, 3)) (pc' : Nat) (hp : pc + 3 = pc') (hst : st = argsL.reverse ++ rest) (w1 : (Jvm.Cond.methodLink own index y).before a0 Z = true) (w2 : (Jvm.Cond.static y).before a0 Z = true) (w3 : (Jvm.Cond.initialized y.cls).before a0 Z = true) (w4 : (Jvm.Cond.code y by' mx rt).before a0 Z = true) (hy : y.cls ≠ "java/lang/invoke/MethodHandle" ∧ y.cls ≠ "java/lang/invoke/VarHandle") (hlen : ∀ sig, parseMethodDescriptor y.desc = some sig → argsL.length = sig.parameters.length) (C : Ctr l Z y by' mx rt rm argsL.toArray h Q) (eT : T.heap = h) (hm : Ls.size = maxL) (W : Nat) (hW : (rest.map fun v => v.category).sum ≤ W) (hf : rm.frames + 1 ≤ R.frames) (hl : W + (mx + 11) + rm.locals ≤ R.locals) (hc : cells + rm.cells ≤ R.cells) (hs : slots + rm.slots ≤ R.slots) (k : ∀ v T' h' L', Stand p l e R s m args below meth c T' (locs ++ L') (cells + rm.cells) (slots + rm.slots) → T'.heap = h' → Q v h' L' → Go p e below P (T'.setTop (mkF m pc' Ls (v.toList ++ rest)))) : Go p e below P (T.setTop (mkF m pc Ls st)) := by
  subst hp hst
  obtain ⟨v, _, ⟨T', L', k', n'⟩, -, X', ⟨Lc, hQ, l1, l2, l3⟩, q'⟩ := Jvm.LawKit.callS X B.x (y := y) B.o (mvT B.z w1) (mvT B.z w2) (mvT B.z w3) (mvT B.z w4) hy (C.back (W := W) B.z w4 w3 hf hl) (g := mkF m pc Ls (argsL.reverse ++ rest)) rfl (B.mx hm) (argsL := argsL) (rest := rest) hlen rfl (by show 2 * 0 + _ ≤ _; omega) (B.d q) (fun _ _ => ⟨rfl, eT, hc, hs⟩)
  dsimp only [Pt.U, Pt.locs, Pt.cells, Pt.slots] at X' l1 l2 l3 q' hQ
  subst l1 l2 l3
  exact (k v T' _ Lc X' rfl hQ).via q'
theorem g_callV (X : Stand p l e R s m args below meth c T locs cells slots) (B : Bo Z p s m meth c own nm bytes maxL ret) {z : MethodName} {by' : ByteArray} {mx : Nat} {rt : Option FieldType} {rm : Room} {Q : Option Value → Heap → List Loc → Prop} {index : Nat} {K : String} {a : Addr} (argsL rest : List Value) (q : decode bytes pc = .ok (.invokevirtual index, 3)) (pc' : Nat) (hp : pc + 3 = pc') (hst : st = argsL.reverse ++ .ref a :: rest) (w1 : (Jvm.Cond.methodLink own index z).before a0 Z = true) (w2 : (Jvm.Cond.declares z).before a0 Z = true) (w3 : (Jvm.Cond.selects K z z).before a0 Z = true) (w4 : (Jvm.Cond.instanceMethod z).before a0 Z = true) (w5 : (Jvm.Cond.initialized z.cls).before a0 Z = true) (w6 : (Jvm.Cond.code z by' mx rt).before a0 Z = true) (hy : z.cls ≠ "java/lang/invoke/MethodHandle" ∧ z.cls ≠ "java/lang/invoke/VarHandle") (hlen : ∀ sig, parseMethodDescriptor z.desc = some sig → argsL.length = sig.parameters.length) (E : Exa Z h a K) (C : Ctr l Z z by' mx rt rm (.ref a :: argsL).toArray h Q) (eT : T.heap = h) (hm : Ls.size = maxL) (W : Nat) (hW : (rest.map fun v => v.category).sum ≤ W) (hf : rm.frames + 1 ≤ R.frames) (hl : W + (mx + 11) + rm.locals ≤ R.locals) (hc : cells + rm.cells ≤ R.cells) (hs : slots + rm.slots ≤ R.slots) (k : ∀ v T' h' L', Stand p l e R s m args below meth c T' (locs ++ L') (cells + rm.cells) (slots + rm.slots) → T'.heap = h' → Q v h' L' → Go p e below P (T'.setTop (mkF m pc' Ls (v.toList ++ rest)))) : Go p e below P (T.setTop (mkF m pc Ls st)) := by
  subst hp hst
  obtain ⟨cq, kq, qa, qb, qc⟩ := isOf B.z eT E
  obtain ⟨v, _, ⟨T', L', k', n'⟩, -, X', ⟨Lc, hQ, l1, l2, l3⟩, q'⟩ := X.virtualBack B.x (y := z) (z := z) B.o (mvT B.z w1) (mvT B.z w2) (notFace_of_selects (args := #[]) (mvT B.z w3)) (mvT B.z w3) (mvT B.z w4) hy (C.back (W := W) B.z w6 w5 hf hl) qa qc (g := mkF m pc Ls (argsL.reverse ++ .ref a :: rest)) rfl (B.mx hm) (Steps.refl _) (argsL := argsL) (rest := rest) hlen rfl (by show 2 * 0 + _ ≤ _; omega) (B.d q) (fun _ _ => ⟨rfl, eT, hc, hs⟩)
  dsimp only [Pt.U, Pt.locs, Pt.cells, Pt.slots] at X' l1 l2 l3 q' hQ
  subst l1 l2 l3
  exact (k v T' _ Lc X' rfl hQ).via fun _ => q'.trans
theorem g_callN (X : Stand p l e R s m args below meth c T locs cells slots) (B : Bo Z p s m meth c own nm bytes maxL ret) {y : MethodName} {by' : ByteArray} {mx : Nat} {rm : Room} {Q : Option Value → Heap → List Loc → Prop} {index : Nat} {a : Addr} (argsL rest : List Value) (q : decode bytes pc = .ok (.invokespecial index, 3)) (pc' : Nat) (hp : pc + 3 = pc') (hst : st = argsL.reverse ++ .ref a :: rest) (hn : y.name = "<init>") (w1 : (Jvm.Cond.methodLink own index y).before a0 Z = true) (w2 : (Jvm.Cond.instanceMethod y).before a0 Z = true) (w3 : (Jvm.Cond.code y by' mx none).before a0 Z = true) (w4 : (Jvm.Cond.initialized y.cls).before a0 Z = true) (hy : y.cls ≠ "java/lang/invoke/MethodHandle" ∧ y.cls ≠ "java/lang/invoke/VarHandle") (hlen : ∀ sig, parseMethodDescriptor y.desc = some sig → argsL.length = sig.parameters.length) (C : Ctr l Z y by' mx none rm (.ref a :: argsL).toArray h Q) (eT : T.heap = h) (hm : Ls.size = maxL) (W : Nat) (hW : (rest.map fun v => v.category).sum ≤ W) (hf : rm.frames + 1 ≤ R.frames) (hl : W + (mx + 11) + rm.locals ≤ R.locals) (hc : cells + rm.cells ≤ R.cells) (hs : slots + rm.slots ≤ R.slots) (k : ∀ v T' h' L', Stand p l e R s m args below meth c T' (locs ++ L') (cells + rm.cells) (slots + rm.slots) → T'.heap = h' → Q v h' L' → Go p e below P (T'.setTop (mkF m pc' Ls (v.toList ++ rest)))) : Go p e below P (T.setTop (mkF m pc Ls st)) := by
  subst hp hst
  obtain ⟨v, _, ⟨T', L', k', n'⟩, -, X', ⟨Lc, hQ, l1, l2, l3⟩, q'⟩ := X.specialBack B.x (y := y) hn B.o (mvT B.z w1) (mvT B.z w2) (mvT B.z w3) hy (C.back (W := W) B.z w3 w4 hf hl) (g := mkF m pc Ls (argsL.reverse ++ .ref a :: rest)) rfl (B.mx hm) (Steps.refl _) (a := a) (argsL := argsL) (rest := rest) hlen rfl (by show 2 * 0 + _ ≤ _; omega) (B.d q) (fun _ _ => ⟨rfl, eT, hc, hs⟩)
  dsimp only [Pt.U, Pt.locs, Pt.cells, Pt.slots] at X' l1 l2 l3 q' hQ
  subst l1 l2 l3
  exact (k v T' _ Lc X' rfl hQ).via fun _ => q'.trans
theorem g_newP (X : Stand p l e R s m args below meth c T locs cells slots) (B : Bo Z p s m meth c own nm bytes maxL ret) {aty : ArrayType} {n : Int32} (vs : List Value) (q : decode bytes pc = .ok (.newarray aty, 2)) (pc' : Nat) (hp : pc + 2 = pc') (w : (Jvm.Cond.arrayClass (newarray.typeOf aty)).before a0 Z = true) (eT : T.heap = h) (hn : ¬ n < 0) (hvs : List.replicate n.toNatClampNeg (defaultValue (newarray.typeOf aty)) = vs) (hb : vs.length * 8 ≤ 536870912) (hc : cells + 1 ≤ R.cells) (hl : slots + vs.length ≤ R.slots) (k : ∀ T' h' a, Stand p l e R s m args below meth c T' locs (cells + 1) (slots + vs.length) → T'.heap = h' → a = h.size → Ext h h' → Av Z h' a (newarray.typeOf aty) vs → Go p e below P (T'.setTop (mkF m pc' Ls (.ref a :: st)))) : Go p e below P (T.setTop (mkF m pc Ls (.int n :: st))) := by
  subst hp
  obtain ⟨T', h', cA, X', e', E', A', q'⟩ := newP X B.x B.z w eT (g := mkF m pc Ls (.int n :: st)) rfl (B.d q) rfl hn (cap := vs.length) (by rw [← hvs]; simp) hb hc hl
  exact (k T' h' _ X' e' rfl E' ⟨_, A', by rw [← hvs]; simp [newA]⟩).via q'
theorem g_castore (X : Stand p l e R s m args below meth c T locs cells slots) (B : Bo Z p s m meth c own nm bytes maxL ret) {a : Addr} {j x : Int32} {vs : List Value} (i : Nat) (q : decode bytes pc = .ok (.castore, 1)) (pc' : Nat) (hp : pc + 1 = pc') (eT : T.heap = h) (A : Av Z h a .char vs) (hi : j.toNatClampNeg = i) (h0 : ¬ j < 0) (hl : i < vs.length) (k : ∀ T' h', Stand p l e R s m args below meth c T' (locs ++ [⟨a, i⟩]) cells slots → T'.heap = h' → Wr h h' a i (.int (nar .char x)) → Av Z h' a .char (vs.set i (.int (nar .char x))) → Go p e below P (T'.setTop (mkF m pc' Ls st))) : Go p e below P (T.setTop (mkF m pc Ls (.int x :: .int j :: .ref a :: st))) := by
  subst hp
  have A' := A
  obtain ⟨cl, Ar, hv⟩ := A'
  obtain ⟨T', h', X', e', W', q'⟩ := stC X B.x B.z eT Ar (Av.inb (Z := Z) (h := h) (a := a) (ty := .char) hv hi h0 hl) (g := mkF m pc Ls (.int x :: .int j :: .ref a :: st)) rfl rfl (B.d q)
  subst hi
  exact (k T' h' X' e' W' (A.set W')).via q'
theorem g_bastoreB (X : Stand p l e R s m args below meth c T locs cells slots) (B : Bo Z p s m meth c own nm bytes maxL ret) {a : Addr} {j x : Int32} {vs : List Value} (i : Nat) (q : decode bytes pc = .ok (.bastore, 1)) (pc' : Nat) (hp : pc + 1 = pc') (eT : T.heap = h) (A : Av Z h a .byte vs) (hi : j.toNatClampNeg = i) (h0 : ¬ j < 0) (hl : i < vs.length) (k : ∀ T' h', Stand p l e R s m args below meth c T' (locs ++ [⟨a, i⟩]) cells slots → T'.heap = h' → Wr h h' a i (.int (nar .byte x)) → Av Z h' a .byte (vs.set i (.int (nar .byte x))) → Go p e below P (T'.setTop (mkF m pc' Ls st))) : Go p e below P (T.setTop (mkF m pc Ls (.int x :: .int j :: .ref a :: st))) := by
  subst hp
  have A' := A
  obtain ⟨cl, Ar, hv⟩ := A'
  obtain ⟨T', h', X', e', W', q'⟩ := stB X B.x B.z eT Ar (Av.inb (Z := Z) (h := h) (a := a) (ty := .byte) hv hi h0 hl) (g := mkF m pc Ls (.int x :: .int j :: .ref a :: st)) rfl rfl (B.d q)
  subst hi
  exact (k T' h' X' e' W' (A.set W')).via q'
theorem g_bastoreZ (X : Stand p l e R s m args below meth c T locs cells slots) (B : Bo Z p s m meth c own nm bytes maxL ret) {a : Addr} {j x : Int32} {vs : List Value} (i : Nat) (q : decode bytes pc = .ok (.bastore, 1)) (pc' : Nat) (hp : pc + 1 = pc') (eT : T.heap = h) (A : Av Z h a .boolean vs) (hi : j.toNatClampNeg = i) (h0 : ¬ j < 0) (hl : i < vs.length) (k : ∀ T' h', Stand p l e R s m args below meth c T' (locs ++ [⟨a, i⟩]) cells slots → T'.heap = h' → Wr h h' a i (.int (nar .boolean x)) → Av Z h' a .boolean (vs.set i (.int (nar .boolean x))) → Go p e below P (T'.setTop (mkF m pc' Ls st))) : Go p e below P (T.setTop (mkF m pc Ls (.int x :: .int j :: .ref a :: st))) := by
  subst hp
  have A' := A
  obtain ⟨cl, Ar, hv⟩ := A'
  obtain ⟨T', h', X', e', W', q'⟩ := stZ X B.x B.z eT Ar (Av.inb (Z := Z) (h := h) (a := a) (ty := .boolean) hv hi h0 hl) (g := mkF m pc Ls (.int x :: .int j :: .ref a :: st)) rfl rfl (B.d q)
  subst hi
  exact (k T' h' X' e' W' (A.set W')).via q'
theorem g_caload (X : Stand p l e R s m args below meth c T locs cells slots) (B : Bo Z p s m meth c own nm bytes maxL ret) {a : Addr} {j : Int32} {vs : List Value} {v : Value} (i : Nat) (q : decode bytes pc = .ok (.caload, 1)) (pc' : Nat) (hp : pc + 1 = pc') (eT : T.heap = h) (A : Av Z h a .char vs) (hi : j.toNatClampNeg = i) (h0 : ¬ j < 0) (hv : vs[i]? = some v) (g : Go p e below P (T.setTop (mkF m pc' Ls (v :: st)))) : Go p e below P (T.setTop (mkF m pc Ls (.int j :: .ref a :: st))) := by
  subst hp
  obtain ⟨cl, Ar, hc⟩ := A
  have hl : i < vs.length := (List.getElem?_eq_some_iff.mp hv).1
  have hin := Av.inb (Z := Z) (h := h) (a := a) (ty := .char) hc hi h0 hl
  have k1 : T.heap[a]? = some cl := by rw [eT]; exact Ar.1
  have k2 : s.isArrayOf cl .char := State.isArrayOf_alike B.z.alike Ar.2.1
  have k3 : cl.slots[j.toNatClampNeg]? = some v := by rw [hi, ← hv, ← hc]; simp
  exact g.via fun t => X.caload B.x k1 k2 Ar.2.2 hin k3 (g := mkF m pc Ls (.int j :: .ref a :: st)) rfl rfl (B.d q) t
theorem g_baloadB (X : Stand p l e R s m args below meth c T locs cells slots) (B : Bo Z p s m meth c own nm bytes maxL ret) {a : Addr} {j : Int32} {vs : List Value} {v : Value} (i : Nat) (q : decode bytes pc = .ok (.baload, 1)) (pc' : Nat) (hp : pc + 1 = pc') (eT : T.heap = h) (A : Av Z h a .byte vs) (hi : j.toNatClampNeg = i) (h0 : ¬ j < 0) (hv : vs[i]? = some v) (g : Go p e below P (T.setTop (mkF m pc' Ls (v :: st)))) : Go p e below P (T.setTop (mkF m pc Ls (.int j :: .ref a :: st))) := by
  subst hp
  obtain ⟨cl, Ar, hc⟩ := A
  have hl : i < vs.length := (List.getElem?_eq_some_iff.mp hv).1
  have hin := Av.inb (Z := Z) (h := h) (a := a) (ty := .byte) hc hi h0 hl
  have k1 : T.heap[a]? = some cl := by rw [eT]; exact Ar.1
  have k2 : s.isArrayOf cl .byte := State.isArrayOf_alike B.z.alike Ar.2.1
  have k3 : cl.slots[j.toNatClampNeg]? = some v := by rw [hi, ← hv, ← hc]; simp
  exact g.via fun t => X.baloadBytes B.x k1 k2 Ar.2.2 hin k3 (g := mkF m pc Ls (.int j :: .ref a :: st)) rfl rfl (B.d q) t
theorem g_baloadZ (X : Stand p l e R s m args below meth c T locs cells slots) (B : Bo Z p s m meth c own nm bytes maxL ret) {a : Addr} {j : Int32} {vs : List Value} {v : Value} (i : Nat) (q : decode bytes pc = .ok (.baload, 1)) (pc' : Nat) (hp : pc + 1 = pc') (eT : T.heap = h) (A : Av Z h a .boolean vs) (hi : j.toNatClampNeg = i) (h0 : ¬ j < 0) (hv : vs[i]? = some v) (g : Go p e below P (T.setTop (mkF m pc' Ls (v :: st)))) : Go p e below P (T.setTop (mkF m pc Ls (.int j :: .ref a :: st))) := by
  subst hp
  obtain ⟨cl, Ar, hc⟩ := A
  have hl : i < vs.length := (List.getElem?_eq_some_iff.mp hv).1
  have hin := Av.inb (Z := Z) (h := h) (a := a) (ty := .boolean) hc hi h0 hl
  have k1 : T.heap[a]? = some cl := by rw [eT]; exact Ar.1
  have k2 : s.isArrayOf cl .boolean := State.isArrayOf_alike B.z.alike Ar.2.1
  have k3 : cl.slots[j.toNatClampNeg]? = some v := by rw [hi, ← hv, ← hc]; simp
  exact g.via fun t => X.baloadBooleans B.x k1 k2 Ar.2.2 hin k3 (g := mkF m pc Ls (.int j :: .ref a :: st)) rfl rfl (B.d q) t
theorem g_aaload (X : Stand p l e R s m args below meth c T locs cells slots) (B : Bo Z p s m meth c own nm bytes maxL ret) {ty : FieldType} (hty : ty.isReference = true) {a : Addr} {j : Int32} {vs : List Value} {v : Value} (i : Nat) (q : decode bytes pc = .ok (.aaload, 1)) (pc' : Nat) (hp : pc + 1 = pc') (eT : T.heap = h) (A : Av Z h a ty vs) (hi : j.toNatClampNeg = i) (h0 : ¬ j < 0) (hv : vs[i]? = some v) (g : Go p e below P (T.setTop (mkF m pc' Ls (v :: st)))) : Go p e below P (T.setTop (mkF m pc Ls (.int j :: .ref a :: st))) := by
  subst hp
  obtain ⟨cl, Ar, hc⟩ := A
  have hl : i < vs.length := (List.getElem?_eq_some_iff.mp hv).1
  have hin := Av.inb (Z := Z) (h := h) (a := a) (ty := ty) hc hi h0 hl
  have k1 : T.heap[a]? = some cl := by rw [eT]; exact Ar.1
  have k2 : s.isArrayOf cl ty := State.isArrayOf_alike B.z.alike Ar.2.1
  have k3 : cl.slots[j.toNatClampNeg]? = some v := by rw [hi, ← hv, ← hc]; simp
  exact g.via fun t => X.aaload B.x k1 k2 hty Ar.2.2 hin k3 (g := mkF m pc Ls (.int j :: .ref a :: st)) rfl rfl (B.d q) t
theorem g_arrlen (X : Stand p l e R s m args below meth c T locs cells slots) (B : Bo Z p s m meth c own nm bytes maxL ret) {ty : FieldType} {a : Addr} {vs : List Value} (n : Int32) (q : decode bytes pc = .ok (.arraylength, 1)) (pc' : Nat) (hp : pc + 1 = pc') (eT : T.heap = h) (A : Av Z h a ty vs) (hn : vs.length.toInt32 = n) (g : Go p e below P (T.setTop (mkF m pc' Ls (.int n :: st)))) : Go p e below P (T.setTop (mkF m pc Ls (.ref a :: st))) := by
  subst hp hn
  obtain ⟨cl, Ar, hc⟩ := A
  have k1 : T.heap[a]? = some cl := by rw [eT]; exact Ar.1
  have k2 : s.isArrayOf cl ty := State.isArrayOf_alike B.z.alike Ar.2.1
  rw [← hc, Array.length_toList] at g
  exact g.via fun t => X.arraylength B.x k1 k2 (g := mkF m pc Ls (.ref a :: st)) rfl rfl (B.d q) t
theorem g_callUp (X : Stand p l e R s m args below meth c T locs cells slots) (B : Bo Z p s m meth c own nm bytes maxL ret) {y z : MethodName} {by' : ByteArray} {mx : Nat} {rt : Option FieldType} {rm : Room} {Q : Option Value → Heap → List Loc → Prop} {index : Nat} {K owner : String} {a : Addr} (argsL rest : List Value) (q : decode bytes pc = .ok (.invokevirtual index, 3)) (pc' : Nat) (hp : pc + 3 = pc') (hst : st = argsL.reverse ++ .ref a :: rest) (w1 : (Jvm.Cond.methodLink own index y).before a0 Z = true) (w2 : (Jvm.Cond.sameMethod y.cls owner y.name y.desc).before a0 Z = true) (w2' : (Jvm.Cond.declares ⟨owner, y.name, y.desc⟩).before a0 Z = true) (w3 : (Jvm.Cond.selects K y z).before a0 Z = true) (w4 : (Jvm.Cond.instanceMethod z).before a0 Z = true) (w5 : (Jvm.Cond.initialized z.cls).before a0 Z = true) (w6 : (Jvm.Cond.code z by' mx rt).before a0 Z = true) (hy : owner ≠ "java/lang/invoke/MethodHandle" ∧ owner ≠ "java/lang/invoke/VarHandle") (hlen : ∀ sig, parseMethodDescriptor y.desc = some sig → argsL.length = sig.parameters.length) (E : Exa Z h a K) (C : Ctr l Z z by' mx rt rm (.ref a :: argsL).toArray h Q) (eT : T.heap = h) (hm : Ls.size = maxL) (W : Nat) (hW : (rest.map fun v => v.category).sum ≤ W) (hf : rm.frames + 1 ≤ R.frames) (hl : W + (mx + 11) + rm.locals ≤ R.locals) (hc : cells + rm.cells ≤ R.cells) (hs : slots + rm.slots ≤ R.slots) (k : ∀ v T' h' L', Stand p l e R s m args below meth c T' (locs ++ L') (cells + rm.cells) (slots + rm.slots) → T'.heap = h' → Q v h' L' → Go p e below P (T'.setTop (mkF m pc' Ls (v.toList ++ rest)))) : Go p e below P (T.setTop (mkF m pc Ls st)) := by
  subst hp hst
  obtain ⟨cq, kq, qa, qb, qc⟩ := isOf B.z eT E
  obtain ⟨v, _, ⟨T', L', k', n'⟩, -, X', ⟨Lc, hQ, l1, l2, l3⟩, q'⟩ := X.virtualBackUp B.x (x := y) (y := z) B.o (mvT B.z w1) (mvT B.z w2) (mvT B.z w2') hy (mvT B.z w3) (mvT B.z w4) (C.back (W := W) B.z w6 w5 hf hl) qa qc (g := mkF m pc Ls (argsL.reverse ++ .ref a :: rest)) rfl (B.mx hm) (Steps.refl _) (argsL := argsL) (rest := rest) hlen rfl (by show 2 * 0 + _ ≤ _; omega) (B.d q) (fun _ _ => ⟨rfl, eT, hc, hs⟩)
  dsimp only [Pt.U, Pt.locs, Pt.cells, Pt.slots] at X' l1 l2 l3 q' hQ
  subst l1 l2 l3
  exact (k v T' _ Lc X' rfl hQ).via fun _ => q'.trans
theorem g_cast (X : Stand p l e R s m args below meth c T locs cells slots) (B : Bo Z p s m meth c own nm bytes maxL ret) {K : String} {index : Nat} {a : Addr} (q : decode bytes pc = .ok (.checkcast index, 3)) (pc' : Nat) (hp : pc + 3 = pc') (w : (Jvm.Cond.classLink own index K).before a0 Z = true) (eT : T.heap = h) (F : Ins Z h a K true) (k : ∀ T', Stand p l e R s m args below meth c T' locs cells slots → T'.heap = h → Go p e below P (T'.setTop (mkF m pc' Ls (.ref a :: st)))) : Go p e below P (T.setTop (mkF m pc Ls (.ref a :: st))) := by
  subst hp
  obtain ⟨T', X', e', q'⟩ := castY X B.x B.z B.o w eT F (g := mkF m pc Ls (.ref a :: st)) rfl rfl (B.d q)
  exact (k T' X' e').via q'
theorem g_dupX1 (X : Stand p l e R s m args below meth c T locs cells slots) (B : Bo Z p s m meth c own nm bytes maxL ret) {x y : Value} (q : decode bytes pc = .ok (.dup_x1, 1)) (pc' : Nat) (hp : pc + 1 = pc') (u : x.category = 1) (u' : y.category = 1) (g : Go p e below P (T.setTop (mkF m pc' Ls (x :: y :: x :: st)))) : Go p e below P (T.setTop (mkF m pc Ls (x :: y :: st))) := by
  subst hp
  exact g.via fun _ => XT.dupX1 X.here B.x rfl (B.d q) rfl u u'
theorem g_callI (X : Stand p l e R s m args below meth c T locs cells slots) (B : Bo Z p s m meth c own nm bytes maxL ret) {y z : MethodName} {by' : ByteArray} {mx : Nat} {rt : Option FieldType} {rm : Room} {Q : Option Value → Heap → List Loc → Prop} {index count : Nat} {K : String} {a : Addr} (argsL rest : List Value) (q : decode bytes pc = .ok (.invokeinterface index count, 5)) (pc' : Nat) (hp : pc + 5 = pc') (hst : st = argsL.reverse ++ .ref a :: rest) (w1 : (Jvm.Cond.methodLink own index y).before a0 Z = true) (w2 : (Jvm.Cond.declares y).before a0 Z = true) (hfa : ((Jvm.Cond.interfaceMethod y.cls y.cls y.name y.desc).onTables && (Jvm.Cond.interfaceMethod y.cls y.cls y.name y.desc).keepsFace) = true) (w2' : (Jvm.Cond.interfaceMethod y.cls y.cls y.name y.desc).before a0 Z = true) (w3 : (Jvm.Cond.selects K y z).before a0 Z = true) (w4 : (Jvm.Cond.instanceMethod z).before a0 Z = true) (w7 : (Jvm.Cond.publicMethod z).before a0 Z = true) (w8 : (Jvm.Cond.unhidden K y.name y.desc).before a0 Z = true) (w9 : (Jvm.Cond.castable K y.cls).before a0 Z = true) (w5 : (Jvm.Cond.initialized z.cls).before a0 Z = true) (w6 : (Jvm.Cond.code z by' mx rt).before a0 Z = true) (hy : y.cls ≠ "java/lang/invoke/MethodHandle" ∧ y.cls ≠ "java/lang/invoke/VarHandle") (hlen : ∀ sig, parseMethodDescriptor y.desc = some sig → argsL.length = sig.parameters.length) (E : Exa Z h a K) (C : Ctr l Z z by' mx rt rm (.ref a :: argsL).toArray h Q) (eT : T.heap = h) (hm : Ls.size = maxL) (W : Nat) (hW : (rest.map fun v => v.category).sum ≤ W) (hf : rm.frames + 1 ≤ R.frames) (hl : W + (mx + 11) + rm.locals ≤ R.locals) (hc : cells + rm.cells ≤ R.cells) (hs : slots + rm.slots ≤ R.slots) (k : ∀ v T' h' L', Stand p l e R s m args below meth c T' (locs ++ L') (cells + rm.cells) (slots + rm.slots) → T'.heap = h' → Q v h' L' → Go p e below P (T'.setTop (mkF m pc' Ls (v.toList ++ rest)))) : Go p e below P (T.setTop (mkF m pc Ls st)) := by
  subst hp hst
  obtain ⟨cq, kq, qa, qb, qc⟩ := isOf B.z eT E
  obtain ⟨v, _, ⟨T', L', k', n'⟩, -, X', ⟨Lc, hQ, l1, l2, l3⟩, q'⟩ := X.interfaceBack B.x (xi := y) (y := z) B.o (mvT B.z w1) (mvT B.z w2) (mvT B.z w2' hfa) (mvT B.z w3) (mvT B.z w4) (mvT B.z w7) (mvT B.z w8) (mvT B.z w9) hy (C.back (W := W) B.z w6 w5 hf hl) qa qb qc (g := mkF m pc Ls (argsL.reverse ++ .ref a :: rest)) rfl (B.mx hm) (Steps.refl _) (argsL := argsL) (rest := rest) hlen rfl (by show 2 * 0 + _ ≤ _; omega) (B.d q) (fun _ _ => ⟨rfl, eT, hc, hs⟩)
  dsimp only [Pt.U, Pt.locs, Pt.cells, Pt.slots] at X' l1 l2 l3 q' hQ
  subst l1 l2 l3
  exact (k v T' _ Lc X' rfl hQ).via fun _ => q'.trans
theorem g_callP (X : Stand p l e R s m args below meth c T locs cells slots) (B : Bo Z p s m meth c own nm bytes maxL ret) {y : MethodName} {by' : ByteArray} {mx : Nat} {rt : Option FieldType} {rm : Room} {Q : Option Value → Heap → List Loc → Prop} {index : Nat} {K : String} {a : Addr} (argsL rest : List Value) (q : decode bytes pc = .ok (.invokevirtual index, 3)) (pc' : Nat) (hp : pc + 3 = pc') (hst : st = argsL.reverse ++ .ref a :: rest) (w1 : (Jvm.Cond.methodLink own index y).before a0 Z = true) (w2 : (Jvm.Cond.instanceMethod y).before a0 Z = true) (w3 : (Jvm.Cond.selects y.cls y y).before a0 Z = true) (w4 : (Jvm.Cond.privateMethod y).before a0 Z = true) (w5 : (Jvm.Cond.initialized y.cls).before a0 Z = true) (w6 : (Jvm.Cond.code y by' mx rt).before a0 Z = true) (hy : y.cls ≠ "java/lang/invoke/MethodHandle" ∧ y.cls ≠ "java/lang/invoke/VarHandle") (hlen : ∀ sig, parseMethodDescriptor y.desc = some sig → argsL.length = sig.parameters.length) (E : Exa Z h a K) (C : Ctr l Z y by' mx rt rm (.ref a :: argsL).toArray h Q) (eT : T.heap = h) (hm : Ls.size = maxL) (W : Nat) (hW : (rest.map fun v => v.category).sum ≤ W) (hf : rm.frames + 1 ≤ R.frames) (hl : W + (mx + 11) + rm.locals ≤ R.locals) (hc : cells + rm.cells ≤ R.cells) (hs : slots + rm.slots ≤ R.slots) (k : ∀ v T' h' L', Stand p l e R s m args below meth c T' (locs ++ L') (cells + rm.cells) (slots + rm.slots) → T'.heap = h' → Q v h' L' → Go p e below P (T'.setTop (mkF m pc' Ls (v.toList ++ rest)))) : Go p e below P (T.setTop (mkF m pc Ls st)) := by
  subst hp hst
  obtain ⟨cl, hcl, hpl⟩ := E.cell
  obtain ⟨v, _, ⟨T', L', k', n'⟩, -, X', ⟨Lc, hQ, l1, l2, l3⟩, q'⟩ := X.privateBack B.x (y := y) B.o (mvT B.z w1) (mvT B.z w2) (mvT B.z w3) (Cond.privateMethod_at (args := #[]) (mvP B.z w4)) (mvT B.z w6) hy (C.back (W := W) B.z w6 w5 hf hl) (g := mkF m pc Ls (argsL.reverse ++ .ref a :: rest)) rfl (B.mx hm) (Steps.refl _) (by rw [eT]; exact hcl) hpl (argsL := argsL) (rest := rest) hlen rfl (by show 2 * 0 + _ ≤ _; omega) (B.d q) (fun _ _ => ⟨rfl, eT, hc, hs⟩)
  dsimp only [Pt.U, Pt.locs, Pt.cells, Pt.slots] at X' l1 l2 l3 q' hQ
  subst l1 l2 l3
  exact (k v T' _ Lc X' rfl hQ).via fun _ => q'.trans
theorem g_retOut (X : Stand p l e R s m args below meth c T locs cells slots) (B : Bo Z p s m meth c own nm bytes maxL ret) {Q : Option Value → Heap → List Loc → Prop} {cc ss : Nat} {w : Value} {t : FieldType} {i : Instr} (q : decode bytes pc = .ok (i, 1)) (ht : ret = some t) (hn : narrow t w = w)
    (hi : (i = .ireturn ∧ (t = .int ∨ t = .boolean ∨ t = .byte ∨ t = .char ∨ t = .short) ∧ ∃ z, w = .int z) ∨ (i = .lreturn ∧ t = .long ∧ ∃ z, w = .long z) ∨ (i = .dreturn ∧ t = .double ∧ ∃ z, w = .double z) ∨ (i = .freturn ∧ t = .float ∧ ∃ z, w = .float z) ∨ (i = .areturn ∧ t.isReference = true ∧ w.isRef = true))
    (hc : cells ≤ cc) (hs : slots ≤ ss) (eT : T.heap = h) (hQ : Q (some w) h locs) : Go p e below (EndsQ s Q cc ss) (T.setTop (mkF m pc Ls (w :: st))) := by
  have hl := B.lk
  obtain ⟨fs, hr, hrun, hended, hW, hsame⟩ := X.leave (v := some w) (fun z => by rw [B.r, ht] at z; cases z) hl
  subst eT
  exact ⟨_, _, retOut X B.x (B.r.trans ht) hn hi (B.d q) hr, hrun, hended, _, _, rfl, hQ, ⟨_, rfl⟩, hW, hsame.mono hc hs⟩
theorem g_retA (X : Stand p l e R s m args below meth c T locs cells slots) (B : Bo Z p s m meth c own nm bytes maxL ret) {Q : Option Value → Heap → List Loc → Prop} {cc ss : Nat} {w : Value} {t : FieldType} (q : decode bytes pc = .ok (.areturn, 1)) (ht : ret = some t) (hr : t.isReference = true) (hw : w.isRef = true) (hc : cells ≤ cc) (hs : slots ≤ ss) (eT : T.heap = h) (hQ : Q (some w) h locs) : Go p e below (EndsQ s Q cc ss) (T.setTop (mkF m pc Ls (w :: st))) :=
  g_retOut X B q ht (by cases t <;> first | (cases hr; done) | (cases w <;> first | rfl | (cases hw; done))) (Or.inr (Or.inr (Or.inr (Or.inr ⟨rfl, hr, hw⟩)))) hc hs eT hQ
theorem g_retI (X : Stand p l e R s m args below meth c T locs cells slots) (B : Bo Z p s m meth c own nm bytes maxL ret) {Q : Option Value → Heap → List Loc → Prop} {cc ss : Nat} {z : Int32} (q : decode bytes pc = .ok (.ireturn, 1)) (ht : ret = some .int) (hc : cells ≤ cc) (hs : slots ≤ ss) (eT : T.heap = h) (hQ : Q (some (.int z)) h locs) : Go p e below (EndsQ s Q cc ss) (T.setTop (mkF m pc Ls (.int z :: st))) :=
  g_retOut X B q ht rfl (Or.inl ⟨rfl, Or.inl rfl, _, rfl⟩) hc hs eT hQ
theorem g_retL (X : Stand p l e R s m args below meth c T locs cells slots) (B : Bo Z p s m meth c own nm bytes maxL ret) {Q : Option Value → Heap → List Loc → Prop} {cc ss : Nat} {z : Int64} (q : decode bytes pc = .ok (.lreturn, 1)) (ht : ret = some .long) (hc : cells ≤ cc) (hs : slots ≤ ss) (eT : T.heap = h) (hQ : Q (some (.long z)) h locs) : Go p e below (EndsQ s Q cc ss) (T.setTop (mkF m pc Ls (.long z :: st))) :=
  g_retOut X B q ht rfl (Or.inr (Or.inl ⟨rfl, rfl, _, rfl⟩)) hc hs eT hQ
theorem g_retN (X : Stand p l e R s m args below meth c T locs cells slots) (B : Bo Z p s m meth c own nm bytes maxL ret) {Q : Option Value → Heap → List Loc → Prop} {cc ss : Nat} {z : Int32} {t : FieldType} (q : decode bytes pc = .ok (.ireturn, 1)) (ht : ret = some t) (hn : narrow t (.int z) = .int z) (hk : t = .boolean ∨ t = .byte ∨ t = .char ∨ t = .short) (hc : cells ≤ cc) (hs : slots ≤ ss) (eT : T.heap = h) (hQ : Q (some (.int z)) h locs) : Go p e below (EndsQ s Q cc ss) (T.setTop (mkF m pc Ls (.int z :: st))) :=
  g_retOut X B q ht hn (Or.inl ⟨rfl, Or.inr hk, _, rfl⟩) hc hs eT hQ
theorem g_retV (X : Stand p l e R s m args below meth c T locs cells slots) (B : Bo Z p s m meth c own nm bytes maxL ret) {Q : Option Value → Heap → List Loc → Prop} {cc ss : Nat} (q : decode bytes pc = .ok (.return_, 1)) (ht : ret = none) (hc : cells ≤ cc) (hs : slots ≤ ss) (eT : T.heap = h) (hQ : Q none h locs) : Go p e below (EndsQ s Q cc ss) (T.setTop (mkF m pc Ls [])) := by
  have hl := B.lk
  obtain ⟨fs, hr, hrun, hended, hW, hsame⟩ := X.leave (v := none) (fun _ => rfl) hl
  subst eT
  exact ⟨_, _, X.returnOut B.x (B.r.trans ht) (B.d q) hr, hrun, hended, _, _, rfl, hQ, ⟨_, rfl⟩, hW, hsame.mono hc hs⟩
end OwnKit
theorem own_abs {P : Prop} {G : Prop} (q : P) (z : ¬ P) : G := absurd q z
theorem own_abs' {P : Prop} {G : Prop} (q : ¬ P) (z : P) : G := absurd z q
/-! own: from the words of a case to facts -/
theorem own_fldI {Z : State} {args : Array Value} {t : Term} {C n d : String} {a : Addr} {k : Int32} (ev : t.eval args Z none [] Z = some (.ref a)) (q : (Jvm.Cond.eq (.field t C n d) (.int k)).value args Z none Z [] = some true) : Fld Z Z.heap a C n d (.int k) := by
  obtain ⟨x, y, h1, h2, h3, -⟩ := cmp_v (Or.inl q)
  cases h2
  have h4 : Z.fieldOf? a C n d = some x := (fld_at ev).symm.trans h1
  have h5 : ∃ z, x = .int z := by cases x <;> simp [Kin, Value.isRef] at h3 ⊢
  obtain ⟨z, rfl⟩ := h5
  have h6 : z = k := by
    have h7 : (Jvm.Cond.eq (.field t C n d) (.int k)).value args Z none Z [] = some (decide (z = k)) := by simp only [Cond.value, h1, Term.int_eval]
    exact gotT h7 q
  exact h6 ▸ Fld.start h4
theorem own_fldN {Z : State} {args : Array Value} {t : Term} {C n d : String} {a : Addr} (ev : t.eval args Z none [] Z = some (.ref a)) (q : (Jvm.Cond.eq (.field t C n d) .null).value args Z none Z [] = some true) : Fld Z Z.heap a C n d .null := Fld.start ((fld_at ev).symm.trans (null_v q))
theorem own_stk {Z : State} {h h' : Heap} {C n d : String} {v : Value} (F : Sta Z h C n d v) (K : Keep h h' []) : Sta Z h' C n d v := by
  obtain ⟨cf, i, k, f, st, cell, h1, h2, h3, h4, h5, r⟩ := F
  exact ⟨cf, i, k, f, st, cell, h1, h2, h3, h4, K.2.1 _ _ h5 (fun q => nomatch q), r⟩
def own_Pl (h : Heap) (ws : List Addr) : Prop := ∀ a ∈ ws, ∀ c : Cell, h[a]? = some c → c.vm.isStatics = false
theorem own_pl0 {h : Heap} : own_Pl h [] := fun _ q => nomatch q
theorem own_plE {Z : State} {h : Heap} {a : Addr} {C : String} {ws : List Addr} (E : Exa Z h a C) (q : own_Pl h ws) : own_Pl h (a :: ws) := fun x hx c hc => by
  rcases List.mem_cons.mp hx with rfl | hx
  · obtain ⟨c', k, h1, -, -, h4, -⟩ := E
    cases h1.symm.trans hc; exact h4
  · exact q x hx c hc
theorem own_plA {Z : State} {h : Heap} {a : Addr} {ty : FieldType} {vs : List Value} {ws : List Addr} (E : Av Z h a ty vs) (q : own_Pl h ws) : own_Pl h (a :: ws) := fun x hx c hc => by
  rcases List.mem_cons.mp hx with rfl | hx
  · obtain ⟨c', A, -⟩ := E
    cases A.1.symm.trans hc; exact A.plain
  · exact q x hx c hc
theorem own_stkw {Z : State} {h h' : Heap} {C n d : String} {v : Value} {ws : List Addr} (F : Sta Z h C n d v) (K : Keep h h' ws) (q : own_Pl h ws) : Sta Z h' C n d v := by
  obtain ⟨cf, i, k, f, st, cell, h1, h2, h3, h4, h5, h6, r⟩ := F
  exact ⟨cf, i, k, f, st, cell, h1, h2, h3, h4, K.2.1 _ _ h5 (fun z => by rw [q _ z _ h5] at h6; cases h6), h6, r⟩
theorem own_neAv {Z : State} {h : Heap} {a b : Addr} {C : String} {ty : FieldType} {vs : List Value} {a0 : Array Value} {k : Nat} (F : Exa Z h a C) (wi : (Jvm.Cond.instantiable C k).before a0 Z = true) (G : Av Z h b ty vs) : a ≠ b := by
  obtain ⟨c, A, -⟩ := G
  exact ne_arr F wi A
/-- an array of references over C, its contents known -/
def AvR (Z : State) (h : Heap) (a : Addr) (C : String) (vs : List Value) : Prop := ∃ c : Cell, Arr Z h a c (.object C) ∧ c.slots.toList = vs ∧ Ovr Z c.cls C
theorem AvR.av {Z : State} {h : Heap} {a : Addr} {C : String} {vs : List Value} (A : AvR Z h a C vs) : Av Z h a (.object C) vs := by obtain ⟨c, q, r, -⟩ := A; exact ⟨c, q, r⟩
theorem own_AvR_ext {Z : State} {h h' : Heap} {a : Addr} {C : String} {vs : List Value} (A : AvR Z h a C vs) (E : Ext h h') : AvR Z h' a C vs := by obtain ⟨c, q, r⟩ := A; exact ⟨c, q.ext E, r⟩
theorem own_AvR_other {Z : State} {h h' : Heap} {a b : Addr} {C : String} {vs : List Value} {sl : Nat} {v : Value} (A : AvR Z h b C vs) (W : Wr h h' a sl v) (q : b ≠ a) : AvR Z h' b C vs := by obtain ⟨c, q1, r⟩ := A; exact ⟨c, q1.other W q, r⟩
theorem own_AvR_keep {Z : State} {h h' : Heap} {a : Addr} {C : String} {vs : List Value} {ws : List Addr} (A : AvR Z h a C vs) (K : Keep h h' ws) (q : a ∉ ws) : AvR Z h' a C vs := by obtain ⟨c, q1, r⟩ := A; exact ⟨c, ⟨K.2.1 a c q1.1 q, q1.2⟩, r⟩
theorem AvR.set {Z : State} {h h' : Heap} {a : Addr} {C : String} {vs : List Value} {i : Nat} {v : Value} (A : AvR Z h a C vs) (W : Wr h h' a i v) : AvR Z h' a C (vs.set i v) := by
  obtain ⟨c, q, rfl, r⟩ := A
  exact ⟨_, q.same W, by simp [Cell.setSlot], r⟩
theorem own_fldR {Z : State} {args : Array Value} {t u : Term} {C n d : String} {a b : Addr} (ev : t.eval args Z none [] Z = some (.ref a)) (ew : u.eval args Z none [] Z = some (.ref b)) (q : (Jvm.Cond.eq (.field t C n d) u).value args Z none Z [] = some true) : Fld Z Z.heap a C n d (.ref b) := by
  obtain ⟨x, y, h1, h2, h3, -⟩ := cmp_v (Or.inl q)
  cases ew.symm.trans h2
  have h4 : Z.fieldOf? a C n d = some x := (fld_at ev).symm.trans h1
  have h5 : x.isRef = true := by cases x <;> simp [Kin, Value.isRef] at h3 ⊢
  have h6 : x = .ref b := gotT (eq_R h1 ew h5 rfl) q
  exact h6 ▸ Fld.start h4
section OwnKit2
variable {p : Program} {l : Launch} {e : Env} {R : Room} {s : State} {m : MethodId} {args : Array Value} {below : List Frame} {meth : Method} {c : Code} {T : State} {locs : List Loc} {cells slots : Nat} {Z : State} {a0 : Array Value} {h : Heap} {P : State → Outcome → Prop} {pc : Nat} {Ls : Array Slot} {st rest : List Value} {own nm : String} {bytes : ByteArray} {maxL : Nat} {ret : Option FieldType}
theorem g_newR (X : Stand p l e R s m args below meth c T locs cells slots) (B : Bo Z p s m meth c own nm bytes maxL ret) {C : String} {index : Nat} {n : Int32} (vs : List Value) (q : decode bytes pc = .ok (.anewarray index, 3)) (pc' : Nat) (hp : pc + 3 = pc') (w1 : (Jvm.Cond.classLink own index C).before a0 Z = true) (w2 : (Jvm.Cond.arrayOver (.object C)).before a0 Z = true) (eT : T.heap = h) (hn : ¬ n < 0) (hvs : List.replicate n.toNatClampNeg (Value.null) = vs) (hb : vs.length * 8 ≤ 536870912) (hc : cells + 1 ≤ R.cells) (hl : slots + vs.length ≤ R.slots) (k : ∀ T' h' a, Stand p l e R s m args below meth c T' locs (cells + 1) (slots + vs.length) → T'.heap = h' → a = h.size → Ext h h' → AvR Z h' a C vs → Go p e below P (T'.setTop (mkF m pc' Ls (.ref a :: st)))) : Go p e below P (T.setTop (mkF m pc Ls (.int n :: st))) := by
  subst hp
  obtain ⟨T', h', cA, X', e', E', A', O', q'⟩ := newR X B.x B.z B.o w1 w2 eT (g := mkF m pc Ls (.int n :: st)) rfl (B.d q) rfl hn (cap := vs.length) (by rw [← hvs]; simp) hb hc hl
  exact (k T' h' _ X' e' rfl E' ⟨_, A', by rw [← hvs]; simp [newA, defaultValue], O'⟩).via q'
theorem g_aastore (X : Stand p l e R s m args below meth c T locs cells slots) (B : Bo Z p s m meth c own nm bytes maxL ret) {C : String} {a y : Addr} {j : Int32} {vs : List Value} (i : Nat) (q : decode bytes pc = .ok (.aastore, 1)) (pc' : Nat) (hp : pc + 1 = pc') (eT : T.heap = h) (A : AvR Z h a C vs) (I : Ins Z h y C true) (hi : j.toNatClampNeg = i) (h0 : ¬ j < 0) (hl : i < vs.length) (k : ∀ T' h', Stand p l e R s m args below meth c T' (locs ++ [⟨a, i⟩]) cells slots → T'.heap = h' → Wr h h' a i (.ref y) → AvR Z h' a C (vs.set i (.ref y)) → Go p e below P (T'.setTop (mkF m pc' Ls st))) : Go p e below P (T.setTop (mkF m pc Ls (.ref y :: .int j :: .ref a :: st))) := by
  subst hp
  have A' := A
  obtain ⟨cl, Ar, hv, O⟩ := A'
  obtain ⟨T', h', X', e', W', q'⟩ := stR X B.x B.z eT Ar (Av.inb (Z := Z) (h := h) (a := a) (ty := .object C) hv hi h0 hl) rfl (Sto.of Ar O I) (g := mkF m pc Ls (.ref y :: .int j :: .ref a :: st)) rfl rfl (B.d q)
  subst hi
  exact (k T' h' X' e' W' (A.set W')).via q'
end OwnKit2

/-! own: numbers of the String bodies -/
theorem own_ti {n : Nat} (h : n < 2147483648) : (Int32.ofNat n).toInt = n := Int32.toInt_ofNat_of_lt h
theorem own_tn {n : Nat} (h : n < 2147483648) : (Int32.ofNat n).toNatClampNeg = n := by
  rw [Int32.toNatClampNeg, own_ti h]; rfl
theorem own_nn {n : Nat} (h : n < 2147483648) : ¬ Int32.ofNat n < 0 := by
  rw [Int32.lt_iff_toInt_lt, own_ti h]; show ¬ (n : Int) < 0; omega
theorem own_lt {i n : Nat} (hi : i < 2147483648) (hn : n < 2147483648) : (Int32.ofNat i < Int32.ofNat n) ↔ i < n := by
  rw [Int32.lt_iff_toInt_lt, own_ti hi, own_ti hn]; omega
theorem own_s1 {i : Nat} (h : i + 1 < 2147483648) : Int32.ofNat i + 1 = Int32.ofNat (i + 1) := by
  apply Int32.toInt_inj.mp
  have h1 := c_iadd (Int32.ofNat i) 1
  have h2 := rng32 (Int32.ofNat i + 1)
  have h3 : (1 : Int32).toInt = 1 := by decide
  rw [own_ti (by omega)] at h1
  rw [own_ti h]
  omega
theorem own_shl1 {n : Nat} (h : n < 1073741824) : Int32.ofNat n <<< ((1 : Int32) &&& 31) = Int32.ofNat (2 * n) := by
  apply Int32.toInt_inj.mp
  have h1 := c_ishl (Int32.ofNat n) 1 1 (by decide)
  have h2 := rng32 (Int32.ofNat n <<< ((1 : Int32) &&& 31))
  rw [own_ti (by omega)] at h1
  rw [own_ti (by omega)]
  omega
theorem own_shr1 {n : Nat} (h : n < 2147483648) : Int32.ofNat n >>> ((1 : Int32) &&& 31) = Int32.ofNat (n / 2) := by
  apply Int32.toInt_inj.mp
  have h1 := c_ishr (Int32.ofNat n) 1 1 (by decide)
  rw [own_ti h] at h1
  rw [own_ti (by omega), h1]
  omega
theorem own_shr0 (x : Int32) : x >>> ((0 : Int32) &&& 31) = x := by
  apply Int32.toInt_inj.mp
  have h1 := c_ishr x 0 0 (by decide)
  simpa using h1
def own_ch (c : Int32) : Prop := 0 ≤ c.toInt ∧ c.toInt < 65536
def own_lo (c : Int32) : Int32 := c.toInt8.toInt32
def own_hi (c : Int32) : Int32 := (c >>> ((8 : Int32) &&& 31)).toInt8.toInt32
theorem own_nb (x : Int32) : nar .byte (x.toInt8.toInt32) = x.toInt8.toInt32 := by
  have h := XT.narrow_b x
  simpa [narrow, nar] using h
theorem own_get {c : Int32} (h : own_ch c) : ((((own_lo c) &&& (255 : Int32)) <<< ((0 : Int32) &&& 31)) ||| (((own_hi c) &&& (255 : Int32)) <<< ((8 : Int32) &&& 31))).toUInt32.toUInt16.toUInt32.toInt32 = c := by
  obtain ⟨h0, h1⟩ := h
  have a1 := c_i2b c
  have a2 := c_ishr c 8 8 (by decide)
  have a3 := c_i2b (c >>> ((8 : Int32) &&& 31))
  have a4 := c_mask (own_lo c) 255 8 (by decide) (by decide)
  have a5 := c_mask (own_hi c) 255 8 (by decide) (by decide)
  have a6 := c_ishl (own_lo c &&& 255) 0 0 (by decide)
  have a7 := c_ishl (own_hi c &&& 255) 8 8 (by decide)
  have r6 := rng32 ((own_lo c &&& 255) <<< ((0 : Int32) &&& 31))
  have r7 := rng32 ((own_hi c &&& 255) <<< ((8 : Int32) &&& 31))
  unfold own_lo at a4
  unfold own_hi at a5
  have b4 : (own_lo c &&& 255).toInt = c.toInt % 256 := by unfold own_lo; omega
  have b5 : (own_hi c &&& 255).toInt = c.toInt / 256 := by unfold own_hi; omega
  have b6 : ((own_lo c &&& 255) <<< ((0 : Int32) &&& 31)).toInt = c.toInt % 256 := by omega
  have b7 : ((own_hi c &&& 255) <<< ((8 : Int32) &&& 31)).toInt = c.toInt / 256 * 256 := by omega
  have a8 := c_or' ((own_lo c &&& 255) <<< ((0 : Int32) &&& 31)) ((own_hi c &&& 255) <<< ((8 : Int32) &&& 31)) 8 (by decide) 256 (by decide) (by omega) (by omega) (by omega)
  have r8 := rng32 (((own_lo c &&& 255) <<< ((0 : Int32) &&& 31)) ||| ((own_hi c &&& 255) <<< ((8 : Int32) &&& 31)))
  have b8 : (((own_lo c &&& 255) <<< ((0 : Int32) &&& 31)) ||| ((own_hi c &&& 255) <<< ((8 : Int32) &&& 31))).toInt = c.toInt := by omega
  have a9 := c_i2c (((own_lo c &&& 255) <<< ((0 : Int32) &&& 31)) ||| ((own_hi c &&& 255) <<< ((8 : Int32) &&& 31)))
  apply Int32.toInt_inj.mp
  omega
theorem own_chc (x : Int32) : own_ch x.toUInt32.toUInt16.toUInt32.toInt32 := by have h := c_i2c x; exact ⟨h.2.1, h.2.2⟩
theorem own_nc {c : Int32} (h : own_ch c) : nar .char c = c := by
  have h1 : nar .char c = c.toUInt32.toUInt16.toUInt32.toInt32 := rfl
  have h2 := c_i2c c
  rw [h1]
  apply Int32.toInt_inj.mp
  obtain ⟨h3, h4⟩ := h
  omega
/-- the bytes of a UTF-16 String, up to the i-th sign -/
def own_Up (vs : List Value) (cs : List Int32) (i : Nat) : Prop := vs.length = 2 * cs.length ∧ ∀ j c, j < i → cs[j]? = some c → vs[2 * j]? = some (.int (own_lo c)) ∧ vs[2 * j + 1]? = some (.int (own_hi c))
def own_U (vs : List Value) (cs : List Int32) : Prop := own_Up vs cs cs.length
/-- the bytes of a Latin-1 String, up to the i-th sign -/
def own_Lp (vs : List Value) (cs : List Int32) (i : Nat) : Prop := vs.length = cs.length ∧ ∀ j c, j < i → cs[j]? = some c → vs[j]? = some (.int (own_lo c)) ∧ ¬ 255 < c
def own_L (vs : List Value) (cs : List Int32) : Prop := own_Lp vs cs cs.length
theorem own_Up0 {cs : List Int32} {n : Nat} (h : n = 2 * cs.length) : own_Up (List.replicate n (.int 0)) cs 0 := ⟨by simp [h], fun j c q => absurd q (Nat.not_lt_zero _)⟩
theorem own_Ups {vs : List Value} {cs : List Int32} {i : Nat} {c : Int32} (h : own_Up vs cs i) (hc : cs[i]? = some c) : own_Up ((vs.set (2 * i) (.int (own_lo c))).set (2 * i + 1) (.int (own_hi c))) cs (i + 1) := by
  obtain ⟨h1, h2⟩ := h
  have hi : i < cs.length := (List.getElem?_eq_some_iff.mp hc).1
  refine ⟨by simp [h1], fun j d hj hd => ?_⟩
  by_cases e : j = i
  · subst e
    cases hc.symm.trans hd
    refine ⟨?_, ?_⟩
    · rw [List.getElem?_set_ne (by omega), List.getElem?_set_self (by omega)]
    · rw [List.getElem?_set_self (by simp; omega)]
  · have q := h2 j d (by omega) hd
    refine ⟨?_, ?_⟩
    · rw [List.getElem?_set_ne (by omega), List.getElem?_set_ne (by omega)]; exact q.1
    · rw [List.getElem?_set_ne (by omega), List.getElem?_set_ne (by omega)]; exact q.2
theorem own_Lp0 {cs : List Int32} {n : Nat} (h : n = cs.length) : own_Lp (List.replicate n (.int 0)) cs 0 := ⟨by simp [h], fun j c q => absurd q (Nat.not_lt_zero _)⟩
theorem own_Lps {vs : List Value} {cs : List Int32} {i : Nat} {c : Int32} (h : own_Lp vs cs i) (hc : cs[i]? = some c) (hl : ¬ 255 < c) : own_Lp (vs.set i (.int (own_lo c))) cs (i + 1) := by
  obtain ⟨h1, h2⟩ := h
  have hi : i < cs.length := (List.getElem?_eq_some_iff.mp hc).1
  refine ⟨by simp [h1], fun j d hj hd => ?_⟩
  by_cases e : j = i
  · subst e
    cases hc.symm.trans hd
    exact ⟨by rw [List.getElem?_set_self (by omega)], hl⟩
  · have q := h2 j d (by omega) hd
    exact ⟨by rw [List.getElem?_set_ne (by omega)]; exact q.1, q.2⟩
theorem own_mapat {cs : List Int32} {i : Nat} {c : Int32} (h : cs[i]? = some c) : (cs.map Value.int)[i]? = some (.int c) := by simp [h]
theorem own_ex {cs : List Int32} {i : Nat} (h : i < cs.length) : ∃ c, cs[i]? = some c := ⟨cs[i], List.getElem?_eq_getElem h⟩

/-! own: the wide kit: bodies that may load String constants -/
def EndsW (s : State) (Q : Option Value → Heap → Vm → List Loc → Prop) (cc ss : Nat) : State → Outcome → Prop := fun t o => ∃ v L, o = .returned v ∧ Q v t.heap t.vm L ∧ ReturnedEndW s o t L cc ss
def CtrW (l : Launch) (Z : State) (y : MethodName) (bytes : ByteArray) (maxL : Nat) (ret : Option FieldType) (rm : Room) (as : Array Value) (h0 : Heap) (Ts : List String) (Q : Option Value → Heap → Vm → List Loc → Prop) : Prop :=
  ∀ ws, MetFree l y (head1 (Jvm.Cond.code y bytes maxL ret :: ws) rm) (fun a U => a = as ∧ Z.Warmed39 U.vm ∧ U.heap = h0 ∧ IB Z U.vm Ts) (fun _ _ _ _ _ => True) (fun _ U o U' => ∃ v L, o = .returned v ∧ Q v U'.heap U'.vm L ∧ ReturnedEndW U o U' L rm.cells rm.slots)
section OwnWide
variable {p : Program} {l : Launch} {e : Env} {R : Room} {s : State} {m : MethodId} {args : Array Value} {below : List Frame} {meth : Method} {c : Code} {T : State} {locs : List Loc} {cells slots : Nat} {Z : State} {a0 : Array Value} {h : Heap} {P : State → Outcome → Prop} {pc : Nat} {Ls : Array Slot} {st rest : List Value} {own nm : String} {bytes : ByteArray} {maxL : Nat} {ret : Option FieldType} {vm0 : Vm} {k0 : Nat} {Ts : List String}
theorem Bo.re {vm1 : Vm} (B : Bo Z p s m meth c own nm bytes maxL ret) (hW : s.Warmed39 vm1) : Bo Z p (s.setVm vm1) m meth c own nm bytes maxL ret :=
  ⟨B.1, B.2.1, B.2.2.1, State.Warmed39.trans (t := s) B.z hW, (by show vm1.findClass own = _; rw [hW.alike.findClass]; exact B.o), B.n, B.r, B.lk⟩
theorem CtrW.of {y : MethodName} {rm : Room} {as : Array Value} {h0 : Heap} {Q : Option Value → Heap → Vm → List Loc → Prop} (hn : plainFor y = true)
    (body : ∀ (p : Program) (e : Env) (s : State) (m : MethodId) (below : List Frame) (meth : Method) (c : Code) (T : State), Stand p l e rm (s.setVm s.vm) m as below meth c T [] 0 0 → Bo Z p (s.setVm s.vm) m meth c y.cls y.name bytes maxL ret → T.heap = h0 → s.heap = h0 → s.Since s.vm 0 → IB Z s.vm Ts → Go p e below (EndsW s Q rm.cells rm.slots) (T.setTop (entryFrame m as maxL))) :
    CtrW l Z y bytes maxL ret rm as h0 Ts Q := by
  intro ws
  refine MetFree.of_bodySF hn hisR ?_
  intro p e s m args below meth c s₁ Bd hml0 hP hK
  obtain ⟨rfl, hZ, hh, hI⟩ := hP
  exact body p e s m below meth c s₁ (Stand.of_body Bd) ⟨Bd.exec, Bd.bytes, hml0, hZ, findClass_of_methodNamed Bd.named, (name_of_methodNamed Bd.named Bd.method).1, Bd.returns, BodyLoose.notSynchronized Bd⟩ (by rw [← hh, Bd.state]; rfl) hh ((State.WarmedH.refl s).since 0) hI
theorem CtrW.back {y : MethodName} {rm : Room} {as : Array Value} {Q : Option Value → Heap → Vm → List Loc → Prop} {W len : Nat} (C : CtrW l Z y bytes maxL ret rm as h Ts Q) (hZ : Z.Warmed39 s.vm) (I : IB Z s.vm Ts) (wc : (Jvm.Cond.code y bytes maxL ret).before a0 Z = true) (wz : (Jvm.Cond.initialized y.cls).before a0 Z = true) (hf : rm.frames + 1 ≤ R.frames) (hl : W + (maxL + 11) + rm.locals ≤ R.locals) :
    BackS l R p e below s args y len W (fun A a => a = as ∧ A.U.heap = h ∧ A.cells + rm.cells ≤ R.cells ∧ A.slots + rm.slots ≤ R.slots)
      (fun A _ v B => ∃ L, Q v B.U.heap B.U.vm L ∧ B.locs = A.locs ++ L ∧ B.cells = A.cells + rm.cells ∧ B.slots = A.slots + rm.slots) :=
  BackS.of_freeW (bytes := bytes) (maxL := maxL) (ret := ret) (E := fun _ _ o t L k n => k = rm.cells ∧ n = rm.slots ∧ ∃ v, o = .returned v ∧ Q v t.heap t.vm L) (C []) hf hl
    (fun m meth c A a Y hp => have hU : Z.Warmed39 A.U.vm := wtrans hZ Y.warmed
      ⟨by show (Cond.and _ .tt).before a A.U = true; rw [Cond.before_and, mv hU wc]; rfl, mv hU wc, mv hU wz, hp.2.2.1, hp.2.2.2⟩)
    (fun m meth c A a g mk Y hp => ⟨hp.1, wtrans hZ Y.warmed, hp.2.1, by
      have q : (A.U.calling g mk a).vm.interned = s.vm.interned := Y.warmed.interned_eq
      obtain ⟨more, e1, e2⟩ := I
      exact ⟨more, q.trans e1, e2⟩⟩) (fun _ _ _ _ _ _ _ _ _ => trivial)
    (fun _ _ _ _ ⟨v, L, h1, h2, h3⟩ => ⟨L, _, _, h3, rfl, rfl, v, h1, h2⟩)
    (fun m meth c A a g mk v t L k n Y hp _ _ ⟨e1, e2, v', e3, e4⟩ => by cases e3; subst e1 e2; exact ⟨L, e4, rfl, rfl, rfl⟩)
theorem own_Arv_Av {a : Addr} {k : ClassId} {ty : FieldType} {z : Int32} {vs : List Value} {d : Value} (A : Arv Z h a k ty z vs d) (hl : z.toNatClampNeg = vs.length) : Av Z h a ty vs := by
  obtain ⟨c, A1, -, A3, -, A5, -⟩ := A
  refine ⟨c, A1, List.ext_getElem? fun i => ?_⟩
  rw [Array.getElem?_toList]
  by_cases q : i < c.slots.size
  · rw [A5 i q, List.getD, List.getElem?_eq_getElem (by omega)]; rfl
  · rw [Array.getElem?_eq_none (by omega), List.getElem?_eq_none (by omega)]
theorem g_ldcS (X : Stand p l e R (s.setVm vm0) m args below meth c T locs cells slots) (B : Bo Z p (s.setVm vm0) m meth c own nm bytes maxL ret) {index : Nat} (text : String) (vs : List Value) (z : Int32) (n : Nat) (q : decode bytes pc = .ok (.ldc index, 2)) (pc' : Nat) (hp : pc + 2 = pc') (w : (Jvm.Cond.stringLink own index text).before a0 Z = true) (wS : ∀ a ∈ Bundle.stringAtoms, a.before a0 Z = true)
    (eT : T.heap = h) (hS : s.Since vm0 k0) (hk : k0 ≤ h.size) (N : Fr s.heap.size locs) (hkeep : ∀ (b : Addr) (cl : Cell), Z.heap[b]? = some cl → s.heap[b]? = some cl) (I : IB Z vm0 Ts) (hnot : text ∉ Ts) (hh : Jvm.Lit.constHeld Z own index) (hcw : Jvm.Lit.compactW.before a0 Z = true)
    (ht : (∀ c ∈ text.toList, c.toNat < 256) ∧ text.toList.map (fun c => Value.int (Jvm.Lit.byteI c.toNat.toUInt16)) = vs) (hz : ¬ z < 0) (hl : z.toNatClampNeg = vs.length) (hn : 4 * text.toList.length ≤ n) (hbig : n ≤ 536870912) (hc : cells + 2 ≤ R.cells) (hl' : slots + (n + 4) ≤ R.slots)
    (k : ∀ a T' h' b, Stand p l e R (s.setVm T'.vm) m args below meth c T' locs (cells + 2) (slots + (n + 4)) → Bo Z p (s.setVm T'.vm) m meth c own nm bytes maxL ret → T'.heap = h' → Ext h h' → s.Since T'.vm h'.size → IB Z T'.vm (text :: Ts) → Lit (s.setVm T'.vm) own index a → Exa Z h' a "java/lang/String" → Fld Z h' a "java/lang/String" "coder" "B" (.int 0) → Fld Z h' a "java/lang/String" "value" "[B" (.ref b) → Av Z h' b .byte vs →
      Go p e below P (T'.setTop (mkF m pc' Ls (.ref a :: st)))) : Go p e below P (T.setTop (mkF m pc Ls st)) := by
  subst hp
  obtain ⟨a, T', h', k1, b, kb, r1, r2, r3, r4, r5, r6, r7, r8, r9, r10, r11, r12, r13, r14, r15, r16⟩ := ldcSVL X B.x B.z B.o w wS eT hS hk N hkeep I hnot hh hcw ht hz hl (g := mkF m pc Ls st) rfl (B.d q) hn hbig hc hl'
  exact (k a T' h' b r1 ⟨B.1, B.2.1, B.2.2.1, r6, r7, B.n, B.r, B.lk⟩ r2 r3 ⟨r4.1, r4.2.mono r5⟩ r14 r15 r8 r9 r10 (own_Arv_Av r11 hl)).via r16
theorem g_ldcSW (X : Stand p l e R (s.setVm vm0) m args below meth c T locs cells slots) (B : Bo Z p (s.setVm vm0) m meth c own nm bytes maxL ret) {index : Nat} (text : String) (vs : List Value) (z : Int32) (n : Nat) (q : decode bytes pc = .ok (.ldc index, 2)) (pc' : Nat) (hp : pc + 2 = pc') (w : (Jvm.Cond.stringLink own index text).before a0 Z = true) (wS : ∀ a ∈ Bundle.stringAtoms, a.before a0 Z = true)
    (eT : T.heap = h) (hS : s.Since vm0 k0) (hk : k0 ≤ h.size) (N : Fr s.heap.size locs) (hkeep : ∀ (b : Addr) (cl : Cell), Z.heap[b]? = some cl → s.heap[b]? = some cl) (I : IB Z vm0 Ts) (hnot : text ∉ Ts) (hh : Jvm.Lit.constHeld Z own index) (hcw : Jvm.Lit.compactW.before a0 Z = true)
    (ht : (∀ c ∈ text.toList, c.toNat < 256) ∧ text.toList.map (fun c => Value.int (Jvm.Lit.byteI c.toNat.toUInt16)) = vs) (hz : ¬ z < 0) (hl : z.toNatClampNeg = vs.length) (hn : 4 * text.toList.length ≤ n) (hbig : n ≤ 536870912) (hc : cells + 2 ≤ R.cells) (hl' : slots + (n + 4) ≤ R.slots)
    (k : ∀ a T' h' b, Stand p l e R (s.setVm T'.vm) m args below meth c T' locs (cells + 2) (slots + (n + 4)) → Bo Z p (s.setVm T'.vm) m meth c own nm bytes maxL ret → T'.heap = h' → Ext h h' → s.Since T'.vm h'.size → IB Z T'.vm (text :: Ts) → Lit (s.setVm T'.vm) own index a → (s.setVm vm0).Warmed39 T'.vm → Exa Z h' a "java/lang/String" → Fld Z h' a "java/lang/String" "coder" "B" (.int 0) → Fld Z h' a "java/lang/String" "value" "[B" (.ref b) → Av Z h' b .byte vs →
      Go p e below P (T'.setTop (mkF m pc' Ls (.ref a :: st)))) : Go p e below P (T.setTop (mkF m pc Ls st)) := by
  subst hp
  obtain ⟨a, T', h', k1, b, kb, r1, r2, r3, r4, r5, r6, r7, r8, r9, r10, r11, r12, r13, r14, r15, r16⟩ := ldcSVL (s := s.setVm vm0) X B.x B.z B.o w wS eT ((State.WarmedH.refl (s.setVm vm0)).since 0) (Nat.zero_le _) N hkeep I hnot hh hcw ht hz hl (g := mkF m pc Ls st) rfl (B.d q) hn hbig hc hl'
  exact (k a T' h' b r1 ⟨B.1, B.2.1, B.2.2.1, r6, r7, B.n, B.r, B.lk⟩ r2 r3 (hS.trans ⟨r4.1, r4.2.mono r5⟩ (Nat.le_trans hk r3.1)) r14 r15 r4.1 r8 r9 r10 (own_Arv_Av r11 hl)).via r16
theorem g_ldcAgain (X : Stand p l e R (s.setVm vm0) m args below meth c T locs cells slots) (B : Bo Z p (s.setVm vm0) m meth c own nm bytes maxL ret) {index : Nat} {text : String} {a : Addr} (q : decode bytes pc = .ok (.ldc index, 2)) (pc' : Nat) (hp : pc + 2 = pc') (w : (Jvm.Cond.stringLink own index text).before a0 Z = true) (L : Lit (s.setVm vm0) own index a) (k : Go p e below P (T.setTop (mkF m pc' Ls (.ref a :: st)))) : Go p e below P (T.setTop (mkF m pc Ls st)) := by
  subst hp
  exact k.via (ldcAgain X B.x B.z B.o w L (g := mkF m pc Ls st) rfl (B.d q))
theorem g_callNW (X : Stand p l e R (s.setVm vm0) m args below meth c T locs cells slots) (B : Bo Z p (s.setVm vm0) m meth c own nm bytes maxL ret) (hS : s.Since vm0 k0) (hk : k0 ≤ h.size) (I : IB Z vm0 Ts) {y : MethodName} {by' : ByteArray} {mx : Nat} {rm : Room} {Q : Option Value → Heap → Vm → List Loc → Prop} {index : Nat} {a : Addr} (argsL rest : List Value) (q : decode bytes pc = .ok (.invokespecial index, 3)) (pc' : Nat) (hp : pc + 3 = pc') (hst : st = argsL.reverse ++ .ref a :: rest) (hn : y.name = "<init>") (w1 : (Jvm.Cond.methodLink own index y).before a0 Z = true) (w2 : (Jvm.Cond.instanceMethod y).before a0 Z = true) (w3 : (Jvm.Cond.code y by' mx none).before a0 Z = true) (w4 : (Jvm.Cond.initialized y.cls).before a0 Z = true) (hy : y.cls ≠ "java/lang/invoke/MethodHandle" ∧ y.cls ≠ "java/lang/invoke/VarHandle") (hlen : ∀ sig, parseMethodDescriptor y.desc = some sig → argsL.length = sig.parameters.length) (C : CtrW l Z y by' mx none rm (.ref a :: argsL).toArray h Ts Q) (eT : T.heap = h) (hm : Ls.size = maxL) (W : Nat) (hW : (rest.map fun v => v.category).sum ≤ W) (hf : rm.frames + 1 ≤ R.frames) (hl : W + (mx + 11) + rm.locals ≤ R.locals) (hc : cells + rm.cells ≤ R.cells) (hs : slots + rm.slots ≤ R.slots) (k : ∀ v T' h' L', Stand p l e R (s.setVm T'.vm) m args below meth c T' (locs ++ L') (cells + rm.cells) (slots + rm.slots) → Bo Z p (s.setVm T'.vm) m meth c own nm bytes maxL ret → T'.heap = h' → s.Since T'.vm h'.size → Q v h' T'.vm L' → Go p e below P (T'.setTop (mkF m pc' Ls (v.toList ++ rest)))) : Go p e below P (T.setTop (mkF m pc Ls st)) := by
  subst hp hst
  obtain ⟨v, _, ⟨T', L', k', n'⟩, -, X', hS', hgr, ⟨Lc, hQ, l1, l2, l3⟩, q'⟩ := X.specialBackS B.x (y := y) hn B.o (mvT B.z w1) (mvT B.z w2) (mvT B.z w3) hy (C.back (W := W) B.z I w3 w4 hf hl) (g := mkF m pc Ls (argsL.reverse ++ .ref a :: rest)) rfl (B.mx hm) (Steps.refl _) (a := a) (argsL := argsL) (rest := rest) hlen rfl (by show 2 * 0 + _ ≤ _; omega) (B.d q) (fun _ _ => ⟨rfl, eT, hc, hs⟩)
  dsimp only [Pt.U, Pt.locs, Pt.cells, Pt.slots] at X' l1 l2 l3 q' hQ hS' hgr
  subst l1 l2 l3
  subst eT
  exact (k v T' _ Lc X' (Bo.re (s := s.setVm vm0) B hS'.1) rfl (hS.trans hS' (Nat.le_trans hk hgr)) hQ).via fun _ => q'.trans
theorem g_callSW (X : Stand p l e R (s.setVm vm0) m args below meth c T locs cells slots) (B : Bo Z p (s.setVm vm0) m meth c own nm bytes maxL ret) (hS : s.Since vm0 k0) (hk : k0 ≤ h.size) (I : IB Z vm0 Ts) {y : MethodName} {by' : ByteArray} {mx : Nat} {rt : Option FieldType} {rm : Room} {Q : Option Value → Heap → Vm → List Loc → Prop} {index : Nat} (argsL rest : List Value) (q : decode bytes pc = .ok (.invokestatic index, 3)) (pc' : Nat) (hp : pc + 3 = pc') (hst : st = argsL.reverse ++ rest) (w1 : (Jvm.Cond.methodLink own index y).before a0 Z = true) (w2 : (Jvm.Cond.static y).before a0 Z = true) (w3 : (Jvm.Cond.initialized y.cls).before a0 Z = true) (w4 : (Jvm.Cond.code y by' mx rt).before a0 Z = true) (hy : y.cls ≠ "java/lang/invoke/MethodHandle" ∧ y.cls ≠ "java/lang/invoke/VarHandle") (hlen : ∀ sig, parseMethodDescriptor y.desc = some sig → argsL.length = sig.parameters.length) (C : CtrW l Z y by' mx rt rm argsL.toArray h Ts Q) (eT : T.heap = h) (hm : Ls.size = maxL) (W : Nat) (hW : (rest.map fun v => v.category).sum ≤ W) (hf : rm.frames + 1 ≤ R.frames) (hl : W + (mx + 11) + rm.locals ≤ R.locals) (hc : cells + rm.cells ≤ R.cells) (hs : slots + rm.slots ≤ R.slots) (k : ∀ v T' h' L', Stand p l e R (s.setVm T'.vm) m args below meth c T' (locs ++ L') (cells + rm.cells) (slots + rm.slots) → Bo Z p (s.setVm T'.vm) m meth c own nm bytes maxL ret → T'.heap = h' → s.Since T'.vm h'.size → Q v h' T'.vm L' → Go p e below P (T'.setTop (mkF m pc' Ls (v.toList ++ rest)))) : Go p e below P (T.setTop (mkF m pc Ls st)) := by
  subst hp hst
  obtain ⟨v, _, ⟨T', L', k', n'⟩, -, X', hS', hgr, ⟨Lc, hQ, l1, l2, l3⟩, q'⟩ := callSS X B.x (y := y) B.o (mvT B.z w1) (mvT B.z w2) (mvT B.z w3) (mvT B.z w4) hy (C.back (W := W) B.z I w4 w3 hf hl) (g := mkF m pc Ls (argsL.reverse ++ rest)) rfl (B.mx hm) (argsL := argsL) (rest := rest) hlen rfl (by show 2 * 0 + _ ≤ _; omega) (B.d q) (fun _ _ => ⟨rfl, eT, hc, hs⟩)
  dsimp only [Pt.U, Pt.locs, Pt.cells, Pt.slots] at X' l1 l2 l3 q' hQ hS' hgr
  subst l1 l2 l3
  subst eT
  exact (k v T' _ Lc X' (Bo.re (s := s.setVm vm0) B hS'.1) rfl (hS.trans hS' (Nat.le_trans hk hgr)) hQ).via fun _ => q'.trans
theorem g_callVW (X : Stand p l e R (s.setVm vm0) m args below meth c T locs cells slots) (B : Bo Z p (s.setVm vm0) m meth c own nm bytes maxL ret) (hS : s.Since vm0 k0) (hk : k0 ≤ h.size) (I : IB Z vm0 Ts) {y : MethodName} {by' : ByteArray} {mx : Nat} {rt : Option FieldType} {rm : Room} {Q : Option Value → Heap → Vm → List Loc → Prop} {index : Nat} {KC : String} {a : Addr} (argsL rest : List Value) (q : decode bytes pc = .ok (.invokevirtual index, 3)) (pc' : Nat) (hp : pc + 3 = pc') (hst : st = argsL.reverse ++ .ref a :: rest) (w1 : (Jvm.Cond.methodLink own index y).before a0 Z = true) (w2 : (Jvm.Cond.declares y).before a0 Z = true) (w3 : (Jvm.Cond.selects KC y y).before a0 Z = true) (w4 : (Jvm.Cond.instanceMethod y).before a0 Z = true) (w5 : (Jvm.Cond.initialized y.cls).before a0 Z = true) (w6 : (Jvm.Cond.code y by' mx rt).before a0 Z = true) (hy : y.cls ≠ "java/lang/invoke/MethodHandle" ∧ y.cls ≠ "java/lang/invoke/VarHandle") (hlen : ∀ sig, parseMethodDescriptor y.desc = some sig → argsL.length = sig.parameters.length) (E : Exa Z h a KC) (C : CtrW l Z y by' mx rt rm (.ref a :: argsL).toArray h Ts Q) (eT : T.heap = h) (hm : Ls.size = maxL) (W : Nat) (hW : (rest.map fun v => v.category).sum ≤ W) (hf : rm.frames + 1 ≤ R.frames) (hl : W + (mx + 11) + rm.locals ≤ R.locals) (hc : cells + rm.cells ≤ R.cells) (hs : slots + rm.slots ≤ R.slots) (k : ∀ v T' h' L', Stand p l e R (s.setVm T'.vm) m args below meth c T' (locs ++ L') (cells + rm.cells) (slots + rm.slots) → Bo Z p (s.setVm T'.vm) m meth c own nm bytes maxL ret → T'.heap = h' → s.Since T'.vm h'.size → Q v h' T'.vm L' → Go p e below P (T'.setTop (mkF m pc' Ls (v.toList ++ rest)))) : Go p e below P (T.setTop (mkF m pc Ls st)) := by
  subst hp hst
  obtain ⟨cq, kq, qa, qb, qc⟩ := isOf B.z eT E
  obtain ⟨v, _, ⟨T', L', k', n'⟩, -, X', hS', hgr, ⟨Lc, hQ, l1, l2, l3⟩, q'⟩ := X.virtualBackS B.x (y := y) (z := y) B.o (mvT B.z w1) (mvT B.z w2) (notFace_of_selects (args := #[]) (mvT B.z w3)) (mvT B.z w3) (mvT B.z w4) hy (C.back (W := W) B.z I w6 w5 hf hl) qa qc (g := mkF m pc Ls (argsL.reverse ++ .ref a :: rest)) rfl (B.mx hm) (Steps.refl _) (argsL := argsL) (rest := rest) hlen rfl (by show 2 * 0 + _ ≤ _; omega) (B.d q) (fun _ _ => ⟨rfl, eT, hc, hs⟩)
  dsimp only [Pt.U, Pt.locs, Pt.cells, Pt.slots] at X' l1 l2 l3 q' hQ hS' hgr
  subst l1 l2 l3
  subst eT
  exact (k v T' _ Lc X' (Bo.re (s := s.setVm vm0) B hS'.1) rfl (hS.trans hS' (Nat.le_trans hk hgr)) hQ).via fun _ => q'.trans
theorem g_retOutW (X : Stand p l e R (s.setVm vm0) m args below meth c T locs cells slots) (B : Bo Z p (s.setVm vm0) m meth c own nm bytes maxL ret) {Q : Option Value → Heap → Vm → List Loc → Prop} {cc ss : Nat} {w : Value} {t : FieldType} {i : Instr} (q : decode bytes pc = .ok (i, 1)) (ht : ret = some t) (hn : narrow t w = w)
    (hi : (i = .ireturn ∧ (t = .int ∨ t = .boolean ∨ t = .byte ∨ t = .char ∨ t = .short) ∧ ∃ z, w = .int z) ∨ (i = .lreturn ∧ t = .long ∧ ∃ z, w = .long z) ∨ (i = .dreturn ∧ t = .double ∧ ∃ z, w = .double z) ∨ (i = .freturn ∧ t = .float ∧ ∃ z, w = .float z) ∨ (i = .areturn ∧ t.isReference = true ∧ w.isRef = true))
    (hc : cells ≤ cc) (hs : slots ≤ ss) (eT : T.heap = h) (hS : s.Since vm0 k0) (hk : k0 ≤ h.size) (hQ : ∀ vm, vm.interned = vm0.interned → Q (some w) h vm locs) : Go p e below (EndsW s Q cc ss) (T.setTop (mkF m pc Ls (w :: st))) := by
  have hl := B.lk
  subst eT
  obtain ⟨fs, hr, hrun, hended, h1, h2, h3, h4⟩ := X.leaveW hS hk (v := some w) (fun z => by rw [B.r, ht] at z; cases z) hl
  exact ⟨_, _, retOut X B.x (B.r.trans ht) hn hi (B.d q) hr, hrun, hended, _, _, rfl, hQ _ X.warmed.interned_eq, h1, h2, h3, h4.mono hc hs⟩
theorem g_retAW (X : Stand p l e R (s.setVm vm0) m args below meth c T locs cells slots) (B : Bo Z p (s.setVm vm0) m meth c own nm bytes maxL ret) {Q : Option Value → Heap → Vm → List Loc → Prop} {cc ss : Nat} {w : Value} {t : FieldType} (q : decode bytes pc = .ok (.areturn, 1)) (ht : ret = some t) (hr : t.isReference = true) (hw : w.isRef = true) (hc : cells ≤ cc) (hs : slots ≤ ss) (eT : T.heap = h) (hS : s.Since vm0 k0) (hk : k0 ≤ h.size) (hQ : ∀ vm, vm.interned = vm0.interned → Q (some w) h vm locs) : Go p e below (EndsW s Q cc ss) (T.setTop (mkF m pc Ls (w :: st))) :=
  g_retOutW X B q ht (by cases t <;> first | (cases hr; done) | (cases w <;> first | rfl | (cases hw; done))) (Or.inr (Or.inr (Or.inr (Or.inr ⟨rfl, hr, hw⟩)))) hc hs eT hS hk hQ
theorem g_retNW (X : Stand p l e R (s.setVm vm0) m args below meth c T locs cells slots) (B : Bo Z p (s.setVm vm0) m meth c own nm bytes maxL ret) {Q : Option Value → Heap → Vm → List Loc → Prop} {cc ss : Nat} {z : Int32} {t : FieldType} (q : decode bytes pc = .ok (.ireturn, 1)) (ht : ret = some t) (hn : narrow t (.int z) = .int z) (hk' : t = .int ∨ t = .boolean ∨ t = .byte ∨ t = .char ∨ t = .short) (hc : cells ≤ cc) (hs : slots ≤ ss) (eT : T.heap = h) (hS : s.Since vm0 k0) (hk : k0 ≤ h.size) (hQ : ∀ vm, vm.interned = vm0.interned → Q (some (.int z)) h vm locs) : Go p e below (EndsW s Q cc ss) (T.setTop (mkF m pc Ls (.int z :: st))) :=
  g_retOutW X B q ht hn (Or.inl ⟨rfl, hk', _, rfl⟩) hc hs eT hS hk hQ
theorem g_retVW (X : Stand p l e R (s.setVm vm0) m args below meth c T locs cells slots) (B : Bo Z p (s.setVm vm0) m meth c own nm bytes maxL ret) {Q : Option Value → Heap → Vm → List Loc → Prop} {cc ss : Nat} (q : decode bytes pc = .ok (.return_, 1)) (ht : ret = none) (hc : cells ≤ cc) (hs : slots ≤ ss) (eT : T.heap = h) (hS : s.Since vm0 k0) (hk : k0 ≤ h.size) (hQ : ∀ vm, vm.interned = vm0.interned → Q none h vm locs) : Go p e below (EndsW s Q cc ss) (T.setTop (mkF m pc Ls [])) := by
  have hl := B.lk
  subst eT
  obtain ⟨fs, hr, hrun, hended, h1, h2, h3, h4⟩ := X.leaveW hS hk (v := none) (fun _ => rfl) hl
  exact ⟨_, _, X.returnOut B.x (B.r.trans ht) (B.d q) hr, hrun, hended, _, _, rfl, hQ _ X.warmed.interned_eq, h1, h2, h3, h4.mono hc hs⟩
theorem own_IBeq {vm1 : Vm} (I : IB Z vm0 Ts) (q : vm1.interned = vm0.interned) : IB Z vm1 Ts := by
  obtain ⟨more, e1, e2⟩ := I
  exact ⟨more, q.trans e1, e2⟩
end OwnWide

theorem d55_0 : decode jdk_52_method_3_code 0 = .ok (.iload_n 0, 1) := by decide +kernel
theorem d55_1 : decode jdk_52_method_3_code 1 = .ok (.ifCond .ge 11, 3) := by decide +kernel
theorem d55_4 : decode jdk_52_method_3_code 4 = .ok (.new 17, 3) := by decide +kernel
theorem d55_7 : decode jdk_52_method_3_code 7 = .ok (.dup, 1) := by decide +kernel
theorem d55_8 : decode jdk_52_method_3_code 8 = .ok (.invokespecial 19, 3) := by decide +kernel
theorem d55_11 : decode jdk_52_method_3_code 11 = .ok (.athrow, 1) := by decide +kernel
theorem d55_12 : decode jdk_52_method_3_code 12 = .ok (.iload_n 0, 1) := by decide +kernel
theorem d55_13 : decode jdk_52_method_3_code 13 = .ok (.ldc 20, 2) := by decide +kernel
theorem d55_15 : decode jdk_52_method_3_code 15 = .ok (.if_icmp .lt 40, 3) := by decide +kernel
theorem d55_18 : decode jdk_52_method_3_code 18 = .ok (.new 21, 3) := by decide +kernel
theorem d55_21 : decode jdk_52_method_3_code 21 = .ok (.dup, 1) := by decide +kernel
theorem d55_22 : decode jdk_52_method_3_code 22 = .ok (.new 23, 3) := by decide +kernel
theorem d55_25 : decode jdk_52_method_3_code 25 = .ok (.dup, 1) := by decide +kernel
theorem d55_26 : decode jdk_52_method_3_code 26 = .ok (.invokespecial 25, 3) := by decide +kernel
theorem d55_29 : decode jdk_52_method_3_code 29 = .ok (.ldc 26, 2) := by decide +kernel
theorem d55_31 : decode jdk_52_method_3_code 31 = .ok (.invokevirtual 28, 3) := by decide +kernel
theorem d55_34 : decode jdk_52_method_3_code 34 = .ok (.iload_n 0, 1) := by decide +kernel
theorem d55_35 : decode jdk_52_method_3_code 35 = .ok (.invokevirtual 32, 3) := by decide +kernel
theorem d55_38 : decode jdk_52_method_3_code 38 = .ok (.ldc 35, 2) := by decide +kernel
theorem d55_40 : decode jdk_52_method_3_code 40 = .ok (.invokevirtual 28, 3) := by decide +kernel
theorem d55_43 : decode jdk_52_method_3_code 43 = .ok (.ldc 20, 2) := by decide +kernel
theorem d55_45 : decode jdk_52_method_3_code 45 = .ok (.invokevirtual 32, 3) := by decide +kernel
theorem d55_48 : decode jdk_52_method_3_code 48 = .ok (.invokevirtual 37, 3) := by decide +kernel
theorem d55_51 : decode jdk_52_method_3_code 51 = .ok (.invokespecial 41, 3) := by decide +kernel
theorem d55_54 : decode jdk_52_method_3_code 54 = .ok (.athrow, 1) := by decide +kernel
theorem d55_55 : decode jdk_52_method_3_code 55 = .ok (.iload_n 0, 1) := by decide +kernel
theorem d55_56 : decode jdk_52_method_3_code 56 = .ok (.iconst 1, 1) := by decide +kernel
theorem d55_57 : decode jdk_52_method_3_code 57 = .ok (.ishl, 1) := by decide +kernel
theorem d55_58 : decode jdk_52_method_3_code 58 = .ok (.ireturn, 1) := by decide +kernel
theorem pn_55 : plainFor (⟨"java/lang/StringUTF16", "newBytesLength", "(I)I"⟩ : MethodName) = true := by first | (apply plainFor_of_name; simp [plainName, overriddenIn]; done) | (apply plainFor_of_name; decide +kernel) | decide +kernel
theorem pd_55 : parseMethodDescriptor "(I)I" = some ⟨[.int], (some .int)⟩ := by decide +kernel
theorem d54_0 : decode jdk_52_method_2_code 0 = .ok (.iload_n 0, 1) := by decide +kernel
theorem d54_1 : decode jdk_52_method_2_code 1 = .ok (.invokestatic 11, 3) := by decide +kernel
theorem d54_4 : decode jdk_52_method_2_code 4 = .ok (.newarray .byte, 2) := by decide +kernel
theorem d54_6 : decode jdk_52_method_2_code 6 = .ok (.areturn, 1) := by decide +kernel
theorem pn_54 : plainFor (⟨"java/lang/StringUTF16", "newBytesFor", "(I)[B"⟩ : MethodName) = true := by first | (apply plainFor_of_name; simp [plainName, overriddenIn]; done) | (apply plainFor_of_name; decide +kernel) | decide +kernel
theorem pd_54 : parseMethodDescriptor "(I)[B" = some ⟨[.int], (some (.array .byte))⟩ := by decide +kernel
theorem d56_0 : decode jdk_52_method_4_code 0 = .ok (.getstatic 44, 3) := by decide +kernel
theorem d56_3 : decode jdk_52_method_4_code 3 = .ok (.ifCond .ne 25, 3) := by decide +kernel
theorem d56_6 : decode jdk_52_method_4_code 6 = .ok (.iload_n 1, 1) := by decide +kernel
theorem d56_7 : decode jdk_52_method_4_code 7 = .ok (.ifCond .lt 11, 3) := by decide +kernel
theorem d56_10 : decode jdk_52_method_4_code 10 = .ok (.iload_n 1, 1) := by decide +kernel
theorem d56_11 : decode jdk_52_method_4_code 11 = .ok (.aload_n 0, 1) := by decide +kernel
theorem d56_12 : decode jdk_52_method_4_code 12 = .ok (.invokestatic 48, 3) := by decide +kernel
theorem d56_15 : decode jdk_52_method_4_code 15 = .ok (.if_icmp .lt 13, 3) := by decide +kernel
theorem d56_18 : decode jdk_52_method_4_code 18 = .ok (.new 52, 3) := by decide +kernel
theorem d56_21 : decode jdk_52_method_4_code 21 = .ok (.dup, 1) := by decide +kernel
theorem d56_22 : decode jdk_52_method_4_code 22 = .ok (.ldc 54, 2) := by decide +kernel
theorem d56_24 : decode jdk_52_method_4_code 24 = .ok (.invokespecial 56, 3) := by decide +kernel
theorem d56_27 : decode jdk_52_method_4_code 27 = .ok (.athrow, 1) := by decide +kernel
theorem d56_28 : decode jdk_52_method_4_code 28 = .ok (.iload_n 1, 1) := by decide +kernel
theorem d56_29 : decode jdk_52_method_4_code 29 = .ok (.iconst 1, 1) := by decide +kernel
theorem d56_30 : decode jdk_52_method_4_code 30 = .ok (.ishl, 1) := by decide +kernel
theorem d56_31 : decode jdk_52_method_4_code 31 = .ok (.istore_n 1, 1) := by decide +kernel
theorem d56_32 : decode jdk_52_method_4_code 32 = .ok (.aload_n 0, 1) := by decide +kernel
theorem d56_33 : decode jdk_52_method_4_code 33 = .ok (.iload_n 1, 1) := by decide +kernel
theorem d56_34 : decode jdk_52_method_4_code 34 = .ok (.iinc 1 1, 3) := by decide +kernel
theorem d56_37 : decode jdk_52_method_4_code 37 = .ok (.iload_n 2, 1) := by decide +kernel
theorem d56_38 : decode jdk_52_method_4_code 38 = .ok (.getstatic 59, 3) := by decide +kernel
theorem d56_41 : decode jdk_52_method_4_code 41 = .ok (.ishr, 1) := by decide +kernel
theorem d56_42 : decode jdk_52_method_4_code 42 = .ok (.i2b, 1) := by decide +kernel
theorem d56_43 : decode jdk_52_method_4_code 43 = .ok (.bastore, 1) := by decide +kernel
theorem d56_44 : decode jdk_52_method_4_code 44 = .ok (.aload_n 0, 1) := by decide +kernel
theorem d56_45 : decode jdk_52_method_4_code 45 = .ok (.iload_n 1, 1) := by decide +kernel
theorem d56_46 : decode jdk_52_method_4_code 46 = .ok (.iload_n 2, 1) := by decide +kernel
theorem d56_47 : decode jdk_52_method_4_code 47 = .ok (.getstatic 63, 3) := by decide +kernel
theorem d56_50 : decode jdk_52_method_4_code 50 = .ok (.ishr, 1) := by decide +kernel
theorem d56_51 : decode jdk_52_method_4_code 51 = .ok (.i2b, 1) := by decide +kernel
theorem d56_52 : decode jdk_52_method_4_code 52 = .ok (.bastore, 1) := by decide +kernel
theorem d56_53 : decode jdk_52_method_4_code 53 = .ok (.return_, 1) := by decide +kernel
theorem pn_56 : plainFor (⟨"java/lang/StringUTF16", "putChar", "([BII)V"⟩ : MethodName) = true := by first | (apply plainFor_of_name; simp [plainName, overriddenIn]; done) | (apply plainFor_of_name; decide +kernel) | decide +kernel
theorem pd_56 : parseMethodDescriptor "([BII)V" = some ⟨[(.array .byte), .int, .int], none⟩ := by decide +kernel
theorem d57_0 : decode jdk_52_method_5_code 0 = .ok (.getstatic 44, 3) := by decide +kernel
theorem d57_3 : decode jdk_52_method_5_code 3 = .ok (.ifCond .ne 25, 3) := by decide +kernel
theorem d57_6 : decode jdk_52_method_5_code 6 = .ok (.iload_n 1, 1) := by decide +kernel
theorem d57_7 : decode jdk_52_method_5_code 7 = .ok (.ifCond .lt 11, 3) := by decide +kernel
theorem d57_10 : decode jdk_52_method_5_code 10 = .ok (.iload_n 1, 1) := by decide +kernel
theorem d57_11 : decode jdk_52_method_5_code 11 = .ok (.aload_n 0, 1) := by decide +kernel
theorem d57_12 : decode jdk_52_method_5_code 12 = .ok (.invokestatic 48, 3) := by decide +kernel
theorem d57_15 : decode jdk_52_method_5_code 15 = .ok (.if_icmp .lt 13, 3) := by decide +kernel
theorem d57_18 : decode jdk_52_method_5_code 18 = .ok (.new 52, 3) := by decide +kernel
theorem d57_21 : decode jdk_52_method_5_code 21 = .ok (.dup, 1) := by decide +kernel
theorem d57_22 : decode jdk_52_method_5_code 22 = .ok (.ldc 54, 2) := by decide +kernel
theorem d57_24 : decode jdk_52_method_5_code 24 = .ok (.invokespecial 56, 3) := by decide +kernel
theorem d57_27 : decode jdk_52_method_5_code 27 = .ok (.athrow, 1) := by decide +kernel
theorem d57_28 : decode jdk_52_method_5_code 28 = .ok (.iload_n 1, 1) := by decide +kernel
theorem d57_29 : decode jdk_52_method_5_code 29 = .ok (.iconst 1, 1) := by decide +kernel
theorem d57_30 : decode jdk_52_method_5_code 30 = .ok (.ishl, 1) := by decide +kernel
theorem d57_31 : decode jdk_52_method_5_code 31 = .ok (.istore_n 1, 1) := by decide +kernel
theorem d57_32 : decode jdk_52_method_5_code 32 = .ok (.aload_n 0, 1) := by decide +kernel
theorem d57_33 : decode jdk_52_method_5_code 33 = .ok (.iload_n 1, 1) := by decide +kernel
theorem d57_34 : decode jdk_52_method_5_code 34 = .ok (.iinc 1 1, 3) := by decide +kernel
theorem d57_37 : decode jdk_52_method_5_code 37 = .ok (.baload, 1) := by decide +kernel
theorem d57_38 : decode jdk_52_method_5_code 38 = .ok (.sipush 255, 3) := by decide +kernel
theorem d57_41 : decode jdk_52_method_5_code 41 = .ok (.iand, 1) := by decide +kernel
theorem d57_42 : decode jdk_52_method_5_code 42 = .ok (.getstatic 59, 3) := by decide +kernel
theorem d57_45 : decode jdk_52_method_5_code 45 = .ok (.ishl, 1) := by decide +kernel
theorem d57_46 : decode jdk_52_method_5_code 46 = .ok (.aload_n 0, 1) := by decide +kernel
theorem d57_47 : decode jdk_52_method_5_code 47 = .ok (.iload_n 1, 1) := by decide +kernel
theorem d57_48 : decode jdk_52_method_5_code 48 = .ok (.baload, 1) := by decide +kernel
theorem d57_49 : decode jdk_52_method_5_code 49 = .ok (.sipush 255, 3) := by decide +kernel
theorem d57_52 : decode jdk_52_method_5_code 52 = .ok (.iand, 1) := by decide +kernel
theorem d57_53 : decode jdk_52_method_5_code 53 = .ok (.getstatic 63, 3) := by decide +kernel
theorem d57_56 : decode jdk_52_method_5_code 56 = .ok (.ishl, 1) := by decide +kernel
theorem d57_57 : decode jdk_52_method_5_code 57 = .ok (.ior, 1) := by decide +kernel
theorem d57_58 : decode jdk_52_method_5_code 58 = .ok (.i2c, 1) := by decide +kernel
theorem d57_59 : decode jdk_52_method_5_code 59 = .ok (.ireturn, 1) := by decide +kernel
theorem pn_57 : plainFor (⟨"java/lang/StringUTF16", "getChar", "([BI)C"⟩ : MethodName) = true := by first | (apply plainFor_of_name; simp [plainName, overriddenIn]; done) | (apply plainFor_of_name; decide +kernel) | decide +kernel
theorem pd_57 : parseMethodDescriptor "([BI)C" = some ⟨[(.array .byte), .int], (some .char)⟩ := by decide +kernel
theorem d53_0 : decode jdk_52_method_14_code 0 = .ok (.iload_n 2, 1) := by decide +kernel
theorem d53_1 : decode jdk_52_method_14_code 1 = .ok (.invokestatic 107, 3) := by decide +kernel
theorem d53_4 : decode jdk_52_method_14_code 4 = .ok (.astore_n 3, 1) := by decide +kernel
theorem d53_5 : decode jdk_52_method_14_code 5 = .ok (.iconst 0, 1) := by decide +kernel
theorem d53_6 : decode jdk_52_method_14_code 6 = .ok (.istore 4, 2) := by decide +kernel
theorem d53_8 : decode jdk_52_method_14_code 8 = .ok (.iload 4, 2) := by decide +kernel
theorem d53_10 : decode jdk_52_method_14_code 10 = .ok (.iload_n 2, 1) := by decide +kernel
theorem d53_11 : decode jdk_52_method_14_code 11 = .ok (.if_icmp .ge 21, 3) := by decide +kernel
theorem d53_14 : decode jdk_52_method_14_code 14 = .ok (.aload_n 3, 1) := by decide +kernel
theorem d53_15 : decode jdk_52_method_14_code 15 = .ok (.iload 4, 2) := by decide +kernel
theorem d53_17 : decode jdk_52_method_14_code 17 = .ok (.aload_n 0, 1) := by decide +kernel
theorem d53_18 : decode jdk_52_method_14_code 18 = .ok (.iload_n 1, 1) := by decide +kernel
theorem d53_19 : decode jdk_52_method_14_code 19 = .ok (.caload, 1) := by decide +kernel
theorem d53_20 : decode jdk_52_method_14_code 20 = .ok (.invokestatic 111, 3) := by decide +kernel
theorem d53_23 : decode jdk_52_method_14_code 23 = .ok (.iinc 1 1, 3) := by decide +kernel
theorem d53_26 : decode jdk_52_method_14_code 26 = .ok (.iinc 4 1, 3) := by decide +kernel
theorem d53_29 : decode jdk_52_method_14_code 29 = .ok (.goto (-21), 3) := by decide +kernel
theorem d53_32 : decode jdk_52_method_14_code 32 = .ok (.aload_n 3, 1) := by decide +kernel
theorem d53_33 : decode jdk_52_method_14_code 33 = .ok (.areturn, 1) := by decide +kernel
theorem pn_53 : plainFor (⟨"java/lang/StringUTF16", "toBytes", "([CII)[B"⟩ : MethodName) = true := by first | (apply plainFor_of_name; simp [plainName, overriddenIn]; done) | (apply plainFor_of_name; decide +kernel) | decide +kernel
theorem pd_53 : parseMethodDescriptor "([CII)[B" = some ⟨[(.array .char), .int, .int], (some (.array .byte))⟩ := by decide +kernel
theorem d52_0 : decode jdk_52_method_21_code 0 = .ok (.iconst 0, 1) := by decide +kernel
theorem d52_1 : decode jdk_52_method_21_code 1 = .ok (.istore 5, 2) := by decide +kernel
theorem d52_3 : decode jdk_52_method_21_code 3 = .ok (.iload 5, 2) := by decide +kernel
theorem d52_5 : decode jdk_52_method_21_code 5 = .ok (.iload 4, 2) := by decide +kernel
theorem d52_7 : decode jdk_52_method_21_code 7 = .ok (.if_icmp .ge 37, 3) := by decide +kernel
theorem d52_10 : decode jdk_52_method_21_code 10 = .ok (.aload_n 0, 1) := by decide +kernel
theorem d52_11 : decode jdk_52_method_21_code 11 = .ok (.iload_n 1, 1) := by decide +kernel
theorem d52_12 : decode jdk_52_method_21_code 12 = .ok (.caload, 1) := by decide +kernel
theorem d52_13 : decode jdk_52_method_21_code 13 = .ok (.istore 6, 2) := by decide +kernel
theorem d52_15 : decode jdk_52_method_21_code 15 = .ok (.iload 6, 2) := by decide +kernel
theorem d52_17 : decode jdk_52_method_21_code 17 = .ok (.sipush 255, 3) := by decide +kernel
theorem d52_20 : decode jdk_52_method_21_code 20 = .ok (.if_icmp .le 6, 3) := by decide +kernel
theorem d52_23 : decode jdk_52_method_21_code 23 = .ok (.iload 5, 2) := by decide +kernel
theorem d52_25 : decode jdk_52_method_21_code 25 = .ok (.ireturn, 1) := by decide +kernel
theorem d52_26 : decode jdk_52_method_21_code 26 = .ok (.aload_n 2, 1) := by decide +kernel
theorem d52_27 : decode jdk_52_method_21_code 27 = .ok (.iload_n 3, 1) := by decide +kernel
theorem d52_28 : decode jdk_52_method_21_code 28 = .ok (.iload 6, 2) := by decide +kernel
theorem d52_30 : decode jdk_52_method_21_code 30 = .ok (.i2b, 1) := by decide +kernel
theorem d52_31 : decode jdk_52_method_21_code 31 = .ok (.bastore, 1) := by decide +kernel
theorem d52_32 : decode jdk_52_method_21_code 32 = .ok (.iinc 1 1, 3) := by decide +kernel
theorem d52_35 : decode jdk_52_method_21_code 35 = .ok (.iinc 3 1, 3) := by decide +kernel
theorem d52_38 : decode jdk_52_method_21_code 38 = .ok (.iinc 5 1, 3) := by decide +kernel
theorem d52_41 : decode jdk_52_method_21_code 41 = .ok (.goto (-38), 3) := by decide +kernel
theorem d52_44 : decode jdk_52_method_21_code 44 = .ok (.iload 4, 2) := by decide +kernel
theorem d52_46 : decode jdk_52_method_21_code 46 = .ok (.ireturn, 1) := by decide +kernel
theorem pn_52 : plainFor (⟨"java/lang/StringUTF16", "compress", "([CI[BII)I"⟩ : MethodName) = true := by first | (apply plainFor_of_name; simp [plainName, overriddenIn]; done) | (apply plainFor_of_name; decide +kernel) | decide +kernel
theorem pd_52 : parseMethodDescriptor "([CI[BII)I" = some ⟨[(.array .char), .int, (.array .byte), .int, .int], (some .int)⟩ := by decide +kernel
theorem d51_0 : decode jdk_52_method_16_code 0 = .ok (.iload_n 2, 1) := by decide +kernel
theorem d51_1 : decode jdk_52_method_16_code 1 = .ok (.newarray .byte, 2) := by decide +kernel
theorem d51_3 : decode jdk_52_method_16_code 3 = .ok (.astore_n 3, 1) := by decide +kernel
theorem d51_4 : decode jdk_52_method_16_code 4 = .ok (.aload_n 0, 1) := by decide +kernel
theorem d51_5 : decode jdk_52_method_16_code 5 = .ok (.iload_n 1, 1) := by decide +kernel
theorem d51_6 : decode jdk_52_method_16_code 6 = .ok (.aload_n 3, 1) := by decide +kernel
theorem d51_7 : decode jdk_52_method_16_code 7 = .ok (.iconst 0, 1) := by decide +kernel
theorem d51_8 : decode jdk_52_method_16_code 8 = .ok (.iload_n 2, 1) := by decide +kernel
theorem d51_9 : decode jdk_52_method_16_code 9 = .ok (.invokestatic 115, 3) := by decide +kernel
theorem d51_12 : decode jdk_52_method_16_code 12 = .ok (.istore 4, 2) := by decide +kernel
theorem d51_14 : decode jdk_52_method_16_code 14 = .ok (.iload 4, 2) := by decide +kernel
theorem d51_16 : decode jdk_52_method_16_code 16 = .ok (.iload_n 2, 1) := by decide +kernel
theorem d51_17 : decode jdk_52_method_16_code 17 = .ok (.if_icmp .eq 40, 3) := by decide +kernel
theorem d51_20 : decode jdk_52_method_16_code 20 = .ok (.aload_n 0, 1) := by decide +kernel
theorem d51_21 : decode jdk_52_method_16_code 21 = .ok (.iload_n 1, 1) := by decide +kernel
theorem d51_22 : decode jdk_52_method_16_code 22 = .ok (.iload_n 2, 1) := by decide +kernel
theorem d51_23 : decode jdk_52_method_16_code 23 = .ok (.invokestatic 119, 3) := by decide +kernel
theorem d51_26 : decode jdk_52_method_16_code 26 = .ok (.astore 5, 2) := by decide +kernel
theorem d51_28 : decode jdk_52_method_16_code 28 = .ok (.aload 5, 2) := by decide +kernel
theorem d51_30 : decode jdk_52_method_16_code 30 = .ok (.iload 4, 2) := by decide +kernel
theorem d51_32 : decode jdk_52_method_16_code 32 = .ok (.invokestatic 71, 3) := by decide +kernel
theorem d51_35 : decode jdk_52_method_16_code 35 = .ok (.sipush 255, 3) := by decide +kernel
theorem d51_38 : decode jdk_52_method_16_code 38 = .ok (.if_icmp .gt 16, 3) := by decide +kernel
theorem d51_41 : decode jdk_52_method_16_code 41 = .ok (.aload 5, 2) := by decide +kernel
theorem d51_43 : decode jdk_52_method_16_code 43 = .ok (.iconst 0, 1) := by decide +kernel
theorem d51_44 : decode jdk_52_method_16_code 44 = .ok (.aload_n 3, 1) := by decide +kernel
theorem d51_45 : decode jdk_52_method_16_code 45 = .ok (.iconst 0, 1) := by decide +kernel
theorem d51_46 : decode jdk_52_method_16_code 46 = .ok (.iload_n 2, 1) := by decide +kernel
theorem d51_47 : decode jdk_52_method_16_code 47 = .ok (.invokestatic 123, 3) := by decide +kernel
theorem d51_50 : decode jdk_52_method_16_code 50 = .ok (.iload_n 2, 1) := by decide +kernel
theorem d51_51 : decode jdk_52_method_16_code 51 = .ok (.if_icmp .eq 6, 3) := by decide +kernel
theorem d51_54 : decode jdk_52_method_16_code 54 = .ok (.aload 5, 2) := by decide +kernel
theorem d51_56 : decode jdk_52_method_16_code 56 = .ok (.areturn, 1) := by decide +kernel
theorem d51_57 : decode jdk_52_method_16_code 57 = .ok (.aload_n 3, 1) := by decide +kernel
theorem d51_58 : decode jdk_52_method_16_code 58 = .ok (.areturn, 1) := by decide +kernel
theorem pn_51 : plainFor (⟨"java/lang/StringUTF16", "compress", "([CII)[B"⟩ : MethodName) = true := by first | (apply plainFor_of_name; simp [plainName, overriddenIn]; done) | (apply plainFor_of_name; decide +kernel) | decide +kernel
theorem pd_51 : parseMethodDescriptor "([CII)[B" = some ⟨[(.array .char), .int, .int], (some (.array .byte))⟩ := by decide +kernel
theorem d58_0 : decode jdk_52_method_15_code 0 = .ok (.iload_n 1, 1) := by decide +kernel
theorem d58_1 : decode jdk_52_method_15_code 1 = .ok (.aload_n 0, 1) := by decide +kernel
theorem d58_2 : decode jdk_52_method_15_code 2 = .ok (.arraylength, 1) := by decide +kernel
theorem d58_3 : decode jdk_52_method_15_code 3 = .ok (.isub, 1) := by decide +kernel
theorem d58_4 : decode jdk_52_method_15_code 4 = .ok (.bipush 31, 2) := by decide +kernel
theorem d58_6 : decode jdk_52_method_15_code 6 = .ok (.iushr, 1) := by decide +kernel
theorem d58_7 : decode jdk_52_method_15_code 7 = .ok (.i2b, 1) := by decide +kernel
theorem d58_8 : decode jdk_52_method_15_code 8 = .ok (.ireturn, 1) := by decide +kernel
theorem pn_58 : plainFor (⟨"java/lang/StringUTF16", "coderFromArrayLen", "([BI)B"⟩ : MethodName) = true := by first | (apply plainFor_of_name; simp [plainName, overriddenIn]; done) | (apply plainFor_of_name; decide +kernel) | decide +kernel
theorem pd_58 : parseMethodDescriptor "([BI)B" = some ⟨[(.array .byte), .int], (some .byte)⟩ := by decide +kernel
theorem d3_0 : decode jdk_42_method_149_code 0 = .ok (.aload_n 0, 1) := by decide +kernel
theorem d3_1 : decode jdk_42_method_149_code 1 = .ok (.invokespecial 1, 3) := by decide +kernel
theorem d3_4 : decode jdk_42_method_149_code 4 = .ok (.iload_n 3, 1) := by decide +kernel
theorem d3_5 : decode jdk_42_method_149_code 5 = .ok (.ifCond .ne 22, 3) := by decide +kernel
theorem d3_8 : decode jdk_42_method_149_code 8 = .ok (.aload_n 0, 1) := by decide +kernel
theorem d3_9 : decode jdk_42_method_149_code 9 = .ok (.ldc 7, 2) := by decide +kernel
theorem d3_11 : decode jdk_42_method_149_code 11 = .ok (.getfield 9, 3) := by decide +kernel
theorem d3_14 : decode jdk_42_method_149_code 14 = .ok (.putfield 9, 3) := by decide +kernel
theorem d3_17 : decode jdk_42_method_149_code 17 = .ok (.aload_n 0, 1) := by decide +kernel
theorem d3_18 : decode jdk_42_method_149_code 18 = .ok (.ldc 7, 2) := by decide +kernel
theorem d3_20 : decode jdk_42_method_149_code 20 = .ok (.getfield 15, 3) := by decide +kernel
theorem d3_23 : decode jdk_42_method_149_code 23 = .ok (.putfield 15, 3) := by decide +kernel
theorem d3_26 : decode jdk_42_method_149_code 26 = .ok (.return_, 1) := by decide +kernel
theorem d3_27 : decode jdk_42_method_149_code 27 = .ok (.getstatic 38, 3) := by decide +kernel
theorem d3_30 : decode jdk_42_method_149_code 30 = .ok (.ifCond .eq 28, 3) := by decide +kernel
theorem d3_33 : decode jdk_42_method_149_code 33 = .ok (.aload_n 1, 1) := by decide +kernel
theorem d3_34 : decode jdk_42_method_149_code 34 = .ok (.iload_n 2, 1) := by decide +kernel
theorem d3_35 : decode jdk_42_method_149_code 35 = .ok (.iload_n 3, 1) := by decide +kernel
theorem d3_36 : decode jdk_42_method_149_code 36 = .ok (.invokestatic 177, 3) := by decide +kernel
theorem d3_39 : decode jdk_42_method_149_code 39 = .ok (.astore 5, 2) := by decide +kernel
theorem d3_41 : decode jdk_42_method_149_code 41 = .ok (.aload_n 0, 1) := by decide +kernel
theorem d3_42 : decode jdk_42_method_149_code 42 = .ok (.aload 5, 2) := by decide +kernel
theorem d3_44 : decode jdk_42_method_149_code 44 = .ok (.iload_n 3, 1) := by decide +kernel
theorem d3_45 : decode jdk_42_method_149_code 45 = .ok (.invokestatic 47, 3) := by decide +kernel
theorem d3_48 : decode jdk_42_method_149_code 48 = .ok (.putfield 15, 3) := by decide +kernel
theorem d3_51 : decode jdk_42_method_149_code 51 = .ok (.aload_n 0, 1) := by decide +kernel
theorem d3_52 : decode jdk_42_method_149_code 52 = .ok (.aload 5, 2) := by decide +kernel
theorem d3_54 : decode jdk_42_method_149_code 54 = .ok (.putfield 9, 3) := by decide +kernel
theorem d3_57 : decode jdk_42_method_149_code 57 = .ok (.return_, 1) := by decide +kernel
theorem d3_58 : decode jdk_42_method_149_code 58 = .ok (.aload_n 0, 1) := by decide +kernel
theorem d3_59 : decode jdk_42_method_149_code 59 = .ok (.iconst 1, 1) := by decide +kernel
theorem d3_60 : decode jdk_42_method_149_code 60 = .ok (.putfield 15, 3) := by decide +kernel
theorem d3_63 : decode jdk_42_method_149_code 63 = .ok (.aload_n 0, 1) := by decide +kernel
theorem d3_64 : decode jdk_42_method_149_code 64 = .ok (.aload_n 1, 1) := by decide +kernel
theorem d3_65 : decode jdk_42_method_149_code 65 = .ok (.iload_n 2, 1) := by decide +kernel
theorem d3_66 : decode jdk_42_method_149_code 66 = .ok (.iload_n 3, 1) := by decide +kernel
theorem d3_67 : decode jdk_42_method_149_code 67 = .ok (.invokestatic 180, 3) := by decide +kernel
theorem d3_70 : decode jdk_42_method_149_code 70 = .ok (.putfield 9, 3) := by decide +kernel
theorem d3_73 : decode jdk_42_method_149_code 73 = .ok (.return_, 1) := by decide +kernel
theorem pn_3 : plainFor (⟨"java/lang/String", "<init>", "([CIILjava/lang/Void;)V"⟩ : MethodName) = true := by first | (apply plainFor_of_name; simp [plainName, overriddenIn]; done) | (apply plainFor_of_name; decide +kernel) | decide +kernel
theorem pd_3 : parseMethodDescriptor "([CIILjava/lang/Void;)V" = some ⟨[(.array .char), .int, .int, (.object "java/lang/Void")], none⟩ := by decide +kernel
theorem d2_0 : decode jdk_42_method_3_code 0 = .ok (.aload_n 0, 1) := by decide +kernel
theorem d2_1 : decode jdk_42_method_3_code 1 = .ok (.aload_n 1, 1) := by decide +kernel
theorem d2_2 : decode jdk_42_method_3_code 2 = .ok (.iconst 0, 1) := by decide +kernel
theorem d2_3 : decode jdk_42_method_3_code 3 = .ok (.aload_n 1, 1) := by decide +kernel
theorem d2_4 : decode jdk_42_method_3_code 4 = .ok (.arraylength, 1) := by decide +kernel
theorem d2_5 : decode jdk_42_method_3_code 5 = .ok (.aconst_null, 1) := by decide +kernel
theorem d2_6 : decode jdk_42_method_3_code 6 = .ok (.invokespecial 27, 3) := by decide +kernel
theorem d2_9 : decode jdk_42_method_3_code 9 = .ok (.return_, 1) := by decide +kernel
theorem pn_2 : plainFor (⟨"java/lang/String", "<init>", "([C)V"⟩ : MethodName) = true := by first | (apply plainFor_of_name; simp [plainName, overriddenIn]; done) | (apply plainFor_of_name; decide +kernel) | decide +kernel
theorem pd_2 : parseMethodDescriptor "([C)V" = some ⟨[(.array .char)], none⟩ := by decide +kernel
theorem d11_0 : decode jdk_42_method_152_code 0 = .ok (.getstatic 38, 3) := by decide +kernel
theorem d11_3 : decode jdk_42_method_152_code 3 = .ok (.ifCond .eq 10, 3) := by decide +kernel
theorem d11_6 : decode jdk_42_method_152_code 6 = .ok (.aload_n 0, 1) := by decide +kernel
theorem d11_7 : decode jdk_42_method_152_code 7 = .ok (.getfield 15, 3) := by decide +kernel
theorem d11_10 : decode jdk_42_method_152_code 10 = .ok (.goto 4, 3) := by decide +kernel
theorem d11_13 : decode jdk_42_method_152_code 13 = .ok (.iconst 1, 1) := by decide +kernel
theorem d11_14 : decode jdk_42_method_152_code 14 = .ok (.ireturn, 1) := by decide +kernel
theorem pn_11 : plainFor (⟨"java/lang/String", "coder", "()B"⟩ : MethodName) = true := by first | (apply plainFor_of_name; simp [plainName, overriddenIn]; done) | (apply plainFor_of_name; decide +kernel) | decide +kernel
theorem pd_11 : parseMethodDescriptor "()B" = some ⟨[], (some .byte)⟩ := by decide +kernel
theorem d43_0 : decode jdk_42_method_154_code 0 = .ok (.getstatic 38, 3) := by decide +kernel
theorem d43_3 : decode jdk_42_method_154_code 3 = .ok (.ifCond .eq 14, 3) := by decide +kernel
theorem d43_6 : decode jdk_42_method_154_code 6 = .ok (.aload_n 0, 1) := by decide +kernel
theorem d43_7 : decode jdk_42_method_154_code 7 = .ok (.getfield 15, 3) := by decide +kernel
theorem d43_10 : decode jdk_42_method_154_code 10 = .ok (.ifCond .ne 7, 3) := by decide +kernel
theorem d43_13 : decode jdk_42_method_154_code 13 = .ok (.iconst 1, 1) := by decide +kernel
theorem d43_14 : decode jdk_42_method_154_code 14 = .ok (.goto 4, 3) := by decide +kernel
theorem d43_17 : decode jdk_42_method_154_code 17 = .ok (.iconst 0, 1) := by decide +kernel
theorem d43_18 : decode jdk_42_method_154_code 18 = .ok (.ireturn, 1) := by decide +kernel
theorem pn_43 : plainFor (⟨"java/lang/String", "isLatin1", "()Z"⟩ : MethodName) = true := by first | (apply plainFor_of_name; simp [plainName, overriddenIn]; done) | (apply plainFor_of_name; decide +kernel) | decide +kernel
theorem pd_43 : parseMethodDescriptor "()Z" = some ⟨[], (some .boolean)⟩ := by decide +kernel
theorem d10_0 : decode jdk_42_method_54_code 0 = .ok (.aload_n 0, 1) := by decide +kernel
theorem d10_1 : decode jdk_42_method_54_code 1 = .ok (.getfield 9, 3) := by decide +kernel
theorem d10_4 : decode jdk_42_method_54_code 4 = .ok (.arraylength, 1) := by decide +kernel
theorem d10_5 : decode jdk_42_method_54_code 5 = .ok (.aload_n 0, 1) := by decide +kernel
theorem d10_6 : decode jdk_42_method_54_code 6 = .ok (.invokevirtual 335, 3) := by decide +kernel
theorem d10_9 : decode jdk_42_method_54_code 9 = .ok (.ishr, 1) := by decide +kernel
theorem d10_10 : decode jdk_42_method_54_code 10 = .ok (.ireturn, 1) := by decide +kernel
theorem pn_10 : plainFor (⟨"java/lang/String", "length", "()I"⟩ : MethodName) = true := by first | (apply plainFor_of_name; simp [plainName, overriddenIn]; done) | (apply plainFor_of_name; decide +kernel) | decide +kernel
theorem pd_10 : parseMethodDescriptor "()I" = some ⟨[], (some .int)⟩ := by decide +kernel
theorem own_UpE {vs : List Value} {cs : List Int32} {i n : Nat} (q : i = n) (h : own_Up vs cs i) : own_Up vs cs n := q ▸ h
theorem own_LpE {vs : List Value} {cs : List Int32} {i n : Nat} (q : i = n) (h : own_Lp vs cs i) : own_Lp vs cs n := q ▸ h
def own_SV (k : Int32) (vs : List Value) (cs : List Int32) : Prop := (k = 0 ∧ own_L vs cs) ∨ (k = 1 ∧ own_U vs cs)
theorem own_ltlit {n : Nat} (h : n ≤ 4) {x : Int32} (hx : 4 < x.toInt) : Int32.ofNat n < x := by
  rw [Int32.lt_iff_toInt_lt, own_ti (by omega)]; omega
theorem own_cfal : ∀ n : Nat, n ≤ 4 → ((XT.ushr (Int32.ofNat n - Int32.ofNat n) 31).toInt8.toInt32 = 0) := by decide +kernel
theorem own_cfal2 : ∀ n : Nat, n ≤ 4 → 0 < n → ((XT.ushr (Int32.ofNat n - Int32.ofNat (2 * n)) 31).toInt8.toInt32 = 1) := by decide +kernel
theorem own_nz {n : Nat} (h : n ≤ 4) (h0 : 0 < n) : ¬ Int32.ofNat n = 0 := fun q => by
  have := congrArg Int32.toInt q
  rw [own_ti (by omega)] at this
  have k0 : (0 : Int32).toInt = 0 := by decide
  omega
theorem own_inj {i n : Nat} (hi : i < 2147483648) (hn : n < 2147483648) (h : Int32.ofNat i = Int32.ofNat n) : i = n := by
  have := congrArg Int32.toInt h
  rw [own_ti hi, own_ti hn] at this
  omega
theorem own_SVlen {k : Int32} {vs : List Value} {cs : List Int32} (hn : cs.length ≤ 4) (h : own_SV k vs cs) : Int32.ofNat vs.length >>> (k &&& 31) = Int32.ofNat cs.length := by
  rcases h with ⟨rfl, h⟩ | ⟨rfl, h⟩
  · rw [own_shr0, h.1]
  · rw [own_shr1 (by rw [h.1]; omega), h.1]; congr 1; omega
theorem own_SVk {k : Int32} {vs : List Value} {cs : List Int32} (h : own_SV k vs cs) : k = 0 ∨ k = 1 := by
  rcases h with ⟨rfl, h⟩ | ⟨rfl, h⟩
  · exact Or.inl rfl
  · exact Or.inr rfl
theorem own_kb {k : Int32} (h : k = 0 ∨ k = 1) : narrow .byte (.int k) = .int k := by rcases h with rfl | rfl <;> rfl
theorem own_kf {k : Int32} (h : k = 0 ∨ k = 1) : fits .byte (.int k) = true := by rcases h with rfl | rfl <;> rfl
theorem own_avN {Z : State} {h : Heap} {a b : Addr} {ty ty' : FieldType} {vs ws : List Value} (A : Av Z h a ty vs) (B : Av Z h b ty' ws) (q : ty ≠ ty') : a ≠ b := fun e => by
  subst e
  obtain ⟨c, ⟨h1, ⟨-, k1, k2, comp, k3⟩, -⟩, -⟩ := A
  obtain ⟨c', ⟨g1, ⟨-, l1, l2, comp', l3⟩, -⟩, -⟩ := B
  cases h1.symm.trans g1
  cases k2.symm.trans l2
  rw [k3] at l3
  cases l3
  exact q rfl

set_option maxRecDepth 65536 in
set_option maxHeartbeats 40000000 in
theorem rS_nbl (l : Launch) (Z : State) (ag : Array Value) (hw : ∀ d ∈ tables_1, d.before ag Z = true) (n : Nat) (hn : n ≤ 4) (h0 : Heap) (n0 : Nat)  :
    Ctr l Z (⟨"java/lang/StringUTF16", "newBytesLength", "(I)I"⟩ : MethodName) jdk_52_method_3_code 1 (some .int) ({ frames := 0, cells := 0, slots := 0, locals := 0 } : Room) #[.int (Int32.ofNat n)] h0 (fun v h L => v = some (.int (Int32.ofNat (2 * n))) ∧ Fr n0 L ∧ h0 = h) := by
  refine Ctr.of pn_55 ?_
  intro p e s m below meth c T0 X0 B e0
  refine Go.cast (f' := mkF m 0 #[.val (.int (Int32.ofNat n))] []) (by first | rfl | (simp [entryFrame, mkF, argsToLocals, Value.category, maxLocals]; done)) ?_

  refine g_iloadN X0 B d55_0 1 rfl rfl ?_
  refine g_if_ge X0 B d55_1 12 4 rfl (by decide) rfl (fun _ => ?_) (fun z => own_abs' (own_nn (by omega)) z)
  refine g_iloadN X0 B d55_12 13 rfl rfl ?_
  refine g_ldcI X0 B d55_13 15 rfl (hw _ (List.mem_of_getElem? (i := 278) rfl)) ?_
  refine g_icmp_lt X0 B d55_15 55 18 rfl (by decide) rfl (fun _ => ?_) (fun z => own_abs (own_ltlit hn (by decide)) z)
  refine g_iloadN X0 B d55_55 56 rfl rfl ?_
  refine g_iconst X0 B (1) d55_56 57 rfl rfl ?_
  refine g_ishl X0 B d55_57 58 rfl ?_
  exact g_retI X0 B d55_58 rfl (by decide) (by decide) e0 ⟨by rw [own_shl1 (by omega)], (Fr.nil n0), rfl⟩
set_option maxRecDepth 65536 in
set_option maxHeartbeats 40000000 in
theorem rS_nbf (l : Launch) (Z : State) (ag : Array Value) (hw : ∀ d ∈ tables_1, d.before ag Z = true) (n : Nat) (hn : n ≤ 4) (h0 : Heap) (n0 : Nat) (Z0 : n0 ≤ h0.size) :
    Ctr l Z (⟨"java/lang/StringUTF16", "newBytesFor", "(I)[B"⟩ : MethodName) jdk_52_method_2_code 1 (some (.array .byte)) ({ frames := 1, cells := 1, slots := 8, locals := 12 } : Room) #[.int (Int32.ofNat n)] h0 (fun v h L => ∃ a, v = some (.ref a) ∧ Fr n0 L ∧ Keep h0 h [] ∧ Av Z h a .byte (List.replicate (2 * n) (.int 0)) ∧ h0.size ≤ a ∧ n0 ≤ a) := by
  refine Ctr.of pn_54 ?_
  intro p e s m below meth c T0 X0 B e0
  refine Go.cast (f' := mkF m 0 #[.val (.int (Int32.ofNat n))] []) (by first | rfl | (simp [entryFrame, mkF, argsToLocals, Value.category, maxLocals]; done)) ?_

  refine g_iloadN X0 B d54_0 1 rfl rfl ?_
  refine g_callS X0 B [.int (Int32.ofNat n)] [] d54_1 4 rfl rfl (hw _ (List.mem_of_getElem? (i := 275) rfl)) (hw _ (List.mem_of_getElem? (i := 276) rfl)) (hw _ (List.mem_of_getElem? (i := 264) rfl)) (hw _ (List.mem_of_getElem? (i := 277) rfl)) (by decide) (lenOf pd_55 rfl) (rS_nbl l Z ag hw n hn h0 n0) e0 rfl 0 (Nat.le_of_eq rfl) (by decide) (by decide) (by decide) (by decide) (fun v1 T1 h1 L1 X1 e1 q1 => ?_)
  obtain ⟨rfl, N1, rfl⟩ := q1
  show Go p e below _ (T1.setTop (mkF m 4 #[.val (.int (Int32.ofNat n))] [.int (Int32.ofNat (2 * n))]))
  refine g_newP X1 B (List.replicate (2 * n) (.int 0)) d54_4 6 rfl (hw _ (List.mem_of_getElem? (i := 20) rfl)) e1 (own_nn (by omega)) (by rw [own_tn (by omega)]; rfl) (by simp; omega) (by decide) (by simp; omega) (fun T2 h2 a X2' e2 ea Ea Aa => ?_)
  have X2 := X2'.more (Nat.le_refl _) (show 0 + 0 + (List.replicate (2 * n) (Value.int 0)).length ≤ 8 by simp; omega)
  exact g_retA X2 B d54_6 rfl rfl rfl (by decide) (by decide) e2 ⟨a, rfl, ((Fr.nil n0).app N1), (Keep.refl _ _).ext Ea, Aa, Nat.le_of_eq ea.symm, ea ▸ Z0⟩
set_option maxRecDepth 65536 in
set_option maxHeartbeats 40000000 in
theorem rS_put (l : Launch) (Z : State) (ag : Array Value) (hw : ∀ d ∈ tables_1, d.before ag Z = true) (aB : Addr) (i : Nat) (c : Int32) (vs : List Value) (h0 : Heap) (n0 : Nat) (gB : n0 ≤ aB) (AB : Av Z h0 aB .byte vs) (hi : 2 * i + 1 < vs.length) (hl : vs.length ≤ 8) (SA : Sta Z h0 "java/lang/StringUTF16" "$assertionsDisabled" "Z" (.int 1)) (SH : Sta Z h0 "java/lang/StringUTF16" "HI_BYTE_SHIFT" "I" (.int 0)) (SLo : Sta Z h0 "java/lang/StringUTF16" "LO_BYTE_SHIFT" "I" (.int 8)) :
    Ctr l Z (⟨"java/lang/StringUTF16", "putChar", "([BII)V"⟩ : MethodName) jdk_52_method_4_code 3 none ({ frames := 0, cells := 0, slots := 0, locals := 0 } : Room) #[.ref aB, .int (Int32.ofNat i), .int c] h0 (fun v h L => v = none ∧ Fr n0 L ∧ Keep h0 h [aB] ∧ Av Z h aB .byte ((vs.set (2 * i) (.int (own_lo c))).set (2 * i + 1) (.int (own_hi c)))) := by
  refine Ctr.of pn_56 ?_
  intro p e s m below meth cc T0 X0 B e0
  refine Go.cast (f' := mkF m 0 #[.val (.ref aB), .val (.int (Int32.ofNat i)), .val (.int c)] []) (by first | rfl | (simp [entryFrame, mkF, argsToLocals, Value.category, maxLocals]; done)) ?_

  refine g_getS X0 B d56_0 3 rfl (hw _ (List.mem_of_getElem? (i := 282) rfl)) Via.refl e0 SA (fun T1 X1 e1 => ?_)
  refine g_if_ne X1 B d56_3 28 6 rfl (by decide) rfl (fun _ => ?_) (fun z => own_abs' (by decide) z)
  refine g_iloadN X1 B d56_28 29 rfl rfl ?_
  refine g_iconst X1 B (1) d56_29 30 rfl rfl ?_
  refine g_ishl X1 B d56_30 31 rfl ?_
  rw [own_shl1 (by omega)]
  refine g_istoreN X1 B #[.val (.ref aB), .val (.int (Int32.ofNat (2 * i))), .val (.int c)] d56_31 32 rfl rfl ?_
  refine g_aloadN X1 B d56_32 33 rfl rfl rfl ?_
  refine g_iloadN X1 B d56_33 34 rfl rfl ?_
  refine g_iinc X1 B #[.val (.ref aB), .val (.int ((Int32.ofNat (2 * i)) + (1))), .val (.int c)] (1) d56_34 37 rfl rfl rfl rfl ?_
  refine g_iloadN X1 B d56_37 38 rfl rfl ?_
  refine g_getS X1 B d56_38 41 rfl (hw _ (List.mem_of_getElem? (i := 283) rfl)) Via.refl e1 SH (fun T2 X2 e2 => ?_)
  refine g_ishr X2 B d56_41 42 rfl ?_
  rw [own_shr0]
  refine g_i2b X2 B d56_42 43 rfl ?_
  refine g_bastoreB X2 B (2 * i) d56_43 44 rfl e2 AB (own_tn (by omega)) (own_nn (by omega)) (by omega) (fun T3 h3 X3 e3 W3 A3 => ?_)
  rw [own_nb] at A3 W3
  rw [own_s1 (by omega)]
  refine g_aloadN X3 B d56_44 45 rfl rfl rfl ?_
  refine g_iloadN X3 B d56_45 46 rfl rfl ?_
  refine g_iloadN X3 B d56_46 47 rfl rfl ?_
  have t1 := (Sta.wr W3 SLo)
  refine g_getS X3 B d56_47 50 rfl (hw _ (List.mem_of_getElem? (i := 284) rfl)) Via.refl e3 t1 (fun T4 X4 e4 => ?_)
  refine g_ishr X4 B d56_50 51 rfl ?_
  refine g_i2b X4 B d56_51 52 rfl ?_
  refine g_bastoreB X4 B (2 * i + 1) d56_52 53 rfl e4 A3 (own_tn (by omega)) (own_nn (by omega)) (by simp; omega) (fun T5 h5 X5 e5 W5 A5 => ?_)
  rw [own_nb] at A5 W5
  exact g_retV X5 B d56_53 rfl (by decide) (by decide) e5 ⟨rfl, (Fr.snoc X5 (Fr.snoc X3 (Fr.nil n0) gB) gB), ((Keep.refl _ _).wr W3 (Or.inl (List.mem_singleton.mpr rfl))).wr W5 (Or.inl (List.mem_singleton.mpr rfl)), A5⟩
set_option maxRecDepth 65536 in
set_option maxHeartbeats 40000000 in
theorem rS_get (l : Launch) (Z : State) (ag : Array Value) (hw : ∀ d ∈ tables_1, d.before ag Z = true) (aB : Addr) (i : Nat) (c : Int32) (vs : List Value) (h0 : Heap) (n0 : Nat) (AB : Av Z h0 aB .byte vs) (hl : vs.length ≤ 8) (v1 : vs[2 * i]? = some (.int (own_lo c))) (v2 : vs[2 * i + 1]? = some (.int (own_hi c))) (hc : own_ch c) (SA : Sta Z h0 "java/lang/StringUTF16" "$assertionsDisabled" "Z" (.int 1)) (SH : Sta Z h0 "java/lang/StringUTF16" "HI_BYTE_SHIFT" "I" (.int 0)) (SLo : Sta Z h0 "java/lang/StringUTF16" "LO_BYTE_SHIFT" "I" (.int 8)) :
    Ctr l Z (⟨"java/lang/StringUTF16", "getChar", "([BI)C"⟩ : MethodName) jdk_52_method_5_code 2 (some .char) ({ frames := 0, cells := 0, slots := 0, locals := 0 } : Room) #[.ref aB, .int (Int32.ofNat i)] h0 (fun v h L => v = some (.int c) ∧ Fr n0 L ∧ h0 = h) := by
  refine Ctr.of pn_57 ?_
  intro p e s m below meth cc T0 X0 B e0
  refine Go.cast (f' := mkF m 0 #[.val (.ref aB), .val (.int (Int32.ofNat i))] []) (by first | rfl | (simp [entryFrame, mkF, argsToLocals, Value.category, maxLocals]; done)) ?_

  have hi : 2 * i + 1 < vs.length := (List.getElem?_eq_some_iff.mp v2).1
  refine g_getS X0 B d57_0 3 rfl (hw _ (List.mem_of_getElem? (i := 282) rfl)) Via.refl e0 SA (fun T1 X1 e1 => ?_)
  refine g_if_ne X1 B d57_3 28 6 rfl (by decide) rfl (fun _ => ?_) (fun z => own_abs' (by decide) z)
  refine g_iloadN X1 B d57_28 29 rfl rfl ?_
  refine g_iconst X1 B (1) d57_29 30 rfl rfl ?_
  refine g_ishl X1 B d57_30 31 rfl ?_
  rw [own_shl1 (by omega)]
  refine g_istoreN X1 B #[.val (.ref aB), .val (.int (Int32.ofNat (2 * i)))] d57_31 32 rfl rfl ?_
  refine g_aloadN X1 B d57_32 33 rfl rfl rfl ?_
  refine g_iloadN X1 B d57_33 34 rfl rfl ?_
  refine g_iinc X1 B #[.val (.ref aB), .val (.int ((Int32.ofNat (2 * i)) + (1)))] (1) d57_34 37 rfl rfl rfl rfl ?_
  refine g_baloadB X1 B (2 * i) d57_37 38 rfl e1 AB (own_tn (by omega)) (own_nn (by omega)) v1 ?_
  refine g_sipush X1 B (255) d57_38 41 rfl rfl ?_
  refine g_iand X1 B d57_41 42 rfl ?_
  refine g_getS X1 B d57_42 45 rfl (hw _ (List.mem_of_getElem? (i := 283) rfl)) Via.refl e1 SH (fun T2 X2 e2 => ?_)
  refine g_ishl X2 B d57_45 46 rfl ?_
  rw [own_s1 (by omega)]
  refine g_aloadN X2 B d57_46 47 rfl rfl rfl ?_
  refine g_iloadN X2 B d57_47 48 rfl rfl ?_
  refine g_baloadB X2 B (2 * i + 1) d57_48 49 rfl e2 AB (own_tn (by omega)) (own_nn (by omega)) v2 ?_
  refine g_sipush X2 B (255) d57_49 52 rfl rfl ?_
  refine g_iand X2 B d57_52 53 rfl ?_
  refine g_getS X2 B d57_53 56 rfl (hw _ (List.mem_of_getElem? (i := 284) rfl)) Via.refl e2 SLo (fun T3 X3 e3 => ?_)
  refine g_ishl X3 B d57_56 57 rfl ?_
  refine g_ior X3 B d57_57 58 rfl ?_
  refine g_i2c X3 B d57_58 59 rfl ?_
  rw [own_get hc]
  exact g_retN X3 B d57_59 rfl (by have q := own_nc hc; simpa [narrow, nar] using q) (by decide) (by decide) (by decide) e3 ⟨rfl, (Fr.nil n0), rfl⟩
def own_QT (Z : State) (h0 : Heap) (n0 : Nat) (cs : List Int32) (v : Option Value) (h : Heap) (L : List Loc) : Prop := ∃ a vs, v = some (.ref a) ∧ Fr n0 L ∧ Keep h0 h [] ∧ Av Z h a .byte vs ∧ own_U vs cs ∧ h0.size ≤ a ∧ n0 ≤ a
set_option maxRecDepth 65536 in
set_option maxHeartbeats 40000000 in
theorem rS_tob (l : Launch) (Z : State) (ag : Array Value) (hw : ∀ d ∈ tables_1, d.before ag Z = true) (aS : Addr) (cs : List Int32) (h0 : Heap) (n0 : Nat) (Z0 : n0 ≤ h0.size) (hn : cs.length ≤ 4) (AS : Av Z h0 aS .char (cs.map Value.int)) (SA : Sta Z h0 "java/lang/StringUTF16" "$assertionsDisabled" "Z" (.int 1)) (SH : Sta Z h0 "java/lang/StringUTF16" "HI_BYTE_SHIFT" "I" (.int 0)) (SLo : Sta Z h0 "java/lang/StringUTF16" "LO_BYTE_SHIFT" "I" (.int 8)) :
    Ctr l Z (⟨"java/lang/StringUTF16", "toBytes", "([CII)[B"⟩ : MethodName) jdk_52_method_14_code 5 (some (.array .byte)) ({ frames := 2, cells := 1, slots := 8, locals := 24 } : Room) #[.ref aS, .int (0 : Int32), .int (Int32.ofNat cs.length)] h0 (own_QT Z h0 n0 cs) := by
  refine Ctr.of pn_53 ?_
  intro p e s m below meth c T0 X0 B e0
  refine Go.cast (f' := mkF m 0 #[.val (.ref aS), .val (.int (0 : Int32)), .val (.int (Int32.ofNat cs.length)), .unset, .unset] []) (by first | rfl | (simp [entryFrame, mkF, argsToLocals, Value.category, maxLocals]; done)) ?_

  refine g_iloadN X0 B d53_0 1 rfl rfl ?_
  refine g_callS X0 B [.int (Int32.ofNat cs.length)] [] d53_1 4 rfl rfl (hw _ (List.mem_of_getElem? (i := 272) rfl)) (hw _ (List.mem_of_getElem? (i := 273) rfl)) (hw _ (List.mem_of_getElem? (i := 264) rfl)) (hw _ (List.mem_of_getElem? (i := 274) rfl)) (by decide) (lenOf pd_54 rfl) (rS_nbf l Z ag hw cs.length hn h0 n0 Z0) e0 rfl 0 (Nat.le_of_eq rfl) (by decide) (by decide) (by decide) (by decide) (fun v1 T1 h1 L1 X1 e1 q1 => ?_)
  obtain ⟨aB, rfl, N1, K1, AB, gh, gB⟩ := q1
  show Go p e below _ (T1.setTop (mkF m 4 #[.val (.ref aS), .val (.int (0 : Int32)), .val (.int (Int32.ofNat cs.length)), .unset, .unset] [.ref aB]))
  refine g_astoreN X1 B #[.val (.ref aS), .val (.int (0 : Int32)), .val (.int (Int32.ofNat cs.length)), .val (.ref aB), .unset] d53_4 5 rfl rfl rfl ?_
  refine g_iconst X1 B (0) d53_5 6 rfl rfl ?_
  refine g_istore X1 B #[.val (.ref aS), .val (.int (0 : Int32)), .val (.int (Int32.ofNat cs.length)), .val (.ref aB), .val (.int (0 : Int32))] d53_6 8 rfl rfl ?_
  have ne1 : aS ≠ aB := fun q => absurd (q ▸ AS.lt) (Nat.not_lt.mpr gh)
  have loop : ∀ (k i : Nat) (T : State) (hh : Heap) (vs : List Value) (Lo : List Loc), i + k = cs.length → Stand p l e ({ frames := 2, cells := 1, slots := 8, locals := 24 } : Room) s m #[.ref aS, .int (0 : Int32), .int (Int32.ofNat cs.length)] below meth c T Lo 1 8 → T.heap = hh → Av Z hh aS .char (cs.map Value.int) → Av Z hh aB .byte vs → own_Up vs cs i → Keep h0 hh [] → Fr n0 Lo → Sta Z hh "java/lang/StringUTF16" "$assertionsDisabled" "Z" (.int 1) → Sta Z hh "java/lang/StringUTF16" "HI_BYTE_SHIFT" "I" (.int 0) → Sta Z hh "java/lang/StringUTF16" "LO_BYTE_SHIFT" "I" (.int 8) → Go p e below (EndsQ s (own_QT Z h0 n0 cs) ({ frames := 2, cells := 1, slots := 8, locals := 24 } : Room).cells ({ frames := 2, cells := 1, slots := 8, locals := 24 } : Room).slots) (T.setTop (mkF m 8 #[.val (.ref aS), .val (.int (Int32.ofNat i)), .val (.int (Int32.ofNat cs.length)), .val (.ref aB), .val (.int (Int32.ofNat i))] [])) := by
    intro k
    induction k with
    | zero =>
      intro i T hh vs Lo hk X eh AS AB hU K N SA SH SLo
      refine g_iload X B d53_8 10 rfl rfl ?_
      refine g_iloadN X B d53_10 11 rfl rfl ?_
      refine g_icmp_ge X B d53_11 32 14 rfl (by decide) rfl (fun _ => ?_) (fun z => own_abs' (fun z => absurd ((own_lt (by omega) (by omega)).mp z) (by omega)) z)
      refine g_aloadN X B d53_32 33 rfl rfl rfl ?_
      exact g_retA X B d53_33 rfl rfl rfl (by decide) (by decide) eh ⟨aB, vs, rfl, N, K, AB, own_UpE (by omega) hU, gh, gB⟩
    | succ k ih =>
      intro i T hh vs Lo hk X eh AS AB hU K N SA SH SLo
      obtain ⟨c0, hc⟩ := own_ex (cs := cs) (i := i) (by omega)
      refine g_iload X B d53_8 10 rfl rfl ?_
      refine g_iloadN X B d53_10 11 rfl rfl ?_
      refine g_icmp_ge X B d53_11 32 14 rfl (by decide) rfl (fun z => own_abs ((own_lt (by omega) (by omega)).mpr (by omega)) z) (fun _ => ?_)
      refine g_aloadN X B d53_14 15 rfl rfl rfl ?_
      refine g_iload X B d53_15 17 rfl rfl ?_
      refine g_aloadN X B d53_17 18 rfl rfl rfl ?_
      refine g_iloadN X B d53_18 19 rfl rfl ?_
      refine g_caload X B i d53_19 20 rfl eh AS (own_tn (by omega)) (own_nn (by omega)) (own_mapat hc) ?_
      refine g_callS X B [.ref aB, .int (Int32.ofNat i), .int c0] [] d53_20 23 rfl rfl (hw _ (List.mem_of_getElem? (i := 279) rfl)) (hw _ (List.mem_of_getElem? (i := 280) rfl)) (hw _ (List.mem_of_getElem? (i := 264) rfl)) (hw _ (List.mem_of_getElem? (i := 281) rfl)) (by decide) (lenOf pd_56 rfl) (rS_put l Z ag hw aB i c0 vs hh n0 gB AB (by rw [hU.1]; omega) (by rw [hU.1]; omega) SA SH SLo) eh rfl 0 (Nat.le_of_eq rfl) (by decide) (by decide) (by decide) (by decide) (fun v1 T1 h1 L1 X1 e1 q1 => ?_)
      obtain ⟨rfl, N1, K1, A1⟩ := q1
      show Go p e below _ (T1.setTop (mkF m 23 #[.val (.ref aS), .val (.int (Int32.ofNat i)), .val (.int (Int32.ofNat cs.length)), .val (.ref aB), .val (.int (Int32.ofNat i))] []))
      refine g_iinc X1 B #[.val (.ref aS), .val (.int ((Int32.ofNat i) + (1))), .val (.int (Int32.ofNat cs.length)), .val (.ref aB), .val (.int (Int32.ofNat i))] (1) d53_23 26 rfl rfl rfl rfl ?_
      refine g_iinc X1 B #[.val (.ref aS), .val (.int ((Int32.ofNat i) + (1))), .val (.int (Int32.ofNat cs.length)), .val (.ref aB), .val (.int ((Int32.ofNat i) + (1)))] (1) d53_26 29 rfl rfl rfl rfl ?_
      refine g_goto X1 B d53_29 8 rfl (by decide) ?_
      rw [own_s1 (by omega)]
      exact ih (i + 1) _ _ _ _ (by omega) X1 e1 (AS.keep K1 (ninS ne1 nin0)) A1 (own_Ups hU hc) (K.trans K1 (allS (Or.inr gh) all0)) (N.app N1) (own_stkw SA K1 (own_plA AB own_pl0)) (own_stkw SH K1 (own_plA AB own_pl0)) (own_stkw SLo K1 (own_plA AB own_pl0))
  exact loop cs.length 0 _ _ _ _ (by omega) X1 e1 (AS.keep K1 nin0) AB (own_Up0 rfl) K1 (Fr.app (Fr.nil n0) N1) (own_stk SA K1) (own_stk SH K1) (own_stk SLo K1)
def own_QC (Z : State) (h0 : Heap) (n0 : Nat) (aB : Addr) (cs : List Int32) (v : Option Value) (h : Heap) (L : List Loc) : Prop := ∃ r vs, v = some (.int r) ∧ Fr n0 L ∧ Keep h0 h [aB] ∧ Av Z h aB .byte vs ∧ ((r = Int32.ofNat cs.length ∧ own_L vs cs) ∨ (∃ i c, i < cs.length ∧ r = Int32.ofNat i ∧ cs[i]? = some c ∧ 255 < c))
set_option maxRecDepth 65536 in
set_option maxHeartbeats 40000000 in
theorem rS_c5 (l : Launch) (Z : State) (ag : Array Value) (hw : ∀ d ∈ tables_1, d.before ag Z = true) (aS aB : Addr) (cs : List Int32) (vs0 : List Value) (h0 : Heap) (n0 : Nat) (hn : cs.length ≤ 4) (gB : n0 ≤ aB) (AS : Av Z h0 aS .char (cs.map Value.int)) (AB : Av Z h0 aB .byte vs0) (hL : own_Lp vs0 cs 0) :
    Ctr l Z (⟨"java/lang/StringUTF16", "compress", "([CI[BII)I"⟩ : MethodName) jdk_52_method_21_code 7 (some .int) ({ frames := 0, cells := 0, slots := 0, locals := 0 } : Room) #[.ref aS, .int (0 : Int32), .ref aB, .int (0 : Int32), .int (Int32.ofNat cs.length)] h0 (own_QC Z h0 n0 aB cs) := by
  refine Ctr.of pn_52 ?_
  intro p e s m below meth c T0 X0 B e0
  refine Go.cast (f' := mkF m 0 #[.val (.ref aS), .val (.int (0 : Int32)), .val (.ref aB), .val (.int (0 : Int32)), .val (.int (Int32.ofNat cs.length)), .unset, .unset] []) (by first | rfl | (simp [entryFrame, mkF, argsToLocals, Value.category, maxLocals]; done)) ?_

  have ne1 : aS ≠ aB := own_avN AS AB (by decide)
  refine g_iconst X0 B (0) d52_0 1 rfl rfl ?_
  refine g_istore X0 B #[.val (.ref aS), .val (.int (0 : Int32)), .val (.ref aB), .val (.int (0 : Int32)), .val (.int (Int32.ofNat cs.length)), .val (.int (0 : Int32)), .unset] d52_1 3 rfl rfl ?_
  have loop : ∀ (k i : Nat) (T : State) (hh : Heap) (vs : List Value) (Lo : List Loc) (o6 : Slot), i + k = cs.length → Stand p l e ({ frames := 0, cells := 0, slots := 0, locals := 0 } : Room) s m #[.ref aS, .int (0 : Int32), .ref aB, .int (0 : Int32), .int (Int32.ofNat cs.length)] below meth c T Lo 0 0 → T.heap = hh → Av Z hh aS .char (cs.map Value.int) → Av Z hh aB .byte vs → own_Lp vs cs i → Keep h0 hh [aB] → Fr n0 Lo → One o6 → Go p e below (EndsQ s (own_QC Z h0 n0 aB cs) ({ frames := 0, cells := 0, slots := 0, locals := 0 } : Room).cells ({ frames := 0, cells := 0, slots := 0, locals := 0 } : Room).slots) (T.setTop (mkF m 3 #[.val (.ref aS), .val (.int (Int32.ofNat i)), .val (.ref aB), .val (.int (Int32.ofNat i)), .val (.int (Int32.ofNat cs.length)), .val (.int (Int32.ofNat i)), o6] [])) := by
    intro k
    induction k with
    | zero =>
      intro i T hh vs Lo o6 hk X eh AS AB hL K N O
      refine g_iload X B d52_3 5 rfl rfl ?_
      refine g_iload X B d52_5 7 rfl rfl ?_
      refine g_icmp_ge X B d52_7 44 10 rfl (by decide) rfl (fun _ => ?_) (fun z => own_abs' (fun z => absurd ((own_lt (by omega) (by omega)).mp z) (by omega)) z)
      refine g_iload X B d52_44 46 rfl rfl ?_
      exact g_retI X B d52_46 rfl (by decide) (by decide) eh ⟨_, vs, rfl, N, K, AB, Or.inl ⟨rfl, own_LpE (by omega) hL⟩⟩
    | succ k ih =>
      intro i T hh vs Lo o6 hk X eh AS AB hL K N O
      obtain ⟨c0, hc⟩ := own_ex (cs := cs) (i := i) (by omega)
      refine g_iload X B d52_3 5 rfl rfl ?_
      refine g_iload X B d52_5 7 rfl rfl ?_
      refine g_icmp_ge X B d52_7 44 10 rfl (by decide) rfl (fun z => own_abs ((own_lt (by omega) (by omega)).mpr (by omega)) z) (fun _ => ?_)
      refine g_aloadN X B d52_10 11 rfl rfl rfl ?_
      refine g_iloadN X B d52_11 12 rfl rfl ?_
      refine g_caload X B i d52_12 13 rfl eh AS (own_tn (by omega)) (own_nn (by omega)) (own_mapat hc) ?_
      refine g_istore X B #[.val (.ref aS), .val (.int (Int32.ofNat i)), .val (.ref aB), .val (.int (Int32.ofNat i)), .val (.int (Int32.ofNat cs.length)), .val (.int (Int32.ofNat i)), .val (.int c0)] d52_13 15 rfl (XS.store1 rfl O rfl) ?_
      refine g_iload X B d52_15 17 rfl rfl ?_
      refine g_sipush X B (255) d52_17 20 rfl rfl ?_
      refine g_icmp_le X B d52_20 26 23 rfl (by decide) rfl (fun c1 => ?_) (fun c1 => ?_)
      · skip
        refine g_aloadN X B d52_26 27 rfl rfl rfl ?_
        refine g_iloadN X B d52_27 28 rfl rfl ?_
        refine g_iload X B d52_28 30 rfl rfl ?_
        refine g_i2b X B d52_30 31 rfl ?_
        refine g_bastoreB X B i d52_31 32 rfl eh AB (own_tn (by omega)) (own_nn (by omega)) (by rw [hL.1]; omega) (fun T2 h2 X2 e2 W2 A2 => ?_)
        rw [own_nb] at A2 W2
        refine g_iinc X2 B #[.val (.ref aS), .val (.int ((Int32.ofNat i) + (1))), .val (.ref aB), .val (.int (Int32.ofNat i)), .val (.int (Int32.ofNat cs.length)), .val (.int (Int32.ofNat i)), .val (.int c0)] (1) d52_32 35 rfl rfl rfl rfl ?_
        refine g_iinc X2 B #[.val (.ref aS), .val (.int ((Int32.ofNat i) + (1))), .val (.ref aB), .val (.int ((Int32.ofNat i) + (1))), .val (.int (Int32.ofNat cs.length)), .val (.int (Int32.ofNat i)), .val (.int c0)] (1) d52_35 38 rfl rfl rfl rfl ?_
        refine g_iinc X2 B #[.val (.ref aS), .val (.int ((Int32.ofNat i) + (1))), .val (.ref aB), .val (.int ((Int32.ofNat i) + (1))), .val (.int (Int32.ofNat cs.length)), .val (.int ((Int32.ofNat i) + (1))), .val (.int c0)] (1) d52_38 41 rfl rfl rfl rfl ?_
        refine g_goto X2 B d52_41 3 rfl (by decide) ?_
        rw [own_s1 (by omega)]
        exact ih (i + 1) _ _ _ _ _ (by omega) X2 e2 (AS.other W2 ne1) A2 (own_Lps hL hc c1) (K.wr W2 (Or.inl (List.mem_singleton.mpr rfl))) (Fr.snoc X2 N gB) (One.val rfl)
      · skip
        refine g_iload X B d52_23 25 rfl rfl ?_
        exact g_retI X B d52_25 rfl (by decide) (by decide) eh ⟨_, vs, rfl, N, K, AB, Or.inr ⟨i, c0, by omega, rfl, hc, c1⟩⟩
  exact loop cs.length 0 _ _ _ _ _ (by omega) X0 e0 AS AB hL (Keep.refl _ _) (Fr.nil n0) One.u
set_option maxRecDepth 65536 in
set_option maxHeartbeats 40000000 in
theorem rS_c3 (l : Launch) (Z : State) (ag : Array Value) (hw : ∀ d ∈ tables_1, d.before ag Z = true) (aS : Addr) (cs : List Int32) (h0 : Heap) (n0 : Nat) (Z0 : n0 ≤ h0.size) (hn : cs.length ≤ 4) (hcs : ∀ c ∈ cs, own_ch c) (AS : Av Z h0 aS .char (cs.map Value.int)) (SA : Sta Z h0 "java/lang/StringUTF16" "$assertionsDisabled" "Z" (.int 1)) (SH : Sta Z h0 "java/lang/StringUTF16" "HI_BYTE_SHIFT" "I" (.int 0)) (SLo : Sta Z h0 "java/lang/StringUTF16" "LO_BYTE_SHIFT" "I" (.int 8)) :
    Ctr l Z (⟨"java/lang/StringUTF16", "compress", "([CII)[B"⟩ : MethodName) jdk_52_method_16_code 6 (some (.array .byte)) ({ frames := 3, cells := 2, slots := 12, locals := 40 } : Room) #[.ref aS, .int (0 : Int32), .int (Int32.ofNat cs.length)] h0 (fun v h L => ∃ a vs, v = some (.ref a) ∧ Fr n0 L ∧ Keep h0 h [] ∧ Av Z h a .byte vs ∧ (own_L vs cs ∨ own_U vs cs) ∧ h0.size ≤ a ∧ n0 ≤ a) := by
  refine Ctr.of pn_51 ?_
  intro p e s m below meth c T0 X0 B e0
  refine Go.cast (f' := mkF m 0 #[.val (.ref aS), .val (.int (0 : Int32)), .val (.int (Int32.ofNat cs.length)), .unset, .unset, .unset] []) (by first | rfl | (simp [entryFrame, mkF, argsToLocals, Value.category, maxLocals]; done)) ?_

  refine g_iloadN X0 B d51_0 1 rfl rfl ?_
  refine g_newP X0 B (List.replicate cs.length (.int 0)) d51_1 3 rfl (hw _ (List.mem_of_getElem? (i := 20) rfl)) e0 (own_nn (by omega)) (by rw [own_tn (by omega)]; rfl) (by simp; omega) (by decide) (by simp; omega) (fun T1 h1 aB X1' e1 ea Ea AB => ?_)
  have X1 := X1'.more (Nat.le_refl _) (show 0 + (List.replicate cs.length (Value.int 0)).length ≤ 4 by simp; omega)
  have gB : n0 ≤ aB := ea ▸ Z0
  refine g_astoreN X1 B #[.val (.ref aS), .val (.int (0 : Int32)), .val (.int (Int32.ofNat cs.length)), .val (.ref aB), .unset, .unset] d51_3 4 rfl rfl rfl ?_
  refine g_aloadN X1 B d51_4 5 rfl rfl rfl ?_
  refine g_iloadN X1 B d51_5 6 rfl rfl ?_
  refine g_aloadN X1 B d51_6 7 rfl rfl rfl ?_
  refine g_iconst X1 B (0) d51_7 8 rfl rfl ?_
  refine g_iloadN X1 B d51_8 9 rfl rfl ?_
  refine g_callS X1 B [.ref aS, .int (0 : Int32), .ref aB, .int (0 : Int32), .int (Int32.ofNat cs.length)] [] d51_9 12 rfl rfl (hw _ (List.mem_of_getElem? (i := 266) rfl)) (hw _ (List.mem_of_getElem? (i := 267) rfl)) (hw _ (List.mem_of_getElem? (i := 264) rfl)) (hw _ (List.mem_of_getElem? (i := 268) rfl)) (by decide) (lenOf pd_52 rfl) (rS_c5 l Z ag hw aS aB cs _ h1 n0 hn gB (AS.ext Ea) AB (own_Lp0 rfl)) e1 rfl 0 (Nat.le_of_eq rfl) (by decide) (by decide) (by decide) (by decide) (fun v2 T2 h2 L2 X2 e2 q2 => ?_)
  obtain ⟨r, vs, rfl, N2, K2, A2, D2⟩ := q2
  show Go p e below _ (T2.setTop (mkF m 12 #[.val (.ref aS), .val (.int (0 : Int32)), .val (.int (Int32.ofNat cs.length)), .val (.ref aB), .unset, .unset] [.int r]))
  refine g_istore X2 B #[.val (.ref aS), .val (.int (0 : Int32)), .val (.int (Int32.ofNat cs.length)), .val (.ref aB), .val (.int r), .unset] d51_12 14 rfl rfl ?_
  refine g_iload X2 B d51_14 16 rfl rfl ?_
  refine g_iloadN X2 B d51_16 17 rfl rfl ?_
  refine g_icmp_eq X2 B d51_17 57 20 rfl (by decide) rfl (fun c3 => ?_) (fun c3 => ?_)
  · skip
    refine g_aloadN X2 B d51_57 58 rfl rfl rfl ?_
    exact g_retA X2 B d51_58 rfl rfl rfl (by decide) (by decide) e2 ⟨aB, vs, rfl, ((Fr.nil n0).app N2), ((Keep.refl h0 []).ext Ea).trans K2 (allS (Or.inr (Nat.le_of_eq ea.symm)) all0), A2, Or.inl (by
        rcases D2 with ⟨-, q⟩ | ⟨i, c0, hi, q, -⟩
        · exact q
        · exact absurd (own_inj (by omega) (by omega) (q.symm.trans c3)) (by omega)), Nat.le_of_eq ea.symm, gB⟩
  · skip
    refine g_aloadN X2 B d51_20 21 rfl rfl rfl ?_
    refine g_iloadN X2 B d51_21 22 rfl rfl ?_
    refine g_iloadN X2 B d51_22 23 rfl rfl ?_
    obtain ⟨i, c0, hi, rfl, hc, hb⟩ := D2.resolve_left (fun z => c3 z.1)
    have K20 : Keep h0 h2 [] := ((Keep.refl h0 []).ext Ea).trans K2 (allS (Or.inr (Nat.le_of_eq ea.symm)) all0)
    refine g_callS X2 B [.ref aS, .int (0 : Int32), .int (Int32.ofNat cs.length)] [] d51_23 26 rfl rfl (hw _ (List.mem_of_getElem? (i := 269) rfl)) (hw _ (List.mem_of_getElem? (i := 270) rfl)) (hw _ (List.mem_of_getElem? (i := 264) rfl)) (hw _ (List.mem_of_getElem? (i := 271) rfl)) (by decide) (lenOf pd_53 rfl) (rS_tob l Z ag hw aS cs h2 n0 (Nat.le_trans Z0 K20.1) hn (AS.keep K20 nin0) (own_stk SA K20) (own_stk SH K20) (own_stk SLo K20)) e2 rfl 0 (Nat.le_of_eq rfl) (by decide) (by decide) (by decide) (by decide) (fun v4 T4 h4 L4 X4 e4 q4 => ?_)
    obtain ⟨aU, us, rfl, N4, K4, AU, hU, gh, gU⟩ := q4
    show Go p e below _ (T4.setTop (mkF m 26 #[.val (.ref aS), .val (.int (0 : Int32)), .val (.int (Int32.ofNat cs.length)), .val (.ref aB), .val (.int (Int32.ofNat i)), .unset] [.ref aU]))
    refine g_astore X4 B #[.val (.ref aS), .val (.int (0 : Int32)), .val (.int (Int32.ofNat cs.length)), .val (.ref aB), .val (.int (Int32.ofNat i)), .val (.ref aU)] d51_26 28 rfl rfl rfl ?_
    refine g_aload X4 B d51_28 30 rfl rfl rfl ?_
    refine g_iload X4 B d51_30 32 rfl rfl ?_
    have K40 : Keep h0 h4 [] := K20.trans K4 all0
    refine g_callS X4 B [.ref aU, .int (Int32.ofNat i)] [] d51_32 35 rfl rfl (hw _ (List.mem_of_getElem? (i := 285) rfl)) (hw _ (List.mem_of_getElem? (i := 286) rfl)) (hw _ (List.mem_of_getElem? (i := 264) rfl)) (hw _ (List.mem_of_getElem? (i := 287) rfl)) (by decide) (lenOf pd_57 rfl) (rS_get l Z ag hw aU i c0 us h4 n0 AU (by rw [hU.1]; omega) (hU.2 i c0 hi hc).1 (hU.2 i c0 hi hc).2 (hcs c0 (List.mem_of_getElem? hc)) (own_stk SA K40) (own_stk SH K40) (own_stk SLo K40)) e4 rfl 0 (Nat.le_of_eq rfl) (by decide) (by decide) (by decide) (by decide) (fun v5 T5 h5 L5 X5 e5 q5 => ?_)
    obtain ⟨rfl, N5, rfl⟩ := q5
    show Go p e below _ (T5.setTop (mkF m 35 #[.val (.ref aS), .val (.int (0 : Int32)), .val (.int (Int32.ofNat cs.length)), .val (.ref aB), .val (.int (Int32.ofNat i)), .val (.ref aU)] [.int c0]))
    refine g_sipush X5 B (255) d51_35 38 rfl rfl ?_
    refine g_icmp_gt X5 B d51_38 54 41 rfl (by decide) rfl (fun _ => ?_) (fun z => own_abs (hb) z)
    refine g_aload X5 B d51_54 56 rfl rfl rfl ?_
    exact g_retA X5 B d51_56 rfl rfl rfl (by decide) (by decide) e5 ⟨aU, us, rfl, ((((Fr.nil n0).app N2).app N4).app N5), K40, AU, Or.inr hU, Nat.le_trans K20.1 gh, gU⟩
set_option maxRecDepth 65536 in
set_option maxHeartbeats 40000000 in
theorem rS_cfa (l : Launch) (Z : State) (ag : Array Value) (hw : ∀ d ∈ tables_1, d.before ag Z = true) (a : Addr) (n : Nat) (k : Int32) (vs : List Value) (h0 : Heap) (n0 : Nat) (hn : n ≤ 4) (hp : 0 < n) (A : Av Z h0 a .byte vs) (hk : (k = 0 ∧ vs.length = n) ∨ (k = 1 ∧ vs.length = 2 * n)) :
    Ctr l Z (⟨"java/lang/StringUTF16", "coderFromArrayLen", "([BI)B"⟩ : MethodName) jdk_52_method_15_code 2 (some .byte) ({ frames := 0, cells := 0, slots := 0, locals := 0 } : Room) #[.ref a, .int (Int32.ofNat n)] h0 (fun v h L => v = some (.int k) ∧ Fr n0 L ∧ h0 = h) := by
  refine Ctr.of pn_58 ?_
  intro p e s m below meth c T0 X0 B e0
  refine Go.cast (f' := mkF m 0 #[.val (.ref a), .val (.int (Int32.ofNat n))] []) (by first | rfl | (simp [entryFrame, mkF, argsToLocals, Value.category, maxLocals]; done)) ?_

  refine g_iloadN X0 B d58_0 1 rfl rfl ?_
  refine g_aloadN X0 B d58_1 2 rfl rfl rfl ?_
  refine g_arrlen X0 B (Int32.ofNat vs.length) d58_2 3 rfl e0 A rfl ?_
  refine g_isub X0 B d58_3 4 rfl ?_
  refine g_bipush X0 B (31) d58_4 6 rfl rfl ?_
  refine g_iushr X0 B d58_6 7 rfl ?_
  refine g_i2b X0 B d58_7 8 rfl ?_
  rw [show (XT.ushr (Int32.ofNat n - Int32.ofNat vs.length) 31).toInt8.toInt32 = k by
      rcases hk with ⟨rfl, q⟩ | ⟨rfl, q⟩
      · rw [q]; exact own_cfal n hn
      · rw [q]; exact own_cfal2 n hn hp]
  exact g_retN X0 B d58_8 rfl (own_kb (hk.imp And.left And.left)) (by decide) (by decide) (by decide) e0 ⟨rfl, (Fr.nil n0), rfl⟩
set_option maxRecDepth 65536 in
set_option maxHeartbeats 40000000 in
theorem rS_i4 (l : Launch) (Z : State) (ag : Array Value) (hw : ∀ d ∈ tables_1, d.before ag Z = true) (a aS : Addr) (cs : List Int32) (cx : Int32) (h0 : Heap) (n0 : Nat) (Z0 : n0 ≤ h0.size) (hn : cs.length ≤ 4) (hp : 0 < cs.length) (hcs : ∀ c ∈ cs, own_ch c) (ga : n0 ≤ a) (Ea : Exa Z h0 a "java/lang/String") (FV : Fld Z h0 a "java/lang/String" "value" "[B" (.null)) (FC : Fld Z h0 a "java/lang/String" "coder" "B" (.int 0)) (AS : Av Z h0 aS .char (cs.map Value.int)) (SA : Sta Z h0 "java/lang/StringUTF16" "$assertionsDisabled" "Z" (.int 1)) (SH : Sta Z h0 "java/lang/StringUTF16" "HI_BYTE_SHIFT" "I" (.int 0)) (SLo : Sta Z h0 "java/lang/StringUTF16" "LO_BYTE_SHIFT" "I" (.int 8)) (SC : Sta Z h0 "java/lang/String" "COMPACT_STRINGS" "Z" (.int cx)) (hcx : ¬ cx = 0) :
    Ctr l Z (⟨"java/lang/String", "<init>", "([CIILjava/lang/Void;)V"⟩ : MethodName) jdk_42_method_149_code 6 none ({ frames := 4, cells := 2, slots := 12, locals := 57 } : Room) #[.ref a, .ref aS, .int (0 : Int32), .int (Int32.ofNat cs.length), .null] h0 (fun v h L => ∃ b vs k, v = none ∧ Fr n0 L ∧ Keep h0 h [a] ∧ Fld Z h a "java/lang/String" "value" "[B" (.ref b) ∧ Fld Z h a "java/lang/String" "coder" "B" (.int k) ∧ Av Z h b .byte vs ∧ own_SV k vs cs ∧ h0.size ≤ b ∧ n0 ≤ b) := by
  refine Ctr.of pn_3 ?_
  intro p e s m below meth c T0 X0 B e0
  refine Go.cast (f' := mkF m 0 #[.val (.ref a), .val (.ref aS), .val (.int (0 : Int32)), .val (.int (Int32.ofNat cs.length)), .val (.null), .unset] []) (by first | rfl | (simp [entryFrame, mkF, argsToLocals, Value.category, maxLocals]; done)) ?_

  refine g_aloadN X0 B d3_0 1 rfl rfl rfl ?_
  obtain ⟨T1, X1, e1, st1⟩ := initO X0 B.x B.z B.o (hw _ (List.mem_of_getElem? (i := 16) rfl)) (hw _ (List.mem_of_getElem? (i := 17) rfl)) (hw _ (List.mem_of_getElem? (i := 18) rfl)) e0 (g := mkF m 1 #[.val (.ref a), .val (.ref aS), .val (.int (0 : Int32)), .val (.int (Int32.ofNat cs.length)), .val (.null), .unset] [.ref a]) rfl (B.mx rfl) rfl (B.d d3_1) (by decide) (W := 0) (by show 2 * 0 + _ ≤ _; exact Nat.le_of_eq rfl) (by decide)
  refine Go.via st1 ?_
  show Go p e below _ (T1.setTop (mkF m 4 #[.val (.ref a), .val (.ref aS), .val (.int (0 : Int32)), .val (.int (Int32.ofNat cs.length)), .val (.null), .unset] []))
  refine g_iloadN X1 B d3_4 5 rfl rfl ?_
  refine g_if_ne X1 B d3_5 27 8 rfl (by decide) rfl (fun _ => ?_) (fun z => own_abs' (own_nz hn hp) z)
  refine g_getS X1 B d3_27 30 rfl (hw _ (List.mem_of_getElem? (i := 76) rfl)) Via.refl e1 SC (fun T2 X2 e2 => ?_)
  refine g_if_eq X2 B d3_30 58 33 rfl (by decide) rfl (fun z => own_abs' (hcx) z) (fun _ => ?_)
  refine g_aloadN X2 B d3_33 34 rfl rfl rfl ?_
  refine g_iloadN X2 B d3_34 35 rfl rfl ?_
  refine g_iloadN X2 B d3_35 36 rfl rfl ?_
  refine g_callS X2 B [.ref aS, .int (0 : Int32), .int (Int32.ofNat cs.length)] [] d3_36 39 rfl rfl (hw _ (List.mem_of_getElem? (i := 262) rfl)) (hw _ (List.mem_of_getElem? (i := 263) rfl)) (hw _ (List.mem_of_getElem? (i := 264) rfl)) (hw _ (List.mem_of_getElem? (i := 265) rfl)) (by decide) (lenOf pd_51 rfl) (rS_c3 l Z ag hw aS cs h0 n0 Z0 hn hcs AS SA SH SLo) e2 rfl 0 (Nat.le_of_eq rfl) (by decide) (by decide) (by decide) (by decide) (fun v3 T3 h3 L3 X3 e3 q3 => ?_)
  obtain ⟨b, vs, rfl, N3, K3, Ab, D3, gh, gb⟩ := q3
  show Go p e below _ (T3.setTop (mkF m 39 #[.val (.ref a), .val (.ref aS), .val (.int (0 : Int32)), .val (.int (Int32.ofNat cs.length)), .val (.null), .unset] [.ref b]))
  obtain ⟨k, hk, hSV⟩ : ∃ k : Int32, ((k = 0 ∧ vs.length = cs.length) ∨ (k = 1 ∧ vs.length = 2 * cs.length)) ∧ own_SV k vs cs := by
    rcases D3 with q | q
    · exact ⟨0, Or.inl ⟨rfl, q.1⟩, Or.inl ⟨rfl, q⟩⟩
    · exact ⟨1, Or.inr ⟨rfl, q.1⟩, Or.inr ⟨rfl, q⟩⟩
  refine g_astore X3 B #[.val (.ref a), .val (.ref aS), .val (.int (0 : Int32)), .val (.int (Int32.ofNat cs.length)), .val (.null), .val (.ref b)] d3_39 41 rfl rfl rfl ?_
  refine g_aloadN X3 B d3_41 42 rfl rfl rfl ?_
  refine g_aload X3 B d3_42 44 rfl rfl rfl ?_
  refine g_iloadN X3 B d3_44 45 rfl rfl ?_
  refine g_callS X3 B [.ref b, .int (Int32.ofNat cs.length)] [.ref a] d3_45 48 rfl rfl (hw _ (List.mem_of_getElem? (i := 288) rfl)) (hw _ (List.mem_of_getElem? (i := 289) rfl)) (hw _ (List.mem_of_getElem? (i := 264) rfl)) (hw _ (List.mem_of_getElem? (i := 290) rfl)) (by decide) (lenOf pd_58 rfl) (rS_cfa l Z ag hw b cs.length k vs h3 n0 hn hp Ab hk) e3 rfl 1 (Nat.le_of_eq rfl) (by decide) (by decide) (by decide) (by decide) (fun v4 T4 h4 L4 X4 e4 q4 => ?_)
  obtain ⟨rfl, N4, rfl⟩ := q4
  show Go p e below _ (T4.setTop (mkF m 48 #[.val (.ref a), .val (.ref aS), .val (.int (0 : Int32)), .val (.int (Int32.ofNat cs.length)), .val (.null), .val (.ref b)] [.int k, .ref a]))
  have t1 := (Fld.keep FC K3 nin0)
  have t2 := (Exa.keep Ea K3)
  refine g_putF X4 B d3_48 51 rfl (hw _ (List.mem_of_getElem? (i := 26) rfl)) Via.refl e4 t1 t2 (Or.inr ⟨(hw _ (List.mem_of_getElem? (i := 22) rfl)), rfl, rfl⟩) (hw _ (List.mem_of_getElem? (i := 6) rfl)) (ty := .byte) (by decide) (own_kb (own_SVk hSV)) (own_kf (own_SVk hSV)) (fun T5 h5 X5 e5 W5 => ?_)
  have F5 := t1.same W5
  refine g_aloadN X5 B d3_51 52 rfl rfl rfl ?_
  refine g_aload X5 B d3_52 54 rfl rfl rfl ?_
  have t3 := (Fld.other W5 (Fld.keep FV K3 nin0) (Or.inr (slot_ne (Or.inr (hw _ (List.mem_of_getElem? (i := 21) rfl))) (Or.inr (hw _ (List.mem_of_getElem? (i := 22) rfl))) (by decide) (t := (.array .byte)) (by decide) (t' := .byte) (by decide))))
  have t4 := (Exa.wr W5 t2)
  refine g_putF X5 B d3_54 57 rfl (hw _ (List.mem_of_getElem? (i := 25) rfl)) Via.refl e5 t3 t4 (Or.inr ⟨(hw _ (List.mem_of_getElem? (i := 21) rfl)), rfl, rfl⟩) (hw _ (List.mem_of_getElem? (i := 6) rfl)) (ty := (.array .byte)) (by decide) rfl rfl (fun T6 h6 X6 e6 W6 => ?_)
  have F6 := t3.same W6
  have t5 := (Keep.wr (Keep.wr (Keep.trans (Keep.refl h0 [a]) K3 all0) W5 (Or.inl (List.mem_of_getElem? (i := 0) rfl))) W6 (Or.inl (List.mem_of_getElem? (i := 0) rfl)))
  have t6 := (Fld.other W6 F5 (Or.inr (slot_ne (Or.inr (hw _ (List.mem_of_getElem? (i := 22) rfl))) (Or.inr (hw _ (List.mem_of_getElem? (i := 21) rfl))) (by decide) (t := .byte) (by decide) (t' := (.array .byte)) (by decide))))
  have t7 : a ≠ b := own_neAv t2 (hw _ (List.mem_of_getElem? (i := 6) rfl)) Ab
  have t8 := (Av.other (Av.other Ab W5 (Ne.symm t7)) W6 (Ne.symm t7))
  exact g_retV X6 B d3_57 rfl (by decide) (by decide) e6 ⟨b, vs, k, rfl, (Fr.snoc X6 (Fr.snoc X5 (((Fr.nil n0).app N3).app N4) ga) ga), t5, F6, t6, t8, hSV, gh, gb⟩
set_option maxRecDepth 65536 in
set_option maxHeartbeats 40000000 in
theorem rS_i1 (l : Launch) (Z : State) (ag : Array Value) (hw : ∀ d ∈ tables_1, d.before ag Z = true) (a aS : Addr) (cs : List Int32) (cx : Int32) (h0 : Heap) (n0 : Nat) (Z0 : n0 ≤ h0.size) (hn : cs.length ≤ 4) (hp : 0 < cs.length) (hcs : ∀ c ∈ cs, own_ch c) (ga : n0 ≤ a) (Ea : Exa Z h0 a "java/lang/String") (FV : Fld Z h0 a "java/lang/String" "value" "[B" (.null)) (FC : Fld Z h0 a "java/lang/String" "coder" "B" (.int 0)) (AS : Av Z h0 aS .char (cs.map Value.int)) (SA : Sta Z h0 "java/lang/StringUTF16" "$assertionsDisabled" "Z" (.int 1)) (SH : Sta Z h0 "java/lang/StringUTF16" "HI_BYTE_SHIFT" "I" (.int 0)) (SLo : Sta Z h0 "java/lang/StringUTF16" "LO_BYTE_SHIFT" "I" (.int 8)) (SC : Sta Z h0 "java/lang/String" "COMPACT_STRINGS" "Z" (.int cx)) (hcx : ¬ cx = 0) :
    Ctr l Z (⟨"java/lang/String", "<init>", "([C)V"⟩ : MethodName) jdk_42_method_3_code 2 none ({ frames := 5, cells := 2, slots := 12, locals := 74 } : Room) #[.ref a, .ref aS] h0 (fun v h L => ∃ b vs k, v = none ∧ Fr n0 L ∧ Keep h0 h [a] ∧ Fld Z h a "java/lang/String" "value" "[B" (.ref b) ∧ Fld Z h a "java/lang/String" "coder" "B" (.int k) ∧ Av Z h b .byte vs ∧ own_SV k vs cs ∧ h0.size ≤ b ∧ n0 ≤ b) := by
  refine Ctr.of pn_2 ?_
  intro p e s m below meth c T0 X0 B e0
  refine Go.cast (f' := mkF m 0 #[.val (.ref a), .val (.ref aS)] []) (by first | rfl | (simp [entryFrame, mkF, argsToLocals, Value.category, maxLocals]; done)) ?_

  refine g_aloadN X0 B d2_0 1 rfl rfl rfl ?_
  refine g_aloadN X0 B d2_1 2 rfl rfl rfl ?_
  refine g_iconst X0 B (0) d2_2 3 rfl rfl ?_
  refine g_aloadN X0 B d2_3 4 rfl rfl rfl ?_
  refine g_arrlen X0 B (Int32.ofNat cs.length) d2_4 5 rfl e0 AS (by rw [List.length_map]) ?_
  refine g_aconstNull X0 B d2_5 6 rfl ?_
  refine g_callN X0 B [.ref aS, .int (0 : Int32), .int (Int32.ofNat cs.length), .null] [] d2_6 9 rfl rfl rfl (hw _ (List.mem_of_getElem? (i := 12) rfl)) (hw _ (List.mem_of_getElem? (i := 13) rfl)) (hw _ (List.mem_of_getElem? (i := 15) rfl)) (hw _ (List.mem_of_getElem? (i := 7) rfl)) (by decide) (lenOf pd_3 rfl) (rS_i4 l Z ag hw a aS cs cx h0 n0 Z0 hn hp hcs ga Ea FV FC AS SA SH SLo SC hcx) e0 rfl 0 (Nat.le_of_eq rfl) (by decide) (by decide) (by decide) (by decide) (fun v1 T1 h1 L1 X1 e1 q1 => ?_)
  obtain ⟨b, vs, k, rfl, N1, K1, f1, f2, f3, f4, f5, f6⟩ := q1
  show Go p e below _ (T1.setTop (mkF m 9 #[.val (.ref a), .val (.ref aS)] []))
  exact g_retV X1 B d2_9 rfl (by decide) (by decide) e1 ⟨b, vs, k, rfl, ((Fr.nil n0).app N1), K1, f1, f2, f3, f4, f5, f6⟩
set_option maxRecDepth 65536 in
set_option maxHeartbeats 40000000 in
theorem rS_cod (l : Launch) (Z : State) (ag : Array Value) (hw : ∀ d ∈ tables_1, d.before ag Z = true) (a : Addr) (k cx : Int32) (h0 : Heap) (n0 : Nat) (FC : Fld Z h0 a "java/lang/String" "coder" "B" (.int k)) (hk : k = 0 ∨ k = 1) (SC : Sta Z h0 "java/lang/String" "COMPACT_STRINGS" "Z" (.int cx)) (hcx : ¬ cx = 0) :
    Ctr l Z (⟨"java/lang/String", "coder", "()B"⟩ : MethodName) jdk_42_method_152_code 1 (some .byte) ({ frames := 0, cells := 0, slots := 0, locals := 0 } : Room) #[.ref a] h0 (fun v h L => v = some (.int k) ∧ Fr n0 L ∧ h0 = h) := by
  refine Ctr.of pn_11 ?_
  intro p e s m below meth c T0 X0 B e0
  refine Go.cast (f' := mkF m 0 #[.val (.ref a)] []) (by first | rfl | (simp [entryFrame, mkF, argsToLocals, Value.category, maxLocals]; done)) ?_

  refine g_getS X0 B d11_0 3 rfl (hw _ (List.mem_of_getElem? (i := 76) rfl)) Via.refl e0 SC (fun T1 X1 e1 => ?_)
  refine g_if_eq X1 B d11_3 13 6 rfl (by decide) rfl (fun z => own_abs' (hcx) z) (fun _ => ?_)
  refine g_aloadN X1 B d11_6 7 rfl rfl rfl ?_
  refine g_getF X1 B d11_7 10 rfl (hw _ (List.mem_of_getElem? (i := 26) rfl)) Via.refl e1 FC (fun T2 X2 e2 => ?_)
  refine g_goto X2 B d11_10 14 rfl (by decide) ?_
  exact g_retN X2 B d11_14 rfl (own_kb hk) (by decide) (by decide) (by decide) e2 ⟨rfl, (Fr.nil n0), rfl⟩
set_option maxRecDepth 65536 in
set_option maxHeartbeats 40000000 in
theorem rS_lat (l : Launch) (Z : State) (ag : Array Value) (hw : ∀ d ∈ tables_1, d.before ag Z = true) (a : Addr) (k cx : Int32) (h0 : Heap) (n0 : Nat) (FC : Fld Z h0 a "java/lang/String" "coder" "B" (.int k)) (hk : k = 0 ∨ k = 1) (SC : Sta Z h0 "java/lang/String" "COMPACT_STRINGS" "Z" (.int cx)) (hcx : ¬ cx = 0) :
    Ctr l Z (⟨"java/lang/String", "isLatin1", "()Z"⟩ : MethodName) jdk_42_method_154_code 1 (some .boolean) ({ frames := 0, cells := 0, slots := 0, locals := 0 } : Room) #[.ref a] h0 (fun v h L => v = some (.int (if k = 0 then 1 else 0)) ∧ Fr n0 L ∧ h0 = h) := by
  refine Ctr.of pn_43 ?_
  intro p e s m below meth c T0 X0 B e0
  refine Go.cast (f' := mkF m 0 #[.val (.ref a)] []) (by first | rfl | (simp [entryFrame, mkF, argsToLocals, Value.category, maxLocals]; done)) ?_

  refine g_getS X0 B d43_0 3 rfl (hw _ (List.mem_of_getElem? (i := 76) rfl)) Via.refl e0 SC (fun T1 X1 e1 => ?_)
  refine g_if_eq X1 B d43_3 17 6 rfl (by decide) rfl (fun z => own_abs' (hcx) z) (fun _ => ?_)
  refine g_aloadN X1 B d43_6 7 rfl rfl rfl ?_
  refine g_getF X1 B d43_7 10 rfl (hw _ (List.mem_of_getElem? (i := 26) rfl)) Via.refl e1 FC (fun T2 X2 e2 => ?_)
  refine g_if_ne X2 B d43_10 17 13 rfl (by decide) rfl (fun c3 => ?_) (fun c3 => ?_)
  · skip
    refine g_iconst X2 B (0) d43_17 18 rfl rfl ?_
    exact g_retN X2 B d43_18 rfl rfl (by decide) (by decide) (by decide) e2 ⟨by simp [c3], (Fr.nil n0), rfl⟩
  · skip
    refine g_iconst X2 B (1) d43_13 14 rfl rfl ?_
    refine g_goto X2 B d43_14 18 rfl (by decide) ?_
    exact g_retN X2 B d43_18 rfl rfl (by decide) (by decide) (by decide) e2 ⟨by simp [c3], (Fr.nil n0), rfl⟩
set_option maxRecDepth 65536 in
set_option maxHeartbeats 40000000 in
theorem rS_len (l : Launch) (Z : State) (ag : Array Value) (hw : ∀ d ∈ tables_1, d.before ag Z = true) (a b : Addr) (k cx : Int32) (vs : List Value) (cs : List Int32) (h0 : Heap) (n0 : Nat) (Ea : Exa Z h0 a "java/lang/String") (FV : Fld Z h0 a "java/lang/String" "value" "[B" (.ref b)) (FC : Fld Z h0 a "java/lang/String" "coder" "B" (.int k)) (Ab : Av Z h0 b .byte vs) (hn : cs.length ≤ 4) (hSV : own_SV k vs cs) (SC : Sta Z h0 "java/lang/String" "COMPACT_STRINGS" "Z" (.int cx)) (hcx : ¬ cx = 0) :
    Ctr l Z (⟨"java/lang/String", "length", "()I"⟩ : MethodName) jdk_42_method_54_code 1 (some .int) ({ frames := 1, cells := 0, slots := 0, locals := 13 } : Room) #[.ref a] h0 (fun v h L => v = some (.int (Int32.ofNat cs.length)) ∧ Fr n0 L ∧ h0 = h) := by
  refine Ctr.of pn_10 ?_
  intro p e s m below meth c T0 X0 B e0
  refine Go.cast (f' := mkF m 0 #[.val (.ref a)] []) (by first | rfl | (simp [entryFrame, mkF, argsToLocals, Value.category, maxLocals]; done)) ?_

  refine g_aloadN X0 B d10_0 1 rfl rfl rfl ?_
  refine g_getF X0 B d10_1 4 rfl (hw _ (List.mem_of_getElem? (i := 25) rfl)) Via.refl e0 FV (fun T1 X1 e1 => ?_)
  refine g_arrlen X1 B (Int32.ofNat vs.length) d10_4 5 rfl e1 Ab rfl ?_
  refine g_aloadN X1 B d10_5 6 rfl rfl rfl ?_
  refine g_callV X1 B [] [.int (Int32.ofNat vs.length)] d10_6 9 rfl rfl (hw _ (List.mem_of_getElem? (i := 71) rfl)) (hw _ (List.mem_of_getElem? (i := 72) rfl)) (hw _ (List.mem_of_getElem? (i := 74) rfl)) (hw _ (List.mem_of_getElem? (i := 73) rfl)) (hw _ (List.mem_of_getElem? (i := 7) rfl)) (hw _ (List.mem_of_getElem? (i := 75) rfl)) (by decide) (lenOf pd_11 rfl) Ea (rS_cod l Z ag hw a k cx h0 n0 FC (own_SVk hSV) SC hcx) e1 rfl 1 (Nat.le_of_eq rfl) (by decide) (by decide) (by decide) (by decide) (fun v2 T2 h2 L2 X2 e2 q2 => ?_)
  obtain ⟨rfl, N2, rfl⟩ := q2
  show Go p e below _ (T2.setTop (mkF m 9 #[.val (.ref a)] [.int k, .int (Int32.ofNat vs.length)]))
  refine g_ishr X2 B d10_9 10 rfl ?_
  exact g_retI X2 B d10_10 rfl (by decide) (by decide) e2 ⟨by rw [own_SVlen hn hSV], ((Fr.nil n0).app N2), rfl⟩
theorem own_getL {c : Int32} (h : own_ch c) (h1 : ¬ 255 < c) : ((own_lo c) &&& (255 : Int32)).toUInt32.toUInt16.toUInt32.toInt32 = c := by
  obtain ⟨h0, h2⟩ := h
  rw [Int32.lt_iff_toInt_lt] at h1
  have k : (255 : Int32).toInt = 255 := by decide
  have a1 := c_i2b c
  have a4 := c_mask (own_lo c) 255 8 (by decide) (by decide)
  unfold own_lo at a4
  have b4 : (own_lo c &&& 255).toInt = c.toInt := by unfold own_lo; omega
  have a9 := c_i2c (own_lo c &&& 255)
  apply Int32.toInt_inj.mp
  omega
theorem own_Lfits {vs : List Value} {cs : List Int32} (h : own_L vs cs) : ∀ v ∈ vs, fits .byte v = true := by
  intro v hv
  obtain ⟨j, hj, e⟩ := List.mem_iff_getElem.mp hv
  obtain ⟨c, hc⟩ := own_ex (cs := cs) (i := j) (by rw [← h.1]; exact hj)
  have q := (h.2 j c (by rw [← h.1]; exact hj) hc).1
  rw [List.getElem?_eq_getElem hj, e] at q
  cases q
  exact fits_nar_byte c
theorem own_AvArv {Z : State} {h : Heap} {a : Addr} {ty : FieldType} {vs : List Value} {d : Value} (A : Av Z h a ty vs) (hf : ∀ v ∈ vs, fits ty v = true) (hn : vs.length < 2147483648) : ∃ k, Arv Z h a k ty (Int32.ofNat vs.length) vs d := by
  obtain ⟨c, A1, rfl⟩ := A
  refine ⟨c.cls, c, A1, rfl, by rw [own_tn hn]; simp, own_nn hn, fun i hi => ?_, fun i hi => ?_⟩
  · rw [List.getD, Array.getElem?_toList, Array.getElem?_eq_getElem hi]; rfl
  · have q : c.slots.toList.getD i d = c.slots[i] := by rw [List.getD, Array.getElem?_toList, Array.getElem?_eq_getElem hi]; rfl
    rw [q]
    exact hf _ (by simp)
theorem own_Ltake {vs : List Value} {cs : List Int32} {m : Nat} (h : own_L vs cs) (hm : m ≤ cs.length) : own_L ((List.range m).map fun i => vs.getD (0 + i) (.int 0)) (cs.take m) := by
  refine ⟨by simp; omega, fun j c hj hc => ?_⟩
  have hj' : j < m := by simp at hj; omega
  have hc' : cs[j]? = some c := by rw [List.getElem?_take_of_lt hj'] at hc; exact hc
  have q := h.2 j c (by omega) hc'
  refine ⟨?_, q.2⟩
  rw [List.getElem?_map, List.getElem?_range hj']
  simp only [Option.map_some, Nat.zero_add, List.getD, q.1, Option.getD_some]
theorem own_L0 {vs : List Value} : own_L [] [] := ⟨rfl, fun j c q => absurd q (Nat.not_lt_zero _)⟩

/-! own: further call and array steps (private methods of a superclass, super calls, arraycopy at an offset, clone) -/
section OwnSB
variable {p : Program} {l : Launch} {e : Env} {R : Room} {s : State} {m : MethodId} {args : Array Value} {below : List Frame} {meth : Method} {c : Code} {T : State} {locs : List Loc} {cells slots : Nat} {Z : State} {a0 : Array Value} {h : Heap} {P : State → Outcome → Prop} {pc : Nat} {Ls : Array Slot} {st : List Value} {own nm : String} {bytes : ByteArray} {maxL : Nat} {ret : Option FieldType}
theorem own_face {K : String} {y : MethodName} (w : (Jvm.Cond.selects K y y).before a0 Z = true) : ∃ ci k, Z.vm.findClass y.cls = some ci ∧ Z.vm.classes[ci]? = some k ∧ k.isInterface = false := by
  obtain ⟨c2, r2, m2, q1, q2, q3, q4, kP, hkP, hkPi⟩ := Cond.selects_spec w
  exact ⟨_, kP, findClass_of_methodNamed q3, hkP, hkPi⟩
theorem own_selP {K : String} {y : MethodName} (w : (Jvm.Cond.selects K y y).before a0 Z = true) (wi : (Jvm.Cond.instanceMethod y).before a0 Z = true) (wp : (Jvm.Cond.privateMethod y).before a0 Z = true) (hy : y.cls ≠ "java/lang/invoke/MethodHandle" ∧ y.cls ≠ "java/lang/invoke/VarHandle") : (Jvm.Cond.selects y.cls y y).before a0 Z = true := by
  obtain ⟨ci, k, h1, h2, h3⟩ := own_face w
  exact Jvm.Stand.selects_self_of_private h1 h2 h3 (Cond.privateMethod_at wp) wi hy
theorem own_same {K : String} {y' y : MethodName} (w : (Jvm.Cond.selects K y' y').before a0 Z = true) (hc : y'.cls = y.cls) (wi : (Jvm.Cond.instanceMethod y).before a0 Z = true) (hy : y.cls ≠ "java/lang/invoke/MethodHandle" ∧ y.cls ≠ "java/lang/invoke/VarHandle") : (Jvm.Cond.sameMethod y.cls y.cls y.name y.desc).before a0 Z = true := by
  obtain ⟨ci, k, h1, h2, h3⟩ := own_face w
  rw [hc] at h1
  obtain ⟨mk, methM, hnamed, hmethM, -, -⟩ := Cond.instanceMethod_spec wi
  have hfound : Z.methodFound? y.cls y.name y.desc = some mk := State.methodFound?_of_named hnamed hy
  simp only [Cond.before, Cond.holds, Cond.value, h1, hfound, hnamed, h2]
  simp; exact h3
theorem own_nface {K : String} {y' y : MethodName} (w : (Jvm.Cond.selects K y' y').before a0 Z = true) (hc : y'.cls = y.cls) : NotFace Z y := fun r0 h0 => by
  obtain ⟨ci, k, h1, h2, h3⟩ := own_face w
  rw [hc] at h1
  cases (findClass_of_methodNamed h0).symm.trans h1
  exact ⟨k, h2, h3⟩
theorem g_callVZ (X : Stand p l e R s m args below meth c T locs cells slots) (B : Bo Z p s m meth c own nm bytes maxL ret) {y z y' : MethodName} {by' : ByteArray} {mx : Nat} {rt : Option FieldType} {rm : Room} {Q : Option Value → Heap → List Loc → Prop} {index : Nat} {K : String} {a : Addr} (argsL rest : List Value) (q : decode bytes pc = .ok (.invokevirtual index, 3)) (pc' : Nat) (hp : pc + 3 = pc') (hst : st = argsL.reverse ++ .ref a :: rest) (w1 : (Jvm.Cond.methodLink own index y).before a0 Z = true) (w2 : (Jvm.Cond.declares y).before a0 Z = true) (wf : (Jvm.Cond.selects K y' y').before a0 Z = true) (hyc : y'.cls = y.cls) (w3 : (Jvm.Cond.selects K y z).before a0 Z = true) (w4 : (Jvm.Cond.instanceMethod z).before a0 Z = true) (w5 : (Jvm.Cond.initialized z.cls).before a0 Z = true) (w6 : (Jvm.Cond.code z by' mx rt).before a0 Z = true) (hy : y.cls ≠ "java/lang/invoke/MethodHandle" ∧ y.cls ≠ "java/lang/invoke/VarHandle") (hlen : ∀ sig, parseMethodDescriptor y.desc = some sig → argsL.length = sig.parameters.length) (E : Exa Z h a K) (C : Ctr l Z z by' mx rt rm (.ref a :: argsL).toArray h Q) (eT : T.heap = h) (hm : Ls.size = maxL) (W : Nat) (hW : (rest.map fun v => v.category).sum ≤ W) (hf : rm.frames + 1 ≤ R.frames) (hl : W + (mx + 11) + rm.locals ≤ R.locals) (hc : cells + rm.cells ≤ R.cells) (hs : slots + rm.slots ≤ R.slots) (k : ∀ v T' h' L', Stand p l e R s m args below meth c T' (locs ++ L') (cells + rm.cells) (slots + rm.slots) → T'.heap = h' → Q v h' L' → Go p e below P (T'.setTop (mkF m pc' Ls (v.toList ++ rest)))) : Go p e below P (T.setTop (mkF m pc Ls st)) := by
  subst hp hst
  obtain ⟨cq, kq, qa, qb, qc⟩ := isOf B.z eT E
  obtain ⟨v, _, ⟨T', L', k', n'⟩, -, X', ⟨Lc, hQ, l1, l2, l3⟩, q'⟩ := X.virtualBack B.x (y := y) (z := z) B.o (mvT B.z w1) (mvT B.z w2) (own_nface (a0 := #[]) (mvT B.z wf) hyc) (mvT B.z w3) (mvT B.z w4) hy (C.back (W := W) B.z w6 w5 hf hl) qa qc (g := mkF m pc Ls (argsL.reverse ++ .ref a :: rest)) rfl (B.mx hm) (Steps.refl _) (argsL := argsL) (rest := rest) hlen rfl (by show 2 * 0 + _ ≤ _; omega) (B.d q) (fun _ _ => ⟨rfl, eT, hc, hs⟩)
  dsimp only [Pt.U, Pt.locs, Pt.cells, Pt.slots] at X' l1 l2 l3 q' hQ
  subst l1 l2 l3
  exact (k v T' _ Lc X' rfl hQ).via fun _ => q'.trans
theorem g_callSup (X : Stand p l e R s m args below meth c T locs cells slots) (B : Bo Z p s m meth c own nm bytes maxL ret) {y y' : MethodName} {by' : ByteArray} {mx : Nat} {rt : Option FieldType} {rm : Room} {Q : Option Value → Heap → List Loc → Prop} {index : Nat} {K : String} {a : Addr} (argsL rest : List Value) (q : decode bytes pc = .ok (.invokespecial index, 3)) (pc' : Nat) (hp : pc + 3 = pc') (hst : st = argsL.reverse ++ .ref a :: rest) (w1 : (Jvm.Cond.methodLink own index y).before a0 Z = true) (wf : (Jvm.Cond.selects K y' y').before a0 Z = true) (hyc : y'.cls = y.cls) (w3 : (Jvm.Cond.instanceMethod y).before a0 Z = true) (w4 : (Jvm.Cond.superclass own y.cls).before a0 Z = true) (hn : y.name ≠ "<init>") (w5 : (Jvm.Cond.initialized y.cls).before a0 Z = true) (w6 : (Jvm.Cond.code y by' mx rt).before a0 Z = true) (hy : y.cls ≠ "java/lang/invoke/MethodHandle" ∧ y.cls ≠ "java/lang/invoke/VarHandle") (hlen : ∀ sig, parseMethodDescriptor y.desc = some sig → argsL.length = sig.parameters.length) (E : Exa Z h a K) (C : Ctr l Z y by' mx rt rm (.ref a :: argsL).toArray h Q) (eT : T.heap = h) (hm : Ls.size = maxL) (W : Nat) (hW : (rest.map fun v => v.category).sum ≤ W) (hf : rm.frames + 1 ≤ R.frames) (hl : W + (mx + 11) + rm.locals ≤ R.locals) (hc : cells + rm.cells ≤ R.cells) (hs : slots + rm.slots ≤ R.slots) (k : ∀ v T' h' L', Stand p l e R s m args below meth c T' (locs ++ L') (cells + rm.cells) (slots + rm.slots) → T'.heap = h' → Q v h' L' → Go p e below P (T'.setTop (mkF m pc' Ls (v.toList ++ rest)))) : Go p e below P (T.setTop (mkF m pc Ls st)) := by
  subst hp hst
  obtain ⟨v, _, ⟨T', L', k', n'⟩, -, X', ⟨Lc, hQ, l1, l2, l3⟩, q'⟩ := superBack X B.x B.z B.o w1 (own_same wf hyc w3 hy) w3 w4 hn (C.back (W := W) B.z w6 w5 hf hl) eT (Ins.self E) (g := mkF m pc Ls (argsL.reverse ++ .ref a :: rest)) rfl (B.mx hm) w6 (argsL := argsL) (rest := rest) hlen rfl (by show 2 * 0 + _ ≤ _; omega) (B.d q) (fun _ _ => ⟨rfl, eT, hc, hs⟩)
  dsimp only [Pt.U, Pt.locs, Pt.cells, Pt.slots] at X' l1 l2 l3 q' hQ
  subst l1 l2 l3
  exact (k v T' _ Lc X' rfl hQ).via fun _ => q'.trans
theorem g_cpyD (X : Stand p l e R s m args below meth c T locs cells slots) (B : Bo Z p s m meth c own nm bytes maxL ret) {index : Nat} {a b : Addr} {vs vd : List Value} (d j : Nat) (rest : List Value) (q : decode bytes pc = .ok (.invokestatic index, 3)) (pc' : Nat) (hp : pc + 3 = pc')
    (w1 : (Cond.methodLink own index Jvm.Stand.acN).before a0 Z = true) (w2 : (Cond.native Jvm.Stand.acN).before a0 Z = true) (w3 : (Cond.static Jvm.Stand.acN).before a0 Z = true) (w4 : (Cond.initialized "java/lang/System").before a0 Z = true) (eT : T.heap = h) (A : Av Z h a .byte vs) (D : Av Z h b .byte vd) (hf : ∀ v ∈ vs, fits .byte v = true) (hfd : ∀ v ∈ vd, fits .byte v = true) (hvl : vs.length < 2147483648) (hvd : vd.length < 2147483648) (hj : j ≤ vs.length) (hd : d + j ≤ vd.length) {n0 : Nat} (N : Fr n0 locs) (ge : n0 ≤ b) (hm : Ls.size = maxL) (hfr : 1 ≤ R.frames) (W : Nat) (hW : (rest.map fun v => v.category).sum ≤ W) (hlo : W + (nativeFrameWords "java/lang/System" "arraycopy" 5 + 11) ≤ R.locals)
    (k : ∀ T' h' L, Stand p l e R s m args below meth c T' L cells slots → T'.heap = h' → Fr n0 L → Keep h h' [b] → Av Z h' b .byte (vd.take d ++ vs.take j ++ vd.drop (d + j)) → Go p e below P (T'.setTop (mkF m pc' Ls rest))) :
    Go p e below P (T.setTop (mkF m pc Ls (.int (Int32.ofNat j) :: .int (Int32.ofNat d) :: .ref b :: .int 0 :: .ref a :: rest))) := by
  subst hp
  obtain ⟨k1, A1⟩ := own_AvArv (d := .int 0) A hf hvl
  obtain ⟨k2, D1⟩ := own_AvArv (d := .int 0) D hfd hvd
  have tj : (Int32.ofNat j).toNatClampNeg = j := own_tn (by omega)
  have tdd : (Int32.ofNat d).toNatClampNeg = d := own_tn (by omega)
  have tv : (Int32.ofNat vs.length).toNatClampNeg = vs.length := own_tn hvl
  have td : (Int32.ofNat vd.length).toNatClampNeg = vd.length := own_tn (by omega)
  have t0 : (0 : Int32).toNatClampNeg = 0 := by decide
  obtain ⟨T', h', L, X', eT', N', K, A', st⟩ := cpA X B.x B.z B.o w1 w2 w3 w4 eT A1 D1 (Or.inl ⟨rfl, rfl⟩) (sp := 0) (dp := Int32.ofNat d) (nn := Int32.ofNat j) (by decide) (own_nn (by omega)) (own_nn (by omega)) (by rw [tj, tv, t0]; omega) (by rw [tj, td, tdd]; omega) rfl (by rw [tj, tdd]; omega) N ge (g := mkF m pc Ls (.int (Int32.ofNat j) :: .int (Int32.ofNat d) :: .ref b :: .int 0 :: .ref a :: rest)) rfl (B.mx hm) rfl (B.d q) hfr (W := W) (by show 2 * 0 + _ ≤ _; omega) hlo
  rw [t0, tj, tdd] at A'
  have z : ((List.range j).map fun i => vs.getD (0 + i) (.int 0)) = vs.take j := by
    apply List.ext_getElem?
    intro i
    by_cases hi : i < j
    · rw [List.getElem?_map, List.getElem?_range hi, List.getElem?_take_of_lt hi, Option.map_some, Nat.zero_add, List.getD, List.getElem?_eq_getElem (by omega)]; rfl
    · rw [List.getElem?_eq_none (by simp; omega), List.getElem?_eq_none (by simp; omega)]
  rw [z] at A'
  exact (k T' h' L X' eT' N' K (own_Arv_Av A' (by rw [td]; simp; omega))).via st
theorem g_newPB (X : Stand p l e R s m args below meth c T locs cells slots) (B : Bo Z p s m meth c own nm bytes maxL ret) {n : Int32} (cap : Nat) (vs : List Value) (q : decode bytes pc = .ok (.newarray .byte, 2)) (pc' : Nat) (hp : pc + 2 = pc') (w : (Jvm.Cond.arrayClass FieldType.byte).before a0 Z = true) (eT : T.heap = h) (hn : ¬ n < 0) (hvs : List.replicate n.toNatClampNeg (.int 0) = vs) (hcap : vs.length ≤ cap) (hb : cap * 8 ≤ 536870912) (hc : cells + 1 ≤ R.cells) (hl : slots + cap ≤ R.slots) (k : ∀ T' h' a, Stand p l e R s m args below meth c T' locs (cells + 1) (slots + cap) → T'.heap = h' → a = h.size → Ext h h' → Av Z h' a .byte vs → Exa Z h' a "[B" → Go p e below P (T'.setTop (mkF m pc' Ls (.ref a :: st)))) : Go p e below P (T.setTop (mkF m pc Ls (.int n :: st))) := by
  subst hp
  obtain ⟨T', h', cA, X', e', E', A', F', q'⟩ := newPE X B.x B.z (aty := .byte) w eT (g := mkF m pc Ls (.int n :: st)) rfl (B.d q) rfl hn (cap := cap) (by rw [← hvs] at hcap; simpa using hcap) hb hc hl (ad := "[B") (by decide)
  exact (k T' h' _ X' e' rfl E' ⟨_, A', by rw [← hvs]; simp [newA, newarray.typeOf, defaultValue]⟩ F').via q'
theorem g_cloneB (X : Stand p l e R s m args below meth c T locs cells slots) (B : Bo Z p s m meth c own nm bytes maxL ret) {index : Nat} {a : Addr} {vs : List Value} (cap : Nat) (rest : List Value) (q : decode bytes pc = .ok (.invokevirtual index, 3)) (pc' : Nat) (hp : pc + 3 = pc')
    (w1 : (Cond.methodLink own index ⟨"[B", "clone", "()Ljava/lang/Object;"⟩).before a0 Z = true) (w2 : (Cond.sameMethod "[B" "java/lang/Object" "clone" "()Ljava/lang/Object;").before a0 Z = true) (w3 : (Cond.native ⟨"java/lang/Object", "clone", "()Ljava/lang/Object;"⟩).before a0 Z = true)
    (w4 : (Cond.instanceMethod ⟨"java/lang/Object", "clone", "()Ljava/lang/Object;"⟩).before a0 Z = true) (w5 : (Cond.selects "[B" ⟨"[B", "clone", "()Ljava/lang/Object;"⟩ ⟨"java/lang/Object", "clone", "()Ljava/lang/Object;"⟩).before a0 Z = true) (w6 : (Cond.castable "[B" "java/lang/Cloneable").before a0 Z = true)
    (eT : T.heap = h) (A : Av Z h a .byte vs) (E : Exa Z h a "[B") (hf : ∀ v ∈ vs, fits .byte v = true) (hm : Ls.size = maxL) (hfr : 1 ≤ R.frames) (W : Nat) (hW : (rest.map fun v => v.category).sum ≤ W) (hl : W + 14 ≤ R.locals) (hcap : vs.length ≤ cap) (hc : cells + 1 ≤ R.cells) (hsl : slots + cap ≤ R.slots)
    (k : ∀ T' h' b, Stand p l e R s m args below meth c T' locs (cells + 1) (slots + cap) → T'.heap = h' → b = h.size → Ext h h' → Av Z h' b .byte vs → Exa Z h' b "[B" → Go p e below P (T'.setTop (mkF m pc' Ls (.ref b :: rest)))) :
    Go p e below P (T.setTop (mkF m pc Ls (.ref a :: rest))) := by
  subst hp
  obtain ⟨cl, A1, rfl⟩ := A
  have FC : FitC Z cl := fitC_of A1 fun i hi v hv => hf v (by rw [← Array.getElem?_toList] at hv; exact List.mem_of_getElem? hv)
  obtain ⟨T', h', X', e', E', A', F', st⟩ := cloneA X B.x B.z B.o w1 w2 w3 w4 w5 w6 eT A1 E FC (g := mkF m pc Ls (.ref a :: rest)) rfl (B.mx hm) rfl (B.d q) hfr (W := W) (cap := cap) (by show 2 * 0 + _ ≤ _; omega) hl (by simpa using hcap) hc hsl
  exact (k T' h' _ X' e' rfl E' ⟨_, A', rfl⟩ F').via st
end OwnSB

theorem own_wS {ag : Array Value} {Z : State} (hw : ∀ d ∈ tables_1, d.before ag Z = true) : ∀ a ∈ Bundle.stringAtoms, a.before ag Z = true := by
  intro a ha
  simp only [Bundle.stringAtoms, List.mem_cons, List.not_mem_nil, or_false] at ha
  rcases ha with rfl | rfl | rfl | rfl | rfl | rfl | rfl
  · exact (hw _ (List.mem_of_getElem? (i := 7) rfl))
  · exact (hw _ (List.mem_of_getElem? (i := 6) rfl))
  · exact (hw _ (List.mem_of_getElem? (i := 20) rfl))
  · exact (hw _ (List.mem_of_getElem? (i := 21) rfl))
  · exact (hw _ (List.mem_of_getElem? (i := 22) rfl))
  · exact (hw _ (List.mem_of_getElem? (i := 23) rfl))
  · exact (hw _ (List.mem_of_getElem? (i := 24) rfl))
set_option maxRecDepth 65536 in
set_option maxHeartbeats 40000000 in
theorem rW_i4 (l : Launch) (Z : State) (ag : Array Value) (hw : ∀ d ∈ tables_1, d.before ag Z = true) (a aS : Addr) (h0 : Heap) (n0 : Nat) (Z0 : n0 ≤ h0.size) (ga : n0 ≤ a) (Ea : Exa Z h0 a "java/lang/String") (FV : Fld Z h0 a "java/lang/String" "value" "[B" (.null)) (FC : Fld Z h0 a "java/lang/String" "coder" "B" (.int 0)) (OZ : ∀ (b : Addr) (cl : Cell), Z.heap[b]? = some cl → h0[b]? = some cl) (hH : Jvm.Lit.constHeld Z "java/lang/String" 7) (hcw : Jvm.Lit.compactW.before ag Z = true) :
    CtrW l Z (⟨"java/lang/String", "<init>", "([CIILjava/lang/Void;)V"⟩ : MethodName) jdk_42_method_149_code 6 none ({ frames := 1, cells := 2, slots := 4, locals := 12 } : Room) #[.ref a, .ref aS, .int (0 : Int32), .int (0 : Int32), .null] h0 [] (fun v h vm L => ∃ b, v = none ∧ Fr n0 L ∧ Keep h0 h [a] ∧ Fld Z h a "java/lang/String" "value" "[B" (.ref b) ∧ Fld Z h a "java/lang/String" "coder" "B" (.int 0) ∧ Av Z h b .byte [] ∧ IB Z vm [""]) := by
  refine CtrW.of pn_3 ?_
  intro p e s m below meth c T0 X0 B e0 hs0 hS I
  refine Go.cast (f' := mkF m 0 #[.val (.ref a), .val (.ref aS), .val (.int (0 : Int32)), .val (.int (0 : Int32)), .val (.null), .unset] []) (by first | rfl | (simp [entryFrame, mkF, argsToLocals, Value.category, maxLocals]; done)) ?_

  refine g_aloadN X0 B d3_0 1 rfl rfl rfl ?_
  obtain ⟨T1, X1, e1, st1⟩ := initO X0 B.x B.z B.o (hw _ (List.mem_of_getElem? (i := 16) rfl)) (hw _ (List.mem_of_getElem? (i := 17) rfl)) (hw _ (List.mem_of_getElem? (i := 18) rfl)) e0 (g := mkF m 1 #[.val (.ref a), .val (.ref aS), .val (.int (0 : Int32)), .val (.int (0 : Int32)), .val (.null), .unset] [.ref a]) rfl (B.mx rfl) rfl (B.d d3_1) (by decide) (W := 0) (by show 2 * 0 + _ ≤ _; exact Nat.le_of_eq rfl) (by decide)
  refine Go.via st1 ?_
  show Go p e below _ (T1.setTop (mkF m 4 #[.val (.ref a), .val (.ref aS), .val (.int (0 : Int32)), .val (.int (0 : Int32)), .val (.null), .unset] []))
  refine g_iloadN X1 B d3_4 5 rfl rfl ?_
  refine g_if_ne X1 B d3_5 27 8 rfl (by decide) rfl (fun z => own_abs (rfl) z) (fun _ => ?_)
  refine g_aloadN X1 B d3_8 9 rfl rfl rfl ?_
  refine g_ldcS X1 B "" [] 0 0 d3_9 11 rfl (hw _ (List.mem_of_getElem? (i := 19) rfl)) (own_wS hw) e1 hS (Nat.zero_le _) (Fr.nil _) (by rw [hs0]; exact OZ) I (by simp) hH hcw (by decide) (by decide) (by decide) (by decide) (by decide) (by decide) (by decide) (fun ls T2 h2 lb X2 B e2 E2 hS I Li2 Ex2 C2 V2 Ab2 => ?_)
  have kk2 : h2.size ≤ h2.size := Nat.le_refl _
  have t1 := (Fld.ext E2 FV)
  have t2 : a ≠ ls := Fld.ne t1 V2 (by simp)
  refine g_getF X2 B d3_11 14 rfl (hw _ (List.mem_of_getElem? (i := 25) rfl)) Via.refl e2 V2 (fun T3 X3 e3 => ?_)
  have t3 := (Exa.ext E2 Ea)
  refine g_putF X3 B d3_14 17 rfl (hw _ (List.mem_of_getElem? (i := 25) rfl)) Via.refl e3 t1 t3 (Or.inr ⟨(hw _ (List.mem_of_getElem? (i := 21) rfl)), rfl, rfl⟩) (hw _ (List.mem_of_getElem? (i := 6) rfl)) (ty := (.array .byte)) (by decide) rfl rfl (fun T4 h4 X4 e4 W4 => ?_)
  have F4 := t1.same W4
  refine g_aloadN X4 B d3_17 18 rfl rfl rfl ?_
  refine g_ldcAgain X4 B d3_18 20 rfl (hw _ (List.mem_of_getElem? (i := 19) rfl)) Li2 ?_
  have t4 := (Fld.other W4 C2 (Or.inl (Ne.symm t2)))
  refine g_getF X4 B d3_20 23 rfl (hw _ (List.mem_of_getElem? (i := 26) rfl)) Via.refl e4 t4 (fun T5 X5 e5 => ?_)
  have t5 := (Fld.other W4 (Fld.ext E2 FC) (Or.inr (slot_ne (Or.inr (hw _ (List.mem_of_getElem? (i := 22) rfl))) (Or.inr (hw _ (List.mem_of_getElem? (i := 21) rfl))) (by decide) (t := .byte) (by decide) (t' := (.array .byte)) (by decide))))
  have t6 := (Exa.wr W4 t3)
  refine g_putF X5 B d3_23 26 rfl (hw _ (List.mem_of_getElem? (i := 26) rfl)) Via.refl e5 t5 t6 (Or.inr ⟨(hw _ (List.mem_of_getElem? (i := 22) rfl)), rfl, rfl⟩) (hw _ (List.mem_of_getElem? (i := 6) rfl)) (ty := .byte) (by decide) rfl rfl (fun T6 h6 X6 e6 W6 => ?_)
  have F6 := t5.same W6
  have t7 := (Keep.wr (Keep.wr (Keep.ext (Keep.refl h0 [a]) E2) W4 (Or.inl (List.mem_of_getElem? (i := 0) rfl))) W6 (Or.inl (List.mem_of_getElem? (i := 0) rfl)))
  have t8 := (Fld.other W6 F4 (Or.inr (slot_ne (Or.inr (hw _ (List.mem_of_getElem? (i := 21) rfl))) (Or.inr (hw _ (List.mem_of_getElem? (i := 22) rfl))) (by decide) (t := (.array .byte)) (by decide) (t' := .byte) (by decide))))
  have t9 : a ≠ lb := own_neAv t3 (hw _ (List.mem_of_getElem? (i := 6) rfl)) Ab2
  have t10 := (Av.other (Av.other Ab2 W4 (Ne.symm t9)) W6 (Ne.symm t9))
  have t11 := (Nat.le_trans (Nat.le_trans kk2 (Nat.le_of_eq W4.size.symm)) (Nat.le_of_eq W6.size.symm))
  exact g_retVW X6 B d3_26 rfl (by decide) (by decide) e6 hS t11 (fun vm hvm => ⟨lb, rfl, (Fr.snoc X6 (Fr.snoc X4 (Fr.nil n0) ga) ga), t7, t8, F6, t10, own_IBeq I hvm⟩)
set_option maxRecDepth 65536 in
set_option maxHeartbeats 40000000 in
theorem rW_i1 (l : Launch) (Z : State) (ag : Array Value) (hw : ∀ d ∈ tables_1, d.before ag Z = true) (a aS : Addr) (h0 : Heap) (n0 : Nat) (Z0 : n0 ≤ h0.size) (ga : n0 ≤ a) (Ea : Exa Z h0 a "java/lang/String") (FV : Fld Z h0 a "java/lang/String" "value" "[B" (.null)) (FC : Fld Z h0 a "java/lang/String" "coder" "B" (.int 0)) (OZ : ∀ (b : Addr) (cl : Cell), Z.heap[b]? = some cl → h0[b]? = some cl) (hH : Jvm.Lit.constHeld Z "java/lang/String" 7) (hcw : Jvm.Lit.compactW.before ag Z = true) (AS : Av Z h0 aS .char []) :
    CtrW l Z (⟨"java/lang/String", "<init>", "([C)V"⟩ : MethodName) jdk_42_method_3_code 2 none ({ frames := 2, cells := 2, slots := 4, locals := 29 } : Room) #[.ref a, .ref aS] h0 [] (fun v h vm L => ∃ b, v = none ∧ Fr n0 L ∧ Keep h0 h [a] ∧ Fld Z h a "java/lang/String" "value" "[B" (.ref b) ∧ Fld Z h a "java/lang/String" "coder" "B" (.int 0) ∧ Av Z h b .byte [] ∧ IB Z vm [""]) := by
  refine CtrW.of pn_2 ?_
  intro p e s m below meth c T0 X0 B e0 hs0 hS I
  refine Go.cast (f' := mkF m 0 #[.val (.ref a), .val (.ref aS)] []) (by first | rfl | (simp [entryFrame, mkF, argsToLocals, Value.category, maxLocals]; done)) ?_

  refine g_aloadN X0 B d2_0 1 rfl rfl rfl ?_
  refine g_aloadN X0 B d2_1 2 rfl rfl rfl ?_
  refine g_iconst X0 B (0) d2_2 3 rfl rfl ?_
  refine g_aloadN X0 B d2_3 4 rfl rfl rfl ?_
  refine g_arrlen X0 B 0 d2_4 5 rfl e0 AS rfl ?_
  refine g_aconstNull X0 B d2_5 6 rfl ?_
  refine g_callNW X0 B hS (Nat.zero_le _) I [.ref aS, .int (0 : Int32), .int (0 : Int32), .null] [] d2_6 9 rfl rfl rfl (hw _ (List.mem_of_getElem? (i := 12) rfl)) (hw _ (List.mem_of_getElem? (i := 13) rfl)) (hw _ (List.mem_of_getElem? (i := 15) rfl)) (hw _ (List.mem_of_getElem? (i := 7) rfl)) (by decide) (lenOf pd_3 rfl) (rW_i4 l Z ag hw a aS h0 n0 Z0 ga Ea FV FC OZ hH hcw) e0 rfl 0 (Nat.le_of_eq rfl) (by decide) (by decide) (by decide) (by decide) (fun v1 T1 h1 L1 X1 B e1 hS q1 => ?_)
  obtain ⟨lb, rfl, N1, K1, f1, f2, f3, I⟩ := q1
  show Go p e below _ (T1.setTop (mkF m 9 #[.val (.ref a), .val (.ref aS)] []))
  have kk1 : h1.size ≤ h1.size := Nat.le_refl _
  exact g_retVW X1 B d2_9 rfl (by decide) (by decide) e1 hS kk1 (fun vm hvm => ⟨lb, rfl, ((Fr.nil n0).app N1), K1, f1, f2, f3, own_IBeq I hvm⟩)
--CHAIN
theorem d63_0 : decode jdk_89_method_14_code 0 = .ok (.iload_n 0, 1) := by decide +kernel
theorem d63_1 : decode jdk_89_method_14_code 1 = .ok (.ldc 75, 2) := by decide +kernel
theorem d63_3 : decode jdk_89_method_14_code 3 = .ok (.if_icmp .lt 13, 3) := by decide +kernel
theorem d63_6 : decode jdk_89_method_14_code 6 = .ok (.iload_n 0, 1) := by decide +kernel
theorem d63_7 : decode jdk_89_method_14_code 7 = .ok (.ldc 76, 2) := by decide +kernel
theorem d63_9 : decode jdk_89_method_14_code 9 = .ok (.if_icmp .ge 7, 3) := by decide +kernel
theorem d63_12 : decode jdk_89_method_14_code 12 = .ok (.iconst 1, 1) := by decide +kernel
theorem d63_13 : decode jdk_89_method_14_code 13 = .ok (.goto 4, 3) := by decide +kernel
theorem d63_16 : decode jdk_89_method_14_code 16 = .ok (.iconst 0, 1) := by decide +kernel
theorem d63_17 : decode jdk_89_method_14_code 17 = .ok (.ireturn, 1) := by decide +kernel
theorem pn_63 : plainFor (⟨"java/lang/Character", "isHighSurrogate", "(C)Z"⟩ : MethodName) = true := by first | (apply plainFor_of_name; simp [plainName, overriddenIn]; done) | (apply plainFor_of_name; decide +kernel) | decide +kernel
theorem pd_63 : parseMethodDescriptor "(C)Z" = some ⟨[.char], (some .boolean)⟩ := by decide +kernel
theorem d64_0 : decode jdk_89_method_15_code 0 = .ok (.iload_n 0, 1) := by decide +kernel
theorem d64_1 : decode jdk_89_method_15_code 1 = .ok (.ldc 76, 2) := by decide +kernel
theorem d64_3 : decode jdk_89_method_15_code 3 = .ok (.if_icmp .lt 13, 3) := by decide +kernel
theorem d64_6 : decode jdk_89_method_15_code 6 = .ok (.iload_n 0, 1) := by decide +kernel
theorem d64_7 : decode jdk_89_method_15_code 7 = .ok (.ldc 77, 2) := by decide +kernel
theorem d64_9 : decode jdk_89_method_15_code 9 = .ok (.if_icmp .ge 7, 3) := by decide +kernel
theorem d64_12 : decode jdk_89_method_15_code 12 = .ok (.iconst 1, 1) := by decide +kernel
theorem d64_13 : decode jdk_89_method_15_code 13 = .ok (.goto 4, 3) := by decide +kernel
theorem d64_16 : decode jdk_89_method_15_code 16 = .ok (.iconst 0, 1) := by decide +kernel
theorem d64_17 : decode jdk_89_method_15_code 17 = .ok (.ireturn, 1) := by decide +kernel
theorem pn_64 : plainFor (⟨"java/lang/Character", "isLowSurrogate", "(C)Z"⟩ : MethodName) = true := by first | (apply plainFor_of_name; simp [plainName, overriddenIn]; done) | (apply plainFor_of_name; decide +kernel) | decide +kernel
theorem pd_64 : parseMethodDescriptor "(C)Z" = some ⟨[.char], (some .boolean)⟩ := by decide +kernel
theorem d42_0 : decode jdk_41_method_12_code 0 = .ok (.iload_n 0, 1) := by decide +kernel
theorem d42_1 : decode jdk_41_method_12_code 1 = .ok (.ifCond .lt 13, 3) := by decide +kernel
theorem d42_4 : decode jdk_41_method_12_code 4 = .ok (.iload_n 0, 1) := by decide +kernel
theorem d42_5 : decode jdk_41_method_12_code 5 = .ok (.iload_n 1, 1) := by decide +kernel
theorem d42_6 : decode jdk_41_method_12_code 6 = .ok (.if_icmp .gt 8, 3) := by decide +kernel
theorem d42_9 : decode jdk_41_method_12_code 9 = .ok (.iload_n 1, 1) := by decide +kernel
theorem d42_10 : decode jdk_41_method_12_code 10 = .ok (.iload_n 2, 1) := by decide +kernel
theorem d42_11 : decode jdk_41_method_12_code 11 = .ok (.if_icmp .le 11, 3) := by decide +kernel
theorem d42_14 : decode jdk_41_method_12_code 14 = .ok (.aload_n 3, 1) := by decide +kernel
theorem d42_15 : decode jdk_41_method_12_code 15 = .ok (.iload_n 0, 1) := by decide +kernel
theorem d42_16 : decode jdk_41_method_12_code 16 = .ok (.iload_n 1, 1) := by decide +kernel
theorem d42_17 : decode jdk_41_method_12_code 17 = .ok (.iload_n 2, 1) := by decide +kernel
theorem d42_18 : decode jdk_41_method_12_code 18 = .ok (.invokestatic 99, 3) := by decide +kernel
theorem d42_21 : decode jdk_41_method_12_code 21 = .ok (.athrow, 1) := by decide +kernel
theorem d42_22 : decode jdk_41_method_12_code 22 = .ok (.iload_n 0, 1) := by decide +kernel
theorem d42_23 : decode jdk_41_method_12_code 23 = .ok (.ireturn, 1) := by decide +kernel
theorem pn_42 : plainFor (⟨"jdk/internal/util/Preconditions", "checkFromToIndex", "(IIILjava/util/function/BiFunction;)I"⟩ : MethodName) = true := by first | (apply plainFor_of_name; simp [plainName, overriddenIn]; done) | (apply plainFor_of_name; decide +kernel) | decide +kernel
theorem pd_42 : parseMethodDescriptor "(IIILjava/util/function/BiFunction;)I" = some ⟨[.int, .int, .int, (.object "java/util/function/BiFunction")], (some .int)⟩ := by decide +kernel
theorem d41_0 : decode jdk_31_method_18_code 0 = .ok (.iload_n 0, 1) := by decide +kernel
theorem d41_1 : decode jdk_31_method_18_code 1 = .ok (.iload_n 1, 1) := by decide +kernel
theorem d41_2 : decode jdk_31_method_18_code 2 = .ok (.iload_n 2, 1) := by decide +kernel
theorem d41_3 : decode jdk_31_method_18_code 3 = .ok (.aconst_null, 1) := by decide +kernel
theorem d41_4 : decode jdk_31_method_18_code 4 = .ok (.invokestatic 111, 3) := by decide +kernel
theorem d41_7 : decode jdk_31_method_18_code 7 = .ok (.ireturn, 1) := by decide +kernel
theorem pn_41 : plainFor (⟨"java/util/Objects", "checkFromToIndex", "(III)I"⟩ : MethodName) = true := by first | (apply plainFor_of_name; simp [plainName, overriddenIn]; done) | (apply plainFor_of_name; decide +kernel) | decide +kernel
theorem pd_41 : parseMethodDescriptor "(III)I" = some ⟨[.int, .int, .int], (some .int)⟩ := by decide +kernel
theorem d62_0 : decode jdk_52_method_11_code 0 = .ok (.getstatic 44, 3) := by decide +kernel
theorem d62_3 : decode jdk_52_method_11_code 3 = .ok (.ifCond .ne 16, 3) := by decide +kernel
theorem d62_6 : decode jdk_52_method_11_code 6 = .ok (.iload_n 1, 1) := by decide +kernel
theorem d62_7 : decode jdk_52_method_11_code 7 = .ok (.iload_n 2, 1) := by decide +kernel
theorem d62_8 : decode jdk_52_method_11_code 8 = .ok (.if_icmp .le 11, 3) := by decide +kernel
theorem d62_11 : decode jdk_52_method_11_code 11 = .ok (.new 52, 3) := by decide +kernel
theorem d62_14 : decode jdk_52_method_11_code 14 = .ok (.dup, 1) := by decide +kernel
theorem d62_15 : decode jdk_52_method_11_code 15 = .ok (.invokespecial 66, 3) := by decide +kernel
theorem d62_18 : decode jdk_52_method_11_code 18 = .ok (.athrow, 1) := by decide +kernel
theorem d62_19 : decode jdk_52_method_11_code 19 = .ok (.iload_n 2, 1) := by decide +kernel
theorem d62_20 : decode jdk_52_method_11_code 20 = .ok (.iload_n 1, 1) := by decide +kernel
theorem d62_21 : decode jdk_52_method_11_code 21 = .ok (.isub, 1) := by decide +kernel
theorem d62_22 : decode jdk_52_method_11_code 22 = .ok (.istore 4, 2) := by decide +kernel
theorem d62_24 : decode jdk_52_method_11_code 24 = .ok (.iload_n 1, 1) := by decide +kernel
theorem d62_25 : decode jdk_52_method_11_code 25 = .ok (.istore 5, 2) := by decide +kernel
theorem d62_27 : decode jdk_52_method_11_code 27 = .ok (.iload_n 3, 1) := by decide +kernel
theorem d62_28 : decode jdk_52_method_11_code 28 = .ok (.ifCond .eq 16, 3) := by decide +kernel
theorem d62_31 : decode jdk_52_method_11_code 31 = .ok (.iload 5, 2) := by decide +kernel
theorem d62_33 : decode jdk_52_method_11_code 33 = .ok (.iload_n 2, 1) := by decide +kernel
theorem d62_34 : decode jdk_52_method_11_code 34 = .ok (.if_icmp .ge 10, 3) := by decide +kernel
theorem d62_37 : decode jdk_52_method_11_code 37 = .ok (.iload 5, 2) := by decide +kernel
theorem d62_39 : decode jdk_52_method_11_code 39 = .ok (.iload_n 2, 1) := by decide +kernel
theorem d62_40 : decode jdk_52_method_11_code 40 = .ok (.aload_n 0, 1) := by decide +kernel
theorem d62_41 : decode jdk_52_method_11_code 41 = .ok (.invokestatic 96, 3) := by decide +kernel
theorem d62_44 : decode jdk_52_method_11_code 44 = .ok (.iload 5, 2) := by decide +kernel
theorem d62_46 : decode jdk_52_method_11_code 46 = .ok (.iload_n 2, 1) := by decide +kernel
theorem d62_47 : decode jdk_52_method_11_code 47 = .ok (.iconst 1, 1) := by decide +kernel
theorem d62_48 : decode jdk_52_method_11_code 48 = .ok (.isub, 1) := by decide +kernel
theorem d62_49 : decode jdk_52_method_11_code 49 = .ok (.if_icmp .ge 39, 3) := by decide +kernel
theorem d62_52 : decode jdk_52_method_11_code 52 = .ok (.aload_n 0, 1) := by decide +kernel
theorem d62_53 : decode jdk_52_method_11_code 53 = .ok (.iload 5, 2) := by decide +kernel
theorem d62_55 : decode jdk_52_method_11_code 55 = .ok (.iinc 5 1, 3) := by decide +kernel
theorem d62_58 : decode jdk_52_method_11_code 58 = .ok (.invokestatic 71, 3) := by decide +kernel
theorem d62_61 : decode jdk_52_method_11_code 61 = .ok (.invokestatic 75, 3) := by decide +kernel
theorem d62_64 : decode jdk_52_method_11_code 64 = .ok (.ifCond .eq (-20), 3) := by decide +kernel
theorem d62_67 : decode jdk_52_method_11_code 67 = .ok (.aload_n 0, 1) := by decide +kernel
theorem d62_68 : decode jdk_52_method_11_code 68 = .ok (.iload 5, 2) := by decide +kernel
theorem d62_70 : decode jdk_52_method_11_code 70 = .ok (.invokestatic 71, 3) := by decide +kernel
theorem d62_73 : decode jdk_52_method_11_code 73 = .ok (.invokestatic 81, 3) := by decide +kernel
theorem d62_76 : decode jdk_52_method_11_code 76 = .ok (.ifCond .eq (-32), 3) := by decide +kernel
theorem d62_79 : decode jdk_52_method_11_code 79 = .ok (.iinc 4 (-1), 3) := by decide +kernel
theorem d62_82 : decode jdk_52_method_11_code 82 = .ok (.iinc 5 1, 3) := by decide +kernel
theorem d62_85 : decode jdk_52_method_11_code 85 = .ok (.goto (-41), 3) := by decide +kernel
theorem d62_88 : decode jdk_52_method_11_code 88 = .ok (.iload 4, 2) := by decide +kernel
theorem d62_90 : decode jdk_52_method_11_code 90 = .ok (.ireturn, 1) := by decide +kernel
theorem pn_62 : plainFor (⟨"java/lang/StringUTF16", "codePointCount", "([BIIZ)I"⟩ : MethodName) = true := by first | (apply plainFor_of_name; simp [plainName, overriddenIn]; done) | (apply plainFor_of_name; decide +kernel) | decide +kernel
theorem pd_62 : parseMethodDescriptor "([BIIZ)I" = some ⟨[(.array .byte), .int, .int, .boolean], (some .int)⟩ := by decide +kernel
theorem d61_0 : decode jdk_52_method_12_code 0 = .ok (.aload_n 0, 1) := by decide +kernel
theorem d61_1 : decode jdk_52_method_12_code 1 = .ok (.iload_n 1, 1) := by decide +kernel
theorem d61_2 : decode jdk_52_method_12_code 2 = .ok (.iload_n 2, 1) := by decide +kernel
theorem d61_3 : decode jdk_52_method_12_code 3 = .ok (.iconst 0, 1) := by decide +kernel
theorem d61_4 : decode jdk_52_method_12_code 4 = .ok (.invokestatic 100, 3) := by decide +kernel
theorem d61_7 : decode jdk_52_method_12_code 7 = .ok (.ireturn, 1) := by decide +kernel
theorem pn_61 : plainFor (⟨"java/lang/StringUTF16", "codePointCount", "([BII)I"⟩ : MethodName) = true := by first | (apply plainFor_of_name; simp [plainName, overriddenIn]; done) | (apply plainFor_of_name; decide +kernel) | decide +kernel
theorem pd_61 : parseMethodDescriptor "([BII)I" = some ⟨[(.array .byte), .int, .int], (some .int)⟩ := by decide +kernel
theorem d40_0 : decode jdk_42_method_59_code 0 = .ok (.iload_n 1, 1) := by decide +kernel
theorem d40_1 : decode jdk_42_method_59_code 1 = .ok (.iload_n 2, 1) := by decide +kernel
theorem d40_2 : decode jdk_42_method_59_code 2 = .ok (.aload_n 0, 1) := by decide +kernel
theorem d40_3 : decode jdk_42_method_59_code 3 = .ok (.invokevirtual 505, 3) := by decide +kernel
theorem d40_6 : decode jdk_42_method_59_code 6 = .ok (.invokestatic 511, 3) := by decide +kernel
theorem d40_9 : decode jdk_42_method_59_code 9 = .ok (.pop, 1) := by decide +kernel
theorem d40_10 : decode jdk_42_method_59_code 10 = .ok (.aload_n 0, 1) := by decide +kernel
theorem d40_11 : decode jdk_42_method_59_code 11 = .ok (.invokevirtual 492, 3) := by decide +kernel
theorem d40_14 : decode jdk_42_method_59_code 14 = .ok (.ifCond .eq 7, 3) := by decide +kernel
theorem d40_17 : decode jdk_42_method_59_code 17 = .ok (.iload_n 2, 1) := by decide +kernel
theorem d40_18 : decode jdk_42_method_59_code 18 = .ok (.iload_n 1, 1) := by decide +kernel
theorem d40_19 : decode jdk_42_method_59_code 19 = .ok (.isub, 1) := by decide +kernel
theorem d40_20 : decode jdk_42_method_59_code 20 = .ok (.ireturn, 1) := by decide +kernel
theorem d40_21 : decode jdk_42_method_59_code 21 = .ok (.aload_n 0, 1) := by decide +kernel
theorem d40_22 : decode jdk_42_method_59_code 22 = .ok (.getfield 9, 3) := by decide +kernel
theorem d40_25 : decode jdk_42_method_59_code 25 = .ok (.iload_n 1, 1) := by decide +kernel
theorem d40_26 : decode jdk_42_method_59_code 26 = .ok (.iload_n 2, 1) := by decide +kernel
theorem d40_27 : decode jdk_42_method_59_code 27 = .ok (.invokestatic 514, 3) := by decide +kernel
theorem d40_30 : decode jdk_42_method_59_code 30 = .ok (.ireturn, 1) := by decide +kernel
theorem pn_40 : plainFor (⟨"java/lang/String", "codePointCount", "(II)I"⟩ : MethodName) = true := by first | (apply plainFor_of_name; simp [plainName, overriddenIn]; done) | (apply plainFor_of_name; decide +kernel) | decide +kernel
theorem pd_40 : parseMethodDescriptor "(II)I" = some ⟨[.int, .int], (some .int)⟩ := by decide +kernel
def own_hs (c : Int32) : Prop := ¬ c < 55296 ∧ c < 56320
def own_ls (c : Int32) : Prop := ¬ c < 56320 ∧ c < 57344
instance (c : Int32) : Decidable (own_hs c) := by unfold own_hs; exact inferInstance
instance (c : Int32) : Decidable (own_ls c) := by unfold own_ls; exact inferInstance
def own_pr (cs : List Int32) (j : Nat) : Nat := if own_hs (cs.getD j 0) ∧ own_ls (cs.getD (j + 1) 0) then 1 else 0
def own_ps (cs : List Int32) : Nat → Nat
  | 0 => 0
  | j + 1 => own_ps cs j + own_pr cs j
theorem own_psS (cs : List Int32) (j : Nat) : own_ps cs (j + 1) = own_ps cs j + own_pr cs j := rfl
theorem own_ps_le (cs : List Int32) : ∀ j, own_ps cs j ≤ j
  | 0 => Nat.le_refl _
  | j + 1 => by
    have h := own_ps_le cs j
    rw [own_psS]
    unfold own_pr
    split <;> omega
theorem own_gd {cs : List Int32} {i : Nat} {c : Int32} (h : cs[i]? = some c) : cs.getD i 0 = c := by simp [List.getD, h]
theorem own_hl {c : Int32} (h : own_ls c) : ¬ own_hs c := fun q => h.1 q.2
theorem own_psL {cs : List Int32} (h : ∀ (j : Nat) (c : Int32), cs[j]? = some c → ¬ 255 < c) : ∀ j, own_ps cs j = 0
  | 0 => rfl
  | j + 1 => by
    rw [own_psS, own_psL h j]
    unfold own_pr
    rw [if_neg]
    rintro ⟨⟨q, -⟩, -⟩
    cases hc : cs[j]? with
    | none =>
      rw [show cs.getD j 0 = 0 by simp [List.getD, hc]] at q
      exact q (by decide)
    | some c =>
      rw [own_gd hc] at q
      have q1 := h j c hc
      rw [Int32.lt_iff_toInt_lt] at q q1
      have k1 : (255 : Int32).toInt = 255 := by decide
      have k2 : (55296 : Int32).toInt = 55296 := by decide
      omega
theorem own_m1 {m : Nat} (h : m + 1 < 2147483648) : Int32.ofNat (m + 1) + (-1) = Int32.ofNat m := by
  apply Int32.toInt_inj.mp
  have h1 := c_iadd (Int32.ofNat (m + 1)) (-1)
  have h2 := rng32 (Int32.ofNat (m + 1) + (-1))
  have h3 : (-1 : Int32).toInt = -1 := by decide
  rw [own_ti h] at h1
  rw [own_ti (by omega)]
  omega
theorem own_sub0 (x : Int32) : x - (0 : Int32) = x := by simp
theorem own_ltm1 {i K : Nat} (hi : i ≤ 8) (hK : K ≤ 8) : (Int32.ofNat i < Int32.ofNat K - (1 : Int32)) ↔ i + 1 < K := by
  have h1 := c_isub (Int32.ofNat K) 1
  have h2 := rng32 (Int32.ofNat K - 1)
  have h3 : (1 : Int32).toInt = 1 := by decide
  rw [own_ti (by omega)] at h1
  rw [Int32.lt_iff_toInt_lt, own_ti (by omega)]
  omega
theorem own_if1 {P : Prop} [Decidable P] (h : ¬ (if P then (1 : Int32) else 0) = 0) : P := by
  by_cases p : P
  · exact p
  · exact absurd (if_neg p) h
theorem own_if0 {P : Prop} [Decidable P] (h : (if P then (1 : Int32) else 0) = 0) : ¬ P := fun p => by
  rw [if_pos p] at h; exact absurd h (by decide)
theorem own_cpE {cs : List Int32} {K i : Nat} (q : own_ps cs i = own_ps cs (K - 1)) : some (Value.int (Int32.ofNat (K - own_ps cs i))) = some (Value.int (Int32.ofNat (K - own_ps cs (K - 1)))) := by rw [q]

set_option maxRecDepth 65536 in
set_option maxHeartbeats 40000000 in
theorem rC_isHighSurrogate (l : Launch) (Z : State) (ag : Array Value) (hw : ∀ d ∈ tables_1, d.before ag Z = true) (x : Int32) (h0 : Heap) (n0 : Nat)  :
    Ctr l Z (⟨"java/lang/Character", "isHighSurrogate", "(C)Z"⟩ : MethodName) jdk_89_method_14_code 1 (some .boolean) ({ frames := 0, cells := 0, slots := 0, locals := 0 } : Room) #[.int x] h0 (fun v h L => v = some (.int (if own_hs x then 1 else 0)) ∧ Fr n0 L ∧ h0 = h) := by
  refine Ctr.of pn_63 ?_
  intro p e s m below meth c T0 X0 B e0
  refine Go.cast (f' := mkF m 0 #[.val (.int x)] []) (by first | rfl | (simp [entryFrame, mkF, argsToLocals, Value.category, maxLocals]; done)) ?_

  refine g_iloadN X0 B d63_0 1 rfl rfl ?_
  refine g_ldcI X0 B d63_1 3 rfl (hw _ (List.mem_of_getElem? (i := 309) rfl)) ?_
  refine g_icmp_lt X0 B d63_3 16 6 rfl (by decide) rfl (fun c1 => ?_) (fun c1 => ?_)
  · skip
    refine g_iconst X0 B (0) d63_16 17 rfl rfl ?_
    exact g_retN X0 B d63_17 rfl rfl (by decide) (by decide) (by decide) e0 ⟨by simp [own_hs, c1], (Fr.nil n0), rfl⟩
  · skip
    refine g_iloadN X0 B d63_6 7 rfl rfl ?_
    refine g_ldcI X0 B d63_7 9 rfl (hw _ (List.mem_of_getElem? (i := 310) rfl)) ?_
    refine g_icmp_ge X0 B d63_9 16 12 rfl (by decide) rfl (fun c2 => ?_) (fun c2 => ?_)
    · skip
      refine g_iconst X0 B (0) d63_16 17 rfl rfl ?_
      exact g_retN X0 B d63_17 rfl rfl (by decide) (by decide) (by decide) e0 ⟨by simp [own_hs, c1, c2], (Fr.nil n0), rfl⟩
    · skip
      refine g_iconst X0 B (1) d63_12 13 rfl rfl ?_
      refine g_goto X0 B d63_13 17 rfl (by decide) ?_
      exact g_retN X0 B d63_17 rfl rfl (by decide) (by decide) (by decide) e0 ⟨by simp [own_hs, c1, c2], (Fr.nil n0), rfl⟩
set_option maxRecDepth 65536 in
set_option maxHeartbeats 40000000 in
theorem rC_isLowSurrogate (l : Launch) (Z : State) (ag : Array Value) (hw : ∀ d ∈ tables_1, d.before ag Z = true) (x : Int32) (h0 : Heap) (n0 : Nat)  :
    Ctr l Z (⟨"java/lang/Character", "isLowSurrogate", "(C)Z"⟩ : MethodName) jdk_89_method_15_code 1 (some .boolean) ({ frames := 0, cells := 0, slots := 0, locals := 0 } : Room) #[.int x] h0 (fun v h L => v = some (.int (if own_ls x then 1 else 0)) ∧ Fr n0 L ∧ h0 = h) := by
  refine Ctr.of pn_64 ?_
  intro p e s m below meth c T0 X0 B e0
  refine Go.cast (f' := mkF m 0 #[.val (.int x)] []) (by first | rfl | (simp [entryFrame, mkF, argsToLocals, Value.category, maxLocals]; done)) ?_

  refine g_iloadN X0 B d64_0 1 rfl rfl ?_
  refine g_ldcI X0 B d64_1 3 rfl (hw _ (List.mem_of_getElem? (i := 310) rfl)) ?_
  refine g_icmp_lt X0 B d64_3 16 6 rfl (by decide) rfl (fun c1 => ?_) (fun c1 => ?_)
  · skip
    refine g_iconst X0 B (0) d64_16 17 rfl rfl ?_
    exact g_retN X0 B d64_17 rfl rfl (by decide) (by decide) (by decide) e0 ⟨by simp [own_ls, c1], (Fr.nil n0), rfl⟩
  · skip
    refine g_iloadN X0 B d64_6 7 rfl rfl ?_
    refine g_ldcI X0 B d64_7 9 rfl (hw _ (List.mem_of_getElem? (i := 324) rfl)) ?_
    refine g_icmp_ge X0 B d64_9 16 12 rfl (by decide) rfl (fun c2 => ?_) (fun c2 => ?_)
    · skip
      refine g_iconst X0 B (0) d64_16 17 rfl rfl ?_
      exact g_retN X0 B d64_17 rfl rfl (by decide) (by decide) (by decide) e0 ⟨by simp [own_ls, c1, c2], (Fr.nil n0), rfl⟩
    · skip
      refine g_iconst X0 B (1) d64_12 13 rfl rfl ?_
      refine g_goto X0 B d64_13 17 rfl (by decide) ?_
      exact g_retN X0 B d64_17 rfl rfl (by decide) (by decide) (by decide) e0 ⟨by simp [own_ls, c1, c2], (Fr.nil n0), rfl⟩
set_option maxRecDepth 65536 in
set_option maxHeartbeats 40000000 in
theorem rC_pcf (l : Launch) (Z : State) (ag : Array Value) (hw : ∀ d ∈ tables_1, d.before ag Z = true) (f t z : Int32) (h0 : Heap) (n0 : Nat) (f1 : ¬ f < 0) (f2 : ¬ t < f) (f3 : ¬ z < t) :
    Ctr l Z (⟨"jdk/internal/util/Preconditions", "checkFromToIndex", "(IIILjava/util/function/BiFunction;)I"⟩ : MethodName) jdk_41_method_12_code 4 (some .int) ({ frames := 0, cells := 0, slots := 0, locals := 0 } : Room) #[.int f, .int t, .int z, .null] h0 (fun v h L => v = some (.int f) ∧ Fr n0 L ∧ h0 = h) := by
  refine Ctr.of pn_42 ?_
  intro p e s m below meth c T0 X0 B e0
  refine Go.cast (f' := mkF m 0 #[.val (.int f), .val (.int t), .val (.int z), .val (.null)] []) (by first | rfl | (simp [entryFrame, mkF, argsToLocals, Value.category, maxLocals]; done)) ?_

  refine g_iloadN X0 B d42_0 1 rfl rfl ?_
  refine g_if_lt X0 B d42_1 14 4 rfl (by decide) rfl (fun z => own_abs' (f1) z) (fun _ => ?_)
  refine g_iloadN X0 B d42_4 5 rfl rfl ?_
  refine g_iloadN X0 B d42_5 6 rfl rfl ?_
  refine g_icmp_gt X0 B d42_6 14 9 rfl (by decide) rfl (fun z => own_abs' (f2) z) (fun _ => ?_)
  refine g_iloadN X0 B d42_9 10 rfl rfl ?_
  refine g_iloadN X0 B d42_10 11 rfl rfl ?_
  refine g_icmp_le X0 B d42_11 22 14 rfl (by decide) rfl (fun _ => ?_) (fun z => own_abs' (f3) z)
  refine g_iloadN X0 B d42_22 23 rfl rfl ?_
  exact g_retI X0 B d42_23 rfl (by decide) (by decide) e0 ⟨rfl, (Fr.nil n0), rfl⟩
set_option maxRecDepth 65536 in
set_option maxHeartbeats 40000000 in
theorem rC_ocf (l : Launch) (Z : State) (ag : Array Value) (hw : ∀ d ∈ tables_1, d.before ag Z = true) (f t z : Int32) (h0 : Heap) (n0 : Nat) (f1 : ¬ f < 0) (f2 : ¬ t < f) (f3 : ¬ z < t) :
    Ctr l Z (⟨"java/util/Objects", "checkFromToIndex", "(III)I"⟩ : MethodName) jdk_31_method_18_code 3 (some .int) ({ frames := 1, cells := 0, slots := 0, locals := 15 } : Room) #[.int f, .int t, .int z] h0 (fun v h L => v = some (.int f) ∧ Fr n0 L ∧ h0 = h) := by
  refine Ctr.of pn_41 ?_
  intro p e s m below meth c T0 X0 B e0
  refine Go.cast (f' := mkF m 0 #[.val (.int f), .val (.int t), .val (.int z)] []) (by first | rfl | (simp [entryFrame, mkF, argsToLocals, Value.category, maxLocals]; done)) ?_

  refine g_iloadN X0 B d41_0 1 rfl rfl ?_
  refine g_iloadN X0 B d41_1 2 rfl rfl ?_
  refine g_iloadN X0 B d41_2 3 rfl rfl ?_
  refine g_aconstNull X0 B d41_3 4 rfl ?_
  refine g_callS X0 B [.int f, .int t, .int z, .null] [] d41_4 7 rfl rfl (hw _ (List.mem_of_getElem? (i := 224) rfl)) (hw _ (List.mem_of_getElem? (i := 225) rfl)) (hw _ (List.mem_of_getElem? (i := 226) rfl)) (hw _ (List.mem_of_getElem? (i := 227) rfl)) (by decide) (lenOf pd_42 rfl) (rC_pcf l Z ag hw f t z h0 n0 f1 f2 f3) e0 rfl 0 (Nat.le_of_eq rfl) (by decide) (by decide) (by decide) (by decide) (fun v1 T1 h1 L1 X1 e1 q1 => ?_)
  obtain ⟨rfl, N1, rfl⟩ := q1
  show Go p e below _ (T1.setTop (mkF m 7 #[.val (.int f), .val (.int t), .val (.int z)] [.int f]))
  exact g_retI X1 B d41_7 rfl (by decide) (by decide) e1 ⟨rfl, ((Fr.nil n0).app N1), rfl⟩
def own_QP (h0 : Heap) (n0 : Nat) (cs : List Int32) (K : Nat) (v : Option Value) (h : Heap) (L : List Loc) : Prop := v = some (.int (Int32.ofNat (K - own_ps cs (K - 1)))) ∧ Fr n0 L ∧ h0 = h
set_option maxRecDepth 65536 in
set_option maxHeartbeats 40000000 in
theorem rC_c4 (l : Launch) (Z : State) (ag : Array Value) (hw : ∀ d ∈ tables_1, d.before ag Z = true) (b : Addr) (us : List Value) (cs : List Int32) (K : Nat) (h0 : Heap) (n0 : Nat) (Ab : Av Z h0 b .byte us) (hn : cs.length ≤ 4) (hK : K ≤ cs.length) (hU : own_U us cs) (hcs : ∀ c ∈ cs, own_ch c) (SA : Sta Z h0 "java/lang/StringUTF16" "$assertionsDisabled" "Z" (.int 1)) (SH : Sta Z h0 "java/lang/StringUTF16" "HI_BYTE_SHIFT" "I" (.int 0)) (SLo : Sta Z h0 "java/lang/StringUTF16" "LO_BYTE_SHIFT" "I" (.int 8)) :
    Ctr l Z (⟨"java/lang/StringUTF16", "codePointCount", "([BIIZ)I"⟩ : MethodName) jdk_52_method_11_code 6 (some .int) ({ frames := 1, cells := 0, slots := 0, locals := 13 } : Room) #[.ref b, .int (0 : Int32), .int (Int32.ofNat K), .int (0 : Int32)] h0 (own_QP h0 n0 cs K) := by
  refine Ctr.of pn_62 ?_
  intro p e s m below meth c T0 X0 B e0
  refine Go.cast (f' := mkF m 0 #[.val (.ref b), .val (.int (0 : Int32)), .val (.int (Int32.ofNat K)), .val (.int (0 : Int32)), .unset, .unset] []) (by first | rfl | (simp [entryFrame, mkF, argsToLocals, Value.category, maxLocals]; done)) ?_

  refine g_getS X0 B d62_0 3 rfl (hw _ (List.mem_of_getElem? (i := 282) rfl)) Via.refl e0 SA (fun T1 X1 e1 => ?_)
  refine g_if_ne X1 B d62_3 19 6 rfl (by decide) rfl (fun _ => ?_) (fun z => own_abs' (by decide) z)
  refine g_iloadN X1 B d62_19 20 rfl rfl ?_
  refine g_iloadN X1 B d62_20 21 rfl rfl ?_
  refine g_isub X1 B d62_21 22 rfl ?_
  rw [own_sub0]
  refine g_istore X1 B #[.val (.ref b), .val (.int (0 : Int32)), .val (.int (Int32.ofNat K)), .val (.int (0 : Int32)), .val (.int (Int32.ofNat K)), .unset] d62_22 24 rfl rfl ?_
  refine g_iloadN X1 B d62_24 25 rfl rfl ?_
  refine g_istore X1 B #[.val (.ref b), .val (.int (0 : Int32)), .val (.int (Int32.ofNat K)), .val (.int (0 : Int32)), .val (.int (Int32.ofNat K)), .val (.int (0 : Int32))] d62_25 27 rfl rfl ?_
  refine g_iloadN X1 B d62_27 28 rfl rfl ?_
  refine g_if_eq X1 B d62_28 44 31 rfl (by decide) rfl (fun _ => ?_) (fun z => own_abs (rfl) z)
  have loop : ∀ (f i : Nat) (T : State) (Lo : List Loc), K ≤ i + f → i ≤ K → (i ≤ K - 1 ∨ own_ps cs i = own_ps cs (K - 1)) → Stand p l e ({ frames := 1, cells := 0, slots := 0, locals := 13 } : Room) s m #[.ref b, .int (0 : Int32), .int (Int32.ofNat K), .int (0 : Int32)] below meth c T Lo 0 0 → T.heap = h0 → Fr n0 Lo → Go p e below (EndsQ s (own_QP h0 n0 cs K) ({ frames := 1, cells := 0, slots := 0, locals := 13 } : Room).cells ({ frames := 1, cells := 0, slots := 0, locals := 13 } : Room).slots) (T.setTop (mkF m 44 #[.val (.ref b), .val (.int (0 : Int32)), .val (.int (Int32.ofNat K)), .val (.int (0 : Int32)), .val (.int (Int32.ofNat (K - own_ps cs i))), .val (.int (Int32.ofNat i))] [])) := by
    intro f
    induction f with
    | zero =>
      intro i T Lo hf hi hj X eh N
      refine g_iload X B d62_44 46 rfl rfl ?_
      refine g_iloadN X B d62_46 47 rfl rfl ?_
      refine g_iconst X B (1) d62_47 48 rfl rfl ?_
      refine g_isub X B d62_48 49 rfl ?_
      refine g_icmp_ge X B d62_49 88 52 rfl (by decide) rfl (fun _ => ?_) (fun z => own_abs' (fun z => absurd ((own_ltm1 (by omega) (by omega)).mp z) (by omega)) z)
      refine g_iload X B d62_88 90 rfl rfl ?_
      exact g_retI X B d62_90 rfl (by decide) (by decide) eh ⟨own_cpE (hj.elim (fun z => by rw [show i = K - 1 by omega]) id), N, rfl⟩
    | succ f ih =>
      intro i T Lo hf hi hj X eh N
      by_cases hlt : i + 1 < K
      · obtain ⟨c0, hc0⟩ := own_ex (cs := cs) (i := i) (by omega)
        obtain ⟨c1, hc1⟩ := own_ex (cs := cs) (i := i + 1) (by omega)
        have ple := own_ps_le cs i
        refine g_iload X B d62_44 46 rfl rfl ?_
        refine g_iloadN X B d62_46 47 rfl rfl ?_
        refine g_iconst X B (1) d62_47 48 rfl rfl ?_
        refine g_isub X B d62_48 49 rfl ?_
        refine g_icmp_ge X B d62_49 88 52 rfl (by decide) rfl (fun z => own_abs ((own_ltm1 (by omega) (by omega)).mpr hlt) z) (fun _ => ?_)
        refine g_aloadN X B d62_52 53 rfl rfl rfl ?_
        refine g_iload X B d62_53 55 rfl rfl ?_
        refine g_iinc X B #[.val (.ref b), .val (.int (0 : Int32)), .val (.int (Int32.ofNat K)), .val (.int (0 : Int32)), .val (.int (Int32.ofNat (K - own_ps cs i))), .val (.int ((Int32.ofNat i) + (1)))] (1) d62_55 58 rfl rfl rfl rfl ?_
        rw [own_s1 (by omega)]
        refine g_callS X B [.ref b, .int (Int32.ofNat i)] [] d62_58 61 rfl rfl (hw _ (List.mem_of_getElem? (i := 285) rfl)) (hw _ (List.mem_of_getElem? (i := 286) rfl)) (hw _ (List.mem_of_getElem? (i := 264) rfl)) (hw _ (List.mem_of_getElem? (i := 287) rfl)) (by decide) (lenOf pd_57 rfl) (rS_get l Z ag hw b (i) c0 us h0 n0 Ab (by rw [hU.1]; omega) (hU.2 _ c0 (by omega) hc0).1 (hU.2 _ c0 (by omega) hc0).2 (hcs c0 (List.mem_of_getElem? hc0)) SA SH SLo) eh rfl 0 (Nat.le_of_eq rfl) (by decide) (by decide) (by decide) (by decide) (fun v1 T1 h1 L1 X1 e1 q1 => ?_)
        obtain ⟨rfl, N1, rfl⟩ := q1
        show Go p e below _ (T1.setTop (mkF m 61 #[.val (.ref b), .val (.int (0 : Int32)), .val (.int (Int32.ofNat K)), .val (.int (0 : Int32)), .val (.int (Int32.ofNat (K - own_ps cs i))), .val (.int (Int32.ofNat (i + 1)))] [.int c0]))
        refine g_callS X1 B [.int c0] [] d62_61 64 rfl rfl (hw _ (List.mem_of_getElem? (i := 305) rfl)) (hw _ (List.mem_of_getElem? (i := 306) rfl)) (hw _ (List.mem_of_getElem? (i := 307) rfl)) (hw _ (List.mem_of_getElem? (i := 308) rfl)) (by decide) (lenOf pd_63 rfl) (rC_isHighSurrogate l Z ag hw c0 h0 n0) e1 rfl 0 (Nat.le_of_eq rfl) (by decide) (by decide) (by decide) (by decide) (fun v2 T2 h2 L2 X2 e2 q2 => ?_)
        obtain ⟨rfl, N2, rfl⟩ := q2
        show Go p e below _ (T2.setTop (mkF m 64 #[.val (.ref b), .val (.int (0 : Int32)), .val (.int (Int32.ofNat K)), .val (.int (0 : Int32)), .val (.int (Int32.ofNat (K - own_ps cs i))), .val (.int (Int32.ofNat (i + 1)))] [.int (if own_hs c0 then 1 else 0)]))
        refine g_if_eq X2 B d62_64 44 67 rfl (by decide) rfl (fun c3 => ?_) (fun c3 => ?_)
        · skip
          have p1 : own_pr cs i = 0 := by unfold own_pr; rw [own_gd hc0, if_neg (fun z => own_if0 c3 z.1)]
          rw [show own_ps cs i = own_ps cs (i + 1) by rw [own_psS, p1]; rfl]
          exact ih (i + 1) _ _ (by omega) (by omega) (Or.inl (by omega)) X2 e2 ((N.app N1).app N2)
        · skip
          refine g_aloadN X2 B d62_67 68 rfl rfl rfl ?_
          refine g_iload X2 B d62_68 70 rfl rfl ?_
          refine g_callS X2 B [.ref b, .int (Int32.ofNat (i + 1))] [] d62_70 73 rfl rfl (hw _ (List.mem_of_getElem? (i := 285) rfl)) (hw _ (List.mem_of_getElem? (i := 286) rfl)) (hw _ (List.mem_of_getElem? (i := 264) rfl)) (hw _ (List.mem_of_getElem? (i := 287) rfl)) (by decide) (lenOf pd_57 rfl) (rS_get l Z ag hw b (i + 1) c1 us h0 n0 Ab (by rw [hU.1]; omega) (hU.2 _ c1 (by omega) hc1).1 (hU.2 _ c1 (by omega) hc1).2 (hcs c1 (List.mem_of_getElem? hc1)) SA SH SLo) e2 rfl 0 (Nat.le_of_eq rfl) (by decide) (by decide) (by decide) (by decide) (fun v4 T4 h4 L4 X4 e4 q4 => ?_)
          obtain ⟨rfl, N4, rfl⟩ := q4
          show Go p e below _ (T4.setTop (mkF m 73 #[.val (.ref b), .val (.int (0 : Int32)), .val (.int (Int32.ofNat K)), .val (.int (0 : Int32)), .val (.int (Int32.ofNat (K - own_ps cs i))), .val (.int (Int32.ofNat (i + 1)))] [.int c1]))
          refine g_callS X4 B [.int c1] [] d62_73 76 rfl rfl (hw _ (List.mem_of_getElem? (i := 311) rfl)) (hw _ (List.mem_of_getElem? (i := 312) rfl)) (hw _ (List.mem_of_getElem? (i := 307) rfl)) (hw _ (List.mem_of_getElem? (i := 313) rfl)) (by decide) (lenOf pd_64 rfl) (rC_isLowSurrogate l Z ag hw c1 h0 n0) e4 rfl 0 (Nat.le_of_eq rfl) (by decide) (by decide) (by decide) (by decide) (fun v5 T5 h5 L5 X5 e5 q5 => ?_)
          obtain ⟨rfl, N5, rfl⟩ := q5
          show Go p e below _ (T5.setTop (mkF m 76 #[.val (.ref b), .val (.int (0 : Int32)), .val (.int (Int32.ofNat K)), .val (.int (0 : Int32)), .val (.int (Int32.ofNat (K - own_ps cs i))), .val (.int (Int32.ofNat (i + 1)))] [.int (if own_ls c1 then 1 else 0)]))
          refine g_if_eq X5 B d62_76 44 79 rfl (by decide) rfl (fun c6 => ?_) (fun c6 => ?_)
          · skip
            have p1 : own_pr cs i = 0 := by unfold own_pr; rw [own_gd hc1, if_neg (fun z => own_if0 c6 z.2)]
            rw [show own_ps cs i = own_ps cs (i + 1) by rw [own_psS, p1]; rfl]
            exact ih (i + 1) _ _ (by omega) (by omega) (Or.inl (by omega)) X5 e5 ((((N.app N1).app N2).app N4).app N5)
          · skip
            refine g_iinc X5 B #[.val (.ref b), .val (.int (0 : Int32)), .val (.int (Int32.ofNat K)), .val (.int (0 : Int32)), .val (.int ((Int32.ofNat (K - own_ps cs i)) + (-1))), .val (.int (Int32.ofNat (i + 1)))] (-1) d62_79 82 rfl rfl rfl rfl ?_
            have hh := own_if1 c3
            have hl := own_if1 c6
            have p1 : own_pr cs i = 1 := by unfold own_pr; rw [own_gd hc0, own_gd hc1, if_pos ⟨hh, hl⟩]
            have p2 : own_pr cs (i + 1) = 0 := by unfold own_pr; rw [own_gd hc1, if_neg (fun z => own_hl hl z.1)]
            have p3 : own_ps cs (i + 2) = own_ps cs i + 1 := by rw [own_psS, own_psS, p1, p2]
            have p4 : own_ps cs (i + 2) = own_ps cs (i + 1) := by rw [own_psS, p2]; rfl
            rw [show K - own_ps cs i = (K - own_ps cs (i + 2)) + 1 by omega, own_m1 (by omega)]
            refine g_iinc X5 B #[.val (.ref b), .val (.int (0 : Int32)), .val (.int (Int32.ofNat K)), .val (.int (0 : Int32)), .val (.int (Int32.ofNat (K - own_ps cs (i + 2)))), .val (.int ((Int32.ofNat (i + 1)) + (1)))] (1) d62_82 85 rfl rfl rfl rfl ?_
            rw [own_s1 (by omega)]
            refine g_goto X5 B d62_85 44 rfl (by decide) ?_
            exact ih (i + 2) _ _ (by omega) (by omega) (if z : i + 2 ≤ K - 1 then Or.inl z else Or.inr (by rw [p4, show K - 1 = i + 1 by omega])) X5 e5 ((((N.app N1).app N2).app N4).app N5)
      · skip
        refine g_iload X B d62_44 46 rfl rfl ?_
        refine g_iloadN X B d62_46 47 rfl rfl ?_
        refine g_iconst X B (1) d62_47 48 rfl rfl ?_
        refine g_isub X B d62_48 49 rfl ?_
        refine g_icmp_ge X B d62_49 88 52 rfl (by decide) rfl (fun _ => ?_) (fun z => own_abs' (fun z => absurd ((own_ltm1 (by omega) (by omega)).mp z) hlt) z)
        refine g_iload X B d62_88 90 rfl rfl ?_
        exact g_retI X B d62_90 rfl (by decide) (by decide) eh ⟨own_cpE (hj.elim (fun z => by rw [show i = K - 1 by omega]) id), N, rfl⟩
  exact loop K 0 _ _ (by omega) (by omega) (Or.inl (by omega)) X1 e1 (Fr.nil n0)
set_option maxRecDepth 65536 in
set_option maxHeartbeats 40000000 in
theorem rC_c3 (l : Launch) (Z : State) (ag : Array Value) (hw : ∀ d ∈ tables_1, d.before ag Z = true) (b : Addr) (us : List Value) (cs : List Int32) (K : Nat) (h0 : Heap) (n0 : Nat) (Ab : Av Z h0 b .byte us) (hn : cs.length ≤ 4) (hK : K ≤ cs.length) (hU : own_U us cs) (hcs : ∀ c ∈ cs, own_ch c) (SA : Sta Z h0 "java/lang/StringUTF16" "$assertionsDisabled" "Z" (.int 1)) (SH : Sta Z h0 "java/lang/StringUTF16" "HI_BYTE_SHIFT" "I" (.int 0)) (SLo : Sta Z h0 "java/lang/StringUTF16" "LO_BYTE_SHIFT" "I" (.int 8)) :
    Ctr l Z (⟨"java/lang/StringUTF16", "codePointCount", "([BII)I"⟩ : MethodName) jdk_52_method_12_code 3 (some .int) ({ frames := 2, cells := 0, slots := 0, locals := 30 } : Room) #[.ref b, .int (0 : Int32), .int (Int32.ofNat K)] h0 (own_QP h0 n0 cs K) := by
  refine Ctr.of pn_61 ?_
  intro p e s m below meth c T0 X0 B e0
  refine Go.cast (f' := mkF m 0 #[.val (.ref b), .val (.int (0 : Int32)), .val (.int (Int32.ofNat K))] []) (by first | rfl | (simp [entryFrame, mkF, argsToLocals, Value.category, maxLocals]; done)) ?_

  refine g_aloadN X0 B d61_0 1 rfl rfl rfl ?_
  refine g_iloadN X0 B d61_1 2 rfl rfl ?_
  refine g_iloadN X0 B d61_2 3 rfl rfl ?_
  refine g_iconst X0 B (0) d61_3 4 rfl rfl ?_
  refine g_callS X0 B [.ref b, .int (0 : Int32), .int (Int32.ofNat K), .int (0 : Int32)] [] d61_4 7 rfl rfl (hw _ (List.mem_of_getElem? (i := 302) rfl)) (hw _ (List.mem_of_getElem? (i := 303) rfl)) (hw _ (List.mem_of_getElem? (i := 264) rfl)) (hw _ (List.mem_of_getElem? (i := 304) rfl)) (by decide) (lenOf pd_62 rfl) (rC_c4 l Z ag hw b us cs K h0 n0 Ab hn hK hU hcs SA SH SLo) e0 rfl 0 (Nat.le_of_eq rfl) (by decide) (by decide) (by decide) (by decide) (fun v1 T1 h1 L1 X1 e1 q1 => ?_)
  obtain ⟨rfl, N1, rfl⟩ := q1
  show Go p e below _ (T1.setTop (mkF m 7 #[.val (.ref b), .val (.int (0 : Int32)), .val (.int (Int32.ofNat K))] [.int (Int32.ofNat (K - own_ps cs (K - 1)))]))
  exact g_retI X1 B d61_7 rfl (by decide) (by decide) e1 ⟨rfl, ((Fr.nil n0).app N1), rfl⟩
set_option maxRecDepth 65536 in
set_option maxHeartbeats 40000000 in
theorem rC_c2 (l : Launch) (Z : State) (ag : Array Value) (hw : ∀ d ∈ tables_1, d.before ag Z = true) (a b : Addr) (k cx : Int32) (vs : List Value) (cs : List Int32) (K : Nat) (h0 : Heap) (n0 : Nat) (Ea : Exa Z h0 a "java/lang/String") (FV : Fld Z h0 a "java/lang/String" "value" "[B" (.ref b)) (FC : Fld Z h0 a "java/lang/String" "coder" "B" (.int k)) (Ab : Av Z h0 b .byte vs) (hn : cs.length ≤ 4) (hK : K ≤ cs.length) (hcs : ∀ c ∈ cs, own_ch c) (hSV : own_SV k vs cs) (SA : Sta Z h0 "java/lang/StringUTF16" "$assertionsDisabled" "Z" (.int 1)) (SH : Sta Z h0 "java/lang/StringUTF16" "HI_BYTE_SHIFT" "I" (.int 0)) (SLo : Sta Z h0 "java/lang/StringUTF16" "LO_BYTE_SHIFT" "I" (.int 8)) (SC : Sta Z h0 "java/lang/String" "COMPACT_STRINGS" "Z" (.int cx)) (hcx : ¬ cx = 0) :
    Ctr l Z (⟨"java/lang/String", "codePointCount", "(II)I"⟩ : MethodName) jdk_42_method_59_code 3 (some .int) ({ frames := 3, cells := 0, slots := 0, locals := 44 } : Room) #[.ref a, .int (0 : Int32), .int (Int32.ofNat K)] h0 (own_QP h0 n0 cs K) := by
  refine Ctr.of pn_40 ?_
  intro p e s m below meth c T0 X0 B e0
  refine Go.cast (f' := mkF m 0 #[.val (.ref a), .val (.int (0 : Int32)), .val (.int (Int32.ofNat K))] []) (by first | rfl | (simp [entryFrame, mkF, argsToLocals, Value.category, maxLocals]; done)) ?_

  refine g_iloadN X0 B d40_0 1 rfl rfl ?_
  refine g_iloadN X0 B d40_1 2 rfl rfl ?_
  refine g_aloadN X0 B d40_2 3 rfl rfl rfl ?_
  refine g_callV X0 B [] [.int (Int32.ofNat K), .int (0 : Int32)] d40_3 6 rfl rfl (hw _ (List.mem_of_getElem? (i := 220) rfl)) (hw _ (List.mem_of_getElem? (i := 67) rfl)) (hw _ (List.mem_of_getElem? (i := 69) rfl)) (hw _ (List.mem_of_getElem? (i := 68) rfl)) (hw _ (List.mem_of_getElem? (i := 7) rfl)) (hw _ (List.mem_of_getElem? (i := 70) rfl)) (by decide) (lenOf pd_10 rfl) Ea (rS_len l Z ag hw a b k cx vs cs h0 n0 Ea FV FC Ab hn hSV SC hcx) e0 rfl 2 (Nat.le_of_eq rfl) (by decide) (by decide) (by decide) (by decide) (fun v1 T1 h1 L1 X1 e1 q1 => ?_)
  obtain ⟨rfl, N1, rfl⟩ := q1
  show Go p e below _ (T1.setTop (mkF m 6 #[.val (.ref a), .val (.int (0 : Int32)), .val (.int (Int32.ofNat K))] [.int (Int32.ofNat cs.length), .int (Int32.ofNat K), .int (0 : Int32)]))
  refine g_callS X1 B [.int (0 : Int32), .int (Int32.ofNat K), .int (Int32.ofNat cs.length)] [] d40_6 9 rfl rfl (hw _ (List.mem_of_getElem? (i := 221) rfl)) (hw _ (List.mem_of_getElem? (i := 222) rfl)) (hw _ (List.mem_of_getElem? (i := 192) rfl)) (hw _ (List.mem_of_getElem? (i := 223) rfl)) (by decide) (lenOf pd_41 rfl) (rC_ocf l Z ag hw 0 (Int32.ofNat K) (Int32.ofNat cs.length) h0 n0 (by decide) (own_nn (by omega)) (fun z => absurd ((own_lt (by omega) (by omega)).mp z) (by omega))) e1 rfl 0 (Nat.le_of_eq rfl) (by decide) (by decide) (by decide) (by decide) (fun v2 T2 h2 L2 X2 e2 q2 => ?_)
  obtain ⟨rfl, N2, rfl⟩ := q2
  show Go p e below _ (T2.setTop (mkF m 9 #[.val (.ref a), .val (.int (0 : Int32)), .val (.int (Int32.ofNat K))] [.int (0 : Int32)]))
  refine g_pop X2 B d40_9 10 rfl rfl ?_
  refine g_aloadN X2 B d40_10 11 rfl rfl rfl ?_
  refine g_callV X2 B [] [] d40_11 14 rfl rfl (hw _ (List.mem_of_getElem? (i := 228) rfl)) (hw _ (List.mem_of_getElem? (i := 229) rfl)) (hw _ (List.mem_of_getElem? (i := 231) rfl)) (hw _ (List.mem_of_getElem? (i := 230) rfl)) (hw _ (List.mem_of_getElem? (i := 7) rfl)) (hw _ (List.mem_of_getElem? (i := 232) rfl)) (by decide) (lenOf pd_43 rfl) Ea (rS_lat l Z ag hw a k cx h0 n0 FC (own_SVk hSV) SC hcx) e2 rfl 0 (Nat.le_of_eq rfl) (by decide) (by decide) (by decide) (by decide) (fun v3 T3 h3 L3 X3 e3 q3 => ?_)
  obtain ⟨rfl, N3, rfl⟩ := q3
  show Go p e below _ (T3.setTop (mkF m 14 #[.val (.ref a), .val (.int (0 : Int32)), .val (.int (Int32.ofNat K))] [.int (if k = 0 then 1 else 0)]))
  rcases hSV with ⟨rfl, hL⟩ | ⟨rfl, hU⟩
  · skip
    refine g_if_eq X3 B d40_14 21 17 rfl (by decide) rfl (fun z => own_abs' (by decide) z) (fun _ => ?_)
    refine g_iloadN X3 B d40_17 18 rfl rfl ?_
    refine g_iloadN X3 B d40_18 19 rfl rfl ?_
    refine g_isub X3 B d40_19 20 rfl ?_
    exact g_retI X3 B d40_20 rfl (by decide) (by decide) e3 ⟨by rw [own_psL (fun j c q => (hL.2 j c (List.getElem?_eq_some_iff.mp q).1 q).2), own_sub0]; rfl, ((((Fr.nil n0).app N1).app N2).app N3), rfl⟩
  · skip
    refine g_if_eq X3 B d40_14 21 17 rfl (by decide) rfl (fun _ => ?_) (fun z => own_abs (by decide) z)
    refine g_aloadN X3 B d40_21 22 rfl rfl rfl ?_
    refine g_getF X3 B d40_22 25 rfl (hw _ (List.mem_of_getElem? (i := 25) rfl)) Via.refl e3 FV (fun T4 X4 e4 => ?_)
    refine g_iloadN X4 B d40_25 26 rfl rfl ?_
    refine g_iloadN X4 B d40_26 27 rfl rfl ?_
    refine g_callS X4 B [.ref b, .int (0 : Int32), .int (Int32.ofNat K)] [] d40_27 30 rfl rfl (hw _ (List.mem_of_getElem? (i := 299) rfl)) (hw _ (List.mem_of_getElem? (i := 300) rfl)) (hw _ (List.mem_of_getElem? (i := 264) rfl)) (hw _ (List.mem_of_getElem? (i := 301) rfl)) (by decide) (lenOf pd_61 rfl) (rC_c3 l Z ag hw b vs cs K h0 n0 Ab hn hK hU hcs SA SH SLo) e4 rfl 0 (Nat.le_of_eq rfl) (by decide) (by decide) (by decide) (by decide) (fun v5 T5 h5 L5 X5 e5 q5 => ?_)
    obtain ⟨rfl, N5, rfl⟩ := q5
    show Go p e below _ (T5.setTop (mkF m 30 #[.val (.ref a), .val (.int (0 : Int32)), .val (.int (Int32.ofNat K))] [.int (Int32.ofNat (K - own_ps cs (K - 1)))]))
    exact g_retI X5 B d40_30 rfl (by decide) (by decide) e5 ⟨rfl, (((((Fr.nil n0).app N1).app N2).app N3).app N5), rfl⟩
--CHAIN
theorem d6_0 : decode jdk_67_method_1_code 0 = .ok (.aload_n 0, 1) := by decide +kernel
theorem d6_1 : decode jdk_67_method_1_code 1 = .ok (.bipush 16, 2) := by decide +kernel
theorem d6_3 : decode jdk_67_method_1_code 3 = .ok (.invokespecial 1, 3) := by decide +kernel
theorem d6_6 : decode jdk_67_method_1_code 6 = .ok (.return_, 1) := by decide +kernel
theorem pn_6 : plainFor (⟨"java/lang/StringBuilder", "<init>", "()V"⟩ : MethodName) = true := by first | (apply plainFor_of_name; simp [plainName, overriddenIn]; done) | (apply plainFor_of_name; decide +kernel) | decide +kernel
theorem pd_6 : parseMethodDescriptor "()V" = some ⟨[], none⟩ := by decide +kernel
theorem d7_0 : decode jdk_68_method_2_code 0 = .ok (.aload_n 0, 1) := by decide +kernel
theorem d7_1 : decode jdk_68_method_2_code 1 = .ok (.invokespecial 3, 3) := by decide +kernel
theorem d7_4 : decode jdk_68_method_2_code 4 = .ok (.getstatic 18, 3) := by decide +kernel
theorem d7_7 : decode jdk_68_method_2_code 7 = .ok (.ifCond .eq 18, 3) := by decide +kernel
theorem d7_10 : decode jdk_68_method_2_code 10 = .ok (.aload_n 0, 1) := by decide +kernel
theorem d7_11 : decode jdk_68_method_2_code 11 = .ok (.iload_n 1, 1) := by decide +kernel
theorem d7_12 : decode jdk_68_method_2_code 12 = .ok (.newarray .byte, 2) := by decide +kernel
theorem d7_14 : decode jdk_68_method_2_code 14 = .ok (.putfield 15, 3) := by decide +kernel
theorem d7_17 : decode jdk_68_method_2_code 17 = .ok (.aload_n 0, 1) := by decide +kernel
theorem d7_18 : decode jdk_68_method_2_code 18 = .ok (.iconst 0, 1) := by decide +kernel
theorem d7_19 : decode jdk_68_method_2_code 19 = .ok (.putfield 22, 3) := by decide +kernel
theorem d7_22 : decode jdk_68_method_2_code 22 = .ok (.goto 16, 3) := by decide +kernel
theorem d7_25 : decode jdk_68_method_2_code 25 = .ok (.aload_n 0, 1) := by decide +kernel
theorem d7_26 : decode jdk_68_method_2_code 26 = .ok (.iload_n 1, 1) := by decide +kernel
theorem d7_27 : decode jdk_68_method_2_code 27 = .ok (.invokestatic 26, 3) := by decide +kernel
theorem d7_30 : decode jdk_68_method_2_code 30 = .ok (.putfield 15, 3) := by decide +kernel
theorem d7_33 : decode jdk_68_method_2_code 33 = .ok (.aload_n 0, 1) := by decide +kernel
theorem d7_34 : decode jdk_68_method_2_code 34 = .ok (.iconst 1, 1) := by decide +kernel
theorem d7_35 : decode jdk_68_method_2_code 35 = .ok (.putfield 22, 3) := by decide +kernel
theorem d7_38 : decode jdk_68_method_2_code 38 = .ok (.return_, 1) := by decide +kernel
theorem pn_7 : plainFor (⟨"java/lang/AbstractStringBuilder", "<init>", "(I)V"⟩ : MethodName) = true := by first | (apply plainFor_of_name; simp [plainName, overriddenIn]; done) | (apply plainFor_of_name; decide +kernel) | decide +kernel
theorem pd_7 : parseMethodDescriptor "(I)V" = some ⟨[.int], none⟩ := by decide +kernel
theorem d21_0 : decode jdk_29_method_65_code 0 = .ok (.iload_n 0, 1) := by decide +kernel
theorem d21_1 : decode jdk_29_method_65_code 1 = .ok (.iload_n 1, 1) := by decide +kernel
theorem d21_2 : decode jdk_29_method_65_code 2 = .ok (.if_icmp .lt 7, 3) := by decide +kernel
theorem d21_5 : decode jdk_29_method_65_code 5 = .ok (.iload_n 0, 1) := by decide +kernel
theorem d21_6 : decode jdk_29_method_65_code 6 = .ok (.goto 4, 3) := by decide +kernel
theorem d21_9 : decode jdk_29_method_65_code 9 = .ok (.iload_n 1, 1) := by decide +kernel
theorem d21_10 : decode jdk_29_method_65_code 10 = .ok (.ireturn, 1) := by decide +kernel
theorem pn_21 : plainFor (⟨"java/lang/Math", "max", "(II)I"⟩ : MethodName) = true := by first | (apply plainFor_of_name; simp [plainName, overriddenIn]; done) | (apply plainFor_of_name; decide +kernel) | decide +kernel
theorem pd_21 : parseMethodDescriptor "(II)I" = some ⟨[.int, .int], (some .int)⟩ := by decide +kernel
theorem d23_0 : decode jdk_29_method_69_code 0 = .ok (.iload_n 0, 1) := by decide +kernel
theorem d23_1 : decode jdk_29_method_69_code 1 = .ok (.iload_n 1, 1) := by decide +kernel
theorem d23_2 : decode jdk_29_method_69_code 2 = .ok (.if_icmp .gt 7, 3) := by decide +kernel
theorem d23_5 : decode jdk_29_method_69_code 5 = .ok (.iload_n 0, 1) := by decide +kernel
theorem d23_6 : decode jdk_29_method_69_code 6 = .ok (.goto 4, 3) := by decide +kernel
theorem d23_9 : decode jdk_29_method_69_code 9 = .ok (.iload_n 1, 1) := by decide +kernel
theorem d23_10 : decode jdk_29_method_69_code 10 = .ok (.ireturn, 1) := by decide +kernel
theorem pn_23 : plainFor (⟨"java/lang/Math", "min", "(II)I"⟩ : MethodName) = true := by first | (apply plainFor_of_name; simp [plainName, overriddenIn]; done) | (apply plainFor_of_name; decide +kernel) | decide +kernel
theorem pd_23 : parseMethodDescriptor "(II)I" = some ⟨[.int, .int], (some .int)⟩ := by decide +kernel
theorem d20_0 : decode jdk_48_method_27_code 0 = .ok (.iload_n 0, 1) := by decide +kernel
theorem d20_1 : decode jdk_48_method_27_code 1 = .ok (.iload_n 1, 1) := by decide +kernel
theorem d20_2 : decode jdk_48_method_27_code 2 = .ok (.iload_n 2, 1) := by decide +kernel
theorem d20_3 : decode jdk_48_method_27_code 3 = .ok (.invokestatic 194, 3) := by decide +kernel
theorem d20_6 : decode jdk_48_method_27_code 6 = .ok (.iadd, 1) := by decide +kernel
theorem d20_7 : decode jdk_48_method_27_code 7 = .ok (.istore_n 3, 1) := by decide +kernel
theorem d20_8 : decode jdk_48_method_27_code 8 = .ok (.iconst 0, 1) := by decide +kernel
theorem d20_9 : decode jdk_48_method_27_code 9 = .ok (.iload_n 3, 1) := by decide +kernel
theorem d20_10 : decode jdk_48_method_27_code 10 = .ok (.if_icmp .ge 11, 3) := by decide +kernel
theorem d20_13 : decode jdk_48_method_27_code 13 = .ok (.iload_n 3, 1) := by decide +kernel
theorem d20_14 : decode jdk_48_method_27_code 14 = .ok (.ldc 200, 2) := by decide +kernel
theorem d20_16 : decode jdk_48_method_27_code 16 = .ok (.if_icmp .gt 5, 3) := by decide +kernel
theorem d20_19 : decode jdk_48_method_27_code 19 = .ok (.iload_n 3, 1) := by decide +kernel
theorem d20_20 : decode jdk_48_method_27_code 20 = .ok (.ireturn, 1) := by decide +kernel
theorem d20_21 : decode jdk_48_method_27_code 21 = .ok (.iload_n 0, 1) := by decide +kernel
theorem d20_22 : decode jdk_48_method_27_code 22 = .ok (.iload_n 1, 1) := by decide +kernel
theorem d20_23 : decode jdk_48_method_27_code 23 = .ok (.invokestatic 201, 3) := by decide +kernel
theorem d20_26 : decode jdk_48_method_27_code 26 = .ok (.ireturn, 1) := by decide +kernel
theorem pn_20 : plainFor (⟨"jdk/internal/util/ArraysSupport", "newLength", "(III)I"⟩ : MethodName) = true := by first | (apply plainFor_of_name; simp [plainName, overriddenIn]; done) | (apply plainFor_of_name; decide +kernel) | decide +kernel
theorem pd_20 : parseMethodDescriptor "(III)I" = some ⟨[.int, .int, .int], (some .int)⟩ := by decide +kernel
theorem d19_0 : decode jdk_68_method_10_code 0 = .ok (.aload_n 0, 1) := by decide +kernel
theorem d19_1 : decode jdk_68_method_10_code 1 = .ok (.getfield 15, 3) := by decide +kernel
theorem d19_4 : decode jdk_68_method_10_code 4 = .ok (.arraylength, 1) := by decide +kernel
theorem d19_5 : decode jdk_68_method_10_code 5 = .ok (.istore_n 2, 1) := by decide +kernel
theorem d19_6 : decode jdk_68_method_10_code 6 = .ok (.iload_n 1, 1) := by decide +kernel
theorem d19_7 : decode jdk_68_method_10_code 7 = .ok (.aload_n 0, 1) := by decide +kernel
theorem d19_8 : decode jdk_68_method_10_code 8 = .ok (.getfield 22, 3) := by decide +kernel
theorem d19_11 : decode jdk_68_method_10_code 11 = .ok (.ishl, 1) := by decide +kernel
theorem d19_12 : decode jdk_68_method_10_code 12 = .ok (.istore_n 3, 1) := by decide +kernel
theorem d19_13 : decode jdk_68_method_10_code 13 = .ok (.iload_n 3, 1) := by decide +kernel
theorem d19_14 : decode jdk_68_method_10_code 14 = .ok (.iload_n 2, 1) := by decide +kernel
theorem d19_15 : decode jdk_68_method_10_code 15 = .ok (.isub, 1) := by decide +kernel
theorem d19_16 : decode jdk_68_method_10_code 16 = .ok (.istore 4, 2) := by decide +kernel
theorem d19_18 : decode jdk_68_method_10_code 18 = .ok (.iload_n 2, 1) := by decide +kernel
theorem d19_19 : decode jdk_68_method_10_code 19 = .ok (.iload 4, 2) := by decide +kernel
theorem d19_21 : decode jdk_68_method_10_code 21 = .ok (.iload_n 2, 1) := by decide +kernel
theorem d19_22 : decode jdk_68_method_10_code 22 = .ok (.iconst 2, 1) := by decide +kernel
theorem d19_23 : decode jdk_68_method_10_code 23 = .ok (.aload_n 0, 1) := by decide +kernel
theorem d19_24 : decode jdk_68_method_10_code 24 = .ok (.getfield 22, 3) := by decide +kernel
theorem d19_27 : decode jdk_68_method_10_code 27 = .ok (.ishl, 1) := by decide +kernel
theorem d19_28 : decode jdk_68_method_10_code 28 = .ok (.iadd, 1) := by decide +kernel
theorem d19_29 : decode jdk_68_method_10_code 29 = .ok (.invokestatic 114, 3) := by decide +kernel
theorem d19_32 : decode jdk_68_method_10_code 32 = .ok (.istore 5, 2) := by decide +kernel
theorem d19_34 : decode jdk_68_method_10_code 34 = .ok (.iload 5, 2) := by decide +kernel
theorem d19_36 : decode jdk_68_method_10_code 36 = .ok (.ldc 39, 2) := by decide +kernel
theorem d19_38 : decode jdk_68_method_10_code 38 = .ok (.if_icmp .ne 13, 3) := by decide +kernel
theorem d19_41 : decode jdk_68_method_10_code 41 = .ok (.new 120, 3) := by decide +kernel
theorem d19_44 : decode jdk_68_method_10_code 44 = .ok (.dup, 1) := by decide +kernel
theorem d19_45 : decode jdk_68_method_10_code 45 = .ok (.ldc 122, 2) := by decide +kernel
theorem d19_47 : decode jdk_68_method_10_code 47 = .ok (.invokespecial 124, 3) := by decide +kernel
theorem d19_50 : decode jdk_68_method_10_code 50 = .ok (.athrow, 1) := by decide +kernel
theorem d19_51 : decode jdk_68_method_10_code 51 = .ok (.iload 5, 2) := by decide +kernel
theorem d19_53 : decode jdk_68_method_10_code 53 = .ok (.aload_n 0, 1) := by decide +kernel
theorem d19_54 : decode jdk_68_method_10_code 54 = .ok (.getfield 22, 3) := by decide +kernel
theorem d19_57 : decode jdk_68_method_10_code 57 = .ok (.ishr, 1) := by decide +kernel
theorem d19_58 : decode jdk_68_method_10_code 58 = .ok (.ireturn, 1) := by decide +kernel
theorem pn_19 : plainFor (⟨"java/lang/AbstractStringBuilder", "newCapacity", "(I)I"⟩ : MethodName) = true := by first | (apply plainFor_of_name; simp [plainName, overriddenIn]; done) | (apply plainFor_of_name; decide +kernel) | decide +kernel
theorem pd_19 : parseMethodDescriptor "(I)I" = some ⟨[.int], (some .int)⟩ := by decide +kernel
theorem d22_0 : decode jdk_65_method_121_code 0 = .ok (.iload_n 1, 1) := by decide +kernel
theorem d22_1 : decode jdk_65_method_121_code 1 = .ok (.aload_n 0, 1) := by decide +kernel
theorem d22_2 : decode jdk_65_method_121_code 2 = .ok (.arraylength, 1) := by decide +kernel
theorem d22_3 : decode jdk_65_method_121_code 3 = .ok (.if_icmp .ne 11, 3) := by decide +kernel
theorem d22_6 : decode jdk_65_method_121_code 6 = .ok (.aload_n 0, 1) := by decide +kernel
theorem d22_7 : decode jdk_65_method_121_code 7 = .ok (.invokevirtual 310, 3) := by decide +kernel
theorem d22_10 : decode jdk_65_method_121_code 10 = .ok (.checkcast 311, 3) := by decide +kernel
theorem d22_13 : decode jdk_65_method_121_code 13 = .ok (.areturn, 1) := by decide +kernel
theorem d22_14 : decode jdk_65_method_121_code 14 = .ok (.iload_n 1, 1) := by decide +kernel
theorem d22_15 : decode jdk_65_method_121_code 15 = .ok (.newarray .byte, 2) := by decide +kernel
theorem d22_17 : decode jdk_65_method_121_code 17 = .ok (.astore_n 2, 1) := by decide +kernel
theorem d22_18 : decode jdk_65_method_121_code 18 = .ok (.aload_n 0, 1) := by decide +kernel
theorem d22_19 : decode jdk_65_method_121_code 19 = .ok (.iconst 0, 1) := by decide +kernel
theorem d22_20 : decode jdk_65_method_121_code 20 = .ok (.aload_n 2, 1) := by decide +kernel
theorem d22_21 : decode jdk_65_method_121_code 21 = .ok (.iconst 0, 1) := by decide +kernel
theorem d22_22 : decode jdk_65_method_121_code 22 = .ok (.aload_n 0, 1) := by decide +kernel
theorem d22_23 : decode jdk_65_method_121_code 23 = .ok (.arraylength, 1) := by decide +kernel
theorem d22_24 : decode jdk_65_method_121_code 24 = .ok (.iload_n 1, 1) := by decide +kernel
theorem d22_25 : decode jdk_65_method_121_code 25 = .ok (.invokestatic 304, 3) := by decide +kernel
theorem d22_28 : decode jdk_65_method_121_code 28 = .ok (.invokestatic 150, 3) := by decide +kernel
theorem d22_31 : decode jdk_65_method_121_code 31 = .ok (.aload_n 2, 1) := by decide +kernel
theorem d22_32 : decode jdk_65_method_121_code 32 = .ok (.areturn, 1) := by decide +kernel
theorem pn_22 : plainFor (⟨"java/util/Arrays", "copyOf", "([BI)[B"⟩ : MethodName) = true := by first | (apply plainFor_of_name; simp [plainName, overriddenIn]; done) | (apply plainFor_of_name; decide +kernel) | decide +kernel
theorem pd_22 : parseMethodDescriptor "([BI)[B" = some ⟨[(.array .byte), .int], (some (.array .byte))⟩ := by decide +kernel
theorem d12_0 : decode jdk_68_method_9_code 0 = .ok (.aload_n 0, 1) := by decide +kernel
theorem d12_1 : decode jdk_68_method_9_code 1 = .ok (.getfield 15, 3) := by decide +kernel
theorem d12_4 : decode jdk_68_method_9_code 4 = .ok (.arraylength, 1) := by decide +kernel
theorem d12_5 : decode jdk_68_method_9_code 5 = .ok (.aload_n 0, 1) := by decide +kernel
theorem d12_6 : decode jdk_68_method_9_code 6 = .ok (.getfield 22, 3) := by decide +kernel
theorem d12_9 : decode jdk_68_method_9_code 9 = .ok (.ishr, 1) := by decide +kernel
theorem d12_10 : decode jdk_68_method_9_code 10 = .ok (.istore_n 2, 1) := by decide +kernel
theorem d12_11 : decode jdk_68_method_9_code 11 = .ok (.iload_n 1, 1) := by decide +kernel
theorem d12_12 : decode jdk_68_method_9_code 12 = .ok (.iload_n 2, 1) := by decide +kernel
theorem d12_13 : decode jdk_68_method_9_code 13 = .ok (.isub, 1) := by decide +kernel
theorem d12_14 : decode jdk_68_method_9_code 14 = .ok (.ifCond .le 24, 3) := by decide +kernel
theorem d12_17 : decode jdk_68_method_9_code 17 = .ok (.aload_n 0, 1) := by decide +kernel
theorem d12_18 : decode jdk_68_method_9_code 18 = .ok (.aload_n 0, 1) := by decide +kernel
theorem d12_19 : decode jdk_68_method_9_code 19 = .ok (.getfield 15, 3) := by decide +kernel
theorem d12_22 : decode jdk_68_method_9_code 22 = .ok (.aload_n 0, 1) := by decide +kernel
theorem d12_23 : decode jdk_68_method_9_code 23 = .ok (.iload_n 1, 1) := by decide +kernel
theorem d12_24 : decode jdk_68_method_9_code 24 = .ok (.invokevirtual 104, 3) := by decide +kernel
theorem d12_27 : decode jdk_68_method_9_code 27 = .ok (.aload_n 0, 1) := by decide +kernel
theorem d12_28 : decode jdk_68_method_9_code 28 = .ok (.getfield 22, 3) := by decide +kernel
theorem d12_31 : decode jdk_68_method_9_code 31 = .ok (.ishl, 1) := by decide +kernel
theorem d12_32 : decode jdk_68_method_9_code 32 = .ok (.invokestatic 108, 3) := by decide +kernel
theorem d12_35 : decode jdk_68_method_9_code 35 = .ok (.putfield 15, 3) := by decide +kernel
theorem d12_38 : decode jdk_68_method_9_code 38 = .ok (.return_, 1) := by decide +kernel
theorem pn_12 : plainFor (⟨"java/lang/AbstractStringBuilder", "ensureCapacityInternal", "(I)V"⟩ : MethodName) = true := by first | (apply plainFor_of_name; simp [plainName, overriddenIn]; done) | (apply plainFor_of_name; decide +kernel) | decide +kernel
theorem pd_12 : parseMethodDescriptor "(I)V" = some ⟨[.int], none⟩ := by decide +kernel
theorem d14_0 : decode jdk_68_method_71_code 0 = .ok (.getstatic 18, 3) := by decide +kernel
theorem d14_3 : decode jdk_68_method_71_code 3 = .ok (.ifCond .eq 18, 3) := by decide +kernel
theorem d14_6 : decode jdk_68_method_71_code 6 = .ok (.aload_n 0, 1) := by decide +kernel
theorem d14_7 : decode jdk_68_method_71_code 7 = .ok (.getfield 22, 3) := by decide +kernel
theorem d14_10 : decode jdk_68_method_71_code 10 = .ok (.aload_n 1, 1) := by decide +kernel
theorem d14_11 : decode jdk_68_method_71_code 11 = .ok (.invokevirtual 40, 3) := by decide +kernel
theorem d14_14 : decode jdk_68_method_71_code 14 = .ok (.if_icmp .eq 7, 3) := by decide +kernel
theorem d14_17 : decode jdk_68_method_71_code 17 = .ok (.aload_n 0, 1) := by decide +kernel
theorem d14_18 : decode jdk_68_method_71_code 18 = .ok (.invokevirtual 195, 3) := by decide +kernel
theorem d14_21 : decode jdk_68_method_71_code 21 = .ok (.return_, 1) := by decide +kernel
theorem pn_14 : plainFor (⟨"java/lang/AbstractStringBuilder", "inflateIfNeededFor", "(Ljava/lang/String;)V"⟩ : MethodName) = true := by first | (apply plainFor_of_name; simp [plainName, overriddenIn]; done) | (apply plainFor_of_name; decide +kernel) | decide +kernel
theorem pd_14 : parseMethodDescriptor "(Ljava/lang/String;)V" = some ⟨[(.object "java/lang/String")], none⟩ := by decide +kernel
theorem d15_0 : decode jdk_42_method_147_code 0 = .ok (.aload_n 0, 1) := by decide +kernel
theorem d15_1 : decode jdk_42_method_147_code 1 = .ok (.invokevirtual 335, 3) := by decide +kernel
theorem d15_4 : decode jdk_42_method_147_code 4 = .ok (.iload_n 3, 1) := by decide +kernel
theorem d15_5 : decode jdk_42_method_147_code 5 = .ok (.if_icmp .ne 23, 3) := by decide +kernel
theorem d15_8 : decode jdk_42_method_147_code 8 = .ok (.aload_n 0, 1) := by decide +kernel
theorem d15_9 : decode jdk_42_method_147_code 9 = .ok (.getfield 9, 3) := by decide +kernel
theorem d15_12 : decode jdk_42_method_147_code 12 = .ok (.iconst 0, 1) := by decide +kernel
theorem d15_13 : decode jdk_42_method_147_code 13 = .ok (.aload_n 1, 1) := by decide +kernel
theorem d15_14 : decode jdk_42_method_147_code 14 = .ok (.iload_n 2, 1) := by decide +kernel
theorem d15_15 : decode jdk_42_method_147_code 15 = .ok (.iload_n 3, 1) := by decide +kernel
theorem d15_16 : decode jdk_42_method_147_code 16 = .ok (.ishl, 1) := by decide +kernel
theorem d15_17 : decode jdk_42_method_147_code 17 = .ok (.aload_n 0, 1) := by decide +kernel
theorem d15_18 : decode jdk_42_method_147_code 18 = .ok (.getfield 9, 3) := by decide +kernel
theorem d15_21 : decode jdk_42_method_147_code 21 = .ok (.arraylength, 1) := by decide +kernel
theorem d15_22 : decode jdk_42_method_147_code 22 = .ok (.invokestatic 212, 3) := by decide +kernel
theorem d15_25 : decode jdk_42_method_147_code 25 = .ok (.goto 18, 3) := by decide +kernel
theorem d15_28 : decode jdk_42_method_147_code 28 = .ok (.aload_n 0, 1) := by decide +kernel
theorem d15_29 : decode jdk_42_method_147_code 29 = .ok (.getfield 9, 3) := by decide +kernel
theorem d15_32 : decode jdk_42_method_147_code 32 = .ok (.iconst 0, 1) := by decide +kernel
theorem d15_33 : decode jdk_42_method_147_code 33 = .ok (.aload_n 1, 1) := by decide +kernel
theorem d15_34 : decode jdk_42_method_147_code 34 = .ok (.iload_n 2, 1) := by decide +kernel
theorem d15_35 : decode jdk_42_method_147_code 35 = .ok (.aload_n 0, 1) := by decide +kernel
theorem d15_36 : decode jdk_42_method_147_code 36 = .ok (.getfield 9, 3) := by decide +kernel
theorem d15_39 : decode jdk_42_method_147_code 39 = .ok (.arraylength, 1) := by decide +kernel
theorem d15_40 : decode jdk_42_method_147_code 40 = .ok (.invokestatic 106, 3) := by decide +kernel
theorem d15_43 : decode jdk_42_method_147_code 43 = .ok (.return_, 1) := by decide +kernel
theorem pn_15 : plainFor (⟨"java/lang/String", "getBytes", "([BIB)V"⟩ : MethodName) = true := by first | (apply plainFor_of_name; simp [plainName, overriddenIn]; done) | (apply plainFor_of_name; decide +kernel) | decide +kernel
theorem pd_15 : parseMethodDescriptor "([BIB)V" = some ⟨[(.array .byte), .int, .byte], none⟩ := by decide +kernel
theorem d13_0 : decode jdk_68_method_73_code 0 = .ok (.aload_n 0, 1) := by decide +kernel
theorem d13_1 : decode jdk_68_method_73_code 1 = .ok (.aload_n 2, 1) := by decide +kernel
theorem d13_2 : decode jdk_68_method_73_code 2 = .ok (.invokevirtual 397, 3) := by decide +kernel
theorem d13_5 : decode jdk_68_method_73_code 5 = .ok (.aload_n 2, 1) := by decide +kernel
theorem d13_6 : decode jdk_68_method_73_code 6 = .ok (.aload_n 0, 1) := by decide +kernel
theorem d13_7 : decode jdk_68_method_73_code 7 = .ok (.getfield 15, 3) := by decide +kernel
theorem d13_10 : decode jdk_68_method_73_code 10 = .ok (.iload_n 1, 1) := by decide +kernel
theorem d13_11 : decode jdk_68_method_73_code 11 = .ok (.aload_n 0, 1) := by decide +kernel
theorem d13_12 : decode jdk_68_method_73_code 12 = .ok (.getfield 22, 3) := by decide +kernel
theorem d13_15 : decode jdk_68_method_73_code 15 = .ok (.invokevirtual 399, 3) := by decide +kernel
theorem d13_18 : decode jdk_68_method_73_code 18 = .ok (.return_, 1) := by decide +kernel
theorem pn_13 : plainFor (⟨"java/lang/AbstractStringBuilder", "putStringAt", "(ILjava/lang/String;)V"⟩ : MethodName) = true := by first | (apply plainFor_of_name; simp [plainName, overriddenIn]; done) | (apply plainFor_of_name; decide +kernel) | decide +kernel
theorem pd_13 : parseMethodDescriptor "(ILjava/lang/String;)V" = some ⟨[.int, (.object "java/lang/String")], none⟩ := by decide +kernel
theorem d9_0 : decode jdk_68_method_22_code 0 = .ok (.aload_n 1, 1) := by decide +kernel
theorem d9_1 : decode jdk_68_method_22_code 1 = .ok (.ifnonnull 8, 3) := by decide +kernel
theorem d9_4 : decode jdk_68_method_22_code 4 = .ok (.aload_n 0, 1) := by decide +kernel
theorem d9_5 : decode jdk_68_method_22_code 5 = .ok (.invokevirtual 204, 3) := by decide +kernel
theorem d9_8 : decode jdk_68_method_22_code 8 = .ok (.areturn, 1) := by decide +kernel
theorem d9_9 : decode jdk_68_method_22_code 9 = .ok (.aload_n 1, 1) := by decide +kernel
theorem d9_10 : decode jdk_68_method_22_code 10 = .ok (.invokevirtual 32, 3) := by decide +kernel
theorem d9_13 : decode jdk_68_method_22_code 13 = .ok (.istore_n 2, 1) := by decide +kernel
theorem d9_14 : decode jdk_68_method_22_code 14 = .ok (.aload_n 0, 1) := by decide +kernel
theorem d9_15 : decode jdk_68_method_22_code 15 = .ok (.aload_n 0, 1) := by decide +kernel
theorem d9_16 : decode jdk_68_method_22_code 16 = .ok (.getfield 79, 3) := by decide +kernel
theorem d9_19 : decode jdk_68_method_22_code 19 = .ok (.iload_n 2, 1) := by decide +kernel
theorem d9_20 : decode jdk_68_method_22_code 20 = .ok (.iadd, 1) := by decide +kernel
theorem d9_21 : decode jdk_68_method_22_code 21 = .ok (.invokevirtual 100, 3) := by decide +kernel
theorem d9_24 : decode jdk_68_method_22_code 24 = .ok (.aload_n 0, 1) := by decide +kernel
theorem d9_25 : decode jdk_68_method_22_code 25 = .ok (.aload_n 0, 1) := by decide +kernel
theorem d9_26 : decode jdk_68_method_22_code 26 = .ok (.getfield 79, 3) := by decide +kernel
theorem d9_29 : decode jdk_68_method_22_code 29 = .ok (.aload_n 1, 1) := by decide +kernel
theorem d9_30 : decode jdk_68_method_22_code 30 = .ok (.invokevirtual 208, 3) := by decide +kernel
theorem d9_33 : decode jdk_68_method_22_code 33 = .ok (.aload_n 0, 1) := by decide +kernel
theorem d9_34 : decode jdk_68_method_22_code 34 = .ok (.dup, 1) := by decide +kernel
theorem d9_35 : decode jdk_68_method_22_code 35 = .ok (.getfield 79, 3) := by decide +kernel
theorem d9_38 : decode jdk_68_method_22_code 38 = .ok (.iload_n 2, 1) := by decide +kernel
theorem d9_39 : decode jdk_68_method_22_code 39 = .ok (.iadd, 1) := by decide +kernel
theorem d9_40 : decode jdk_68_method_22_code 40 = .ok (.putfield 79, 3) := by decide +kernel
theorem d9_43 : decode jdk_68_method_22_code 43 = .ok (.aload_n 0, 1) := by decide +kernel
theorem d9_44 : decode jdk_68_method_22_code 44 = .ok (.areturn, 1) := by decide +kernel
theorem pn_9 : plainFor (⟨"java/lang/AbstractStringBuilder", "append", "(Ljava/lang/String;)Ljava/lang/AbstractStringBuilder;"⟩ : MethodName) = true := by first | (apply plainFor_of_name; simp [plainName, overriddenIn]; done) | (apply plainFor_of_name; decide +kernel) | decide +kernel
theorem pd_9 : parseMethodDescriptor "(Ljava/lang/String;)Ljava/lang/AbstractStringBuilder;" = some ⟨[(.object "java/lang/String")], (some (.object "java/lang/AbstractStringBuilder"))⟩ := by decide +kernel
theorem d8_0 : decode jdk_67_method_7_code 0 = .ok (.aload_n 0, 1) := by decide +kernel
theorem d8_1 : decode jdk_67_method_7_code 1 = .ok (.aload_n 1, 1) := by decide +kernel
theorem d8_2 : decode jdk_67_method_7_code 2 = .ok (.invokespecial 29, 3) := by decide +kernel
theorem d8_5 : decode jdk_67_method_7_code 5 = .ok (.pop, 1) := by decide +kernel
theorem d8_6 : decode jdk_67_method_7_code 6 = .ok (.aload_n 0, 1) := by decide +kernel
theorem d8_7 : decode jdk_67_method_7_code 7 = .ok (.areturn, 1) := by decide +kernel
theorem pn_8 : plainFor (⟨"java/lang/StringBuilder", "append", "(Ljava/lang/String;)Ljava/lang/StringBuilder;"⟩ : MethodName) = true := by first | (apply plainFor_of_name; simp [plainName, overriddenIn]; done) | (apply plainFor_of_name; decide +kernel) | decide +kernel
theorem pd_8 : parseMethodDescriptor "(Ljava/lang/String;)Ljava/lang/StringBuilder;" = some ⟨[(.object "java/lang/String")], (some (.object "java/lang/StringBuilder"))⟩ := by decide +kernel
theorem d18_0 : decode jdk_33_method_13_code 0 = .ok (.iconst 1, 1) := by decide +kernel
theorem d18_1 : decode jdk_33_method_13_code 1 = .ok (.istore_n 1, 1) := by decide +kernel
theorem d18_2 : decode jdk_33_method_13_code 2 = .ok (.iload_n 0, 1) := by decide +kernel
theorem d18_3 : decode jdk_33_method_13_code 3 = .ok (.ifCond .lt 8, 3) := by decide +kernel
theorem d18_6 : decode jdk_33_method_13_code 6 = .ok (.iconst 0, 1) := by decide +kernel
theorem d18_7 : decode jdk_33_method_13_code 7 = .ok (.istore_n 1, 1) := by decide +kernel
theorem d18_8 : decode jdk_33_method_13_code 8 = .ok (.iload_n 0, 1) := by decide +kernel
theorem d18_9 : decode jdk_33_method_13_code 9 = .ok (.ineg, 1) := by decide +kernel
theorem d18_10 : decode jdk_33_method_13_code 10 = .ok (.istore_n 0, 1) := by decide +kernel
theorem d18_11 : decode jdk_33_method_13_code 11 = .ok (.bipush (-10), 2) := by decide +kernel
theorem d18_13 : decode jdk_33_method_13_code 13 = .ok (.istore_n 2, 1) := by decide +kernel
theorem d18_14 : decode jdk_33_method_13_code 14 = .ok (.iconst 1, 1) := by decide +kernel
theorem d18_15 : decode jdk_33_method_13_code 15 = .ok (.istore_n 3, 1) := by decide +kernel
theorem d18_16 : decode jdk_33_method_13_code 16 = .ok (.iload_n 3, 1) := by decide +kernel
theorem d18_17 : decode jdk_33_method_13_code 17 = .ok (.bipush 10, 2) := by decide +kernel
theorem d18_19 : decode jdk_33_method_13_code 19 = .ok (.if_icmp .ge 23, 3) := by decide +kernel
theorem d18_22 : decode jdk_33_method_13_code 22 = .ok (.iload_n 0, 1) := by decide +kernel
theorem d18_23 : decode jdk_33_method_13_code 23 = .ok (.iload_n 2, 1) := by decide +kernel
theorem d18_24 : decode jdk_33_method_13_code 24 = .ok (.if_icmp .le 7, 3) := by decide +kernel
theorem d18_27 : decode jdk_33_method_13_code 27 = .ok (.iload_n 3, 1) := by decide +kernel
theorem d18_28 : decode jdk_33_method_13_code 28 = .ok (.iload_n 1, 1) := by decide +kernel
theorem d18_29 : decode jdk_33_method_13_code 29 = .ok (.iadd, 1) := by decide +kernel
theorem d18_30 : decode jdk_33_method_13_code 30 = .ok (.ireturn, 1) := by decide +kernel
theorem d18_31 : decode jdk_33_method_13_code 31 = .ok (.bipush 10, 2) := by decide +kernel
theorem d18_33 : decode jdk_33_method_13_code 33 = .ok (.iload_n 2, 1) := by decide +kernel
theorem d18_34 : decode jdk_33_method_13_code 34 = .ok (.imul, 1) := by decide +kernel
theorem d18_35 : decode jdk_33_method_13_code 35 = .ok (.istore_n 2, 1) := by decide +kernel
theorem d18_36 : decode jdk_33_method_13_code 36 = .ok (.iinc 3 1, 3) := by decide +kernel
theorem d18_39 : decode jdk_33_method_13_code 39 = .ok (.goto (-23), 3) := by decide +kernel
theorem d18_42 : decode jdk_33_method_13_code 42 = .ok (.bipush 10, 2) := by decide +kernel
theorem d18_44 : decode jdk_33_method_13_code 44 = .ok (.iload_n 1, 1) := by decide +kernel
theorem d18_45 : decode jdk_33_method_13_code 45 = .ok (.iadd, 1) := by decide +kernel
theorem d18_46 : decode jdk_33_method_13_code 46 = .ok (.ireturn, 1) := by decide +kernel
theorem pn_18 : plainFor (⟨"java/lang/Integer", "stringSize", "(I)I"⟩ : MethodName) = true := by first | (apply plainFor_of_name; simp [plainName, overriddenIn]; done) | (apply plainFor_of_name; decide +kernel) | decide +kernel
theorem pd_18 : parseMethodDescriptor "(I)I" = some ⟨[.int], (some .int)⟩ := by decide +kernel
theorem d25_0 : decode jdk_33_method_12_code 0 = .ok (.iload_n 1, 1) := by decide +kernel
theorem d25_1 : decode jdk_33_method_12_code 1 = .ok (.istore 5, 2) := by decide +kernel
theorem d25_3 : decode jdk_33_method_12_code 3 = .ok (.iload_n 0, 1) := by decide +kernel
theorem d25_4 : decode jdk_33_method_12_code 4 = .ok (.ifCond .ge 7, 3) := by decide +kernel
theorem d25_7 : decode jdk_33_method_12_code 7 = .ok (.iconst 1, 1) := by decide +kernel
theorem d25_8 : decode jdk_33_method_12_code 8 = .ok (.goto 4, 3) := by decide +kernel
theorem d25_11 : decode jdk_33_method_12_code 11 = .ok (.iconst 0, 1) := by decide +kernel
theorem d25_12 : decode jdk_33_method_12_code 12 = .ok (.istore 6, 2) := by decide +kernel
theorem d25_14 : decode jdk_33_method_12_code 14 = .ok (.iload 6, 2) := by decide +kernel
theorem d25_16 : decode jdk_33_method_12_code 16 = .ok (.ifCond .ne 6, 3) := by decide +kernel
theorem d25_19 : decode jdk_33_method_12_code 19 = .ok (.iload_n 0, 1) := by decide +kernel
theorem d25_20 : decode jdk_33_method_12_code 20 = .ok (.ineg, 1) := by decide +kernel
theorem d25_21 : decode jdk_33_method_12_code 21 = .ok (.istore_n 0, 1) := by decide +kernel
theorem d25_22 : decode jdk_33_method_12_code 22 = .ok (.iload_n 0, 1) := by decide +kernel
theorem d25_23 : decode jdk_33_method_12_code 23 = .ok (.bipush (-100), 2) := by decide +kernel
theorem d25_25 : decode jdk_33_method_12_code 25 = .ok (.if_icmp .gt 47, 3) := by decide +kernel
theorem d25_28 : decode jdk_33_method_12_code 28 = .ok (.iload_n 0, 1) := by decide +kernel
theorem d25_29 : decode jdk_33_method_12_code 29 = .ok (.bipush 100, 2) := by decide +kernel
theorem d25_31 : decode jdk_33_method_12_code 31 = .ok (.idiv, 1) := by decide +kernel
theorem d25_32 : decode jdk_33_method_12_code 32 = .ok (.istore_n 3, 1) := by decide +kernel
theorem d25_33 : decode jdk_33_method_12_code 33 = .ok (.iload_n 3, 1) := by decide +kernel
theorem d25_34 : decode jdk_33_method_12_code 34 = .ok (.bipush 100, 2) := by decide +kernel
theorem d25_36 : decode jdk_33_method_12_code 36 = .ok (.imul, 1) := by decide +kernel
theorem d25_37 : decode jdk_33_method_12_code 37 = .ok (.iload_n 0, 1) := by decide +kernel
theorem d25_38 : decode jdk_33_method_12_code 38 = .ok (.isub, 1) := by decide +kernel
theorem d25_39 : decode jdk_33_method_12_code 39 = .ok (.istore 4, 2) := by decide +kernel
theorem d25_41 : decode jdk_33_method_12_code 41 = .ok (.iload_n 3, 1) := by decide +kernel
theorem d25_42 : decode jdk_33_method_12_code 42 = .ok (.istore_n 0, 1) := by decide +kernel
theorem d25_43 : decode jdk_33_method_12_code 43 = .ok (.aload_n 2, 1) := by decide +kernel
theorem d25_44 : decode jdk_33_method_12_code 44 = .ok (.iinc 5 (-1), 3) := by decide +kernel
theorem d25_47 : decode jdk_33_method_12_code 47 = .ok (.iload 5, 2) := by decide +kernel
theorem d25_49 : decode jdk_33_method_12_code 49 = .ok (.getstatic 83, 3) := by decide +kernel
theorem d25_52 : decode jdk_33_method_12_code 52 = .ok (.iload 4, 2) := by decide +kernel
theorem d25_54 : decode jdk_33_method_12_code 54 = .ok (.baload, 1) := by decide +kernel
theorem d25_55 : decode jdk_33_method_12_code 55 = .ok (.bastore, 1) := by decide +kernel
theorem d25_56 : decode jdk_33_method_12_code 56 = .ok (.aload_n 2, 1) := by decide +kernel
theorem d25_57 : decode jdk_33_method_12_code 57 = .ok (.iinc 5 (-1), 3) := by decide +kernel
theorem d25_60 : decode jdk_33_method_12_code 60 = .ok (.iload 5, 2) := by decide +kernel
theorem d25_62 : decode jdk_33_method_12_code 62 = .ok (.getstatic 87, 3) := by decide +kernel
theorem d25_65 : decode jdk_33_method_12_code 65 = .ok (.iload 4, 2) := by decide +kernel
theorem d25_67 : decode jdk_33_method_12_code 67 = .ok (.baload, 1) := by decide +kernel
theorem d25_68 : decode jdk_33_method_12_code 68 = .ok (.bastore, 1) := by decide +kernel
theorem d25_69 : decode jdk_33_method_12_code 69 = .ok (.goto (-47), 3) := by decide +kernel
theorem d25_72 : decode jdk_33_method_12_code 72 = .ok (.aload_n 2, 1) := by decide +kernel
theorem d25_73 : decode jdk_33_method_12_code 73 = .ok (.iinc 5 (-1), 3) := by decide +kernel
theorem d25_76 : decode jdk_33_method_12_code 76 = .ok (.iload 5, 2) := by decide +kernel
theorem d25_78 : decode jdk_33_method_12_code 78 = .ok (.getstatic 83, 3) := by decide +kernel
theorem d25_81 : decode jdk_33_method_12_code 81 = .ok (.iload_n 0, 1) := by decide +kernel
theorem d25_82 : decode jdk_33_method_12_code 82 = .ok (.ineg, 1) := by decide +kernel
theorem d25_83 : decode jdk_33_method_12_code 83 = .ok (.baload, 1) := by decide +kernel
theorem d25_84 : decode jdk_33_method_12_code 84 = .ok (.bastore, 1) := by decide +kernel
theorem d25_85 : decode jdk_33_method_12_code 85 = .ok (.iload_n 0, 1) := by decide +kernel
theorem d25_86 : decode jdk_33_method_12_code 86 = .ok (.bipush (-9), 2) := by decide +kernel
theorem d25_88 : decode jdk_33_method_12_code 88 = .ok (.if_icmp .ge 16, 3) := by decide +kernel
theorem d25_91 : decode jdk_33_method_12_code 91 = .ok (.aload_n 2, 1) := by decide +kernel
theorem d25_92 : decode jdk_33_method_12_code 92 = .ok (.iinc 5 (-1), 3) := by decide +kernel
theorem d25_95 : decode jdk_33_method_12_code 95 = .ok (.iload 5, 2) := by decide +kernel
theorem d25_97 : decode jdk_33_method_12_code 97 = .ok (.getstatic 87, 3) := by decide +kernel
theorem d25_100 : decode jdk_33_method_12_code 100 = .ok (.iload_n 0, 1) := by decide +kernel
theorem d25_101 : decode jdk_33_method_12_code 101 = .ok (.ineg, 1) := by decide +kernel
theorem d25_102 : decode jdk_33_method_12_code 102 = .ok (.baload, 1) := by decide +kernel
theorem d25_103 : decode jdk_33_method_12_code 103 = .ok (.bastore, 1) := by decide +kernel
theorem d25_104 : decode jdk_33_method_12_code 104 = .ok (.iload 6, 2) := by decide +kernel
theorem d25_106 : decode jdk_33_method_12_code 106 = .ok (.ifCond .eq 12, 3) := by decide +kernel
theorem d25_109 : decode jdk_33_method_12_code 109 = .ok (.aload_n 2, 1) := by decide +kernel
theorem d25_110 : decode jdk_33_method_12_code 110 = .ok (.iinc 5 (-1), 3) := by decide +kernel
theorem d25_113 : decode jdk_33_method_12_code 113 = .ok (.iload 5, 2) := by decide +kernel
theorem d25_115 : decode jdk_33_method_12_code 115 = .ok (.bipush 45, 2) := by decide +kernel
theorem d25_117 : decode jdk_33_method_12_code 117 = .ok (.bastore, 1) := by decide +kernel
theorem d25_118 : decode jdk_33_method_12_code 118 = .ok (.iload 5, 2) := by decide +kernel
theorem d25_120 : decode jdk_33_method_12_code 120 = .ok (.ireturn, 1) := by decide +kernel
theorem pn_25 : plainFor (⟨"java/lang/Integer", "getChars", "(II[B)I"⟩ : MethodName) = true := by first | (apply plainFor_of_name; simp [plainName, overriddenIn]; done) | (apply plainFor_of_name; decide +kernel) | decide +kernel
theorem pd_25 : parseMethodDescriptor "(II[B)I" = some ⟨[.int, .int, (.array .byte)], (some .int)⟩ := by decide +kernel
theorem d24_0 : decode jdk_68_method_68_code 0 = .ok (.getstatic 18, 3) := by decide +kernel
theorem d24_3 : decode jdk_68_method_68_code 3 = .ok (.ifCond .eq 14, 3) := by decide +kernel
theorem d24_6 : decode jdk_68_method_68_code 6 = .ok (.aload_n 0, 1) := by decide +kernel
theorem d24_7 : decode jdk_68_method_68_code 7 = .ok (.getfield 22, 3) := by decide +kernel
theorem d24_10 : decode jdk_68_method_68_code 10 = .ok (.ifCond .ne 7, 3) := by decide +kernel
theorem d24_13 : decode jdk_68_method_68_code 13 = .ok (.iconst 1, 1) := by decide +kernel
theorem d24_14 : decode jdk_68_method_68_code 14 = .ok (.goto 4, 3) := by decide +kernel
theorem d24_17 : decode jdk_68_method_68_code 17 = .ok (.iconst 0, 1) := by decide +kernel
theorem d24_18 : decode jdk_68_method_68_code 18 = .ok (.ireturn, 1) := by decide +kernel
theorem pn_24 : plainFor (⟨"java/lang/AbstractStringBuilder", "isLatin1", "()Z"⟩ : MethodName) = true := by first | (apply plainFor_of_name; simp [plainName, overriddenIn]; done) | (apply plainFor_of_name; decide +kernel) | decide +kernel
theorem pd_24 : parseMethodDescriptor "()Z" = some ⟨[], (some .boolean)⟩ := by decide +kernel
theorem d17_0 : decode jdk_68_method_32_code 0 = .ok (.aload_n 0, 1) := by decide +kernel
theorem d17_1 : decode jdk_68_method_32_code 1 = .ok (.getfield 79, 3) := by decide +kernel
theorem d17_4 : decode jdk_68_method_32_code 4 = .ok (.istore_n 2, 1) := by decide +kernel
theorem d17_5 : decode jdk_68_method_32_code 5 = .ok (.iload_n 2, 1) := by decide +kernel
theorem d17_6 : decode jdk_68_method_32_code 6 = .ok (.iload_n 1, 1) := by decide +kernel
theorem d17_7 : decode jdk_68_method_32_code 7 = .ok (.invokestatic 245, 3) := by decide +kernel
theorem d17_10 : decode jdk_68_method_32_code 10 = .ok (.iadd, 1) := by decide +kernel
theorem d17_11 : decode jdk_68_method_32_code 11 = .ok (.istore_n 3, 1) := by decide +kernel
theorem d17_12 : decode jdk_68_method_32_code 12 = .ok (.aload_n 0, 1) := by decide +kernel
theorem d17_13 : decode jdk_68_method_32_code 13 = .ok (.iload_n 3, 1) := by decide +kernel
theorem d17_14 : decode jdk_68_method_32_code 14 = .ok (.invokevirtual 100, 3) := by decide +kernel
theorem d17_17 : decode jdk_68_method_32_code 17 = .ok (.aload_n 0, 1) := by decide +kernel
theorem d17_18 : decode jdk_68_method_32_code 18 = .ok (.invokevirtual 83, 3) := by decide +kernel
theorem d17_21 : decode jdk_68_method_32_code 21 = .ok (.ifCond .eq 16, 3) := by decide +kernel
theorem d17_24 : decode jdk_68_method_32_code 24 = .ok (.iload_n 1, 1) := by decide +kernel
theorem d17_25 : decode jdk_68_method_32_code 25 = .ok (.iload_n 3, 1) := by decide +kernel
theorem d17_26 : decode jdk_68_method_32_code 26 = .ok (.aload_n 0, 1) := by decide +kernel
theorem d17_27 : decode jdk_68_method_32_code 27 = .ok (.getfield 15, 3) := by decide +kernel
theorem d17_30 : decode jdk_68_method_32_code 30 = .ok (.invokestatic 248, 3) := by decide +kernel
theorem d17_33 : decode jdk_68_method_32_code 33 = .ok (.pop, 1) := by decide +kernel
theorem d17_34 : decode jdk_68_method_32_code 34 = .ok (.goto 14, 3) := by decide +kernel
theorem d17_37 : decode jdk_68_method_32_code 37 = .ok (.iload_n 1, 1) := by decide +kernel
theorem d17_38 : decode jdk_68_method_32_code 38 = .ok (.iload_n 2, 1) := by decide +kernel
theorem d17_39 : decode jdk_68_method_32_code 39 = .ok (.iload_n 3, 1) := by decide +kernel
theorem d17_40 : decode jdk_68_method_32_code 40 = .ok (.aload_n 0, 1) := by decide +kernel
theorem d17_41 : decode jdk_68_method_32_code 41 = .ok (.getfield 15, 3) := by decide +kernel
theorem d17_44 : decode jdk_68_method_32_code 44 = .ok (.invokestatic 251, 3) := by decide +kernel
theorem d17_47 : decode jdk_68_method_32_code 47 = .ok (.pop, 1) := by decide +kernel
theorem d17_48 : decode jdk_68_method_32_code 48 = .ok (.aload_n 0, 1) := by decide +kernel
theorem d17_49 : decode jdk_68_method_32_code 49 = .ok (.iload_n 3, 1) := by decide +kernel
theorem d17_50 : decode jdk_68_method_32_code 50 = .ok (.putfield 79, 3) := by decide +kernel
theorem d17_53 : decode jdk_68_method_32_code 53 = .ok (.aload_n 0, 1) := by decide +kernel
theorem d17_54 : decode jdk_68_method_32_code 54 = .ok (.areturn, 1) := by decide +kernel
theorem pn_17 : plainFor (⟨"java/lang/AbstractStringBuilder", "append", "(I)Ljava/lang/AbstractStringBuilder;"⟩ : MethodName) = true := by first | (apply plainFor_of_name; simp [plainName, overriddenIn]; done) | (apply plainFor_of_name; decide +kernel) | decide +kernel
theorem pd_17 : parseMethodDescriptor "(I)Ljava/lang/AbstractStringBuilder;" = some ⟨[.int], (some (.object "java/lang/AbstractStringBuilder"))⟩ := by decide +kernel
theorem d16_0 : decode jdk_67_method_15_code 0 = .ok (.aload_n 0, 1) := by decide +kernel
theorem d16_1 : decode jdk_67_method_15_code 1 = .ok (.iload_n 1, 1) := by decide +kernel
theorem d16_2 : decode jdk_67_method_15_code 2 = .ok (.invokespecial 53, 3) := by decide +kernel
theorem d16_5 : decode jdk_67_method_15_code 5 = .ok (.pop, 1) := by decide +kernel
theorem d16_6 : decode jdk_67_method_15_code 6 = .ok (.aload_n 0, 1) := by decide +kernel
theorem d16_7 : decode jdk_67_method_15_code 7 = .ok (.areturn, 1) := by decide +kernel
theorem pn_16 : plainFor (⟨"java/lang/StringBuilder", "append", "(I)Ljava/lang/StringBuilder;"⟩ : MethodName) = true := by first | (apply plainFor_of_name; simp [plainName, overriddenIn]; done) | (apply plainFor_of_name; decide +kernel) | decide +kernel
theorem pd_16 : parseMethodDescriptor "(I)Ljava/lang/StringBuilder;" = some ⟨[.int], (some (.object "java/lang/StringBuilder"))⟩ := by decide +kernel
theorem d26_0 : decode jdk_67_method_42_code 0 = .ok (.new 18, 3) := by decide +kernel
theorem d26_3 : decode jdk_67_method_42_code 3 = .ok (.dup, 1) := by decide +kernel
theorem d26_4 : decode jdk_67_method_42_code 4 = .ok (.aload_n 0, 1) := by decide +kernel
theorem d26_5 : decode jdk_67_method_42_code 5 = .ok (.invokespecial 137, 3) := by decide +kernel
theorem d26_8 : decode jdk_67_method_42_code 8 = .ok (.areturn, 1) := by decide +kernel
theorem pn_26 : plainFor (⟨"java/lang/StringBuilder", "toString", "()Ljava/lang/String;"⟩ : MethodName) = true := by first | (apply plainFor_of_name; simp [plainName, overriddenIn]; done) | (apply plainFor_of_name; decide +kernel) | decide +kernel
theorem pd_26 : parseMethodDescriptor "()Ljava/lang/String;" = some ⟨[], (some (.object "java/lang/String"))⟩ := by decide +kernel
theorem d27_0 : decode jdk_42_method_53_code 0 = .ok (.aload_n 0, 1) := by decide +kernel
theorem d27_1 : decode jdk_42_method_53_code 1 = .ok (.aload_n 1, 1) := by decide +kernel
theorem d27_2 : decode jdk_42_method_53_code 2 = .ok (.aconst_null, 1) := by decide +kernel
theorem d27_3 : decode jdk_42_method_53_code 3 = .ok (.invokespecial 489, 3) := by decide +kernel
theorem d27_6 : decode jdk_42_method_53_code 6 = .ok (.return_, 1) := by decide +kernel
theorem pn_27 : plainFor (⟨"java/lang/String", "<init>", "(Ljava/lang/StringBuilder;)V"⟩ : MethodName) = true := by first | (apply plainFor_of_name; simp [plainName, overriddenIn]; done) | (apply plainFor_of_name; decide +kernel) | decide +kernel
theorem pd_27 : parseMethodDescriptor "(Ljava/lang/StringBuilder;)V" = some ⟨[(.object "java/lang/StringBuilder")], none⟩ := by decide +kernel
theorem d28_0 : decode jdk_42_method_150_code 0 = .ok (.aload_n 0, 1) := by decide +kernel
theorem d28_1 : decode jdk_42_method_150_code 1 = .ok (.invokespecial 1, 3) := by decide +kernel
theorem d28_4 : decode jdk_42_method_150_code 4 = .ok (.aload_n 1, 1) := by decide +kernel
theorem d28_5 : decode jdk_42_method_150_code 5 = .ok (.invokevirtual 552, 3) := by decide +kernel
theorem d28_8 : decode jdk_42_method_150_code 8 = .ok (.astore_n 3, 1) := by decide +kernel
theorem d28_9 : decode jdk_42_method_150_code 9 = .ok (.aload_n 1, 1) := by decide +kernel
theorem d28_10 : decode jdk_42_method_150_code 10 = .ok (.invokevirtual 549, 3) := by decide +kernel
theorem d28_13 : decode jdk_42_method_150_code 13 = .ok (.istore 4, 2) := by decide +kernel
theorem d28_15 : decode jdk_42_method_150_code 15 = .ok (.aload_n 1, 1) := by decide +kernel
theorem d28_16 : decode jdk_42_method_150_code 16 = .ok (.invokevirtual 1047, 3) := by decide +kernel
theorem d28_19 : decode jdk_42_method_150_code 19 = .ok (.ifCond .eq 22, 3) := by decide +kernel
theorem d28_22 : decode jdk_42_method_150_code 22 = .ok (.aload_n 0, 1) := by decide +kernel
theorem d28_23 : decode jdk_42_method_150_code 23 = .ok (.iconst 0, 1) := by decide +kernel
theorem d28_24 : decode jdk_42_method_150_code 24 = .ok (.putfield 15, 3) := by decide +kernel
theorem d28_27 : decode jdk_42_method_150_code 27 = .ok (.aload_n 0, 1) := by decide +kernel
theorem d28_28 : decode jdk_42_method_150_code 28 = .ok (.aload_n 3, 1) := by decide +kernel
theorem d28_29 : decode jdk_42_method_150_code 29 = .ok (.iconst 0, 1) := by decide +kernel
theorem d28_30 : decode jdk_42_method_150_code 30 = .ok (.iload 4, 2) := by decide +kernel
theorem d28_32 : decode jdk_42_method_150_code 32 = .ok (.invokestatic 54, 3) := by decide +kernel
theorem d28_35 : decode jdk_42_method_150_code 35 = .ok (.putfield 9, 3) := by decide +kernel
theorem d28_38 : decode jdk_42_method_150_code 38 = .ok (.goto 59, 3) := by decide +kernel
theorem d28_41 : decode jdk_42_method_150_code 41 = .ok (.getstatic 38, 3) := by decide +kernel
theorem d28_44 : decode jdk_42_method_150_code 44 = .ok (.ifCond .eq 35, 3) := by decide +kernel
theorem d28_47 : decode jdk_42_method_150_code 47 = .ok (.aload_n 1, 1) := by decide +kernel
theorem d28_48 : decode jdk_42_method_150_code 48 = .ok (.getfield 1048, 3) := by decide +kernel
theorem d28_51 : decode jdk_42_method_150_code 51 = .ok (.ifCond .eq 28, 3) := by decide +kernel
theorem d28_54 : decode jdk_42_method_150_code 54 = .ok (.aload_n 0, 1) := by decide +kernel
theorem d28_55 : decode jdk_42_method_150_code 55 = .ok (.aload_n 3, 1) := by decide +kernel
theorem d28_56 : decode jdk_42_method_150_code 56 = .ok (.iconst 0, 1) := by decide +kernel
theorem d28_57 : decode jdk_42_method_150_code 57 = .ok (.iload 4, 2) := by decide +kernel
theorem d28_59 : decode jdk_42_method_150_code 59 = .ok (.invokestatic 1051, 3) := by decide +kernel
theorem d28_62 : decode jdk_42_method_150_code 62 = .ok (.putfield 9, 3) := by decide +kernel
theorem d28_65 : decode jdk_42_method_150_code 65 = .ok (.aload_n 0, 1) := by decide +kernel
theorem d28_66 : decode jdk_42_method_150_code 66 = .ok (.aload_n 0, 1) := by decide +kernel
theorem d28_67 : decode jdk_42_method_150_code 67 = .ok (.getfield 9, 3) := by decide +kernel
theorem d28_70 : decode jdk_42_method_150_code 70 = .ok (.iload 4, 2) := by decide +kernel
theorem d28_72 : decode jdk_42_method_150_code 72 = .ok (.invokestatic 47, 3) := by decide +kernel
theorem d28_75 : decode jdk_42_method_150_code 75 = .ok (.putfield 15, 3) := by decide +kernel
theorem d28_78 : decode jdk_42_method_150_code 78 = .ok (.return_, 1) := by decide +kernel
theorem d28_79 : decode jdk_42_method_150_code 79 = .ok (.aload_n 0, 1) := by decide +kernel
theorem d28_80 : decode jdk_42_method_150_code 80 = .ok (.iconst 1, 1) := by decide +kernel
theorem d28_81 : decode jdk_42_method_150_code 81 = .ok (.putfield 15, 3) := by decide +kernel
theorem d28_84 : decode jdk_42_method_150_code 84 = .ok (.aload_n 0, 1) := by decide +kernel
theorem d28_85 : decode jdk_42_method_150_code 85 = .ok (.aload_n 3, 1) := by decide +kernel
theorem d28_86 : decode jdk_42_method_150_code 86 = .ok (.iconst 0, 1) := by decide +kernel
theorem d28_87 : decode jdk_42_method_150_code 87 = .ok (.iload 4, 2) := by decide +kernel
theorem d28_89 : decode jdk_42_method_150_code 89 = .ok (.iconst 1, 1) := by decide +kernel
theorem d28_90 : decode jdk_42_method_150_code 90 = .ok (.ishl, 1) := by decide +kernel
theorem d28_91 : decode jdk_42_method_150_code 91 = .ok (.invokestatic 54, 3) := by decide +kernel
theorem d28_94 : decode jdk_42_method_150_code 94 = .ok (.putfield 9, 3) := by decide +kernel
theorem d28_97 : decode jdk_42_method_150_code 97 = .ok (.return_, 1) := by decide +kernel
theorem pn_28 : plainFor (⟨"java/lang/String", "<init>", "(Ljava/lang/AbstractStringBuilder;Ljava/lang/Void;)V"⟩ : MethodName) = true := by first | (apply plainFor_of_name; simp [plainName, overriddenIn]; done) | (apply plainFor_of_name; decide +kernel) | decide +kernel
theorem pd_28 : parseMethodDescriptor "(Ljava/lang/AbstractStringBuilder;Ljava/lang/Void;)V" = some ⟨[(.object "java/lang/AbstractStringBuilder"), (.object "java/lang/Void")], none⟩ := by decide +kernel
theorem d29_0 : decode jdk_68_method_64_code 0 = .ok (.aload_n 0, 1) := by decide +kernel
theorem d29_1 : decode jdk_68_method_64_code 1 = .ok (.getfield 15, 3) := by decide +kernel
theorem d29_4 : decode jdk_68_method_64_code 4 = .ok (.areturn, 1) := by decide +kernel
theorem pn_29 : plainFor (⟨"java/lang/AbstractStringBuilder", "getValue", "()[B"⟩ : MethodName) = true := by first | (apply plainFor_of_name; simp [plainName, overriddenIn]; done) | (apply plainFor_of_name; decide +kernel) | decide +kernel
theorem pd_29 : parseMethodDescriptor "()[B" = some ⟨[], (some (.array .byte))⟩ := by decide +kernel
theorem d30_0 : decode jdk_67_method_93_code 0 = .ok (.aload_n 0, 1) := by decide +kernel
theorem d30_1 : decode jdk_67_method_93_code 1 = .ok (.invokespecial 343, 3) := by decide +kernel
theorem d30_4 : decode jdk_67_method_93_code 4 = .ok (.ireturn, 1) := by decide +kernel
theorem pn_30 : plainFor (⟨"java/lang/StringBuilder", "length", "()I"⟩ : MethodName) = true := by first | (apply plainFor_of_name; simp [plainName, overriddenIn]; done) | (apply plainFor_of_name; decide +kernel) | decide +kernel
theorem pd_30 : parseMethodDescriptor "()I" = some ⟨[], (some .int)⟩ := by decide +kernel
theorem d31_0 : decode jdk_68_method_6_code 0 = .ok (.aload_n 0, 1) := by decide +kernel
theorem d31_1 : decode jdk_68_method_6_code 1 = .ok (.getfield 79, 3) := by decide +kernel
theorem d31_4 : decode jdk_68_method_6_code 4 = .ok (.ireturn, 1) := by decide +kernel
theorem pn_31 : plainFor (⟨"java/lang/AbstractStringBuilder", "length", "()I"⟩ : MethodName) = true := by first | (apply plainFor_of_name; simp [plainName, overriddenIn]; done) | (apply plainFor_of_name; decide +kernel) | decide +kernel
theorem pd_31 : parseMethodDescriptor "()I" = some ⟨[], (some .int)⟩ := by decide +kernel
theorem d32_0 : decode jdk_65_method_132_code 0 = .ok (.iload_n 1, 1) := by decide +kernel
theorem d32_1 : decode jdk_65_method_132_code 1 = .ok (.ifCond .ne 9, 3) := by decide +kernel
theorem d32_4 : decode jdk_65_method_132_code 4 = .ok (.iload_n 2, 1) := by decide +kernel
theorem d32_5 : decode jdk_65_method_132_code 5 = .ok (.aload_n 0, 1) := by decide +kernel
theorem d32_6 : decode jdk_65_method_132_code 6 = .ok (.arraylength, 1) := by decide +kernel
theorem d32_7 : decode jdk_65_method_132_code 7 = .ok (.if_icmp .eq 10, 3) := by decide +kernel
theorem d32_10 : decode jdk_65_method_132_code 10 = .ok (.aload_n 0, 1) := by decide +kernel
theorem d32_11 : decode jdk_65_method_132_code 11 = .ok (.iload_n 1, 1) := by decide +kernel
theorem d32_12 : decode jdk_65_method_132_code 12 = .ok (.iload_n 2, 1) := by decide +kernel
theorem d32_13 : decode jdk_65_method_132_code 13 = .ok (.invokestatic 339, 3) := by decide +kernel
theorem d32_16 : decode jdk_65_method_132_code 16 = .ok (.areturn, 1) := by decide +kernel
theorem d32_17 : decode jdk_65_method_132_code 17 = .ok (.aload_n 0, 1) := by decide +kernel
theorem d32_18 : decode jdk_65_method_132_code 18 = .ok (.invokevirtual 310, 3) := by decide +kernel
theorem d32_21 : decode jdk_65_method_132_code 21 = .ok (.checkcast 311, 3) := by decide +kernel
theorem d32_24 : decode jdk_65_method_132_code 24 = .ok (.areturn, 1) := by decide +kernel
theorem pn_32 : plainFor (⟨"java/util/Arrays", "copyOfRange", "([BII)[B"⟩ : MethodName) = true := by first | (apply plainFor_of_name; simp [plainName, overriddenIn]; done) | (apply plainFor_of_name; decide +kernel) | decide +kernel
theorem pd_32 : parseMethodDescriptor "([BII)[B" = some ⟨[(.array .byte), .int, .int], (some (.array .byte))⟩ := by decide +kernel
theorem d33_0 : decode jdk_65_method_133_code 0 = .ok (.iload_n 1, 1) := by decide +kernel
theorem d33_1 : decode jdk_65_method_133_code 1 = .ok (.iload_n 2, 1) := by decide +kernel
theorem d33_2 : decode jdk_65_method_133_code 2 = .ok (.invokestatic 343, 3) := by decide +kernel
theorem d33_5 : decode jdk_65_method_133_code 5 = .ok (.iload_n 2, 1) := by decide +kernel
theorem d33_6 : decode jdk_65_method_133_code 6 = .ok (.iload_n 1, 1) := by decide +kernel
theorem d33_7 : decode jdk_65_method_133_code 7 = .ok (.isub, 1) := by decide +kernel
theorem d33_8 : decode jdk_65_method_133_code 8 = .ok (.istore_n 3, 1) := by decide +kernel
theorem d33_9 : decode jdk_65_method_133_code 9 = .ok (.iload_n 3, 1) := by decide +kernel
theorem d33_10 : decode jdk_65_method_133_code 10 = .ok (.newarray .byte, 2) := by decide +kernel
theorem d33_12 : decode jdk_65_method_133_code 12 = .ok (.astore 4, 2) := by decide +kernel
theorem d33_14 : decode jdk_65_method_133_code 14 = .ok (.aload_n 0, 1) := by decide +kernel
theorem d33_15 : decode jdk_65_method_133_code 15 = .ok (.iload_n 1, 1) := by decide +kernel
theorem d33_16 : decode jdk_65_method_133_code 16 = .ok (.aload 4, 2) := by decide +kernel
theorem d33_18 : decode jdk_65_method_133_code 18 = .ok (.iconst 0, 1) := by decide +kernel
theorem d33_19 : decode jdk_65_method_133_code 19 = .ok (.aload_n 0, 1) := by decide +kernel
theorem d33_20 : decode jdk_65_method_133_code 20 = .ok (.arraylength, 1) := by decide +kernel
theorem d33_21 : decode jdk_65_method_133_code 21 = .ok (.iload_n 1, 1) := by decide +kernel
theorem d33_22 : decode jdk_65_method_133_code 22 = .ok (.isub, 1) := by decide +kernel
theorem d33_23 : decode jdk_65_method_133_code 23 = .ok (.iload_n 3, 1) := by decide +kernel
theorem d33_24 : decode jdk_65_method_133_code 24 = .ok (.invokestatic 304, 3) := by decide +kernel
theorem d33_27 : decode jdk_65_method_133_code 27 = .ok (.invokestatic 150, 3) := by decide +kernel
theorem d33_30 : decode jdk_65_method_133_code 30 = .ok (.aload 4, 2) := by decide +kernel
theorem d33_32 : decode jdk_65_method_133_code 32 = .ok (.areturn, 1) := by decide +kernel
theorem pn_33 : plainFor (⟨"java/util/Arrays", "copyOfRangeByte", "([BII)[B"⟩ : MethodName) = true := by first | (apply plainFor_of_name; simp [plainName, overriddenIn]; done) | (apply plainFor_of_name; decide +kernel) | decide +kernel
theorem pd_33 : parseMethodDescriptor "([BII)[B" = some ⟨[(.array .byte), .int, .int], (some (.array .byte))⟩ := by decide +kernel
theorem d34_0 : decode jdk_65_method_131_code 0 = .ok (.iload_n 1, 1) := by decide +kernel
theorem d34_1 : decode jdk_65_method_131_code 1 = .ok (.iload_n 0, 1) := by decide +kernel
theorem d34_2 : decode jdk_65_method_131_code 2 = .ok (.if_icmp .ge 35, 3) := by decide +kernel
theorem d34_5 : decode jdk_65_method_131_code 5 = .ok (.new 43, 3) := by decide +kernel
theorem d34_8 : decode jdk_65_method_131_code 8 = .ok (.dup, 1) := by decide +kernel
theorem d34_9 : decode jdk_65_method_131_code 9 = .ok (.new 45, 3) := by decide +kernel
theorem d34_12 : decode jdk_65_method_131_code 12 = .ok (.dup, 1) := by decide +kernel
theorem d34_13 : decode jdk_65_method_131_code 13 = .ok (.invokespecial 47, 3) := by decide +kernel
theorem d34_16 : decode jdk_65_method_131_code 16 = .ok (.iload_n 0, 1) := by decide +kernel
theorem d34_17 : decode jdk_65_method_131_code 17 = .ok (.invokevirtual 54, 3) := by decide +kernel
theorem d34_20 : decode jdk_65_method_131_code 20 = .ok (.ldc_w 337, 3) := by decide +kernel
theorem d34_23 : decode jdk_65_method_131_code 23 = .ok (.invokevirtual 50, 3) := by decide +kernel
theorem d34_26 : decode jdk_65_method_131_code 26 = .ok (.iload_n 1, 1) := by decide +kernel
theorem d34_27 : decode jdk_65_method_131_code 27 = .ok (.invokevirtual 54, 3) := by decide +kernel
theorem d34_30 : decode jdk_65_method_131_code 30 = .ok (.invokevirtual 61, 3) := by decide +kernel
theorem d34_33 : decode jdk_65_method_131_code 33 = .ok (.invokespecial 65, 3) := by decide +kernel
theorem d34_36 : decode jdk_65_method_131_code 36 = .ok (.athrow, 1) := by decide +kernel
theorem d34_37 : decode jdk_65_method_131_code 37 = .ok (.return_, 1) := by decide +kernel
theorem pn_34 : plainFor (⟨"java/util/Arrays", "checkLength", "(II)V"⟩ : MethodName) = true := by first | (apply plainFor_of_name; simp [plainName, overriddenIn]; done) | (apply plainFor_of_name; decide +kernel) | decide +kernel
theorem pd_34 : parseMethodDescriptor "(II)V" = some ⟨[.int, .int], none⟩ := by decide +kernel

def own_SBv (vs : List Value) (cs : List Int32) : Prop := cs.length ≤ vs.length ∧ (∀ v ∈ vs, fits .byte v = true) ∧ ∀ (j : Nat) (c : Int32), cs[j]? = some c → vs[j]? = some (Value.int (own_lo c)) ∧ ¬ 255 < c
def own_cap (need cap : Nat) : Nat := if need ≤ cap then cap else 2 * cap + 2
theorem own_SBv0 (n : Nat) : own_SBv (List.replicate n (.int 0)) [] := ⟨Nat.zero_le _, fun v hv => by rw [(List.mem_replicate.mp hv).2]; rfl, fun j c q => by simp at q⟩
theorem own_addN {a b : Nat} (h : a + b < 2147483648) : Int32.ofNat a + Int32.ofNat b = Int32.ofNat (a + b) := by
  apply Int32.toInt_inj.mp
  have h1 := c_iadd (Int32.ofNat a) (Int32.ofNat b)
  have h9 := rng32 (Int32.ofNat a + Int32.ofNat b)
  rw [own_ti (by omega), own_ti (by omega)] at h1
  rw [own_ti h]
  omega
theorem own_subN {a b : Nat} (h : a < 2147483648) (hb : b ≤ a) : Int32.ofNat a - Int32.ofNat b = Int32.ofNat (a - b) := by
  apply Int32.toInt_inj.mp
  have h1 := c_isub (Int32.ofNat a) (Int32.ofNat b)
  have h9 := rng32 (Int32.ofNat a - Int32.ofNat b)
  rw [own_ti (by omega), own_ti (by omega)] at h1
  rw [own_ti (by omega)]
  omega
theorem own_shl0 (x : Int32) : x <<< ((0 : Int32) &&& 31) = x := by
  apply Int32.toInt_inj.mp
  have h1 := c_ishl x 0 0 (by decide)
  have h2 := rng32 (x <<< ((0 : Int32) &&& 31))
  have h3 := rng32 x
  omega
theorem own_subgt {a b : Nat} (ha : a < 2147483648) (hb : b < 2147483648) : (0 : Int32) < Int32.ofNat a - Int32.ofNat b ↔ b < a := by
  have h1 := c_isub (Int32.ofNat a) (Int32.ofNat b)
  have h9 := rng32 (Int32.ofNat a - Int32.ofNat b)
  rw [own_ti ha, own_ti hb] at h1
  rw [Int32.lt_iff_toInt_lt]
  have k : (0 : Int32).toInt = 0 := by decide
  omega
theorem own_SBgrow {vs : List Value} {cs : List Int32} {n : Nat} (h : own_SBv vs cs) (hn : vs.length ≤ n) : own_SBv ((List.replicate n (Value.int 0)).take 0 ++ vs.take vs.length ++ (List.replicate n (Value.int 0)).drop (0 + vs.length)) cs := by
  rw [List.take_zero, List.nil_append, List.take_length]
  refine ⟨?_, ?_, ?_⟩
  · rw [List.length_append]; have := h.1; omega
  · intro v hv
    rcases List.mem_append.mp hv with q | q
    · exact h.2.1 v q
    · rw [(List.mem_replicate.mp (List.mem_of_mem_drop q)).2]; rfl
  · intro j c hc
    obtain ⟨q1, q2⟩ := h.2.2 j c hc
    refine ⟨?_, q2⟩
    rw [List.getElem?_append_left (List.getElem?_eq_some_iff.mp q1).1]; exact q1
theorem own_SBapp {vs us : List Value} {cs ds : List Int32} (h : own_SBv vs cs) (hu : own_L us ds) (hl : cs.length + ds.length ≤ vs.length) : own_SBv (vs.take cs.length ++ us.take us.length ++ vs.drop (cs.length + us.length)) (cs ++ ds) := by
  rw [List.take_length]
  have h1 := h.1
  refine ⟨?_, ?_, ?_⟩
  · simp only [List.length_append, List.length_take, List.length_drop, hu.1]; omega
  · intro v hv
    rcases List.mem_append.mp hv with q | q
    · rcases List.mem_append.mp q with q | q
      · exact h.2.1 v (List.mem_of_mem_take q)
      · exact own_Lfits hu v q
    · exact h.2.1 v (List.mem_of_mem_drop q)
  · intro j c hc
    by_cases hj : j < cs.length
    · rw [List.getElem?_append_left hj] at hc
      obtain ⟨q1, q2⟩ := h.2.2 j c hc
      refine ⟨?_, q2⟩
      rw [List.append_assoc, List.getElem?_append_left (by rw [List.length_take]; omega), List.getElem?_take_of_lt hj]; exact q1
    · rw [List.getElem?_append_right (by omega)] at hc
      have hj2 := (List.getElem?_eq_some_iff.mp hc).1
      obtain ⟨q1, q2⟩ := hu.2 _ c hj2 hc
      refine ⟨?_, q2⟩
      rw [List.append_assoc, List.getElem?_append_right (by rw [List.length_take]; omega), List.length_take, Nat.min_eq_left h1, List.getElem?_append_left (by rw [hu.1]; exact hj2)]; exact q1
theorem own_capl {need cap : Nat} (h : need ≤ cap) : own_cap need cap = cap := if_pos h
theorem own_capg {need cap : Nat} (h : ¬ need ≤ cap) : own_cap need cap = 2 * cap + 2 := if_neg h
theorem own_nda {x da da' n : Nat} (h : da' = da ∨ n ≤ da') (hx : x ≠ da) (hl : x < n) : x ≠ da' := by
  rcases h with rfl | h
  · exact hx
  · omega

set_option maxRecDepth 65536 in
set_option maxHeartbeats 40000000 in
theorem rB_cod (l : Launch) (Z : State) (ag : Array Value) (hw : ∀ d ∈ tables_1, d.before ag Z = true) (a : Addr) (cx : Int32) (h0 : Heap) (n0 : Nat) (FC : Fld Z h0 a "java/lang/String" "coder" "B" (.int 0)) (SC : Sta Z h0 "java/lang/String" "COMPACT_STRINGS" "Z" (.int cx)) (hcx : ¬ cx = 0) :
    Ctr l Z (⟨"java/lang/String", "coder", "()B"⟩ : MethodName) jdk_42_method_152_code 1 (some .byte) ({ frames := 0, cells := 0, slots := 0, locals := 0 } : Room) #[.ref a] h0 (fun v h L => v = some (.int 0) ∧ Fr n0 L ∧ h0 = h) := by
  refine Ctr.of pn_11 ?_
  intro p e s m below meth c T0 X0 B e0
  refine Go.cast (f' := mkF m 0 #[.val (.ref a)] []) (by first | rfl | (simp [entryFrame, mkF, argsToLocals, Value.category, maxLocals]; done)) ?_

  refine g_getS X0 B d11_0 3 rfl (hw _ (List.mem_of_getElem? (i := 76) rfl)) Via.refl e0 SC (fun T1 X1 e1 => ?_)
  refine g_if_eq X1 B d11_3 13 6 rfl (by decide) rfl (fun z => own_abs' (hcx) z) (fun _ => ?_)
  refine g_aloadN X1 B d11_6 7 rfl rfl rfl ?_
  refine g_getF X1 B d11_7 10 rfl (hw _ (List.mem_of_getElem? (i := 26) rfl)) Via.refl e1 FC (fun T2 X2 e2 => ?_)
  refine g_goto X2 B d11_10 14 rfl (by decide) ?_
  exact g_retN X2 B d11_14 rfl rfl (by decide) (by decide) (by decide) e2 ⟨rfl, (Fr.nil n0), rfl⟩
set_option maxRecDepth 65536 in
set_option maxHeartbeats 40000000 in
theorem rB_len (l : Launch) (Z : State) (ag : Array Value) (hw : ∀ d ∈ tables_1, d.before ag Z = true) (a b : Addr) (cx : Int32) (us : List Value) (ds : List Int32) (h0 : Heap) (n0 : Nat) (Ea : Exa Z h0 a "java/lang/String") (FV : Fld Z h0 a "java/lang/String" "value" "[B" (.ref b)) (FC : Fld Z h0 a "java/lang/String" "coder" "B" (.int 0)) (Ab : Av Z h0 b .byte us) (hd : ds.length ≤ 70) (hL : own_L us ds) (SC : Sta Z h0 "java/lang/String" "COMPACT_STRINGS" "Z" (.int cx)) (hcx : ¬ cx = 0) :
    Ctr l Z (⟨"java/lang/String", "length", "()I"⟩ : MethodName) jdk_42_method_54_code 1 (some .int) ({ frames := 1, cells := 0, slots := 0, locals := 13 } : Room) #[.ref a] h0 (fun v h L => v = some (.int (Int32.ofNat ds.length)) ∧ Fr n0 L ∧ h0 = h) := by
  refine Ctr.of pn_10 ?_
  intro p e s m below meth c T0 X0 B e0
  refine Go.cast (f' := mkF m 0 #[.val (.ref a)] []) (by first | rfl | (simp [entryFrame, mkF, argsToLocals, Value.category, maxLocals]; done)) ?_

  refine g_aloadN X0 B d10_0 1 rfl rfl rfl ?_
  refine g_getF X0 B d10_1 4 rfl (hw _ (List.mem_of_getElem? (i := 25) rfl)) Via.refl e0 FV (fun T1 X1 e1 => ?_)
  refine g_arrlen X1 B (Int32.ofNat ds.length) d10_4 5 rfl e1 Ab (by rw [hL.1]) ?_
  refine g_aloadN X1 B d10_5 6 rfl rfl rfl ?_
  refine g_callV X1 B [] [.int (Int32.ofNat ds.length)] d10_6 9 rfl rfl (hw _ (List.mem_of_getElem? (i := 71) rfl)) (hw _ (List.mem_of_getElem? (i := 72) rfl)) (hw _ (List.mem_of_getElem? (i := 74) rfl)) (hw _ (List.mem_of_getElem? (i := 73) rfl)) (hw _ (List.mem_of_getElem? (i := 7) rfl)) (hw _ (List.mem_of_getElem? (i := 75) rfl)) (by decide) (lenOf pd_11 rfl) Ea (rB_cod l Z ag hw a cx h0 n0 FC SC hcx) e1 rfl 1 (Nat.le_of_eq rfl) (by decide) (by decide) (by decide) (by decide) (fun v2 T2 h2 L2 X2 e2 q2 => ?_)
  obtain ⟨rfl, N2, rfl⟩ := q2
  show Go p e below _ (T2.setTop (mkF m 9 #[.val (.ref a)] [.int (0 : Int32), .int (Int32.ofNat ds.length)]))
  refine g_ishr X2 B d10_9 10 rfl ?_
  exact g_retI X2 B d10_10 rfl (by decide) (by decide) e2 ⟨by rw [own_shr0], ((Fr.nil n0).app N2), rfl⟩
set_option maxRecDepth 65536 in
set_option maxHeartbeats 40000000 in
theorem rB_max (l : Launch) (Z : State) (ag : Array Value) (hw : ∀ d ∈ tables_1, d.before ag Z = true) (x y : Int32) (h0 : Heap) (n0 : Nat)  :
    Ctr l Z (⟨"java/lang/Math", "max", "(II)I"⟩ : MethodName) jdk_29_method_65_code 2 (some .int) ({ frames := 0, cells := 0, slots := 0, locals := 0 } : Room) #[.int x, .int y] h0 (fun v h L => v = some (.int (if x < y then y else x)) ∧ Fr n0 L ∧ h0 = h) := by
  refine Ctr.of pn_21 ?_
  intro p e s m below meth c T0 X0 B e0
  refine Go.cast (f' := mkF m 0 #[.val (.int x), .val (.int y)] []) (by first | rfl | (simp [entryFrame, mkF, argsToLocals, Value.category, maxLocals]; done)) ?_

  refine g_iloadN X0 B d21_0 1 rfl rfl ?_
  refine g_iloadN X0 B d21_1 2 rfl rfl ?_
  refine g_icmp_lt X0 B d21_2 9 5 rfl (by decide) rfl (fun c1 => ?_) (fun c1 => ?_)
  · skip
    refine g_iloadN X0 B d21_9 10 rfl rfl ?_
    exact g_retI X0 B d21_10 rfl (by decide) (by decide) e0 ⟨by simp [c1], (Fr.nil n0), rfl⟩
  · skip
    refine g_iloadN X0 B d21_5 6 rfl rfl ?_
    refine g_goto X0 B d21_6 10 rfl (by decide) ?_
    exact g_retI X0 B d21_10 rfl (by decide) (by decide) e0 ⟨by simp [c1], (Fr.nil n0), rfl⟩
set_option maxRecDepth 65536 in
set_option maxHeartbeats 40000000 in
theorem rB_min (l : Launch) (Z : State) (ag : Array Value) (hw : ∀ d ∈ tables_1, d.before ag Z = true) (x y : Int32) (h0 : Heap) (n0 : Nat)  :
    Ctr l Z (⟨"java/lang/Math", "min", "(II)I"⟩ : MethodName) jdk_29_method_69_code 2 (some .int) ({ frames := 0, cells := 0, slots := 0, locals := 0 } : Room) #[.int x, .int y] h0 (fun v h L => v = some (.int (if y < x then y else x)) ∧ Fr n0 L ∧ h0 = h) := by
  refine Ctr.of pn_23 ?_
  intro p e s m below meth c T0 X0 B e0
  refine Go.cast (f' := mkF m 0 #[.val (.int x), .val (.int y)] []) (by first | rfl | (simp [entryFrame, mkF, argsToLocals, Value.category, maxLocals]; done)) ?_

  refine g_iloadN X0 B d23_0 1 rfl rfl ?_
  refine g_iloadN X0 B d23_1 2 rfl rfl ?_
  refine g_icmp_gt X0 B d23_2 9 5 rfl (by decide) rfl (fun c1 => ?_) (fun c1 => ?_)
  · skip
    refine g_iloadN X0 B d23_9 10 rfl rfl ?_
    exact g_retI X0 B d23_10 rfl (by decide) (by decide) e0 ⟨by simp [c1], (Fr.nil n0), rfl⟩
  · skip
    refine g_iloadN X0 B d23_5 6 rfl rfl ?_
    refine g_goto X0 B d23_6 10 rfl (by decide) ?_
    exact g_retI X0 B d23_10 rfl (by decide) (by decide) e0 ⟨by simp [c1], (Fr.nil n0), rfl⟩
set_option maxRecDepth 65536 in
set_option maxHeartbeats 40000000 in
theorem rB_aini (l : Launch) (Z : State) (ag : Array Value) (hw : ∀ d ∈ tables_1, d.before ag Z = true) (sb : Addr) (cx : Int32) (h0 : Heap) (n0 : Nat) (Z0 : n0 ≤ h0.size) (ga : n0 ≤ sb) (Eb : Exa Z h0 sb "java/lang/StringBuilder") (BV : Fld Z h0 sb "java/lang/AbstractStringBuilder" "value" "[B" (.null)) (BC : Fld Z h0 sb "java/lang/AbstractStringBuilder" "coder" "B" (.int 0)) (BN : Fld Z h0 sb "java/lang/AbstractStringBuilder" "count" "I" (.int 0)) (SC : Sta Z h0 "java/lang/String" "COMPACT_STRINGS" "Z" (.int cx)) (hcx : ¬ cx = 0) :
    Ctr l Z (⟨"java/lang/AbstractStringBuilder", "<init>", "(I)V"⟩ : MethodName) jdk_68_method_2_code 2 none ({ frames := 1, cells := 1, slots := 16, locals := 12 } : Room) #[.ref sb, .int (16 : Int32)] h0 (fun v h L => ∃ d, v = none ∧ Fr n0 L ∧ Keep h0 h [sb] ∧ Fld Z h sb "java/lang/AbstractStringBuilder" "value" "[B" (.ref d) ∧ Fld Z h sb "java/lang/AbstractStringBuilder" "coder" "B" (.int 0) ∧ Fld Z h sb "java/lang/AbstractStringBuilder" "count" "I" (.int 0) ∧ Av Z h d .byte (List.replicate 16 (.int 0)) ∧ Exa Z h d "[B" ∧ h0.size ≤ d ∧ n0 ≤ d) := by
  refine Ctr.of pn_7 ?_
  intro p e s m below meth c T0 X0 B e0
  refine Go.cast (f' := mkF m 0 #[.val (.ref sb), .val (.int (16 : Int32))] []) (by first | rfl | (simp [entryFrame, mkF, argsToLocals, Value.category, maxLocals]; done)) ?_

  refine g_aloadN X0 B d7_0 1 rfl rfl rfl ?_
  obtain ⟨T1, X1, e1, st1⟩ := initO X0 B.x B.z B.o (hw _ (List.mem_of_getElem? (i := 49) rfl)) (hw _ (List.mem_of_getElem? (i := 17) rfl)) (hw _ (List.mem_of_getElem? (i := 18) rfl)) e0 (g := mkF m 1 #[.val (.ref sb), .val (.int (16 : Int32))] [.ref sb]) rfl (B.mx rfl) rfl (B.d d7_1) (by decide) (W := 0) (by show 2 * 0 + _ ≤ _; exact Nat.le_of_eq rfl) (by decide)
  refine Go.via st1 ?_
  show Go p e below _ (T1.setTop (mkF m 4 #[.val (.ref sb), .val (.int (16 : Int32))] []))
  refine g_getS X1 B d7_4 7 rfl (hw _ (List.mem_of_getElem? (i := 50) rfl)) Via.refl e1 SC (fun T2 X2 e2 => ?_)
  refine g_if_eq X2 B d7_7 25 10 rfl (by decide) rfl (fun z => own_abs' (hcx) z) (fun _ => ?_)
  refine g_aloadN X2 B d7_10 11 rfl rfl rfl ?_
  refine g_iloadN X2 B d7_11 12 rfl rfl ?_
  refine g_newPB X2 B 16 (List.replicate 16 (.int 0)) d7_12 14 rfl (hw _ (List.mem_of_getElem? (i := 20) rfl)) e2 (by decide) rfl (by simp) (by decide) (by decide) (by decide) (fun T3 h3 d X3 e3 ea3 E3 A3 F3 => ?_)
  have g_d : n0 ≤ d := ea3 ▸ Z0
  have gg_d : h0.size ≤ d := ea3 ▸ (Keep.refl h0 [sb]).1
  have t1 : sb ≠ d := ea3 ▸ Nat.ne_of_lt (Eb.lt)
  have t2 := (Fld.ext E3 BV)
  have t3 := (Exa.ext E3 Eb)
  refine g_putF X3 B d7_14 17 rfl (hw _ (List.mem_of_getElem? (i := 51) rfl)) Via.refl e3 t2 t3 (Or.inl (hw _ (List.mem_of_getElem? (i := 52) rfl))) (hw _ (List.mem_of_getElem? (i := 38) rfl)) (ty := (.array .byte)) (by decide) rfl rfl (fun T4 h4 X4 e4 W4 => ?_)
  have F4 := t2.same W4
  refine g_aloadN X4 B d7_17 18 rfl rfl rfl ?_
  refine g_iconst X4 B (0) d7_18 19 rfl rfl ?_
  have t4 := (Fld.other W4 (Fld.ext E3 BC) (Or.inr (slot_ne (Or.inl (hw _ (List.mem_of_getElem? (i := 54) rfl))) (Or.inl (hw _ (List.mem_of_getElem? (i := 52) rfl))) (by decide) (t := .byte) (by decide) (t' := (.array .byte)) (by decide))))
  have t5 := (Exa.wr W4 t3)
  refine g_putF X4 B d7_19 22 rfl (hw _ (List.mem_of_getElem? (i := 53) rfl)) Via.refl e4 t4 t5 (Or.inl (hw _ (List.mem_of_getElem? (i := 54) rfl))) (hw _ (List.mem_of_getElem? (i := 38) rfl)) (ty := .byte) (by decide) rfl rfl (fun T5 h5 X5 e5 W5 => ?_)
  have F5 := t4.same W5
  refine g_goto X5 B d7_22 38 rfl (by decide) ?_
  have t6 := (Keep.wr (Keep.wr (Keep.ext (Keep.refl h0 [sb]) E3) W4 (Or.inl (List.mem_of_getElem? (i := 0) rfl))) W5 (Or.inl (List.mem_of_getElem? (i := 0) rfl)))
  have t7 := (Fld.other W5 F4 (Or.inr (slot_ne (Or.inl (hw _ (List.mem_of_getElem? (i := 52) rfl))) (Or.inl (hw _ (List.mem_of_getElem? (i := 54) rfl))) (by decide) (t := (.array .byte)) (by decide) (t' := .byte) (by decide))))
  have t8 := (Fld.other W5 (Fld.other W4 (Fld.ext E3 BN) (Or.inr (slot_ne (Or.inl (hw _ (List.mem_of_getElem? (i := 78) rfl))) (Or.inl (hw _ (List.mem_of_getElem? (i := 52) rfl))) (by decide) (t := .int) (by decide) (t' := (.array .byte)) (by decide)))) (Or.inr (slot_ne (Or.inl (hw _ (List.mem_of_getElem? (i := 78) rfl))) (Or.inl (hw _ (List.mem_of_getElem? (i := 54) rfl))) (by decide) (t := .int) (by decide) (t' := .byte) (by decide))))
  have t9 := (Av.other (Av.other A3 W4 (Ne.symm t1)) W5 (Ne.symm t1))
  have t10 := (Exa.wr W5 (Exa.wr W4 F3))
  exact g_retV X5 B d7_38 rfl (by decide) (by decide) e5 ⟨d, rfl, (Fr.snoc X5 (Fr.snoc X4 (Fr.nil n0) ga) ga), t6, t7, F5, t8, t9, t10, gg_d, g_d⟩
set_option maxRecDepth 65536 in
set_option maxHeartbeats 40000000 in
theorem rB_ini (l : Launch) (Z : State) (ag : Array Value) (hw : ∀ d ∈ tables_1, d.before ag Z = true) (sb : Addr) (cx : Int32) (h0 : Heap) (n0 : Nat) (Z0 : n0 ≤ h0.size) (ga : n0 ≤ sb) (Eb : Exa Z h0 sb "java/lang/StringBuilder") (BV : Fld Z h0 sb "java/lang/AbstractStringBuilder" "value" "[B" (.null)) (BC : Fld Z h0 sb "java/lang/AbstractStringBuilder" "coder" "B" (.int 0)) (BN : Fld Z h0 sb "java/lang/AbstractStringBuilder" "count" "I" (.int 0)) (SC : Sta Z h0 "java/lang/String" "COMPACT_STRINGS" "Z" (.int cx)) (hcx : ¬ cx = 0) :
    Ctr l Z (⟨"java/lang/StringBuilder", "<init>", "()V"⟩ : MethodName) jdk_67_method_1_code 1 none ({ frames := 2, cells := 1, slots := 16, locals := 25 } : Room) #[.ref sb] h0 (fun v h L => ∃ d, v = none ∧ Fr n0 L ∧ Keep h0 h [sb] ∧ Fld Z h sb "java/lang/AbstractStringBuilder" "value" "[B" (.ref d) ∧ Fld Z h sb "java/lang/AbstractStringBuilder" "coder" "B" (.int 0) ∧ Fld Z h sb "java/lang/AbstractStringBuilder" "count" "I" (.int 0) ∧ Av Z h d .byte (List.replicate 16 (.int 0)) ∧ Exa Z h d "[B" ∧ h0.size ≤ d ∧ n0 ≤ d) := by
  refine Ctr.of pn_6 ?_
  intro p e s m below meth c T0 X0 B e0
  refine Go.cast (f' := mkF m 0 #[.val (.ref sb)] []) (by first | rfl | (simp [entryFrame, mkF, argsToLocals, Value.category, maxLocals]; done)) ?_

  refine g_aloadN X0 B d6_0 1 rfl rfl rfl ?_
  refine g_bipush X0 B (16) d6_1 3 rfl rfl ?_
  refine g_callN X0 B [.int (16 : Int32)] [] d6_3 6 rfl rfl rfl (hw _ (List.mem_of_getElem? (i := 43) rfl)) (hw _ (List.mem_of_getElem? (i := 44) rfl)) (hw _ (List.mem_of_getElem? (i := 48) rfl)) (hw _ (List.mem_of_getElem? (i := 47) rfl)) (by decide) (lenOf pd_7 rfl) (rB_aini l Z ag hw sb cx h0 n0 Z0 ga Eb BV BC BN SC hcx) e0 rfl 0 (Nat.le_of_eq rfl) (by decide) (by decide) (by decide) (by decide) (fun v1 T1 h1 L1 X1 e1 q1 => ?_)
  obtain ⟨d, rfl, N1, t1, t2, t3, t4, t5, t6, t7, t8⟩ := q1
  show Go p e below _ (T1.setTop (mkF m 6 #[.val (.ref sb)] []))
  exact g_retV X1 B d6_6 rfl (by decide) (by decide) e1 ⟨d, rfl, ((Fr.nil n0).app N1), t1, t2, t3, t4, t5, t6, t7, t8⟩
theorem own_max_ {g q : Nat} (hq : q < 2147483648) (h : g ≤ q) : (if Int32.ofNat g < Int32.ofNat q then Int32.ofNat q else Int32.ofNat g) = Int32.ofNat q := by
  split
  · rfl
  · rename_i z
    rw [own_lt (by omega) hq] at z
    rw [show g = q by omega]
theorem own_min_ {n k : Nat} (hn : n < 2147483648) (h : k ≤ n) : (if Int32.ofNat k < Int32.ofNat n then Int32.ofNat k else Int32.ofNat n) = Int32.ofNat k := by
  split
  · rfl
  · rename_i q
    rw [own_lt (by omega) hn] at q
    rw [show n = k by omega]
theorem own_min2_ {n k : Nat} (hn : n < 2147483648) (h : k ≤ n) : (if Int32.ofNat n < Int32.ofNat k then Int32.ofNat n else Int32.ofNat k) = Int32.ofNat k := by
  split
  · rename_i q
    rw [own_lt hn (by omega)] at q
    omega
  · rfl
theorem own_nltlit {n : Nat} (h : n ≤ 100) : ¬ (2147483639 : Int32) < Int32.ofNat n := by
  rw [Int32.lt_iff_toInt_lt, own_ti (by omega)]
  have k : (2147483639 : Int32).toInt = 2147483639 := by decide
  omega
theorem own_nelit {n : Nat} (h : n ≤ 100) : ¬ Int32.ofNat n = 2147483647 := fun q => by
  have := congrArg Int32.toInt q
  rw [own_ti (by omega)] at this
  have k : (2147483647 : Int32).toInt = 2147483647 := by decide
  omega
set_option maxRecDepth 65536 in
set_option maxHeartbeats 40000000 in
theorem rB_nl (l : Launch) (Z : State) (ag : Array Value) (hw : ∀ d ∈ tables_1, d.before ag Z = true) (c g q : Nat) (h0 : Heap) (n0 : Nat) (hg : g ≤ q) (hq : c + q ≤ 100) (hp : 0 < q) :
    Ctr l Z (⟨"jdk/internal/util/ArraysSupport", "newLength", "(III)I"⟩ : MethodName) jdk_48_method_27_code 4 (some .int) ({ frames := 1, cells := 0, slots := 0, locals := 14 } : Room) #[.int (Int32.ofNat c), .int (Int32.ofNat g), .int (Int32.ofNat q)] h0 (fun v h L => v = some (.int (Int32.ofNat (c + q))) ∧ Fr n0 L ∧ h0 = h) := by
  refine Ctr.of pn_20 ?_
  intro p e s m below meth cc T0 X0 B e0
  refine Go.cast (f' := mkF m 0 #[.val (.int (Int32.ofNat c)), .val (.int (Int32.ofNat g)), .val (.int (Int32.ofNat q)), .unset] []) (by first | rfl | (simp [entryFrame, mkF, argsToLocals, Value.category, maxLocals]; done)) ?_

  refine g_iloadN X0 B d20_0 1 rfl rfl ?_
  refine g_iloadN X0 B d20_1 2 rfl rfl ?_
  refine g_iloadN X0 B d20_2 3 rfl rfl ?_
  refine g_callS X0 B [.int (Int32.ofNat g), .int (Int32.ofNat q)] [.int (Int32.ofNat c)] d20_3 6 rfl rfl (hw _ (List.mem_of_getElem? (i := 126) rfl)) (hw _ (List.mem_of_getElem? (i := 127) rfl)) (hw _ (List.mem_of_getElem? (i := 128) rfl)) (hw _ (List.mem_of_getElem? (i := 129) rfl)) (by decide) (lenOf pd_21 rfl) (rB_max l Z ag hw (Int32.ofNat g) (Int32.ofNat q) h0 n0) e0 rfl 1 (Nat.le_of_eq rfl) (by decide) (by decide) (by decide) (by decide) (fun v1 T1 h1 L1 X1 e1 q1 => ?_)
  obtain ⟨rfl, N1, rfl⟩ := q1
  show Go p e below _ (T1.setTop (mkF m 6 #[.val (.int (Int32.ofNat c)), .val (.int (Int32.ofNat g)), .val (.int (Int32.ofNat q)), .unset] [.int (if Int32.ofNat g < Int32.ofNat q then Int32.ofNat q else Int32.ofNat g), .int (Int32.ofNat c)]))
  rw [own_max_ (by omega) hg]
  refine g_iadd X1 B d20_6 7 rfl ?_
  rw [own_addN (by omega)]
  refine g_istoreN X1 B #[.val (.int (Int32.ofNat c)), .val (.int (Int32.ofNat g)), .val (.int (Int32.ofNat q)), .val (.int (Int32.ofNat (c + q)))] d20_7 8 rfl rfl ?_
  refine g_iconst X1 B (0) d20_8 9 rfl rfl ?_
  refine g_iloadN X1 B d20_9 10 rfl rfl ?_
  refine g_icmp_ge X1 B d20_10 21 13 rfl (by decide) rfl (fun z => own_abs ((own_lt (i := 0) (by omega) (by omega)).mpr (by omega)) z) (fun _ => ?_)
  refine g_iloadN X1 B d20_13 14 rfl rfl ?_
  refine g_ldcI X1 B d20_14 16 rfl (hw _ (List.mem_of_getElem? (i := 130) rfl)) ?_
  refine g_icmp_gt X1 B d20_16 21 19 rfl (by decide) rfl (fun z => own_abs' (own_nltlit (by omega)) z) (fun _ => ?_)
  refine g_iloadN X1 B d20_19 20 rfl rfl ?_
  exact g_retI X1 B d20_20 rfl (by decide) (by decide) e1 ⟨rfl, ((Fr.nil n0).app N1), rfl⟩
set_option maxRecDepth 65536 in
set_option maxHeartbeats 40000000 in
theorem rB_nc (l : Launch) (Z : State) (ag : Array Value) (hw : ∀ d ∈ tables_1, d.before ag Z = true) (sb d : Addr) (vs : List Value) (need : Nat) (h0 : Heap) (n0 : Nat) (Eb : Exa Z h0 sb "java/lang/StringBuilder") (BV : Fld Z h0 sb "java/lang/AbstractStringBuilder" "value" "[B" (.ref d)) (BC : Fld Z h0 sb "java/lang/AbstractStringBuilder" "coder" "B" (.int 0)) (Ad : Av Z h0 d .byte vs) (hv : vs.length ≤ 34) (h1 : vs.length < need) (h2 : need ≤ 2 * vs.length + 2) :
    Ctr l Z (⟨"java/lang/AbstractStringBuilder", "newCapacity", "(I)I"⟩ : MethodName) jdk_68_method_10_code 6 (some .int) ({ frames := 2, cells := 0, slots := 0, locals := 30 } : Room) #[.ref sb, .int (Int32.ofNat need)] h0 (fun v h L => v = some (.int (Int32.ofNat (2 * vs.length + 2))) ∧ Fr n0 L ∧ h0 = h) := by
  refine Ctr.of pn_19 ?_
  intro p e s m below meth c T0 X0 B e0
  refine Go.cast (f' := mkF m 0 #[.val (.ref sb), .val (.int (Int32.ofNat need)), .unset, .unset, .unset, .unset] []) (by first | rfl | (simp [entryFrame, mkF, argsToLocals, Value.category, maxLocals]; done)) ?_

  refine g_aloadN X0 B d19_0 1 rfl rfl rfl ?_
  refine g_getF X0 B d19_1 4 rfl (hw _ (List.mem_of_getElem? (i := 51) rfl)) Via.refl e0 BV (fun T1 X1 e1 => ?_)
  refine g_arrlen X1 B (Int32.ofNat vs.length) d19_4 5 rfl e1 Ad rfl ?_
  refine g_istoreN X1 B #[.val (.ref sb), .val (.int (Int32.ofNat need)), .val (.int (Int32.ofNat vs.length)), .unset, .unset, .unset] d19_5 6 rfl rfl ?_
  refine g_iloadN X1 B d19_6 7 rfl rfl ?_
  refine g_aloadN X1 B d19_7 8 rfl rfl rfl ?_
  refine g_getF X1 B d19_8 11 rfl (hw _ (List.mem_of_getElem? (i := 53) rfl)) Via.refl e1 BC (fun T2 X2 e2 => ?_)
  refine g_ishl X2 B d19_11 12 rfl ?_
  rw [own_shl0]
  refine g_istoreN X2 B #[.val (.ref sb), .val (.int (Int32.ofNat need)), .val (.int (Int32.ofNat vs.length)), .val (.int (Int32.ofNat need)), .unset, .unset] d19_12 13 rfl rfl ?_
  refine g_iloadN X2 B d19_13 14 rfl rfl ?_
  refine g_iloadN X2 B d19_14 15 rfl rfl ?_
  refine g_isub X2 B d19_15 16 rfl ?_
  rw [own_subN (by omega) (by omega)]
  refine g_istore X2 B #[.val (.ref sb), .val (.int (Int32.ofNat need)), .val (.int (Int32.ofNat vs.length)), .val (.int (Int32.ofNat need)), .val (.int (Int32.ofNat (need - vs.length))), .unset] d19_16 18 rfl rfl ?_
  refine g_iloadN X2 B d19_18 19 rfl rfl ?_
  refine g_iload X2 B d19_19 21 rfl rfl ?_
  refine g_iloadN X2 B d19_21 22 rfl rfl ?_
  refine g_iconst X2 B (2) d19_22 23 rfl rfl ?_
  refine g_aloadN X2 B d19_23 24 rfl rfl rfl ?_
  refine g_getF X2 B d19_24 27 rfl (hw _ (List.mem_of_getElem? (i := 53) rfl)) Via.refl e2 BC (fun T3 X3 e3 => ?_)
  refine g_ishl X3 B d19_27 28 rfl ?_
  rw [own_shl0, show (2 : Int32) = Int32.ofNat 2 from rfl]
  refine g_iadd X3 B d19_28 29 rfl ?_
  rw [own_addN (by omega)]
  refine g_callS X3 B [.int (Int32.ofNat vs.length), .int (Int32.ofNat (need - vs.length)), .int (Int32.ofNat (vs.length + 2))] [] d19_29 32 rfl rfl (hw _ (List.mem_of_getElem? (i := 122) rfl)) (hw _ (List.mem_of_getElem? (i := 123) rfl)) (hw _ (List.mem_of_getElem? (i := 124) rfl)) (hw _ (List.mem_of_getElem? (i := 125) rfl)) (by decide) (lenOf pd_20 rfl) (rB_nl l Z ag hw vs.length (need - vs.length) (vs.length + 2) h0 n0 (by omega) (by omega) (by omega)) e3 rfl 0 (Nat.le_of_eq rfl) (by decide) (by decide) (by decide) (by decide) (fun v4 T4 h4 L4 X4 e4 q4 => ?_)
  obtain ⟨rfl, N4, rfl⟩ := q4
  show Go p e below _ (T4.setTop (mkF m 32 #[.val (.ref sb), .val (.int (Int32.ofNat need)), .val (.int (Int32.ofNat vs.length)), .val (.int (Int32.ofNat need)), .val (.int (Int32.ofNat (need - vs.length))), .unset] [.int (Int32.ofNat (vs.length + (vs.length + 2)))]))
  rw [show vs.length + (vs.length + 2) = 2 * vs.length + 2 by omega]
  refine g_istore X4 B #[.val (.ref sb), .val (.int (Int32.ofNat need)), .val (.int (Int32.ofNat vs.length)), .val (.int (Int32.ofNat need)), .val (.int (Int32.ofNat (need - vs.length))), .val (.int (Int32.ofNat (2 * vs.length + 2)))] d19_32 34 rfl rfl ?_
  refine g_iload X4 B d19_34 36 rfl rfl ?_
  refine g_ldcI X4 B d19_36 38 rfl (hw _ (List.mem_of_getElem? (i := 131) rfl)) ?_
  refine g_icmp_ne X4 B d19_38 51 41 rfl (by decide) rfl (fun _ => ?_) (fun z => own_abs' (own_nelit (by omega)) z)
  refine g_iload X4 B d19_51 53 rfl rfl ?_
  refine g_aloadN X4 B d19_53 54 rfl rfl rfl ?_
  refine g_getF X4 B d19_54 57 rfl (hw _ (List.mem_of_getElem? (i := 53) rfl)) Via.refl e4 BC (fun T5 X5 e5 => ?_)
  refine g_ishr X5 B d19_57 58 rfl ?_
  exact g_retI X5 B d19_58 rfl (by decide) (by decide) e5 ⟨by rw [own_shr0], ((Fr.nil n0).app N4), rfl⟩
set_option maxRecDepth 65536 in
set_option maxHeartbeats 40000000 in
theorem rB_co (l : Launch) (Z : State) (ag : Array Value) (hw : ∀ d ∈ tables_1, d.before ag Z = true) (d : Addr) (vs : List Value) (cs : List Int32) (n : Nat) (h0 : Heap) (n0 : Nat) (Z0 : n0 ≤ h0.size) (Ad : Av Z h0 d .byte vs) (hV : own_SBv vs cs) (h1 : vs.length < n) (h2 : n ≤ 70) :
    Ctr l Z (⟨"java/util/Arrays", "copyOf", "([BI)[B"⟩ : MethodName) jdk_65_method_121_code 3 (some (.array .byte)) ({ frames := 1, cells := 1, slots := 70, locals := 40 } : Room) #[.ref d, .int (Int32.ofNat n)] h0 (fun v h L => ∃ d2 ws, v = some (.ref d2) ∧ Fr n0 L ∧ Keep h0 h [] ∧ Av Z h d2 .byte ws ∧ Exa Z h d2 "[B" ∧ own_SBv ws cs ∧ ws.length = n ∧ h0.size ≤ d2 ∧ n0 ≤ d2) := by
  refine Ctr.of pn_22 ?_
  intro p e s m below meth c T0 X0 B e0
  refine Go.cast (f' := mkF m 0 #[.val (.ref d), .val (.int (Int32.ofNat n)), .unset] []) (by first | rfl | (simp [entryFrame, mkF, argsToLocals, Value.category, maxLocals]; done)) ?_

  refine g_iloadN X0 B d22_0 1 rfl rfl ?_
  refine g_aloadN X0 B d22_1 2 rfl rfl rfl ?_
  refine g_arrlen X0 B (Int32.ofNat vs.length) d22_2 3 rfl e0 Ad rfl ?_
  refine g_icmp_ne X0 B d22_3 14 6 rfl (by decide) rfl (fun _ => ?_) (fun z => own_abs' (fun z => absurd (own_inj (by omega) (by omega) z) (by omega)) z)
  refine g_iloadN X0 B d22_14 15 rfl rfl ?_
  refine g_newPB X0 B 70 (List.replicate n (.int 0)) d22_15 17 rfl (hw _ (List.mem_of_getElem? (i := 20) rfl)) e0 (own_nn (by omega)) (by rw [own_tn (by omega)]) (by simp; omega) (by decide) (by decide) (by decide) (fun T1 h1 d2 X1 e1 ea1 E1 A1 F1 => ?_)
  have g_d2 : n0 ≤ d2 := ea1 ▸ Z0
  have gg_d2 : h0.size ≤ d2 := ea1 ▸ (Keep.refl h0 []).1
  have t1 : d ≠ d2 := ea1 ▸ Nat.ne_of_lt (Ad.lt)
  refine g_astoreN X1 B #[.val (.ref d), .val (.int (Int32.ofNat n)), .val (.ref d2)] d22_17 18 rfl rfl rfl ?_
  refine g_aloadN X1 B d22_18 19 rfl rfl rfl ?_
  refine g_iconst X1 B (0) d22_19 20 rfl rfl ?_
  refine g_aloadN X1 B d22_20 21 rfl rfl rfl ?_
  refine g_iconst X1 B (0) d22_21 22 rfl rfl ?_
  refine g_aloadN X1 B d22_22 23 rfl rfl rfl ?_
  have t2 := (Av.ext Ad E1)
  refine g_arrlen X1 B (Int32.ofNat vs.length) d22_23 24 rfl e1 t2 rfl ?_
  refine g_iloadN X1 B d22_24 25 rfl rfl ?_
  refine g_callS X1 B [.int (Int32.ofNat vs.length), .int (Int32.ofNat n)] [.int (0 : Int32), .ref d2, .int (0 : Int32), .ref d] d22_25 28 rfl rfl (hw _ (List.mem_of_getElem? (i := 136) rfl)) (hw _ (List.mem_of_getElem? (i := 137) rfl)) (hw _ (List.mem_of_getElem? (i := 128) rfl)) (hw _ (List.mem_of_getElem? (i := 138) rfl)) (by decide) (lenOf pd_23 rfl) (rB_min l Z ag hw (Int32.ofNat vs.length) (Int32.ofNat n) h1 n0) e1 rfl 4 (Nat.le_of_eq rfl) (by decide) (by decide) (by decide) (by decide) (fun v2 T2 h2 L2 X2 e2 q2 => ?_)
  obtain ⟨rfl, N2, rfl⟩ := q2
  show Go p e below _ (T2.setTop (mkF m 28 #[.val (.ref d), .val (.int (Int32.ofNat n)), .val (.ref d2)] [.int (if Int32.ofNat n < Int32.ofNat vs.length then Int32.ofNat n else Int32.ofNat vs.length), .int (0 : Int32), .ref d2, .int (0 : Int32), .ref d]))
  rw [own_min2_ (by omega) (by omega)]
  refine g_cpyD X2 B 0 vs.length [] d22_28 31 rfl (hw _ (List.mem_of_getElem? (i := 139) rfl)) (hw _ (List.mem_of_getElem? (i := 103) rfl)) (hw _ (List.mem_of_getElem? (i := 101) rfl)) (hw _ (List.mem_of_getElem? (i := 102) rfl)) e2 t2 A1 hV.2.1 (own_SBv0 n).2.1 (by omega) (by simp; omega) (Nat.le_refl _) (by simp; omega) ((Fr.nil n0).app N2) g_d2 rfl (by decide) 0 (Nat.le_of_eq rfl) (by decide) (fun T3 h3 L3 X3 e3 N3 K3 A3 => ?_)
  refine g_aloadN X3 B d22_31 32 rfl rfl rfl ?_
  have t3 := (Keep.trans (Keep.ext (Keep.refl h0 []) E1) K3 (allS (Or.inr gg_d2) all0))
  have t4 := (Exa.keep F1 K3)
  exact g_retA X3 B d22_32 rfl rfl rfl (by decide) (by decide) e3 ⟨d2, _, rfl, N3, t3, A3, t4, own_SBgrow hV (by omega), by simp; omega, gg_d2, g_d2⟩
set_option maxRecDepth 65536 in
set_option maxHeartbeats 40000000 in
theorem rB_ens (l : Launch) (Z : State) (ag : Array Value) (hw : ∀ d ∈ tables_1, d.before ag Z = true) (sb d : Addr) (vs : List Value) (cs : List Int32) (need : Nat) (h0 : Heap) (n0 : Nat) (Z0 : n0 ≤ h0.size) (ga : n0 ≤ sb) (gd : n0 ≤ d) (Eb : Exa Z h0 sb "java/lang/StringBuilder") (BV : Fld Z h0 sb "java/lang/AbstractStringBuilder" "value" "[B" (.ref d)) (BC : Fld Z h0 sb "java/lang/AbstractStringBuilder" "coder" "B" (.int 0)) (Ad : Av Z h0 d .byte vs) (BN : Fld Z h0 sb "java/lang/AbstractStringBuilder" "count" "I" (.int (Int32.ofNat cs.length))) (Ed : Exa Z h0 d "[B") (hV : own_SBv vs cs) (hgr : need ≤ vs.length ∨ (need ≤ 2 * vs.length + 2 ∧ vs.length ≤ 34)) (hvl : vs.length ≤ 70) :
    Ctr l Z (⟨"java/lang/AbstractStringBuilder", "ensureCapacityInternal", "(I)V"⟩ : MethodName) jdk_68_method_9_code 3 none ({ frames := 3, cells := 1, slots := 70, locals := 56 } : Room) #[.ref sb, .int (Int32.ofNat need)] h0 (fun v h L => ∃ d2 ws, v = none ∧ Fr n0 L ∧ Keep h0 h [sb] ∧ Fld Z h sb "java/lang/AbstractStringBuilder" "value" "[B" (.ref d2) ∧ Fld Z h sb "java/lang/AbstractStringBuilder" "coder" "B" (.int 0) ∧ Fld Z h sb "java/lang/AbstractStringBuilder" "count" "I" (.int (Int32.ofNat cs.length)) ∧ Av Z h d2 .byte ws ∧ Exa Z h d2 "[B" ∧ own_SBv ws cs ∧ need ≤ ws.length ∧ ws.length = own_cap need vs.length ∧ (d2 = d ∨ h0.size ≤ d2) ∧ n0 ≤ d2) := by
  refine Ctr.of pn_12 ?_
  intro p e s m below meth c T0 X0 B e0
  refine Go.cast (f' := mkF m 0 #[.val (.ref sb), .val (.int (Int32.ofNat need)), .unset] []) (by first | rfl | (simp [entryFrame, mkF, argsToLocals, Value.category, maxLocals]; done)) ?_

  refine g_aloadN X0 B d12_0 1 rfl rfl rfl ?_
  refine g_getF X0 B d12_1 4 rfl (hw _ (List.mem_of_getElem? (i := 51) rfl)) Via.refl e0 BV (fun T1 X1 e1 => ?_)
  refine g_arrlen X1 B (Int32.ofNat vs.length) d12_4 5 rfl e1 Ad rfl ?_
  refine g_aloadN X1 B d12_5 6 rfl rfl rfl ?_
  refine g_getF X1 B d12_6 9 rfl (hw _ (List.mem_of_getElem? (i := 53) rfl)) Via.refl e1 BC (fun T2 X2 e2 => ?_)
  refine g_ishr X2 B d12_9 10 rfl ?_
  rw [own_shr0]
  refine g_istoreN X2 B #[.val (.ref sb), .val (.int (Int32.ofNat need)), .val (.int (Int32.ofNat vs.length))] d12_10 11 rfl rfl ?_
  refine g_iloadN X2 B d12_11 12 rfl rfl ?_
  refine g_iloadN X2 B d12_12 13 rfl rfl ?_
  refine g_isub X2 B d12_13 14 rfl ?_
  by_cases hfit : need ≤ vs.length
  · skip
    refine g_if_le X2 B d12_14 38 17 rfl (by decide) rfl (fun _ => ?_) (fun z => own_abs' (fun z => absurd ((own_subgt (by omega) (by omega)).mp z) (by omega)) z)
    exact g_retV X2 B d12_38 rfl (by decide) (by decide) e2 ⟨d, vs, rfl, (Fr.nil n0), Keep.refl h0 [sb], BV, BC, BN, Ad, Ed, hV, hfit, (own_capl hfit).symm, Or.inl rfl, gd⟩
  · skip
    refine g_if_le X2 B d12_14 38 17 rfl (by decide) rfl (fun z => own_abs ((own_subgt (by omega) (by omega)).mpr (by omega)) z) (fun _ => ?_)
    refine g_aloadN X2 B d12_17 18 rfl rfl rfl ?_
    refine g_aloadN X2 B d12_18 19 rfl rfl rfl ?_
    refine g_getF X2 B d12_19 22 rfl (hw _ (List.mem_of_getElem? (i := 51) rfl)) Via.refl e2 BV (fun T3 X3 e3 => ?_)
    refine g_aloadN X3 B d12_22 23 rfl rfl rfl ?_
    refine g_iloadN X3 B d12_23 24 rfl rfl ?_
    refine g_callP X3 B [.int (Int32.ofNat need)] [.ref d, .ref sb] d12_24 27 rfl rfl (hw _ (List.mem_of_getElem? (i := 117) rfl)) (hw _ (List.mem_of_getElem? (i := 118) rfl)) (own_selP (hw _ (List.mem_of_getElem? (i := 120) rfl)) (hw _ (List.mem_of_getElem? (i := 118) rfl)) (hw _ (List.mem_of_getElem? (i := 119) rfl)) (by decide)) (hw _ (List.mem_of_getElem? (i := 119) rfl)) (hw _ (List.mem_of_getElem? (i := 47) rfl)) (hw _ (List.mem_of_getElem? (i := 121) rfl)) (by decide) (lenOf pd_19 rfl) Eb (rB_nc l Z ag hw sb d vs need h0 n0 Eb BV BC Ad (by omega) (by omega) (by omega)) e3 rfl 2 (Nat.le_of_eq rfl) (by decide) (by decide) (by decide) (by decide) (fun v4 T4 h4 L4 X4 e4 q4 => ?_)
    obtain ⟨rfl, N4, rfl⟩ := q4
    show Go p e below _ (T4.setTop (mkF m 27 #[.val (.ref sb), .val (.int (Int32.ofNat need)), .val (.int (Int32.ofNat vs.length))] [.int (Int32.ofNat (2 * vs.length + 2)), .ref d, .ref sb]))
    refine g_aloadN X4 B d12_27 28 rfl rfl rfl ?_
    refine g_getF X4 B d12_28 31 rfl (hw _ (List.mem_of_getElem? (i := 53) rfl)) Via.refl e4 BC (fun T5 X5 e5 => ?_)
    refine g_ishl X5 B d12_31 32 rfl ?_
    rw [own_shl0]
    refine g_callS X5 B [.ref d, .int (Int32.ofNat (2 * vs.length + 2))] [.ref sb] d12_32 35 rfl rfl (hw _ (List.mem_of_getElem? (i := 132) rfl)) (hw _ (List.mem_of_getElem? (i := 133) rfl)) (hw _ (List.mem_of_getElem? (i := 134) rfl)) (hw _ (List.mem_of_getElem? (i := 135) rfl)) (by decide) (lenOf pd_22 rfl) (rB_co l Z ag hw d vs cs (2 * vs.length + 2) h0 n0 Z0 Ad hV (by omega) (by omega)) e5 rfl 1 (Nat.le_of_eq rfl) (by decide) (by decide) (by decide) (by decide) (fun v6 T6 h6 L6 X6 e6 q6 => ?_)
    obtain ⟨d2, ws, rfl, N6, K6, A6, E6, hW, hwl, g1, g2⟩ := q6
    show Go p e below _ (T6.setTop (mkF m 35 #[.val (.ref sb), .val (.int (Int32.ofNat need)), .val (.int (Int32.ofNat vs.length))] [.ref d2, .ref sb]))
    have t1 : sb ≠ d2 := fun q => absurd (q ▸ Eb.lt) (Nat.not_lt.mpr g1)
    have t2 := (Fld.keep BV K6 nin0)
    have t3 := (Exa.keep Eb K6)
    refine g_putF X6 B d12_35 38 rfl (hw _ (List.mem_of_getElem? (i := 51) rfl)) Via.refl e6 t2 t3 (Or.inl (hw _ (List.mem_of_getElem? (i := 52) rfl))) (hw _ (List.mem_of_getElem? (i := 38) rfl)) (ty := (.array .byte)) (by decide) rfl rfl (fun T7 h7 X7 e7 W7 => ?_)
    have F7 := t2.same W7
    have t4 := (Keep.wr (Keep.trans (Keep.refl h0 [sb]) K6 all0) W7 (Or.inl (List.mem_of_getElem? (i := 0) rfl)))
    have t5 := (Fld.other W7 (Fld.keep BC K6 nin0) (Or.inr (slot_ne (Or.inl (hw _ (List.mem_of_getElem? (i := 54) rfl))) (Or.inl (hw _ (List.mem_of_getElem? (i := 52) rfl))) (by decide) (t := .byte) (by decide) (t' := (.array .byte)) (by decide))))
    have t6 := (Fld.other W7 (Fld.keep BN K6 nin0) (Or.inr (slot_ne (Or.inl (hw _ (List.mem_of_getElem? (i := 78) rfl))) (Or.inl (hw _ (List.mem_of_getElem? (i := 52) rfl))) (by decide) (t := .int) (by decide) (t' := (.array .byte)) (by decide))))
    have t7 := (Av.other A6 W7 (Ne.symm t1))
    have t8 := (Exa.wr W7 E6)
    exact g_retV X7 B d12_38 rfl (by decide) (by decide) e7 ⟨d2, ws, rfl, (Fr.snoc X7 (((Fr.nil n0).app N4).app N6) ga), t4, F7, t5, t6, t7, t8, hW, by omega, by rw [own_capg hfit]; exact hwl, Or.inr g1, g2⟩
set_option maxRecDepth 65536 in
set_option maxHeartbeats 40000000 in
theorem rB_inf (l : Launch) (Z : State) (ag : Array Value) (hw : ∀ d ∈ tables_1, d.before ag Z = true) (sb a : Addr) (cx : Int32) (h0 : Heap) (n0 : Nat) (BC : Fld Z h0 sb "java/lang/AbstractStringBuilder" "coder" "B" (.int 0)) (Ea : Exa Z h0 a "java/lang/String") (FC : Fld Z h0 a "java/lang/String" "coder" "B" (.int 0)) (SC : Sta Z h0 "java/lang/String" "COMPACT_STRINGS" "Z" (.int cx)) (hcx : ¬ cx = 0) :
    Ctr l Z (⟨"java/lang/AbstractStringBuilder", "inflateIfNeededFor", "(Ljava/lang/String;)V"⟩ : MethodName) jdk_68_method_71_code 2 none ({ frames := 1, cells := 0, slots := 0, locals := 13 } : Room) #[.ref sb, .ref a] h0 (fun v h L => v = none ∧ Fr n0 L ∧ h0 = h) := by
  refine Ctr.of pn_14 ?_
  intro p e s m below meth c T0 X0 B e0
  refine Go.cast (f' := mkF m 0 #[.val (.ref sb), .val (.ref a)] []) (by first | rfl | (simp [entryFrame, mkF, argsToLocals, Value.category, maxLocals]; done)) ?_

  refine g_getS X0 B d14_0 3 rfl (hw _ (List.mem_of_getElem? (i := 50) rfl)) Via.refl e0 SC (fun T1 X1 e1 => ?_)
  refine g_if_eq X1 B d14_3 21 6 rfl (by decide) rfl (fun z => own_abs' (hcx) z) (fun _ => ?_)
  refine g_aloadN X1 B d14_6 7 rfl rfl rfl ?_
  refine g_getF X1 B d14_7 10 rfl (hw _ (List.mem_of_getElem? (i := 53) rfl)) Via.refl e1 BC (fun T2 X2 e2 => ?_)
  refine g_aloadN X2 B d14_10 11 rfl rfl rfl ?_
  refine g_callV X2 B [] [.int (0 : Int32)] d14_11 14 rfl rfl (hw _ (List.mem_of_getElem? (i := 94) rfl)) (hw _ (List.mem_of_getElem? (i := 72) rfl)) (hw _ (List.mem_of_getElem? (i := 74) rfl)) (hw _ (List.mem_of_getElem? (i := 73) rfl)) (hw _ (List.mem_of_getElem? (i := 7) rfl)) (hw _ (List.mem_of_getElem? (i := 75) rfl)) (by decide) (lenOf pd_11 rfl) Ea (rB_cod l Z ag hw a cx h0 n0 FC SC hcx) e2 rfl 1 (Nat.le_of_eq rfl) (by decide) (by decide) (by decide) (by decide) (fun v3 T3 h3 L3 X3 e3 q3 => ?_)
  obtain ⟨rfl, N3, rfl⟩ := q3
  show Go p e below _ (T3.setTop (mkF m 14 #[.val (.ref sb), .val (.ref a)] [.int (0 : Int32), .int (0 : Int32)]))
  refine g_icmp_eq X3 B d14_14 21 17 rfl (by decide) rfl (fun _ => ?_) (fun z => own_abs (rfl) z)
  exact g_retV X3 B d14_21 rfl (by decide) (by decide) e3 ⟨rfl, ((Fr.nil n0).app N3), rfl⟩
set_option maxRecDepth 65536 in
set_option maxHeartbeats 40000000 in
theorem rB_gb (l : Launch) (Z : State) (ag : Array Value) (hw : ∀ d ∈ tables_1, d.before ag Z = true) (a b : Addr) (cx : Int32) (us : List Value) (ds : List Int32) (d : Addr) (vs : List Value) (n : Nat) (h0 : Heap) (n0 : Nat) (Ea : Exa Z h0 a "java/lang/String") (FV : Fld Z h0 a "java/lang/String" "value" "[B" (.ref b)) (FC : Fld Z h0 a "java/lang/String" "coder" "B" (.int 0)) (Ab : Av Z h0 b .byte us) (hd : ds.length ≤ 70) (hL : own_L us ds) (SC : Sta Z h0 "java/lang/String" "COMPACT_STRINGS" "Z" (.int cx)) (hcx : ¬ cx = 0) (gd : n0 ≤ d) (Ad : Av Z h0 d .byte vs) (hfv : ∀ v ∈ vs, fits .byte v = true) (hvl : vs.length ≤ 70) (hnl : n + ds.length ≤ vs.length) :
    Ctr l Z (⟨"java/lang/String", "getBytes", "([BIB)V"⟩ : MethodName) jdk_42_method_147_code 4 none ({ frames := 1, cells := 0, slots := 0, locals := 40 } : Room) #[.ref a, .ref d, .int (Int32.ofNat n), .int (0 : Int32)] h0 (fun v h L => v = none ∧ Fr n0 L ∧ Keep h0 h [d] ∧ Av Z h d .byte (vs.take n ++ us.take us.length ++ vs.drop (n + us.length))) := by
  refine Ctr.of pn_15 ?_
  intro p e s m below meth c T0 X0 B e0
  refine Go.cast (f' := mkF m 0 #[.val (.ref a), .val (.ref d), .val (.int (Int32.ofNat n)), .val (.int (0 : Int32))] []) (by first | rfl | (simp [entryFrame, mkF, argsToLocals, Value.category, maxLocals]; done)) ?_

  refine g_aloadN X0 B d15_0 1 rfl rfl rfl ?_
  refine g_callV X0 B [] [] d15_1 4 rfl rfl (hw _ (List.mem_of_getElem? (i := 71) rfl)) (hw _ (List.mem_of_getElem? (i := 72) rfl)) (hw _ (List.mem_of_getElem? (i := 74) rfl)) (hw _ (List.mem_of_getElem? (i := 73) rfl)) (hw _ (List.mem_of_getElem? (i := 7) rfl)) (hw _ (List.mem_of_getElem? (i := 75) rfl)) (by decide) (lenOf pd_11 rfl) Ea (rB_cod l Z ag hw a cx h0 n0 FC SC hcx) e0 rfl 0 (Nat.le_of_eq rfl) (by decide) (by decide) (by decide) (by decide) (fun v1 T1 h1 L1 X1 e1 q1 => ?_)
  obtain ⟨rfl, N1, rfl⟩ := q1
  show Go p e below _ (T1.setTop (mkF m 4 #[.val (.ref a), .val (.ref d), .val (.int (Int32.ofNat n)), .val (.int (0 : Int32))] [.int (0 : Int32)]))
  refine g_iloadN X1 B d15_4 5 rfl rfl ?_
  refine g_icmp_ne X1 B d15_5 28 8 rfl (by decide) rfl (fun z => own_abs (rfl) z) (fun _ => ?_)
  refine g_aloadN X1 B d15_8 9 rfl rfl rfl ?_
  refine g_getF X1 B d15_9 12 rfl (hw _ (List.mem_of_getElem? (i := 25) rfl)) Via.refl e1 FV (fun T2 X2 e2 => ?_)
  refine g_iconst X2 B (0) d15_12 13 rfl rfl ?_
  refine g_aloadN X2 B d15_13 14 rfl rfl rfl ?_
  refine g_iloadN X2 B d15_14 15 rfl rfl ?_
  refine g_iloadN X2 B d15_15 16 rfl rfl ?_
  refine g_ishl X2 B d15_16 17 rfl ?_
  rw [own_shl0]
  refine g_aloadN X2 B d15_17 18 rfl rfl rfl ?_
  refine g_getF X2 B d15_18 21 rfl (hw _ (List.mem_of_getElem? (i := 25) rfl)) Via.refl e2 FV (fun T3 X3 e3 => ?_)
  refine g_arrlen X3 B (Int32.ofNat us.length) d15_21 22 rfl e3 Ab rfl ?_
  refine g_cpyD X3 B n us.length [] d15_22 25 rfl (hw _ (List.mem_of_getElem? (i := 100) rfl)) (hw _ (List.mem_of_getElem? (i := 103) rfl)) (hw _ (List.mem_of_getElem? (i := 101) rfl)) (hw _ (List.mem_of_getElem? (i := 102) rfl)) e3 Ab Ad (own_Lfits hL) hfv (by rw [hL.1]; omega) (by omega) (Nat.le_refl _) (by rw [hL.1]; omega) ((Fr.nil n0).app N1) gd rfl (by decide) 0 (Nat.le_of_eq rfl) (by decide) (fun T4 h4 L4 X4 e4 N4 K4 A4 => ?_)
  refine g_goto X4 B d15_25 43 rfl (by decide) ?_
  exact g_retV X4 B d15_43 rfl (by decide) (by decide) e4 ⟨rfl, N4, K4, A4⟩
set_option maxRecDepth 65536 in
set_option maxHeartbeats 40000000 in
theorem rB_psa (l : Launch) (Z : State) (ag : Array Value) (hw : ∀ d ∈ tables_1, d.before ag Z = true) (a b : Addr) (cx : Int32) (us : List Value) (ds : List Int32) (sb d : Addr) (vs : List Value) (n : Nat) (h0 : Heap) (n0 : Nat) (Eb : Exa Z h0 sb "java/lang/StringBuilder") (BV : Fld Z h0 sb "java/lang/AbstractStringBuilder" "value" "[B" (.ref d)) (BC : Fld Z h0 sb "java/lang/AbstractStringBuilder" "coder" "B" (.int 0)) (Ea : Exa Z h0 a "java/lang/String") (FV : Fld Z h0 a "java/lang/String" "value" "[B" (.ref b)) (FC : Fld Z h0 a "java/lang/String" "coder" "B" (.int 0)) (Ab : Av Z h0 b .byte us) (hd : ds.length ≤ 70) (hL : own_L us ds) (SC : Sta Z h0 "java/lang/String" "COMPACT_STRINGS" "Z" (.int cx)) (hcx : ¬ cx = 0) (gd : n0 ≤ d) (Ad : Av Z h0 d .byte vs) (hfv : ∀ v ∈ vs, fits .byte v = true) (hvl : vs.length ≤ 70) (hnl : n + ds.length ≤ vs.length) :
    Ctr l Z (⟨"java/lang/AbstractStringBuilder", "putStringAt", "(ILjava/lang/String;)V"⟩ : MethodName) jdk_68_method_73_code 3 none ({ frames := 2, cells := 0, slots := 0, locals := 55 } : Room) #[.ref sb, .int (Int32.ofNat n), .ref a] h0 (fun v h L => v = none ∧ Fr n0 L ∧ Keep h0 h [d] ∧ Av Z h d .byte (vs.take n ++ us.take us.length ++ vs.drop (n + us.length))) := by
  refine Ctr.of pn_13 ?_
  intro p e s m below meth c T0 X0 B e0
  refine Go.cast (f' := mkF m 0 #[.val (.ref sb), .val (.int (Int32.ofNat n)), .val (.ref a)] []) (by first | rfl | (simp [entryFrame, mkF, argsToLocals, Value.category, maxLocals]; done)) ?_

  refine g_aloadN X0 B d13_0 1 rfl rfl rfl ?_
  refine g_aloadN X0 B d13_1 2 rfl rfl rfl ?_
  refine g_callP X0 B [.ref a] [] d13_2 5 rfl rfl (hw _ (List.mem_of_getElem? (i := 89) rfl)) (hw _ (List.mem_of_getElem? (i := 90) rfl)) (own_selP (hw _ (List.mem_of_getElem? (i := 92) rfl)) (hw _ (List.mem_of_getElem? (i := 90) rfl)) (hw _ (List.mem_of_getElem? (i := 91) rfl)) (by decide)) (hw _ (List.mem_of_getElem? (i := 91) rfl)) (hw _ (List.mem_of_getElem? (i := 47) rfl)) (hw _ (List.mem_of_getElem? (i := 93) rfl)) (by decide) (lenOf pd_14 rfl) Eb (rB_inf l Z ag hw sb a cx h0 n0 BC Ea FC SC hcx) e0 rfl 0 (Nat.le_of_eq rfl) (by decide) (by decide) (by decide) (by decide) (fun v1 T1 h1 L1 X1 e1 q1 => ?_)
  obtain ⟨rfl, N1, rfl⟩ := q1
  show Go p e below _ (T1.setTop (mkF m 5 #[.val (.ref sb), .val (.int (Int32.ofNat n)), .val (.ref a)] []))
  refine g_aloadN X1 B d13_5 6 rfl rfl rfl ?_
  refine g_aloadN X1 B d13_6 7 rfl rfl rfl ?_
  refine g_getF X1 B d13_7 10 rfl (hw _ (List.mem_of_getElem? (i := 51) rfl)) Via.refl e1 BV (fun T2 X2 e2 => ?_)
  refine g_iloadN X2 B d13_10 11 rfl rfl ?_
  refine g_aloadN X2 B d13_11 12 rfl rfl rfl ?_
  refine g_getF X2 B d13_12 15 rfl (hw _ (List.mem_of_getElem? (i := 53) rfl)) Via.refl e2 BC (fun T3 X3 e3 => ?_)
  refine g_callV X3 B [.ref d, .int (Int32.ofNat n), .int (0 : Int32)] [] d13_15 18 rfl rfl (hw _ (List.mem_of_getElem? (i := 95) rfl)) (hw _ (List.mem_of_getElem? (i := 96) rfl)) (hw _ (List.mem_of_getElem? (i := 98) rfl)) (hw _ (List.mem_of_getElem? (i := 97) rfl)) (hw _ (List.mem_of_getElem? (i := 7) rfl)) (hw _ (List.mem_of_getElem? (i := 99) rfl)) (by decide) (lenOf pd_15 rfl) Ea (rB_gb l Z ag hw a b cx us ds d vs n h0 n0 Ea FV FC Ab hd hL SC hcx gd Ad hfv hvl hnl) e3 rfl 0 (Nat.le_of_eq rfl) (by decide) (by decide) (by decide) (by decide) (fun v4 T4 h4 L4 X4 e4 q4 => ?_)
  obtain ⟨rfl, N4, t1, t2⟩ := q4
  show Go p e below _ (T4.setTop (mkF m 18 #[.val (.ref sb), .val (.int (Int32.ofNat n)), .val (.ref a)] []))
  exact g_retV X4 B d13_18 rfl (by decide) (by decide) e4 ⟨rfl, (((Fr.nil n0).app N1).app N4), t1, t2⟩
set_option maxRecDepth 65536 in
set_option maxHeartbeats 40000000 in
theorem rB_aps (l : Launch) (Z : State) (ag : Array Value) (hw : ∀ d ∈ tables_1, d.before ag Z = true) (sb d : Addr) (vs : List Value) (cs : List Int32) (a b : Addr) (cx : Int32) (us : List Value) (ds : List Int32) (h0 : Heap) (n0 : Nat) (Z0 : n0 ≤ h0.size) (ga : n0 ≤ sb) (gd : n0 ≤ d) (Eb : Exa Z h0 sb "java/lang/StringBuilder") (BV : Fld Z h0 sb "java/lang/AbstractStringBuilder" "value" "[B" (.ref d)) (BC : Fld Z h0 sb "java/lang/AbstractStringBuilder" "coder" "B" (.int 0)) (Ad : Av Z h0 d .byte vs) (BN : Fld Z h0 sb "java/lang/AbstractStringBuilder" "count" "I" (.int (Int32.ofNat cs.length))) (Ed : Exa Z h0 d "[B") (hV : own_SBv vs cs) (Ea : Exa Z h0 a "java/lang/String") (FV : Fld Z h0 a "java/lang/String" "value" "[B" (.ref b)) (FC : Fld Z h0 a "java/lang/String" "coder" "B" (.int 0)) (Ab : Av Z h0 b .byte us) (hd : ds.length ≤ 70) (hL : own_L us ds) (SC : Sta Z h0 "java/lang/String" "COMPACT_STRINGS" "Z" (.int cx)) (hcx : ¬ cx = 0) (hbd : b ≠ d) (hgr : (cs.length + ds.length) ≤ vs.length ∨ ((cs.length + ds.length) ≤ 2 * vs.length + 2 ∧ vs.length ≤ 34)) (hvl : vs.length ≤ 70) :
    Ctr l Z (⟨"java/lang/AbstractStringBuilder", "append", "(Ljava/lang/String;)Ljava/lang/AbstractStringBuilder;"⟩ : MethodName) jdk_68_method_22_code 3 (some (.object "java/lang/AbstractStringBuilder")) ({ frames := 4, cells := 1, slots := 70, locals := 70 } : Room) #[.ref sb, .ref a] h0 (fun v h L => ∃ d2 ws, v = some (.ref sb) ∧ Fr n0 L ∧ Keep h0 h [sb, d] ∧ Fld Z h sb "java/lang/AbstractStringBuilder" "value" "[B" (.ref d2) ∧ Fld Z h sb "java/lang/AbstractStringBuilder" "coder" "B" (.int 0) ∧ Fld Z h sb "java/lang/AbstractStringBuilder" "count" "I" (.int (Int32.ofNat (cs ++ ds).length)) ∧ Av Z h d2 .byte ws ∧ Exa Z h d2 "[B" ∧ own_SBv ws (cs ++ ds) ∧ ws.length = own_cap (cs.length + ds.length) vs.length ∧ (d2 = d ∨ h0.size ≤ d2) ∧ n0 ≤ d2) := by
  refine Ctr.of pn_9 ?_
  intro p e s m below meth c T0 X0 B e0
  refine Go.cast (f' := mkF m 0 #[.val (.ref sb), .val (.ref a), .unset] []) (by first | rfl | (simp [entryFrame, mkF, argsToLocals, Value.category, maxLocals]; done)) ?_

  refine g_aloadN X0 B d9_0 1 rfl rfl rfl ?_
  refine g_ifnonnull X0 B d9_1 9 4 rfl (by decide) rfl rfl (fun _ => ?_) (fun z => own_abs' (fun z => Value.noConfusion z) z)
  refine g_aloadN X0 B d9_9 10 rfl rfl rfl ?_
  refine g_callV X0 B [] [] d9_10 13 rfl rfl (hw _ (List.mem_of_getElem? (i := 66) rfl)) (hw _ (List.mem_of_getElem? (i := 67) rfl)) (hw _ (List.mem_of_getElem? (i := 69) rfl)) (hw _ (List.mem_of_getElem? (i := 68) rfl)) (hw _ (List.mem_of_getElem? (i := 7) rfl)) (hw _ (List.mem_of_getElem? (i := 70) rfl)) (by decide) (lenOf pd_10 rfl) Ea (rB_len l Z ag hw a b cx us ds h0 n0 Ea FV FC Ab hd hL SC hcx) e0 rfl 0 (Nat.le_of_eq rfl) (by decide) (by decide) (by decide) (by decide) (fun v1 T1 h1 L1 X1 e1 q1 => ?_)
  obtain ⟨rfl, N1, rfl⟩ := q1
  show Go p e below _ (T1.setTop (mkF m 13 #[.val (.ref sb), .val (.ref a), .unset] [.int (Int32.ofNat ds.length)]))
  refine g_istoreN X1 B #[.val (.ref sb), .val (.ref a), .val (.int (Int32.ofNat ds.length))] d9_13 14 rfl rfl ?_
  refine g_aloadN X1 B d9_14 15 rfl rfl rfl ?_
  refine g_aloadN X1 B d9_15 16 rfl rfl rfl ?_
  refine g_getF X1 B d9_16 19 rfl (hw _ (List.mem_of_getElem? (i := 77) rfl)) Via.refl e1 BN (fun T2 X2 e2 => ?_)
  refine g_iloadN X2 B d9_19 20 rfl rfl ?_
  refine g_iadd X2 B d9_20 21 rfl ?_
  rw [own_addN (by omega)]
  refine g_callP X2 B [.int (Int32.ofNat (cs.length + ds.length))] [] d9_21 24 rfl rfl (hw _ (List.mem_of_getElem? (i := 79) rfl)) (hw _ (List.mem_of_getElem? (i := 80) rfl)) (own_selP (hw _ (List.mem_of_getElem? (i := 82) rfl)) (hw _ (List.mem_of_getElem? (i := 80) rfl)) (hw _ (List.mem_of_getElem? (i := 81) rfl)) (by decide)) (hw _ (List.mem_of_getElem? (i := 81) rfl)) (hw _ (List.mem_of_getElem? (i := 47) rfl)) (hw _ (List.mem_of_getElem? (i := 83) rfl)) (by decide) (lenOf pd_12 rfl) Eb (rB_ens l Z ag hw sb d vs cs (cs.length + ds.length) h0 n0 Z0 ga gd Eb BV BC Ad BN Ed hV hgr hvl) e2 rfl 0 (Nat.le_of_eq rfl) (by decide) (by decide) (by decide) (by decide) (fun v3 T3 h3 L3 X3 e3 q3 => ?_)
  obtain ⟨d2, ws, rfl, N3, K3, f1, f2, f3, f4, f5, hW, hw1, hw2, hda, gd2⟩ := q3
  show Go p e below _ (T3.setTop (mkF m 24 #[.val (.ref sb), .val (.ref a), .val (.int (Int32.ofNat ds.length))] []))
  have nb2 : b ≠ d2 := own_nda hda hbd Ab.lt
  have hd2 : d2 ∈ [sb, d] ∨ h0.size ≤ d2 := hda.elim (fun q => Or.inl (q ▸ List.mem_of_getElem? (i := 1) rfl)) Or.inr
  have hwl : ws.length ≤ 70 := by rw [hw2]; unfold own_cap; split <;> omega
  refine g_aloadN X3 B d9_24 25 rfl rfl rfl ?_
  refine g_aloadN X3 B d9_25 26 rfl rfl rfl ?_
  refine g_getF X3 B d9_26 29 rfl (hw _ (List.mem_of_getElem? (i := 77) rfl)) Via.refl e3 f3 (fun T4 X4 e4 => ?_)
  refine g_aloadN X4 B d9_29 30 rfl rfl rfl ?_
  have t1 := (Exa.keep Ea K3)
  have t2 := (Exa.keep Eb K3)
  have t3 : a ≠ sb := ne_exa t1 t2 (by decide)
  have t4 := (Fld.keep FV K3 (ninS t3 nin0))
  have t5 := (Fld.keep FC K3 (ninS t3 nin0))
  have t6 : sb ≠ b := own_neAv Eb (hw _ (List.mem_of_getElem? (i := 38) rfl)) Ab
  have t7 := (Av.keep Ab K3 (ninS (Ne.symm t6) nin0))
  have t8 := (own_stkw SC K3 (own_plE Eb own_pl0))
  have t9 := (Keep.trans (Keep.refl h0 [sb, d]) K3 (allS (Or.inl (List.mem_of_getElem? (i := 0) rfl)) all0))
  have t10 := (Nat.le_trans Z0 K3.1)
  refine g_callP X4 B [.int (Int32.ofNat cs.length), .ref a] [] d9_30 33 rfl rfl (hw _ (List.mem_of_getElem? (i := 84) rfl)) (hw _ (List.mem_of_getElem? (i := 85) rfl)) (own_selP (hw _ (List.mem_of_getElem? (i := 87) rfl)) (hw _ (List.mem_of_getElem? (i := 85) rfl)) (hw _ (List.mem_of_getElem? (i := 86) rfl)) (by decide)) (hw _ (List.mem_of_getElem? (i := 86) rfl)) (hw _ (List.mem_of_getElem? (i := 47) rfl)) (hw _ (List.mem_of_getElem? (i := 88) rfl)) (by decide) (lenOf pd_13 rfl) t2 (rB_psa l Z ag hw a b cx us ds sb d2 ws cs.length h3 n0 t2 f1 f2 t1 t4 t5 t7 hd hL t8 hcx gd2 f4 hW.2.1 hwl hw1) e4 rfl 0 (Nat.le_of_eq rfl) (by decide) (by decide) (by decide) (by decide) (fun v5 T5 h5 L5 X5 e5 q5 => ?_)
  obtain ⟨rfl, N5, K5, A5⟩ := q5
  show Go p e below _ (T5.setTop (mkF m 33 #[.val (.ref sb), .val (.ref a), .val (.int (Int32.ofNat ds.length))] []))
  have kz5 : Keep h0 h5 [sb, d] := Keep.trans t9 K5 (allS hd2 all0)
  have hA2 := own_SBapp hW hL hw1
  refine g_aloadN X5 B d9_33 34 rfl rfl rfl ?_
  refine g_dup X5 B d9_34 35 rfl rfl ?_
  have t11 : sb ≠ d2 := own_neAv (Exa.keep t2 K5) (hw _ (List.mem_of_getElem? (i := 38) rfl)) A5
  have t12 := (Fld.keep f3 K5 (ninS t11 nin0))
  refine g_getF X5 B d9_35 38 rfl (hw _ (List.mem_of_getElem? (i := 77) rfl)) Via.refl e5 t12 (fun T6 X6 e6 => ?_)
  refine g_iloadN X6 B d9_38 39 rfl rfl ?_
  refine g_iadd X6 B d9_39 40 rfl ?_
  rw [own_addN (by omega), ← List.length_append]
  have t13 := (Exa.keep t2 K5)
  refine g_putF X6 B d9_40 43 rfl (hw _ (List.mem_of_getElem? (i := 77) rfl)) Via.refl e6 t12 t13 (Or.inl (hw _ (List.mem_of_getElem? (i := 78) rfl))) (hw _ (List.mem_of_getElem? (i := 38) rfl)) (ty := .int) (by decide) rfl rfl (fun T7 h7 X7 e7 W7 => ?_)
  have F7 := t12.same W7
  refine g_aloadN X7 B d9_43 44 rfl rfl rfl ?_
  have t14 := (Keep.wr kz5 W7 (Or.inl (List.mem_of_getElem? (i := 0) rfl)))
  have t15 := (Fld.other W7 (Fld.keep f1 K5 (ninS t11 nin0)) (Or.inr (slot_ne (Or.inl (hw _ (List.mem_of_getElem? (i := 52) rfl))) (Or.inl (hw _ (List.mem_of_getElem? (i := 78) rfl))) (by decide) (t := (.array .byte)) (by decide) (t' := .int) (by decide))))
  have t16 := (Fld.other W7 (Fld.keep f2 K5 (ninS t11 nin0)) (Or.inr (slot_ne (Or.inl (hw _ (List.mem_of_getElem? (i := 54) rfl))) (Or.inl (hw _ (List.mem_of_getElem? (i := 78) rfl))) (by decide) (t := .byte) (by decide) (t' := .int) (by decide))))
  have t17 := (Av.other A5 W7 (Ne.symm t11))
  have t18 := (Exa.wr W7 (Exa.keep f5 K5))
  exact g_retA X7 B d9_44 rfl rfl rfl (by decide) (by decide) e7 ⟨d2, _, rfl, (Fr.snoc X7 ((((Fr.nil n0).app N1).app N3).app N5) ga), t14, t15, t16, F7, t17, t18, hA2, by simp only [List.length_append, List.length_take, List.length_drop, hL.1]; omega, hda, gd2⟩
set_option maxRecDepth 65536 in
set_option maxHeartbeats 40000000 in
theorem rB_sps (l : Launch) (Z : State) (ag : Array Value) (hw : ∀ d ∈ tables_1, d.before ag Z = true) (sb d : Addr) (vs : List Value) (cs : List Int32) (a b : Addr) (cx : Int32) (us : List Value) (ds : List Int32) (h0 : Heap) (n0 : Nat) (Z0 : n0 ≤ h0.size) (ga : n0 ≤ sb) (gd : n0 ≤ d) (Eb : Exa Z h0 sb "java/lang/StringBuilder") (BV : Fld Z h0 sb "java/lang/AbstractStringBuilder" "value" "[B" (.ref d)) (BC : Fld Z h0 sb "java/lang/AbstractStringBuilder" "coder" "B" (.int 0)) (Ad : Av Z h0 d .byte vs) (BN : Fld Z h0 sb "java/lang/AbstractStringBuilder" "count" "I" (.int (Int32.ofNat cs.length))) (Ed : Exa Z h0 d "[B") (hV : own_SBv vs cs) (Ea : Exa Z h0 a "java/lang/String") (FV : Fld Z h0 a "java/lang/String" "value" "[B" (.ref b)) (FC : Fld Z h0 a "java/lang/String" "coder" "B" (.int 0)) (Ab : Av Z h0 b .byte us) (hd : ds.length ≤ 70) (hL : own_L us ds) (SC : Sta Z h0 "java/lang/String" "COMPACT_STRINGS" "Z" (.int cx)) (hcx : ¬ cx = 0) (hbd : b ≠ d) (hgr : (cs.length + ds.length) ≤ vs.length ∨ ((cs.length + ds.length) ≤ 2 * vs.length + 2 ∧ vs.length ≤ 34)) (hvl : vs.length ≤ 70) :
    Ctr l Z (⟨"java/lang/StringBuilder", "append", "(Ljava/lang/String;)Ljava/lang/StringBuilder;"⟩ : MethodName) jdk_67_method_7_code 2 (some (.object "java/lang/StringBuilder")) ({ frames := 5, cells := 1, slots := 70, locals := 84 } : Room) #[.ref sb, .ref a] h0 (fun v h L => ∃ d2 ws, v = some (.ref sb) ∧ Fr n0 L ∧ Keep h0 h [sb, d] ∧ Fld Z h sb "java/lang/AbstractStringBuilder" "value" "[B" (.ref d2) ∧ Fld Z h sb "java/lang/AbstractStringBuilder" "coder" "B" (.int 0) ∧ Fld Z h sb "java/lang/AbstractStringBuilder" "count" "I" (.int (Int32.ofNat (cs ++ ds).length)) ∧ Av Z h d2 .byte ws ∧ Exa Z h d2 "[B" ∧ own_SBv ws (cs ++ ds) ∧ ws.length = own_cap (cs.length + ds.length) vs.length ∧ (d2 = d ∨ h0.size ≤ d2) ∧ n0 ≤ d2) := by
  refine Ctr.of pn_8 ?_
  intro p e s m below meth c T0 X0 B e0
  refine Go.cast (f' := mkF m 0 #[.val (.ref sb), .val (.ref a)] []) (by first | rfl | (simp [entryFrame, mkF, argsToLocals, Value.category, maxLocals]; done)) ?_

  refine g_aloadN X0 B d8_0 1 rfl rfl rfl ?_
  refine g_aloadN X0 B d8_1 2 rfl rfl rfl ?_
  refine g_callSup X0 B [.ref a] [] d8_2 5 rfl rfl (hw _ (List.mem_of_getElem? (i := 61) rfl)) (hw _ (List.mem_of_getElem? (i := 165) rfl)) rfl (hw _ (List.mem_of_getElem? (i := 62) rfl)) (hw _ (List.mem_of_getElem? (i := 63) rfl)) (by decide) (hw _ (List.mem_of_getElem? (i := 47) rfl)) (hw _ (List.mem_of_getElem? (i := 65) rfl)) (by decide) (lenOf pd_9 rfl) Eb (rB_aps l Z ag hw sb d vs cs a b cx us ds h0 n0 Z0 ga gd Eb BV BC Ad BN Ed hV Ea FV FC Ab hd hL SC hcx hbd hgr hvl) e0 rfl 0 (Nat.le_of_eq rfl) (by decide) (by decide) (by decide) (by decide) (fun v1 T1 h1 L1 X1 e1 q1 => ?_)
  obtain ⟨d2, ws, rfl, N1, t1, t2, t3, t4, t5, t6, t7, t8, t9, t10⟩ := q1
  show Go p e below _ (T1.setTop (mkF m 5 #[.val (.ref sb), .val (.ref a)] [.ref sb]))
  refine g_pop X1 B d8_5 6 rfl rfl ?_
  refine g_aloadN X1 B d8_6 7 rfl rfl rfl ?_
  exact g_retA X1 B d8_7 rfl rfl rfl (by decide) (by decide) e1 ⟨d2, ws, rfl, ((Fr.nil n0).app N1), t1, t2, t3, t4, t5, t6, t7, t8, t9, t10⟩
/-! own: decimal digits -/
def own_digs (n : Nat) : List Int32 := if n < 10 then [Int32.ofNat (48 + n)] else own_digs (n / 10) ++ [Int32.ofNat (48 + n % 10)]
termination_by n
decreasing_by omega
theorem own_digs_lt {n : Nat} (h : n < 10) : own_digs n = [Int32.ofNat (48 + n)] := by rw [own_digs, if_pos h]
theorem own_digs_ge {n : Nat} (h : ¬ n < 10) : own_digs n = own_digs (n / 10) ++ [Int32.ofNat (48 + n % 10)] := by rw [own_digs, if_neg h]
theorem own_digs_100 {n : Nat} (h : ¬ n < 100) : own_digs n = own_digs (n / 100) ++ [Int32.ofNat (48 + n % 100 / 10), Int32.ofNat (48 + n % 100 % 10)] := by
  rw [own_digs_ge (by omega), own_digs_ge (n := n / 10) (by omega), Nat.div_div_eq_div_mul, List.append_assoc]
  have e1 : n / 10 % 10 = n % 100 / 10 := by omega
  have e2 : n % 10 = n % 100 % 10 := by omega
  rw [e1, e2]
  rfl
theorem own_digs_2 {n : Nat} (h1 : ¬ n < 10) (h2 : n < 100) : own_digs n = [Int32.ofNat (48 + n / 10), Int32.ofNat (48 + n % 10)] := by
  rw [own_digs_ge h1, own_digs_lt (by omega)]
  rfl
theorem own_dl : ∀ (k n : Nat), n < 10 ^ (k + 1) → (k = 0 ∨ 10 ^ k ≤ n) → (own_digs n).length = k + 1 := by
  intro k
  induction k with
  | zero => intro n h _; rw [own_digs_lt (by simpa using h)]; rfl
  | succ k ih =>
    intro n h1 h2
    have h3 : 10 ^ (k + 1) ≤ n := h2.resolve_left (by omega)
    have h4 : 10 ≤ n := Nat.le_trans (by rw [Nat.pow_succ]; have := Nat.one_le_two_pow (n := k); have : 1 ≤ 10 ^ k := Nat.one_le_pow _ _ (by decide); omega) h3
    rw [own_digs_ge (by omega), List.length_append, ih (n / 10) (by rw [Nat.pow_succ] at h1; omega) (Or.inr (by rw [Nat.pow_succ] at h3; omega))]
    rfl
theorem own_digs_pos (n : Nat) : 0 < (own_digs n).length := by
  by_cases h : n < 10
  · rw [own_digs_lt h]; simp
  · rw [own_digs_ge h, List.length_append]; simp
theorem own_digs_le {n : Nat} (h : n < 10000000000) : (own_digs n).length ≤ 10 := by
  by_cases h0 : n < 10
  · rw [own_dl 0 n (by omega) (Or.inl rfl)]; omega
  · by_cases h1 : n < 1000000000
    · have : ∀ k m : Nat, m < 10 ^ (k + 1) → (own_digs m).length ≤ k + 1 := by
        intro k
        induction k with
        | zero => intro m hm; rw [own_digs_lt (by simpa using hm)]; simp
        | succ k ih =>
          intro m hm
          by_cases hm0 : m < 10
          · rw [own_digs_lt hm0]; simp
          · rw [own_digs_ge hm0, List.length_append]
            have := ih (m / 10) (by rw [Nat.pow_succ] at hm; omega)
            simp; omega
      exact Nat.le_trans (this 8 n (by omega)) (by omega)
    · rw [own_dl 9 n (by omega) (Or.inr (by omega))]; omega
theorem own_digs_ch : ∀ (k n : Nat), n ≤ k → ∀ c ∈ own_digs n, 48 ≤ c.toInt ∧ c.toInt ≤ 57 := by
  intro k
  induction k with
  | zero => intro n hn c hc; rw [own_digs_lt (by omega)] at hc; cases List.mem_singleton.mp hc; rw [own_ti (by omega)]; omega
  | succ k ih =>
    intro n hn c hc
    by_cases h : n < 10
    · rw [own_digs_lt h] at hc; cases List.mem_singleton.mp hc; rw [own_ti (by omega)]; omega
    · rw [own_digs_ge h] at hc
      rcases List.mem_append.mp hc with q | q
      · exact ih (n / 10) (by omega) c q
      · cases List.mem_singleton.mp q; rw [own_ti (by omega)]; omega
def own_dec (v : Int32) : List Int32 := if v < 0 then 45 :: own_digs v.toInt.natAbs else own_digs v.toInt.natAbs
theorem own_dec_s {v : Int32} (h : v < 0) : own_dec v = 45 :: own_digs v.toInt.natAbs := if_pos h
theorem own_dec_n {v : Int32} (h : ¬ v < 0) : own_dec v = own_digs v.toInt.natAbs := if_neg h
theorem own_dec_le (v : Int32) : (own_dec v).length ≤ 11 ∧ 1 ≤ (own_dec v).length := by
  have h1 := rng32 v
  have h2 := own_digs_le (n := v.toInt.natAbs) (by omega)
  have h3 := own_digs_pos v.toInt.natAbs
  by_cases h : v < 0
  · rw [own_dec_s h, List.length_cons]; omega
  · rw [own_dec_n h]; omega
theorem own_dec_ch (v : Int32) : ∀ c ∈ own_dec v, 45 ≤ c.toInt ∧ c.toInt ≤ 57 := by
  intro c hc
  by_cases h : v < 0
  · rw [own_dec_s h] at hc
    rcases List.mem_cons.mp hc with rfl | q
    · decide
    · have := own_digs_ch _ _ (Nat.le_refl _) c q; omega
  · rw [own_dec_n h] at hc
    have := own_digs_ch _ _ (Nat.le_refl _) c hc; omega
theorem own_szlt {x p : Int32} {N k : Nat} (hx : x.toInt = -(N : Int)) (hp : p.toInt = -((10 ^ k : Nat) : Int)) : p < x ↔ N < 10 ^ k := by
  rw [Int32.lt_iff_toInt_lt, hx, hp]; omega
theorem own_absn {v : Int32} (h : ¬ v < 0) : (-v).toInt = -((v.toInt.natAbs : Nat) : Int) := by
  rw [Int32.lt_iff_toInt_lt] at h
  have k : (0 : Int32).toInt = 0 := by decide
  have h1 := c_ineg v
  have h2 := rng32 v
  have h3 := rng32 (-v)
  omega
theorem own_abss {v : Int32} (h : v < 0) : v.toInt = -((v.toInt.natAbs : Nat) : Int) := by
  rw [Int32.lt_iff_toInt_lt] at h
  have k : (0 : Int32).toInt = 0 := by decide
  omega
def own_ones : List Value := (List.range 100).map fun r => Value.int (Int32.ofNat (48 + r % 10))
def own_tens : List Value := (List.range 100).map fun r => Value.int (Int32.ofNat (48 + r / 10))
theorem own_onesat {r : Nat} (h : r < 100) : own_ones[r]? = some (Value.int (Int32.ofNat (48 + r % 10))) := by
  rw [own_ones, List.getElem?_map, List.getElem?_range h]; rfl
theorem own_tensat {r : Nat} (h : r < 100) : own_tens[r]? = some (Value.int (Int32.ofNat (48 + r / 10))) := by
  rw [own_tens, List.getElem?_map, List.getElem?_range h]; rfl
def own_GB (vs ws : List Value) (n pos : Nat) (tl : List Int32) : Prop := ws.length = vs.length ∧ (∀ v ∈ ws, fits .byte v = true) ∧ (∀ j, j < n → ws[j]? = vs[j]?) ∧ ∀ (j : Nat) (c : Int32), tl[j]? = some c → ws[pos + j]? = some (Value.int c)
theorem own_byted {c : Nat} (h : c < 128) : nar .byte (Int32.ofNat c) = Int32.ofNat c := by
  have h1 : nar .byte (Int32.ofNat c) = (Int32.ofNat c).toInt8.toInt32 := rfl
  have h2 := c_i2b (Int32.ofNat c)
  rw [h1]
  apply Int32.toInt_inj.mp
  rw [own_ti (by omega)] at h2 ⊢
  omega
theorem own_fitd (c : Int32) : fits .byte (.int (nar .byte c)) = true := fits_nar_byte c
theorem own_GBput {vs ws : List Value} {n pos : Nat} {tl : List Int32} {c : Int32} (h : own_GB vs ws n (pos + 1) tl) (hn : n ≤ pos) (hp : pos < vs.length) (hc : nar .byte c = c) : own_GB vs (ws.set pos (.int c)) n pos (c :: tl) := by
  refine ⟨by rw [List.length_set]; exact h.1, ?_, ?_, ?_⟩
  · intro v hv
    rcases List.mem_or_eq_of_mem_set hv with q | q
    · exact h.2.1 v q
    · rw [q, ← hc]; exact own_fitd c
  · intro j hj
    rw [List.getElem?_set_ne (by omega)]; exact h.2.2.1 j hj
  · intro j d hd
    cases j with
    | zero =>
      cases hd
      rw [Nat.add_zero, List.getElem?_set_self (by rw [h.1]; exact hp)]
    | succ j =>
      rw [List.getElem?_set_ne (by omega)]
      have q := h.2.2.2 j d (by simpa using hd)
      rw [← q]; congr 1; omega
theorem own_GB0 {vs : List Value} {n pos : Nat} (hf : ∀ v ∈ vs, fits .byte v = true) : own_GB vs vs n pos [] := ⟨rfl, hf, fun _ _ => rfl, fun j c q => by simp at q⟩
theorem own_lod {c : Int32} (h : 0 ≤ c.toInt ∧ c.toInt < 128) : own_lo c = c := by
  have h2 := c_i2b c
  apply Int32.toInt_inj.mp
  unfold own_lo
  omega
theorem own_GBfin {vs ws : List Value} {cs : List Int32} {v : Int32} (hV : own_SBv vs cs) (h : own_GB vs ws cs.length cs.length (own_dec v)) (hl : cs.length + (own_dec v).length ≤ vs.length) : own_SBv ws (cs ++ own_dec v) := by
  refine ⟨by rw [List.length_append, h.1]; exact hl, h.2.1, ?_⟩
  intro j c hc
  by_cases hj : j < cs.length
  · rw [List.getElem?_append_left hj] at hc
    rw [h.2.2.1 j hj]
    exact hV.2.2 j c hc
  · rw [List.getElem?_append_right (by omega)] at hc
    have q := h.2.2.2 _ c hc
    have r := own_dec_ch v c (List.mem_of_getElem? hc)
    rw [show cs.length + (j - cs.length) = j by omega] at q
    rw [own_lod (by omega)]
    refine ⟨q, ?_⟩
    rw [Int32.lt_iff_toInt_lt]
    have k : (255 : Int32).toInt = 255 := by decide
    omega
theorem own_am1 (i : Nat) (h : i + 1 < 2147483648) : Int32.ofNat (i + 1) + (-1) = Int32.ofNat i := by
  apply Int32.toInt_inj.mp
  have h1 := c_iadd (Int32.ofNat (i + 1)) (-1)
  have h9 := rng32 (Int32.ofNat (i + 1) + (-1))
  have k : (-1 : Int32).toInt = -1 := by decide
  rw [own_ti h] at h1
  rw [own_ti (by omega)]
  omega
theorem own_idx {j : Int32} {k : Nat} (h : j.toInt = k) : j.toNatClampNeg = k ∧ ¬ j < 0 := by
  refine ⟨by rw [Int32.toNatClampNeg, h]; rfl, ?_⟩
  rw [Int32.lt_iff_toInt_lt, h]
  have k : (0 : Int32).toInt = 0 := by decide
  omega
theorem own_q100 {x : Int32} {n : Nat} (hx : x.toInt = -(n : Int)) (hn : 0 < n) : (x / 100).toInt = -((n / 100 : Nat) : Int) := by
  have h1 := (c_idiv x 100 100 (by decide) (by decide)).2 (by omega)
  rw [h1, hx]
  omega
theorem own_r100 {x : Int32} {n : Nat} (hx : x.toInt = -(n : Int)) (hn : 0 < n) : (x / 100 * 100 - x).toInt = ((n % 100 : Nat) : Int) := by
  have h1 := own_q100 hx hn
  have h2 := c_imul (x / 100) 100
  have h3 := c_isub (x / 100 * 100) x
  have h4 := rng32 (x / 100 * 100)
  have h5 := rng32 (x / 100 * 100 - x)
  have h6 := rng32 x
  have k : (100 : Int32).toInt = 100 := by decide
  rw [k, h1] at h2
  omega
theorem own_neg' {x : Int32} {n : Nat} (hx : x.toInt = -(n : Int)) (hn : n < 100) : (-x).toInt = (n : Int) := by
  have h1 := c_ineg x
  have h2 := rng32 (-x)
  omega
theorem own_gt100 {x : Int32} {n : Nat} (hx : x.toInt = -(n : Int)) : (-100 : Int32) < x ↔ n < 100 := by
  rw [Int32.lt_iff_toInt_lt, hx]
  have k : (-100 : Int32).toInt = -100 := by decide
  omega
theorem own_lt9 {x : Int32} {n : Nat} (hx : x.toInt = -(n : Int)) : x < (-9 : Int32) ↔ 9 < n := by
  rw [Int32.lt_iff_toInt_lt, hx]
  have k : (-9 : Int32).toInt = -9 := by decide
  omega

set_option maxRecDepth 65536 in
set_option maxHeartbeats 40000000 in
theorem rB_ssz (l : Launch) (Z : State) (ag : Array Value) (hw : ∀ d ∈ tables_1, d.before ag Z = true) (v : Int32) (h0 : Heap) (n0 : Nat)  :
    Ctr l Z (⟨"java/lang/Integer", "stringSize", "(I)I"⟩ : MethodName) jdk_33_method_13_code 4 (some .int) ({ frames := 0, cells := 0, slots := 0, locals := 0 } : Room) #[.int v] h0 (fun w h L => w = some (.int (Int32.ofNat (own_dec v).length)) ∧ Fr n0 L ∧ h0 = h) := by
  refine Ctr.of pn_18 ?_
  intro p e s m below meth c T0 X0 B e0
  refine Go.cast (f' := mkF m 0 #[.val (.int v), .unset, .unset, .unset] []) (by first | rfl | (simp [entryFrame, mkF, argsToLocals, Value.category, maxLocals]; done)) ?_

  refine g_iconst X0 B (1) d18_0 1 rfl rfl ?_
  refine g_istoreN X0 B #[.val (.int v), .val (.int (1 : Int32)), .unset, .unset] d18_1 2 rfl rfl ?_
  refine g_iloadN X0 B d18_2 3 rfl rfl ?_
  refine g_if_lt X0 B d18_3 11 6 rfl (by decide) rfl (fun c1 => ?_) (fun c1 => ?_)
  · skip
    refine g_bipush X0 B (-10) d18_11 13 rfl rfl ?_
    refine g_istoreN X0 B #[.val (.int v), .val (.int (1 : Int32)), .val (.int (-10 : Int32)), .unset] d18_13 14 rfl rfl ?_
    refine g_iconst X0 B (1) d18_14 15 rfl rfl ?_
    refine g_istoreN X0 B #[.val (.int v), .val (.int (1 : Int32)), .val (.int (-10 : Int32)), .val (.int (1 : Int32))] d18_15 16 rfl rfl ?_
    have hx : (v).toInt = -((v.toInt.natAbs : Nat) : Int) := own_abss c1
    show Go p e below _ (T0.setTop (mkF m 16 #[.val (.int v), .val (.int (1 : Int32)), .val (.int (-10 : Int32)), .val (.int (1 : Int32))] []))
    refine g_iloadN X0 B d18_16 17 rfl rfl ?_
    refine g_bipush X0 B (10) d18_17 19 rfl rfl ?_
    refine g_icmp_ge X0 B d18_19 42 22 rfl (by decide) rfl (fun z => own_abs (by decide) z) (fun _ => ?_)
    refine g_iloadN X0 B d18_22 23 rfl rfl ?_
    refine g_iloadN X0 B d18_23 24 rfl rfl ?_
    refine g_icmp_le X0 B d18_24 31 27 rfl (by decide) rfl (fun c2 => ?_) (fun c2 => ?_)
    · skip
      refine g_bipush X0 B (10) d18_31 33 rfl rfl ?_
      refine g_iloadN X0 B d18_33 34 rfl rfl ?_
      refine g_imul X0 B d18_34 35 rfl ?_
      refine g_istoreN X0 B #[.val (.int v), .val (.int (1 : Int32)), .val (.int ((10 : Int32) * (-10 : Int32))), .val (.int (1 : Int32))] d18_35 36 rfl rfl ?_
      refine g_iinc X0 B #[.val (.int v), .val (.int (1 : Int32)), .val (.int ((10 : Int32) * (-10 : Int32))), .val (.int ((1 : Int32) + (1)))] (1) d18_36 39 rfl rfl rfl rfl ?_
      refine g_goto X0 B d18_39 16 rfl (by decide) ?_
      rw [show ((10 : Int32) * (-10 : Int32)) = (-100 : Int32) by decide, show ((1 : Int32) + (1)) = (2 : Int32) by decide]
      show Go p e below _ (T0.setTop (mkF m 16 #[.val (.int v), .val (.int (1 : Int32)), .val (.int (-100 : Int32)), .val (.int (2 : Int32))] []))
      refine g_iloadN X0 B d18_16 17 rfl rfl ?_
      refine g_bipush X0 B (10) d18_17 19 rfl rfl ?_
      refine g_icmp_ge X0 B d18_19 42 22 rfl (by decide) rfl (fun z => own_abs (by decide) z) (fun _ => ?_)
      refine g_iloadN X0 B d18_22 23 rfl rfl ?_
      refine g_iloadN X0 B d18_23 24 rfl rfl ?_
      refine g_icmp_le X0 B d18_24 31 27 rfl (by decide) rfl (fun c3 => ?_) (fun c3 => ?_)
      · skip
        refine g_bipush X0 B (10) d18_31 33 rfl rfl ?_
        refine g_iloadN X0 B d18_33 34 rfl rfl ?_
        refine g_imul X0 B d18_34 35 rfl ?_
        refine g_istoreN X0 B #[.val (.int v), .val (.int (1 : Int32)), .val (.int ((10 : Int32) * (-100 : Int32))), .val (.int (2 : Int32))] d18_35 36 rfl rfl ?_
        refine g_iinc X0 B #[.val (.int v), .val (.int (1 : Int32)), .val (.int ((10 : Int32) * (-100 : Int32))), .val (.int ((2 : Int32) + (1)))] (1) d18_36 39 rfl rfl rfl rfl ?_
        refine g_goto X0 B d18_39 16 rfl (by decide) ?_
        rw [show ((10 : Int32) * (-100 : Int32)) = (-1000 : Int32) by decide, show ((2 : Int32) + (1)) = (3 : Int32) by decide]
        show Go p e below _ (T0.setTop (mkF m 16 #[.val (.int v), .val (.int (1 : Int32)), .val (.int (-1000 : Int32)), .val (.int (3 : Int32))] []))
        refine g_iloadN X0 B d18_16 17 rfl rfl ?_
        refine g_bipush X0 B (10) d18_17 19 rfl rfl ?_
        refine g_icmp_ge X0 B d18_19 42 22 rfl (by decide) rfl (fun z => own_abs (by decide) z) (fun _ => ?_)
        refine g_iloadN X0 B d18_22 23 rfl rfl ?_
        refine g_iloadN X0 B d18_23 24 rfl rfl ?_
        refine g_icmp_le X0 B d18_24 31 27 rfl (by decide) rfl (fun c4 => ?_) (fun c4 => ?_)
        · skip
          refine g_bipush X0 B (10) d18_31 33 rfl rfl ?_
          refine g_iloadN X0 B d18_33 34 rfl rfl ?_
          refine g_imul X0 B d18_34 35 rfl ?_
          refine g_istoreN X0 B #[.val (.int v), .val (.int (1 : Int32)), .val (.int ((10 : Int32) * (-1000 : Int32))), .val (.int (3 : Int32))] d18_35 36 rfl rfl ?_
          refine g_iinc X0 B #[.val (.int v), .val (.int (1 : Int32)), .val (.int ((10 : Int32) * (-1000 : Int32))), .val (.int ((3 : Int32) + (1)))] (1) d18_36 39 rfl rfl rfl rfl ?_
          refine g_goto X0 B d18_39 16 rfl (by decide) ?_
          rw [show ((10 : Int32) * (-1000 : Int32)) = (-10000 : Int32) by decide, show ((3 : Int32) + (1)) = (4 : Int32) by decide]
          show Go p e below _ (T0.setTop (mkF m 16 #[.val (.int v), .val (.int (1 : Int32)), .val (.int (-10000 : Int32)), .val (.int (4 : Int32))] []))
          refine g_iloadN X0 B d18_16 17 rfl rfl ?_
          refine g_bipush X0 B (10) d18_17 19 rfl rfl ?_
          refine g_icmp_ge X0 B d18_19 42 22 rfl (by decide) rfl (fun z => own_abs (by decide) z) (fun _ => ?_)
          refine g_iloadN X0 B d18_22 23 rfl rfl ?_
          refine g_iloadN X0 B d18_23 24 rfl rfl ?_
          refine g_icmp_le X0 B d18_24 31 27 rfl (by decide) rfl (fun c5 => ?_) (fun c5 => ?_)
          · skip
            refine g_bipush X0 B (10) d18_31 33 rfl rfl ?_
            refine g_iloadN X0 B d18_33 34 rfl rfl ?_
            refine g_imul X0 B d18_34 35 rfl ?_
            refine g_istoreN X0 B #[.val (.int v), .val (.int (1 : Int32)), .val (.int ((10 : Int32) * (-10000 : Int32))), .val (.int (4 : Int32))] d18_35 36 rfl rfl ?_
            refine g_iinc X0 B #[.val (.int v), .val (.int (1 : Int32)), .val (.int ((10 : Int32) * (-10000 : Int32))), .val (.int ((4 : Int32) + (1)))] (1) d18_36 39 rfl rfl rfl rfl ?_
            refine g_goto X0 B d18_39 16 rfl (by decide) ?_
            rw [show ((10 : Int32) * (-10000 : Int32)) = (-100000 : Int32) by decide, show ((4 : Int32) + (1)) = (5 : Int32) by decide]
            show Go p e below _ (T0.setTop (mkF m 16 #[.val (.int v), .val (.int (1 : Int32)), .val (.int (-100000 : Int32)), .val (.int (5 : Int32))] []))
            refine g_iloadN X0 B d18_16 17 rfl rfl ?_
            refine g_bipush X0 B (10) d18_17 19 rfl rfl ?_
            refine g_icmp_ge X0 B d18_19 42 22 rfl (by decide) rfl (fun z => own_abs (by decide) z) (fun _ => ?_)
            refine g_iloadN X0 B d18_22 23 rfl rfl ?_
            refine g_iloadN X0 B d18_23 24 rfl rfl ?_
            refine g_icmp_le X0 B d18_24 31 27 rfl (by decide) rfl (fun c6 => ?_) (fun c6 => ?_)
            · skip
              refine g_bipush X0 B (10) d18_31 33 rfl rfl ?_
              refine g_iloadN X0 B d18_33 34 rfl rfl ?_
              refine g_imul X0 B d18_34 35 rfl ?_
              refine g_istoreN X0 B #[.val (.int v), .val (.int (1 : Int32)), .val (.int ((10 : Int32) * (-100000 : Int32))), .val (.int (5 : Int32))] d18_35 36 rfl rfl ?_
              refine g_iinc X0 B #[.val (.int v), .val (.int (1 : Int32)), .val (.int ((10 : Int32) * (-100000 : Int32))), .val (.int ((5 : Int32) + (1)))] (1) d18_36 39 rfl rfl rfl rfl ?_
              refine g_goto X0 B d18_39 16 rfl (by decide) ?_
              rw [show ((10 : Int32) * (-100000 : Int32)) = (-1000000 : Int32) by decide, show ((5 : Int32) + (1)) = (6 : Int32) by decide]
              show Go p e below _ (T0.setTop (mkF m 16 #[.val (.int v), .val (.int (1 : Int32)), .val (.int (-1000000 : Int32)), .val (.int (6 : Int32))] []))
              refine g_iloadN X0 B d18_16 17 rfl rfl ?_
              refine g_bipush X0 B (10) d18_17 19 rfl rfl ?_
              refine g_icmp_ge X0 B d18_19 42 22 rfl (by decide) rfl (fun z => own_abs (by decide) z) (fun _ => ?_)
              refine g_iloadN X0 B d18_22 23 rfl rfl ?_
              refine g_iloadN X0 B d18_23 24 rfl rfl ?_
              refine g_icmp_le X0 B d18_24 31 27 rfl (by decide) rfl (fun c7 => ?_) (fun c7 => ?_)
              · skip
                refine g_bipush X0 B (10) d18_31 33 rfl rfl ?_
                refine g_iloadN X0 B d18_33 34 rfl rfl ?_
                refine g_imul X0 B d18_34 35 rfl ?_
                refine g_istoreN X0 B #[.val (.int v), .val (.int (1 : Int32)), .val (.int ((10 : Int32) * (-1000000 : Int32))), .val (.int (6 : Int32))] d18_35 36 rfl rfl ?_
                refine g_iinc X0 B #[.val (.int v), .val (.int (1 : Int32)), .val (.int ((10 : Int32) * (-1000000 : Int32))), .val (.int ((6 : Int32) + (1)))] (1) d18_36 39 rfl rfl rfl rfl ?_
                refine g_goto X0 B d18_39 16 rfl (by decide) ?_
                rw [show ((10 : Int32) * (-1000000 : Int32)) = (-10000000 : Int32) by decide, show ((6 : Int32) + (1)) = (7 : Int32) by decide]
                show Go p e below _ (T0.setTop (mkF m 16 #[.val (.int v), .val (.int (1 : Int32)), .val (.int (-10000000 : Int32)), .val (.int (7 : Int32))] []))
                refine g_iloadN X0 B d18_16 17 rfl rfl ?_
                refine g_bipush X0 B (10) d18_17 19 rfl rfl ?_
                refine g_icmp_ge X0 B d18_19 42 22 rfl (by decide) rfl (fun z => own_abs (by decide) z) (fun _ => ?_)
                refine g_iloadN X0 B d18_22 23 rfl rfl ?_
                refine g_iloadN X0 B d18_23 24 rfl rfl ?_
                refine g_icmp_le X0 B d18_24 31 27 rfl (by decide) rfl (fun c8 => ?_) (fun c8 => ?_)
                · skip
                  refine g_bipush X0 B (10) d18_31 33 rfl rfl ?_
                  refine g_iloadN X0 B d18_33 34 rfl rfl ?_
                  refine g_imul X0 B d18_34 35 rfl ?_
                  refine g_istoreN X0 B #[.val (.int v), .val (.int (1 : Int32)), .val (.int ((10 : Int32) * (-10000000 : Int32))), .val (.int (7 : Int32))] d18_35 36 rfl rfl ?_
                  refine g_iinc X0 B #[.val (.int v), .val (.int (1 : Int32)), .val (.int ((10 : Int32) * (-10000000 : Int32))), .val (.int ((7 : Int32) + (1)))] (1) d18_36 39 rfl rfl rfl rfl ?_
                  refine g_goto X0 B d18_39 16 rfl (by decide) ?_
                  rw [show ((10 : Int32) * (-10000000 : Int32)) = (-100000000 : Int32) by decide, show ((7 : Int32) + (1)) = (8 : Int32) by decide]
                  show Go p e below _ (T0.setTop (mkF m 16 #[.val (.int v), .val (.int (1 : Int32)), .val (.int (-100000000 : Int32)), .val (.int (8 : Int32))] []))
                  refine g_iloadN X0 B d18_16 17 rfl rfl ?_
                  refine g_bipush X0 B (10) d18_17 19 rfl rfl ?_
                  refine g_icmp_ge X0 B d18_19 42 22 rfl (by decide) rfl (fun z => own_abs (by decide) z) (fun _ => ?_)
                  refine g_iloadN X0 B d18_22 23 rfl rfl ?_
                  refine g_iloadN X0 B d18_23 24 rfl rfl ?_
                  refine g_icmp_le X0 B d18_24 31 27 rfl (by decide) rfl (fun c9 => ?_) (fun c9 => ?_)
                  · skip
                    refine g_bipush X0 B (10) d18_31 33 rfl rfl ?_
                    refine g_iloadN X0 B d18_33 34 rfl rfl ?_
                    refine g_imul X0 B d18_34 35 rfl ?_
                    refine g_istoreN X0 B #[.val (.int v), .val (.int (1 : Int32)), .val (.int ((10 : Int32) * (-100000000 : Int32))), .val (.int (8 : Int32))] d18_35 36 rfl rfl ?_
                    refine g_iinc X0 B #[.val (.int v), .val (.int (1 : Int32)), .val (.int ((10 : Int32) * (-100000000 : Int32))), .val (.int ((8 : Int32) + (1)))] (1) d18_36 39 rfl rfl rfl rfl ?_
                    refine g_goto X0 B d18_39 16 rfl (by decide) ?_
                    rw [show ((10 : Int32) * (-100000000 : Int32)) = (-1000000000 : Int32) by decide, show ((8 : Int32) + (1)) = (9 : Int32) by decide]
                    show Go p e below _ (T0.setTop (mkF m 16 #[.val (.int v), .val (.int (1 : Int32)), .val (.int (-1000000000 : Int32)), .val (.int (9 : Int32))] []))
                    refine g_iloadN X0 B d18_16 17 rfl rfl ?_
                    refine g_bipush X0 B (10) d18_17 19 rfl rfl ?_
                    refine g_icmp_ge X0 B d18_19 42 22 rfl (by decide) rfl (fun z => own_abs (by decide) z) (fun _ => ?_)
                    refine g_iloadN X0 B d18_22 23 rfl rfl ?_
                    refine g_iloadN X0 B d18_23 24 rfl rfl ?_
                    refine g_icmp_le X0 B d18_24 31 27 rfl (by decide) rfl (fun c10 => ?_) (fun c10 => ?_)
                    · skip
                      refine g_bipush X0 B (10) d18_31 33 rfl rfl ?_
                      refine g_iloadN X0 B d18_33 34 rfl rfl ?_
                      refine g_imul X0 B d18_34 35 rfl ?_
                      refine g_istoreN X0 B #[.val (.int v), .val (.int (1 : Int32)), .val (.int ((10 : Int32) * (-1000000000 : Int32))), .val (.int (9 : Int32))] d18_35 36 rfl rfl ?_
                      refine g_iinc X0 B #[.val (.int v), .val (.int (1 : Int32)), .val (.int ((10 : Int32) * (-1000000000 : Int32))), .val (.int ((9 : Int32) + (1)))] (1) d18_36 39 rfl rfl rfl rfl ?_
                      refine g_goto X0 B d18_39 16 rfl (by decide) ?_
                      rw [show ((10 : Int32) * (-1000000000 : Int32)) = (-10000000000 : Int32) by decide, show ((9 : Int32) + (1)) = (10 : Int32) by decide]
                      show Go p e below _ (T0.setTop (mkF m 16 #[.val (.int v), .val (.int (1 : Int32)), .val (.int (-10000000000 : Int32)), .val (.int (10 : Int32))] []))
                      refine g_iloadN X0 B d18_16 17 rfl rfl ?_
                      refine g_bipush X0 B (10) d18_17 19 rfl rfl ?_
                      refine g_icmp_ge X0 B d18_19 42 22 rfl (by decide) rfl (fun _ => ?_) (fun z => own_abs' (by decide) z)
                      refine g_bipush X0 B (10) d18_42 44 rfl rfl ?_
                      refine g_iloadN X0 B d18_44 45 rfl rfl ?_
                      refine g_iadd X0 B d18_45 46 rfl ?_
                      exact g_retI X0 B d18_46 rfl (by decide) (by decide) e0 ⟨by rw [own_dec_s c1, List.length_cons, own_dl 9 _ (by have := rng32 v; omega) (Or.inr (Nat.le_of_not_lt fun z => c10 ((own_szlt (k := 9) hx (by decide)).mpr z)))]; rfl, (Fr.nil n0), rfl⟩
                    · skip
                      refine g_iloadN X0 B d18_27 28 rfl rfl ?_
                      refine g_iloadN X0 B d18_28 29 rfl rfl ?_
                      refine g_iadd X0 B d18_29 30 rfl ?_
                      exact g_retI X0 B d18_30 rfl (by decide) (by decide) e0 ⟨by rw [own_dec_s c1, List.length_cons, own_dl 8 _ ((own_szlt (k := 9) hx (by decide)).mp c10) (Or.inr (Nat.le_of_not_lt fun z => c9 ((own_szlt (k := 8) hx (by decide)).mpr z)))]; rfl, (Fr.nil n0), rfl⟩
                  · skip
                    refine g_iloadN X0 B d18_27 28 rfl rfl ?_
                    refine g_iloadN X0 B d18_28 29 rfl rfl ?_
                    refine g_iadd X0 B d18_29 30 rfl ?_
                    exact g_retI X0 B d18_30 rfl (by decide) (by decide) e0 ⟨by rw [own_dec_s c1, List.length_cons, own_dl 7 _ ((own_szlt (k := 8) hx (by decide)).mp c9) (Or.inr (Nat.le_of_not_lt fun z => c8 ((own_szlt (k := 7) hx (by decide)).mpr z)))]; rfl, (Fr.nil n0), rfl⟩
                · skip
                  refine g_iloadN X0 B d18_27 28 rfl rfl ?_
                  refine g_iloadN X0 B d18_28 29 rfl rfl ?_
                  refine g_iadd X0 B d18_29 30 rfl ?_
                  exact g_retI X0 B d18_30 rfl (by decide) (by decide) e0 ⟨by rw [own_dec_s c1, List.length_cons, own_dl 6 _ ((own_szlt (k := 7) hx (by decide)).mp c8) (Or.inr (Nat.le_of_not_lt fun z => c7 ((own_szlt (k := 6) hx (by decide)).mpr z)))]; rfl, (Fr.nil n0), rfl⟩
              · skip
                refine g_iloadN X0 B d18_27 28 rfl rfl ?_
                refine g_iloadN X0 B d18_28 29 rfl rfl ?_
                refine g_iadd X0 B d18_29 30 rfl ?_
                exact g_retI X0 B d18_30 rfl (by decide) (by decide) e0 ⟨by rw [own_dec_s c1, List.length_cons, own_dl 5 _ ((own_szlt (k := 6) hx (by decide)).mp c7) (Or.inr (Nat.le_of_not_lt fun z => c6 ((own_szlt (k := 5) hx (by decide)).mpr z)))]; rfl, (Fr.nil n0), rfl⟩
            · skip
              refine g_iloadN X0 B d18_27 28 rfl rfl ?_
              refine g_iloadN X0 B d18_28 29 rfl rfl ?_
              refine g_iadd X0 B d18_29 30 rfl ?_
              exact g_retI X0 B d18_30 rfl (by decide) (by decide) e0 ⟨by rw [own_dec_s c1, List.length_cons, own_dl 4 _ ((own_szlt (k := 5) hx (by decide)).mp c6) (Or.inr (Nat.le_of_not_lt fun z => c5 ((own_szlt (k := 4) hx (by decide)).mpr z)))]; rfl, (Fr.nil n0), rfl⟩
          · skip
            refine g_iloadN X0 B d18_27 28 rfl rfl ?_
            refine g_iloadN X0 B d18_28 29 rfl rfl ?_
            refine g_iadd X0 B d18_29 30 rfl ?_
            exact g_retI X0 B d18_30 rfl (by decide) (by decide) e0 ⟨by rw [own_dec_s c1, List.length_cons, own_dl 3 _ ((own_szlt (k := 4) hx (by decide)).mp c5) (Or.inr (Nat.le_of_not_lt fun z => c4 ((own_szlt (k := 3) hx (by decide)).mpr z)))]; rfl, (Fr.nil n0), rfl⟩
        · skip
          refine g_iloadN X0 B d18_27 28 rfl rfl ?_
          refine g_iloadN X0 B d18_28 29 rfl rfl ?_
          refine g_iadd X0 B d18_29 30 rfl ?_
          exact g_retI X0 B d18_30 rfl (by decide) (by decide) e0 ⟨by rw [own_dec_s c1, List.length_cons, own_dl 2 _ ((own_szlt (k := 3) hx (by decide)).mp c4) (Or.inr (Nat.le_of_not_lt fun z => c3 ((own_szlt (k := 2) hx (by decide)).mpr z)))]; rfl, (Fr.nil n0), rfl⟩
      · skip
        refine g_iloadN X0 B d18_27 28 rfl rfl ?_
        refine g_iloadN X0 B d18_28 29 rfl rfl ?_
        refine g_iadd X0 B d18_29 30 rfl ?_
        exact g_retI X0 B d18_30 rfl (by decide) (by decide) e0 ⟨by rw [own_dec_s c1, List.length_cons, own_dl 1 _ ((own_szlt (k := 2) hx (by decide)).mp c3) (Or.inr (Nat.le_of_not_lt fun z => c2 ((own_szlt (k := 1) hx (by decide)).mpr z)))]; rfl, (Fr.nil n0), rfl⟩
    · skip
      refine g_iloadN X0 B d18_27 28 rfl rfl ?_
      refine g_iloadN X0 B d18_28 29 rfl rfl ?_
      refine g_iadd X0 B d18_29 30 rfl ?_
      exact g_retI X0 B d18_30 rfl (by decide) (by decide) e0 ⟨by rw [own_dec_s c1, List.length_cons, own_dl 0 _ ((own_szlt (k := 1) hx (by decide)).mp c2) (Or.inl rfl)]; rfl, (Fr.nil n0), rfl⟩
  · skip
    refine g_iconst X0 B (0) d18_6 7 rfl rfl ?_
    refine g_istoreN X0 B #[.val (.int v), .val (.int (0 : Int32)), .unset, .unset] d18_7 8 rfl rfl ?_
    refine g_iloadN X0 B d18_8 9 rfl rfl ?_
    refine g_ineg X0 B d18_9 10 rfl ?_
    refine g_istoreN X0 B #[.val (.int (-v)), .val (.int (0 : Int32)), .unset, .unset] d18_10 11 rfl rfl ?_
    refine g_bipush X0 B (-10) d18_11 13 rfl rfl ?_
    refine g_istoreN X0 B #[.val (.int (-v)), .val (.int (0 : Int32)), .val (.int (-10 : Int32)), .unset] d18_13 14 rfl rfl ?_
    refine g_iconst X0 B (1) d18_14 15 rfl rfl ?_
    refine g_istoreN X0 B #[.val (.int (-v)), .val (.int (0 : Int32)), .val (.int (-10 : Int32)), .val (.int (1 : Int32))] d18_15 16 rfl rfl ?_
    have hx : ((-v)).toInt = -((v.toInt.natAbs : Nat) : Int) := own_absn c1
    show Go p e below _ (T0.setTop (mkF m 16 #[.val (.int (-v)), .val (.int (0 : Int32)), .val (.int (-10 : Int32)), .val (.int (1 : Int32))] []))
    refine g_iloadN X0 B d18_16 17 rfl rfl ?_
    refine g_bipush X0 B (10) d18_17 19 rfl rfl ?_
    refine g_icmp_ge X0 B d18_19 42 22 rfl (by decide) rfl (fun z => own_abs (by decide) z) (fun _ => ?_)
    refine g_iloadN X0 B d18_22 23 rfl rfl ?_
    refine g_iloadN X0 B d18_23 24 rfl rfl ?_
    refine g_icmp_le X0 B d18_24 31 27 rfl (by decide) rfl (fun c11 => ?_) (fun c11 => ?_)
    · skip
      refine g_bipush X0 B (10) d18_31 33 rfl rfl ?_
      refine g_iloadN X0 B d18_33 34 rfl rfl ?_
      refine g_imul X0 B d18_34 35 rfl ?_
      refine g_istoreN X0 B #[.val (.int (-v)), .val (.int (0 : Int32)), .val (.int ((10 : Int32) * (-10 : Int32))), .val (.int (1 : Int32))] d18_35 36 rfl rfl ?_
      refine g_iinc X0 B #[.val (.int (-v)), .val (.int (0 : Int32)), .val (.int ((10 : Int32) * (-10 : Int32))), .val (.int ((1 : Int32) + (1)))] (1) d18_36 39 rfl rfl rfl rfl ?_
      refine g_goto X0 B d18_39 16 rfl (by decide) ?_
      rw [show ((10 : Int32) * (-10 : Int32)) = (-100 : Int32) by decide, show ((1 : Int32) + (1)) = (2 : Int32) by decide]
      show Go p e below _ (T0.setTop (mkF m 16 #[.val (.int (-v)), .val (.int (0 : Int32)), .val (.int (-100 : Int32)), .val (.int (2 : Int32))] []))
      refine g_iloadN X0 B d18_16 17 rfl rfl ?_
      refine g_bipush X0 B (10) d18_17 19 rfl rfl ?_
      refine g_icmp_ge X0 B d18_19 42 22 rfl (by decide) rfl (fun z => own_abs (by decide) z) (fun _ => ?_)
      refine g_iloadN X0 B d18_22 23 rfl rfl ?_
      refine g_iloadN X0 B d18_23 24 rfl rfl ?_
      refine g_icmp_le X0 B d18_24 31 27 rfl (by decide) rfl (fun c12 => ?_) (fun c12 => ?_)
      · skip
        refine g_bipush X0 B (10) d18_31 33 rfl rfl ?_
        refine g_iloadN X0 B d18_33 34 rfl rfl ?_
        refine g_imul X0 B d18_34 35 rfl ?_
        refine g_istoreN X0 B #[.val (.int (-v)), .val (.int (0 : Int32)), .val (.int ((10 : Int32) * (-100 : Int32))), .val (.int (2 : Int32))] d18_35 36 rfl rfl ?_
        refine g_iinc X0 B #[.val (.int (-v)), .val (.int (0 : Int32)), .val (.int ((10 : Int32) * (-100 : Int32))), .val (.int ((2 : Int32) + (1)))] (1) d18_36 39 rfl rfl rfl rfl ?_
        refine g_goto X0 B d18_39 16 rfl (by decide) ?_
        rw [show ((10 : Int32) * (-100 : Int32)) = (-1000 : Int32) by decide, show ((2 : Int32) + (1)) = (3 : Int32) by decide]
        show Go p e below _ (T0.setTop (mkF m 16 #[.val (.int (-v)), .val (.int (0 : Int32)), .val (.int (-1000 : Int32)), .val (.int (3 : Int32))] []))
        refine g_iloadN X0 B d18_16 17 rfl rfl ?_
        refine g_bipush X0 B (10) d18_17 19 rfl rfl ?_
        refine g_icmp_ge X0 B d18_19 42 22 rfl (by decide) rfl (fun z => own_abs (by decide) z) (fun _ => ?_)
        refine g_iloadN X0 B d18_22 23 rfl rfl ?_
        refine g_iloadN X0 B d18_23 24 rfl rfl ?_
        refine g_icmp_le X0 B d18_24 31 27 rfl (by decide) rfl (fun c13 => ?_) (fun c13 => ?_)
        · skip
          refine g_bipush X0 B (10) d18_31 33 rfl rfl ?_
          refine g_iloadN X0 B d18_33 34 rfl rfl ?_
          refine g_imul X0 B d18_34 35 rfl ?_
          refine g_istoreN X0 B #[.val (.int (-v)), .val (.int (0 : Int32)), .val (.int ((10 : Int32) * (-1000 : Int32))), .val (.int (3 : Int32))] d18_35 36 rfl rfl ?_
          refine g_iinc X0 B #[.val (.int (-v)), .val (.int (0 : Int32)), .val (.int ((10 : Int32) * (-1000 : Int32))), .val (.int ((3 : Int32) + (1)))] (1) d18_36 39 rfl rfl rfl rfl ?_
          refine g_goto X0 B d18_39 16 rfl (by decide) ?_
          rw [show ((10 : Int32) * (-1000 : Int32)) = (-10000 : Int32) by decide, show ((3 : Int32) + (1)) = (4 : Int32) by decide]
          show Go p e below _ (T0.setTop (mkF m 16 #[.val (.int (-v)), .val (.int (0 : Int32)), .val (.int (-10000 : Int32)), .val (.int (4 : Int32))] []))
          refine g_iloadN X0 B d18_16 17 rfl rfl ?_
          refine g_bipush X0 B (10) d18_17 19 rfl rfl ?_
          refine g_icmp_ge X0 B d18_19 42 22 rfl (by decide) rfl (fun z => own_abs (by decide) z) (fun _ => ?_)
          refine g_iloadN X0 B d18_22 23 rfl rfl ?_
          refine g_iloadN X0 B d18_23 24 rfl rfl ?_
          refine g_icmp_le X0 B d18_24 31 27 rfl (by decide) rfl (fun c14 => ?_) (fun c14 => ?_)
          · skip
            refine g_bipush X0 B (10) d18_31 33 rfl rfl ?_
            refine g_iloadN X0 B d18_33 34 rfl rfl ?_
            refine g_imul X0 B d18_34 35 rfl ?_
            refine g_istoreN X0 B #[.val (.int (-v)), .val (.int (0 : Int32)), .val (.int ((10 : Int32) * (-10000 : Int32))), .val (.int (4 : Int32))] d18_35 36 rfl rfl ?_
            refine g_iinc X0 B #[.val (.int (-v)), .val (.int (0 : Int32)), .val (.int ((10 : Int32) * (-10000 : Int32))), .val (.int ((4 : Int32) + (1)))] (1) d18_36 39 rfl rfl rfl rfl ?_
            refine g_goto X0 B d18_39 16 rfl (by decide) ?_
            rw [show ((10 : Int32) * (-10000 : Int32)) = (-100000 : Int32) by decide, show ((4 : Int32) + (1)) = (5 : Int32) by decide]
            show Go p e below _ (T0.setTop (mkF m 16 #[.val (.int (-v)), .val (.int (0 : Int32)), .val (.int (-100000 : Int32)), .val (.int (5 : Int32))] []))
            refine g_iloadN X0 B d18_16 17 rfl rfl ?_
            refine g_bipush X0 B (10) d18_17 19 rfl rfl ?_
            refine g_icmp_ge X0 B d18_19 42 22 rfl (by decide) rfl (fun z => own_abs (by decide) z) (fun _ => ?_)
            refine g_iloadN X0 B d18_22 23 rfl rfl ?_
            refine g_iloadN X0 B d18_23 24 rfl rfl ?_
            refine g_icmp_le X0 B d18_24 31 27 rfl (by decide) rfl (fun c15 => ?_) (fun c15 => ?_)
            · skip
              refine g_bipush X0 B (10) d18_31 33 rfl rfl ?_
              refine g_iloadN X0 B d18_33 34 rfl rfl ?_
              refine g_imul X0 B d18_34 35 rfl ?_
              refine g_istoreN X0 B #[.val (.int (-v)), .val (.int (0 : Int32)), .val (.int ((10 : Int32) * (-100000 : Int32))), .val (.int (5 : Int32))] d18_35 36 rfl rfl ?_
              refine g_iinc X0 B #[.val (.int (-v)), .val (.int (0 : Int32)), .val (.int ((10 : Int32) * (-100000 : Int32))), .val (.int ((5 : Int32) + (1)))] (1) d18_36 39 rfl rfl rfl rfl ?_
              refine g_goto X0 B d18_39 16 rfl (by decide) ?_
              rw [show ((10 : Int32) * (-100000 : Int32)) = (-1000000 : Int32) by decide, show ((5 : Int32) + (1)) = (6 : Int32) by decide]
              show Go p e below _ (T0.setTop (mkF m 16 #[.val (.int (-v)), .val (.int (0 : Int32)), .val (.int (-1000000 : Int32)), .val (.int (6 : Int32))] []))
              refine g_iloadN X0 B d18_16 17 rfl rfl ?_
              refine g_bipush X0 B (10) d18_17 19 rfl rfl ?_
              refine g_icmp_ge X0 B d18_19 42 22 rfl (by decide) rfl (fun z => own_abs (by decide) z) (fun _ => ?_)
              refine g_iloadN X0 B d18_22 23 rfl rfl ?_
              refine g_iloadN X0 B d18_23 24 rfl rfl ?_
              refine g_icmp_le X0 B d18_24 31 27 rfl (by decide) rfl (fun c16 => ?_) (fun c16 => ?_)
              · skip
                refine g_bipush X0 B (10) d18_31 33 rfl rfl ?_
                refine g_iloadN X0 B d18_33 34 rfl rfl ?_
                refine g_imul X0 B d18_34 35 rfl ?_
                refine g_istoreN X0 B #[.val (.int (-v)), .val (.int (0 : Int32)), .val (.int ((10 : Int32) * (-1000000 : Int32))), .val (.int (6 : Int32))] d18_35 36 rfl rfl ?_
                refine g_iinc X0 B #[.val (.int (-v)), .val (.int (0 : Int32)), .val (.int ((10 : Int32) * (-1000000 : Int32))), .val (.int ((6 : Int32) + (1)))] (1) d18_36 39 rfl rfl rfl rfl ?_
                refine g_goto X0 B d18_39 16 rfl (by decide) ?_
                rw [show ((10 : Int32) * (-1000000 : Int32)) = (-10000000 : Int32) by decide, show ((6 : Int32) + (1)) = (7 : Int32) by decide]
                show Go p e below _ (T0.setTop (mkF m 16 #[.val (.int (-v)), .val (.int (0 : Int32)), .val (.int (-10000000 : Int32)), .val (.int (7 : Int32))] []))
                refine g_iloadN X0 B d18_16 17 rfl rfl ?_
                refine g_bipush X0 B (10) d18_17 19 rfl rfl ?_
                refine g_icmp_ge X0 B d18_19 42 22 rfl (by decide) rfl (fun z => own_abs (by decide) z) (fun _ => ?_)
                refine g_iloadN X0 B d18_22 23 rfl rfl ?_
                refine g_iloadN X0 B d18_23 24 rfl rfl ?_
                refine g_icmp_le X0 B d18_24 31 27 rfl (by decide) rfl (fun c17 => ?_) (fun c17 => ?_)
                · skip
                  refine g_bipush X0 B (10) d18_31 33 rfl rfl ?_
                  refine g_iloadN X0 B d18_33 34 rfl rfl ?_
                  refine g_imul X0 B d18_34 35 rfl ?_
                  refine g_istoreN X0 B #[.val (.int (-v)), .val (.int (0 : Int32)), .val (.int ((10 : Int32) * (-10000000 : Int32))), .val (.int (7 : Int32))] d18_35 36 rfl rfl ?_
                  refine g_iinc X0 B #[.val (.int (-v)), .val (.int (0 : Int32)), .val (.int ((10 : Int32) * (-10000000 : Int32))), .val (.int ((7 : Int32) + (1)))] (1) d18_36 39 rfl rfl rfl rfl ?_
                  refine g_goto X0 B d18_39 16 rfl (by decide) ?_
                  rw [show ((10 : Int32) * (-10000000 : Int32)) = (-100000000 : Int32) by decide, show ((7 : Int32) + (1)) = (8 : Int32) by decide]
                  show Go p e below _ (T0.setTop (mkF m 16 #[.val (.int (-v)), .val (.int (0 : Int32)), .val (.int (-100000000 : Int32)), .val (.int (8 : Int32))] []))
                  refine g_iloadN X0 B d18_16 17 rfl rfl ?_
                  refine g_bipush X0 B (10) d18_17 19 rfl rfl ?_
                  refine g_icmp_ge X0 B d18_19 42 22 rfl (by decide) rfl (fun z => own_abs (by decide) z) (fun _ => ?_)
                  refine g_iloadN X0 B d18_22 23 rfl rfl ?_
                  refine g_iloadN X0 B d18_23 24 rfl rfl ?_
                  refine g_icmp_le X0 B d18_24 31 27 rfl (by decide) rfl (fun c18 => ?_) (fun c18 => ?_)
                  · skip
                    refine g_bipush X0 B (10) d18_31 33 rfl rfl ?_
                    refine g_iloadN X0 B d18_33 34 rfl rfl ?_
                    refine g_imul X0 B d18_34 35 rfl ?_
                    refine g_istoreN X0 B #[.val (.int (-v)), .val (.int (0 : Int32)), .val (.int ((10 : Int32) * (-100000000 : Int32))), .val (.int (8 : Int32))] d18_35 36 rfl rfl ?_
                    refine g_iinc X0 B #[.val (.int (-v)), .val (.int (0 : Int32)), .val (.int ((10 : Int32) * (-100000000 : Int32))), .val (.int ((8 : Int32) + (1)))] (1) d18_36 39 rfl rfl rfl rfl ?_
                    refine g_goto X0 B d18_39 16 rfl (by decide) ?_
                    rw [show ((10 : Int32) * (-100000000 : Int32)) = (-1000000000 : Int32) by decide, show ((8 : Int32) + (1)) = (9 : Int32) by decide]
                    show Go p e below _ (T0.setTop (mkF m 16 #[.val (.int (-v)), .val (.int (0 : Int32)), .val (.int (-1000000000 : Int32)), .val (.int (9 : Int32))] []))
                    refine g_iloadN X0 B d18_16 17 rfl rfl ?_
                    refine g_bipush X0 B (10) d18_17 19 rfl rfl ?_
                    refine g_icmp_ge X0 B d18_19 42 22 rfl (by decide) rfl (fun z => own_abs (by decide) z) (fun _ => ?_)
                    refine g_iloadN X0 B d18_22 23 rfl rfl ?_
                    refine g_iloadN X0 B d18_23 24 rfl rfl ?_
                    refine g_icmp_le X0 B d18_24 31 27 rfl (by decide) rfl (fun c19 => ?_) (fun c19 => ?_)
                    · skip
                      refine g_bipush X0 B (10) d18_31 33 rfl rfl ?_
                      refine g_iloadN X0 B d18_33 34 rfl rfl ?_
                      refine g_imul X0 B d18_34 35 rfl ?_
                      refine g_istoreN X0 B #[.val (.int (-v)), .val (.int (0 : Int32)), .val (.int ((10 : Int32) * (-1000000000 : Int32))), .val (.int (9 : Int32))] d18_35 36 rfl rfl ?_
                      refine g_iinc X0 B #[.val (.int (-v)), .val (.int (0 : Int32)), .val (.int ((10 : Int32) * (-1000000000 : Int32))), .val (.int ((9 : Int32) + (1)))] (1) d18_36 39 rfl rfl rfl rfl ?_
                      refine g_goto X0 B d18_39 16 rfl (by decide) ?_
                      rw [show ((10 : Int32) * (-1000000000 : Int32)) = (-10000000000 : Int32) by decide, show ((9 : Int32) + (1)) = (10 : Int32) by decide]
                      show Go p e below _ (T0.setTop (mkF m 16 #[.val (.int (-v)), .val (.int (0 : Int32)), .val (.int (-10000000000 : Int32)), .val (.int (10 : Int32))] []))
                      refine g_iloadN X0 B d18_16 17 rfl rfl ?_
                      refine g_bipush X0 B (10) d18_17 19 rfl rfl ?_
                      refine g_icmp_ge X0 B d18_19 42 22 rfl (by decide) rfl (fun _ => ?_) (fun z => own_abs' (by decide) z)
                      refine g_bipush X0 B (10) d18_42 44 rfl rfl ?_
                      refine g_iloadN X0 B d18_44 45 rfl rfl ?_
                      refine g_iadd X0 B d18_45 46 rfl ?_
                      exact g_retI X0 B d18_46 rfl (by decide) (by decide) e0 ⟨by rw [own_dec_n c1, own_dl 9 _ (by have := rng32 v; omega) (Or.inr (Nat.le_of_not_lt fun z => c19 ((own_szlt (k := 9) hx (by decide)).mpr z)))]; rfl, (Fr.nil n0), rfl⟩
                    · skip
                      refine g_iloadN X0 B d18_27 28 rfl rfl ?_
                      refine g_iloadN X0 B d18_28 29 rfl rfl ?_
                      refine g_iadd X0 B d18_29 30 rfl ?_
                      exact g_retI X0 B d18_30 rfl (by decide) (by decide) e0 ⟨by rw [own_dec_n c1, own_dl 8 _ ((own_szlt (k := 9) hx (by decide)).mp c19) (Or.inr (Nat.le_of_not_lt fun z => c18 ((own_szlt (k := 8) hx (by decide)).mpr z)))]; rfl, (Fr.nil n0), rfl⟩
                  · skip
                    refine g_iloadN X0 B d18_27 28 rfl rfl ?_
                    refine g_iloadN X0 B d18_28 29 rfl rfl ?_
                    refine g_iadd X0 B d18_29 30 rfl ?_
                    exact g_retI X0 B d18_30 rfl (by decide) (by decide) e0 ⟨by rw [own_dec_n c1, own_dl 7 _ ((own_szlt (k := 8) hx (by decide)).mp c18) (Or.inr (Nat.le_of_not_lt fun z => c17 ((own_szlt (k := 7) hx (by decide)).mpr z)))]; rfl, (Fr.nil n0), rfl⟩
                · skip
                  refine g_iloadN X0 B d18_27 28 rfl rfl ?_
                  refine g_iloadN X0 B d18_28 29 rfl rfl ?_
                  refine g_iadd X0 B d18_29 30 rfl ?_
                  exact g_retI X0 B d18_30 rfl (by decide) (by decide) e0 ⟨by rw [own_dec_n c1, own_dl 6 _ ((own_szlt (k := 7) hx (by decide)).mp c17) (Or.inr (Nat.le_of_not_lt fun z => c16 ((own_szlt (k := 6) hx (by decide)).mpr z)))]; rfl, (Fr.nil n0), rfl⟩
              · skip
                refine g_iloadN X0 B d18_27 28 rfl rfl ?_
                refine g_iloadN X0 B d18_28 29 rfl rfl ?_
                refine g_iadd X0 B d18_29 30 rfl ?_
                exact g_retI X0 B d18_30 rfl (by decide) (by decide) e0 ⟨by rw [own_dec_n c1, own_dl 5 _ ((own_szlt (k := 6) hx (by decide)).mp c16) (Or.inr (Nat.le_of_not_lt fun z => c15 ((own_szlt (k := 5) hx (by decide)).mpr z)))]; rfl, (Fr.nil n0), rfl⟩
            · skip
              refine g_iloadN X0 B d18_27 28 rfl rfl ?_
              refine g_iloadN X0 B d18_28 29 rfl rfl ?_
              refine g_iadd X0 B d18_29 30 rfl ?_
              exact g_retI X0 B d18_30 rfl (by decide) (by decide) e0 ⟨by rw [own_dec_n c1, own_dl 4 _ ((own_szlt (k := 5) hx (by decide)).mp c15) (Or.inr (Nat.le_of_not_lt fun z => c14 ((own_szlt (k := 4) hx (by decide)).mpr z)))]; rfl, (Fr.nil n0), rfl⟩
          · skip
            refine g_iloadN X0 B d18_27 28 rfl rfl ?_
            refine g_iloadN X0 B d18_28 29 rfl rfl ?_
            refine g_iadd X0 B d18_29 30 rfl ?_
            exact g_retI X0 B d18_30 rfl (by decide) (by decide) e0 ⟨by rw [own_dec_n c1, own_dl 3 _ ((own_szlt (k := 4) hx (by decide)).mp c14) (Or.inr (Nat.le_of_not_lt fun z => c13 ((own_szlt (k := 3) hx (by decide)).mpr z)))]; rfl, (Fr.nil n0), rfl⟩
        · skip
          refine g_iloadN X0 B d18_27 28 rfl rfl ?_
          refine g_iloadN X0 B d18_28 29 rfl rfl ?_
          refine g_iadd X0 B d18_29 30 rfl ?_
          exact g_retI X0 B d18_30 rfl (by decide) (by decide) e0 ⟨by rw [own_dec_n c1, own_dl 2 _ ((own_szlt (k := 3) hx (by decide)).mp c13) (Or.inr (Nat.le_of_not_lt fun z => c12 ((own_szlt (k := 2) hx (by decide)).mpr z)))]; rfl, (Fr.nil n0), rfl⟩
      · skip
        refine g_iloadN X0 B d18_27 28 rfl rfl ?_
        refine g_iloadN X0 B d18_28 29 rfl rfl ?_
        refine g_iadd X0 B d18_29 30 rfl ?_
        exact g_retI X0 B d18_30 rfl (by decide) (by decide) e0 ⟨by rw [own_dec_n c1, own_dl 1 _ ((own_szlt (k := 2) hx (by decide)).mp c12) (Or.inr (Nat.le_of_not_lt fun z => c11 ((own_szlt (k := 1) hx (by decide)).mpr z)))]; rfl, (Fr.nil n0), rfl⟩
    · skip
      refine g_iloadN X0 B d18_27 28 rfl rfl ?_
      refine g_iloadN X0 B d18_28 29 rfl rfl ?_
      refine g_iadd X0 B d18_29 30 rfl ?_
      exact g_retI X0 B d18_30 rfl (by decide) (by decide) e0 ⟨by rw [own_dec_n c1, own_dl 0 _ ((own_szlt (k := 1) hx (by decide)).mp c11) (Or.inl rfl)]; rfl, (Fr.nil n0), rfl⟩
def own_QGC (Z : State) (h0 : Heap) (n0 : Nat) (d : Addr) (vs : List Value) (cs : List Int32) (v : Int32) (w : Option Value) (h : Heap) (L : List Loc) : Prop := ∃ z ws, w = some (.int z) ∧ Fr n0 L ∧ Keep h0 h [d] ∧ Av Z h d .byte ws ∧ own_GB vs ws cs.length cs.length (own_dec v)
set_option maxRecDepth 65536 in
set_option maxHeartbeats 40000000 in
theorem rB_gc (l : Launch) (Z : State) (ag : Array Value) (hw : ∀ d ∈ tables_1, d.before ag Z = true) (d d1 d2 : Addr) (vs : List Value) (cs : List Int32) (v : Int32) (h0 : Heap) (n0 : Nat) (gd : n0 ≤ d) (Ad : Av Z h0 d .byte vs) (hV : own_SBv vs cs) (hvl : vs.length ≤ 70) (hl : cs.length + (own_dec v).length ≤ vs.length) (SD1 : Sta Z h0 "java/lang/Integer" "DigitOnes" "[B" (.ref d1)) (SD2 : Sta Z h0 "java/lang/Integer" "DigitTens" "[B" (.ref d2)) (AD1 : Av Z h0 d1 .byte own_ones) (AD2 : Av Z h0 d2 .byte own_tens) (hd1 : d1 < n0) (hd2 : d2 < n0) :
    Ctr l Z (⟨"java/lang/Integer", "getChars", "(II[B)I"⟩ : MethodName) jdk_33_method_12_code 7 (some .int) ({ frames := 0, cells := 0, slots := 0, locals := 0 } : Room) #[.int v, .int (Int32.ofNat (cs.length + (own_dec v).length)), .ref d] h0 (own_QGC Z h0 n0 d vs cs v) := by
  refine Ctr.of pn_25 ?_
  intro p e s m below meth c T0 X0 B e0
  refine Go.cast (f' := mkF m 0 #[.val (.int v), .val (.int (Int32.ofNat (cs.length + (own_dec v).length))), .val (.ref d), .unset, .unset, .unset, .unset] []) (by first | rfl | (simp [entryFrame, mkF, argsToLocals, Value.category, maxLocals]; done)) ?_

  have ne1 : d1 ≠ d := Nat.ne_of_lt (Nat.lt_of_lt_of_le hd1 gd)
  have ne2 : d2 ≠ d := Nat.ne_of_lt (Nat.lt_of_lt_of_le hd2 gd)
  have dle := own_dec_le v
  have loop : ∀ (f n pos : Nat) (x ng : Int32) (sg : Nat) (T : State) (hh : Heap) (ws : List Value) (tl : List Int32) (Lo : List Loc) (o3 o4 : Slot), n ≤ f → x.toInt = -(n : Int) → ((sg = 0 ∧ ng = 0 ∧ ¬ v < 0) ∨ (sg = 1 ∧ ng = 1 ∧ v < 0)) → own_digs v.toInt.natAbs = own_digs n ++ tl → pos = cs.length + sg + (own_digs n).length → pos ≤ vs.length → Stand p l e ({ frames := 0, cells := 0, slots := 0, locals := 0 } : Room) s m #[.int v, .int (Int32.ofNat (cs.length + (own_dec v).length)), .ref d] below meth c T Lo 0 0 → T.heap = hh → Sta Z hh "java/lang/Integer" "DigitOnes" "[B" (.ref d1) → Sta Z hh "java/lang/Integer" "DigitTens" "[B" (.ref d2) → Av Z hh d1 .byte own_ones → Av Z hh d2 .byte own_tens → Av Z hh d .byte ws → own_GB vs ws cs.length pos tl → Keep h0 hh [d] → Fr n0 Lo → One o3 → One o4 → Go p e below (EndsQ s (own_QGC Z h0 n0 d vs cs v) ({ frames := 0, cells := 0, slots := 0, locals := 0 } : Room).cells ({ frames := 0, cells := 0, slots := 0, locals := 0 } : Room).slots) (T.setTop (mkF m 22 #[.val (.int x), .val (.int (Int32.ofNat (cs.length + (own_dec v).length))), .val (.ref d), o3, o4, .val (.int (Int32.ofNat pos)), .val (.int ng)] [])) := by
    intro f
    induction f using Nat.strongRecOn with
    | _ f ih =>
    intro n pos x ng sg T hh ws tl Lo o3 o4 hnf hx hsg hdg hpos hpl X eh SS1 SS2 AA1 AA2 AB hG K NN O3 O4
    refine g_iloadN X B d25_22 23 rfl rfl ?_
    refine g_bipush X B (-100) d25_23 25 rfl rfl ?_
    by_cases hlt : n < 100
    · skip
      refine g_icmp_gt X B d25_25 72 28 rfl (by decide) rfl (fun _ => ?_) (fun z => own_abs ((own_gt100 hx).mpr hlt) z)
      by_cases h9 : 9 < n
      · skip
        have hdd := own_digs_2 (n := n) (by omega) hlt
        rw [hdd] at hdg hpos
        obtain ⟨q, rfl⟩ : ∃ q, pos = q + 1 + 1 := ⟨cs.length + sg, hpos⟩
        have hq : q = cs.length + sg := by simp at hpos; omega
        refine g_aloadN X B d25_72 73 rfl rfl rfl ?_
        refine g_iinc X B #[.val (.int x), .val (.int (Int32.ofNat (cs.length + (own_dec v).length))), .val (.ref d), o3, o4, .val (.int ((Int32.ofNat (q + 1 + 1)) + (-1))), .val (.int ng)] (-1) d25_73 76 rfl rfl rfl rfl ?_
        rw [own_am1 _ (by omega)]
        refine g_iload X B d25_76 78 rfl rfl ?_
        refine g_getS X B d25_78 81 rfl (hw _ (List.mem_of_getElem? (i := 148) rfl)) Via.refl eh SS1 (fun T1 X1 e1 => ?_)
        refine g_iloadN X1 B d25_81 82 rfl rfl ?_
        refine g_ineg X1 B d25_82 83 rfl ?_
        refine g_baloadB X1 B (n) d25_83 84 rfl e1 AA1 (own_idx (j := (-x)) (k := n) (own_neg' hx hlt)).1 (own_idx (j := (-x)) (k := n) (own_neg' hx hlt)).2 (own_onesat (r := n) (by omega)) ?_
        refine g_bastoreB X1 B (q + 1) d25_84 85 rfl e1 AB (own_tn (by omega)) (own_nn (by omega)) (by rw [hG.1]; omega) (fun T2 h2 X2 e2 W2 A2 => ?_)
        rw [show nar .byte (Int32.ofNat (48 + (n) % 10)) = (Int32.ofNat (48 + (n) % 10)) from (own_byted (by omega))] at A2 W2
        have G2 := own_GBput hG (by omega) (by omega) (show nar .byte (Int32.ofNat (48 + (n) % 10)) = (Int32.ofNat (48 + (n) % 10)) from (own_byted (by omega)))
        refine g_iloadN X2 B d25_85 86 rfl rfl ?_
        refine g_bipush X2 B (-9) d25_86 88 rfl rfl ?_
        refine g_icmp_ge X2 B d25_88 104 91 rfl (by decide) rfl (fun z => own_abs ((own_lt9 hx).mpr h9) z) (fun _ => ?_)
        refine g_aloadN X2 B d25_91 92 rfl rfl rfl ?_
        refine g_iinc X2 B #[.val (.int x), .val (.int (Int32.ofNat (cs.length + (own_dec v).length))), .val (.ref d), o3, o4, .val (.int ((Int32.ofNat (q + 1)) + (-1))), .val (.int ng)] (-1) d25_92 95 rfl rfl rfl rfl ?_
        rw [own_am1 _ (by omega)]
        refine g_iload X2 B d25_95 97 rfl rfl ?_
        have t1 := (Sta.wr W2 SS2)
        refine g_getS X2 B d25_97 100 rfl (hw _ (List.mem_of_getElem? (i := 314) rfl)) Via.refl e2 t1 (fun T3 X3 e3 => ?_)
        refine g_iloadN X3 B d25_100 101 rfl rfl ?_
        refine g_ineg X3 B d25_101 102 rfl ?_
        have t2 := (Av.other AA2 W2 ne2)
        refine g_baloadB X3 B (n) d25_102 103 rfl e3 t2 (own_idx (j := (-x)) (k := n) (own_neg' hx hlt)).1 (own_idx (j := (-x)) (k := n) (own_neg' hx hlt)).2 (own_tensat (r := n) (by omega)) ?_
        refine g_bastoreB X3 B q d25_103 104 rfl e3 A2 (own_tn (by omega)) (own_nn (by omega)) (by rw [G2.1]; omega) (fun T4 h4 X4 e4 W4 A4 => ?_)
        rw [show nar .byte (Int32.ofNat (48 + (n) / 10)) = (Int32.ofNat (48 + (n) / 10)) from (own_byted (by omega))] at A4 W4
        have G4 := own_GBput G2 (by omega) (by omega) (show nar .byte (Int32.ofNat (48 + (n) / 10)) = (Int32.ofNat (48 + (n) / 10)) from (own_byted (by omega)))
        refine g_iload X4 B d25_104 106 rfl rfl ?_
        rcases hsg with ⟨rfl, rfl, hng⟩ | ⟨rfl, rfl, hng⟩
        · skip
          obtain rfl : q = cs.length := hq
          refine g_if_eq X4 B d25_106 118 109 rfl (by decide) rfl (fun _ => ?_) (fun z => own_abs (rfl) z)
          refine g_iload X4 B d25_118 120 rfl rfl ?_
          have t3 := (Keep.wr (Keep.wr K W2 (Or.inl (List.mem_of_getElem? (i := 0) rfl))) W4 (Or.inl (List.mem_of_getElem? (i := 0) rfl)))
          exact g_retI X4 B d25_120 rfl (by decide) (by decide) e4 ⟨_, _, rfl, (Fr.snoc X4 (Fr.snoc X2 NN gd) gd), t3, A4, by rw [own_dec_n hng, hdg]; exact G4⟩
        · skip
          obtain rfl : q = cs.length + 1 := hq
          refine g_if_eq X4 B d25_106 118 109 rfl (by decide) rfl (fun z => own_abs' (by decide) z) (fun _ => ?_)
          refine g_aloadN X4 B d25_109 110 rfl rfl rfl ?_
          refine g_iinc X4 B #[.val (.int x), .val (.int (Int32.ofNat (cs.length + (own_dec v).length))), .val (.ref d), o3, o4, .val (.int ((Int32.ofNat (cs.length + 1)) + (-1))), .val (.int (1 : Int32))] (-1) d25_110 113 rfl rfl rfl rfl ?_
          rw [own_am1 _ (by omega)]
          refine g_iload X4 B d25_113 115 rfl rfl ?_
          refine g_bipush X4 B (45) d25_115 117 rfl rfl ?_
          refine g_bastoreB X4 B cs.length d25_117 118 rfl e4 A4 (own_tn (by omega)) (own_nn (by omega)) (by rw [G4.1]; omega) (fun T5 h5 X5 e5 W5 A5 => ?_)
          rw [show nar .byte (45 : Int32) = (45 : Int32) from (by decide)] at A5 W5
          have G5 := own_GBput G4 (by omega) (by omega) (show nar .byte (45 : Int32) = (45 : Int32) from (by decide))
          refine g_iload X5 B d25_118 120 rfl rfl ?_
          have t4 := (Keep.wr (Keep.wr (Keep.wr K W2 (Or.inl (List.mem_of_getElem? (i := 0) rfl))) W4 (Or.inl (List.mem_of_getElem? (i := 0) rfl))) W5 (Or.inl (List.mem_of_getElem? (i := 0) rfl)))
          exact g_retI X5 B d25_120 rfl (by decide) (by decide) e5 ⟨_, _, rfl, (Fr.snoc X5 (Fr.snoc X4 (Fr.snoc X2 NN gd) gd) gd), t4, A5, by rw [own_dec_s hng, hdg]; exact G5⟩
      · skip
        have hdd := (show own_digs n = [Int32.ofNat (48 + n % 10)] by rw [own_digs_lt (by omega), Nat.mod_eq_of_lt (by omega)])
        rw [hdd] at hdg hpos
        obtain ⟨q, rfl⟩ : ∃ q, pos = q + 1 := ⟨cs.length + sg, hpos⟩
        have hq : q = cs.length + sg := by simp at hpos; omega
        refine g_aloadN X B d25_72 73 rfl rfl rfl ?_
        refine g_iinc X B #[.val (.int x), .val (.int (Int32.ofNat (cs.length + (own_dec v).length))), .val (.ref d), o3, o4, .val (.int ((Int32.ofNat (q + 1)) + (-1))), .val (.int ng)] (-1) d25_73 76 rfl rfl rfl rfl ?_
        rw [own_am1 _ (by omega)]
        refine g_iload X B d25_76 78 rfl rfl ?_
        refine g_getS X B d25_78 81 rfl (hw _ (List.mem_of_getElem? (i := 148) rfl)) Via.refl eh SS1 (fun T6 X6 e6 => ?_)
        refine g_iloadN X6 B d25_81 82 rfl rfl ?_
        refine g_ineg X6 B d25_82 83 rfl ?_
        refine g_baloadB X6 B (n) d25_83 84 rfl e6 AA1 (own_idx (j := (-x)) (k := n) (own_neg' hx hlt)).1 (own_idx (j := (-x)) (k := n) (own_neg' hx hlt)).2 (own_onesat (r := n) (by omega)) ?_
        refine g_bastoreB X6 B q d25_84 85 rfl e6 AB (own_tn (by omega)) (own_nn (by omega)) (by rw [hG.1]; omega) (fun T7 h7 X7 e7 W7 A7 => ?_)
        rw [show nar .byte (Int32.ofNat (48 + (n) % 10)) = (Int32.ofNat (48 + (n) % 10)) from (own_byted (by omega))] at A7 W7
        have G7 := own_GBput hG (by omega) (by omega) (show nar .byte (Int32.ofNat (48 + (n) % 10)) = (Int32.ofNat (48 + (n) % 10)) from (own_byted (by omega)))
        refine g_iloadN X7 B d25_85 86 rfl rfl ?_
        refine g_bipush X7 B (-9) d25_86 88 rfl rfl ?_
        refine g_icmp_ge X7 B d25_88 104 91 rfl (by decide) rfl (fun _ => ?_) (fun z => own_abs' (fun z => h9 ((own_lt9 hx).mp z)) z)
        refine g_iload X7 B d25_104 106 rfl rfl ?_
        rcases hsg with ⟨rfl, rfl, hng⟩ | ⟨rfl, rfl, hng⟩
        · skip
          obtain rfl : q = cs.length := hq
          refine g_if_eq X7 B d25_106 118 109 rfl (by decide) rfl (fun _ => ?_) (fun z => own_abs (rfl) z)
          refine g_iload X7 B d25_118 120 rfl rfl ?_
          have t5 := (Keep.wr K W7 (Or.inl (List.mem_of_getElem? (i := 0) rfl)))
          exact g_retI X7 B d25_120 rfl (by decide) (by decide) e7 ⟨_, _, rfl, (Fr.snoc X7 NN gd), t5, A7, by rw [own_dec_n hng, hdg]; exact G7⟩
        · skip
          obtain rfl : q = cs.length + 1 := hq
          refine g_if_eq X7 B d25_106 118 109 rfl (by decide) rfl (fun z => own_abs' (by decide) z) (fun _ => ?_)
          refine g_aloadN X7 B d25_109 110 rfl rfl rfl ?_
          refine g_iinc X7 B #[.val (.int x), .val (.int (Int32.ofNat (cs.length + (own_dec v).length))), .val (.ref d), o3, o4, .val (.int ((Int32.ofNat (cs.length + 1)) + (-1))), .val (.int (1 : Int32))] (-1) d25_110 113 rfl rfl rfl rfl ?_
          rw [own_am1 _ (by omega)]
          refine g_iload X7 B d25_113 115 rfl rfl ?_
          refine g_bipush X7 B (45) d25_115 117 rfl rfl ?_
          refine g_bastoreB X7 B cs.length d25_117 118 rfl e7 A7 (own_tn (by omega)) (own_nn (by omega)) (by rw [G7.1]; omega) (fun T8 h8 X8 e8 W8 A8 => ?_)
          rw [show nar .byte (45 : Int32) = (45 : Int32) from (by decide)] at A8 W8
          have G8 := own_GBput G7 (by omega) (by omega) (show nar .byte (45 : Int32) = (45 : Int32) from (by decide))
          refine g_iload X8 B d25_118 120 rfl rfl ?_
          have t6 := (Keep.wr (Keep.wr K W7 (Or.inl (List.mem_of_getElem? (i := 0) rfl))) W8 (Or.inl (List.mem_of_getElem? (i := 0) rfl)))
          exact g_retI X8 B d25_120 rfl (by decide) (by decide) e8 ⟨_, _, rfl, (Fr.snoc X8 (Fr.snoc X7 NN gd) gd), t6, A8, by rw [own_dec_s hng, hdg]; exact G8⟩
    · skip
      refine g_icmp_gt X B d25_25 72 28 rfl (by decide) rfl (fun z => own_abs' (fun z => hlt ((own_gt100 hx).mp z)) z) (fun _ => ?_)
      have hdd := own_digs_100 (n := n) hlt
      rw [hdd] at hdg hpos
      obtain ⟨q, rfl⟩ : ∃ q, pos = q + 1 + 1 := ⟨cs.length + sg + (own_digs (n / 100)).length, by rw [hpos, List.length_append]; rfl⟩
      have hq : q = cs.length + sg + (own_digs (n / 100)).length := by rw [List.length_append] at hpos; simp at hpos; omega
      refine g_iloadN X B d25_28 29 rfl rfl ?_
      refine g_bipush X B (100) d25_29 31 rfl rfl ?_
      refine g_idiv X B d25_31 32 rfl (by decide) ?_
      refine g_istoreN X B #[.val (.int x), .val (.int (Int32.ofNat (cs.length + (own_dec v).length))), .val (.ref d), .val (.int (x / (100 : Int32))), o4, .val (.int (Int32.ofNat (q + 1 + 1))), .val (.int ng)] d25_32 33 rfl (XS.store1 rfl O3 rfl) ?_
      refine g_iloadN X B d25_33 34 rfl rfl ?_
      refine g_bipush X B (100) d25_34 36 rfl rfl ?_
      refine g_imul X B d25_36 37 rfl ?_
      refine g_iloadN X B d25_37 38 rfl rfl ?_
      refine g_isub X B d25_38 39 rfl ?_
      refine g_istore X B #[.val (.int x), .val (.int (Int32.ofNat (cs.length + (own_dec v).length))), .val (.ref d), .val (.int (x / (100 : Int32))), .val (.int (((x / (100 : Int32)) * (100 : Int32)) - x)), .val (.int (Int32.ofNat (q + 1 + 1))), .val (.int ng)] d25_39 41 rfl (XS.store1 rfl O4 rfl) ?_
      refine g_iloadN X B d25_41 42 rfl rfl ?_
      refine g_istoreN X B #[.val (.int (x / (100 : Int32))), .val (.int (Int32.ofNat (cs.length + (own_dec v).length))), .val (.ref d), .val (.int (x / (100 : Int32))), .val (.int (((x / (100 : Int32)) * (100 : Int32)) - x)), .val (.int (Int32.ofNat (q + 1 + 1))), .val (.int ng)] d25_42 43 rfl rfl ?_
      refine g_aloadN X B d25_43 44 rfl rfl rfl ?_
      refine g_iinc X B #[.val (.int (x / (100 : Int32))), .val (.int (Int32.ofNat (cs.length + (own_dec v).length))), .val (.ref d), .val (.int (x / (100 : Int32))), .val (.int (((x / (100 : Int32)) * (100 : Int32)) - x)), .val (.int ((Int32.ofNat (q + 1 + 1)) + (-1))), .val (.int ng)] (-1) d25_44 47 rfl rfl rfl rfl ?_
      rw [own_am1 _ (by omega)]
      refine g_iload X B d25_47 49 rfl rfl ?_
      refine g_getS X B d25_49 52 rfl (hw _ (List.mem_of_getElem? (i := 148) rfl)) Via.refl eh SS1 (fun T9 X9 e9 => ?_)
      refine g_iload X9 B d25_52 54 rfl rfl ?_
      refine g_baloadB X9 B (n % 100) d25_54 55 rfl e9 AA1 (own_idx (j := (((x / (100 : Int32)) * (100 : Int32)) - x)) (k := n % 100) (own_r100 hx (by omega))).1 (own_idx (j := (((x / (100 : Int32)) * (100 : Int32)) - x)) (k := n % 100) (own_r100 hx (by omega))).2 (own_onesat (r := n % 100) (by omega)) ?_
      refine g_bastoreB X9 B (q + 1) d25_55 56 rfl e9 AB (own_tn (by omega)) (own_nn (by omega)) (by rw [hG.1]; omega) (fun T10 h10 X10 e10 W10 A10 => ?_)
      rw [show nar .byte (Int32.ofNat (48 + (n % 100) % 10)) = (Int32.ofNat (48 + (n % 100) % 10)) from (own_byted (by omega))] at A10 W10
      have G10 := own_GBput hG (by omega) (by omega) (show nar .byte (Int32.ofNat (48 + (n % 100) % 10)) = (Int32.ofNat (48 + (n % 100) % 10)) from (own_byted (by omega)))
      refine g_aloadN X10 B d25_56 57 rfl rfl rfl ?_
      refine g_iinc X10 B #[.val (.int (x / (100 : Int32))), .val (.int (Int32.ofNat (cs.length + (own_dec v).length))), .val (.ref d), .val (.int (x / (100 : Int32))), .val (.int (((x / (100 : Int32)) * (100 : Int32)) - x)), .val (.int ((Int32.ofNat (q + 1)) + (-1))), .val (.int ng)] (-1) d25_57 60 rfl rfl rfl rfl ?_
      rw [own_am1 _ (by omega)]
      refine g_iload X10 B d25_60 62 rfl rfl ?_
      have t7 := (Sta.wr W10 SS2)
      refine g_getS X10 B d25_62 65 rfl (hw _ (List.mem_of_getElem? (i := 314) rfl)) Via.refl e10 t7 (fun T11 X11 e11 => ?_)
      refine g_iload X11 B d25_65 67 rfl rfl ?_
      have t8 := (Av.other AA2 W10 ne2)
      refine g_baloadB X11 B (n % 100) d25_67 68 rfl e11 t8 (own_idx (j := (((x / (100 : Int32)) * (100 : Int32)) - x)) (k := n % 100) (own_r100 hx (by omega))).1 (own_idx (j := (((x / (100 : Int32)) * (100 : Int32)) - x)) (k := n % 100) (own_r100 hx (by omega))).2 (own_tensat (r := n % 100) (by omega)) ?_
      refine g_bastoreB X11 B q d25_68 69 rfl e11 A10 (own_tn (by omega)) (own_nn (by omega)) (by rw [G10.1]; omega) (fun T12 h12 X12 e12 W12 A12 => ?_)
      rw [show nar .byte (Int32.ofNat (48 + (n % 100) / 10)) = (Int32.ofNat (48 + (n % 100) / 10)) from (own_byted (by omega))] at A12 W12
      have G12 := own_GBput G10 (by omega) (by omega) (show nar .byte (Int32.ofNat (48 + (n % 100) / 10)) = (Int32.ofNat (48 + (n % 100) / 10)) from (own_byted (by omega)))
      refine g_goto X12 B d25_69 22 rfl (by decide) ?_
      have t9 := (Sta.wr W12 (Sta.wr W10 SS1))
      have t10 := (Sta.wr W12 t7)
      have t11 := (Av.other (Av.other AA1 W10 ne1) W12 ne1)
      have t12 := (Av.other t8 W12 ne2)
      have t13 := (Keep.wr (Keep.wr K W10 (Or.inl (List.mem_of_getElem? (i := 0) rfl))) W12 (Or.inl (List.mem_of_getElem? (i := 0) rfl)))
      exact ih (n / 100) (by omega) (n / 100) q _ ng sg _ _ _ ((Int32.ofNat (48 + (n % 100) / 10)) :: ((Int32.ofNat (48 + (n % 100) % 10)) :: tl)) _ _ _ (Nat.le_refl _) (own_q100 hx (by omega)) hsg (by rw [hdg, List.append_assoc]; rfl) hq (by omega) X12 e12 t9 t10 t11 t12 A12 G12 t13 (Fr.snoc X12 (Fr.snoc X10 NN gd) gd) (One.val rfl) (One.val rfl)
  refine g_iloadN X0 B d25_0 1 rfl rfl ?_
  refine g_istore X0 B #[.val (.int v), .val (.int (Int32.ofNat (cs.length + (own_dec v).length))), .val (.ref d), .unset, .unset, .val (.int (Int32.ofNat (cs.length + (own_dec v).length))), .unset] d25_1 3 rfl rfl ?_
  refine g_iloadN X0 B d25_3 4 rfl rfl ?_
  refine g_if_ge X0 B d25_4 11 7 rfl (by decide) rfl (fun c1 => ?_) (fun c1 => ?_)
  · skip
    refine g_iconst X0 B (0) d25_11 12 rfl rfl ?_
    refine g_istore X0 B #[.val (.int v), .val (.int (Int32.ofNat (cs.length + (own_dec v).length))), .val (.ref d), .unset, .unset, .val (.int (Int32.ofNat (cs.length + (own_dec v).length))), .val (.int (0 : Int32))] d25_12 14 rfl rfl ?_
    refine g_iload X0 B d25_14 16 rfl rfl ?_
    refine g_if_ne X0 B d25_16 22 19 rfl (by decide) rfl (fun z => own_abs (by decide) z) (fun _ => ?_)
    refine g_iloadN X0 B d25_19 20 rfl rfl ?_
    refine g_ineg X0 B d25_20 21 rfl ?_
    refine g_istoreN X0 B #[.val (.int (-v)), .val (.int (Int32.ofNat (cs.length + (own_dec v).length))), .val (.ref d), .unset, .unset, .val (.int (Int32.ofNat (cs.length + (own_dec v).length))), .val (.int (0 : Int32))] d25_21 22 rfl rfl ?_
    have hE : (own_dec v).length = 0 + (own_digs v.toInt.natAbs).length := by rw [own_dec_n c1]; omega
    exact loop v.toInt.natAbs v.toInt.natAbs _ _ _ 0 _ _ vs [] _ _ _ (Nat.le_refl _) (own_absn c1) (Or.inl ⟨rfl, rfl, c1⟩) (by rw [List.append_nil]) (by omega) (by omega) X0 e0 SD1 SD2 AD1 AD2 Ad (own_GB0 hV.2.1) (Keep.refl h0 [d]) (Fr.nil n0) One.u One.u
  · skip
    refine g_iconst X0 B (1) d25_7 8 rfl rfl ?_
    refine g_goto X0 B d25_8 12 rfl (by decide) ?_
    refine g_istore X0 B #[.val (.int v), .val (.int (Int32.ofNat (cs.length + (own_dec v).length))), .val (.ref d), .unset, .unset, .val (.int (Int32.ofNat (cs.length + (own_dec v).length))), .val (.int (1 : Int32))] d25_12 14 rfl rfl ?_
    refine g_iload X0 B d25_14 16 rfl rfl ?_
    refine g_if_ne X0 B d25_16 22 19 rfl (by decide) rfl (fun _ => ?_) (fun z => own_abs' (by decide) z)
    have hE : (own_dec v).length = 1 + (own_digs v.toInt.natAbs).length := by rw [own_dec_s c1]; simp; omega
    exact loop v.toInt.natAbs v.toInt.natAbs _ _ _ 1 _ _ vs [] _ _ _ (Nat.le_refl _) (own_abss c1) (Or.inr ⟨rfl, rfl, c1⟩) (by rw [List.append_nil]) (by omega) (by omega) X0 e0 SD1 SD2 AD1 AD2 Ad (own_GB0 hV.2.1) (Keep.refl h0 [d]) (Fr.nil n0) One.u One.u
set_option maxRecDepth 65536 in
set_option maxHeartbeats 40000000 in
theorem rB_alat (l : Launch) (Z : State) (ag : Array Value) (hw : ∀ d ∈ tables_1, d.before ag Z = true) (sb : Addr) (cx : Int32) (h0 : Heap) (n0 : Nat) (BC : Fld Z h0 sb "java/lang/AbstractStringBuilder" "coder" "B" (.int 0)) (SC : Sta Z h0 "java/lang/String" "COMPACT_STRINGS" "Z" (.int cx)) (hcx : ¬ cx = 0) :
    Ctr l Z (⟨"java/lang/AbstractStringBuilder", "isLatin1", "()Z"⟩ : MethodName) jdk_68_method_68_code 1 (some .boolean) ({ frames := 0, cells := 0, slots := 0, locals := 0 } : Room) #[.ref sb] h0 (fun v h L => v = some (.int 1) ∧ Fr n0 L ∧ h0 = h) := by
  refine Ctr.of pn_24 ?_
  intro p e s m below meth c T0 X0 B e0
  refine Go.cast (f' := mkF m 0 #[.val (.ref sb)] []) (by first | rfl | (simp [entryFrame, mkF, argsToLocals, Value.category, maxLocals]; done)) ?_

  refine g_getS X0 B d24_0 3 rfl (hw _ (List.mem_of_getElem? (i := 50) rfl)) Via.refl e0 SC (fun T1 X1 e1 => ?_)
  refine g_if_eq X1 B d24_3 17 6 rfl (by decide) rfl (fun z => own_abs' (hcx) z) (fun _ => ?_)
  refine g_aloadN X1 B d24_6 7 rfl rfl rfl ?_
  refine g_getF X1 B d24_7 10 rfl (hw _ (List.mem_of_getElem? (i := 53) rfl)) Via.refl e1 BC (fun T2 X2 e2 => ?_)
  refine g_if_ne X2 B d24_10 17 13 rfl (by decide) rfl (fun z => own_abs (rfl) z) (fun _ => ?_)
  refine g_iconst X2 B (1) d24_13 14 rfl rfl ?_
  refine g_goto X2 B d24_14 18 rfl (by decide) ?_
  exact g_retN X2 B d24_18 rfl rfl (by decide) (by decide) (by decide) e2 ⟨rfl, (Fr.nil n0), rfl⟩
set_option maxRecDepth 65536 in
set_option maxHeartbeats 40000000 in
theorem rB_api (l : Launch) (Z : State) (ag : Array Value) (hw : ∀ d ∈ tables_1, d.before ag Z = true) (sb d : Addr) (vs : List Value) (cs : List Int32) (cx v : Int32) (d1 d2 : Addr) (h0 : Heap) (n0 : Nat) (Z0 : n0 ≤ h0.size) (ga : n0 ≤ sb) (gd : n0 ≤ d) (Eb : Exa Z h0 sb "java/lang/StringBuilder") (BV : Fld Z h0 sb "java/lang/AbstractStringBuilder" "value" "[B" (.ref d)) (BC : Fld Z h0 sb "java/lang/AbstractStringBuilder" "coder" "B" (.int 0)) (Ad : Av Z h0 d .byte vs) (BN : Fld Z h0 sb "java/lang/AbstractStringBuilder" "count" "I" (.int (Int32.ofNat cs.length))) (Ed : Exa Z h0 d "[B") (hV : own_SBv vs cs) (hgr : (cs.length + (own_dec v).length) ≤ vs.length ∨ ((cs.length + (own_dec v).length) ≤ 2 * vs.length + 2 ∧ vs.length ≤ 34)) (hvl : vs.length ≤ 70) (SC : Sta Z h0 "java/lang/String" "COMPACT_STRINGS" "Z" (.int cx)) (hcx : ¬ cx = 0) (SD1 : Sta Z h0 "java/lang/Integer" "DigitOnes" "[B" (.ref d1)) (SD2 : Sta Z h0 "java/lang/Integer" "DigitTens" "[B" (.ref d2)) (AD1 : Av Z h0 d1 .byte own_ones) (AD2 : Av Z h0 d2 .byte own_tens) (hd1 : d1 < n0) (hd2 : d2 < n0) :
    Ctr l Z (⟨"java/lang/AbstractStringBuilder", "append", "(I)Ljava/lang/AbstractStringBuilder;"⟩ : MethodName) jdk_68_method_32_code 4 (some (.object "java/lang/AbstractStringBuilder")) ({ frames := 4, cells := 1, slots := 70, locals := 70 } : Room) #[.ref sb, .int v] h0 (fun v_ h L => ∃ d3 ws, v_ = some (.ref sb) ∧ Fr n0 L ∧ Keep h0 h [sb, d] ∧ Fld Z h sb "java/lang/AbstractStringBuilder" "value" "[B" (.ref d3) ∧ Fld Z h sb "java/lang/AbstractStringBuilder" "coder" "B" (.int 0) ∧ Fld Z h sb "java/lang/AbstractStringBuilder" "count" "I" (.int (Int32.ofNat (cs ++ (own_dec v)).length)) ∧ Av Z h d3 .byte ws ∧ Exa Z h d3 "[B" ∧ own_SBv ws (cs ++ (own_dec v)) ∧ ws.length = own_cap (cs.length + (own_dec v).length) vs.length ∧ (d3 = d ∨ h0.size ≤ d3) ∧ n0 ≤ d3) := by
  refine Ctr.of pn_17 ?_
  intro p e s m below meth c T0 X0 B e0
  refine Go.cast (f' := mkF m 0 #[.val (.ref sb), .val (.int v), .unset, .unset] []) (by first | rfl | (simp [entryFrame, mkF, argsToLocals, Value.category, maxLocals]; done)) ?_

  have dle := own_dec_le v
  refine g_aloadN X0 B d17_0 1 rfl rfl rfl ?_
  refine g_getF X0 B d17_1 4 rfl (hw _ (List.mem_of_getElem? (i := 77) rfl)) Via.refl e0 BN (fun T1 X1 e1 => ?_)
  refine g_istoreN X1 B #[.val (.ref sb), .val (.int v), .val (.int (Int32.ofNat cs.length)), .unset] d17_4 5 rfl rfl ?_
  refine g_iloadN X1 B d17_5 6 rfl rfl ?_
  refine g_iloadN X1 B d17_6 7 rfl rfl ?_
  refine g_callS X1 B [.int v] [.int (Int32.ofNat cs.length)] d17_7 10 rfl rfl (hw _ (List.mem_of_getElem? (i := 113) rfl)) (hw _ (List.mem_of_getElem? (i := 114) rfl)) (hw _ (List.mem_of_getElem? (i := 115) rfl)) (hw _ (List.mem_of_getElem? (i := 116) rfl)) (by decide) (lenOf pd_18 rfl) (rB_ssz l Z ag hw v h0 n0) e1 rfl 1 (Nat.le_of_eq rfl) (by decide) (by decide) (by decide) (by decide) (fun v2 T2 h2 L2 X2 e2 q2 => ?_)
  obtain ⟨rfl, N2, rfl⟩ := q2
  show Go p e below _ (T2.setTop (mkF m 10 #[.val (.ref sb), .val (.int v), .val (.int (Int32.ofNat cs.length)), .unset] [.int (Int32.ofNat (own_dec v).length), .int (Int32.ofNat cs.length)]))
  refine g_iadd X2 B d17_10 11 rfl ?_
  rw [own_addN (by omega)]
  refine g_istoreN X2 B #[.val (.ref sb), .val (.int v), .val (.int (Int32.ofNat cs.length)), .val (.int (Int32.ofNat (cs.length + (own_dec v).length)))] d17_11 12 rfl rfl ?_
  refine g_aloadN X2 B d17_12 13 rfl rfl rfl ?_
  refine g_iloadN X2 B d17_13 14 rfl rfl ?_
  refine g_callP X2 B [.int (Int32.ofNat (cs.length + (own_dec v).length))] [] d17_14 17 rfl rfl (hw _ (List.mem_of_getElem? (i := 79) rfl)) (hw _ (List.mem_of_getElem? (i := 80) rfl)) (own_selP (hw _ (List.mem_of_getElem? (i := 82) rfl)) (hw _ (List.mem_of_getElem? (i := 80) rfl)) (hw _ (List.mem_of_getElem? (i := 81) rfl)) (by decide)) (hw _ (List.mem_of_getElem? (i := 81) rfl)) (hw _ (List.mem_of_getElem? (i := 47) rfl)) (hw _ (List.mem_of_getElem? (i := 83) rfl)) (by decide) (lenOf pd_12 rfl) Eb (rB_ens l Z ag hw sb d vs cs (cs.length + (own_dec v).length) h0 n0 Z0 ga gd Eb BV BC Ad BN Ed hV hgr hvl) e2 rfl 0 (Nat.le_of_eq rfl) (by decide) (by decide) (by decide) (by decide) (fun v3 T3 h3 L3 X3 e3 q3 => ?_)
  obtain ⟨d3, ws, rfl, N3, K3, f1, f2, f3, f4, f5, hW, hw1, hw2, hda, gd2⟩ := q3
  show Go p e below _ (T3.setTop (mkF m 17 #[.val (.ref sb), .val (.int v), .val (.int (Int32.ofNat cs.length)), .val (.int (Int32.ofNat (cs.length + (own_dec v).length)))] []))
  have nd1 : d1 ≠ d := Nat.ne_of_lt (Nat.lt_of_lt_of_le hd1 gd)
  have nd2 : d2 ≠ d := Nat.ne_of_lt (Nat.lt_of_lt_of_le hd2 gd)
  have hd2' : d3 ∈ [sb, d] ∨ h0.size ≤ d3 := hda.elim (fun q => Or.inl (q ▸ List.mem_of_getElem? (i := 1) rfl)) Or.inr
  have hwl : ws.length ≤ 70 := by rw [hw2]; unfold own_cap; split <;> omega
  refine g_aloadN X3 B d17_17 18 rfl rfl rfl ?_
  have t1 := (own_stkw SC K3 (own_plE Eb own_pl0))
  have t2 := (Exa.keep Eb K3)
  refine g_callV X3 B [] [] d17_18 21 rfl rfl (hw _ (List.mem_of_getElem? (i := 140) rfl)) (hw _ (List.mem_of_getElem? (i := 141) rfl)) (hw _ (List.mem_of_getElem? (i := 143) rfl)) (hw _ (List.mem_of_getElem? (i := 142) rfl)) (hw _ (List.mem_of_getElem? (i := 47) rfl)) (hw _ (List.mem_of_getElem? (i := 144) rfl)) (by decide) (lenOf pd_24 rfl) t2 (rB_alat l Z ag hw sb cx h3 n0 f2 t1 hcx) e3 rfl 0 (Nat.le_of_eq rfl) (by decide) (by decide) (by decide) (by decide) (fun v4 T4 h4 L4 X4 e4 q4 => ?_)
  obtain ⟨rfl, N4, rfl⟩ := q4
  show Go p e below _ (T4.setTop (mkF m 21 #[.val (.ref sb), .val (.int v), .val (.int (Int32.ofNat cs.length)), .val (.int (Int32.ofNat (cs.length + (own_dec v).length)))] [.int (1 : Int32)]))
  refine g_if_eq X4 B d17_21 37 24 rfl (by decide) rfl (fun z => own_abs' (by decide) z) (fun _ => ?_)
  refine g_iloadN X4 B d17_24 25 rfl rfl ?_
  refine g_iloadN X4 B d17_25 26 rfl rfl ?_
  refine g_aloadN X4 B d17_26 27 rfl rfl rfl ?_
  refine g_getF X4 B d17_27 30 rfl (hw _ (List.mem_of_getElem? (i := 51) rfl)) Via.refl e4 f1 (fun T5 X5 e5 => ?_)
  have t3 := (Keep.trans (Keep.refl h0 [sb, d]) K3 (allS (Or.inl (List.mem_of_getElem? (i := 0) rfl)) all0))
  have t4 := (Nat.le_trans Z0 K3.1)
  have t5 := (own_stkw SD1 K3 (own_plE Eb own_pl0))
  have t6 := (own_stkw SD2 K3 (own_plE Eb own_pl0))
  have t7 : sb ≠ d1 := own_neAv Eb (hw _ (List.mem_of_getElem? (i := 38) rfl)) AD1
  have t8 := (Av.keep AD1 K3 (ninS (Ne.symm t7) nin0))
  have t9 : sb ≠ d2 := own_neAv Eb (hw _ (List.mem_of_getElem? (i := 38) rfl)) AD2
  have t10 := (Av.keep AD2 K3 (ninS (Ne.symm t9) nin0))
  refine g_callS X5 B [.int v, .int (Int32.ofNat (cs.length + (own_dec v).length)), .ref d3] [] d17_30 33 rfl rfl (hw _ (List.mem_of_getElem? (i := 145) rfl)) (hw _ (List.mem_of_getElem? (i := 146) rfl)) (hw _ (List.mem_of_getElem? (i := 115) rfl)) (hw _ (List.mem_of_getElem? (i := 147) rfl)) (by decide) (lenOf pd_25 rfl) (rB_gc l Z ag hw d3 d1 d2 ws cs v h3 n0 gd2 f4 hW hwl hw1 t5 t6 t8 t10 hd1 hd2) e5 rfl 0 (Nat.le_of_eq rfl) (by decide) (by decide) (by decide) (by decide) (fun v6 T6 h6 L6 X6 e6 q6 => ?_)
  obtain ⟨z, xs, rfl, N6, K6, A6, hG⟩ := q6
  show Go p e below _ (T6.setTop (mkF m 33 #[.val (.ref sb), .val (.int v), .val (.int (Int32.ofNat cs.length)), .val (.int (Int32.ofNat (cs.length + (own_dec v).length)))] [.int z]))
  have kz6 : Keep h0 h6 [sb, d] := Keep.trans t3 K6 (allS hd2' all0)
  have hA2 := own_GBfin hW hG hw1
  refine g_pop X6 B d17_33 34 rfl rfl ?_
  refine g_goto X6 B d17_34 48 rfl (by decide) ?_
  refine g_aloadN X6 B d17_48 49 rfl rfl rfl ?_
  refine g_iloadN X6 B d17_49 50 rfl rfl ?_
  rw [← List.length_append]
  have t11 : sb ≠ d3 := own_neAv (Exa.keep t2 K6) (hw _ (List.mem_of_getElem? (i := 38) rfl)) A6
  have t12 := (Fld.keep f3 K6 (ninS t11 nin0))
  have t13 := (Exa.keep t2 K6)
  refine g_putF X6 B d17_50 53 rfl (hw _ (List.mem_of_getElem? (i := 77) rfl)) Via.refl e6 t12 t13 (Or.inl (hw _ (List.mem_of_getElem? (i := 78) rfl))) (hw _ (List.mem_of_getElem? (i := 38) rfl)) (ty := .int) (by decide) rfl rfl (fun T7 h7 X7 e7 W7 => ?_)
  have F7 := t12.same W7
  refine g_aloadN X7 B d17_53 54 rfl rfl rfl ?_
  have t14 := (Keep.wr kz6 W7 (Or.inl (List.mem_of_getElem? (i := 0) rfl)))
  have t15 := (Fld.other W7 (Fld.keep f1 K6 (ninS t11 nin0)) (Or.inr (slot_ne (Or.inl (hw _ (List.mem_of_getElem? (i := 52) rfl))) (Or.inl (hw _ (List.mem_of_getElem? (i := 78) rfl))) (by decide) (t := (.array .byte)) (by decide) (t' := .int) (by decide))))
  have t16 := (Fld.other W7 (Fld.keep f2 K6 (ninS t11 nin0)) (Or.inr (slot_ne (Or.inl (hw _ (List.mem_of_getElem? (i := 54) rfl))) (Or.inl (hw _ (List.mem_of_getElem? (i := 78) rfl))) (by decide) (t := .byte) (by decide) (t' := .int) (by decide))))
  have t17 := (Av.other A6 W7 (Ne.symm t11))
  have t18 := (Exa.wr W7 (Exa.keep f5 K6))
  exact g_retA X7 B d17_54 rfl rfl rfl (by decide) (by decide) e7 ⟨d3, _, rfl, (Fr.snoc X7 (((((Fr.nil n0).app N2).app N3).app N4).app N6) ga), t14, t15, t16, F7, t17, t18, hA2, by rw [hG.1, List.length_append]; exact hw2, hda, gd2⟩
set_option maxRecDepth 65536 in
set_option maxHeartbeats 40000000 in
theorem rB_spi (l : Launch) (Z : State) (ag : Array Value) (hw : ∀ d ∈ tables_1, d.before ag Z = true) (sb d : Addr) (vs : List Value) (cs : List Int32) (cx v : Int32) (d1 d2 : Addr) (h0 : Heap) (n0 : Nat) (Z0 : n0 ≤ h0.size) (ga : n0 ≤ sb) (gd : n0 ≤ d) (Eb : Exa Z h0 sb "java/lang/StringBuilder") (BV : Fld Z h0 sb "java/lang/AbstractStringBuilder" "value" "[B" (.ref d)) (BC : Fld Z h0 sb "java/lang/AbstractStringBuilder" "coder" "B" (.int 0)) (Ad : Av Z h0 d .byte vs) (BN : Fld Z h0 sb "java/lang/AbstractStringBuilder" "count" "I" (.int (Int32.ofNat cs.length))) (Ed : Exa Z h0 d "[B") (hV : own_SBv vs cs) (hgr : (cs.length + (own_dec v).length) ≤ vs.length ∨ ((cs.length + (own_dec v).length) ≤ 2 * vs.length + 2 ∧ vs.length ≤ 34)) (hvl : vs.length ≤ 70) (SC : Sta Z h0 "java/lang/String" "COMPACT_STRINGS" "Z" (.int cx)) (hcx : ¬ cx = 0) (SD1 : Sta Z h0 "java/lang/Integer" "DigitOnes" "[B" (.ref d1)) (SD2 : Sta Z h0 "java/lang/Integer" "DigitTens" "[B" (.ref d2)) (AD1 : Av Z h0 d1 .byte own_ones) (AD2 : Av Z h0 d2 .byte own_tens) (hd1 : d1 < n0) (hd2 : d2 < n0) :
    Ctr l Z (⟨"java/lang/StringBuilder", "append", "(I)Ljava/lang/StringBuilder;"⟩ : MethodName) jdk_67_method_15_code 2 (some (.object "java/lang/StringBuilder")) ({ frames := 5, cells := 1, slots := 70, locals := 85 } : Room) #[.ref sb, .int v] h0 (fun v_ h L => ∃ d3 ws, v_ = some (.ref sb) ∧ Fr n0 L ∧ Keep h0 h [sb, d] ∧ Fld Z h sb "java/lang/AbstractStringBuilder" "value" "[B" (.ref d3) ∧ Fld Z h sb "java/lang/AbstractStringBuilder" "coder" "B" (.int 0) ∧ Fld Z h sb "java/lang/AbstractStringBuilder" "count" "I" (.int (Int32.ofNat (cs ++ (own_dec v)).length)) ∧ Av Z h d3 .byte ws ∧ Exa Z h d3 "[B" ∧ own_SBv ws (cs ++ (own_dec v)) ∧ ws.length = own_cap (cs.length + (own_dec v).length) vs.length ∧ (d3 = d ∨ h0.size ≤ d3) ∧ n0 ≤ d3) := by
  refine Ctr.of pn_16 ?_
  intro p e s m below meth c T0 X0 B e0
  refine Go.cast (f' := mkF m 0 #[.val (.ref sb), .val (.int v)] []) (by first | rfl | (simp [entryFrame, mkF, argsToLocals, Value.category, maxLocals]; done)) ?_

  refine g_aloadN X0 B d16_0 1 rfl rfl rfl ?_
  refine g_iloadN X0 B d16_1 2 rfl rfl ?_
  refine g_callSup X0 B [.int v] [] d16_2 5 rfl rfl (hw _ (List.mem_of_getElem? (i := 109) rfl)) (hw _ (List.mem_of_getElem? (i := 165) rfl)) rfl (hw _ (List.mem_of_getElem? (i := 110) rfl)) (hw _ (List.mem_of_getElem? (i := 63) rfl)) (by decide) (hw _ (List.mem_of_getElem? (i := 47) rfl)) (hw _ (List.mem_of_getElem? (i := 112) rfl)) (by decide) (lenOf pd_17 rfl) Eb (rB_api l Z ag hw sb d vs cs cx v d1 d2 h0 n0 Z0 ga gd Eb BV BC Ad BN Ed hV hgr hvl SC hcx SD1 SD2 AD1 AD2 hd1 hd2) e0 rfl 0 (Nat.le_of_eq rfl) (by decide) (by decide) (by decide) (by decide) (fun v1 T1 h1 L1 X1 e1 q1 => ?_)
  obtain ⟨d3, ws, rfl, N1, t1, t2, t3, t4, t5, t6, t7, t8, t9, t10⟩ := q1
  show Go p e below _ (T1.setTop (mkF m 5 #[.val (.ref sb), .val (.int v)] [.ref sb]))
  refine g_pop X1 B d16_5 6 rfl rfl ?_
  refine g_aloadN X1 B d16_6 7 rfl rfl rfl ?_
  exact g_retA X1 B d16_7 rfl rfl rfl (by decide) (by decide) e1 ⟨d3, ws, rfl, ((Fr.nil n0).app N1), t1, t2, t3, t4, t5, t6, t7, t8, t9, t10⟩
theorem own_SBL {vs : List Value} {cs : List Int32} (h : own_SBv vs cs) : own_L (vs.take cs.length) cs := by
  have h1 := h.1
  refine ⟨by rw [List.length_take]; omega, fun j c hj hc => ?_⟩
  obtain ⟨q1, q2⟩ := h.2.2 j c hc
  rw [List.getElem?_take_of_lt hj]
  exact ⟨q1, q2⟩
theorem own_SBL2 {vs : List Value} {cs : List Int32} (h : own_SBv vs cs) (hl : cs.length = vs.length) : own_L vs cs := by
  have := own_SBL h
  rwa [hl, List.take_length] at this
theorem own_SBL3 {vs : List Value} {cs : List Int32} (h : own_SBv vs cs) : own_L ((List.replicate cs.length (Value.int 0)).take 0 ++ vs.take cs.length ++ (List.replicate cs.length (Value.int 0)).drop (0 + cs.length)) cs := by
  rw [List.take_zero, List.nil_append, List.drop_eq_nil_of_le (by simp), List.append_nil]
  exact own_SBL h

set_option maxRecDepth 65536 in
set_option maxHeartbeats 40000000 in
theorem rB_gv (l : Launch) (Z : State) (ag : Array Value) (hw : ∀ d ∈ tables_1, d.before ag Z = true) (sb d : Addr) (h0 : Heap) (n0 : Nat) (BV : Fld Z h0 sb "java/lang/AbstractStringBuilder" "value" "[B" (.ref d)) :
    Ctr l Z (⟨"java/lang/AbstractStringBuilder", "getValue", "()[B"⟩ : MethodName) jdk_68_method_64_code 1 (some (.array .byte)) ({ frames := 0, cells := 0, slots := 0, locals := 0 } : Room) #[.ref sb] h0 (fun v h L => v = some (.ref d) ∧ Fr n0 L ∧ h0 = h) := by
  refine Ctr.of pn_29 ?_
  intro p e s m below meth c T0 X0 B e0
  refine Go.cast (f' := mkF m 0 #[.val (.ref sb)] []) (by first | rfl | (simp [entryFrame, mkF, argsToLocals, Value.category, maxLocals]; done)) ?_

  refine g_aloadN X0 B d29_0 1 rfl rfl rfl ?_
  refine g_getF X0 B d29_1 4 rfl (hw _ (List.mem_of_getElem? (i := 51) rfl)) Via.refl e0 BV (fun T1 X1 e1 => ?_)
  exact g_retA X1 B d29_4 rfl rfl rfl (by decide) (by decide) e1 ⟨rfl, (Fr.nil n0), rfl⟩
set_option maxRecDepth 65536 in
set_option maxHeartbeats 40000000 in
theorem rB_aln (l : Launch) (Z : State) (ag : Array Value) (hw : ∀ d ∈ tables_1, d.before ag Z = true) (sb : Addr) (z : Int32) (h0 : Heap) (n0 : Nat) (BN : Fld Z h0 sb "java/lang/AbstractStringBuilder" "count" "I" (.int z)) :
    Ctr l Z (⟨"java/lang/AbstractStringBuilder", "length", "()I"⟩ : MethodName) jdk_68_method_6_code 1 (some .int) ({ frames := 0, cells := 0, slots := 0, locals := 0 } : Room) #[.ref sb] h0 (fun v h L => v = some (.int z) ∧ Fr n0 L ∧ h0 = h) := by
  refine Ctr.of pn_31 ?_
  intro p e s m below meth c T0 X0 B e0
  refine Go.cast (f' := mkF m 0 #[.val (.ref sb)] []) (by first | rfl | (simp [entryFrame, mkF, argsToLocals, Value.category, maxLocals]; done)) ?_

  refine g_aloadN X0 B d31_0 1 rfl rfl rfl ?_
  refine g_getF X0 B d31_1 4 rfl (hw _ (List.mem_of_getElem? (i := 77) rfl)) Via.refl e0 BN (fun T1 X1 e1 => ?_)
  exact g_retI X1 B d31_4 rfl (by decide) (by decide) e1 ⟨rfl, (Fr.nil n0), rfl⟩
set_option maxRecDepth 65536 in
set_option maxHeartbeats 40000000 in
theorem rB_sln (l : Launch) (Z : State) (ag : Array Value) (hw : ∀ d ∈ tables_1, d.before ag Z = true) (sb : Addr) (z : Int32) (h0 : Heap) (n0 : Nat) (Eb : Exa Z h0 sb "java/lang/StringBuilder") (BN : Fld Z h0 sb "java/lang/AbstractStringBuilder" "count" "I" (.int z)) :
    Ctr l Z (⟨"java/lang/StringBuilder", "length", "()I"⟩ : MethodName) jdk_67_method_93_code 1 (some .int) ({ frames := 1, cells := 0, slots := 0, locals := 12 } : Room) #[.ref sb] h0 (fun v h L => v = some (.int z) ∧ Fr n0 L ∧ h0 = h) := by
  refine Ctr.of pn_30 ?_
  intro p e s m below meth c T0 X0 B e0
  refine Go.cast (f' := mkF m 0 #[.val (.ref sb)] []) (by first | rfl | (simp [entryFrame, mkF, argsToLocals, Value.category, maxLocals]; done)) ?_

  refine g_aloadN X0 B d30_0 1 rfl rfl rfl ?_
  refine g_callSup X0 B [] [] d30_1 4 rfl rfl (hw _ (List.mem_of_getElem? (i := 173) rfl)) (hw _ (List.mem_of_getElem? (i := 165) rfl)) rfl (hw _ (List.mem_of_getElem? (i := 169) rfl)) (hw _ (List.mem_of_getElem? (i := 63) rfl)) (by decide) (hw _ (List.mem_of_getElem? (i := 47) rfl)) (hw _ (List.mem_of_getElem? (i := 174) rfl)) (by decide) (lenOf pd_31 rfl) Eb (rB_aln l Z ag hw sb z h0 n0 BN) e0 rfl 0 (Nat.le_of_eq rfl) (by decide) (by decide) (by decide) (by decide) (fun v1 T1 h1 L1 X1 e1 q1 => ?_)
  obtain ⟨rfl, N1, rfl⟩ := q1
  show Go p e below _ (T1.setTop (mkF m 4 #[.val (.ref sb)] [.int z]))
  exact g_retI X1 B d30_4 rfl (by decide) (by decide) e1 ⟨rfl, ((Fr.nil n0).app N1), rfl⟩
set_option maxRecDepth 65536 in
set_option maxHeartbeats 40000000 in
theorem rB_chl (l : Launch) (Z : State) (ag : Array Value) (hw : ∀ d ∈ tables_1, d.before ag Z = true) (f t : Int32) (h0 : Heap) (n0 : Nat) (f2 : ¬ t < f) :
    Ctr l Z (⟨"java/util/Arrays", "checkLength", "(II)V"⟩ : MethodName) jdk_65_method_131_code 2 none ({ frames := 0, cells := 0, slots := 0, locals := 0 } : Room) #[.int f, .int t] h0 (fun v h L => v = none ∧ Fr n0 L ∧ h0 = h) := by
  refine Ctr.of pn_34 ?_
  intro p e s m below meth c T0 X0 B e0
  refine Go.cast (f' := mkF m 0 #[.val (.int f), .val (.int t)] []) (by first | rfl | (simp [entryFrame, mkF, argsToLocals, Value.category, maxLocals]; done)) ?_

  refine g_iloadN X0 B d34_0 1 rfl rfl ?_
  refine g_iloadN X0 B d34_1 2 rfl rfl ?_
  refine g_icmp_ge X0 B d34_2 37 5 rfl (by decide) rfl (fun _ => ?_) (fun z => own_abs' (f2) z)
  exact g_retV X0 B d34_37 rfl (by decide) (by decide) e0 ⟨rfl, (Fr.nil n0), rfl⟩
set_option maxRecDepth 65536 in
set_option maxHeartbeats 40000000 in
theorem rB_crb (l : Launch) (Z : State) (ag : Array Value) (hw : ∀ d ∈ tables_1, d.before ag Z = true) (d : Addr) (vs : List Value) (cs : List Int32) (h0 : Heap) (n0 : Nat) (Z0 : n0 ≤ h0.size) (Ad : Av Z h0 d .byte vs) (Ed : Exa Z h0 d "[B") (hV : own_SBv vs cs) (hvl : vs.length ≤ 70) :
    Ctr l Z (⟨"java/util/Arrays", "copyOfRangeByte", "([BII)[B"⟩ : MethodName) jdk_65_method_133_code 5 (some (.array .byte)) ({ frames := 1, cells := 1, slots := 70, locals := 40 } : Room) #[.ref d, .int (0 : Int32), .int (Int32.ofNat cs.length)] h0 (fun v h L => ∃ b2 us, v = some (.ref b2) ∧ Fr n0 L ∧ Keep h0 h [] ∧ Av Z h b2 .byte us ∧ own_L us cs ∧ h0.size ≤ b2 ∧ n0 ≤ b2) := by
  refine Ctr.of pn_33 ?_
  intro p e s m below meth c T0 X0 B e0
  refine Go.cast (f' := mkF m 0 #[.val (.ref d), .val (.int (0 : Int32)), .val (.int (Int32.ofNat cs.length)), .unset, .unset] []) (by first | rfl | (simp [entryFrame, mkF, argsToLocals, Value.category, maxLocals]; done)) ?_

  have hle := hV.1
  refine g_iloadN X0 B d33_0 1 rfl rfl ?_
  refine g_iloadN X0 B d33_1 2 rfl rfl ?_
  refine g_callS X0 B [.int (0 : Int32), .int (Int32.ofNat cs.length)] [] d33_2 5 rfl rfl (hw _ (List.mem_of_getElem? (i := 182) rfl)) (hw _ (List.mem_of_getElem? (i := 183) rfl)) (hw _ (List.mem_of_getElem? (i := 134) rfl)) (hw _ (List.mem_of_getElem? (i := 184) rfl)) (by decide) (lenOf pd_34 rfl) (rB_chl l Z ag hw 0 (Int32.ofNat cs.length) h0 n0 (own_nn (by omega))) e0 rfl 0 (Nat.le_of_eq rfl) (by decide) (by decide) (by decide) (by decide) (fun v1 T1 h1 L1 X1 e1 q1 => ?_)
  obtain ⟨rfl, N1, rfl⟩ := q1
  show Go p e below _ (T1.setTop (mkF m 5 #[.val (.ref d), .val (.int (0 : Int32)), .val (.int (Int32.ofNat cs.length)), .unset, .unset] []))
  refine g_iloadN X1 B d33_5 6 rfl rfl ?_
  refine g_iloadN X1 B d33_6 7 rfl rfl ?_
  refine g_isub X1 B d33_7 8 rfl ?_
  rw [own_sub0]
  refine g_istoreN X1 B #[.val (.ref d), .val (.int (0 : Int32)), .val (.int (Int32.ofNat cs.length)), .val (.int (Int32.ofNat cs.length)), .unset] d33_8 9 rfl rfl ?_
  refine g_iloadN X1 B d33_9 10 rfl rfl ?_
  refine g_newPB X1 B 70 (List.replicate cs.length (.int 0)) d33_10 12 rfl (hw _ (List.mem_of_getElem? (i := 20) rfl)) e1 (own_nn (by omega)) (by rw [own_tn (by omega)]) (by simp; omega) (by decide) (by decide) (by decide) (fun T2 h2 b2 X2 e2 ea2 E2 A2 F2 => ?_)
  have g_b2 : n0 ≤ b2 := ea2 ▸ Z0
  have gg_b2 : h0.size ≤ b2 := ea2 ▸ (Keep.refl h0 []).1
  have t1 : d ≠ b2 := ea2 ▸ Nat.ne_of_lt (Ad.lt)
  refine g_astore X2 B #[.val (.ref d), .val (.int (0 : Int32)), .val (.int (Int32.ofNat cs.length)), .val (.int (Int32.ofNat cs.length)), .val (.ref b2)] d33_12 14 rfl rfl rfl ?_
  refine g_aloadN X2 B d33_14 15 rfl rfl rfl ?_
  refine g_iloadN X2 B d33_15 16 rfl rfl ?_
  refine g_aload X2 B d33_16 18 rfl rfl rfl ?_
  refine g_iconst X2 B (0) d33_18 19 rfl rfl ?_
  refine g_aloadN X2 B d33_19 20 rfl rfl rfl ?_
  have t2 := (Av.ext Ad E2)
  refine g_arrlen X2 B (Int32.ofNat vs.length) d33_20 21 rfl e2 t2 rfl ?_
  refine g_iloadN X2 B d33_21 22 rfl rfl ?_
  refine g_isub X2 B d33_22 23 rfl ?_
  refine g_iloadN X2 B d33_23 24 rfl rfl ?_
  rw [own_sub0]
  refine g_callS X2 B [.int (Int32.ofNat vs.length), .int (Int32.ofNat cs.length)] [.int (0 : Int32), .ref b2, .int (0 : Int32), .ref d] d33_24 27 rfl rfl (hw _ (List.mem_of_getElem? (i := 136) rfl)) (hw _ (List.mem_of_getElem? (i := 137) rfl)) (hw _ (List.mem_of_getElem? (i := 128) rfl)) (hw _ (List.mem_of_getElem? (i := 138) rfl)) (by decide) (lenOf pd_23 rfl) (rB_min l Z ag hw (Int32.ofNat vs.length) (Int32.ofNat cs.length) h2 n0) e2 rfl 4 (Nat.le_of_eq rfl) (by decide) (by decide) (by decide) (by decide) (fun v3 T3 h3 L3 X3 e3 q3 => ?_)
  obtain ⟨rfl, N3, rfl⟩ := q3
  show Go p e below _ (T3.setTop (mkF m 27 #[.val (.ref d), .val (.int (0 : Int32)), .val (.int (Int32.ofNat cs.length)), .val (.int (Int32.ofNat cs.length)), .val (.ref b2)] [.int (if Int32.ofNat cs.length < Int32.ofNat vs.length then Int32.ofNat cs.length else Int32.ofNat vs.length), .int (0 : Int32), .ref b2, .int (0 : Int32), .ref d]))
  rw [own_min_ (by omega) (by omega)]
  refine g_cpyD X3 B 0 cs.length [] d33_27 30 rfl (hw _ (List.mem_of_getElem? (i := 139) rfl)) (hw _ (List.mem_of_getElem? (i := 103) rfl)) (hw _ (List.mem_of_getElem? (i := 101) rfl)) (hw _ (List.mem_of_getElem? (i := 102) rfl)) e3 t2 A2 hV.2.1 (own_SBv0 cs.length).2.1 (by omega) (by simp; omega) (by omega) (by simp) (((Fr.nil n0).app N1).app N3) g_b2 rfl (by decide) 0 (Nat.le_of_eq rfl) (by decide) (fun T4 h4 L4 X4 e4 N4 K4 A4 => ?_)
  refine g_aload X4 B d33_30 32 rfl rfl rfl ?_
  have t3 := (Keep.trans (Keep.ext (Keep.refl h0 []) E2) K4 (allS (Or.inr gg_b2) all0))
  exact g_retA X4 B d33_32 rfl rfl rfl (by decide) (by decide) e4 ⟨b2, _, rfl, N4, t3, A4, own_SBL3 hV, gg_b2, g_b2⟩
set_option maxRecDepth 65536 in
set_option maxHeartbeats 40000000 in
theorem rB_cor (l : Launch) (Z : State) (ag : Array Value) (hw : ∀ d ∈ tables_1, d.before ag Z = true) (d : Addr) (vs : List Value) (cs : List Int32) (h0 : Heap) (n0 : Nat) (Z0 : n0 ≤ h0.size) (Ad : Av Z h0 d .byte vs) (Ed : Exa Z h0 d "[B") (hV : own_SBv vs cs) (hvl : vs.length ≤ 70) :
    Ctr l Z (⟨"java/util/Arrays", "copyOfRange", "([BII)[B"⟩ : MethodName) jdk_65_method_132_code 3 (some (.array .byte)) ({ frames := 2, cells := 1, slots := 70, locals := 56 } : Room) #[.ref d, .int (0 : Int32), .int (Int32.ofNat cs.length)] h0 (fun v h L => ∃ b2 us, v = some (.ref b2) ∧ Fr n0 L ∧ Keep h0 h [] ∧ Av Z h b2 .byte us ∧ own_L us cs ∧ h0.size ≤ b2 ∧ n0 ≤ b2) := by
  refine Ctr.of pn_32 ?_
  intro p e s m below meth c T0 X0 B e0
  refine Go.cast (f' := mkF m 0 #[.val (.ref d), .val (.int (0 : Int32)), .val (.int (Int32.ofNat cs.length))] []) (by first | rfl | (simp [entryFrame, mkF, argsToLocals, Value.category, maxLocals]; done)) ?_

  have hle := hV.1
  refine g_iloadN X0 B d32_0 1 rfl rfl ?_
  refine g_if_ne X0 B d32_1 10 4 rfl (by decide) rfl (fun z => own_abs (rfl) z) (fun _ => ?_)
  refine g_iloadN X0 B d32_4 5 rfl rfl ?_
  refine g_aloadN X0 B d32_5 6 rfl rfl rfl ?_
  refine g_arrlen X0 B (Int32.ofNat vs.length) d32_6 7 rfl e0 Ad rfl ?_
  by_cases hfull : cs.length = vs.length
  · skip
    refine g_icmp_eq X0 B d32_7 17 10 rfl (by decide) rfl (fun _ => ?_) (fun z => own_abs (by rw [hfull]) z)
    refine g_aloadN X0 B d32_17 18 rfl rfl rfl ?_
    refine g_cloneB X0 B 70 [] d32_18 21 rfl (hw _ (List.mem_of_getElem? (i := 325) rfl)) (hw _ (List.mem_of_getElem? (i := 326) rfl)) (hw _ (List.mem_of_getElem? (i := 330) rfl)) (hw _ (List.mem_of_getElem? (i := 328) rfl)) (hw _ (List.mem_of_getElem? (i := 329) rfl)) (hw _ (List.mem_of_getElem? (i := 331) rfl)) e0 Ad Ed hV.2.1 rfl (by decide) 0 (Nat.le_of_eq rfl) (by decide) hvl (by decide) (by decide) (fun T1 h1 b2 X1 e1 ea Ex Ab2 Eb2 => ?_)
    refine g_cast X1 B d32_21 24 rfl (hw _ (List.mem_of_getElem? (i := 332) rfl)) e1 (Ins.self Eb2) (fun T2 X2 e2 => ?_)
    exact g_retA X2 B d32_24 rfl rfl rfl (by decide) (by decide) e2 ⟨b2, vs, rfl, (Fr.nil n0), (Keep.refl h0 []).ext Ex, Ab2, own_SBL2 hV hfull, Nat.le_of_eq ea.symm, ea ▸ Z0⟩
  · skip
    refine g_icmp_eq X0 B d32_7 17 10 rfl (by decide) rfl (fun z => own_abs' (fun z => hfull (own_inj (by omega) (by omega) z)) z) (fun _ => ?_)
    refine g_aloadN X0 B d32_10 11 rfl rfl rfl ?_
    refine g_iloadN X0 B d32_11 12 rfl rfl ?_
    refine g_iloadN X0 B d32_12 13 rfl rfl ?_
    refine g_callS X0 B [.ref d, .int (0 : Int32), .int (Int32.ofNat cs.length)] [] d32_13 16 rfl rfl (hw _ (List.mem_of_getElem? (i := 179) rfl)) (hw _ (List.mem_of_getElem? (i := 180) rfl)) (hw _ (List.mem_of_getElem? (i := 134) rfl)) (hw _ (List.mem_of_getElem? (i := 181) rfl)) (by decide) (lenOf pd_33 rfl) (rB_crb l Z ag hw d vs cs h0 n0 Z0 Ad Ed hV hvl) e0 rfl 0 (Nat.le_of_eq rfl) (by decide) (by decide) (by decide) (by decide) (fun v3 T3 h3 L3 X3 e3 q3 => ?_)
    obtain ⟨b2, us, rfl, N3, t1, t2, t3, t4, t5⟩ := q3
    show Go p e below _ (T3.setTop (mkF m 16 #[.val (.ref d), .val (.int (0 : Int32)), .val (.int (Int32.ofNat cs.length))] [.ref b2]))
    exact g_retA X3 B d32_16 rfl rfl rfl (by decide) (by decide) e3 ⟨b2, us, rfl, ((Fr.nil n0).app N3), t1, t2, t3, t4, t5⟩
set_option maxRecDepth 65536 in
set_option maxHeartbeats 40000000 in
theorem rB_ias (l : Launch) (Z : State) (ag : Array Value) (hw : ∀ d ∈ tables_1, d.before ag Z = true) (r sb d : Addr) (vs : List Value) (cs : List Int32) (cx : Int32) (h0 : Heap) (n0 : Nat) (Z0 : n0 ≤ h0.size) (gr : n0 ≤ r) (Er : Exa Z h0 r "java/lang/String") (RV : Fld Z h0 r "java/lang/String" "value" "[B" (.null)) (RC : Fld Z h0 r "java/lang/String" "coder" "B" (.int 0)) (Eb : Exa Z h0 sb "java/lang/StringBuilder") (BV : Fld Z h0 sb "java/lang/AbstractStringBuilder" "value" "[B" (.ref d)) (BC : Fld Z h0 sb "java/lang/AbstractStringBuilder" "coder" "B" (.int 0)) (Ad : Av Z h0 d .byte vs) (BN : Fld Z h0 sb "java/lang/AbstractStringBuilder" "count" "I" (.int (Int32.ofNat cs.length))) (Ed : Exa Z h0 d "[B") (hV : own_SBv vs cs) (hvl : vs.length ≤ 70) (SC : Sta Z h0 "java/lang/String" "COMPACT_STRINGS" "Z" (.int cx)) (hcx : ¬ cx = 0) :
    Ctr l Z (⟨"java/lang/String", "<init>", "(Ljava/lang/AbstractStringBuilder;Ljava/lang/Void;)V"⟩ : MethodName) jdk_42_method_150_code 5 none ({ frames := 3, cells := 1, slots := 70, locals := 71 } : Room) #[.ref r, .ref sb, .null] h0 (fun v h L => ∃ b2 us, v = none ∧ Fr n0 L ∧ Keep h0 h [r] ∧ Fld Z h r "java/lang/String" "value" "[B" (.ref b2) ∧ Fld Z h r "java/lang/String" "coder" "B" (.int 0) ∧ Av Z h b2 .byte us ∧ own_L us cs ∧ h0.size ≤ b2 ∧ n0 ≤ b2) := by
  refine Ctr.of pn_28 ?_
  intro p e s m below meth c T0 X0 B e0
  refine Go.cast (f' := mkF m 0 #[.val (.ref r), .val (.ref sb), .val (.null), .unset, .unset] []) (by first | rfl | (simp [entryFrame, mkF, argsToLocals, Value.category, maxLocals]; done)) ?_

  refine g_aloadN X0 B d28_0 1 rfl rfl rfl ?_
  obtain ⟨T1, X1, e1, st1⟩ := initO X0 B.x B.z B.o (hw _ (List.mem_of_getElem? (i := 16) rfl)) (hw _ (List.mem_of_getElem? (i := 17) rfl)) (hw _ (List.mem_of_getElem? (i := 18) rfl)) e0 (g := mkF m 1 #[.val (.ref r), .val (.ref sb), .val (.null), .unset, .unset] [.ref r]) rfl (B.mx rfl) rfl (B.d d28_1) (by decide) (W := 0) (by show 2 * 0 + _ ≤ _; exact Nat.le_of_eq rfl) (by decide)
  refine Go.via st1 ?_
  show Go p e below _ (T1.setTop (mkF m 4 #[.val (.ref r), .val (.ref sb), .val (.null), .unset, .unset] []))
  refine g_aloadN X1 B d28_4 5 rfl rfl rfl ?_
  refine g_callV X1 B [] [] d28_5 8 rfl rfl (hw _ (List.mem_of_getElem? (i := 162) rfl)) (hw _ (List.mem_of_getElem? (i := 163) rfl)) (hw _ (List.mem_of_getElem? (i := 165) rfl)) (hw _ (List.mem_of_getElem? (i := 164) rfl)) (hw _ (List.mem_of_getElem? (i := 47) rfl)) (hw _ (List.mem_of_getElem? (i := 166) rfl)) (by decide) (lenOf pd_29 rfl) Eb (rB_gv l Z ag hw sb d h0 n0 BV) e1 rfl 0 (Nat.le_of_eq rfl) (by decide) (by decide) (by decide) (by decide) (fun v2 T2 h2 L2 X2 e2 q2 => ?_)
  obtain ⟨rfl, N2, rfl⟩ := q2
  show Go p e below _ (T2.setTop (mkF m 8 #[.val (.ref r), .val (.ref sb), .val (.null), .unset, .unset] [.ref d]))
  refine g_astoreN X2 B #[.val (.ref r), .val (.ref sb), .val (.null), .val (.ref d), .unset] d28_8 9 rfl rfl rfl ?_
  refine g_aloadN X2 B d28_9 10 rfl rfl rfl ?_
  refine g_callVZ X2 B (y := ⟨"java/lang/AbstractStringBuilder", "length", "()I"⟩) [] [] d28_10 13 rfl rfl (hw _ (List.mem_of_getElem? (i := 167) rfl)) (hw _ (List.mem_of_getElem? (i := 168) rfl)) (hw _ (List.mem_of_getElem? (i := 165) rfl)) rfl (hw _ (List.mem_of_getElem? (i := 170) rfl)) (hw _ (List.mem_of_getElem? (i := 171) rfl)) (hw _ (List.mem_of_getElem? (i := 39) rfl)) (hw _ (List.mem_of_getElem? (i := 172) rfl)) (by decide) (lenOf pd_30 rfl) Eb (rB_sln l Z ag hw sb (Int32.ofNat cs.length) h0 n0 Eb BN) e2 rfl 0 (Nat.le_of_eq rfl) (by decide) (by decide) (by decide) (by decide) (fun v3 T3 h3 L3 X3 e3 q3 => ?_)
  obtain ⟨rfl, N3, rfl⟩ := q3
  show Go p e below _ (T3.setTop (mkF m 13 #[.val (.ref r), .val (.ref sb), .val (.null), .val (.ref d), .unset] [.int (Int32.ofNat cs.length)]))
  refine g_istore X3 B #[.val (.ref r), .val (.ref sb), .val (.null), .val (.ref d), .val (.int (Int32.ofNat cs.length))] d28_13 15 rfl rfl ?_
  refine g_aloadN X3 B d28_15 16 rfl rfl rfl ?_
  refine g_callV X3 B [] [] d28_16 19 rfl rfl (hw _ (List.mem_of_getElem? (i := 175) rfl)) (hw _ (List.mem_of_getElem? (i := 141) rfl)) (hw _ (List.mem_of_getElem? (i := 143) rfl)) (hw _ (List.mem_of_getElem? (i := 142) rfl)) (hw _ (List.mem_of_getElem? (i := 47) rfl)) (hw _ (List.mem_of_getElem? (i := 144) rfl)) (by decide) (lenOf pd_24 rfl) Eb (rB_alat l Z ag hw sb cx h0 n0 BC SC hcx) e3 rfl 0 (Nat.le_of_eq rfl) (by decide) (by decide) (by decide) (by decide) (fun v4 T4 h4 L4 X4 e4 q4 => ?_)
  obtain ⟨rfl, N4, rfl⟩ := q4
  show Go p e below _ (T4.setTop (mkF m 19 #[.val (.ref r), .val (.ref sb), .val (.null), .val (.ref d), .val (.int (Int32.ofNat cs.length))] [.int (1 : Int32)]))
  refine g_if_eq X4 B d28_19 41 22 rfl (by decide) rfl (fun z => own_abs' (by decide) z) (fun _ => ?_)
  refine g_aloadN X4 B d28_22 23 rfl rfl rfl ?_
  refine g_iconst X4 B (0) d28_23 24 rfl rfl ?_
  refine g_putF X4 B d28_24 27 rfl (hw _ (List.mem_of_getElem? (i := 26) rfl)) Via.refl e4 RC Er (Or.inr ⟨(hw _ (List.mem_of_getElem? (i := 22) rfl)), rfl, rfl⟩) (hw _ (List.mem_of_getElem? (i := 6) rfl)) (ty := .byte) (by decide) rfl rfl (fun T5 h5 X5 e5 W5 => ?_)
  have F5 := RC.same W5
  refine g_aloadN X5 B d28_27 28 rfl rfl rfl ?_
  refine g_aloadN X5 B d28_28 29 rfl rfl rfl ?_
  refine g_iconst X5 B (0) d28_29 30 rfl rfl ?_
  refine g_iload X5 B d28_30 32 rfl rfl ?_
  have t1 := (Exa.wr W5 Er)
  have t2 := (Keep.wr (Keep.refl h0 [r]) W5 (Or.inl (List.mem_of_getElem? (i := 0) rfl)))
  have t3 := (Nat.le_trans Z0 (Nat.le_of_eq W5.size.symm))
  have t4 : r ≠ d := own_neAv Er (hw _ (List.mem_of_getElem? (i := 6) rfl)) Ad
  have t5 := (Av.other Ad W5 (Ne.symm t4))
  have t6 := (Exa.wr W5 Ed)
  refine g_callS X5 B [.ref d, .int (0 : Int32), .int (Int32.ofNat cs.length)] [.ref r] d28_32 35 rfl rfl (hw _ (List.mem_of_getElem? (i := 176) rfl)) (hw _ (List.mem_of_getElem? (i := 177) rfl)) (hw _ (List.mem_of_getElem? (i := 134) rfl)) (hw _ (List.mem_of_getElem? (i := 178) rfl)) (by decide) (lenOf pd_32 rfl) (rB_cor l Z ag hw d vs cs h5 n0 t3 t5 t6 hV hvl) e5 rfl 1 (Nat.le_of_eq rfl) (by decide) (by decide) (by decide) (by decide) (fun v6 T6 h6 L6 X6 e6 q6 => ?_)
  obtain ⟨b2, us, rfl, N6, K6, A6, hU, g1, g2⟩ := q6
  show Go p e below _ (T6.setTop (mkF m 35 #[.val (.ref r), .val (.ref sb), .val (.null), .val (.ref d), .val (.int (Int32.ofNat cs.length))] [.ref b2, .ref r]))
  have t7 : r ≠ b2 := fun q => absurd (q ▸ t1.lt) (Nat.not_lt.mpr g1)
  have t8 := (Fld.keep (Fld.other W5 RV (Or.inr (slot_ne (Or.inr (hw _ (List.mem_of_getElem? (i := 21) rfl))) (Or.inr (hw _ (List.mem_of_getElem? (i := 22) rfl))) (by decide) (t := (.array .byte)) (by decide) (t' := .byte) (by decide)))) K6 nin0)
  have t9 := (Exa.keep t1 K6)
  refine g_putF X6 B d28_35 38 rfl (hw _ (List.mem_of_getElem? (i := 25) rfl)) Via.refl e6 t8 t9 (Or.inr ⟨(hw _ (List.mem_of_getElem? (i := 21) rfl)), rfl, rfl⟩) (hw _ (List.mem_of_getElem? (i := 6) rfl)) (ty := (.array .byte)) (by decide) rfl rfl (fun T7 h7 X7 e7 W7 => ?_)
  have F7 := t8.same W7
  refine g_goto X7 B d28_38 97 rfl (by decide) ?_
  have t10 := (Keep.wr (Keep.trans t2 K6 all0) W7 (Or.inl (List.mem_of_getElem? (i := 0) rfl)))
  have t11 := (Fld.other W7 (Fld.keep F5 K6 nin0) (Or.inr (slot_ne (Or.inr (hw _ (List.mem_of_getElem? (i := 22) rfl))) (Or.inr (hw _ (List.mem_of_getElem? (i := 21) rfl))) (by decide) (t := .byte) (by decide) (t' := (.array .byte)) (by decide))))
  have t12 := (Av.other A6 W7 (Ne.symm t7))
  exact g_retV X7 B d28_97 rfl (by decide) (by decide) e7 ⟨b2, us, rfl, (Fr.snoc X7 ((Fr.snoc X5 ((((Fr.nil n0).app N2).app N3).app N4) gr).app N6) gr), t10, F7, t11, t12, hU, Nat.le_trans t2.1 g1, g2⟩
set_option maxRecDepth 65536 in
set_option maxHeartbeats 40000000 in
theorem rB_isb (l : Launch) (Z : State) (ag : Array Value) (hw : ∀ d ∈ tables_1, d.before ag Z = true) (r sb d : Addr) (vs : List Value) (cs : List Int32) (cx : Int32) (h0 : Heap) (n0 : Nat) (Z0 : n0 ≤ h0.size) (gr : n0 ≤ r) (Er : Exa Z h0 r "java/lang/String") (RV : Fld Z h0 r "java/lang/String" "value" "[B" (.null)) (RC : Fld Z h0 r "java/lang/String" "coder" "B" (.int 0)) (Eb : Exa Z h0 sb "java/lang/StringBuilder") (BV : Fld Z h0 sb "java/lang/AbstractStringBuilder" "value" "[B" (.ref d)) (BC : Fld Z h0 sb "java/lang/AbstractStringBuilder" "coder" "B" (.int 0)) (Ad : Av Z h0 d .byte vs) (BN : Fld Z h0 sb "java/lang/AbstractStringBuilder" "count" "I" (.int (Int32.ofNat cs.length))) (Ed : Exa Z h0 d "[B") (hV : own_SBv vs cs) (hvl : vs.length ≤ 70) (SC : Sta Z h0 "java/lang/String" "COMPACT_STRINGS" "Z" (.int cx)) (hcx : ¬ cx = 0) :
    Ctr l Z (⟨"java/lang/String", "<init>", "(Ljava/lang/StringBuilder;)V"⟩ : MethodName) jdk_42_method_53_code 2 none ({ frames := 4, cells := 1, slots := 70, locals := 87 } : Room) #[.ref r, .ref sb] h0 (fun v h L => ∃ b2 us, v = none ∧ Fr n0 L ∧ Keep h0 h [r] ∧ Fld Z h r "java/lang/String" "value" "[B" (.ref b2) ∧ Fld Z h r "java/lang/String" "coder" "B" (.int 0) ∧ Av Z h b2 .byte us ∧ own_L us cs ∧ h0.size ≤ b2 ∧ n0 ≤ b2) := by
  refine Ctr.of pn_27 ?_
  intro p e s m below meth c T0 X0 B e0
  refine Go.cast (f' := mkF m 0 #[.val (.ref r), .val (.ref sb)] []) (by first | rfl | (simp [entryFrame, mkF, argsToLocals, Value.category, maxLocals]; done)) ?_

  refine g_aloadN X0 B d27_0 1 rfl rfl rfl ?_
  refine g_aloadN X0 B d27_1 2 rfl rfl rfl ?_
  refine g_aconstNull X0 B d27_2 3 rfl ?_
  refine g_callN X0 B [.ref sb, .null] [] d27_3 6 rfl rfl rfl (hw _ (List.mem_of_getElem? (i := 159) rfl)) (hw _ (List.mem_of_getElem? (i := 160) rfl)) (hw _ (List.mem_of_getElem? (i := 161) rfl)) (hw _ (List.mem_of_getElem? (i := 7) rfl)) (by decide) (lenOf pd_28 rfl) (rB_ias l Z ag hw r sb d vs cs cx h0 n0 Z0 gr Er RV RC Eb BV BC Ad BN Ed hV hvl SC hcx) e0 rfl 0 (Nat.le_of_eq rfl) (by decide) (by decide) (by decide) (by decide) (fun v1 T1 h1 L1 X1 e1 q1 => ?_)
  obtain ⟨b2, us, rfl, N1, t1, t2, t3, t4, t5, t6, t7⟩ := q1
  show Go p e below _ (T1.setTop (mkF m 6 #[.val (.ref r), .val (.ref sb)] []))
  exact g_retV X1 B d27_6 rfl (by decide) (by decide) e1 ⟨b2, us, rfl, ((Fr.nil n0).app N1), t1, t2, t3, t4, t5, t6, t7⟩
set_option maxRecDepth 65536 in
set_option maxHeartbeats 40000000 in
theorem rB_ts (l : Launch) (Z : State) (ag : Array Value) (hw : ∀ d ∈ tables_1, d.before ag Z = true) (sb d : Addr) (vs : List Value) (cs : List Int32) (cx : Int32) (h0 : Heap) (n0 : Nat) (Z0 : n0 ≤ h0.size) (Eb : Exa Z h0 sb "java/lang/StringBuilder") (BV : Fld Z h0 sb "java/lang/AbstractStringBuilder" "value" "[B" (.ref d)) (BC : Fld Z h0 sb "java/lang/AbstractStringBuilder" "coder" "B" (.int 0)) (Ad : Av Z h0 d .byte vs) (BN : Fld Z h0 sb "java/lang/AbstractStringBuilder" "count" "I" (.int (Int32.ofNat cs.length))) (Ed : Exa Z h0 d "[B") (hV : own_SBv vs cs) (hvl : vs.length ≤ 70) (SC : Sta Z h0 "java/lang/String" "COMPACT_STRINGS" "Z" (.int cx)) (hcx : ¬ cx = 0) :
    Ctr l Z (⟨"java/lang/StringBuilder", "toString", "()Ljava/lang/String;"⟩ : MethodName) jdk_67_method_42_code 1 (some (.object "java/lang/String")) ({ frames := 5, cells := 2, slots := 74, locals := 101 } : Room) #[.ref sb] h0 (fun v h L => ∃ r b2 us, v = some (.ref r) ∧ Fr n0 L ∧ Keep h0 h [] ∧ Exa Z h r "java/lang/String" ∧ Fld Z h r "java/lang/String" "value" "[B" (.ref b2) ∧ Fld Z h r "java/lang/String" "coder" "B" (.int 0) ∧ Av Z h b2 .byte us ∧ own_L us cs ∧ h0.size ≤ b2 ∧ n0 ≤ b2) := by
  refine Ctr.of pn_26 ?_
  intro p e s m below meth c T0 X0 B e0
  refine Go.cast (f' := mkF m 0 #[.val (.ref sb)] []) (by first | rfl | (simp [entryFrame, mkF, argsToLocals, Value.category, maxLocals]; done)) ?_

  refine g_new X0 B d26_0 3 rfl (hw _ (List.mem_of_getElem? (i := 155) rfl)) (hw _ (List.mem_of_getElem? (i := 6) rfl)) (hw _ (List.mem_of_getElem? (i := 7) rfl)) e0 (by decide) (by decide) (fun T1 h1 r X1 e1 ea1 E1 A1 D1 => ?_)
  have g_r : n0 ≤ r := ea1 ▸ Z0
  have gg_r : h0.size ≤ r := ea1 ▸ (Keep.refl h0 []).1
  have t1 : d ≠ r := ea1 ▸ Nat.ne_of_lt (Ad.lt)
  have t2 : sb ≠ r := ea1 ▸ Nat.ne_of_lt (Eb.lt)
  have D1_0 : Fld Z h1 r "java/lang/String" "value" "[B" (.null) := D1 (Or.inr (hw _ (List.mem_of_getElem? (i := 21) rfl))) (ty := (.array .byte)) (by decide)
  have D1_1 : Fld Z h1 r "java/lang/String" "coder" "B" (.int 0) := D1 (Or.inr (hw _ (List.mem_of_getElem? (i := 22) rfl))) (ty := .byte) (by decide)
  refine g_dup X1 B d26_3 4 rfl rfl ?_
  refine g_aloadN X1 B d26_4 5 rfl rfl rfl ?_
  have t3 := (Nat.le_trans Z0 E1.1)
  have t4 := (Exa.ext E1 Eb)
  have t5 := (Fld.ext E1 BV)
  have t6 := (Fld.ext E1 BC)
  have t7 := (Av.ext Ad E1)
  have t8 := (Fld.ext E1 BN)
  have t9 := (Exa.ext E1 Ed)
  have t10 := (Sta.ext E1 SC)
  refine g_callN X1 B [.ref sb] [.ref r] d26_5 8 rfl rfl rfl (hw _ (List.mem_of_getElem? (i := 156) rfl)) (hw _ (List.mem_of_getElem? (i := 157) rfl)) (hw _ (List.mem_of_getElem? (i := 158) rfl)) (hw _ (List.mem_of_getElem? (i := 7) rfl)) (by decide) (lenOf pd_27 rfl) (rB_isb l Z ag hw r sb d vs cs cx h1 n0 t3 g_r A1 D1_0 D1_1 t4 t5 t6 t7 t8 t9 hV hvl t10 hcx) e1 rfl 1 (Nat.le_of_eq rfl) (by decide) (by decide) (by decide) (by decide) (fun v2 T2 h2 L2 X2 e2 q2 => ?_)
  obtain ⟨b2, us, rfl, N2, K2, f1, f2, f3, hU, g1, g2⟩ := q2
  show Go p e below _ (T2.setTop (mkF m 8 #[.val (.ref sb)] [.ref r]))
  have t11 := (Keep.trans (Keep.ext (Keep.refl h0 []) E1) K2 (allS (Or.inr gg_r) all0))
  have t12 := (Exa.keep A1 K2)
  exact g_retA X2 B d26_8 rfl rfl rfl (by decide) (by decide) e2 ⟨r, b2, us, rfl, ((Fr.nil n0).app N2), t11, t12, f1, f2, f3, hU, Nat.le_trans E1.1 g1, g2⟩
--CHAIN
/-! own: function objects in the kit Go: the site, the call, over Warmed39 -/
section OwnLam
open Jvm.LamKit
variable {p : Program} {l : Launch} {e : Env} {R : Room} {s : State} {m : MethodId} {args : Array Value} {below : List Frame} {meth : Method} {c : Code} {T : State} {locs : List Loc} {cells slots : Nat} {Z : State} {a0 : Array Value} {h h' : Heap} {P : State → Outcome → Prop} {pc : Nat} {Ls : Array Slot} {st rest : List Value} {own nm : String} {bytes : ByteArray} {maxL : Nat} {ret : Option FieldType} {a b : Addr} {cl : Cell}
def Cel (h : Heap) (a : Addr) (cl : Cell) : Prop := h[a]? = some cl
theorem Cel.lt (F : Cel h a cl) : a < h.size := (Array.getElem?_eq_some_iff.mp F).1
theorem Cel.ext (F : Cel h a cl) (E : Ext h h') : Cel h' a cl := E.2 a cl F
theorem Cel.keep {ws : List Addr} (F : Cel h a cl) (K : Keep h h' ws) (q : a ∉ ws) : Cel h' a cl := K.2.1 a cl F q
theorem Cel.other {sl : Nat} {v : Value} (F : Cel h a cl) (W : Wr h h' b sl v) (q : a ≠ b) : Cel h' a cl := by
  obtain ⟨cell, -, -, -, rfl⟩ := W
  show (h.setIfInBounds b _)[a]? = _
  rw [Array.getElem?_setIfInBounds_ne (Ne.symm q)]
  exact F
/-- a class's record behind warming: only what is resolved and the nest host may differ, and what was resolved stays -/
theorem own_rec39 {vm' : Vm} (hW : s.Warmed39 vm') {i : ClassId} {k : Class} (e : s.vm.classes[i]? = some k) : ∃ R a b, vm'.classes[i]? = some { k with resolved := R, nestHost := a, nestHostError := b } ∧ ∀ (j : Nat) (r : Resolved), k.resolved[j]? = some (some r) → R[j]? = some (some r) := by
  obtain ⟨k', h1, h2, -, h3, -⟩ := hW.2.2.2 i k e
  refine ⟨k'.resolved, k'.nestHost, k'.nestHostError, by rw [← h2]; exact h1, fun j r hj => ?_⟩
  rcases h3 j with q | ⟨q, -⟩
  · exact q.trans hj
  · cases hj.symm.trans q
theorem own_isMade39 {vm' : Vm} (hW : s.Warmed39 vm') {d c : ClassId} {σ : Lambda.Shape} (h : Lambda.isMade { classPath := fun _ => none } s.vm d σ c = true) : Lambda.isMade { classPath := fun _ => none } vm' d σ c = true := by
  have hA := hW.alike
  revert h
  simp only [Lambda.isMade, Option.bind_eq_bind, Option.pure_def, Option.getD_eq_iff, Option.bind_eq_some_iff, Bool.false_eq_true, and_false, or_false]
  rintro ⟨dk, i1, k, i2, file, i3, cf, i4, ob, i5, fc, i6, ok, i7, ly, i8, ms, i9, t, i10, tk, i11, hh⟩
  obtain ⟨Rd, ad, bd, f1, -⟩ := own_rec39 hW i1
  obtain ⟨Rk, ak, bk, f2, hr⟩ := own_rec39 hW i2
  obtain ⟨Ro, ao, bo, f3, -⟩ := own_rec39 hW i7
  obtain ⟨Rt, a4, bt, f4, -⟩ := own_rec39 hW i11
  refine ⟨_, f1, _, f2, file, i3, cf, i4, ob, (hA.findClass _ _).trans i5, fc, (hA.findClass _ _).trans i6, _, f3, ly, i8, ms, i9, t, (hA.findClass _ _).trans i10, _, f4, ?_⟩
  have ei : ({ tk with resolved := Rt, nestHost := a4, nestHostError := bt } : Class).isInterface = tk.isInterface := rfl
  simp only [ei, Lambda.methodIn_ask_alike hA, Lambda.resolvedOf_alike hA, hA.selectMethod]
  generalize ((methodIn t σ.implName σ.implDesc.toString tk.isInterface none).ask { classPath := fun _ => none } s.vm).fst = A1 at hh ⊢
  generalize ((methodIn fc σ.name σ.sam.toString true none).ask { classPath := fun _ => none } s.vm).fst = A2 at hh ⊢
  rcases A1 with _ | a1
  · cases hh
  rcases A2 with _ | a2
  · cases hh
  simp only [Option.some.injEq, Bool.and_eq_true] at hh ⊢
  refine ⟨⟨hh.1.1, ?_⟩, hh.2⟩
  have q := List.all_eq_true.mp hh.1.2
  refine List.all_eq_true.mpr fun y hy => ?_
  have qy := q y hy
  obtain ⟨_ | r, j⟩ := y
  · rfl
  · exact Bool.or_eq_true_iff.mpr (Or.inr (decide_eq_true (hr j r (of_decide_eq_true ((Bool.or_eq_true_iff.mp qy).resolve_left (by simp))))))
theorem own_made39 {host : String} {σ : Lambda.Shape} {cK : ClassId} (hZ : Z.Warmed39 s.vm) (h : Jvm.LamKit.Made Z host σ cK) : Jvm.LamKit.Made s host σ cK := by
  obtain ⟨d, dk, hd, hdn, hm, hc⟩ := h
  have hA := hZ.alike
  obtain ⟨dk', hd', e'⟩ := hA.2.2 _ _ hd
  refine ⟨d, dk', hd', by rw [e']; exact hdn, own_isMade39 hZ hm, ?_⟩
  simp only [State.lambdaCallable, hA.findClass, hA.assignable, hA.superclasses, hA.declaredIn] at hc ⊢
  exact hc
theorem own_insFn {host : String} {σ : Lambda.Shape} {cK : ClassId} {sl : Array Value} (h1 : Jvm.LamKit.Made Z host σ cK) (F : Cel h a { cls := cK, slots := sl, vm := .none }) : Ins Z h a σ.iface true := by
  obtain ⟨d, dk, hd, hdn, hm, hc⟩ := h1
  obtain ⟨i, q1, q2, -⟩ := State.lambdaCallable_spec hc
  exact ⟨_, i, F, q1, by simpa [VmData.isStatics] using q2⟩
/-- the site's record, as a state behind warming knows it: the class that it makes is the start's -/
theorem own_siteAt {x : MethodName} {index : Nat} {σ : Lambda.Shape} (hZ : Z.Warmed39 s.vm) (hnamed : Z.methodNamed? x = some m) (w : (Jvm.Cond.lambdaSite x pc index σ).before a0 Z = true) (hcap : σ.captured ≠ []) :
    ∃ (cK : ClassId) (kD : Class) (cf : ClassFile) (i0 p0 bs nt : Nat) (name desc : String) (sig : MethodDescriptor), Jvm.LamKit.Made Z x.cls σ cK ∧ s.vm.classes[m.cls]? = some kD ∧ (kD.callSites.find? fun y => y.1 == m.idx && y.2.1 == pc) = some (i0, p0, .makes cK) ∧ kD.cf = some cf ∧
      cf.constantPool[index]? = some (.invokeDynamic bs nt) ∧ cf.constantPool.nameAndType? nt = some (name, desc) ∧ parseLongMethodDescriptor desc = some sig ∧ sig.parameters = σ.captured := by
  obtain ⟨cK, one, hat⟩ := Cond.lambdaSite_spec w
  obtain ⟨m', kc, cf, i0, p0, lk, a1, a2, a3, a4, -, a6, a7, a8, a9⟩ := State.lambdaAt?_spec hat
  cases hnamed.symm.trans a1
  obtain ⟨kn, n1, n2⟩ := className_of_methodNamed hnamed
  cases a2.symm.trans n1
  obtain ⟨R, r1, r2, f2, -⟩ := own_rec39 hZ a2
  have hlk : lk = .makes cK := by
    rcases a9 with ⟨_, _, _, _, c0, _⟩ | ⟨q, _⟩
    · exact absurd c0 hcap
    · exact q
  subst hlk
  obtain ⟨bs, nt, desc, site, h1, h2, h3, h4⟩ := Lambda.shapeOf?_site a4
  exact ⟨cK, _, cf, i0, p0, bs, nt, _, desc, _, ⟨_, kc, a2, n2, a7, a8⟩, f2, a6, a3, h1, h2, parseLong_of_parse h3, h4⟩
/-- the class of a function object, as a state behind warming knows it -/
theorem own_fnCls {host : String} {σ : Lambda.Shape} {cK : ClassId} {fi : Nat} (hZ : Z.Warmed39 s.vm) (hM : Jvm.LamKit.Made Z host σ cK) (hok : capOK σ host fi 0 = true) (wO : (Jvm.Cond.instantiable "java/lang/Object" 0).before a0 Z = true) :
    ∃ k, s.vm.classes[cK]? = some k ∧ k.kind = .ordinary ∧ k.instanceTypes = σ.captured.toArray := by
  obtain ⟨d, dk, hd, hdn, hm, -⟩ := hM
  obtain ⟨kc, -, e1, e2, e3, -⟩ := made_cap hok hd hdn hm (noFields wO (State.WarmedH.refl Z))
  obtain ⟨R, r1, r2, f2, -⟩ := own_rec39 hZ e1
  exact ⟨_, f2, e2, e3⟩
theorem g_site (X : Stand p l e R s m args below meth c T locs cells slots) (B : Bo Z p s m meth c own nm bytes maxL ret) {x : MethodName} {index : Nat} (fi : Nat) {σ : Lambda.Shape} (hnamed : Z.methodNamed? x = some m) (q : decode bytes pc = .ok (.invokedynamic index, 5)) (pc' : Nat) (hp : pc + 5 = pc')
    (w : (Jvm.Cond.lambdaSite x pc index σ).before a0 Z = true) (wO : (Jvm.Cond.instantiable "java/lang/Object" 0).before a0 Z = true) (hcap : σ.captured ≠ []) (hok : capOK σ x.cls fi 0 = true) (vals rest : List Value) (nv : Nat) (hnv : vals.length = nv) (hst : st = vals.reverse ++ rest) (hlen : vals.length = σ.captured.length)
    (hfit : ∀ (i : Nat) t v, σ.captured[i]? = some t → vals[i]? = some v → narrow t v = v ∧ fits t v = true) (eT : T.heap = h) (hm : Ls.size = maxL) (W : Nat) (hW : (st.map fun v => v.category).sum ≤ W) (hl : W + 3072 ≤ R.locals) (hc : cells + 1 ≤ R.cells) (hs : slots + nv ≤ R.slots)
    (k : ∀ cK T' h' a, Stand p l e R s m args below meth c T' locs (cells + 1) (slots + nv) → T'.heap = h' → a = h.size → Ext h h' → Cel h' a { cls := cK, slots := vals.toArray, vm := .none } → Jvm.LamKit.Made Z x.cls σ cK → Go p e below P (T'.setTop (mkF m pc' Ls (.ref a :: rest)))) : Go p e below P (T.setTop (mkF m pc Ls st)) := by
  subst hp hst eT hnv
  obtain ⟨cK, kD, cf, i0, p0, bs, nt, name, desc, sig, hM, s1, s2, s3, s4, s5, s6, s7⟩ := own_siteAt B.z hnamed w hcap
  obtain ⟨kc, t1, t2, t3⟩ := own_fnCls B.z hM hok wO
  have hnar : (kc.instanceTypes.toList.zip vals).map (fun (t, v) => narrow t v) = vals := t3 ▸ zip_narrow _ _ hlen fun i t v a b => (hfit i t v a b).1
  have hfits : ∀ i v, vals.toArray[i]? = some v → s.fitsSlot cK .none i v = true := by
    intro i v hv
    have hv' : vals[i]? = some v := by simpa using hv
    obtain ⟨t, ht⟩ : ∃ t, σ.captured[i]? = some t := ⟨_, List.getElem?_eq_getElem (hlen ▸ (List.getElem?_eq_some_iff.mp hv').1)⟩
    have := (hfit i t v ht hv').2
    simp [State.fitsSlot, State.slotType?, t1, t2, t3, ht, this]
  have hwd : e.platform.lambdaLinkWords = 3072 := congrArg Platform.lambdaLinkWords X.admits.platform
  obtain ⟨X', st'⟩ := X.lambdaMakes B.x (g := mkF m pc Ls (vals.reverse ++ rest)) rfl (B.mx hm) (B.d q) (vals := vals) (rest := rest) s1 s2 s3 s4 s5 s6 (by rw [s7]; exact hlen) rfl t1 (by rw [hwd]; show 2 * 0 + ((vals.reverse ++ rest).map fun v => v.category).sum + 3072 ≤ R.locals; omega) hc (by rw [hnar]; exact hs) (by rw [hnar]; exact hfits)
  rw [hnar] at X' st'
  refine (k cK _ _ T.heap.size X' rfl rfl ⟨?_, fun z cz hq => ?_⟩ ?_ hM).via st'
  · simp [State.heap_pushCell]
  · rw [State.heap_pushCell, Array.getElem?_push, if_neg (Nat.ne_of_lt (Array.getElem?_eq_some_iff.mp hq).1)]
    exact hq
  · simp [Cel, State.heap_pushCell]
/-- the made class's entry ci names the class C -/
def castOK (σ : Lambda.Shape) (host C : String) (ci : Nat) : Bool :=
  match σ.file host with
  | none => false
  | some D => match D.constantPool[ci]? with
    | some (.class_ n) => decide (D.constantPool.string? n = some C) && decide (ci ≠ D.thisClass)
    | _ => false
theorem made_cast {st : Setting} {vm : Vm} {d c cC : ClassId} {dk : Class} {σ : Lambda.Shape} {host C : String} {ci : Nat} (hok : castOK σ host C ci = true) (hd : vm.classes[d]? = some dk) (hname : dk.name = host) (h : Lambda.isMade st vm d σ c = true) (hC : vm.findClass C = some cC) : vm.classReady c ci cC := by
  obtain ⟨dk', k, ok, tk, file, cf, object, iface, toy, lay, methods, target, found, hd', hk, hfile, hcf, -, -, -, -, hms, ht, htk, hg, -, hrec, -, -, -, -, hpool, hmeth, -, -, hres, -⟩ := Lambda.isMade_spec h
  cases hd.symm.trans hd'
  rw [hname] at hcf
  unfold castOK at hok
  rw [hcf] at hok
  dsimp only at hok
  split at hok
  · rename_i n hci
    simp only [Bool.and_eq_true, decide_eq_true_eq] at hok
    exact ⟨k, hk, hres ci _ (Lambda.resolvedOf_class hci hok.2 hok.1 hC)⟩
  · cases hok
/-- in the forwarder: a checkcast that comes through -/
theorem own_castF {U target : State} {host C : String} {σ : Lambda.Shape} {cK : ClassId} {ck : Code} {bl : List Frame} {ci : Nat} (hexec : p.tables.exec = Jvm.exec) (hU : At U ⟨cK, 1⟩ ck bl) (hW : Z.Warmed39 U.vm) (hmd : Jvm.LamKit.Made Z host σ cK) (hok : castOK σ host C ci = true)
    (E : Exa Z h a C) (hh : U.heap = h) {g : JFrame} (hg : g.method = ⟨cK, 1⟩) {rest : List Value} (hstack : g.stack = .ref a :: rest) (hdg : decode ck.code g.pc = .ok (.checkcast ci, 3)) (k : Steps p.tables e bl (U.setTop { g with pc := g.pc + 3 }) target) : Steps p.tables e bl (U.setTop g) target := by
  obtain ⟨d, dk, hd, hdn, hmade, -⟩ := hmd
  have hA := hW.alike
  obtain ⟨dk', hd', he⟩ := hA.2.2 _ _ hd
  obtain ⟨cell, kc, x1, x2, x3, x4, -⟩ := E
  have hr := made_cast (cC := cell.cls) hok hd' (by rw [he]; exact hdn) (own_isMade39 hW hmade) (by rw [hA.findClass]; exact x2)
  have hU' : At U g.method ck bl := by rw [hg]; exact hU
  obtain ⟨ks', hks', -⟩ := hA.2.2 _ _ x3
  jvm_step hU' [hexec, hdg, checkcast.wp_ready (e := e) (s := U) (c := cell.cls) (x := .ref a) (rest := rest) (f := g) hU.top (by rw [hg]; exact hr) hstack]
  exact ⟨cell, by rw [hh]; exact x1, (fun k q => by rw [q] at x4; cases x4), ks', hks', ks', hks', by rw [if_pos (Vm.assignable_self _ _)]; exact k⟩
/-- in the forwarder: the captured value number i -/
theorem own_capF {U target : State} {host : String} {σ : Lambda.Shape} {cK : ClassId} {ck : Code} {bl : List Frame} {fi i : Nat} (hexec : p.tables.exec = Jvm.exec) (hU : At U ⟨cK, 1⟩ ck bl) (hW : Z.Warmed39 U.vm) (hmd : Jvm.LamKit.Made Z host σ cK) (hok : capOK σ host fi i = true) (wO : (Jvm.Cond.instantiable "java/lang/Object" 0).before a0 Z = true)
    {sl : Array Value} {v : Value} (F : Cel h a { cls := cK, slots := sl, vm := .none }) (hh : U.heap = h) (hv : sl[i]? = some v) {g : JFrame} (hg : g.method = ⟨cK, 1⟩) {rest : List Value} (hstack : g.stack = .ref a :: rest)
    (hdg : decode ck.code g.pc = .ok (.getfield fi, 3)) (k : Steps p.tables e bl (U.setTop { g with pc := g.pc + 3, stack := v :: rest }) target) : Steps p.tables e bl (U.setTop g) target :=
  getCap (s := U) (args := a0) hexec hU (State.WarmedH.refl U) (own_made39 hW hmd) hok (mvT hW wO) (cell := { cls := cK, slots := sl, vm := .none }) (by rw [hh]; exact F) rfl hv hg hstack hdg k
theorem g_callLam (X : Stand p l e R s m args below meth c T locs cells slots) (B : Bo Z p s m meth c own nm bytes maxL ret) {index count : Nat} {xi y : MethodName} {σ : Lambda.Shape} {host : String} {by' : ByteArray} {mx : Nat} {rt : Option FieldType} {rm : Room} {Q : Option Value → Heap → Prop} {n0 : Nat}
    (q : decode bytes pc = .ok (.invokeinterface index count, 5)) (pc' : Nat) (hp : pc + 5 = pc') (argsL argsT rest : List Value) (hst : st = argsL.reverse ++ .ref a :: rest)
    (w1 : (Jvm.Cond.methodLink own index xi).before a0 Z = true) (w2 : (Jvm.Cond.declares xi).before a0 Z = true) (h3 : ((Jvm.Cond.interfaceMethod xi.cls xi.cls xi.name xi.desc).onTables && (Jvm.Cond.interfaceMethod xi.cls xi.cls xi.name xi.desc).keepsFace) = true) (w3 : (Jvm.Cond.interfaceMethod xi.cls xi.cls xi.name xi.desc).before a0 Z = true) (w4 : (Jvm.Cond.code y by' mx rt).before a0 Z = true) (w5 : (Jvm.Cond.static y).before a0 Z = true) (w6 : (Jvm.Cond.initialized y.cls).before a0 Z = true)
    (hxi : xi.cls = σ.iface ∧ xi.name = σ.name ∧ xi.desc = σ.sam.toString) (hy : y.cls = σ.implClass ∧ y.name = σ.implName ∧ y.desc = σ.implDesc.toString)
    (hpoly : (xi.cls ≠ "java/lang/invoke/MethodHandle" ∧ xi.cls ≠ "java/lang/invoke/VarHandle") ∧ y.cls ≠ "java/lang/invoke/MethodHandle" ∧ y.cls ≠ "java/lang/invoke/VarHandle")
    (C : Ctr l Z y by' mx rt rm argsT.toArray h (fun v h' L => Q v h' ∧ Fr n0 L)) {cK : ClassId} {sl : Array Value} (hmd : Jvm.LamKit.Made Z host σ cK) (F : Cel h a { cls := cK, slots := sl, vm := .none })
    {fcode : ByteArray} {fml idx ci pcI : Nat} {fret : Option FieldType} {op : Instr} (hok : fwdOK σ host fcode fml fret idx ci = true) (hdI : decode fcode pcI = .ok (.invokestatic idx, 3)) (hdR : decode fcode (pcI + 3) = .ok (op, 1))
    {L0 : Array Slot} (hlen : ∀ sig, parseMethodDescriptor xi.desc = some sig → argsL.length = sig.parameters.length) (hlenT : ∀ sig, parseMethodDescriptor y.desc = some sig → argsT.length = sig.parameters.length)
    (hL0 : ∀ mk, entryFrame mk (Value.ref a :: argsL).toArray fml = { method := mk, pc := 0, locals := L0, stack := [], locked := none }) (hsz : L0.size = fml)
    (hload : ∀ (U : State) (ck : Code) (bl : List Frame) (target : State), At U ⟨cK, 1⟩ ck bl → ck.code = fcode → U.heap = h → Z.Warmed39 U.vm →
      Steps p.tables e bl (U.setTop { method := ⟨cK, 1⟩, pc := pcI, locals := L0, stack := argsT.reverse, locked := none }) target → Steps p.tables e bl (U.setTop { method := ⟨cK, 1⟩, pc := 0, locals := L0, stack := [], locked := none }) target)
    (hout : ∀ v h', Q v h' → RetOK fret op v) (eT : T.heap = h) (hm : Ls.size = maxL) (W : Nat) (hW : (rest.map fun v => v.category).sum ≤ W) (hf : rm.frames + 2 ≤ R.frames) (hl : W + (fml + 11) + ((mx + 11) + rm.locals) ≤ R.locals) (hc : cells + rm.cells ≤ R.cells) (hs : slots + rm.slots ≤ R.slots)
    (k : ∀ v T' h' L', Stand p l e R s m args below meth c T' (locs ++ L') (cells + rm.cells) (slots + rm.slots) → T'.heap = h' → Q v h' → Fr n0 L' → Go p e below P (T'.setTop (mkF m pc' Ls (v.toList ++ rest)))) : Go p e below P (T.setTop (mkF m pc Ls st)) := by
  subst hp hst
  have hM : Jvm.LawKit.Met l y [Jvm.Cond.code y by' mx rt] rm (fun a U => a = argsT.toArray ∧ Z.Warmed39 U.vm ∧ U.heap = h) (fun _ _ o U' => ∃ v, o = .returned v ∧ Q v U'.heap) rm.cells rm.slots (fun b => n0 ≤ b) :=
    MetFree.mono (C []) (fun _ _ h => h) (fun _ _ _ _ _ h => h) (fun _ _ _ _ _ ⟨v, L, h1, h2, h3⟩ => ⟨⟨v, h1, h2.1⟩, L, h3, h2.2⟩)
  obtain ⟨v, st', t, T', L, X', hL, e1, e3, ⟨v', ev, hq⟩, q'⟩ := callLamS X B.x (host := host) (σ := σ) hM (fun _ _ _ _ h => h) rfl rfl (fun w hw a' U hU => by rw [List.mem_singleton.mp hw]; exact mvT (wtrans B.z hU) w4) (List.mem_cons_self ..) B.o (mvT B.z w1) (mvT B.z w2) (mvT B.z w3 h3) (mvT B.z w4) (mvT B.z w5) (mvT B.z w6) hxi hy hpoly (own_made39 B.z hmd) ⟨_, by rw [eT]; exact F, rfl, rfl⟩ hok hdI hdR
    (g := mkF m pc Ls (argsL.reverse ++ .ref a :: rest)) rfl (B.mx hm) (argsL := argsL) (argsT := argsT) (rest := rest) hlen hlenT rfl (B.d q) hL0 hsz (fun U ck bl tg hU hck hh hWU kk => hload U ck bl tg hU hck (hh.trans eT) (wtrans B.z hWU) kk)
    (fun st v t ⟨v', ev, hq⟩ => by cases ev; exact hout _ _ hq) hf (by show 2 * 0 + _ + _ + _ ≤ _; omega) hc hs (fun U hU ee => ⟨rfl, wtrans B.z hU, ee.trans eT⟩)
  cases ev
  exact (k v T' _ L X' rfl (by rw [e1]; exact hq) hL).via q'
end OwnLam
theorem CtrW.ofN {l : Launch} {Z : State} {bytes : ByteArray} {maxL : Nat} {ret : Option FieldType} {Ts : List String} {y : MethodName} {rm : Room} {as : Array Value} {h0 : Heap} {Q : Option Value → Heap → Vm → List Loc → Prop} (hn : plainFor y = true)
    (body : ∀ (p : Program) (e : Env) (s : State) (m : MethodId) (below : List Frame) (meth : Method) (c : Code) (T : State), Stand p l e rm (s.setVm s.vm) m as below meth c T [] 0 0 → Bo Z p (s.setVm s.vm) m meth c y.cls y.name bytes maxL ret → T.heap = h0 → s.heap = h0 → s.Since s.vm 0 → IB Z s.vm Ts → Z.methodNamed? y = some m → Go p e below (EndsW s Q rm.cells rm.slots) (T.setTop (entryFrame m as maxL))) :
    CtrW l Z y bytes maxL ret rm as h0 Ts Q := by
  intro ws
  refine MetFree.of_bodySF hn hisR ?_
  intro p e s m args below meth c s₁ Bd hml0 hP hK
  obtain ⟨rfl, hZ, hh, hI⟩ := hP
  have q : (Z.setVm s.vm).methodNamed? y = some m := Bd.named
  rw [State.methodNamed?_setVm hZ.alike] at q
  exact body p e s m below meth c s₁ (Stand.of_body Bd) ⟨Bd.exec, Bd.bytes, hml0, hZ, findClass_of_methodNamed Bd.named, (name_of_methodNamed Bd.named Bd.method).1, Bd.returns, BodyLoose.notSynchronized Bd⟩ (by rw [← hh, Bd.state]; rfl) hh ((State.WarmedH.refl s).since 0) hI q
section OwnWide2
variable {p : Program} {l : Launch} {e : Env} {R : Room} {s : State} {m : MethodId} {args : Array Value} {below : List Frame} {meth : Method} {c : Code} {T : State} {locs : List Loc} {cells slots : Nat} {Z : State} {a0 : Array Value} {h : Heap} {P : State → Outcome → Prop} {pc : Nat} {Ls : Array Slot} {st rest : List Value} {own nm : String} {bytes : ByteArray} {maxL : Nat} {ret : Option FieldType} {vm0 : Vm} {k0 : Nat}
/-- a String constant whose text nobody looks at -/
theorem g_ldcP (X : Stand p l e R (s.setVm vm0) m args below meth c T locs cells slots) (B : Bo Z p (s.setVm vm0) m meth c own nm bytes maxL ret) {index : Nat} {text : String} (n : Nat) (q : decode bytes pc = .ok (.ldc index, 2)) (pc' : Nat) (hp : pc + 2 = pc') (w : (Jvm.Cond.stringLink own index text).before a0 Z = true) (wS : ∀ a ∈ Bundle.stringAtoms, a.before a0 Z = true)
    (eT : T.heap = h) (hS : s.Since vm0 k0) (hk : k0 ≤ h.size) (hn : 4 * text.toList.length ≤ n) (hbig : n ≤ 536870912) (hc : cells + 2 ≤ R.cells) (hl' : slots + (n + 4) ≤ R.slots)
    (k : ∀ a T' h', Stand p l e R (s.setVm T'.vm) m args below meth c T' locs (cells + 2) (slots + (n + 4)) → Bo Z p (s.setVm T'.vm) m meth c own nm bytes maxL ret → T'.heap = h' → Ext h h' → s.Since T'.vm h'.size → Go p e below P (T'.setTop (mkF m pc' Ls (.ref a :: st)))) : Go p e below P (T.setTop (mkF m pc Ls st)) := by
  subst hp
  obtain ⟨a, T', h', k1, r1, r2, r3, r4, r5, r6, r7, r8⟩ := Jvm.RoadKit.ldcS X B.x B.z B.o w wS eT hS hk (g := mkF m pc Ls st) rfl (B.d q) hn hbig hc hl'
  exact (k a T' h' r1 ⟨B.1, B.2.1, B.2.2.1, r6, r7, B.n, B.r, B.lk⟩ r2 r3 ⟨r4.1, r4.2.mono r5⟩).via r8
theorem g_lushr (X : Stand p l e R s m args below meth c T locs cells slots) (B : Bo Z p s m meth c own nm bytes maxL ret) {x : Int64} {y : Int32} (q : decode bytes pc = .ok (.lushr, 1)) (pc' : Nat) (hp : pc + 1 = pc') (g : Go p e below P (T.setTop (mkF m pc' Ls (.long (XT.ushrL x y) :: st)))) : Go p e below P (T.setTop (mkF m pc Ls (.int y :: .long x :: st))) := by
  subst hp
  exact g.via fun _ => XT.lushr X.here B.x rfl (B.d q) rfl
end OwnWide2

/-! own: long steps, decimal digits by place -/
section OwnLong
variable {p : Program} {l : Launch} {e : Env} {R : Room} {s : State} {m : MethodId} {args : Array Value} {below : List Frame} {meth : Method} {c : Code} {T : State} {locs : List Loc} {cells slots : Nat} {Z : State} {a0 : Array Value} {h : Heap} {P : State → Outcome → Prop} {pc : Nat} {Ls : Array Slot} {st : List Value} {own nm : String} {bytes : ByteArray} {maxL : Nat} {ret : Option FieldType}
theorem g_lcmp (X : Stand p l e R s m args below meth c T locs cells slots) (B : Bo Z p s m meth c own nm bytes maxL ret) {x y : Int64} (q : decode bytes pc = .ok (.lcmp, 1)) (pc' : Nat) (hp : pc + 1 = pc') (g : Go p e below P (T.setTop (mkF m pc' Ls (.int (XT.cmpL x y) :: st)))) : Go p e below P (T.setTop (mkF m pc Ls (.long y :: .long x :: st))) := by
  subst hp
  exact g.via fun _ => XT.lcmp X.here B.x rfl (B.d q) rfl
theorem g_lneg (X : Stand p l e R s m args below meth c T locs cells slots) (B : Bo Z p s m meth c own nm bytes maxL ret) {x : Int64} (q : decode bytes pc = .ok (.lneg, 1)) (pc' : Nat) (hp : pc + 1 = pc') (g : Go p e below P (T.setTop (mkF m pc' Ls (.long (-x) :: st)))) : Go p e below P (T.setTop (mkF m pc Ls (.long x :: st))) := by
  subst hp
  exact g.via fun _ => XS.lneg X.here B.x rfl (B.d q) rfl
theorem g_ldiv (X : Stand p l e R s m args below meth c T locs cells slots) (B : Bo Z p s m meth c own nm bytes maxL ret) {x y : Int64} (q : decode bytes pc = .ok (.ldiv, 1)) (pc' : Nat) (hp : pc + 1 = pc') (hy : y ≠ 0) (g : Go p e below P (T.setTop (mkF m pc' Ls (.long (x / y) :: st)))) : Go p e below P (T.setTop (mkF m pc Ls (.long y :: .long x :: st))) := by
  subst hp
  exact g.via fun _ => XS.ldiv X.here B.x rfl (B.d q) rfl hy
theorem g_lrem (X : Stand p l e R s m args below meth c T locs cells slots) (B : Bo Z p s m meth c own nm bytes maxL ret) {x y : Int64} (q : decode bytes pc = .ok (.lrem, 1)) (pc' : Nat) (hp : pc + 1 = pc') (hy : y ≠ 0) (g : Go p e below P (T.setTop (mkF m pc' Ls (.long (x - (x / y) * y) :: st)))) : Go p e below P (T.setTop (mkF m pc Ls (.long y :: .long x :: st))) := by
  subst hp
  exact g.via fun _ => XS.lrem X.here B.x rfl (B.d q) rfl hy
theorem g_ldc2J (X : Stand p l e R s m args below meth c T locs cells slots) (B : Bo Z p s m meth c own nm bytes maxL ret) {index : Nat} {v : Int64} (q : decode bytes pc = .ok (.ldc2_w index, 3)) (pc' : Nat) (hp : pc + 3 = pc') (w : (Jvm.Cond.constantLong own index v).before a0 Z = true) (g : Go p e below P (T.setTop (mkF m pc' Ls (.long v :: st)))) : Go p e below P (T.setTop (mkF m pc Ls st)) := by
  subst hp
  exact g.via fun _ => X.ldc2J B.x B.o (mvT B.z w) rfl (B.d q)
end OwnLong
theorem own_cl (x y : Int64) : XT.cmpL x y < 0 ↔ x.toInt < y.toInt := by
  unfold XT.cmpL
  split <;> (try split) <;> simp_all [Int64.lt_iff_toInt_lt, ← Int64.toInt_inj] <;> omega
theorem own_digs_at : ∀ (k n : Nat), n ≤ k → ∀ j, j < (own_digs n).length → (own_digs n)[j]? = some (Int32.ofNat (48 + n / 10 ^ ((own_digs n).length - 1 - j) % 10)) := by
  intro k
  induction k with
  | zero =>
    intro n hn j hj
    obtain rfl : n = 0 := by omega
    rw [own_digs_lt (by omega)] at hj ⊢
    obtain rfl : j = 0 := by simpa using hj
    rfl
  | succ k ih =>
    intro n hn j hj
    by_cases h : n < 10
    · rw [own_digs_lt h] at hj ⊢
      obtain rfl : j = 0 := by simpa using hj
      simp [Nat.mod_eq_of_lt h]
    · rw [own_digs_ge h] at hj ⊢
      rw [List.length_append, List.length_singleton] at hj ⊢
      by_cases hl : j < (own_digs (n / 10)).length
      · rw [List.getElem?_append_left hl, ih (n / 10) (by omega) j hl, Nat.div_div_eq_div_mul]
        have e1 : 10 * 10 ^ ((own_digs (n / 10)).length - 1 - j) = 10 ^ ((own_digs (n / 10)).length + 1 - 1 - j) := by
          rw [show (own_digs (n / 10)).length + 1 - 1 - j = ((own_digs (n / 10)).length - 1 - j) + 1 by omega, Nat.pow_succ, Nat.mul_comm]
        rw [e1]
      · rw [List.getElem?_append_right (by omega)]
        obtain rfl : j = (own_digs (n / 10)).length := by omega
        simp

theorem d47_0 : decode jdk_42_method_56_code 0 = .ok (.aload_n 0, 1) := by decide +kernel
theorem d47_1 : decode jdk_42_method_56_code 1 = .ok (.invokevirtual 492, 3) := by decide +kernel
theorem d47_4 : decode jdk_42_method_56_code 4 = .ok (.ifCond .eq 12, 3) := by decide +kernel
theorem d47_7 : decode jdk_42_method_56_code 7 = .ok (.aload_n 0, 1) := by decide +kernel
theorem d47_8 : decode jdk_42_method_56_code 8 = .ok (.getfield 9, 3) := by decide +kernel
theorem d47_11 : decode jdk_42_method_56_code 11 = .ok (.iload_n 1, 1) := by decide +kernel
theorem d47_12 : decode jdk_42_method_56_code 12 = .ok (.invokestatic 495, 3) := by decide +kernel
theorem d47_15 : decode jdk_42_method_56_code 15 = .ok (.ireturn, 1) := by decide +kernel
theorem d47_16 : decode jdk_42_method_56_code 16 = .ok (.aload_n 0, 1) := by decide +kernel
theorem d47_17 : decode jdk_42_method_56_code 17 = .ok (.getfield 9, 3) := by decide +kernel
theorem d47_20 : decode jdk_42_method_56_code 20 = .ok (.iload_n 1, 1) := by decide +kernel
theorem d47_21 : decode jdk_42_method_56_code 21 = .ok (.invokestatic 498, 3) := by decide +kernel
theorem d47_24 : decode jdk_42_method_56_code 24 = .ok (.ireturn, 1) := by decide +kernel
theorem pn_47 : plainFor (⟨"java/lang/String", "charAt", "(I)C"⟩ : MethodName) = true := by first | (apply plainFor_of_name; simp [plainName, overriddenIn]; done) | (apply plainFor_of_name; decide +kernel) | decide +kernel
theorem pd_47 : parseMethodDescriptor "(I)C" = some ⟨[.int], (some .char)⟩ := by decide +kernel
theorem d48_0 : decode jdk_43_method_2_code 0 = .ok (.iload_n 1, 1) := by decide +kernel
theorem d48_1 : decode jdk_43_method_2_code 1 = .ok (.aload_n 0, 1) := by decide +kernel
theorem d48_2 : decode jdk_43_method_2_code 2 = .ok (.arraylength, 1) := by decide +kernel
theorem d48_3 : decode jdk_43_method_2_code 3 = .ok (.invokestatic 9, 3) := by decide +kernel
theorem d48_6 : decode jdk_43_method_2_code 6 = .ok (.aload_n 0, 1) := by decide +kernel
theorem d48_7 : decode jdk_43_method_2_code 7 = .ok (.iload_n 1, 1) := by decide +kernel
theorem d48_8 : decode jdk_43_method_2_code 8 = .ok (.baload, 1) := by decide +kernel
theorem d48_9 : decode jdk_43_method_2_code 9 = .ok (.sipush 255, 3) := by decide +kernel
theorem d48_12 : decode jdk_43_method_2_code 12 = .ok (.iand, 1) := by decide +kernel
theorem d48_13 : decode jdk_43_method_2_code 13 = .ok (.i2c, 1) := by decide +kernel
theorem d48_14 : decode jdk_43_method_2_code 14 = .ok (.ireturn, 1) := by decide +kernel
theorem pn_48 : plainFor (⟨"java/lang/StringLatin1", "charAt", "([BI)C"⟩ : MethodName) = true := by first | (apply plainFor_of_name; simp [plainName, overriddenIn]; done) | (apply plainFor_of_name; decide +kernel) | decide +kernel
theorem pd_48 : parseMethodDescriptor "([BI)C" = some ⟨[(.array .byte), .int], (some .char)⟩ := by decide +kernel
theorem d49_0 : decode jdk_42_method_155_code 0 = .ok (.iload_n 0, 1) := by decide +kernel
theorem d49_1 : decode jdk_42_method_155_code 1 = .ok (.iload_n 1, 1) := by decide +kernel
theorem d49_2 : decode jdk_42_method_155_code 2 = .ok (.getstatic 1053, 3) := by decide +kernel
theorem d49_5 : decode jdk_42_method_155_code 5 = .ok (.invokestatic 1059, 3) := by decide +kernel
theorem d49_8 : decode jdk_42_method_155_code 8 = .ok (.pop, 1) := by decide +kernel
theorem d49_9 : decode jdk_42_method_155_code 9 = .ok (.return_, 1) := by decide +kernel
theorem pn_49 : plainFor (⟨"java/lang/String", "checkIndex", "(II)V"⟩ : MethodName) = true := by first | (apply plainFor_of_name; simp [plainName, overriddenIn]; done) | (apply plainFor_of_name; decide +kernel) | decide +kernel
theorem pd_49 : parseMethodDescriptor "(II)V" = some ⟨[.int, .int], none⟩ := by decide +kernel
theorem d50_0 : decode jdk_41_method_11_code 0 = .ok (.iload_n 0, 1) := by decide +kernel
theorem d50_1 : decode jdk_41_method_11_code 1 = .ok (.ifCond .lt 8, 3) := by decide +kernel
theorem d50_4 : decode jdk_41_method_11_code 4 = .ok (.iload_n 0, 1) := by decide +kernel
theorem d50_5 : decode jdk_41_method_11_code 5 = .ok (.iload_n 1, 1) := by decide +kernel
theorem d50_6 : decode jdk_41_method_11_code 6 = .ok (.if_icmp .lt 10, 3) := by decide +kernel
theorem d50_9 : decode jdk_41_method_11_code 9 = .ok (.aload_n 2, 1) := by decide +kernel
theorem d50_10 : decode jdk_41_method_11_code 10 = .ok (.iload_n 0, 1) := by decide +kernel
theorem d50_11 : decode jdk_41_method_11_code 11 = .ok (.iload_n 1, 1) := by decide +kernel
theorem d50_12 : decode jdk_41_method_11_code 12 = .ok (.invokestatic 95, 3) := by decide +kernel
theorem d50_15 : decode jdk_41_method_11_code 15 = .ok (.athrow, 1) := by decide +kernel
theorem d50_16 : decode jdk_41_method_11_code 16 = .ok (.iload_n 0, 1) := by decide +kernel
theorem d50_17 : decode jdk_41_method_11_code 17 = .ok (.ireturn, 1) := by decide +kernel
theorem pn_50 : plainFor (⟨"jdk/internal/util/Preconditions", "checkIndex", "(IILjava/util/function/BiFunction;)I"⟩ : MethodName) = true := by first | (apply plainFor_of_name; simp [plainName, overriddenIn]; done) | (apply plainFor_of_name; decide +kernel) | decide +kernel
theorem pd_50 : parseMethodDescriptor "(IILjava/util/function/BiFunction;)I" = some ⟨[.int, .int, (.object "java/util/function/BiFunction")], (some .int)⟩ := by decide +kernel
set_option maxRecDepth 65536 in
set_option maxHeartbeats 40000000 in
theorem rL_pci (l : Launch) (Z : State) (ag : Array Value) (hw : ∀ d ∈ tables_1, d.before ag Z = true) (i z : Int32) (g : Value) (hg : g.isRef = true) (h0 : Heap) (n0 : Nat) (f1 : ¬ i < 0) (f2 : i < z) :
    Ctr l Z (⟨"jdk/internal/util/Preconditions", "checkIndex", "(IILjava/util/function/BiFunction;)I"⟩ : MethodName) jdk_41_method_11_code 3 (some .int) ({ frames := 0, cells := 0, slots := 0, locals := 0 } : Room) #[.int i, .int z, g] h0 (fun v h L => v = some (.int i) ∧ Fr n0 L ∧ h0 = h) := by
  refine Ctr.of pn_50 ?_
  intro p e s m below meth c T0 X0 B e0
  refine Go.cast (f' := mkF m 0 #[.val (.int i), .val (.int z), .val (g)] []) (by first | (rcases XT.refc hg with rfl | ⟨_, rfl⟩ <;> rfl) | (simp [entryFrame, mkF, argsToLocals, Value.category, maxLocals]; done)) ?_

  refine g_iloadN X0 B d50_0 1 rfl rfl ?_
  refine g_if_lt X0 B d50_1 9 4 rfl (by decide) rfl (fun z => own_abs' (f1) z) (fun _ => ?_)
  refine g_iloadN X0 B d50_4 5 rfl rfl ?_
  refine g_iloadN X0 B d50_5 6 rfl rfl ?_
  refine g_icmp_lt X0 B d50_6 16 9 rfl (by decide) rfl (fun _ => ?_) (fun z => own_abs (f2) z)
  refine g_iloadN X0 B d50_16 17 rfl rfl ?_
  exact g_retI X0 B d50_17 rfl (by decide) (by decide) e0 ⟨rfl, (Fr.nil n0), rfl⟩
set_option maxRecDepth 65536 in
set_option maxHeartbeats 40000000 in
theorem rL_sci (l : Launch) (Z : State) (ag : Array Value) (hw : ∀ d ∈ tables_1, d.before ag Z = true) (i z : Int32) (g : Value) (h0 : Heap) (n0 : Nat) (f1 : ¬ i < 0) (f2 : i < z) (SF : Sta Z h0 "jdk/internal/util/Preconditions" "SIOOBE_FORMATTER" "Ljava/util/function/BiFunction;" g) (hg : g.isRef = true) :
    Ctr l Z (⟨"java/lang/String", "checkIndex", "(II)V"⟩ : MethodName) jdk_42_method_155_code 2 none ({ frames := 1, cells := 0, slots := 0, locals := 14 } : Room) #[.int i, .int z] h0 (fun v h L => v = none ∧ Fr n0 L ∧ h0 = h) := by
  refine Ctr.of pn_49 ?_
  intro p e s m below meth c T0 X0 B e0
  refine Go.cast (f' := mkF m 0 #[.val (.int i), .val (.int z)] []) (by first | rfl | (simp [entryFrame, mkF, argsToLocals, Value.category, maxLocals]; done)) ?_

  refine g_iloadN X0 B d49_0 1 rfl rfl ?_
  refine g_iloadN X0 B d49_1 2 rfl rfl ?_
  refine g_getS X0 B d49_2 5 rfl (hw _ (List.mem_of_getElem? (i := 258) rfl)) Via.refl e0 SF (fun T1 X1 e1 => ?_)
  refine g_callS X1 B [.int i, .int z, g] [] d49_5 8 rfl rfl (hw _ (List.mem_of_getElem? (i := 259) rfl)) (hw _ (List.mem_of_getElem? (i := 260) rfl)) (hw _ (List.mem_of_getElem? (i := 226) rfl)) (hw _ (List.mem_of_getElem? (i := 261) rfl)) (by decide) (lenOf pd_50 rfl) (rL_pci l Z ag hw i z g hg h0 n0 f1 f2) e1 rfl 0 (Nat.le_of_eq rfl) (by decide) (by decide) (by decide) (by decide) (fun v2 T2 h2 L2 X2 e2 q2 => ?_)
  obtain ⟨rfl, N2, rfl⟩ := q2
  show Go p e below _ (T2.setTop (mkF m 8 #[.val (.int i), .val (.int z)] [.int i]))
  refine g_pop X2 B d49_8 9 rfl rfl ?_
  exact g_retV X2 B d49_9 rfl (by decide) (by decide) e2 ⟨rfl, ((Fr.nil n0).app N2), rfl⟩
set_option maxRecDepth 65536 in
set_option maxHeartbeats 40000000 in
theorem rL_lca (l : Launch) (Z : State) (ag : Array Value) (hw : ∀ d ∈ tables_1, d.before ag Z = true) (b : Addr) (i : Nat) (c0 : Int32) (vs : List Value) (cs : List Int32) (g : Value) (h0 : Heap) (n0 : Nat) (Ab : Av Z h0 b .byte vs) (hn : cs.length ≤ 70) (hLv : own_L vs cs) (hi : i < cs.length) (hc : cs[i]? = some c0) (hch : own_ch c0) (SF : Sta Z h0 "jdk/internal/util/Preconditions" "SIOOBE_FORMATTER" "Ljava/util/function/BiFunction;" g) (hg : g.isRef = true) :
    Ctr l Z (⟨"java/lang/StringLatin1", "charAt", "([BI)C"⟩ : MethodName) jdk_43_method_2_code 2 (some .char) ({ frames := 2, cells := 0, slots := 0, locals := 27 } : Room) #[.ref b, .int (Int32.ofNat i)] h0 (fun v h L => v = some (.int c0) ∧ Fr n0 L ∧ h0 = h) := by
  refine Ctr.of pn_48 ?_
  intro p e s m below meth c T0 X0 B e0
  refine Go.cast (f' := mkF m 0 #[.val (.ref b), .val (.int (Int32.ofNat i))] []) (by first | rfl | (simp [entryFrame, mkF, argsToLocals, Value.category, maxLocals]; done)) ?_

  refine g_iloadN X0 B d48_0 1 rfl rfl ?_
  refine g_aloadN X0 B d48_1 2 rfl rfl rfl ?_
  refine g_arrlen X0 B (Int32.ofNat cs.length) d48_2 3 rfl e0 Ab (by rw [hLv.1]) ?_
  refine g_callS X0 B [.int (Int32.ofNat i), .int (Int32.ofNat cs.length)] [] d48_3 6 rfl rfl (hw _ (List.mem_of_getElem? (i := 255) rfl)) (hw _ (List.mem_of_getElem? (i := 256) rfl)) (hw _ (List.mem_of_getElem? (i := 7) rfl)) (hw _ (List.mem_of_getElem? (i := 257) rfl)) (by decide) (lenOf pd_49 rfl) (rL_sci l Z ag hw (Int32.ofNat i) (Int32.ofNat cs.length) g h0 n0 (own_nn (by omega)) ((own_lt (by omega) (by omega)).mpr hi) SF hg) e0 rfl 0 (Nat.le_of_eq rfl) (by decide) (by decide) (by decide) (by decide) (fun v1 T1 h1 L1 X1 e1 q1 => ?_)
  obtain ⟨rfl, N1, rfl⟩ := q1
  show Go p e below _ (T1.setTop (mkF m 6 #[.val (.ref b), .val (.int (Int32.ofNat i))] []))
  refine g_aloadN X1 B d48_6 7 rfl rfl rfl ?_
  refine g_iloadN X1 B d48_7 8 rfl rfl ?_
  refine g_baloadB X1 B i d48_8 9 rfl e1 Ab (own_tn (by omega)) (own_nn (by omega)) (hLv.2 i c0 hi hc).1 ?_
  refine g_sipush X1 B (255) d48_9 12 rfl rfl ?_
  refine g_iand X1 B d48_12 13 rfl ?_
  refine g_i2c X1 B d48_13 14 rfl ?_
  rw [own_getL hch (hLv.2 i c0 hi hc).2]
  exact g_retN X1 B d48_14 rfl (by have q := own_nc hch; simpa [narrow, nar] using q) (by decide) (by decide) (by decide) e1 ⟨rfl, ((Fr.nil n0).app N1), rfl⟩
set_option maxRecDepth 65536 in
set_option maxHeartbeats 40000000 in
theorem rL_cat (l : Launch) (Z : State) (ag : Array Value) (hw : ∀ d ∈ tables_1, d.before ag Z = true) (a b : Addr) (cx : Int32) (i : Nat) (c0 : Int32) (vs : List Value) (cs : List Int32) (g : Value) (h0 : Heap) (n0 : Nat) (Ea : Exa Z h0 a "java/lang/String") (FV : Fld Z h0 a "java/lang/String" "value" "[B" (.ref b)) (FC : Fld Z h0 a "java/lang/String" "coder" "B" (.int 0)) (Ab : Av Z h0 b .byte vs) (hn : cs.length ≤ 70) (hLv : own_L vs cs) (SC : Sta Z h0 "java/lang/String" "COMPACT_STRINGS" "Z" (.int cx)) (hcx : ¬ cx = 0) (hi : i < cs.length) (hc : cs[i]? = some c0) (hch : own_ch c0) (SF : Sta Z h0 "jdk/internal/util/Preconditions" "SIOOBE_FORMATTER" "Ljava/util/function/BiFunction;" g) (hg : g.isRef = true) :
    Ctr l Z (⟨"java/lang/String", "charAt", "(I)C"⟩ : MethodName) jdk_42_method_56_code 2 (some .char) ({ frames := 3, cells := 0, slots := 0, locals := 40 } : Room) #[.ref a, .int (Int32.ofNat i)] h0 (fun v h L => v = some (.int c0) ∧ Fr n0 L ∧ h0 = h) := by
  refine Ctr.of pn_47 ?_
  intro p e s m below meth c T0 X0 B e0
  refine Go.cast (f' := mkF m 0 #[.val (.ref a), .val (.int (Int32.ofNat i))] []) (by first | rfl | (simp [entryFrame, mkF, argsToLocals, Value.category, maxLocals]; done)) ?_

  refine g_aloadN X0 B d47_0 1 rfl rfl rfl ?_
  refine g_callV X0 B [] [] d47_1 4 rfl rfl (hw _ (List.mem_of_getElem? (i := 228) rfl)) (hw _ (List.mem_of_getElem? (i := 229) rfl)) (hw _ (List.mem_of_getElem? (i := 231) rfl)) (hw _ (List.mem_of_getElem? (i := 230) rfl)) (hw _ (List.mem_of_getElem? (i := 7) rfl)) (hw _ (List.mem_of_getElem? (i := 232) rfl)) (by decide) (lenOf pd_43 rfl) Ea (rS_lat l Z ag hw a 0 cx h0 n0 FC (Or.inl rfl) SC hcx) e0 rfl 0 (Nat.le_of_eq rfl) (by decide) (by decide) (by decide) (by decide) (fun v1 T1 h1 L1 X1 e1 q1 => ?_)
  obtain ⟨rfl, N1, rfl⟩ := q1
  show Go p e below _ (T1.setTop (mkF m 4 #[.val (.ref a), .val (.int (Int32.ofNat i))] [.int (1 : Int32)]))
  refine g_if_eq X1 B d47_4 16 7 rfl (by decide) rfl (fun z => own_abs' (by decide) z) (fun _ => ?_)
  refine g_aloadN X1 B d47_7 8 rfl rfl rfl ?_
  refine g_getF X1 B d47_8 11 rfl (hw _ (List.mem_of_getElem? (i := 25) rfl)) Via.refl e1 FV (fun T2 X2 e2 => ?_)
  refine g_iloadN X2 B d47_11 12 rfl rfl ?_
  refine g_callS X2 B [.ref b, .int (Int32.ofNat i)] [] d47_12 15 rfl rfl (hw _ (List.mem_of_getElem? (i := 251) rfl)) (hw _ (List.mem_of_getElem? (i := 252) rfl)) (hw _ (List.mem_of_getElem? (i := 253) rfl)) (hw _ (List.mem_of_getElem? (i := 254) rfl)) (by decide) (lenOf pd_48 rfl) (rL_lca l Z ag hw b i c0 vs cs g h0 n0 Ab hn hLv hi hc hch SF hg) e2 rfl 0 (Nat.le_of_eq rfl) (by decide) (by decide) (by decide) (by decide) (fun v3 T3 h3 L3 X3 e3 q3 => ?_)
  obtain ⟨rfl, N3, rfl⟩ := q3
  show Go p e below _ (T3.setTop (mkF m 15 #[.val (.ref a), .val (.int (Int32.ofNat i))] [.int c0]))
  exact g_retN X3 B d47_15 rfl (by have q := own_nc hch; simpa [narrow, nar] using q) (by decide) (by decide) (by decide) e3 ⟨rfl, (((Fr.nil n0).app N1).app N3), rfl⟩
theorem d1_0 : decode method_2_code 0 = .ok (.iload_n 0, 1) := by decide +kernel
theorem d1_1 : decode method_2_code 1 = .ok (.bipush 16, 2) := by decide +kernel
theorem d1_3 : decode method_2_code 3 = .ok (.iushr, 1) := by decide +kernel
theorem d1_4 : decode method_2_code 4 = .ok (.iconst 3, 1) := by decide +kernel
theorem d1_5 : decode method_2_code 5 = .ok (.iand, 1) := by decide +kernel
theorem d1_6 : decode method_2_code 6 = .ok (.istore_n 1, 1) := by decide +kernel
theorem d1_7 : decode method_2_code 7 = .ok (.iload_n 1, 1) := by decide +kernel
theorem d1_8 : decode method_2_code 8 = .ok (.ifCond .ne 13, 3) := by decide +kernel
theorem d1_11 : decode method_2_code 11 = .ok (.ldc 7, 2) := by decide +kernel
theorem d1_13 : decode method_2_code 13 = .ok (.iload_n 0, 1) := by decide +kernel
theorem d1_14 : decode method_2_code 14 = .ok (.sipush 1023, 3) := by decide +kernel
theorem d1_17 : decode method_2_code 17 = .ok (.iand, 1) := by decide +kernel
theorem d1_18 : decode method_2_code 18 = .ok (.ior, 1) := by decide +kernel
theorem d1_19 : decode method_2_code 19 = .ok (.i2c, 1) := by decide +kernel
theorem d1_20 : decode method_2_code 20 = .ok (.ireturn, 1) := by decide +kernel
theorem d1_21 : decode method_2_code 21 = .ok (.iload_n 1, 1) := by decide +kernel
theorem d1_22 : decode method_2_code 22 = .ok (.iconst 1, 1) := by decide +kernel
theorem d1_23 : decode method_2_code 23 = .ok (.if_icmp .ne 13, 3) := by decide +kernel
theorem d1_26 : decode method_2_code 26 = .ok (.ldc 8, 2) := by decide +kernel
theorem d1_28 : decode method_2_code 28 = .ok (.iload_n 0, 1) := by decide +kernel
theorem d1_29 : decode method_2_code 29 = .ok (.sipush 1023, 3) := by decide +kernel
theorem d1_32 : decode method_2_code 32 = .ok (.iand, 1) := by decide +kernel
theorem d1_33 : decode method_2_code 33 = .ok (.ior, 1) := by decide +kernel
theorem d1_34 : decode method_2_code 34 = .ok (.i2c, 1) := by decide +kernel
theorem d1_35 : decode method_2_code 35 = .ok (.ireturn, 1) := by decide +kernel
theorem d1_36 : decode method_2_code 36 = .ok (.iload_n 0, 1) := by decide +kernel
theorem d1_37 : decode method_2_code 37 = .ok (.i2c, 1) := by decide +kernel
theorem d1_38 : decode method_2_code 38 = .ok (.ireturn, 1) := by decide +kernel
theorem pn_1 : plainFor (⟨"com/example/tillbeat/tillbeat/model/TextRuleAtMostPinLaw", "mk", "(I)C"⟩ : MethodName) = true := by first | (apply plainFor_of_name; simp [plainName, overriddenIn]; done) | (apply plainFor_of_name; decide +kernel) | decide +kernel
theorem pd_1 : parseMethodDescriptor "(I)C" = some ⟨[.int], (some .char)⟩ := by decide +kernel
theorem d59_0 : decode method_3_code 0 = .ok (.iload_n 0, 1) := by decide +kernel
theorem d59_1 : decode method_3_code 1 = .ok (.ldc 7, 2) := by decide +kernel
theorem d59_3 : decode method_3_code 3 = .ok (.if_icmp .lt 13, 3) := by decide +kernel
theorem d59_6 : decode method_3_code 6 = .ok (.iload_n 0, 1) := by decide +kernel
theorem d59_7 : decode method_3_code 7 = .ok (.ldc 9, 2) := by decide +kernel
theorem d59_9 : decode method_3_code 9 = .ok (.if_icmp .gt 7, 3) := by decide +kernel
theorem d59_12 : decode method_3_code 12 = .ok (.iconst 1, 1) := by decide +kernel
theorem d59_13 : decode method_3_code 13 = .ok (.goto 4, 3) := by decide +kernel
theorem d59_16 : decode method_3_code 16 = .ok (.iconst 0, 1) := by decide +kernel
theorem d59_17 : decode method_3_code 17 = .ok (.ireturn, 1) := by decide +kernel
theorem pn_59 : plainFor (⟨"com/example/tillbeat/tillbeat/model/TextRuleAtMostPinLaw", "hi", "(C)Z"⟩ : MethodName) = true := by first | (apply plainFor_of_name; simp [plainName, overriddenIn]; done) | (apply plainFor_of_name; decide +kernel) | decide +kernel
theorem pd_59 : parseMethodDescriptor "(C)Z" = some ⟨[.char], (some .boolean)⟩ := by decide +kernel
theorem d60_0 : decode method_4_code 0 = .ok (.iload_n 0, 1) := by decide +kernel
theorem d60_1 : decode method_4_code 1 = .ok (.ldc 8, 2) := by decide +kernel
theorem d60_3 : decode method_4_code 3 = .ok (.if_icmp .lt 13, 3) := by decide +kernel
theorem d60_6 : decode method_4_code 6 = .ok (.iload_n 0, 1) := by decide +kernel
theorem d60_7 : decode method_4_code 7 = .ok (.ldc 10, 2) := by decide +kernel
theorem d60_9 : decode method_4_code 9 = .ok (.if_icmp .gt 7, 3) := by decide +kernel
theorem d60_12 : decode method_4_code 12 = .ok (.iconst 1, 1) := by decide +kernel
theorem d60_13 : decode method_4_code 13 = .ok (.goto 4, 3) := by decide +kernel
theorem d60_16 : decode method_4_code 16 = .ok (.iconst 0, 1) := by decide +kernel
theorem d60_17 : decode method_4_code 17 = .ok (.ireturn, 1) := by decide +kernel
theorem pn_60 : plainFor (⟨"com/example/tillbeat/tillbeat/model/TextRuleAtMostPinLaw", "lo", "(C)Z"⟩ : MethodName) = true := by first | (apply plainFor_of_name; simp [plainName, overriddenIn]; done) | (apply plainFor_of_name; decide +kernel) | decide +kernel
theorem pd_60 : parseMethodDescriptor "(C)Z" = some ⟨[.char], (some .boolean)⟩ := by decide +kernel
theorem d46_0 : decode method_5_code 0 = .ok (.lload_n 0, 1) := by decide +kernel
theorem d46_1 : decode method_5_code 1 = .ok (.ldc2_w 11, 3) := by decide +kernel
theorem d46_4 : decode method_5_code 4 = .ok (.lcmp, 1) := by decide +kernel
theorem d46_5 : decode method_5_code 5 = .ok (.ifCond .ge 5, 3) := by decide +kernel
theorem d46_8 : decode method_5_code 8 = .ok (.iconst 1, 1) := by decide +kernel
theorem d46_9 : decode method_5_code 9 = .ok (.ireturn, 1) := by decide +kernel
theorem d46_10 : decode method_5_code 10 = .ok (.lload_n 0, 1) := by decide +kernel
theorem d46_11 : decode method_5_code 11 = .ok (.ldc2_w 13, 3) := by decide +kernel
theorem d46_14 : decode method_5_code 14 = .ok (.lcmp, 1) := by decide +kernel
theorem d46_15 : decode method_5_code 15 = .ok (.ifCond .ge 5, 3) := by decide +kernel
theorem d46_18 : decode method_5_code 18 = .ok (.iconst 2, 1) := by decide +kernel
theorem d46_19 : decode method_5_code 19 = .ok (.ireturn, 1) := by decide +kernel
theorem d46_20 : decode method_5_code 20 = .ok (.lload_n 0, 1) := by decide +kernel
theorem d46_21 : decode method_5_code 21 = .ok (.ldc2_w 15, 3) := by decide +kernel
theorem d46_24 : decode method_5_code 24 = .ok (.lcmp, 1) := by decide +kernel
theorem d46_25 : decode method_5_code 25 = .ok (.ifCond .ge 5, 3) := by decide +kernel
theorem d46_28 : decode method_5_code 28 = .ok (.iconst 3, 1) := by decide +kernel
theorem d46_29 : decode method_5_code 29 = .ok (.ireturn, 1) := by decide +kernel
theorem d46_30 : decode method_5_code 30 = .ok (.lload_n 0, 1) := by decide +kernel
theorem d46_31 : decode method_5_code 31 = .ok (.ldc2_w 17, 3) := by decide +kernel
theorem d46_34 : decode method_5_code 34 = .ok (.lcmp, 1) := by decide +kernel
theorem d46_35 : decode method_5_code 35 = .ok (.ifCond .ge 5, 3) := by decide +kernel
theorem d46_38 : decode method_5_code 38 = .ok (.iconst 4, 1) := by decide +kernel
theorem d46_39 : decode method_5_code 39 = .ok (.ireturn, 1) := by decide +kernel
theorem d46_40 : decode method_5_code 40 = .ok (.lload_n 0, 1) := by decide +kernel
theorem d46_41 : decode method_5_code 41 = .ok (.ldc2_w 19, 3) := by decide +kernel
theorem d46_44 : decode method_5_code 44 = .ok (.lcmp, 1) := by decide +kernel
theorem d46_45 : decode method_5_code 45 = .ok (.ifCond .ge 5, 3) := by decide +kernel
theorem d46_48 : decode method_5_code 48 = .ok (.iconst 5, 1) := by decide +kernel
theorem d46_49 : decode method_5_code 49 = .ok (.ireturn, 1) := by decide +kernel
theorem d46_50 : decode method_5_code 50 = .ok (.lload_n 0, 1) := by decide +kernel
theorem d46_51 : decode method_5_code 51 = .ok (.ldc2_w 21, 3) := by decide +kernel
theorem d46_54 : decode method_5_code 54 = .ok (.lcmp, 1) := by decide +kernel
theorem d46_55 : decode method_5_code 55 = .ok (.ifCond .ge 6, 3) := by decide +kernel
theorem d46_58 : decode method_5_code 58 = .ok (.bipush 6, 2) := by decide +kernel
theorem d46_60 : decode method_5_code 60 = .ok (.ireturn, 1) := by decide +kernel
theorem d46_61 : decode method_5_code 61 = .ok (.lload_n 0, 1) := by decide +kernel
theorem d46_62 : decode method_5_code 62 = .ok (.ldc2_w 23, 3) := by decide +kernel
theorem d46_65 : decode method_5_code 65 = .ok (.lcmp, 1) := by decide +kernel
theorem d46_66 : decode method_5_code 66 = .ok (.ifCond .ge 6, 3) := by decide +kernel
theorem d46_69 : decode method_5_code 69 = .ok (.bipush 7, 2) := by decide +kernel
theorem d46_71 : decode method_5_code 71 = .ok (.ireturn, 1) := by decide +kernel
theorem d46_72 : decode method_5_code 72 = .ok (.lload_n 0, 1) := by decide +kernel
theorem d46_73 : decode method_5_code 73 = .ok (.ldc2_w 25, 3) := by decide +kernel
theorem d46_76 : decode method_5_code 76 = .ok (.lcmp, 1) := by decide +kernel
theorem d46_77 : decode method_5_code 77 = .ok (.ifCond .ge 6, 3) := by decide +kernel
theorem d46_80 : decode method_5_code 80 = .ok (.bipush 8, 2) := by decide +kernel
theorem d46_82 : decode method_5_code 82 = .ok (.ireturn, 1) := by decide +kernel
theorem d46_83 : decode method_5_code 83 = .ok (.lload_n 0, 1) := by decide +kernel
theorem d46_84 : decode method_5_code 84 = .ok (.ldc2_w 27, 3) := by decide +kernel
theorem d46_87 : decode method_5_code 87 = .ok (.lcmp, 1) := by decide +kernel
theorem d46_88 : decode method_5_code 88 = .ok (.ifCond .ge 6, 3) := by decide +kernel
theorem d46_91 : decode method_5_code 91 = .ok (.bipush 9, 2) := by decide +kernel
theorem d46_93 : decode method_5_code 93 = .ok (.ireturn, 1) := by decide +kernel
theorem d46_94 : decode method_5_code 94 = .ok (.bipush 10, 2) := by decide +kernel
theorem d46_96 : decode method_5_code 96 = .ok (.ireturn, 1) := by decide +kernel
theorem pn_46 : plainFor (⟨"com/example/tillbeat/tillbeat/model/TextRuleAtMostPinLaw", "digits", "(J)I"⟩ : MethodName) = true := by first | (apply plainFor_of_name; simp [plainName, overriddenIn]; done) | (apply plainFor_of_name; decide +kernel) | decide +kernel
theorem pd_46 : parseMethodDescriptor "(J)I" = some ⟨[.long], (some .int)⟩ := by decide +kernel
theorem d45_0 : decode jdk_29_method_61_code 0 = .ok (.lload_n 0, 1) := by decide +kernel
theorem d45_1 : decode jdk_29_method_61_code 1 = .ok (.lconst 0, 1) := by decide +kernel
theorem d45_2 : decode jdk_29_method_61_code 2 = .ok (.lcmp, 1) := by decide +kernel
theorem d45_3 : decode jdk_29_method_61_code 3 = .ok (.ifCond .ge 8, 3) := by decide +kernel
theorem d45_6 : decode jdk_29_method_61_code 6 = .ok (.lload_n 0, 1) := by decide +kernel
theorem d45_7 : decode jdk_29_method_61_code 7 = .ok (.lneg, 1) := by decide +kernel
theorem d45_8 : decode jdk_29_method_61_code 8 = .ok (.goto 4, 3) := by decide +kernel
theorem d45_11 : decode jdk_29_method_61_code 11 = .ok (.lload_n 0, 1) := by decide +kernel
theorem d45_12 : decode jdk_29_method_61_code 12 = .ok (.lreturn, 1) := by decide +kernel
theorem pn_45 : plainFor (⟨"java/lang/Math", "abs", "(J)J"⟩ : MethodName) = true := by first | (apply plainFor_of_name; simp [plainName, overriddenIn]; done) | (apply plainFor_of_name; decide +kernel) | decide +kernel
theorem pd_45 : parseMethodDescriptor "(J)J" = some ⟨[.long], (some .long)⟩ := by decide +kernel
theorem d44_0 : decode prog_25_method_8_code 0 = .ok (.aload_n 0, 1) := by decide +kernel
theorem d44_1 : decode prog_25_method_8_code 1 = .ok (.getfield 26, 3) := by decide +kernel
theorem d44_4 : decode prog_25_method_8_code 4 = .ok (.areturn, 1) := by decide +kernel
theorem pn_44 : plainFor (⟨"com/example/tillbeat/tillbeat/model/TextRule", "requirement", "()Ljava/lang/String;"⟩ : MethodName) = true := by first | (apply plainFor_of_name; simp [plainName, overriddenIn]; done) | (apply plainFor_of_name; decide +kernel) | decide +kernel
theorem pd_44 : parseMethodDescriptor "()Ljava/lang/String;" = some ⟨[], (some (.object "java/lang/String"))⟩ := by decide +kernel
theorem pn_0 : plainFor (⟨"com/example/tillbeat/tillbeat/model/TextRuleAtMostPinLaw", "law", "(IIIII)Z"⟩ : MethodName) = true := by first | (apply plainFor_of_name; simp [plainName, overriddenIn]; done) | (apply plainFor_of_name; decide +kernel) | decide +kernel

theorem d5_0 : decode prog_25_method_2_code 0 = .ok (.new 18, 3) := by decide +kernel
theorem d5_3 : decode prog_25_method_2_code 3 = .ok (.dup, 1) := by decide +kernel
theorem d5_4 : decode prog_25_method_2_code 4 = .ok (.iload_n 0, 1) := by decide +kernel
theorem d5_5 : decode prog_25_method_2_code 5 = .ok (.invokedynamic 29, 5) := by decide +kernel
theorem d5_10 : decode prog_25_method_2_code 10 = .ok (.new 32, 3) := by decide +kernel
theorem d5_13 : decode prog_25_method_2_code 13 = .ok (.dup, 1) := by decide +kernel
theorem d5_14 : decode prog_25_method_2_code 14 = .ok (.invokespecial 34, 3) := by decide +kernel
theorem d5_17 : decode prog_25_method_2_code 17 = .ok (.ldc 35, 2) := by decide +kernel
theorem d5_19 : decode prog_25_method_2_code 19 = .ok (.invokevirtual 37, 3) := by decide +kernel
theorem d5_22 : decode prog_25_method_2_code 22 = .ok (.iload_n 0, 1) := by decide +kernel
theorem d5_23 : decode prog_25_method_2_code 23 = .ok (.invokevirtual 41, 3) := by decide +kernel
theorem d5_26 : decode prog_25_method_2_code 26 = .ok (.ldc 44, 2) := by decide +kernel
theorem d5_28 : decode prog_25_method_2_code 28 = .ok (.invokevirtual 37, 3) := by decide +kernel
theorem d5_31 : decode prog_25_method_2_code 31 = .ok (.invokevirtual 46, 3) := by decide +kernel
theorem d5_34 : decode prog_25_method_2_code 34 = .ok (.invokespecial 50, 3) := by decide +kernel
theorem d5_37 : decode prog_25_method_2_code 37 = .ok (.areturn, 1) := by decide +kernel
theorem pn_5 : plainFor (⟨"com/example/tillbeat/tillbeat/model/TextRule", "atMost", "(I)Lcom/example/tillbeat/tillbeat/model/TextRule;"⟩ : MethodName) = true := by first | (apply plainFor_of_name; simp [plainName, overriddenIn]; done) | (apply plainFor_of_name; decide +kernel) | decide +kernel
theorem pd_5 : parseMethodDescriptor "(I)Lcom/example/tillbeat/tillbeat/model/TextRule;" = some ⟨[.int], (some (.object "com/example/tillbeat/tillbeat/model/TextRule"))⟩ := by decide +kernel
theorem d35_0 : decode prog_25_method_1_code 0 = .ok (.aload_n 0, 1) := by decide +kernel
theorem d35_1 : decode prog_25_method_1_code 1 = .ok (.invokespecial 1, 3) := by decide +kernel
theorem d35_4 : decode prog_25_method_1_code 4 = .ok (.aload_n 0, 1) := by decide +kernel
theorem d35_5 : decode prog_25_method_1_code 5 = .ok (.aload_n 1, 1) := by decide +kernel
theorem d35_6 : decode prog_25_method_1_code 6 = .ok (.ldc 7, 2) := by decide +kernel
theorem d35_8 : decode prog_25_method_1_code 8 = .ok (.invokestatic 9, 3) := by decide +kernel
theorem d35_11 : decode prog_25_method_1_code 11 = .ok (.checkcast 15, 3) := by decide +kernel
theorem d35_14 : decode prog_25_method_1_code 14 = .ok (.putfield 17, 3) := by decide +kernel
theorem d35_17 : decode prog_25_method_1_code 17 = .ok (.aload_n 0, 1) := by decide +kernel
theorem d35_18 : decode prog_25_method_1_code 18 = .ok (.aload_n 2, 1) := by decide +kernel
theorem d35_19 : decode prog_25_method_1_code 19 = .ok (.ldc 22, 2) := by decide +kernel
theorem d35_21 : decode prog_25_method_1_code 21 = .ok (.invokestatic 9, 3) := by decide +kernel
theorem d35_24 : decode prog_25_method_1_code 24 = .ok (.checkcast 24, 3) := by decide +kernel
theorem d35_27 : decode prog_25_method_1_code 27 = .ok (.putfield 26, 3) := by decide +kernel
theorem d35_30 : decode prog_25_method_1_code 30 = .ok (.return_, 1) := by decide +kernel
theorem pn_35 : plainFor (⟨"com/example/tillbeat/tillbeat/model/TextRule", "<init>", "(Ljava/util/function/Predicate;Ljava/lang/String;)V"⟩ : MethodName) = true := by first | (apply plainFor_of_name; simp [plainName, overriddenIn]; done) | (apply plainFor_of_name; decide +kernel) | decide +kernel
theorem pd_35 : parseMethodDescriptor "(Ljava/util/function/Predicate;Ljava/lang/String;)V" = some ⟨[(.object "java/util/function/Predicate"), (.object "java/lang/String")], none⟩ := by decide +kernel
theorem d36_0 : decode jdk_31_method_11_code 0 = .ok (.aload_n 0, 1) := by decide +kernel
theorem d36_1 : decode jdk_31_method_11_code 1 = .ok (.ifnonnull 12, 3) := by decide +kernel
theorem d36_4 : decode jdk_31_method_11_code 4 = .ok (.new 84, 3) := by decide +kernel
theorem d36_7 : decode jdk_31_method_11_code 7 = .ok (.dup, 1) := by decide +kernel
theorem d36_8 : decode jdk_31_method_11_code 8 = .ok (.aload_n 1, 1) := by decide +kernel
theorem d36_9 : decode jdk_31_method_11_code 9 = .ok (.invokespecial 87, 3) := by decide +kernel
theorem d36_12 : decode jdk_31_method_11_code 12 = .ok (.athrow, 1) := by decide +kernel
theorem d36_13 : decode jdk_31_method_11_code 13 = .ok (.aload_n 0, 1) := by decide +kernel
theorem d36_14 : decode jdk_31_method_11_code 14 = .ok (.areturn, 1) := by decide +kernel
theorem pn_36 : plainFor (⟨"java/util/Objects", "requireNonNull", "(Ljava/lang/Object;Ljava/lang/String;)Ljava/lang/Object;"⟩ : MethodName) = true := by first | (apply plainFor_of_name; simp [plainName, overriddenIn]; done) | (apply plainFor_of_name; decide +kernel) | decide +kernel
theorem pd_36 : parseMethodDescriptor "(Ljava/lang/Object;Ljava/lang/String;)Ljava/lang/Object;" = some ⟨[(.object "java/lang/Object"), (.object "java/lang/String")], (some (.object "java/lang/Object"))⟩ := by decide +kernel
theorem d37_0 : decode prog_25_method_7_code 0 = .ok (.aload_n 0, 1) := by decide +kernel
theorem d37_1 : decode prog_25_method_7_code 1 = .ok (.getfield 17, 3) := by decide +kernel
theorem d37_4 : decode prog_25_method_7_code 4 = .ok (.aload_n 1, 1) := by decide +kernel
theorem d37_5 : decode prog_25_method_7_code 5 = .ok (.invokeinterface 95 2, 5) := by decide +kernel
theorem d37_10 : decode prog_25_method_7_code 10 = .ok (.ireturn, 1) := by decide +kernel
theorem pn_37 : plainFor (⟨"com/example/tillbeat/tillbeat/model/TextRule", "allows", "(Ljava/lang/String;)Z"⟩ : MethodName) = true := by first | (apply plainFor_of_name; simp [plainName, overriddenIn]; done) | (apply plainFor_of_name; decide +kernel) | decide +kernel
theorem pd_37 : parseMethodDescriptor "(Ljava/lang/String;)Z" = some ⟨[(.object "java/lang/String")], (some .boolean)⟩ := by decide +kernel
theorem d38_0 : decode prog_25_method_12_code 0 = .ok (.aload_n 1, 1) := by decide +kernel
theorem d38_1 : decode prog_25_method_12_code 1 = .ok (.invokestatic 105, 3) := by decide +kernel
theorem d38_4 : decode prog_25_method_12_code 4 = .ok (.iload_n 0, 1) := by decide +kernel
theorem d38_5 : decode prog_25_method_12_code 5 = .ok (.if_icmp .gt 7, 3) := by decide +kernel
theorem d38_8 : decode prog_25_method_12_code 8 = .ok (.iconst 1, 1) := by decide +kernel
theorem d38_9 : decode prog_25_method_12_code 9 = .ok (.goto 4, 3) := by decide +kernel
theorem d38_12 : decode prog_25_method_12_code 12 = .ok (.iconst 0, 1) := by decide +kernel
theorem d38_13 : decode prog_25_method_12_code 13 = .ok (.ireturn, 1) := by decide +kernel
theorem pn_38 : plainFor (⟨"com/example/tillbeat/tillbeat/model/TextRule", "lambda$atMost$0", "(ILjava/lang/String;)Z"⟩ : MethodName) = true := by first | (apply plainFor_of_name; simp [plainName, overriddenIn]; done) | (apply plainFor_of_name; decide +kernel) | decide +kernel
theorem pd_38 : parseMethodDescriptor "(ILjava/lang/String;)Z" = some ⟨[.int, (.object "java/lang/String")], (some .boolean)⟩ := by decide +kernel
theorem d39_0 : decode prog_25_method_9_code 0 = .ok (.aload_n 0, 1) := by decide +kernel
theorem d39_1 : decode prog_25_method_9_code 1 = .ok (.iconst 0, 1) := by decide +kernel
theorem d39_2 : decode prog_25_method_9_code 2 = .ok (.aload_n 0, 1) := by decide +kernel
theorem d39_3 : decode prog_25_method_9_code 3 = .ok (.invokevirtual 98, 3) := by decide +kernel
theorem d39_6 : decode prog_25_method_9_code 6 = .ok (.invokevirtual 101, 3) := by decide +kernel
theorem d39_9 : decode prog_25_method_9_code 9 = .ok (.ireturn, 1) := by decide +kernel
theorem pn_39 : plainFor (⟨"com/example/tillbeat/tillbeat/model/TextRule", "characters", "(Ljava/lang/String;)I"⟩ : MethodName) = true := by first | (apply plainFor_of_name; simp [plainName, overriddenIn]; done) | (apply plainFor_of_name; decide +kernel) | decide +kernel
theorem pd_39 : parseMethodDescriptor "(Ljava/lang/String;)I" = some ⟨[(.object "java/lang/String")], (some .int)⟩ := by decide +kernel
abbrev own_σ : Lambda.Shape := Lambda.Shape.mk "java/util/function/Predicate" "test" (MethodDescriptor.mk [FieldType.object "java/lang/Object"] (some FieldType.boolean)) [FieldType.int] 6 "com/example/tillbeat/tillbeat/model/TextRule" "lambda$atMost$0" (MethodDescriptor.mk [FieldType.int, FieldType.object "java/lang/String"] (some FieldType.boolean)) false (MethodDescriptor.mk [FieldType.object "java/lang/String"] (some FieldType.boolean))
def own_fcode : ByteArray := ⟨#[0x2a, 0xb4, 0x00, 0x0f, 0x2b, 0xc0, 0x00, 0x13, 0xb8, 0x00, 0x19, 0xac]⟩
theorem own_fwd : Jvm.LamKit.fwdOK own_σ "com/example/tillbeat/tillbeat/model/TextRule" own_fcode 2 (some .boolean) 25 21 = true := by decide +kernel
theorem own_cast : castOK own_σ "com/example/tillbeat/tillbeat/model/TextRule" "java/lang/String" 19 = true := by decide +kernel
theorem own_pdI : parseMethodDescriptor "(Ljava/lang/Object;)Z" = some ⟨[.object "java/lang/Object"], some .boolean⟩ := by decide +kernel
theorem own_cap0 : Jvm.LamKit.capOK own_σ "com/example/tillbeat/tillbeat/model/TextRule" 15 0 = true := by decide +kernel
theorem own_f0 : decode own_fcode 0 = .ok (.aload_n 0, 1) := by decide +kernel
theorem own_f1 : decode own_fcode 1 = .ok (.getfield 15, 3) := by decide +kernel
theorem own_f4 : decode own_fcode 4 = .ok (.aload_n 1, 1) := by decide +kernel
theorem own_f5 : decode own_fcode 5 = .ok (.checkcast 19, 3) := by decide +kernel
theorem own_f8 : decode own_fcode 8 = .ok (.invokestatic 25, 3) := by decide +kernel
theorem own_f11 : decode own_fcode 11 = .ok (.ireturn, 1) := by decide +kernel
theorem own_avne {Z : State} {h : Heap} {a b : Addr} {ty ty' : FieldType} {vs ws : List Value} (A : Av Z h a ty vs) (B : Av Z h b ty' ws) (q : vs ≠ ws) : a ≠ b := fun e => by
  subst e
  obtain ⟨c, ⟨h1, -⟩, rfl⟩ := A
  obtain ⟨c', ⟨g1, -⟩, rfl⟩ := B
  cases h1.symm.trans g1
  exact q rfl
theorem own_avneL {Z : State} {h : Heap} {a b : Addr} {ty ty' : FieldType} {vs ws : List Value} (A : Av Z h a ty vs) (B : Av Z h b ty' ws) (q : vs.length ≠ ws.length) : a ≠ b := own_avne A B (fun e => q (by rw [e]))
theorem own_Frle {n k : Nat} {L : List Loc} (h : Fr n L) (q : k ≤ n) : Fr k L := fun y hy => Nat.le_trans q (h y hy)
theorem own_Llit (s : List Int32) (hs : ∀ c ∈ s, 0 ≤ c.toInt ∧ c.toInt < 128) : own_L (s.map Value.int) s := by
  refine ⟨by simp, fun j c hj hc => ?_⟩
  have q := hs c (List.mem_of_getElem? hc)
  rw [own_mapat hc, own_lod q]
  refine ⟨rfl, ?_⟩
  rw [Int32.lt_iff_toInt_lt]
  have k : (255 : Int32).toInt = 255 := by decide
  omega
theorem own_fit1 {x : Int32} : ∀ (i : Nat) (t : FieldType) (v : Value), ([FieldType.int] : List FieldType)[i]? = some t → [Value.int x][i]? = some v → narrow t v = v ∧ fits t v = true := by
  intro i t v a b
  match i with
  | 0 => cases a; cases b; exact ⟨rfl, rfl⟩
  | n + 1 => simp at a
theorem own_fit2 {x y : Int32} : ∀ (i : Nat) (t : FieldType) (v : Value), ([FieldType.int, FieldType.int] : List FieldType)[i]? = some t → [Value.int x, Value.int y][i]? = some v → narrow t v = v ∧ fits t v = true := by
  intro i t v a b
  match i with
  | 0 => cases a; cases b; exact ⟨rfl, rfl⟩
  | 1 => cases a; cases b; exact ⟨rfl, rfl⟩
  | n + 2 => simp at a
theorem own_bool {P : Prop} [Decidable P] : narrow .boolean (.int (if P then 1 else 0)) = .int (if P then 1 else 0) := by split <;> rfl

set_option maxRecDepth 65536 in
set_option maxHeartbeats 40000000 in
theorem rT_rn (l : Launch) (Z : State) (ag : Array Value) (hw : ∀ d ∈ tables_1, d.before ag Z = true) (a b : Addr) (h0 : Heap) (n0 : Nat)  :
    Ctr l Z (⟨"java/util/Objects", "requireNonNull", "(Ljava/lang/Object;Ljava/lang/String;)Ljava/lang/Object;"⟩ : MethodName) jdk_31_method_11_code 2 (some (.object "java/lang/Object")) ({ frames := 0, cells := 0, slots := 0, locals := 0 } : Room) #[.ref a, .ref b] h0 (fun v h L => v = some (.ref a) ∧ Fr n0 L ∧ h0 = h) := by
  refine Ctr.of pn_36 ?_
  intro p e s m below meth c T0 X0 B e0
  refine Go.cast (f' := mkF m 0 #[.val (.ref a), .val (.ref b)] []) (by first | rfl | (simp [entryFrame, mkF, argsToLocals, Value.category, maxLocals]; done)) ?_

  refine g_aloadN X0 B d36_0 1 rfl rfl rfl ?_
  refine g_ifnonnull X0 B d36_1 13 4 rfl (by decide) rfl rfl (fun _ => ?_) (fun z => own_abs' (fun z => nomatch z) z)
  refine g_aloadN X0 B d36_13 14 rfl rfl rfl ?_
  exact g_retA X0 B d36_14 rfl rfl rfl (by decide) (by decide) e0 ⟨rfl, (Fr.nil n0), rfl⟩
set_option maxRecDepth 65536 in
set_option maxHeartbeats 40000000 in
theorem rT_ini (l : Launch) (Z : State) (ag : Array Value) (hw : ∀ d ∈ tables_1, d.before ag Z = true) (tr fo rq : Addr) (cK : ClassId) (u0 : Int32) (Ts : List String) (h0 : Heap) (n0 : Nat) (Z0 : n0 ≤ h0.size) (ga : n0 ≤ tr) (Et : Exa Z h0 tr "com/example/tillbeat/tillbeat/model/TextRule") (F1 : Fld Z h0 tr "com/example/tillbeat/tillbeat/model/TextRule" "test" "Ljava/util/function/Predicate;" (.null)) (F2 : Fld Z h0 tr "com/example/tillbeat/tillbeat/model/TextRule" "requirement" "Ljava/lang/String;" (.null)) (FF : Cel h0 fo { cls := cK, slots := #[.int u0], vm := .none }) (hmd : Jvm.LamKit.Made Z "com/example/tillbeat/tillbeat/model/TextRule" own_σ cK) (Eq : Exa Z h0 rq "java/lang/String") :
    CtrW l Z (⟨"com/example/tillbeat/tillbeat/model/TextRule", "<init>", "(Ljava/util/function/Predicate;Ljava/lang/String;)V"⟩ : MethodName) prog_25_method_1_code 3 none ({ frames := 1, cells := 4, slots := 68, locals := 14 } : Room) #[.ref tr, .ref fo, .ref rq] h0 Ts (fun v h vm L => v = none ∧ Fr n0 L ∧ Keep h0 h [tr] ∧ Fld Z h tr "com/example/tillbeat/tillbeat/model/TextRule" "test" "Ljava/util/function/Predicate;" (.ref fo) ∧ Fld Z h tr "com/example/tillbeat/tillbeat/model/TextRule" "requirement" "Ljava/lang/String;" (.ref rq)) := by
  refine CtrW.of pn_35 ?_
  intro p e s m below meth c T0 X0 B e0 hs0 hS I
  refine Go.cast (f' := mkF m 0 #[.val (.ref tr), .val (.ref fo), .val (.ref rq)] []) (by first | rfl | (simp [entryFrame, mkF, argsToLocals, Value.category, maxLocals]; done)) ?_

  refine g_aloadN X0 B d35_0 1 rfl rfl rfl ?_
  obtain ⟨T1, X1, e1, st1⟩ := initO X0 B.x B.z B.o (hw _ (List.mem_of_getElem? (i := 188) rfl)) (hw _ (List.mem_of_getElem? (i := 17) rfl)) (hw _ (List.mem_of_getElem? (i := 18) rfl)) e0 (g := mkF m 1 #[.val (.ref tr), .val (.ref fo), .val (.ref rq)] [.ref tr]) rfl (B.mx rfl) rfl (B.d d35_1) (by decide) (W := 0) (by show 2 * 0 + _ ≤ _; exact Nat.le_of_eq rfl) (by decide)
  refine Go.via st1 ?_
  show Go p e below _ (T1.setTop (mkF m 4 #[.val (.ref tr), .val (.ref fo), .val (.ref rq)] []))
  refine g_aloadN X1 B d35_4 5 rfl rfl rfl ?_
  refine g_aloadN X1 B d35_5 6 rfl rfl rfl ?_
  refine g_ldcP X1 B 16 d35_6 8 rfl (hw _ (List.mem_of_getElem? (i := 189) rfl)) (own_wS hw) e1 hS (Nat.zero_le _) (by decide) (by decide) (by decide) (by decide) (fun m1 T2 h2 X2 B e2 E2 hS => ?_)
  have kk2 : h2.size ≤ h2.size := Nat.le_refl _
  refine g_callS X2 B [.ref fo, .ref m1] [.ref tr] d35_8 11 rfl rfl (hw _ (List.mem_of_getElem? (i := 190) rfl)) (hw _ (List.mem_of_getElem? (i := 191) rfl)) (hw _ (List.mem_of_getElem? (i := 192) rfl)) (hw _ (List.mem_of_getElem? (i := 193) rfl)) (by decide) (lenOf pd_36 rfl) (rT_rn l Z ag hw fo m1 h2 n0) e2 rfl 1 (Nat.le_of_eq rfl) (by decide) (by decide) (by decide) (by decide) (fun v3 T3 h3 L3 X3 e3 q3 => ?_)
  obtain ⟨rfl, N3, rfl⟩ := q3
  show Go p e below _ (T3.setTop (mkF m 11 #[.val (.ref tr), .val (.ref fo), .val (.ref rq)] [.ref fo, .ref tr]))
  have t1 := (Cel.ext FF E2)
  refine g_cast X3 B d35_11 14 rfl (hw _ (List.mem_of_getElem? (i := 194) rfl)) e3 (own_insFn hmd t1) (fun T4 X4 e4 => ?_)
  have t2 := (Fld.ext E2 F1)
  have t3 := (Exa.ext E2 Et)
  refine g_putF X4 B d35_14 17 rfl (hw _ (List.mem_of_getElem? (i := 195) rfl)) Via.refl e4 t2 t3 (Or.inr ⟨(hw _ (List.mem_of_getElem? (i := 196) rfl)), rfl, rfl⟩) (hw _ (List.mem_of_getElem? (i := 32) rfl)) (ty := (.object "java/util/function/Predicate")) (by decide) rfl rfl (fun T5 h5 X5 e5 W5 => ?_)
  have F5 := t2.same W5
  refine g_aloadN X5 B d35_17 18 rfl rfl rfl ?_
  refine g_aloadN X5 B d35_18 19 rfl rfl rfl ?_
  have t4 := (Nat.le_trans kk2 (Nat.le_of_eq W5.size.symm))
  refine g_ldcP X5 B 44 d35_19 21 rfl (hw _ (List.mem_of_getElem? (i := 197) rfl)) (own_wS hw) e5 hS t4 (by decide) (by decide) (by decide) (by decide) (fun m2 T6 h6 X6 B e6 E6 hS => ?_)
  have kk6 : h6.size ≤ h6.size := Nat.le_refl _
  refine g_callS X6 B [.ref rq, .ref m2] [.ref tr] d35_21 24 rfl rfl (hw _ (List.mem_of_getElem? (i := 190) rfl)) (hw _ (List.mem_of_getElem? (i := 191) rfl)) (hw _ (List.mem_of_getElem? (i := 192) rfl)) (hw _ (List.mem_of_getElem? (i := 193) rfl)) (by decide) (lenOf pd_36 rfl) (rT_rn l Z ag hw rq m2 h6 n0) e6 rfl 1 (Nat.le_of_eq rfl) (by decide) (by decide) (by decide) (by decide) (fun v7 T7 h7 L7 X7 e7 q7 => ?_)
  obtain ⟨rfl, N7, rfl⟩ := q7
  show Go p e below _ (T7.setTop (mkF m 24 #[.val (.ref tr), .val (.ref fo), .val (.ref rq)] [.ref rq, .ref tr]))
  have t5 := (Exa.ext E6 (Exa.wr W5 (Exa.ext E2 Eq)))
  refine g_cast X7 B d35_24 27 rfl (hw _ (List.mem_of_getElem? (i := 198) rfl)) e7 (Ins.self t5) (fun T8 X8 e8 => ?_)
  have t6 := (Fld.ext E6 (Fld.other W5 (Fld.ext E2 F2) (Or.inr (slot_ne (Or.inr (hw _ (List.mem_of_getElem? (i := 200) rfl))) (Or.inr (hw _ (List.mem_of_getElem? (i := 196) rfl))) (by decide) (t := (.object "java/lang/String")) (by decide) (t' := (.object "java/util/function/Predicate")) (by decide)))))
  have t7 := (Exa.ext E6 (Exa.wr W5 t3))
  refine g_putF X8 B d35_27 30 rfl (hw _ (List.mem_of_getElem? (i := 199) rfl)) Via.refl e8 t6 t7 (Or.inr ⟨(hw _ (List.mem_of_getElem? (i := 200) rfl)), rfl, rfl⟩) (hw _ (List.mem_of_getElem? (i := 32) rfl)) (ty := (.object "java/lang/String")) (by decide) rfl rfl (fun T9 h9 X9 e9 W9 => ?_)
  have F9 := t6.same W9
  have t8 := (Keep.wr (Keep.ext (Keep.wr (Keep.ext (Keep.refl h0 [tr]) E2) W5 (Or.inl (List.mem_of_getElem? (i := 0) rfl))) E6) W9 (Or.inl (List.mem_of_getElem? (i := 0) rfl)))
  have t9 := (Fld.other W9 (Fld.ext E6 F5) (Or.inr (slot_ne (Or.inr (hw _ (List.mem_of_getElem? (i := 196) rfl))) (Or.inr (hw _ (List.mem_of_getElem? (i := 200) rfl))) (by decide) (t := (.object "java/util/function/Predicate")) (by decide) (t' := (.object "java/lang/String")) (by decide))))
  have t10 := (Nat.le_trans kk6 (Nat.le_of_eq W9.size.symm))
  exact g_retVW X9 B d35_30 rfl (by decide) (by decide) e9 hS t10 (fun vm hvm => ⟨rfl, (Fr.snoc X9 ((Fr.snoc X5 ((Fr.nil n0).app N3) ga).app N7) ga), t8, t9, F9⟩)
set_option maxRecDepth 65536 in
set_option maxHeartbeats 40000000 in
theorem rT_chr (l : Launch) (Z : State) (ag : Array Value) (hw : ∀ d ∈ tables_1, d.before ag Z = true) (a b : Addr) (k cx : Int32) (vs : List Value) (cs : List Int32) (h0 : Heap) (n0 : Nat) (Ea : Exa Z h0 a "java/lang/String") (FV : Fld Z h0 a "java/lang/String" "value" "[B" (.ref b)) (FC : Fld Z h0 a "java/lang/String" "coder" "B" (.int k)) (Ab : Av Z h0 b .byte vs) (hn : cs.length ≤ 4) (hcs : ∀ c ∈ cs, own_ch c) (hSV : own_SV k vs cs) (SA : Sta Z h0 "java/lang/StringUTF16" "$assertionsDisabled" "Z" (.int 1)) (SH : Sta Z h0 "java/lang/StringUTF16" "HI_BYTE_SHIFT" "I" (.int 0)) (SLo : Sta Z h0 "java/lang/StringUTF16" "LO_BYTE_SHIFT" "I" (.int 8)) (SC : Sta Z h0 "java/lang/String" "COMPACT_STRINGS" "Z" (.int cx)) (hcx : ¬ cx = 0) :
    Ctr l Z (⟨"com/example/tillbeat/tillbeat/model/TextRule", "characters", "(Ljava/lang/String;)I"⟩ : MethodName) prog_25_method_9_code 1 (some .int) ({ frames := 4, cells := 0, slots := 0, locals := 62 } : Room) #[.ref a] h0 (fun v h L => v = some (.int (Int32.ofNat (cs.length - own_ps cs (cs.length - 1)))) ∧ Fr n0 L ∧ h0 = h) := by
  refine Ctr.of pn_39 ?_
  intro p e s m below meth c T0 X0 B e0
  refine Go.cast (f' := mkF m 0 #[.val (.ref a)] []) (by first | rfl | (simp [entryFrame, mkF, argsToLocals, Value.category, maxLocals]; done)) ?_

  refine g_aloadN X0 B d39_0 1 rfl rfl rfl ?_
  refine g_iconst X0 B (0) d39_1 2 rfl rfl ?_
  refine g_aloadN X0 B d39_2 3 rfl rfl rfl ?_
  refine g_callV X0 B [] [.int (0 : Int32), .ref a] d39_3 6 rfl rfl (hw _ (List.mem_of_getElem? (i := 214) rfl)) (hw _ (List.mem_of_getElem? (i := 67) rfl)) (hw _ (List.mem_of_getElem? (i := 69) rfl)) (hw _ (List.mem_of_getElem? (i := 68) rfl)) (hw _ (List.mem_of_getElem? (i := 7) rfl)) (hw _ (List.mem_of_getElem? (i := 70) rfl)) (by decide) (lenOf pd_10 rfl) Ea (rS_len l Z ag hw a b k cx vs cs h0 n0 Ea FV FC Ab hn hSV SC hcx) e0 rfl 2 (Nat.le_of_eq rfl) (by decide) (by decide) (by decide) (by decide) (fun v1 T1 h1 L1 X1 e1 q1 => ?_)
  obtain ⟨rfl, N1, rfl⟩ := q1
  show Go p e below _ (T1.setTop (mkF m 6 #[.val (.ref a)] [.int (Int32.ofNat cs.length), .int (0 : Int32), .ref a]))
  refine g_callV X1 B [.int (0 : Int32), .int (Int32.ofNat cs.length)] [] d39_6 9 rfl rfl (hw _ (List.mem_of_getElem? (i := 215) rfl)) (hw _ (List.mem_of_getElem? (i := 216) rfl)) (hw _ (List.mem_of_getElem? (i := 218) rfl)) (hw _ (List.mem_of_getElem? (i := 217) rfl)) (hw _ (List.mem_of_getElem? (i := 7) rfl)) (hw _ (List.mem_of_getElem? (i := 219) rfl)) (by decide) (lenOf pd_40 rfl) Ea (rC_c2 l Z ag hw a b k cx vs cs cs.length h0 n0 Ea FV FC Ab hn (Nat.le_refl _) hcs hSV SA SH SLo SC hcx) e1 rfl 0 (Nat.le_of_eq rfl) (by decide) (by decide) (by decide) (by decide) (fun v2 T2 h2 L2 X2 e2 q2 => ?_)
  obtain ⟨rfl, N2, rfl⟩ := q2
  show Go p e below _ (T2.setTop (mkF m 9 #[.val (.ref a)] [.int (Int32.ofNat (cs.length - own_ps cs (cs.length - 1)))]))
  exact g_retI X2 B d39_9 rfl (by decide) (by decide) e2 ⟨rfl, (((Fr.nil n0).app N1).app N2), rfl⟩
set_option maxRecDepth 65536 in
set_option maxHeartbeats 40000000 in
theorem rT_lam (l : Launch) (Z : State) (ag : Array Value) (hw : ∀ d ∈ tables_1, d.before ag Z = true) (a b : Addr) (k cx : Int32) (vs : List Value) (cs : List Int32) (u0 : Int32) (h0 : Heap) (n0 : Nat) (Ea : Exa Z h0 a "java/lang/String") (FV : Fld Z h0 a "java/lang/String" "value" "[B" (.ref b)) (FC : Fld Z h0 a "java/lang/String" "coder" "B" (.int k)) (Ab : Av Z h0 b .byte vs) (hn : cs.length ≤ 4) (hcs : ∀ c ∈ cs, own_ch c) (hSV : own_SV k vs cs) (SA : Sta Z h0 "java/lang/StringUTF16" "$assertionsDisabled" "Z" (.int 1)) (SH : Sta Z h0 "java/lang/StringUTF16" "HI_BYTE_SHIFT" "I" (.int 0)) (SLo : Sta Z h0 "java/lang/StringUTF16" "LO_BYTE_SHIFT" "I" (.int 8)) (SC : Sta Z h0 "java/lang/String" "COMPACT_STRINGS" "Z" (.int cx)) (hcx : ¬ cx = 0) :
    Ctr l Z (⟨"com/example/tillbeat/tillbeat/model/TextRule", "lambda$atMost$0", "(ILjava/lang/String;)Z"⟩ : MethodName) prog_25_method_12_code 2 (some .boolean) ({ frames := 5, cells := 0, slots := 0, locals := 80 } : Room) #[.int u0, .ref a] h0 (fun v h L => (v = some (.int (if ¬ u0 < (Int32.ofNat (cs.length - own_ps cs (cs.length - 1))) then (1 : Int32) else 0)) ∧ h0 = h) ∧ Fr n0 L) := by
  refine Ctr.of pn_38 ?_
  intro p e s m below meth c T0 X0 B e0
  refine Go.cast (f' := mkF m 0 #[.val (.int u0), .val (.ref a)] []) (by first | rfl | (simp [entryFrame, mkF, argsToLocals, Value.category, maxLocals]; done)) ?_

  refine g_aloadN X0 B d38_0 1 rfl rfl rfl ?_
  refine g_callS X0 B [.ref a] [] d38_1 4 rfl rfl (hw _ (List.mem_of_getElem? (i := 211) rfl)) (hw _ (List.mem_of_getElem? (i := 212) rfl)) (hw _ (List.mem_of_getElem? (i := 29) rfl)) (hw _ (List.mem_of_getElem? (i := 213) rfl)) (by decide) (lenOf pd_39 rfl) (rT_chr l Z ag hw a b k cx vs cs h0 n0 Ea FV FC Ab hn hcs hSV SA SH SLo SC hcx) e0 rfl 0 (Nat.le_of_eq rfl) (by decide) (by decide) (by decide) (by decide) (fun v1 T1 h1 L1 X1 e1 q1 => ?_)
  obtain ⟨rfl, N1, rfl⟩ := q1
  show Go p e below _ (T1.setTop (mkF m 4 #[.val (.int u0), .val (.ref a)] [.int (Int32.ofNat (cs.length - own_ps cs (cs.length - 1)))]))
  refine g_iloadN X1 B d38_4 5 rfl rfl ?_
  refine g_icmp_gt X1 B d38_5 12 8 rfl (by decide) rfl (fun c2 => ?_) (fun c2 => ?_)
  · skip
    refine g_iconst X1 B (0) d38_12 13 rfl rfl ?_
    exact g_retN X1 B d38_13 rfl rfl (by decide) (by decide) (by decide) e1 ⟨⟨by rw [if_neg (fun z => z c2)], rfl⟩, ((Fr.nil n0).app N1)⟩
  · skip
    refine g_iconst X1 B (1) d38_8 9 rfl rfl ?_
    refine g_goto X1 B d38_9 13 rfl (by decide) ?_
    exact g_retN X1 B d38_13 rfl rfl (by decide) (by decide) (by decide) e1 ⟨⟨by rw [if_pos c2], rfl⟩, ((Fr.nil n0).app N1)⟩
set_option maxRecDepth 65536 in
set_option maxHeartbeats 40000000 in
theorem rT_alw (l : Launch) (Z : State) (ag : Array Value) (hw : ∀ d ∈ tables_1, d.before ag Z = true) (a b : Addr) (k cx : Int32) (vs : List Value) (cs : List Int32) (tr fo : Addr) (cK : ClassId) (u0 : Int32) (h0 : Heap) (n0 : Nat) (F1 : Fld Z h0 tr "com/example/tillbeat/tillbeat/model/TextRule" "test" "Ljava/util/function/Predicate;" (.ref fo)) (FF : Cel h0 fo { cls := cK, slots := #[.int u0], vm := .none }) (hmd : Jvm.LamKit.Made Z "com/example/tillbeat/tillbeat/model/TextRule" own_σ cK) (Ea : Exa Z h0 a "java/lang/String") (FV : Fld Z h0 a "java/lang/String" "value" "[B" (.ref b)) (FC : Fld Z h0 a "java/lang/String" "coder" "B" (.int k)) (Ab : Av Z h0 b .byte vs) (hn : cs.length ≤ 4) (hcs : ∀ c ∈ cs, own_ch c) (hSV : own_SV k vs cs) (SA : Sta Z h0 "java/lang/StringUTF16" "$assertionsDisabled" "Z" (.int 1)) (SH : Sta Z h0 "java/lang/StringUTF16" "HI_BYTE_SHIFT" "I" (.int 0)) (SLo : Sta Z h0 "java/lang/StringUTF16" "LO_BYTE_SHIFT" "I" (.int 8)) (SC : Sta Z h0 "java/lang/String" "COMPACT_STRINGS" "Z" (.int cx)) (hcx : ¬ cx = 0) :
    Ctr l Z (⟨"com/example/tillbeat/tillbeat/model/TextRule", "allows", "(Ljava/lang/String;)Z"⟩ : MethodName) prog_25_method_7_code 2 (some .boolean) ({ frames := 7, cells := 0, slots := 0, locals := 120 } : Room) #[.ref tr, .ref a] h0 (fun v h L => v = some (.int (if ¬ u0 < (Int32.ofNat (cs.length - own_ps cs (cs.length - 1))) then (1 : Int32) else 0)) ∧ Fr n0 L ∧ h0 = h) := by
  refine Ctr.of pn_37 ?_
  intro p e s m below meth c T0 X0 B e0
  refine Go.cast (f' := mkF m 0 #[.val (.ref tr), .val (.ref a)] []) (by first | rfl | (simp [entryFrame, mkF, argsToLocals, Value.category, maxLocals]; done)) ?_

  refine g_aloadN X0 B d37_0 1 rfl rfl rfl ?_
  refine g_getF X0 B d37_1 4 rfl (hw _ (List.mem_of_getElem? (i := 195) rfl)) Via.refl e0 F1 (fun T1 X1 e1 => ?_)
  refine g_aloadN X1 B d37_4 5 rfl rfl rfl ?_
  refine g_callLam X1 B (xi := ⟨"java/util/function/Predicate", "test", "(Ljava/lang/Object;)Z"⟩) (y := ⟨"com/example/tillbeat/tillbeat/model/TextRule", "lambda$atMost$0", "(ILjava/lang/String;)Z"⟩) (host := "com/example/tillbeat/tillbeat/model/TextRule") (σ := own_σ) (Q := fun v h => v = some (.int (if ¬ u0 < (Int32.ofNat (cs.length - own_ps cs (cs.length - 1))) then (1 : Int32) else 0)) ∧ h0 = h) (n0 := n0) d37_5 10 rfl [.ref a] [.int u0, .ref a] [] rfl (hw _ (List.mem_of_getElem? (i := 206) rfl)) (hw _ (List.mem_of_getElem? (i := 207) rfl)) (by first | rfl | decide | simp [Cond.onTables, Cond.keepsFace, Cond.keeps, Cond.steady]) (hw _ (List.mem_of_getElem? (i := 208) rfl)) (hw _ (List.mem_of_getElem? (i := 210) rfl)) (hw _ (List.mem_of_getElem? (i := 209) rfl)) (hw _ (List.mem_of_getElem? (i := 29) rfl)) (by decide +kernel) (by decide +kernel) (by decide) (rT_lam l Z ag hw a b k cx vs cs u0 h0 n0 Ea FV FC Ab hn hcs hSV SA SH SLo SC hcx) hmd FF own_fwd own_f8 own_f11 (L0 := #[.val (.ref fo), .val (.ref a)]) (lenOf own_pdI rfl) (lenOf pd_38 rfl) (fun _ => rfl) rfl (fun U ck bl tg hU hck hh hWU kk => (XS.aloadN hU B.x rfl (hb hck own_f0) rfl rfl (own_capF B.x hU hWU hmd own_cap0 (hw _ (List.mem_of_getElem? (i := 36) rfl)) FF hh (v := .int u0) rfl rfl rfl (hb hck own_f1) (XS.aloadN hU B.x rfl (hb hck own_f4) rfl rfl (own_castF B.x hU hWU hmd own_cast Ea hh rfl rfl (hb hck own_f5) kk))))) (fun v h q => Or.inl ⟨_, _, rfl, Or.inr (Or.inl rfl), own_bool, rfl, q.1⟩) e1 rfl 0 (Nat.le_of_eq rfl) (by decide) (by decide) (by decide) (by decide) (fun v2 T2 h2 L2 X2 e2 q2 N2 => ?_)
  obtain ⟨rfl, rfl⟩ := q2
  show Go p e below _ (T2.setTop (mkF m 10 #[.val (.ref tr), .val (.ref a)] [.int (if ¬ u0 < (Int32.ofNat (cs.length - own_ps cs (cs.length - 1))) then (1 : Int32) else 0)]))
  exact g_retN X2 B d37_10 rfl own_bool (by decide) (by decide) (by decide) e2 ⟨rfl, ((Fr.nil n0).app N2), rfl⟩
--CHAIN
set_option maxRecDepth 65536 in
set_option maxHeartbeats 40000000 in
theorem rT_fac (l : Launch) (Z : State) (ag : Array Value) (hw : ∀ d ∈ tables_1, d.before ag Z = true) (u0 cx : Int32) (d1 d2 : Addr) (Ts : List String) (h0 : Heap) (n0 : Nat) (Z0 : n0 ≤ h0.size) (hn0 : h0.size ≤ n0) (SC : Sta Z h0 "java/lang/String" "COMPACT_STRINGS" "Z" (.int cx)) (hcx : ¬ cx = 0) (SD1 : Sta Z h0 "java/lang/Integer" "DigitOnes" "[B" (.ref d1)) (SD2 : Sta Z h0 "java/lang/Integer" "DigitTens" "[B" (.ref d2)) (AD1 : Av Z h0 d1 .byte own_ones) (AD2 : Av Z h0 d2 .byte own_tens) (hd1 : d1 < n0) (hd2 : d2 < n0) (OZ : ∀ (b : Addr) (cl : Cell), Z.heap[b]? = some cl → h0[b]? = some cl) (hH35 : Jvm.Lit.constHeld Z "com/example/tillbeat/tillbeat/model/TextRule" 35) (hH44 : Jvm.Lit.constHeld Z "com/example/tillbeat/tillbeat/model/TextRule" 44) (hcw : Jvm.Lit.compactW.before ag Z = true) (hT : ∀ t ∈ Ts, t = "") :
    CtrW l Z (⟨"com/example/tillbeat/tillbeat/model/TextRule", "atMost", "(I)Lcom/example/tillbeat/tillbeat/model/TextRule;"⟩ : MethodName) prog_25_method_2_code 1 (some (.object "com/example/tillbeat/tillbeat/model/TextRule")) ({ frames := 7, cells := 30, slots := 1000, locals := 3200 } : Room) #[.int u0] h0 Ts (fun v h vm L => ∃ tr fo cK rq rb ws, v = some (.ref tr) ∧ Fr n0 L ∧ Keep h0 h [] ∧ Exa Z h tr "com/example/tillbeat/tillbeat/model/TextRule" ∧ Fld Z h tr "com/example/tillbeat/tillbeat/model/TextRule" "test" "Ljava/util/function/Predicate;" (.ref fo) ∧ Cel h fo { cls := cK, slots := #[.int u0], vm := .none } ∧ Jvm.LamKit.Made Z "com/example/tillbeat/tillbeat/model/TextRule" own_σ cK ∧ Fld Z h tr "com/example/tillbeat/tillbeat/model/TextRule" "requirement" "Ljava/lang/String;" (.ref rq) ∧ Exa Z h rq "java/lang/String" ∧ Fld Z h rq "java/lang/String" "value" "[B" (.ref rb) ∧ Fld Z h rq "java/lang/String" "coder" "B" (.int 0) ∧ Av Z h rb .byte ws ∧ own_L ws (((([] : List Int32) ++ ([109, 117, 115, 116, 32, 98, 101, 32, 97, 116, 32, 109, 111, 115, 116, 32] : List Int32)) ++ own_dec u0) ++ ([32, 99, 104, 97, 114, 97, 99, 116, 101, 114, 115] : List Int32))) := by
  refine CtrW.ofN pn_5 ?_
  intro p e s m below meth c T0 X0 B e0 hs0 hS I hNm
  refine Go.cast (f' := mkF m 0 #[.val (.int u0)] []) (by first | rfl | (simp [entryFrame, mkF, argsToLocals, Value.category, maxLocals]; done)) ?_

  refine g_new X0 B d5_0 3 rfl (hw _ (List.mem_of_getElem? (i := 31) rfl)) (hw _ (List.mem_of_getElem? (i := 32) rfl)) (hw _ (List.mem_of_getElem? (i := 29) rfl)) e0 (by decide) (by decide) (fun T1 h1 tr X1 e1 ea1 E1 A1 D1 => ?_)
  have g_tr : n0 ≤ tr := ea1 ▸ Z0
  have gg_tr : h0.size ≤ tr := ea1 ▸ (Keep.refl h0 []).1
  have t1 : d1 ≠ tr := ea1 ▸ Nat.ne_of_lt (AD1.lt)
  have t2 : d2 ≠ tr := ea1 ▸ Nat.ne_of_lt (AD2.lt)
  have D1_0 : Fld Z h1 tr "com/example/tillbeat/tillbeat/model/TextRule" "test" "Ljava/util/function/Predicate;" (.null) := D1 (Or.inr (hw _ (List.mem_of_getElem? (i := 196) rfl))) (ty := (.object "java/util/function/Predicate")) (by decide)
  have D1_1 : Fld Z h1 tr "com/example/tillbeat/tillbeat/model/TextRule" "requirement" "Ljava/lang/String;" (.null) := D1 (Or.inr (hw _ (List.mem_of_getElem? (i := 200) rfl))) (ty := (.object "java/lang/String")) (by decide)
  refine g_dup X1 B d5_3 4 rfl rfl ?_
  refine g_iloadN X1 B d5_4 5 rfl rfl ?_
  refine g_site X1 B 15 (σ := own_σ) hNm d5_5 10 rfl (hw _ (List.mem_of_getElem? (i := 33) rfl)) (hw _ (List.mem_of_getElem? (i := 36) rfl)) (by decide) own_cap0 [.int u0] [.ref tr, .ref tr] 1 rfl rfl rfl own_fit1 e1 rfl 3 (Nat.le_of_eq rfl) (by decide) (by decide) (by decide) (fun cK T2 h2 fo X2 e2 ea2 E2 C2 hmd => ?_)
  have t3 := (Nat.le_trans Z0 E1.1)
  have t4 := (Keep.ext (Keep.refl h0 []) E1)
  have t5 := (Av.ext AD1 E1)
  have t6 := (Av.ext AD2 E1)
  have g_fo : n0 ≤ fo := ea2 ▸ t3
  have gg_fo : h0.size ≤ fo := ea2 ▸ t4.1
  have t7 : d1 ≠ fo := ea2 ▸ Nat.ne_of_lt (t5.lt)
  have t8 : d2 ≠ fo := ea2 ▸ Nat.ne_of_lt (t6.lt)
  have t9 : tr ≠ fo := ea2 ▸ Nat.ne_of_lt (A1.lt)
  refine g_new X2 B d5_10 13 rfl (hw _ (List.mem_of_getElem? (i := 37) rfl)) (hw _ (List.mem_of_getElem? (i := 38) rfl)) (hw _ (List.mem_of_getElem? (i := 39) rfl)) e2 (by decide) (by decide) (fun T3 h3 s1 X3 e3 ea3 E3 A3 D3 => ?_)
  have t10 := (Nat.le_trans t3 E2.1)
  have t11 := (Keep.ext t4 E2)
  have t12 := (Av.ext t5 E2)
  have t13 := (Av.ext t6 E2)
  have t14 := (Exa.ext E2 A1)
  have g_s1 : n0 ≤ s1 := ea3 ▸ t10
  have gg_s1 : h0.size ≤ s1 := ea3 ▸ t11.1
  have t15 : d1 ≠ s1 := ea3 ▸ Nat.ne_of_lt (t12.lt)
  have t16 : d2 ≠ s1 := ea3 ▸ Nat.ne_of_lt (t13.lt)
  have t17 : fo ≠ s1 := ea3 ▸ Nat.ne_of_lt (C2.lt)
  have t18 : tr ≠ s1 := ea3 ▸ Nat.ne_of_lt (t14.lt)
  have D3_0 : Fld Z h3 s1 "java/lang/AbstractStringBuilder" "value" "[B" (.null) := D3 (Or.inl (hw _ (List.mem_of_getElem? (i := 52) rfl))) (ty := (.array .byte)) (by decide)
  have D3_1 : Fld Z h3 s1 "java/lang/AbstractStringBuilder" "coder" "B" (.int 0) := D3 (Or.inl (hw _ (List.mem_of_getElem? (i := 54) rfl))) (ty := .byte) (by decide)
  have D3_2 : Fld Z h3 s1 "java/lang/AbstractStringBuilder" "count" "I" (.int 0) := D3 (Or.inl (hw _ (List.mem_of_getElem? (i := 78) rfl))) (ty := .int) (by decide)
  refine g_dup X3 B d5_13 14 rfl rfl ?_
  have t19 := (Av.ext t12 E3)
  have t20 := (Av.ext t13 E3)
  have t21 := (Cel.ext C2 E3)
  have t22 := (Exa.ext E3 t14)
  have t23 := (Nat.le_trans t10 E3.1)
  have t24 := (Sta.ext E3 (Sta.ext E2 (Sta.ext E1 SC)))
  refine g_callN X3 B [] [.ref s1, .ref fo, .ref tr, .ref tr] d5_14 17 rfl rfl rfl (hw _ (List.mem_of_getElem? (i := 40) rfl)) (hw _ (List.mem_of_getElem? (i := 41) rfl)) (hw _ (List.mem_of_getElem? (i := 42) rfl)) (hw _ (List.mem_of_getElem? (i := 39) rfl)) (by decide) (lenOf pd_6 rfl) (rB_ini l Z ag hw s1 cx h3 n0 t23 g_s1 A3 D3_0 D3_1 D3_2 t24 hcx) e3 rfl 4 (Nat.le_of_eq rfl) (by decide) (by decide) (by decide) (by decide) (fun v4 T4 h4 L4 X4 e4 q4 => ?_)
  obtain ⟨dA, rfl, N4, K4, fa4, fb4, fc4, fd4, fe4, ga4, gb4⟩ := q4
  show Go p e below _ (T4.setTop (mkF m 17 #[.val (.int u0)] [.ref s1, .ref fo, .ref tr, .ref tr]))
  have t25 : d1 ≠ dA := fun z => absurd (z ▸ t19.lt) (Nat.not_lt.mpr ga4)
  have t26 : d2 ≠ dA := fun z => absurd (z ▸ t20.lt) (Nat.not_lt.mpr ga4)
  have t27 : fo ≠ dA := fun z => absurd (z ▸ t21.lt) (Nat.not_lt.mpr ga4)
  have t28 : s1 ≠ dA := fun z => absurd (z ▸ A3.lt) (Nat.not_lt.mpr ga4)
  have t29 : tr ≠ dA := fun z => absurd (z ▸ t22.lt) (Nat.not_lt.mpr ga4)
  have lf4 : (List.replicate 16 (Value.int 0)).length = 16 := List.length_replicate ..
  have cb4 : 0 ≤ ([] : List Int32).length ∧ ([] : List Int32).length ≤ 0 := by decide
  refine g_ldcSW X4 B "must be at most " [.int 109, .int 117, .int 115, .int 116, .int 32, .int 98, .int 101, .int 32, .int 97, .int 116, .int 32, .int 109, .int 111, .int 115, .int 116, .int 32] 16 64 d5_17 19 rfl (hw _ (List.mem_of_getElem? (i := 55) rfl)) (own_wS hw) e4 hS (Nat.zero_le _) (own_Frle ((Fr.nil n0).app N4) (by rw [hs0]; exact hn0)) (by rw [hs0]; exact OZ) I (fun z => absurd (hT _ z) (by decide)) hH35 hcw (by decide) (by decide) (by decide) (by decide) (by decide) (by decide) (by decide) (fun l1 T5 h5 lb1 X5 B e5 E5 hS I Li5 Wm5 Ex5 C5 V5 Ab5 => ?_)
  have kk5 : h5.size ≤ h5.size := Nat.le_refl _
  have t31 := (Av.ext fd4 E5)
  have t30 : lb1 ≠ dA := own_avne Ab5 t31 (by simp)
  have t32 := (Sta.ext E5 (own_stkw t24 K4 (own_plE A3 own_pl0)))
  have t33 := (Av.ext (Av.keep t19 K4 (ninS t15 nin0)) E5)
  have t34 := (Av.ext (Av.keep t20 K4 (ninS t16 nin0)) E5)
  have t35 := (Cel.ext (Cel.keep t21 K4 (ninS t17 nin0)) E5)
  have t36 := (Exa.ext E5 (Exa.keep A3 K4))
  have t37 := (Exa.ext E5 (Exa.keep t22 K4))
  have t38 := (Nat.le_trans (Nat.le_trans t23 K4.1) E5.1)
  have t39 := (Fld.ext E5 fa4)
  have t40 := (Fld.ext E5 fb4)
  have t41 := (Fld.ext E5 fc4)
  have t42 := (Exa.ext E5 fe4)
  refine g_callV X5 B [.ref l1] [.ref fo, .ref tr, .ref tr] d5_19 22 rfl rfl (hw _ (List.mem_of_getElem? (i := 56) rfl)) (hw _ (List.mem_of_getElem? (i := 57) rfl)) (hw _ (List.mem_of_getElem? (i := 59) rfl)) (hw _ (List.mem_of_getElem? (i := 58) rfl)) (hw _ (List.mem_of_getElem? (i := 39) rfl)) (hw _ (List.mem_of_getElem? (i := 60) rfl)) (by decide) (lenOf pd_8 rfl) t36 (rB_sps l Z ag hw s1 dA (List.replicate 16 (Value.int 0)) ([] : List Int32) l1 lb1 cx [.int 109, .int 117, .int 115, .int 116, .int 32, .int 98, .int 101, .int 32, .int 97, .int 116, .int 32, .int 109, .int 111, .int 115, .int 116, .int 32] ([109, 117, 115, 116, 32, 98, 101, 32, 97, 116, 32, 109, 111, 115, 116, 32] : List Int32) h5 n0 t38 g_s1 gb4 t36 t39 t40 t31 t41 t42 (own_SBv0 16) Ex5 V5 C5 Ab5 (by decide) (own_Llit ([109, 117, 115, 116, 32, 98, 101, 32, 97, 116, 32, 109, 111, 115, 116, 32] : List Int32) (by decide)) t32 hcx t30 (by have r1 := cb4; have r2 := (show (([109, 117, 115, 116, 32, 98, 101, 32, 97, 116, 32, 109, 111, 115, 116, 32] : List Int32)).length = 16 from rfl); have r3 := lf4; omega) (by have r3 := lf4; omega)) e5 rfl 3 (Nat.le_of_eq rfl) (by decide) (by decide) (by decide) (by decide) (fun v6 T6 h6 L6 X6 e6 q6 => ?_)
  obtain ⟨dA_6, vs6, rfl, N6, K6, fa6, fb6, fc6, fd6, fe6, V6, cl6, ga6, gb6⟩ := q6
  show Go p e below _ (T6.setTop (mkF m 22 #[.val (.int u0)] [.ref s1, .ref fo, .ref tr, .ref tr]))
  have t43 : d1 ≠ dA_6 := own_nda ga6 t25 t33.lt
  have t44 : d2 ≠ dA_6 := own_nda ga6 t26 t34.lt
  have t45 : fo ≠ dA_6 := own_nda ga6 t27 t35.lt
  have t46 : l1 ≠ dA := own_neAv Ex5 (hw _ (List.mem_of_getElem? (i := 6) rfl)) t31
  have t47 : l1 ≠ dA_6 := own_nda ga6 t46 Ex5.lt
  have t48 : lb1 ≠ dA_6 := own_nda ga6 t30 Ab5.lt
  have t49 : s1 ≠ dA_6 := own_nda ga6 t28 t36.lt
  have t50 : tr ≠ dA_6 := own_nda ga6 t29 t37.lt
  have cb6 : 16 ≤ ((([] : List Int32) ++ ([109, 117, 115, 116, 32, 98, 101, 32, 97, 116, 32, 109, 111, 115, 116, 32] : List Int32))).length ∧ ((([] : List Int32) ++ ([109, 117, 115, 116, 32, 98, 101, 32, 97, 116, 32, 109, 111, 115, 116, 32] : List Int32))).length ≤ 16 := by
    rw [List.length_append]
    have r1 := cb4
    have r2 := (show (([109, 117, 115, 116, 32, 98, 101, 32, 97, 116, 32, 109, 111, 115, 116, 32] : List Int32)).length = 16 from rfl)
    omega
  have lf6 : vs6.length = 16 := by
    have r1 := cb4
    have r2 := (show (([109, 117, 115, 116, 32, 98, 101, 32, 97, 116, 32, 109, 111, 115, 116, 32] : List Int32)).length = 16 from rfl)
    have r3 := lf4
    have r4 := cl6
    unfold own_cap at r4
    split at r4 <;> omega
  refine g_iloadN X6 B d5_22 23 rfl rfl ?_
  have t51 := (Av.keep t33 K6 (ninS t15 (ninS t25 nin0)))
  have t52 := (Av.keep t34 K6 (ninS t16 (ninS t26 nin0)))
  have t53 := (Exa.keep t42 K6)
  have t54 := (Cel.keep t35 K6 (ninS t17 (ninS t27 nin0)))
  have t55 := (Exa.keep Ex5 K6)
  have t56 : s1 ≠ lb1 := own_neAv t36 (hw _ (List.mem_of_getElem? (i := 38) rfl)) Ab5
  have t57 := (Av.keep Ab5 K6 (ninS (Ne.symm t56) (ninS t30 nin0)))
  have t58 := (Exa.keep t36 K6)
  have t59 := (Exa.keep t37 K6)
  have t60 := (own_stkw (Sta.ext E5 (own_stkw (Sta.ext E3 (Sta.ext E2 (Sta.ext E1 SD1))) K4 (own_plE A3 own_pl0))) K6 (own_plE t36 (own_plA t31 own_pl0)))
  have t61 := (own_stkw (Sta.ext E5 (own_stkw (Sta.ext E3 (Sta.ext E2 (Sta.ext E1 SD2))) K4 (own_plE A3 own_pl0))) K6 (own_plE t36 (own_plA t31 own_pl0)))
  have t62 := (Nat.le_trans t38 K6.1)
  have t63 := (own_stkw t32 K6 (own_plE t36 (own_plA t31 own_pl0)))
  refine g_callV X6 B [.int u0] [.ref fo, .ref tr, .ref tr] d5_23 26 rfl rfl (hw _ (List.mem_of_getElem? (i := 104) rfl)) (hw _ (List.mem_of_getElem? (i := 105) rfl)) (hw _ (List.mem_of_getElem? (i := 107) rfl)) (hw _ (List.mem_of_getElem? (i := 106) rfl)) (hw _ (List.mem_of_getElem? (i := 39) rfl)) (hw _ (List.mem_of_getElem? (i := 108) rfl)) (by decide) (lenOf pd_16 rfl) t58 (rB_spi l Z ag hw s1 dA_6 vs6 (([] : List Int32) ++ ([109, 117, 115, 116, 32, 98, 101, 32, 97, 116, 32, 109, 111, 115, 116, 32] : List Int32)) cx u0 d1 d2 h6 n0 t62 g_s1 gb6 t58 fa6 fb6 fd6 fc6 fe6 V6 (by have r1 := cb6; have r2 := (own_dec_le u0); have r3 := lf6; omega) (by have r3 := lf6; omega) t63 hcx t60 t61 t51 t52 hd1 hd2) e6 rfl 3 (Nat.le_of_eq rfl) (by decide) (by decide) (by decide) (by decide) (fun v7 T7 h7 L7 X7 e7 q7 => ?_)
  obtain ⟨dA_6_7, vs7, rfl, N7, K7, fa7, fb7, fc7, fd7, fe7, V7, cl7, ga7, gb7⟩ := q7
  show Go p e below _ (T7.setTop (mkF m 26 #[.val (.int u0)] [.ref s1, .ref fo, .ref tr, .ref tr]))
  have t64 : d1 ≠ dA_6_7 := own_nda ga7 t43 t51.lt
  have t65 : d2 ≠ dA_6_7 := own_nda ga7 t44 t52.lt
  have t66 : fo ≠ dA_6_7 := own_nda ga7 t45 t54.lt
  have t67 : l1 ≠ dA_6_7 := own_nda ga7 t47 t55.lt
  have t68 : lb1 ≠ dA_6_7 := own_nda ga7 t48 t57.lt
  have t69 : s1 ≠ dA_6_7 := own_nda ga7 t49 t58.lt
  have t70 : tr ≠ dA_6_7 := own_nda ga7 t50 t59.lt
  have cb7 : 17 ≤ (((([] : List Int32) ++ ([109, 117, 115, 116, 32, 98, 101, 32, 97, 116, 32, 109, 111, 115, 116, 32] : List Int32)) ++ own_dec u0)).length ∧ (((([] : List Int32) ++ ([109, 117, 115, 116, 32, 98, 101, 32, 97, 116, 32, 109, 111, 115, 116, 32] : List Int32)) ++ own_dec u0)).length ≤ 27 := by
    rw [List.length_append]
    have r1 := cb6
    have r2 := (own_dec_le u0)
    omega
  have lf7 : vs7.length = 34 := by
    have r1 := cb6
    have r2 := (own_dec_le u0)
    have r3 := lf6
    have r4 := cl7
    unfold own_cap at r4
    split at r4 <;> omega
  have t71 := (Nat.le_trans (Nat.le_trans kk5 K6.1) K7.1)
  refine g_ldcSW X7 B " characters" [.int 32, .int 99, .int 104, .int 97, .int 114, .int 97, .int 99, .int 116, .int 101, .int 114, .int 115] 11 44 d5_26 28 rfl (hw _ (List.mem_of_getElem? (i := 149) rfl)) (own_wS hw) e7 hS t71 (own_Frle ((((Fr.nil n0).app N4).app N6).app N7) (by rw [hs0]; exact hn0)) (by rw [hs0]; exact OZ) I (by intro z; simp only [List.mem_cons] at z; rcases z with z | z; exact absurd z (by decide); exact absurd (hT _ z) (by decide)) hH44 hcw (by decide) (by decide) (by decide) (by decide) (by decide) (by decide) (by decide) (fun l2 T8 h8 lb2 X8 B e8 E8 hS I Li8 Wm8 Ex8 C8 V8 Ab8 => ?_)
  have kk8 : h8.size ≤ h8.size := Nat.le_refl _
  have t73 := (Av.ext fd7 E8)
  have t72 : lb2 ≠ dA_6_7 := own_avneL Ab8 t73 (by have r := lf7; rw [show ([.int 32, .int 99, .int 104, .int 97, .int 114, .int 97, .int 99, .int 116, .int 101, .int 114, .int 115] : List Value).length = 11 from rfl]; omega)
  have t74 := (Sta.ext E8 (own_stkw t63 K7 (own_plE t58 (own_plA fd6 own_pl0))))
  have t75 := (Av.ext (Av.keep t51 K7 (ninS t15 (ninS t43 nin0))) E8)
  have t76 := (Av.ext (Av.keep t52 K7 (ninS t16 (ninS t44 nin0))) E8)
  have t77 := (Exa.ext E8 (Exa.keep t53 K7))
  have t78 := (Exa.ext E8 (Exa.keep fe6 K7))
  have t79 := (Cel.ext (Cel.keep t54 K7 (ninS t17 (ninS t45 nin0))) E8)
  have t80 := (Exa.ext E8 (Exa.keep t55 K7))
  have t81 := (Av.ext (Av.keep t57 K7 (ninS (Ne.symm t56) (ninS t48 nin0))) E8)
  have t82 := (Exa.ext E8 (Exa.keep t58 K7))
  have t83 := (Exa.ext E8 (Exa.keep t59 K7))
  have t84 := (Nat.le_trans (Nat.le_trans t62 K7.1) E8.1)
  have t85 := (Fld.ext E8 fa7)
  have t86 := (Fld.ext E8 fb7)
  have t87 := (Fld.ext E8 fc7)
  have t88 := (Exa.ext E8 fe7)
  refine g_callV X8 B [.ref l2] [.ref fo, .ref tr, .ref tr] d5_28 31 rfl rfl (hw _ (List.mem_of_getElem? (i := 56) rfl)) (hw _ (List.mem_of_getElem? (i := 57) rfl)) (hw _ (List.mem_of_getElem? (i := 59) rfl)) (hw _ (List.mem_of_getElem? (i := 58) rfl)) (hw _ (List.mem_of_getElem? (i := 39) rfl)) (hw _ (List.mem_of_getElem? (i := 60) rfl)) (by decide) (lenOf pd_8 rfl) t82 (rB_sps l Z ag hw s1 dA_6_7 vs7 ((([] : List Int32) ++ ([109, 117, 115, 116, 32, 98, 101, 32, 97, 116, 32, 109, 111, 115, 116, 32] : List Int32)) ++ own_dec u0) l2 lb2 cx [.int 32, .int 99, .int 104, .int 97, .int 114, .int 97, .int 99, .int 116, .int 101, .int 114, .int 115] ([32, 99, 104, 97, 114, 97, 99, 116, 101, 114, 115] : List Int32) h8 n0 t84 g_s1 gb7 t82 t85 t86 t73 t87 t88 V7 Ex8 V8 C8 Ab8 (by decide) (own_Llit ([32, 99, 104, 97, 114, 97, 99, 116, 101, 114, 115] : List Int32) (by decide)) t74 hcx t72 (by have r1 := cb7; have r2 := (show (([32, 99, 104, 97, 114, 97, 99, 116, 101, 114, 115] : List Int32)).length = 11 from rfl); have r3 := lf7; omega) (by have r3 := lf7; omega)) e8 rfl 3 (Nat.le_of_eq rfl) (by decide) (by decide) (by decide) (by decide) (fun v9 T9 h9 L9 X9 e9 q9 => ?_)
  obtain ⟨dA_6_7_9, vs9, rfl, N9, K9, fa9, fb9, fc9, fd9, fe9, V9, cl9, ga9, gb9⟩ := q9
  show Go p e below _ (T9.setTop (mkF m 31 #[.val (.int u0)] [.ref s1, .ref fo, .ref tr, .ref tr]))
  have t89 : d1 ≠ dA_6_7_9 := own_nda ga9 t64 t75.lt
  have t90 : d2 ≠ dA_6_7_9 := own_nda ga9 t65 t76.lt
  have t91 : fo ≠ dA_6_7_9 := own_nda ga9 t66 t79.lt
  have t92 : l1 ≠ dA_6_7_9 := own_nda ga9 t67 t80.lt
  have t93 : l2 ≠ dA_6_7 := own_neAv Ex8 (hw _ (List.mem_of_getElem? (i := 6) rfl)) t73
  have t94 : l2 ≠ dA_6_7_9 := own_nda ga9 t93 Ex8.lt
  have t95 : lb1 ≠ dA_6_7_9 := own_nda ga9 t68 t81.lt
  have t96 : lb2 ≠ dA_6_7_9 := own_nda ga9 t72 Ab8.lt
  have t97 : s1 ≠ dA_6_7_9 := own_nda ga9 t69 t82.lt
  have t98 : tr ≠ dA_6_7_9 := own_nda ga9 t70 t83.lt
  have cb9 : 28 ≤ ((((([] : List Int32) ++ ([109, 117, 115, 116, 32, 98, 101, 32, 97, 116, 32, 109, 111, 115, 116, 32] : List Int32)) ++ own_dec u0) ++ ([32, 99, 104, 97, 114, 97, 99, 116, 101, 114, 115] : List Int32))).length ∧ ((((([] : List Int32) ++ ([109, 117, 115, 116, 32, 98, 101, 32, 97, 116, 32, 109, 111, 115, 116, 32] : List Int32)) ++ own_dec u0) ++ ([32, 99, 104, 97, 114, 97, 99, 116, 101, 114, 115] : List Int32))).length ≤ 38 := by
    rw [List.length_append]
    have r1 := cb7
    have r2 := (show (([32, 99, 104, 97, 114, 97, 99, 116, 101, 114, 115] : List Int32)).length = 11 from rfl)
    omega
  have lf9 : vs9.length = 34 ∨ vs9.length = 70 := by
    have r1 := cb7
    have r2 := (show (([32, 99, 104, 97, 114, 97, 99, 116, 101, 114, 115] : List Int32)).length = 11 from rfl)
    have r3 := lf7
    have r4 := cl9
    unfold own_cap at r4
    split at r4 <;> omega
  have t99 := (Nat.le_trans t84 K9.1)
  have t100 := (Exa.keep t82 K9)
  have t101 := (own_stkw t74 K9 (own_plE t82 (own_plA t73 own_pl0)))
  refine g_callV X9 B [] [.ref fo, .ref tr, .ref tr] d5_31 34 rfl rfl (hw _ (List.mem_of_getElem? (i := 150) rfl)) (hw _ (List.mem_of_getElem? (i := 151) rfl)) (hw _ (List.mem_of_getElem? (i := 153) rfl)) (hw _ (List.mem_of_getElem? (i := 152) rfl)) (hw _ (List.mem_of_getElem? (i := 39) rfl)) (hw _ (List.mem_of_getElem? (i := 154) rfl)) (by decide) (lenOf pd_26 rfl) t100 (rB_ts l Z ag hw s1 dA_6_7_9 vs9 (((([] : List Int32) ++ ([109, 117, 115, 116, 32, 98, 101, 32, 97, 116, 32, 109, 111, 115, 116, 32] : List Int32)) ++ own_dec u0) ++ ([32, 99, 104, 97, 114, 97, 99, 116, 101, 114, 115] : List Int32)) cx h9 n0 t99 t100 fa9 fb9 fd9 fc9 fe9 V9 (by have r3 := lf9; omega) t101 hcx) e9 rfl 3 (Nat.le_of_eq rfl) (by decide) (by decide) (by decide) (by decide) (fun v10 T10 h10 L10 X10 e10 q10 => ?_)
  obtain ⟨rq, rb, us10, rfl, N10, K10, ta10, tb10, tc10, td10, LL10, te10, tf10⟩ := q10
  show Go p e below _ (T10.setTop (mkF m 34 #[.val (.int u0)] [.ref rq, .ref fo, .ref tr, .ref tr]))
  have t102 := (Nat.le_trans t99 K10.1)
  have t103 := (Exa.keep (Exa.keep t83 K9) K10)
  have t104 := (Fld.keep (Fld.keep (Fld.ext E8 (Fld.keep (Fld.keep (Fld.ext E5 (Fld.keep (Fld.ext E3 (Fld.ext E2 D1_0)) K4 (ninS t18 nin0))) K6 (ninS t18 (ninS t29 nin0))) K7 (ninS t18 (ninS t50 nin0)))) K9 (ninS t18 (ninS t70 nin0))) K10 nin0)
  have t105 := (Fld.keep (Fld.keep (Fld.ext E8 (Fld.keep (Fld.keep (Fld.ext E5 (Fld.keep (Fld.ext E3 (Fld.ext E2 D1_1)) K4 (ninS t18 nin0))) K6 (ninS t18 (ninS t29 nin0))) K7 (ninS t18 (ninS t50 nin0)))) K9 (ninS t18 (ninS t70 nin0))) K10 nin0)
  have t106 := (Cel.keep (Cel.keep t79 K9 (ninS t17 (ninS t66 nin0))) K10 nin0)
  have t107 := (Nat.le_trans (Nat.le_trans kk8 K9.1) K10.1)
  refine g_callNW X10 B hS t107 I [.ref fo, .ref rq] [.ref tr] d5_34 37 rfl rfl rfl (hw _ (List.mem_of_getElem? (i := 185) rfl)) (hw _ (List.mem_of_getElem? (i := 186) rfl)) (hw _ (List.mem_of_getElem? (i := 187) rfl)) (hw _ (List.mem_of_getElem? (i := 29) rfl)) (by decide) (lenOf pd_35 rfl) (rT_ini l Z ag hw tr fo rq cK u0 _ h10 n0 t102 g_tr t103 t104 t105 t106 hmd ta10) e10 rfl 1 (Nat.le_of_eq rfl) (by decide) (by decide) (by decide) (by decide) (fun v11 T11 h11 L11 X11 B e11 hS q11 => ?_)
  obtain ⟨rfl, N11, K11, tA11, tB11⟩ := q11
  show Go p e below _ (T11.setTop (mkF m 37 #[.val (.int u0)] [.ref tr]))
  have kk11 : h11.size ≤ h11.size := Nat.le_refl _
  have t108 := (Keep.trans (Keep.trans (Keep.trans (Keep.ext (Keep.trans (Keep.trans (Keep.ext (Keep.trans (Keep.ext t11 E3) K4 (allS (Or.inr gg_s1) all0)) E5) K6 (allS (Or.inr gg_s1) (allS (Or.inr (Nat.le_trans hn0 gb4)) all0))) K7 (allS (Or.inr gg_s1) (allS (Or.inr (Nat.le_trans hn0 gb6)) all0))) E8) K9 (allS (Or.inr gg_s1) (allS (Or.inr (Nat.le_trans hn0 gb7)) all0))) K10 all0) K11 (allS (Or.inr gg_tr) all0))
  have t109 := (Exa.keep t103 K11)
  have t110 := (Cel.keep t106 K11 (ninS (Ne.symm t9) nin0))
  have t111 := (Exa.keep ta10 K11)
  have t112 : rq ≠ tr := ne_exa t111 t109 (by decide)
  have t113 := (Fld.keep tb10 K11 (ninS t112 nin0))
  have t114 := (Fld.keep tc10 K11 (ninS t112 nin0))
  have t115 : tr ≠ rb := own_neAv t103 (hw _ (List.mem_of_getElem? (i := 32) rfl)) td10
  have t116 := (Av.keep td10 K11 (ninS (Ne.symm t115) nin0))
  exact g_retAW X11 B d5_37 rfl rfl rfl (by decide) (by decide) e11 hS kk11 (fun vm hvm => ⟨tr, fo, cK, rq, rb, us10, rfl, (((((((Fr.nil n0).app N4).app N6).app N7).app N9).app N10).app N11), t108, t109, tA11, t110, hmd, tB11, t111, t113, t114, t116, LL10⟩)
--CHAIN
set_option maxRecDepth 65536 in
set_option maxHeartbeats 40000000 in
theorem rm_mk (l : Launch) (Z : State) (ag : Array Value) (hw : ∀ d ∈ tables_1, d.before ag Z = true) (x : Int32) (h0 : Heap) (n0 : Nat)  :
    Ctr l Z (⟨"com/example/tillbeat/tillbeat/model/TextRuleAtMostPinLaw", "mk", "(I)C"⟩ : MethodName) method_2_code 2 (some .char) ({ frames := 0, cells := 0, slots := 0, locals := 0 } : Room) #[.int x] h0 (fun v h L => ∃ c, v = some (.int c) ∧ own_ch c ∧ Fr n0 L ∧ h0 = h) := by
  refine Ctr.of pn_1 ?_
  intro p e s m below meth c T0 X0 B e0
  refine Go.cast (f' := mkF m 0 #[.val (.int x), .unset] []) (by first | rfl | (simp [entryFrame, mkF, argsToLocals, Value.category, maxLocals]; done)) ?_

  refine g_iloadN X0 B d1_0 1 rfl rfl ?_
  refine g_bipush X0 B (16) d1_1 3 rfl rfl ?_
  refine g_iushr X0 B d1_3 4 rfl ?_
  refine g_iconst X0 B (3) d1_4 5 rfl rfl ?_
  refine g_iand X0 B d1_5 6 rfl ?_
  refine g_istoreN X0 B #[.val (.int x), .val (.int ((XT.ushr x (16 : Int32)) &&& (3 : Int32)))] d1_6 7 rfl rfl ?_
  refine g_iloadN X0 B d1_7 8 rfl rfl ?_
  refine g_if_ne X0 B d1_8 21 11 rfl (by decide) rfl (fun c1 => ?_) (fun c1 => ?_)
  · skip
    refine g_iloadN X0 B d1_21 22 rfl rfl ?_
    refine g_iconst X0 B (1) d1_22 23 rfl rfl ?_
    refine g_icmp_ne X0 B d1_23 36 26 rfl (by decide) rfl (fun c2 => ?_) (fun c2 => ?_)
    · skip
      refine g_iloadN X0 B d1_36 37 rfl rfl ?_
      refine g_i2c X0 B d1_37 38 rfl ?_
      exact g_retN X0 B d1_38 rfl (XT.narrow_c _) (by decide) (by decide) (by decide) e0 ⟨_, rfl, own_chc _, (Fr.nil n0), rfl⟩
    · skip
      refine g_ldcI X0 B d1_26 28 rfl (hw _ (List.mem_of_getElem? (i := 298) rfl)) ?_
      refine g_iloadN X0 B d1_28 29 rfl rfl ?_
      refine g_sipush X0 B (1023) d1_29 32 rfl rfl ?_
      refine g_iand X0 B d1_32 33 rfl ?_
      refine g_ior X0 B d1_33 34 rfl ?_
      refine g_i2c X0 B d1_34 35 rfl ?_
      exact g_retN X0 B d1_35 rfl (XT.narrow_c _) (by decide) (by decide) (by decide) e0 ⟨_, rfl, own_chc _, (Fr.nil n0), rfl⟩
  · skip
    refine g_ldcI X0 B d1_11 13 rfl (hw _ (List.mem_of_getElem? (i := 4) rfl)) ?_
    refine g_iloadN X0 B d1_13 14 rfl rfl ?_
    refine g_sipush X0 B (1023) d1_14 17 rfl rfl ?_
    refine g_iand X0 B d1_17 18 rfl ?_
    refine g_ior X0 B d1_18 19 rfl ?_
    refine g_i2c X0 B d1_19 20 rfl ?_
    exact g_retN X0 B d1_20 rfl (XT.narrow_c _) (by decide) (by decide) (by decide) e0 ⟨_, rfl, own_chc _, (Fr.nil n0), rfl⟩
theorem own_gt1 (c : Int32) : (56319 < c) ↔ ¬ (c < 56320) := by
  rw [Int32.lt_iff_toInt_lt, Int32.lt_iff_toInt_lt]
  have k1 : (56319 : Int32).toInt = 56319 := by decide
  have k2 : (56320 : Int32).toInt = 56320 := by decide
  omega
theorem own_gt2 (c : Int32) : (57343 < c) ↔ ¬ (c < 57344) := by
  rw [Int32.lt_iff_toInt_lt, Int32.lt_iff_toInt_lt]
  have k1 : (57343 : Int32).toInt = 57343 := by decide
  have k2 : (57344 : Int32).toInt = 57344 := by decide
  omega
theorem own_psn2 (a b : Int32) : own_ps [a, b] (2 - 1) = (if own_hs a ∧ own_ls b then 1 else 0) := by simp [own_ps, own_pr]
theorem own_psn3 (a b c : Int32) : own_ps [a, b, c] (3 - 1) = (if own_hs a ∧ own_ls b then 1 else 0) + (if own_hs b ∧ own_ls c then 1 else 0) := by simp [own_ps, own_pr]
theorem own_psn4 (a b c d : Int32) : own_ps [a, b, c, d] (4 - 1) = (if own_hs a ∧ own_ls b then 1 else 0) + (if own_hs b ∧ own_ls c then 1 else 0) + (if own_hs c ∧ own_ls d then 1 else 0) := by simp [own_ps, own_pr]
set_option maxRecDepth 65536 in
set_option maxHeartbeats 40000000 in
theorem rm_hi (l : Launch) (Z : State) (ag : Array Value) (hw : ∀ d ∈ tables_1, d.before ag Z = true) (x : Int32) (h0 : Heap) (n0 : Nat)  :
    Ctr l Z (⟨"com/example/tillbeat/tillbeat/model/TextRuleAtMostPinLaw", "hi", "(C)Z"⟩ : MethodName) method_3_code 1 (some .boolean) ({ frames := 0, cells := 0, slots := 0, locals := 0 } : Room) #[.int x] h0 (fun v h L => v = some (.int (if own_hs x then 1 else 0)) ∧ Fr n0 L ∧ h0 = h) := by
  refine Ctr.of pn_59 ?_
  intro p e s m below meth c T0 X0 B e0
  refine Go.cast (f' := mkF m 0 #[.val (.int x)] []) (by first | rfl | (simp [entryFrame, mkF, argsToLocals, Value.category, maxLocals]; done)) ?_

  refine g_iloadN X0 B d59_0 1 rfl rfl ?_
  refine g_ldcI X0 B d59_1 3 rfl (hw _ (List.mem_of_getElem? (i := 4) rfl)) ?_
  refine g_icmp_lt X0 B d59_3 16 6 rfl (by decide) rfl (fun c1 => ?_) (fun c1 => ?_)
  · skip
    refine g_iconst X0 B (0) d59_16 17 rfl rfl ?_
    exact g_retN X0 B d59_17 rfl rfl (by decide) (by decide) (by decide) e0 ⟨by (try simp only [own_gt1, own_gt2] at c1); simp [own_hs, c1], (Fr.nil n0), rfl⟩
  · skip
    refine g_iloadN X0 B d59_6 7 rfl rfl ?_
    refine g_ldcI X0 B d59_7 9 rfl (hw _ (List.mem_of_getElem? (i := 294) rfl)) ?_
    refine g_icmp_gt X0 B d59_9 16 12 rfl (by decide) rfl (fun c2 => ?_) (fun c2 => ?_)
    · skip
      refine g_iconst X0 B (0) d59_16 17 rfl rfl ?_
      exact g_retN X0 B d59_17 rfl rfl (by decide) (by decide) (by decide) e0 ⟨by (try simp only [own_gt1, own_gt2] at c1 c2); simp [own_hs, c1, c2], (Fr.nil n0), rfl⟩
    · skip
      refine g_iconst X0 B (1) d59_12 13 rfl rfl ?_
      refine g_goto X0 B d59_13 17 rfl (by decide) ?_
      exact g_retN X0 B d59_17 rfl rfl (by decide) (by decide) (by decide) e0 ⟨by (try simp only [own_gt1, own_gt2] at c1 c2); simp [own_hs, c1, c2], (Fr.nil n0), rfl⟩
set_option maxRecDepth 65536 in
set_option maxHeartbeats 40000000 in
theorem rm_lo (l : Launch) (Z : State) (ag : Array Value) (hw : ∀ d ∈ tables_1, d.before ag Z = true) (x : Int32) (h0 : Heap) (n0 : Nat)  :
    Ctr l Z (⟨"com/example/tillbeat/tillbeat/model/TextRuleAtMostPinLaw", "lo", "(C)Z"⟩ : MethodName) method_4_code 1 (some .boolean) ({ frames := 0, cells := 0, slots := 0, locals := 0 } : Room) #[.int x] h0 (fun v h L => v = some (.int (if own_ls x then 1 else 0)) ∧ Fr n0 L ∧ h0 = h) := by
  refine Ctr.of pn_60 ?_
  intro p e s m below meth c T0 X0 B e0
  refine Go.cast (f' := mkF m 0 #[.val (.int x)] []) (by first | rfl | (simp [entryFrame, mkF, argsToLocals, Value.category, maxLocals]; done)) ?_

  refine g_iloadN X0 B d60_0 1 rfl rfl ?_
  refine g_ldcI X0 B d60_1 3 rfl (hw _ (List.mem_of_getElem? (i := 298) rfl)) ?_
  refine g_icmp_lt X0 B d60_3 16 6 rfl (by decide) rfl (fun c1 => ?_) (fun c1 => ?_)
  · skip
    refine g_iconst X0 B (0) d60_16 17 rfl rfl ?_
    exact g_retN X0 B d60_17 rfl rfl (by decide) (by decide) (by decide) e0 ⟨by (try simp only [own_gt1, own_gt2] at c1); simp [own_ls, c1], (Fr.nil n0), rfl⟩
  · skip
    refine g_iloadN X0 B d60_6 7 rfl rfl ?_
    refine g_ldcI X0 B d60_7 9 rfl (hw _ (List.mem_of_getElem? (i := 323) rfl)) ?_
    refine g_icmp_gt X0 B d60_9 16 12 rfl (by decide) rfl (fun c2 => ?_) (fun c2 => ?_)
    · skip
      refine g_iconst X0 B (0) d60_16 17 rfl rfl ?_
      exact g_retN X0 B d60_17 rfl rfl (by decide) (by decide) (by decide) e0 ⟨by (try simp only [own_gt1, own_gt2] at c1 c2); simp [own_ls, c1, c2], (Fr.nil n0), rfl⟩
    · skip
      refine g_iconst X0 B (1) d60_12 13 rfl rfl ?_
      refine g_goto X0 B d60_13 17 rfl (by decide) ?_
      exact g_retN X0 B d60_17 rfl rfl (by decide) (by decide) (by decide) e0 ⟨by (try simp only [own_gt1, own_gt2] at c1 c2); simp [own_ls, c1, c2], (Fr.nil n0), rfl⟩
set_option maxRecDepth 65536 in
set_option maxHeartbeats 40000000 in
theorem rm_req (l : Launch) (Z : State) (ag : Array Value) (hw : ∀ d ∈ tables_1, d.before ag Z = true) (tr rq : Addr) (h0 : Heap) (n0 : Nat) (F2 : Fld Z h0 tr "com/example/tillbeat/tillbeat/model/TextRule" "requirement" "Ljava/lang/String;" (.ref rq)) :
    Ctr l Z (⟨"com/example/tillbeat/tillbeat/model/TextRule", "requirement", "()Ljava/lang/String;"⟩ : MethodName) prog_25_method_8_code 1 (some (.object "java/lang/String")) ({ frames := 0, cells := 0, slots := 0, locals := 0 } : Room) #[.ref tr] h0 (fun v h L => v = some (.ref rq) ∧ Fr n0 L ∧ h0 = h) := by
  refine Ctr.of pn_44 ?_
  intro p e s m below meth c T0 X0 B e0
  refine Go.cast (f' := mkF m 0 #[.val (.ref tr)] []) (by first | rfl | (simp [entryFrame, mkF, argsToLocals, Value.category, maxLocals]; done)) ?_

  refine g_aloadN X0 B d44_0 1 rfl rfl rfl ?_
  refine g_getF X0 B d44_1 4 rfl (hw _ (List.mem_of_getElem? (i := 199) rfl)) Via.refl e0 F2 (fun T1 X1 e1 => ?_)
  exact g_retA X1 B d44_4 rfl rfl rfl (by decide) (by decide) e1 ⟨rfl, (Fr.nil n0), rfl⟩
def own_absv (v : Int32) : Int64 := if v.toInt64.toInt < 0 then -v.toInt64 else v.toInt64
theorem own_absz (v : Int32) : (own_absv v).toInt = ((v.toInt.natAbs : Nat) : Int) := by
  have h1 := c_i2l v
  have h2 := rng32 v
  have h3 := c_lneg v.toInt64
  have h4 := rng64 (-v.toInt64)
  unfold own_absv
  split <;> omega
theorem own_nalt (v : Int32) : v.toInt.natAbs < 10000000000 := by
  have := rng32 v
  omega
theorem own_absif {x r : Int64} (h : (XT.cmpL x 0 < 0 ∧ r = -x) ∨ (¬ XT.cmpL x 0 < 0 ∧ r = x)) : some (Value.long r) = some (Value.long (if x.toInt < 0 then -x else x)) := by
  have k : (0 : Int64).toInt = 0 := by decide
  have q := own_cl x 0
  rw [k] at q
  rcases h with ⟨h, rfl⟩ | ⟨h, rfl⟩
  · rw [if_pos (q.mp h)]
  · rw [if_neg (fun z => h (q.mpr z))]
theorem own_digch1 {z : Int64} {N : Nat} (hz : z.toInt = (N : Int)) : ((48 : Int32) + (z - (z / 10) * 10).toInt32).toUInt32.toUInt16.toUInt32.toInt32 = Int32.ofNat (48 + N % 10) := by
  have h2 := (c_lrem z 10 10 (by decide)).1 (by rw [hz]; omega)
  rw [hz] at h2
  have h3 := c_l2i (z - (z / 10) * 10)
  have h4 := c_iadd 48 (z - (z / 10) * 10).toInt32
  have h5 := rng32 (z - (z / 10) * 10).toInt32
  have h6 := rng32 ((48 : Int32) + (z - (z / 10) * 10).toInt32)
  have h7 := c_i2c ((48 : Int32) + (z - (z / 10) * 10).toInt32)
  have k : (48 : Int32).toInt = 48 := by decide
  apply Int32.toInt_inj.mp
  rw [own_ti (by omega)]
  omega
theorem own_at3 {A D B : List Int32} {i j : Nat} (h : i = A.length + D.length + j) : ((A ++ D) ++ B)[i]? = B[j]? := by
  rw [List.getElem?_append_right (by rw [List.length_append]; omega), List.length_append, h, Nat.add_sub_cancel_left]
theorem own_at2 {A D B : List Int32} {i j : Nat} (h : i = A.length + j) (hj : j < D.length) : ((A ++ D) ++ B)[i]? = D[j]? := by
  rw [List.getElem?_append_left (by rw [List.length_append]; omega), List.getElem?_append_right (by omega), h, Nat.add_sub_cancel_left]
theorem own_at1 {A D B : List Int32} {i : Nat} (h : i < A.length) : ((A ++ D) ++ B)[i]? = A[i]? := by
  rw [List.getElem?_append_left (by rw [List.length_append]; omega), List.getElem?_append_left h]
theorem own_lastd (N : Nat) : (own_digs N)[(own_digs N).length - 1]? = some (Int32.ofNat (48 + N % 10)) := by
  have hp := own_digs_pos N
  have q := own_digs_at _ _ (Nat.le_refl N) ((own_digs N).length - 1) (by omega)
  rw [Nat.sub_self, Nat.pow_zero, Nat.div_one] at q
  exact q
theorem own_firstd (N : Nat) : ∃ c, (own_digs N)[0]? = some c ∧ own_ch c ∧ ¬ c = 45 := by
  have hp := own_digs_pos N
  refine ⟨(own_digs N)[0], List.getElem?_eq_getElem hp, ?_⟩
  have q := own_digs_ch _ _ (Nat.le_refl N) (own_digs N)[0] (List.getElem_mem hp)
  refine ⟨by unfold own_ch; omega, fun e => ?_⟩
  rw [e] at q
  have k : (45 : Int32).toInt = 45 := by decide
  omega
theorem own_chd (N : Nat) : own_ch (Int32.ofNat (48 + N % 10)) := by
  unfold own_ch
  rw [own_ti (by omega)]
  omega
set_option maxRecDepth 65536 in
set_option maxHeartbeats 40000000 in
theorem rm_abs (l : Launch) (Z : State) (ag : Array Value) (hw : ∀ d ∈ tables_1, d.before ag Z = true) (x : Int64) (h0 : Heap) (n0 : Nat)  :
    Ctr l Z (⟨"java/lang/Math", "abs", "(J)J"⟩ : MethodName) jdk_29_method_61_code 2 (some .long) ({ frames := 0, cells := 0, slots := 0, locals := 0 } : Room) #[.long x] h0 (fun v h L => v = some (.long (if x.toInt < 0 then -x else x)) ∧ Fr n0 L ∧ h0 = h) := by
  refine Ctr.of pn_45 ?_
  intro p e s m below meth c T0 X0 B e0
  refine Go.cast (f' := mkF m 0 #[.val (.long x), .second] []) (by first | rfl | (simp [entryFrame, mkF, argsToLocals, Value.category, maxLocals]; done)) ?_

  refine g_lloadN X0 B d45_0 1 rfl rfl ?_
  refine g_lconst X0 B (0) d45_1 2 rfl rfl ?_
  refine g_lcmp X0 B d45_2 3 rfl ?_
  refine g_if_ge X0 B d45_3 11 6 rfl (by decide) rfl (fun c1 => ?_) (fun c1 => ?_)
  · skip
    refine g_lloadN X0 B d45_11 12 rfl rfl ?_
    exact g_retL X0 B d45_12 rfl (by decide) (by decide) e0 ⟨own_absif (Or.inr ⟨c1, rfl⟩), (Fr.nil n0), rfl⟩
  · skip
    refine g_lloadN X0 B d45_6 7 rfl rfl ?_
    refine g_lneg X0 B d45_7 8 rfl ?_
    refine g_goto X0 B d45_8 12 rfl (by decide) ?_
    exact g_retL X0 B d45_12 rfl (by decide) (by decide) e0 ⟨own_absif (Or.inl ⟨c1, rfl⟩), (Fr.nil n0), rfl⟩
set_option maxRecDepth 65536 in
set_option maxHeartbeats 40000000 in
theorem rm_digits (l : Launch) (Z : State) (ag : Array Value) (hw : ∀ d ∈ tables_1, d.before ag Z = true) (z : Int64) (N : Nat) (h0 : Heap) (n0 : Nat) (hz : z.toInt = (N : Int)) (hN : N < 10000000000) :
    Ctr l Z (⟨"com/example/tillbeat/tillbeat/model/TextRuleAtMostPinLaw", "digits", "(J)I"⟩ : MethodName) method_5_code 2 (some .int) ({ frames := 0, cells := 0, slots := 0, locals := 0 } : Room) #[.long z] h0 (fun v h L => v = some (.int (Int32.ofNat (own_digs N).length)) ∧ Fr n0 L ∧ h0 = h) := by
  refine Ctr.of pn_46 ?_
  intro p e s m below meth c T0 X0 B e0
  refine Go.cast (f' := mkF m 0 #[.val (.long z), .second] []) (by first | rfl | (simp [entryFrame, mkF, argsToLocals, Value.category, maxLocals]; done)) ?_

  have kd1 : (10 : Int64).toInt = 10 := by decide
  have kd2 : (100 : Int64).toInt = 100 := by decide
  have kd3 : (1000 : Int64).toInt = 1000 := by decide
  have kd4 : (10000 : Int64).toInt = 10000 := by decide
  have kd5 : (100000 : Int64).toInt = 100000 := by decide
  have kd6 : (1000000 : Int64).toInt = 1000000 := by decide
  have kd7 : (10000000 : Int64).toInt = 10000000 := by decide
  have kd8 : (100000000 : Int64).toInt = 100000000 := by decide
  have kd9 : (1000000000 : Int64).toInt = 1000000000 := by decide
  refine g_lloadN X0 B d46_0 1 rfl rfl ?_
  refine g_ldc2J X0 B d46_1 4 rfl (hw _ (List.mem_of_getElem? (i := 244) rfl)) ?_
  refine g_lcmp X0 B d46_4 5 rfl ?_
  refine g_if_ge X0 B d46_5 10 8 rfl (by decide) rfl (fun cc => ?_) (fun cc => ?_)
  · skip
    have hge1 : 10 ≤ N := by
      have q : ¬ z.toInt < (10 : Int64).toInt := fun u => cc ((own_cl z 10).mpr u)
      rw [hz, kd1] at q
      omega
    refine g_lloadN X0 B d46_10 11 rfl rfl ?_
    refine g_ldc2J X0 B d46_11 14 rfl (hw _ (List.mem_of_getElem? (i := 315) rfl)) ?_
    refine g_lcmp X0 B d46_14 15 rfl ?_
    refine g_if_ge X0 B d46_15 20 18 rfl (by decide) rfl (fun cc => ?_) (fun cc => ?_)
    · skip
      have hge2 : 100 ≤ N := by
        have q : ¬ z.toInt < (100 : Int64).toInt := fun u => cc ((own_cl z 100).mpr u)
        rw [hz, kd2] at q
        omega
      refine g_lloadN X0 B d46_20 21 rfl rfl ?_
      refine g_ldc2J X0 B d46_21 24 rfl (hw _ (List.mem_of_getElem? (i := 316) rfl)) ?_
      refine g_lcmp X0 B d46_24 25 rfl ?_
      refine g_if_ge X0 B d46_25 30 28 rfl (by decide) rfl (fun cc => ?_) (fun cc => ?_)
      · skip
        have hge3 : 1000 ≤ N := by
          have q : ¬ z.toInt < (1000 : Int64).toInt := fun u => cc ((own_cl z 1000).mpr u)
          rw [hz, kd3] at q
          omega
        refine g_lloadN X0 B d46_30 31 rfl rfl ?_
        refine g_ldc2J X0 B d46_31 34 rfl (hw _ (List.mem_of_getElem? (i := 317) rfl)) ?_
        refine g_lcmp X0 B d46_34 35 rfl ?_
        refine g_if_ge X0 B d46_35 40 38 rfl (by decide) rfl (fun cc => ?_) (fun cc => ?_)
        · skip
          have hge4 : 10000 ≤ N := by
            have q : ¬ z.toInt < (10000 : Int64).toInt := fun u => cc ((own_cl z 10000).mpr u)
            rw [hz, kd4] at q
            omega
          refine g_lloadN X0 B d46_40 41 rfl rfl ?_
          refine g_ldc2J X0 B d46_41 44 rfl (hw _ (List.mem_of_getElem? (i := 318) rfl)) ?_
          refine g_lcmp X0 B d46_44 45 rfl ?_
          refine g_if_ge X0 B d46_45 50 48 rfl (by decide) rfl (fun cc => ?_) (fun cc => ?_)
          · skip
            have hge5 : 100000 ≤ N := by
              have q : ¬ z.toInt < (100000 : Int64).toInt := fun u => cc ((own_cl z 100000).mpr u)
              rw [hz, kd5] at q
              omega
            refine g_lloadN X0 B d46_50 51 rfl rfl ?_
            refine g_ldc2J X0 B d46_51 54 rfl (hw _ (List.mem_of_getElem? (i := 319) rfl)) ?_
            refine g_lcmp X0 B d46_54 55 rfl ?_
            refine g_if_ge X0 B d46_55 61 58 rfl (by decide) rfl (fun cc => ?_) (fun cc => ?_)
            · skip
              have hge6 : 1000000 ≤ N := by
                have q : ¬ z.toInt < (1000000 : Int64).toInt := fun u => cc ((own_cl z 1000000).mpr u)
                rw [hz, kd6] at q
                omega
              refine g_lloadN X0 B d46_61 62 rfl rfl ?_
              refine g_ldc2J X0 B d46_62 65 rfl (hw _ (List.mem_of_getElem? (i := 320) rfl)) ?_
              refine g_lcmp X0 B d46_65 66 rfl ?_
              refine g_if_ge X0 B d46_66 72 69 rfl (by decide) rfl (fun cc => ?_) (fun cc => ?_)
              · skip
                have hge7 : 10000000 ≤ N := by
                  have q : ¬ z.toInt < (10000000 : Int64).toInt := fun u => cc ((own_cl z 10000000).mpr u)
                  rw [hz, kd7] at q
                  omega
                refine g_lloadN X0 B d46_72 73 rfl rfl ?_
                refine g_ldc2J X0 B d46_73 76 rfl (hw _ (List.mem_of_getElem? (i := 321) rfl)) ?_
                refine g_lcmp X0 B d46_76 77 rfl ?_
                refine g_if_ge X0 B d46_77 83 80 rfl (by decide) rfl (fun cc => ?_) (fun cc => ?_)
                · skip
                  have hge8 : 100000000 ≤ N := by
                    have q : ¬ z.toInt < (100000000 : Int64).toInt := fun u => cc ((own_cl z 100000000).mpr u)
                    rw [hz, kd8] at q
                    omega
                  refine g_lloadN X0 B d46_83 84 rfl rfl ?_
                  refine g_ldc2J X0 B d46_84 87 rfl (hw _ (List.mem_of_getElem? (i := 322) rfl)) ?_
                  refine g_lcmp X0 B d46_87 88 rfl ?_
                  refine g_if_ge X0 B d46_88 94 91 rfl (by decide) rfl (fun cc => ?_) (fun cc => ?_)
                  · skip
                    have hge9 : 1000000000 ≤ N := by
                      have q : ¬ z.toInt < (1000000000 : Int64).toInt := fun u => cc ((own_cl z 1000000000).mpr u)
                      rw [hz, kd9] at q
                      omega
                    refine g_bipush X0 B (10) d46_94 96 rfl rfl ?_
                    exact g_retI X0 B d46_96 rfl (by decide) (by decide) e0 ⟨by rw [own_dl 9 N (Nat.lt_of_lt_of_le hN (by decide)) (Or.inr (Nat.le_trans (by decide) hge9))]; rfl, (Fr.nil n0), rfl⟩
                  · skip
                    have hlt : N < 1000000000 := by
                      have q := (own_cl z 1000000000).mp cc
                      rw [hz, kd9] at q
                      omega
                    refine g_bipush X0 B (9) d46_91 93 rfl rfl ?_
                    exact g_retI X0 B d46_93 rfl (by decide) (by decide) e0 ⟨by rw [own_dl 8 N (Nat.lt_of_lt_of_le hlt (by decide)) (Or.inr (Nat.le_trans (by decide) hge8))]; rfl, (Fr.nil n0), rfl⟩
                · skip
                  have hlt : N < 100000000 := by
                    have q := (own_cl z 100000000).mp cc
                    rw [hz, kd8] at q
                    omega
                  refine g_bipush X0 B (8) d46_80 82 rfl rfl ?_
                  exact g_retI X0 B d46_82 rfl (by decide) (by decide) e0 ⟨by rw [own_dl 7 N (Nat.lt_of_lt_of_le hlt (by decide)) (Or.inr (Nat.le_trans (by decide) hge7))]; rfl, (Fr.nil n0), rfl⟩
              · skip
                have hlt : N < 10000000 := by
                  have q := (own_cl z 10000000).mp cc
                  rw [hz, kd7] at q
                  omega
                refine g_bipush X0 B (7) d46_69 71 rfl rfl ?_
                exact g_retI X0 B d46_71 rfl (by decide) (by decide) e0 ⟨by rw [own_dl 6 N (Nat.lt_of_lt_of_le hlt (by decide)) (Or.inr (Nat.le_trans (by decide) hge6))]; rfl, (Fr.nil n0), rfl⟩
            · skip
              have hlt : N < 1000000 := by
                have q := (own_cl z 1000000).mp cc
                rw [hz, kd6] at q
                omega
              refine g_bipush X0 B (6) d46_58 60 rfl rfl ?_
              exact g_retI X0 B d46_60 rfl (by decide) (by decide) e0 ⟨by rw [own_dl 5 N (Nat.lt_of_lt_of_le hlt (by decide)) (Or.inr (Nat.le_trans (by decide) hge5))]; rfl, (Fr.nil n0), rfl⟩
          · skip
            have hlt : N < 100000 := by
              have q := (own_cl z 100000).mp cc
              rw [hz, kd5] at q
              omega
            refine g_iconst X0 B (5) d46_48 49 rfl rfl ?_
            exact g_retI X0 B d46_49 rfl (by decide) (by decide) e0 ⟨by rw [own_dl 4 N (Nat.lt_of_lt_of_le hlt (by decide)) (Or.inr (Nat.le_trans (by decide) hge4))]; rfl, (Fr.nil n0), rfl⟩
        · skip
          have hlt : N < 10000 := by
            have q := (own_cl z 10000).mp cc
            rw [hz, kd4] at q
            omega
          refine g_iconst X0 B (4) d46_38 39 rfl rfl ?_
          exact g_retI X0 B d46_39 rfl (by decide) (by decide) e0 ⟨by rw [own_dl 3 N (Nat.lt_of_lt_of_le hlt (by decide)) (Or.inr (Nat.le_trans (by decide) hge3))]; rfl, (Fr.nil n0), rfl⟩
      · skip
        have hlt : N < 1000 := by
          have q := (own_cl z 1000).mp cc
          rw [hz, kd3] at q
          omega
        refine g_iconst X0 B (3) d46_28 29 rfl rfl ?_
        exact g_retI X0 B d46_29 rfl (by decide) (by decide) e0 ⟨by rw [own_dl 2 N (Nat.lt_of_lt_of_le hlt (by decide)) (Or.inr (Nat.le_trans (by decide) hge2))]; rfl, (Fr.nil n0), rfl⟩
    · skip
      have hlt : N < 100 := by
        have q := (own_cl z 100).mp cc
        rw [hz, kd2] at q
        omega
      refine g_iconst X0 B (2) d46_18 19 rfl rfl ?_
      exact g_retI X0 B d46_19 rfl (by decide) (by decide) e0 ⟨by rw [own_dl 1 N (Nat.lt_of_lt_of_le hlt (by decide)) (Or.inr (Nat.le_trans (by decide) hge1))]; rfl, (Fr.nil n0), rfl⟩
  · skip
    have hlt : N < 10 := by
      have q := (own_cl z 10).mp cc
      rw [hz, kd1] at q
      omega
    refine g_iconst X0 B (1) d46_8 9 rfl rfl ?_
    exact g_retI X0 B d46_9 rfl (by decide) (by decide) e0 ⟨by rw [own_dl 0 N (Nat.lt_of_lt_of_le hlt (by decide)) (Or.inl rfl)]; rfl, (Fr.nil n0), rfl⟩
theorem own_and3 (x : Int32) : ∃ i : Nat, i < 4 ∧ (x &&& (3 : Int32)) = Int32.ofNat i := by
  have h1 := c_mask x 3 2 (by decide) (by decide)
  refine ⟨(x &&& (3 : Int32)).toInt.toNat, by omega, ?_⟩
  apply Int32.toInt_inj.mp
  rw [Int32.toInt_ofNat_of_lt (by omega)]
  omega
theorem own_chs1 {c0 c1 c2 : Int32} (hx0 : own_ch c0) (hx1 : own_ch c1) (hx2 : own_ch c2) : ∀ x ∈ [c0], own_ch x := by
  intro x hx
  simp only [List.mem_cons, List.not_mem_nil, or_false] at hx
  rcases hx with rfl <;> assumption
theorem own_chs2 {c0 c1 c2 : Int32} (hx0 : own_ch c0) (hx1 : own_ch c1) (hx2 : own_ch c2) : ∀ x ∈ [c0, c1], own_ch x := by
  intro x hx
  simp only [List.mem_cons, List.not_mem_nil, or_false] at hx
  rcases hx with rfl | rfl <;> assumption
theorem own_chs3 {c0 c1 c2 : Int32} (hx0 : own_ch c0) (hx1 : own_ch c1) (hx2 : own_ch c2) : ∀ x ∈ [c0, c1, c2], own_ch x := by
  intro x hx
  simp only [List.mem_cons, List.not_mem_nil, or_false] at hx
  rcases hx with rfl | rfl | rfl <;> assumption
--LEAF
set_option maxRecDepth 65536 in
set_option maxHeartbeats 40000000 in
theorem rm0_0 (l : Launch) (Z : State) (ag : Array Value) (hw : ∀ d ∈ tables_1, d.before ag Z = true) (u0 p1 p2 p3 p4 cx : Int32) (g : Value) (d1 d2 : Addr) (h0 : Heap) (n0 : Nat) (Z0 : n0 ≤ h0.size) (SC : Sta Z h0 "java/lang/String" "COMPACT_STRINGS" "Z" (.int cx)) (hcx : ¬ cx = 0) (SA : Sta Z h0 "java/lang/StringUTF16" "$assertionsDisabled" "Z" (.int 1)) (SH : Sta Z h0 "java/lang/StringUTF16" "HI_BYTE_SHIFT" "I" (.int 0)) (SLo : Sta Z h0 "java/lang/StringUTF16" "LO_BYTE_SHIFT" "I" (.int 8)) (SF : Sta Z h0 "jdk/internal/util/Preconditions" "SIOOBE_FORMATTER" "Ljava/util/function/BiFunction;" g) (hg : g.isRef = true) (SD1 : Sta Z h0 "java/lang/Integer" "DigitOnes" "[B" (.ref d1)) (SD2 : Sta Z h0 "java/lang/Integer" "DigitTens" "[B" (.ref d2)) (AD1 : Av Z h0 d1 .byte own_ones) (AD2 : Av Z h0 d2 .byte own_tens) (kk4 : (p4 &&& (3 : Int32)) = 0) (OZ : ∀ (b : Addr) (cl : Cell), Z.heap[b]? = some cl → h0[b]? = some cl) (hH7 : Jvm.Lit.constHeld Z "com/example/tillbeat/tillbeat/model/TextRule" 7) (hH22 : Jvm.Lit.constHeld Z "com/example/tillbeat/tillbeat/model/TextRule" 22) (hH35 : Jvm.Lit.constHeld Z "com/example/tillbeat/tillbeat/model/TextRule" 35) (hH44 : Jvm.Lit.constHeld Z "com/example/tillbeat/tillbeat/model/TextRule" 44) (hH7s : Jvm.Lit.constHeld Z "java/lang/String" 7) (hcw : Jvm.Lit.compactW.before ag Z = true) :
    CtrW l Z x code maxLocals ret room_1 #[.int u0, .int p1, .int p2, .int p3, .int p4] h0 [] (fun v h vm L => v = some (.int 1) ∧ Fr n0 L) := by
  refine CtrW.of pn_0 ?_
  intro p e s m below meth c T0 X0 B e0 hs0 hS I
  refine Go.cast (f' := mkF m 0 #[.val (.int u0), .val (.int p1), .val (.int p2), .val (.int p3), .val (.int p4), .unset, .unset, .unset, .unset, .unset, .unset, .unset, .unset, .unset, .unset, .unset, .unset, .unset, .unset] []) (by first | (simp [entryFrame, mkF, argsToLocals, Value.category, maxLocals]; done) | rfl) ?_

  refine g_iload X0 B at_0 2 rfl rfl ?_
  refine g_iconst X0 B (3) at_2 3 rfl rfl ?_
  refine g_iand X0 B at_3 4 rfl ?_
  rw [kk4]
  show Go p e below _ (T0.setTop (mkF m 4 #[.val (.int u0), .val (.int p1), .val (.int p2), .val (.int p3), .val (.int p4), .unset, .unset, .unset, .unset, .unset, .unset, .unset, .unset, .unset, .unset, .unset, .unset, .unset, .unset] [.int (0 : Int32)]))
  refine g_istore X0 B #[.val (.int u0), .val (.int p1), .val (.int p2), .val (.int p3), .val (.int p4), .val (.int (0 : Int32)), .unset, .unset, .unset, .unset, .unset, .unset, .unset, .unset, .unset, .unset, .unset, .unset, .unset] at_4 6 rfl rfl ?_
  refine g_iloadN X0 B at_6 7 rfl rfl ?_
  refine g_callS X0 B [.int p1] [] at_7 10 rfl rfl (hw _ (List.mem_of_getElem? (i := 0) rfl)) (hw _ (List.mem_of_getElem? (i := 1) rfl)) (hw _ (List.mem_of_getElem? (i := 2) rfl)) (hw _ (List.mem_of_getElem? (i := 3) rfl)) (by decide) (lenOf pd_1 rfl) (rm_mk l Z ag hw p1 h0 n0) e0 rfl 0 (Nat.le_of_eq rfl) (by decide) (by decide) (by decide) (by decide) (fun v1 T1 h1 L1 X1 e1 q1 => ?_)
  obtain ⟨c0, rfl, hx0, N1, rfl⟩ := q1
  show Go p e below _ (T1.setTop (mkF m 10 #[.val (.int u0), .val (.int p1), .val (.int p2), .val (.int p3), .val (.int p4), .val (.int (0 : Int32)), .unset, .unset, .unset, .unset, .unset, .unset, .unset, .unset, .unset, .unset, .unset, .unset, .unset] [.int c0]))
  refine g_istore X1 B #[.val (.int u0), .val (.int p1), .val (.int p2), .val (.int p3), .val (.int p4), .val (.int (0 : Int32)), .val (.int c0), .unset, .unset, .unset, .unset, .unset, .unset, .unset, .unset, .unset, .unset, .unset, .unset] at_10 12 rfl rfl ?_
  refine g_iloadN X1 B at_12 13 rfl rfl ?_
  refine g_callS X1 B [.int p2] [] at_13 16 rfl rfl (hw _ (List.mem_of_getElem? (i := 0) rfl)) (hw _ (List.mem_of_getElem? (i := 1) rfl)) (hw _ (List.mem_of_getElem? (i := 2) rfl)) (hw _ (List.mem_of_getElem? (i := 3) rfl)) (by decide) (lenOf pd_1 rfl) (rm_mk l Z ag hw p2 h0 n0) e1 rfl 0 (Nat.le_of_eq rfl) (by decide) (by decide) (by decide) (by decide) (fun v2 T2 h2 L2 X2 e2 q2 => ?_)
  obtain ⟨c1, rfl, hx1, N2, rfl⟩ := q2
  show Go p e below _ (T2.setTop (mkF m 16 #[.val (.int u0), .val (.int p1), .val (.int p2), .val (.int p3), .val (.int p4), .val (.int (0 : Int32)), .val (.int c0), .unset, .unset, .unset, .unset, .unset, .unset, .unset, .unset, .unset, .unset, .unset, .unset] [.int c1]))
  refine g_istore X2 B #[.val (.int u0), .val (.int p1), .val (.int p2), .val (.int p3), .val (.int p4), .val (.int (0 : Int32)), .val (.int c0), .val (.int c1), .unset, .unset, .unset, .unset, .unset, .unset, .unset, .unset, .unset, .unset, .unset] at_16 18 rfl rfl ?_
  refine g_iloadN X2 B at_18 19 rfl rfl ?_
  refine g_callS X2 B [.int p3] [] at_19 22 rfl rfl (hw _ (List.mem_of_getElem? (i := 0) rfl)) (hw _ (List.mem_of_getElem? (i := 1) rfl)) (hw _ (List.mem_of_getElem? (i := 2) rfl)) (hw _ (List.mem_of_getElem? (i := 3) rfl)) (by decide) (lenOf pd_1 rfl) (rm_mk l Z ag hw p3 h0 n0) e2 rfl 0 (Nat.le_of_eq rfl) (by decide) (by decide) (by decide) (by decide) (fun v3 T3 h3 L3 X3 e3 q3 => ?_)
  obtain ⟨c2, rfl, hx2, N3, rfl⟩ := q3
  show Go p e below _ (T3.setTop (mkF m 22 #[.val (.int u0), .val (.int p1), .val (.int p2), .val (.int p3), .val (.int p4), .val (.int (0 : Int32)), .val (.int c0), .val (.int c1), .unset, .unset, .unset, .unset, .unset, .unset, .unset, .unset, .unset, .unset, .unset] [.int c2]))
  refine g_istore X3 B #[.val (.int u0), .val (.int p1), .val (.int p2), .val (.int p3), .val (.int p4), .val (.int (0 : Int32)), .val (.int c0), .val (.int c1), .val (.int c2), .unset, .unset, .unset, .unset, .unset, .unset, .unset, .unset, .unset, .unset] at_22 24 rfl rfl ?_
  refine g_iload X3 B at_24 26 rfl rfl ?_
  refine g_if_ne X3 B at_26 47 29 rfl (by decide) rfl (fun z => own_abs (by decide) z) (fun _ => ?_)
  refine g_new X3 B at_29 32 rfl (hw _ (List.mem_of_getElem? (i := 5) rfl)) (hw _ (List.mem_of_getElem? (i := 6) rfl)) (hw _ (List.mem_of_getElem? (i := 7) rfl)) e3 (by decide) (by decide) (fun T4 h4 str X4 e4 ea4 E4 A4 D4 => ?_)
  have g_str : n0 ≤ str := ea4 ▸ Z0
  have gg_str : h0.size ≤ str := ea4 ▸ (Keep.refl h0 []).1
  have t1 : d1 ≠ str := ea4 ▸ Nat.ne_of_lt (AD1.lt)
  have t2 : d2 ≠ str := ea4 ▸ Nat.ne_of_lt (AD2.lt)
  have D4_0 : Fld Z h4 str "java/lang/String" "value" "[B" (.null) := D4 (Or.inr (hw _ (List.mem_of_getElem? (i := 21) rfl))) (ty := (.array .byte)) (by decide)
  have D4_1 : Fld Z h4 str "java/lang/String" "coder" "B" (.int 0) := D4 (Or.inr (hw _ (List.mem_of_getElem? (i := 22) rfl))) (ty := .byte) (by decide)
  refine g_dup X4 B at_32 33 rfl rfl ?_
  refine g_iconst X4 B (0) at_33 34 rfl rfl ?_
  refine g_newP X4 B [] at_34 36 rfl (hw _ (List.mem_of_getElem? (i := 8) rfl)) e4 (by decide) rfl (by decide) (by decide) (by decide) (fun T5 h5 ar X5 e5 ea5 E5 A5 => ?_)
  have t3 := (Nat.le_trans Z0 E4.1)
  have t4 := (Keep.ext (Keep.refl h0 []) E4)
  have t5 := (Av.ext AD1 E4)
  have t6 := (Av.ext AD2 E4)
  have g_ar : n0 ≤ ar := ea5 ▸ t3
  have gg_ar : h0.size ≤ ar := ea5 ▸ t4.1
  have t7 : d1 ≠ ar := ea5 ▸ Nat.ne_of_lt (t5.lt)
  have t8 : d2 ≠ ar := ea5 ▸ Nat.ne_of_lt (t6.lt)
  have t9 : str ≠ ar := ea5 ▸ Nat.ne_of_lt (A4.lt)
  have t10 := (Exa.ext E5 A4)
  have t11 := (Fld.ext E5 D4_0)
  have t12 := (Fld.ext E5 D4_1)
  have t13 := (Keep.ext t4 E5)
  have t14 := (Nat.le_trans t3 E5.1)
  refine g_callNW X5 B hS (Nat.zero_le _) I [.ref ar] [.ref str] at_36 39 rfl rfl rfl (hw _ (List.mem_of_getElem? (i := 9) rfl)) (hw _ (List.mem_of_getElem? (i := 10) rfl)) (hw _ (List.mem_of_getElem? (i := 11) rfl)) (hw _ (List.mem_of_getElem? (i := 7) rfl)) (by decide) (lenOf pd_2 rfl) (rW_i1 l Z ag hw str ar h5 n0 t14 g_str t10 t11 t12 (fun b cl q => t13.2.1 b cl (OZ b cl q) nin0) hH7s hcw A5) e5 rfl 1 (Nat.le_of_eq rfl) (by decide) (by decide) (by decide) (by decide) (fun v6 T6 h6 L6 X6 B e6 hS q6 => ?_)
  obtain ⟨bb, rfl, N6, K6, f1, f2, f3, I⟩ := q6
  show Go p e below _ (T6.setTop (mkF m 39 #[.val (.int u0), .val (.int p1), .val (.int p2), .val (.int p3), .val (.int p4), .val (.int (0 : Int32)), .val (.int c0), .val (.int c1), .val (.int c2), .unset, .unset, .unset, .unset, .unset, .unset, .unset, .unset, .unset, .unset] [.ref str]))
  have kk6 : h6.size ≤ h6.size := Nat.le_refl _
  have hSV : own_SV 0 [] ([] : List Int32) := Or.inl ⟨rfl, rfl, fun j c q => absurd q (Nat.not_lt_zero _)⟩
  refine g_astore X6 B #[.val (.int u0), .val (.int p1), .val (.int p2), .val (.int p3), .val (.int p4), .val (.int (0 : Int32)), .val (.int c0), .val (.int c1), .val (.int c2), .val (.ref str), .unset, .unset, .unset, .unset, .unset, .unset, .unset, .unset, .unset] at_39 41 rfl rfl rfl ?_
  refine g_iconst X6 B (0) at_41 42 rfl rfl ?_
  refine g_istore X6 B #[.val (.int u0), .val (.int p1), .val (.int p2), .val (.int p3), .val (.int p4), .val (.int (0 : Int32)), .val (.int c0), .val (.int c1), .val (.int c2), .val (.ref str), .val (.int (0 : Int32)), .unset, .unset, .unset, .unset, .unset, .unset, .unset, .unset] at_42 44 rfl rfl ?_
  refine g_goto X6 B at_44 225 rfl (by decide) ?_
  rw [show (0 : Int32) = (Int32.ofNat (0 - own_ps ([] : List Int32) (0 - 1))) from rfl]
  refine g_iloadN X6 B at_225 226 rfl rfl ?_
  have t15 := (Keep.trans t13 K6 (allS (Or.inr gg_str) all0))
  have t16 := (Nat.le_trans t14 K6.1)
  have t17 := (Av.keep (Av.ext t5 E5) K6 (ninS t1 nin0))
  have t18 := (Av.keep (Av.ext t6 E5) K6 (ninS t2 nin0))
  have t19 := (own_stkw (Sta.ext E5 (Sta.ext E4 SC)) K6 (own_plE t10 own_pl0))
  have t20 := (own_stkw (Sta.ext E5 (Sta.ext E4 SD1)) K6 (own_plE t10 own_pl0))
  have t21 := (own_stkw (Sta.ext E5 (Sta.ext E4 SD2)) K6 (own_plE t10 own_pl0))
  refine g_callSW X6 B hS kk6 I [.int u0] [] at_226 229 rfl rfl (hw _ (List.mem_of_getElem? (i := 27) rfl)) (hw _ (List.mem_of_getElem? (i := 28) rfl)) (hw _ (List.mem_of_getElem? (i := 29) rfl)) (hw _ (List.mem_of_getElem? (i := 30) rfl)) (by decide) (lenOf pd_5 rfl) (rT_fac l Z ag hw u0 cx d1 d2 _ h6 h6.size (Nat.le_refl _) (Nat.le_refl _) t19 hcx t20 t21 t17 t18 t17.lt t18.lt (fun b cl q => t15.2.1 b cl (OZ b cl q) nin0) hH35 hH44 hcw (by simp)) e6 rfl 0 (Nat.le_of_eq rfl) (by decide) (by decide) (by decide) (by decide) (fun v7 T7 h7 L7 X7 B e7 hS q7 => ?_)
  obtain ⟨tr, fo, cK, rq, rb, ws, rfl, M7, K7, tE, tF, tC, hmd, tR, rE, rV, rC, rA, hLr⟩ := q7
  show Go p e below _ (T7.setTop (mkF m 229 #[.val (.int u0), .val (.int p1), .val (.int p2), .val (.int p3), .val (.int p4), .val (.int (0 : Int32)), .val (.int c0), .val (.int c1), .val (.int c2), .val (.ref str), .val (.int (Int32.ofNat (0 - own_ps ([] : List Int32) (0 - 1)))), .unset, .unset, .unset, .unset, .unset, .unset, .unset, .unset] [.ref tr]))
  have N7 := own_Frle M7 t16
  have kk7 : h7.size ≤ h7.size := Nat.le_refl _
  have hM : (own_digs u0.toInt.natAbs).length ≤ 10 := own_digs_le (own_nalt u0)
  have hMp : 0 < (own_digs u0.toInt.natAbs).length := own_digs_pos _
  refine g_astore X7 B #[.val (.int u0), .val (.int p1), .val (.int p2), .val (.int p3), .val (.int p4), .val (.int (0 : Int32)), .val (.int c0), .val (.int c1), .val (.int c2), .val (.ref str), .val (.int (Int32.ofNat (0 - own_ps ([] : List Int32) (0 - 1)))), .val (.ref tr), .unset, .unset, .unset, .unset, .unset, .unset, .unset] at_229 231 rfl rfl rfl ?_
  refine g_aload X7 B at_231 233 rfl rfl rfl ?_
  refine g_aload X7 B at_233 235 rfl rfl rfl ?_
  have t22 := (Exa.keep (Exa.keep t10 K6) K7)
  have t23 := (Fld.keep f1 K7 nin0)
  have t24 := (Fld.keep f2 K7 nin0)
  have t25 := (Av.keep f3 K7 nin0)
  have t26 := (own_stk (own_stkw (Sta.ext E5 (Sta.ext E4 SA)) K6 (own_plE t10 own_pl0)) K7)
  have t27 := (own_stk (own_stkw (Sta.ext E5 (Sta.ext E4 SH)) K6 (own_plE t10 own_pl0)) K7)
  have t28 := (own_stk (own_stkw (Sta.ext E5 (Sta.ext E4 SLo)) K6 (own_plE t10 own_pl0)) K7)
  have t29 := (own_stk t19 K7)
  refine g_callV X7 B [.ref str] [] at_235 238 rfl rfl (hw _ (List.mem_of_getElem? (i := 201) rfl)) (hw _ (List.mem_of_getElem? (i := 202) rfl)) (hw _ (List.mem_of_getElem? (i := 204) rfl)) (hw _ (List.mem_of_getElem? (i := 203) rfl)) (hw _ (List.mem_of_getElem? (i := 29) rfl)) (hw _ (List.mem_of_getElem? (i := 205) rfl)) (by decide) (lenOf pd_37 rfl) tE (rT_alw l Z ag hw str bb 0 cx [] ([] : List Int32) tr fo cK u0 h7 n0 tF tC hmd t22 t23 t24 t25 (by simp) (fun c q => nomatch q) hSV t26 t27 t28 t29 hcx) e7 rfl 0 (Nat.le_of_eq rfl) (by decide) (by decide) (by decide) (by decide) (fun v8 T8 h8 L8 X8 e8 q8 => ?_)
  obtain ⟨rfl, N8, rfl⟩ := q8
  show Go p e below _ (T8.setTop (mkF m 238 #[.val (.int u0), .val (.int p1), .val (.int p2), .val (.int p3), .val (.int p4), .val (.int (0 : Int32)), .val (.int c0), .val (.int c1), .val (.int c2), .val (.ref str), .val (.int (Int32.ofNat (0 - own_ps ([] : List Int32) (0 - 1)))), .val (.ref tr), .unset, .unset, .unset, .unset, .unset, .unset, .unset] [.int (if ¬ u0 < (Int32.ofNat (0 - own_ps ([] : List Int32) (0 - 1))) then (1 : Int32) else 0)]))
  have j2 : Go p e below (EndsW s (fun v h vm L => v = some (.int 1) ∧ Fr n0 L) room_1.cells room_1.slots) (T8.setTop (mkF m 257 #[.val (.int u0), .val (.int p1), .val (.int p2), .val (.int p3), .val (.int p4), .val (.int (0 : Int32)), .val (.int c0), .val (.int c1), .val (.int c2), .val (.ref str), .val (.int (Int32.ofNat (0 - own_ps ([] : List Int32) (0 - 1)))), .val (.ref tr), .unset, .unset, .unset, .unset, .unset, .unset, .unset] [.int 1])) := by
    refine g_istore X8 B #[.val (.int u0), .val (.int p1), .val (.int p2), .val (.int p3), .val (.int p4), .val (.int (0 : Int32)), .val (.int c0), .val (.int c1), .val (.int c2), .val (.ref str), .val (.int (Int32.ofNat (0 - own_ps ([] : List Int32) (0 - 1)))), .val (.ref tr), .val (.int (1 : Int32)), .unset, .unset, .unset, .unset, .unset, .unset] at_257 259 rfl rfl ?_
    refine g_aload X8 B at_259 261 rfl rfl rfl ?_
    refine g_callV X8 B [] [] at_261 264 rfl rfl (hw _ (List.mem_of_getElem? (i := 233) rfl)) (hw _ (List.mem_of_getElem? (i := 234) rfl)) (hw _ (List.mem_of_getElem? (i := 236) rfl)) (hw _ (List.mem_of_getElem? (i := 235) rfl)) (hw _ (List.mem_of_getElem? (i := 29) rfl)) (hw _ (List.mem_of_getElem? (i := 237) rfl)) (by decide) (lenOf pd_44 rfl) tE (rm_req l Z ag hw tr rq h7 n0 tR) e8 rfl 0 (Nat.le_of_eq rfl) (by decide) (by decide) (by decide) (by decide) (fun v9 T9 h9 L9 X9 e9 q9 => ?_)
    obtain ⟨rfl, N9, rfl⟩ := q9
    show Go p e below _ (T9.setTop (mkF m 264 #[.val (.int u0), .val (.int p1), .val (.int p2), .val (.int p3), .val (.int p4), .val (.int (0 : Int32)), .val (.int c0), .val (.int c1), .val (.int c2), .val (.ref str), .val (.int (Int32.ofNat (0 - own_ps ([] : List Int32) (0 - 1)))), .val (.ref tr), .val (.int (1 : Int32)), .unset, .unset, .unset, .unset, .unset, .unset] [.ref rq]))
    refine g_astore X9 B #[.val (.int u0), .val (.int p1), .val (.int p2), .val (.int p3), .val (.int p4), .val (.int (0 : Int32)), .val (.int c0), .val (.int c1), .val (.int c2), .val (.ref str), .val (.int (Int32.ofNat (0 - own_ps ([] : List Int32) (0 - 1)))), .val (.ref tr), .val (.int (1 : Int32)), .val (.ref rq), .unset, .unset, .unset, .unset, .unset] at_264 266 rfl rfl rfl ?_
    refine g_iloadN X9 B at_266 267 rfl rfl ?_
    refine g_if_ge X9 B at_267 274 270 rfl (by decide) rfl (fun hng => ?_) (fun hng => ?_)
    · skip
      have hF : (((([] : List Int32) ++ ([109, 117, 115, 116, 32, 98, 101, 32, 97, 116, 32, 109, 111, 115, 116, 32] : List Int32)) ++ own_dec u0) ++ ([32, 99, 104, 97, 114, 97, 99, 116, 101, 114, 115] : List Int32)) = ((([109, 117, 115, 116, 32, 98, 101, 32, 97, 116, 32, 109, 111, 115, 116, 32] : List Int32) ++ own_digs u0.toInt.natAbs) ++ ([32, 99, 104, 97, 114, 97, 99, 116, 101, 114, 115] : List Int32)) := by rw [own_dec_n hng]; rfl
      rw [hF] at hLr
      have hFl : ((([109, 117, 115, 116, 32, 98, 101, 32, 97, 116, 32, 109, 111, 115, 116, 32] : List Int32) ++ own_digs u0.toInt.natAbs) ++ ([32, 99, 104, 97, 114, 97, 99, 116, 101, 114, 115] : List Int32)).length = 27 + (own_digs u0.toInt.natAbs).length := by rw [List.length_append, List.length_append]; show 16 + _ + 11 = _; omega
      have hn70 : ((([109, 117, 115, 116, 32, 98, 101, 32, 97, 116, 32, 109, 111, 115, 116, 32] : List Int32) ++ own_digs u0.toInt.natAbs) ++ ([32, 99, 104, 97, 114, 97, 99, 116, 101, 114, 115] : List Int32)).length ≤ 70 := by rw [hFl]; omega
      refine g_iconst X9 B (0) at_274 275 rfl rfl ?_
      refine g_istore X9 B #[.val (.int u0), .val (.int p1), .val (.int p2), .val (.int p3), .val (.int p4), .val (.int (0 : Int32)), .val (.int c0), .val (.int c1), .val (.int c2), .val (.ref str), .val (.int (Int32.ofNat (0 - own_ps ([] : List Int32) (0 - 1)))), .val (.ref tr), .val (.int (1 : Int32)), .val (.ref rq), .val (.int (0 : Int32)), .unset, .unset, .unset, .unset] at_275 277 rfl rfl ?_
      refine g_iloadN X9 B at_277 278 rfl rfl ?_
      refine g_i2l X9 B at_278 279 rfl ?_
      refine g_callS X9 B [.long (u0.toInt64)] [] at_279 282 rfl rfl (hw _ (List.mem_of_getElem? (i := 238) rfl)) (hw _ (List.mem_of_getElem? (i := 239) rfl)) (hw _ (List.mem_of_getElem? (i := 128) rfl)) (hw _ (List.mem_of_getElem? (i := 240) rfl)) (by decide) (lenOf pd_45 rfl) (rm_abs l Z ag hw u0.toInt64 h7 n0) e9 rfl 0 (Nat.le_of_eq rfl) (by decide) (by decide) (by decide) (by decide) (fun v10 T10 h10 L10 X10 e10 q10 => ?_)
      obtain ⟨rfl, N10, rfl⟩ := q10
      show Go p e below _ (T10.setTop (mkF m 282 #[.val (.int u0), .val (.int p1), .val (.int p2), .val (.int p3), .val (.int p4), .val (.int (0 : Int32)), .val (.int c0), .val (.int c1), .val (.int c2), .val (.ref str), .val (.int (Int32.ofNat (0 - own_ps ([] : List Int32) (0 - 1)))), .val (.ref tr), .val (.int (1 : Int32)), .val (.ref rq), .val (.int (0 : Int32)), .unset, .unset, .unset, .unset] [.long (own_absv u0)]))
      refine g_lstore X10 B #[.val (.int u0), .val (.int p1), .val (.int p2), .val (.int p3), .val (.int p4), .val (.int (0 : Int32)), .val (.int c0), .val (.int c1), .val (.int c2), .val (.ref str), .val (.int (Int32.ofNat (0 - own_ps ([] : List Int32) (0 - 1)))), .val (.ref tr), .val (.int (1 : Int32)), .val (.ref rq), .val (.int (0 : Int32)), .val (.long (own_absv u0)), .second, .unset, .unset] at_282 284 rfl rfl ?_
      refine g_bipush X10 B (27) at_284 286 rfl rfl ?_
      refine g_iload X10 B at_286 288 rfl rfl ?_
      refine g_if_eq X10 B at_288 295 291 rfl (by decide) rfl (fun _ => ?_) (fun z => own_abs (by decide) z)
      refine g_iconst X10 B (0) at_295 296 rfl rfl ?_
      refine g_iadd X10 B at_296 297 rfl ?_
      refine g_lload X10 B at_297 299 rfl rfl ?_
      refine g_callS X10 B [.long (own_absv u0)] [.int ((27 : Int32) + (0 : Int32))] at_299 302 rfl rfl (hw _ (List.mem_of_getElem? (i := 241) rfl)) (hw _ (List.mem_of_getElem? (i := 242) rfl)) (hw _ (List.mem_of_getElem? (i := 2) rfl)) (hw _ (List.mem_of_getElem? (i := 243) rfl)) (by decide) (lenOf pd_46 rfl) (rm_digits l Z ag hw (own_absv u0) u0.toInt.natAbs h7 n0 (own_absz u0) (own_nalt u0)) e10 rfl 1 (Nat.le_of_eq rfl) (by decide) (by decide) (by decide) (by decide) (fun v11 T11 h11 L11 X11 e11 q11 => ?_)
      obtain ⟨rfl, N11, rfl⟩ := q11
      show Go p e below _ (T11.setTop (mkF m 302 #[.val (.int u0), .val (.int p1), .val (.int p2), .val (.int p3), .val (.int p4), .val (.int (0 : Int32)), .val (.int c0), .val (.int c1), .val (.int c2), .val (.ref str), .val (.int (Int32.ofNat (0 - own_ps ([] : List Int32) (0 - 1)))), .val (.ref tr), .val (.int (1 : Int32)), .val (.ref rq), .val (.int (0 : Int32)), .val (.long (own_absv u0)), .second, .unset, .unset] [.int (Int32.ofNat (own_digs u0.toInt.natAbs).length), .int ((27 : Int32) + (0 : Int32))]))
      refine g_iadd X11 B at_302 303 rfl ?_
      rw [show ((27 : Int32) + (0 : Int32)) = Int32.ofNat 27 by decide, own_addN (by omega)]
      refine g_istore X11 B #[.val (.int u0), .val (.int p1), .val (.int p2), .val (.int p3), .val (.int p4), .val (.int (0 : Int32)), .val (.int c0), .val (.int c1), .val (.int c2), .val (.ref str), .val (.int (Int32.ofNat (0 - own_ps ([] : List Int32) (0 - 1)))), .val (.ref tr), .val (.int (1 : Int32)), .val (.ref rq), .val (.int (0 : Int32)), .val (.long (own_absv u0)), .second, .val (.int (Int32.ofNat (27 + (own_digs u0.toInt.natAbs).length))), .unset] at_303 305 rfl rfl ?_
      refine g_aload X11 B at_305 307 rfl rfl rfl ?_
      refine g_callV X11 B [] [] at_307 310 rfl rfl (hw _ (List.mem_of_getElem? (i := 245) rfl)) (hw _ (List.mem_of_getElem? (i := 67) rfl)) (hw _ (List.mem_of_getElem? (i := 69) rfl)) (hw _ (List.mem_of_getElem? (i := 68) rfl)) (hw _ (List.mem_of_getElem? (i := 7) rfl)) (hw _ (List.mem_of_getElem? (i := 70) rfl)) (by decide) (lenOf pd_10 rfl) rE (rB_len l Z ag hw rq rb cx ws ((([109, 117, 115, 116, 32, 98, 101, 32, 97, 116, 32, 109, 111, 115, 116, 32] : List Int32) ++ own_digs u0.toInt.natAbs) ++ ([32, 99, 104, 97, 114, 97, 99, 116, 101, 114, 115] : List Int32)) h7 n0 rE rV rC rA hn70 hLr t29 hcx) e11 rfl 0 (Nat.le_of_eq rfl) (by decide) (by decide) (by decide) (by decide) (fun v12 T12 h12 L12 X12 e12 q12 => ?_)
      obtain ⟨rfl, N12, rfl⟩ := q12
      show Go p e below _ (T12.setTop (mkF m 310 #[.val (.int u0), .val (.int p1), .val (.int p2), .val (.int p3), .val (.int p4), .val (.int (0 : Int32)), .val (.int c0), .val (.int c1), .val (.int c2), .val (.ref str), .val (.int (Int32.ofNat (0 - own_ps ([] : List Int32) (0 - 1)))), .val (.ref tr), .val (.int (1 : Int32)), .val (.ref rq), .val (.int (0 : Int32)), .val (.long (own_absv u0)), .second, .val (.int (Int32.ofNat (27 + (own_digs u0.toInt.natAbs).length))), .unset] [.int (Int32.ofNat ((([109, 117, 115, 116, 32, 98, 101, 32, 97, 116, 32, 109, 111, 115, 116, 32] : List Int32) ++ own_digs u0.toInt.natAbs) ++ ([32, 99, 104, 97, 114, 97, 99, 116, 101, 114, 115] : List Int32)).length)]))
      refine g_iload X12 B at_310 312 rfl rfl ?_
      refine g_icmp_ne X12 B at_312 319 315 rfl (by decide) rfl (fun z => own_abs (by rw [hFl]) z) (fun _ => ?_)
      refine g_iconst X12 B (1) at_315 316 rfl rfl ?_
      refine g_goto X12 B at_316 320 rfl (by decide) ?_
      refine g_istore X12 B #[.val (.int u0), .val (.int p1), .val (.int p2), .val (.int p3), .val (.int p4), .val (.int (0 : Int32)), .val (.int c0), .val (.int c1), .val (.int c2), .val (.ref str), .val (.int (Int32.ofNat (0 - own_ps ([] : List Int32) (0 - 1)))), .val (.ref tr), .val (.int (1 : Int32)), .val (.ref rq), .val (.int (0 : Int32)), .val (.long (own_absv u0)), .second, .val (.int (Int32.ofNat (27 + (own_digs u0.toInt.natAbs).length))), .val (.int (1 : Int32))] at_320 322 rfl rfl ?_
      refine g_iload X12 B at_322 324 rfl rfl ?_
      refine g_if_eq X12 B at_324 432 327 rfl (by decide) rfl (fun z => own_abs' (by decide) z) (fun _ => ?_)
      refine g_aload X12 B at_327 329 rfl rfl rfl ?_
      refine g_iconst X12 B (0) at_329 330 rfl rfl ?_
      have t30 := (own_stk (own_stkw (Sta.ext E5 (Sta.ext E4 SF)) K6 (own_plE t10 own_pl0)) K7)
      refine g_callV X12 B [.int (0 : Int32)] [] at_330 333 rfl rfl (hw _ (List.mem_of_getElem? (i := 246) rfl)) (hw _ (List.mem_of_getElem? (i := 247) rfl)) (hw _ (List.mem_of_getElem? (i := 249) rfl)) (hw _ (List.mem_of_getElem? (i := 248) rfl)) (hw _ (List.mem_of_getElem? (i := 7) rfl)) (hw _ (List.mem_of_getElem? (i := 250) rfl)) (by decide) (lenOf pd_47 rfl) rE (rL_cat l Z ag hw rq rb cx 0 109 ws ((([109, 117, 115, 116, 32, 98, 101, 32, 97, 116, 32, 109, 111, 115, 116, 32] : List Int32) ++ own_digs u0.toInt.natAbs) ++ ([32, 99, 104, 97, 114, 97, 99, 116, 101, 114, 115] : List Int32)) g h7 n0 rE rV rC rA hn70 hLr t29 hcx (by rw [hFl]; omega) (own_at1 (by decide)) (by unfold own_ch; decide) t30 hg) e12 rfl 0 (Nat.le_of_eq rfl) (by decide) (by decide) (by decide) (by decide) (fun v13 T13 h13 L13 X13 e13 q13 => ?_)
      obtain ⟨rfl, N13, rfl⟩ := q13
      show Go p e below _ (T13.setTop (mkF m 333 #[.val (.int u0), .val (.int p1), .val (.int p2), .val (.int p3), .val (.int p4), .val (.int (0 : Int32)), .val (.int c0), .val (.int c1), .val (.int c2), .val (.ref str), .val (.int (Int32.ofNat (0 - own_ps ([] : List Int32) (0 - 1)))), .val (.ref tr), .val (.int (1 : Int32)), .val (.ref rq), .val (.int (0 : Int32)), .val (.long (own_absv u0)), .second, .val (.int (Int32.ofNat (27 + (own_digs u0.toInt.natAbs).length))), .val (.int (1 : Int32))] [.int 109]))
      refine g_bipush X13 B (109) at_333 335 rfl rfl ?_
      refine g_icmp_ne X13 B at_335 429 338 rfl (by decide) rfl (fun z => own_abs (rfl) z) (fun _ => ?_)
      refine g_aload X13 B at_338 340 rfl rfl rfl ?_
      refine g_bipush X13 B (15) at_340 342 rfl rfl ?_
      refine g_callV X13 B [.int (15 : Int32)] [] at_342 345 rfl rfl (hw _ (List.mem_of_getElem? (i := 246) rfl)) (hw _ (List.mem_of_getElem? (i := 247) rfl)) (hw _ (List.mem_of_getElem? (i := 249) rfl)) (hw _ (List.mem_of_getElem? (i := 248) rfl)) (hw _ (List.mem_of_getElem? (i := 7) rfl)) (hw _ (List.mem_of_getElem? (i := 250) rfl)) (by decide) (lenOf pd_47 rfl) rE (rL_cat l Z ag hw rq rb cx 15 32 ws ((([109, 117, 115, 116, 32, 98, 101, 32, 97, 116, 32, 109, 111, 115, 116, 32] : List Int32) ++ own_digs u0.toInt.natAbs) ++ ([32, 99, 104, 97, 114, 97, 99, 116, 101, 114, 115] : List Int32)) g h7 n0 rE rV rC rA hn70 hLr t29 hcx (by rw [hFl]; omega) (own_at1 (by decide)) (by unfold own_ch; decide) t30 hg) e13 rfl 0 (Nat.le_of_eq rfl) (by decide) (by decide) (by decide) (by decide) (fun v14 T14 h14 L14 X14 e14 q14 => ?_)
      obtain ⟨rfl, N14, rfl⟩ := q14
      show Go p e below _ (T14.setTop (mkF m 345 #[.val (.int u0), .val (.int p1), .val (.int p2), .val (.int p3), .val (.int p4), .val (.int (0 : Int32)), .val (.int c0), .val (.int c1), .val (.int c2), .val (.ref str), .val (.int (Int32.ofNat (0 - own_ps ([] : List Int32) (0 - 1)))), .val (.ref tr), .val (.int (1 : Int32)), .val (.ref rq), .val (.int (0 : Int32)), .val (.long (own_absv u0)), .second, .val (.int (Int32.ofNat (27 + (own_digs u0.toInt.natAbs).length))), .val (.int (1 : Int32))] [.int 32]))
      refine g_bipush X14 B (32) at_345 347 rfl rfl ?_
      refine g_icmp_ne X14 B at_347 429 350 rfl (by decide) rfl (fun z => own_abs (rfl) z) (fun _ => ?_)
      refine g_aload X14 B at_350 352 rfl rfl rfl ?_
      refine g_iload X14 B at_352 354 rfl rfl ?_
      refine g_iconst X14 B (1) at_354 355 rfl rfl ?_
      refine g_isub X14 B at_355 356 rfl ?_
      rw [show (1 : Int32) = Int32.ofNat 1 from rfl, own_subN (by omega) (by omega)]
      refine g_callV X14 B [.int (Int32.ofNat (27 + (own_digs u0.toInt.natAbs).length - 1))] [] at_356 359 rfl rfl (hw _ (List.mem_of_getElem? (i := 246) rfl)) (hw _ (List.mem_of_getElem? (i := 247) rfl)) (hw _ (List.mem_of_getElem? (i := 249) rfl)) (hw _ (List.mem_of_getElem? (i := 248) rfl)) (hw _ (List.mem_of_getElem? (i := 7) rfl)) (hw _ (List.mem_of_getElem? (i := 250) rfl)) (by decide) (lenOf pd_47 rfl) rE (rL_cat l Z ag hw rq rb cx (27 + (own_digs u0.toInt.natAbs).length - 1) 115 ws ((([109, 117, 115, 116, 32, 98, 101, 32, 97, 116, 32, 109, 111, 115, 116, 32] : List Int32) ++ own_digs u0.toInt.natAbs) ++ ([32, 99, 104, 97, 114, 97, 99, 116, 101, 114, 115] : List Int32)) g h7 n0 rE rV rC rA hn70 hLr t29 hcx (by rw [hFl]; omega) (own_at3 (j := 10) (show 27 + (own_digs u0.toInt.natAbs).length - 1 = 16 + (own_digs u0.toInt.natAbs).length + 10 by omega)) (by unfold own_ch; decide) t30 hg) e14 rfl 0 (Nat.le_of_eq rfl) (by decide) (by decide) (by decide) (by decide) (fun v15 T15 h15 L15 X15 e15 q15 => ?_)
      obtain ⟨rfl, N15, rfl⟩ := q15
      show Go p e below _ (T15.setTop (mkF m 359 #[.val (.int u0), .val (.int p1), .val (.int p2), .val (.int p3), .val (.int p4), .val (.int (0 : Int32)), .val (.int c0), .val (.int c1), .val (.int c2), .val (.ref str), .val (.int (Int32.ofNat (0 - own_ps ([] : List Int32) (0 - 1)))), .val (.ref tr), .val (.int (1 : Int32)), .val (.ref rq), .val (.int (0 : Int32)), .val (.long (own_absv u0)), .second, .val (.int (Int32.ofNat (27 + (own_digs u0.toInt.natAbs).length))), .val (.int (1 : Int32))] [.int 115]))
      refine g_bipush X15 B (115) at_359 361 rfl rfl ?_
      refine g_icmp_ne X15 B at_361 429 364 rfl (by decide) rfl (fun z => own_abs (rfl) z) (fun _ => ?_)
      refine g_aload X15 B at_364 366 rfl rfl rfl ?_
      refine g_iload X15 B at_366 368 rfl rfl ?_
      refine g_bipush X15 B (11) at_368 370 rfl rfl ?_
      refine g_isub X15 B at_370 371 rfl ?_
      rw [show (11 : Int32) = Int32.ofNat 11 from rfl, own_subN (by omega) (by omega)]
      refine g_callV X15 B [.int (Int32.ofNat (27 + (own_digs u0.toInt.natAbs).length - 11))] [] at_371 374 rfl rfl (hw _ (List.mem_of_getElem? (i := 246) rfl)) (hw _ (List.mem_of_getElem? (i := 247) rfl)) (hw _ (List.mem_of_getElem? (i := 249) rfl)) (hw _ (List.mem_of_getElem? (i := 248) rfl)) (hw _ (List.mem_of_getElem? (i := 7) rfl)) (hw _ (List.mem_of_getElem? (i := 250) rfl)) (by decide) (lenOf pd_47 rfl) rE (rL_cat l Z ag hw rq rb cx (27 + (own_digs u0.toInt.natAbs).length - 11) 32 ws ((([109, 117, 115, 116, 32, 98, 101, 32, 97, 116, 32, 109, 111, 115, 116, 32] : List Int32) ++ own_digs u0.toInt.natAbs) ++ ([32, 99, 104, 97, 114, 97, 99, 116, 101, 114, 115] : List Int32)) g h7 n0 rE rV rC rA hn70 hLr t29 hcx (by rw [hFl]; omega) (own_at3 (j := 0) (show 27 + (own_digs u0.toInt.natAbs).length - 11 = 16 + (own_digs u0.toInt.natAbs).length + 0 by omega)) (by unfold own_ch; decide) t30 hg) e15 rfl 0 (Nat.le_of_eq rfl) (by decide) (by decide) (by decide) (by decide) (fun v16 T16 h16 L16 X16 e16 q16 => ?_)
      obtain ⟨rfl, N16, rfl⟩ := q16
      show Go p e below _ (T16.setTop (mkF m 374 #[.val (.int u0), .val (.int p1), .val (.int p2), .val (.int p3), .val (.int p4), .val (.int (0 : Int32)), .val (.int c0), .val (.int c1), .val (.int c2), .val (.ref str), .val (.int (Int32.ofNat (0 - own_ps ([] : List Int32) (0 - 1)))), .val (.ref tr), .val (.int (1 : Int32)), .val (.ref rq), .val (.int (0 : Int32)), .val (.long (own_absv u0)), .second, .val (.int (Int32.ofNat (27 + (own_digs u0.toInt.natAbs).length))), .val (.int (1 : Int32))] [.int 32]))
      refine g_bipush X16 B (32) at_374 376 rfl rfl ?_
      refine g_icmp_ne X16 B at_376 429 379 rfl (by decide) rfl (fun z => own_abs (rfl) z) (fun _ => ?_)
      refine g_aload X16 B at_379 381 rfl rfl rfl ?_
      refine g_bipush X16 B (16) at_381 383 rfl rfl ?_
      obtain ⟨cf, hcf, hcfc, hcfn⟩ := own_firstd u0.toInt.natAbs
      refine g_callV X16 B [.int (16 : Int32)] [] at_383 386 rfl rfl (hw _ (List.mem_of_getElem? (i := 246) rfl)) (hw _ (List.mem_of_getElem? (i := 247) rfl)) (hw _ (List.mem_of_getElem? (i := 249) rfl)) (hw _ (List.mem_of_getElem? (i := 248) rfl)) (hw _ (List.mem_of_getElem? (i := 7) rfl)) (hw _ (List.mem_of_getElem? (i := 250) rfl)) (by decide) (lenOf pd_47 rfl) rE (rL_cat l Z ag hw rq rb cx 16 cf ws ((([109, 117, 115, 116, 32, 98, 101, 32, 97, 116, 32, 109, 111, 115, 116, 32] : List Int32) ++ own_digs u0.toInt.natAbs) ++ ([32, 99, 104, 97, 114, 97, 99, 116, 101, 114, 115] : List Int32)) g h7 n0 rE rV rC rA hn70 hLr t29 hcx (by rw [hFl]; omega) ((own_at2 (j := 0) (show 16 = 16 + 0 by decide) hMp).trans hcf) hcfc t30 hg) e16 rfl 0 (Nat.le_of_eq rfl) (by decide) (by decide) (by decide) (by decide) (fun v17 T17 h17 L17 X17 e17 q17 => ?_)
      obtain ⟨rfl, N17, rfl⟩ := q17
      show Go p e below _ (T17.setTop (mkF m 386 #[.val (.int u0), .val (.int p1), .val (.int p2), .val (.int p3), .val (.int p4), .val (.int (0 : Int32)), .val (.int c0), .val (.int c1), .val (.int c2), .val (.ref str), .val (.int (Int32.ofNat (0 - own_ps ([] : List Int32) (0 - 1)))), .val (.ref tr), .val (.int (1 : Int32)), .val (.ref rq), .val (.int (0 : Int32)), .val (.long (own_absv u0)), .second, .val (.int (Int32.ofNat (27 + (own_digs u0.toInt.natAbs).length))), .val (.int (1 : Int32))] [.int cf]))
      refine g_bipush X17 B (45) at_386 388 rfl rfl ?_
      refine g_icmp_ne X17 B at_388 395 391 rfl (by decide) rfl (fun _ => ?_) (fun z => own_abs' (hcfn) z)
      refine g_iconst X17 B (0) at_395 396 rfl rfl ?_
      refine g_iload X17 B at_396 398 rfl rfl ?_
      refine g_icmp_ne X17 B at_398 429 401 rfl (by decide) rfl (fun z => own_abs (by decide) z) (fun _ => ?_)
      refine g_aload X17 B at_401 403 rfl rfl rfl ?_
      refine g_iload X17 B at_403 405 rfl rfl ?_
      refine g_bipush X17 B (12) at_405 407 rfl rfl ?_
      refine g_isub X17 B at_407 408 rfl ?_
      rw [show (12 : Int32) = Int32.ofNat 12 from rfl, own_subN (by omega) (by omega)]
      refine g_callV X17 B [.int (Int32.ofNat (27 + (own_digs u0.toInt.natAbs).length - 12))] [] at_408 411 rfl rfl (hw _ (List.mem_of_getElem? (i := 246) rfl)) (hw _ (List.mem_of_getElem? (i := 247) rfl)) (hw _ (List.mem_of_getElem? (i := 249) rfl)) (hw _ (List.mem_of_getElem? (i := 248) rfl)) (hw _ (List.mem_of_getElem? (i := 7) rfl)) (hw _ (List.mem_of_getElem? (i := 250) rfl)) (by decide) (lenOf pd_47 rfl) rE (rL_cat l Z ag hw rq rb cx (27 + (own_digs u0.toInt.natAbs).length - 12) (Int32.ofNat (48 + u0.toInt.natAbs % 10)) ws ((([109, 117, 115, 116, 32, 98, 101, 32, 97, 116, 32, 109, 111, 115, 116, 32] : List Int32) ++ own_digs u0.toInt.natAbs) ++ ([32, 99, 104, 97, 114, 97, 99, 116, 101, 114, 115] : List Int32)) g h7 n0 rE rV rC rA hn70 hLr t29 hcx (by rw [hFl]; omega) ((own_at2 (j := (own_digs u0.toInt.natAbs).length - 1) (show 27 + (own_digs u0.toInt.natAbs).length - 12 = 16 + ((own_digs u0.toInt.natAbs).length - 1) by omega) (by omega)).trans (own_lastd u0.toInt.natAbs)) (own_chd u0.toInt.natAbs) t30 hg) e17 rfl 0 (Nat.le_of_eq rfl) (by decide) (by decide) (by decide) (by decide) (fun v18 T18 h18 L18 X18 e18 q18 => ?_)
      obtain ⟨rfl, N18, rfl⟩ := q18
      show Go p e below _ (T18.setTop (mkF m 411 #[.val (.int u0), .val (.int p1), .val (.int p2), .val (.int p3), .val (.int p4), .val (.int (0 : Int32)), .val (.int c0), .val (.int c1), .val (.int c2), .val (.ref str), .val (.int (Int32.ofNat (0 - own_ps ([] : List Int32) (0 - 1)))), .val (.ref tr), .val (.int (1 : Int32)), .val (.ref rq), .val (.int (0 : Int32)), .val (.long (own_absv u0)), .second, .val (.int (Int32.ofNat (27 + (own_digs u0.toInt.natAbs).length))), .val (.int (1 : Int32))] [.int (Int32.ofNat (48 + u0.toInt.natAbs % 10))]))
      refine g_bipush X18 B (48) at_411 413 rfl rfl ?_
      refine g_lload X18 B at_413 415 rfl rfl ?_
      refine g_ldc2J X18 B at_415 418 rfl (hw _ (List.mem_of_getElem? (i := 244) rfl)) ?_
      refine g_lrem X18 B at_418 419 rfl (by decide) ?_
      refine g_l2i X18 B at_419 420 rfl ?_
      refine g_iadd X18 B at_420 421 rfl ?_
      refine g_i2c X18 B at_421 422 rfl ?_
      refine g_icmp_ne X18 B at_422 429 425 rfl (by decide) rfl (fun z => own_abs ((own_digch1 (own_absz u0)).symm) z) (fun _ => ?_)
      refine g_iconst X18 B (1) at_425 426 rfl rfl ?_
      refine g_goto X18 B at_426 430 rfl (by decide) ?_
      refine g_istore X18 B #[.val (.int u0), .val (.int p1), .val (.int p2), .val (.int p3), .val (.int p4), .val (.int (0 : Int32)), .val (.int c0), .val (.int c1), .val (.int c2), .val (.ref str), .val (.int (Int32.ofNat (0 - own_ps ([] : List Int32) (0 - 1)))), .val (.ref tr), .val (.int (1 : Int32)), .val (.ref rq), .val (.int (0 : Int32)), .val (.long (own_absv u0)), .second, .val (.int (Int32.ofNat (27 + (own_digs u0.toInt.natAbs).length))), .val (.int (1 : Int32))] at_430 432 rfl rfl ?_
      refine g_iload X18 B at_432 434 rfl rfl ?_
      refine g_if_eq X18 B at_434 446 437 rfl (by decide) rfl (fun z => own_abs' (by decide) z) (fun _ => ?_)
      refine g_iload X18 B at_437 439 rfl rfl ?_
      refine g_if_eq X18 B at_439 446 442 rfl (by decide) rfl (fun z => own_abs' (by decide) z) (fun _ => ?_)
      refine g_iconst X18 B (1) at_442 443 rfl rfl ?_
      refine g_goto X18 B at_443 447 rfl (by decide) ?_
      exact g_retNW X18 B at_447 rfl rfl (by decide) (by decide) (by decide) e18 hS kk7 (fun vm hvm => ⟨rfl, (((((((((((((((((Fr.nil n0).app N1).app N2).app N3).app N6).app N7).app N8).app N9).app N10).app N11).app N12).app N13).app N14).app N15).app N16).app N17).app N18)⟩)
    · skip
      have hF : (((([] : List Int32) ++ ([109, 117, 115, 116, 32, 98, 101, 32, 97, 116, 32, 109, 111, 115, 116, 32] : List Int32)) ++ own_dec u0) ++ ([32, 99, 104, 97, 114, 97, 99, 116, 101, 114, 115] : List Int32)) = ((([109, 117, 115, 116, 32, 98, 101, 32, 97, 116, 32, 109, 111, 115, 116, 32, 45] : List Int32) ++ own_digs u0.toInt.natAbs) ++ ([32, 99, 104, 97, 114, 97, 99, 116, 101, 114, 115] : List Int32)) := by rw [own_dec_s hng]; rfl
      rw [hF] at hLr
      have hFl : ((([109, 117, 115, 116, 32, 98, 101, 32, 97, 116, 32, 109, 111, 115, 116, 32, 45] : List Int32) ++ own_digs u0.toInt.natAbs) ++ ([32, 99, 104, 97, 114, 97, 99, 116, 101, 114, 115] : List Int32)).length = 28 + (own_digs u0.toInt.natAbs).length := by rw [List.length_append, List.length_append]; show 17 + _ + 11 = _; omega
      have hn70 : ((([109, 117, 115, 116, 32, 98, 101, 32, 97, 116, 32, 109, 111, 115, 116, 32, 45] : List Int32) ++ own_digs u0.toInt.natAbs) ++ ([32, 99, 104, 97, 114, 97, 99, 116, 101, 114, 115] : List Int32)).length ≤ 70 := by rw [hFl]; omega
      refine g_iconst X9 B (1) at_270 271 rfl rfl ?_
      refine g_goto X9 B at_271 275 rfl (by decide) ?_
      refine g_istore X9 B #[.val (.int u0), .val (.int p1), .val (.int p2), .val (.int p3), .val (.int p4), .val (.int (0 : Int32)), .val (.int c0), .val (.int c1), .val (.int c2), .val (.ref str), .val (.int (Int32.ofNat (0 - own_ps ([] : List Int32) (0 - 1)))), .val (.ref tr), .val (.int (1 : Int32)), .val (.ref rq), .val (.int (1 : Int32)), .unset, .unset, .unset, .unset] at_275 277 rfl rfl ?_
      refine g_iloadN X9 B at_277 278 rfl rfl ?_
      refine g_i2l X9 B at_278 279 rfl ?_
      refine g_callS X9 B [.long (u0.toInt64)] [] at_279 282 rfl rfl (hw _ (List.mem_of_getElem? (i := 238) rfl)) (hw _ (List.mem_of_getElem? (i := 239) rfl)) (hw _ (List.mem_of_getElem? (i := 128) rfl)) (hw _ (List.mem_of_getElem? (i := 240) rfl)) (by decide) (lenOf pd_45 rfl) (rm_abs l Z ag hw u0.toInt64 h7 n0) e9 rfl 0 (Nat.le_of_eq rfl) (by decide) (by decide) (by decide) (by decide) (fun v19 T19 h19 L19 X19 e19 q19 => ?_)
      obtain ⟨rfl, N19, rfl⟩ := q19
      show Go p e below _ (T19.setTop (mkF m 282 #[.val (.int u0), .val (.int p1), .val (.int p2), .val (.int p3), .val (.int p4), .val (.int (0 : Int32)), .val (.int c0), .val (.int c1), .val (.int c2), .val (.ref str), .val (.int (Int32.ofNat (0 - own_ps ([] : List Int32) (0 - 1)))), .val (.ref tr), .val (.int (1 : Int32)), .val (.ref rq), .val (.int (1 : Int32)), .unset, .unset, .unset, .unset] [.long (own_absv u0)]))
      refine g_lstore X19 B #[.val (.int u0), .val (.int p1), .val (.int p2), .val (.int p3), .val (.int p4), .val (.int (0 : Int32)), .val (.int c0), .val (.int c1), .val (.int c2), .val (.ref str), .val (.int (Int32.ofNat (0 - own_ps ([] : List Int32) (0 - 1)))), .val (.ref tr), .val (.int (1 : Int32)), .val (.ref rq), .val (.int (1 : Int32)), .val (.long (own_absv u0)), .second, .unset, .unset] at_282 284 rfl rfl ?_
      refine g_bipush X19 B (27) at_284 286 rfl rfl ?_
      refine g_iload X19 B at_286 288 rfl rfl ?_
      refine g_if_eq X19 B at_288 295 291 rfl (by decide) rfl (fun z => own_abs' (by decide) z) (fun _ => ?_)
      refine g_iconst X19 B (1) at_291 292 rfl rfl ?_
      refine g_goto X19 B at_292 296 rfl (by decide) ?_
      refine g_iadd X19 B at_296 297 rfl ?_
      refine g_lload X19 B at_297 299 rfl rfl ?_
      refine g_callS X19 B [.long (own_absv u0)] [.int ((27 : Int32) + (1 : Int32))] at_299 302 rfl rfl (hw _ (List.mem_of_getElem? (i := 241) rfl)) (hw _ (List.mem_of_getElem? (i := 242) rfl)) (hw _ (List.mem_of_getElem? (i := 2) rfl)) (hw _ (List.mem_of_getElem? (i := 243) rfl)) (by decide) (lenOf pd_46 rfl) (rm_digits l Z ag hw (own_absv u0) u0.toInt.natAbs h7 n0 (own_absz u0) (own_nalt u0)) e19 rfl 1 (Nat.le_of_eq rfl) (by decide) (by decide) (by decide) (by decide) (fun v20 T20 h20 L20 X20 e20 q20 => ?_)
      obtain ⟨rfl, N20, rfl⟩ := q20
      show Go p e below _ (T20.setTop (mkF m 302 #[.val (.int u0), .val (.int p1), .val (.int p2), .val (.int p3), .val (.int p4), .val (.int (0 : Int32)), .val (.int c0), .val (.int c1), .val (.int c2), .val (.ref str), .val (.int (Int32.ofNat (0 - own_ps ([] : List Int32) (0 - 1)))), .val (.ref tr), .val (.int (1 : Int32)), .val (.ref rq), .val (.int (1 : Int32)), .val (.long (own_absv u0)), .second, .unset, .unset] [.int (Int32.ofNat (own_digs u0.toInt.natAbs).length), .int ((27 : Int32) + (1 : Int32))]))
      refine g_iadd X20 B at_302 303 rfl ?_
      rw [show ((27 : Int32) + (1 : Int32)) = Int32.ofNat 28 by decide, own_addN (by omega)]
      refine g_istore X20 B #[.val (.int u0), .val (.int p1), .val (.int p2), .val (.int p3), .val (.int p4), .val (.int (0 : Int32)), .val (.int c0), .val (.int c1), .val (.int c2), .val (.ref str), .val (.int (Int32.ofNat (0 - own_ps ([] : List Int32) (0 - 1)))), .val (.ref tr), .val (.int (1 : Int32)), .val (.ref rq), .val (.int (1 : Int32)), .val (.long (own_absv u0)), .second, .val (.int (Int32.ofNat (28 + (own_digs u0.toInt.natAbs).length))), .unset] at_303 305 rfl rfl ?_
      refine g_aload X20 B at_305 307 rfl rfl rfl ?_
      refine g_callV X20 B [] [] at_307 310 rfl rfl (hw _ (List.mem_of_getElem? (i := 245) rfl)) (hw _ (List.mem_of_getElem? (i := 67) rfl)) (hw _ (List.mem_of_getElem? (i := 69) rfl)) (hw _ (List.mem_of_getElem? (i := 68) rfl)) (hw _ (List.mem_of_getElem? (i := 7) rfl)) (hw _ (List.mem_of_getElem? (i := 70) rfl)) (by decide) (lenOf pd_10 rfl) rE (rB_len l Z ag hw rq rb cx ws ((([109, 117, 115, 116, 32, 98, 101, 32, 97, 116, 32, 109, 111, 115, 116, 32, 45] : List Int32) ++ own_digs u0.toInt.natAbs) ++ ([32, 99, 104, 97, 114, 97, 99, 116, 101, 114, 115] : List Int32)) h7 n0 rE rV rC rA hn70 hLr t29 hcx) e20 rfl 0 (Nat.le_of_eq rfl) (by decide) (by decide) (by decide) (by decide) (fun v21 T21 h21 L21 X21 e21 q21 => ?_)
      obtain ⟨rfl, N21, rfl⟩ := q21
      show Go p e below _ (T21.setTop (mkF m 310 #[.val (.int u0), .val (.int p1), .val (.int p2), .val (.int p3), .val (.int p4), .val (.int (0 : Int32)), .val (.int c0), .val (.int c1), .val (.int c2), .val (.ref str), .val (.int (Int32.ofNat (0 - own_ps ([] : List Int32) (0 - 1)))), .val (.ref tr), .val (.int (1 : Int32)), .val (.ref rq), .val (.int (1 : Int32)), .val (.long (own_absv u0)), .second, .val (.int (Int32.ofNat (28 + (own_digs u0.toInt.natAbs).length))), .unset] [.int (Int32.ofNat ((([109, 117, 115, 116, 32, 98, 101, 32, 97, 116, 32, 109, 111, 115, 116, 32, 45] : List Int32) ++ own_digs u0.toInt.natAbs) ++ ([32, 99, 104, 97, 114, 97, 99, 116, 101, 114, 115] : List Int32)).length)]))
      refine g_iload X21 B at_310 312 rfl rfl ?_
      refine g_icmp_ne X21 B at_312 319 315 rfl (by decide) rfl (fun z => own_abs (by rw [hFl]) z) (fun _ => ?_)
      refine g_iconst X21 B (1) at_315 316 rfl rfl ?_
      refine g_goto X21 B at_316 320 rfl (by decide) ?_
      refine g_istore X21 B #[.val (.int u0), .val (.int p1), .val (.int p2), .val (.int p3), .val (.int p4), .val (.int (0 : Int32)), .val (.int c0), .val (.int c1), .val (.int c2), .val (.ref str), .val (.int (Int32.ofNat (0 - own_ps ([] : List Int32) (0 - 1)))), .val (.ref tr), .val (.int (1 : Int32)), .val (.ref rq), .val (.int (1 : Int32)), .val (.long (own_absv u0)), .second, .val (.int (Int32.ofNat (28 + (own_digs u0.toInt.natAbs).length))), .val (.int (1 : Int32))] at_320 322 rfl rfl ?_
      refine g_iload X21 B at_322 324 rfl rfl ?_
      refine g_if_eq X21 B at_324 432 327 rfl (by decide) rfl (fun z => own_abs' (by decide) z) (fun _ => ?_)
      refine g_aload X21 B at_327 329 rfl rfl rfl ?_
      refine g_iconst X21 B (0) at_329 330 rfl rfl ?_
      have t31 := (own_stk (own_stkw (Sta.ext E5 (Sta.ext E4 SF)) K6 (own_plE t10 own_pl0)) K7)
      refine g_callV X21 B [.int (0 : Int32)] [] at_330 333 rfl rfl (hw _ (List.mem_of_getElem? (i := 246) rfl)) (hw _ (List.mem_of_getElem? (i := 247) rfl)) (hw _ (List.mem_of_getElem? (i := 249) rfl)) (hw _ (List.mem_of_getElem? (i := 248) rfl)) (hw _ (List.mem_of_getElem? (i := 7) rfl)) (hw _ (List.mem_of_getElem? (i := 250) rfl)) (by decide) (lenOf pd_47 rfl) rE (rL_cat l Z ag hw rq rb cx 0 109 ws ((([109, 117, 115, 116, 32, 98, 101, 32, 97, 116, 32, 109, 111, 115, 116, 32, 45] : List Int32) ++ own_digs u0.toInt.natAbs) ++ ([32, 99, 104, 97, 114, 97, 99, 116, 101, 114, 115] : List Int32)) g h7 n0 rE rV rC rA hn70 hLr t29 hcx (by rw [hFl]; omega) (own_at1 (by decide)) (by unfold own_ch; decide) t31 hg) e21 rfl 0 (Nat.le_of_eq rfl) (by decide) (by decide) (by decide) (by decide) (fun v22 T22 h22 L22 X22 e22 q22 => ?_)
      obtain ⟨rfl, N22, rfl⟩ := q22
      show Go p e below _ (T22.setTop (mkF m 333 #[.val (.int u0), .val (.int p1), .val (.int p2), .val (.int p3), .val (.int p4), .val (.int (0 : Int32)), .val (.int c0), .val (.int c1), .val (.int c2), .val (.ref str), .val (.int (Int32.ofNat (0 - own_ps ([] : List Int32) (0 - 1)))), .val (.ref tr), .val (.int (1 : Int32)), .val (.ref rq), .val (.int (1 : Int32)), .val (.long (own_absv u0)), .second, .val (.int (Int32.ofNat (28 + (own_digs u0.toInt.natAbs).length))), .val (.int (1 : Int32))] [.int 109]))
      refine g_bipush X22 B (109) at_333 335 rfl rfl ?_
      refine g_icmp_ne X22 B at_335 429 338 rfl (by decide) rfl (fun z => own_abs (rfl) z) (fun _ => ?_)
      refine g_aload X22 B at_338 340 rfl rfl rfl ?_
      refine g_bipush X22 B (15) at_340 342 rfl rfl ?_
      refine g_callV X22 B [.int (15 : Int32)] [] at_342 345 rfl rfl (hw _ (List.mem_of_getElem? (i := 246) rfl)) (hw _ (List.mem_of_getElem? (i := 247) rfl)) (hw _ (List.mem_of_getElem? (i := 249) rfl)) (hw _ (List.mem_of_getElem? (i := 248) rfl)) (hw _ (List.mem_of_getElem? (i := 7) rfl)) (hw _ (List.mem_of_getElem? (i := 250) rfl)) (by decide) (lenOf pd_47 rfl) rE (rL_cat l Z ag hw rq rb cx 15 32 ws ((([109, 117, 115, 116, 32, 98, 101, 32, 97, 116, 32, 109, 111, 115, 116, 32, 45] : List Int32) ++ own_digs u0.toInt.natAbs) ++ ([32, 99, 104, 97, 114, 97, 99, 116, 101, 114, 115] : List Int32)) g h7 n0 rE rV rC rA hn70 hLr t29 hcx (by rw [hFl]; omega) (own_at1 (by decide)) (by unfold own_ch; decide) t31 hg) e22 rfl 0 (Nat.le_of_eq rfl) (by decide) (by decide) (by decide) (by decide) (fun v23 T23 h23 L23 X23 e23 q23 => ?_)
      obtain ⟨rfl, N23, rfl⟩ := q23
      show Go p e below _ (T23.setTop (mkF m 345 #[.val (.int u0), .val (.int p1), .val (.int p2), .val (.int p3), .val (.int p4), .val (.int (0 : Int32)), .val (.int c0), .val (.int c1), .val (.int c2), .val (.ref str), .val (.int (Int32.ofNat (0 - own_ps ([] : List Int32) (0 - 1)))), .val (.ref tr), .val (.int (1 : Int32)), .val (.ref rq), .val (.int (1 : Int32)), .val (.long (own_absv u0)), .second, .val (.int (Int32.ofNat (28 + (own_digs u0.toInt.natAbs).length))), .val (.int (1 : Int32))] [.int 32]))
      refine g_bipush X23 B (32) at_345 347 rfl rfl ?_
      refine g_icmp_ne X23 B at_347 429 350 rfl (by decide) rfl (fun z => own_abs (rfl) z) (fun _ => ?_)
      refine g_aload X23 B at_350 352 rfl rfl rfl ?_
      refine g_iload X23 B at_352 354 rfl rfl ?_
      refine g_iconst X23 B (1) at_354 355 rfl rfl ?_
      refine g_isub X23 B at_355 356 rfl ?_
      rw [show (1 : Int32) = Int32.ofNat 1 from rfl, own_subN (by omega) (by omega)]
      refine g_callV X23 B [.int (Int32.ofNat (28 + (own_digs u0.toInt.natAbs).length - 1))] [] at_356 359 rfl rfl (hw _ (List.mem_of_getElem? (i := 246) rfl)) (hw _ (List.mem_of_getElem? (i := 247) rfl)) (hw _ (List.mem_of_getElem? (i := 249) rfl)) (hw _ (List.mem_of_getElem? (i := 248) rfl)) (hw _ (List.mem_of_getElem? (i := 7) rfl)) (hw _ (List.mem_of_getElem? (i := 250) rfl)) (by decide) (lenOf pd_47 rfl) rE (rL_cat l Z ag hw rq rb cx (28 + (own_digs u0.toInt.natAbs).length - 1) 115 ws ((([109, 117, 115, 116, 32, 98, 101, 32, 97, 116, 32, 109, 111, 115, 116, 32, 45] : List Int32) ++ own_digs u0.toInt.natAbs) ++ ([32, 99, 104, 97, 114, 97, 99, 116, 101, 114, 115] : List Int32)) g h7 n0 rE rV rC rA hn70 hLr t29 hcx (by rw [hFl]; omega) (own_at3 (j := 10) (show 28 + (own_digs u0.toInt.natAbs).length - 1 = 17 + (own_digs u0.toInt.natAbs).length + 10 by omega)) (by unfold own_ch; decide) t31 hg) e23 rfl 0 (Nat.le_of_eq rfl) (by decide) (by decide) (by decide) (by decide) (fun v24 T24 h24 L24 X24 e24 q24 => ?_)
      obtain ⟨rfl, N24, rfl⟩ := q24
      show Go p e below _ (T24.setTop (mkF m 359 #[.val (.int u0), .val (.int p1), .val (.int p2), .val (.int p3), .val (.int p4), .val (.int (0 : Int32)), .val (.int c0), .val (.int c1), .val (.int c2), .val (.ref str), .val (.int (Int32.ofNat (0 - own_ps ([] : List Int32) (0 - 1)))), .val (.ref tr), .val (.int (1 : Int32)), .val (.ref rq), .val (.int (1 : Int32)), .val (.long (own_absv u0)), .second, .val (.int (Int32.ofNat (28 + (own_digs u0.toInt.natAbs).length))), .val (.int (1 : Int32))] [.int 115]))
      refine g_bipush X24 B (115) at_359 361 rfl rfl ?_
      refine g_icmp_ne X24 B at_361 429 364 rfl (by decide) rfl (fun z => own_abs (rfl) z) (fun _ => ?_)
      refine g_aload X24 B at_364 366 rfl rfl rfl ?_
      refine g_iload X24 B at_366 368 rfl rfl ?_
      refine g_bipush X24 B (11) at_368 370 rfl rfl ?_
      refine g_isub X24 B at_370 371 rfl ?_
      rw [show (11 : Int32) = Int32.ofNat 11 from rfl, own_subN (by omega) (by omega)]
      refine g_callV X24 B [.int (Int32.ofNat (28 + (own_digs u0.toInt.natAbs).length - 11))] [] at_371 374 rfl rfl (hw _ (List.mem_of_getElem? (i := 246) rfl)) (hw _ (List.mem_of_getElem? (i := 247) rfl)) (hw _ (List.mem_of_getElem? (i := 249) rfl)) (hw _ (List.mem_of_getElem? (i := 248) rfl)) (hw _ (List.mem_of_getElem? (i := 7) rfl)) (hw _ (List.mem_of_getElem? (i := 250) rfl)) (by decide) (lenOf pd_47 rfl) rE (rL_cat l Z ag hw rq rb cx (28 + (own_digs u0.toInt.natAbs).length - 11) 32 ws ((([109, 117, 115, 116, 32, 98, 101, 32, 97, 116, 32, 109, 111, 115, 116, 32, 45] : List Int32) ++ own_digs u0.toInt.natAbs) ++ ([32, 99, 104, 97, 114, 97, 99, 116, 101, 114, 115] : List Int32)) g h7 n0 rE rV rC rA hn70 hLr t29 hcx (by rw [hFl]; omega) (own_at3 (j := 0) (show 28 + (own_digs u0.toInt.natAbs).length - 11 = 17 + (own_digs u0.toInt.natAbs).length + 0 by omega)) (by unfold own_ch; decide) t31 hg) e24 rfl 0 (Nat.le_of_eq rfl) (by decide) (by decide) (by decide) (by decide) (fun v25 T25 h25 L25 X25 e25 q25 => ?_)
      obtain ⟨rfl, N25, rfl⟩ := q25
      show Go p e below _ (T25.setTop (mkF m 374 #[.val (.int u0), .val (.int p1), .val (.int p2), .val (.int p3), .val (.int p4), .val (.int (0 : Int32)), .val (.int c0), .val (.int c1), .val (.int c2), .val (.ref str), .val (.int (Int32.ofNat (0 - own_ps ([] : List Int32) (0 - 1)))), .val (.ref tr), .val (.int (1 : Int32)), .val (.ref rq), .val (.int (1 : Int32)), .val (.long (own_absv u0)), .second, .val (.int (Int32.ofNat (28 + (own_digs u0.toInt.natAbs).length))), .val (.int (1 : Int32))] [.int 32]))
      refine g_bipush X25 B (32) at_374 376 rfl rfl ?_
      refine g_icmp_ne X25 B at_376 429 379 rfl (by decide) rfl (fun z => own_abs (rfl) z) (fun _ => ?_)
      refine g_aload X25 B at_379 381 rfl rfl rfl ?_
      refine g_bipush X25 B (16) at_381 383 rfl rfl ?_
      refine g_callV X25 B [.int (16 : Int32)] [] at_383 386 rfl rfl (hw _ (List.mem_of_getElem? (i := 246) rfl)) (hw _ (List.mem_of_getElem? (i := 247) rfl)) (hw _ (List.mem_of_getElem? (i := 249) rfl)) (hw _ (List.mem_of_getElem? (i := 248) rfl)) (hw _ (List.mem_of_getElem? (i := 7) rfl)) (hw _ (List.mem_of_getElem? (i := 250) rfl)) (by decide) (lenOf pd_47 rfl) rE (rL_cat l Z ag hw rq rb cx 16 45 ws ((([109, 117, 115, 116, 32, 98, 101, 32, 97, 116, 32, 109, 111, 115, 116, 32, 45] : List Int32) ++ own_digs u0.toInt.natAbs) ++ ([32, 99, 104, 97, 114, 97, 99, 116, 101, 114, 115] : List Int32)) g h7 n0 rE rV rC rA hn70 hLr t29 hcx (by rw [hFl]; omega) (own_at1 (by decide)) (by unfold own_ch; decide) t31 hg) e25 rfl 0 (Nat.le_of_eq rfl) (by decide) (by decide) (by decide) (by decide) (fun v26 T26 h26 L26 X26 e26 q26 => ?_)
      obtain ⟨rfl, N26, rfl⟩ := q26
      show Go p e below _ (T26.setTop (mkF m 386 #[.val (.int u0), .val (.int p1), .val (.int p2), .val (.int p3), .val (.int p4), .val (.int (0 : Int32)), .val (.int c0), .val (.int c1), .val (.int c2), .val (.ref str), .val (.int (Int32.ofNat (0 - own_ps ([] : List Int32) (0 - 1)))), .val (.ref tr), .val (.int (1 : Int32)), .val (.ref rq), .val (.int (1 : Int32)), .val (.long (own_absv u0)), .second, .val (.int (Int32.ofNat (28 + (own_digs u0.toInt.natAbs).length))), .val (.int (1 : Int32))] [.int 45]))
      refine g_bipush X26 B (45) at_386 388 rfl rfl ?_
      refine g_icmp_ne X26 B at_388 395 391 rfl (by decide) rfl (fun z => own_abs (rfl) z) (fun _ => ?_)
      refine g_iconst X26 B (1) at_391 392 rfl rfl ?_
      refine g_goto X26 B at_392 396 rfl (by decide) ?_
      refine g_iload X26 B at_396 398 rfl rfl ?_
      refine g_icmp_ne X26 B at_398 429 401 rfl (by decide) rfl (fun z => own_abs (by decide) z) (fun _ => ?_)
      refine g_aload X26 B at_401 403 rfl rfl rfl ?_
      refine g_iload X26 B at_403 405 rfl rfl ?_
      refine g_bipush X26 B (12) at_405 407 rfl rfl ?_
      refine g_isub X26 B at_407 408 rfl ?_
      rw [show (12 : Int32) = Int32.ofNat 12 from rfl, own_subN (by omega) (by omega)]
      refine g_callV X26 B [.int (Int32.ofNat (28 + (own_digs u0.toInt.natAbs).length - 12))] [] at_408 411 rfl rfl (hw _ (List.mem_of_getElem? (i := 246) rfl)) (hw _ (List.mem_of_getElem? (i := 247) rfl)) (hw _ (List.mem_of_getElem? (i := 249) rfl)) (hw _ (List.mem_of_getElem? (i := 248) rfl)) (hw _ (List.mem_of_getElem? (i := 7) rfl)) (hw _ (List.mem_of_getElem? (i := 250) rfl)) (by decide) (lenOf pd_47 rfl) rE (rL_cat l Z ag hw rq rb cx (28 + (own_digs u0.toInt.natAbs).length - 12) (Int32.ofNat (48 + u0.toInt.natAbs % 10)) ws ((([109, 117, 115, 116, 32, 98, 101, 32, 97, 116, 32, 109, 111, 115, 116, 32, 45] : List Int32) ++ own_digs u0.toInt.natAbs) ++ ([32, 99, 104, 97, 114, 97, 99, 116, 101, 114, 115] : List Int32)) g h7 n0 rE rV rC rA hn70 hLr t29 hcx (by rw [hFl]; omega) ((own_at2 (j := (own_digs u0.toInt.natAbs).length - 1) (show 28 + (own_digs u0.toInt.natAbs).length - 12 = 17 + ((own_digs u0.toInt.natAbs).length - 1) by omega) (by omega)).trans (own_lastd u0.toInt.natAbs)) (own_chd u0.toInt.natAbs) t31 hg) e26 rfl 0 (Nat.le_of_eq rfl) (by decide) (by decide) (by decide) (by decide) (fun v27 T27 h27 L27 X27 e27 q27 => ?_)
      obtain ⟨rfl, N27, rfl⟩ := q27
      show Go p e below _ (T27.setTop (mkF m 411 #[.val (.int u0), .val (.int p1), .val (.int p2), .val (.int p3), .val (.int p4), .val (.int (0 : Int32)), .val (.int c0), .val (.int c1), .val (.int c2), .val (.ref str), .val (.int (Int32.ofNat (0 - own_ps ([] : List Int32) (0 - 1)))), .val (.ref tr), .val (.int (1 : Int32)), .val (.ref rq), .val (.int (1 : Int32)), .val (.long (own_absv u0)), .second, .val (.int (Int32.ofNat (28 + (own_digs u0.toInt.natAbs).length))), .val (.int (1 : Int32))] [.int (Int32.ofNat (48 + u0.toInt.natAbs % 10))]))
      refine g_bipush X27 B (48) at_411 413 rfl rfl ?_
      refine g_lload X27 B at_413 415 rfl rfl ?_
      refine g_ldc2J X27 B at_415 418 rfl (hw _ (List.mem_of_getElem? (i := 244) rfl)) ?_
      refine g_lrem X27 B at_418 419 rfl (by decide) ?_
      refine g_l2i X27 B at_419 420 rfl ?_
      refine g_iadd X27 B at_420 421 rfl ?_
      refine g_i2c X27 B at_421 422 rfl ?_
      refine g_icmp_ne X27 B at_422 429 425 rfl (by decide) rfl (fun z => own_abs ((own_digch1 (own_absz u0)).symm) z) (fun _ => ?_)
      refine g_iconst X27 B (1) at_425 426 rfl rfl ?_
      refine g_goto X27 B at_426 430 rfl (by decide) ?_
      refine g_istore X27 B #[.val (.int u0), .val (.int p1), .val (.int p2), .val (.int p3), .val (.int p4), .val (.int (0 : Int32)), .val (.int c0), .val (.int c1), .val (.int c2), .val (.ref str), .val (.int (Int32.ofNat (0 - own_ps ([] : List Int32) (0 - 1)))), .val (.ref tr), .val (.int (1 : Int32)), .val (.ref rq), .val (.int (1 : Int32)), .val (.long (own_absv u0)), .second, .val (.int (Int32.ofNat (28 + (own_digs u0.toInt.natAbs).length))), .val (.int (1 : Int32))] at_430 432 rfl rfl ?_
      refine g_iload X27 B at_432 434 rfl rfl ?_
      refine g_if_eq X27 B at_434 446 437 rfl (by decide) rfl (fun z => own_abs' (by decide) z) (fun _ => ?_)
      refine g_iload X27 B at_437 439 rfl rfl ?_
      refine g_if_eq X27 B at_439 446 442 rfl (by decide) rfl (fun z => own_abs' (by decide) z) (fun _ => ?_)
      refine g_iconst X27 B (1) at_442 443 rfl rfl ?_
      refine g_goto X27 B at_443 447 rfl (by decide) ?_
      exact g_retNW X27 B at_447 rfl rfl (by decide) (by decide) (by decide) e27 hS kk7 (fun vm hvm => ⟨rfl, (((((((((((((((((Fr.nil n0).app N1).app N2).app N3).app N6).app N7).app N8).app N9).app N19).app N20).app N21).app N22).app N23).app N24).app N25).app N26).app N27)⟩)
  refine g_iload X8 B at_238 240 rfl rfl ?_
  refine g_iloadN X8 B at_240 241 rfl rfl ?_
  refine g_icmp_gt X8 B at_241 248 244 rfl (by decide) rfl (fun c28 => ?_) (fun c28 => ?_)
  · skip
    refine g_iconst X8 B (0) at_248 249 rfl rfl ?_
    refine g_icmp_ne X8 B at_249 256 252 rfl (by decide) rfl (fun z => own_abs (if_neg (fun z => z c28)) z) (fun _ => ?_)
    refine g_iconst X8 B (1) at_252 253 rfl rfl ?_
    refine g_goto X8 B at_253 257 rfl (by decide) ?_
    exact j2
  · skip
    refine g_iconst X8 B (1) at_244 245 rfl rfl ?_
    refine g_goto X8 B at_245 249 rfl (by decide) ?_
    refine g_icmp_ne X8 B at_249 256 252 rfl (by decide) rfl (fun z => own_abs (if_pos c28) z) (fun _ => ?_)
    refine g_iconst X8 B (1) at_252 253 rfl rfl ?_
    refine g_goto X8 B at_253 257 rfl (by decide) ?_
    exact j2
--LEAF
set_option maxRecDepth 65536 in
set_option maxHeartbeats 40000000 in
theorem rm0_1 (l : Launch) (Z : State) (ag : Array Value) (hw : ∀ d ∈ tables_1, d.before ag Z = true) (u0 p1 p2 p3 p4 cx : Int32) (g : Value) (d1 d2 : Addr) (h0 : Heap) (n0 : Nat) (Z0 : n0 ≤ h0.size) (SC : Sta Z h0 "java/lang/String" "COMPACT_STRINGS" "Z" (.int cx)) (hcx : ¬ cx = 0) (SA : Sta Z h0 "java/lang/StringUTF16" "$assertionsDisabled" "Z" (.int 1)) (SH : Sta Z h0 "java/lang/StringUTF16" "HI_BYTE_SHIFT" "I" (.int 0)) (SLo : Sta Z h0 "java/lang/StringUTF16" "LO_BYTE_SHIFT" "I" (.int 8)) (SF : Sta Z h0 "jdk/internal/util/Preconditions" "SIOOBE_FORMATTER" "Ljava/util/function/BiFunction;" g) (hg : g.isRef = true) (SD1 : Sta Z h0 "java/lang/Integer" "DigitOnes" "[B" (.ref d1)) (SD2 : Sta Z h0 "java/lang/Integer" "DigitTens" "[B" (.ref d2)) (AD1 : Av Z h0 d1 .byte own_ones) (AD2 : Av Z h0 d2 .byte own_tens) (kk4 : (p4 &&& (3 : Int32)) = 1) (OZ : ∀ (b : Addr) (cl : Cell), Z.heap[b]? = some cl → h0[b]? = some cl) (hH7 : Jvm.Lit.constHeld Z "com/example/tillbeat/tillbeat/model/TextRule" 7) (hH22 : Jvm.Lit.constHeld Z "com/example/tillbeat/tillbeat/model/TextRule" 22) (hH35 : Jvm.Lit.constHeld Z "com/example/tillbeat/tillbeat/model/TextRule" 35) (hH44 : Jvm.Lit.constHeld Z "com/example/tillbeat/tillbeat/model/TextRule" 44) (hH7s : Jvm.Lit.constHeld Z "java/lang/String" 7) (hcw : Jvm.Lit.compactW.before ag Z = true) :
    CtrW l Z x code maxLocals ret room_1 #[.int u0, .int p1, .int p2, .int p3, .int p4] h0 [] (fun v h vm L => v = some (.int 1) ∧ Fr n0 L) := by
  refine CtrW.of pn_0 ?_
  intro p e s m below meth c T0 X0 B e0 hs0 hS I
  refine Go.cast (f' := mkF m 0 #[.val (.int u0), .val (.int p1), .val (.int p2), .val (.int p3), .val (.int p4), .unset, .unset, .unset, .unset, .unset, .unset, .unset, .unset, .unset, .unset, .unset, .unset, .unset, .unset] []) (by first | (simp [entryFrame, mkF, argsToLocals, Value.category, maxLocals]; done) | rfl) ?_

  refine g_iload X0 B at_0 2 rfl rfl ?_
  refine g_iconst X0 B (3) at_2 3 rfl rfl ?_
  refine g_iand X0 B at_3 4 rfl ?_
  rw [kk4]
  show Go p e below _ (T0.setTop (mkF m 4 #[.val (.int u0), .val (.int p1), .val (.int p2), .val (.int p3), .val (.int p4), .unset, .unset, .unset, .unset, .unset, .unset, .unset, .unset, .unset, .unset, .unset, .unset, .unset, .unset] [.int (1 : Int32)]))
  refine g_istore X0 B #[.val (.int u0), .val (.int p1), .val (.int p2), .val (.int p3), .val (.int p4), .val (.int (1 : Int32)), .unset, .unset, .unset, .unset, .unset, .unset, .unset, .unset, .unset, .unset, .unset, .unset, .unset] at_4 6 rfl rfl ?_
  refine g_iloadN X0 B at_6 7 rfl rfl ?_
  refine g_callS X0 B [.int p1] [] at_7 10 rfl rfl (hw _ (List.mem_of_getElem? (i := 0) rfl)) (hw _ (List.mem_of_getElem? (i := 1) rfl)) (hw _ (List.mem_of_getElem? (i := 2) rfl)) (hw _ (List.mem_of_getElem? (i := 3) rfl)) (by decide) (lenOf pd_1 rfl) (rm_mk l Z ag hw p1 h0 n0) e0 rfl 0 (Nat.le_of_eq rfl) (by decide) (by decide) (by decide) (by decide) (fun v1 T1 h1 L1 X1 e1 q1 => ?_)
  obtain ⟨c0, rfl, hx0, N1, rfl⟩ := q1
  show Go p e below _ (T1.setTop (mkF m 10 #[.val (.int u0), .val (.int p1), .val (.int p2), .val (.int p3), .val (.int p4), .val (.int (1 : Int32)), .unset, .unset, .unset, .unset, .unset, .unset, .unset, .unset, .unset, .unset, .unset, .unset, .unset] [.int c0]))
  refine g_istore X1 B #[.val (.int u0), .val (.int p1), .val (.int p2), .val (.int p3), .val (.int p4), .val (.int (1 : Int32)), .val (.int c0), .unset, .unset, .unset, .unset, .unset, .unset, .unset, .unset, .unset, .unset, .unset, .unset] at_10 12 rfl rfl ?_
  refine g_iloadN X1 B at_12 13 rfl rfl ?_
  refine g_callS X1 B [.int p2] [] at_13 16 rfl rfl (hw _ (List.mem_of_getElem? (i := 0) rfl)) (hw _ (List.mem_of_getElem? (i := 1) rfl)) (hw _ (List.mem_of_getElem? (i := 2) rfl)) (hw _ (List.mem_of_getElem? (i := 3) rfl)) (by decide) (lenOf pd_1 rfl) (rm_mk l Z ag hw p2 h0 n0) e1 rfl 0 (Nat.le_of_eq rfl) (by decide) (by decide) (by decide) (by decide) (fun v2 T2 h2 L2 X2 e2 q2 => ?_)
  obtain ⟨c1, rfl, hx1, N2, rfl⟩ := q2
  show Go p e below _ (T2.setTop (mkF m 16 #[.val (.int u0), .val (.int p1), .val (.int p2), .val (.int p3), .val (.int p4), .val (.int (1 : Int32)), .val (.int c0), .unset, .unset, .unset, .unset, .unset, .unset, .unset, .unset, .unset, .unset, .unset, .unset] [.int c1]))
  refine g_istore X2 B #[.val (.int u0), .val (.int p1), .val (.int p2), .val (.int p3), .val (.int p4), .val (.int (1 : Int32)), .val (.int c0), .val (.int c1), .unset, .unset, .unset, .unset, .unset, .unset, .unset, .unset, .unset, .unset, .unset] at_16 18 rfl rfl ?_
  refine g_iloadN X2 B at_18 19 rfl rfl ?_
  refine g_callS X2 B [.int p3] [] at_19 22 rfl rfl (hw _ (List.mem_of_getElem? (i := 0) rfl)) (hw _ (List.mem_of_getElem? (i := 1) rfl)) (hw _ (List.mem_of_getElem? (i := 2) rfl)) (hw _ (List.mem_of_getElem? (i := 3) rfl)) (by decide) (lenOf pd_1 rfl) (rm_mk l Z ag hw p3 h0 n0) e2 rfl 0 (Nat.le_of_eq rfl) (by decide) (by decide) (by decide) (by decide) (fun v3 T3 h3 L3 X3 e3 q3 => ?_)
  obtain ⟨c2, rfl, hx2, N3, rfl⟩ := q3
  show Go p e below _ (T3.setTop (mkF m 22 #[.val (.int u0), .val (.int p1), .val (.int p2), .val (.int p3), .val (.int p4), .val (.int (1 : Int32)), .val (.int c0), .val (.int c1), .unset, .unset, .unset, .unset, .unset, .unset, .unset, .unset, .unset, .unset, .unset] [.int c2]))
  refine g_istore X3 B #[.val (.int u0), .val (.int p1), .val (.int p2), .val (.int p3), .val (.int p4), .val (.int (1 : Int32)), .val (.int c0), .val (.int c1), .val (.int c2), .unset, .unset, .unset, .unset, .unset, .unset, .unset, .unset, .unset, .unset] at_22 24 rfl rfl ?_
  refine g_iload X3 B at_24 26 rfl rfl ?_
  refine g_if_ne X3 B at_26 47 29 rfl (by decide) rfl (fun _ => ?_) (fun z => own_abs' (by decide) z)
  refine g_iload X3 B at_47 49 rfl rfl ?_
  refine g_iconst X3 B (1) at_49 50 rfl rfl ?_
  refine g_icmp_ne X3 B at_50 76 53 rfl (by decide) rfl (fun z => own_abs (by decide) z) (fun _ => ?_)
  refine g_new X3 B at_53 56 rfl (hw _ (List.mem_of_getElem? (i := 5) rfl)) (hw _ (List.mem_of_getElem? (i := 6) rfl)) (hw _ (List.mem_of_getElem? (i := 7) rfl)) e3 (by decide) (by decide) (fun T4 h4 str X4 e4 ea4 E4 A4 D4 => ?_)
  have g_str : n0 ≤ str := ea4 ▸ Z0
  have gg_str : h0.size ≤ str := ea4 ▸ (Keep.refl h0 []).1
  have t1 : d1 ≠ str := ea4 ▸ Nat.ne_of_lt (AD1.lt)
  have t2 : d2 ≠ str := ea4 ▸ Nat.ne_of_lt (AD2.lt)
  have D4_0 : Fld Z h4 str "java/lang/String" "value" "[B" (.null) := D4 (Or.inr (hw _ (List.mem_of_getElem? (i := 21) rfl))) (ty := (.array .byte)) (by decide)
  have D4_1 : Fld Z h4 str "java/lang/String" "coder" "B" (.int 0) := D4 (Or.inr (hw _ (List.mem_of_getElem? (i := 22) rfl))) (ty := .byte) (by decide)
  refine g_dup X4 B at_56 57 rfl rfl ?_
  refine g_iconst X4 B (1) at_57 58 rfl rfl ?_
  refine g_newP X4 B [(.int 0 : Value)] at_58 60 rfl (hw _ (List.mem_of_getElem? (i := 8) rfl)) e4 (by decide) rfl (by decide) (by decide) (by decide) (fun T5 h5 ar X5 e5 ea5 E5 A5 => ?_)
  have t3 := (Nat.le_trans Z0 E4.1)
  have t4 := (Keep.ext (Keep.refl h0 []) E4)
  have t5 := (Av.ext AD1 E4)
  have t6 := (Av.ext AD2 E4)
  have g_ar : n0 ≤ ar := ea5 ▸ t3
  have gg_ar : h0.size ≤ ar := ea5 ▸ t4.1
  have t7 : d1 ≠ ar := ea5 ▸ Nat.ne_of_lt (t5.lt)
  have t8 : d2 ≠ ar := ea5 ▸ Nat.ne_of_lt (t6.lt)
  have t9 : str ≠ ar := ea5 ▸ Nat.ne_of_lt (A4.lt)
  refine g_dup X5 B at_60 61 rfl rfl ?_
  refine g_iconst X5 B (0) at_61 62 rfl rfl ?_
  refine g_iload X5 B at_62 64 rfl rfl ?_
  refine g_castore X5 B 0 at_64 65 rfl e5 A5 (by decide) (by decide) (by simp) (fun T6 h6 X6 e6 W6 A6 => ?_)
  rw [own_nc hx0] at A6 W6
  replace A6 : Av Z h6 ar .char [(.int c0 : Value)] := A6
  have t10 := (Exa.wr W6 (Exa.ext E5 A4))
  have t11 := (Fld.other W6 (Fld.ext E5 D4_0) (Or.inl t9))
  have t12 := (Fld.other W6 (Fld.ext E5 D4_1) (Or.inl t9))
  have t13 := (Nat.le_trans (Nat.le_trans t3 E5.1) (Nat.le_of_eq W6.size.symm))
  have t14 := (Sta.wr W6 (Sta.ext E5 (Sta.ext E4 SA)))
  have t15 := (Sta.wr W6 (Sta.ext E5 (Sta.ext E4 SH)))
  have t16 := (Sta.wr W6 (Sta.ext E5 (Sta.ext E4 SLo)))
  have t17 := (Sta.wr W6 (Sta.ext E5 (Sta.ext E4 SC)))
  refine g_callN X6 B [.ref ar] [.ref str] at_65 68 rfl rfl rfl (hw _ (List.mem_of_getElem? (i := 9) rfl)) (hw _ (List.mem_of_getElem? (i := 10) rfl)) (hw _ (List.mem_of_getElem? (i := 11) rfl)) (hw _ (List.mem_of_getElem? (i := 7) rfl)) (by decide) (lenOf pd_2 rfl) (rS_i1 l Z ag hw str ar [c0] cx h6 n0 t13 (by simp) (by simp) (own_chs1 hx0 hx1 hx2) g_str t10 t11 t12 A6 t14 t15 t16 t17 hcx) e6 rfl 1 (Nat.le_of_eq rfl) (by decide) (by decide) (by decide) (by decide) (fun v7 T7 h7 L7 X7 e7 q7 => ?_)
  obtain ⟨bb, vs, kk, rfl, N7, K7, f1, f2, f3, hSV, f5, f6⟩ := q7
  show Go p e below _ (T7.setTop (mkF m 68 #[.val (.int u0), .val (.int p1), .val (.int p2), .val (.int p3), .val (.int p4), .val (.int (1 : Int32)), .val (.int c0), .val (.int c1), .val (.int c2), .unset, .unset, .unset, .unset, .unset, .unset, .unset, .unset, .unset, .unset] [.ref str]))
  refine g_astore X7 B #[.val (.int u0), .val (.int p1), .val (.int p2), .val (.int p3), .val (.int p4), .val (.int (1 : Int32)), .val (.int c0), .val (.int c1), .val (.int c2), .val (.ref str), .unset, .unset, .unset, .unset, .unset, .unset, .unset, .unset, .unset] at_68 70 rfl rfl rfl ?_
  refine g_iconst X7 B (1) at_70 71 rfl rfl ?_
  refine g_istore X7 B #[.val (.int u0), .val (.int p1), .val (.int p2), .val (.int p3), .val (.int p4), .val (.int (1 : Int32)), .val (.int c0), .val (.int c1), .val (.int c2), .val (.ref str), .val (.int (1 : Int32)), .unset, .unset, .unset, .unset, .unset, .unset, .unset, .unset] at_71 73 rfl rfl ?_
  refine g_goto X7 B at_73 225 rfl (by decide) ?_
  rw [show (1 : Int32) = (Int32.ofNat (1 - own_ps [c0] (1 - 1))) from rfl]
  refine g_iloadN X7 B at_225 226 rfl rfl ?_
  have t18 := (Keep.trans (Keep.wr (Keep.ext t4 E5) W6 (Or.inr gg_ar)) K7 (allS (Or.inr gg_str) all0))
  have t19 := (Nat.le_trans t13 K7.1)
  have t20 := (Av.keep (Av.other (Av.ext t5 E5) W6 t7) K7 (ninS t1 nin0))
  have t21 := (Av.keep (Av.other (Av.ext t6 E5) W6 t8) K7 (ninS t2 nin0))
  have t22 := (own_stkw t17 K7 (own_plE t10 own_pl0))
  have t23 := (own_stkw (Sta.wr W6 (Sta.ext E5 (Sta.ext E4 SD1))) K7 (own_plE t10 own_pl0))
  have t24 := (own_stkw (Sta.wr W6 (Sta.ext E5 (Sta.ext E4 SD2))) K7 (own_plE t10 own_pl0))
  refine g_callSW X7 B hS (Nat.zero_le _) I [.int u0] [] at_226 229 rfl rfl (hw _ (List.mem_of_getElem? (i := 27) rfl)) (hw _ (List.mem_of_getElem? (i := 28) rfl)) (hw _ (List.mem_of_getElem? (i := 29) rfl)) (hw _ (List.mem_of_getElem? (i := 30) rfl)) (by decide) (lenOf pd_5 rfl) (rT_fac l Z ag hw u0 cx d1 d2 _ h7 h7.size (Nat.le_refl _) (Nat.le_refl _) t22 hcx t23 t24 t20 t21 t20.lt t21.lt (fun b cl q => t18.2.1 b cl (OZ b cl q) nin0) hH35 hH44 hcw (by simp)) e7 rfl 0 (Nat.le_of_eq rfl) (by decide) (by decide) (by decide) (by decide) (fun v8 T8 h8 L8 X8 B e8 hS q8 => ?_)
  obtain ⟨tr, fo, cK, rq, rb, ws, rfl, M8, K8, tE, tF, tC, hmd, tR, rE, rV, rC, rA, hLr⟩ := q8
  show Go p e below _ (T8.setTop (mkF m 229 #[.val (.int u0), .val (.int p1), .val (.int p2), .val (.int p3), .val (.int p4), .val (.int (1 : Int32)), .val (.int c0), .val (.int c1), .val (.int c2), .val (.ref str), .val (.int (Int32.ofNat (1 - own_ps [c0] (1 - 1)))), .unset, .unset, .unset, .unset, .unset, .unset, .unset, .unset] [.ref tr]))
  have N8 := own_Frle M8 t19
  have kk8 : h8.size ≤ h8.size := Nat.le_refl _
  have hM : (own_digs u0.toInt.natAbs).length ≤ 10 := own_digs_le (own_nalt u0)
  have hMp : 0 < (own_digs u0.toInt.natAbs).length := own_digs_pos _
  refine g_astore X8 B #[.val (.int u0), .val (.int p1), .val (.int p2), .val (.int p3), .val (.int p4), .val (.int (1 : Int32)), .val (.int c0), .val (.int c1), .val (.int c2), .val (.ref str), .val (.int (Int32.ofNat (1 - own_ps [c0] (1 - 1)))), .val (.ref tr), .unset, .unset, .unset, .unset, .unset, .unset, .unset] at_229 231 rfl rfl rfl ?_
  refine g_aload X8 B at_231 233 rfl rfl rfl ?_
  refine g_aload X8 B at_233 235 rfl rfl rfl ?_
  have t25 := (Exa.keep (Exa.keep t10 K7) K8)
  have t26 := (Fld.keep f1 K8 nin0)
  have t27 := (Fld.keep f2 K8 nin0)
  have t28 := (Av.keep f3 K8 nin0)
  have t29 := (own_stk (own_stkw t14 K7 (own_plE t10 own_pl0)) K8)
  have t30 := (own_stk (own_stkw t15 K7 (own_plE t10 own_pl0)) K8)
  have t31 := (own_stk (own_stkw t16 K7 (own_plE t10 own_pl0)) K8)
  have t32 := (own_stk t22 K8)
  refine g_callV X8 B [.ref str] [] at_235 238 rfl rfl (hw _ (List.mem_of_getElem? (i := 201) rfl)) (hw _ (List.mem_of_getElem? (i := 202) rfl)) (hw _ (List.mem_of_getElem? (i := 204) rfl)) (hw _ (List.mem_of_getElem? (i := 203) rfl)) (hw _ (List.mem_of_getElem? (i := 29) rfl)) (hw _ (List.mem_of_getElem? (i := 205) rfl)) (by decide) (lenOf pd_37 rfl) tE (rT_alw l Z ag hw str bb kk cx vs [c0] tr fo cK u0 h8 n0 tF tC hmd t25 t26 t27 t28 (by simp) (own_chs1 hx0 hx1 hx2) hSV t29 t30 t31 t32 hcx) e8 rfl 0 (Nat.le_of_eq rfl) (by decide) (by decide) (by decide) (by decide) (fun v9 T9 h9 L9 X9 e9 q9 => ?_)
  obtain ⟨rfl, N9, rfl⟩ := q9
  show Go p e below _ (T9.setTop (mkF m 238 #[.val (.int u0), .val (.int p1), .val (.int p2), .val (.int p3), .val (.int p4), .val (.int (1 : Int32)), .val (.int c0), .val (.int c1), .val (.int c2), .val (.ref str), .val (.int (Int32.ofNat (1 - own_ps [c0] (1 - 1)))), .val (.ref tr), .unset, .unset, .unset, .unset, .unset, .unset, .unset] [.int (if ¬ u0 < (Int32.ofNat (1 - own_ps [c0] (1 - 1))) then (1 : Int32) else 0)]))
  have j2 : Go p e below (EndsW s (fun v h vm L => v = some (.int 1) ∧ Fr n0 L) room_1.cells room_1.slots) (T9.setTop (mkF m 257 #[.val (.int u0), .val (.int p1), .val (.int p2), .val (.int p3), .val (.int p4), .val (.int (1 : Int32)), .val (.int c0), .val (.int c1), .val (.int c2), .val (.ref str), .val (.int (Int32.ofNat (1 - own_ps [c0] (1 - 1)))), .val (.ref tr), .unset, .unset, .unset, .unset, .unset, .unset, .unset] [.int 1])) := by
    refine g_istore X9 B #[.val (.int u0), .val (.int p1), .val (.int p2), .val (.int p3), .val (.int p4), .val (.int (1 : Int32)), .val (.int c0), .val (.int c1), .val (.int c2), .val (.ref str), .val (.int (Int32.ofNat (1 - own_ps [c0] (1 - 1)))), .val (.ref tr), .val (.int (1 : Int32)), .unset, .unset, .unset, .unset, .unset, .unset] at_257 259 rfl rfl ?_
    refine g_aload X9 B at_259 261 rfl rfl rfl ?_
    refine g_callV X9 B [] [] at_261 264 rfl rfl (hw _ (List.mem_of_getElem? (i := 233) rfl)) (hw _ (List.mem_of_getElem? (i := 234) rfl)) (hw _ (List.mem_of_getElem? (i := 236) rfl)) (hw _ (List.mem_of_getElem? (i := 235) rfl)) (hw _ (List.mem_of_getElem? (i := 29) rfl)) (hw _ (List.mem_of_getElem? (i := 237) rfl)) (by decide) (lenOf pd_44 rfl) tE (rm_req l Z ag hw tr rq h8 n0 tR) e9 rfl 0 (Nat.le_of_eq rfl) (by decide) (by decide) (by decide) (by decide) (fun v10 T10 h10 L10 X10 e10 q10 => ?_)
    obtain ⟨rfl, N10, rfl⟩ := q10
    show Go p e below _ (T10.setTop (mkF m 264 #[.val (.int u0), .val (.int p1), .val (.int p2), .val (.int p3), .val (.int p4), .val (.int (1 : Int32)), .val (.int c0), .val (.int c1), .val (.int c2), .val (.ref str), .val (.int (Int32.ofNat (1 - own_ps [c0] (1 - 1)))), .val (.ref tr), .val (.int (1 : Int32)), .unset, .unset, .unset, .unset, .unset, .unset] [.ref rq]))
    refine g_astore X10 B #[.val (.int u0), .val (.int p1), .val (.int p2), .val (.int p3), .val (.int p4), .val (.int (1 : Int32)), .val (.int c0), .val (.int c1), .val (.int c2), .val (.ref str), .val (.int (Int32.ofNat (1 - own_ps [c0] (1 - 1)))), .val (.ref tr), .val (.int (1 : Int32)), .val (.ref rq), .unset, .unset, .unset, .unset, .unset] at_264 266 rfl rfl rfl ?_
    refine g_iloadN X10 B at_266 267 rfl rfl ?_
    refine g_if_ge X10 B at_267 274 270 rfl (by decide) rfl (fun hng => ?_) (fun hng => ?_)
    · skip
      have hF : (((([] : List Int32) ++ ([109, 117, 115, 116, 32, 98, 101, 32, 97, 116, 32, 109, 111, 115, 116, 32] : List Int32)) ++ own_dec u0) ++ ([32, 99, 104, 97, 114, 97, 99, 116, 101, 114, 115] : List Int32)) = ((([109, 117, 115, 116, 32, 98, 101, 32, 97, 116, 32, 109, 111, 115, 116, 32] : List Int32) ++ own_digs u0.toInt.natAbs) ++ ([32, 99, 104, 97, 114, 97, 99, 116, 101, 114, 115] : List Int32)) := by rw [own_dec_n hng]; rfl
      rw [hF] at hLr
      have hFl : ((([109, 117, 115, 116, 32, 98, 101, 32, 97, 116, 32, 109, 111, 115, 116, 32] : List Int32) ++ own_digs u0.toInt.natAbs) ++ ([32, 99, 104, 97, 114, 97, 99, 116, 101, 114, 115] : List Int32)).length = 27 + (own_digs u0.toInt.natAbs).length := by rw [List.length_append, List.length_append]; show 16 + _ + 11 = _; omega
      have hn70 : ((([109, 117, 115, 116, 32, 98, 101, 32, 97, 116, 32, 109, 111, 115, 116, 32] : List Int32) ++ own_digs u0.toInt.natAbs) ++ ([32, 99, 104, 97, 114, 97, 99, 116, 101, 114, 115] : List Int32)).length ≤ 70 := by rw [hFl]; omega
      refine g_iconst X10 B (0) at_274 275 rfl rfl ?_
      refine g_istore X10 B #[.val (.int u0), .val (.int p1), .val (.int p2), .val (.int p3), .val (.int p4), .val (.int (1 : Int32)), .val (.int c0), .val (.int c1), .val (.int c2), .val (.ref str), .val (.int (Int32.ofNat (1 - own_ps [c0] (1 - 1)))), .val (.ref tr), .val (.int (1 : Int32)), .val (.ref rq), .val (.int (0 : Int32)), .unset, .unset, .unset, .unset] at_275 277 rfl rfl ?_
      refine g_iloadN X10 B at_277 278 rfl rfl ?_
      refine g_i2l X10 B at_278 279 rfl ?_
      refine g_callS X10 B [.long (u0.toInt64)] [] at_279 282 rfl rfl (hw _ (List.mem_of_getElem? (i := 238) rfl)) (hw _ (List.mem_of_getElem? (i := 239) rfl)) (hw _ (List.mem_of_getElem? (i := 128) rfl)) (hw _ (List.mem_of_getElem? (i := 240) rfl)) (by decide) (lenOf pd_45 rfl) (rm_abs l Z ag hw u0.toInt64 h8 n0) e10 rfl 0 (Nat.le_of_eq rfl) (by decide) (by decide) (by decide) (by decide) (fun v11 T11 h11 L11 X11 e11 q11 => ?_)
      obtain ⟨rfl, N11, rfl⟩ := q11
      show Go p e below _ (T11.setTop (mkF m 282 #[.val (.int u0), .val (.int p1), .val (.int p2), .val (.int p3), .val (.int p4), .val (.int (1 : Int32)), .val (.int c0), .val (.int c1), .val (.int c2), .val (.ref str), .val (.int (Int32.ofNat (1 - own_ps [c0] (1 - 1)))), .val (.ref tr), .val (.int (1 : Int32)), .val (.ref rq), .val (.int (0 : Int32)), .unset, .unset, .unset, .unset] [.long (own_absv u0)]))
      refine g_lstore X11 B #[.val (.int u0), .val (.int p1), .val (.int p2), .val (.int p3), .val (.int p4), .val (.int (1 : Int32)), .val (.int c0), .val (.int c1), .val (.int c2), .val (.ref str), .val (.int (Int32.ofNat (1 - own_ps [c0] (1 - 1)))), .val (.ref tr), .val (.int (1 : Int32)), .val (.ref rq), .val (.int (0 : Int32)), .val (.long (own_absv u0)), .second, .unset, .unset] at_282 284 rfl rfl ?_
      refine g_bipush X11 B (27) at_284 286 rfl rfl ?_
      refine g_iload X11 B at_286 288 rfl rfl ?_
      refine g_if_eq X11 B at_288 295 291 rfl (by decide) rfl (fun _ => ?_) (fun z => own_abs (by decide) z)
      refine g_iconst X11 B (0) at_295 296 rfl rfl ?_
      refine g_iadd X11 B at_296 297 rfl ?_
      refine g_lload X11 B at_297 299 rfl rfl ?_
      refine g_callS X11 B [.long (own_absv u0)] [.int ((27 : Int32) + (0 : Int32))] at_299 302 rfl rfl (hw _ (List.mem_of_getElem? (i := 241) rfl)) (hw _ (List.mem_of_getElem? (i := 242) rfl)) (hw _ (List.mem_of_getElem? (i := 2) rfl)) (hw _ (List.mem_of_getElem? (i := 243) rfl)) (by decide) (lenOf pd_46 rfl) (rm_digits l Z ag hw (own_absv u0) u0.toInt.natAbs h8 n0 (own_absz u0) (own_nalt u0)) e11 rfl 1 (Nat.le_of_eq rfl) (by decide) (by decide) (by decide) (by decide) (fun v12 T12 h12 L12 X12 e12 q12 => ?_)
      obtain ⟨rfl, N12, rfl⟩ := q12
      show Go p e below _ (T12.setTop (mkF m 302 #[.val (.int u0), .val (.int p1), .val (.int p2), .val (.int p3), .val (.int p4), .val (.int (1 : Int32)), .val (.int c0), .val (.int c1), .val (.int c2), .val (.ref str), .val (.int (Int32.ofNat (1 - own_ps [c0] (1 - 1)))), .val (.ref tr), .val (.int (1 : Int32)), .val (.ref rq), .val (.int (0 : Int32)), .val (.long (own_absv u0)), .second, .unset, .unset] [.int (Int32.ofNat (own_digs u0.toInt.natAbs).length), .int ((27 : Int32) + (0 : Int32))]))
      refine g_iadd X12 B at_302 303 rfl ?_
      rw [show ((27 : Int32) + (0 : Int32)) = Int32.ofNat 27 by decide, own_addN (by omega)]
      refine g_istore X12 B #[.val (.int u0), .val (.int p1), .val (.int p2), .val (.int p3), .val (.int p4), .val (.int (1 : Int32)), .val (.int c0), .val (.int c1), .val (.int c2), .val (.ref str), .val (.int (Int32.ofNat (1 - own_ps [c0] (1 - 1)))), .val (.ref tr), .val (.int (1 : Int32)), .val (.ref rq), .val (.int (0 : Int32)), .val (.long (own_absv u0)), .second, .val (.int (Int32.ofNat (27 + (own_digs u0.toInt.natAbs).length))), .unset] at_303 305 rfl rfl ?_
      refine g_aload X12 B at_305 307 rfl rfl rfl ?_
      refine g_callV X12 B [] [] at_307 310 rfl rfl (hw _ (List.mem_of_getElem? (i := 245) rfl)) (hw _ (List.mem_of_getElem? (i := 67) rfl)) (hw _ (List.mem_of_getElem? (i := 69) rfl)) (hw _ (List.mem_of_getElem? (i := 68) rfl)) (hw _ (List.mem_of_getElem? (i := 7) rfl)) (hw _ (List.mem_of_getElem? (i := 70) rfl)) (by decide) (lenOf pd_10 rfl) rE (rB_len l Z ag hw rq rb cx ws ((([109, 117, 115, 116, 32, 98, 101, 32, 97, 116, 32, 109, 111, 115, 116, 32] : List Int32) ++ own_digs u0.toInt.natAbs) ++ ([32, 99, 104, 97, 114, 97, 99, 116, 101, 114, 115] : List Int32)) h8 n0 rE rV rC rA hn70 hLr t32 hcx) e12 rfl 0 (Nat.le_of_eq rfl) (by decide) (by decide) (by decide) (by decide) (fun v13 T13 h13 L13 X13 e13 q13 => ?_)
      obtain ⟨rfl, N13, rfl⟩ := q13
      show Go p e below _ (T13.setTop (mkF m 310 #[.val (.int u0), .val (.int p1), .val (.int p2), .val (.int p3), .val (.int p4), .val (.int (1 : Int32)), .val (.int c0), .val (.int c1), .val (.int c2), .val (.ref str), .val (.int (Int32.ofNat (1 - own_ps [c0] (1 - 1)))), .val (.ref tr), .val (.int (1 : Int32)), .val (.ref rq), .val (.int (0 : Int32)), .val (.long (own_absv u0)), .second, .val (.int (Int32.ofNat (27 + (own_digs u0.toInt.natAbs).length))), .unset] [.int (Int32.ofNat ((([109, 117, 115, 116, 32, 98, 101, 32, 97, 116, 32, 109, 111, 115, 116, 32] : List Int32) ++ own_digs u0.toInt.natAbs) ++ ([32, 99, 104, 97, 114, 97, 99, 116, 101, 114, 115] : List Int32)).length)]))
      refine g_iload X13 B at_310 312 rfl rfl ?_
      refine g_icmp_ne X13 B at_312 319 315 rfl (by decide) rfl (fun z => own_abs (by rw [hFl]) z) (fun _ => ?_)
      refine g_iconst X13 B (1) at_315 316 rfl rfl ?_
      refine g_goto X13 B at_316 320 rfl (by decide) ?_
      refine g_istore X13 B #[.val (.int u0), .val (.int p1), .val (.int p2), .val (.int p3), .val (.int p4), .val (.int (1 : Int32)), .val (.int c0), .val (.int c1), .val (.int c2), .val (.ref str), .val (.int (Int32.ofNat (1 - own_ps [c0] (1 - 1)))), .val (.ref tr), .val (.int (1 : Int32)), .val (.ref rq), .val (.int (0 : Int32)), .val (.long (own_absv u0)), .second, .val (.int (Int32.ofNat (27 + (own_digs u0.toInt.natAbs).length))), .val (.int (1 : Int32))] at_320 322 rfl rfl ?_
      refine g_iload X13 B at_322 324 rfl rfl ?_
      refine g_if_eq X13 B at_324 432 327 rfl (by decide) rfl (fun z => own_abs' (by decide) z) (fun _ => ?_)
      refine g_aload X13 B at_327 329 rfl rfl rfl ?_
      refine g_iconst X13 B (0) at_329 330 rfl rfl ?_
      have t33 := (own_stk (own_stkw (Sta.wr W6 (Sta.ext E5 (Sta.ext E4 SF))) K7 (own_plE t10 own_pl0)) K8)
      refine g_callV X13 B [.int (0 : Int32)] [] at_330 333 rfl rfl (hw _ (List.mem_of_getElem? (i := 246) rfl)) (hw _ (List.mem_of_getElem? (i := 247) rfl)) (hw _ (List.mem_of_getElem? (i := 249) rfl)) (hw _ (List.mem_of_getElem? (i := 248) rfl)) (hw _ (List.mem_of_getElem? (i := 7) rfl)) (hw _ (List.mem_of_getElem? (i := 250) rfl)) (by decide) (lenOf pd_47 rfl) rE (rL_cat l Z ag hw rq rb cx 0 109 ws ((([109, 117, 115, 116, 32, 98, 101, 32, 97, 116, 32, 109, 111, 115, 116, 32] : List Int32) ++ own_digs u0.toInt.natAbs) ++ ([32, 99, 104, 97, 114, 97, 99, 116, 101, 114, 115] : List Int32)) g h8 n0 rE rV rC rA hn70 hLr t32 hcx (by rw [hFl]; omega) (own_at1 (by decide)) (by unfold own_ch; decide) t33 hg) e13 rfl 0 (Nat.le_of_eq rfl) (by decide) (by decide) (by decide) (by decide) (fun v14 T14 h14 L14 X14 e14 q14 => ?_)
      obtain ⟨rfl, N14, rfl⟩ := q14
      show Go p e below _ (T14.setTop (mkF m 333 #[.val (.int u0), .val (.int p1), .val (.int p2), .val (.int p3), .val (.int p4), .val (.int (1 : Int32)), .val (.int c0), .val (.int c1), .val (.int c2), .val (.ref str), .val (.int (Int32.ofNat (1 - own_ps [c0] (1 - 1)))), .val (.ref tr), .val (.int (1 : Int32)), .val (.ref rq), .val (.int (0 : Int32)), .val (.long (own_absv u0)), .second, .val (.int (Int32.ofNat (27 + (own_digs u0.toInt.natAbs).length))), .val (.int (1 : Int32))] [.int 109]))
      refine g_bipush X14 B (109) at_333 335 rfl rfl ?_
      refine g_icmp_ne X14 B at_335 429 338 rfl (by decide) rfl (fun z => own_abs (rfl) z) (fun _ => ?_)
      refine g_aload X14 B at_338 340 rfl rfl rfl ?_
      refine g_bipush X14 B (15) at_340 342 rfl rfl ?_
      refine g_callV X14 B [.int (15 : Int32)] [] at_342 345 rfl rfl (hw _ (List.mem_of_getElem? (i := 246) rfl)) (hw _ (List.mem_of_getElem? (i := 247) rfl)) (hw _ (List.mem_of_getElem? (i := 249) rfl)) (hw _ (List.mem_of_getElem? (i := 248) rfl)) (hw _ (List.mem_of_getElem? (i := 7) rfl)) (hw _ (List.mem_of_getElem? (i := 250) rfl)) (by decide) (lenOf pd_47 rfl) rE (rL_cat l Z ag hw rq rb cx 15 32 ws ((([109, 117, 115, 116, 32, 98, 101, 32, 97, 116, 32, 109, 111, 115, 116, 32] : List Int32) ++ own_digs u0.toInt.natAbs) ++ ([32, 99, 104, 97, 114, 97, 99, 116, 101, 114, 115] : List Int32)) g h8 n0 rE rV rC rA hn70 hLr t32 hcx (by rw [hFl]; omega) (own_at1 (by decide)) (by unfold own_ch; decide) t33 hg) e14 rfl 0 (Nat.le_of_eq rfl) (by decide) (by decide) (by decide) (by decide) (fun v15 T15 h15 L15 X15 e15 q15 => ?_)
      obtain ⟨rfl, N15, rfl⟩ := q15
      show Go p e below _ (T15.setTop (mkF m 345 #[.val (.int u0), .val (.int p1), .val (.int p2), .val (.int p3), .val (.int p4), .val (.int (1 : Int32)), .val (.int c0), .val (.int c1), .val (.int c2), .val (.ref str), .val (.int (Int32.ofNat (1 - own_ps [c0] (1 - 1)))), .val (.ref tr), .val (.int (1 : Int32)), .val (.ref rq), .val (.int (0 : Int32)), .val (.long (own_absv u0)), .second, .val (.int (Int32.ofNat (27 + (own_digs u0.toInt.natAbs).length))), .val (.int (1 : Int32))] [.int 32]))
      refine g_bipush X15 B (32) at_345 347 rfl rfl ?_
      refine g_icmp_ne X15 B at_347 429 350 rfl (by decide) rfl (fun z => own_abs (rfl) z) (fun _ => ?_)
      refine g_aload X15 B at_350 352 rfl rfl rfl ?_
      refine g_iload X15 B at_352 354 rfl rfl ?_
      refine g_iconst X15 B (1) at_354 355 rfl rfl ?_
      refine g_isub X15 B at_355 356 rfl ?_
      rw [show (1 : Int32) = Int32.ofNat 1 from rfl, own_subN (by omega) (by omega)]
      refine g_callV X15 B [.int (Int32.ofNat (27 + (own_digs u0.toInt.natAbs).length - 1))] [] at_356 359 rfl rfl (hw _ (List.mem_of_getElem? (i := 246) rfl)) (hw _ (List.mem_of_getElem? (i := 247) rfl)) (hw _ (List.mem_of_getElem? (i := 249) rfl)) (hw _ (List.mem_of_getElem? (i := 248) rfl)) (hw _ (List.mem_of_getElem? (i := 7) rfl)) (hw _ (List.mem_of_getElem? (i := 250) rfl)) (by decide) (lenOf pd_47 rfl) rE (rL_cat l Z ag hw rq rb cx (27 + (own_digs u0.toInt.natAbs).length - 1) 115 ws ((([109, 117, 115, 116, 32, 98, 101, 32, 97, 116, 32, 109, 111, 115, 116, 32] : List Int32) ++ own_digs u0.toInt.natAbs) ++ ([32, 99, 104, 97, 114, 97, 99, 116, 101, 114, 115] : List Int32)) g h8 n0 rE rV rC rA hn70 hLr t32 hcx (by rw [hFl]; omega) (own_at3 (j := 10) (show 27 + (own_digs u0.toInt.natAbs).length - 1 = 16 + (own_digs u0.toInt.natAbs).length + 10 by omega)) (by unfold own_ch; decide) t33 hg) e15 rfl 0 (Nat.le_of_eq rfl) (by decide) (by decide) (by decide) (by decide) (fun v16 T16 h16 L16 X16 e16 q16 => ?_)
      obtain ⟨rfl, N16, rfl⟩ := q16
      show Go p e below _ (T16.setTop (mkF m 359 #[.val (.int u0), .val (.int p1), .val (.int p2), .val (.int p3), .val (.int p4), .val (.int (1 : Int32)), .val (.int c0), .val (.int c1), .val (.int c2), .val (.ref str), .val (.int (Int32.ofNat (1 - own_ps [c0] (1 - 1)))), .val (.ref tr), .val (.int (1 : Int32)), .val (.ref rq), .val (.int (0 : Int32)), .val (.long (own_absv u0)), .second, .val (.int (Int32.ofNat (27 + (own_digs u0.toInt.natAbs).length))), .val (.int (1 : Int32))] [.int 115]))
      refine g_bipush X16 B (115) at_359 361 rfl rfl ?_
      refine g_icmp_ne X16 B at_361 429 364 rfl (by decide) rfl (fun z => own_abs (rfl) z) (fun _ => ?_)
      refine g_aload X16 B at_364 366 rfl rfl rfl ?_
      refine g_iload X16 B at_366 368 rfl rfl ?_
      refine g_bipush X16 B (11) at_368 370 rfl rfl ?_
      refine g_isub X16 B at_370 371 rfl ?_
      rw [show (11 : Int32) = Int32.ofNat 11 from rfl, own_subN (by omega) (by omega)]
      refine g_callV X16 B [.int (Int32.ofNat (27 + (own_digs u0.toInt.natAbs).length - 11))] [] at_371 374 rfl rfl (hw _ (List.mem_of_getElem? (i := 246) rfl)) (hw _ (List.mem_of_getElem? (i := 247) rfl)) (hw _ (List.mem_of_getElem? (i := 249) rfl)) (hw _ (List.mem_of_getElem? (i := 248) rfl)) (hw _ (List.mem_of_getElem? (i := 7) rfl)) (hw _ (List.mem_of_getElem? (i := 250) rfl)) (by decide) (lenOf pd_47 rfl) rE (rL_cat l Z ag hw rq rb cx (27 + (own_digs u0.toInt.natAbs).length - 11) 32 ws ((([109, 117, 115, 116, 32, 98, 101, 32, 97, 116, 32, 109, 111, 115, 116, 32] : List Int32) ++ own_digs u0.toInt.natAbs) ++ ([32, 99, 104, 97, 114, 97, 99, 116, 101, 114, 115] : List Int32)) g h8 n0 rE rV rC rA hn70 hLr t32 hcx (by rw [hFl]; omega) (own_at3 (j := 0) (show 27 + (own_digs u0.toInt.natAbs).length - 11 = 16 + (own_digs u0.toInt.natAbs).length + 0 by omega)) (by unfold own_ch; decide) t33 hg) e16 rfl 0 (Nat.le_of_eq rfl) (by decide) (by decide) (by decide) (by decide) (fun v17 T17 h17 L17 X17 e17 q17 => ?_)
      obtain ⟨rfl, N17, rfl⟩ := q17
      show Go p e below _ (T17.setTop (mkF m 374 #[.val (.int u0), .val (.int p1), .val (.int p2), .val (.int p3), .val (.int p4), .val (.int (1 : Int32)), .val (.int c0), .val (.int c1), .val (.int c2), .val (.ref str), .val (.int (Int32.ofNat (1 - own_ps [c0] (1 - 1)))), .val (.ref tr), .val (.int (1 : Int32)), .val (.ref rq), .val (.int (0 : Int32)), .val (.long (own_absv u0)), .second, .val (.int (Int32.ofNat (27 + (own_digs u0.toInt.natAbs).length))), .val (.int (1 : Int32))] [.int 32]))
      refine g_bipush X17 B (32) at_374 376 rfl rfl ?_
      refine g_icmp_ne X17 B at_376 429 379 rfl (by decide) rfl (fun z => own_abs (rfl) z) (fun _ => ?_)
      refine g_aload X17 B at_379 381 rfl rfl rfl ?_
      refine g_bipush X17 B (16) at_381 383 rfl rfl ?_
      obtain ⟨cf, hcf, hcfc, hcfn⟩ := own_firstd u0.toInt.natAbs
      refine g_callV X17 B [.int (16 : Int32)] [] at_383 386 rfl rfl (hw _ (List.mem_of_getElem? (i := 246) rfl)) (hw _ (List.mem_of_getElem? (i := 247) rfl)) (hw _ (List.mem_of_getElem? (i := 249) rfl)) (hw _ (List.mem_of_getElem? (i := 248) rfl)) (hw _ (List.mem_of_getElem? (i := 7) rfl)) (hw _ (List.mem_of_getElem? (i := 250) rfl)) (by decide) (lenOf pd_47 rfl) rE (rL_cat l Z ag hw rq rb cx 16 cf ws ((([109, 117, 115, 116, 32, 98, 101, 32, 97, 116, 32, 109, 111, 115, 116, 32] : List Int32) ++ own_digs u0.toInt.natAbs) ++ ([32, 99, 104, 97, 114, 97, 99, 116, 101, 114, 115] : List Int32)) g h8 n0 rE rV rC rA hn70 hLr t32 hcx (by rw [hFl]; omega) ((own_at2 (j := 0) (show 16 = 16 + 0 by decide) hMp).trans hcf) hcfc t33 hg) e17 rfl 0 (Nat.le_of_eq rfl) (by decide) (by decide) (by decide) (by decide) (fun v18 T18 h18 L18 X18 e18 q18 => ?_)
      obtain ⟨rfl, N18, rfl⟩ := q18
      show Go p e below _ (T18.setTop (mkF m 386 #[.val (.int u0), .val (.int p1), .val (.int p2), .val (.int p3), .val (.int p4), .val (.int (1 : Int32)), .val (.int c0), .val (.int c1), .val (.int c2), .val (.ref str), .val (.int (Int32.ofNat (1 - own_ps [c0] (1 - 1)))), .val (.ref tr), .val (.int (1 : Int32)), .val (.ref rq), .val (.int (0 : Int32)), .val (.long (own_absv u0)), .second, .val (.int (Int32.ofNat (27 + (own_digs u0.toInt.natAbs).length))), .val (.int (1 : Int32))] [.int cf]))
      refine g_bipush X18 B (45) at_386 388 rfl rfl ?_
      refine g_icmp_ne X18 B at_388 395 391 rfl (by decide) rfl (fun _ => ?_) (fun z => own_abs' (hcfn) z)
      refine g_iconst X18 B (0) at_395 396 rfl rfl ?_
      refine g_iload X18 B at_396 398 rfl rfl ?_
      refine g_icmp_ne X18 B at_398 429 401 rfl (by decide) rfl (fun z => own_abs (by decide) z) (fun _ => ?_)
      refine g_aload X18 B at_401 403 rfl rfl rfl ?_
      refine g_iload X18 B at_403 405 rfl rfl ?_
      refine g_bipush X18 B (12) at_405 407 rfl rfl ?_
      refine g_isub X18 B at_407 408 rfl ?_
      rw [show (12 : Int32) = Int32.ofNat 12 from rfl, own_subN (by omega) (by omega)]
      refine g_callV X18 B [.int (Int32.ofNat (27 + (own_digs u0.toInt.natAbs).length - 12))] [] at_408 411 rfl rfl (hw _ (List.mem_of_getElem? (i := 246) rfl)) (hw _ (List.mem_of_getElem? (i := 247) rfl)) (hw _ (List.mem_of_getElem? (i := 249) rfl)) (hw _ (List.mem_of_getElem? (i := 248) rfl)) (hw _ (List.mem_of_getElem? (i := 7) rfl)) (hw _ (List.mem_of_getElem? (i := 250) rfl)) (by decide) (lenOf pd_47 rfl) rE (rL_cat l Z ag hw rq rb cx (27 + (own_digs u0.toInt.natAbs).length - 12) (Int32.ofNat (48 + u0.toInt.natAbs % 10)) ws ((([109, 117, 115, 116, 32, 98, 101, 32, 97, 116, 32, 109, 111, 115, 116, 32] : List Int32) ++ own_digs u0.toInt.natAbs) ++ ([32, 99, 104, 97, 114, 97, 99, 116, 101, 114, 115] : List Int32)) g h8 n0 rE rV rC rA hn70 hLr t32 hcx (by rw [hFl]; omega) ((own_at2 (j := (own_digs u0.toInt.natAbs).length - 1) (show 27 + (own_digs u0.toInt.natAbs).length - 12 = 16 + ((own_digs u0.toInt.natAbs).length - 1) by omega) (by omega)).trans (own_lastd u0.toInt.natAbs)) (own_chd u0.toInt.natAbs) t33 hg) e18 rfl 0 (Nat.le_of_eq rfl) (by decide) (by decide) (by decide) (by decide) (fun v19 T19 h19 L19 X19 e19 q19 => ?_)
      obtain ⟨rfl, N19, rfl⟩ := q19
      show Go p e below _ (T19.setTop (mkF m 411 #[.val (.int u0), .val (.int p1), .val (.int p2), .val (.int p3), .val (.int p4), .val (.int (1 : Int32)), .val (.int c0), .val (.int c1), .val (.int c2), .val (.ref str), .val (.int (Int32.ofNat (1 - own_ps [c0] (1 - 1)))), .val (.ref tr), .val (.int (1 : Int32)), .val (.ref rq), .val (.int (0 : Int32)), .val (.long (own_absv u0)), .second, .val (.int (Int32.ofNat (27 + (own_digs u0.toInt.natAbs).length))), .val (.int (1 : Int32))] [.int (Int32.ofNat (48 + u0.toInt.natAbs % 10))]))
      refine g_bipush X19 B (48) at_411 413 rfl rfl ?_
      refine g_lload X19 B at_413 415 rfl rfl ?_
      refine g_ldc2J X19 B at_415 418 rfl (hw _ (List.mem_of_getElem? (i := 244) rfl)) ?_
      refine g_lrem X19 B at_418 419 rfl (by decide) ?_
      refine g_l2i X19 B at_419 420 rfl ?_
      refine g_iadd X19 B at_420 421 rfl ?_
      refine g_i2c X19 B at_421 422 rfl ?_
      refine g_icmp_ne X19 B at_422 429 425 rfl (by decide) rfl (fun z => own_abs ((own_digch1 (own_absz u0)).symm) z) (fun _ => ?_)
      refine g_iconst X19 B (1) at_425 426 rfl rfl ?_
      refine g_goto X19 B at_426 430 rfl (by decide) ?_
      refine g_istore X19 B #[.val (.int u0), .val (.int p1), .val (.int p2), .val (.int p3), .val (.int p4), .val (.int (1 : Int32)), .val (.int c0), .val (.int c1), .val (.int c2), .val (.ref str), .val (.int (Int32.ofNat (1 - own_ps [c0] (1 - 1)))), .val (.ref tr), .val (.int (1 : Int32)), .val (.ref rq), .val (.int (0 : Int32)), .val (.long (own_absv u0)), .second, .val (.int (Int32.ofNat (27 + (own_digs u0.toInt.natAbs).length))), .val (.int (1 : Int32))] at_430 432 rfl rfl ?_
      refine g_iload X19 B at_432 434 rfl rfl ?_
      refine g_if_eq X19 B at_434 446 437 rfl (by decide) rfl (fun z => own_abs' (by decide) z) (fun _ => ?_)
      refine g_iload X19 B at_437 439 rfl rfl ?_
      refine g_if_eq X19 B at_439 446 442 rfl (by decide) rfl (fun z => own_abs' (by decide) z) (fun _ => ?_)
      refine g_iconst X19 B (1) at_442 443 rfl rfl ?_
      refine g_goto X19 B at_443 447 rfl (by decide) ?_
      exact g_retNW X19 B at_447 rfl rfl (by decide) (by decide) (by decide) e19 hS kk8 (fun vm hvm => ⟨rfl, ((((((((((((((Fr.snoc X6 ((((Fr.nil n0).app N1).app N2).app N3) g_ar).app N7).app N8).app N9).app N10).app N11).app N12).app N13).app N14).app N15).app N16).app N17).app N18).app N19)⟩)
    · skip
      have hF : (((([] : List Int32) ++ ([109, 117, 115, 116, 32, 98, 101, 32, 97, 116, 32, 109, 111, 115, 116, 32] : List Int32)) ++ own_dec u0) ++ ([32, 99, 104, 97, 114, 97, 99, 116, 101, 114, 115] : List Int32)) = ((([109, 117, 115, 116, 32, 98, 101, 32, 97, 116, 32, 109, 111, 115, 116, 32, 45] : List Int32) ++ own_digs u0.toInt.natAbs) ++ ([32, 99, 104, 97, 114, 97, 99, 116, 101, 114, 115] : List Int32)) := by rw [own_dec_s hng]; rfl
      rw [hF] at hLr
      have hFl : ((([109, 117, 115, 116, 32, 98, 101, 32, 97, 116, 32, 109, 111, 115, 116, 32, 45] : List Int32) ++ own_digs u0.toInt.natAbs) ++ ([32, 99, 104, 97, 114, 97, 99, 116, 101, 114, 115] : List Int32)).length = 28 + (own_digs u0.toInt.natAbs).length := by rw [List.length_append, List.length_append]; show 17 + _ + 11 = _; omega
      have hn70 : ((([109, 117, 115, 116, 32, 98, 101, 32, 97, 116, 32, 109, 111, 115, 116, 32, 45] : List Int32) ++ own_digs u0.toInt.natAbs) ++ ([32, 99, 104, 97, 114, 97, 99, 116, 101, 114, 115] : List Int32)).length ≤ 70 := by rw [hFl]; omega
      refine g_iconst X10 B (1) at_270 271 rfl rfl ?_
      refine g_goto X10 B at_271 275 rfl (by decide) ?_
      refine g_istore X10 B #[.val (.int u0), .val (.int p1), .val (.int p2), .val (.int p3), .val (.int p4), .val (.int (1 : Int32)), .val (.int c0), .val (.int c1), .val (.int c2), .val (.ref str), .val (.int (Int32.ofNat (1 - own_ps [c0] (1 - 1)))), .val (.ref tr), .val (.int (1 : Int32)), .val (.ref rq), .val (.int (1 : Int32)), .unset, .unset, .unset, .unset] at_275 277 rfl rfl ?_
      refine g_iloadN X10 B at_277 278 rfl rfl ?_
      refine g_i2l X10 B at_278 279 rfl ?_
      refine g_callS X10 B [.long (u0.toInt64)] [] at_279 282 rfl rfl (hw _ (List.mem_of_getElem? (i := 238) rfl)) (hw _ (List.mem_of_getElem? (i := 239) rfl)) (hw _ (List.mem_of_getElem? (i := 128) rfl)) (hw _ (List.mem_of_getElem? (i := 240) rfl)) (by decide) (lenOf pd_45 rfl) (rm_abs l Z ag hw u0.toInt64 h8 n0) e10 rfl 0 (Nat.le_of_eq rfl) (by decide) (by decide) (by decide) (by decide) (fun v20 T20 h20 L20 X20 e20 q20 => ?_)
      obtain ⟨rfl, N20, rfl⟩ := q20
      show Go p e below _ (T20.setTop (mkF m 282 #[.val (.int u0), .val (.int p1), .val (.int p2), .val (.int p3), .val (.int p4), .val (.int (1 : Int32)), .val (.int c0), .val (.int c1), .val (.int c2), .val (.ref str), .val (.int (Int32.ofNat (1 - own_ps [c0] (1 - 1)))), .val (.ref tr), .val (.int (1 : Int32)), .val (.ref rq), .val (.int (1 : Int32)), .unset, .unset, .unset, .unset] [.long (own_absv u0)]))
      refine g_lstore X20 B #[.val (.int u0), .val (.int p1), .val (.int p2), .val (.int p3), .val (.int p4), .val (.int (1 : Int32)), .val (.int c0), .val (.int c1), .val (.int c2), .val (.ref str), .val (.int (Int32.ofNat (1 - own_ps [c0] (1 - 1)))), .val (.ref tr), .val (.int (1 : Int32)), .val (.ref rq), .val (.int (1 : Int32)), .val (.long (own_absv u0)), .second, .unset, .unset] at_282 284 rfl rfl ?_
      refine g_bipush X20 B (27) at_284 286 rfl rfl ?_
      refine g_iload X20 B at_286 288 rfl rfl ?_
      refine g_if_eq X20 B at_288 295 291 rfl (by decide) rfl (fun z => own_abs' (by decide) z) (fun _ => ?_)
      refine g_iconst X20 B (1) at_291 292 rfl rfl ?_
      refine g_goto X20 B at_292 296 rfl (by decide) ?_
      refine g_iadd X20 B at_296 297 rfl ?_
      refine g_lload X20 B at_297 299 rfl rfl ?_
      refine g_callS X20 B [.long (own_absv u0)] [.int ((27 : Int32) + (1 : Int32))] at_299 302 rfl rfl (hw _ (List.mem_of_getElem? (i := 241) rfl)) (hw _ (List.mem_of_getElem? (i := 242) rfl)) (hw _ (List.mem_of_getElem? (i := 2) rfl)) (hw _ (List.mem_of_getElem? (i := 243) rfl)) (by decide) (lenOf pd_46 rfl) (rm_digits l Z ag hw (own_absv u0) u0.toInt.natAbs h8 n0 (own_absz u0) (own_nalt u0)) e20 rfl 1 (Nat.le_of_eq rfl) (by decide) (by decide) (by decide) (by decide) (fun v21 T21 h21 L21 X21 e21 q21 => ?_)
      obtain ⟨rfl, N21, rfl⟩ := q21
      show Go p e below _ (T21.setTop (mkF m 302 #[.val (.int u0), .val (.int p1), .val (.int p2), .val (.int p3), .val (.int p4), .val (.int (1 : Int32)), .val (.int c0), .val (.int c1), .val (.int c2), .val (.ref str), .val (.int (Int32.ofNat (1 - own_ps [c0] (1 - 1)))), .val (.ref tr), .val (.int (1 : Int32)), .val (.ref rq), .val (.int (1 : Int32)), .val (.long (own_absv u0)), .second, .unset, .unset] [.int (Int32.ofNat (own_digs u0.toInt.natAbs).length), .int ((27 : Int32) + (1 : Int32))]))
      refine g_iadd X21 B at_302 303 rfl ?_
      rw [show ((27 : Int32) + (1 : Int32)) = Int32.ofNat 28 by decide, own_addN (by omega)]
      refine g_istore X21 B #[.val (.int u0), .val (.int p1), .val (.int p2), .val (.int p3), .val (.int p4), .val (.int (1 : Int32)), .val (.int c0), .val (.int c1), .val (.int c2), .val (.ref str), .val (.int (Int32.ofNat (1 - own_ps [c0] (1 - 1)))), .val (.ref tr), .val (.int (1 : Int32)), .val (.ref rq), .val (.int (1 : Int32)), .val (.long (own_absv u0)), .second, .val (.int (Int32.ofNat (28 + (own_digs u0.toInt.natAbs).length))), .unset] at_303 305 rfl rfl ?_
      refine g_aload X21 B at_305 307 rfl rfl rfl ?_
      refine g_callV X21 B [] [] at_307 310 rfl rfl (hw _ (List.mem_of_getElem? (i := 245) rfl)) (hw _ (List.mem_of_getElem? (i := 67) rfl)) (hw _ (List.mem_of_getElem? (i := 69) rfl)) (hw _ (List.mem_of_getElem? (i := 68) rfl)) (hw _ (List.mem_of_getElem? (i := 7) rfl)) (hw _ (List.mem_of_getElem? (i := 70) rfl)) (by decide) (lenOf pd_10 rfl) rE (rB_len l Z ag hw rq rb cx ws ((([109, 117, 115, 116, 32, 98, 101, 32, 97, 116, 32, 109, 111, 115, 116, 32, 45] : List Int32) ++ own_digs u0.toInt.natAbs) ++ ([32, 99, 104, 97, 114, 97, 99, 116, 101, 114, 115] : List Int32)) h8 n0 rE rV rC rA hn70 hLr t32 hcx) e21 rfl 0 (Nat.le_of_eq rfl) (by decide) (by decide) (by decide) (by decide) (fun v22 T22 h22 L22 X22 e22 q22 => ?_)
      obtain ⟨rfl, N22, rfl⟩ := q22
      show Go p e below _ (T22.setTop (mkF m 310 #[.val (.int u0), .val (.int p1), .val (.int p2), .val (.int p3), .val (.int p4), .val (.int (1 : Int32)), .val (.int c0), .val (.int c1), .val (.int c2), .val (.ref str), .val (.int (Int32.ofNat (1 - own_ps [c0] (1 - 1)))), .val (.ref tr), .val (.int (1 : Int32)), .val (.ref rq), .val (.int (1 : Int32)), .val (.long (own_absv u0)), .second, .val (.int (Int32.ofNat (28 + (own_digs u0.toInt.natAbs).length))), .unset] [.int (Int32.ofNat ((([109, 117, 115, 116, 32, 98, 101, 32, 97, 116, 32, 109, 111, 115, 116, 32, 45] : List Int32) ++ own_digs u0.toInt.natAbs) ++ ([32, 99, 104, 97, 114, 97, 99, 116, 101, 114, 115] : List Int32)).length)]))
      refine g_iload X22 B at_310 312 rfl rfl ?_
      refine g_icmp_ne X22 B at_312 319 315 rfl (by decide) rfl (fun z => own_abs (by rw [hFl]) z) (fun _ => ?_)
      refine g_iconst X22 B (1) at_315 316 rfl rfl ?_
      refine g_goto X22 B at_316 320 rfl (by decide) ?_
      refine g_istore X22 B #[.val (.int u0), .val (.int p1), .val (.int p2), .val (.int p3), .val (.int p4), .val (.int (1 : Int32)), .val (.int c0), .val (.int c1), .val (.int c2), .val (.ref str), .val (.int (Int32.ofNat (1 - own_ps [c0] (1 - 1)))), .val (.ref tr), .val (.int (1 : Int32)), .val (.ref rq), .val (.int (1 : Int32)), .val (.long (own_absv u0)), .second, .val (.int (Int32.ofNat (28 + (own_digs u0.toInt.natAbs).length))), .val (.int (1 : Int32))] at_320 322 rfl rfl ?_
      refine g_iload X22 B at_322 324 rfl rfl ?_
      refine g_if_eq X22 B at_324 432 327 rfl (by decide) rfl (fun z => own_abs' (by decide) z) (fun _ => ?_)
      refine g_aload X22 B at_327 329 rfl rfl rfl ?_
      refine g_iconst X22 B (0) at_329 330 rfl rfl ?_
      have t34 := (own_stk (own_stkw (Sta.wr W6 (Sta.ext E5 (Sta.ext E4 SF))) K7 (own_plE t10 own_pl0)) K8)
      refine g_callV X22 B [.int (0 : Int32)] [] at_330 333 rfl rfl (hw _ (List.mem_of_getElem? (i := 246) rfl)) (hw _ (List.mem_of_getElem? (i := 247) rfl)) (hw _ (List.mem_of_getElem? (i := 249) rfl)) (hw _ (List.mem_of_getElem? (i := 248) rfl)) (hw _ (List.mem_of_getElem? (i := 7) rfl)) (hw _ (List.mem_of_getElem? (i := 250) rfl)) (by decide) (lenOf pd_47 rfl) rE (rL_cat l Z ag hw rq rb cx 0 109 ws ((([109, 117, 115, 116, 32, 98, 101, 32, 97, 116, 32, 109, 111, 115, 116, 32, 45] : List Int32) ++ own_digs u0.toInt.natAbs) ++ ([32, 99, 104, 97, 114, 97, 99, 116, 101, 114, 115] : List Int32)) g h8 n0 rE rV rC rA hn70 hLr t32 hcx (by rw [hFl]; omega) (own_at1 (by decide)) (by unfold own_ch; decide) t34 hg) e22 rfl 0 (Nat.le_of_eq rfl) (by decide) (by decide) (by decide) (by decide) (fun v23 T23 h23 L23 X23 e23 q23 => ?_)
      obtain ⟨rfl, N23, rfl⟩ := q23
      show Go p e below _ (T23.setTop (mkF m 333 #[.val (.int u0), .val (.int p1), .val (.int p2), .val (.int p3), .val (.int p4), .val (.int (1 : Int32)), .val (.int c0), .val (.int c1), .val (.int c2), .val (.ref str), .val (.int (Int32.ofNat (1 - own_ps [c0] (1 - 1)))), .val (.ref tr), .val (.int (1 : Int32)), .val (.ref rq), .val (.int (1 : Int32)), .val (.long (own_absv u0)), .second, .val (.int (Int32.ofNat (28 + (own_digs u0.toInt.natAbs).length))), .val (.int (1 : Int32))] [.int 109]))
      refine g_bipush X23 B (109) at_333 335 rfl rfl ?_
      refine g_icmp_ne X23 B at_335 429 338 rfl (by decide) rfl (fun z => own_abs (rfl) z) (fun _ => ?_)
      refine g_aload X23 B at_338 340 rfl rfl rfl ?_
      refine g_bipush X23 B (15) at_340 342 rfl rfl ?_
      refine g_callV X23 B [.int (15 : Int32)] [] at_342 345 rfl rfl (hw _ (List.mem_of_getElem? (i := 246) rfl)) (hw _ (List.mem_of_getElem? (i := 247) rfl)) (hw _ (List.mem_of_getElem? (i := 249) rfl)) (hw _ (List.mem_of_getElem? (i := 248) rfl)) (hw _ (List.mem_of_getElem? (i := 7) rfl)) (hw _ (List.mem_of_getElem? (i := 250) rfl)) (by decide) (lenOf pd_47 rfl) rE (rL_cat l Z ag hw rq rb cx 15 32 ws ((([109, 117, 115, 116, 32, 98, 101, 32, 97, 116, 32, 109, 111, 115, 116, 32, 45] : List Int32) ++ own_digs u0.toInt.natAbs) ++ ([32, 99, 104, 97, 114, 97, 99, 116, 101, 114, 115] : List Int32)) g h8 n0 rE rV rC rA hn70 hLr t32 hcx (by rw [hFl]; omega) (own_at1 (by decide)) (by unfold own_ch; decide) t34 hg) e23 rfl 0 (Nat.le_of_eq rfl) (by decide) (by decide) (by decide) (by decide) (fun v24 T24 h24 L24 X24 e24 q24 => ?_)
      obtain ⟨rfl, N24, rfl⟩ := q24
      show Go p e below _ (T24.setTop (mkF m 345 #[.val (.int u0), .val (.int p1), .val (.int p2), .val (.int p3), .val (.int p4), .val (.int (1 : Int32)), .val (.int c0), .val (.int c1), .val (.int c2), .val (.ref str), .val (.int (Int32.ofNat (1 - own_ps [c0] (1 - 1)))), .val (.ref tr), .val (.int (1 : Int32)), .val (.ref rq), .val (.int (1 : Int32)), .val (.long (own_absv u0)), .second, .val (.int (Int32.ofNat (28 + (own_digs u0.toInt.natAbs).length))), .val (.int (1 : Int32))] [.int 32]))
      refine g_bipush X24 B (32) at_345 347 rfl rfl ?_
      refine g_icmp_ne X24 B at_347 429 350 rfl (by decide) rfl (fun z => own_abs (rfl) z) (fun _ => ?_)
      refine g_aload X24 B at_350 352 rfl rfl rfl ?_
      refine g_iload X24 B at_352 354 rfl rfl ?_
      refine g_iconst X24 B (1) at_354 355 rfl rfl ?_
      refine g_isub X24 B at_355 356 rfl ?_
      rw [show (1 : Int32) = Int32.ofNat 1 from rfl, own_subN (by omega) (by omega)]
      refine g_callV X24 B [.int (Int32.ofNat (28 + (own_digs u0.toInt.natAbs).length - 1))] [] at_356 359 rfl rfl (hw _ (List.mem_of_getElem? (i := 246) rfl)) (hw _ (List.mem_of_getElem? (i := 247) rfl)) (hw _ (List.mem_of_getElem? (i := 249) rfl)) (hw _ (List.mem_of_getElem? (i := 248) rfl)) (hw _ (List.mem_of_getElem? (i := 7) rfl)) (hw _ (List.mem_of_getElem? (i := 250) rfl)) (by decide) (lenOf pd_47 rfl) rE (rL_cat l Z ag hw rq rb cx (28 + (own_digs u0.toInt.natAbs).length - 1) 115 ws ((([109, 117, 115, 116, 32, 98, 101, 32, 97, 116, 32, 109, 111, 115, 116, 32, 45] : List Int32) ++ own_digs u0.toInt.natAbs) ++ ([32, 99, 104, 97, 114, 97, 99, 116, 101, 114, 115] : List Int32)) g h8 n0 rE rV rC rA hn70 hLr t32 hcx (by rw [hFl]; omega) (own_at3 (j := 10) (show 28 + (own_digs u0.toInt.natAbs).length - 1 = 17 + (own_digs u0.toInt.natAbs).length + 10 by omega)) (by unfold own_ch; decide) t34 hg) e24 rfl 0 (Nat.le_of_eq rfl) (by decide) (by decide) (by decide) (by decide) (fun v25 T25 h25 L25 X25 e25 q25 => ?_)
      obtain ⟨rfl, N25, rfl⟩ := q25
      show Go p e below _ (T25.setTop (mkF m 359 #[.val (.int u0), .val (.int p1), .val (.int p2), .val (.int p3), .val (.int p4), .val (.int (1 : Int32)), .val (.int c0), .val (.int c1), .val (.int c2), .val (.ref str), .val (.int (Int32.ofNat (1 - own_ps [c0] (1 - 1)))), .val (.ref tr), .val (.int (1 : Int32)), .val (.ref rq), .val (.int (1 : Int32)), .val (.long (own_absv u0)), .second, .val (.int (Int32.ofNat (28 + (own_digs u0.toInt.natAbs).length))), .val (.int (1 : Int32))] [.int 115]))
      refine g_bipush X25 B (115) at_359 361 rfl rfl ?_
      refine g_icmp_ne X25 B at_361 429 364 rfl (by decide) rfl (fun z => own_abs (rfl) z) (fun _ => ?_)
      refine g_aload X25 B at_364 366 rfl rfl rfl ?_
      refine g_iload X25 B at_366 368 rfl rfl ?_
      refine g_bipush X25 B (11) at_368 370 rfl rfl ?_
      refine g_isub X25 B at_370 371 rfl ?_
      rw [show (11 : Int32) = Int32.ofNat 11 from rfl, own_subN (by omega) (by omega)]
      refine g_callV X25 B [.int (Int32.ofNat (28 + (own_digs u0.toInt.natAbs).length - 11))] [] at_371 374 rfl rfl (hw _ (List.mem_of_getElem? (i := 246) rfl)) (hw _ (List.mem_of_getElem? (i := 247) rfl)) (hw _ (List.mem_of_getElem? (i := 249) rfl)) (hw _ (List.mem_of_getElem? (i := 248) rfl)) (hw _ (List.mem_of_getElem? (i := 7) rfl)) (hw _ (List.mem_of_getElem? (i := 250) rfl)) (by decide) (lenOf pd_47 rfl) rE (rL_cat l Z ag hw rq rb cx (28 + (own_digs u0.toInt.natAbs).length - 11) 32 ws ((([109, 117, 115, 116, 32, 98, 101, 32, 97, 116, 32, 109, 111, 115, 116, 32, 45] : List Int32) ++ own_digs u0.toInt.natAbs) ++ ([32, 99, 104, 97, 114, 97, 99, 116, 101, 114, 115] : List Int32)) g h8 n0 rE rV rC rA hn70 hLr t32 hcx (by rw [hFl]; omega) (own_at3 (j := 0) (show 28 + (own_digs u0.toInt.natAbs).length - 11 = 17 + (own_digs u0.toInt.natAbs).length + 0 by omega)) (by unfold own_ch; decide) t34 hg) e25 rfl 0 (Nat.le_of_eq rfl) (by decide) (by decide) (by decide) (by decide) (fun v26 T26 h26 L26 X26 e26 q26 => ?_)
      obtain ⟨rfl, N26, rfl⟩ := q26
      show Go p e below _ (T26.setTop (mkF m 374 #[.val (.int u0), .val (.int p1), .val (.int p2), .val (.int p3), .val (.int p4), .val (.int (1 : Int32)), .val (.int c0), .val (.int c1), .val (.int c2), .val (.ref str), .val (.int (Int32.ofNat (1 - own_ps [c0] (1 - 1)))), .val (.ref tr), .val (.int (1 : Int32)), .val (.ref rq), .val (.int (1 : Int32)), .val (.long (own_absv u0)), .second, .val (.int (Int32.ofNat (28 + (own_digs u0.toInt.natAbs).length))), .val (.int (1 : Int32))] [.int 32]))
      refine g_bipush X26 B (32) at_374 376 rfl rfl ?_
      refine g_icmp_ne X26 B at_376 429 379 rfl (by decide) rfl (fun z => own_abs (rfl) z) (fun _ => ?_)
      refine g_aload X26 B at_379 381 rfl rfl rfl ?_
      refine g_bipush X26 B (16) at_381 383 rfl rfl ?_
      refine g_callV X26 B [.int (16 : Int32)] [] at_383 386 rfl rfl (hw _ (List.mem_of_getElem? (i := 246) rfl)) (hw _ (List.mem_of_getElem? (i := 247) rfl)) (hw _ (List.mem_of_getElem? (i := 249) rfl)) (hw _ (List.mem_of_getElem? (i := 248) rfl)) (hw _ (List.mem_of_getElem? (i := 7) rfl)) (hw _ (List.mem_of_getElem? (i := 250) rfl)) (by decide) (lenOf pd_47 rfl) rE (rL_cat l Z ag hw rq rb cx 16 45 ws ((([109, 117, 115, 116, 32, 98, 101, 32, 97, 116, 32, 109, 111, 115, 116, 32, 45] : List Int32) ++ own_digs u0.toInt.natAbs) ++ ([32, 99, 104, 97, 114, 97, 99, 116, 101, 114, 115] : List Int32)) g h8 n0 rE rV rC rA hn70 hLr t32 hcx (by rw [hFl]; omega) (own_at1 (by decide)) (by unfold own_ch; decide) t34 hg) e26 rfl 0 (Nat.le_of_eq rfl) (by decide) (by decide) (by decide) (by decide) (fun v27 T27 h27 L27 X27 e27 q27 => ?_)
      obtain ⟨rfl, N27, rfl⟩ := q27
      show Go p e below _ (T27.setTop (mkF m 386 #[.val (.int u0), .val (.int p1), .val (.int p2), .val (.int p3), .val (.int p4), .val (.int (1 : Int32)), .val (.int c0), .val (.int c1), .val (.int c2), .val (.ref str), .val (.int (Int32.ofNat (1 - own_ps [c0] (1 - 1)))), .val (.ref tr), .val (.int (1 : Int32)), .val (.ref rq), .val (.int (1 : Int32)), .val (.long (own_absv u0)), .second, .val (.int (Int32.ofNat (28 + (own_digs u0.toInt.natAbs).length))), .val (.int (1 : Int32))] [.int 45]))
      refine g_bipush X27 B (45) at_386 388 rfl rfl ?_
      refine g_icmp_ne X27 B at_388 395 391 rfl (by decide) rfl (fun z => own_abs (rfl) z) (fun _ => ?_)
      refine g_iconst X27 B (1) at_391 392 rfl rfl ?_
      refine g_goto X27 B at_392 396 rfl (by decide) ?_
      refine g_iload X27 B at_396 398 rfl rfl ?_
      refine g_icmp_ne X27 B at_398 429 401 rfl (by decide) rfl (fun z => own_abs (by decide) z) (fun _ => ?_)
      refine g_aload X27 B at_401 403 rfl rfl rfl ?_
      refine g_iload X27 B at_403 405 rfl rfl ?_
      refine g_bipush X27 B (12) at_405 407 rfl rfl ?_
      refine g_isub X27 B at_407 408 rfl ?_
      rw [show (12 : Int32) = Int32.ofNat 12 from rfl, own_subN (by omega) (by omega)]
      refine g_callV X27 B [.int (Int32.ofNat (28 + (own_digs u0.toInt.natAbs).length - 12))] [] at_408 411 rfl rfl (hw _ (List.mem_of_getElem? (i := 246) rfl)) (hw _ (List.mem_of_getElem? (i := 247) rfl)) (hw _ (List.mem_of_getElem? (i := 249) rfl)) (hw _ (List.mem_of_getElem? (i := 248) rfl)) (hw _ (List.mem_of_getElem? (i := 7) rfl)) (hw _ (List.mem_of_getElem? (i := 250) rfl)) (by decide) (lenOf pd_47 rfl) rE (rL_cat l Z ag hw rq rb cx (28 + (own_digs u0.toInt.natAbs).length - 12) (Int32.ofNat (48 + u0.toInt.natAbs % 10)) ws ((([109, 117, 115, 116, 32, 98, 101, 32, 97, 116, 32, 109, 111, 115, 116, 32, 45] : List Int32) ++ own_digs u0.toInt.natAbs) ++ ([32, 99, 104, 97, 114, 97, 99, 116, 101, 114, 115] : List Int32)) g h8 n0 rE rV rC rA hn70 hLr t32 hcx (by rw [hFl]; omega) ((own_at2 (j := (own_digs u0.toInt.natAbs).length - 1) (show 28 + (own_digs u0.toInt.natAbs).length - 12 = 17 + ((own_digs u0.toInt.natAbs).length - 1) by omega) (by omega)).trans (own_lastd u0.toInt.natAbs)) (own_chd u0.toInt.natAbs) t34 hg) e27 rfl 0 (Nat.le_of_eq rfl) (by decide) (by decide) (by decide) (by decide) (fun v28 T28 h28 L28 X28 e28 q28 => ?_)
      obtain ⟨rfl, N28, rfl⟩ := q28
      show Go p e below _ (T28.setTop (mkF m 411 #[.val (.int u0), .val (.int p1), .val (.int p2), .val (.int p3), .val (.int p4), .val (.int (1 : Int32)), .val (.int c0), .val (.int c1), .val (.int c2), .val (.ref str), .val (.int (Int32.ofNat (1 - own_ps [c0] (1 - 1)))), .val (.ref tr), .val (.int (1 : Int32)), .val (.ref rq), .val (.int (1 : Int32)), .val (.long (own_absv u0)), .second, .val (.int (Int32.ofNat (28 + (own_digs u0.toInt.natAbs).length))), .val (.int (1 : Int32))] [.int (Int32.ofNat (48 + u0.toInt.natAbs % 10))]))
      refine g_bipush X28 B (48) at_411 413 rfl rfl ?_
      refine g_lload X28 B at_413 415 rfl rfl ?_
      refine g_ldc2J X28 B at_415 418 rfl (hw _ (List.mem_of_getElem? (i := 244) rfl)) ?_
      refine g_lrem X28 B at_418 419 rfl (by decide) ?_
      refine g_l2i X28 B at_419 420 rfl ?_
      refine g_iadd X28 B at_420 421 rfl ?_
      refine g_i2c X28 B at_421 422 rfl ?_
      refine g_icmp_ne X28 B at_422 429 425 rfl (by decide) rfl (fun z => own_abs ((own_digch1 (own_absz u0)).symm) z) (fun _ => ?_)
      refine g_iconst X28 B (1) at_425 426 rfl rfl ?_
      refine g_goto X28 B at_426 430 rfl (by decide) ?_
      refine g_istore X28 B #[.val (.int u0), .val (.int p1), .val (.int p2), .val (.int p3), .val (.int p4), .val (.int (1 : Int32)), .val (.int c0), .val (.int c1), .val (.int c2), .val (.ref str), .val (.int (Int32.ofNat (1 - own_ps [c0] (1 - 1)))), .val (.ref tr), .val (.int (1 : Int32)), .val (.ref rq), .val (.int (1 : Int32)), .val (.long (own_absv u0)), .second, .val (.int (Int32.ofNat (28 + (own_digs u0.toInt.natAbs).length))), .val (.int (1 : Int32))] at_430 432 rfl rfl ?_
      refine g_iload X28 B at_432 434 rfl rfl ?_
      refine g_if_eq X28 B at_434 446 437 rfl (by decide) rfl (fun z => own_abs' (by decide) z) (fun _ => ?_)
      refine g_iload X28 B at_437 439 rfl rfl ?_
      refine g_if_eq X28 B at_439 446 442 rfl (by decide) rfl (fun z => own_abs' (by decide) z) (fun _ => ?_)
      refine g_iconst X28 B (1) at_442 443 rfl rfl ?_
      refine g_goto X28 B at_443 447 rfl (by decide) ?_
      exact g_retNW X28 B at_447 rfl rfl (by decide) (by decide) (by decide) e28 hS kk8 (fun vm hvm => ⟨rfl, ((((((((((((((Fr.snoc X6 ((((Fr.nil n0).app N1).app N2).app N3) g_ar).app N7).app N8).app N9).app N10).app N20).app N21).app N22).app N23).app N24).app N25).app N26).app N27).app N28)⟩)
  refine g_iload X9 B at_238 240 rfl rfl ?_
  refine g_iloadN X9 B at_240 241 rfl rfl ?_
  refine g_icmp_gt X9 B at_241 248 244 rfl (by decide) rfl (fun c29 => ?_) (fun c29 => ?_)
  · skip
    refine g_iconst X9 B (0) at_248 249 rfl rfl ?_
    refine g_icmp_ne X9 B at_249 256 252 rfl (by decide) rfl (fun z => own_abs (if_neg (fun z => z c29)) z) (fun _ => ?_)
    refine g_iconst X9 B (1) at_252 253 rfl rfl ?_
    refine g_goto X9 B at_253 257 rfl (by decide) ?_
    exact j2
  · skip
    refine g_iconst X9 B (1) at_244 245 rfl rfl ?_
    refine g_goto X9 B at_245 249 rfl (by decide) ?_
    refine g_icmp_ne X9 B at_249 256 252 rfl (by decide) rfl (fun z => own_abs (if_pos c29) z) (fun _ => ?_)
    refine g_iconst X9 B (1) at_252 253 rfl rfl ?_
    refine g_goto X9 B at_253 257 rfl (by decide) ?_
    exact j2
--LEAF
set_option maxRecDepth 65536 in
set_option maxHeartbeats 40000000 in
theorem rm0_2 (l : Launch) (Z : State) (ag : Array Value) (hw : ∀ d ∈ tables_1, d.before ag Z = true) (u0 p1 p2 p3 p4 cx : Int32) (g : Value) (d1 d2 : Addr) (h0 : Heap) (n0 : Nat) (Z0 : n0 ≤ h0.size) (SC : Sta Z h0 "java/lang/String" "COMPACT_STRINGS" "Z" (.int cx)) (hcx : ¬ cx = 0) (SA : Sta Z h0 "java/lang/StringUTF16" "$assertionsDisabled" "Z" (.int 1)) (SH : Sta Z h0 "java/lang/StringUTF16" "HI_BYTE_SHIFT" "I" (.int 0)) (SLo : Sta Z h0 "java/lang/StringUTF16" "LO_BYTE_SHIFT" "I" (.int 8)) (SF : Sta Z h0 "jdk/internal/util/Preconditions" "SIOOBE_FORMATTER" "Ljava/util/function/BiFunction;" g) (hg : g.isRef = true) (SD1 : Sta Z h0 "java/lang/Integer" "DigitOnes" "[B" (.ref d1)) (SD2 : Sta Z h0 "java/lang/Integer" "DigitTens" "[B" (.ref d2)) (AD1 : Av Z h0 d1 .byte own_ones) (AD2 : Av Z h0 d2 .byte own_tens) (kk4 : (p4 &&& (3 : Int32)) = 2) (OZ : ∀ (b : Addr) (cl : Cell), Z.heap[b]? = some cl → h0[b]? = some cl) (hH7 : Jvm.Lit.constHeld Z "com/example/tillbeat/tillbeat/model/TextRule" 7) (hH22 : Jvm.Lit.constHeld Z "com/example/tillbeat/tillbeat/model/TextRule" 22) (hH35 : Jvm.Lit.constHeld Z "com/example/tillbeat/tillbeat/model/TextRule" 35) (hH44 : Jvm.Lit.constHeld Z "com/example/tillbeat/tillbeat/model/TextRule" 44) (hH7s : Jvm.Lit.constHeld Z "java/lang/String" 7) (hcw : Jvm.Lit.compactW.before ag Z = true) :
    CtrW l Z x code maxLocals ret room_1 #[.int u0, .int p1, .int p2, .int p3, .int p4] h0 [] (fun v h vm L => v = some (.int 1) ∧ Fr n0 L) := by
  refine CtrW.of pn_0 ?_
  intro p e s m below meth c T0 X0 B e0 hs0 hS I
  refine Go.cast (f' := mkF m 0 #[.val (.int u0), .val (.int p1), .val (.int p2), .val (.int p3), .val (.int p4), .unset, .unset, .unset, .unset, .unset, .unset, .unset, .unset, .unset, .unset, .unset, .unset, .unset, .unset] []) (by first | (simp [entryFrame, mkF, argsToLocals, Value.category, maxLocals]; done) | rfl) ?_

  refine g_iload X0 B at_0 2 rfl rfl ?_
  refine g_iconst X0 B (3) at_2 3 rfl rfl ?_
  refine g_iand X0 B at_3 4 rfl ?_
  rw [kk4]
  show Go p e below _ (T0.setTop (mkF m 4 #[.val (.int u0), .val (.int p1), .val (.int p2), .val (.int p3), .val (.int p4), .unset, .unset, .unset, .unset, .unset, .unset, .unset, .unset, .unset, .unset, .unset, .unset, .unset, .unset] [.int (2 : Int32)]))
  refine g_istore X0 B #[.val (.int u0), .val (.int p1), .val (.int p2), .val (.int p3), .val (.int p4), .val (.int (2 : Int32)), .unset, .unset, .unset, .unset, .unset, .unset, .unset, .unset, .unset, .unset, .unset, .unset, .unset] at_4 6 rfl rfl ?_
  refine g_iloadN X0 B at_6 7 rfl rfl ?_
  refine g_callS X0 B [.int p1] [] at_7 10 rfl rfl (hw _ (List.mem_of_getElem? (i := 0) rfl)) (hw _ (List.mem_of_getElem? (i := 1) rfl)) (hw _ (List.mem_of_getElem? (i := 2) rfl)) (hw _ (List.mem_of_getElem? (i := 3) rfl)) (by decide) (lenOf pd_1 rfl) (rm_mk l Z ag hw p1 h0 n0) e0 rfl 0 (Nat.le_of_eq rfl) (by decide) (by decide) (by decide) (by decide) (fun v1 T1 h1 L1 X1 e1 q1 => ?_)
  obtain ⟨c0, rfl, hx0, N1, rfl⟩ := q1
  show Go p e below _ (T1.setTop (mkF m 10 #[.val (.int u0), .val (.int p1), .val (.int p2), .val (.int p3), .val (.int p4), .val (.int (2 : Int32)), .unset, .unset, .unset, .unset, .unset, .unset, .unset, .unset, .unset, .unset, .unset, .unset, .unset] [.int c0]))
  refine g_istore X1 B #[.val (.int u0), .val (.int p1), .val (.int p2), .val (.int p3), .val (.int p4), .val (.int (2 : Int32)), .val (.int c0), .unset, .unset, .unset, .unset, .unset, .unset, .unset, .unset, .unset, .unset, .unset, .unset] at_10 12 rfl rfl ?_
  refine g_iloadN X1 B at_12 13 rfl rfl ?_
  refine g_callS X1 B [.int p2] [] at_13 16 rfl rfl (hw _ (List.mem_of_getElem? (i := 0) rfl)) (hw _ (List.mem_of_getElem? (i := 1) rfl)) (hw _ (List.mem_of_getElem? (i := 2) rfl)) (hw _ (List.mem_of_getElem? (i := 3) rfl)) (by decide) (lenOf pd_1 rfl) (rm_mk l Z ag hw p2 h0 n0) e1 rfl 0 (Nat.le_of_eq rfl) (by decide) (by decide) (by decide) (by decide) (fun v2 T2 h2 L2 X2 e2 q2 => ?_)
  obtain ⟨c1, rfl, hx1, N2, rfl⟩ := q2
  show Go p e below _ (T2.setTop (mkF m 16 #[.val (.int u0), .val (.int p1), .val (.int p2), .val (.int p3), .val (.int p4), .val (.int (2 : Int32)), .val (.int c0), .unset, .unset, .unset, .unset, .unset, .unset, .unset, .unset, .unset, .unset, .unset, .unset] [.int c1]))
  refine g_istore X2 B #[.val (.int u0), .val (.int p1), .val (.int p2), .val (.int p3), .val (.int p4), .val (.int (2 : Int32)), .val (.int c0), .val (.int c1), .unset, .unset, .unset, .unset, .unset, .unset, .unset, .unset, .unset, .unset, .unset] at_16 18 rfl rfl ?_
  refine g_iloadN X2 B at_18 19 rfl rfl ?_
  refine g_callS X2 B [.int p3] [] at_19 22 rfl rfl (hw _ (List.mem_of_getElem? (i := 0) rfl)) (hw _ (List.mem_of_getElem? (i := 1) rfl)) (hw _ (List.mem_of_getElem? (i := 2) rfl)) (hw _ (List.mem_of_getElem? (i := 3) rfl)) (by decide) (lenOf pd_1 rfl) (rm_mk l Z ag hw p3 h0 n0) e2 rfl 0 (Nat.le_of_eq rfl) (by decide) (by decide) (by decide) (by decide) (fun v3 T3 h3 L3 X3 e3 q3 => ?_)
  obtain ⟨c2, rfl, hx2, N3, rfl⟩ := q3
  show Go p e below _ (T3.setTop (mkF m 22 #[.val (.int u0), .val (.int p1), .val (.int p2), .val (.int p3), .val (.int p4), .val (.int (2 : Int32)), .val (.int c0), .val (.int c1), .unset, .unset, .unset, .unset, .unset, .unset, .unset, .unset, .unset, .unset, .unset] [.int c2]))
  refine g_istore X3 B #[.val (.int u0), .val (.int p1), .val (.int p2), .val (.int p3), .val (.int p4), .val (.int (2 : Int32)), .val (.int c0), .val (.int c1), .val (.int c2), .unset, .unset, .unset, .unset, .unset, .unset, .unset, .unset, .unset, .unset] at_22 24 rfl rfl ?_
  refine g_iload X3 B at_24 26 rfl rfl ?_
  refine g_if_ne X3 B at_26 47 29 rfl (by decide) rfl (fun _ => ?_) (fun z => own_abs' (by decide) z)
  refine g_iload X3 B at_47 49 rfl rfl ?_
  refine g_iconst X3 B (1) at_49 50 rfl rfl ?_
  refine g_icmp_ne X3 B at_50 76 53 rfl (by decide) rfl (fun _ => ?_) (fun z => own_abs' (by decide) z)
  refine g_iload X3 B at_76 78 rfl rfl ?_
  refine g_iconst X3 B (2) at_78 79 rfl rfl ?_
  refine g_icmp_ne X3 B at_79 130 82 rfl (by decide) rfl (fun z => own_abs (by decide) z) (fun _ => ?_)
  refine g_new X3 B at_82 85 rfl (hw _ (List.mem_of_getElem? (i := 5) rfl)) (hw _ (List.mem_of_getElem? (i := 6) rfl)) (hw _ (List.mem_of_getElem? (i := 7) rfl)) e3 (by decide) (by decide) (fun T4 h4 str X4 e4 ea4 E4 A4 D4 => ?_)
  have g_str : n0 ≤ str := ea4 ▸ Z0
  have gg_str : h0.size ≤ str := ea4 ▸ (Keep.refl h0 []).1
  have t1 : d1 ≠ str := ea4 ▸ Nat.ne_of_lt (AD1.lt)
  have t2 : d2 ≠ str := ea4 ▸ Nat.ne_of_lt (AD2.lt)
  have D4_0 : Fld Z h4 str "java/lang/String" "value" "[B" (.null) := D4 (Or.inr (hw _ (List.mem_of_getElem? (i := 21) rfl))) (ty := (.array .byte)) (by decide)
  have D4_1 : Fld Z h4 str "java/lang/String" "coder" "B" (.int 0) := D4 (Or.inr (hw _ (List.mem_of_getElem? (i := 22) rfl))) (ty := .byte) (by decide)
  refine g_dup X4 B at_85 86 rfl rfl ?_
  refine g_iconst X4 B (2) at_86 87 rfl rfl ?_
  refine g_newP X4 B [(.int 0 : Value), .int 0] at_87 89 rfl (hw _ (List.mem_of_getElem? (i := 8) rfl)) e4 (by decide) rfl (by decide) (by decide) (by decide) (fun T5 h5 ar X5 e5 ea5 E5 A5 => ?_)
  have t3 := (Nat.le_trans Z0 E4.1)
  have t4 := (Keep.ext (Keep.refl h0 []) E4)
  have t5 := (Av.ext AD1 E4)
  have t6 := (Av.ext AD2 E4)
  have g_ar : n0 ≤ ar := ea5 ▸ t3
  have gg_ar : h0.size ≤ ar := ea5 ▸ t4.1
  have t7 : d1 ≠ ar := ea5 ▸ Nat.ne_of_lt (t5.lt)
  have t8 : d2 ≠ ar := ea5 ▸ Nat.ne_of_lt (t6.lt)
  have t9 : str ≠ ar := ea5 ▸ Nat.ne_of_lt (A4.lt)
  refine g_dup X5 B at_89 90 rfl rfl ?_
  refine g_iconst X5 B (0) at_90 91 rfl rfl ?_
  refine g_iload X5 B at_91 93 rfl rfl ?_
  refine g_castore X5 B 0 at_93 94 rfl e5 A5 (by decide) (by decide) (by simp) (fun T6 h6 X6 e6 W6 A6 => ?_)
  rw [own_nc hx0] at A6 W6
  replace A6 : Av Z h6 ar .char [(.int c0 : Value), .int 0] := A6
  refine g_dup X6 B at_94 95 rfl rfl ?_
  refine g_iconst X6 B (1) at_95 96 rfl rfl ?_
  refine g_iload X6 B at_96 98 rfl rfl ?_
  refine g_castore X6 B 1 at_98 99 rfl e6 A6 (by decide) (by decide) (by simp) (fun T7 h7 X7 e7 W7 A7 => ?_)
  rw [own_nc hx1] at A7 W7
  replace A7 : Av Z h7 ar .char [(.int c0 : Value), .int c1] := A7
  have t10 := (Exa.wr W7 (Exa.wr W6 (Exa.ext E5 A4)))
  have t11 := (Fld.other W7 (Fld.other W6 (Fld.ext E5 D4_0) (Or.inl t9)) (Or.inl t9))
  have t12 := (Fld.other W7 (Fld.other W6 (Fld.ext E5 D4_1) (Or.inl t9)) (Or.inl t9))
  have t13 := (Nat.le_trans (Nat.le_trans (Nat.le_trans t3 E5.1) (Nat.le_of_eq W6.size.symm)) (Nat.le_of_eq W7.size.symm))
  have t14 := (Sta.wr W7 (Sta.wr W6 (Sta.ext E5 (Sta.ext E4 SA))))
  have t15 := (Sta.wr W7 (Sta.wr W6 (Sta.ext E5 (Sta.ext E4 SH))))
  have t16 := (Sta.wr W7 (Sta.wr W6 (Sta.ext E5 (Sta.ext E4 SLo))))
  have t17 := (Sta.wr W7 (Sta.wr W6 (Sta.ext E5 (Sta.ext E4 SC))))
  refine g_callN X7 B [.ref ar] [.ref str] at_99 102 rfl rfl rfl (hw _ (List.mem_of_getElem? (i := 9) rfl)) (hw _ (List.mem_of_getElem? (i := 10) rfl)) (hw _ (List.mem_of_getElem? (i := 11) rfl)) (hw _ (List.mem_of_getElem? (i := 7) rfl)) (by decide) (lenOf pd_2 rfl) (rS_i1 l Z ag hw str ar [c0, c1] cx h7 n0 t13 (by simp) (by simp) (own_chs2 hx0 hx1 hx2) g_str t10 t11 t12 A7 t14 t15 t16 t17 hcx) e7 rfl 1 (Nat.le_of_eq rfl) (by decide) (by decide) (by decide) (by decide) (fun v8 T8 h8 L8 X8 e8 q8 => ?_)
  obtain ⟨bb, vs, kk, rfl, N8, K8, f1, f2, f3, hSV, f5, f6⟩ := q8
  show Go p e below _ (T8.setTop (mkF m 102 #[.val (.int u0), .val (.int p1), .val (.int p2), .val (.int p3), .val (.int p4), .val (.int (2 : Int32)), .val (.int c0), .val (.int c1), .val (.int c2), .unset, .unset, .unset, .unset, .unset, .unset, .unset, .unset, .unset, .unset] [.ref str]))
  refine g_astore X8 B #[.val (.int u0), .val (.int p1), .val (.int p2), .val (.int p3), .val (.int p4), .val (.int (2 : Int32)), .val (.int c0), .val (.int c1), .val (.int c2), .val (.ref str), .unset, .unset, .unset, .unset, .unset, .unset, .unset, .unset, .unset] at_102 104 rfl rfl rfl ?_
  have jn : ∀ (T : State) (Lo : List Loc) (ct : Int32), ct = (Int32.ofNat (2 - own_ps [c0, c1] (2 - 1))) → Stand p l e room_1 (s.setVm s.vm) m #[.int u0, .int p1, .int p2, .int p3, .int p4] below meth c T Lo 10 100 → T.heap = h8 → Fr n0 Lo → Go p e below (EndsW s (fun v h vm L => v = some (.int 1) ∧ Fr n0 L) room_1.cells room_1.slots) (T.setTop (mkF m 225 #[.val (.int u0), .val (.int p1), .val (.int p2), .val (.int p3), .val (.int p4), .val (.int (2 : Int32)), .val (.int c0), .val (.int c1), .val (.int c2), .val (.ref str), .val (.int ct), .unset, .unset, .unset, .unset, .unset, .unset, .unset, .unset] [])) := by
    intro T Lo ct hct X eh N
    subst hct
    refine g_iloadN X B at_225 226 rfl rfl ?_
    have t18 := (Keep.trans (Keep.wr (Keep.wr (Keep.ext t4 E5) W6 (Or.inr gg_ar)) W7 (Or.inr gg_ar)) K8 (allS (Or.inr gg_str) all0))
    have t19 := (Nat.le_trans t13 K8.1)
    have t20 := (Av.keep (Av.other (Av.other (Av.ext t5 E5) W6 t7) W7 t7) K8 (ninS t1 nin0))
    have t21 := (Av.keep (Av.other (Av.other (Av.ext t6 E5) W6 t8) W7 t8) K8 (ninS t2 nin0))
    have t22 := (own_stkw t17 K8 (own_plE t10 own_pl0))
    have t23 := (own_stkw (Sta.wr W7 (Sta.wr W6 (Sta.ext E5 (Sta.ext E4 SD1)))) K8 (own_plE t10 own_pl0))
    have t24 := (own_stkw (Sta.wr W7 (Sta.wr W6 (Sta.ext E5 (Sta.ext E4 SD2)))) K8 (own_plE t10 own_pl0))
    refine g_callSW X B hS (Nat.zero_le _) I [.int u0] [] at_226 229 rfl rfl (hw _ (List.mem_of_getElem? (i := 27) rfl)) (hw _ (List.mem_of_getElem? (i := 28) rfl)) (hw _ (List.mem_of_getElem? (i := 29) rfl)) (hw _ (List.mem_of_getElem? (i := 30) rfl)) (by decide) (lenOf pd_5 rfl) (rT_fac l Z ag hw u0 cx d1 d2 _ h8 h8.size (Nat.le_refl _) (Nat.le_refl _) t22 hcx t23 t24 t20 t21 t20.lt t21.lt (fun b cl q => t18.2.1 b cl (OZ b cl q) nin0) hH35 hH44 hcw (by simp)) eh rfl 0 (Nat.le_of_eq rfl) (by decide) (by decide) (by decide) (by decide) (fun v9 T9 h9 L9 X9 B e9 hS q9 => ?_)
    obtain ⟨tr, fo, cK, rq, rb, ws, rfl, M9, K9, tE, tF, tC, hmd, tR, rE, rV, rC, rA, hLr⟩ := q9
    show Go p e below _ (T9.setTop (mkF m 229 #[.val (.int u0), .val (.int p1), .val (.int p2), .val (.int p3), .val (.int p4), .val (.int (2 : Int32)), .val (.int c0), .val (.int c1), .val (.int c2), .val (.ref str), .val (.int (Int32.ofNat (2 - own_ps [c0, c1] (2 - 1)))), .unset, .unset, .unset, .unset, .unset, .unset, .unset, .unset] [.ref tr]))
    have N9 := own_Frle M9 t19
    have kk9 : h9.size ≤ h9.size := Nat.le_refl _
    have hM : (own_digs u0.toInt.natAbs).length ≤ 10 := own_digs_le (own_nalt u0)
    have hMp : 0 < (own_digs u0.toInt.natAbs).length := own_digs_pos _
    refine g_astore X9 B #[.val (.int u0), .val (.int p1), .val (.int p2), .val (.int p3), .val (.int p4), .val (.int (2 : Int32)), .val (.int c0), .val (.int c1), .val (.int c2), .val (.ref str), .val (.int (Int32.ofNat (2 - own_ps [c0, c1] (2 - 1)))), .val (.ref tr), .unset, .unset, .unset, .unset, .unset, .unset, .unset] at_229 231 rfl rfl rfl ?_
    refine g_aload X9 B at_231 233 rfl rfl rfl ?_
    refine g_aload X9 B at_233 235 rfl rfl rfl ?_
    have t25 := (Exa.keep (Exa.keep t10 K8) K9)
    have t26 := (Fld.keep f1 K9 nin0)
    have t27 := (Fld.keep f2 K9 nin0)
    have t28 := (Av.keep f3 K9 nin0)
    have t29 := (own_stk (own_stkw t14 K8 (own_plE t10 own_pl0)) K9)
    have t30 := (own_stk (own_stkw t15 K8 (own_plE t10 own_pl0)) K9)
    have t31 := (own_stk (own_stkw t16 K8 (own_plE t10 own_pl0)) K9)
    have t32 := (own_stk t22 K9)
    refine g_callV X9 B [.ref str] [] at_235 238 rfl rfl (hw _ (List.mem_of_getElem? (i := 201) rfl)) (hw _ (List.mem_of_getElem? (i := 202) rfl)) (hw _ (List.mem_of_getElem? (i := 204) rfl)) (hw _ (List.mem_of_getElem? (i := 203) rfl)) (hw _ (List.mem_of_getElem? (i := 29) rfl)) (hw _ (List.mem_of_getElem? (i := 205) rfl)) (by decide) (lenOf pd_37 rfl) tE (rT_alw l Z ag hw str bb kk cx vs [c0, c1] tr fo cK u0 h9 n0 tF tC hmd t25 t26 t27 t28 (by simp) (own_chs2 hx0 hx1 hx2) hSV t29 t30 t31 t32 hcx) e9 rfl 0 (Nat.le_of_eq rfl) (by decide) (by decide) (by decide) (by decide) (fun v10 T10 h10 L10 X10 e10 q10 => ?_)
    obtain ⟨rfl, N10, rfl⟩ := q10
    show Go p e below _ (T10.setTop (mkF m 238 #[.val (.int u0), .val (.int p1), .val (.int p2), .val (.int p3), .val (.int p4), .val (.int (2 : Int32)), .val (.int c0), .val (.int c1), .val (.int c2), .val (.ref str), .val (.int (Int32.ofNat (2 - own_ps [c0, c1] (2 - 1)))), .val (.ref tr), .unset, .unset, .unset, .unset, .unset, .unset, .unset] [.int (if ¬ u0 < (Int32.ofNat (2 - own_ps [c0, c1] (2 - 1))) then (1 : Int32) else 0)]))
    have j2 : Go p e below (EndsW s (fun v h vm L => v = some (.int 1) ∧ Fr n0 L) room_1.cells room_1.slots) (T10.setTop (mkF m 257 #[.val (.int u0), .val (.int p1), .val (.int p2), .val (.int p3), .val (.int p4), .val (.int (2 : Int32)), .val (.int c0), .val (.int c1), .val (.int c2), .val (.ref str), .val (.int (Int32.ofNat (2 - own_ps [c0, c1] (2 - 1)))), .val (.ref tr), .unset, .unset, .unset, .unset, .unset, .unset, .unset] [.int 1])) := by
      refine g_istore X10 B #[.val (.int u0), .val (.int p1), .val (.int p2), .val (.int p3), .val (.int p4), .val (.int (2 : Int32)), .val (.int c0), .val (.int c1), .val (.int c2), .val (.ref str), .val (.int (Int32.ofNat (2 - own_ps [c0, c1] (2 - 1)))), .val (.ref tr), .val (.int (1 : Int32)), .unset, .unset, .unset, .unset, .unset, .unset] at_257 259 rfl rfl ?_
      refine g_aload X10 B at_259 261 rfl rfl rfl ?_
      refine g_callV X10 B [] [] at_261 264 rfl rfl (hw _ (List.mem_of_getElem? (i := 233) rfl)) (hw _ (List.mem_of_getElem? (i := 234) rfl)) (hw _ (List.mem_of_getElem? (i := 236) rfl)) (hw _ (List.mem_of_getElem? (i := 235) rfl)) (hw _ (List.mem_of_getElem? (i := 29) rfl)) (hw _ (List.mem_of_getElem? (i := 237) rfl)) (by decide) (lenOf pd_44 rfl) tE (rm_req l Z ag hw tr rq h9 n0 tR) e10 rfl 0 (Nat.le_of_eq rfl) (by decide) (by decide) (by decide) (by decide) (fun v11 T11 h11 L11 X11 e11 q11 => ?_)
      obtain ⟨rfl, N11, rfl⟩ := q11
      show Go p e below _ (T11.setTop (mkF m 264 #[.val (.int u0), .val (.int p1), .val (.int p2), .val (.int p3), .val (.int p4), .val (.int (2 : Int32)), .val (.int c0), .val (.int c1), .val (.int c2), .val (.ref str), .val (.int (Int32.ofNat (2 - own_ps [c0, c1] (2 - 1)))), .val (.ref tr), .val (.int (1 : Int32)), .unset, .unset, .unset, .unset, .unset, .unset] [.ref rq]))
      refine g_astore X11 B #[.val (.int u0), .val (.int p1), .val (.int p2), .val (.int p3), .val (.int p4), .val (.int (2 : Int32)), .val (.int c0), .val (.int c1), .val (.int c2), .val (.ref str), .val (.int (Int32.ofNat (2 - own_ps [c0, c1] (2 - 1)))), .val (.ref tr), .val (.int (1 : Int32)), .val (.ref rq), .unset, .unset, .unset, .unset, .unset] at_264 266 rfl rfl rfl ?_
      refine g_iloadN X11 B at_266 267 rfl rfl ?_
      refine g_if_ge X11 B at_267 274 270 rfl (by decide) rfl (fun hng => ?_) (fun hng => ?_)
      · skip
        have hF : (((([] : List Int32) ++ ([109, 117, 115, 116, 32, 98, 101, 32, 97, 116, 32, 109, 111, 115, 116, 32] : List Int32)) ++ own_dec u0) ++ ([32, 99, 104, 97, 114, 97, 99, 116, 101, 114, 115] : List Int32)) = ((([109, 117, 115, 116, 32, 98, 101, 32, 97, 116, 32, 109, 111, 115, 116, 32] : List Int32) ++ own_digs u0.toInt.natAbs) ++ ([32, 99, 104, 97, 114, 97, 99, 116, 101, 114, 115] : List Int32)) := by rw [own_dec_n hng]; rfl
        rw [hF] at hLr
        have hFl : ((([109, 117, 115, 116, 32, 98, 101, 32, 97, 116, 32, 109, 111, 115, 116, 32] : List Int32) ++ own_digs u0.toInt.natAbs) ++ ([32, 99, 104, 97, 114, 97, 99, 116, 101, 114, 115] : List Int32)).length = 27 + (own_digs u0.toInt.natAbs).length := by rw [List.length_append, List.length_append]; show 16 + _ + 11 = _; omega
        have hn70 : ((([109, 117, 115, 116, 32, 98, 101, 32, 97, 116, 32, 109, 111, 115, 116, 32] : List Int32) ++ own_digs u0.toInt.natAbs) ++ ([32, 99, 104, 97, 114, 97, 99, 116, 101, 114, 115] : List Int32)).length ≤ 70 := by rw [hFl]; omega
        refine g_iconst X11 B (0) at_274 275 rfl rfl ?_
        refine g_istore X11 B #[.val (.int u0), .val (.int p1), .val (.int p2), .val (.int p3), .val (.int p4), .val (.int (2 : Int32)), .val (.int c0), .val (.int c1), .val (.int c2), .val (.ref str), .val (.int (Int32.ofNat (2 - own_ps [c0, c1] (2 - 1)))), .val (.ref tr), .val (.int (1 : Int32)), .val (.ref rq), .val (.int (0 : Int32)), .unset, .unset, .unset, .unset] at_275 277 rfl rfl ?_
        refine g_iloadN X11 B at_277 278 rfl rfl ?_
        refine g_i2l X11 B at_278 279 rfl ?_
        refine g_callS X11 B [.long (u0.toInt64)] [] at_279 282 rfl rfl (hw _ (List.mem_of_getElem? (i := 238) rfl)) (hw _ (List.mem_of_getElem? (i := 239) rfl)) (hw _ (List.mem_of_getElem? (i := 128) rfl)) (hw _ (List.mem_of_getElem? (i := 240) rfl)) (by decide) (lenOf pd_45 rfl) (rm_abs l Z ag hw u0.toInt64 h9 n0) e11 rfl 0 (Nat.le_of_eq rfl) (by decide) (by decide) (by decide) (by decide) (fun v12 T12 h12 L12 X12 e12 q12 => ?_)
        obtain ⟨rfl, N12, rfl⟩ := q12
        show Go p e below _ (T12.setTop (mkF m 282 #[.val (.int u0), .val (.int p1), .val (.int p2), .val (.int p3), .val (.int p4), .val (.int (2 : Int32)), .val (.int c0), .val (.int c1), .val (.int c2), .val (.ref str), .val (.int (Int32.ofNat (2 - own_ps [c0, c1] (2 - 1)))), .val (.ref tr), .val (.int (1 : Int32)), .val (.ref rq), .val (.int (0 : Int32)), .unset, .unset, .unset, .unset] [.long (own_absv u0)]))
        refine g_lstore X12 B #[.val (.int u0), .val (.int p1), .val (.int p2), .val (.int p3), .val (.int p4), .val (.int (2 : Int32)), .val (.int c0), .val (.int c1), .val (.int c2), .val (.ref str), .val (.int (Int32.ofNat (2 - own_ps [c0, c1] (2 - 1)))), .val (.ref tr), .val (.int (1 : Int32)), .val (.ref rq), .val (.int (0 : Int32)), .val (.long (own_absv u0)), .second, .unset, .unset] at_282 284 rfl rfl ?_
        refine g_bipush X12 B (27) at_284 286 rfl rfl ?_
        refine g_iload X12 B at_286 288 rfl rfl ?_
        refine g_if_eq X12 B at_288 295 291 rfl (by decide) rfl (fun _ => ?_) (fun z => own_abs (by decide) z)
        refine g_iconst X12 B (0) at_295 296 rfl rfl ?_
        refine g_iadd X12 B at_296 297 rfl ?_
        refine g_lload X12 B at_297 299 rfl rfl ?_
        refine g_callS X12 B [.long (own_absv u0)] [.int ((27 : Int32) + (0 : Int32))] at_299 302 rfl rfl (hw _ (List.mem_of_getElem? (i := 241) rfl)) (hw _ (List.mem_of_getElem? (i := 242) rfl)) (hw _ (List.mem_of_getElem? (i := 2) rfl)) (hw _ (List.mem_of_getElem? (i := 243) rfl)) (by decide) (lenOf pd_46 rfl) (rm_digits l Z ag hw (own_absv u0) u0.toInt.natAbs h9 n0 (own_absz u0) (own_nalt u0)) e12 rfl 1 (Nat.le_of_eq rfl) (by decide) (by decide) (by decide) (by decide) (fun v13 T13 h13 L13 X13 e13 q13 => ?_)
        obtain ⟨rfl, N13, rfl⟩ := q13
        show Go p e below _ (T13.setTop (mkF m 302 #[.val (.int u0), .val (.int p1), .val (.int p2), .val (.int p3), .val (.int p4), .val (.int (2 : Int32)), .val (.int c0), .val (.int c1), .val (.int c2), .val (.ref str), .val (.int (Int32.ofNat (2 - own_ps [c0, c1] (2 - 1)))), .val (.ref tr), .val (.int (1 : Int32)), .val (.ref rq), .val (.int (0 : Int32)), .val (.long (own_absv u0)), .second, .unset, .unset] [.int (Int32.ofNat (own_digs u0.toInt.natAbs).length), .int ((27 : Int32) + (0 : Int32))]))
        refine g_iadd X13 B at_302 303 rfl ?_
        rw [show ((27 : Int32) + (0 : Int32)) = Int32.ofNat 27 by decide, own_addN (by omega)]
        refine g_istore X13 B #[.val (.int u0), .val (.int p1), .val (.int p2), .val (.int p3), .val (.int p4), .val (.int (2 : Int32)), .val (.int c0), .val (.int c1), .val (.int c2), .val (.ref str), .val (.int (Int32.ofNat (2 - own_ps [c0, c1] (2 - 1)))), .val (.ref tr), .val (.int (1 : Int32)), .val (.ref rq), .val (.int (0 : Int32)), .val (.long (own_absv u0)), .second, .val (.int (Int32.ofNat (27 + (own_digs u0.toInt.natAbs).length))), .unset] at_303 305 rfl rfl ?_
        refine g_aload X13 B at_305 307 rfl rfl rfl ?_
        refine g_callV X13 B [] [] at_307 310 rfl rfl (hw _ (List.mem_of_getElem? (i := 245) rfl)) (hw _ (List.mem_of_getElem? (i := 67) rfl)) (hw _ (List.mem_of_getElem? (i := 69) rfl)) (hw _ (List.mem_of_getElem? (i := 68) rfl)) (hw _ (List.mem_of_getElem? (i := 7) rfl)) (hw _ (List.mem_of_getElem? (i := 70) rfl)) (by decide) (lenOf pd_10 rfl) rE (rB_len l Z ag hw rq rb cx ws ((([109, 117, 115, 116, 32, 98, 101, 32, 97, 116, 32, 109, 111, 115, 116, 32] : List Int32) ++ own_digs u0.toInt.natAbs) ++ ([32, 99, 104, 97, 114, 97, 99, 116, 101, 114, 115] : List Int32)) h9 n0 rE rV rC rA hn70 hLr t32 hcx) e13 rfl 0 (Nat.le_of_eq rfl) (by decide) (by decide) (by decide) (by decide) (fun v14 T14 h14 L14 X14 e14 q14 => ?_)
        obtain ⟨rfl, N14, rfl⟩ := q14
        show Go p e below _ (T14.setTop (mkF m 310 #[.val (.int u0), .val (.int p1), .val (.int p2), .val (.int p3), .val (.int p4), .val (.int (2 : Int32)), .val (.int c0), .val (.int c1), .val (.int c2), .val (.ref str), .val (.int (Int32.ofNat (2 - own_ps [c0, c1] (2 - 1)))), .val (.ref tr), .val (.int (1 : Int32)), .val (.ref rq), .val (.int (0 : Int32)), .val (.long (own_absv u0)), .second, .val (.int (Int32.ofNat (27 + (own_digs u0.toInt.natAbs).length))), .unset] [.int (Int32.ofNat ((([109, 117, 115, 116, 32, 98, 101, 32, 97, 116, 32, 109, 111, 115, 116, 32] : List Int32) ++ own_digs u0.toInt.natAbs) ++ ([32, 99, 104, 97, 114, 97, 99, 116, 101, 114, 115] : List Int32)).length)]))
        refine g_iload X14 B at_310 312 rfl rfl ?_
        refine g_icmp_ne X14 B at_312 319 315 rfl (by decide) rfl (fun z => own_abs (by rw [hFl]) z) (fun _ => ?_)
        refine g_iconst X14 B (1) at_315 316 rfl rfl ?_
        refine g_goto X14 B at_316 320 rfl (by decide) ?_
        refine g_istore X14 B #[.val (.int u0), .val (.int p1), .val (.int p2), .val (.int p3), .val (.int p4), .val (.int (2 : Int32)), .val (.int c0), .val (.int c1), .val (.int c2), .val (.ref str), .val (.int (Int32.ofNat (2 - own_ps [c0, c1] (2 - 1)))), .val (.ref tr), .val (.int (1 : Int32)), .val (.ref rq), .val (.int (0 : Int32)), .val (.long (own_absv u0)), .second, .val (.int (Int32.ofNat (27 + (own_digs u0.toInt.natAbs).length))), .val (.int (1 : Int32))] at_320 322 rfl rfl ?_
        refine g_iload X14 B at_322 324 rfl rfl ?_
        refine g_if_eq X14 B at_324 432 327 rfl (by decide) rfl (fun z => own_abs' (by decide) z) (fun _ => ?_)
        refine g_aload X14 B at_327 329 rfl rfl rfl ?_
        refine g_iconst X14 B (0) at_329 330 rfl rfl ?_
        have t33 := (own_stk (own_stkw (Sta.wr W7 (Sta.wr W6 (Sta.ext E5 (Sta.ext E4 SF)))) K8 (own_plE t10 own_pl0)) K9)
        refine g_callV X14 B [.int (0 : Int32)] [] at_330 333 rfl rfl (hw _ (List.mem_of_getElem? (i := 246) rfl)) (hw _ (List.mem_of_getElem? (i := 247) rfl)) (hw _ (List.mem_of_getElem? (i := 249) rfl)) (hw _ (List.mem_of_getElem? (i := 248) rfl)) (hw _ (List.mem_of_getElem? (i := 7) rfl)) (hw _ (List.mem_of_getElem? (i := 250) rfl)) (by decide) (lenOf pd_47 rfl) rE (rL_cat l Z ag hw rq rb cx 0 109 ws ((([109, 117, 115, 116, 32, 98, 101, 32, 97, 116, 32, 109, 111, 115, 116, 32] : List Int32) ++ own_digs u0.toInt.natAbs) ++ ([32, 99, 104, 97, 114, 97, 99, 116, 101, 114, 115] : List Int32)) g h9 n0 rE rV rC rA hn70 hLr t32 hcx (by rw [hFl]; omega) (own_at1 (by decide)) (by unfold own_ch; decide) t33 hg) e14 rfl 0 (Nat.le_of_eq rfl) (by decide) (by decide) (by decide) (by decide) (fun v15 T15 h15 L15 X15 e15 q15 => ?_)
        obtain ⟨rfl, N15, rfl⟩ := q15
        show Go p e below _ (T15.setTop (mkF m 333 #[.val (.int u0), .val (.int p1), .val (.int p2), .val (.int p3), .val (.int p4), .val (.int (2 : Int32)), .val (.int c0), .val (.int c1), .val (.int c2), .val (.ref str), .val (.int (Int32.ofNat (2 - own_ps [c0, c1] (2 - 1)))), .val (.ref tr), .val (.int (1 : Int32)), .val (.ref rq), .val (.int (0 : Int32)), .val (.long (own_absv u0)), .second, .val (.int (Int32.ofNat (27 + (own_digs u0.toInt.natAbs).length))), .val (.int (1 : Int32))] [.int 109]))
        refine g_bipush X15 B (109) at_333 335 rfl rfl ?_
        refine g_icmp_ne X15 B at_335 429 338 rfl (by decide) rfl (fun z => own_abs (rfl) z) (fun _ => ?_)
        refine g_aload X15 B at_338 340 rfl rfl rfl ?_
        refine g_bipush X15 B (15) at_340 342 rfl rfl ?_
        refine g_callV X15 B [.int (15 : Int32)] [] at_342 345 rfl rfl (hw _ (List.mem_of_getElem? (i := 246) rfl)) (hw _ (List.mem_of_getElem? (i := 247) rfl)) (hw _ (List.mem_of_getElem? (i := 249) rfl)) (hw _ (List.mem_of_getElem? (i := 248) rfl)) (hw _ (List.mem_of_getElem? (i := 7) rfl)) (hw _ (List.mem_of_getElem? (i := 250) rfl)) (by decide) (lenOf pd_47 rfl) rE (rL_cat l Z ag hw rq rb cx 15 32 ws ((([109, 117, 115, 116, 32, 98, 101, 32, 97, 116, 32, 109, 111, 115, 116, 32] : List Int32) ++ own_digs u0.toInt.natAbs) ++ ([32, 99, 104, 97, 114, 97, 99, 116, 101, 114, 115] : List Int32)) g h9 n0 rE rV rC rA hn70 hLr t32 hcx (by rw [hFl]; omega) (own_at1 (by decide)) (by unfold own_ch; decide) t33 hg) e15 rfl 0 (Nat.le_of_eq rfl) (by decide) (by decide) (by decide) (by decide) (fun v16 T16 h16 L16 X16 e16 q16 => ?_)
        obtain ⟨rfl, N16, rfl⟩ := q16
        show Go p e below _ (T16.setTop (mkF m 345 #[.val (.int u0), .val (.int p1), .val (.int p2), .val (.int p3), .val (.int p4), .val (.int (2 : Int32)), .val (.int c0), .val (.int c1), .val (.int c2), .val (.ref str), .val (.int (Int32.ofNat (2 - own_ps [c0, c1] (2 - 1)))), .val (.ref tr), .val (.int (1 : Int32)), .val (.ref rq), .val (.int (0 : Int32)), .val (.long (own_absv u0)), .second, .val (.int (Int32.ofNat (27 + (own_digs u0.toInt.natAbs).length))), .val (.int (1 : Int32))] [.int 32]))
        refine g_bipush X16 B (32) at_345 347 rfl rfl ?_
        refine g_icmp_ne X16 B at_347 429 350 rfl (by decide) rfl (fun z => own_abs (rfl) z) (fun _ => ?_)
        refine g_aload X16 B at_350 352 rfl rfl rfl ?_
        refine g_iload X16 B at_352 354 rfl rfl ?_
        refine g_iconst X16 B (1) at_354 355 rfl rfl ?_
        refine g_isub X16 B at_355 356 rfl ?_
        rw [show (1 : Int32) = Int32.ofNat 1 from rfl, own_subN (by omega) (by omega)]
        refine g_callV X16 B [.int (Int32.ofNat (27 + (own_digs u0.toInt.natAbs).length - 1))] [] at_356 359 rfl rfl (hw _ (List.mem_of_getElem? (i := 246) rfl)) (hw _ (List.mem_of_getElem? (i := 247) rfl)) (hw _ (List.mem_of_getElem? (i := 249) rfl)) (hw _ (List.mem_of_getElem? (i := 248) rfl)) (hw _ (List.mem_of_getElem? (i := 7) rfl)) (hw _ (List.mem_of_getElem? (i := 250) rfl)) (by decide) (lenOf pd_47 rfl) rE (rL_cat l Z ag hw rq rb cx (27 + (own_digs u0.toInt.natAbs).length - 1) 115 ws ((([109, 117, 115, 116, 32, 98, 101, 32, 97, 116, 32, 109, 111, 115, 116, 32] : List Int32) ++ own_digs u0.toInt.natAbs) ++ ([32, 99, 104, 97, 114, 97, 99, 116, 101, 114, 115] : List Int32)) g h9 n0 rE rV rC rA hn70 hLr t32 hcx (by rw [hFl]; omega) (own_at3 (j := 10) (show 27 + (own_digs u0.toInt.natAbs).length - 1 = 16 + (own_digs u0.toInt.natAbs).length + 10 by omega)) (by unfold own_ch; decide) t33 hg) e16 rfl 0 (Nat.le_of_eq rfl) (by decide) (by decide) (by decide) (by decide) (fun v17 T17 h17 L17 X17 e17 q17 => ?_)
        obtain ⟨rfl, N17, rfl⟩ := q17
        show Go p e below _ (T17.setTop (mkF m 359 #[.val (.int u0), .val (.int p1), .val (.int p2), .val (.int p3), .val (.int p4), .val (.int (2 : Int32)), .val (.int c0), .val (.int c1), .val (.int c2), .val (.ref str), .val (.int (Int32.ofNat (2 - own_ps [c0, c1] (2 - 1)))), .val (.ref tr), .val (.int (1 : Int32)), .val (.ref rq), .val (.int (0 : Int32)), .val (.long (own_absv u0)), .second, .val (.int (Int32.ofNat (27 + (own_digs u0.toInt.natAbs).length))), .val (.int (1 : Int32))] [.int 115]))
        refine g_bipush X17 B (115) at_359 361 rfl rfl ?_
        refine g_icmp_ne X17 B at_361 429 364 rfl (by decide) rfl (fun z => own_abs (rfl) z) (fun _ => ?_)
        refine g_aload X17 B at_364 366 rfl rfl rfl ?_
        refine g_iload X17 B at_366 368 rfl rfl ?_
        refine g_bipush X17 B (11) at_368 370 rfl rfl ?_
        refine g_isub X17 B at_370 371 rfl ?_
        rw [show (11 : Int32) = Int32.ofNat 11 from rfl, own_subN (by omega) (by omega)]
        refine g_callV X17 B [.int (Int32.ofNat (27 + (own_digs u0.toInt.natAbs).length - 11))] [] at_371 374 rfl rfl (hw _ (List.mem_of_getElem? (i := 246) rfl)) (hw _ (List.mem_of_getElem? (i := 247) rfl)) (hw _ (List.mem_of_getElem? (i := 249) rfl)) (hw _ (List.mem_of_getElem? (i := 248) rfl)) (hw _ (List.mem_of_getElem? (i := 7) rfl)) (hw _ (List.mem_of_getElem? (i := 250) rfl)) (by decide) (lenOf pd_47 rfl) rE (rL_cat l Z ag hw rq rb cx (27 + (own_digs u0.toInt.natAbs).length - 11) 32 ws ((([109, 117, 115, 116, 32, 98, 101, 32, 97, 116, 32, 109, 111, 115, 116, 32] : List Int32) ++ own_digs u0.toInt.natAbs) ++ ([32, 99, 104, 97, 114, 97, 99, 116, 101, 114, 115] : List Int32)) g h9 n0 rE rV rC rA hn70 hLr t32 hcx (by rw [hFl]; omega) (own_at3 (j := 0) (show 27 + (own_digs u0.toInt.natAbs).length - 11 = 16 + (own_digs u0.toInt.natAbs).length + 0 by omega)) (by unfold own_ch; decide) t33 hg) e17 rfl 0 (Nat.le_of_eq rfl) (by decide) (by decide) (by decide) (by decide) (fun v18 T18 h18 L18 X18 e18 q18 => ?_)
        obtain ⟨rfl, N18, rfl⟩ := q18
        show Go p e below _ (T18.setTop (mkF m 374 #[.val (.int u0), .val (.int p1), .val (.int p2), .val (.int p3), .val (.int p4), .val (.int (2 : Int32)), .val (.int c0), .val (.int c1), .val (.int c2), .val (.ref str), .val (.int (Int32.ofNat (2 - own_ps [c0, c1] (2 - 1)))), .val (.ref tr), .val (.int (1 : Int32)), .val (.ref rq), .val (.int (0 : Int32)), .val (.long (own_absv u0)), .second, .val (.int (Int32.ofNat (27 + (own_digs u0.toInt.natAbs).length))), .val (.int (1 : Int32))] [.int 32]))
        refine g_bipush X18 B (32) at_374 376 rfl rfl ?_
        refine g_icmp_ne X18 B at_376 429 379 rfl (by decide) rfl (fun z => own_abs (rfl) z) (fun _ => ?_)
        refine g_aload X18 B at_379 381 rfl rfl rfl ?_
        refine g_bipush X18 B (16) at_381 383 rfl rfl ?_
        obtain ⟨cf, hcf, hcfc, hcfn⟩ := own_firstd u0.toInt.natAbs
        refine g_callV X18 B [.int (16 : Int32)] [] at_383 386 rfl rfl (hw _ (List.mem_of_getElem? (i := 246) rfl)) (hw _ (List.mem_of_getElem? (i := 247) rfl)) (hw _ (List.mem_of_getElem? (i := 249) rfl)) (hw _ (List.mem_of_getElem? (i := 248) rfl)) (hw _ (List.mem_of_getElem? (i := 7) rfl)) (hw _ (List.mem_of_getElem? (i := 250) rfl)) (by decide) (lenOf pd_47 rfl) rE (rL_cat l Z ag hw rq rb cx 16 cf ws ((([109, 117, 115, 116, 32, 98, 101, 32, 97, 116, 32, 109, 111, 115, 116, 32] : List Int32) ++ own_digs u0.toInt.natAbs) ++ ([32, 99, 104, 97, 114, 97, 99, 116, 101, 114, 115] : List Int32)) g h9 n0 rE rV rC rA hn70 hLr t32 hcx (by rw [hFl]; omega) ((own_at2 (j := 0) (show 16 = 16 + 0 by decide) hMp).trans hcf) hcfc t33 hg) e18 rfl 0 (Nat.le_of_eq rfl) (by decide) (by decide) (by decide) (by decide) (fun v19 T19 h19 L19 X19 e19 q19 => ?_)
        obtain ⟨rfl, N19, rfl⟩ := q19
        show Go p e below _ (T19.setTop (mkF m 386 #[.val (.int u0), .val (.int p1), .val (.int p2), .val (.int p3), .val (.int p4), .val (.int (2 : Int32)), .val (.int c0), .val (.int c1), .val (.int c2), .val (.ref str), .val (.int (Int32.ofNat (2 - own_ps [c0, c1] (2 - 1)))), .val (.ref tr), .val (.int (1 : Int32)), .val (.ref rq), .val (.int (0 : Int32)), .val (.long (own_absv u0)), .second, .val (.int (Int32.ofNat (27 + (own_digs u0.toInt.natAbs).length))), .val (.int (1 : Int32))] [.int cf]))
        refine g_bipush X19 B (45) at_386 388 rfl rfl ?_
        refine g_icmp_ne X19 B at_388 395 391 rfl (by decide) rfl (fun _ => ?_) (fun z => own_abs' (hcfn) z)
        refine g_iconst X19 B (0) at_395 396 rfl rfl ?_
        refine g_iload X19 B at_396 398 rfl rfl ?_
        refine g_icmp_ne X19 B at_398 429 401 rfl (by decide) rfl (fun z => own_abs (by decide) z) (fun _ => ?_)
        refine g_aload X19 B at_401 403 rfl rfl rfl ?_
        refine g_iload X19 B at_403 405 rfl rfl ?_
        refine g_bipush X19 B (12) at_405 407 rfl rfl ?_
        refine g_isub X19 B at_407 408 rfl ?_
        rw [show (12 : Int32) = Int32.ofNat 12 from rfl, own_subN (by omega) (by omega)]
        refine g_callV X19 B [.int (Int32.ofNat (27 + (own_digs u0.toInt.natAbs).length - 12))] [] at_408 411 rfl rfl (hw _ (List.mem_of_getElem? (i := 246) rfl)) (hw _ (List.mem_of_getElem? (i := 247) rfl)) (hw _ (List.mem_of_getElem? (i := 249) rfl)) (hw _ (List.mem_of_getElem? (i := 248) rfl)) (hw _ (List.mem_of_getElem? (i := 7) rfl)) (hw _ (List.mem_of_getElem? (i := 250) rfl)) (by decide) (lenOf pd_47 rfl) rE (rL_cat l Z ag hw rq rb cx (27 + (own_digs u0.toInt.natAbs).length - 12) (Int32.ofNat (48 + u0.toInt.natAbs % 10)) ws ((([109, 117, 115, 116, 32, 98, 101, 32, 97, 116, 32, 109, 111, 115, 116, 32] : List Int32) ++ own_digs u0.toInt.natAbs) ++ ([32, 99, 104, 97, 114, 97, 99, 116, 101, 114, 115] : List Int32)) g h9 n0 rE rV rC rA hn70 hLr t32 hcx (by rw [hFl]; omega) ((own_at2 (j := (own_digs u0.toInt.natAbs).length - 1) (show 27 + (own_digs u0.toInt.natAbs).length - 12 = 16 + ((own_digs u0.toInt.natAbs).length - 1) by omega) (by omega)).trans (own_lastd u0.toInt.natAbs)) (own_chd u0.toInt.natAbs) t33 hg) e19 rfl 0 (Nat.le_of_eq rfl) (by decide) (by decide) (by decide) (by decide) (fun v20 T20 h20 L20 X20 e20 q20 => ?_)
        obtain ⟨rfl, N20, rfl⟩ := q20
        show Go p e below _ (T20.setTop (mkF m 411 #[.val (.int u0), .val (.int p1), .val (.int p2), .val (.int p3), .val (.int p4), .val (.int (2 : Int32)), .val (.int c0), .val (.int c1), .val (.int c2), .val (.ref str), .val (.int (Int32.ofNat (2 - own_ps [c0, c1] (2 - 1)))), .val (.ref tr), .val (.int (1 : Int32)), .val (.ref rq), .val (.int (0 : Int32)), .val (.long (own_absv u0)), .second, .val (.int (Int32.ofNat (27 + (own_digs u0.toInt.natAbs).length))), .val (.int (1 : Int32))] [.int (Int32.ofNat (48 + u0.toInt.natAbs % 10))]))
        refine g_bipush X20 B (48) at_411 413 rfl rfl ?_
        refine g_lload X20 B at_413 415 rfl rfl ?_
        refine g_ldc2J X20 B at_415 418 rfl (hw _ (List.mem_of_getElem? (i := 244) rfl)) ?_
        refine g_lrem X20 B at_418 419 rfl (by decide) ?_
        refine g_l2i X20 B at_419 420 rfl ?_
        refine g_iadd X20 B at_420 421 rfl ?_
        refine g_i2c X20 B at_421 422 rfl ?_
        refine g_icmp_ne X20 B at_422 429 425 rfl (by decide) rfl (fun z => own_abs ((own_digch1 (own_absz u0)).symm) z) (fun _ => ?_)
        refine g_iconst X20 B (1) at_425 426 rfl rfl ?_
        refine g_goto X20 B at_426 430 rfl (by decide) ?_
        refine g_istore X20 B #[.val (.int u0), .val (.int p1), .val (.int p2), .val (.int p3), .val (.int p4), .val (.int (2 : Int32)), .val (.int c0), .val (.int c1), .val (.int c2), .val (.ref str), .val (.int (Int32.ofNat (2 - own_ps [c0, c1] (2 - 1)))), .val (.ref tr), .val (.int (1 : Int32)), .val (.ref rq), .val (.int (0 : Int32)), .val (.long (own_absv u0)), .second, .val (.int (Int32.ofNat (27 + (own_digs u0.toInt.natAbs).length))), .val (.int (1 : Int32))] at_430 432 rfl rfl ?_
        refine g_iload X20 B at_432 434 rfl rfl ?_
        refine g_if_eq X20 B at_434 446 437 rfl (by decide) rfl (fun z => own_abs' (by decide) z) (fun _ => ?_)
        refine g_iload X20 B at_437 439 rfl rfl ?_
        refine g_if_eq X20 B at_439 446 442 rfl (by decide) rfl (fun z => own_abs' (by decide) z) (fun _ => ?_)
        refine g_iconst X20 B (1) at_442 443 rfl rfl ?_
        refine g_goto X20 B at_443 447 rfl (by decide) ?_
        exact g_retNW X20 B at_447 rfl rfl (by decide) (by decide) (by decide) e20 hS kk9 (fun vm hvm => ⟨rfl, ((((((((((((N.app N9).app N10).app N11).app N12).app N13).app N14).app N15).app N16).app N17).app N18).app N19).app N20)⟩)
      · skip
        have hF : (((([] : List Int32) ++ ([109, 117, 115, 116, 32, 98, 101, 32, 97, 116, 32, 109, 111, 115, 116, 32] : List Int32)) ++ own_dec u0) ++ ([32, 99, 104, 97, 114, 97, 99, 116, 101, 114, 115] : List Int32)) = ((([109, 117, 115, 116, 32, 98, 101, 32, 97, 116, 32, 109, 111, 115, 116, 32, 45] : List Int32) ++ own_digs u0.toInt.natAbs) ++ ([32, 99, 104, 97, 114, 97, 99, 116, 101, 114, 115] : List Int32)) := by rw [own_dec_s hng]; rfl
        rw [hF] at hLr
        have hFl : ((([109, 117, 115, 116, 32, 98, 101, 32, 97, 116, 32, 109, 111, 115, 116, 32, 45] : List Int32) ++ own_digs u0.toInt.natAbs) ++ ([32, 99, 104, 97, 114, 97, 99, 116, 101, 114, 115] : List Int32)).length = 28 + (own_digs u0.toInt.natAbs).length := by rw [List.length_append, List.length_append]; show 17 + _ + 11 = _; omega
        have hn70 : ((([109, 117, 115, 116, 32, 98, 101, 32, 97, 116, 32, 109, 111, 115, 116, 32, 45] : List Int32) ++ own_digs u0.toInt.natAbs) ++ ([32, 99, 104, 97, 114, 97, 99, 116, 101, 114, 115] : List Int32)).length ≤ 70 := by rw [hFl]; omega
        refine g_iconst X11 B (1) at_270 271 rfl rfl ?_
        refine g_goto X11 B at_271 275 rfl (by decide) ?_
        refine g_istore X11 B #[.val (.int u0), .val (.int p1), .val (.int p2), .val (.int p3), .val (.int p4), .val (.int (2 : Int32)), .val (.int c0), .val (.int c1), .val (.int c2), .val (.ref str), .val (.int (Int32.ofNat (2 - own_ps [c0, c1] (2 - 1)))), .val (.ref tr), .val (.int (1 : Int32)), .val (.ref rq), .val (.int (1 : Int32)), .unset, .unset, .unset, .unset] at_275 277 rfl rfl ?_
        refine g_iloadN X11 B at_277 278 rfl rfl ?_
        refine g_i2l X11 B at_278 279 rfl ?_
        refine g_callS X11 B [.long (u0.toInt64)] [] at_279 282 rfl rfl (hw _ (List.mem_of_getElem? (i := 238) rfl)) (hw _ (List.mem_of_getElem? (i := 239) rfl)) (hw _ (List.mem_of_getElem? (i := 128) rfl)) (hw _ (List.mem_of_getElem? (i := 240) rfl)) (by decide) (lenOf pd_45 rfl) (rm_abs l Z ag hw u0.toInt64 h9 n0) e11 rfl 0 (Nat.le_of_eq rfl) (by decide) (by decide) (by decide) (by decide) (fun v21 T21 h21 L21 X21 e21 q21 => ?_)
        obtain ⟨rfl, N21, rfl⟩ := q21
        show Go p e below _ (T21.setTop (mkF m 282 #[.val (.int u0), .val (.int p1), .val (.int p2), .val (.int p3), .val (.int p4), .val (.int (2 : Int32)), .val (.int c0), .val (.int c1), .val (.int c2), .val (.ref str), .val (.int (Int32.ofNat (2 - own_ps [c0, c1] (2 - 1)))), .val (.ref tr), .val (.int (1 : Int32)), .val (.ref rq), .val (.int (1 : Int32)), .unset, .unset, .unset, .unset] [.long (own_absv u0)]))
        refine g_lstore X21 B #[.val (.int u0), .val (.int p1), .val (.int p2), .val (.int p3), .val (.int p4), .val (.int (2 : Int32)), .val (.int c0), .val (.int c1), .val (.int c2), .val (.ref str), .val (.int (Int32.ofNat (2 - own_ps [c0, c1] (2 - 1)))), .val (.ref tr), .val (.int (1 : Int32)), .val (.ref rq), .val (.int (1 : Int32)), .val (.long (own_absv u0)), .second, .unset, .unset] at_282 284 rfl rfl ?_
        refine g_bipush X21 B (27) at_284 286 rfl rfl ?_
        refine g_iload X21 B at_286 288 rfl rfl ?_
        refine g_if_eq X21 B at_288 295 291 rfl (by decide) rfl (fun z => own_abs' (by decide) z) (fun _ => ?_)
        refine g_iconst X21 B (1) at_291 292 rfl rfl ?_
        refine g_goto X21 B at_292 296 rfl (by decide) ?_
        refine g_iadd X21 B at_296 297 rfl ?_
        refine g_lload X21 B at_297 299 rfl rfl ?_
        refine g_callS X21 B [.long (own_absv u0)] [.int ((27 : Int32) + (1 : Int32))] at_299 302 rfl rfl (hw _ (List.mem_of_getElem? (i := 241) rfl)) (hw _ (List.mem_of_getElem? (i := 242) rfl)) (hw _ (List.mem_of_getElem? (i := 2) rfl)) (hw _ (List.mem_of_getElem? (i := 243) rfl)) (by decide) (lenOf pd_46 rfl) (rm_digits l Z ag hw (own_absv u0) u0.toInt.natAbs h9 n0 (own_absz u0) (own_nalt u0)) e21 rfl 1 (Nat.le_of_eq rfl) (by decide) (by decide) (by decide) (by decide) (fun v22 T22 h22 L22 X22 e22 q22 => ?_)
        obtain ⟨rfl, N22, rfl⟩ := q22
        show Go p e below _ (T22.setTop (mkF m 302 #[.val (.int u0), .val (.int p1), .val (.int p2), .val (.int p3), .val (.int p4), .val (.int (2 : Int32)), .val (.int c0), .val (.int c1), .val (.int c2), .val (.ref str), .val (.int (Int32.ofNat (2 - own_ps [c0, c1] (2 - 1)))), .val (.ref tr), .val (.int (1 : Int32)), .val (.ref rq), .val (.int (1 : Int32)), .val (.long (own_absv u0)), .second, .unset, .unset] [.int (Int32.ofNat (own_digs u0.toInt.natAbs).length), .int ((27 : Int32) + (1 : Int32))]))
        refine g_iadd X22 B at_302 303 rfl ?_
        rw [show ((27 : Int32) + (1 : Int32)) = Int32.ofNat 28 by decide, own_addN (by omega)]
        refine g_istore X22 B #[.val (.int u0), .val (.int p1), .val (.int p2), .val (.int p3), .val (.int p4), .val (.int (2 : Int32)), .val (.int c0), .val (.int c1), .val (.int c2), .val (.ref str), .val (.int (Int32.ofNat (2 - own_ps [c0, c1] (2 - 1)))), .val (.ref tr), .val (.int (1 : Int32)), .val (.ref rq), .val (.int (1 : Int32)), .val (.long (own_absv u0)), .second, .val (.int (Int32.ofNat (28 + (own_digs u0.toInt.natAbs).length))), .unset] at_303 305 rfl rfl ?_
        refine g_aload X22 B at_305 307 rfl rfl rfl ?_
        refine g_callV X22 B [] [] at_307 310 rfl rfl (hw _ (List.mem_of_getElem? (i := 245) rfl)) (hw _ (List.mem_of_getElem? (i := 67) rfl)) (hw _ (List.mem_of_getElem? (i := 69) rfl)) (hw _ (List.mem_of_getElem? (i := 68) rfl)) (hw _ (List.mem_of_getElem? (i := 7) rfl)) (hw _ (List.mem_of_getElem? (i := 70) rfl)) (by decide) (lenOf pd_10 rfl) rE (rB_len l Z ag hw rq rb cx ws ((([109, 117, 115, 116, 32, 98, 101, 32, 97, 116, 32, 109, 111, 115, 116, 32, 45] : List Int32) ++ own_digs u0.toInt.natAbs) ++ ([32, 99, 104, 97, 114, 97, 99, 116, 101, 114, 115] : List Int32)) h9 n0 rE rV rC rA hn70 hLr t32 hcx) e22 rfl 0 (Nat.le_of_eq rfl) (by decide) (by decide) (by decide) (by decide) (fun v23 T23 h23 L23 X23 e23 q23 => ?_)
        obtain ⟨rfl, N23, rfl⟩ := q23
        show Go p e below _ (T23.setTop (mkF m 310 #[.val (.int u0), .val (.int p1), .val (.int p2), .val (.int p3), .val (.int p4), .val (.int (2 : Int32)), .val (.int c0), .val (.int c1), .val (.int c2), .val (.ref str), .val (.int (Int32.ofNat (2 - own_ps [c0, c1] (2 - 1)))), .val (.ref tr), .val (.int (1 : Int32)), .val (.ref rq), .val (.int (1 : Int32)), .val (.long (own_absv u0)), .second, .val (.int (Int32.ofNat (28 + (own_digs u0.toInt.natAbs).length))), .unset] [.int (Int32.ofNat ((([109, 117, 115, 116, 32, 98, 101, 32, 97, 116, 32, 109, 111, 115, 116, 32, 45] : List Int32) ++ own_digs u0.toInt.natAbs) ++ ([32, 99, 104, 97, 114, 97, 99, 116, 101, 114, 115] : List Int32)).length)]))
        refine g_iload X23 B at_310 312 rfl rfl ?_
        refine g_icmp_ne X23 B at_312 319 315 rfl (by decide) rfl (fun z => own_abs (by rw [hFl]) z) (fun _ => ?_)
        refine g_iconst X23 B (1) at_315 316 rfl rfl ?_
        refine g_goto X23 B at_316 320 rfl (by decide) ?_
        refine g_istore X23 B #[.val (.int u0), .val (.int p1), .val (.int p2), .val (.int p3), .val (.int p4), .val (.int (2 : Int32)), .val (.int c0), .val (.int c1), .val (.int c2), .val (.ref str), .val (.int (Int32.ofNat (2 - own_ps [c0, c1] (2 - 1)))), .val (.ref tr), .val (.int (1 : Int32)), .val (.ref rq), .val (.int (1 : Int32)), .val (.long (own_absv u0)), .second, .val (.int (Int32.ofNat (28 + (own_digs u0.toInt.natAbs).length))), .val (.int (1 : Int32))] at_320 322 rfl rfl ?_
        refine g_iload X23 B at_322 324 rfl rfl ?_
        refine g_if_eq X23 B at_324 432 327 rfl (by decide) rfl (fun z => own_abs' (by decide) z) (fun _ => ?_)
        refine g_aload X23 B at_327 329 rfl rfl rfl ?_
        refine g_iconst X23 B (0) at_329 330 rfl rfl ?_
        have t34 := (own_stk (own_stkw (Sta.wr W7 (Sta.wr W6 (Sta.ext E5 (Sta.ext E4 SF)))) K8 (own_plE t10 own_pl0)) K9)
        refine g_callV X23 B [.int (0 : Int32)] [] at_330 333 rfl rfl (hw _ (List.mem_of_getElem? (i := 246) rfl)) (hw _ (List.mem_of_getElem? (i := 247) rfl)) (hw _ (List.mem_of_getElem? (i := 249) rfl)) (hw _ (List.mem_of_getElem? (i := 248) rfl)) (hw _ (List.mem_of_getElem? (i := 7) rfl)) (hw _ (List.mem_of_getElem? (i := 250) rfl)) (by decide) (lenOf pd_47 rfl) rE (rL_cat l Z ag hw rq rb cx 0 109 ws ((([109, 117, 115, 116, 32, 98, 101, 32, 97, 116, 32, 109, 111, 115, 116, 32, 45] : List Int32) ++ own_digs u0.toInt.natAbs) ++ ([32, 99, 104, 97, 114, 97, 99, 116, 101, 114, 115] : List Int32)) g h9 n0 rE rV rC rA hn70 hLr t32 hcx (by rw [hFl]; omega) (own_at1 (by decide)) (by unfold own_ch; decide) t34 hg) e23 rfl 0 (Nat.le_of_eq rfl) (by decide) (by decide) (by decide) (by decide) (fun v24 T24 h24 L24 X24 e24 q24 => ?_)
        obtain ⟨rfl, N24, rfl⟩ := q24
        show Go p e below _ (T24.setTop (mkF m 333 #[.val (.int u0), .val (.int p1), .val (.int p2), .val (.int p3), .val (.int p4), .val (.int (2 : Int32)), .val (.int c0), .val (.int c1), .val (.int c2), .val (.ref str), .val (.int (Int32.ofNat (2 - own_ps [c0, c1] (2 - 1)))), .val (.ref tr), .val (.int (1 : Int32)), .val (.ref rq), .val (.int (1 : Int32)), .val (.long (own_absv u0)), .second, .val (.int (Int32.ofNat (28 + (own_digs u0.toInt.natAbs).length))), .val (.int (1 : Int32))] [.int 109]))
        refine g_bipush X24 B (109) at_333 335 rfl rfl ?_
        refine g_icmp_ne X24 B at_335 429 338 rfl (by decide) rfl (fun z => own_abs (rfl) z) (fun _ => ?_)
        refine g_aload X24 B at_338 340 rfl rfl rfl ?_
        refine g_bipush X24 B (15) at_340 342 rfl rfl ?_
        refine g_callV X24 B [.int (15 : Int32)] [] at_342 345 rfl rfl (hw _ (List.mem_of_getElem? (i := 246) rfl)) (hw _ (List.mem_of_getElem? (i := 247) rfl)) (hw _ (List.mem_of_getElem? (i := 249) rfl)) (hw _ (List.mem_of_getElem? (i := 248) rfl)) (hw _ (List.mem_of_getElem? (i := 7) rfl)) (hw _ (List.mem_of_getElem? (i := 250) rfl)) (by decide) (lenOf pd_47 rfl) rE (rL_cat l Z ag hw rq rb cx 15 32 ws ((([109, 117, 115, 116, 32, 98, 101, 32, 97, 116, 32, 109, 111, 115, 116, 32, 45] : List Int32) ++ own_digs u0.toInt.natAbs) ++ ([32, 99, 104, 97, 114, 97, 99, 116, 101, 114, 115] : List Int32)) g h9 n0 rE rV rC rA hn70 hLr t32 hcx (by rw [hFl]; omega) (own_at1 (by decide)) (by unfold own_ch; decide) t34 hg) e24 rfl 0 (Nat.le_of_eq rfl) (by decide) (by decide) (by decide) (by decide) (fun v25 T25 h25 L25 X25 e25 q25 => ?_)
        obtain ⟨rfl, N25, rfl⟩ := q25
        show Go p e below _ (T25.setTop (mkF m 345 #[.val (.int u0), .val (.int p1), .val (.int p2), .val (.int p3), .val (.int p4), .val (.int (2 : Int32)), .val (.int c0), .val (.int c1), .val (.int c2), .val (.ref str), .val (.int (Int32.ofNat (2 - own_ps [c0, c1] (2 - 1)))), .val (.ref tr), .val (.int (1 : Int32)), .val (.ref rq), .val (.int (1 : Int32)), .val (.long (own_absv u0)), .second, .val (.int (Int32.ofNat (28 + (own_digs u0.toInt.natAbs).length))), .val (.int (1 : Int32))] [.int 32]))
        refine g_bipush X25 B (32) at_345 347 rfl rfl ?_
        refine g_icmp_ne X25 B at_347 429 350 rfl (by decide) rfl (fun z => own_abs (rfl) z) (fun _ => ?_)
        refine g_aload X25 B at_350 352 rfl rfl rfl ?_
        refine g_iload X25 B at_352 354 rfl rfl ?_
        refine g_iconst X25 B (1) at_354 355 rfl rfl ?_
        refine g_isub X25 B at_355 356 rfl ?_
        rw [show (1 : Int32) = Int32.ofNat 1 from rfl, own_subN (by omega) (by omega)]
        refine g_callV X25 B [.int (Int32.ofNat (28 + (own_digs u0.toInt.natAbs).length - 1))] [] at_356 359 rfl rfl (hw _ (List.mem_of_getElem? (i := 246) rfl)) (hw _ (List.mem_of_getElem? (i := 247) rfl)) (hw _ (List.mem_of_getElem? (i := 249) rfl)) (hw _ (List.mem_of_getElem? (i := 248) rfl)) (hw _ (List.mem_of_getElem? (i := 7) rfl)) (hw _ (List.mem_of_getElem? (i := 250) rfl)) (by decide) (lenOf pd_47 rfl) rE (rL_cat l Z ag hw rq rb cx (28 + (own_digs u0.toInt.natAbs).length - 1) 115 ws ((([109, 117, 115, 116, 32, 98, 101, 32, 97, 116, 32, 109, 111, 115, 116, 32, 45] : List Int32) ++ own_digs u0.toInt.natAbs) ++ ([32, 99, 104, 97, 114, 97, 99, 116, 101, 114, 115] : List Int32)) g h9 n0 rE rV rC rA hn70 hLr t32 hcx (by rw [hFl]; omega) (own_at3 (j := 10) (show 28 + (own_digs u0.toInt.natAbs).length - 1 = 17 + (own_digs u0.toInt.natAbs).length + 10 by omega)) (by unfold own_ch; decide) t34 hg) e25 rfl 0 (Nat.le_of_eq rfl) (by decide) (by decide) (by decide) (by decide) (fun v26 T26 h26 L26 X26 e26 q26 => ?_)
        obtain ⟨rfl, N26, rfl⟩ := q26
        show Go p e below _ (T26.setTop (mkF m 359 #[.val (.int u0), .val (.int p1), .val (.int p2), .val (.int p3), .val (.int p4), .val (.int (2 : Int32)), .val (.int c0), .val (.int c1), .val (.int c2), .val (.ref str), .val (.int (Int32.ofNat (2 - own_ps [c0, c1] (2 - 1)))), .val (.ref tr), .val (.int (1 : Int32)), .val (.ref rq), .val (.int (1 : Int32)), .val (.long (own_absv u0)), .second, .val (.int (Int32.ofNat (28 + (own_digs u0.toInt.natAbs).length))), .val (.int (1 : Int32))] [.int 115]))
        refine g_bipush X26 B (115) at_359 361 rfl rfl ?_
        refine g_icmp_ne X26 B at_361 429 364 rfl (by decide) rfl (fun z => own_abs (rfl) z) (fun _ => ?_)
        refine g_aload X26 B at_364 366 rfl rfl rfl ?_
        refine g_iload X26 B at_366 368 rfl rfl ?_
        refine g_bipush X26 B (11) at_368 370 rfl rfl ?_
        refine g_isub X26 B at_370 371 rfl ?_
        rw [show (11 : Int32) = Int32.ofNat 11 from rfl, own_subN (by omega) (by omega)]
        refine g_callV X26 B [.int (Int32.ofNat (28 + (own_digs u0.toInt.natAbs).length - 11))] [] at_371 374 rfl rfl (hw _ (List.mem_of_getElem? (i := 246) rfl)) (hw _ (List.mem_of_getElem? (i := 247) rfl)) (hw _ (List.mem_of_getElem? (i := 249) rfl)) (hw _ (List.mem_of_getElem? (i := 248) rfl)) (hw _ (List.mem_of_getElem? (i := 7) rfl)) (hw _ (List.mem_of_getElem? (i := 250) rfl)) (by decide) (lenOf pd_47 rfl) rE (rL_cat l Z ag hw rq rb cx (28 + (own_digs u0.toInt.natAbs).length - 11) 32 ws ((([109, 117, 115, 116, 32, 98, 101, 32, 97, 116, 32, 109, 111, 115, 116, 32, 45] : List Int32) ++ own_digs u0.toInt.natAbs) ++ ([32, 99, 104, 97, 114, 97, 99, 116, 101, 114, 115] : List Int32)) g h9 n0 rE rV rC rA hn70 hLr t32 hcx (by rw [hFl]; omega) (own_at3 (j := 0) (show 28 + (own_digs u0.toInt.natAbs).length - 11 = 17 + (own_digs u0.toInt.natAbs).length + 0 by omega)) (by unfold own_ch; decide) t34 hg) e26 rfl 0 (Nat.le_of_eq rfl) (by decide) (by decide) (by decide) (by decide) (fun v27 T27 h27 L27 X27 e27 q27 => ?_)
        obtain ⟨rfl, N27, rfl⟩ := q27
        show Go p e below _ (T27.setTop (mkF m 374 #[.val (.int u0), .val (.int p1), .val (.int p2), .val (.int p3), .val (.int p4), .val (.int (2 : Int32)), .val (.int c0), .val (.int c1), .val (.int c2), .val (.ref str), .val (.int (Int32.ofNat (2 - own_ps [c0, c1] (2 - 1)))), .val (.ref tr), .val (.int (1 : Int32)), .val (.ref rq), .val (.int (1 : Int32)), .val (.long (own_absv u0)), .second, .val (.int (Int32.ofNat (28 + (own_digs u0.toInt.natAbs).length))), .val (.int (1 : Int32))] [.int 32]))
        refine g_bipush X27 B (32) at_374 376 rfl rfl ?_
        refine g_icmp_ne X27 B at_376 429 379 rfl (by decide) rfl (fun z => own_abs (rfl) z) (fun _ => ?_)
        refine g_aload X27 B at_379 381 rfl rfl rfl ?_
        refine g_bipush X27 B (16) at_381 383 rfl rfl ?_
        refine g_callV X27 B [.int (16 : Int32)] [] at_383 386 rfl rfl (hw _ (List.mem_of_getElem? (i := 246) rfl)) (hw _ (List.mem_of_getElem? (i := 247) rfl)) (hw _ (List.mem_of_getElem? (i := 249) rfl)) (hw _ (List.mem_of_getElem? (i := 248) rfl)) (hw _ (List.mem_of_getElem? (i := 7) rfl)) (hw _ (List.mem_of_getElem? (i := 250) rfl)) (by decide) (lenOf pd_47 rfl) rE (rL_cat l Z ag hw rq rb cx 16 45 ws ((([109, 117, 115, 116, 32, 98, 101, 32, 97, 116, 32, 109, 111, 115, 116, 32, 45] : List Int32) ++ own_digs u0.toInt.natAbs) ++ ([32, 99, 104, 97, 114, 97, 99, 116, 101, 114, 115] : List Int32)) g h9 n0 rE rV rC rA hn70 hLr t32 hcx (by rw [hFl]; omega) (own_at1 (by decide)) (by unfold own_ch; decide) t34 hg) e27 rfl 0 (Nat.le_of_eq rfl) (by decide) (by decide) (by decide) (by decide) (fun v28 T28 h28 L28 X28 e28 q28 => ?_)
        obtain ⟨rfl, N28, rfl⟩ := q28
        show Go p e below _ (T28.setTop (mkF m 386 #[.val (.int u0), .val (.int p1), .val (.int p2), .val (.int p3), .val (.int p4), .val (.int (2 : Int32)), .val (.int c0), .val (.int c1), .val (.int c2), .val (.ref str), .val (.int (Int32.ofNat (2 - own_ps [c0, c1] (2 - 1)))), .val (.ref tr), .val (.int (1 : Int32)), .val (.ref rq), .val (.int (1 : Int32)), .val (.long (own_absv u0)), .second, .val (.int (Int32.ofNat (28 + (own_digs u0.toInt.natAbs).length))), .val (.int (1 : Int32))] [.int 45]))
        refine g_bipush X28 B (45) at_386 388 rfl rfl ?_
        refine g_icmp_ne X28 B at_388 395 391 rfl (by decide) rfl (fun z => own_abs (rfl) z) (fun _ => ?_)
        refine g_iconst X28 B (1) at_391 392 rfl rfl ?_
        refine g_goto X28 B at_392 396 rfl (by decide) ?_
        refine g_iload X28 B at_396 398 rfl rfl ?_
        refine g_icmp_ne X28 B at_398 429 401 rfl (by decide) rfl (fun z => own_abs (by decide) z) (fun _ => ?_)
        refine g_aload X28 B at_401 403 rfl rfl rfl ?_
        refine g_iload X28 B at_403 405 rfl rfl ?_
        refine g_bipush X28 B (12) at_405 407 rfl rfl ?_
        refine g_isub X28 B at_407 408 rfl ?_
        rw [show (12 : Int32) = Int32.ofNat 12 from rfl, own_subN (by omega) (by omega)]
        refine g_callV X28 B [.int (Int32.ofNat (28 + (own_digs u0.toInt.natAbs).length - 12))] [] at_408 411 rfl rfl (hw _ (List.mem_of_getElem? (i := 246) rfl)) (hw _ (List.mem_of_getElem? (i := 247) rfl)) (hw _ (List.mem_of_getElem? (i := 249) rfl)) (hw _ (List.mem_of_getElem? (i := 248) rfl)) (hw _ (List.mem_of_getElem? (i := 7) rfl)) (hw _ (List.mem_of_getElem? (i := 250) rfl)) (by decide) (lenOf pd_47 rfl) rE (rL_cat l Z ag hw rq rb cx (28 + (own_digs u0.toInt.natAbs).length - 12) (Int32.ofNat (48 + u0.toInt.natAbs % 10)) ws ((([109, 117, 115, 116, 32, 98, 101, 32, 97, 116, 32, 109, 111, 115, 116, 32, 45] : List Int32) ++ own_digs u0.toInt.natAbs) ++ ([32, 99, 104, 97, 114, 97, 99, 116, 101, 114, 115] : List Int32)) g h9 n0 rE rV rC rA hn70 hLr t32 hcx (by rw [hFl]; omega) ((own_at2 (j := (own_digs u0.toInt.natAbs).length - 1) (show 28 + (own_digs u0.toInt.natAbs).length - 12 = 17 + ((own_digs u0.toInt.natAbs).length - 1) by omega) (by omega)).trans (own_lastd u0.toInt.natAbs)) (own_chd u0.toInt.natAbs) t34 hg) e28 rfl 0 (Nat.le_of_eq rfl) (by decide) (by decide) (by decide) (by decide) (fun v29 T29 h29 L29 X29 e29 q29 => ?_)
        obtain ⟨rfl, N29, rfl⟩ := q29
        show Go p e below _ (T29.setTop (mkF m 411 #[.val (.int u0), .val (.int p1), .val (.int p2), .val (.int p3), .val (.int p4), .val (.int (2 : Int32)), .val (.int c0), .val (.int c1), .val (.int c2), .val (.ref str), .val (.int (Int32.ofNat (2 - own_ps [c0, c1] (2 - 1)))), .val (.ref tr), .val (.int (1 : Int32)), .val (.ref rq), .val (.int (1 : Int32)), .val (.long (own_absv u0)), .second, .val (.int (Int32.ofNat (28 + (own_digs u0.toInt.natAbs).length))), .val (.int (1 : Int32))] [.int (Int32.ofNat (48 + u0.toInt.natAbs % 10))]))
        refine g_bipush X29 B (48) at_411 413 rfl rfl ?_
        refine g_lload X29 B at_413 415 rfl rfl ?_
        refine g_ldc2J X29 B at_415 418 rfl (hw _ (List.mem_of_getElem? (i := 244) rfl)) ?_
        refine g_lrem X29 B at_418 419 rfl (by decide) ?_
        refine g_l2i X29 B at_419 420 rfl ?_
        refine g_iadd X29 B at_420 421 rfl ?_
        refine g_i2c X29 B at_421 422 rfl ?_
        refine g_icmp_ne X29 B at_422 429 425 rfl (by decide) rfl (fun z => own_abs ((own_digch1 (own_absz u0)).symm) z) (fun _ => ?_)
        refine g_iconst X29 B (1) at_425 426 rfl rfl ?_
        refine g_goto X29 B at_426 430 rfl (by decide) ?_
        refine g_istore X29 B #[.val (.int u0), .val (.int p1), .val (.int p2), .val (.int p3), .val (.int p4), .val (.int (2 : Int32)), .val (.int c0), .val (.int c1), .val (.int c2), .val (.ref str), .val (.int (Int32.ofNat (2 - own_ps [c0, c1] (2 - 1)))), .val (.ref tr), .val (.int (1 : Int32)), .val (.ref rq), .val (.int (1 : Int32)), .val (.long (own_absv u0)), .second, .val (.int (Int32.ofNat (28 + (own_digs u0.toInt.natAbs).length))), .val (.int (1 : Int32))] at_430 432 rfl rfl ?_
        refine g_iload X29 B at_432 434 rfl rfl ?_
        refine g_if_eq X29 B at_434 446 437 rfl (by decide) rfl (fun z => own_abs' (by decide) z) (fun _ => ?_)
        refine g_iload X29 B at_437 439 rfl rfl ?_
        refine g_if_eq X29 B at_439 446 442 rfl (by decide) rfl (fun z => own_abs' (by decide) z) (fun _ => ?_)
        refine g_iconst X29 B (1) at_442 443 rfl rfl ?_
        refine g_goto X29 B at_443 447 rfl (by decide) ?_
        exact g_retNW X29 B at_447 rfl rfl (by decide) (by decide) (by decide) e29 hS kk9 (fun vm hvm => ⟨rfl, ((((((((((((N.app N9).app N10).app N11).app N21).app N22).app N23).app N24).app N25).app N26).app N27).app N28).app N29)⟩)
    refine g_iload X10 B at_238 240 rfl rfl ?_
    refine g_iloadN X10 B at_240 241 rfl rfl ?_
    refine g_icmp_gt X10 B at_241 248 244 rfl (by decide) rfl (fun c30 => ?_) (fun c30 => ?_)
    · skip
      refine g_iconst X10 B (0) at_248 249 rfl rfl ?_
      refine g_icmp_ne X10 B at_249 256 252 rfl (by decide) rfl (fun z => own_abs (if_neg (fun z => z c30)) z) (fun _ => ?_)
      refine g_iconst X10 B (1) at_252 253 rfl rfl ?_
      refine g_goto X10 B at_253 257 rfl (by decide) ?_
      exact j2
    · skip
      refine g_iconst X10 B (1) at_244 245 rfl rfl ?_
      refine g_goto X10 B at_245 249 rfl (by decide) ?_
      refine g_icmp_ne X10 B at_249 256 252 rfl (by decide) rfl (fun z => own_abs (if_pos c30) z) (fun _ => ?_)
      refine g_iconst X10 B (1) at_252 253 rfl rfl ?_
      refine g_goto X10 B at_253 257 rfl (by decide) ?_
      exact j2
  refine g_iload X8 B at_104 106 rfl rfl ?_
  refine g_callS X8 B [.int c0] [] at_106 109 rfl rfl (hw _ (List.mem_of_getElem? (i := 291) rfl)) (hw _ (List.mem_of_getElem? (i := 292) rfl)) (hw _ (List.mem_of_getElem? (i := 2) rfl)) (hw _ (List.mem_of_getElem? (i := 293) rfl)) (by decide) (lenOf pd_59 rfl) (rm_hi l Z ag hw c0 h8 n0) e8 rfl 0 (Nat.le_of_eq rfl) (by decide) (by decide) (by decide) (by decide) (fun v31 T31 h31 L31 X31 e31 q31 => ?_)
  obtain ⟨rfl, N31, rfl⟩ := q31
  show Go p e below _ (T31.setTop (mkF m 109 #[.val (.int u0), .val (.int p1), .val (.int p2), .val (.int p3), .val (.int p4), .val (.int (2 : Int32)), .val (.int c0), .val (.int c1), .val (.int c2), .val (.ref str), .unset, .unset, .unset, .unset, .unset, .unset, .unset, .unset, .unset] [.int (if own_hs c0 then 1 else 0)]))
  refine g_if_eq X31 B at_109 124 112 rfl (by decide) rfl (fun c32 => ?_) (fun c32 => ?_)
  · skip
    refine g_iconst X31 B (2) at_124 125 rfl rfl ?_
    refine g_istore X31 B #[.val (.int u0), .val (.int p1), .val (.int p2), .val (.int p3), .val (.int p4), .val (.int (2 : Int32)), .val (.int c0), .val (.int c1), .val (.int c2), .val (.ref str), .val (.int (2 : Int32)), .unset, .unset, .unset, .unset, .unset, .unset, .unset, .unset] at_125 127 rfl rfl ?_
    refine g_goto X31 B at_127 225 rfl (by decide) ?_
    have hps : own_ps [c0, c1] (2 - 1) = 0 := by rw [own_psn2, if_neg (fun z => own_if0 c32 z.1)]
    exact jn _ _ (2 : Int32) (by rw [hps]; decide) (X31.more (show _ ≤ 10 by decide) (show _ ≤ 100 by decide)) e31 (((Fr.snoc X7 (Fr.snoc X6 ((((Fr.nil n0).app N1).app N2).app N3) g_ar) g_ar).app N8).app N31)
  · skip
    refine g_iload X31 B at_112 114 rfl rfl ?_
    refine g_callS X31 B [.int c1] [] at_114 117 rfl rfl (hw _ (List.mem_of_getElem? (i := 295) rfl)) (hw _ (List.mem_of_getElem? (i := 296) rfl)) (hw _ (List.mem_of_getElem? (i := 2) rfl)) (hw _ (List.mem_of_getElem? (i := 297) rfl)) (by decide) (lenOf pd_60 rfl) (rm_lo l Z ag hw c1 h8 n0) e31 rfl 0 (Nat.le_of_eq rfl) (by decide) (by decide) (by decide) (by decide) (fun v33 T33 h33 L33 X33 e33 q33 => ?_)
    obtain ⟨rfl, N33, rfl⟩ := q33
    show Go p e below _ (T33.setTop (mkF m 117 #[.val (.int u0), .val (.int p1), .val (.int p2), .val (.int p3), .val (.int p4), .val (.int (2 : Int32)), .val (.int c0), .val (.int c1), .val (.int c2), .val (.ref str), .unset, .unset, .unset, .unset, .unset, .unset, .unset, .unset, .unset] [.int (if own_ls c1 then 1 else 0)]))
    refine g_if_eq X33 B at_117 124 120 rfl (by decide) rfl (fun c34 => ?_) (fun c34 => ?_)
    · skip
      refine g_iconst X33 B (2) at_124 125 rfl rfl ?_
      refine g_istore X33 B #[.val (.int u0), .val (.int p1), .val (.int p2), .val (.int p3), .val (.int p4), .val (.int (2 : Int32)), .val (.int c0), .val (.int c1), .val (.int c2), .val (.ref str), .val (.int (2 : Int32)), .unset, .unset, .unset, .unset, .unset, .unset, .unset, .unset] at_125 127 rfl rfl ?_
      refine g_goto X33 B at_127 225 rfl (by decide) ?_
      have hps : own_ps [c0, c1] (2 - 1) = 0 := by rw [own_psn2, if_neg (fun z => own_if0 c34 z.2)]
      exact jn _ _ (2 : Int32) (by rw [hps]; decide) (X33.more (show _ ≤ 10 by decide) (show _ ≤ 100 by decide)) e33 ((((Fr.snoc X7 (Fr.snoc X6 ((((Fr.nil n0).app N1).app N2).app N3) g_ar) g_ar).app N8).app N31).app N33)
    · skip
      refine g_iconst X33 B (1) at_120 121 rfl rfl ?_
      refine g_goto X33 B at_121 125 rfl (by decide) ?_
      refine g_istore X33 B #[.val (.int u0), .val (.int p1), .val (.int p2), .val (.int p3), .val (.int p4), .val (.int (2 : Int32)), .val (.int c0), .val (.int c1), .val (.int c2), .val (.ref str), .val (.int (1 : Int32)), .unset, .unset, .unset, .unset, .unset, .unset, .unset, .unset] at_125 127 rfl rfl ?_
      refine g_goto X33 B at_127 225 rfl (by decide) ?_
      have hps : own_ps [c0, c1] (2 - 1) = 1 := by rw [own_psn2, if_pos ⟨own_if1 c32, own_if1 c34⟩]
      exact jn _ _ (1 : Int32) (by rw [hps]; decide) (X33.more (show _ ≤ 10 by decide) (show _ ≤ 100 by decide)) e33 ((((Fr.snoc X7 (Fr.snoc X6 ((((Fr.nil n0).app N1).app N2).app N3) g_ar) g_ar).app N8).app N31).app N33)
--LEAF
set_option maxRecDepth 65536 in
set_option maxHeartbeats 40000000 in
theorem rm0_3 (l : Launch) (Z : State) (ag : Array Value) (hw : ∀ d ∈ tables_1, d.before ag Z = true) (u0 p1 p2 p3 p4 cx : Int32) (g : Value) (d1 d2 : Addr) (h0 : Heap) (n0 : Nat) (Z0 : n0 ≤ h0.size) (SC : Sta Z h0 "java/lang/String" "COMPACT_STRINGS" "Z" (.int cx)) (hcx : ¬ cx = 0) (SA : Sta Z h0 "java/lang/StringUTF16" "$assertionsDisabled" "Z" (.int 1)) (SH : Sta Z h0 "java/lang/StringUTF16" "HI_BYTE_SHIFT" "I" (.int 0)) (SLo : Sta Z h0 "java/lang/StringUTF16" "LO_BYTE_SHIFT" "I" (.int 8)) (SF : Sta Z h0 "jdk/internal/util/Preconditions" "SIOOBE_FORMATTER" "Ljava/util/function/BiFunction;" g) (hg : g.isRef = true) (SD1 : Sta Z h0 "java/lang/Integer" "DigitOnes" "[B" (.ref d1)) (SD2 : Sta Z h0 "java/lang/Integer" "DigitTens" "[B" (.ref d2)) (AD1 : Av Z h0 d1 .byte own_ones) (AD2 : Av Z h0 d2 .byte own_tens) (kk4 : (p4 &&& (3 : Int32)) = 3) (OZ : ∀ (b : Addr) (cl : Cell), Z.heap[b]? = some cl → h0[b]? = some cl) (hH7 : Jvm.Lit.constHeld Z "com/example/tillbeat/tillbeat/model/TextRule" 7) (hH22 : Jvm.Lit.constHeld Z "com/example/tillbeat/tillbeat/model/TextRule" 22) (hH35 : Jvm.Lit.constHeld Z "com/example/tillbeat/tillbeat/model/TextRule" 35) (hH44 : Jvm.Lit.constHeld Z "com/example/tillbeat/tillbeat/model/TextRule" 44) (hH7s : Jvm.Lit.constHeld Z "java/lang/String" 7) (hcw : Jvm.Lit.compactW.before ag Z = true) :
    CtrW l Z x code maxLocals ret room_1 #[.int u0, .int p1, .int p2, .int p3, .int p4] h0 [] (fun v h vm L => v = some (.int 1) ∧ Fr n0 L) := by
  refine CtrW.of pn_0 ?_
  intro p e s m below meth c T0 X0 B e0 hs0 hS I
  refine Go.cast (f' := mkF m 0 #[.val (.int u0), .val (.int p1), .val (.int p2), .val (.int p3), .val (.int p4), .unset, .unset, .unset, .unset, .unset, .unset, .unset, .unset, .unset, .unset, .unset, .unset, .unset, .unset] []) (by first | (simp [entryFrame, mkF, argsToLocals, Value.category, maxLocals]; done) | rfl) ?_

  refine g_iload X0 B at_0 2 rfl rfl ?_
  refine g_iconst X0 B (3) at_2 3 rfl rfl ?_
  refine g_iand X0 B at_3 4 rfl ?_
  rw [kk4]
  show Go p e below _ (T0.setTop (mkF m 4 #[.val (.int u0), .val (.int p1), .val (.int p2), .val (.int p3), .val (.int p4), .unset, .unset, .unset, .unset, .unset, .unset, .unset, .unset, .unset, .unset, .unset, .unset, .unset, .unset] [.int (3 : Int32)]))
  refine g_istore X0 B #[.val (.int u0), .val (.int p1), .val (.int p2), .val (.int p3), .val (.int p4), .val (.int (3 : Int32)), .unset, .unset, .unset, .unset, .unset, .unset, .unset, .unset, .unset, .unset, .unset, .unset, .unset] at_4 6 rfl rfl ?_
  refine g_iloadN X0 B at_6 7 rfl rfl ?_
  refine g_callS X0 B [.int p1] [] at_7 10 rfl rfl (hw _ (List.mem_of_getElem? (i := 0) rfl)) (hw _ (List.mem_of_getElem? (i := 1) rfl)) (hw _ (List.mem_of_getElem? (i := 2) rfl)) (hw _ (List.mem_of_getElem? (i := 3) rfl)) (by decide) (lenOf pd_1 rfl) (rm_mk l Z ag hw p1 h0 n0) e0 rfl 0 (Nat.le_of_eq rfl) (by decide) (by decide) (by decide) (by decide) (fun v1 T1 h1 L1 X1 e1 q1 => ?_)
  obtain ⟨c0, rfl, hx0, N1, rfl⟩ := q1
  show Go p e below _ (T1.setTop (mkF m 10 #[.val (.int u0), .val (.int p1), .val (.int p2), .val (.int p3), .val (.int p4), .val (.int (3 : Int32)), .unset, .unset, .unset, .unset, .unset, .unset, .unset, .unset, .unset, .unset, .unset, .unset, .unset] [.int c0]))
  refine g_istore X1 B #[.val (.int u0), .val (.int p1), .val (.int p2), .val (.int p3), .val (.int p4), .val (.int (3 : Int32)), .val (.int c0), .unset, .unset, .unset, .unset, .unset, .unset, .unset, .unset, .unset, .unset, .unset, .unset] at_10 12 rfl rfl ?_
  refine g_iloadN X1 B at_12 13 rfl rfl ?_
  refine g_callS X1 B [.int p2] [] at_13 16 rfl rfl (hw _ (List.mem_of_getElem? (i := 0) rfl)) (hw _ (List.mem_of_getElem? (i := 1) rfl)) (hw _ (List.mem_of_getElem? (i := 2) rfl)) (hw _ (List.mem_of_getElem? (i := 3) rfl)) (by decide) (lenOf pd_1 rfl) (rm_mk l Z ag hw p2 h0 n0) e1 rfl 0 (Nat.le_of_eq rfl) (by decide) (by decide) (by decide) (by decide) (fun v2 T2 h2 L2 X2 e2 q2 => ?_)
  obtain ⟨c1, rfl, hx1, N2, rfl⟩ := q2
  show Go p e below _ (T2.setTop (mkF m 16 #[.val (.int u0), .val (.int p1), .val (.int p2), .val (.int p3), .val (.int p4), .val (.int (3 : Int32)), .val (.int c0), .unset, .unset, .unset, .unset, .unset, .unset, .unset, .unset, .unset, .unset, .unset, .unset] [.int c1]))
  refine g_istore X2 B #[.val (.int u0), .val (.int p1), .val (.int p2), .val (.int p3), .val (.int p4), .val (.int (3 : Int32)), .val (.int c0), .val (.int c1), .unset, .unset, .unset, .unset, .unset, .unset, .unset, .unset, .unset, .unset, .unset] at_16 18 rfl rfl ?_
  refine g_iloadN X2 B at_18 19 rfl rfl ?_
  refine g_callS X2 B [.int p3] [] at_19 22 rfl rfl (hw _ (List.mem_of_getElem? (i := 0) rfl)) (hw _ (List.mem_of_getElem? (i := 1) rfl)) (hw _ (List.mem_of_getElem? (i := 2) rfl)) (hw _ (List.mem_of_getElem? (i := 3) rfl)) (by decide) (lenOf pd_1 rfl) (rm_mk l Z ag hw p3 h0 n0) e2 rfl 0 (Nat.le_of_eq rfl) (by decide) (by decide) (by decide) (by decide) (fun v3 T3 h3 L3 X3 e3 q3 => ?_)
  obtain ⟨c2, rfl, hx2, N3, rfl⟩ := q3
  show Go p e below _ (T3.setTop (mkF m 22 #[.val (.int u0), .val (.int p1), .val (.int p2), .val (.int p3), .val (.int p4), .val (.int (3 : Int32)), .val (.int c0), .val (.int c1), .unset, .unset, .unset, .unset, .unset, .unset, .unset, .unset, .unset, .unset, .unset] [.int c2]))
  refine g_istore X3 B #[.val (.int u0), .val (.int p1), .val (.int p2), .val (.int p3), .val (.int p4), .val (.int (3 : Int32)), .val (.int c0), .val (.int c1), .val (.int c2), .unset, .unset, .unset, .unset, .unset, .unset, .unset, .unset, .unset, .unset] at_22 24 rfl rfl ?_
  refine g_iload X3 B at_24 26 rfl rfl ?_
  refine g_if_ne X3 B at_26 47 29 rfl (by decide) rfl (fun _ => ?_) (fun z => own_abs' (by decide) z)
  refine g_iload X3 B at_47 49 rfl rfl ?_
  refine g_iconst X3 B (1) at_49 50 rfl rfl ?_
  refine g_icmp_ne X3 B at_50 76 53 rfl (by decide) rfl (fun _ => ?_) (fun z => own_abs' (by decide) z)
  refine g_iload X3 B at_76 78 rfl rfl ?_
  refine g_iconst X3 B (2) at_78 79 rfl rfl ?_
  refine g_icmp_ne X3 B at_79 130 82 rfl (by decide) rfl (fun _ => ?_) (fun z => own_abs' (by decide) z)
  refine g_new X3 B at_130 133 rfl (hw _ (List.mem_of_getElem? (i := 5) rfl)) (hw _ (List.mem_of_getElem? (i := 6) rfl)) (hw _ (List.mem_of_getElem? (i := 7) rfl)) e3 (by decide) (by decide) (fun T4 h4 str X4 e4 ea4 E4 A4 D4 => ?_)
  have g_str : n0 ≤ str := ea4 ▸ Z0
  have gg_str : h0.size ≤ str := ea4 ▸ (Keep.refl h0 []).1
  have t1 : d1 ≠ str := ea4 ▸ Nat.ne_of_lt (AD1.lt)
  have t2 : d2 ≠ str := ea4 ▸ Nat.ne_of_lt (AD2.lt)
  have D4_0 : Fld Z h4 str "java/lang/String" "value" "[B" (.null) := D4 (Or.inr (hw _ (List.mem_of_getElem? (i := 21) rfl))) (ty := (.array .byte)) (by decide)
  have D4_1 : Fld Z h4 str "java/lang/String" "coder" "B" (.int 0) := D4 (Or.inr (hw _ (List.mem_of_getElem? (i := 22) rfl))) (ty := .byte) (by decide)
  refine g_dup X4 B at_133 134 rfl rfl ?_
  refine g_iconst X4 B (3) at_134 135 rfl rfl ?_
  refine g_newP X4 B [(.int 0 : Value), .int 0, .int 0] at_135 137 rfl (hw _ (List.mem_of_getElem? (i := 8) rfl)) e4 (by decide) rfl (by decide) (by decide) (by decide) (fun T5 h5 ar X5 e5 ea5 E5 A5 => ?_)
  have t3 := (Nat.le_trans Z0 E4.1)
  have t4 := (Keep.ext (Keep.refl h0 []) E4)
  have t5 := (Av.ext AD1 E4)
  have t6 := (Av.ext AD2 E4)
  have g_ar : n0 ≤ ar := ea5 ▸ t3
  have gg_ar : h0.size ≤ ar := ea5 ▸ t4.1
  have t7 : d1 ≠ ar := ea5 ▸ Nat.ne_of_lt (t5.lt)
  have t8 : d2 ≠ ar := ea5 ▸ Nat.ne_of_lt (t6.lt)
  have t9 : str ≠ ar := ea5 ▸ Nat.ne_of_lt (A4.lt)
  refine g_dup X5 B at_137 138 rfl rfl ?_
  refine g_iconst X5 B (0) at_138 139 rfl rfl ?_
  refine g_iload X5 B at_139 141 rfl rfl ?_
  refine g_castore X5 B 0 at_141 142 rfl e5 A5 (by decide) (by decide) (by simp) (fun T6 h6 X6 e6 W6 A6 => ?_)
  rw [own_nc hx0] at A6 W6
  replace A6 : Av Z h6 ar .char [(.int c0 : Value), .int 0, .int 0] := A6
  refine g_dup X6 B at_142 143 rfl rfl ?_
  refine g_iconst X6 B (1) at_143 144 rfl rfl ?_
  refine g_iload X6 B at_144 146 rfl rfl ?_
  refine g_castore X6 B 1 at_146 147 rfl e6 A6 (by decide) (by decide) (by simp) (fun T7 h7 X7 e7 W7 A7 => ?_)
  rw [own_nc hx1] at A7 W7
  replace A7 : Av Z h7 ar .char [(.int c0 : Value), .int c1, .int 0] := A7
  refine g_dup X7 B at_147 148 rfl rfl ?_
  refine g_iconst X7 B (2) at_148 149 rfl rfl ?_
  refine g_iload X7 B at_149 151 rfl rfl ?_
  refine g_castore X7 B 2 at_151 152 rfl e7 A7 (by decide) (by decide) (by simp) (fun T8 h8 X8 e8 W8 A8 => ?_)
  rw [own_nc hx2] at A8 W8
  replace A8 : Av Z h8 ar .char [(.int c0 : Value), .int c1, .int c2] := A8
  have t10 := (Exa.wr W8 (Exa.wr W7 (Exa.wr W6 (Exa.ext E5 A4))))
  have t11 := (Fld.other W8 (Fld.other W7 (Fld.other W6 (Fld.ext E5 D4_0) (Or.inl t9)) (Or.inl t9)) (Or.inl t9))
  have t12 := (Fld.other W8 (Fld.other W7 (Fld.other W6 (Fld.ext E5 D4_1) (Or.inl t9)) (Or.inl t9)) (Or.inl t9))
  have t13 := (Nat.le_trans (Nat.le_trans (Nat.le_trans (Nat.le_trans t3 E5.1) (Nat.le_of_eq W6.size.symm)) (Nat.le_of_eq W7.size.symm)) (Nat.le_of_eq W8.size.symm))
  have t14 := (Sta.wr W8 (Sta.wr W7 (Sta.wr W6 (Sta.ext E5 (Sta.ext E4 SA)))))
  have t15 := (Sta.wr W8 (Sta.wr W7 (Sta.wr W6 (Sta.ext E5 (Sta.ext E4 SH)))))
  have t16 := (Sta.wr W8 (Sta.wr W7 (Sta.wr W6 (Sta.ext E5 (Sta.ext E4 SLo)))))
  have t17 := (Sta.wr W8 (Sta.wr W7 (Sta.wr W6 (Sta.ext E5 (Sta.ext E4 SC)))))
  refine g_callN X8 B [.ref ar] [.ref str] at_152 155 rfl rfl rfl (hw _ (List.mem_of_getElem? (i := 9) rfl)) (hw _ (List.mem_of_getElem? (i := 10) rfl)) (hw _ (List.mem_of_getElem? (i := 11) rfl)) (hw _ (List.mem_of_getElem? (i := 7) rfl)) (by decide) (lenOf pd_2 rfl) (rS_i1 l Z ag hw str ar [c0, c1, c2] cx h8 n0 t13 (by simp) (by simp) (own_chs3 hx0 hx1 hx2) g_str t10 t11 t12 A8 t14 t15 t16 t17 hcx) e8 rfl 1 (Nat.le_of_eq rfl) (by decide) (by decide) (by decide) (by decide) (fun v9 T9 h9 L9 X9 e9 q9 => ?_)
  obtain ⟨bb, vs, kk, rfl, N9, K9, f1, f2, f3, hSV, f5, f6⟩ := q9
  show Go p e below _ (T9.setTop (mkF m 155 #[.val (.int u0), .val (.int p1), .val (.int p2), .val (.int p3), .val (.int p4), .val (.int (3 : Int32)), .val (.int c0), .val (.int c1), .val (.int c2), .unset, .unset, .unset, .unset, .unset, .unset, .unset, .unset, .unset, .unset] [.ref str]))
  refine g_astore X9 B #[.val (.int u0), .val (.int p1), .val (.int p2), .val (.int p3), .val (.int p4), .val (.int (3 : Int32)), .val (.int c0), .val (.int c1), .val (.int c2), .val (.ref str), .unset, .unset, .unset, .unset, .unset, .unset, .unset, .unset, .unset] at_155 157 rfl rfl rfl ?_
  have jn : ∀ (T : State) (Lo : List Loc) (ct : Int32) (i11 i12 : Int32), ct = (Int32.ofNat (3 - own_ps [c0, c1, c2] (3 - 1))) → Stand p l e room_1 (s.setVm s.vm) m #[.int u0, .int p1, .int p2, .int p3, .int p4] below meth c T Lo 10 100 → T.heap = h9 → Fr n0 Lo → Go p e below (EndsW s (fun v h vm L => v = some (.int 1) ∧ Fr n0 L) room_1.cells room_1.slots) (T.setTop (mkF m 225 #[.val (.int u0), .val (.int p1), .val (.int p2), .val (.int p3), .val (.int p4), .val (.int (3 : Int32)), .val (.int c0), .val (.int c1), .val (.int c2), .val (.ref str), .val (.int ct), .val (.int i11), .val (.int i12), .unset, .unset, .unset, .unset, .unset, .unset] [])) := by
    intro T Lo ct i11 i12 hct X eh N
    subst hct
    refine g_iloadN X B at_225 226 rfl rfl ?_
    have t18 := (Keep.trans (Keep.wr (Keep.wr (Keep.wr (Keep.ext t4 E5) W6 (Or.inr gg_ar)) W7 (Or.inr gg_ar)) W8 (Or.inr gg_ar)) K9 (allS (Or.inr gg_str) all0))
    have t19 := (Nat.le_trans t13 K9.1)
    have t20 := (Av.keep (Av.other (Av.other (Av.other (Av.ext t5 E5) W6 t7) W7 t7) W8 t7) K9 (ninS t1 nin0))
    have t21 := (Av.keep (Av.other (Av.other (Av.other (Av.ext t6 E5) W6 t8) W7 t8) W8 t8) K9 (ninS t2 nin0))
    have t22 := (own_stkw t17 K9 (own_plE t10 own_pl0))
    have t23 := (own_stkw (Sta.wr W8 (Sta.wr W7 (Sta.wr W6 (Sta.ext E5 (Sta.ext E4 SD1))))) K9 (own_plE t10 own_pl0))
    have t24 := (own_stkw (Sta.wr W8 (Sta.wr W7 (Sta.wr W6 (Sta.ext E5 (Sta.ext E4 SD2))))) K9 (own_plE t10 own_pl0))
    refine g_callSW X B hS (Nat.zero_le _) I [.int u0] [] at_226 229 rfl rfl (hw _ (List.mem_of_getElem? (i := 27) rfl)) (hw _ (List.mem_of_getElem? (i := 28) rfl)) (hw _ (List.mem_of_getElem? (i := 29) rfl)) (hw _ (List.mem_of_getElem? (i := 30) rfl)) (by decide) (lenOf pd_5 rfl) (rT_fac l Z ag hw u0 cx d1 d2 _ h9 h9.size (Nat.le_refl _) (Nat.le_refl _) t22 hcx t23 t24 t20 t21 t20.lt t21.lt (fun b cl q => t18.2.1 b cl (OZ b cl q) nin0) hH35 hH44 hcw (by simp)) eh rfl 0 (Nat.le_of_eq rfl) (by decide) (by decide) (by decide) (by decide) (fun v10 T10 h10 L10 X10 B e10 hS q10 => ?_)
    obtain ⟨tr, fo, cK, rq, rb, ws, rfl, M10, K10, tE, tF, tC, hmd, tR, rE, rV, rC, rA, hLr⟩ := q10
    show Go p e below _ (T10.setTop (mkF m 229 #[.val (.int u0), .val (.int p1), .val (.int p2), .val (.int p3), .val (.int p4), .val (.int (3 : Int32)), .val (.int c0), .val (.int c1), .val (.int c2), .val (.ref str), .val (.int (Int32.ofNat (3 - own_ps [c0, c1, c2] (3 - 1)))), .val (.int i11), .val (.int i12), .unset, .unset, .unset, .unset, .unset, .unset] [.ref tr]))
    have N10 := own_Frle M10 t19
    have kk10 : h10.size ≤ h10.size := Nat.le_refl _
    have hM : (own_digs u0.toInt.natAbs).length ≤ 10 := own_digs_le (own_nalt u0)
    have hMp : 0 < (own_digs u0.toInt.natAbs).length := own_digs_pos _
    refine g_astore X10 B #[.val (.int u0), .val (.int p1), .val (.int p2), .val (.int p3), .val (.int p4), .val (.int (3 : Int32)), .val (.int c0), .val (.int c1), .val (.int c2), .val (.ref str), .val (.int (Int32.ofNat (3 - own_ps [c0, c1, c2] (3 - 1)))), .val (.ref tr), .val (.int i12), .unset, .unset, .unset, .unset, .unset, .unset] at_229 231 rfl rfl rfl ?_
    refine g_aload X10 B at_231 233 rfl rfl rfl ?_
    refine g_aload X10 B at_233 235 rfl rfl rfl ?_
    have t25 := (Exa.keep (Exa.keep t10 K9) K10)
    have t26 := (Fld.keep f1 K10 nin0)
    have t27 := (Fld.keep f2 K10 nin0)
    have t28 := (Av.keep f3 K10 nin0)
    have t29 := (own_stk (own_stkw t14 K9 (own_plE t10 own_pl0)) K10)
    have t30 := (own_stk (own_stkw t15 K9 (own_plE t10 own_pl0)) K10)
    have t31 := (own_stk (own_stkw t16 K9 (own_plE t10 own_pl0)) K10)
    have t32 := (own_stk t22 K10)
    refine g_callV X10 B [.ref str] [] at_235 238 rfl rfl (hw _ (List.mem_of_getElem? (i := 201) rfl)) (hw _ (List.mem_of_getElem? (i := 202) rfl)) (hw _ (List.mem_of_getElem? (i := 204) rfl)) (hw _ (List.mem_of_getElem? (i := 203) rfl)) (hw _ (List.mem_of_getElem? (i := 29) rfl)) (hw _ (List.mem_of_getElem? (i := 205) rfl)) (by decide) (lenOf pd_37 rfl) tE (rT_alw l Z ag hw str bb kk cx vs [c0, c1, c2] tr fo cK u0 h10 n0 tF tC hmd t25 t26 t27 t28 (by simp) (own_chs3 hx0 hx1 hx2) hSV t29 t30 t31 t32 hcx) e10 rfl 0 (Nat.le_of_eq rfl) (by decide) (by decide) (by decide) (by decide) (fun v11 T11 h11 L11 X11 e11 q11 => ?_)
    obtain ⟨rfl, N11, rfl⟩ := q11
    show Go p e below _ (T11.setTop (mkF m 238 #[.val (.int u0), .val (.int p1), .val (.int p2), .val (.int p3), .val (.int p4), .val (.int (3 : Int32)), .val (.int c0), .val (.int c1), .val (.int c2), .val (.ref str), .val (.int (Int32.ofNat (3 - own_ps [c0, c1, c2] (3 - 1)))), .val (.ref tr), .val (.int i12), .unset, .unset, .unset, .unset, .unset, .unset] [.int (if ¬ u0 < (Int32.ofNat (3 - own_ps [c0, c1, c2] (3 - 1))) then (1 : Int32) else 0)]))
    have j2 : Go p e below (EndsW s (fun v h vm L => v = some (.int 1) ∧ Fr n0 L) room_1.cells room_1.slots) (T11.setTop (mkF m 257 #[.val (.int u0), .val (.int p1), .val (.int p2), .val (.int p3), .val (.int p4), .val (.int (3 : Int32)), .val (.int c0), .val (.int c1), .val (.int c2), .val (.ref str), .val (.int (Int32.ofNat (3 - own_ps [c0, c1, c2] (3 - 1)))), .val (.ref tr), .val (.int i12), .unset, .unset, .unset, .unset, .unset, .unset] [.int 1])) := by
      refine g_istore X11 B #[.val (.int u0), .val (.int p1), .val (.int p2), .val (.int p3), .val (.int p4), .val (.int (3 : Int32)), .val (.int c0), .val (.int c1), .val (.int c2), .val (.ref str), .val (.int (Int32.ofNat (3 - own_ps [c0, c1, c2] (3 - 1)))), .val (.ref tr), .val (.int (1 : Int32)), .unset, .unset, .unset, .unset, .unset, .unset] at_257 259 rfl rfl ?_
      refine g_aload X11 B at_259 261 rfl rfl rfl ?_
      refine g_callV X11 B [] [] at_261 264 rfl rfl (hw _ (List.mem_of_getElem? (i := 233) rfl)) (hw _ (List.mem_of_getElem? (i := 234) rfl)) (hw _ (List.mem_of_getElem? (i := 236) rfl)) (hw _ (List.mem_of_getElem? (i := 235) rfl)) (hw _ (List.mem_of_getElem? (i := 29) rfl)) (hw _ (List.mem_of_getElem? (i := 237) rfl)) (by decide) (lenOf pd_44 rfl) tE (rm_req l Z ag hw tr rq h10 n0 tR) e11 rfl 0 (Nat.le_of_eq rfl) (by decide) (by decide) (by decide) (by decide) (fun v12 T12 h12 L12 X12 e12 q12 => ?_)
      obtain ⟨rfl, N12, rfl⟩ := q12
      show Go p e below _ (T12.setTop (mkF m 264 #[.val (.int u0), .val (.int p1), .val (.int p2), .val (.int p3), .val (.int p4), .val (.int (3 : Int32)), .val (.int c0), .val (.int c1), .val (.int c2), .val (.ref str), .val (.int (Int32.ofNat (3 - own_ps [c0, c1, c2] (3 - 1)))), .val (.ref tr), .val (.int (1 : Int32)), .unset, .unset, .unset, .unset, .unset, .unset] [.ref rq]))
      refine g_astore X12 B #[.val (.int u0), .val (.int p1), .val (.int p2), .val (.int p3), .val (.int p4), .val (.int (3 : Int32)), .val (.int c0), .val (.int c1), .val (.int c2), .val (.ref str), .val (.int (Int32.ofNat (3 - own_ps [c0, c1, c2] (3 - 1)))), .val (.ref tr), .val (.int (1 : Int32)), .val (.ref rq), .unset, .unset, .unset, .unset, .unset] at_264 266 rfl rfl rfl ?_
      refine g_iloadN X12 B at_266 267 rfl rfl ?_
      refine g_if_ge X12 B at_267 274 270 rfl (by decide) rfl (fun hng => ?_) (fun hng => ?_)
      · skip
        have hF : (((([] : List Int32) ++ ([109, 117, 115, 116, 32, 98, 101, 32, 97, 116, 32, 109, 111, 115, 116, 32] : List Int32)) ++ own_dec u0) ++ ([32, 99, 104, 97, 114, 97, 99, 116, 101, 114, 115] : List Int32)) = ((([109, 117, 115, 116, 32, 98, 101, 32, 97, 116, 32, 109, 111, 115, 116, 32] : List Int32) ++ own_digs u0.toInt.natAbs) ++ ([32, 99, 104, 97, 114, 97, 99, 116, 101, 114, 115] : List Int32)) := by rw [own_dec_n hng]; rfl
        rw [hF] at hLr
        have hFl : ((([109, 117, 115, 116, 32, 98, 101, 32, 97, 116, 32, 109, 111, 115, 116, 32] : List Int32) ++ own_digs u0.toInt.natAbs) ++ ([32, 99, 104, 97, 114, 97, 99, 116, 101, 114, 115] : List Int32)).length = 27 + (own_digs u0.toInt.natAbs).length := by rw [List.length_append, List.length_append]; show 16 + _ + 11 = _; omega
        have hn70 : ((([109, 117, 115, 116, 32, 98, 101, 32, 97, 116, 32, 109, 111, 115, 116, 32] : List Int32) ++ own_digs u0.toInt.natAbs) ++ ([32, 99, 104, 97, 114, 97, 99, 116, 101, 114, 115] : List Int32)).length ≤ 70 := by rw [hFl]; omega
        refine g_iconst X12 B (0) at_274 275 rfl rfl ?_
        refine g_istore X12 B #[.val (.int u0), .val (.int p1), .val (.int p2), .val (.int p3), .val (.int p4), .val (.int (3 : Int32)), .val (.int c0), .val (.int c1), .val (.int c2), .val (.ref str), .val (.int (Int32.ofNat (3 - own_ps [c0, c1, c2] (3 - 1)))), .val (.ref tr), .val (.int (1 : Int32)), .val (.ref rq), .val (.int (0 : Int32)), .unset, .unset, .unset, .unset] at_275 277 rfl rfl ?_
        refine g_iloadN X12 B at_277 278 rfl rfl ?_
        refine g_i2l X12 B at_278 279 rfl ?_
        refine g_callS X12 B [.long (u0.toInt64)] [] at_279 282 rfl rfl (hw _ (List.mem_of_getElem? (i := 238) rfl)) (hw _ (List.mem_of_getElem? (i := 239) rfl)) (hw _ (List.mem_of_getElem? (i := 128) rfl)) (hw _ (List.mem_of_getElem? (i := 240) rfl)) (by decide) (lenOf pd_45 rfl) (rm_abs l Z ag hw u0.toInt64 h10 n0) e12 rfl 0 (Nat.le_of_eq rfl) (by decide) (by decide) (by decide) (by decide) (fun v13 T13 h13 L13 X13 e13 q13 => ?_)
        obtain ⟨rfl, N13, rfl⟩ := q13
        show Go p e below _ (T13.setTop (mkF m 282 #[.val (.int u0), .val (.int p1), .val (.int p2), .val (.int p3), .val (.int p4), .val (.int (3 : Int32)), .val (.int c0), .val (.int c1), .val (.int c2), .val (.ref str), .val (.int (Int32.ofNat (3 - own_ps [c0, c1, c2] (3 - 1)))), .val (.ref tr), .val (.int (1 : Int32)), .val (.ref rq), .val (.int (0 : Int32)), .unset, .unset, .unset, .unset] [.long (own_absv u0)]))
        refine g_lstore X13 B #[.val (.int u0), .val (.int p1), .val (.int p2), .val (.int p3), .val (.int p4), .val (.int (3 : Int32)), .val (.int c0), .val (.int c1), .val (.int c2), .val (.ref str), .val (.int (Int32.ofNat (3 - own_ps [c0, c1, c2] (3 - 1)))), .val (.ref tr), .val (.int (1 : Int32)), .val (.ref rq), .val (.int (0 : Int32)), .val (.long (own_absv u0)), .second, .unset, .unset] at_282 284 rfl rfl ?_
        refine g_bipush X13 B (27) at_284 286 rfl rfl ?_
        refine g_iload X13 B at_286 288 rfl rfl ?_
        refine g_if_eq X13 B at_288 295 291 rfl (by decide) rfl (fun _ => ?_) (fun z => own_abs (by decide) z)
        refine g_iconst X13 B (0) at_295 296 rfl rfl ?_
        refine g_iadd X13 B at_296 297 rfl ?_
        refine g_lload X13 B at_297 299 rfl rfl ?_
        refine g_callS X13 B [.long (own_absv u0)] [.int ((27 : Int32) + (0 : Int32))] at_299 302 rfl rfl (hw _ (List.mem_of_getElem? (i := 241) rfl)) (hw _ (List.mem_of_getElem? (i := 242) rfl)) (hw _ (List.mem_of_getElem? (i := 2) rfl)) (hw _ (List.mem_of_getElem? (i := 243) rfl)) (by decide) (lenOf pd_46 rfl) (rm_digits l Z ag hw (own_absv u0) u0.toInt.natAbs h10 n0 (own_absz u0) (own_nalt u0)) e13 rfl 1 (Nat.le_of_eq rfl) (by decide) (by decide) (by decide) (by decide) (fun v14 T14 h14 L14 X14 e14 q14 => ?_)
        obtain ⟨rfl, N14, rfl⟩ := q14
        show Go p e below _ (T14.setTop (mkF m 302 #[.val (.int u0), .val (.int p1), .val (.int p2), .val (.int p3), .val (.int p4), .val (.int (3 : Int32)), .val (.int c0), .val (.int c1), .val (.int c2), .val (.ref str), .val (.int (Int32.ofNat (3 - own_ps [c0, c1, c2] (3 - 1)))), .val (.ref tr), .val (.int (1 : Int32)), .val (.ref rq), .val (.int (0 : Int32)), .val (.long (own_absv u0)), .second, .unset, .unset] [.int (Int32.ofNat (own_digs u0.toInt.natAbs).length), .int ((27 : Int32) + (0 : Int32))]))
        refine g_iadd X14 B at_302 303 rfl ?_
        rw [show ((27 : Int32) + (0 : Int32)) = Int32.ofNat 27 by decide, own_addN (by omega)]
        refine g_istore X14 B #[.val (.int u0), .val (.int p1), .val (.int p2), .val (.int p3), .val (.int p4), .val (.int (3 : Int32)), .val (.int c0), .val (.int c1), .val (.int c2), .val (.ref str), .val (.int (Int32.ofNat (3 - own_ps [c0, c1, c2] (3 - 1)))), .val (.ref tr), .val (.int (1 : Int32)), .val (.ref rq), .val (.int (0 : Int32)), .val (.long (own_absv u0)), .second, .val (.int (Int32.ofNat (27 + (own_digs u0.toInt.natAbs).length))), .unset] at_303 305 rfl rfl ?_
        refine g_aload X14 B at_305 307 rfl rfl rfl ?_
        refine g_callV X14 B [] [] at_307 310 rfl rfl (hw _ (List.mem_of_getElem? (i := 245) rfl)) (hw _ (List.mem_of_getElem? (i := 67) rfl)) (hw _ (List.mem_of_getElem? (i := 69) rfl)) (hw _ (List.mem_of_getElem? (i := 68) rfl)) (hw _ (List.mem_of_getElem? (i := 7) rfl)) (hw _ (List.mem_of_getElem? (i := 70) rfl)) (by decide) (lenOf pd_10 rfl) rE (rB_len l Z ag hw rq rb cx ws ((([109, 117, 115, 116, 32, 98, 101, 32, 97, 116, 32, 109, 111, 115, 116, 32] : List Int32) ++ own_digs u0.toInt.natAbs) ++ ([32, 99, 104, 97, 114, 97, 99, 116, 101, 114, 115] : List Int32)) h10 n0 rE rV rC rA hn70 hLr t32 hcx) e14 rfl 0 (Nat.le_of_eq rfl) (by decide) (by decide) (by decide) (by decide) (fun v15 T15 h15 L15 X15 e15 q15 => ?_)
        obtain ⟨rfl, N15, rfl⟩ := q15
        show Go p e below _ (T15.setTop (mkF m 310 #[.val (.int u0), .val (.int p1), .val (.int p2), .val (.int p3), .val (.int p4), .val (.int (3 : Int32)), .val (.int c0), .val (.int c1), .val (.int c2), .val (.ref str), .val (.int (Int32.ofNat (3 - own_ps [c0, c1, c2] (3 - 1)))), .val (.ref tr), .val (.int (1 : Int32)), .val (.ref rq), .val (.int (0 : Int32)), .val (.long (own_absv u0)), .second, .val (.int (Int32.ofNat (27 + (own_digs u0.toInt.natAbs).length))), .unset] [.int (Int32.ofNat ((([109, 117, 115, 116, 32, 98, 101, 32, 97, 116, 32, 109, 111, 115, 116, 32] : List Int32) ++ own_digs u0.toInt.natAbs) ++ ([32, 99, 104, 97, 114, 97, 99, 116, 101, 114, 115] : List Int32)).length)]))
        refine g_iload X15 B at_310 312 rfl rfl ?_
        refine g_icmp_ne X15 B at_312 319 315 rfl (by decide) rfl (fun z => own_abs (by rw [hFl]) z) (fun _ => ?_)
        refine g_iconst X15 B (1) at_315 316 rfl rfl ?_
        refine g_goto X15 B at_316 320 rfl (by decide) ?_
        refine g_istore X15 B #[.val (.int u0), .val (.int p1), .val (.int p2), .val (.int p3), .val (.int p4), .val (.int (3 : Int32)), .val (.int c0), .val (.int c1), .val (.int c2), .val (.ref str), .val (.int (Int32.ofNat (3 - own_ps [c0, c1, c2] (3 - 1)))), .val (.ref tr), .val (.int (1 : Int32)), .val (.ref rq), .val (.int (0 : Int32)), .val (.long (own_absv u0)), .second, .val (.int (Int32.ofNat (27 + (own_digs u0.toInt.natAbs).length))), .val (.int (1 : Int32))] at_320 322 rfl rfl ?_
        refine g_iload X15 B at_322 324 rfl rfl ?_
        refine g_if_eq X15 B at_324 432 327 rfl (by decide) rfl (fun z => own_abs' (by decide) z) (fun _ => ?_)
        refine g_aload X15 B at_327 329 rfl rfl rfl ?_
        refine g_iconst X15 B (0) at_329 330 rfl rfl ?_
        have t33 := (own_stk (own_stkw (Sta.wr W8 (Sta.wr W7 (Sta.wr W6 (Sta.ext E5 (Sta.ext E4 SF))))) K9 (own_plE t10 own_pl0)) K10)
        refine g_callV X15 B [.int (0 : Int32)] [] at_330 333 rfl rfl (hw _ (List.mem_of_getElem? (i := 246) rfl)) (hw _ (List.mem_of_getElem? (i := 247) rfl)) (hw _ (List.mem_of_getElem? (i := 249) rfl)) (hw _ (List.mem_of_getElem? (i := 248) rfl)) (hw _ (List.mem_of_getElem? (i := 7) rfl)) (hw _ (List.mem_of_getElem? (i := 250) rfl)) (by decide) (lenOf pd_47 rfl) rE (rL_cat l Z ag hw rq rb cx 0 109 ws ((([109, 117, 115, 116, 32, 98, 101, 32, 97, 116, 32, 109, 111, 115, 116, 32] : List Int32) ++ own_digs u0.toInt.natAbs) ++ ([32, 99, 104, 97, 114, 97, 99, 116, 101, 114, 115] : List Int32)) g h10 n0 rE rV rC rA hn70 hLr t32 hcx (by rw [hFl]; omega) (own_at1 (by decide)) (by unfold own_ch; decide) t33 hg) e15 rfl 0 (Nat.le_of_eq rfl) (by decide) (by decide) (by decide) (by decide) (fun v16 T16 h16 L16 X16 e16 q16 => ?_)
        obtain ⟨rfl, N16, rfl⟩ := q16
        show Go p e below _ (T16.setTop (mkF m 333 #[.val (.int u0), .val (.int p1), .val (.int p2), .val (.int p3), .val (.int p4), .val (.int (3 : Int32)), .val (.int c0), .val (.int c1), .val (.int c2), .val (.ref str), .val (.int (Int32.ofNat (3 - own_ps [c0, c1, c2] (3 - 1)))), .val (.ref tr), .val (.int (1 : Int32)), .val (.ref rq), .val (.int (0 : Int32)), .val (.long (own_absv u0)), .second, .val (.int (Int32.ofNat (27 + (own_digs u0.toInt.natAbs).length))), .val (.int (1 : Int32))] [.int 109]))
        refine g_bipush X16 B (109) at_333 335 rfl rfl ?_
        refine g_icmp_ne X16 B at_335 429 338 rfl (by decide) rfl (fun z => own_abs (rfl) z) (fun _ => ?_)
        refine g_aload X16 B at_338 340 rfl rfl rfl ?_
        refine g_bipush X16 B (15) at_340 342 rfl rfl ?_
        refine g_callV X16 B [.int (15 : Int32)] [] at_342 345 rfl rfl (hw _ (List.mem_of_getElem? (i := 246) rfl)) (hw _ (List.mem_of_getElem? (i := 247) rfl)) (hw _ (List.mem_of_getElem? (i := 249) rfl)) (hw _ (List.mem_of_getElem? (i := 248) rfl)) (hw _ (List.mem_of_getElem? (i := 7) rfl)) (hw _ (List.mem_of_getElem? (i := 250) rfl)) (by decide) (lenOf pd_47 rfl) rE (rL_cat l Z ag hw rq rb cx 15 32 ws ((([109, 117, 115, 116, 32, 98, 101, 32, 97, 116, 32, 109, 111, 115, 116, 32] : List Int32) ++ own_digs u0.toInt.natAbs) ++ ([32, 99, 104, 97, 114, 97, 99, 116, 101, 114, 115] : List Int32)) g h10 n0 rE rV rC rA hn70 hLr t32 hcx (by rw [hFl]; omega) (own_at1 (by decide)) (by unfold own_ch; decide) t33 hg) e16 rfl 0 (Nat.le_of_eq rfl) (by decide) (by decide) (by decide) (by decide) (fun v17 T17 h17 L17 X17 e17 q17 => ?_)
        obtain ⟨rfl, N17, rfl⟩ := q17
        show Go p e below _ (T17.setTop (mkF m 345 #[.val (.int u0), .val (.int p1), .val (.int p2), .val (.int p3), .val (.int p4), .val (.int (3 : Int32)), .val (.int c0), .val (.int c1), .val (.int c2), .val (.ref str), .val (.int (Int32.ofNat (3 - own_ps [c0, c1, c2] (3 - 1)))), .val (.ref tr), .val (.int (1 : Int32)), .val (.ref rq), .val (.int (0 : Int32)), .val (.long (own_absv u0)), .second, .val (.int (Int32.ofNat (27 + (own_digs u0.toInt.natAbs).length))), .val (.int (1 : Int32))] [.int 32]))
        refine g_bipush X17 B (32) at_345 347 rfl rfl ?_
        refine g_icmp_ne X17 B at_347 429 350 rfl (by decide) rfl (fun z => own_abs (rfl) z) (fun _ => ?_)
        refine g_aload X17 B at_350 352 rfl rfl rfl ?_
        refine g_iload X17 B at_352 354 rfl rfl ?_
        refine g_iconst X17 B (1) at_354 355 rfl rfl ?_
        refine g_isub X17 B at_355 356 rfl ?_
        rw [show (1 : Int32) = Int32.ofNat 1 from rfl, own_subN (by omega) (by omega)]
        refine g_callV X17 B [.int (Int32.ofNat (27 + (own_digs u0.toInt.natAbs).length - 1))] [] at_356 359 rfl rfl (hw _ (List.mem_of_getElem? (i := 246) rfl)) (hw _ (List.mem_of_getElem? (i := 247) rfl)) (hw _ (List.mem_of_getElem? (i := 249) rfl)) (hw _ (List.mem_of_getElem? (i := 248) rfl)) (hw _ (List.mem_of_getElem? (i := 7) rfl)) (hw _ (List.mem_of_getElem? (i := 250) rfl)) (by decide) (lenOf pd_47 rfl) rE (rL_cat l Z ag hw rq rb cx (27 + (own_digs u0.toInt.natAbs).length - 1) 115 ws ((([109, 117, 115, 116, 32, 98, 101, 32, 97, 116, 32, 109, 111, 115, 116, 32] : List Int32) ++ own_digs u0.toInt.natAbs) ++ ([32, 99, 104, 97, 114, 97, 99, 116, 101, 114, 115] : List Int32)) g h10 n0 rE rV rC rA hn70 hLr t32 hcx (by rw [hFl]; omega) (own_at3 (j := 10) (show 27 + (own_digs u0.toInt.natAbs).length - 1 = 16 + (own_digs u0.toInt.natAbs).length + 10 by omega)) (by unfold own_ch; decide) t33 hg) e17 rfl 0 (Nat.le_of_eq rfl) (by decide) (by decide) (by decide) (by decide) (fun v18 T18 h18 L18 X18 e18 q18 => ?_)
        obtain ⟨rfl, N18, rfl⟩ := q18
        show Go p e below _ (T18.setTop (mkF m 359 #[.val (.int u0), .val (.int p1), .val (.int p2), .val (.int p3), .val (.int p4), .val (.int (3 : Int32)), .val (.int c0), .val (.int c1), .val (.int c2), .val (.ref str), .val (.int (Int32.ofNat (3 - own_ps [c0, c1, c2] (3 - 1)))), .val (.ref tr), .val (.int (1 : Int32)), .val (.ref rq), .val (.int (0 : Int32)), .val (.long (own_absv u0)), .second, .val (.int (Int32.ofNat (27 + (own_digs u0.toInt.natAbs).length))), .val (.int (1 : Int32))] [.int 115]))
        refine g_bipush X18 B (115) at_359 361 rfl rfl ?_
        refine g_icmp_ne X18 B at_361 429 364 rfl (by decide) rfl (fun z => own_abs (rfl) z) (fun _ => ?_)
        refine g_aload X18 B at_364 366 rfl rfl rfl ?_
        refine g_iload X18 B at_366 368 rfl rfl ?_
        refine g_bipush X18 B (11) at_368 370 rfl rfl ?_
        refine g_isub X18 B at_370 371 rfl ?_
        rw [show (11 : Int32) = Int32.ofNat 11 from rfl, own_subN (by omega) (by omega)]
        refine g_callV X18 B [.int (Int32.ofNat (27 + (own_digs u0.toInt.natAbs).length - 11))] [] at_371 374 rfl rfl (hw _ (List.mem_of_getElem? (i := 246) rfl)) (hw _ (List.mem_of_getElem? (i := 247) rfl)) (hw _ (List.mem_of_getElem? (i := 249) rfl)) (hw _ (List.mem_of_getElem? (i := 248) rfl)) (hw _ (List.mem_of_getElem? (i := 7) rfl)) (hw _ (List.mem_of_getElem? (i := 250) rfl)) (by decide) (lenOf pd_47 rfl) rE (rL_cat l Z ag hw rq rb cx (27 + (own_digs u0.toInt.natAbs).length - 11) 32 ws ((([109, 117, 115, 116, 32, 98, 101, 32, 97, 116, 32, 109, 111, 115, 116, 32] : List Int32) ++ own_digs u0.toInt.natAbs) ++ ([32, 99, 104, 97, 114, 97, 99, 116, 101, 114, 115] : List Int32)) g h10 n0 rE rV rC rA hn70 hLr t32 hcx (by rw [hFl]; omega) (own_at3 (j := 0) (show 27 + (own_digs u0.toInt.natAbs).length - 11 = 16 + (own_digs u0.toInt.natAbs).length + 0 by omega)) (by unfold own_ch; decide) t33 hg) e18 rfl 0 (Nat.le_of_eq rfl) (by decide) (by decide) (by decide) (by decide) (fun v19 T19 h19 L19 X19 e19 q19 => ?_)
        obtain ⟨rfl, N19, rfl⟩ := q19
        show Go p e below _ (T19.setTop (mkF m 374 #[.val (.int u0), .val (.int p1), .val (.int p2), .val (.int p3), .val (.int p4), .val (.int (3 : Int32)), .val (.int c0), .val (.int c1), .val (.int c2), .val (.ref str), .val (.int (Int32.ofNat (3 - own_ps [c0, c1, c2] (3 - 1)))), .val (.ref tr), .val (.int (1 : Int32)), .val (.ref rq), .val (.int (0 : Int32)), .val (.long (own_absv u0)), .second, .val (.int (Int32.ofNat (27 + (own_digs u0.toInt.natAbs).length))), .val (.int (1 : Int32))] [.int 32]))
        refine g_bipush X19 B (32) at_374 376 rfl rfl ?_
        refine g_icmp_ne X19 B at_376 429 379 rfl (by decide) rfl (fun z => own_abs (rfl) z) (fun _ => ?_)
        refine g_aload X19 B at_379 381 rfl rfl rfl ?_
        refine g_bipush X19 B (16) at_381 383 rfl rfl ?_
        obtain ⟨cf, hcf, hcfc, hcfn⟩ := own_firstd u0.toInt.natAbs
        refine g_callV X19 B [.int (16 : Int32)] [] at_383 386 rfl rfl (hw _ (List.mem_of_getElem? (i := 246) rfl)) (hw _ (List.mem_of_getElem? (i := 247) rfl)) (hw _ (List.mem_of_getElem? (i := 249) rfl)) (hw _ (List.mem_of_getElem? (i := 248) rfl)) (hw _ (List.mem_of_getElem? (i := 7) rfl)) (hw _ (List.mem_of_getElem? (i := 250) rfl)) (by decide) (lenOf pd_47 rfl) rE (rL_cat l Z ag hw rq rb cx 16 cf ws ((([109, 117, 115, 116, 32, 98, 101, 32, 97, 116, 32, 109, 111, 115, 116, 32] : List Int32) ++ own_digs u0.toInt.natAbs) ++ ([32, 99, 104, 97, 114, 97, 99, 116, 101, 114, 115] : List Int32)) g h10 n0 rE rV rC rA hn70 hLr t32 hcx (by rw [hFl]; omega) ((own_at2 (j := 0) (show 16 = 16 + 0 by decide) hMp).trans hcf) hcfc t33 hg) e19 rfl 0 (Nat.le_of_eq rfl) (by decide) (by decide) (by decide) (by decide) (fun v20 T20 h20 L20 X20 e20 q20 => ?_)
        obtain ⟨rfl, N20, rfl⟩ := q20
        show Go p e below _ (T20.setTop (mkF m 386 #[.val (.int u0), .val (.int p1), .val (.int p2), .val (.int p3), .val (.int p4), .val (.int (3 : Int32)), .val (.int c0), .val (.int c1), .val (.int c2), .val (.ref str), .val (.int (Int32.ofNat (3 - own_ps [c0, c1, c2] (3 - 1)))), .val (.ref tr), .val (.int (1 : Int32)), .val (.ref rq), .val (.int (0 : Int32)), .val (.long (own_absv u0)), .second, .val (.int (Int32.ofNat (27 + (own_digs u0.toInt.natAbs).length))), .val (.int (1 : Int32))] [.int cf]))
        refine g_bipush X20 B (45) at_386 388 rfl rfl ?_
        refine g_icmp_ne X20 B at_388 395 391 rfl (by decide) rfl (fun _ => ?_) (fun z => own_abs' (hcfn) z)
        refine g_iconst X20 B (0) at_395 396 rfl rfl ?_
        refine g_iload X20 B at_396 398 rfl rfl ?_
        refine g_icmp_ne X20 B at_398 429 401 rfl (by decide) rfl (fun z => own_abs (by decide) z) (fun _ => ?_)
        refine g_aload X20 B at_401 403 rfl rfl rfl ?_
        refine g_iload X20 B at_403 405 rfl rfl ?_
        refine g_bipush X20 B (12) at_405 407 rfl rfl ?_
        refine g_isub X20 B at_407 408 rfl ?_
        rw [show (12 : Int32) = Int32.ofNat 12 from rfl, own_subN (by omega) (by omega)]
        refine g_callV X20 B [.int (Int32.ofNat (27 + (own_digs u0.toInt.natAbs).length - 12))] [] at_408 411 rfl rfl (hw _ (List.mem_of_getElem? (i := 246) rfl)) (hw _ (List.mem_of_getElem? (i := 247) rfl)) (hw _ (List.mem_of_getElem? (i := 249) rfl)) (hw _ (List.mem_of_getElem? (i := 248) rfl)) (hw _ (List.mem_of_getElem? (i := 7) rfl)) (hw _ (List.mem_of_getElem? (i := 250) rfl)) (by decide) (lenOf pd_47 rfl) rE (rL_cat l Z ag hw rq rb cx (27 + (own_digs u0.toInt.natAbs).length - 12) (Int32.ofNat (48 + u0.toInt.natAbs % 10)) ws ((([109, 117, 115, 116, 32, 98, 101, 32, 97, 116, 32, 109, 111, 115, 116, 32] : List Int32) ++ own_digs u0.toInt.natAbs) ++ ([32, 99, 104, 97, 114, 97, 99, 116, 101, 114, 115] : List Int32)) g h10 n0 rE rV rC rA hn70 hLr t32 hcx (by rw [hFl]; omega) ((own_at2 (j := (own_digs u0.toInt.natAbs).length - 1) (show 27 + (own_digs u0.toInt.natAbs).length - 12 = 16 + ((own_digs u0.toInt.natAbs).length - 1) by omega) (by omega)).trans (own_lastd u0.toInt.natAbs)) (own_chd u0.toInt.natAbs) t33 hg) e20 rfl 0 (Nat.le_of_eq rfl) (by decide) (by decide) (by decide) (by decide) (fun v21 T21 h21 L21 X21 e21 q21 => ?_)
        obtain ⟨rfl, N21, rfl⟩ := q21
        show Go p e below _ (T21.setTop (mkF m 411 #[.val (.int u0), .val (.int p1), .val (.int p2), .val (.int p3), .val (.int p4), .val (.int (3 : Int32)), .val (.int c0), .val (.int c1), .val (.int c2), .val (.ref str), .val (.int (Int32.ofNat (3 - own_ps [c0, c1, c2] (3 - 1)))), .val (.ref tr), .val (.int (1 : Int32)), .val (.ref rq), .val (.int (0 : Int32)), .val (.long (own_absv u0)), .second, .val (.int (Int32.ofNat (27 + (own_digs u0.toInt.natAbs).length))), .val (.int (1 : Int32))] [.int (Int32.ofNat (48 + u0.toInt.natAbs % 10))]))
        refine g_bipush X21 B (48) at_411 413 rfl rfl ?_
        refine g_lload X21 B at_413 415 rfl rfl ?_
        refine g_ldc2J X21 B at_415 418 rfl (hw _ (List.mem_of_getElem? (i := 244) rfl)) ?_
        refine g_lrem X21 B at_418 419 rfl (by decide) ?_
        refine g_l2i X21 B at_419 420 rfl ?_
        refine g_iadd X21 B at_420 421 rfl ?_
        refine g_i2c X21 B at_421 422 rfl ?_
        refine g_icmp_ne X21 B at_422 429 425 rfl (by decide) rfl (fun z => own_abs ((own_digch1 (own_absz u0)).symm) z) (fun _ => ?_)
        refine g_iconst X21 B (1) at_425 426 rfl rfl ?_
        refine g_goto X21 B at_426 430 rfl (by decide) ?_
        refine g_istore X21 B #[.val (.int u0), .val (.int p1), .val (.int p2), .val (.int p3), .val (.int p4), .val (.int (3 : Int32)), .val (.int c0), .val (.int c1), .val (.int c2), .val (.ref str), .val (.int (Int32.ofNat (3 - own_ps [c0, c1, c2] (3 - 1)))), .val (.ref tr), .val (.int (1 : Int32)), .val (.ref rq), .val (.int (0 : Int32)), .val (.long (own_absv u0)), .second, .val (.int (Int32.ofNat (27 + (own_digs u0.toInt.natAbs).length))), .val (.int (1 : Int32))] at_430 432 rfl rfl ?_
        refine g_iload X21 B at_432 434 rfl rfl ?_
        refine g_if_eq X21 B at_434 446 437 rfl (by decide) rfl (fun z => own_abs' (by decide) z) (fun _ => ?_)
        refine g_iload X21 B at_437 439 rfl rfl ?_
        refine g_if_eq X21 B at_439 446 442 rfl (by decide) rfl (fun z => own_abs' (by decide) z) (fun _ => ?_)
        refine g_iconst X21 B (1) at_442 443 rfl rfl ?_
        refine g_goto X21 B at_443 447 rfl (by decide) ?_
        exact g_retNW X21 B at_447 rfl rfl (by decide) (by decide) (by decide) e21 hS kk10 (fun vm hvm => ⟨rfl, ((((((((((((N.app N10).app N11).app N12).app N13).app N14).app N15).app N16).app N17).app N18).app N19).app N20).app N21)⟩)
      · skip
        have hF : (((([] : List Int32) ++ ([109, 117, 115, 116, 32, 98, 101, 32, 97, 116, 32, 109, 111, 115, 116, 32] : List Int32)) ++ own_dec u0) ++ ([32, 99, 104, 97, 114, 97, 99, 116, 101, 114, 115] : List Int32)) = ((([109, 117, 115, 116, 32, 98, 101, 32, 97, 116, 32, 109, 111, 115, 116, 32, 45] : List Int32) ++ own_digs u0.toInt.natAbs) ++ ([32, 99, 104, 97, 114, 97, 99, 116, 101, 114, 115] : List Int32)) := by rw [own_dec_s hng]; rfl
        rw [hF] at hLr
        have hFl : ((([109, 117, 115, 116, 32, 98, 101, 32, 97, 116, 32, 109, 111, 115, 116, 32, 45] : List Int32) ++ own_digs u0.toInt.natAbs) ++ ([32, 99, 104, 97, 114, 97, 99, 116, 101, 114, 115] : List Int32)).length = 28 + (own_digs u0.toInt.natAbs).length := by rw [List.length_append, List.length_append]; show 17 + _ + 11 = _; omega
        have hn70 : ((([109, 117, 115, 116, 32, 98, 101, 32, 97, 116, 32, 109, 111, 115, 116, 32, 45] : List Int32) ++ own_digs u0.toInt.natAbs) ++ ([32, 99, 104, 97, 114, 97, 99, 116, 101, 114, 115] : List Int32)).length ≤ 70 := by rw [hFl]; omega
        refine g_iconst X12 B (1) at_270 271 rfl rfl ?_
        refine g_goto X12 B at_271 275 rfl (by decide) ?_
        refine g_istore X12 B #[.val (.int u0), .val (.int p1), .val (.int p2), .val (.int p3), .val (.int p4), .val (.int (3 : Int32)), .val (.int c0), .val (.int c1), .val (.int c2), .val (.ref str), .val (.int (Int32.ofNat (3 - own_ps [c0, c1, c2] (3 - 1)))), .val (.ref tr), .val (.int (1 : Int32)), .val (.ref rq), .val (.int (1 : Int32)), .unset, .unset, .unset, .unset] at_275 277 rfl rfl ?_
        refine g_iloadN X12 B at_277 278 rfl rfl ?_
        refine g_i2l X12 B at_278 279 rfl ?_
        refine g_callS X12 B [.long (u0.toInt64)] [] at_279 282 rfl rfl (hw _ (List.mem_of_getElem? (i := 238) rfl)) (hw _ (List.mem_of_getElem? (i := 239) rfl)) (hw _ (List.mem_of_getElem? (i := 128) rfl)) (hw _ (List.mem_of_getElem? (i := 240) rfl)) (by decide) (lenOf pd_45 rfl) (rm_abs l Z ag hw u0.toInt64 h10 n0) e12 rfl 0 (Nat.le_of_eq rfl) (by decide) (by decide) (by decide) (by decide) (fun v22 T22 h22 L22 X22 e22 q22 => ?_)
        obtain ⟨rfl, N22, rfl⟩ := q22
        show Go p e below _ (T22.setTop (mkF m 282 #[.val (.int u0), .val (.int p1), .val (.int p2), .val (.int p3), .val (.int p4), .val (.int (3 : Int32)), .val (.int c0), .val (.int c1), .val (.int c2), .val (.ref str), .val (.int (Int32.ofNat (3 - own_ps [c0, c1, c2] (3 - 1)))), .val (.ref tr), .val (.int (1 : Int32)), .val (.ref rq), .val (.int (1 : Int32)), .unset, .unset, .unset, .unset] [.long (own_absv u0)]))
        refine g_lstore X22 B #[.val (.int u0), .val (.int p1), .val (.int p2), .val (.int p3), .val (.int p4), .val (.int (3 : Int32)), .val (.int c0), .val (.int c1), .val (.int c2), .val (.ref str), .val (.int (Int32.ofNat (3 - own_ps [c0, c1, c2] (3 - 1)))), .val (.ref tr), .val (.int (1 : Int32)), .val (.ref rq), .val (.int (1 : Int32)), .val (.long (own_absv u0)), .second, .unset, .unset] at_282 284 rfl rfl ?_
        refine g_bipush X22 B (27) at_284 286 rfl rfl ?_
        refine g_iload X22 B at_286 288 rfl rfl ?_
        refine g_if_eq X22 B at_288 295 291 rfl (by decide) rfl (fun z => own_abs' (by decide) z) (fun _ => ?_)
        refine g_iconst X22 B (1) at_291 292 rfl rfl ?_
        refine g_goto X22 B at_292 296 rfl (by decide) ?_
        refine g_iadd X22 B at_296 297 rfl ?_
        refine g_lload X22 B at_297 299 rfl rfl ?_
        refine g_callS X22 B [.long (own_absv u0)] [.int ((27 : Int32) + (1 : Int32))] at_299 302 rfl rfl (hw _ (List.mem_of_getElem? (i := 241) rfl)) (hw _ (List.mem_of_getElem? (i := 242) rfl)) (hw _ (List.mem_of_getElem? (i := 2) rfl)) (hw _ (List.mem_of_getElem? (i := 243) rfl)) (by decide) (lenOf pd_46 rfl) (rm_digits l Z ag hw (own_absv u0) u0.toInt.natAbs h10 n0 (own_absz u0) (own_nalt u0)) e22 rfl 1 (Nat.le_of_eq rfl) (by decide) (by decide) (by decide) (by decide) (fun v23 T23 h23 L23 X23 e23 q23 => ?_)
        obtain ⟨rfl, N23, rfl⟩ := q23
        show Go p e below _ (T23.setTop (mkF m 302 #[.val (.int u0), .val (.int p1), .val (.int p2), .val (.int p3), .val (.int p4), .val (.int (3 : Int32)), .val (.int c0), .val (.int c1), .val (.int c2), .val (.ref str), .val (.int (Int32.ofNat (3 - own_ps [c0, c1, c2] (3 - 1)))), .val (.ref tr), .val (.int (1 : Int32)), .val (.ref rq), .val (.int (1 : Int32)), .val (.long (own_absv u0)), .second, .unset, .unset] [.int (Int32.ofNat (own_digs u0.toInt.natAbs).length), .int ((27 : Int32) + (1 : Int32))]))
        refine g_iadd X23 B at_302 303 rfl ?_
        rw [show ((27 : Int32) + (1 : Int32)) = Int32.ofNat 28 by decide, own_addN (by omega)]
        refine g_istore X23 B #[.val (.int u0), .val (.int p1), .val (.int p2), .val (.int p3), .val (.int p4), .val (.int (3 : Int32)), .val (.int c0), .val (.int c1), .val (.int c2), .val (.ref str), .val (.int (Int32.ofNat (3 - own_ps [c0, c1, c2] (3 - 1)))), .val (.ref tr), .val (.int (1 : Int32)), .val (.ref rq), .val (.int (1 : Int32)), .val (.long (own_absv u0)), .second, .val (.int (Int32.ofNat (28 + (own_digs u0.toInt.natAbs).length))), .unset] at_303 305 rfl rfl ?_
        refine g_aload X23 B at_305 307 rfl rfl rfl ?_
        refine g_callV X23 B [] [] at_307 310 rfl rfl (hw _ (List.mem_of_getElem? (i := 245) rfl)) (hw _ (List.mem_of_getElem? (i := 67) rfl)) (hw _ (List.mem_of_getElem? (i := 69) rfl)) (hw _ (List.mem_of_getElem? (i := 68) rfl)) (hw _ (List.mem_of_getElem? (i := 7) rfl)) (hw _ (List.mem_of_getElem? (i := 70) rfl)) (by decide) (lenOf pd_10 rfl) rE (rB_len l Z ag hw rq rb cx ws ((([109, 117, 115, 116, 32, 98, 101, 32, 97, 116, 32, 109, 111, 115, 116, 32, 45] : List Int32) ++ own_digs u0.toInt.natAbs) ++ ([32, 99, 104, 97, 114, 97, 99, 116, 101, 114, 115] : List Int32)) h10 n0 rE rV rC rA hn70 hLr t32 hcx) e23 rfl 0 (Nat.le_of_eq rfl) (by decide) (by decide) (by decide) (by decide) (fun v24 T24 h24 L24 X24 e24 q24 => ?_)
        obtain ⟨rfl, N24, rfl⟩ := q24
        show Go p e below _ (T24.setTop (mkF m 310 #[.val (.int u0), .val (.int p1), .val (.int p2), .val (.int p3), .val (.int p4), .val (.int (3 : Int32)), .val (.int c0), .val (.int c1), .val (.int c2), .val (.ref str), .val (.int (Int32.ofNat (3 - own_ps [c0, c1, c2] (3 - 1)))), .val (.ref tr), .val (.int (1 : Int32)), .val (.ref rq), .val (.int (1 : Int32)), .val (.long (own_absv u0)), .second, .val (.int (Int32.ofNat (28 + (own_digs u0.toInt.natAbs).length))), .unset] [.int (Int32.ofNat ((([109, 117, 115, 116, 32, 98, 101, 32, 97, 116, 32, 109, 111, 115, 116, 32, 45] : List Int32) ++ own_digs u0.toInt.natAbs) ++ ([32, 99, 104, 97, 114, 97, 99, 116, 101, 114, 115] : List Int32)).length)]))
        refine g_iload X24 B at_310 312 rfl rfl ?_
        refine g_icmp_ne X24 B at_312 319 315 rfl (by decide) rfl (fun z => own_abs (by rw [hFl]) z) (fun _ => ?_)
        refine g_iconst X24 B (1) at_315 316 rfl rfl ?_
        refine g_goto X24 B at_316 320 rfl (by decide) ?_
        refine g_istore X24 B #[.val (.int u0), .val (.int p1), .val (.int p2), .val (.int p3), .val (.int p4), .val (.int (3 : Int32)), .val (.int c0), .val (.int c1), .val (.int c2), .val (.ref str), .val (.int (Int32.ofNat (3 - own_ps [c0, c1, c2] (3 - 1)))), .val (.ref tr), .val (.int (1 : Int32)), .val (.ref rq), .val (.int (1 : Int32)), .val (.long (own_absv u0)), .second, .val (.int (Int32.ofNat (28 + (own_digs u0.toInt.natAbs).length))), .val (.int (1 : Int32))] at_320 322 rfl rfl ?_
        refine g_iload X24 B at_322 324 rfl rfl ?_
        refine g_if_eq X24 B at_324 432 327 rfl (by decide) rfl (fun z => own_abs' (by decide) z) (fun _ => ?_)
        refine g_aload X24 B at_327 329 rfl rfl rfl ?_
        refine g_iconst X24 B (0) at_329 330 rfl rfl ?_
        have t34 := (own_stk (own_stkw (Sta.wr W8 (Sta.wr W7 (Sta.wr W6 (Sta.ext E5 (Sta.ext E4 SF))))) K9 (own_plE t10 own_pl0)) K10)
        refine g_callV X24 B [.int (0 : Int32)] [] at_330 333 rfl rfl (hw _ (List.mem_of_getElem? (i := 246) rfl)) (hw _ (List.mem_of_getElem? (i := 247) rfl)) (hw _ (List.mem_of_getElem? (i := 249) rfl)) (hw _ (List.mem_of_getElem? (i := 248) rfl)) (hw _ (List.mem_of_getElem? (i := 7) rfl)) (hw _ (List.mem_of_getElem? (i := 250) rfl)) (by decide) (lenOf pd_47 rfl) rE (rL_cat l Z ag hw rq rb cx 0 109 ws ((([109, 117, 115, 116, 32, 98, 101, 32, 97, 116, 32, 109, 111, 115, 116, 32, 45] : List Int32) ++ own_digs u0.toInt.natAbs) ++ ([32, 99, 104, 97, 114, 97, 99, 116, 101, 114, 115] : List Int32)) g h10 n0 rE rV rC rA hn70 hLr t32 hcx (by rw [hFl]; omega) (own_at1 (by decide)) (by unfold own_ch; decide) t34 hg) e24 rfl 0 (Nat.le_of_eq rfl) (by decide) (by decide) (by decide) (by decide) (fun v25 T25 h25 L25 X25 e25 q25 => ?_)
        obtain ⟨rfl, N25, rfl⟩ := q25
        show Go p e below _ (T25.setTop (mkF m 333 #[.val (.int u0), .val (.int p1), .val (.int p2), .val (.int p3), .val (.int p4), .val (.int (3 : Int32)), .val (.int c0), .val (.int c1), .val (.int c2), .val (.ref str), .val (.int (Int32.ofNat (3 - own_ps [c0, c1, c2] (3 - 1)))), .val (.ref tr), .val (.int (1 : Int32)), .val (.ref rq), .val (.int (1 : Int32)), .val (.long (own_absv u0)), .second, .val (.int (Int32.ofNat (28 + (own_digs u0.toInt.natAbs).length))), .val (.int (1 : Int32))] [.int 109]))
        refine g_bipush X25 B (109) at_333 335 rfl rfl ?_
        refine g_icmp_ne X25 B at_335 429 338 rfl (by decide) rfl (fun z => own_abs (rfl) z) (fun _ => ?_)
        refine g_aload X25 B at_338 340 rfl rfl rfl ?_
        refine g_bipush X25 B (15) at_340 342 rfl rfl ?_
        refine g_callV X25 B [.int (15 : Int32)] [] at_342 345 rfl rfl (hw _ (List.mem_of_getElem? (i := 246) rfl)) (hw _ (List.mem_of_getElem? (i := 247) rfl)) (hw _ (List.mem_of_getElem? (i := 249) rfl)) (hw _ (List.mem_of_getElem? (i := 248) rfl)) (hw _ (List.mem_of_getElem? (i := 7) rfl)) (hw _ (List.mem_of_getElem? (i := 250) rfl)) (by decide) (lenOf pd_47 rfl) rE (rL_cat l Z ag hw rq rb cx 15 32 ws ((([109, 117, 115, 116, 32, 98, 101, 32, 97, 116, 32, 109, 111, 115, 116, 32, 45] : List Int32) ++ own_digs u0.toInt.natAbs) ++ ([32, 99, 104, 97, 114, 97, 99, 116, 101, 114, 115] : List Int32)) g h10 n0 rE rV rC rA hn70 hLr t32 hcx (by rw [hFl]; omega) (own_at1 (by decide)) (by unfold own_ch; decide) t34 hg) e25 rfl 0 (Nat.le_of_eq rfl) (by decide) (by decide) (by decide) (by decide) (fun v26 T26 h26 L26 X26 e26 q26 => ?_)
        obtain ⟨rfl, N26, rfl⟩ := q26
        show Go p e below _ (T26.setTop (mkF m 345 #[.val (.int u0), .val (.int p1), .val (.int p2), .val (.int p3), .val (.int p4), .val (.int (3 : Int32)), .val (.int c0), .val (.int c1), .val (.int c2), .val (.ref str), .val (.int (Int32.ofNat (3 - own_ps [c0, c1, c2] (3 - 1)))), .val (.ref tr), .val (.int (1 : Int32)), .val (.ref rq), .val (.int (1 : Int32)), .val (.long (own_absv u0)), .second, .val (.int (Int32.ofNat (28 + (own_digs u0.toInt.natAbs).length))), .val (.int (1 : Int32))] [.int 32]))
        refine g_bipush X26 B (32) at_345 347 rfl rfl ?_
        refine g_icmp_ne X26 B at_347 429 350 rfl (by decide) rfl (fun z => own_abs (rfl) z) (fun _ => ?_)
        refine g_aload X26 B at_350 352 rfl rfl rfl ?_
        refine g_iload X26 B at_352 354 rfl rfl ?_
        refine g_iconst X26 B (1) at_354 355 rfl rfl ?_
        refine g_isub X26 B at_355 356 rfl ?_
        rw [show (1 : Int32) = Int32.ofNat 1 from rfl, own_subN (by omega) (by omega)]
        refine g_callV X26 B [.int (Int32.ofNat (28 + (own_digs u0.toInt.natAbs).length - 1))] [] at_356 359 rfl rfl (hw _ (List.mem_of_getElem? (i := 246) rfl)) (hw _ (List.mem_of_getElem? (i := 247) rfl)) (hw _ (List.mem_of_getElem? (i := 249) rfl)) (hw _ (List.mem_of_getElem? (i := 248) rfl)) (hw _ (List.mem_of_getElem? (i := 7) rfl)) (hw _ (List.mem_of_getElem? (i := 250) rfl)) (by decide) (lenOf pd_47 rfl) rE (rL_cat l Z ag hw rq rb cx (28 + (own_digs u0.toInt.natAbs).length - 1) 115 ws ((([109, 117, 115, 116, 32, 98, 101, 32, 97, 116, 32, 109, 111, 115, 116, 32, 45] : List Int32) ++ own_digs u0.toInt.natAbs) ++ ([32, 99, 104, 97, 114, 97, 99, 116, 101, 114, 115] : List Int32)) g h10 n0 rE rV rC rA hn70 hLr t32 hcx (by rw [hFl]; omega) (own_at3 (j := 10) (show 28 + (own_digs u0.toInt.natAbs).length - 1 = 17 + (own_digs u0.toInt.natAbs).length + 10 by omega)) (by unfold own_ch; decide) t34 hg) e26 rfl 0 (Nat.le_of_eq rfl) (by decide) (by decide) (by decide) (by decide) (fun v27 T27 h27 L27 X27 e27 q27 => ?_)
        obtain ⟨rfl, N27, rfl⟩ := q27
        show Go p e below _ (T27.setTop (mkF m 359 #[.val (.int u0), .val (.int p1), .val (.int p2), .val (.int p3), .val (.int p4), .val (.int (3 : Int32)), .val (.int c0), .val (.int c1), .val (.int c2), .val (.ref str), .val (.int (Int32.ofNat (3 - own_ps [c0, c1, c2] (3 - 1)))), .val (.ref tr), .val (.int (1 : Int32)), .val (.ref rq), .val (.int (1 : Int32)), .val (.long (own_absv u0)), .second, .val (.int (Int32.ofNat (28 + (own_digs u0.toInt.natAbs).length))), .val (.int (1 : Int32))] [.int 115]))
        refine g_bipush X27 B (115) at_359 361 rfl rfl ?_
        refine g_icmp_ne X27 B at_361 429 364 rfl (by decide) rfl (fun z => own_abs (rfl) z) (fun _ => ?_)
        refine g_aload X27 B at_364 366 rfl rfl rfl ?_
        refine g_iload X27 B at_366 368 rfl rfl ?_
        refine g_bipush X27 B (11) at_368 370 rfl rfl ?_
        refine g_isub X27 B at_370 371 rfl ?_
        rw [show (11 : Int32) = Int32.ofNat 11 from rfl, own_subN (by omega) (by omega)]
        refine g_callV X27 B [.int (Int32.ofNat (28 + (own_digs u0.toInt.natAbs).length - 11))] [] at_371 374 rfl rfl (hw _ (List.mem_of_getElem? (i := 246) rfl)) (hw _ (List.mem_of_getElem? (i := 247) rfl)) (hw _ (List.mem_of_getElem? (i := 249) rfl)) (hw _ (List.mem_of_getElem? (i := 248) rfl)) (hw _ (List.mem_of_getElem? (i := 7) rfl)) (hw _ (List.mem_of_getElem? (i := 250) rfl)) (by decide) (lenOf pd_47 rfl) rE (rL_cat l Z ag hw rq rb cx (28 + (own_digs u0.toInt.natAbs).length - 11) 32 ws ((([109, 117, 115, 116, 32, 98, 101, 32, 97, 116, 32, 109, 111, 115, 116, 32, 45] : List Int32) ++ own_digs u0.toInt.natAbs) ++ ([32, 99, 104, 97, 114, 97, 99, 116, 101, 114, 115] : List Int32)) g h10 n0 rE rV rC rA hn70 hLr t32 hcx (by rw [hFl]; omega) (own_at3 (j := 0) (show 28 + (own_digs u0.toInt.natAbs).length - 11 = 17 + (own_digs u0.toInt.natAbs).length + 0 by omega)) (by unfold own_ch; decide) t34 hg) e27 rfl 0 (Nat.le_of_eq rfl) (by decide) (by decide) (by decide) (by decide) (fun v28 T28 h28 L28 X28 e28 q28 => ?_)
        obtain ⟨rfl, N28, rfl⟩ := q28
        show Go p e below _ (T28.setTop (mkF m 374 #[.val (.int u0), .val (.int p1), .val (.int p2), .val (.int p3), .val (.int p4), .val (.int (3 : Int32)), .val (.int c0), .val (.int c1), .val (.int c2), .val (.ref str), .val (.int (Int32.ofNat (3 - own_ps [c0, c1, c2] (3 - 1)))), .val (.ref tr), .val (.int (1 : Int32)), .val (.ref rq), .val (.int (1 : Int32)), .val (.long (own_absv u0)), .second, .val (.int (Int32.ofNat (28 + (own_digs u0.toInt.natAbs).length))), .val (.int (1 : Int32))] [.int 32]))
        refine g_bipush X28 B (32) at_374 376 rfl rfl ?_
        refine g_icmp_ne X28 B at_376 429 379 rfl (by decide) rfl (fun z => own_abs (rfl) z) (fun _ => ?_)
        refine g_aload X28 B at_379 381 rfl rfl rfl ?_
        refine g_bipush X28 B (16) at_381 383 rfl rfl ?_
        refine g_callV X28 B [.int (16 : Int32)] [] at_383 386 rfl rfl (hw _ (List.mem_of_getElem? (i := 246) rfl)) (hw _ (List.mem_of_getElem? (i := 247) rfl)) (hw _ (List.mem_of_getElem? (i := 249) rfl)) (hw _ (List.mem_of_getElem? (i := 248) rfl)) (hw _ (List.mem_of_getElem? (i := 7) rfl)) (hw _ (List.mem_of_getElem? (i := 250) rfl)) (by decide) (lenOf pd_47 rfl) rE (rL_cat l Z ag hw rq rb cx 16 45 ws ((([109, 117, 115, 116, 32, 98, 101, 32, 97, 116, 32, 109, 111, 115, 116, 32, 45] : List Int32) ++ own_digs u0.toInt.natAbs) ++ ([32, 99, 104, 97, 114, 97, 99, 116, 101, 114, 115] : List Int32)) g h10 n0 rE rV rC rA hn70 hLr t32 hcx (by rw [hFl]; omega) (own_at1 (by decide)) (by unfold own_ch; decide) t34 hg) e28 rfl 0 (Nat.le_of_eq rfl) (by decide) (by decide) (by decide) (by decide) (fun v29 T29 h29 L29 X29 e29 q29 => ?_)
        obtain ⟨rfl, N29, rfl⟩ := q29
        show Go p e below _ (T29.setTop (mkF m 386 #[.val (.int u0), .val (.int p1), .val (.int p2), .val (.int p3), .val (.int p4), .val (.int (3 : Int32)), .val (.int c0), .val (.int c1), .val (.int c2), .val (.ref str), .val (.int (Int32.ofNat (3 - own_ps [c0, c1, c2] (3 - 1)))), .val (.ref tr), .val (.int (1 : Int32)), .val (.ref rq), .val (.int (1 : Int32)), .val (.long (own_absv u0)), .second, .val (.int (Int32.ofNat (28 + (own_digs u0.toInt.natAbs).length))), .val (.int (1 : Int32))] [.int 45]))
        refine g_bipush X29 B (45) at_386 388 rfl rfl ?_
        refine g_icmp_ne X29 B at_388 395 391 rfl (by decide) rfl (fun z => own_abs (rfl) z) (fun _ => ?_)
        refine g_iconst X29 B (1) at_391 392 rfl rfl ?_
        refine g_goto X29 B at_392 396 rfl (by decide) ?_
        refine g_iload X29 B at_396 398 rfl rfl ?_
        refine g_icmp_ne X29 B at_398 429 401 rfl (by decide) rfl (fun z => own_abs (by decide) z) (fun _ => ?_)
        refine g_aload X29 B at_401 403 rfl rfl rfl ?_
        refine g_iload X29 B at_403 405 rfl rfl ?_
        refine g_bipush X29 B (12) at_405 407 rfl rfl ?_
        refine g_isub X29 B at_407 408 rfl ?_
        rw [show (12 : Int32) = Int32.ofNat 12 from rfl, own_subN (by omega) (by omega)]
        refine g_callV X29 B [.int (Int32.ofNat (28 + (own_digs u0.toInt.natAbs).length - 12))] [] at_408 411 rfl rfl (hw _ (List.mem_of_getElem? (i := 246) rfl)) (hw _ (List.mem_of_getElem? (i := 247) rfl)) (hw _ (List.mem_of_getElem? (i := 249) rfl)) (hw _ (List.mem_of_getElem? (i := 248) rfl)) (hw _ (List.mem_of_getElem? (i := 7) rfl)) (hw _ (List.mem_of_getElem? (i := 250) rfl)) (by decide) (lenOf pd_47 rfl) rE (rL_cat l Z ag hw rq rb cx (28 + (own_digs u0.toInt.natAbs).length - 12) (Int32.ofNat (48 + u0.toInt.natAbs % 10)) ws ((([109, 117, 115, 116, 32, 98, 101, 32, 97, 116, 32, 109, 111, 115, 116, 32, 45] : List Int32) ++ own_digs u0.toInt.natAbs) ++ ([32, 99, 104, 97, 114, 97, 99, 116, 101, 114, 115] : List Int32)) g h10 n0 rE rV rC rA hn70 hLr t32 hcx (by rw [hFl]; omega) ((own_at2 (j := (own_digs u0.toInt.natAbs).length - 1) (show 28 + (own_digs u0.toInt.natAbs).length - 12 = 17 + ((own_digs u0.toInt.natAbs).length - 1) by omega) (by omega)).trans (own_lastd u0.toInt.natAbs)) (own_chd u0.toInt.natAbs) t34 hg) e29 rfl 0 (Nat.le_of_eq rfl) (by decide) (by decide) (by decide) (by decide) (fun v30 T30 h30 L30 X30 e30 q30 => ?_)
        obtain ⟨rfl, N30, rfl⟩ := q30
        show Go p e below _ (T30.setTop (mkF m 411 #[.val (.int u0), .val (.int p1), .val (.int p2), .val (.int p3), .val (.int p4), .val (.int (3 : Int32)), .val (.int c0), .val (.int c1), .val (.int c2), .val (.ref str), .val (.int (Int32.ofNat (3 - own_ps [c0, c1, c2] (3 - 1)))), .val (.ref tr), .val (.int (1 : Int32)), .val (.ref rq), .val (.int (1 : Int32)), .val (.long (own_absv u0)), .second, .val (.int (Int32.ofNat (28 + (own_digs u0.toInt.natAbs).length))), .val (.int (1 : Int32))] [.int (Int32.ofNat (48 + u0.toInt.natAbs % 10))]))
        refine g_bipush X30 B (48) at_411 413 rfl rfl ?_
        refine g_lload X30 B at_413 415 rfl rfl ?_
        refine g_ldc2J X30 B at_415 418 rfl (hw _ (List.mem_of_getElem? (i := 244) rfl)) ?_
        refine g_lrem X30 B at_418 419 rfl (by decide) ?_
        refine g_l2i X30 B at_419 420 rfl ?_
        refine g_iadd X30 B at_420 421 rfl ?_
        refine g_i2c X30 B at_421 422 rfl ?_
        refine g_icmp_ne X30 B at_422 429 425 rfl (by decide) rfl (fun z => own_abs ((own_digch1 (own_absz u0)).symm) z) (fun _ => ?_)
        refine g_iconst X30 B (1) at_425 426 rfl rfl ?_
        refine g_goto X30 B at_426 430 rfl (by decide) ?_
        refine g_istore X30 B #[.val (.int u0), .val (.int p1), .val (.int p2), .val (.int p3), .val (.int p4), .val (.int (3 : Int32)), .val (.int c0), .val (.int c1), .val (.int c2), .val (.ref str), .val (.int (Int32.ofNat (3 - own_ps [c0, c1, c2] (3 - 1)))), .val (.ref tr), .val (.int (1 : Int32)), .val (.ref rq), .val (.int (1 : Int32)), .val (.long (own_absv u0)), .second, .val (.int (Int32.ofNat (28 + (own_digs u0.toInt.natAbs).length))), .val (.int (1 : Int32))] at_430 432 rfl rfl ?_
        refine g_iload X30 B at_432 434 rfl rfl ?_
        refine g_if_eq X30 B at_434 446 437 rfl (by decide) rfl (fun z => own_abs' (by decide) z) (fun _ => ?_)
        refine g_iload X30 B at_437 439 rfl rfl ?_
        refine g_if_eq X30 B at_439 446 442 rfl (by decide) rfl (fun z => own_abs' (by decide) z) (fun _ => ?_)
        refine g_iconst X30 B (1) at_442 443 rfl rfl ?_
        refine g_goto X30 B at_443 447 rfl (by decide) ?_
        exact g_retNW X30 B at_447 rfl rfl (by decide) (by decide) (by decide) e30 hS kk10 (fun vm hvm => ⟨rfl, ((((((((((((N.app N10).app N11).app N12).app N22).app N23).app N24).app N25).app N26).app N27).app N28).app N29).app N30)⟩)
    refine g_iload X11 B at_238 240 rfl rfl ?_
    refine g_iloadN X11 B at_240 241 rfl rfl ?_
    refine g_icmp_gt X11 B at_241 248 244 rfl (by decide) rfl (fun c31 => ?_) (fun c31 => ?_)
    · skip
      refine g_iconst X11 B (0) at_248 249 rfl rfl ?_
      refine g_icmp_ne X11 B at_249 256 252 rfl (by decide) rfl (fun z => own_abs (if_neg (fun z => z c31)) z) (fun _ => ?_)
      refine g_iconst X11 B (1) at_252 253 rfl rfl ?_
      refine g_goto X11 B at_253 257 rfl (by decide) ?_
      exact j2
    · skip
      refine g_iconst X11 B (1) at_244 245 rfl rfl ?_
      refine g_goto X11 B at_245 249 rfl (by decide) ?_
      refine g_icmp_ne X11 B at_249 256 252 rfl (by decide) rfl (fun z => own_abs (if_pos c31) z) (fun _ => ?_)
      refine g_iconst X11 B (1) at_252 253 rfl rfl ?_
      refine g_goto X11 B at_253 257 rfl (by decide) ?_
      exact j2
  refine g_iload X9 B at_157 159 rfl rfl ?_
  refine g_callS X9 B [.int c0] [] at_159 162 rfl rfl (hw _ (List.mem_of_getElem? (i := 291) rfl)) (hw _ (List.mem_of_getElem? (i := 292) rfl)) (hw _ (List.mem_of_getElem? (i := 2) rfl)) (hw _ (List.mem_of_getElem? (i := 293) rfl)) (by decide) (lenOf pd_59 rfl) (rm_hi l Z ag hw c0 h9 n0) e9 rfl 0 (Nat.le_of_eq rfl) (by decide) (by decide) (by decide) (by decide) (fun v32 T32 h32 L32 X32 e32 q32 => ?_)
  obtain ⟨rfl, N32, rfl⟩ := q32
  show Go p e below _ (T32.setTop (mkF m 162 #[.val (.int u0), .val (.int p1), .val (.int p2), .val (.int p3), .val (.int p4), .val (.int (3 : Int32)), .val (.int c0), .val (.int c1), .val (.int c2), .val (.ref str), .unset, .unset, .unset, .unset, .unset, .unset, .unset, .unset, .unset] [.int (if own_hs c0 then 1 else 0)]))
  refine g_if_eq X32 B at_162 177 165 rfl (by decide) rfl (fun c33 => ?_) (fun c33 => ?_)
  · skip
    refine g_iconst X32 B (0) at_177 178 rfl rfl ?_
    refine g_istore X32 B #[.val (.int u0), .val (.int p1), .val (.int p2), .val (.int p3), .val (.int p4), .val (.int (3 : Int32)), .val (.int c0), .val (.int c1), .val (.int c2), .val (.ref str), .unset, .val (.int (0 : Int32)), .unset, .unset, .unset, .unset, .unset, .unset, .unset] at_178 180 rfl rfl ?_
    refine g_iload X32 B at_180 182 rfl rfl ?_
    refine g_if_ne X32 B at_182 205 185 rfl (by decide) rfl (fun z => own_abs (by decide) z) (fun _ => ?_)
    refine g_iload X32 B at_185 187 rfl rfl ?_
    refine g_callS X32 B [.int c1] [] at_187 190 rfl rfl (hw _ (List.mem_of_getElem? (i := 291) rfl)) (hw _ (List.mem_of_getElem? (i := 292) rfl)) (hw _ (List.mem_of_getElem? (i := 2) rfl)) (hw _ (List.mem_of_getElem? (i := 293) rfl)) (by decide) (lenOf pd_59 rfl) (rm_hi l Z ag hw c1 h9 n0) e32 rfl 0 (Nat.le_of_eq rfl) (by decide) (by decide) (by decide) (by decide) (fun v34 T34 h34 L34 X34 e34 q34 => ?_)
    obtain ⟨rfl, N34, rfl⟩ := q34
    show Go p e below _ (T34.setTop (mkF m 190 #[.val (.int u0), .val (.int p1), .val (.int p2), .val (.int p3), .val (.int p4), .val (.int (3 : Int32)), .val (.int c0), .val (.int c1), .val (.int c2), .val (.ref str), .unset, .val (.int (0 : Int32)), .unset, .unset, .unset, .unset, .unset, .unset, .unset] [.int (if own_hs c1 then 1 else 0)]))
    refine g_if_eq X34 B at_190 205 193 rfl (by decide) rfl (fun c35 => ?_) (fun c35 => ?_)
    · skip
      refine g_iconst X34 B (0) at_205 206 rfl rfl ?_
      refine g_istore X34 B #[.val (.int u0), .val (.int p1), .val (.int p2), .val (.int p3), .val (.int p4), .val (.int (3 : Int32)), .val (.int c0), .val (.int c1), .val (.int c2), .val (.ref str), .unset, .val (.int (0 : Int32)), .val (.int (0 : Int32)), .unset, .unset, .unset, .unset, .unset, .unset] at_206 208 rfl rfl ?_
      refine g_iload X34 B at_208 210 rfl rfl ?_
      refine g_if_ne X34 B at_210 218 213 rfl (by decide) rfl (fun z => own_abs (by decide) z) (fun _ => ?_)
      refine g_iload X34 B at_213 215 rfl rfl ?_
      refine g_if_eq X34 B at_215 222 218 rfl (by decide) rfl (fun _ => ?_) (fun z => own_abs (by decide) z)
      refine g_iconst X34 B (3) at_222 223 rfl rfl ?_
      refine g_istore X34 B #[.val (.int u0), .val (.int p1), .val (.int p2), .val (.int p3), .val (.int p4), .val (.int (3 : Int32)), .val (.int c0), .val (.int c1), .val (.int c2), .val (.ref str), .val (.int (3 : Int32)), .val (.int (0 : Int32)), .val (.int (0 : Int32)), .unset, .unset, .unset, .unset, .unset, .unset] at_223 225 rfl rfl ?_
      have hps : own_ps [c0, c1, c2] (3 - 1) = 0 := by rw [own_psn3, if_neg (fun z => own_if0 c33 z.1), if_neg (fun z => own_if0 c35 z.1)]
      exact jn _ _ (3 : Int32) (0 : Int32) (0 : Int32) (by rw [hps]; decide) (X34.more (show _ ≤ 10 by decide) (show _ ≤ 100 by decide)) e34 ((((Fr.snoc X8 (Fr.snoc X7 (Fr.snoc X6 ((((Fr.nil n0).app N1).app N2).app N3) g_ar) g_ar) g_ar).app N9).app N32).app N34)
    · skip
      refine g_iload X34 B at_193 195 rfl rfl ?_
      refine g_callS X34 B [.int c2] [] at_195 198 rfl rfl (hw _ (List.mem_of_getElem? (i := 295) rfl)) (hw _ (List.mem_of_getElem? (i := 296) rfl)) (hw _ (List.mem_of_getElem? (i := 2) rfl)) (hw _ (List.mem_of_getElem? (i := 297) rfl)) (by decide) (lenOf pd_60 rfl) (rm_lo l Z ag hw c2 h9 n0) e34 rfl 0 (Nat.le_of_eq rfl) (by decide) (by decide) (by decide) (by decide) (fun v36 T36 h36 L36 X36 e36 q36 => ?_)
      obtain ⟨rfl, N36, rfl⟩ := q36
      show Go p e below _ (T36.setTop (mkF m 198 #[.val (.int u0), .val (.int p1), .val (.int p2), .val (.int p3), .val (.int p4), .val (.int (3 : Int32)), .val (.int c0), .val (.int c1), .val (.int c2), .val (.ref str), .unset, .val (.int (0 : Int32)), .unset, .unset, .unset, .unset, .unset, .unset, .unset] [.int (if own_ls c2 then 1 else 0)]))
      refine g_if_eq X36 B at_198 205 201 rfl (by decide) rfl (fun c37 => ?_) (fun c37 => ?_)
      · skip
        refine g_iconst X36 B (0) at_205 206 rfl rfl ?_
        refine g_istore X36 B #[.val (.int u0), .val (.int p1), .val (.int p2), .val (.int p3), .val (.int p4), .val (.int (3 : Int32)), .val (.int c0), .val (.int c1), .val (.int c2), .val (.ref str), .unset, .val (.int (0 : Int32)), .val (.int (0 : Int32)), .unset, .unset, .unset, .unset, .unset, .unset] at_206 208 rfl rfl ?_
        refine g_iload X36 B at_208 210 rfl rfl ?_
        refine g_if_ne X36 B at_210 218 213 rfl (by decide) rfl (fun z => own_abs (by decide) z) (fun _ => ?_)
        refine g_iload X36 B at_213 215 rfl rfl ?_
        refine g_if_eq X36 B at_215 222 218 rfl (by decide) rfl (fun _ => ?_) (fun z => own_abs (by decide) z)
        refine g_iconst X36 B (3) at_222 223 rfl rfl ?_
        refine g_istore X36 B #[.val (.int u0), .val (.int p1), .val (.int p2), .val (.int p3), .val (.int p4), .val (.int (3 : Int32)), .val (.int c0), .val (.int c1), .val (.int c2), .val (.ref str), .val (.int (3 : Int32)), .val (.int (0 : Int32)), .val (.int (0 : Int32)), .unset, .unset, .unset, .unset, .unset, .unset] at_223 225 rfl rfl ?_
        have hps : own_ps [c0, c1, c2] (3 - 1) = 0 := by rw [own_psn3, if_neg (fun z => own_if0 c33 z.1), if_neg (fun z => own_if0 c37 z.2)]
        exact jn _ _ (3 : Int32) (0 : Int32) (0 : Int32) (by rw [hps]; decide) (X36.more (show _ ≤ 10 by decide) (show _ ≤ 100 by decide)) e36 (((((Fr.snoc X8 (Fr.snoc X7 (Fr.snoc X6 ((((Fr.nil n0).app N1).app N2).app N3) g_ar) g_ar) g_ar).app N9).app N32).app N34).app N36)
      · skip
        refine g_iconst X36 B (1) at_201 202 rfl rfl ?_
        refine g_goto X36 B at_202 206 rfl (by decide) ?_
        refine g_istore X36 B #[.val (.int u0), .val (.int p1), .val (.int p2), .val (.int p3), .val (.int p4), .val (.int (3 : Int32)), .val (.int c0), .val (.int c1), .val (.int c2), .val (.ref str), .unset, .val (.int (0 : Int32)), .val (.int (1 : Int32)), .unset, .unset, .unset, .unset, .unset, .unset] at_206 208 rfl rfl ?_
        refine g_iload X36 B at_208 210 rfl rfl ?_
        refine g_if_ne X36 B at_210 218 213 rfl (by decide) rfl (fun z => own_abs (by decide) z) (fun _ => ?_)
        refine g_iload X36 B at_213 215 rfl rfl ?_
        refine g_if_eq X36 B at_215 222 218 rfl (by decide) rfl (fun z => own_abs' (by decide) z) (fun _ => ?_)
        refine g_iconst X36 B (2) at_218 219 rfl rfl ?_
        refine g_goto X36 B at_219 223 rfl (by decide) ?_
        refine g_istore X36 B #[.val (.int u0), .val (.int p1), .val (.int p2), .val (.int p3), .val (.int p4), .val (.int (3 : Int32)), .val (.int c0), .val (.int c1), .val (.int c2), .val (.ref str), .val (.int (2 : Int32)), .val (.int (0 : Int32)), .val (.int (1 : Int32)), .unset, .unset, .unset, .unset, .unset, .unset] at_223 225 rfl rfl ?_
        have hps : own_ps [c0, c1, c2] (3 - 1) = 1 := by rw [own_psn3, if_neg (fun z => own_if0 c33 z.1), if_pos ⟨own_if1 c35, own_if1 c37⟩]
        exact jn _ _ (2 : Int32) (0 : Int32) (1 : Int32) (by rw [hps]; decide) (X36.more (show _ ≤ 10 by decide) (show _ ≤ 100 by decide)) e36 (((((Fr.snoc X8 (Fr.snoc X7 (Fr.snoc X6 ((((Fr.nil n0).app N1).app N2).app N3) g_ar) g_ar) g_ar).app N9).app N32).app N34).app N36)
  · skip
    refine g_iload X32 B at_165 167 rfl rfl ?_
    refine g_callS X32 B [.int c1] [] at_167 170 rfl rfl (hw _ (List.mem_of_getElem? (i := 295) rfl)) (hw _ (List.mem_of_getElem? (i := 296) rfl)) (hw _ (List.mem_of_getElem? (i := 2) rfl)) (hw _ (List.mem_of_getElem? (i := 297) rfl)) (by decide) (lenOf pd_60 rfl) (rm_lo l Z ag hw c1 h9 n0) e32 rfl 0 (Nat.le_of_eq rfl) (by decide) (by decide) (by decide) (by decide) (fun v38 T38 h38 L38 X38 e38 q38 => ?_)
    obtain ⟨rfl, N38, rfl⟩ := q38
    show Go p e below _ (T38.setTop (mkF m 170 #[.val (.int u0), .val (.int p1), .val (.int p2), .val (.int p3), .val (.int p4), .val (.int (3 : Int32)), .val (.int c0), .val (.int c1), .val (.int c2), .val (.ref str), .unset, .unset, .unset, .unset, .unset, .unset, .unset, .unset, .unset] [.int (if own_ls c1 then 1 else 0)]))
    refine g_if_eq X38 B at_170 177 173 rfl (by decide) rfl (fun c39 => ?_) (fun c39 => ?_)
    · skip
      refine g_iconst X38 B (0) at_177 178 rfl rfl ?_
      refine g_istore X38 B #[.val (.int u0), .val (.int p1), .val (.int p2), .val (.int p3), .val (.int p4), .val (.int (3 : Int32)), .val (.int c0), .val (.int c1), .val (.int c2), .val (.ref str), .unset, .val (.int (0 : Int32)), .unset, .unset, .unset, .unset, .unset, .unset, .unset] at_178 180 rfl rfl ?_
      refine g_iload X38 B at_180 182 rfl rfl ?_
      refine g_if_ne X38 B at_182 205 185 rfl (by decide) rfl (fun z => own_abs (by decide) z) (fun _ => ?_)
      refine g_iload X38 B at_185 187 rfl rfl ?_
      refine g_callS X38 B [.int c1] [] at_187 190 rfl rfl (hw _ (List.mem_of_getElem? (i := 291) rfl)) (hw _ (List.mem_of_getElem? (i := 292) rfl)) (hw _ (List.mem_of_getElem? (i := 2) rfl)) (hw _ (List.mem_of_getElem? (i := 293) rfl)) (by decide) (lenOf pd_59 rfl) (rm_hi l Z ag hw c1 h9 n0) e38 rfl 0 (Nat.le_of_eq rfl) (by decide) (by decide) (by decide) (by decide) (fun v40 T40 h40 L40 X40 e40 q40 => ?_)
      obtain ⟨rfl, N40, rfl⟩ := q40
      show Go p e below _ (T40.setTop (mkF m 190 #[.val (.int u0), .val (.int p1), .val (.int p2), .val (.int p3), .val (.int p4), .val (.int (3 : Int32)), .val (.int c0), .val (.int c1), .val (.int c2), .val (.ref str), .unset, .val (.int (0 : Int32)), .unset, .unset, .unset, .unset, .unset, .unset, .unset] [.int (if own_hs c1 then 1 else 0)]))
      refine g_if_eq X40 B at_190 205 193 rfl (by decide) rfl (fun c41 => ?_) (fun c41 => ?_)
      · skip
        refine g_iconst X40 B (0) at_205 206 rfl rfl ?_
        refine g_istore X40 B #[.val (.int u0), .val (.int p1), .val (.int p2), .val (.int p3), .val (.int p4), .val (.int (3 : Int32)), .val (.int c0), .val (.int c1), .val (.int c2), .val (.ref str), .unset, .val (.int (0 : Int32)), .val (.int (0 : Int32)), .unset, .unset, .unset, .unset, .unset, .unset] at_206 208 rfl rfl ?_
        refine g_iload X40 B at_208 210 rfl rfl ?_
        refine g_if_ne X40 B at_210 218 213 rfl (by decide) rfl (fun z => own_abs (by decide) z) (fun _ => ?_)
        refine g_iload X40 B at_213 215 rfl rfl ?_
        refine g_if_eq X40 B at_215 222 218 rfl (by decide) rfl (fun _ => ?_) (fun z => own_abs (by decide) z)
        refine g_iconst X40 B (3) at_222 223 rfl rfl ?_
        refine g_istore X40 B #[.val (.int u0), .val (.int p1), .val (.int p2), .val (.int p3), .val (.int p4), .val (.int (3 : Int32)), .val (.int c0), .val (.int c1), .val (.int c2), .val (.ref str), .val (.int (3 : Int32)), .val (.int (0 : Int32)), .val (.int (0 : Int32)), .unset, .unset, .unset, .unset, .unset, .unset] at_223 225 rfl rfl ?_
        have hps : own_ps [c0, c1, c2] (3 - 1) = 0 := by rw [own_psn3, if_neg (fun z => own_if0 c39 z.2), if_neg (fun z => own_if0 c41 z.1)]
        exact jn _ _ (3 : Int32) (0 : Int32) (0 : Int32) (by rw [hps]; decide) (X40.more (show _ ≤ 10 by decide) (show _ ≤ 100 by decide)) e40 (((((Fr.snoc X8 (Fr.snoc X7 (Fr.snoc X6 ((((Fr.nil n0).app N1).app N2).app N3) g_ar) g_ar) g_ar).app N9).app N32).app N38).app N40)
      · skip
        refine g_iload X40 B at_193 195 rfl rfl ?_
        refine g_callS X40 B [.int c2] [] at_195 198 rfl rfl (hw _ (List.mem_of_getElem? (i := 295) rfl)) (hw _ (List.mem_of_getElem? (i := 296) rfl)) (hw _ (List.mem_of_getElem? (i := 2) rfl)) (hw _ (List.mem_of_getElem? (i := 297) rfl)) (by decide) (lenOf pd_60 rfl) (rm_lo l Z ag hw c2 h9 n0) e40 rfl 0 (Nat.le_of_eq rfl) (by decide) (by decide) (by decide) (by decide) (fun v42 T42 h42 L42 X42 e42 q42 => ?_)
        obtain ⟨rfl, N42, rfl⟩ := q42
        show Go p e below _ (T42.setTop (mkF m 198 #[.val (.int u0), .val (.int p1), .val (.int p2), .val (.int p3), .val (.int p4), .val (.int (3 : Int32)), .val (.int c0), .val (.int c1), .val (.int c2), .val (.ref str), .unset, .val (.int (0 : Int32)), .unset, .unset, .unset, .unset, .unset, .unset, .unset] [.int (if own_ls c2 then 1 else 0)]))
        refine g_if_eq X42 B at_198 205 201 rfl (by decide) rfl (fun c43 => ?_) (fun c43 => ?_)
        · skip
          refine g_iconst X42 B (0) at_205 206 rfl rfl ?_
          refine g_istore X42 B #[.val (.int u0), .val (.int p1), .val (.int p2), .val (.int p3), .val (.int p4), .val (.int (3 : Int32)), .val (.int c0), .val (.int c1), .val (.int c2), .val (.ref str), .unset, .val (.int (0 : Int32)), .val (.int (0 : Int32)), .unset, .unset, .unset, .unset, .unset, .unset] at_206 208 rfl rfl ?_
          refine g_iload X42 B at_208 210 rfl rfl ?_
          refine g_if_ne X42 B at_210 218 213 rfl (by decide) rfl (fun z => own_abs (by decide) z) (fun _ => ?_)
          refine g_iload X42 B at_213 215 rfl rfl ?_
          refine g_if_eq X42 B at_215 222 218 rfl (by decide) rfl (fun _ => ?_) (fun z => own_abs (by decide) z)
          refine g_iconst X42 B (3) at_222 223 rfl rfl ?_
          refine g_istore X42 B #[.val (.int u0), .val (.int p1), .val (.int p2), .val (.int p3), .val (.int p4), .val (.int (3 : Int32)), .val (.int c0), .val (.int c1), .val (.int c2), .val (.ref str), .val (.int (3 : Int32)), .val (.int (0 : Int32)), .val (.int (0 : Int32)), .unset, .unset, .unset, .unset, .unset, .unset] at_223 225 rfl rfl ?_
          have hps : own_ps [c0, c1, c2] (3 - 1) = 0 := by rw [own_psn3, if_neg (fun z => own_if0 c39 z.2), if_neg (fun z => own_if0 c43 z.2)]
          exact jn _ _ (3 : Int32) (0 : Int32) (0 : Int32) (by rw [hps]; decide) (X42.more (show _ ≤ 10 by decide) (show _ ≤ 100 by decide)) e42 ((((((Fr.snoc X8 (Fr.snoc X7 (Fr.snoc X6 ((((Fr.nil n0).app N1).app N2).app N3) g_ar) g_ar) g_ar).app N9).app N32).app N38).app N40).app N42)
        · skip
          refine g_iconst X42 B (1) at_201 202 rfl rfl ?_
          refine g_goto X42 B at_202 206 rfl (by decide) ?_
          refine g_istore X42 B #[.val (.int u0), .val (.int p1), .val (.int p2), .val (.int p3), .val (.int p4), .val (.int (3 : Int32)), .val (.int c0), .val (.int c1), .val (.int c2), .val (.ref str), .unset, .val (.int (0 : Int32)), .val (.int (1 : Int32)), .unset, .unset, .unset, .unset, .unset, .unset] at_206 208 rfl rfl ?_
          refine g_iload X42 B at_208 210 rfl rfl ?_
          refine g_if_ne X42 B at_210 218 213 rfl (by decide) rfl (fun z => own_abs (by decide) z) (fun _ => ?_)
          refine g_iload X42 B at_213 215 rfl rfl ?_
          refine g_if_eq X42 B at_215 222 218 rfl (by decide) rfl (fun z => own_abs' (by decide) z) (fun _ => ?_)
          refine g_iconst X42 B (2) at_218 219 rfl rfl ?_
          refine g_goto X42 B at_219 223 rfl (by decide) ?_
          refine g_istore X42 B #[.val (.int u0), .val (.int p1), .val (.int p2), .val (.int p3), .val (.int p4), .val (.int (3 : Int32)), .val (.int c0), .val (.int c1), .val (.int c2), .val (.ref str), .val (.int (2 : Int32)), .val (.int (0 : Int32)), .val (.int (1 : Int32)), .unset, .unset, .unset, .unset, .unset, .unset] at_223 225 rfl rfl ?_
          have hps : own_ps [c0, c1, c2] (3 - 1) = 1 := by rw [own_psn3, if_neg (fun z => own_if0 c39 z.2), if_pos ⟨own_if1 c41, own_if1 c43⟩]
          exact jn _ _ (2 : Int32) (0 : Int32) (1 : Int32) (by rw [hps]; decide) (X42.more (show _ ≤ 10 by decide) (show _ ≤ 100 by decide)) e42 ((((((Fr.snoc X8 (Fr.snoc X7 (Fr.snoc X6 ((((Fr.nil n0).app N1).app N2).app N3) g_ar) g_ar) g_ar).app N9).app N32).app N38).app N40).app N42)
    · skip
      refine g_iconst X38 B (1) at_173 174 rfl rfl ?_
      refine g_goto X38 B at_174 178 rfl (by decide) ?_
      refine g_istore X38 B #[.val (.int u0), .val (.int p1), .val (.int p2), .val (.int p3), .val (.int p4), .val (.int (3 : Int32)), .val (.int c0), .val (.int c1), .val (.int c2), .val (.ref str), .unset, .val (.int (1 : Int32)), .unset, .unset, .unset, .unset, .unset, .unset, .unset] at_178 180 rfl rfl ?_
      refine g_iload X38 B at_180 182 rfl rfl ?_
      refine g_if_ne X38 B at_182 205 185 rfl (by decide) rfl (fun _ => ?_) (fun z => own_abs' (by decide) z)
      refine g_iconst X38 B (0) at_205 206 rfl rfl ?_
      refine g_istore X38 B #[.val (.int u0), .val (.int p1), .val (.int p2), .val (.int p3), .val (.int p4), .val (.int (3 : Int32)), .val (.int c0), .val (.int c1), .val (.int c2), .val (.ref str), .unset, .val (.int (1 : Int32)), .val (.int (0 : Int32)), .unset, .unset, .unset, .unset, .unset, .unset] at_206 208 rfl rfl ?_
      refine g_iload X38 B at_208 210 rfl rfl ?_
      refine g_if_ne X38 B at_210 218 213 rfl (by decide) rfl (fun _ => ?_) (fun z => own_abs' (by decide) z)
      refine g_iconst X38 B (2) at_218 219 rfl rfl ?_
      refine g_goto X38 B at_219 223 rfl (by decide) ?_
      refine g_istore X38 B #[.val (.int u0), .val (.int p1), .val (.int p2), .val (.int p3), .val (.int p4), .val (.int (3 : Int32)), .val (.int c0), .val (.int c1), .val (.int c2), .val (.ref str), .val (.int (2 : Int32)), .val (.int (1 : Int32)), .val (.int (0 : Int32)), .unset, .unset, .unset, .unset, .unset, .unset] at_223 225 rfl rfl ?_
      have hps : own_ps [c0, c1, c2] (3 - 1) = 1 := by rw [own_psn3, if_pos ⟨own_if1 c33, own_if1 c39⟩, if_neg (fun z => own_hl (own_if1 c39) z.1)]
      exact jn _ _ (2 : Int32) (1 : Int32) (0 : Int32) (by rw [hps]; decide) (X38.more (show _ ≤ 10 by decide) (show _ ≤ 100 by decide)) e38 ((((Fr.snoc X8 (Fr.snoc X7 (Fr.snoc X6 ((((Fr.nil n0).app N1).app N2).app N3) g_ar) g_ar) g_ar).app N9).app N32).app N38)
--LAST
/-! own: the tables DigitOnes and DigitTens out of the words of the start -/
theorem own_eqI {Z : State} {args : Array Value} {t u : Term} {k : Int32} {idx : List Nat} (hu : u.eval args Z none idx Z = some (.int k)) (q : (Jvm.Cond.eq t u).value args Z none Z idx = some true) : t.eval args Z none idx Z = some (.int k) := by
  obtain ⟨x, y, h1, h2, h3, -⟩ := cmp_v (Or.inl q)
  cases hu.symm.trans h2
  have h5 : ∃ z, x = .int z := by cases x <;> simp [Kin, Value.isRef] at h3 ⊢
  obtain ⟨z, rfl⟩ := h5
  have h7 : (Jvm.Cond.eq t u).value args Z none Z idx = some (decide (z = k)) := by simp only [Cond.value, h1, hu]
  rw [h1, gotT h7 q]
theorem own_len100 {Z : State} {args : Array Value} {t : Term} {a : Addr} (ev : t.eval args Z none [] Z = some (.ref a)) (q : (Jvm.Cond.eq (.length t) (.int 100)).value args Z none Z [] = some true) : ∃ cell, Z.arrayAt? a = some cell ∧ cell.slots.size = 100 := by
  have h := own_eqI (Term.int_eval 100) q
  simp only [Term.eval, Option.bind_eq_bind, ev, Option.bind_some] at h
  obtain ⟨cell, hcell, h⟩ := Option.bind_eq_some_iff.mp h
  refine ⟨cell, hcell, ?_⟩
  by_cases hn : cell.slots.size < 2147483648
  · rw [if_pos hn] at h
    have h2 : cell.slots.size.toInt32 = (100 : Int32) := Value.int.inj (Option.some.inj h)
    exact own_inj hn (by decide) h2
  · rw [if_neg hn] at h; cases h
theorem own_tabv {Z : State} {args : Array Value} {C n d : String} {a : Addr} {u : Term} (f : Nat → Int32) (ev : (Term.static C n d).eval args Z none [] Z = some (.ref a)) (hx : (Jvm.Cond.exactly (.static C n d) "[B").value args Z none Z [] = some true) (wa : (Jvm.Cond.arrayClass .byte).before args Z = true) (hl : (Jvm.Cond.eq (.length (.static C n d)) (.int 100)).value args Z none Z [] = some true)
    (hall : (Jvm.Cond.all (.static C n d) (.eq (.elem (.static C n d) (.index 0)) u)).value args Z none Z [] = some true) (hu : ∀ i, i < 100 → u.eval args Z none [i] Z = some (.int (f i))) : Av Z Z.heap a .byte ((List.range 100).map fun i => .int (f i)) := by
  obtain ⟨cell, hc, hsz⟩ := own_len100 ev hl
  obtain ⟨hh, hv, hst, k, comp, ty, hk, hkd⟩ := State.arrayAt?_spec hc
  obtain ⟨a', c', cell', k', e1, e2, e3, e4, e5, e6, -⟩ := Cond.exactly_spec (beq_iff_eq.mpr hx : (Jvm.Cond.exactly (.static C n d) "[B").holds args Z none Z [] = true)
  cases ev.symm.trans e1
  cases hh.symm.trans e3
  obtain ⟨c2, k2, comp2, f1, f2, f3⟩ := Cond.arrayClass_spec wa
  have f1' : Z.vm.findClass "[B" = some c2 := f1
  cases e2.symm.trans f1'
  subst e6
  refine ⟨cell, ⟨hh, ⟨(fun k q => by rw [q] at hst; cases hst), k2, f2, comp2, f3⟩, hv⟩, ?_⟩
  apply List.ext_getElem?
  intro i
  by_cases hi : i < 100
  · have q := Cond.all_elim ev hc hall i (by omega)
    have q2 := own_eqI (hu i hi) q
    obtain ⟨a', j, cell', g1, g2, g3, -, g5⟩ := Term.elem_spec q2
    have ev' : (Term.static C n d).eval args Z none [i] Z = some (.ref a) := ev
    cases ev'.symm.trans g1
    cases hc.symm.trans g3
    cases (Term.index_eval i).symm.trans g2
    have g6 : (i.toInt32).toNatClampNeg = i := own_tn (by omega)
    rw [g6] at g5
    rw [Array.getElem?_toList, g5, List.getElem?_map, List.getElem?_range hi]; rfl
  · rw [List.getElem?_eq_none (by simp; omega), List.getElem?_eq_none (by simp; omega)]
theorem own_on1 : ∀ i : Nat, i < 100 → (48 : Int32) + i.toInt32 % 10 = Int32.ofNat (48 + i % 10) := by decide +kernel
theorem own_tn1 : ∀ i : Nat, i < 100 → (48 : Int32) + i.toInt32 / 10 = Int32.ofNat (48 + i / 10) := by decide +kernel
theorem own_evOnes {Z : State} {args : Array Value} : ∀ i, i < 100 → (Term.add (.int 48) (.rem (.index 0) (.int 10))).eval args Z none [i] Z = some (.int (Int32.ofNat (48 + i % 10))) := by
  intro i hi
  rw [← own_on1 i hi]
  rfl
theorem own_evTens {Z : State} {args : Array Value} : ∀ i, i < 100 → (Term.add (.int 48) (.div (.index 0) (.int 10))).eval args Z none [i] Z = some (.int (Int32.ofNat (48 + i / 10))) := by
  intro i hi
  rw [← own_tn1 i hi]
  rfl

theorem own_staI {Z : State} {args : Array Value} {t : Term} {k : Int32} (q : (Jvm.Cond.eq t (.int k)).value args Z none Z [] = some true) : t.eval args Z none [] Z = some (.int k) := by
  obtain ⟨x, y, h1, h2, h3, -⟩ := cmp_v (Or.inl q)
  cases h2
  have h5 : ∃ z, x = .int z := by cases x <;> simp [Kin, Value.isRef] at h3 ⊢
  obtain ⟨z, rfl⟩ := h5
  have h7 : (Jvm.Cond.eq t (.int k)).value args Z none Z [] = some (decide (z = k)) := by simp only [Cond.value, h1, Term.int_eval]
  rw [h1, gotT h7 q]
theorem own_staN {Z : State} {args : Array Value} {t : Term} {z : Int32} (ev : t.eval args Z none [] Z = some (.int z)) (q : (Jvm.Cond.not (.eq t (.int 0))).value args Z none Z [] = some true) : ¬ z = 0 := by
  have h7 : (Jvm.Cond.eq t (.int 0)).value args Z none Z [] = some (decide (z = 0)) := by simp only [Cond.value, ev, Term.int_eval]
  have h8 := not_v q
  exact gotF h7 h8

set_option maxRecDepth 65536 in
set_option maxHeartbeats 40000000 in
theorem comes_1 {Post : Tables → Env → Array Value → State → Outcome → State → Prop} (hpost : ∀ tb e args s v u, (limb_1_1.after args s (.returned v) u = true ∧ limb_1_2.after args s (.returned v) u = true ∧ True) → ReturnedEndW s (.returned v) u (Jvm.fieldLocs frame_1_writes args s ++ Jvm.arrayLocs frame_1_arrays args s ++ Jvm.staticLocs frame_1_statics s) 48 5632 → Post tb e args s (.returned v) u) :
    ArmFor flags0 classFile x code maxLocals ret World_1 tables_1 room_1 Calls_1 rest_1 Pre_1 Post := by
  intro l hfl _ _ p e ha hc hk s m args below hf hA hF happ hP
  obtain ⟨hcalls, hrest, hpre⟩ := hP
  obtain ⟨-, -, -, hnamed, -, -, -, hat⟩ := (Spec.applies_iff hf).mp happ
  obtain ⟨hg, hn⟩ := and_e (Cond.before_iff.mp (show (Jvm.Cond.and given_1 narrow_1).before args s = true from hpre))
  obtain ⟨g0, hg⟩ := and_e hg
  obtain ⟨g1, hg⟩ := and_e hg
  obtain ⟨g2, hg⟩ := and_e hg
  obtain ⟨g3, hg⟩ := and_e hg
  obtain ⟨g4, hg⟩ := and_e hg
  have g5 := hg
  obtain ⟨w0, w1, w2, w3, w4, rfl⟩ : ∃ w0 w1 w2 w3 w4 : Value, args = #[w0, w1, w2, w3, w4] := by
    have hs : args.size = 5 := by simpa [Cond.value, given_1] using g0
    obtain ⟨L⟩ := args
    match L, hs with
    | [w0, w1, w2, w3, w4], _ => exact ⟨w0, w1, w2, w3, w4, rfl⟩
  have hw := fun d (hd : d ∈ tables_1) => atoms_spec (ws := Jvm.Cond.code x code maxLocals ret :: tables_1) hat d (List.mem_cons_of_mem _ hd)
  obtain ⟨i0, q0⟩ := is_v g1
  obtain rfl : w0 = (.int i0) := Option.some.inj q0
  obtain ⟨i1, q1⟩ := is_v g2
  obtain rfl : w1 = (.int i1) := Option.some.inj q1
  obtain ⟨i2, q2⟩ := is_v g3
  obtain rfl : w2 = (.int i2) := Option.some.inj q2
  obtain ⟨i3, q3⟩ := is_v g4
  obtain rfl : w3 = (.int i3) := Option.some.inj q3
  obtain ⟨i4, q4⟩ := is_v g5
  obtain rfl : w4 = (.int i4) := Option.some.inj q4
  obtain ⟨hsets, hown0⟩ := atoms_of _ (rest_1_c_eq ▸ (show rest_1_c.before _ s = true from hrest))
  have hH7 : Jvm.Lit.constHeld s "com/example/tillbeat/tillbeat/model/TextRule" 7 := hcalls.1 _ (List.mem_of_getElem? (i := 0) rfl)
  have hH22 : Jvm.Lit.constHeld s "com/example/tillbeat/tillbeat/model/TextRule" 22 := hcalls.1 _ (List.mem_of_getElem? (i := 1) rfl)
  have hH35 : Jvm.Lit.constHeld s "com/example/tillbeat/tillbeat/model/TextRule" 35 := hcalls.1 _ (List.mem_of_getElem? (i := 2) rfl)
  have hH44 : Jvm.Lit.constHeld s "com/example/tillbeat/tillbeat/model/TextRule" 44 := hcalls.1 _ (List.mem_of_getElem? (i := 3) rfl)
  have hH7s : Jvm.Lit.constHeld s "java/lang/String" 7 := hcalls.1 _ (List.mem_of_getElem? (i := 4) rfl)
  have hcw : Jvm.Lit.compactW.before _ s = true := (hsets _ (List.mem_of_getElem? (i := 2) rfl))
  obtain ⟨cx, ev0⟩ := is_v (Cond.before_iff.mp (hsets _ (List.mem_of_getElem? (i := 1) rfl)))
  have SC := Sta.start ev0 (Or.inl (hsets _ (List.mem_of_getElem? (i := 0) rfl)))
  have hcx := own_staN ev0 (Cond.before_iff.mp (hsets _ (List.mem_of_getElem? (i := 2) rfl)))
  obtain ⟨g, evg, hgr⟩ := isR_v (Cond.before_iff.mp (hsets _ (List.mem_of_getElem? (i := 8) rfl)))
  have SF := Sta.start evg (Or.inl (hsets _ (List.mem_of_getElem? (i := 7) rfl)))
  obtain ⟨d1, ev1⟩ := exa_v (Cond.before_iff.mp (hsets _ (List.mem_of_getElem? (i := 12) rfl)))
  have SD1 := Sta.start ev1 (Or.inl (hsets _ (List.mem_of_getElem? (i := 11) rfl)))
  have AD1 := own_tabv (fun i => Int32.ofNat (48 + i % 10)) ev1 (Cond.before_iff.mp (hsets _ (List.mem_of_getElem? (i := 12) rfl))) (hw _ (List.mem_of_getElem? (i := 20) rfl)) (Cond.before_iff.mp (hsets _ (List.mem_of_getElem? (i := 13) rfl))) (Cond.before_iff.mp (hsets _ (List.mem_of_getElem? (i := 14) rfl))) own_evOnes
  obtain ⟨d2, ev2⟩ := exa_v (Cond.before_iff.mp (hsets _ (List.mem_of_getElem? (i := 17) rfl)))
  have SD2 := Sta.start ev2 (Or.inl (hsets _ (List.mem_of_getElem? (i := 16) rfl)))
  have AD2 := own_tabv (fun i => Int32.ofNat (48 + i / 10)) ev2 (Cond.before_iff.mp (hsets _ (List.mem_of_getElem? (i := 17) rfl))) (hw _ (List.mem_of_getElem? (i := 20) rfl)) (Cond.before_iff.mp (hsets _ (List.mem_of_getElem? (i := 18) rfl))) (Cond.before_iff.mp (hsets _ (List.mem_of_getElem? (i := 19) rfl))) own_evTens
  have SA := Sta.start (own_staI (Cond.before_iff.mp (hsets _ (List.mem_of_getElem? (i := 23) rfl)))) (Or.inl (hsets _ (List.mem_of_getElem? (i := 22) rfl)))
  have SH := Sta.start (own_staI (Cond.before_iff.mp (hsets _ (List.mem_of_getElem? (i := 26) rfl)))) (Or.inl (hsets _ (List.mem_of_getElem? (i := 25) rfl)))
  have SLo := Sta.start (own_staI (Cond.before_iff.mp (hsets _ (List.mem_of_getElem? (i := 29) rfl)))) (Or.inl (hsets _ (List.mem_of_getElem? (i := 28) rfl)))
  obtain ⟨ki, hki, kk4⟩ := own_and3 i4
  obtain rfl | rfl | rfl | rfl : ki = 0 ∨ ki = 1 ∨ ki = 2 ∨ ki = 3 := by omega
  · skip
    obtain ⟨n, o, r1, r2, r3, _, L, rfl, ⟨rfl, N⟩, hv⟩ := rm0_0 l s _ hw i0 i1 i2 i3 i4 cx g d1 d2 s.heap s.heap.size (Nat.le_refl _) SC hcx SA SH SLo SF hgr SD1 SD2 AD1 AD2 kk4 (fun b cl q => q) hH7 hH22 hH35 hH44 hH7s hcw tables_1 p e ha hc hk s m _ below hf ((Spec.applies_iff_loose hf).mp happ).1 ⟨rfl, State.Warmed39.refl s, rfl, IB.start⟩ trivial
    exact ⟨n, _, r1, r2, r3, hpost _ _ _ _ _ _ ⟨Cond.after_iff.mpr rfl, Cond.after_iff.mpr (eq_i res_at (Term.int_eval (1)) rfl), trivial⟩ ⟨hv.1, hv.2.1, hv.2.2.1, (hv.2.2.2.sift fun y hy => Or.inr (N y hy)).mono (by decide) (by decide)⟩⟩
  · skip
    obtain ⟨n, o, r1, r2, r3, _, L, rfl, ⟨rfl, N⟩, hv⟩ := rm0_1 l s _ hw i0 i1 i2 i3 i4 cx g d1 d2 s.heap s.heap.size (Nat.le_refl _) SC hcx SA SH SLo SF hgr SD1 SD2 AD1 AD2 kk4 (fun b cl q => q) hH7 hH22 hH35 hH44 hH7s hcw tables_1 p e ha hc hk s m _ below hf ((Spec.applies_iff_loose hf).mp happ).1 ⟨rfl, State.Warmed39.refl s, rfl, IB.start⟩ trivial
    exact ⟨n, _, r1, r2, r3, hpost _ _ _ _ _ _ ⟨Cond.after_iff.mpr rfl, Cond.after_iff.mpr (eq_i res_at (Term.int_eval (1)) rfl), trivial⟩ ⟨hv.1, hv.2.1, hv.2.2.1, (hv.2.2.2.sift fun y hy => Or.inr (N y hy)).mono (by decide) (by decide)⟩⟩
  · skip
    obtain ⟨n, o, r1, r2, r3, _, L, rfl, ⟨rfl, N⟩, hv⟩ := rm0_2 l s _ hw i0 i1 i2 i3 i4 cx g d1 d2 s.heap s.heap.size (Nat.le_refl _) SC hcx SA SH SLo SF hgr SD1 SD2 AD1 AD2 kk4 (fun b cl q => q) hH7 hH22 hH35 hH44 hH7s hcw tables_1 p e ha hc hk s m _ below hf ((Spec.applies_iff_loose hf).mp happ).1 ⟨rfl, State.Warmed39.refl s, rfl, IB.start⟩ trivial
    exact ⟨n, _, r1, r2, r3, hpost _ _ _ _ _ _ ⟨Cond.after_iff.mpr rfl, Cond.after_iff.mpr (eq_i res_at (Term.int_eval (1)) rfl), trivial⟩ ⟨hv.1, hv.2.1, hv.2.2.1, (hv.2.2.2.sift fun y hy => Or.inr (N y hy)).mono (by decide) (by decide)⟩⟩
  · skip
    obtain ⟨n, o, r1, r2, r3, _, L, rfl, ⟨rfl, N⟩, hv⟩ := rm0_3 l s _ hw i0 i1 i2 i3 i4 cx g d1 d2 s.heap s.heap.size (Nat.le_refl _) SC hcx SA SH SLo SF hgr SD1 SD2 AD1 AD2 kk4 (fun b cl q => q) hH7 hH22 hH35 hH44 hH7s hcw tables_1 p e ha hc hk s m _ below hf ((Spec.applies_iff_loose hf).mp happ).1 ⟨rfl, State.Warmed39.refl s, rfl, IB.start⟩ trivial
    exact ⟨n, _, r1, r2, r3, hpost _ _ _ _ _ _ ⟨Cond.after_iff.mpr rfl, Cond.after_iff.mpr (eq_i res_at (Term.int_eval (1)) rfl), trivial⟩ ⟨hv.1, hv.2.1, hv.2.2.1, (hv.2.2.2.sift fun y hy => Or.inr (N y hy)).mono (by decide) (by decide)⟩⟩
theorem main_1_1 : Claimed_1_1 := comes_1 fun _ _ _ _ _ _ h hF => ⟨h.1, hF⟩
theorem main_1_2 : Claimed_1_2 := comes_1 fun _ _ _ _ _ _ h hF => ⟨h.2.1, hF⟩
end Jvm.Pilot.@@N@@
namespace Jvm.Pilot.@@N@@
open Jvm Jvm.ClassFile Sem Op Lib Jvm.Free Jvm.Stand Jvm.Pilot.@@N@@.Jvm.D
/-! MADE BY PROGRAM (witnessworld.py) out of the Statement's table words and the real class files: 32 classes; the members and pool entries that the words name. The judged class is class 1, her method 5. -/
namespace start1
open Jvm.ClassFile
def u (s : String) : CpInfo := .utf8 (stringToUtf16 s)
/-- a pool by its gaps: so many unusable entries, then the entry; so many at the end -/
def gap : Nat → List CpInfo → List CpInfo
  | 0, r => r
  | n + 1, r => .unusable :: gap n r
def poolList (es : List (Nat × CpInfo)) (last : Nat) : List CpInfo := es.foldr (fun e r => gap e.1 (e.2 :: r)) (gap last [])
def pool (es : List (Nat × CpInfo)) (last : Nat) : Array CpInfo := ⟨poolList es last⟩
def fileOf (pool : Array CpInfo) (this : Nat) (attrs : Array Attribute := #[]) (ms : Array MethodInfo := #[]) (fl : Nat := 33) (sup : Nat := 0) (ifs : Array Nat := #[]) (fds : Array FieldInfo := #[]) : ClassFile where
  minorVersion := 0
  majorVersion := 65
  constantPool := pool
  accessFlags := fl
  thisClass := this
  superClass := sup
  interfaces := ifs
  fields := fds
  methods := ms
  attributes := attrs
def plain (name : String) (sup : Option ClassId) : Class where
  name := name
  kind := .ordinary
  loader := none
  accessFlags := 33
  super := sup
  interfaces := #[]
  cf := none
  fields := #[]
  methods := #[]
  instanceTypes := #[]
  staticTypes := #[]
  resolved := #[]
  callSites := []
  init := .initialized
  statics := none
  mirror := none

def pool0 : Array CpInfo := pool [(5, u "<init>"), (0, u "()V"), (1, .class_ 10), (1, u "java/lang/Object"), (85, u "clone"), (0, u "()Ljava/lang/Object;")] 26

def k0c0 : Code := { maxStack := 0, maxLocals := 1, code := object_method_1_code, exceptionTable := #[], attributes := #[] }
def k0m0 : Method := { name := "<init>", desc := "()V", sig := { parameters := [], returnType := none }, accessFlags := 1, code := some k0c0 }
def k0m1 : Method := { name := "clone", desc := "()Ljava/lang/Object;", sig := { parameters := [], returnType := some (.object "java/lang/Object") }, accessFlags := 260, code := none }
/-- java/lang/Object -/
def k0 : Class := { plain "java/lang/Object" none with
  accessFlags := 33
  interfaces := #[]
  cf := some (fileOf pool0 8 #[] #[{ accessFlags := 1, nameIndex := 5, descriptorIndex := 6, attributes := #[] }, { accessFlags := 260, nameIndex := 96, descriptorIndex := 97, attributes := #[] }] 33 0 #[] #[])
  fields := #[]
  methods := #[k0m0, k0m1]
  instanceTypes := #[]
  staticTypes := #[]
  resolved := Array.replicate 124 none
  statics := none }

def pool1 : Array CpInfo := pool [(2, .class_ 4), (1, u "java/lang/Object"), (0, u "<init>"), (0, u "()V"), (0, .integer 55296), (0, .integer 56320), (0, .integer 56319), (0, .integer 57343), (0, .long 10), (1, .long 100), (1, .long 1000), (1, .long 10000), (1, .long 100000), (1, .long 1000000), (1, .long 10000000), (1, .long 100000000), (1, .long 1000000000), (1, .methodref 30 31), (0, .class_ 32), (0, .nameAndType 33 34), (0, u "com/example/tillbeat/tillbeat/model/TextRuleAtMostPinLaw"), (0, u "mk"), (0, u "(I)C"), (0, .class_ 36), (0, u "java/lang/String"), (0, .methodref 35 38), (0, .nameAndType 5 39), (0, u "([C)V"), (0, .methodref 30 41), (0, .nameAndType 42 43), (0, u "hi"), (0, u "(C)Z"), (0, .methodref 30 45), (0, .nameAndType 46 43), (0, u "lo"), (0, .methodref 48 49), (0, .class_ 50), (0, .nameAndType 51 52), (0, u "com/example/tillbeat/tillbeat/model/TextRule"), (0, u "atMost"), (0, u "(I)Lcom/example/tillbeat/tillbeat/model/TextRule;"), (0, .methodref 48 54), (0, .nameAndType 55 56), (0, u "allows"), (0, u "(Ljava/lang/String;)Z"), (0, .methodref 48 58), (0, .nameAndType 59 60), (0, u "requirement"), (0, u "()Ljava/lang/String;"), (0, .methodref 62 63), (0, .class_ 64), (0, .nameAndType 65 66), (0, u "java/lang/Math"), (0, u "abs"), (0, u "(J)J"), (0, .methodref 30 68), (0, .nameAndType 69 70), (0, u "digits"), (0, u "(J)I"), (0, .methodref 35 72), (0, .nameAndType 73 74), (0, u "length"), (0, u "()I"), (0, .methodref 35 76), (0, .nameAndType 77 34), (0, u "charAt"), (3, u "law"), (0, u "(IIIII)Z")] 2

def k1m0 : Method := { name := "<init>", desc := "()V", sig := { parameters := [], returnType := none }, accessFlags := 1, code := none }
def k1c1 : Code := { maxStack := 3, maxLocals := 2, code := method_2_code, exceptionTable := #[], attributes := #[] }
def k1m1 : Method := { name := "mk", desc := "(I)C", sig := { parameters := [.int], returnType := some .char }, accessFlags := 10, code := some k1c1 }
def k1c2 : Code := { maxStack := 2, maxLocals := 1, code := method_3_code, exceptionTable := #[], attributes := #[] }
def k1m2 : Method := { name := "hi", desc := "(C)Z", sig := { parameters := [.char], returnType := some .boolean }, accessFlags := 10, code := some k1c2 }
def k1c3 : Code := { maxStack := 2, maxLocals := 1, code := method_4_code, exceptionTable := #[], attributes := #[] }
def k1m3 : Method := { name := "lo", desc := "(C)Z", sig := { parameters := [.char], returnType := some .boolean }, accessFlags := 10, code := some k1c3 }
def k1c4 : Code := { maxStack := 4, maxLocals := 2, code := method_5_code, exceptionTable := #[], attributes := #[] }
def k1m4 : Method := { name := "digits", desc := "(J)I", sig := { parameters := [.long], returnType := some .int }, accessFlags := 10, code := some k1c4 }
def k1c5 : Code := { maxStack := 6, maxLocals := 19, code := code, exceptionTable := #[], attributes := #[] }
def k1m5 : Method := { name := "law", desc := "(IIIII)Z", sig := { parameters := [.int, .int, .int, .int, .int], returnType := some .boolean }, accessFlags := 9, code := some k1c5 }
/-- com/example/tillbeat/tillbeat/model/TextRuleAtMostPinLaw -/
def k1 : Class := { plain "com/example/tillbeat/tillbeat/model/TextRuleAtMostPinLaw" (some 0) with
  accessFlags := 49
  interfaces := #[]
  cf := some (fileOf pool1 30 #[] #[{ accessFlags := 1, nameIndex := 5, descriptorIndex := 6, attributes := #[] }, { accessFlags := 10, nameIndex := 33, descriptorIndex := 34, attributes := #[] }, { accessFlags := 10, nameIndex := 42, descriptorIndex := 43, attributes := #[] }, { accessFlags := 10, nameIndex := 46, descriptorIndex := 43, attributes := #[] }, { accessFlags := 10, nameIndex := 69, descriptorIndex := 70, attributes := #[] }, { accessFlags := 9, nameIndex := 81, descriptorIndex := 82, attributes := #[] }] 49 2 #[] #[])
  fields := #[]
  methods := #[k1m0, k1m1, k1m2, k1m3, k1m4, k1m5]
  instanceTypes := #[]
  staticTypes := #[]
  resolved := Array.replicate 85 none
  statics := none }

def pool2 : Array CpInfo := pool [(1, .class_ 2), (0, u "java/io/Serializable"), (0, .class_ 4), (0, u "java/lang/Object")] 2

/-- java/io/Serializable -/
def k2 : Class := { plain "java/io/Serializable" (some 0) with
  accessFlags := 1537
  interfaces := #[]
  cf := some (fileOf pool2 1 #[] #[] 1537 3 #[] #[])
  fields := #[]
  methods := #[]
  instanceTypes := #[]
  staticTypes := #[]
  resolved := Array.replicate 7 none
  statics := none }

def pool3 : Array CpInfo := pool [(1, .class_ 2), (0, u "java/lang/Comparable"), (0, .class_ 4), (0, u "java/lang/Object")] 7

/-- java/lang/Comparable -/
def k3 : Class := { plain "java/lang/Comparable" (some 0) with
  accessFlags := 1537
  interfaces := #[]
  cf := some (fileOf pool3 1 #[] #[] 1537 3 #[] #[])
  fields := #[]
  methods := #[]
  instanceTypes := #[]
  staticTypes := #[]
  resolved := Array.replicate 12 none
  statics := none }

def pool4 : Array CpInfo := pool [(2, .class_ 4), (1, u "java/lang/CharSequence"), (42, .class_ 48), (0, u "java/lang/CharSequence$1CodePointIterator"), (10, .class_ 60), (0, u "java/lang/CharSequence$1CharIterator"), (5, .class_ 67), (0, u "java/lang/Object")] 63

/-- java/lang/CharSequence -/
def k4 : Class := { plain "java/lang/CharSequence" (some 0) with
  accessFlags := 1537
  interfaces := #[]
  cf := some (fileOf pool4 2 #[.nestMembers #[47, 59]] #[] 1537 66 #[] #[])
  fields := #[]
  methods := #[]
  instanceTypes := #[]
  staticTypes := #[]
  resolved := Array.replicate 131 none
  statics := none }

def pool5 : Array CpInfo := pool [(1, .class_ 2), (0, u "java/lang/constant/Constable"), (0, .class_ 4), (0, u "java/lang/Object")] 6

/-- java/lang/constant/Constable -/
def k5 : Class := { plain "java/lang/constant/Constable" (some 0) with
  accessFlags := 1537
  interfaces := #[]
  cf := some (fileOf pool5 1 #[] #[] 1537 3 #[] #[])
  fields := #[]
  methods := #[]
  instanceTypes := #[]
  staticTypes := #[]
  resolved := Array.replicate 11 none
  statics := none }

def pool6 : Array CpInfo := pool [(1, .class_ 2), (0, u "java/lang/constant/ConstantDesc"), (0, .class_ 4), (0, u "java/lang/Object")] 32

/-- java/lang/constant/ConstantDesc -/
def k6 : Class := { plain "java/lang/constant/ConstantDesc" (some 0) with
  accessFlags := 1537
  interfaces := #[]
  cf := some (fileOf pool6 1 #[] #[] 1537 3 #[] #[])
  fields := #[]
  methods := #[]
  instanceTypes := #[]
  staticTypes := #[]
  resolved := Array.replicate 37 none
  statics := none }

def pool7 : Array CpInfo := pool [(1, .methodref 2 3), (0, .class_ 4), (0, .nameAndType 5 6), (0, u "java/lang/Object"), (0, u "<init>"), (0, u "()V"), (0, .string 8), (0, u ""), (0, .fieldref 10 11), (0, .class_ 12), (0, .nameAndType 13 14), (0, u "java/lang/String"), (0, u "value"), (0, u "[B"), (0, .fieldref 10 16), (0, .nameAndType 17 18), (0, u "coder"), (0, u "B"), (2, u "hash"), (0, u "I"), (2, u "hashIsZero"), (0, u "Z"), (0, .methodref 10 28), (0, .nameAndType 5 29), (0, u "([CIILjava/lang/Void;)V"), (7, u "(III)I"), (0, .fieldref 10 39), (0, .nameAndType 40 26), (0, u "COMPACT_STRINGS"), (1, .class_ 44), (1, u "java/lang/StringUTF16"), (0, u "compress"), (1, .methodref 42 48), (0, .nameAndType 49 50), (0, u "coderFromArrayLen"), (0, u "([BI)B"), (3, .methodref 55 56), (0, .class_ 57), (0, .nameAndType 58 59), (0, u "java/util/Arrays"), (0, u "copyOfRange"), (0, u "([BII)[B"), (19, .class_ 81), (1, u "java/util/Objects"), (15, u "([BII)I"), (9, .class_ 109), (1, u "java/lang/StringLatin1"), (32, u "()Z"), (34, .methodref 42 178), (0, .nameAndType 45 179), (0, u "([CII)[B"), (13, .class_ 195), (1, u "java/lang/System"), (16, .methodref 193 213), (0, .nameAndType 214 215), (0, u "arraycopy"), (0, u "(Ljava/lang/Object;ILjava/lang/Object;II)V"), (118, u "()I"), (0, .methodref 10 336), (0, .nameAndType 17 337), (0, u "()B"), (2, u "()[B"), (22, u "([BI)C"), (27, u "(II)V"), (35, u "(I)C"), (61, .methodref 10 490), (0, .nameAndType 5 491), (0, u "(Ljava/lang/AbstractStringBuilder;Ljava/lang/Void;)V"), (0, .methodref 10 493), (0, .nameAndType 494 142), (0, u "isLatin1"), (0, .methodref 107 496), (0, .nameAndType 497 363), (0, u "charAt"), (3, u "checkIndex"), (3, .methodref 10 506), (0, .nameAndType 507 334), (0, u "length"), (3, .methodref 79 512), (0, .nameAndType 513 37), (0, u "checkFromToIndex"), (0, .methodref 42 515), (0, .nameAndType 516 97), (0, u "codePointCount"), (15, u "getBytes"), (16, .methodref 550 506), (0, .class_ 551), (0, u "java/lang/AbstractStringBuilder"), (0, .methodref 550 553), (0, .nameAndType 554 340), (0, u "getValue"), (20, .class_ 576), (0, u "java/lang/CharSequence"), (22, u "CASE_INSENSITIVE_ORDER"), (0, u "Ljava/util/Comparator;"), (35, u "(II)I"), (184, u "([BIB)V"), (188, u "([C)V"), (36, .methodref 550 493), (5, .fieldref 1054 1055), (0, .class_ 1056), (0, .nameAndType 1057 1058), (0, u "jdk/internal/util/Preconditions"), (0, u "SIOOBE_FORMATTER"), (0, u "Ljava/util/function/BiFunction;"), (0, .methodref 1054 1060), (0, .nameAndType 501 1061), (0, u "(IILjava/util/function/BiFunction;)I"), (39, u "serialPersistentFields"), (0, u "[Ljava/io/ObjectStreamField;"), (0, .class_ 1104), (0, u "java/lang/String$CaseInsensitiveComparator"), (1, .class_ 1107), (0, u "java/io/Serializable"), (0, .class_ 1109), (0, u "java/lang/Comparable"), (0, .class_ 1111), (0, u "java/lang/constant/Constable"), (0, .class_ 1113), (0, u "java/lang/constant/ConstantDesc"), (2, u "serialVersionUID"), (0, u "J"), (3, u "REPL"), (0, u "C"), (2, u "LATIN1"), (1, u "UTF16"), (105, u "(Ljava/lang/StringBuilder;)V")] 217

def k7m0 : Method := { name := "<init>", desc := "()V", sig := { parameters := [], returnType := none }, accessFlags := 1, code := none }
def k7c1 : Code := { maxStack := 5, maxLocals := 2, code := jdk_42_method_3_code, exceptionTable := #[], attributes := #[] }
def k7m1 : Method := { name := "<init>", desc := "([C)V", sig := { parameters := [(.array .char)], returnType := none }, accessFlags := 1, code := some k7c1 }
def k7c2 : Code := { maxStack := 3, maxLocals := 2, code := jdk_42_method_53_code, exceptionTable := #[], attributes := #[] }
def k7m2 : Method := { name := "<init>", desc := "(Ljava/lang/StringBuilder;)V", sig := { parameters := [(.object "java/lang/StringBuilder")], returnType := none }, accessFlags := 1, code := some k7c2 }
def k7c3 : Code := { maxStack := 2, maxLocals := 1, code := jdk_42_method_54_code, exceptionTable := #[], attributes := #[] }
def k7m3 : Method := { name := "length", desc := "()I", sig := { parameters := [], returnType := some .int }, accessFlags := 1, code := some k7c3 }
def k7c4 : Code := { maxStack := 2, maxLocals := 2, code := jdk_42_method_56_code, exceptionTable := #[], attributes := #[] }
def k7m4 : Method := { name := "charAt", desc := "(I)C", sig := { parameters := [.int], returnType := some .char }, accessFlags := 1, code := some k7c4 }
def k7c5 : Code := { maxStack := 3, maxLocals := 3, code := jdk_42_method_59_code, exceptionTable := #[], attributes := #[] }
def k7m5 : Method := { name := "codePointCount", desc := "(II)I", sig := { parameters := [.int, .int], returnType := some .int }, accessFlags := 1, code := some k7c5 }
def k7c6 : Code := { maxStack := 5, maxLocals := 4, code := jdk_42_method_147_code, exceptionTable := #[], attributes := #[] }
def k7m6 : Method := { name := "getBytes", desc := "([BIB)V", sig := { parameters := [(.array .byte), .int, .byte], returnType := none }, accessFlags := 0, code := some k7c6 }
def k7c7 : Code := { maxStack := 4, maxLocals := 6, code := jdk_42_method_149_code, exceptionTable := #[], attributes := #[] }
def k7m7 : Method := { name := "<init>", desc := "([CIILjava/lang/Void;)V", sig := { parameters := [(.array .char), .int, .int, (.object "java/lang/Void")], returnType := none }, accessFlags := 2, code := some k7c7 }
def k7c8 : Code := { maxStack := 5, maxLocals := 5, code := jdk_42_method_150_code, exceptionTable := #[], attributes := #[] }
def k7m8 : Method := { name := "<init>", desc := "(Ljava/lang/AbstractStringBuilder;Ljava/lang/Void;)V", sig := { parameters := [(.object "java/lang/AbstractStringBuilder"), (.object "java/lang/Void")], returnType := none }, accessFlags := 0, code := some k7c8 }
def k7c9 : Code := { maxStack := 1, maxLocals := 1, code := jdk_42_method_152_code, exceptionTable := #[], attributes := #[] }
def k7m9 : Method := { name := "coder", desc := "()B", sig := { parameters := [], returnType := some .byte }, accessFlags := 0, code := some k7c9 }
def k7c10 : Code := { maxStack := 1, maxLocals := 1, code := jdk_42_method_154_code, exceptionTable := #[], attributes := #[] }
def k7m10 : Method := { name := "isLatin1", desc := "()Z", sig := { parameters := [], returnType := some .boolean }, accessFlags := 0, code := some k7c10 }
def k7c11 : Code := { maxStack := 3, maxLocals := 2, code := jdk_42_method_155_code, exceptionTable := #[], attributes := #[] }
def k7m11 : Method := { name := "checkIndex", desc := "(II)V", sig := { parameters := [.int, .int], returnType := none }, accessFlags := 8, code := some k7c11 }
/-- java/lang/String -/
def k7 : Class := { plain "java/lang/String" (some 0) with
  accessFlags := 49
  interfaces := #[2, 3, 4, 5, 6]
  cf := some (fileOf pool7 10 #[.nestMembers #[1103]] #[{ accessFlags := 1, nameIndex := 5, descriptorIndex := 6, attributes := #[] }, { accessFlags := 1, nameIndex := 5, descriptorIndex := 1010, attributes := #[] }, { accessFlags := 1, nameIndex := 5, descriptorIndex := 1233, attributes := #[] }, { accessFlags := 1, nameIndex := 507, descriptorIndex := 334, attributes := #[] }, { accessFlags := 1, nameIndex := 497, descriptorIndex := 427, attributes := #[] }, { accessFlags := 1, nameIndex := 516, descriptorIndex := 636, attributes := #[] }, { accessFlags := 0, nameIndex := 532, descriptorIndex := 821, attributes := #[] }, { accessFlags := 2, nameIndex := 5, descriptorIndex := 29, attributes := #[] }, { accessFlags := 0, nameIndex := 5, descriptorIndex := 491, attributes := #[] }, { accessFlags := 0, nameIndex := 17, descriptorIndex := 337, attributes := #[] }, { accessFlags := 0, nameIndex := 494, descriptorIndex := 142, attributes := #[] }, { accessFlags := 8, nameIndex := 501, descriptorIndex := 391, attributes := #[] }] 49 2 #[1106, 1108, 575, 1110, 1112] #[{ accessFlags := 18, nameIndex := 13, descriptorIndex := 14, attributes := #[] }, { accessFlags := 18, nameIndex := 17, descriptorIndex := 18, attributes := #[] }, { accessFlags := 2, nameIndex := 21, descriptorIndex := 22, attributes := #[] }, { accessFlags := 2, nameIndex := 25, descriptorIndex := 26, attributes := #[] }, { accessFlags := 26, nameIndex := 1116, descriptorIndex := 1117, attributes := #[] }, { accessFlags := 24, nameIndex := 40, descriptorIndex := 26, attributes := #[] }, { accessFlags := 26, nameIndex := 1101, descriptorIndex := 1102, attributes := #[] }, { accessFlags := 26, nameIndex := 1121, descriptorIndex := 1122, attributes := #[] }, { accessFlags := 25, nameIndex := 599, descriptorIndex := 600, attributes := #[] }, { accessFlags := 24, nameIndex := 1125, descriptorIndex := 18, attributes := #[] }, { accessFlags := 24, nameIndex := 1127, descriptorIndex := 18, attributes := #[] }])
  fields := #[{ name := "value", type := (.array .byte), accessFlags := 18, slot := 0, constantValue := 0 }, { name := "coder", type := .byte, accessFlags := 18, slot := 1, constantValue := 0 }, { name := "hash", type := .int, accessFlags := 2, slot := 2, constantValue := 0 }, { name := "hashIsZero", type := .boolean, accessFlags := 2, slot := 3, constantValue := 0 }, { name := "serialVersionUID", type := .long, accessFlags := 26, slot := 0, constantValue := 0 }, { name := "COMPACT_STRINGS", type := .boolean, accessFlags := 24, slot := 1, constantValue := 0 }, { name := "serialPersistentFields", type := (.array (.object "java/io/ObjectStreamField")), accessFlags := 26, slot := 2, constantValue := 0 }, { name := "REPL", type := .char, accessFlags := 26, slot := 3, constantValue := 0 }, { name := "CASE_INSENSITIVE_ORDER", type := (.object "java/util/Comparator"), accessFlags := 25, slot := 4, constantValue := 0 }, { name := "LATIN1", type := .byte, accessFlags := 24, slot := 5, constantValue := 0 }, { name := "UTF16", type := .byte, accessFlags := 24, slot := 6, constantValue := 0 }]
  methods := #[k7m0, k7m1, k7m2, k7m3, k7m4, k7m5, k7m6, k7m7, k7m8, k7m9, k7m10, k7m11]
  instanceTypes := #[(.array .byte), .byte, .int, .boolean]
  staticTypes := #[.long, .boolean, (.array (.object "java/io/ObjectStreamField")), .char, (.object "java/util/Comparator"), .byte, .byte]
  resolved := Array.replicate 1451 none
  statics := some 0 }

def pool8 : Array CpInfo := pool [(1, .methodref 2 3), (0, .class_ 4), (0, .nameAndType 5 6), (0, u "java/lang/Object"), (0, u "<init>"), (0, u "()V"), (0, .string 8), (0, u "test"), (0, .methodref 10 11), (0, .class_ 12), (0, .nameAndType 13 14), (0, u "java/util/Objects"), (0, u "requireNonNull"), (0, u "(Ljava/lang/Object;Ljava/lang/String;)Ljava/lang/Object;"), (0, .class_ 16), (0, u "java/util/function/Predicate"), (0, .fieldref 18 19), (0, .class_ 20), (0, .nameAndType 8 21), (0, u "com/example/tillbeat/tillbeat/model/TextRule"), (0, u "Ljava/util/function/Predicate;"), (0, .string 23), (0, u "requirement"), (0, .class_ 25), (0, u "java/lang/String"), (0, .fieldref 18 27), (0, .nameAndType 23 28), (0, u "Ljava/lang/String;"), (0, .invokeDynamic 0 30), (0, .nameAndType 8 31), (0, u "(I)Ljava/util/function/Predicate;"), (0, .class_ 33), (0, u "java/lang/StringBuilder"), (0, .methodref 32 3), (0, .string 36), (0, u "must be at most "), (0, .methodref 32 38), (0, .nameAndType 39 40), (0, u "append"), (0, u "(Ljava/lang/String;)Ljava/lang/StringBuilder;"), (0, .methodref 32 42), (0, .nameAndType 39 43), (0, u "(I)Ljava/lang/StringBuilder;"), (0, .string 45), (0, u " characters"), (0, .methodref 32 47), (0, .nameAndType 48 49), (0, u "toString"), (0, u "()Ljava/lang/String;"), (0, .methodref 18 51), (0, .nameAndType 5 52), (0, u "(Ljava/util/function/Predicate;Ljava/lang/String;)V"), (21, u "()I"), (20, .interfaceMethodref 15 96), (0, .nameAndType 8 97), (0, u "(Ljava/lang/Object;)Z"), (0, .methodref 24 99), (0, .nameAndType 100 74), (0, u "length"), (0, .methodref 24 102), (0, .nameAndType 103 104), (0, u "codePointCount"), (0, u "(II)I"), (0, .methodref 18 106), (0, .nameAndType 107 108), (0, u "characters"), (0, u "(Ljava/lang/String;)I"), (5, u "atMost"), (0, u "(I)Lcom/example/tillbeat/tillbeat/model/TextRule;"), (10, u "allows"), (0, u "(Ljava/lang/String;)Z"), (3, u "lambda$atMost$0"), (0, u "(ILjava/lang/String;)Z"), (3, .methodType 97), (0, .methodHandle 6 138), (0, .methodref 18 139), (0, .nameAndType 131 132), (0, .methodType 127), (10, .methodHandle 6 152), (0, .methodref 153 154), (0, .class_ 155), (0, .nameAndType 156 157), (0, u "java/lang/invoke/LambdaMetafactory"), (0, u "metafactory"), (0, u "(Ljava/lang/invoke/MethodHandles$Lookup;Ljava/lang/String;Ljava/lang/invoke/MethodType;Ljava/lang/invoke/MethodType;Ljava/lang/invoke/MethodHandle;Ljava/lang/invoke/MethodType;)Ljava/lang/invoke/CallSite;")] 6

def k8c0 : Code := { maxStack := 3, maxLocals := 3, code := prog_25_method_1_code, exceptionTable := #[], attributes := #[] }
def k8m0 : Method := { name := "<init>", desc := "(Ljava/util/function/Predicate;Ljava/lang/String;)V", sig := { parameters := [(.object "java/util/function/Predicate"), (.object "java/lang/String")], returnType := none }, accessFlags := 2, code := some k8c0 }
def k8c1 : Code := { maxStack := 5, maxLocals := 1, code := prog_25_method_2_code, exceptionTable := #[], attributes := #[] }
def k8m1 : Method := { name := "atMost", desc := "(I)Lcom/example/tillbeat/tillbeat/model/TextRule;", sig := { parameters := [.int], returnType := some (.object "com/example/tillbeat/tillbeat/model/TextRule") }, accessFlags := 8, code := some k8c1 }
def k8c2 : Code := { maxStack := 2, maxLocals := 2, code := prog_25_method_7_code, exceptionTable := #[], attributes := #[] }
def k8m2 : Method := { name := "allows", desc := "(Ljava/lang/String;)Z", sig := { parameters := [(.object "java/lang/String")], returnType := some .boolean }, accessFlags := 0, code := some k8c2 }
def k8c3 : Code := { maxStack := 1, maxLocals := 1, code := prog_25_method_8_code, exceptionTable := #[], attributes := #[] }
def k8m3 : Method := { name := "requirement", desc := "()Ljava/lang/String;", sig := { parameters := [], returnType := some (.object "java/lang/String") }, accessFlags := 0, code := some k8c3 }
def k8c4 : Code := { maxStack := 3, maxLocals := 1, code := prog_25_method_9_code, exceptionTable := #[], attributes := #[] }
def k8m4 : Method := { name := "characters", desc := "(Ljava/lang/String;)I", sig := { parameters := [(.object "java/lang/String")], returnType := some .int }, accessFlags := 10, code := some k8c4 }
def k8c5 : Code := { maxStack := 2, maxLocals := 2, code := prog_25_method_12_code, exceptionTable := #[], attributes := #[] }
def k8m5 : Method := { name := "lambda$atMost$0", desc := "(ILjava/lang/String;)Z", sig := { parameters := [.int, (.object "java/lang/String")], returnType := some .boolean }, accessFlags := 4106, code := some k8c5 }
/-- com/example/tillbeat/tillbeat/model/TextRule -/
def k8 : Class := { plain "com/example/tillbeat/tillbeat/model/TextRule" (some 0) with
  accessFlags := 48
  interfaces := #[]
  cf := some (fileOf pool8 18 #[.bootstrapMethods #[⟨151, #[136, 137, 140]⟩, ⟨0, #[]⟩, ⟨0, #[]⟩, ⟨0, #[]⟩]] #[{ accessFlags := 2, nameIndex := 5, descriptorIndex := 52, attributes := #[] }, { accessFlags := 8, nameIndex := 114, descriptorIndex := 115, attributes := #[] }, { accessFlags := 0, nameIndex := 126, descriptorIndex := 127, attributes := #[] }, { accessFlags := 0, nameIndex := 23, descriptorIndex := 49, attributes := #[] }, { accessFlags := 10, nameIndex := 107, descriptorIndex := 108, attributes := #[] }, { accessFlags := 4106, nameIndex := 131, descriptorIndex := 132, attributes := #[] }] 48 2 #[] #[{ accessFlags := 18, nameIndex := 8, descriptorIndex := 21, attributes := #[] }, { accessFlags := 18, nameIndex := 23, descriptorIndex := 28, attributes := #[] }])
  fields := #[{ name := "test", type := (.object "java/util/function/Predicate"), accessFlags := 18, slot := 0, constantValue := 0 }, { name := "requirement", type := (.object "java/lang/String"), accessFlags := 18, slot := 1, constantValue := 0 }]
  methods := #[k8m0, k8m1, k8m2, k8m3, k8m4, k8m5]
  instanceTypes := #[(.object "java/util/function/Predicate"), (.object "java/lang/String")]
  staticTypes := #[]
  resolved := Array.replicate 164 none
  callSites := [(1, 5, .makes 31)]
  statics := none }

def pool9 : Array CpInfo := pool [(9, u "test"), (12, .class_ 24), (1, u "java/util/function/Predicate"), (2, .class_ 29), (1, u "java/lang/Object"), (1, u "(Ljava/lang/Object;)Z")] 69

def k9m0 : Method := { name := "test", desc := "(Ljava/lang/Object;)Z", sig := { parameters := [(.object "java/lang/Object")], returnType := some .boolean }, accessFlags := 1025, code := none }
/-- java/util/function/Predicate -/
def k9 : Class := { plain "java/util/function/Predicate" (some 0) with
  accessFlags := 1537
  interfaces := #[]
  cf := some (fileOf pool9 22 #[] #[{ accessFlags := 1025, nameIndex := 9, descriptorIndex := 31, attributes := #[] }] 1537 27 #[] #[])
  fields := #[]
  methods := #[k9m0]
  instanceTypes := #[]
  staticTypes := #[]
  resolved := Array.replicate 101 none
  statics := none }

def pool10 : Array CpInfo := pool [(1, .class_ 2), (0, u "java/lang/Appendable"), (0, .class_ 4), (0, u "java/lang/Object")] 9

/-- java/lang/Appendable -/
def k10 : Class := { plain "java/lang/Appendable" (some 0) with
  accessFlags := 1537
  interfaces := #[]
  cf := some (fileOf pool10 1 #[] #[] 1537 3 #[] #[])
  fields := #[]
  methods := #[]
  instanceTypes := #[]
  staticTypes := #[]
  resolved := Array.replicate 14 none
  statics := none }

def pool11 : Array CpInfo := pool [(1, .class_ 2), (0, u "java/lang/String"), (0, .methodref 4 5), (0, .class_ 6), (0, .nameAndType 7 8), (0, u "java/lang/Object"), (0, u "<init>"), (0, u "()V"), (1, .class_ 12), (1, u "java/lang/AbstractStringBuilder"), (0, u "EMPTYVALUE"), (0, u "[B"), (0, .fieldref 10 16), (0, .nameAndType 17 14), (0, u "value"), (0, .fieldref 1 19), (0, .nameAndType 20 21), (0, u "COMPACT_STRINGS"), (0, u "Z"), (0, .fieldref 10 23), (0, .nameAndType 24 25), (0, u "coder"), (0, u "B"), (6, .methodref 1 33), (0, .nameAndType 34 35), (0, u "length"), (0, u "()I"), (0, .class_ 37), (0, u "java/lang/Integer"), (1, .integer 2147483647), (0, .methodref 1 41), (0, .nameAndType 24 42), (0, u "()B"), (2, u "append"), (0, u "(Ljava/lang/String;)Ljava/lang/AbstractStringBuilder;"), (1, .class_ 49), (0, u "java/lang/CharSequence"), (19, u "(Ljava/lang/String;)V"), (5, u "maybeLatin1"), (3, .fieldref 10 80), (0, .nameAndType 81 82), (0, u "count"), (0, u "I"), (0, .methodref 10 84), (0, .nameAndType 85 86), (0, u "isLatin1"), (0, u "()Z"), (13, .methodref 10 101), (0, .nameAndType 102 103), (0, u "ensureCapacityInternal"), (0, u "(I)V"), (0, .methodref 10 105), (0, .nameAndType 106 107), (0, u "newCapacity"), (0, u "(I)I"), (0, .methodref 109 110), (0, .class_ 111), (0, .nameAndType 112 113), (0, u "java/util/Arrays"), (0, u "copyOf"), (0, u "([BI)[B"), (0, .methodref 115 116), (0, .class_ 117), (0, .nameAndType 118 119), (0, u "jdk/internal/util/ArraysSupport"), (0, u "newLength"), (0, u "(III)I"), (68, u "getChars"), (19, .methodref 10 209), (0, .nameAndType 210 211), (0, u "putStringAt"), (0, u "(ILjava/lang/String;)V"), (5, u "inflateIfNeededFor"), (2, .nameAndType 221 222), (0, u "getBytes"), (0, u "([BIB)V"), (22, .methodref 36 246), (0, .nameAndType 247 107), (0, u "stringSize"), (0, .methodref 36 249), (0, .nameAndType 188 250), (0, u "(II[B)I"), (146, .methodref 10 398), (0, .nameAndType 217 69), (0, .methodref 1 220), (3, u "()[B"), (40, .class_ 445), (0, u "java/lang/Appendable"), (65, u "(I)Ljava/lang/AbstractStringBuilder;"), (40, u "getValue")] 56

def k11m0 : Method := { name := "<init>", desc := "()V", sig := { parameters := [], returnType := none }, accessFlags := 0, code := none }
def k11c1 : Code := { maxStack := 2, maxLocals := 2, code := jdk_68_method_2_code, exceptionTable := #[], attributes := #[] }
def k11m1 : Method := { name := "<init>", desc := "(I)V", sig := { parameters := [.int], returnType := none }, accessFlags := 0, code := some k11c1 }
def k11c2 : Code := { maxStack := 1, maxLocals := 1, code := jdk_68_method_6_code, exceptionTable := #[], attributes := #[] }
def k11m2 : Method := { name := "length", desc := "()I", sig := { parameters := [], returnType := some .int }, accessFlags := 1, code := some k11c2 }
def k11c3 : Code := { maxStack := 4, maxLocals := 3, code := jdk_68_method_9_code, exceptionTable := #[], attributes := #[] }
def k11m3 : Method := { name := "ensureCapacityInternal", desc := "(I)V", sig := { parameters := [.int], returnType := none }, accessFlags := 2, code := some k11c3 }
def k11c4 : Code := { maxStack := 5, maxLocals := 6, code := jdk_68_method_10_code, exceptionTable := #[], attributes := #[] }
def k11m4 : Method := { name := "newCapacity", desc := "(I)I", sig := { parameters := [.int], returnType := some .int }, accessFlags := 2, code := some k11c4 }
def k11c5 : Code := { maxStack := 3, maxLocals := 3, code := jdk_68_method_22_code, exceptionTable := #[], attributes := #[] }
def k11m5 : Method := { name := "append", desc := "(Ljava/lang/String;)Ljava/lang/AbstractStringBuilder;", sig := { parameters := [(.object "java/lang/String")], returnType := some (.object "java/lang/AbstractStringBuilder") }, accessFlags := 1, code := some k11c5 }
def k11c6 : Code := { maxStack := 4, maxLocals := 4, code := jdk_68_method_32_code, exceptionTable := #[], attributes := #[] }
def k11m6 : Method := { name := "append", desc := "(I)Ljava/lang/AbstractStringBuilder;", sig := { parameters := [.int], returnType := some (.object "java/lang/AbstractStringBuilder") }, accessFlags := 1, code := some k11c6 }
def k11c7 : Code := { maxStack := 1, maxLocals := 1, code := jdk_68_method_64_code, exceptionTable := #[], attributes := #[] }
def k11m7 : Method := { name := "getValue", desc := "()[B", sig := { parameters := [], returnType := some (.array .byte) }, accessFlags := 16, code := some k11c7 }
def k11c8 : Code := { maxStack := 1, maxLocals := 1, code := jdk_68_method_68_code, exceptionTable := #[], attributes := #[] }
def k11m8 : Method := { name := "isLatin1", desc := "()Z", sig := { parameters := [], returnType := some .boolean }, accessFlags := 16, code := some k11c8 }
def k11c9 : Code := { maxStack := 2, maxLocals := 2, code := jdk_68_method_71_code, exceptionTable := #[], attributes := #[] }
def k11m9 : Method := { name := "inflateIfNeededFor", desc := "(Ljava/lang/String;)V", sig := { parameters := [(.object "java/lang/String")], returnType := none }, accessFlags := 2, code := some k11c9 }
def k11c10 : Code := { maxStack := 4, maxLocals := 3, code := jdk_68_method_73_code, exceptionTable := #[], attributes := #[] }
def k11m10 : Method := { name := "putStringAt", desc := "(ILjava/lang/String;)V", sig := { parameters := [.int, (.object "java/lang/String")], returnType := none }, accessFlags := 2, code := some k11c10 }
/-- java/lang/AbstractStringBuilder -/
def k11 : Class := { plain "java/lang/AbstractStringBuilder" (some 0) with
  accessFlags := 1056
  interfaces := #[10, 4]
  cf := some (fileOf pool11 10 #[] #[{ accessFlags := 0, nameIndex := 7, descriptorIndex := 8, attributes := #[] }, { accessFlags := 0, nameIndex := 7, descriptorIndex := 103, attributes := #[] }, { accessFlags := 1, nameIndex := 34, descriptorIndex := 35, attributes := #[] }, { accessFlags := 2, nameIndex := 102, descriptorIndex := 103, attributes := #[] }, { accessFlags := 2, nameIndex := 106, descriptorIndex := 107, attributes := #[] }, { accessFlags := 1, nameIndex := 45, descriptorIndex := 46, attributes := #[] }, { accessFlags := 1, nameIndex := 45, descriptorIndex := 511, attributes := #[] }, { accessFlags := 16, nameIndex := 552, descriptorIndex := 403, attributes := #[] }, { accessFlags := 16, nameIndex := 85, descriptorIndex := 86, attributes := #[] }, { accessFlags := 2, nameIndex := 217, descriptorIndex := 69, attributes := #[] }, { accessFlags := 2, nameIndex := 210, descriptorIndex := 211, attributes := #[] }] 1056 4 #[444, 48] #[{ accessFlags := 0, nameIndex := 17, descriptorIndex := 14, attributes := #[] }, { accessFlags := 0, nameIndex := 24, descriptorIndex := 25, attributes := #[] }, { accessFlags := 0, nameIndex := 75, descriptorIndex := 21, attributes := #[] }, { accessFlags := 0, nameIndex := 81, descriptorIndex := 82, attributes := #[] }, { accessFlags := 26, nameIndex := 13, descriptorIndex := 14, attributes := #[] }])
  fields := #[{ name := "value", type := (.array .byte), accessFlags := 0, slot := 0, constantValue := 0 }, { name := "coder", type := .byte, accessFlags := 0, slot := 1, constantValue := 0 }, { name := "maybeLatin1", type := .boolean, accessFlags := 0, slot := 2, constantValue := 0 }, { name := "count", type := .int, accessFlags := 0, slot := 3, constantValue := 0 }, { name := "EMPTYVALUE", type := (.array .byte), accessFlags := 26, slot := 0, constantValue := 0 }]
  methods := #[k11m0, k11m1, k11m2, k11m3, k11m4, k11m5, k11m6, k11m7, k11m8, k11m9, k11m10]
  instanceTypes := #[(.array .byte), .byte, .boolean, .int]
  staticTypes := #[(.array .byte)]
  resolved := Array.replicate 609 none
  statics := none }

def pool12 : Array CpInfo := pool [(1, .methodref 2 3), (0, .class_ 4), (0, .nameAndType 5 6), (0, u "java/lang/AbstractStringBuilder"), (0, u "<init>"), (0, u "(I)V"), (11, .class_ 20), (1, u "java/lang/String"), (3, .class_ 26), (1, u "java/lang/StringBuilder"), (0, u "append"), (0, u "(Ljava/lang/String;)Ljava/lang/StringBuilder;"), (0, .methodref 2 30), (0, .nameAndType 27 31), (0, u "(Ljava/lang/String;)Ljava/lang/AbstractStringBuilder;"), (21, .methodref 2 54), (0, .nameAndType 27 55), (0, u "(I)Ljava/lang/AbstractStringBuilder;"), (81, .methodref 18 138), (0, .nameAndType 5 139), (0, u "(Ljava/lang/StringBuilder;)V"), (5, u "()V"), (10, u "()I"), (111, u "(I)Ljava/lang/StringBuilder;"), (74, .methodref 2 344), (0, .nameAndType 345 156), (0, u "length"), (3, .class_ 350), (0, u "java/lang/Appendable"), (0, .class_ 352), (0, u "java/io/Serializable"), (0, .class_ 354), (0, u "java/lang/Comparable"), (0, .class_ 356), (0, u "java/lang/CharSequence"), (0, u "serialVersionUID"), (0, u "J"), (40, u "toString"), (0, u "()Ljava/lang/String;")] 21

def k12c0 : Code := { maxStack := 2, maxLocals := 1, code := jdk_67_method_1_code, exceptionTable := #[], attributes := #[] }
def k12m0 : Method := { name := "<init>", desc := "()V", sig := { parameters := [], returnType := none }, accessFlags := 1, code := some k12c0 }
def k12c1 : Code := { maxStack := 2, maxLocals := 2, code := jdk_67_method_7_code, exceptionTable := #[], attributes := #[] }
def k12m1 : Method := { name := "append", desc := "(Ljava/lang/String;)Ljava/lang/StringBuilder;", sig := { parameters := [(.object "java/lang/String")], returnType := some (.object "java/lang/StringBuilder") }, accessFlags := 1, code := some k12c1 }
def k12c2 : Code := { maxStack := 2, maxLocals := 2, code := jdk_67_method_15_code, exceptionTable := #[], attributes := #[] }
def k12m2 : Method := { name := "append", desc := "(I)Ljava/lang/StringBuilder;", sig := { parameters := [.int], returnType := some (.object "java/lang/StringBuilder") }, accessFlags := 1, code := some k12c2 }
def k12c3 : Code := { maxStack := 3, maxLocals := 1, code := jdk_67_method_42_code, exceptionTable := #[], attributes := #[] }
def k12m3 : Method := { name := "toString", desc := "()Ljava/lang/String;", sig := { parameters := [], returnType := some (.object "java/lang/String") }, accessFlags := 1, code := some k12c3 }
def k12c4 : Code := { maxStack := 1, maxLocals := 1, code := jdk_67_method_93_code, exceptionTable := #[], attributes := #[] }
def k12m4 : Method := { name := "length", desc := "()I", sig := { parameters := [], returnType := some .int }, accessFlags := 4161, code := some k12c4 }
/-- java/lang/StringBuilder -/
def k12 : Class := { plain "java/lang/StringBuilder" (some 11) with
  accessFlags := 49
  interfaces := #[10, 2, 3, 4]
  cf := some (fileOf pool12 24 #[] #[{ accessFlags := 1, nameIndex := 5, descriptorIndex := 145, attributes := #[] }, { accessFlags := 1, nameIndex := 27, descriptorIndex := 28, attributes := #[] }, { accessFlags := 1, nameIndex := 27, descriptorIndex := 268, attributes := #[] }, { accessFlags := 1, nameIndex := 399, descriptorIndex := 400, attributes := #[] }, { accessFlags := 4161, nameIndex := 345, descriptorIndex := 156, attributes := #[] }] 49 2 #[349, 351, 353, 355] #[{ accessFlags := 24, nameIndex := 357, descriptorIndex := 358, attributes := #[] }])
  fields := #[{ name := "serialVersionUID", type := .long, accessFlags := 24, slot := 0, constantValue := 0 }]
  methods := #[k12m0, k12m1, k12m2, k12m3, k12m4]
  instanceTypes := #[(.array .byte), .byte, .boolean, .int]
  staticTypes := #[.long]
  resolved := Array.replicate 422 none
  statics := none }

def pool13 : Array CpInfo := pool [(2, .class_ 4), (1, u "java/lang/Object"), (0, u "<init>"), (0, u "()V"), (1, .class_ 10), (1, u "java/lang/System"), (0, u "allowSecurityManager"), (0, u "I"), (16, u "cons"), (0, u "Ljava/io/Console;"), (77, .class_ 110), (1, u "java/lang/System$CallersHolder"), (43, u "initialErrStream"), (0, u "Ljava/io/PrintStream;"), (19, u "security"), (0, u "Ljava/lang/SecurityManager;"), (31, .class_ 209), (0, u "java/lang/System$1"), (7, u "props"), (0, u "Ljava/util/Properties;"), (2, u "lineSeparator"), (0, u "Ljava/lang/String;"), (96, .class_ 321), (1, u "java/lang/System$LoggerFinder"), (5, .class_ 328), (0, u "java/lang/System$Logger"), (67, u "err"), (2, u "out"), (91, u "notSupportedJnuEncoding"), (15, u "in"), (17, u "initialIn"), (0, u "Ljava/io/InputStream;"), (35, u "bootLayer"), (0, u "Ljava/lang/ModuleLayer;"), (99, .class_ 664), (0, u "java/lang/System$2"), (9, u "NEVER"), (2, u "MAYBE"), (49, u "arraycopy"), (0, u "(Ljava/lang/Object;ILjava/lang/Object;II)V"), (72, .class_ 802), (0, u "java/lang/System$Logger$Level")] 31

def k13m0 : Method := { name := "<init>", desc := "()V", sig := { parameters := [], returnType := none }, accessFlags := 2, code := none }
def k13m1 : Method := { name := "arraycopy", desc := "(Ljava/lang/Object;ILjava/lang/Object;II)V", sig := { parameters := [(.object "java/lang/Object"), .int, (.object "java/lang/Object"), .int, .int], returnType := none }, accessFlags := 265, code := none }
/-- java/lang/System -/
def k13 : Class := { plain "java/lang/System" (some 0) with
  accessFlags := 49
  interfaces := #[]
  cf := some (fileOf pool13 8 #[.nestMembers #[319, 327, 801, 108, 663, 208]] #[{ accessFlags := 2, nameIndex := 5, descriptorIndex := 6, attributes := #[] }, { accessFlags := 265, nameIndex := 727, descriptorIndex := 728, attributes := #[] }] 49 2 #[] #[{ accessFlags := 25, nameIndex := 507, descriptorIndex := 526, attributes := #[] }, { accessFlags := 25, nameIndex := 399, descriptorIndex := 155, attributes := #[] }, { accessFlags := 25, nameIndex := 396, descriptorIndex := 155, attributes := #[] }, { accessFlags := 10, nameIndex := 525, descriptorIndex := 526, attributes := #[] }, { accessFlags := 26, nameIndex := 674, descriptorIndex := 12, attributes := #[] }, { accessFlags := 26, nameIndex := 677, descriptorIndex := 12, attributes := #[] }, { accessFlags := 10, nameIndex := 11, descriptorIndex := 12, attributes := #[] }, { accessFlags := 74, nameIndex := 175, descriptorIndex := 176, attributes := #[] }, { accessFlags := 10, nameIndex := 491, descriptorIndex := 222, attributes := #[] }, { accessFlags := 74, nameIndex := 29, descriptorIndex := 30, attributes := #[] }, { accessFlags := 74, nameIndex := 154, descriptorIndex := 155, attributes := #[] }, { accessFlags := 10, nameIndex := 217, descriptorIndex := 218, attributes := #[] }, { accessFlags := 10, nameIndex := 221, descriptorIndex := 222, attributes := #[] }, { accessFlags := 8, nameIndex := 562, descriptorIndex := 563, attributes := #[] }])
  fields := #[{ name := "in", type := (.object "java/io/InputStream"), accessFlags := 25, slot := 0, constantValue := 0 }, { name := "out", type := (.object "java/io/PrintStream"), accessFlags := 25, slot := 1, constantValue := 0 }, { name := "err", type := (.object "java/io/PrintStream"), accessFlags := 25, slot := 2, constantValue := 0 }, { name := "initialIn", type := (.object "java/io/InputStream"), accessFlags := 10, slot := 3, constantValue := 0 }, { name := "NEVER", type := .int, accessFlags := 26, slot := 4, constantValue := 0 }, { name := "MAYBE", type := .int, accessFlags := 26, slot := 5, constantValue := 0 }, { name := "allowSecurityManager", type := .int, accessFlags := 10, slot := 6, constantValue := 0 }, { name := "security", type := (.object "java/lang/SecurityManager"), accessFlags := 74, slot := 7, constantValue := 0 }, { name := "notSupportedJnuEncoding", type := (.object "java/lang/String"), accessFlags := 10, slot := 8, constantValue := 0 }, { name := "cons", type := (.object "java/io/Console"), accessFlags := 74, slot := 9, constantValue := 0 }, { name := "initialErrStream", type := (.object "java/io/PrintStream"), accessFlags := 74, slot := 10, constantValue := 0 }, { name := "props", type := (.object "java/util/Properties"), accessFlags := 10, slot := 11, constantValue := 0 }, { name := "lineSeparator", type := (.object "java/lang/String"), accessFlags := 10, slot := 12, constantValue := 0 }, { name := "bootLayer", type := (.object "java/lang/ModuleLayer"), accessFlags := 8, slot := 13, constantValue := 0 }]
  methods := #[k13m0, k13m1]
  instanceTypes := #[]
  staticTypes := #[(.object "java/io/InputStream"), (.object "java/io/PrintStream"), (.object "java/io/PrintStream"), (.object "java/io/InputStream"), .int, .int, .int, (.object "java/lang/SecurityManager"), (.object "java/lang/String"), (.object "java/io/Console"), (.object "java/io/PrintStream"), (.object "java/util/Properties"), (.object "java/lang/String"), (.object "java/lang/ModuleLayer")]
  resolved := Array.replicate 834 none
  statics := none }

def pool14 : Array CpInfo := pool [(2, .class_ 4), (1, u "java/lang/Object"), (0, u "<init>"), (0, u "()V"), (1, .class_ 10), (1, u "java/lang/Number"), (2, .class_ 14), (0, u "java/io/Serializable"), (0, u "serialVersionUID"), (0, u "J")] 20

def k14m0 : Method := { name := "<init>", desc := "()V", sig := { parameters := [], returnType := none }, accessFlags := 1, code := none }
/-- java/lang/Number -/
def k14 : Class := { plain "java/lang/Number" (some 0) with
  accessFlags := 1057
  interfaces := #[2]
  cf := some (fileOf pool14 8 #[] #[{ accessFlags := 1, nameIndex := 5, descriptorIndex := 6, attributes := #[] }] 1057 2 #[13] #[{ accessFlags := 26, nameIndex := 15, descriptorIndex := 16, attributes := #[] }])
  fields := #[{ name := "serialVersionUID", type := .long, accessFlags := 26, slot := 0, constantValue := 0 }]
  methods := #[k14m0]
  instanceTypes := #[]
  staticTypes := #[.long]
  resolved := Array.replicate 37 none
  statics := none }

def pool15 : Array CpInfo := pool [(1, .class_ 2), (0, u "java/lang/Integer"), (16, u "digits"), (0, u "[C"), (33, u "(I)I"), (19, u "stringSize"), (2, u "getChars"), (0, u "(II[B)I"), (4, .fieldref 1 84), (0, .nameAndType 85 86), (0, u "DigitOnes"), (0, u "[B"), (0, .fieldref 1 88), (0, .nameAndType 89 86), (0, u "DigitTens"), (99, .class_ 190), (0, u "java/lang/Integer$IntegerCache"), (3, u "I"), (8, .class_ 204), (0, u "java/lang/Number"), (2, u "value"), (94, u "TYPE"), (0, u "Ljava/lang/Class;"), (0, .class_ 305), (0, u "java/lang/Comparable"), (0, .class_ 307), (0, u "java/lang/constant/Constable"), (0, .class_ 309), (0, u "java/lang/constant/ConstantDesc"), (0, u "MIN_VALUE"), (1, u "MAX_VALUE"), (3, u "SIZE"), (1, u "BYTES"), (1, u "serialVersionUID"), (0, u "J")] 131

def k15c0 : Code := { maxStack := 4, maxLocals := 7, code := jdk_33_method_12_code, exceptionTable := #[], attributes := #[] }
def k15m0 : Method := { name := "getChars", desc := "(II[B)I", sig := { parameters := [.int, .int, (.array .byte)], returnType := some .int }, accessFlags := 8, code := some k15c0 }
def k15c1 : Code := { maxStack := 2, maxLocals := 4, code := jdk_33_method_13_code, exceptionTable := #[], attributes := #[] }
def k15m1 : Method := { name := "stringSize", desc := "(I)I", sig := { parameters := [.int], returnType := some .int }, accessFlags := 8, code := some k15c1 }
/-- java/lang/Integer -/
def k15 : Class := { plain "java/lang/Integer" (some 14) with
  accessFlags := 49
  interfaces := #[3, 5, 6]
  cf := some (fileOf pool15 1 #[.nestMembers #[189]] #[{ accessFlags := 8, nameIndex := 77, descriptorIndex := 78, attributes := #[] }, { accessFlags := 8, nameIndex := 74, descriptorIndex := 54, attributes := #[] }] 49 203 #[304, 306, 308] #[{ accessFlags := 25, nameIndex := 310, descriptorIndex := 194, attributes := #[] }, { accessFlags := 25, nameIndex := 312, descriptorIndex := 194, attributes := #[] }, { accessFlags := 25, nameIndex := 302, descriptorIndex := 303, attributes := #[] }, { accessFlags := 24, nameIndex := 19, descriptorIndex := 20, attributes := #[] }, { accessFlags := 24, nameIndex := 89, descriptorIndex := 86, attributes := #[] }, { accessFlags := 24, nameIndex := 85, descriptorIndex := 86, attributes := #[] }, { accessFlags := 18, nameIndex := 207, descriptorIndex := 194, attributes := #[] }, { accessFlags := 25, nameIndex := 316, descriptorIndex := 194, attributes := #[] }, { accessFlags := 25, nameIndex := 318, descriptorIndex := 194, attributes := #[] }, { accessFlags := 26, nameIndex := 320, descriptorIndex := 321, attributes := #[] }])
  fields := #[{ name := "MIN_VALUE", type := .int, accessFlags := 25, slot := 0, constantValue := 0 }, { name := "MAX_VALUE", type := .int, accessFlags := 25, slot := 1, constantValue := 0 }, { name := "TYPE", type := (.object "java/lang/Class"), accessFlags := 25, slot := 2, constantValue := 0 }, { name := "digits", type := (.array .char), accessFlags := 24, slot := 3, constantValue := 0 }, { name := "DigitTens", type := (.array .byte), accessFlags := 24, slot := 4, constantValue := 0 }, { name := "DigitOnes", type := (.array .byte), accessFlags := 24, slot := 5, constantValue := 0 }, { name := "value", type := .int, accessFlags := 18, slot := 0, constantValue := 0 }, { name := "SIZE", type := .int, accessFlags := 25, slot := 6, constantValue := 0 }, { name := "BYTES", type := .int, accessFlags := 25, slot := 7, constantValue := 0 }, { name := "serialVersionUID", type := .long, accessFlags := 26, slot := 8, constantValue := 0 }]
  methods := #[k15m0, k15m1]
  instanceTypes := #[.int]
  staticTypes := #[.int, .int, (.object "java/lang/Class"), (.array .char), (.array .byte), (.array .byte), .int, .int, .long]
  resolved := Array.replicate 453 none
  statics := some 1 }

def pool16 : Array CpInfo := pool [(9, u "<init>"), (6, .class_ 18), (1, u "java/lang/Object"), (0, u "()V"), (1, .class_ 23), (1, u "jdk/internal/util/ArraysSupport"), (0, u "LOG2_ARRAY_LONG_INDEX_SCALE"), (0, u "I"), (2, u "U"), (0, u "Ljdk/internal/misc/Unsafe;"), (8, u "BIG_ENDIAN"), (0, u "Z"), (8, u "LOG2_BYTE_BIT_SIZE"), (4, u "LOG2_ARRAY_INT_INDEX_SCALE"), (54, u "JLA"), (0, u "Ljdk/internal/access/JavaLangAccess;"), (11, u "LOG2_ARRAY_BOOLEAN_INDEX_SCALE"), (9, u "LOG2_ARRAY_BYTE_INDEX_SCALE"), (5, u "LOG2_ARRAY_CHAR_INDEX_SCALE"), (5, u "LOG2_ARRAY_SHORT_INDEX_SCALE"), (18, u "LOG2_ARRAY_FLOAT_INDEX_SCALE"), (24, u "LOG2_ARRAY_DOUBLE_INDEX_SCALE"), (6, .methodref 195 196), (0, .class_ 197), (0, .nameAndType 198 199), (0, u "java/lang/Math"), (0, u "max"), (0, u "(II)I"), (0, .integer 2147483639), (76, u "T_BOOLEAN"), (2, u "T_CHAR"), (1, u "T_FLOAT"), (1, u "T_DOUBLE"), (1, u "T_BYTE"), (1, u "T_SHORT"), (1, u "T_INT"), (1, u "T_LONG"), (1, u "SOFT_MAX_ARRAY_LENGTH"), (56, u "newLength"), (0, u "(III)I")] 25

def k16m0 : Method := { name := "<init>", desc := "()V", sig := { parameters := [], returnType := none }, accessFlags := 2, code := none }
def k16c1 : Code := { maxStack := 3, maxLocals := 4, code := jdk_48_method_27_code, exceptionTable := #[], attributes := #[] }
def k16m1 : Method := { name := "newLength", desc := "(III)I", sig := { parameters := [.int, .int, .int], returnType := some .int }, accessFlags := 9, code := some k16c1 }
/-- jdk/internal/util/ArraysSupport -/
def k16 : Class := { plain "jdk/internal/util/ArraysSupport" (some 0) with
  accessFlags := 33
  interfaces := #[]
  cf := some (fileOf pool16 21 #[] #[{ accessFlags := 2, nameIndex := 9, descriptorIndex := 19, attributes := #[] }, { accessFlags := 9, nameIndex := 351, descriptorIndex := 352, attributes := #[] }] 33 16 #[] #[{ accessFlags := 24, nameIndex := 28, descriptorIndex := 29, attributes := #[] }, { accessFlags := 26, nameIndex := 38, descriptorIndex := 39, attributes := #[] }, { accessFlags := 25, nameIndex := 121, descriptorIndex := 25, attributes := #[] }, { accessFlags := 25, nameIndex := 131, descriptorIndex := 25, attributes := #[] }, { accessFlags := 25, nameIndex := 137, descriptorIndex := 25, attributes := #[] }, { accessFlags := 25, nameIndex := 143, descriptorIndex := 25, attributes := #[] }, { accessFlags := 25, nameIndex := 53, descriptorIndex := 25, attributes := #[] }, { accessFlags := 25, nameIndex := 24, descriptorIndex := 25, attributes := #[] }, { accessFlags := 25, nameIndex := 162, descriptorIndex := 25, attributes := #[] }, { accessFlags := 25, nameIndex := 187, descriptorIndex := 25, attributes := #[] }, { accessFlags := 26, nameIndex := 48, descriptorIndex := 25, attributes := #[] }, { accessFlags := 25, nameIndex := 277, descriptorIndex := 25, attributes := #[] }, { accessFlags := 25, nameIndex := 280, descriptorIndex := 25, attributes := #[] }, { accessFlags := 25, nameIndex := 282, descriptorIndex := 25, attributes := #[] }, { accessFlags := 25, nameIndex := 284, descriptorIndex := 25, attributes := #[] }, { accessFlags := 25, nameIndex := 286, descriptorIndex := 25, attributes := #[] }, { accessFlags := 25, nameIndex := 288, descriptorIndex := 25, attributes := #[] }, { accessFlags := 25, nameIndex := 290, descriptorIndex := 25, attributes := #[] }, { accessFlags := 25, nameIndex := 292, descriptorIndex := 25, attributes := #[] }, { accessFlags := 26, nameIndex := 108, descriptorIndex := 109, attributes := #[] }, { accessFlags := 25, nameIndex := 294, descriptorIndex := 25, attributes := #[] }])
  fields := #[{ name := "U", type := (.object "jdk/internal/misc/Unsafe"), accessFlags := 24, slot := 0, constantValue := 0 }, { name := "BIG_ENDIAN", type := .boolean, accessFlags := 26, slot := 1, constantValue := 0 }, { name := "LOG2_ARRAY_BOOLEAN_INDEX_SCALE", type := .int, accessFlags := 25, slot := 2, constantValue := 0 }, { name := "LOG2_ARRAY_BYTE_INDEX_SCALE", type := .int, accessFlags := 25, slot := 3, constantValue := 0 }, { name := "LOG2_ARRAY_CHAR_INDEX_SCALE", type := .int, accessFlags := 25, slot := 4, constantValue := 0 }, { name := "LOG2_ARRAY_SHORT_INDEX_SCALE", type := .int, accessFlags := 25, slot := 5, constantValue := 0 }, { name := "LOG2_ARRAY_INT_INDEX_SCALE", type := .int, accessFlags := 25, slot := 6, constantValue := 0 }, { name := "LOG2_ARRAY_LONG_INDEX_SCALE", type := .int, accessFlags := 25, slot := 7, constantValue := 0 }, { name := "LOG2_ARRAY_FLOAT_INDEX_SCALE", type := .int, accessFlags := 25, slot := 8, constantValue := 0 }, { name := "LOG2_ARRAY_DOUBLE_INDEX_SCALE", type := .int, accessFlags := 25, slot := 9, constantValue := 0 }, { name := "LOG2_BYTE_BIT_SIZE", type := .int, accessFlags := 26, slot := 10, constantValue := 0 }, { name := "T_BOOLEAN", type := .int, accessFlags := 25, slot := 11, constantValue := 0 }, { name := "T_CHAR", type := .int, accessFlags := 25, slot := 12, constantValue := 0 }, { name := "T_FLOAT", type := .int, accessFlags := 25, slot := 13, constantValue := 0 }, { name := "T_DOUBLE", type := .int, accessFlags := 25, slot := 14, constantValue := 0 }, { name := "T_BYTE", type := .int, accessFlags := 25, slot := 15, constantValue := 0 }, { name := "T_SHORT", type := .int, accessFlags := 25, slot := 16, constantValue := 0 }, { name := "T_INT", type := .int, accessFlags := 25, slot := 17, constantValue := 0 }, { name := "T_LONG", type := .int, accessFlags := 25, slot := 18, constantValue := 0 }, { name := "JLA", type := (.object "jdk/internal/access/JavaLangAccess"), accessFlags := 26, slot := 19, constantValue := 0 }, { name := "SOFT_MAX_ARRAY_LENGTH", type := .int, accessFlags := 25, slot := 20, constantValue := 0 }]
  methods := #[k16m0, k16m1]
  instanceTypes := #[]
  staticTypes := #[(.object "jdk/internal/misc/Unsafe"), .boolean, .int, .int, .int, .int, .int, .int, .int, .int, .int, .int, .int, .int, .int, .int, .int, .int, .int, (.object "jdk/internal/access/JavaLangAccess"), .int]
  resolved := Array.replicate 378 none
  statics := none }

def pool17 : Array CpInfo := pool [(1, .class_ 2), (0, u "java/lang/Math"), (1, .class_ 6), (1, u "java/lang/Object"), (0, u "<init>"), (0, u "()V"), (89, .class_ 100), (1, u "java/lang/Math$RandomNumberGeneratorHolder"), (23, u "abs"), (0, u "(J)J"), (46, u "negativeZeroFloatBits"), (0, u "J"), (2, u "negativeZeroDoubleBits"), (21, u "max"), (2, u "min"), (43, u "$assertionsDisabled"), (0, u "Z"), (88, u "(II)I"), (2, u "twoToTheDoubleScaleDown"), (0, u "D"), (4, u "twoToTheDoubleScaleUp"), (9, u "E"), (3, u "PI"), (2, u "TAU"), (2, u "DEGREES_TO_RADIANS"), (0, u "RADIANS_TO_DEGREES")] 94

def k17m0 : Method := { name := "<init>", desc := "()V", sig := { parameters := [], returnType := none }, accessFlags := 2, code := none }
def k17c1 : Code := { maxStack := 4, maxLocals := 2, code := jdk_29_method_61_code, exceptionTable := #[], attributes := #[] }
def k17m1 : Method := { name := "abs", desc := "(J)J", sig := { parameters := [.long], returnType := some .long }, accessFlags := 9, code := some k17c1 }
def k17c2 : Code := { maxStack := 2, maxLocals := 2, code := jdk_29_method_65_code, exceptionTable := #[], attributes := #[] }
def k17m2 : Method := { name := "max", desc := "(II)I", sig := { parameters := [.int, .int], returnType := some .int }, accessFlags := 9, code := some k17c2 }
def k17c3 : Code := { maxStack := 2, maxLocals := 2, code := jdk_29_method_69_code, exceptionTable := #[], attributes := #[] }
def k17m3 : Method := { name := "min", desc := "(II)I", sig := { parameters := [.int, .int], returnType := some .int }, accessFlags := 9, code := some k17c3 }
/-- java/lang/Math -/
def k17 : Class := { plain "java/lang/Math" (some 0) with
  accessFlags := 49
  interfaces := #[]
  cf := some (fileOf pool17 1 #[.nestMembers #[98]] #[{ accessFlags := 2, nameIndex := 7, descriptorIndex := 8, attributes := #[] }, { accessFlags := 9, nameIndex := 124, descriptorIndex := 125, attributes := #[] }, { accessFlags := 9, nameIndex := 198, descriptorIndex := 335, attributes := #[] }, { accessFlags := 9, nameIndex := 201, descriptorIndex := 335, attributes := #[] }] 49 4 #[] #[{ accessFlags := 25, nameIndex := 354, descriptorIndex := 339, attributes := #[] }, { accessFlags := 25, nameIndex := 358, descriptorIndex := 339, attributes := #[] }, { accessFlags := 25, nameIndex := 361, descriptorIndex := 339, attributes := #[] }, { accessFlags := 26, nameIndex := 364, descriptorIndex := 339, attributes := #[] }, { accessFlags := 26, nameIndex := 365, descriptorIndex := 339, attributes := #[] }, { accessFlags := 26, nameIndex := 172, descriptorIndex := 173, attributes := #[] }, { accessFlags := 26, nameIndex := 176, descriptorIndex := 173, attributes := #[] }, { accessFlags := 8, nameIndex := 344, descriptorIndex := 339, attributes := #[] }, { accessFlags := 8, nameIndex := 338, descriptorIndex := 339, attributes := #[] }, { accessFlags := 4120, nameIndex := 245, descriptorIndex := 246, attributes := #[] }])
  fields := #[{ name := "E", type := .double, accessFlags := 25, slot := 0, constantValue := 0 }, { name := "PI", type := .double, accessFlags := 25, slot := 1, constantValue := 0 }, { name := "TAU", type := .double, accessFlags := 25, slot := 2, constantValue := 0 }, { name := "DEGREES_TO_RADIANS", type := .double, accessFlags := 26, slot := 3, constantValue := 0 }, { name := "RADIANS_TO_DEGREES", type := .double, accessFlags := 26, slot := 4, constantValue := 0 }, { name := "negativeZeroFloatBits", type := .long, accessFlags := 26, slot := 5, constantValue := 0 }, { name := "negativeZeroDoubleBits", type := .long, accessFlags := 26, slot := 6, constantValue := 0 }, { name := "twoToTheDoubleScaleUp", type := .double, accessFlags := 8, slot := 7, constantValue := 0 }, { name := "twoToTheDoubleScaleDown", type := .double, accessFlags := 8, slot := 8, constantValue := 0 }, { name := "$assertionsDisabled", type := .boolean, accessFlags := 4120, slot := 9, constantValue := 0 }]
  methods := #[k17m0, k17m1, k17m2, k17m3]
  instanceTypes := #[]
  staticTypes := #[.double, .double, .double, .double, .double, .long, .long, .double, .double, .boolean]
  resolved := Array.replicate 460 none
  statics := none }

def pool18 : Array CpInfo := pool [(2, .class_ 4), (1, u "java/lang/Object"), (0, u "<init>"), (0, u "()V"), (7, .class_ 16), (1, u "java/util/Arrays"), (57, .class_ 76), (1, u "java/util/Arrays$NaturalOrder"), (32, u "()Ljava/lang/Object;"), (3, .class_ 115), (1, u "java/util/Arrays$LegacyMergeSort"), (1, u "Z"), (10, .nameAndType 129 109), (0, u "clone"), (9, u "copyOfRange"), (10, .methodref 151 152), (0, .class_ 153), (0, .nameAndType 154 155), (0, u "java/lang/System"), (0, u "arraycopy"), (0, u "(Ljava/lang/Object;ILjava/lang/Object;II)V"), (146, u "copyOf"), (1, .methodref 305 306), (0, .class_ 307), (0, .nameAndType 308 309), (0, u "java/lang/Math"), (0, u "min"), (0, u "(II)I"), (0, .methodref 311 128), (0, .class_ 312), (0, u "[B"), (26, .methodref 14 340), (0, .nameAndType 341 342), (0, u "copyOfRangeByte"), (0, u "([BII)[B"), (0, .methodref 14 344), (0, .nameAndType 345 346), (0, u "checkLength"), (0, u "(II)V"), (28, .class_ 376), (0, u "java/util/Arrays$ArrayList"), (68, u "$assertionsDisabled"), (269, u "MIN_ARRAY_SORT_GRAN"), (0, u "I"), (2, u "INSERTIONSORT_THRESHOLD"), (149, u "([BI)[B"), (105, .class_ 976), (0, u "java/util/Arrays$ArrayItr")] 52

def k18m0 : Method := { name := "<init>", desc := "()V", sig := { parameters := [], returnType := none }, accessFlags := 2, code := none }
def k18c1 : Code := { maxStack := 6, maxLocals := 3, code := jdk_65_method_121_code, exceptionTable := #[], attributes := #[] }
def k18m1 : Method := { name := "copyOf", desc := "([BI)[B", sig := { parameters := [(.array .byte), .int], returnType := some (.array .byte) }, accessFlags := 9, code := some k18c1 }
def k18c2 : Code := { maxStack := 4, maxLocals := 2, code := jdk_65_method_131_code, exceptionTable := #[], attributes := #[] }
def k18m2 : Method := { name := "checkLength", desc := "(II)V", sig := { parameters := [.int, .int], returnType := none }, accessFlags := 10, code := some k18c2 }
def k18c3 : Code := { maxStack := 3, maxLocals := 3, code := jdk_65_method_132_code, exceptionTable := #[], attributes := #[] }
def k18m3 : Method := { name := "copyOfRange", desc := "([BII)[B", sig := { parameters := [(.array .byte), .int, .int], returnType := some (.array .byte) }, accessFlags := 9, code := some k18c3 }
def k18c4 : Code := { maxStack := 6, maxLocals := 5, code := jdk_65_method_133_code, exceptionTable := #[], attributes := #[] }
def k18m4 : Method := { name := "copyOfRangeByte", desc := "([BII)[B", sig := { parameters := [(.array .byte), .int, .int], returnType := some (.array .byte) }, accessFlags := 10, code := some k18c4 }
/-- java/util/Arrays -/
def k18 : Class := { plain "java/util/Arrays" (some 0) with
  accessFlags := 49
  interfaces := #[]
  cf := some (fileOf pool18 14 #[.nestMembers #[975, 375, 113, 74]] #[{ accessFlags := 2, nameIndex := 5, descriptorIndex := 6, attributes := #[] }, { accessFlags := 9, nameIndex := 302, descriptorIndex := 869, attributes := #[] }, { accessFlags := 10, nameIndex := 345, descriptorIndex := 346, attributes := #[] }, { accessFlags := 9, nameIndex := 139, descriptorIndex := 342, attributes := #[] }, { accessFlags := 10, nameIndex := 341, descriptorIndex := 342, attributes := #[] }] 49 2 #[] #[{ accessFlags := 26, nameIndex := 715, descriptorIndex := 716, attributes := #[] }, { accessFlags := 26, nameIndex := 719, descriptorIndex := 716, attributes := #[] }, { accessFlags := 4120, nameIndex := 445, descriptorIndex := 117, attributes := #[] }])
  fields := #[{ name := "MIN_ARRAY_SORT_GRAN", type := .int, accessFlags := 26, slot := 0, constantValue := 0 }, { name := "INSERTIONSORT_THRESHOLD", type := .int, accessFlags := 26, slot := 1, constantValue := 0 }, { name := "$assertionsDisabled", type := .boolean, accessFlags := 4120, slot := 2, constantValue := 0 }]
  methods := #[k18m0, k18m1, k18m2, k18m3, k18m4]
  instanceTypes := #[]
  staticTypes := #[.int, .int, .boolean]
  resolved := Array.replicate 1029 none
  statics := none }

def pool19 : Array CpInfo := pool [(2, .class_ 4), (1, u "java/lang/Object"), (0, u "<init>"), (0, u "()V"), (35, .class_ 44), (1, u "java/util/Objects"), (0, u "requireNonNull"), (48, u "(Ljava/lang/Object;Ljava/lang/String;)Ljava/lang/Object;"), (11, .class_ 108), (1, u "jdk/internal/util/Preconditions"), (2, .methodref 106 112), (0, .nameAndType 113 114), (0, u "checkFromToIndex"), (0, u "(IIILjava/util/function/BiFunction;)I"), (60, u "(III)I")] 8

def k19m0 : Method := { name := "<init>", desc := "()V", sig := { parameters := [], returnType := none }, accessFlags := 2, code := none }
def k19c1 : Code := { maxStack := 3, maxLocals := 2, code := jdk_31_method_11_code, exceptionTable := #[], attributes := #[] }
def k19m1 : Method := { name := "requireNonNull", desc := "(Ljava/lang/Object;Ljava/lang/String;)Ljava/lang/Object;", sig := { parameters := [(.object "java/lang/Object"), (.object "java/lang/String")], returnType := some (.object "java/lang/Object") }, accessFlags := 9, code := some k19c1 }
def k19c2 : Code := { maxStack := 4, maxLocals := 3, code := jdk_31_method_18_code, exceptionTable := #[], attributes := #[] }
def k19m2 : Method := { name := "checkFromToIndex", desc := "(III)I", sig := { parameters := [.int, .int, .int], returnType := some .int }, accessFlags := 9, code := some k19c2 }
/-- java/util/Objects -/
def k19 : Class := { plain "java/util/Objects" (some 0) with
  accessFlags := 49
  interfaces := #[]
  cf := some (fileOf pool19 42 #[] #[{ accessFlags := 2, nameIndex := 5, descriptorIndex := 6, attributes := #[] }, { accessFlags := 9, nameIndex := 45, descriptorIndex := 94, attributes := #[] }, { accessFlags := 9, nameIndex := 113, descriptorIndex := 175, attributes := #[] }] 49 2 #[] #[])
  fields := #[]
  methods := #[k19m0, k19m1, k19m2]
  instanceTypes := #[]
  staticTypes := #[]
  resolved := Array.replicate 184 none
  statics := none }

def pool20 : Array CpInfo := pool [(2, .class_ 4), (1, u "java/lang/Object"), (0, u "<init>"), (0, u "()V"), (17, .class_ 26), (1, u "jdk/internal/util/Preconditions"), (6, u "checkIndex"), (13, u "checkFromToIndex"), (7, .class_ 56), (0, u "jdk/internal/util/Preconditions$4"), (57, .class_ 115), (0, u "jdk/internal/util/Preconditions$1"), (7, u "SIOOBE_FORMATTER"), (0, u "Ljava/util/function/BiFunction;"), (0, .class_ 126), (0, u "jdk/internal/util/Preconditions$2"), (3, u "AIOOBE_FORMATTER"), (0, .class_ 132), (0, u "jdk/internal/util/Preconditions$3"), (3, u "IOOBE_FORMATTER"), (41, u "(IILjava/util/function/BiFunction;)I"), (4, u "(IIILjava/util/function/BiFunction;)I")] 10

def k20m0 : Method := { name := "<init>", desc := "()V", sig := { parameters := [], returnType := none }, accessFlags := 1, code := none }
def k20c1 : Code := { maxStack := 3, maxLocals := 3, code := jdk_41_method_11_code, exceptionTable := #[], attributes := #[] }
def k20m1 : Method := { name := "checkIndex", desc := "(IILjava/util/function/BiFunction;)I", sig := { parameters := [.int, .int, (.object "java/util/function/BiFunction")], returnType := some .int }, accessFlags := 9, code := some k20c1 }
def k20c2 : Code := { maxStack := 4, maxLocals := 4, code := jdk_41_method_12_code, exceptionTable := #[], attributes := #[] }
def k20m2 : Method := { name := "checkFromToIndex", desc := "(IIILjava/util/function/BiFunction;)I", sig := { parameters := [.int, .int, .int, (.object "java/util/function/BiFunction")], returnType := some .int }, accessFlags := 9, code := some k20c2 }
/-- jdk/internal/util/Preconditions -/
def k20 : Class := { plain "jdk/internal/util/Preconditions" (some 0) with
  accessFlags := 33
  interfaces := #[]
  cf := some (fileOf pool20 24 #[.nestMembers #[55, 131, 125, 114]] #[{ accessFlags := 1, nameIndex := 5, descriptorIndex := 6, attributes := #[] }, { accessFlags := 9, nameIndex := 33, descriptorIndex := 178, attributes := #[] }, { accessFlags := 9, nameIndex := 47, descriptorIndex := 183, attributes := #[] }] 33 2 #[] #[{ accessFlags := 25, nameIndex := 123, descriptorIndex := 124, attributes := #[] }, { accessFlags := 25, nameIndex := 130, descriptorIndex := 124, attributes := #[] }, { accessFlags := 25, nameIndex := 136, descriptorIndex := 124, attributes := #[] }])
  fields := #[{ name := "SIOOBE_FORMATTER", type := (.object "java/util/function/BiFunction"), accessFlags := 25, slot := 0, constantValue := 0 }, { name := "AIOOBE_FORMATTER", type := (.object "java/util/function/BiFunction"), accessFlags := 25, slot := 1, constantValue := 0 }, { name := "IOOBE_FORMATTER", type := (.object "java/util/function/BiFunction"), accessFlags := 25, slot := 2, constantValue := 0 }]
  methods := #[k20m0, k20m1, k20m2]
  instanceTypes := #[]
  staticTypes := #[(.object "java/util/function/BiFunction"), (.object "java/util/function/BiFunction"), (.object "java/util/function/BiFunction")]
  resolved := Array.replicate 194 none
  statics := some 2 }

def pool21 : Array CpInfo := pool [(1, .class_ 2), (0, u "java/lang/String"), (1, .class_ 6), (1, u "java/lang/Object"), (0, u "<init>"), (0, u "()V"), (0, .methodref 1 10), (0, .nameAndType 11 12), (0, u "checkIndex"), (0, u "(II)V"), (1, .class_ 16), (1, u "java/lang/StringLatin1"), (36, u "([BI)C"), (67, u "$assertionsDisabled"), (0, u "Z"), (98, .class_ 223), (1, u "java/lang/StringLatin1$LinesSpliterator"), (28, u "charAt"), (137, .class_ 391), (0, u "java/lang/StringLatin1$CharsSpliterator")] 3

def k21m0 : Method := { name := "<init>", desc := "()V", sig := { parameters := [], returnType := none }, accessFlags := 0, code := none }
def k21c1 : Code := { maxStack := 2, maxLocals := 2, code := jdk_43_method_2_code, exceptionTable := #[], attributes := #[] }
def k21m1 : Method := { name := "charAt", desc := "([BI)C", sig := { parameters := [(.array .byte), .int], returnType := some .char }, accessFlags := 9, code := some k21c1 }
/-- java/lang/StringLatin1 -/
def k21 : Class := { plain "java/lang/StringLatin1" (some 0) with
  accessFlags := 48
  interfaces := #[]
  cf := some (fileOf pool21 14 #[.nestMembers #[390, 221]] #[{ accessFlags := 0, nameIndex := 7, descriptorIndex := 8, attributes := #[] }, { accessFlags := 9, nameIndex := 252, descriptorIndex := 53, attributes := #[] }] 48 4 #[] #[{ accessFlags := 4120, nameIndex := 121, descriptorIndex := 122, attributes := #[] }])
  fields := #[{ name := "$assertionsDisabled", type := .boolean, accessFlags := 4120, slot := 0, constantValue := 0 }]
  methods := #[k21m0, k21m1]
  instanceTypes := #[]
  staticTypes := #[.boolean]
  resolved := Array.replicate 395 none
  statics := none }

def pool22 : Array CpInfo := pool [(6, .class_ 8), (1, u "java/lang/Object"), (0, u "<init>"), (0, u "()V"), (0, .methodref 12 13), (0, .class_ 14), (0, .nameAndType 15 16), (0, u "java/lang/StringUTF16"), (0, u "newBytesLength"), (0, u "(I)I"), (3, .integer 1073741823), (23, .fieldref 12 45), (0, .nameAndType 46 47), (0, u "$assertionsDisabled"), (0, u "Z"), (11, .fieldref 12 60), (0, .nameAndType 61 62), (0, u "HI_BYTE_SHIFT"), (0, u "I"), (0, .fieldref 12 64), (0, .nameAndType 65 62), (0, u "LO_BYTE_SHIFT"), (5, .methodref 12 72), (0, .nameAndType 73 74), (0, u "getChar"), (0, u "([BI)C"), (0, .methodref 76 77), (0, .class_ 78), (0, .nameAndType 79 80), (0, u "java/lang/Character"), (0, u "isHighSurrogate"), (0, u "(C)Z"), (0, .methodref 76 82), (0, .nameAndType 83 80), (0, u "isLowSurrogate"), (7, u "([BIIZ)I"), (8, .methodref 12 101), (0, .nameAndType 102 91), (0, u "codePointCount"), (4, .methodref 12 108), (0, .nameAndType 109 110), (0, u "newBytesFor"), (0, u "(I)[B"), (0, .methodref 12 112), (0, .nameAndType 113 114), (0, u "putChar"), (0, u "([BII)V"), (0, .methodref 12 116), (0, .nameAndType 117 118), (0, u "compress"), (0, u "([CI[BII)I"), (0, .methodref 12 120), (0, .nameAndType 121 122), (0, u "toBytes"), (0, u "([CII)[B"), (127, u "([BII)I"), (10, u "coderFromArrayLen"), (0, u "([BI)B"), (106, .class_ 371), (1, u "java/lang/StringUTF16$LinesSpliterator"), (58, u "MAX_LENGTH"), (196, .class_ 628), (0, u "java/lang/StringUTF16$CodePointsSpliterator"), (0, .class_ 630), (0, u "java/lang/StringUTF16$CharsSpliterator")] 4

def k22m0 : Method := { name := "<init>", desc := "()V", sig := { parameters := [], returnType := none }, accessFlags := 0, code := none }
def k22c1 : Code := { maxStack := 1, maxLocals := 1, code := jdk_52_method_2_code, exceptionTable := #[], attributes := #[] }
def k22m1 : Method := { name := "newBytesFor", desc := "(I)[B", sig := { parameters := [.int], returnType := some (.array .byte) }, accessFlags := 9, code := some k22c1 }
def k22c2 : Code := { maxStack := 4, maxLocals := 1, code := jdk_52_method_3_code, exceptionTable := #[], attributes := #[] }
def k22m2 : Method := { name := "newBytesLength", desc := "(I)I", sig := { parameters := [.int], returnType := some .int }, accessFlags := 9, code := some k22c2 }
def k22c3 : Code := { maxStack := 4, maxLocals := 3, code := jdk_52_method_4_code, exceptionTable := #[], attributes := #[] }
def k22m3 : Method := { name := "putChar", desc := "([BII)V", sig := { parameters := [(.array .byte), .int, .int], returnType := none }, accessFlags := 8, code := some k22c3 }
def k22c4 : Code := { maxStack := 3, maxLocals := 2, code := jdk_52_method_5_code, exceptionTable := #[], attributes := #[] }
def k22m4 : Method := { name := "getChar", desc := "([BI)C", sig := { parameters := [(.array .byte), .int], returnType := some .char }, accessFlags := 8, code := some k22c4 }
def k22c5 : Code := { maxStack := 3, maxLocals := 6, code := jdk_52_method_11_code, exceptionTable := #[], attributes := #[] }
def k22m5 : Method := { name := "codePointCount", desc := "([BIIZ)I", sig := { parameters := [(.array .byte), .int, .int, .boolean], returnType := some .int }, accessFlags := 10, code := some k22c5 }
def k22c6 : Code := { maxStack := 4, maxLocals := 3, code := jdk_52_method_12_code, exceptionTable := #[], attributes := #[] }
def k22m6 : Method := { name := "codePointCount", desc := "([BII)I", sig := { parameters := [(.array .byte), .int, .int], returnType := some .int }, accessFlags := 9, code := some k22c6 }
def k22c7 : Code := { maxStack := 4, maxLocals := 5, code := jdk_52_method_14_code, exceptionTable := #[], attributes := #[] }
def k22m7 : Method := { name := "toBytes", desc := "([CII)[B", sig := { parameters := [(.array .char), .int, .int], returnType := some (.array .byte) }, accessFlags := 9, code := some k22c7 }
def k22c8 : Code := { maxStack := 2, maxLocals := 2, code := jdk_52_method_15_code, exceptionTable := #[], attributes := #[] }
def k22m8 : Method := { name := "coderFromArrayLen", desc := "([BI)B", sig := { parameters := [(.array .byte), .int], returnType := some .byte }, accessFlags := 8, code := some k22c8 }
def k22c9 : Code := { maxStack := 5, maxLocals := 6, code := jdk_52_method_16_code, exceptionTable := #[], attributes := #[] }
def k22m9 : Method := { name := "compress", desc := "([CII)[B", sig := { parameters := [(.array .char), .int, .int], returnType := some (.array .byte) }, accessFlags := 9, code := some k22c9 }
def k22c10 : Code := { maxStack := 3, maxLocals := 7, code := jdk_52_method_21_code, exceptionTable := #[], attributes := #[] }
def k22m10 : Method := { name := "compress", desc := "([CI[BII)I", sig := { parameters := [(.array .char), .int, (.array .byte), .int, .int], returnType := some .int }, accessFlags := 9, code := some k22c10 }
/-- java/lang/StringUTF16 -/
def k22 : Class := { plain "java/lang/StringUTF16" (some 0) with
  accessFlags := 48
  interfaces := #[]
  cf := some (fileOf pool22 12 #[.nestMembers #[627, 629, 369]] #[{ accessFlags := 0, nameIndex := 9, descriptorIndex := 10, attributes := #[] }, { accessFlags := 9, nameIndex := 109, descriptorIndex := 110, attributes := #[] }, { accessFlags := 9, nameIndex := 15, descriptorIndex := 16, attributes := #[] }, { accessFlags := 8, nameIndex := 113, descriptorIndex := 114, attributes := #[] }, { accessFlags := 8, nameIndex := 73, descriptorIndex := 74, attributes := #[] }, { accessFlags := 10, nameIndex := 102, descriptorIndex := 91, attributes := #[] }, { accessFlags := 9, nameIndex := 102, descriptorIndex := 250, attributes := #[] }, { accessFlags := 9, nameIndex := 121, descriptorIndex := 122, attributes := #[] }, { accessFlags := 8, nameIndex := 261, descriptorIndex := 262, attributes := #[] }, { accessFlags := 9, nameIndex := 117, descriptorIndex := 122, attributes := #[] }, { accessFlags := 9, nameIndex := 117, descriptorIndex := 118, attributes := #[] }] 48 6 #[] #[{ accessFlags := 26, nameIndex := 61, descriptorIndex := 62, attributes := #[] }, { accessFlags := 26, nameIndex := 65, descriptorIndex := 62, attributes := #[] }, { accessFlags := 24, nameIndex := 430, descriptorIndex := 62, attributes := #[] }, { accessFlags := 4120, nameIndex := 46, descriptorIndex := 47, attributes := #[] }])
  fields := #[{ name := "HI_BYTE_SHIFT", type := .int, accessFlags := 26, slot := 0, constantValue := 0 }, { name := "LO_BYTE_SHIFT", type := .int, accessFlags := 26, slot := 1, constantValue := 0 }, { name := "MAX_LENGTH", type := .int, accessFlags := 24, slot := 2, constantValue := 0 }, { name := "$assertionsDisabled", type := .boolean, accessFlags := 4120, slot := 3, constantValue := 0 }]
  methods := #[k22m0, k22m1, k22m2, k22m3, k22m4, k22m5, k22m6, k22m7, k22m8, k22m9, k22m10]
  instanceTypes := #[]
  staticTypes := #[.int, .int, .int, .boolean]
  resolved := Array.replicate 635 none
  statics := some 3 }

def pool23 : Array CpInfo := pool [(1, .class_ 2), (0, u "java/lang/Character"), (18, u "value"), (0, u "C"), (19, .class_ 44), (1, u "java/lang/Object"), (3, .class_ 50), (1, u "java/lang/Character$CharacterCache"), (24, .integer 55296), (0, .integer 56320), (0, .integer 57344), (2, u "isHighSurrogate"), (0, u "(C)Z"), (2, u "isLowSurrogate"), (199, u "$assertionsDisabled"), (0, u "Z"), (21, .class_ 309), (1, u "java/lang/Character$UnicodeBlock"), (73, u "TYPE"), (0, u "Ljava/lang/Class;"), (0, .class_ 386), (0, u "java/io/Serializable"), (0, .class_ 388), (0, u "java/lang/Comparable"), (0, .class_ 390), (0, u "java/lang/constant/Constable"), (0, u "MIN_RADIX"), (0, u "I"), (2, u "MAX_RADIX"), (1, u "MIN_VALUE"), (1, u "MAX_VALUE"), (3, u "UNASSIGNED"), (0, u "B"), (0, u "UPPERCASE_LETTER"), (1, u "LOWERCASE_LETTER"), (0, u "TITLECASE_LETTER"), (1, u "MODIFIER_LETTER"), (1, u "OTHER_LETTER"), (1, u "NON_SPACING_MARK"), (1, u "ENCLOSING_MARK"), (1, u "COMBINING_SPACING_MARK"), (1, u "DECIMAL_DIGIT_NUMBER"), (1, u "LETTER_NUMBER"), (1, u "OTHER_NUMBER"), (1, u "SPACE_SEPARATOR"), (1, u "LINE_SEPARATOR"), (1, u "PARAGRAPH_SEPARATOR"), (1, u "CONTROL"), (1, u "FORMAT"), (1, u "PRIVATE_USE"), (1, u "SURROGATE"), (1, u "DASH_PUNCTUATION"), (1, u "START_PUNCTUATION"), (1, u "END_PUNCTUATION"), (1, u "CONNECTOR_PUNCTUATION"), (1, u "OTHER_PUNCTUATION"), (1, u "MATH_SYMBOL"), (1, u "CURRENCY_SYMBOL"), (1, u "MODIFIER_SYMBOL"), (1, u "OTHER_SYMBOL"), (1, u "INITIAL_QUOTE_PUNCTUATION"), (1, u "FINAL_QUOTE_PUNCTUATION"), (1, u "ERROR"), (1, u "DIRECTIONALITY_UNDEFINED"), (0, u "DIRECTIONALITY_LEFT_TO_RIGHT"), (0, u "DIRECTIONALITY_RIGHT_TO_LEFT"), (0, u "DIRECTIONALITY_RIGHT_TO_LEFT_ARABIC"), (0, u "DIRECTIONALITY_EUROPEAN_NUMBER"), (0, u "DIRECTIONALITY_EUROPEAN_NUMBER_SEPARATOR"), (0, u "DIRECTIONALITY_EUROPEAN_NUMBER_TERMINATOR"), (0, u "DIRECTIONALITY_ARABIC_NUMBER"), (0, u "DIRECTIONALITY_COMMON_NUMBER_SEPARATOR"), (0, u "DIRECTIONALITY_NONSPACING_MARK"), (0, u "DIRECTIONALITY_BOUNDARY_NEUTRAL"), (0, u "DIRECTIONALITY_PARAGRAPH_SEPARATOR"), (0, u "DIRECTIONALITY_SEGMENT_SEPARATOR"), (0, u "DIRECTIONALITY_WHITESPACE"), (0, u "DIRECTIONALITY_OTHER_NEUTRALS"), (0, u "DIRECTIONALITY_LEFT_TO_RIGHT_EMBEDDING"), (0, u "DIRECTIONALITY_LEFT_TO_RIGHT_OVERRIDE"), (0, u "DIRECTIONALITY_RIGHT_TO_LEFT_EMBEDDING"), (0, u "DIRECTIONALITY_RIGHT_TO_LEFT_OVERRIDE"), (1, u "DIRECTIONALITY_POP_DIRECTIONAL_FORMAT"), (0, u "DIRECTIONALITY_LEFT_TO_RIGHT_ISOLATE"), (0, u "DIRECTIONALITY_RIGHT_TO_LEFT_ISOLATE"), (0, u "DIRECTIONALITY_FIRST_STRONG_ISOLATE"), (0, u "DIRECTIONALITY_POP_DIRECTIONAL_ISOLATE"), (0, u "MIN_HIGH_SURROGATE"), (0, u "MAX_HIGH_SURROGATE"), (1, u "MIN_LOW_SURROGATE"), (0, u "MAX_LOW_SURROGATE"), (1, u "MIN_SURROGATE"), (0, u "MAX_SURROGATE"), (0, u "MIN_SUPPLEMENTARY_CODE_POINT"), (0, u "MIN_CODE_POINT"), (0, u "MAX_CODE_POINT"), (1, u "serialVersionUID"), (0, u "J"), (2, u "SIZE"), (0, u "BYTES"), (88, .class_ 596), (0, u "java/lang/Character$UnicodeScript"), (0, .class_ 598), (0, u "java/lang/Character$Subset")] 5

def k23c0 : Code := { maxStack := 2, maxLocals := 1, code := jdk_89_method_14_code, exceptionTable := #[], attributes := #[] }
def k23m0 : Method := { name := "isHighSurrogate", desc := "(C)Z", sig := { parameters := [.char], returnType := some .boolean }, accessFlags := 9, code := some k23c0 }
def k23c1 : Code := { maxStack := 2, maxLocals := 1, code := jdk_89_method_15_code, exceptionTable := #[], attributes := #[] }
def k23m1 : Method := { name := "isLowSurrogate", desc := "(C)Z", sig := { parameters := [.char], returnType := some .boolean }, accessFlags := 9, code := some k23c1 }
/-- java/lang/Character -/
def k23 : Class := { plain "java/lang/Character" (some 0) with
  accessFlags := 49
  interfaces := #[2, 3, 5]
  cf := some (fileOf pool23 1 #[.nestMembers #[48, 595, 307, 597]] #[{ accessFlags := 9, nameIndex := 80, descriptorIndex := 81, attributes := #[] }, { accessFlags := 9, nameIndex := 84, descriptorIndex := 81, attributes := #[] }] 49 42 #[385, 387, 389] #[{ accessFlags := 25, nameIndex := 391, descriptorIndex := 392, attributes := #[] }, { accessFlags := 25, nameIndex := 395, descriptorIndex := 392, attributes := #[] }, { accessFlags := 25, nameIndex := 397, descriptorIndex := 22, attributes := #[] }, { accessFlags := 25, nameIndex := 399, descriptorIndex := 22, attributes := #[] }, { accessFlags := 25, nameIndex := 383, descriptorIndex := 384, attributes := #[] }, { accessFlags := 25, nameIndex := 403, descriptorIndex := 404, attributes := #[] }, { accessFlags := 25, nameIndex := 405, descriptorIndex := 404, attributes := #[] }, { accessFlags := 25, nameIndex := 407, descriptorIndex := 404, attributes := #[] }, { accessFlags := 25, nameIndex := 408, descriptorIndex := 404, attributes := #[] }, { accessFlags := 25, nameIndex := 410, descriptorIndex := 404, attributes := #[] }, { accessFlags := 25, nameIndex := 412, descriptorIndex := 404, attributes := #[] }, { accessFlags := 25, nameIndex := 414, descriptorIndex := 404, attributes := #[] }, { accessFlags := 25, nameIndex := 416, descriptorIndex := 404, attributes := #[] }, { accessFlags := 25, nameIndex := 418, descriptorIndex := 404, attributes := #[] }, { accessFlags := 25, nameIndex := 420, descriptorIndex := 404, attributes := #[] }, { accessFlags := 25, nameIndex := 422, descriptorIndex := 404, attributes := #[] }, { accessFlags := 25, nameIndex := 424, descriptorIndex := 404, attributes := #[] }, { accessFlags := 25, nameIndex := 426, descriptorIndex := 404, attributes := #[] }, { accessFlags := 25, nameIndex := 428, descriptorIndex := 404, attributes := #[] }, { accessFlags := 25, nameIndex := 430, descriptorIndex := 404, attributes := #[] }, { accessFlags := 25, nameIndex := 432, descriptorIndex := 404, attributes := #[] }, { accessFlags := 25, nameIndex := 434, descriptorIndex := 404, attributes := #[] }, { accessFlags := 25, nameIndex := 436, descriptorIndex := 404, attributes := #[] }, { accessFlags := 25, nameIndex := 438, descriptorIndex := 404, attributes := #[] }, { accessFlags := 25, nameIndex := 440, descriptorIndex := 404, attributes := #[] }, { accessFlags := 25, nameIndex := 442, descriptorIndex := 404, attributes := #[] }, { accessFlags := 25, nameIndex := 444, descriptorIndex := 404, attributes := #[] }, { accessFlags := 25, nameIndex := 446, descriptorIndex := 404, attributes := #[] }, { accessFlags := 25, nameIndex := 448, descriptorIndex := 404, attributes := #[] }, { accessFlags := 25, nameIndex := 450, descriptorIndex := 404, attributes := #[] }, { accessFlags := 25, nameIndex := 452, descriptorIndex := 404, attributes := #[] }, { accessFlags := 25, nameIndex := 454, descriptorIndex := 404, attributes := #[] }, { accessFlags := 25, nameIndex := 456, descriptorIndex := 404, attributes := #[] }, { accessFlags := 25, nameIndex := 458, descriptorIndex := 404, attributes := #[] }, { accessFlags := 25, nameIndex := 460, descriptorIndex := 404, attributes := #[] }, { accessFlags := 24, nameIndex := 462, descriptorIndex := 392, attributes := #[] }, { accessFlags := 25, nameIndex := 464, descriptorIndex := 404, attributes := #[] }, { accessFlags := 25, nameIndex := 465, descriptorIndex := 404, attributes := #[] }, { accessFlags := 25, nameIndex := 466, descriptorIndex := 404, attributes := #[] }, { accessFlags := 25, nameIndex := 467, descriptorIndex := 404, attributes := #[] }, { accessFlags := 25, nameIndex := 468, descriptorIndex := 404, attributes := #[] }, { accessFlags := 25, nameIndex := 469, descriptorIndex := 404, attributes := #[] }, { accessFlags := 25, nameIndex := 470, descriptorIndex := 404, attributes := #[] }, { accessFlags := 25, nameIndex := 471, descriptorIndex := 404, attributes := #[] }, { accessFlags := 25, nameIndex := 472, descriptorIndex := 404, attributes := #[] }, { accessFlags := 25, nameIndex := 473, descriptorIndex := 404, attributes := #[] }, { accessFlags := 25, nameIndex := 474, descriptorIndex := 404, attributes := #[] }, { accessFlags := 25, nameIndex := 475, descriptorIndex := 404, attributes := #[] }, { accessFlags := 25, nameIndex := 476, descriptorIndex := 404, attributes := #[] }, { accessFlags := 25, nameIndex := 477, descriptorIndex := 404, attributes := #[] }, { accessFlags := 25, nameIndex := 478, descriptorIndex := 404, attributes := #[] }, { accessFlags := 25, nameIndex := 479, descriptorIndex := 404, attributes := #[] }, { accessFlags := 25, nameIndex := 480, descriptorIndex := 404, attributes := #[] }, { accessFlags := 25, nameIndex := 481, descriptorIndex := 404, attributes := #[] }, { accessFlags := 25, nameIndex := 482, descriptorIndex := 404, attributes := #[] }, { accessFlags := 25, nameIndex := 484, descriptorIndex := 404, attributes := #[] }, { accessFlags := 25, nameIndex := 485, descriptorIndex := 404, attributes := #[] }, { accessFlags := 25, nameIndex := 486, descriptorIndex := 404, attributes := #[] }, { accessFlags := 25, nameIndex := 487, descriptorIndex := 404, attributes := #[] }, { accessFlags := 25, nameIndex := 488, descriptorIndex := 404, attributes := #[] }, { accessFlags := 25, nameIndex := 489, descriptorIndex := 22, attributes := #[] }, { accessFlags := 25, nameIndex := 490, descriptorIndex := 22, attributes := #[] }, { accessFlags := 25, nameIndex := 492, descriptorIndex := 22, attributes := #[] }, { accessFlags := 25, nameIndex := 493, descriptorIndex := 22, attributes := #[] }, { accessFlags := 25, nameIndex := 495, descriptorIndex := 22, attributes := #[] }, { accessFlags := 25, nameIndex := 496, descriptorIndex := 22, attributes := #[] }, { accessFlags := 25, nameIndex := 497, descriptorIndex := 392, attributes := #[] }, { accessFlags := 25, nameIndex := 498, descriptorIndex := 392, attributes := #[] }, { accessFlags := 25, nameIndex := 499, descriptorIndex := 392, attributes := #[] }, { accessFlags := 18, nameIndex := 21, descriptorIndex := 22, attributes := #[] }, { accessFlags := 26, nameIndex := 501, descriptorIndex := 502, attributes := #[] }, { accessFlags := 25, nameIndex := 505, descriptorIndex := 392, attributes := #[] }, { accessFlags := 25, nameIndex := 506, descriptorIndex := 392, attributes := #[] }, { accessFlags := 4120, nameIndex := 284, descriptorIndex := 285, attributes := #[] }])
  fields := #[{ name := "MIN_RADIX", type := .int, accessFlags := 25, slot := 0, constantValue := 0 }, { name := "MAX_RADIX", type := .int, accessFlags := 25, slot := 1, constantValue := 0 }, { name := "MIN_VALUE", type := .char, accessFlags := 25, slot := 2, constantValue := 0 }, { name := "MAX_VALUE", type := .char, accessFlags := 25, slot := 3, constantValue := 0 }, { name := "TYPE", type := (.object "java/lang/Class"), accessFlags := 25, slot := 4, constantValue := 0 }, { name := "UNASSIGNED", type := .byte, accessFlags := 25, slot := 5, constantValue := 0 }, { name := "UPPERCASE_LETTER", type := .byte, accessFlags := 25, slot := 6, constantValue := 0 }, { name := "LOWERCASE_LETTER", type := .byte, accessFlags := 25, slot := 7, constantValue := 0 }, { name := "TITLECASE_LETTER", type := .byte, accessFlags := 25, slot := 8, constantValue := 0 }, { name := "MODIFIER_LETTER", type := .byte, accessFlags := 25, slot := 9, constantValue := 0 }, { name := "OTHER_LETTER", type := .byte, accessFlags := 25, slot := 10, constantValue := 0 }, { name := "NON_SPACING_MARK", type := .byte, accessFlags := 25, slot := 11, constantValue := 0 }, { name := "ENCLOSING_MARK", type := .byte, accessFlags := 25, slot := 12, constantValue := 0 }, { name := "COMBINING_SPACING_MARK", type := .byte, accessFlags := 25, slot := 13, constantValue := 0 }, { name := "DECIMAL_DIGIT_NUMBER", type := .byte, accessFlags := 25, slot := 14, constantValue := 0 }, { name := "LETTER_NUMBER", type := .byte, accessFlags := 25, slot := 15, constantValue := 0 }, { name := "OTHER_NUMBER", type := .byte, accessFlags := 25, slot := 16, constantValue := 0 }, { name := "SPACE_SEPARATOR", type := .byte, accessFlags := 25, slot := 17, constantValue := 0 }, { name := "LINE_SEPARATOR", type := .byte, accessFlags := 25, slot := 18, constantValue := 0 }, { name := "PARAGRAPH_SEPARATOR", type := .byte, accessFlags := 25, slot := 19, constantValue := 0 }, { name := "CONTROL", type := .byte, accessFlags := 25, slot := 20, constantValue := 0 }, { name := "FORMAT", type := .byte, accessFlags := 25, slot := 21, constantValue := 0 }, { name := "PRIVATE_USE", type := .byte, accessFlags := 25, slot := 22, constantValue := 0 }, { name := "SURROGATE", type := .byte, accessFlags := 25, slot := 23, constantValue := 0 }, { name := "DASH_PUNCTUATION", type := .byte, accessFlags := 25, slot := 24, constantValue := 0 }, { name := "START_PUNCTUATION", type := .byte, accessFlags := 25, slot := 25, constantValue := 0 }, { name := "END_PUNCTUATION", type := .byte, accessFlags := 25, slot := 26, constantValue := 0 }, { name := "CONNECTOR_PUNCTUATION", type := .byte, accessFlags := 25, slot := 27, constantValue := 0 }, { name := "OTHER_PUNCTUATION", type := .byte, accessFlags := 25, slot := 28, constantValue := 0 }, { name := "MATH_SYMBOL", type := .byte, accessFlags := 25, slot := 29, constantValue := 0 }, { name := "CURRENCY_SYMBOL", type := .byte, accessFlags := 25, slot := 30, constantValue := 0 }, { name := "MODIFIER_SYMBOL", type := .byte, accessFlags := 25, slot := 31, constantValue := 0 }, { name := "OTHER_SYMBOL", type := .byte, accessFlags := 25, slot := 32, constantValue := 0 }, { name := "INITIAL_QUOTE_PUNCTUATION", type := .byte, accessFlags := 25, slot := 33, constantValue := 0 }, { name := "FINAL_QUOTE_PUNCTUATION", type := .byte, accessFlags := 25, slot := 34, constantValue := 0 }, { name := "ERROR", type := .int, accessFlags := 24, slot := 35, constantValue := 0 }, { name := "DIRECTIONALITY_UNDEFINED", type := .byte, accessFlags := 25, slot := 36, constantValue := 0 }, { name := "DIRECTIONALITY_LEFT_TO_RIGHT", type := .byte, accessFlags := 25, slot := 37, constantValue := 0 }, { name := "DIRECTIONALITY_RIGHT_TO_LEFT", type := .byte, accessFlags := 25, slot := 38, constantValue := 0 }, { name := "DIRECTIONALITY_RIGHT_TO_LEFT_ARABIC", type := .byte, accessFlags := 25, slot := 39, constantValue := 0 }, { name := "DIRECTIONALITY_EUROPEAN_NUMBER", type := .byte, accessFlags := 25, slot := 40, constantValue := 0 }, { name := "DIRECTIONALITY_EUROPEAN_NUMBER_SEPARATOR", type := .byte, accessFlags := 25, slot := 41, constantValue := 0 }, { name := "DIRECTIONALITY_EUROPEAN_NUMBER_TERMINATOR", type := .byte, accessFlags := 25, slot := 42, constantValue := 0 }, { name := "DIRECTIONALITY_ARABIC_NUMBER", type := .byte, accessFlags := 25, slot := 43, constantValue := 0 }, { name := "DIRECTIONALITY_COMMON_NUMBER_SEPARATOR", type := .byte, accessFlags := 25, slot := 44, constantValue := 0 }, { name := "DIRECTIONALITY_NONSPACING_MARK", type := .byte, accessFlags := 25, slot := 45, constantValue := 0 }, { name := "DIRECTIONALITY_BOUNDARY_NEUTRAL", type := .byte, accessFlags := 25, slot := 46, constantValue := 0 }, { name := "DIRECTIONALITY_PARAGRAPH_SEPARATOR", type := .byte, accessFlags := 25, slot := 47, constantValue := 0 }, { name := "DIRECTIONALITY_SEGMENT_SEPARATOR", type := .byte, accessFlags := 25, slot := 48, constantValue := 0 }, { name := "DIRECTIONALITY_WHITESPACE", type := .byte, accessFlags := 25, slot := 49, constantValue := 0 }, { name := "DIRECTIONALITY_OTHER_NEUTRALS", type := .byte, accessFlags := 25, slot := 50, constantValue := 0 }, { name := "DIRECTIONALITY_LEFT_TO_RIGHT_EMBEDDING", type := .byte, accessFlags := 25, slot := 51, constantValue := 0 }, { name := "DIRECTIONALITY_LEFT_TO_RIGHT_OVERRIDE", type := .byte, accessFlags := 25, slot := 52, constantValue := 0 }, { name := "DIRECTIONALITY_RIGHT_TO_LEFT_EMBEDDING", type := .byte, accessFlags := 25, slot := 53, constantValue := 0 }, { name := "DIRECTIONALITY_RIGHT_TO_LEFT_OVERRIDE", type := .byte, accessFlags := 25, slot := 54, constantValue := 0 }, { name := "DIRECTIONALITY_POP_DIRECTIONAL_FORMAT", type := .byte, accessFlags := 25, slot := 55, constantValue := 0 }, { name := "DIRECTIONALITY_LEFT_TO_RIGHT_ISOLATE", type := .byte, accessFlags := 25, slot := 56, constantValue := 0 }, { name := "DIRECTIONALITY_RIGHT_TO_LEFT_ISOLATE", type := .byte, accessFlags := 25, slot := 57, constantValue := 0 }, { name := "DIRECTIONALITY_FIRST_STRONG_ISOLATE", type := .byte, accessFlags := 25, slot := 58, constantValue := 0 }, { name := "DIRECTIONALITY_POP_DIRECTIONAL_ISOLATE", type := .byte, accessFlags := 25, slot := 59, constantValue := 0 }, { name := "MIN_HIGH_SURROGATE", type := .char, accessFlags := 25, slot := 60, constantValue := 0 }, { name := "MAX_HIGH_SURROGATE", type := .char, accessFlags := 25, slot := 61, constantValue := 0 }, { name := "MIN_LOW_SURROGATE", type := .char, accessFlags := 25, slot := 62, constantValue := 0 }, { name := "MAX_LOW_SURROGATE", type := .char, accessFlags := 25, slot := 63, constantValue := 0 }, { name := "MIN_SURROGATE", type := .char, accessFlags := 25, slot := 64, constantValue := 0 }, { name := "MAX_SURROGATE", type := .char, accessFlags := 25, slot := 65, constantValue := 0 }, { name := "MIN_SUPPLEMENTARY_CODE_POINT", type := .int, accessFlags := 25, slot := 66, constantValue := 0 }, { name := "MIN_CODE_POINT", type := .int, accessFlags := 25, slot := 67, constantValue := 0 }, { name := "MAX_CODE_POINT", type := .int, accessFlags := 25, slot := 68, constantValue := 0 }, { name := "value", type := .char, accessFlags := 18, slot := 0, constantValue := 0 }, { name := "serialVersionUID", type := .long, accessFlags := 26, slot := 69, constantValue := 0 }, { name := "SIZE", type := .int, accessFlags := 25, slot := 70, constantValue := 0 }, { name := "BYTES", type := .int, accessFlags := 25, slot := 71, constantValue := 0 }, { name := "$assertionsDisabled", type := .boolean, accessFlags := 4120, slot := 72, constantValue := 0 }]
  methods := #[k23m0, k23m1]
  instanceTypes := #[.char]
  staticTypes := #[.int, .int, .char, .char, (.object "java/lang/Class"), .byte, .byte, .byte, .byte, .byte, .byte, .byte, .byte, .byte, .byte, .byte, .byte, .byte, .byte, .byte, .byte, .byte, .byte, .byte, .byte, .byte, .byte, .byte, .byte, .byte, .byte, .byte, .byte, .byte, .byte, .int, .byte, .byte, .byte, .byte, .byte, .byte, .byte, .byte, .byte, .byte, .byte, .byte, .byte, .byte, .byte, .byte, .byte, .byte, .byte, .byte, .byte, .byte, .byte, .byte, .char, .char, .char, .char, .char, .char, .int, .int, .int, .long, .int, .int, .boolean]
  resolved := Array.replicate 604 none
  statics := none }

def pool24 : Array CpInfo := pool [(1, .class_ 2), (0, u "java/lang/Cloneable"), (0, .class_ 4), (0, u "java/lang/Object")] 2

/-- java/lang/Cloneable -/
def k24 : Class := { plain "java/lang/Cloneable" (some 0) with
  accessFlags := 1537
  interfaces := #[]
  cf := some (fileOf pool24 1 #[] #[] 1537 3 #[] #[])
  fields := #[]
  methods := #[]
  instanceTypes := #[]
  staticTypes := #[]
  resolved := Array.replicate 7 none
  statics := none }

/-- the primitive byte -/
def k25 : Class := { plain "byte" none with kind := .primitive 'B', accessFlags := 0x411 }
/-- [B -/
def k26 : Class := { plain "[B" (some 0) with kind := .array 25 .byte, interfaces := #[24, 2], accessFlags := 1041 }

/-- the primitive char -/
def k27 : Class := { plain "char" none with kind := .primitive 'C', accessFlags := 0x411 }
/-- [C -/
def k28 : Class := { plain "[C" (some 0) with kind := .array 27 .char, interfaces := #[24, 2], accessFlags := 1041 }

/-- the primitive int -/
def k29 : Class := { plain "int" none with kind := .primitive 'I', accessFlags := 0x411 }
/-- [I -/
def k30 : Class := { plain "[I" (some 0) with kind := .array 29 .int, interfaces := #[24, 2], accessFlags := 1041 }

def classes0 : Array Class := #[k0, k1, k2, k3, k4, k5, k6, k7, k8, k9, k10, k11, k12, k13, k14, k15, k16, k17, k18, k19, k20, k21, k22, k23, k24, k25, k26, k27, k28, k29, k30]
/-- the class that the rule has made for the site at 5 of com/example/tillbeat/tillbeat/model/TextRule.atMost -/
def k31 : Class := Jvm.LamKit.madeRec { classes := classes0 } "com/example/tillbeat/tillbeat/model/TextRule" (Jvm.Lambda.Shape.mk "java/util/function/Predicate" "test" (Jvm.ClassFile.MethodDescriptor.mk ([(Jvm.ClassFile.FieldType.object "java/lang/Object")] : List Jvm.ClassFile.FieldType) (Option.some Jvm.ClassFile.FieldType.boolean)) ([Jvm.ClassFile.FieldType.int] : List Jvm.ClassFile.FieldType) (6 : Nat) "com/example/tillbeat/tillbeat/model/TextRule" "lambda$atMost$0" (Jvm.ClassFile.MethodDescriptor.mk ([Jvm.ClassFile.FieldType.int, (Jvm.ClassFile.FieldType.object "java/lang/String")] : List Jvm.ClassFile.FieldType) (Option.some Jvm.ClassFile.FieldType.boolean)) false (Jvm.ClassFile.MethodDescriptor.mk ([(Jvm.ClassFile.FieldType.object "java/lang/String")] : List Jvm.ClassFile.FieldType) (Option.some Jvm.ClassFile.FieldType.boolean))) 31

def heap : Heap := #[{ cls := 7, slots := #[.long 0, .int 1, .null, .int 0, .null, .int 0, .int 0], vm := .statics 7 },
  { cls := 15, slots := #[.int 0, .int 0, .null, .null, .ref 5, .ref 4, .int 0, .int 0, .long 0], vm := .statics 15 },
  { cls := 20, slots := #[.null, .null, .null], vm := .statics 20 },
  { cls := 22, slots := #[.int 0, .int 8, .int 0, .int 1], vm := .statics 22 },
  { cls := 26, slots := #[.int 48, .int 49, .int 50, .int 51, .int 52, .int 53, .int 54, .int 55, .int 56, .int 57, .int 48, .int 49, .int 50, .int 51, .int 52, .int 53, .int 54, .int 55, .int 56, .int 57, .int 48, .int 49, .int 50, .int 51, .int 52, .int 53, .int 54, .int 55, .int 56, .int 57, .int 48, .int 49, .int 50, .int 51, .int 52, .int 53, .int 54, .int 55, .int 56, .int 57, .int 48, .int 49, .int 50, .int 51, .int 52, .int 53, .int 54, .int 55, .int 56, .int 57, .int 48, .int 49, .int 50, .int 51, .int 52, .int 53, .int 54, .int 55, .int 56, .int 57, .int 48, .int 49, .int 50, .int 51, .int 52, .int 53, .int 54, .int 55, .int 56, .int 57, .int 48, .int 49, .int 50, .int 51, .int 52, .int 53, .int 54, .int 55, .int 56, .int 57, .int 48, .int 49, .int 50, .int 51, .int 52, .int 53, .int 54, .int 55, .int 56, .int 57, .int 48, .int 49, .int 50, .int 51, .int 52, .int 53, .int 54, .int 55, .int 56, .int 57], vm := .none },
  { cls := 26, slots := #[.int 48, .int 48, .int 48, .int 48, .int 48, .int 48, .int 48, .int 48, .int 48, .int 48, .int 49, .int 49, .int 49, .int 49, .int 49, .int 49, .int 49, .int 49, .int 49, .int 49, .int 50, .int 50, .int 50, .int 50, .int 50, .int 50, .int 50, .int 50, .int 50, .int 50, .int 51, .int 51, .int 51, .int 51, .int 51, .int 51, .int 51, .int 51, .int 51, .int 51, .int 52, .int 52, .int 52, .int 52, .int 52, .int 52, .int 52, .int 52, .int 52, .int 52, .int 53, .int 53, .int 53, .int 53, .int 53, .int 53, .int 53, .int 53, .int 53, .int 53, .int 54, .int 54, .int 54, .int 54, .int 54, .int 54, .int 54, .int 54, .int 54, .int 54, .int 55, .int 55, .int 55, .int 55, .int 55, .int 55, .int 55, .int 55, .int 55, .int 55, .int 56, .int 56, .int 56, .int 56, .int 56, .int 56, .int 56, .int 56, .int 56, .int 56, .int 57, .int 57, .int 57, .int 57, .int 57, .int 57, .int 57, .int 57, .int 57, .int 57], vm := .none }]
def classes : Array Class := #[k0, k1, k2, k3, k4, k5, k6, k7, k8, k9, k10, k11, k12, k13, k14, k15, k16, k17, k18, k19, k20, k21, k22, k23, k24, k25, k26, k27, k28, k29, k30, k31]
def interned : List (Array UInt16 × Addr) := []
def slotsUsed : Nat := 223
def theMethod : MethodId := ⟨1, 5⟩
def args0 : Array Value := #[.int 5, .int 7, .int 9, .int 11, .int 13]
def aboutOver (below : List Frame) : State where
  vm := { classes := classes, interned := interned.toArray }
  heap := heap
  slotsUsed := slotsUsed
  threads := #[{ frames := .invoking theMethod args0 :: below }]
def below0 : List Frame := [.native { method := ⟨0, 0⟩, args := #[] }]
def about1 : State := aboutOver below0
def p0 : Program := .bare "" "" ""
def e0 : Env := launch0.env 0 0 0
theorem w_frames : about1.frames = Frame.invoking theMethod args0 :: below0 := rfl
set_option maxRecDepth 65536 in
theorem w_args : argsFit about1.vm theMethod args0 = true := by decide +kernel
set_option maxRecDepth 65536 in
theorem w_heap : heapFits about1 = true := by decide +kernel
set_option maxRecDepth 65536 in
theorem w_runnable : about1.curStatus? = some .runnable := by decide +kernel
set_option maxRecDepth 65536 in
theorem w_alone : about1.alone = true := by decide +kernel
set_option maxRecDepth 65536 in
theorem w_named : about1.methodNamed? x = some theMethod := by decide +kernel
set_option maxRecDepth 65536 in
theorem w_hears : about1.hears theMethod below0 = true := by decide +kernel
set_option maxRecDepth 65536 in
theorem w_ripe : about1.ripe theMethod args0 below0 = true := by decide +kernel
theorem w_running : about1.status = .running := rfl
set_option maxRecDepth 65536 in
theorem w_room : about1.hasRoom e0.platform room_1 = true :=
  launch0.hasRoom_least _ room_1 (by decide +kernel) (by decide +kernel) (by decide +kernel) (by decide +kernel) (by decide +kernel) (by decide +kernel)
theorem allAtoms_all (ts : List Jvm.Cond) (a : Array Jvm.Value) (st : Jvm.State) : (allAtoms ts).before a st = ts.all (fun c => c.before a st) := by
  induction ts with
  | nil => rfl
  | cons c t ih =>
    show (Jvm.Cond.and c (allAtoms t)).before a st = _
    rw [Jvm.Cond.before_and, ih, List.all_cons]
def words1 : List Jvm.Cond := Jvm.Cond.code x code maxLocals ret :: tables_1
/-- a 'code' word, met by the world's own term for the bytes: nothing is compared byte by byte -/
theorem code_word {y : MethodName} {bytes : ByteArray} {mx : Nat} {rt : Option FieldType} {a : Array Value} {s : State} {m : MethodId} {meth : Method} {c : Code} (h1 : s.methodNamed? y = some m) (h2 : s.vm.method? m = some meth) (h3 : meth.code = some c) (h4 : c.code = bytes)
    (h5 : (c.maxLocals == mx && c.exceptionTable.isEmpty && decide (c.maxStack ≤ mostOperands) && decide (meth.sig.returnType = rt) && !meth.locks && decide (parseMethodDescriptor y.desc = some meth.sig)) = true) : (Jvm.Cond.code y bytes mx rt).before a s = true := by
  simp only [Bool.and_eq_true, beq_iff_eq, Bool.not_eq_true', decide_eq_true_eq] at h5
  obtain ⟨⟨⟨⟨⟨g1, g2⟩, g3⟩, g4⟩, g5⟩, g6⟩ := h5
  simp [Cond.before, Cond.holds, Cond.value, h1, h2, h3, h4, g1, g2, g3, g4, g5, g6]
def isCode : Jvm.Cond → Bool
  | .code _ _ _ _ => true
  | _ => false
theorem all_split {L : List Jvm.Cond} {P : Jvm.Cond → Bool} (h1 : L.all (fun c => isCode c || P c) = true) (h2 : ∀ c ∈ L.filter isCode, P c = true) : L.all P = true := by
  refine List.all_eq_true.mpr fun c hc => ?_
  have h := List.all_eq_true.mp h1 c hc
  rcases Bool.eq_false_or_eq_true (isCode c) with hi | hi
  · exact h2 c (List.mem_filter.mpr ⟨hc, hi⟩)
  · simpa [hi] using h
set_option maxRecDepth 65536 in
theorem w_c0 : (Jvm.Cond.code x code maxLocals ret).before args0 about1 = true := code_word (m := ⟨1, 5⟩) (meth := k1m5) (c := k1c5) (by decide +kernel) rfl rfl rfl (by decide +kernel)
set_option maxRecDepth 65536 in
theorem w_c1 : (Jvm.Cond.code ({ cls := "com/example/tillbeat/tillbeat/model/TextRuleAtMostPinLaw", name := "mk", desc := "(I)C" } : Jvm.MethodName) method_2_code (2 : Nat) (Option.some Jvm.ClassFile.FieldType.char)).before args0 about1 = true := code_word (m := ⟨1, 1⟩) (meth := k1m1) (c := k1c1) (by decide +kernel) rfl rfl rfl (by decide +kernel)
set_option maxRecDepth 65536 in
theorem w_c2 : (Jvm.Cond.code ({ cls := "java/lang/String", name := "<init>", desc := "([C)V" } : Jvm.MethodName) jdk_42_method_3_code (2 : Nat) (Option.none : Option Jvm.ClassFile.FieldType)).before args0 about1 = true := code_word (m := ⟨7, 1⟩) (meth := k7m1) (c := k7c1) (by decide +kernel) rfl rfl rfl (by decide +kernel)
set_option maxRecDepth 65536 in
theorem w_c3 : (Jvm.Cond.code ({ cls := "java/lang/String", name := "<init>", desc := "([CIILjava/lang/Void;)V" } : Jvm.MethodName) jdk_42_method_149_code (6 : Nat) (Option.none : Option Jvm.ClassFile.FieldType)).before args0 about1 = true := code_word (m := ⟨7, 7⟩) (meth := k7m7) (c := k7c7) (by decide +kernel) rfl rfl rfl (by decide +kernel)
set_option maxRecDepth 65536 in
theorem w_c4 : (Jvm.Cond.code ({ cls := "java/lang/Object", name := "<init>", desc := "()V" } : Jvm.MethodName) object_method_1_code (1 : Nat) (Option.none : Option Jvm.ClassFile.FieldType)).before args0 about1 = true := code_word (m := ⟨0, 0⟩) (meth := k0m0) (c := k0c0) (by decide +kernel) rfl rfl rfl (by decide +kernel)
set_option maxRecDepth 65536 in
theorem w_c5 : (Jvm.Cond.code ({ cls := "com/example/tillbeat/tillbeat/model/TextRule", name := "atMost", desc := "(I)Lcom/example/tillbeat/tillbeat/model/TextRule;" } : Jvm.MethodName) prog_25_method_2_code (1 : Nat) (Option.some (Jvm.ClassFile.FieldType.object "com/example/tillbeat/tillbeat/model/TextRule"))).before args0 about1 = true := code_word (m := ⟨8, 1⟩) (meth := k8m1) (c := k8c1) (by decide +kernel) rfl rfl rfl (by decide +kernel)
set_option maxRecDepth 65536 in
theorem w_c6 : (Jvm.Cond.code ({ cls := "java/lang/StringBuilder", name := "<init>", desc := "()V" } : Jvm.MethodName) jdk_67_method_1_code (1 : Nat) (Option.none : Option Jvm.ClassFile.FieldType)).before args0 about1 = true := code_word (m := ⟨12, 0⟩) (meth := k12m0) (c := k12c0) (by decide +kernel) rfl rfl rfl (by decide +kernel)
set_option maxRecDepth 65536 in
theorem w_c7 : (Jvm.Cond.code ({ cls := "java/lang/AbstractStringBuilder", name := "<init>", desc := "(I)V" } : Jvm.MethodName) jdk_68_method_2_code (2 : Nat) (Option.none : Option Jvm.ClassFile.FieldType)).before args0 about1 = true := code_word (m := ⟨11, 1⟩) (meth := k11m1) (c := k11c1) (by decide +kernel) rfl rfl rfl (by decide +kernel)
set_option maxRecDepth 65536 in
theorem w_c8 : (Jvm.Cond.code ({ cls := "java/lang/StringBuilder", name := "append", desc := "(Ljava/lang/String;)Ljava/lang/StringBuilder;" } : Jvm.MethodName) jdk_67_method_7_code (2 : Nat) (Option.some (Jvm.ClassFile.FieldType.object "java/lang/StringBuilder"))).before args0 about1 = true := code_word (m := ⟨12, 1⟩) (meth := k12m1) (c := k12c1) (by decide +kernel) rfl rfl rfl (by decide +kernel)
set_option maxRecDepth 65536 in
theorem w_c9 : (Jvm.Cond.code ({ cls := "java/lang/AbstractStringBuilder", name := "append", desc := "(Ljava/lang/String;)Ljava/lang/AbstractStringBuilder;" } : Jvm.MethodName) jdk_68_method_22_code (3 : Nat) (Option.some (Jvm.ClassFile.FieldType.object "java/lang/AbstractStringBuilder"))).before args0 about1 = true := code_word (m := ⟨11, 5⟩) (meth := k11m5) (c := k11c5) (by decide +kernel) rfl rfl rfl (by decide +kernel)
set_option maxRecDepth 65536 in
theorem w_c10 : (Jvm.Cond.code ({ cls := "java/lang/String", name := "length", desc := "()I" } : Jvm.MethodName) jdk_42_method_54_code (1 : Nat) (Option.some Jvm.ClassFile.FieldType.int)).before args0 about1 = true := code_word (m := ⟨7, 3⟩) (meth := k7m3) (c := k7c3) (by decide +kernel) rfl rfl rfl (by decide +kernel)
set_option maxRecDepth 65536 in
theorem w_c11 : (Jvm.Cond.code ({ cls := "java/lang/String", name := "coder", desc := "()B" } : Jvm.MethodName) jdk_42_method_152_code (1 : Nat) (Option.some Jvm.ClassFile.FieldType.byte)).before args0 about1 = true := code_word (m := ⟨7, 9⟩) (meth := k7m9) (c := k7c9) (by decide +kernel) rfl rfl rfl (by decide +kernel)
set_option maxRecDepth 65536 in
theorem w_c12 : (Jvm.Cond.code ({ cls := "java/lang/AbstractStringBuilder", name := "ensureCapacityInternal", desc := "(I)V" } : Jvm.MethodName) jdk_68_method_9_code (3 : Nat) (Option.none : Option Jvm.ClassFile.FieldType)).before args0 about1 = true := code_word (m := ⟨11, 3⟩) (meth := k11m3) (c := k11c3) (by decide +kernel) rfl rfl rfl (by decide +kernel)
set_option maxRecDepth 65536 in
theorem w_c13 : (Jvm.Cond.code ({ cls := "java/lang/AbstractStringBuilder", name := "putStringAt", desc := "(ILjava/lang/String;)V" } : Jvm.MethodName) jdk_68_method_73_code (3 : Nat) (Option.none : Option Jvm.ClassFile.FieldType)).before args0 about1 = true := code_word (m := ⟨11, 10⟩) (meth := k11m10) (c := k11c10) (by decide +kernel) rfl rfl rfl (by decide +kernel)
set_option maxRecDepth 65536 in
theorem w_c14 : (Jvm.Cond.code ({ cls := "java/lang/AbstractStringBuilder", name := "inflateIfNeededFor", desc := "(Ljava/lang/String;)V" } : Jvm.MethodName) jdk_68_method_71_code (2 : Nat) (Option.none : Option Jvm.ClassFile.FieldType)).before args0 about1 = true := code_word (m := ⟨11, 9⟩) (meth := k11m9) (c := k11c9) (by decide +kernel) rfl rfl rfl (by decide +kernel)
set_option maxRecDepth 65536 in
theorem w_c15 : (Jvm.Cond.code ({ cls := "java/lang/String", name := "getBytes", desc := "([BIB)V" } : Jvm.MethodName) jdk_42_method_147_code (4 : Nat) (Option.none : Option Jvm.ClassFile.FieldType)).before args0 about1 = true := code_word (m := ⟨7, 6⟩) (meth := k7m6) (c := k7c6) (by decide +kernel) rfl rfl rfl (by decide +kernel)
set_option maxRecDepth 65536 in
theorem w_c16 : (Jvm.Cond.code ({ cls := "java/lang/StringBuilder", name := "append", desc := "(I)Ljava/lang/StringBuilder;" } : Jvm.MethodName) jdk_67_method_15_code (2 : Nat) (Option.some (Jvm.ClassFile.FieldType.object "java/lang/StringBuilder"))).before args0 about1 = true := code_word (m := ⟨12, 2⟩) (meth := k12m2) (c := k12c2) (by decide +kernel) rfl rfl rfl (by decide +kernel)
set_option maxRecDepth 65536 in
theorem w_c17 : (Jvm.Cond.code ({ cls := "java/lang/AbstractStringBuilder", name := "append", desc := "(I)Ljava/lang/AbstractStringBuilder;" } : Jvm.MethodName) jdk_68_method_32_code (4 : Nat) (Option.some (Jvm.ClassFile.FieldType.object "java/lang/AbstractStringBuilder"))).before args0 about1 = true := code_word (m := ⟨11, 6⟩) (meth := k11m6) (c := k11c6) (by decide +kernel) rfl rfl rfl (by decide +kernel)
set_option maxRecDepth 65536 in
theorem w_c18 : (Jvm.Cond.code ({ cls := "java/lang/Integer", name := "stringSize", desc := "(I)I" } : Jvm.MethodName) jdk_33_method_13_code (4 : Nat) (Option.some Jvm.ClassFile.FieldType.int)).before args0 about1 = true := code_word (m := ⟨15, 1⟩) (meth := k15m1) (c := k15c1) (by decide +kernel) rfl rfl rfl (by decide +kernel)
set_option maxRecDepth 65536 in
theorem w_c19 : (Jvm.Cond.code ({ cls := "java/lang/AbstractStringBuilder", name := "newCapacity", desc := "(I)I" } : Jvm.MethodName) jdk_68_method_10_code (6 : Nat) (Option.some Jvm.ClassFile.FieldType.int)).before args0 about1 = true := code_word (m := ⟨11, 4⟩) (meth := k11m4) (c := k11c4) (by decide +kernel) rfl rfl rfl (by decide +kernel)
set_option maxRecDepth 65536 in
theorem w_c20 : (Jvm.Cond.code ({ cls := "jdk/internal/util/ArraysSupport", name := "newLength", desc := "(III)I" } : Jvm.MethodName) jdk_48_method_27_code (4 : Nat) (Option.some Jvm.ClassFile.FieldType.int)).before args0 about1 = true := code_word (m := ⟨16, 1⟩) (meth := k16m1) (c := k16c1) (by decide +kernel) rfl rfl rfl (by decide +kernel)
set_option maxRecDepth 65536 in
theorem w_c21 : (Jvm.Cond.code ({ cls := "java/lang/Math", name := "max", desc := "(II)I" } : Jvm.MethodName) jdk_29_method_65_code (2 : Nat) (Option.some Jvm.ClassFile.FieldType.int)).before args0 about1 = true := code_word (m := ⟨17, 2⟩) (meth := k17m2) (c := k17c2) (by decide +kernel) rfl rfl rfl (by decide +kernel)
set_option maxRecDepth 65536 in
theorem w_c22 : (Jvm.Cond.code ({ cls := "java/util/Arrays", name := "copyOf", desc := "([BI)[B" } : Jvm.MethodName) jdk_65_method_121_code (3 : Nat) (Option.some (Jvm.ClassFile.FieldType.array Jvm.ClassFile.FieldType.byte))).before args0 about1 = true := code_word (m := ⟨18, 1⟩) (meth := k18m1) (c := k18c1) (by decide +kernel) rfl rfl rfl (by decide +kernel)
set_option maxRecDepth 65536 in
theorem w_c23 : (Jvm.Cond.code ({ cls := "java/lang/Math", name := "min", desc := "(II)I" } : Jvm.MethodName) jdk_29_method_69_code (2 : Nat) (Option.some Jvm.ClassFile.FieldType.int)).before args0 about1 = true := code_word (m := ⟨17, 3⟩) (meth := k17m3) (c := k17c3) (by decide +kernel) rfl rfl rfl (by decide +kernel)
set_option maxRecDepth 65536 in
theorem w_c24 : (Jvm.Cond.code ({ cls := "java/lang/AbstractStringBuilder", name := "isLatin1", desc := "()Z" } : Jvm.MethodName) jdk_68_method_68_code (1 : Nat) (Option.some Jvm.ClassFile.FieldType.boolean)).before args0 about1 = true := code_word (m := ⟨11, 8⟩) (meth := k11m8) (c := k11c8) (by decide +kernel) rfl rfl rfl (by decide +kernel)
set_option maxRecDepth 65536 in
theorem w_c25 : (Jvm.Cond.code ({ cls := "java/lang/Integer", name := "getChars", desc := "(II[B)I" } : Jvm.MethodName) jdk_33_method_12_code (7 : Nat) (Option.some Jvm.ClassFile.FieldType.int)).before args0 about1 = true := code_word (m := ⟨15, 0⟩) (meth := k15m0) (c := k15c0) (by decide +kernel) rfl rfl rfl (by decide +kernel)
set_option maxRecDepth 65536 in
theorem w_c26 : (Jvm.Cond.code ({ cls := "java/lang/StringBuilder", name := "toString", desc := "()Ljava/lang/String;" } : Jvm.MethodName) jdk_67_method_42_code (1 : Nat) (Option.some (Jvm.ClassFile.FieldType.object "java/lang/String"))).before args0 about1 = true := code_word (m := ⟨12, 3⟩) (meth := k12m3) (c := k12c3) (by decide +kernel) rfl rfl rfl (by decide +kernel)
set_option maxRecDepth 65536 in
theorem w_c27 : (Jvm.Cond.code ({ cls := "java/lang/String", name := "<init>", desc := "(Ljava/lang/StringBuilder;)V" } : Jvm.MethodName) jdk_42_method_53_code (2 : Nat) (Option.none : Option Jvm.ClassFile.FieldType)).before args0 about1 = true := code_word (m := ⟨7, 2⟩) (meth := k7m2) (c := k7c2) (by decide +kernel) rfl rfl rfl (by decide +kernel)
set_option maxRecDepth 65536 in
theorem w_c28 : (Jvm.Cond.code ({ cls := "java/lang/String", name := "<init>", desc := "(Ljava/lang/AbstractStringBuilder;Ljava/lang/Void;)V" } : Jvm.MethodName) jdk_42_method_150_code (5 : Nat) (Option.none : Option Jvm.ClassFile.FieldType)).before args0 about1 = true := code_word (m := ⟨7, 8⟩) (meth := k7m8) (c := k7c8) (by decide +kernel) rfl rfl rfl (by decide +kernel)
set_option maxRecDepth 65536 in
theorem w_c29 : (Jvm.Cond.code ({ cls := "java/lang/AbstractStringBuilder", name := "getValue", desc := "()[B" } : Jvm.MethodName) jdk_68_method_64_code (1 : Nat) (Option.some (Jvm.ClassFile.FieldType.array Jvm.ClassFile.FieldType.byte))).before args0 about1 = true := code_word (m := ⟨11, 7⟩) (meth := k11m7) (c := k11c7) (by decide +kernel) rfl rfl rfl (by decide +kernel)
set_option maxRecDepth 65536 in
theorem w_c30 : (Jvm.Cond.code ({ cls := "java/lang/StringBuilder", name := "length", desc := "()I" } : Jvm.MethodName) jdk_67_method_93_code (1 : Nat) (Option.some Jvm.ClassFile.FieldType.int)).before args0 about1 = true := code_word (m := ⟨12, 4⟩) (meth := k12m4) (c := k12c4) (by decide +kernel) rfl rfl rfl (by decide +kernel)
set_option maxRecDepth 65536 in
theorem w_c31 : (Jvm.Cond.code ({ cls := "java/lang/AbstractStringBuilder", name := "length", desc := "()I" } : Jvm.MethodName) jdk_68_method_6_code (1 : Nat) (Option.some Jvm.ClassFile.FieldType.int)).before args0 about1 = true := code_word (m := ⟨11, 2⟩) (meth := k11m2) (c := k11c2) (by decide +kernel) rfl rfl rfl (by decide +kernel)
set_option maxRecDepth 65536 in
theorem w_c32 : (Jvm.Cond.code ({ cls := "java/util/Arrays", name := "copyOfRange", desc := "([BII)[B" } : Jvm.MethodName) jdk_65_method_132_code (3 : Nat) (Option.some (Jvm.ClassFile.FieldType.array Jvm.ClassFile.FieldType.byte))).before args0 about1 = true := code_word (m := ⟨18, 3⟩) (meth := k18m3) (c := k18c3) (by decide +kernel) rfl rfl rfl (by decide +kernel)
set_option maxRecDepth 65536 in
theorem w_c33 : (Jvm.Cond.code ({ cls := "java/util/Arrays", name := "copyOfRangeByte", desc := "([BII)[B" } : Jvm.MethodName) jdk_65_method_133_code (5 : Nat) (Option.some (Jvm.ClassFile.FieldType.array Jvm.ClassFile.FieldType.byte))).before args0 about1 = true := code_word (m := ⟨18, 4⟩) (meth := k18m4) (c := k18c4) (by decide +kernel) rfl rfl rfl (by decide +kernel)
set_option maxRecDepth 65536 in
theorem w_c34 : (Jvm.Cond.code ({ cls := "java/util/Arrays", name := "checkLength", desc := "(II)V" } : Jvm.MethodName) jdk_65_method_131_code (2 : Nat) (Option.none : Option Jvm.ClassFile.FieldType)).before args0 about1 = true := code_word (m := ⟨18, 2⟩) (meth := k18m2) (c := k18c2) (by decide +kernel) rfl rfl rfl (by decide +kernel)
set_option maxRecDepth 65536 in
theorem w_c35 : (Jvm.Cond.code ({ cls := "com/example/tillbeat/tillbeat/model/TextRule", name := "<init>", desc := "(Ljava/util/function/Predicate;Ljava/lang/String;)V" } : Jvm.MethodName) prog_25_method_1_code (3 : Nat) (Option.none : Option Jvm.ClassFile.FieldType)).before args0 about1 = true := code_word (m := ⟨8, 0⟩) (meth := k8m0) (c := k8c0) (by decide +kernel) rfl rfl rfl (by decide +kernel)
set_option maxRecDepth 65536 in
theorem w_c36 : (Jvm.Cond.code ({ cls := "java/util/Objects", name := "requireNonNull", desc := "(Ljava/lang/Object;Ljava/lang/String;)Ljava/lang/Object;" } : Jvm.MethodName) jdk_31_method_11_code (2 : Nat) (Option.some (Jvm.ClassFile.FieldType.object "java/lang/Object"))).before args0 about1 = true := code_word (m := ⟨19, 1⟩) (meth := k19m1) (c := k19c1) (by decide +kernel) rfl rfl rfl (by decide +kernel)
set_option maxRecDepth 65536 in
theorem w_c37 : (Jvm.Cond.code ({ cls := "com/example/tillbeat/tillbeat/model/TextRule", name := "allows", desc := "(Ljava/lang/String;)Z" } : Jvm.MethodName) prog_25_method_7_code (2 : Nat) (Option.some Jvm.ClassFile.FieldType.boolean)).before args0 about1 = true := code_word (m := ⟨8, 2⟩) (meth := k8m2) (c := k8c2) (by decide +kernel) rfl rfl rfl (by decide +kernel)
set_option maxRecDepth 65536 in
theorem w_c38 : (Jvm.Cond.code ({ cls := "com/example/tillbeat/tillbeat/model/TextRule", name := "lambda$atMost$0", desc := "(ILjava/lang/String;)Z" } : Jvm.MethodName) prog_25_method_12_code (2 : Nat) (Option.some Jvm.ClassFile.FieldType.boolean)).before args0 about1 = true := code_word (m := ⟨8, 5⟩) (meth := k8m5) (c := k8c5) (by decide +kernel) rfl rfl rfl (by decide +kernel)
set_option maxRecDepth 65536 in
theorem w_c39 : (Jvm.Cond.code ({ cls := "com/example/tillbeat/tillbeat/model/TextRule", name := "characters", desc := "(Ljava/lang/String;)I" } : Jvm.MethodName) prog_25_method_9_code (1 : Nat) (Option.some Jvm.ClassFile.FieldType.int)).before args0 about1 = true := code_word (m := ⟨8, 4⟩) (meth := k8m4) (c := k8c4) (by decide +kernel) rfl rfl rfl (by decide +kernel)
set_option maxRecDepth 65536 in
theorem w_c40 : (Jvm.Cond.code ({ cls := "java/lang/String", name := "codePointCount", desc := "(II)I" } : Jvm.MethodName) jdk_42_method_59_code (3 : Nat) (Option.some Jvm.ClassFile.FieldType.int)).before args0 about1 = true := code_word (m := ⟨7, 5⟩) (meth := k7m5) (c := k7c5) (by decide +kernel) rfl rfl rfl (by decide +kernel)
set_option maxRecDepth 65536 in
theorem w_c41 : (Jvm.Cond.code ({ cls := "java/util/Objects", name := "checkFromToIndex", desc := "(III)I" } : Jvm.MethodName) jdk_31_method_18_code (3 : Nat) (Option.some Jvm.ClassFile.FieldType.int)).before args0 about1 = true := code_word (m := ⟨19, 2⟩) (meth := k19m2) (c := k19c2) (by decide +kernel) rfl rfl rfl (by decide +kernel)
set_option maxRecDepth 65536 in
theorem w_c42 : (Jvm.Cond.code ({ cls := "jdk/internal/util/Preconditions", name := "checkFromToIndex", desc := "(IIILjava/util/function/BiFunction;)I" } : Jvm.MethodName) jdk_41_method_12_code (4 : Nat) (Option.some Jvm.ClassFile.FieldType.int)).before args0 about1 = true := code_word (m := ⟨20, 2⟩) (meth := k20m2) (c := k20c2) (by decide +kernel) rfl rfl rfl (by decide +kernel)
set_option maxRecDepth 65536 in
theorem w_c43 : (Jvm.Cond.code ({ cls := "java/lang/String", name := "isLatin1", desc := "()Z" } : Jvm.MethodName) jdk_42_method_154_code (1 : Nat) (Option.some Jvm.ClassFile.FieldType.boolean)).before args0 about1 = true := code_word (m := ⟨7, 10⟩) (meth := k7m10) (c := k7c10) (by decide +kernel) rfl rfl rfl (by decide +kernel)
set_option maxRecDepth 65536 in
theorem w_c44 : (Jvm.Cond.code ({ cls := "com/example/tillbeat/tillbeat/model/TextRule", name := "requirement", desc := "()Ljava/lang/String;" } : Jvm.MethodName) prog_25_method_8_code (1 : Nat) (Option.some (Jvm.ClassFile.FieldType.object "java/lang/String"))).before args0 about1 = true := code_word (m := ⟨8, 3⟩) (meth := k8m3) (c := k8c3) (by decide +kernel) rfl rfl rfl (by decide +kernel)
set_option maxRecDepth 65536 in
theorem w_c45 : (Jvm.Cond.code ({ cls := "java/lang/Math", name := "abs", desc := "(J)J" } : Jvm.MethodName) jdk_29_method_61_code (2 : Nat) (Option.some Jvm.ClassFile.FieldType.long)).before args0 about1 = true := code_word (m := ⟨17, 1⟩) (meth := k17m1) (c := k17c1) (by decide +kernel) rfl rfl rfl (by decide +kernel)
set_option maxRecDepth 65536 in
theorem w_c46 : (Jvm.Cond.code ({ cls := "com/example/tillbeat/tillbeat/model/TextRuleAtMostPinLaw", name := "digits", desc := "(J)I" } : Jvm.MethodName) method_5_code (2 : Nat) (Option.some Jvm.ClassFile.FieldType.int)).before args0 about1 = true := code_word (m := ⟨1, 4⟩) (meth := k1m4) (c := k1c4) (by decide +kernel) rfl rfl rfl (by decide +kernel)
set_option maxRecDepth 65536 in
theorem w_c47 : (Jvm.Cond.code ({ cls := "java/lang/String", name := "charAt", desc := "(I)C" } : Jvm.MethodName) jdk_42_method_56_code (2 : Nat) (Option.some Jvm.ClassFile.FieldType.char)).before args0 about1 = true := code_word (m := ⟨7, 4⟩) (meth := k7m4) (c := k7c4) (by decide +kernel) rfl rfl rfl (by decide +kernel)
set_option maxRecDepth 65536 in
theorem w_c48 : (Jvm.Cond.code ({ cls := "java/lang/StringLatin1", name := "charAt", desc := "([BI)C" } : Jvm.MethodName) jdk_43_method_2_code (2 : Nat) (Option.some Jvm.ClassFile.FieldType.char)).before args0 about1 = true := code_word (m := ⟨21, 1⟩) (meth := k21m1) (c := k21c1) (by decide +kernel) rfl rfl rfl (by decide +kernel)
set_option maxRecDepth 65536 in
theorem w_c49 : (Jvm.Cond.code ({ cls := "java/lang/String", name := "checkIndex", desc := "(II)V" } : Jvm.MethodName) jdk_42_method_155_code (2 : Nat) (Option.none : Option Jvm.ClassFile.FieldType)).before args0 about1 = true := code_word (m := ⟨7, 11⟩) (meth := k7m11) (c := k7c11) (by decide +kernel) rfl rfl rfl (by decide +kernel)
set_option maxRecDepth 65536 in
theorem w_c50 : (Jvm.Cond.code ({ cls := "jdk/internal/util/Preconditions", name := "checkIndex", desc := "(IILjava/util/function/BiFunction;)I" } : Jvm.MethodName) jdk_41_method_11_code (3 : Nat) (Option.some Jvm.ClassFile.FieldType.int)).before args0 about1 = true := code_word (m := ⟨20, 1⟩) (meth := k20m1) (c := k20c1) (by decide +kernel) rfl rfl rfl (by decide +kernel)
set_option maxRecDepth 65536 in
theorem w_c51 : (Jvm.Cond.code ({ cls := "java/lang/StringUTF16", name := "compress", desc := "([CII)[B" } : Jvm.MethodName) jdk_52_method_16_code (6 : Nat) (Option.some (Jvm.ClassFile.FieldType.array Jvm.ClassFile.FieldType.byte))).before args0 about1 = true := code_word (m := ⟨22, 9⟩) (meth := k22m9) (c := k22c9) (by decide +kernel) rfl rfl rfl (by decide +kernel)
set_option maxRecDepth 65536 in
theorem w_c52 : (Jvm.Cond.code ({ cls := "java/lang/StringUTF16", name := "compress", desc := "([CI[BII)I" } : Jvm.MethodName) jdk_52_method_21_code (7 : Nat) (Option.some Jvm.ClassFile.FieldType.int)).before args0 about1 = true := code_word (m := ⟨22, 10⟩) (meth := k22m10) (c := k22c10) (by decide +kernel) rfl rfl rfl (by decide +kernel)
set_option maxRecDepth 65536 in
theorem w_c53 : (Jvm.Cond.code ({ cls := "java/lang/StringUTF16", name := "toBytes", desc := "([CII)[B" } : Jvm.MethodName) jdk_52_method_14_code (5 : Nat) (Option.some (Jvm.ClassFile.FieldType.array Jvm.ClassFile.FieldType.byte))).before args0 about1 = true := code_word (m := ⟨22, 7⟩) (meth := k22m7) (c := k22c7) (by decide +kernel) rfl rfl rfl (by decide +kernel)
set_option maxRecDepth 65536 in
theorem w_c54 : (Jvm.Cond.code ({ cls := "java/lang/StringUTF16", name := "newBytesFor", desc := "(I)[B" } : Jvm.MethodName) jdk_52_method_2_code (1 : Nat) (Option.some (Jvm.ClassFile.FieldType.array Jvm.ClassFile.FieldType.byte))).before args0 about1 = true := code_word (m := ⟨22, 1⟩) (meth := k22m1) (c := k22c1) (by decide +kernel) rfl rfl rfl (by decide +kernel)
set_option maxRecDepth 65536 in
theorem w_c55 : (Jvm.Cond.code ({ cls := "java/lang/StringUTF16", name := "newBytesLength", desc := "(I)I" } : Jvm.MethodName) jdk_52_method_3_code (1 : Nat) (Option.some Jvm.ClassFile.FieldType.int)).before args0 about1 = true := code_word (m := ⟨22, 2⟩) (meth := k22m2) (c := k22c2) (by decide +kernel) rfl rfl rfl (by decide +kernel)
set_option maxRecDepth 65536 in
theorem w_c56 : (Jvm.Cond.code ({ cls := "java/lang/StringUTF16", name := "putChar", desc := "([BII)V" } : Jvm.MethodName) jdk_52_method_4_code (3 : Nat) (Option.none : Option Jvm.ClassFile.FieldType)).before args0 about1 = true := code_word (m := ⟨22, 3⟩) (meth := k22m3) (c := k22c3) (by decide +kernel) rfl rfl rfl (by decide +kernel)
set_option maxRecDepth 65536 in
theorem w_c57 : (Jvm.Cond.code ({ cls := "java/lang/StringUTF16", name := "getChar", desc := "([BI)C" } : Jvm.MethodName) jdk_52_method_5_code (2 : Nat) (Option.some Jvm.ClassFile.FieldType.char)).before args0 about1 = true := code_word (m := ⟨22, 4⟩) (meth := k22m4) (c := k22c4) (by decide +kernel) rfl rfl rfl (by decide +kernel)
set_option maxRecDepth 65536 in
theorem w_c58 : (Jvm.Cond.code ({ cls := "java/lang/StringUTF16", name := "coderFromArrayLen", desc := "([BI)B" } : Jvm.MethodName) jdk_52_method_15_code (2 : Nat) (Option.some Jvm.ClassFile.FieldType.byte)).before args0 about1 = true := code_word (m := ⟨22, 8⟩) (meth := k22m8) (c := k22c8) (by decide +kernel) rfl rfl rfl (by decide +kernel)
set_option maxRecDepth 65536 in
theorem w_c59 : (Jvm.Cond.code ({ cls := "com/example/tillbeat/tillbeat/model/TextRuleAtMostPinLaw", name := "hi", desc := "(C)Z" } : Jvm.MethodName) method_3_code (1 : Nat) (Option.some Jvm.ClassFile.FieldType.boolean)).before args0 about1 = true := code_word (m := ⟨1, 2⟩) (meth := k1m2) (c := k1c2) (by decide +kernel) rfl rfl rfl (by decide +kernel)
set_option maxRecDepth 65536 in
theorem w_c60 : (Jvm.Cond.code ({ cls := "com/example/tillbeat/tillbeat/model/TextRuleAtMostPinLaw", name := "lo", desc := "(C)Z" } : Jvm.MethodName) method_4_code (1 : Nat) (Option.some Jvm.ClassFile.FieldType.boolean)).before args0 about1 = true := code_word (m := ⟨1, 3⟩) (meth := k1m3) (c := k1c3) (by decide +kernel) rfl rfl rfl (by decide +kernel)
set_option maxRecDepth 65536 in
theorem w_c61 : (Jvm.Cond.code ({ cls := "java/lang/StringUTF16", name := "codePointCount", desc := "([BII)I" } : Jvm.MethodName) jdk_52_method_12_code (3 : Nat) (Option.some Jvm.ClassFile.FieldType.int)).before args0 about1 = true := code_word (m := ⟨22, 6⟩) (meth := k22m6) (c := k22c6) (by decide +kernel) rfl rfl rfl (by decide +kernel)
set_option maxRecDepth 65536 in
theorem w_c62 : (Jvm.Cond.code ({ cls := "java/lang/StringUTF16", name := "codePointCount", desc := "([BIIZ)I" } : Jvm.MethodName) jdk_52_method_11_code (6 : Nat) (Option.some Jvm.ClassFile.FieldType.int)).before args0 about1 = true := code_word (m := ⟨22, 5⟩) (meth := k22m5) (c := k22c5) (by decide +kernel) rfl rfl rfl (by decide +kernel)
set_option maxRecDepth 65536 in
theorem w_c63 : (Jvm.Cond.code ({ cls := "java/lang/Character", name := "isHighSurrogate", desc := "(C)Z" } : Jvm.MethodName) jdk_89_method_14_code (1 : Nat) (Option.some Jvm.ClassFile.FieldType.boolean)).before args0 about1 = true := code_word (m := ⟨23, 0⟩) (meth := k23m0) (c := k23c0) (by decide +kernel) rfl rfl rfl (by decide +kernel)
set_option maxRecDepth 65536 in
theorem w_c64 : (Jvm.Cond.code ({ cls := "java/lang/Character", name := "isLowSurrogate", desc := "(C)Z" } : Jvm.MethodName) jdk_89_method_15_code (1 : Nat) (Option.some Jvm.ClassFile.FieldType.boolean)).before args0 about1 = true := code_word (m := ⟨23, 1⟩) (meth := k23m1) (c := k23c1) (by decide +kernel) rfl rfl rfl (by decide +kernel)
def codes1 : List Jvm.Cond := [Jvm.Cond.code x code maxLocals ret, Jvm.Cond.code ({ cls := "com/example/tillbeat/tillbeat/model/TextRuleAtMostPinLaw", name := "mk", desc := "(I)C" } : Jvm.MethodName) method_2_code (2 : Nat) (Option.some Jvm.ClassFile.FieldType.char), Jvm.Cond.code ({ cls := "java/lang/String", name := "<init>", desc := "([C)V" } : Jvm.MethodName) jdk_42_method_3_code (2 : Nat) (Option.none : Option Jvm.ClassFile.FieldType), Jvm.Cond.code ({ cls := "java/lang/String", name := "<init>", desc := "([CIILjava/lang/Void;)V" } : Jvm.MethodName) jdk_42_method_149_code (6 : Nat) (Option.none : Option Jvm.ClassFile.FieldType), Jvm.Cond.code ({ cls := "java/lang/Object", name := "<init>", desc := "()V" } : Jvm.MethodName) object_method_1_code (1 : Nat) (Option.none : Option Jvm.ClassFile.FieldType), Jvm.Cond.code ({ cls := "com/example/tillbeat/tillbeat/model/TextRule", name := "atMost", desc := "(I)Lcom/example/tillbeat/tillbeat/model/TextRule;" } : Jvm.MethodName) prog_25_method_2_code (1 : Nat) (Option.some (Jvm.ClassFile.FieldType.object "com/example/tillbeat/tillbeat/model/TextRule")), Jvm.Cond.code ({ cls := "java/lang/StringBuilder", name := "<init>", desc := "()V" } : Jvm.MethodName) jdk_67_method_1_code (1 : Nat) (Option.none : Option Jvm.ClassFile.FieldType), Jvm.Cond.code ({ cls := "java/lang/AbstractStringBuilder", name := "<init>", desc := "(I)V" } : Jvm.MethodName) jdk_68_method_2_code (2 : Nat) (Option.none : Option Jvm.ClassFile.FieldType), Jvm.Cond.code ({ cls := "java/lang/StringBuilder", name := "append", desc := "(Ljava/lang/String;)Ljava/lang/StringBuilder;" } : Jvm.MethodName) jdk_67_method_7_code (2 : Nat) (Option.some (Jvm.ClassFile.FieldType.object "java/lang/StringBuilder")), Jvm.Cond.code ({ cls := "java/lang/AbstractStringBuilder", name := "append", desc := "(Ljava/lang/String;)Ljava/lang/AbstractStringBuilder;" } : Jvm.MethodName) jdk_68_method_22_code (3 : Nat) (Option.some (Jvm.ClassFile.FieldType.object "java/lang/AbstractStringBuilder")), Jvm.Cond.code ({ cls := "java/lang/String", name := "length", desc := "()I" } : Jvm.MethodName) jdk_42_method_54_code (1 : Nat) (Option.some Jvm.ClassFile.FieldType.int), Jvm.Cond.code ({ cls := "java/lang/String", name := "coder", desc := "()B" } : Jvm.MethodName) jdk_42_method_152_code (1 : Nat) (Option.some Jvm.ClassFile.FieldType.byte), Jvm.Cond.code ({ cls := "java/lang/AbstractStringBuilder", name := "ensureCapacityInternal", desc := "(I)V" } : Jvm.MethodName) jdk_68_method_9_code (3 : Nat) (Option.none : Option Jvm.ClassFile.FieldType), Jvm.Cond.code ({ cls := "java/lang/AbstractStringBuilder", name := "putStringAt", desc := "(ILjava/lang/String;)V" } : Jvm.MethodName) jdk_68_method_73_code (3 : Nat) (Option.none : Option Jvm.ClassFile.FieldType), Jvm.Cond.code ({ cls := "java/lang/AbstractStringBuilder", name := "inflateIfNeededFor", desc := "(Ljava/lang/String;)V" } : Jvm.MethodName) jdk_68_method_71_code (2 : Nat) (Option.none : Option Jvm.ClassFile.FieldType), Jvm.Cond.code ({ cls := "java/lang/String", name := "getBytes", desc := "([BIB)V" } : Jvm.MethodName) jdk_42_method_147_code (4 : Nat) (Option.none : Option Jvm.ClassFile.FieldType), Jvm.Cond.code ({ cls := "java/lang/StringBuilder", name := "append", desc := "(I)Ljava/lang/StringBuilder;" } : Jvm.MethodName) jdk_67_method_15_code (2 : Nat) (Option.some (Jvm.ClassFile.FieldType.object "java/lang/StringBuilder")), Jvm.Cond.code ({ cls := "java/lang/AbstractStringBuilder", name := "append", desc := "(I)Ljava/lang/AbstractStringBuilder;" } : Jvm.MethodName) jdk_68_method_32_code (4 : Nat) (Option.some (Jvm.ClassFile.FieldType.object "java/lang/AbstractStringBuilder")), Jvm.Cond.code ({ cls := "java/lang/Integer", name := "stringSize", desc := "(I)I" } : Jvm.MethodName) jdk_33_method_13_code (4 : Nat) (Option.some Jvm.ClassFile.FieldType.int), Jvm.Cond.code ({ cls := "java/lang/AbstractStringBuilder", name := "newCapacity", desc := "(I)I" } : Jvm.MethodName) jdk_68_method_10_code (6 : Nat) (Option.some Jvm.ClassFile.FieldType.int), Jvm.Cond.code ({ cls := "jdk/internal/util/ArraysSupport", name := "newLength", desc := "(III)I" } : Jvm.MethodName) jdk_48_method_27_code (4 : Nat) (Option.some Jvm.ClassFile.FieldType.int), Jvm.Cond.code ({ cls := "java/lang/Math", name := "max", desc := "(II)I" } : Jvm.MethodName) jdk_29_method_65_code (2 : Nat) (Option.some Jvm.ClassFile.FieldType.int), Jvm.Cond.code ({ cls := "java/util/Arrays", name := "copyOf", desc := "([BI)[B" } : Jvm.MethodName) jdk_65_method_121_code (3 : Nat) (Option.some (Jvm.ClassFile.FieldType.array Jvm.ClassFile.FieldType.byte)), Jvm.Cond.code ({ cls := "java/lang/Math", name := "min", desc := "(II)I" } : Jvm.MethodName) jdk_29_method_69_code (2 : Nat) (Option.some Jvm.ClassFile.FieldType.int), Jvm.Cond.code ({ cls := "java/lang/AbstractStringBuilder", name := "isLatin1", desc := "()Z" } : Jvm.MethodName) jdk_68_method_68_code (1 : Nat) (Option.some Jvm.ClassFile.FieldType.boolean), Jvm.Cond.code ({ cls := "java/lang/Integer", name := "getChars", desc := "(II[B)I" } : Jvm.MethodName) jdk_33_method_12_code (7 : Nat) (Option.some Jvm.ClassFile.FieldType.int), Jvm.Cond.code ({ cls := "java/lang/StringBuilder", name := "toString", desc := "()Ljava/lang/String;" } : Jvm.MethodName) jdk_67_method_42_code (1 : Nat) (Option.some (Jvm.ClassFile.FieldType.object "java/lang/String")), Jvm.Cond.code ({ cls := "java/lang/String", name := "<init>", desc := "(Ljava/lang/StringBuilder;)V" } : Jvm.MethodName) jdk_42_method_53_code (2 : Nat) (Option.none : Option Jvm.ClassFile.FieldType), Jvm.Cond.code ({ cls := "java/lang/String", name := "<init>", desc := "(Ljava/lang/AbstractStringBuilder;Ljava/lang/Void;)V" } : Jvm.MethodName) jdk_42_method_150_code (5 : Nat) (Option.none : Option Jvm.ClassFile.FieldType), Jvm.Cond.code ({ cls := "java/lang/AbstractStringBuilder", name := "getValue", desc := "()[B" } : Jvm.MethodName) jdk_68_method_64_code (1 : Nat) (Option.some (Jvm.ClassFile.FieldType.array Jvm.ClassFile.FieldType.byte)), Jvm.Cond.code ({ cls := "java/lang/StringBuilder", name := "length", desc := "()I" } : Jvm.MethodName) jdk_67_method_93_code (1 : Nat) (Option.some Jvm.ClassFile.FieldType.int), Jvm.Cond.code ({ cls := "java/lang/AbstractStringBuilder", name := "length", desc := "()I" } : Jvm.MethodName) jdk_68_method_6_code (1 : Nat) (Option.some Jvm.ClassFile.FieldType.int), Jvm.Cond.code ({ cls := "java/util/Arrays", name := "copyOfRange", desc := "([BII)[B" } : Jvm.MethodName) jdk_65_method_132_code (3 : Nat) (Option.some (Jvm.ClassFile.FieldType.array Jvm.ClassFile.FieldType.byte)), Jvm.Cond.code ({ cls := "java/util/Arrays", name := "copyOfRangeByte", desc := "([BII)[B" } : Jvm.MethodName) jdk_65_method_133_code (5 : Nat) (Option.some (Jvm.ClassFile.FieldType.array Jvm.ClassFile.FieldType.byte)), Jvm.Cond.code ({ cls := "java/util/Arrays", name := "checkLength", desc := "(II)V" } : Jvm.MethodName) jdk_65_method_131_code (2 : Nat) (Option.none : Option Jvm.ClassFile.FieldType), Jvm.Cond.code ({ cls := "com/example/tillbeat/tillbeat/model/TextRule", name := "<init>", desc := "(Ljava/util/function/Predicate;Ljava/lang/String;)V" } : Jvm.MethodName) prog_25_method_1_code (3 : Nat) (Option.none : Option Jvm.ClassFile.FieldType), Jvm.Cond.code ({ cls := "java/util/Objects", name := "requireNonNull", desc := "(Ljava/lang/Object;Ljava/lang/String;)Ljava/lang/Object;" } : Jvm.MethodName) jdk_31_method_11_code (2 : Nat) (Option.some (Jvm.ClassFile.FieldType.object "java/lang/Object")), Jvm.Cond.code ({ cls := "com/example/tillbeat/tillbeat/model/TextRule", name := "allows", desc := "(Ljava/lang/String;)Z" } : Jvm.MethodName) prog_25_method_7_code (2 : Nat) (Option.some Jvm.ClassFile.FieldType.boolean), Jvm.Cond.code ({ cls := "com/example/tillbeat/tillbeat/model/TextRule", name := "lambda$atMost$0", desc := "(ILjava/lang/String;)Z" } : Jvm.MethodName) prog_25_method_12_code (2 : Nat) (Option.some Jvm.ClassFile.FieldType.boolean), Jvm.Cond.code ({ cls := "com/example/tillbeat/tillbeat/model/TextRule", name := "characters", desc := "(Ljava/lang/String;)I" } : Jvm.MethodName) prog_25_method_9_code (1 : Nat) (Option.some Jvm.ClassFile.FieldType.int), Jvm.Cond.code ({ cls := "java/lang/String", name := "codePointCount", desc := "(II)I" } : Jvm.MethodName) jdk_42_method_59_code (3 : Nat) (Option.some Jvm.ClassFile.FieldType.int), Jvm.Cond.code ({ cls := "java/util/Objects", name := "checkFromToIndex", desc := "(III)I" } : Jvm.MethodName) jdk_31_method_18_code (3 : Nat) (Option.some Jvm.ClassFile.FieldType.int), Jvm.Cond.code ({ cls := "jdk/internal/util/Preconditions", name := "checkFromToIndex", desc := "(IIILjava/util/function/BiFunction;)I" } : Jvm.MethodName) jdk_41_method_12_code (4 : Nat) (Option.some Jvm.ClassFile.FieldType.int), Jvm.Cond.code ({ cls := "java/lang/String", name := "isLatin1", desc := "()Z" } : Jvm.MethodName) jdk_42_method_154_code (1 : Nat) (Option.some Jvm.ClassFile.FieldType.boolean), Jvm.Cond.code ({ cls := "com/example/tillbeat/tillbeat/model/TextRule", name := "requirement", desc := "()Ljava/lang/String;" } : Jvm.MethodName) prog_25_method_8_code (1 : Nat) (Option.some (Jvm.ClassFile.FieldType.object "java/lang/String")), Jvm.Cond.code ({ cls := "java/lang/Math", name := "abs", desc := "(J)J" } : Jvm.MethodName) jdk_29_method_61_code (2 : Nat) (Option.some Jvm.ClassFile.FieldType.long), Jvm.Cond.code ({ cls := "com/example/tillbeat/tillbeat/model/TextRuleAtMostPinLaw", name := "digits", desc := "(J)I" } : Jvm.MethodName) method_5_code (2 : Nat) (Option.some Jvm.ClassFile.FieldType.int), Jvm.Cond.code ({ cls := "java/lang/String", name := "charAt", desc := "(I)C" } : Jvm.MethodName) jdk_42_method_56_code (2 : Nat) (Option.some Jvm.ClassFile.FieldType.char), Jvm.Cond.code ({ cls := "java/lang/StringLatin1", name := "charAt", desc := "([BI)C" } : Jvm.MethodName) jdk_43_method_2_code (2 : Nat) (Option.some Jvm.ClassFile.FieldType.char), Jvm.Cond.code ({ cls := "java/lang/String", name := "checkIndex", desc := "(II)V" } : Jvm.MethodName) jdk_42_method_155_code (2 : Nat) (Option.none : Option Jvm.ClassFile.FieldType), Jvm.Cond.code ({ cls := "jdk/internal/util/Preconditions", name := "checkIndex", desc := "(IILjava/util/function/BiFunction;)I" } : Jvm.MethodName) jdk_41_method_11_code (3 : Nat) (Option.some Jvm.ClassFile.FieldType.int), Jvm.Cond.code ({ cls := "java/lang/StringUTF16", name := "compress", desc := "([CII)[B" } : Jvm.MethodName) jdk_52_method_16_code (6 : Nat) (Option.some (Jvm.ClassFile.FieldType.array Jvm.ClassFile.FieldType.byte)), Jvm.Cond.code ({ cls := "java/lang/StringUTF16", name := "compress", desc := "([CI[BII)I" } : Jvm.MethodName) jdk_52_method_21_code (7 : Nat) (Option.some Jvm.ClassFile.FieldType.int), Jvm.Cond.code ({ cls := "java/lang/StringUTF16", name := "toBytes", desc := "([CII)[B" } : Jvm.MethodName) jdk_52_method_14_code (5 : Nat) (Option.some (Jvm.ClassFile.FieldType.array Jvm.ClassFile.FieldType.byte)), Jvm.Cond.code ({ cls := "java/lang/StringUTF16", name := "newBytesFor", desc := "(I)[B" } : Jvm.MethodName) jdk_52_method_2_code (1 : Nat) (Option.some (Jvm.ClassFile.FieldType.array Jvm.ClassFile.FieldType.byte)), Jvm.Cond.code ({ cls := "java/lang/StringUTF16", name := "newBytesLength", desc := "(I)I" } : Jvm.MethodName) jdk_52_method_3_code (1 : Nat) (Option.some Jvm.ClassFile.FieldType.int), Jvm.Cond.code ({ cls := "java/lang/StringUTF16", name := "putChar", desc := "([BII)V" } : Jvm.MethodName) jdk_52_method_4_code (3 : Nat) (Option.none : Option Jvm.ClassFile.FieldType), Jvm.Cond.code ({ cls := "java/lang/StringUTF16", name := "getChar", desc := "([BI)C" } : Jvm.MethodName) jdk_52_method_5_code (2 : Nat) (Option.some Jvm.ClassFile.FieldType.char), Jvm.Cond.code ({ cls := "java/lang/StringUTF16", name := "coderFromArrayLen", desc := "([BI)B" } : Jvm.MethodName) jdk_52_method_15_code (2 : Nat) (Option.some Jvm.ClassFile.FieldType.byte), Jvm.Cond.code ({ cls := "com/example/tillbeat/tillbeat/model/TextRuleAtMostPinLaw", name := "hi", desc := "(C)Z" } : Jvm.MethodName) method_3_code (1 : Nat) (Option.some Jvm.ClassFile.FieldType.boolean), Jvm.Cond.code ({ cls := "com/example/tillbeat/tillbeat/model/TextRuleAtMostPinLaw", name := "lo", desc := "(C)Z" } : Jvm.MethodName) method_4_code (1 : Nat) (Option.some Jvm.ClassFile.FieldType.boolean), Jvm.Cond.code ({ cls := "java/lang/StringUTF16", name := "codePointCount", desc := "([BII)I" } : Jvm.MethodName) jdk_52_method_12_code (3 : Nat) (Option.some Jvm.ClassFile.FieldType.int), Jvm.Cond.code ({ cls := "java/lang/StringUTF16", name := "codePointCount", desc := "([BIIZ)I" } : Jvm.MethodName) jdk_52_method_11_code (6 : Nat) (Option.some Jvm.ClassFile.FieldType.int), Jvm.Cond.code ({ cls := "java/lang/Character", name := "isHighSurrogate", desc := "(C)Z" } : Jvm.MethodName) jdk_89_method_14_code (1 : Nat) (Option.some Jvm.ClassFile.FieldType.boolean), Jvm.Cond.code ({ cls := "java/lang/Character", name := "isLowSurrogate", desc := "(C)Z" } : Jvm.MethodName) jdk_89_method_15_code (1 : Nat) (Option.some Jvm.ClassFile.FieldType.boolean)]
set_option maxRecDepth 65536 in
theorem codes_eq : words1.filter isCode = codes1 := rfl
theorem w_codes : ∀ c ∈ words1.filter isCode, c.before args0 about1 = true := by
  rw [codes_eq]
  intro c hc
  simp only [codes1, List.mem_cons, List.not_mem_nil, or_false] at hc
  rcases hc with rfl | rfl | rfl | rfl | rfl | rfl | rfl | rfl | rfl | rfl | rfl | rfl | rfl | rfl | rfl | rfl | rfl | rfl | rfl | rfl | rfl | rfl | rfl | rfl | rfl | rfl | rfl | rfl | rfl | rfl | rfl | rfl | rfl | rfl | rfl | rfl | rfl | rfl | rfl | rfl | rfl | rfl | rfl | rfl | rfl | rfl | rfl | rfl | rfl | rfl | rfl | rfl | rfl | rfl | rfl | rfl | rfl | rfl | rfl | rfl | rfl | rfl | rfl | rfl | rfl
  · exact w_c0
  · exact w_c1
  · exact w_c2
  · exact w_c3
  · exact w_c4
  · exact w_c5
  · exact w_c6
  · exact w_c7
  · exact w_c8
  · exact w_c9
  · exact w_c10
  · exact w_c11
  · exact w_c12
  · exact w_c13
  · exact w_c14
  · exact w_c15
  · exact w_c16
  · exact w_c17
  · exact w_c18
  · exact w_c19
  · exact w_c20
  · exact w_c21
  · exact w_c22
  · exact w_c23
  · exact w_c24
  · exact w_c25
  · exact w_c26
  · exact w_c27
  · exact w_c28
  · exact w_c29
  · exact w_c30
  · exact w_c31
  · exact w_c32
  · exact w_c33
  · exact w_c34
  · exact w_c35
  · exact w_c36
  · exact w_c37
  · exact w_c38
  · exact w_c39
  · exact w_c40
  · exact w_c41
  · exact w_c42
  · exact w_c43
  · exact w_c44
  · exact w_c45
  · exact w_c46
  · exact w_c47
  · exact w_c48
  · exact w_c49
  · exact w_c50
  · exact w_c51
  · exact w_c52
  · exact w_c53
  · exact w_c54
  · exact w_c55
  · exact w_c56
  · exact w_c57
  · exact w_c58
  · exact w_c59
  · exact w_c60
  · exact w_c61
  · exact w_c62
  · exact w_c63
  · exact w_c64
set_option maxRecDepth 65536 in
theorem w_t1 : (words1.take 24).all (fun c => isCode c || c.before args0 about1) = true := by decide +kernel
set_option maxRecDepth 65536 in
theorem w_t2 : ((words1.drop 24).take 24).all (fun c => isCode c || c.before args0 about1) = true := by decide +kernel
set_option maxRecDepth 65536 in
theorem w_t3 : (((words1.drop 24).drop 24).take 24).all (fun c => isCode c || c.before args0 about1) = true := by decide +kernel
set_option maxRecDepth 65536 in
theorem w_t4 : ((((words1.drop 24).drop 24).drop 24).take 24).all (fun c => isCode c || c.before args0 about1) = true := by decide +kernel
set_option maxRecDepth 65536 in
theorem w_t5 : (((((words1.drop 24).drop 24).drop 24).drop 24).take 24).all (fun c => isCode c || c.before args0 about1) = true := by decide +kernel
set_option maxRecDepth 65536 in
theorem w_t6 : ((((((words1.drop 24).drop 24).drop 24).drop 24).drop 24).take 24).all (fun c => isCode c || c.before args0 about1) = true := by decide +kernel
set_option maxRecDepth 65536 in
theorem w_t7 : (((((((words1.drop 24).drop 24).drop 24).drop 24).drop 24).drop 24).take 24).all (fun c => isCode c || c.before args0 about1) = true := by decide +kernel
set_option maxRecDepth 65536 in
theorem w_t8 : ((((((((words1.drop 24).drop 24).drop 24).drop 24).drop 24).drop 24).drop 24).take 24).all (fun c => isCode c || c.before args0 about1) = true := by decide +kernel
set_option maxRecDepth 65536 in
theorem w_t9 : (((((((((words1.drop 24).drop 24).drop 24).drop 24).drop 24).drop 24).drop 24).drop 24).take 24).all (fun c => isCode c || c.before args0 about1) = true := by decide +kernel
set_option maxRecDepth 65536 in
theorem w_t10 : ((((((((((words1.drop 24).drop 24).drop 24).drop 24).drop 24).drop 24).drop 24).drop 24).drop 24).take 24).all (fun c => isCode c || c.before args0 about1) = true := by decide +kernel
set_option maxRecDepth 65536 in
theorem w_t11 : (((((((((((words1.drop 24).drop 24).drop 24).drop 24).drop 24).drop 24).drop 24).drop 24).drop 24).drop 24).take 24).all (fun c => isCode c || c.before args0 about1) = true := by decide +kernel
set_option maxRecDepth 65536 in
theorem w_t12 : ((((((((((((words1.drop 24).drop 24).drop 24).drop 24).drop 24).drop 24).drop 24).drop 24).drop 24).drop 24).drop 24).take 24).all (fun c => isCode c || c.before args0 about1) = true := by decide +kernel
set_option maxRecDepth 65536 in
theorem w_t13 : (((((((((((((words1.drop 24).drop 24).drop 24).drop 24).drop 24).drop 24).drop 24).drop 24).drop 24).drop 24).drop 24).drop 24).take 24).all (fun c => isCode c || c.before args0 about1) = true := by decide +kernel
set_option maxRecDepth 65536 in
theorem w_t14 : (((((((((((((words1.drop 24).drop 24).drop 24).drop 24).drop 24).drop 24).drop 24).drop 24).drop 24).drop 24).drop 24).drop 24).drop 24).all (fun c => isCode c || c.before args0 about1) = true := by decide +kernel
theorem w_tables : (allAtoms (Jvm.Cond.code x code maxLocals ret :: tables_1)).before args0 about1 = true := by
  rw [allAtoms_all]
  show words1.all (fun c => c.before args0 about1) = true
  refine all_split ?_ w_codes
  rw [← List.take_append_drop 24 words1, List.all_append, w_t1, ← List.take_append_drop 24 (words1.drop 24), List.all_append, w_t2, ← List.take_append_drop 24 ((words1.drop 24).drop 24), List.all_append, w_t3, ← List.take_append_drop 24 (((words1.drop 24).drop 24).drop 24), List.all_append, w_t4, ← List.take_append_drop 24 ((((words1.drop 24).drop 24).drop 24).drop 24), List.all_append, w_t5, ← List.take_append_drop 24 (((((words1.drop 24).drop 24).drop 24).drop 24).drop 24), List.all_append, w_t6, ← List.take_append_drop 24 ((((((words1.drop 24).drop 24).drop 24).drop 24).drop 24).drop 24), List.all_append, w_t7, ← List.take_append_drop 24 (((((((words1.drop 24).drop 24).drop 24).drop 24).drop 24).drop 24).drop 24), List.all_append, w_t8, ← List.take_append_drop 24 ((((((((words1.drop 24).drop 24).drop 24).drop 24).drop 24).drop 24).drop 24).drop 24), List.all_append, w_t9, ← List.take_append_drop 24 (((((((((words1.drop 24).drop 24).drop 24).drop 24).drop 24).drop 24).drop 24).drop 24).drop 24), List.all_append, w_t10, ← List.take_append_drop 24 ((((((((((words1.drop 24).drop 24).drop 24).drop 24).drop 24).drop 24).drop 24).drop 24).drop 24).drop 24), List.all_append, w_t11, ← List.take_append_drop 24 (((((((((((words1.drop 24).drop 24).drop 24).drop 24).drop 24).drop 24).drop 24).drop 24).drop 24).drop 24).drop 24), List.all_append, w_t12, ← List.take_append_drop 24 ((((((((((((words1.drop 24).drop 24).drop 24).drop 24).drop 24).drop 24).drop 24).drop 24).drop 24).drop 24).drop 24).drop 24), List.all_append, w_t13, w_t14]
  rfl
set_option maxRecDepth 65536 in
theorem w_rest : rest_1_c.before args0 about1 = true := by decide +kernel
set_option maxRecDepth 65536 in
theorem w_case : (Jvm.Cond.and given_1 narrow_1).before args0 about1 = true := by decide +kernel
set_option maxRecDepth 65536 in
theorem w_consts : constsHeld consts_1 about1 := Jvm.Lit.constsHeldB_iff.mp (by decide +kernel)
theorem w_applies : (headSpec (Jvm.Cond.code x code maxLocals ret :: tables_1) room_1).applies x e0.platform about1 = true :=
  (Spec.applies_iff w_frames).mpr ⟨w_running, w_runnable, w_alone, w_named, w_hears, w_ripe, w_room, w_tables⟩
theorem atStart : AtStart classFile x code maxLocals ret World_1 tables_1 room_1 Calls_1 rest_1 Pre_1 launch0 p0 e0 about1 theMethod args0 below0 :=
  ⟨lists_1, trivial, launch0.admits_env _ _ _, launch0.least_env, fairChoices_fair.cas, fairChoices_fair.clock, w_frames, w_args, w_heap, w_applies, ⟨w_consts, trivial⟩, w_rest, w_case⟩
end start1
theorem witness_1 : WitnessClaimed_1 := ⟨start1.p0, start1.e0, start1.about1, start1.theMethod, start1.args0, start1.below0, start1.atStart⟩
end Jvm.Pilot.@@N@@
