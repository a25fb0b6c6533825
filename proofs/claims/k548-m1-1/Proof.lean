import JvmDerived
import JvmDerived.Pilot.@@N@@Statement
import JvmDerived.Pilot.@@N@@Code
set_option linter.unusedVariables false
set_option linter.unusedSimpArgs false
namespace Jvm.Pilot.@@N@@
open Jvm Jvm.ClassFile Sem Op Lib Jvm.Free Jvm.Stand Jvm.LawKit Jvm.RoadKit Bundle Jvm.Pilot.@@N@@.Jvm.D
/-! own kit: walks in continuation form -/
def Go (p : Program) (e : Env) (below : List Frame) (P : State → Outcome → Prop) (A : State) : Prop := ∃ t o, Steps p.tables e below A t ∧ t.status = .running ∧ Ended t below o ∧ P t o
/-- the facts on the body that is walked, which no step moves -/
def Bo (Z : State) (p : Program) (s : State) (m : MethodId) (meth : Method) (c : Code) (own nm : String) (bytes : ByteArray) (maxL : Nat) (ret : Option FieldType) : Prop :=
  p.tables.exec = Jvm.exec ∧ c.code = bytes ∧ c.maxLocals = maxL ∧ Z.Warmed39 s.vm ∧ s.vm.findClass own = some m.cls ∧ meth.name = nm ∧ meth.sig.returnType = ret ∧ meth.locks = false
/-- what an end must be -/
def EndsQ (s : State) (Q : Option Value → Heap → List Loc → Prop) (cc ss : Nat) : State → Outcome → Prop := fun t o => ∃ v L, o = .returned v ∧ Q v t.heap L ∧ FrameEnd s o t L cc ss
/-- a body's contract -/
def Ctr (l : Launch) (Z : State) (y : MethodName) (bytes : ByteArray) (maxL : Nat) (ret : Option FieldType) (rm : Room) (as : Array Value) (h0 : Heap) (Q : Option Value → Heap → List Loc → Prop) : Prop :=
  ∀ ws, MetFree l y (head1 (Jvm.Cond.code y bytes maxL ret :: ws) rm) (fun a U => a = as ∧ Z.Warmed39 U.vm ∧ U.heap = h0) (fun _ _ _ _ _ => True) (fun _ U o U' => ∃ v L, o = .returned v ∧ Q v U'.heap L ∧ FrameEnd U o U' L rm.cells rm.slots)
/-! own: an array whose whole contents are known -/
def Av (Z : State) (h : Heap) (a : Addr) (ty : FieldType) (vs : List Value) : Prop := ∃ c : Cell, Arr Z h a c ty ∧ c.slots.toList = vs
theorem Av.lt {Z : State} {h : Heap} {a : Addr} {ty : FieldType} {vs : List Value} (A : Av Z h a ty vs) : a < h.size := by obtain ⟨c, q, -⟩ := A; exact q.lt
theorem Av.ext {Z : State} {h h' : Heap} {a : Addr} {ty : FieldType} {vs : List Value} (A : Av Z h a ty vs) (E : Ext h h') : Av Z h' a ty vs := by obtain ⟨c, q, r⟩ := A; exact ⟨c, q.ext E, r⟩
theorem Av.other {Z : State} {h h' : Heap} {a b : Addr} {ty : FieldType} {vs : List Value} {sl : Nat} {v : Value} (A : Av Z h b ty vs) (W : Wr h h' a sl v) (q : b ≠ a) : Av Z h' b ty vs := by obtain ⟨c, q1, r⟩ := A; exact ⟨c, q1.other W q, r⟩
theorem Av.keep {Z : State} {h h' : Heap} {a : Addr} {ty : FieldType} {vs : List Value} {ws : List Addr} (A : Av Z h a ty vs) (K : Keep h h' ws) (q : a ∉ ws) : Av Z h' a ty vs := by obtain ⟨c, q1, r⟩ := A; exact ⟨c, ⟨K.2.1 a c q1.1 q, q1.2⟩, r⟩
theorem Av.set {Z : State} {h h' : Heap} {a : Addr} {ty : FieldType} {vs : List Value} {i : Nat} {v : Value} (A : Av Z h a ty vs) (W : Wr h h' a i v) : Av Z h' a ty (vs.set i v) := by
  obtain ⟨c, q, rfl⟩ := A
  exact ⟨_, q.same W, by simp [Cell.setSlot]⟩
theorem Av.inb {Z : State} {h : Heap} {a : Addr} {ty : FieldType} {vs : List Value} {c : Cell} (q : c.slots.toList = vs) {j : Int32} {i : Nat} (hi : j.toNatClampNeg = i) (h0 : ¬ j < 0) (hl : i < vs.length) : ¬ (j < 0 ∨ c.slots.size ≤ j.toNatClampNeg) := by
  subst q hi
  simp only [Array.length_toList] at hl
  exact fun z => z.elim h0 (fun w => absurd hl (Nat.not_lt.mpr w))
section OwnKit
variable {p : Program} {l : Launch} {e : Env} {R : Room} {s : State} {m : MethodId} {args : Array Value} {below : List Frame} {meth : Method} {c : Code} {T : State} {locs : List Loc} {cells slots : Nat} {Z : State} {a0 : Array Value} {h : Heap} {P : State → Outcome → Prop} {pc : Nat} {Ls : Array Slot} {st rest : List Value} {own nm : String} {bytes : ByteArray} {maxL : Nat} {ret : Option FieldType}
theorem Bo.x (B : Bo Z p s m meth c own nm bytes maxL ret) : p.tables.exec = Jvm.exec := B.1
theorem Bo.z (B : Bo Z p s m meth c own nm bytes maxL ret) : Z.Warmed39 s.vm := B.2.2.2.1
theorem Bo.o (B : Bo Z p s m meth c own nm bytes maxL ret) : s.vm.findClass own = some m.cls := B.2.2.2.2.1
theorem Bo.d (B : Bo Z p s m meth c own nm bytes maxL ret) {r : Except ClassFile.DecodeError (ClassFile.Instr × Nat)} (q : decode bytes pc = r) : decode c.code pc = r := hb B.2.1 q
theorem Bo.n (B : Bo Z p s m meth c own nm bytes maxL ret) : meth.name = nm := B.2.2.2.2.2.1
theorem Bo.r (B : Bo Z p s m meth c own nm bytes maxL ret) : meth.sig.returnType = ret := B.2.2.2.2.2.2.1
theorem Bo.lk (B : Bo Z p s m meth c own nm bytes maxL ret) : meth.locks = false := B.2.2.2.2.2.2.2
theorem Bo.mx (B : Bo Z p s m meth c own nm bytes maxL ret) (q : Ls.size = maxL) {pc : Nat} {st : List Value} : (mkF m pc Ls st).locals.size = c.maxLocals := by rw [B.2.2.1]; exact q
theorem Go.via {A A' : State} (q : ∀ t, Steps p.tables e below A' t → Steps p.tables e below A t) (g : Go p e below P A') : Go p e below P A := by
  obtain ⟨t, o, h1, h2⟩ := g
  exact ⟨t, o, q t h1, h2⟩
theorem Go.cast {f f' : JFrame} (q : f = f') (g : Go p e below P (T.setTop f')) : Go p e below P (T.setTop f) := q ▸ g
theorem Ctr.of {y : MethodName} {rm : Room} {as : Array Value} {h0 : Heap} {Q : Option Value → Heap → List Loc → Prop} (hn : plainFor y = true)
    (body : ∀ (p : Program) (e : Env) (s : State) (m : MethodId) (below : List Frame) (meth : Method) (c : Code) (T : State), Stand p l e rm s m as below meth c T [] 0 0 → Bo Z p s m meth c y.cls y.name bytes maxL ret → T.heap = h0 → Go p e below (EndsQ s Q rm.cells rm.slots) (T.setTop (entryFrame m as maxL))) :
    Ctr l Z y bytes maxL ret rm as h0 Q := by
  intro ws
  refine MetFree.of_bodySF hn hisR ?_
  intro p e s m args below meth c s₁ Bd hml0 hP hK
  obtain ⟨rfl, hZ, hh⟩ := hP
  exact body p e s m below meth c s₁ (Stand.of_body Bd) ⟨Bd.exec, Bd.bytes, hml0, hZ, findClass_of_methodNamed Bd.named, (name_of_methodNamed Bd.named Bd.method).1, Bd.returns, BodyLoose.notSynchronized Bd⟩ (by rw [← hh, Bd.state]; rfl)
theorem Ctr.back {y : MethodName} {rm : Room} {as : Array Value} {Q : Option Value → Heap → List Loc → Prop} {W len : Nat} (C : Ctr l Z y bytes maxL ret rm as h Q) (hZ : Z.Warmed39 s.vm) (wc : (Jvm.Cond.code y bytes maxL ret).before a0 Z = true) (wz : (Jvm.Cond.initialized y.cls).before a0 Z = true) (hf : rm.frames + 1 ≤ R.frames) (hl : W + (maxL + 11) + rm.locals ≤ R.locals) :
    Back l R p e below s args y len W (fun A a => a = as ∧ A.U.heap = h ∧ A.cells + rm.cells ≤ R.cells ∧ A.slots + rm.slots ≤ R.slots)
      (fun A _ v B => ∃ L, Q v B.U.heap L ∧ B.locs = A.locs ++ L ∧ B.cells = A.cells + rm.cells ∧ B.slots = A.slots + rm.slots) := backOf (C []) hZ wc wz hf hl
theorem g_iloadN (X : Stand p l e R s m args below meth c T locs cells slots) (B : Bo Z p s m meth c own nm bytes maxL ret) {k : Fin 4} {v : Int32} (q : decode bytes pc = .ok (.iload_n k, 1)) (pc' : Nat) (hp : pc + 1 = pc') (u : Ls[k.val]? = some (.val (.int v))) (g : Go p e below P (T.setTop (mkF m pc' Ls (.int v :: st)))) : Go p e below P (T.setTop (mkF m pc Ls st)) := by
  subst hp
  exact g.via fun _ => XS.iloadN X.here B.x rfl (B.d q) u
theorem g_iload (X : Stand p l e R s m args below meth c T locs cells slots) (B : Bo Z p s m meth c own nm bytes maxL ret) {k : Nat} {v : Int32} (q : decode bytes pc = .ok (.iload k, 2)) (pc' : Nat) (hp : pc + 2 = pc') (u : Ls[k]? = some (.val (.int v))) (g : Go p e below P (T.setTop (mkF m pc' Ls (.int v :: st)))) : Go p e below P (T.setTop (mkF m pc Ls st)) := by
  subst hp
  exact g.via fun _ => XS.iload X.here B.x rfl (B.d q) u
theorem g_aloadN (X : Stand p l e R s m args below meth c T locs cells slots) (B : Bo Z p s m meth c own nm bytes maxL ret) {k : Fin 4} {v : Value} (q : decode bytes pc = .ok (.aload_n k, 1)) (pc' : Nat) (hp : pc + 1 = pc') (u : Ls[k.val]? = some (.val v)) (i : v.isRef = true) (g : Go p e below P (T.setTop (mkF m pc' Ls (v :: st)))) : Go p e below P (T.setTop (mkF m pc Ls st)) := by
  subst hp
  exact g.via fun _ => XS.aloadN X.here B.x rfl (B.d q) u i
theorem g_aload (X : Stand p l e R s m args below meth c T locs cells slots) (B : Bo Z p s m meth c own nm bytes maxL ret) {k : Nat} {v : Value} (q : decode bytes pc = .ok (.aload k, 2)) (pc' : Nat) (hp : pc + 2 = pc') (u : Ls[k]? = some (.val v)) (i : v.isRef = true) (g : Go p e below P (T.setTop (mkF m pc' Ls (v :: st)))) : Go p e below P (T.setTop (mkF m pc Ls st)) := by
  subst hp
  exact g.via fun _ => XS.aload X.here B.x rfl (B.d q) u i
theorem g_lloadN (X : Stand p l e R s m args below meth c T locs cells slots) (B : Bo Z p s m meth c own nm bytes maxL ret) {k : Fin 4} {v : Int64} (q : decode bytes pc = .ok (.lload_n k, 1)) (pc' : Nat) (hp : pc + 1 = pc') (u : Ls[k.val]? = some (.val (.long v))) (g : Go p e below P (T.setTop (mkF m pc' Ls (.long v :: st)))) : Go p e below P (T.setTop (mkF m pc Ls st)) := by
  subst hp
  exact g.via fun _ => XT.lloadN X.here B.x rfl (B.d q) u
theorem g_lload (X : Stand p l e R s m args below meth c T locs cells slots) (B : Bo Z p s m meth c own nm bytes maxL ret) {k : Nat} {v : Int64} (q : decode bytes pc = .ok (.lload k, 2)) (pc' : Nat) (hp : pc + 2 = pc') (u : Ls[k]? = some (.val (.long v))) (g : Go p e below P (T.setTop (mkF m pc' Ls (.long v :: st)))) : Go p e below P (T.setTop (mkF m pc Ls st)) := by
  subst hp
  exact g.via fun _ => XT.lload X.here B.x rfl (B.d q) u
theorem g_istoreN (X : Stand p l e R s m args below meth c T locs cells slots) (B : Bo Z p s m meth c own nm bytes maxL ret) {k : Fin 4} {x : Int32} (l' : Array Slot) (q : decode bytes pc = .ok (.istore_n k, 1)) (pc' : Nat) (hp : pc + 1 = pc') (u : storeLocals Ls k.val (.int x) = some l') (g : Go p e below P (T.setTop (mkF m pc' l' st))) : Go p e below P (T.setTop (mkF m pc Ls (.int x :: st))) := by
  subst hp
  exact g.via fun _ => XS.istoreN X.here B.x rfl (B.d q) rfl u
theorem g_istore (X : Stand p l e R s m args below meth c T locs cells slots) (B : Bo Z p s m meth c own nm bytes maxL ret) {k : Nat} {x : Int32} (l' : Array Slot) (q : decode bytes pc = .ok (.istore k, 2)) (pc' : Nat) (hp : pc + 2 = pc') (u : storeLocals Ls k (.int x) = some l') (g : Go p e below P (T.setTop (mkF m pc' l' st))) : Go p e below P (T.setTop (mkF m pc Ls (.int x :: st))) := by
  subst hp
  exact g.via fun _ => XS.istore X.here B.x rfl (B.d q) rfl u
theorem g_astoreN (X : Stand p l e R s m args below meth c T locs cells slots) (B : Bo Z p s m meth c own nm bytes maxL ret) {k : Fin 4} {x : Value} (l' : Array Slot) (q : decode bytes pc = .ok (.astore_n k, 1)) (pc' : Nat) (hp : pc + 1 = pc') (i : x.isRef = true) (u : storeLocals Ls k.val x = some l') (g : Go p e below P (T.setTop (mkF m pc' l' st))) : Go p e below P (T.setTop (mkF m pc Ls (x :: st))) := by
  subst hp
  exact g.via fun _ => XS.astoreN X.here B.x rfl (B.d q) rfl i u
theorem g_astore (X : Stand p l e R s m args below meth c T locs cells slots) (B : Bo Z p s m meth c own nm bytes maxL ret) {k : Nat} {x : Value} (l' : Array Slot) (q : decode bytes pc = .ok (.astore k, 2)) (pc' : Nat) (hp : pc + 2 = pc') (i : x.isRef = true) (u : storeLocals Ls k x = some l') (g : Go p e below P (T.setTop (mkF m pc' l' st))) : Go p e below P (T.setTop (mkF m pc Ls (x :: st))) := by
  subst hp
  exact g.via fun _ => XS.astore X.here B.x rfl (B.d q) rfl i u
theorem g_lstoreN (X : Stand p l e R s m args below meth c T locs cells slots) (B : Bo Z p s m meth c own nm bytes maxL ret) {k : Fin 4} {x : Int64} (l' : Array Slot) (q : decode bytes pc = .ok (.lstore_n k, 1)) (pc' : Nat) (hp : pc + 1 = pc') (u : storeLocals Ls k.val (.long x) = some l') (g : Go p e below P (T.setTop (mkF m pc' l' st))) : Go p e below P (T.setTop (mkF m pc Ls (.long x :: st))) := by
  subst hp
  exact g.via fun _ => XT.lstoreN X.here B.x rfl (B.d q) rfl u
theorem g_lstore (X : Stand p l e R s m args below meth c T locs cells slots) (B : Bo Z p s m meth c own nm bytes maxL ret) {k : Nat} {x : Int64} (l' : Array Slot) (q : decode bytes pc = .ok (.lstore k, 2)) (pc' : Nat) (hp : pc + 2 = pc') (u : storeLocals Ls k (.long x) = some l') (g : Go p e below P (T.setTop (mkF m pc' l' st))) : Go p e below P (T.setTop (mkF m pc Ls (.long x :: st))) := by
  subst hp
  exact g.via fun _ => XT.lstore X.here B.x rfl (B.d q) rfl u
theorem g_iconst (X : Stand p l e R s m args below meth c T locs cells slots) (B : Bo Z p s m meth c own nm bytes maxL ret) {i : Int} (v : Int32) (q : decode bytes pc = .ok (.iconst i, 1)) (pc' : Nat) (hp : pc + 1 = pc') (u : Int32.ofInt i = v) (g : Go p e below P (T.setTop (mkF m pc' Ls (.int v :: st)))) : Go p e below P (T.setTop (mkF m pc Ls st)) := by
  subst hp
  exact g.via fun _ => XT.iconstV X.here B.x rfl v (B.d q) u
theorem g_bipush (X : Stand p l e R s m args below meth c T locs cells slots) (B : Bo Z p s m meth c own nm bytes maxL ret) {i : Int} (v : Int32) (q : decode bytes pc = .ok (.bipush i, 2)) (pc' : Nat) (hp : pc + 2 = pc') (u : (Int8.ofInt i).toInt32 = v) (g : Go p e below P (T.setTop (mkF m pc' Ls (.int v :: st)))) : Go p e below P (T.setTop (mkF m pc Ls st)) := by
  subst hp
  exact g.via fun _ => XT.bipushV X.here B.x rfl v (B.d q) u
theorem g_sipush (X : Stand p l e R s m args below meth c T locs cells slots) (B : Bo Z p s m meth c own nm bytes maxL ret) {i : Int} (v : Int32) (q : decode bytes pc = .ok (.sipush i, 3)) (pc' : Nat) (hp : pc + 3 = pc') (u : (Int16.ofInt i).toInt32 = v) (g : Go p e below P (T.setTop (mkF m pc' Ls (.int v :: st)))) : Go p e below P (T.setTop (mkF m pc Ls st)) := by
  subst hp
  exact g.via fun _ => XT.sipushV X.here B.x rfl v (B.d q) u
theorem g_lconst (X : Stand p l e R s m args below meth c T locs cells slots) (B : Bo Z p s m meth c own nm bytes maxL ret) {k : Fin 2} (v : Int64) (q : decode bytes pc = .ok (.lconst k, 1)) (pc' : Nat) (hp : pc + 1 = pc') (u : Int64.ofNat k = v) (g : Go p e below P (T.setTop (mkF m pc' Ls (.long v :: st)))) : Go p e below P (T.setTop (mkF m pc Ls st)) := by
  subst hp
  exact g.via fun _ => XT.lconstV X.here B.x rfl v (B.d q) u
theorem g_aconstNull (X : Stand p l e R s m args below meth c T locs cells slots) (B : Bo Z p s m meth c own nm bytes maxL ret)  (q : decode bytes pc = .ok (.aconst_null, 1)) (pc' : Nat) (hp : pc + 1 = pc')  (g : Go p e below P (T.setTop (mkF m pc' Ls (.null :: st)))) : Go p e below P (T.setTop (mkF m pc Ls st)) := by
  subst hp
  exact g.via fun _ => XS.aconstNull X.here B.x rfl (B.d q)
theorem g_iadd (X : Stand p l e R s m args below meth c T locs cells slots) (B : Bo Z p s m meth c own nm bytes maxL ret) {x y : Int32} (q : decode bytes pc = .ok (.iadd, 1)) (pc' : Nat) (hp : pc + 1 = pc')  (g : Go p e below P (T.setTop (mkF m pc' Ls (.int (x + y) :: st)))) : Go p e below P (T.setTop (mkF m pc Ls (.int y :: .int x :: st))) := by
  subst hp
  exact g.via fun _ => XS.iadd X.here B.x rfl (B.d q) rfl
theorem g_isub (X : Stand p l e R s m args below meth c T locs cells slots) (B : Bo Z p s m meth c own nm bytes maxL ret) {x y : Int32} (q : decode bytes pc = .ok (.isub, 1)) (pc' : Nat) (hp : pc + 1 = pc')  (g : Go p e below P (T.setTop (mkF m pc' Ls (.int (x - y) :: st)))) : Go p e below P (T.setTop (mkF m pc Ls (.int y :: .int x :: st))) := by
  subst hp
  exact g.via fun _ => XS.isub X.here B.x rfl (B.d q) rfl
theorem g_imul (X : Stand p l e R s m args below meth c T locs cells slots) (B : Bo Z p s m meth c own nm bytes maxL ret) {x y : Int32} (q : decode bytes pc = .ok (.imul, 1)) (pc' : Nat) (hp : pc + 1 = pc')  (g : Go p e below P (T.setTop (mkF m pc' Ls (.int (x * y) :: st)))) : Go p e below P (T.setTop (mkF m pc Ls (.int y :: .int x :: st))) := by
  subst hp
  exact g.via fun _ => XS.imul X.here B.x rfl (B.d q) rfl
theorem g_iand (X : Stand p l e R s m args below meth c T locs cells slots) (B : Bo Z p s m meth c own nm bytes maxL ret) {x y : Int32} (q : decode bytes pc = .ok (.iand, 1)) (pc' : Nat) (hp : pc + 1 = pc')  (g : Go p e below P (T.setTop (mkF m pc' Ls (.int (x &&& y) :: st)))) : Go p e below P (T.setTop (mkF m pc Ls (.int y :: .int x :: st))) := by
  subst hp
  exact g.via fun _ => XS.iand X.here B.x rfl (B.d q) rfl
theorem g_ixor (X : Stand p l e R s m args below meth c T locs cells slots) (B : Bo Z p s m meth c own nm bytes maxL ret) {x y : Int32} (q : decode bytes pc = .ok (.ixor, 1)) (pc' : Nat) (hp : pc + 1 = pc')  (g : Go p e below P (T.setTop (mkF m pc' Ls (.int (x ^^^ y) :: st)))) : Go p e below P (T.setTop (mkF m pc Ls (.int y :: .int x :: st))) := by
  subst hp
  exact g.via fun _ => XT.ixor X.here B.x rfl (B.d q) rfl
theorem g_ior (X : Stand p l e R s m args below meth c T locs cells slots) (B : Bo Z p s m meth c own nm bytes maxL ret) {x y : Int32} (q : decode bytes pc = .ok (.ior, 1)) (pc' : Nat) (hp : pc + 1 = pc')  (g : Go p e below P (T.setTop (mkF m pc' Ls (.int (x ||| y) :: st)))) : Go p e below P (T.setTop (mkF m pc Ls (.int y :: .int x :: st))) := by
  subst hp
  exact g.via fun _ => XT.ior X.here B.x rfl (B.d q) rfl
theorem g_ishl (X : Stand p l e R s m args below meth c T locs cells slots) (B : Bo Z p s m meth c own nm bytes maxL ret) {x y : Int32} (q : decode bytes pc = .ok (.ishl, 1)) (pc' : Nat) (hp : pc + 1 = pc')  (g : Go p e below P (T.setTop (mkF m pc' Ls (.int (x <<< (y &&& 31)) :: st)))) : Go p e below P (T.setTop (mkF m pc Ls (.int y :: .int x :: st))) := by
  subst hp
  exact g.via fun _ => XT.ishl X.here B.x rfl (B.d q) rfl
theorem g_ishr (X : Stand p l e R s m args below meth c T locs cells slots) (B : Bo Z p s m meth c own nm bytes maxL ret) {x y : Int32} (q : decode bytes pc = .ok (.ishr, 1)) (pc' : Nat) (hp : pc + 1 = pc')  (g : Go p e below P (T.setTop (mkF m pc' Ls (.int (x >>> (y &&& 31)) :: st)))) : Go p e below P (T.setTop (mkF m pc Ls (.int y :: .int x :: st))) := by
  subst hp
  exact g.via fun _ => XT.ishr X.here B.x rfl (B.d q) rfl
theorem g_iushr (X : Stand p l e R s m args below meth c T locs cells slots) (B : Bo Z p s m meth c own nm bytes maxL ret) {x y : Int32} (q : decode bytes pc = .ok (.iushr, 1)) (pc' : Nat) (hp : pc + 1 = pc')  (g : Go p e below P (T.setTop (mkF m pc' Ls (.int (XT.ushr x y) :: st)))) : Go p e below P (T.setTop (mkF m pc Ls (.int y :: .int x :: st))) := by
  subst hp
  exact g.via fun _ => XT.iushr X.here B.x rfl (B.d q) rfl
theorem g_idiv (X : Stand p l e R s m args below meth c T locs cells slots) (B : Bo Z p s m meth c own nm bytes maxL ret) {x y : Int32} (q : decode bytes pc = .ok (.idiv, 1)) (pc' : Nat) (hp : pc + 1 = pc') (u : y ≠ 0) (g : Go p e below P (T.setTop (mkF m pc' Ls (.int (x / y) :: st)))) : Go p e below P (T.setTop (mkF m pc Ls (.int y :: .int x :: st))) := by
  subst hp
  exact g.via fun _ => XS.idiv X.here B.x rfl (B.d q) rfl u
theorem g_irem (X : Stand p l e R s m args below meth c T locs cells slots) (B : Bo Z p s m meth c own nm bytes maxL ret) {x y : Int32} (q : decode bytes pc = .ok (.irem, 1)) (pc' : Nat) (hp : pc + 1 = pc') (u : y ≠ 0) (g : Go p e below P (T.setTop (mkF m pc' Ls (.int (x % y) :: st)))) : Go p e below P (T.setTop (mkF m pc Ls (.int y :: .int x :: st))) := by
  subst hp
  exact g.via fun _ => iremM X B.x rfl (B.d q) rfl u
theorem g_ineg (X : Stand p l e R s m args below meth c T locs cells slots) (B : Bo Z p s m meth c own nm bytes maxL ret) {x : Int32} (q : decode bytes pc = .ok (.ineg, 1)) (pc' : Nat) (hp : pc + 1 = pc')  (g : Go p e below P (T.setTop (mkF m pc' Ls (.int (-x) :: st)))) : Go p e below P (T.setTop (mkF m pc Ls (.int x :: st))) := by
  subst hp
  exact g.via fun _ => XS.ineg X.here B.x rfl (B.d q) rfl
theorem g_iinc (X : Stand p l e R s m args below meth c T locs cells slots) (B : Bo Z p s m meth c own nm bytes maxL ret) {k : Nat} {cst : Int} {x : Int32} (l' : Array Slot) (v : Int32) (q : decode bytes pc = .ok (.iinc k cst, 3)) (pc' : Nat) (hp : pc + 3 = pc') (w : Int32.ofInt cst = v) (u : Ls[k]? = some (.val (.int x))) (u2 : storeLocals Ls k (.int (x + v)) = some l') (g : Go p e below P (T.setTop (mkF m pc' l' st))) : Go p e below P (T.setTop (mkF m pc Ls st)) := by
  subst hp
  exact g.via fun _ => XT.iincV X.here B.x rfl v (B.d q) w u u2
theorem g_ladd (X : Stand p l e R s m args below meth c T locs cells slots) (B : Bo Z p s m meth c own nm bytes maxL ret) {x y : Int64} (q : decode bytes pc = .ok (.ladd, 1)) (pc' : Nat) (hp : pc + 1 = pc')  (g : Go p e below P (T.setTop (mkF m pc' Ls (.long (x + y) :: st)))) : Go p e below P (T.setTop (mkF m pc Ls (.long y :: .long x :: st))) := by
  subst hp
  exact g.via fun _ => XT.ladd X.here B.x rfl (B.d q) rfl
theorem g_lsub (X : Stand p l e R s m args below meth c T locs cells slots) (B : Bo Z p s m meth c own nm bytes maxL ret) {x y : Int64} (q : decode bytes pc = .ok (.lsub, 1)) (pc' : Nat) (hp : pc + 1 = pc')  (g : Go p e below P (T.setTop (mkF m pc' Ls (.long (x - y) :: st)))) : Go p e below P (T.setTop (mkF m pc Ls (.long y :: .long x :: st))) := by
  subst hp
  exact g.via fun _ => XT.lsub X.here B.x rfl (B.d q) rfl
theorem g_land (X : Stand p l e R s m args below meth c T locs cells slots) (B : Bo Z p s m meth c own nm bytes maxL ret) {x y : Int64} (q : decode bytes pc = .ok (.land, 1)) (pc' : Nat) (hp : pc + 1 = pc')  (g : Go p e below P (T.setTop (mkF m pc' Ls (.long (x &&& y) :: st)))) : Go p e below P (T.setTop (mkF m pc Ls (.long y :: .long x :: st))) := by
  subst hp
  exact g.via fun _ => XT.land X.here B.x rfl (B.d q) rfl
theorem g_lor (X : Stand p l e R s m args below meth c T locs cells slots) (B : Bo Z p s m meth c own nm bytes maxL ret) {x y : Int64} (q : decode bytes pc = .ok (.lor, 1)) (pc' : Nat) (hp : pc + 1 = pc')  (g : Go p e below P (T.setTop (mkF m pc' Ls (.long (x ||| y) :: st)))) : Go p e below P (T.setTop (mkF m pc Ls (.long y :: .long x :: st))) := by
  subst hp
  exact g.via fun _ => XT.lor X.here B.x rfl (B.d q) rfl
theorem g_lxor (X : Stand p l e R s m args below meth c T locs cells slots) (B : Bo Z p s m meth c own nm bytes maxL ret) {x y : Int64} (q : decode bytes pc = .ok (.lxor, 1)) (pc' : Nat) (hp : pc + 1 = pc')  (g : Go p e below P (T.setTop (mkF m pc' Ls (.long (x ^^^ y) :: st)))) : Go p e below P (T.setTop (mkF m pc Ls (.long y :: .long x :: st))) := by
  subst hp
  exact g.via fun _ => XT.lxor X.here B.x rfl (B.d q) rfl
theorem g_lmul (X : Stand p l e R s m args below meth c T locs cells slots) (B : Bo Z p s m meth c own nm bytes maxL ret) {x y : Int64} (q : decode bytes pc = .ok (.lmul, 1)) (pc' : Nat) (hp : pc + 1 = pc')  (g : Go p e below P (T.setTop (mkF m pc' Ls (.long (x * y) :: st)))) : Go p e below P (T.setTop (mkF m pc Ls (.long y :: .long x :: st))) := by
  subst hp
  exact g.via fun _ => XT.lmul X.here B.x rfl (B.d q) rfl
theorem g_i2b (X : Stand p l e R s m args below meth c T locs cells slots) (B : Bo Z p s m meth c own nm bytes maxL ret) {x : Int32} (q : decode bytes pc = .ok (.i2b, 1)) (pc' : Nat) (hp : pc + 1 = pc')  (g : Go p e below P (T.setTop (mkF m pc' Ls (.int (x.toInt8.toInt32) :: st)))) : Go p e below P (T.setTop (mkF m pc Ls (.int x :: st))) := by
  subst hp
  exact g.via fun _ => XT.i2b X.here B.x rfl (B.d q) rfl
theorem g_i2c (X : Stand p l e R s m args below meth c T locs cells slots) (B : Bo Z p s m meth c own nm bytes maxL ret) {x : Int32} (q : decode bytes pc = .ok (.i2c, 1)) (pc' : Nat) (hp : pc + 1 = pc')  (g : Go p e below P (T.setTop (mkF m pc' Ls (.int (x.toUInt32.toUInt16.toUInt32.toInt32) :: st)))) : Go p e below P (T.setTop (mkF m pc Ls (.int x :: st))) := by
  subst hp
  exact g.via fun _ => XT.i2c X.here B.x rfl (B.d q) rfl
theorem g_i2l (X : Stand p l e R s m args below meth c T locs cells slots) (B : Bo Z p s m meth c own nm bytes maxL ret) {x : Int32} (q : decode bytes pc = .ok (.i2l, 1)) (pc' : Nat) (hp : pc + 1 = pc')  (g : Go p e below P (T.setTop (mkF m pc' Ls (.long (x.toInt64) :: st)))) : Go p e below P (T.setTop (mkF m pc Ls (.int x :: st))) := by
  subst hp
  exact g.via fun _ => XT.i2l X.here B.x rfl (B.d q) rfl
theorem g_l2i (X : Stand p l e R s m args below meth c T locs cells slots) (B : Bo Z p s m meth c own nm bytes maxL ret) {x : Int64} (q : decode bytes pc = .ok (.l2i, 1)) (pc' : Nat) (hp : pc + 1 = pc')  (g : Go p e below P (T.setTop (mkF m pc' Ls (.int (x.toInt32) :: st)))) : Go p e below P (T.setTop (mkF m pc Ls (.long x :: st))) := by
  subst hp
  exact g.via fun _ => XT.l2i X.here B.x rfl (B.d q) rfl
theorem g_dup (X : Stand p l e R s m args below meth c T locs cells slots) (B : Bo Z p s m meth c own nm bytes maxL ret) {x : Value} (q : decode bytes pc = .ok (.dup, 1)) (pc' : Nat) (hp : pc + 1 = pc') (u : x.category = 1) (g : Go p e below P (T.setTop (mkF m pc' Ls (x :: x :: st)))) : Go p e below P (T.setTop (mkF m pc Ls (x :: st))) := by
  subst hp
  exact g.via fun _ => XS.dup X.here B.x rfl (B.d q) rfl u
theorem g_pop (X : Stand p l e R s m args below meth c T locs cells slots) (B : Bo Z p s m meth c own nm bytes maxL ret) {x : Value} (q : decode bytes pc = .ok (.pop, 1)) (pc' : Nat) (hp : pc + 1 = pc') (u : x.category = 1) (g : Go p e below P (T.setTop (mkF m pc' Ls st))) : Go p e below P (T.setTop (mkF m pc Ls (x :: st))) := by
  subst hp
  exact g.via fun _ => XT.pop X.here B.x rfl (B.d q) rfl u
theorem g_goto (X : Stand p l e R s m args below meth c T locs cells slots) (B : Bo Z p s m meth c own nm bytes maxL ret) {o : Int} (q : decode bytes pc = .ok (.goto o, 3)) (pc' : Nat) (hp : ((pc : Int) + o).toNat = pc') (ho : 0 ≤ (pc : Int) + o) (g : Go p e below P (T.setTop (mkF m pc' Ls st))) : Go p e below P (T.setTop (mkF m pc Ls st)) := g.via fun _ => XS.goto X.here B.x rfl rfl (B.d q) ho hp
theorem g_icmp_eq (X : Stand p l e R s m args below meth c T locs cells slots) (B : Bo Z p s m meth c own nm bytes maxL ret) {o : Int} {x y : Int32} (q : decode bytes pc = .ok (.if_icmp .eq o, 3)) (pt pf : Nat) (hp : ((pc : Int) + o).toNat = pt) (ho : 0 ≤ (pc : Int) + o) (hf : pc + 3 = pf) (g1 : x = y → Go p e below P (T.setTop (mkF m pt Ls st))) (g2 : ¬ x = y → Go p e below P (T.setTop (mkF m pf Ls st))) : Go p e below P (T.setTop (mkF m pc Ls (.int y :: .int x :: st))) := by
  subst hf
  by_cases w : x = y
  · exact (g1 w).via fun _ => XS.icmpYes X.here B.x rfl rfl (B.d q) rfl (by simp [if_icmp.holds, w, Int32.not_lt, Int32.not_le]) ho hp
  · exact (g2 w).via fun _ => XS.icmpNo X.here B.x rfl (B.d q) rfl (by simp [if_icmp.holds, w, Int32.not_lt, Int32.not_le])
theorem g_icmp_ne (X : Stand p l e R s m args below meth c T locs cells slots) (B : Bo Z p s m meth c own nm bytes maxL ret) {o : Int} {x y : Int32} (q : decode bytes pc = .ok (.if_icmp .ne o, 3)) (pt pf : Nat) (hp : ((pc : Int) + o).toNat = pt) (ho : 0 ≤ (pc : Int) + o) (hf : pc + 3 = pf) (g1 : ¬ x = y → Go p e below P (T.setTop (mkF m pt Ls st))) (g2 : x = y → Go p e below P (T.setTop (mkF m pf Ls st))) : Go p e below P (T.setTop (mkF m pc Ls (.int y :: .int x :: st))) := by
  subst hf
  by_cases w : x = y
  · exact (g2 w).via fun _ => XS.icmpNo X.here B.x rfl (B.d q) rfl (by simp [if_icmp.holds, w, Int32.not_lt, Int32.not_le])
  · exact (g1 w).via fun _ => XS.icmpYes X.here B.x rfl rfl (B.d q) rfl (by simpa [if_icmp.holds, Int32.not_lt, Int32.not_le] using w) ho hp
theorem g_icmp_lt (X : Stand p l e R s m args below meth c T locs cells slots) (B : Bo Z p s m meth c own nm bytes maxL ret) {o : Int} {x y : Int32} (q : decode bytes pc = .ok (.if_icmp .lt o, 3)) (pt pf : Nat) (hp : ((pc : Int) + o).toNat = pt) (ho : 0 ≤ (pc : Int) + o) (hf : pc + 3 = pf) (g1 : x < y → Go p e below P (T.setTop (mkF m pt Ls st))) (g2 : ¬ x < y → Go p e below P (T.setTop (mkF m pf Ls st))) : Go p e below P (T.setTop (mkF m pc Ls (.int y :: .int x :: st))) := by
  subst hf
  by_cases w : x < y
  · exact (g1 w).via fun _ => XS.icmpYes X.here B.x rfl rfl (B.d q) rfl (by simp [if_icmp.holds, w, Int32.not_lt, Int32.not_le]) ho hp
  · exact (g2 w).via fun _ => XS.icmpNo X.here B.x rfl (B.d q) rfl (by simp [if_icmp.holds, w, Int32.not_lt, Int32.not_le])
theorem g_icmp_ge (X : Stand p l e R s m args below meth c T locs cells slots) (B : Bo Z p s m meth c own nm bytes maxL ret) {o : Int} {x y : Int32} (q : decode bytes pc = .ok (.if_icmp .ge o, 3)) (pt pf : Nat) (hp : ((pc : Int) + o).toNat = pt) (ho : 0 ≤ (pc : Int) + o) (hf : pc + 3 = pf) (g1 : ¬ x < y → Go p e below P (T.setTop (mkF m pt Ls st))) (g2 : x < y → Go p e below P (T.setTop (mkF m pf Ls st))) : Go p e below P (T.setTop (mkF m pc Ls (.int y :: .int x :: st))) := by
  subst hf
  by_cases w : x < y
  · exact (g2 w).via fun _ => XS.icmpNo X.here B.x rfl (B.d q) rfl (by simp [if_icmp.holds, w, Int32.not_lt, Int32.not_le])
  · exact (g1 w).via fun _ => XS.icmpYes X.here B.x rfl rfl (B.d q) rfl (by simpa [if_icmp.holds, Int32.not_lt, Int32.not_le] using w) ho hp
theorem g_icmp_gt (X : Stand p l e R s m args below meth c T locs cells slots) (B : Bo Z p s m meth c own nm bytes maxL ret) {o : Int} {x y : Int32} (q : decode bytes pc = .ok (.if_icmp .gt o, 3)) (pt pf : Nat) (hp : ((pc : Int) + o).toNat = pt) (ho : 0 ≤ (pc : Int) + o) (hf : pc + 3 = pf) (g1 : y < x → Go p e below P (T.setTop (mkF m pt Ls st))) (g2 : ¬ y < x → Go p e below P (T.setTop (mkF m pf Ls st))) : Go p e below P (T.setTop (mkF m pc Ls (.int y :: .int x :: st))) := by
  subst hf
  by_cases w : y < x
  · exact (g1 w).via fun _ => XS.icmpYes X.here B.x rfl rfl (B.d q) rfl (by simp [if_icmp.holds, w, Int32.not_lt, Int32.not_le]) ho hp
  · exact (g2 w).via fun _ => XS.icmpNo X.here B.x rfl (B.d q) rfl (by simp [if_icmp.holds, w, Int32.not_lt, Int32.not_le])
theorem g_icmp_le (X : Stand p l e R s m args below meth c T locs cells slots) (B : Bo Z p s m meth c own nm bytes maxL ret) {o : Int} {x y : Int32} (q : decode bytes pc = .ok (.if_icmp .le o, 3)) (pt pf : Nat) (hp : ((pc : Int) + o).toNat = pt) (ho : 0 ≤ (pc : Int) + o) (hf : pc + 3 = pf) (g1 : ¬ y < x → Go p e below P (T.setTop (mkF m pt Ls st))) (g2 : y < x → Go p e below P (T.setTop (mkF m pf Ls st))) : Go p e below P (T.setTop (mkF m pc Ls (.int y :: .int x :: st))) := by
  subst hf
  by_cases w : y < x
  · exact (g2 w).via fun _ => XS.icmpNo X.here B.x rfl (B.d q) rfl (by simp [if_icmp.holds, w, Int32.not_lt, Int32.not_le])
  · exact (g1 w).via fun _ => XS.icmpYes X.here B.x rfl rfl (B.d q) rfl (by simpa [if_icmp.holds, Int32.not_lt, Int32.not_le] using w) ho hp
theorem g_if_eq (X : Stand p l e R s m args below meth c T locs cells slots) (B : Bo Z p s m meth c own nm bytes maxL ret) {o : Int} {x : Int32} (q : decode bytes pc = .ok (.ifCond .eq o, 3)) (pt pf : Nat) (hp : ((pc : Int) + o).toNat = pt) (ho : 0 ≤ (pc : Int) + o) (hf : pc + 3 = pf) (g1 : x = 0 → Go p e below P (T.setTop (mkF m pt Ls st))) (g2 : ¬ x = 0 → Go p e below P (T.setTop (mkF m pf Ls st))) : Go p e below P (T.setTop (mkF m pc Ls (.int x :: st))) := by
  subst hf
  by_cases w : x = 0
  · exact (g1 w).via fun _ => XS.ifYes X.here B.x rfl rfl (B.d q) rfl (by simp [ifCond.holds, w, Int32.not_lt, Int32.not_le]) ho hp
  · exact (g2 w).via fun _ => XS.ifNo X.here B.x rfl (B.d q) rfl (by simp [ifCond.holds, w, Int32.not_lt, Int32.not_le])
theorem g_if_ne (X : Stand p l e R s m args below meth c T locs cells slots) (B : Bo Z p s m meth c own nm bytes maxL ret) {o : Int} {x : Int32} (q : decode bytes pc = .ok (.ifCond .ne o, 3)) (pt pf : Nat) (hp : ((pc : Int) + o).toNat = pt) (ho : 0 ≤ (pc : Int) + o) (hf : pc + 3 = pf) (g1 : ¬ x = 0 → Go p e below P (T.setTop (mkF m pt Ls st))) (g2 : x = 0 → Go p e below P (T.setTop (mkF m pf Ls st))) : Go p e below P (T.setTop (mkF m pc Ls (.int x :: st))) := by
  subst hf
  by_cases w : x = 0
  · exact (g2 w).via fun _ => XS.ifNo X.here B.x rfl (B.d q) rfl (by simp [ifCond.holds, w, Int32.not_lt, Int32.not_le])
  · exact (g1 w).via fun _ => XS.ifYes X.here B.x rfl rfl (B.d q) rfl (by simpa [ifCond.holds, Int32.not_lt, Int32.not_le] using w) ho hp
theorem g_if_lt (X : Stand p l e R s m args below meth c T locs cells slots) (B : Bo Z p s m meth c own nm bytes maxL ret) {o : Int} {x : Int32} (q : decode bytes pc = .ok (.ifCond .lt o, 3)) (pt pf : Nat) (hp : ((pc : Int) + o).toNat = pt) (ho : 0 ≤ (pc : Int) + o) (hf : pc + 3 = pf) (g1 : x < 0 → Go p e below P (T.setTop (mkF m pt Ls st))) (g2 : ¬ x < 0 → Go p e below P (T.setTop (mkF m pf Ls st))) : Go p e below P (T.setTop (mkF m pc Ls (.int x :: st))) := by
  subst hf
  by_cases w : x < 0
  · exact (g1 w).via fun _ => XS.ifYes X.here B.x rfl rfl (B.d q) rfl (by simp [ifCond.holds, w, Int32.not_lt, Int32.not_le]) ho hp
  · exact (g2 w).via fun _ => XS.ifNo X.here B.x rfl (B.d q) rfl (by simp [ifCond.holds, w, Int32.not_lt, Int32.not_le])
theorem g_if_ge (X : Stand p l e R s m args below meth c T locs cells slots) (B : Bo Z p s m meth c own nm bytes maxL ret) {o : Int} {x : Int32} (q : decode bytes pc = .ok (.ifCond .ge o, 3)) (pt pf : Nat) (hp : ((pc : Int) + o).toNat = pt) (ho : 0 ≤ (pc : Int) + o) (hf : pc + 3 = pf) (g1 : ¬ x < 0 → Go p e below P (T.setTop (mkF m pt Ls st))) (g2 : x < 0 → Go p e below P (T.setTop (mkF m pf Ls st))) : Go p e below P (T.setTop (mkF m pc Ls (.int x :: st))) := by
  subst hf
  by_cases w : x < 0
  · exact (g2 w).via fun _ => XS.ifNo X.here B.x rfl (B.d q) rfl (by simp [ifCond.holds, w, Int32.not_lt, Int32.not_le])
  · exact (g1 w).via fun _ => XS.ifYes X.here B.x rfl rfl (B.d q) rfl (by simpa [ifCond.holds, Int32.not_lt, Int32.not_le] using w) ho hp
theorem g_if_gt (X : Stand p l e R s m args below meth c T locs cells slots) (B : Bo Z p s m meth c own nm bytes maxL ret) {o : Int} {x : Int32} (q : decode bytes pc = .ok (.ifCond .gt o, 3)) (pt pf : Nat) (hp : ((pc : Int) + o).toNat = pt) (ho : 0 ≤ (pc : Int) + o) (hf : pc + 3 = pf) (g1 : 0 < x → Go p e below P (T.setTop (mkF m pt Ls st))) (g2 : ¬ 0 < x → Go p e below P (T.setTop (mkF m pf Ls st))) : Go p e below P (T.setTop (mkF m pc Ls (.int x :: st))) := by
  subst hf
  by_cases w : 0 < x
  · exact (g1 w).via fun _ => XS.ifYes X.here B.x rfl rfl (B.d q) rfl (by simp [ifCond.holds, w, Int32.not_lt, Int32.not_le]) ho hp
  · exact (g2 w).via fun _ => XS.ifNo X.here B.x rfl (B.d q) rfl (by simp [ifCond.holds, w, Int32.not_lt, Int32.not_le])
theorem g_if_le (X : Stand p l e R s m args below meth c T locs cells slots) (B : Bo Z p s m meth c own nm bytes maxL ret) {o : Int} {x : Int32} (q : decode bytes pc = .ok (.ifCond .le o, 3)) (pt pf : Nat) (hp : ((pc : Int) + o).toNat = pt) (ho : 0 ≤ (pc : Int) + o) (hf : pc + 3 = pf) (g1 : ¬ 0 < x → Go p e below P (T.setTop (mkF m pt Ls st))) (g2 : 0 < x → Go p e below P (T.setTop (mkF m pf Ls st))) : Go p e below P (T.setTop (mkF m pc Ls (.int x :: st))) := by
  subst hf
  by_cases w : 0 < x
  · exact (g2 w).via fun _ => XS.ifNo X.here B.x rfl (B.d q) rfl (by simp [ifCond.holds, w, Int32.not_lt, Int32.not_le])
  · exact (g1 w).via fun _ => XS.ifYes X.here B.x rfl rfl (B.d q) rfl (by simpa [ifCond.holds, Int32.not_lt, Int32.not_le] using w) ho hp
theorem g_acmp_eq (X : Stand p l e R s m args below meth c T locs cells slots) (B : Bo Z p s m meth c own nm bytes maxL ret) {o : Int} {x y : Value} (q : decode bytes pc = .ok (.if_acmp .eq o, 3)) (pt pf : Nat) (hp : ((pc : Int) + o).toNat = pt) (ho : 0 ≤ (pc : Int) + o) (hf : pc + 3 = pf) (i : x.isRef = true) (j : y.isRef = true) (g1 : x = y → Go p e below P (T.setTop (mkF m pt Ls st))) (g2 : ¬ x = y → Go p e below P (T.setTop (mkF m pf Ls st))) : Go p e below P (T.setTop (mkF m pc Ls (y :: x :: st))) := by
  subst hf
  by_cases w : x = y
  · exact (g1 w).via fun _ => XT.acmpYes X.here B.x rfl rfl (B.d q) rfl i j (by simp [XT.acmp, w]) ho hp
  · exact (g2 w).via fun _ => XT.acmpNo X.here B.x rfl (B.d q) rfl i j (by simp [XT.acmp, w])
theorem g_acmp_ne (X : Stand p l e R s m args below meth c T locs cells slots) (B : Bo Z p s m meth c own nm bytes maxL ret) {o : Int} {x y : Value} (q : decode bytes pc = .ok (.if_acmp .ne o, 3)) (pt pf : Nat) (hp : ((pc : Int) + o).toNat = pt) (ho : 0 ≤ (pc : Int) + o) (hf : pc + 3 = pf) (i : x.isRef = true) (j : y.isRef = true) (g1 : ¬ x = y → Go p e below P (T.setTop (mkF m pt Ls st))) (g2 : x = y → Go p e below P (T.setTop (mkF m pf Ls st))) : Go p e below P (T.setTop (mkF m pc Ls (y :: x :: st))) := by
  subst hf
  by_cases w : x = y
  · exact (g2 w).via fun _ => XT.acmpNo X.here B.x rfl (B.d q) rfl i j (by simp [XT.acmp, w])
  · exact (g1 w).via fun _ => XT.acmpYes X.here B.x rfl rfl (B.d q) rfl i j (by simp [XT.acmp, w]) ho hp
theorem g_ifnull (X : Stand p l e R s m args below meth c T locs cells slots) (B : Bo Z p s m meth c own nm bytes maxL ret) {o : Int} {v : Value} (q : decode bytes pc = .ok (.ifnull o, 3)) (pt pf : Nat) (hp : ((pc : Int) + o).toNat = pt) (ho : 0 ≤ (pc : Int) + o) (hf : pc + 3 = pf) (i : v.isRef = true) (g1 : v = .null → Go p e below P (T.setTop (mkF m pt Ls st))) (g2 : ¬ v = .null → Go p e below P (T.setTop (mkF m pf Ls st))) : Go p e below P (T.setTop (mkF m pc Ls (v :: st))) := by
  subst hf
  by_cases w : v = .null
  · exact (g1 w).via fun _ => XT.nullYes X.here B.x rfl rfl (B.d q) rfl w ho hp
  · exact (g2 w).via fun _ => XT.nullNo X.here B.x rfl (B.d q) rfl i w
theorem g_ifnonnull (X : Stand p l e R s m args below meth c T locs cells slots) (B : Bo Z p s m meth c own nm bytes maxL ret) {o : Int} {v : Value} (q : decode bytes pc = .ok (.ifnonnull o, 3)) (pt pf : Nat) (hp : ((pc : Int) + o).toNat = pt) (ho : 0 ≤ (pc : Int) + o) (hf : pc + 3 = pf) (i : v.isRef = true) (g1 : ¬ v = .null → Go p e below P (T.setTop (mkF m pt Ls st))) (g2 : v = .null → Go p e below P (T.setTop (mkF m pf Ls st))) : Go p e below P (T.setTop (mkF m pc Ls (v :: st))) := by
  subst hf
  by_cases w : v = .null
  · exact (g2 w).via fun _ => XT.nonnullNo X.here B.x rfl (B.d q) rfl w
  · exact (g1 w).via fun _ => XT.nonnullYes X.here B.x rfl rfl (B.d q) rfl i w ho hp
theorem g_tsw (X : Stand p l e R s m args below meth c T locs cells slots) (B : Bo Z p s m meth c own nm bytes maxL ret) {dflt low high : Int} {offs : Array Int} {len : Nat} {i : Int32} (o : Int) (q : decode bytes pc = .ok (.tableswitch dflt low high offs, len)) (pc' : Nat) (hin : ¬ (i.toInt < low ∨ i.toInt > high)) (hoff : offs[(i.toInt - low).toNat]? = some o) (ho : 0 ≤ (pc : Int) + o) (hp : ((pc : Int) + o).toNat = pc') (g : Go p e below P (T.setTop (mkF m pc' Ls st))) : Go p e below P (T.setTop (mkF m pc Ls (.int i :: st))) := g.via fun t => XS.tswIn (target := t) (g := mkF m pc Ls (.int i :: st)) (pc0 := pc) (pc' := pc') X.here B.x rfl rfl (B.d q) rfl hin hoff ho hp
theorem g_ldcI (X : Stand p l e R s m args below meth c T locs cells slots) (B : Bo Z p s m meth c own nm bytes maxL ret) {index : Nat} {v : Int32} (q : decode bytes pc = .ok (.ldc index, 2)) (pc' : Nat) (hp : pc + 2 = pc') (w : (Jvm.Cond.constant own index v).before a0 Z = true) (g : Go p e below P (T.setTop (mkF m pc' Ls (.int v :: st)))) : Go p e below P (T.setTop (mkF m pc Ls st)) := by
  subst hp
  exact g.via fun _ => X.ldcI B.x B.o (mvT B.z w) rfl (B.d q)
theorem g_getS (X : Stand p l e R s m args below meth c T locs cells slots) (B : Bo Z p s m meth c own nm bytes maxL ret) {R0 O n d : String} {index : Nat} {v : Value} (q : decode bytes pc = .ok (.getstatic index, 3)) (pc' : Nat) (hp : pc + 3 = pc') (w : (Jvm.Cond.fieldLink own index R0 n d).before a0 Z = true) (via : Via Z R0 O n d) (eT : T.heap = h) (F : Sta Z h O n d v) (k : ∀ T', Stand p l e R s m args below meth c T' locs cells slots → T'.heap = h → Go p e below P (T'.setTop (mkF m pc' Ls (v :: st)))) : Go p e below P (T.setTop (mkF m pc Ls st)) := by
  subst hp
  obtain ⟨T', X', e', q'⟩ := getS (host := "") X B.x B.z B.o w via eT F (g := mkF m pc Ls st) rfl (B.d q)
  exact (k T' X' e').via q'
theorem g_getF (X : Stand p l e R s m args below meth c T locs cells slots) (B : Bo Z p s m meth c own nm bytes maxL ret) {R0 O n d : String} {index : Nat} {a : Addr} {v : Value} (q : decode bytes pc = .ok (.getfield index, 3)) (pc' : Nat) (hp : pc + 3 = pc') (w : (Jvm.Cond.fieldLink own index R0 n d).before a0 Z = true) (via : Via Z R0 O n d) (eT : T.heap = h) (F : Fld Z h a O n d v) (k : ∀ T', Stand p l e R s m args below meth c T' locs cells slots → T'.heap = h → Go p e below P (T'.setTop (mkF m pc' Ls (v :: st)))) : Go p e below P (T.setTop (mkF m pc Ls (.ref a :: st))) := by
  subst hp
  obtain ⟨T', X', e', q'⟩ := getF (host := "") X B.x B.z B.o (Or.inl w) via eT F (g := mkF m pc Ls (.ref a :: st)) rfl rfl (B.d q)
  exact (k T' X' e').via q'
theorem g_putF (X : Stand p l e R s m args below meth c T locs cells slots) (B : Bo Z p s m meth c own nm bytes maxL ret) {R0 O n d C : String} {index kk : Nat} {ty : FieldType} {a : Addr} {v old : Value} (q : decode bytes pc = .ok (.putfield index, 3)) (pc' : Nat) (hp : pc + 3 = pc') (w : (Jvm.Cond.fieldLink own index R0 n d).before a0 Z = true) (via : Via Z R0 O n d) (eT : T.heap = h) (F : Fld Z h a O n d old) (E : Exa Z h a C) (L : (Jvm.Cond.lays C O n d).before a0 Z = true ∨ ((Jvm.Cond.laysFinal C O n d).before a0 Z = true ∧ own = O ∧ nm = "<init>")) (wi : (Jvm.Cond.instantiable C kk).before a0 Z = true) (hty : parseFieldDescriptor d = some ty) (hn : narrow ty v = v) (hf : fits ty v = true) (k : ∀ T' h', Stand p l e R s m args below meth c T' (locs ++ [⟨a, Jvm.RoadKit.slotOf Z O n d⟩]) cells slots → T'.heap = h' → Wr h h' a (Jvm.RoadKit.slotOf Z O n d) v → Go p e below P (T'.setTop (mkF m pc' Ls st))) : Go p e below P (T.setTop (mkF m pc Ls (v :: .ref a :: st))) := by
  subst hp
  obtain ⟨T', h', X', e', W', q'⟩ := putF (host := "") X B.x B.z B.o (Or.inl w) via eT F E (L.imp id fun y => ⟨y.1, y.2.1, B.n.trans y.2.2⟩) wi hty hn hf (g := mkF m pc Ls (v :: .ref a :: st)) rfl rfl (B.d q)
  exact (k T' h' X' e' W').via q'
theorem g_new (X : Stand p l e R s m args below meth c T locs cells slots) (B : Bo Z p s m meth c own nm bytes maxL ret) {C : String} {index n : Nat} (q : decode bytes pc = .ok (.new index, 3)) (pc' : Nat) (hp : pc + 3 = pc') (w : (Jvm.Cond.classLink own index C).before a0 Z = true) (wi : (Jvm.Cond.instantiable C n).before a0 Z = true) (wz : (Jvm.Cond.initialized C).before a0 Z = true) (eT : T.heap = h) (hc : cells + 1 ≤ R.cells) (hl : slots + n ≤ R.slots) (k : ∀ T' h' a, Stand p l e R s m args below meth c T' locs (cells + 1) (slots + n) → T'.heap = h' → a = h.size → Ext h h' → Exa Z h' a C → (∀ {O nm d : String} {ty : FieldType}, Laid Z a0 C O nm d → parseFieldDescriptor d = some ty → Fld Z h' a O nm d (defaultValue ty)) → Go p e below P (T'.setTop (mkF m pc' Ls (.ref a :: st)))) : Go p e below P (T.setTop (mkF m pc Ls st)) := by
  subst hp
  obtain ⟨T', h', X', e', E', A', D', -, q'⟩ := newO X B.x B.z B.o w wi wz eT (g := mkF m pc Ls st) rfl (B.d q) hc hl
  exact (k T' h' _ X' e' rfl E' A' D').via q'
theorem g_callS (X : Stand p l e R s m args below meth c T locs cells slots) (B : Bo Z p s m meth c own nm bytes maxL ret) {y : MethodName} {by' : ByteArray} {mx : Nat} {rt : Option FieldType} {rm : Room} {Q : Option Value → Heap → List Loc → Prop} {index : Nat} (argsL rest : List Value) (q : decode bytes pc = .ok (.invokestatic index, 3)) (pc' : Nat) (hp : pc + 3 = pc') (hst : st = argsL.reverse ++ rest) (w1 : (Jvm.Cond.methodLink own index y).before a0 Z = true) (w2 : (Jvm.Cond.static y).before a0 Z = true) (w3 : (Jvm.Cond.initialized y.cls).before a0 Z = true) (w4 : (Jvm.Cond.code y by' mx rt).before a0 Z = true) (hy : y.cls ≠ "java/lang/invoke/MethodHandle" ∧ y.cls ≠ "java/lang/invoke/VarHandle") (hlen : ∀ sig, parseMethodDescriptor y.desc = some sig → argsL.length = sig.parameters.length) (C : Ctr l Z y by' mx rt rm argsL.toArray h Q) (eT : T.heap = h) (hm : Ls.size = maxL) (W : Nat) (hW : (rest.map fun v => v.category).sum ≤ W) (hf : rm.frames + 1 ≤ R.frames) (hl : W + (mx + 11) + rm.locals ≤ R.locals) (hc : cells + rm.cells ≤ R.cells) (hs : slots + rm.slots ≤ R.slots) (k : ∀ v T' h' L', Stand p l e R s m args below meth c T' (locs ++ L') (cells + rm.cells) (slots + rm.slots) → T'.heap = h' → Q v h' L' → Go p e below P (T'.setTop (mkF m pc' Ls (v.toList ++ rest)))) : Go p e below P (T.setTop (mkF m pc Ls st)) := by
  subst hp hst
  obtain ⟨v, _, ⟨T', L', k', n'⟩, -, X', ⟨Lc, hQ, l1, l2, l3⟩, q'⟩ := Jvm.LawKit.callS X B.x (y := y) B.o (mvT B.z w1) (mvT B.z w2) (mvT B.z w3) (mvT B.z w4) hy (C.back (W := W) B.z w4 w3 hf hl) (g := mkF m pc Ls (argsL.reverse ++ rest)) rfl (B.mx hm) (argsL := argsL) (rest := rest) hlen rfl (by show 2 * 0 + _ ≤ _; omega) (B.d q) (fun _ _ => ⟨rfl, eT, hc, hs⟩)
  dsimp only [Pt.U, Pt.locs, Pt.cells, Pt.slots] at X' l1 l2 l3 q' hQ
  subst l1 l2 l3
  exact (k v T' _ Lc X' rfl hQ).via q'
theorem g_callV (X : Stand p l e R s m args below meth c T locs cells slots) (B : Bo Z p s m meth c own nm bytes maxL ret) {z : MethodName} {by' : ByteArray} {mx : Nat} {rt : Option FieldType} {rm : Room} {Q : Option Value → Heap → List Loc → Prop} {index : Nat} {K : String} {a : Addr} (argsL rest : List Value) (q : decode bytes pc = .ok (.invokevirtual index, 3)) (pc' : Nat) (hp : pc + 3 = pc') (hst : st = argsL.reverse ++ .ref a :: rest) (w1 : (Jvm.Cond.methodLink own index z).before a0 Z = true) (w2 : (Jvm.Cond.declares z).before a0 Z = true) (w3 : (Jvm.Cond.selects K z z).before a0 Z = true) (w4 : (Jvm.Cond.instanceMethod z).before a0 Z = true) (w5 : (Jvm.Cond.initialized z.cls).before a0 Z = true) (w6 : (Jvm.Cond.code z by' mx rt).before a0 Z = true) (hy : z.cls ≠ "java/lang/invoke/MethodHandle" ∧ z.cls ≠ "java/lang/invoke/VarHandle") (hlen : ∀ sig, parseMethodDescriptor z.desc = some sig → argsL.length = sig.parameters.length) (E : Exa Z h a K) (C : Ctr l Z z by' mx rt rm (.ref a :: argsL).toArray h Q) (eT : T.heap = h) (hm : Ls.size = maxL) (W : Nat) (hW : (rest.map fun v => v.category).sum ≤ W) (hf : rm.frames + 1 ≤ R.frames) (hl : W + (mx + 11) + rm.locals ≤ R.locals) (hc : cells + rm.cells ≤ R.cells) (hs : slots + rm.slots ≤ R.slots) (k : ∀ v T' h' L', Stand p l e R s m args below meth c T' (locs ++ L') (cells + rm.cells) (slots + rm.slots) → T'.heap = h' → Q v h' L' → Go p e below P (T'.setTop (mkF m pc' Ls (v.toList ++ rest)))) : Go p e below P (T.setTop (mkF m pc Ls st)) := by
  subst hp hst
  obtain ⟨cq, kq, qa, qb, qc⟩ := isOf B.z eT E
  obtain ⟨v, _, ⟨T', L', k', n'⟩, -, X', ⟨Lc, hQ, l1, l2, l3⟩, q'⟩ := X.virtualBack B.x (y := z) (z := z) B.o (mvT B.z w1) (mvT B.z w2) (notFace_of_selects (args := #[]) (mvT B.z w3)) (mvT B.z w3) (mvT B.z w4) hy (C.back (W := W) B.z w6 w5 hf hl) qa qc (g := mkF m pc Ls (argsL.reverse ++ .ref a :: rest)) rfl (B.mx hm) (Steps.refl _) (argsL := argsL) (rest := rest) hlen rfl (by show 2 * 0 + _ ≤ _; omega) (B.d q) (fun _ _ => ⟨rfl, eT, hc, hs⟩)
  dsimp only [Pt.U, Pt.locs, Pt.cells, Pt.slots] at X' l1 l2 l3 q' hQ
  subst l1 l2 l3
  exact (k v T' _ Lc X' rfl hQ).via fun _ => q'.trans
theorem g_callN (X : Stand p l e R s m args below meth c T locs cells slots) (B : Bo Z p s m meth c own nm bytes maxL ret) {y : MethodName} {by' : ByteArray} {mx : Nat} {rm : Room} {Q : Option Value → Heap → List Loc → Prop} {index : Nat} {a : Addr} (argsL rest : List Value) (q : decode bytes pc = .ok (.invokespecial index, 3)) (pc' : Nat) (hp : pc + 3 = pc') (hst : st = argsL.reverse ++ .ref a :: rest) (hn : y.name = "<init>") (w1 : (Jvm.Cond.methodLink own index y).before a0 Z = true) (w2 : (Jvm.Cond.instanceMethod y).before a0 Z = true) (w3 : (Jvm.Cond.code y by' mx none).before a0 Z = true) (w4 : (Jvm.Cond.initialized y.cls).before a0 Z = true) (hy : y.cls ≠ "java/lang/invoke/MethodHandle" ∧ y.cls ≠ "java/lang/invoke/VarHandle") (hlen : ∀ sig, parseMethodDescriptor y.desc = some sig → argsL.length = sig.parameters.length) (C : Ctr l Z y by' mx none rm (.ref a :: argsL).toArray h Q) (eT : T.heap = h) (hm : Ls.size = maxL) (W : Nat) (hW : (rest.map fun v => v.category).sum ≤ W) (hf : rm.frames + 1 ≤ R.frames) (hl : W + (mx + 11) + rm.locals ≤ R.locals) (hc : cells + rm.cells ≤ R.cells) (hs : slots + rm.slots ≤ R.slots) (k : ∀ v T' h' L', Stand p l e R s m args below meth c T' (locs ++ L') (cells + rm.cells) (slots + rm.slots) → T'.heap = h' → Q v h' L' → Go p e below P (T'.setTop (mkF m pc' Ls (v.toList ++ rest)))) : Go p e below P (T.setTop (mkF m pc Ls st)) := by
  subst hp hst
  obtain ⟨v, _, ⟨T', L', k', n'⟩, -, X', ⟨Lc, hQ, l1, l2, l3⟩, q'⟩ := X.specialBack B.x (y := y) hn B.o (mvT B.z w1) (mvT B.z w2) (mvT B.z w3) hy (C.back (W := W) B.z w3 w4 hf hl) (g := mkF m pc Ls (argsL.reverse ++ .ref a :: rest)) rfl (B.mx hm) (Steps.refl _) (a := a) (argsL := argsL) (rest := rest) hlen rfl (by show 2 * 0 + _ ≤ _; omega) (B.d q) (fun _ _ => ⟨rfl, eT, hc, hs⟩)
  dsimp only [Pt.U, Pt.locs, Pt.cells, Pt.slots] at X' l1 l2 l3 q' hQ
  subst l1 l2 l3
  exact (k v T' _ Lc X' rfl hQ).via fun _ => q'.trans
theorem g_newP (X : Stand p l e R s m args below meth c T locs cells slots) (B : Bo Z p s m meth c own nm bytes maxL ret) {aty : ArrayType} {n : Int32} (vs : List Value) (q : decode bytes pc = .ok (.newarray aty, 2)) (pc' : Nat) (hp : pc + 2 = pc') (w : (Jvm.Cond.arrayClass (newarray.typeOf aty)).before a0 Z = true) (eT : T.heap = h) (hn : ¬ n < 0) (hvs : List.replicate n.toNatClampNeg (defaultValue (newarray.typeOf aty)) = vs) (hb : vs.length * 8 ≤ 536870912) (hc : cells + 1 ≤ R.cells) (hl : slots + vs.length ≤ R.slots) (k : ∀ T' h' a, Stand p l e R s m args below meth c T' locs (cells + 1) (slots + vs.length) → T'.heap = h' → a = h.size → Ext h h' → Av Z h' a (newarray.typeOf aty) vs → Go p e below P (T'.setTop (mkF m pc' Ls (.ref a :: st)))) : Go p e below P (T.setTop (mkF m pc Ls (.int n :: st))) := by
  subst hp
  obtain ⟨T', h', cA, X', e', E', A', q'⟩ := newP X B.x B.z w eT (g := mkF m pc Ls (.int n :: st)) rfl (B.d q) rfl hn (cap := vs.length) (by rw [← hvs]; simp) hb hc hl
  exact (k T' h' _ X' e' rfl E' ⟨_, A', by rw [← hvs]; simp [newA]⟩).via q'
theorem g_castore (X : Stand p l e R s m args below meth c T locs cells slots) (B : Bo Z p s m meth c own nm bytes maxL ret) {a : Addr} {j x : Int32} {vs : List Value} (i : Nat) (q : decode bytes pc = .ok (.castore, 1)) (pc' : Nat) (hp : pc + 1 = pc') (eT : T.heap = h) (A : Av Z h a .char vs) (hi : j.toNatClampNeg = i) (h0 : ¬ j < 0) (hl : i < vs.length) (k : ∀ T' h', Stand p l e R s m args below meth c T' (locs ++ [⟨a, i⟩]) cells slots → T'.heap = h' → Wr h h' a i (.int (nar .char x)) → Av Z h' a .char (vs.set i (.int (nar .char x))) → Go p e below P (T'.setTop (mkF m pc' Ls st))) : Go p e below P (T.setTop (mkF m pc Ls (.int x :: .int j :: .ref a :: st))) := by
  subst hp
  have A' := A
  obtain ⟨cl, Ar, hv⟩ := A'
  obtain ⟨T', h', X', e', W', q'⟩ := stC X B.x B.z eT Ar (Av.inb (Z := Z) (h := h) (a := a) (ty := .char) hv hi h0 hl) (g := mkF m pc Ls (.int x :: .int j :: .ref a :: st)) rfl rfl (B.d q)
  subst hi
  exact (k T' h' X' e' W' (A.set W')).via q'
theorem g_bastoreB (X : Stand p l e R s m args below meth c T locs cells slots) (B : Bo Z p s m meth c own nm bytes maxL ret) {a : Addr} {j x : Int32} {vs : List Value} (i : Nat) (q : decode bytes pc = .ok (.bastore, 1)) (pc' : Nat) (hp : pc + 1 = pc') (eT : T.heap = h) (A : Av Z h a .byte vs) (hi : j.toNatClampNeg = i) (h0 : ¬ j < 0) (hl : i < vs.length) (k : ∀ T' h', Stand p l e R s m args below meth c T' (locs ++ [⟨a, i⟩]) cells slots → T'.heap = h' → Wr h h' a i (.int (nar .byte x)) → Av Z h' a .byte (vs.set i (.int (nar .byte x))) → Go p e below P (T'.setTop (mkF m pc' Ls st))) : Go p e below P (T.setTop (mkF m pc Ls (.int x :: .int j :: .ref a :: st))) := by
  subst hp
  have A' := A
  obtain ⟨cl, Ar, hv⟩ := A'
  obtain ⟨T', h', X', e', W', q'⟩ := stB X B.x B.z eT Ar (Av.inb (Z := Z) (h := h) (a := a) (ty := .byte) hv hi h0 hl) (g := mkF m pc Ls (.int x :: .int j :: .ref a :: st)) rfl rfl (B.d q)
  subst hi
  exact (k T' h' X' e' W' (A.set W')).via q'
theorem g_bastoreZ (X : Stand p l e R s m args below meth c T locs cells slots) (B : Bo Z p s m meth c own nm bytes maxL ret) {a : Addr} {j x : Int32} {vs : List Value} (i : Nat) (q : decode bytes pc = .ok (.bastore, 1)) (pc' : Nat) (hp : pc + 1 = pc') (eT : T.heap = h) (A : Av Z h a .boolean vs) (hi : j.toNatClampNeg = i) (h0 : ¬ j < 0) (hl : i < vs.length) (k : ∀ T' h', Stand p l e R s m args below meth c T' (locs ++ [⟨a, i⟩]) cells slots → T'.heap = h' → Wr h h' a i (.int (nar .boolean x)) → Av Z h' a .boolean (vs.set i (.int (nar .boolean x))) → Go p e below P (T'.setTop (mkF m pc' Ls st))) : Go p e below P (T.setTop (mkF m pc Ls (.int x :: .int j :: .ref a :: st))) := by
  subst hp
  have A' := A
  obtain ⟨cl, Ar, hv⟩ := A'
  obtain ⟨T', h', X', e', W', q'⟩ := stZ X B.x B.z eT Ar (Av.inb (Z := Z) (h := h) (a := a) (ty := .boolean) hv hi h0 hl) (g := mkF m pc Ls (.int x :: .int j :: .ref a :: st)) rfl rfl (B.d q)
  subst hi
  exact (k T' h' X' e' W' (A.set W')).via q'
theorem g_caload (X : Stand p l e R s m args below meth c T locs cells slots) (B : Bo Z p s m meth c own nm bytes maxL ret) {a : Addr} {j : Int32} {vs : List Value} {v : Value} (i : Nat) (q : decode bytes pc = .ok (.caload, 1)) (pc' : Nat) (hp : pc + 1 = pc') (eT : T.heap = h) (A : Av Z h a .char vs) (hi : j.toNatClampNeg = i) (h0 : ¬ j < 0) (hv : vs[i]? = some v) (g : Go p e below P (T.setTop (mkF m pc' Ls (v :: st)))) : Go p e below P (T.setTop (mkF m pc Ls (.int j :: .ref a :: st))) := by
  subst hp
  obtain ⟨cl, Ar, hc⟩ := A
  have hl : i < vs.length := (List.getElem?_eq_some_iff.mp hv).1
  have hin := Av.inb (Z := Z) (h := h) (a := a) (ty := .char) hc hi h0 hl
  have k1 : T.heap[a]? = some cl := by rw [eT]; exact Ar.1
  have k2 : s.isArrayOf cl .char := State.isArrayOf_alike B.z.alike Ar.2.1
  have k3 : cl.slots[j.toNatClampNeg]? = some v := by rw [hi, ← hv, ← hc]; simp
  exact g.via fun t => X.caload B.x k1 k2 Ar.2.2 hin k3 (g := mkF m pc Ls (.int j :: .ref a :: st)) rfl rfl (B.d q) t
theorem g_baloadB (X : Stand p l e R s m args below meth c T locs cells slots) (B : Bo Z p s m meth c own nm bytes maxL ret) {a : Addr} {j : Int32} {vs : List Value} {v : Value} (i : Nat) (q : decode bytes pc = .ok (.baload, 1)) (pc' : Nat) (hp : pc + 1 = pc') (eT : T.heap = h) (A : Av Z h a .byte vs) (hi : j.toNatClampNeg = i) (h0 : ¬ j < 0) (hv : vs[i]? = some v) (g : Go p e below P (T.setTop (mkF m pc' Ls (v :: st)))) : Go p e below P (T.setTop (mkF m pc Ls (.int j :: .ref a :: st))) := by
  subst hp
  obtain ⟨cl, Ar, hc⟩ := A
  have hl : i < vs.length := (List.getElem?_eq_some_iff.mp hv).1
  have hin := Av.inb (Z := Z) (h := h) (a := a) (ty := .byte) hc hi h0 hl
  have k1 : T.heap[a]? = some cl := by rw [eT]; exact Ar.1
  have k2 : s.isArrayOf cl .byte := State.isArrayOf_alike B.z.alike Ar.2.1
  have k3 : cl.slots[j.toNatClampNeg]? = some v := by rw [hi, ← hv, ← hc]; simp
  exact g.via fun t => X.baloadBytes B.x k1 k2 Ar.2.2 hin k3 (g := mkF m pc Ls (.int j :: .ref a :: st)) rfl rfl (B.d q) t
theorem g_baloadZ (X : Stand p l e R s m args below meth c T locs cells slots) (B : Bo Z p s m meth c own nm bytes maxL ret) {a : Addr} {j : Int32} {vs : List Value} {v : Value} (i : Nat) (q : decode bytes pc = .ok (.baload, 1)) (pc' : Nat) (hp : pc + 1 = pc') (eT : T.heap = h) (A : Av Z h a .boolean vs) (hi : j.toNatClampNeg = i) (h0 : ¬ j < 0) (hv : vs[i]? = some v) (g : Go p e below P (T.setTop (mkF m pc' Ls (v :: st)))) : Go p e below P (T.setTop (mkF m pc Ls (.int j :: .ref a :: st))) := by
  subst hp
  obtain ⟨cl, Ar, hc⟩ := A
  have hl : i < vs.length := (List.getElem?_eq_some_iff.mp hv).1
  have hin := Av.inb (Z := Z) (h := h) (a := a) (ty := .boolean) hc hi h0 hl
  have k1 : T.heap[a]? = some cl := by rw [eT]; exact Ar.1
  have k2 : s.isArrayOf cl .boolean := State.isArrayOf_alike B.z.alike Ar.2.1
  have k3 : cl.slots[j.toNatClampNeg]? = some v := by rw [hi, ← hv, ← hc]; simp
  exact g.via fun t => X.baloadBooleans B.x k1 k2 Ar.2.2 hin k3 (g := mkF m pc Ls (.int j :: .ref a :: st)) rfl rfl (B.d q) t
theorem g_aaload (X : Stand p l e R s m args below meth c T locs cells slots) (B : Bo Z p s m meth c own nm bytes maxL ret) {ty : FieldType} (hty : ty.isReference = true) {a : Addr} {j : Int32} {vs : List Value} {v : Value} (i : Nat) (q : decode bytes pc = .ok (.aaload, 1)) (pc' : Nat) (hp : pc + 1 = pc') (eT : T.heap = h) (A : Av Z h a ty vs) (hi : j.toNatClampNeg = i) (h0 : ¬ j < 0) (hv : vs[i]? = some v) (g : Go p e below P (T.setTop (mkF m pc' Ls (v :: st)))) : Go p e below P (T.setTop (mkF m pc Ls (.int j :: .ref a :: st))) := by
  subst hp
  obtain ⟨cl, Ar, hc⟩ := A
  have hl : i < vs.length := (List.getElem?_eq_some_iff.mp hv).1
  have hin := Av.inb (Z := Z) (h := h) (a := a) (ty := ty) hc hi h0 hl
  have k1 : T.heap[a]? = some cl := by rw [eT]; exact Ar.1
  have k2 : s.isArrayOf cl ty := State.isArrayOf_alike B.z.alike Ar.2.1
  have k3 : cl.slots[j.toNatClampNeg]? = some v := by rw [hi, ← hv, ← hc]; simp
  exact g.via fun t => X.aaload B.x k1 k2 hty Ar.2.2 hin k3 (g := mkF m pc Ls (.int j :: .ref a :: st)) rfl rfl (B.d q) t
theorem g_arrlen (X : Stand p l e R s m args below meth c T locs cells slots) (B : Bo Z p s m meth c own nm bytes maxL ret) {ty : FieldType} {a : Addr} {vs : List Value} (n : Int32) (q : decode bytes pc = .ok (.arraylength, 1)) (pc' : Nat) (hp : pc + 1 = pc') (eT : T.heap = h) (A : Av Z h a ty vs) (hn : vs.length.toInt32 = n) (g : Go p e below P (T.setTop (mkF m pc' Ls (.int n :: st)))) : Go p e below P (T.setTop (mkF m pc Ls (.ref a :: st))) := by
  subst hp hn
  obtain ⟨cl, Ar, hc⟩ := A
  have k1 : T.heap[a]? = some cl := by rw [eT]; exact Ar.1
  have k2 : s.isArrayOf cl ty := State.isArrayOf_alike B.z.alike Ar.2.1
  rw [← hc, Array.length_toList] at g
  exact g.via fun t => X.arraylength B.x k1 k2 (g := mkF m pc Ls (.ref a :: st)) rfl rfl (B.d q) t
theorem g_callUp (X : Stand p l e R s m args below meth c T locs cells slots) (B : Bo Z p s m meth c own nm bytes maxL ret) {y z : MethodName} {by' : ByteArray} {mx : Nat} {rt : Option FieldType} {rm : Room} {Q : Option Value → Heap → List Loc → Prop} {index : Nat} {K owner : String} {a : Addr} (argsL rest : List Value) (q : decode bytes pc = .ok (.invokevirtual index, 3)) (pc' : Nat) (hp : pc + 3 = pc') (hst : st = argsL.reverse ++ .ref a :: rest) (w1 : (Jvm.Cond.methodLink own index y).before a0 Z = true) (w2 : (Jvm.Cond.sameMethod y.cls owner y.name y.desc).before a0 Z = true) (w2' : (Jvm.Cond.declares ⟨owner, y.name, y.desc⟩).before a0 Z = true) (w3 : (Jvm.Cond.selects K y z).before a0 Z = true) (w4 : (Jvm.Cond.instanceMethod z).before a0 Z = true) (w5 : (Jvm.Cond.initialized z.cls).before a0 Z = true) (w6 : (Jvm.Cond.code z by' mx rt).before a0 Z = true) (hy : owner ≠ "java/lang/invoke/MethodHandle" ∧ owner ≠ "java/lang/invoke/VarHandle") (hlen : ∀ sig, parseMethodDescriptor y.desc = some sig → argsL.length = sig.parameters.length) (E : Exa Z h a K) (C : Ctr l Z z by' mx rt rm (.ref a :: argsL).toArray h Q) (eT : T.heap = h) (hm : Ls.size = maxL) (W : Nat) (hW : (rest.map fun v => v.category).sum ≤ W) (hf : rm.frames + 1 ≤ R.frames) (hl : W + (mx + 11) + rm.locals ≤ R.locals) (hc : cells + rm.cells ≤ R.cells) (hs : slots + rm.slots ≤ R.slots) (k : ∀ v T' h' L', Stand p l e R s m args below meth c T' (locs ++ L') (cells + rm.cells) (slots + rm.slots) → T'.heap = h' → Q v h' L' → Go p e below P (T'.setTop (mkF m pc' Ls (v.toList ++ rest)))) : Go p e below P (T.setTop (mkF m pc Ls st)) := by
  subst hp hst
  obtain ⟨cq, kq, qa, qb, qc⟩ := isOf B.z eT E
  obtain ⟨v, _, ⟨T', L', k', n'⟩, -, X', ⟨Lc, hQ, l1, l2, l3⟩, q'⟩ := X.virtualBackUp B.x (x := y) (y := z) B.o (mvT B.z w1) (mvT B.z w2) (mvT B.z w2') hy (mvT B.z w3) (mvT B.z w4) (C.back (W := W) B.z w6 w5 hf hl) qa qc (g := mkF m pc Ls (argsL.reverse ++ .ref a :: rest)) rfl (B.mx hm) (Steps.refl _) (argsL := argsL) (rest := rest) hlen rfl (by show 2 * 0 + _ ≤ _; omega) (B.d q) (fun _ _ => ⟨rfl, eT, hc, hs⟩)
  dsimp only [Pt.U, Pt.locs, Pt.cells, Pt.slots] at X' l1 l2 l3 q' hQ
  subst l1 l2 l3
  exact (k v T' _ Lc X' rfl hQ).via fun _ => q'.trans
theorem g_cast (X : Stand p l e R s m args below meth c T locs cells slots) (B : Bo Z p s m meth c own nm bytes maxL ret) {K : String} {index : Nat} {a : Addr} (q : decode bytes pc = .ok (.checkcast index, 3)) (pc' : Nat) (hp : pc + 3 = pc') (w : (Jvm.Cond.classLink own index K).before a0 Z = true) (eT : T.heap = h) (F : Ins Z h a K true) (k : ∀ T', Stand p l e R s m args below meth c T' locs cells slots → T'.heap = h → Go p e below P (T'.setTop (mkF m pc' Ls (.ref a :: st)))) : Go p e below P (T.setTop (mkF m pc Ls (.ref a :: st))) := by
  subst hp
  obtain ⟨T', X', e', q'⟩ := castY X B.x B.z B.o w eT F (g := mkF m pc Ls (.ref a :: st)) rfl rfl (B.d q)
  exact (k T' X' e').via q'
theorem g_dupX1 (X : Stand p l e R s m args below meth c T locs cells slots) (B : Bo Z p s m meth c own nm bytes maxL ret) {x y : Value} (q : decode bytes pc = .ok (.dup_x1, 1)) (pc' : Nat) (hp : pc + 1 = pc') (u : x.category = 1) (u' : y.category = 1) (g : Go p e below P (T.setTop (mkF m pc' Ls (x :: y :: x :: st)))) : Go p e below P (T.setTop (mkF m pc Ls (x :: y :: st))) := by
  subst hp
  exact g.via fun _ => XT.dupX1 X.here B.x rfl (B.d q) rfl u u'
theorem g_callI (X : Stand p l e R s m args below meth c T locs cells slots) (B : Bo Z p s m meth c own nm bytes maxL ret) {y z : MethodName} {by' : ByteArray} {mx : Nat} {rt : Option FieldType} {rm : Room} {Q : Option Value → Heap → List Loc → Prop} {index count : Nat} {K : String} {a : Addr} (argsL rest : List Value) (q : decode bytes pc = .ok (.invokeinterface index count, 5)) (pc' : Nat) (hp : pc + 5 = pc') (hst : st = argsL.reverse ++ .ref a :: rest) (w1 : (Jvm.Cond.methodLink own index y).before a0 Z = true) (w2 : (Jvm.Cond.declares y).before a0 Z = true) (hfa : ((Jvm.Cond.interfaceMethod y.cls y.cls y.name y.desc).onTables && (Jvm.Cond.interfaceMethod y.cls y.cls y.name y.desc).keepsFace) = true) (w2' : (Jvm.Cond.interfaceMethod y.cls y.cls y.name y.desc).before a0 Z = true) (w3 : (Jvm.Cond.selects K y z).before a0 Z = true) (w4 : (Jvm.Cond.instanceMethod z).before a0 Z = true) (w7 : (Jvm.Cond.publicMethod z).before a0 Z = true) (w8 : (Jvm.Cond.unhidden K y.name y.desc).before a0 Z = true) (w9 : (Jvm.Cond.castable K y.cls).before a0 Z = true) (w5 : (Jvm.Cond.initialized z.cls).before a0 Z = true) (w6 : (Jvm.Cond.code z by' mx rt).before a0 Z = true) (hy : y.cls ≠ "java/lang/invoke/MethodHandle" ∧ y.cls ≠ "java/lang/invoke/VarHandle") (hlen : ∀ sig, parseMethodDescriptor y.desc = some sig → argsL.length = sig.parameters.length) (E : Exa Z h a K) (C : Ctr l Z z by' mx rt rm (.ref a :: argsL).toArray h Q) (eT : T.heap = h) (hm : Ls.size = maxL) (W : Nat) (hW : (rest.map fun v => v.category).sum ≤ W) (hf : rm.frames + 1 ≤ R.frames) (hl : W + (mx + 11) + rm.locals ≤ R.locals) (hc : cells + rm.cells ≤ R.cells) (hs : slots + rm.slots ≤ R.slots) (k : ∀ v T' h' L', Stand p l e R s m args below meth c T' (locs ++ L') (cells + rm.cells) (slots + rm.slots) → T'.heap = h' → Q v h' L' → Go p e below P (T'.setTop (mkF m pc' Ls (v.toList ++ rest)))) : Go p e below P (T.setTop (mkF m pc Ls st)) := by
  subst hp hst
  obtain ⟨cq, kq, qa, qb, qc⟩ := isOf B.z eT E
  obtain ⟨v, _, ⟨T', L', k', n'⟩, -, X', ⟨Lc, hQ, l1, l2, l3⟩, q'⟩ := X.interfaceBack B.x (xi := y) (y := z) B.o (mvT B.z w1) (mvT B.z w2) (mvT B.z w2' hfa) (mvT B.z w3) (mvT B.z w4) (mvT B.z w7) (mvT B.z w8) (mvT B.z w9) hy (C.back (W := W) B.z w6 w5 hf hl) qa qb qc (g := mkF m pc Ls (argsL.reverse ++ .ref a :: rest)) rfl (B.mx hm) (Steps.refl _) (argsL := argsL) (rest := rest) hlen rfl (by show 2 * 0 + _ ≤ _; omega) (B.d q) (fun _ _ => ⟨rfl, eT, hc, hs⟩)
  dsimp only [Pt.U, Pt.locs, Pt.cells, Pt.slots] at X' l1 l2 l3 q' hQ
  subst l1 l2 l3
  exact (k v T' _ Lc X' rfl hQ).via fun _ => q'.trans
theorem g_callP (X : Stand p l e R s m args below meth c T locs cells slots) (B : Bo Z p s m meth c own nm bytes maxL ret) {y : MethodName} {by' : ByteArray} {mx : Nat} {rt : Option FieldType} {rm : Room} {Q : Option Value → Heap → List Loc → Prop} {index : Nat} {K : String} {a : Addr} (argsL rest : List Value) (q : decode bytes pc = .ok (.invokevirtual index, 3)) (pc' : Nat) (hp : pc + 3 = pc') (hst : st = argsL.reverse ++ .ref a :: rest) (w1 : (Jvm.Cond.methodLink own index y).before a0 Z = true) (w2 : (Jvm.Cond.instanceMethod y).before a0 Z = true) (w3 : (Jvm.Cond.selects y.cls y y).before a0 Z = true) (w4 : (Jvm.Cond.privateMethod y).before a0 Z = true) (w5 : (Jvm.Cond.initialized y.cls).before a0 Z = true) (w6 : (Jvm.Cond.code y by' mx rt).before a0 Z = true) (hy : y.cls ≠ "java/lang/invoke/MethodHandle" ∧ y.cls ≠ "java/lang/invoke/VarHandle") (hlen : ∀ sig, parseMethodDescriptor y.desc = some sig → argsL.length = sig.parameters.length) (E : Exa Z h a K) (C : Ctr l Z y by' mx rt rm (.ref a :: argsL).toArray h Q) (eT : T.heap = h) (hm : Ls.size = maxL) (W : Nat) (hW : (rest.map fun v => v.category).sum ≤ W) (hf : rm.frames + 1 ≤ R.frames) (hl : W + (mx + 11) + rm.locals ≤ R.locals) (hc : cells + rm.cells ≤ R.cells) (hs : slots + rm.slots ≤ R.slots) (k : ∀ v T' h' L', Stand p l e R s m args below meth c T' (locs ++ L') (cells + rm.cells) (slots + rm.slots) → T'.heap = h' → Q v h' L' → Go p e below P (T'.setTop (mkF m pc' Ls (v.toList ++ rest)))) : Go p e below P (T.setTop (mkF m pc Ls st)) := by
  subst hp hst
  obtain ⟨cl, hcl, hpl⟩ := E.cell
  obtain ⟨v, _, ⟨T', L', k', n'⟩, -, X', ⟨Lc, hQ, l1, l2, l3⟩, q'⟩ := X.privateBack B.x (y := y) B.o (mvT B.z w1) (mvT B.z w2) (mvT B.z w3) (Cond.privateMethod_at (args := #[]) (mvP B.z w4)) (mvT B.z w6) hy (C.back (W := W) B.z w6 w5 hf hl) (g := mkF m pc Ls (argsL.reverse ++ .ref a :: rest)) rfl (B.mx hm) (Steps.refl _) (by rw [eT]; exact hcl) hpl (argsL := argsL) (rest := rest) hlen rfl (by show 2 * 0 + _ ≤ _; omega) (B.d q) (fun _ _ => ⟨rfl, eT, hc, hs⟩)
  dsimp only [Pt.U, Pt.locs, Pt.cells, Pt.slots] at X' l1 l2 l3 q' hQ
  subst l1 l2 l3
  exact (k v T' _ Lc X' rfl hQ).via fun _ => q'.trans
theorem g_retOut (X : Stand p l e R s m args below meth c T locs cells slots) (B : Bo Z p s m meth c own nm bytes maxL ret) {Q : Option Value → Heap → List Loc → Prop} {cc ss : Nat} {w : Value} {t : FieldType} {i : Instr} (q : decode bytes pc = .ok (i, 1)) (ht : ret = some t) (hn : narrow t w = w)
    (hi : (i = .ireturn ∧ (t = .int ∨ t = .boolean ∨ t = .byte ∨ t = .char ∨ t = .short) ∧ ∃ z, w = .int z) ∨ (i = .lreturn ∧ t = .long ∧ ∃ z, w = .long z) ∨ (i = .dreturn ∧ t = .double ∧ ∃ z, w = .double z) ∨ (i = .freturn ∧ t = .float ∧ ∃ z, w = .float z) ∨ (i = .areturn ∧ t.isReference = true ∧ w.isRef = true))
    (hc : cells ≤ cc) (hs : slots ≤ ss) (eT : T.heap = h) (hQ : Q (some w) h locs) : Go p e below (EndsQ s Q cc ss) (T.setTop (mkF m pc Ls (w :: st))) := by
  have hl := B.lk
  obtain ⟨fs, hr, hrun, hended, hW, hsame⟩ := X.leave (v := some w) (fun z => by rw [B.r, ht] at z; cases z) hl
  subst eT
  exact ⟨_, _, retOut X B.x (B.r.trans ht) hn hi (B.d q) hr, hrun, hended, _, _, rfl, hQ, ⟨_, rfl⟩, hW, hsame.mono hc hs⟩
theorem g_retA (X : Stand p l e R s m args below meth c T locs cells slots) (B : Bo Z p s m meth c own nm bytes maxL ret) {Q : Option Value → Heap → List Loc → Prop} {cc ss : Nat} {w : Value} {t : FieldType} (q : decode bytes pc = .ok (.areturn, 1)) (ht : ret = some t) (hr : t.isReference = true) (hw : w.isRef = true) (hc : cells ≤ cc) (hs : slots ≤ ss) (eT : T.heap = h) (hQ : Q (some w) h locs) : Go p e below (EndsQ s Q cc ss) (T.setTop (mkF m pc Ls (w :: st))) :=
  g_retOut X B q ht (by cases t <;> first | (cases hr; done) | (cases w <;> first | rfl | (cases hw; done))) (Or.inr (Or.inr (Or.inr (Or.inr ⟨rfl, hr, hw⟩)))) hc hs eT hQ
theorem g_retI (X : Stand p l e R s m args below meth c T locs cells slots) (B : Bo Z p s m meth c own nm bytes maxL ret) {Q : Option Value → Heap → List Loc → Prop} {cc ss : Nat} {z : Int32} (q : decode bytes pc = .ok (.ireturn, 1)) (ht : ret = some .int) (hc : cells ≤ cc) (hs : slots ≤ ss) (eT : T.heap = h) (hQ : Q (some (.int z)) h locs) : Go p e below (EndsQ s Q cc ss) (T.setTop (mkF m pc Ls (.int z :: st))) :=
  g_retOut X B q ht rfl (Or.inl ⟨rfl, Or.inl rfl, _, rfl⟩) hc hs eT hQ
theorem g_retL (X : Stand p l e R s m args below meth c T locs cells slots) (B : Bo Z p s m meth c own nm bytes maxL ret) {Q : Option Value → Heap → List Loc → Prop} {cc ss : Nat} {z : Int64} (q : decode bytes pc = .ok (.lreturn, 1)) (ht : ret = some .long) (hc : cells ≤ cc) (hs : slots ≤ ss) (eT : T.heap = h) (hQ : Q (some (.long z)) h locs) : Go p e below (EndsQ s Q cc ss) (T.setTop (mkF m pc Ls (.long z :: st))) :=
  g_retOut X B q ht rfl (Or.inr (Or.inl ⟨rfl, rfl, _, rfl⟩)) hc hs eT hQ
theorem g_retN (X : Stand p l e R s m args below meth c T locs cells slots) (B : Bo Z p s m meth c own nm bytes maxL ret) {Q : Option Value → Heap → List Loc → Prop} {cc ss : Nat} {z : Int32} {t : FieldType} (q : decode bytes pc = .ok (.ireturn, 1)) (ht : ret = some t) (hn : narrow t (.int z) = .int z) (hk : t = .boolean ∨ t = .byte ∨ t = .char ∨ t = .short) (hc : cells ≤ cc) (hs : slots ≤ ss) (eT : T.heap = h) (hQ : Q (some (.int z)) h locs) : Go p e below (EndsQ s Q cc ss) (T.setTop (mkF m pc Ls (.int z :: st))) :=
  g_retOut X B q ht hn (Or.inl ⟨rfl, Or.inr hk, _, rfl⟩) hc hs eT hQ
theorem g_retV (X : Stand p l e R s m args below meth c T locs cells slots) (B : Bo Z p s m meth c own nm bytes maxL ret) {Q : Option Value → Heap → List Loc → Prop} {cc ss : Nat} (q : decode bytes pc = .ok (.return_, 1)) (ht : ret = none) (hc : cells ≤ cc) (hs : slots ≤ ss) (eT : T.heap = h) (hQ : Q none h locs) : Go p e below (EndsQ s Q cc ss) (T.setTop (mkF m pc Ls [])) := by
  have hl := B.lk
  obtain ⟨fs, hr, hrun, hended, hW, hsame⟩ := X.leave (v := none) (fun _ => rfl) hl
  subst eT
  exact ⟨_, _, X.returnOut B.x (B.r.trans ht) (B.d q) hr, hrun, hended, _, _, rfl, hQ, ⟨_, rfl⟩, hW, hsame.mono hc hs⟩
end OwnKit
theorem own_abs {P : Prop} {G : Prop} (q : P) (z : ¬ P) : G := absurd q z
theorem own_abs' {P : Prop} {G : Prop} (q : ¬ P) (z : P) : G := absurd z q
/-! own: from the words of a case to facts -/
theorem own_fldI {Z : State} {args : Array Value} {t : Term} {C n d : String} {a : Addr} {k : Int32} (ev : t.eval args Z none [] Z = some (.ref a)) (q : (Jvm.Cond.eq (.field t C n d) (.int k)).value args Z none Z [] = some true) : Fld Z Z.heap a C n d (.int k) := by
  obtain ⟨x, y, h1, h2, h3, -⟩ := cmp_v (Or.inl q)
  cases h2
  have h4 : Z.fieldOf? a C n d = some x := (fld_at ev).symm.trans h1
  have h5 : ∃ z, x = .int z := by cases x <;> simp [Kin, Value.isRef] at h3 ⊢
  obtain ⟨z, rfl⟩ := h5
  have h6 : z = k := by
    have h7 : (Jvm.Cond.eq (.field t C n d) (.int k)).value args Z none Z [] = some (decide (z = k)) := by simp only [Cond.value, h1, Term.int_eval]
    exact gotT h7 q
  exact h6 ▸ Fld.start h4
theorem own_fldN {Z : State} {args : Array Value} {t : Term} {C n d : String} {a : Addr} (ev : t.eval args Z none [] Z = some (.ref a)) (q : (Jvm.Cond.eq (.field t C n d) .null).value args Z none Z [] = some true) : Fld Z Z.heap a C n d .null := Fld.start ((fld_at ev).symm.trans (null_v q))
theorem own_stk {Z : State} {h h' : Heap} {C n d : String} {v : Value} (F : Sta Z h C n d v) (K : Keep h h' []) : Sta Z h' C n d v := by
  obtain ⟨cf, i, k, f, st, cell, h1, h2, h3, h4, h5, r⟩ := F
  exact ⟨cf, i, k, f, st, cell, h1, h2, h3, h4, K.2.1 _ _ h5 (fun q => nomatch q), r⟩
def own_Pl (h : Heap) (ws : List Addr) : Prop := ∀ a ∈ ws, ∀ c : Cell, h[a]? = some c → c.vm.isStatics = false
theorem own_pl0 {h : Heap} : own_Pl h [] := fun _ q => nomatch q
theorem own_plE {Z : State} {h : Heap} {a : Addr} {C : String} {ws : List Addr} (E : Exa Z h a C) (q : own_Pl h ws) : own_Pl h (a :: ws) := fun x hx c hc => by
  rcases List.mem_cons.mp hx with rfl | hx
  · obtain ⟨c', k, h1, -, -, h4, -⟩ := E
    cases h1.symm.trans hc; exact h4
  · exact q x hx c hc
theorem own_plA {Z : State} {h : Heap} {a : Addr} {ty : FieldType} {vs : List Value} {ws : List Addr} (E : Av Z h a ty vs) (q : own_Pl h ws) : own_Pl h (a :: ws) := fun x hx c hc => by
  rcases List.mem_cons.mp hx with rfl | hx
  · obtain ⟨c', A, -⟩ := E
    cases A.1.symm.trans hc; exact A.plain
  · exact q x hx c hc
theorem own_stkw {Z : State} {h h' : Heap} {C n d : String} {v : Value} {ws : List Addr} (F : Sta Z h C n d v) (K : Keep h h' ws) (q : own_Pl h ws) : Sta Z h' C n d v := by
  obtain ⟨cf, i, k, f, st, cell, h1, h2, h3, h4, h5, h6, r⟩ := F
  exact ⟨cf, i, k, f, st, cell, h1, h2, h3, h4, K.2.1 _ _ h5 (fun z => by rw [q _ z _ h5] at h6; cases h6), h6, r⟩
theorem own_neAv {Z : State} {h : Heap} {a b : Addr} {C : String} {ty : FieldType} {vs : List Value} {a0 : Array Value} {k : Nat} (F : Exa Z h a C) (wi : (Jvm.Cond.instantiable C k).before a0 Z = true) (G : Av Z h b ty vs) : a ≠ b := by
  obtain ⟨c, A, -⟩ := G
  exact ne_arr F wi A
/-- an array of references over C, its contents known -/
def AvR (Z : State) (h : Heap) (a : Addr) (C : String) (vs : List Value) : Prop := ∃ c : Cell, Arr Z h a c (.object C) ∧ c.slots.toList = vs ∧ Ovr Z c.cls C
theorem AvR.av {Z : State} {h : Heap} {a : Addr} {C : String} {vs : List Value} (A : AvR Z h a C vs) : Av Z h a (.object C) vs := by obtain ⟨c, q, r, -⟩ := A; exact ⟨c, q, r⟩
theorem own_AvR_ext {Z : State} {h h' : Heap} {a : Addr} {C : String} {vs : List Value} (A : AvR Z h a C vs) (E : Ext h h') : AvR Z h' a C vs := by obtain ⟨c, q, r⟩ := A; exact ⟨c, q.ext E, r⟩
theorem own_AvR_other {Z : State} {h h' : Heap} {a b : Addr} {C : String} {vs : List Value} {sl : Nat} {v : Value} (A : AvR Z h b C vs) (W : Wr h h' a sl v) (q : b ≠ a) : AvR Z h' b C vs := by obtain ⟨c, q1, r⟩ := A; exact ⟨c, q1.other W q, r⟩
theorem own_AvR_keep {Z : State} {h h' : Heap} {a : Addr} {C : String} {vs : List Value} {ws : List Addr} (A : AvR Z h a C vs) (K : Keep h h' ws) (q : a ∉ ws) : AvR Z h' a C vs := by obtain ⟨c, q1, r⟩ := A; exact ⟨c, ⟨K.2.1 a c q1.1 q, q1.2⟩, r⟩
theorem AvR.set {Z : State} {h h' : Heap} {a : Addr} {C : String} {vs : List Value} {i : Nat} {v : Value} (A : AvR Z h a C vs) (W : Wr h h' a i v) : AvR Z h' a C (vs.set i v) := by
  obtain ⟨c, q, rfl, r⟩ := A
  exact ⟨_, q.same W, by simp [Cell.setSlot], r⟩
theorem own_fldR {Z : State} {args : Array Value} {t u : Term} {C n d : String} {a b : Addr} (ev : t.eval args Z none [] Z = some (.ref a)) (ew : u.eval args Z none [] Z = some (.ref b)) (q : (Jvm.Cond.eq (.field t C n d) u).value args Z none Z [] = some true) : Fld Z Z.heap a C n d (.ref b) := by
  obtain ⟨x, y, h1, h2, h3, -⟩ := cmp_v (Or.inl q)
  cases ew.symm.trans h2
  have h4 : Z.fieldOf? a C n d = some x := (fld_at ev).symm.trans h1
  have h5 : x.isRef = true := by cases x <;> simp [Kin, Value.isRef] at h3 ⊢
  have h6 : x = .ref b := gotT (eq_R h1 ew h5 rfl) q
  exact h6 ▸ Fld.start h4
section OwnKit2
variable {p : Program} {l : Launch} {e : Env} {R : Room} {s : State} {m : MethodId} {args : Array Value} {below : List Frame} {meth : Method} {c : Code} {T : State} {locs : List Loc} {cells slots : Nat} {Z : State} {a0 : Array Value} {h : Heap} {P : State → Outcome → Prop} {pc : Nat} {Ls : Array Slot} {st rest : List Value} {own nm : String} {bytes : ByteArray} {maxL : Nat} {ret : Option FieldType}
theorem g_newR (X : Stand p l e R s m args below meth c T locs cells slots) (B : Bo Z p s m meth c own nm bytes maxL ret) {C : String} {index : Nat} {n : Int32} (vs : List Value) (q : decode bytes pc = .ok (.anewarray index, 3)) (pc' : Nat) (hp : pc + 3 = pc') (w1 : (Jvm.Cond.classLink own index C).before a0 Z = true) (w2 : (Jvm.Cond.arrayOver (.object C)).before a0 Z = true) (eT : T.heap = h) (hn : ¬ n < 0) (hvs : List.replicate n.toNatClampNeg (Value.null) = vs) (hb : vs.length * 8 ≤ 536870912) (hc : cells + 1 ≤ R.cells) (hl : slots + vs.length ≤ R.slots) (k : ∀ T' h' a, Stand p l e R s m args below meth c T' locs (cells + 1) (slots + vs.length) → T'.heap = h' → a = h.size → Ext h h' → AvR Z h' a C vs → Go p e below P (T'.setTop (mkF m pc' Ls (.ref a :: st)))) : Go p e below P (T.setTop (mkF m pc Ls (.int n :: st))) := by
  subst hp
  obtain ⟨T', h', cA, X', e', E', A', O', q'⟩ := newR X B.x B.z B.o w1 w2 eT (g := mkF m pc Ls (.int n :: st)) rfl (B.d q) rfl hn (cap := vs.length) (by rw [← hvs]; simp) hb hc hl
  exact (k T' h' _ X' e' rfl E' ⟨_, A', by rw [← hvs]; simp [newA, defaultValue], O'⟩).via q'
theorem g_aastore (X : Stand p l e R s m args below meth c T locs cells slots) (B : Bo Z p s m meth c own nm bytes maxL ret) {C : String} {a y : Addr} {j : Int32} {vs : List Value} (i : Nat) (q : decode bytes pc = .ok (.aastore, 1)) (pc' : Nat) (hp : pc + 1 = pc') (eT : T.heap = h) (A : AvR Z h a C vs) (I : Ins Z h y C true) (hi : j.toNatClampNeg = i) (h0 : ¬ j < 0) (hl : i < vs.length) (k : ∀ T' h', Stand p l e R s m args below meth c T' (locs ++ [⟨a, i⟩]) cells slots → T'.heap = h' → Wr h h' a i (.ref y) → AvR Z h' a C (vs.set i (.ref y)) → Go p e below P (T'.setTop (mkF m pc' Ls st))) : Go p e below P (T.setTop (mkF m pc Ls (.ref y :: .int j :: .ref a :: st))) := by
  subst hp
  have A' := A
  obtain ⟨cl, Ar, hv, O⟩ := A'
  obtain ⟨T', h', X', e', W', q'⟩ := stR X B.x B.z eT Ar (Av.inb (Z := Z) (h := h) (a := a) (ty := .object C) hv hi h0 hl) rfl (Sto.of Ar O I) (g := mkF m pc Ls (.ref y :: .int j :: .ref a :: st)) rfl rfl (B.d q)
  subst hi
  exact (k T' h' X' e' W' (A.set W')).via q'
end OwnKit2

/-! own: numbers of the String bodies -/
theorem own_ti {n : Nat} (h : n < 2147483648) : (Int32.ofNat n).toInt = n := Int32.toInt_ofNat_of_lt h
theorem own_tn {n : Nat} (h : n < 2147483648) : (Int32.ofNat n).toNatClampNeg = n := by
  rw [Int32.toNatClampNeg, own_ti h]; rfl
theorem own_nn {n : Nat} (h : n < 2147483648) : ¬ Int32.ofNat n < 0 := by
  rw [Int32.lt_iff_toInt_lt, own_ti h]; show ¬ (n : Int) < 0; omega
theorem own_lt {i n : Nat} (hi : i < 2147483648) (hn : n < 2147483648) : (Int32.ofNat i < Int32.ofNat n) ↔ i < n := by
  rw [Int32.lt_iff_toInt_lt, own_ti hi, own_ti hn]; omega
theorem own_s1 {i : Nat} (h : i + 1 < 2147483648) : Int32.ofNat i + 1 = Int32.ofNat (i + 1) := by
  apply Int32.toInt_inj.mp
  have h1 := c_iadd (Int32.ofNat i) 1
  have h2 := rng32 (Int32.ofNat i + 1)
  have h3 : (1 : Int32).toInt = 1 := by decide
  rw [own_ti (by omega)] at h1
  rw [own_ti h]
  omega
theorem own_shl1 {n : Nat} (h : n < 1073741824) : Int32.ofNat n <<< ((1 : Int32) &&& 31) = Int32.ofNat (2 * n) := by
  apply Int32.toInt_inj.mp
  have h1 := c_ishl (Int32.ofNat n) 1 1 (by decide)
  have h2 := rng32 (Int32.ofNat n <<< ((1 : Int32) &&& 31))
  rw [own_ti (by omega)] at h1
  rw [own_ti (by omega)]
  omega
theorem own_shr1 {n : Nat} (h : n < 2147483648) : Int32.ofNat n >>> ((1 : Int32) &&& 31) = Int32.ofNat (n / 2) := by
  apply Int32.toInt_inj.mp
  have h1 := c_ishr (Int32.ofNat n) 1 1 (by decide)
  rw [own_ti h] at h1
  rw [own_ti (by omega), h1]
  omega
theorem own_shr0 (x : Int32) : x >>> ((0 : Int32) &&& 31) = x := by
  apply Int32.toInt_inj.mp
  have h1 := c_ishr x 0 0 (by decide)
  simpa using h1
def own_ch (c : Int32) : Prop := 0 ≤ c.toInt ∧ c.toInt < 65536
def own_lo (c : Int32) : Int32 := c.toInt8.toInt32
def own_hi (c : Int32) : Int32 := (c >>> ((8 : Int32) &&& 31)).toInt8.toInt32
theorem own_nb (x : Int32) : nar .byte (x.toInt8.toInt32) = x.toInt8.toInt32 := by
  have h := XT.narrow_b x
  simpa [narrow, nar] using h
theorem own_get {c : Int32} (h : own_ch c) : ((((own_lo c) &&& (255 : Int32)) <<< ((0 : Int32) &&& 31)) ||| (((own_hi c) &&& (255 : Int32)) <<< ((8 : Int32) &&& 31))).toUInt32.toUInt16.toUInt32.toInt32 = c := by
  obtain ⟨h0, h1⟩ := h
  have a1 := c_i2b c
  have a2 := c_ishr c 8 8 (by decide)
  have a3 := c_i2b (c >>> ((8 : Int32) &&& 31))
  have a4 := c_mask (own_lo c) 255 8 (by decide) (by decide)
  have a5 := c_mask (own_hi c) 255 8 (by decide) (by decide)
  have a6 := c_ishl (own_lo c &&& 255) 0 0 (by decide)
  have a7 := c_ishl (own_hi c &&& 255) 8 8 (by decide)
  have r6 := rng32 ((own_lo c &&& 255) <<< ((0 : Int32) &&& 31))
  have r7 := rng32 ((own_hi c &&& 255) <<< ((8 : Int32) &&& 31))
  unfold own_lo at a4
  unfold own_hi at a5
  have b4 : (own_lo c &&& 255).toInt = c.toInt % 256 := by unfold own_lo; omega
  have b5 : (own_hi c &&& 255).toInt = c.toInt / 256 := by unfold own_hi; omega
  have b6 : ((own_lo c &&& 255) <<< ((0 : Int32) &&& 31)).toInt = c.toInt % 256 := by omega
  have b7 : ((own_hi c &&& 255) <<< ((8 : Int32) &&& 31)).toInt = c.toInt / 256 * 256 := by omega
  have a8 := c_or' ((own_lo c &&& 255) <<< ((0 : Int32) &&& 31)) ((own_hi c &&& 255) <<< ((8 : Int32) &&& 31)) 8 (by decide) 256 (by decide) (by omega) (by omega) (by omega)
  have r8 := rng32 (((own_lo c &&& 255) <<< ((0 : Int32) &&& 31)) ||| ((own_hi c &&& 255) <<< ((8 : Int32) &&& 31)))
  have b8 : (((own_lo c &&& 255) <<< ((0 : Int32) &&& 31)) ||| ((own_hi c &&& 255) <<< ((8 : Int32) &&& 31))).toInt = c.toInt := by omega
  have a9 := c_i2c (((own_lo c &&& 255) <<< ((0 : Int32) &&& 31)) ||| ((own_hi c &&& 255) <<< ((8 : Int32) &&& 31)))
  apply Int32.toInt_inj.mp
  omega
theorem own_chc (x : Int32) : own_ch x.toUInt32.toUInt16.toUInt32.toInt32 := by have h := c_i2c x; exact ⟨h.2.1, h.2.2⟩
theorem own_nc {c : Int32} (h : own_ch c) : nar .char c = c := by
  have h1 : nar .char c = c.toUInt32.toUInt16.toUInt32.toInt32 := rfl
  have h2 := c_i2c c
  rw [h1]
  apply Int32.toInt_inj.mp
  obtain ⟨h3, h4⟩ := h
  omega
/-- the bytes of a UTF-16 String, up to the i-th sign -/
def own_Up (vs : List Value) (cs : List Int32) (i : Nat) : Prop := vs.length = 2 * cs.length ∧ ∀ j c, j < i → cs[j]? = some c → vs[2 * j]? = some (.int (own_lo c)) ∧ vs[2 * j + 1]? = some (.int (own_hi c))
def own_U (vs : List Value) (cs : List Int32) : Prop := own_Up vs cs cs.length
/-- the bytes of a Latin-1 String, up to the i-th sign -/
def own_Lp (vs : List Value) (cs : List Int32) (i : Nat) : Prop := vs.length = cs.length ∧ ∀ j c, j < i → cs[j]? = some c → vs[j]? = some (.int (own_lo c)) ∧ ¬ 255 < c
def own_L (vs : List Value) (cs : List Int32) : Prop := own_Lp vs cs cs.length
theorem own_Up0 {cs : List Int32} {n : Nat} (h : n = 2 * cs.length) : own_Up (List.replicate n (.int 0)) cs 0 := ⟨by simp [h], fun j c q => absurd q (Nat.not_lt_zero _)⟩
theorem own_Ups {vs : List Value} {cs : List Int32} {i : Nat} {c : Int32} (h : own_Up vs cs i) (hc : cs[i]? = some c) : own_Up ((vs.set (2 * i) (.int (own_lo c))).set (2 * i + 1) (.int (own_hi c))) cs (i + 1) := by
  obtain ⟨h1, h2⟩ := h
  have hi : i < cs.length := (List.getElem?_eq_some_iff.mp hc).1
  refine ⟨by simp [h1], fun j d hj hd => ?_⟩
  by_cases e : j = i
  · subst e
    cases hc.symm.trans hd
    refine ⟨?_, ?_⟩
    · rw [List.getElem?_set_ne (by omega), List.getElem?_set_self (by omega)]
    · rw [List.getElem?_set_self (by simp; omega)]
  · have q := h2 j d (by omega) hd
    refine ⟨?_, ?_⟩
    · rw [List.getElem?_set_ne (by omega), List.getElem?_set_ne (by omega)]; exact q.1
    · rw [List.getElem?_set_ne (by omega), List.getElem?_set_ne (by omega)]; exact q.2
theorem own_Lp0 {cs : List Int32} {n : Nat} (h : n = cs.length) : own_Lp (List.replicate n (.int 0)) cs 0 := ⟨by simp [h], fun j c q => absurd q (Nat.not_lt_zero _)⟩
theorem own_Lps {vs : List Value} {cs : List Int32} {i : Nat} {c : Int32} (h : own_Lp vs cs i) (hc : cs[i]? = some c) (hl : ¬ 255 < c) : own_Lp (vs.set i (.int (own_lo c))) cs (i + 1) := by
  obtain ⟨h1, h2⟩ := h
  have hi : i < cs.length := (List.getElem?_eq_some_iff.mp hc).1
  refine ⟨by simp [h1], fun j d hj hd => ?_⟩
  by_cases e : j = i
  · subst e
    cases hc.symm.trans hd
    exact ⟨by rw [List.getElem?_set_self (by omega)], hl⟩
  · have q := h2 j d (by omega) hd
    exact ⟨by rw [List.getElem?_set_ne (by omega)]; exact q.1, q.2⟩
theorem own_mapat {cs : List Int32} {i : Nat} {c : Int32} (h : cs[i]? = some c) : (cs.map Value.int)[i]? = some (.int c) := by simp [h]
theorem own_ex {cs : List Int32} {i : Nat} (h : i < cs.length) : ∃ c, cs[i]? = some c := ⟨cs[i], List.getElem?_eq_getElem h⟩

/-! own: the wide kit: bodies that may load String constants -/
def EndsW (s : State) (Q : Option Value → Heap → Vm → List Loc → Prop) (cc ss : Nat) : State → Outcome → Prop := fun t o => ∃ v L, o = .returned v ∧ Q v t.heap t.vm L ∧ ReturnedEndW s o t L cc ss
def CtrW (l : Launch) (Z : State) (y : MethodName) (bytes : ByteArray) (maxL : Nat) (ret : Option FieldType) (rm : Room) (as : Array Value) (h0 : Heap) (Ts : List String) (Q : Option Value → Heap → Vm → List Loc → Prop) : Prop :=
  ∀ ws, MetFree l y (head1 (Jvm.Cond.code y bytes maxL ret :: ws) rm) (fun a U => a = as ∧ Z.Warmed39 U.vm ∧ U.heap = h0 ∧ IB Z U.vm Ts) (fun _ _ _ _ _ => True) (fun _ U o U' => ∃ v L, o = .returned v ∧ Q v U'.heap U'.vm L ∧ ReturnedEndW U o U' L rm.cells rm.slots)
section OwnWide
variable {p : Program} {l : Launch} {e : Env} {R : Room} {s : State} {m : MethodId} {args : Array Value} {below : List Frame} {meth : Method} {c : Code} {T : State} {locs : List Loc} {cells slots : Nat} {Z : State} {a0 : Array Value} {h : Heap} {P : State → Outcome → Prop} {pc : Nat} {Ls : Array Slot} {st rest : List Value} {own nm : String} {bytes : ByteArray} {maxL : Nat} {ret : Option FieldType} {vm0 : Vm} {k0 : Nat} {Ts : List String}
theorem Bo.re {vm1 : Vm} (B : Bo Z p s m meth c own nm bytes maxL ret) (hW : s.Warmed39 vm1) : Bo Z p (s.setVm vm1) m meth c own nm bytes maxL ret :=
  ⟨B.1, B.2.1, B.2.2.1, State.Warmed39.trans (t := s) B.z hW, (by show vm1.findClass own = _; rw [hW.alike.findClass]; exact B.o), B.n, B.r, B.lk⟩
theorem CtrW.of {y : MethodName} {rm : Room} {as : Array Value} {h0 : Heap} {Q : Option Value → Heap → Vm → List Loc → Prop} (hn : plainFor y = true)
    (body : ∀ (p : Program) (e : Env) (s : State) (m : MethodId) (below : List Frame) (meth : Method) (c : Code) (T : State), Stand p l e rm (s.setVm s.vm) m as below meth c T [] 0 0 → Bo Z p (s.setVm s.vm) m meth c y.cls y.name bytes maxL ret → T.heap = h0 → s.heap = h0 → s.Since s.vm 0 → IB Z s.vm Ts → Go p e below (EndsW s Q rm.cells rm.slots) (T.setTop (entryFrame m as maxL))) :
    CtrW l Z y bytes maxL ret rm as h0 Ts Q := by
  intro ws
  refine MetFree.of_bodySF hn hisR ?_
  intro p e s m args below meth c s₁ Bd hml0 hP hK
  obtain ⟨rfl, hZ, hh, hI⟩ := hP
  exact body p e s m below meth c s₁ (Stand.of_body Bd) ⟨Bd.exec, Bd.bytes, hml0, hZ, findClass_of_methodNamed Bd.named, (name_of_methodNamed Bd.named Bd.method).1, Bd.returns, BodyLoose.notSynchronized Bd⟩ (by rw [← hh, Bd.state]; rfl) hh ((State.WarmedH.refl s).since 0) hI
theorem CtrW.back {y : MethodName} {rm : Room} {as : Array Value} {Q : Option Value → Heap → Vm → List Loc → Prop} {W len : Nat} (C : CtrW l Z y bytes maxL ret rm as h Ts Q) (hZ : Z.Warmed39 s.vm) (I : IB Z s.vm Ts) (wc : (Jvm.Cond.code y bytes maxL ret).before a0 Z = true) (wz : (Jvm.Cond.initialized y.cls).before a0 Z = true) (hf : rm.frames + 1 ≤ R.frames) (hl : W + (maxL + 11) + rm.locals ≤ R.locals) :
    BackS l R p e below s args y len W (fun A a => a = as ∧ A.U.heap = h ∧ A.cells + rm.cells ≤ R.cells ∧ A.slots + rm.slots ≤ R.slots)
      (fun A _ v B => ∃ L, Q v B.U.heap B.U.vm L ∧ B.locs = A.locs ++ L ∧ B.cells = A.cells + rm.cells ∧ B.slots = A.slots + rm.slots) :=
  BackS.of_freeW (bytes := bytes) (maxL := maxL) (ret := ret) (E := fun _ _ o t L k n => k = rm.cells ∧ n = rm.slots ∧ ∃ v, o = .returned v ∧ Q v t.heap t.vm L) (C []) hf hl
    (fun m meth c A a Y hp => have hU : Z.Warmed39 A.U.vm := wtrans hZ Y.warmed
      ⟨by show (Cond.and _ .tt).before a A.U = true; rw [Cond.before_and, mv hU wc]; rfl, mv hU wc, mv hU wz, hp.2.2.1, hp.2.2.2⟩)
    (fun m meth c A a g mk Y hp => ⟨hp.1, wtrans hZ Y.warmed, hp.2.1, by
      have q : (A.U.calling g mk a).vm.interned = s.vm.interned := Y.warmed.interned_eq
      obtain ⟨more, e1, e2⟩ := I
      exact ⟨more, q.trans e1, e2⟩⟩) (fun _ _ _ _ _ _ _ _ _ => trivial)
    (fun _ _ _ _ ⟨v, L, h1, h2, h3⟩ => ⟨L, _, _, h3, rfl, rfl, v, h1, h2⟩)
    (fun m meth c A a g mk v t L k n Y hp _ _ ⟨e1, e2, v', e3, e4⟩ => by cases e3; subst e1 e2; exact ⟨L, e4, rfl, rfl, rfl⟩)
theorem own_Arv_Av {a : Addr} {k : ClassId} {ty : FieldType} {z : Int32} {vs : List Value} {d : Value} (A : Arv Z h a k ty z vs d) (hl : z.toNatClampNeg = vs.length) : Av Z h a ty vs := by
  obtain ⟨c, A1, -, A3, -, A5, -⟩ := A
  refine ⟨c, A1, List.ext_getElem? fun i => ?_⟩
  rw [Array.getElem?_toList]
  by_cases q : i < c.slots.size
  · rw [A5 i q, List.getD, List.getElem?_eq_getElem (by omega)]; rfl
  · rw [Array.getElem?_eq_none (by omega), List.getElem?_eq_none (by omega)]
theorem g_ldcS (X : Stand p l e R (s.setVm vm0) m args below meth c T locs cells slots) (B : Bo Z p (s.setVm vm0) m meth c own nm bytes maxL ret) {index : Nat} (text : String) (vs : List Value) (z : Int32) (n : Nat) (q : decode bytes pc = .ok (.ldc index, 2)) (pc' : Nat) (hp : pc + 2 = pc') (w : (Jvm.Cond.stringLink own index text).before a0 Z = true) (wS : ∀ a ∈ Bundle.stringAtoms, a.before a0 Z = true)
    (eT : T.heap = h) (hS : s.Since vm0 k0) (hk : k0 ≤ h.size) (N : Fr s.heap.size locs) (hkeep : ∀ (b : Addr) (cl : Cell), Z.heap[b]? = some cl → s.heap[b]? = some cl) (I : IB Z vm0 Ts) (hnot : text ∉ Ts) (hh : Jvm.Lit.constHeld Z own index) (hcw : Jvm.Lit.compactW.before a0 Z = true)
    (ht : (∀ c ∈ text.toList, c.toNat < 256) ∧ text.toList.map (fun c => Value.int (Jvm.Lit.byteI c.toNat.toUInt16)) = vs) (hz : ¬ z < 0) (hl : z.toNatClampNeg = vs.length) (hn : 4 * text.toList.length ≤ n) (hbig : n ≤ 536870912) (hc : cells + 2 ≤ R.cells) (hl' : slots + (n + 4) ≤ R.slots)
    (k : ∀ a T' h' b, Stand p l e R (s.setVm T'.vm) m args below meth c T' locs (cells + 2) (slots + (n + 4)) → Bo Z p (s.setVm T'.vm) m meth c own nm bytes maxL ret → T'.heap = h' → Ext h h' → s.Since T'.vm h'.size → IB Z T'.vm (text :: Ts) → Lit (s.setVm T'.vm) own index a → Exa Z h' a "java/lang/String" → Fld Z h' a "java/lang/String" "coder" "B" (.int 0) → Fld Z h' a "java/lang/String" "value" "[B" (.ref b) → Av Z h' b .byte vs →
      Go p e below P (T'.setTop (mkF m pc' Ls (.ref a :: st)))) : Go p e below P (T.setTop (mkF m pc Ls st)) := by
  subst hp
  obtain ⟨a, T', h', k1, b, kb, r1, r2, r3, r4, r5, r6, r7, r8, r9, r10, r11, r12, r13, r14, r15, r16⟩ := ldcSVL X B.x B.z B.o w wS eT hS hk N hkeep I hnot hh hcw ht hz hl (g := mkF m pc Ls st) rfl (B.d q) hn hbig hc hl'
  exact (k a T' h' b r1 ⟨B.1, B.2.1, B.2.2.1, r6, r7, B.n, B.r, B.lk⟩ r2 r3 ⟨r4.1, r4.2.mono r5⟩ r14 r15 r8 r9 r10 (own_Arv_Av r11 hl)).via r16
theorem g_ldcAgain (X : Stand p l e R (s.setVm vm0) m args below meth c T locs cells slots) (B : Bo Z p (s.setVm vm0) m meth c own nm bytes maxL ret) {index : Nat} {text : String} {a : Addr} (q : decode bytes pc = .ok (.ldc index, 2)) (pc' : Nat) (hp : pc + 2 = pc') (w : (Jvm.Cond.stringLink own index text).before a0 Z = true) (L : Lit (s.setVm vm0) own index a) (k : Go p e below P (T.setTop (mkF m pc' Ls (.ref a :: st)))) : Go p e below P (T.setTop (mkF m pc Ls st)) := by
  subst hp
  exact k.via (ldcAgain X B.x B.z B.o w L (g := mkF m pc Ls st) rfl (B.d q))
theorem g_callNW (X : Stand p l e R (s.setVm vm0) m args below meth c T locs cells slots) (B : Bo Z p (s.setVm vm0) m meth c own nm bytes maxL ret) (hS : s.Since vm0 k0) (hk : k0 ≤ h.size) (I : IB Z vm0 Ts) {y : MethodName} {by' : ByteArray} {mx : Nat} {rm : Room} {Q : Option Value → Heap → Vm → List Loc → Prop} {index : Nat} {a : Addr} (argsL rest : List Value) (q : decode bytes pc = .ok (.invokespecial index, 3)) (pc' : Nat) (hp : pc + 3 = pc') (hst : st = argsL.reverse ++ .ref a :: rest) (hn : y.name = "<init>") (w1 : (Jvm.Cond.methodLink own index y).before a0 Z = true) (w2 : (Jvm.Cond.instanceMethod y).before a0 Z = true) (w3 : (Jvm.Cond.code y by' mx none).before a0 Z = true) (w4 : (Jvm.Cond.initialized y.cls).before a0 Z = true) (hy : y.cls ≠ "java/lang/invoke/MethodHandle" ∧ y.cls ≠ "java/lang/invoke/VarHandle") (hlen : ∀ sig, parseMethodDescriptor y.desc = some sig → argsL.length = sig.parameters.length) (C : CtrW l Z y by' mx none rm (.ref a :: argsL).toArray h Ts Q) (eT : T.heap = h) (hm : Ls.size = maxL) (W : Nat) (hW : (rest.map fun v => v.category).sum ≤ W) (hf : rm.frames + 1 ≤ R.frames) (hl : W + (mx + 11) + rm.locals ≤ R.locals) (hc : cells + rm.cells ≤ R.cells) (hs : slots + rm.slots ≤ R.slots) (k : ∀ v T' h' L', Stand p l e R (s.setVm T'.vm) m args below meth c T' (locs ++ L') (cells + rm.cells) (slots + rm.slots) → Bo Z p (s.setVm T'.vm) m meth c own nm bytes maxL ret → T'.heap = h' → s.Since T'.vm h'.size → Q v h' T'.vm L' → Go p e below P (T'.setTop (mkF m pc' Ls (v.toList ++ rest)))) : Go p e below P (T.setTop (mkF m pc Ls st)) := by
  subst hp hst
  obtain ⟨v, _, ⟨T', L', k', n'⟩, -, X', hS', hgr, ⟨Lc, hQ, l1, l2, l3⟩, q'⟩ := X.specialBackS B.x (y := y) hn B.o (mvT B.z w1) (mvT B.z w2) (mvT B.z w3) hy (C.back (W := W) B.z I w3 w4 hf hl) (g := mkF m pc Ls (argsL.reverse ++ .ref a :: rest)) rfl (B.mx hm) (Steps.refl _) (a := a) (argsL := argsL) (rest := rest) hlen rfl (by show 2 * 0 + _ ≤ _; omega) (B.d q) (fun _ _ => ⟨rfl, eT, hc, hs⟩)
  dsimp only [Pt.U, Pt.locs, Pt.cells, Pt.slots] at X' l1 l2 l3 q' hQ hS' hgr
  subst l1 l2 l3
  subst eT
  exact (k v T' _ Lc X' (Bo.re (s := s.setVm vm0) B hS'.1) rfl (hS.trans hS' (Nat.le_trans hk hgr)) hQ).via fun _ => q'.trans
theorem g_callSW (X : Stand p l e R (s.setVm vm0) m args below meth c T locs cells slots) (B : Bo Z p (s.setVm vm0) m meth c own nm bytes maxL ret) (hS : s.Since vm0 k0) (hk : k0 ≤ h.size) (I : IB Z vm0 Ts) {y : MethodName} {by' : ByteArray} {mx : Nat} {rt : Option FieldType} {rm : Room} {Q : Option Value → Heap → Vm → List Loc → Prop} {index : Nat} (argsL rest : List Value) (q : decode bytes pc = .ok (.invokestatic index, 3)) (pc' : Nat) (hp : pc + 3 = pc') (hst : st = argsL.reverse ++ rest) (w1 : (Jvm.Cond.methodLink own index y).before a0 Z = true) (w2 : (Jvm.Cond.static y).before a0 Z = true) (w3 : (Jvm.Cond.initialized y.cls).before a0 Z = true) (w4 : (Jvm.Cond.code y by' mx rt).before a0 Z = true) (hy : y.cls ≠ "java/lang/invoke/MethodHandle" ∧ y.cls ≠ "java/lang/invoke/VarHandle") (hlen : ∀ sig, parseMethodDescriptor y.desc = some sig → argsL.length = sig.parameters.length) (C : CtrW l Z y by' mx rt rm argsL.toArray h Ts Q) (eT : T.heap = h) (hm : Ls.size = maxL) (W : Nat) (hW : (rest.map fun v => v.category).sum ≤ W) (hf : rm.frames + 1 ≤ R.frames) (hl : W + (mx + 11) + rm.locals ≤ R.locals) (hc : cells + rm.cells ≤ R.cells) (hs : slots + rm.slots ≤ R.slots) (k : ∀ v T' h' L', Stand p l e R (s.setVm T'.vm) m args below meth c T' (locs ++ L') (cells + rm.cells) (slots + rm.slots) → Bo Z p (s.setVm T'.vm) m meth c own nm bytes maxL ret → T'.heap = h' → s.Since T'.vm h'.size → Q v h' T'.vm L' → Go p e below P (T'.setTop (mkF m pc' Ls (v.toList ++ rest)))) : Go p e below P (T.setTop (mkF m pc Ls st)) := by
  subst hp hst
  obtain ⟨v, _, ⟨T', L', k', n'⟩, -, X', hS', hgr, ⟨Lc, hQ, l1, l2, l3⟩, q'⟩ := callSS X B.x (y := y) B.o (mvT B.z w1) (mvT B.z w2) (mvT B.z w3) (mvT B.z w4) hy (C.back (W := W) B.z I w4 w3 hf hl) (g := mkF m pc Ls (argsL.reverse ++ rest)) rfl (B.mx hm) (argsL := argsL) (rest := rest) hlen rfl (by show 2 * 0 + _ ≤ _; omega) (B.d q) (fun _ _ => ⟨rfl, eT, hc, hs⟩)
  dsimp only [Pt.U, Pt.locs, Pt.cells, Pt.slots] at X' l1 l2 l3 q' hQ hS' hgr
  subst l1 l2 l3
  subst eT
  exact (k v T' _ Lc X' (Bo.re (s := s.setVm vm0) B hS'.1) rfl (hS.trans hS' (Nat.le_trans hk hgr)) hQ).via fun _ => q'.trans
theorem g_callVW (X : Stand p l e R (s.setVm vm0) m args below meth c T locs cells slots) (B : Bo Z p (s.setVm vm0) m meth c own nm bytes maxL ret) (hS : s.Since vm0 k0) (hk : k0 ≤ h.size) (I : IB Z vm0 Ts) {y : MethodName} {by' : ByteArray} {mx : Nat} {rt : Option FieldType} {rm : Room} {Q : Option Value → Heap → Vm → List Loc → Prop} {index : Nat} {KC : String} {a : Addr} (argsL rest : List Value) (q : decode bytes pc = .ok (.invokevirtual index, 3)) (pc' : Nat) (hp : pc + 3 = pc') (hst : st = argsL.reverse ++ .ref a :: rest) (w1 : (Jvm.Cond.methodLink own index y).before a0 Z = true) (w2 : (Jvm.Cond.declares y).before a0 Z = true) (w3 : (Jvm.Cond.selects KC y y).before a0 Z = true) (w4 : (Jvm.Cond.instanceMethod y).before a0 Z = true) (w5 : (Jvm.Cond.initialized y.cls).before a0 Z = true) (w6 : (Jvm.Cond.code y by' mx rt).before a0 Z = true) (hy : y.cls ≠ "java/lang/invoke/MethodHandle" ∧ y.cls ≠ "java/lang/invoke/VarHandle") (hlen : ∀ sig, parseMethodDescriptor y.desc = some sig → argsL.length = sig.parameters.length) (E : Exa Z h a KC) (C : CtrW l Z y by' mx rt rm (.ref a :: argsL).toArray h Ts Q) (eT : T.heap = h) (hm : Ls.size = maxL) (W : Nat) (hW : (rest.map fun v => v.category).sum ≤ W) (hf : rm.frames + 1 ≤ R.frames) (hl : W + (mx + 11) + rm.locals ≤ R.locals) (hc : cells + rm.cells ≤ R.cells) (hs : slots + rm.slots ≤ R.slots) (k : ∀ v T' h' L', Stand p l e R (s.setVm T'.vm) m args below meth c T' (locs ++ L') (cells + rm.cells) (slots + rm.slots) → Bo Z p (s.setVm T'.vm) m meth c own nm bytes maxL ret → T'.heap = h' → s.Since T'.vm h'.size → Q v h' T'.vm L' → Go p e below P (T'.setTop (mkF m pc' Ls (v.toList ++ rest)))) : Go p e below P (T.setTop (mkF m pc Ls st)) := by
  subst hp hst
  obtain ⟨cq, kq, qa, qb, qc⟩ := isOf B.z eT E
  obtain ⟨v, _, ⟨T', L', k', n'⟩, -, X', hS', hgr, ⟨Lc, hQ, l1, l2, l3⟩, q'⟩ := X.virtualBackS B.x (y := y) (z := y) B.o (mvT B.z w1) (mvT B.z w2) (notFace_of_selects (args := #[]) (mvT B.z w3)) (mvT B.z w3) (mvT B.z w4) hy (C.back (W := W) B.z I w6 w5 hf hl) qa qc (g := mkF m pc Ls (argsL.reverse ++ .ref a :: rest)) rfl (B.mx hm) (Steps.refl _) (argsL := argsL) (rest := rest) hlen rfl (by show 2 * 0 + _ ≤ _; omega) (B.d q) (fun _ _ => ⟨rfl, eT, hc, hs⟩)
  dsimp only [Pt.U, Pt.locs, Pt.cells, Pt.slots] at X' l1 l2 l3 q' hQ hS' hgr
  subst l1 l2 l3
  subst eT
  exact (k v T' _ Lc X' (Bo.re (s := s.setVm vm0) B hS'.1) rfl (hS.trans hS' (Nat.le_trans hk hgr)) hQ).via fun _ => q'.trans
theorem g_retOutW (X : Stand p l e R (s.setVm vm0) m args below meth c T locs cells slots) (B : Bo Z p (s.setVm vm0) m meth c own nm bytes maxL ret) {Q : Option Value → Heap → Vm → List Loc → Prop} {cc ss : Nat} {w : Value} {t : FieldType} {i : Instr} (q : decode bytes pc = .ok (i, 1)) (ht : ret = some t) (hn : narrow t w = w)
    (hi : (i = .ireturn ∧ (t = .int ∨ t = .boolean ∨ t = .byte ∨ t = .char ∨ t = .short) ∧ ∃ z, w = .int z) ∨ (i = .lreturn ∧ t = .long ∧ ∃ z, w = .long z) ∨ (i = .dreturn ∧ t = .double ∧ ∃ z, w = .double z) ∨ (i = .freturn ∧ t = .float ∧ ∃ z, w = .float z) ∨ (i = .areturn ∧ t.isReference = true ∧ w.isRef = true))
    (hc : cells ≤ cc) (hs : slots ≤ ss) (eT : T.heap = h) (hS : s.Since vm0 k0) (hk : k0 ≤ h.size) (hQ : ∀ vm, vm.interned = vm0.interned → Q (some w) h vm locs) : Go p e below (EndsW s Q cc ss) (T.setTop (mkF m pc Ls (w :: st))) := by
  have hl := B.lk
  subst eT
  obtain ⟨fs, hr, hrun, hended, h1, h2, h3, h4⟩ := X.leaveW hS hk (v := some w) (fun z => by rw [B.r, ht] at z; cases z) hl
  exact ⟨_, _, retOut X B.x (B.r.trans ht) hn hi (B.d q) hr, hrun, hended, _, _, rfl, hQ _ X.warmed.interned_eq, h1, h2, h3, h4.mono hc hs⟩
theorem g_retAW (X : Stand p l e R (s.setVm vm0) m args below meth c T locs cells slots) (B : Bo Z p (s.setVm vm0) m meth c own nm bytes maxL ret) {Q : Option Value → Heap → Vm → List Loc → Prop} {cc ss : Nat} {w : Value} {t : FieldType} (q : decode bytes pc = .ok (.areturn, 1)) (ht : ret = some t) (hr : t.isReference = true) (hw : w.isRef = true) (hc : cells ≤ cc) (hs : slots ≤ ss) (eT : T.heap = h) (hS : s.Since vm0 k0) (hk : k0 ≤ h.size) (hQ : ∀ vm, vm.interned = vm0.interned → Q (some w) h vm locs) : Go p e below (EndsW s Q cc ss) (T.setTop (mkF m pc Ls (w :: st))) :=
  g_retOutW X B q ht (by cases t <;> first | (cases hr; done) | (cases w <;> first | rfl | (cases hw; done))) (Or.inr (Or.inr (Or.inr (Or.inr ⟨rfl, hr, hw⟩)))) hc hs eT hS hk hQ
theorem g_retNW (X : Stand p l e R (s.setVm vm0) m args below meth c T locs cells slots) (B : Bo Z p (s.setVm vm0) m meth c own nm bytes maxL ret) {Q : Option Value → Heap → Vm → List Loc → Prop} {cc ss : Nat} {z : Int32} {t : FieldType} (q : decode bytes pc = .ok (.ireturn, 1)) (ht : ret = some t) (hn : narrow t (.int z) = .int z) (hk' : t = .int ∨ t = .boolean ∨ t = .byte ∨ t = .char ∨ t = .short) (hc : cells ≤ cc) (hs : slots ≤ ss) (eT : T.heap = h) (hS : s.Since vm0 k0) (hk : k0 ≤ h.size) (hQ : ∀ vm, vm.interned = vm0.interned → Q (some (.int z)) h vm locs) : Go p e below (EndsW s Q cc ss) (T.setTop (mkF m pc Ls (.int z :: st))) :=
  g_retOutW X B q ht hn (Or.inl ⟨rfl, hk', _, rfl⟩) hc hs eT hS hk hQ
theorem g_retVW (X : Stand p l e R (s.setVm vm0) m args below meth c T locs cells slots) (B : Bo Z p (s.setVm vm0) m meth c own nm bytes maxL ret) {Q : Option Value → Heap → Vm → List Loc → Prop} {cc ss : Nat} (q : decode bytes pc = .ok (.return_, 1)) (ht : ret = none) (hc : cells ≤ cc) (hs : slots ≤ ss) (eT : T.heap = h) (hS : s.Since vm0 k0) (hk : k0 ≤ h.size) (hQ : ∀ vm, vm.interned = vm0.interned → Q none h vm locs) : Go p e below (EndsW s Q cc ss) (T.setTop (mkF m pc Ls [])) := by
  have hl := B.lk
  subst eT
  obtain ⟨fs, hr, hrun, hended, h1, h2, h3, h4⟩ := X.leaveW hS hk (v := none) (fun _ => rfl) hl
  exact ⟨_, _, X.returnOut B.x (B.r.trans ht) (B.d q) hr, hrun, hended, _, _, rfl, hQ _ X.warmed.interned_eq, h1, h2, h3, h4.mono hc hs⟩
theorem own_IBeq {vm1 : Vm} (I : IB Z vm0 Ts) (q : vm1.interned = vm0.interned) : IB Z vm1 Ts := by
  obtain ⟨more, e1, e2⟩ := I
  exact ⟨more, q.trans e1, e2⟩
end OwnWide

theorem d22_0 : decode jdk_52_method_3_code 0 = .ok (.iload_n 0, 1) := by decide +kernel
theorem d22_1 : decode jdk_52_method_3_code 1 = .ok (.ifCond .ge 11, 3) := by decide +kernel
theorem d22_4 : decode jdk_52_method_3_code 4 = .ok (.new 17, 3) := by decide +kernel
theorem d22_7 : decode jdk_52_method_3_code 7 = .ok (.dup, 1) := by decide +kernel
theorem d22_8 : decode jdk_52_method_3_code 8 = .ok (.invokespecial 19, 3) := by decide +kernel
theorem d22_11 : decode jdk_52_method_3_code 11 = .ok (.athrow, 1) := by decide +kernel
theorem d22_12 : decode jdk_52_method_3_code 12 = .ok (.iload_n 0, 1) := by decide +kernel
theorem d22_13 : decode jdk_52_method_3_code 13 = .ok (.ldc 20, 2) := by decide +kernel
theorem d22_15 : decode jdk_52_method_3_code 15 = .ok (.if_icmp .lt 40, 3) := by decide +kernel
theorem d22_18 : decode jdk_52_method_3_code 18 = .ok (.new 21, 3) := by decide +kernel
theorem d22_21 : decode jdk_52_method_3_code 21 = .ok (.dup, 1) := by decide +kernel
theorem d22_22 : decode jdk_52_method_3_code 22 = .ok (.new 23, 3) := by decide +kernel
theorem d22_25 : decode jdk_52_method_3_code 25 = .ok (.dup, 1) := by decide +kernel
theorem d22_26 : decode jdk_52_method_3_code 26 = .ok (.invokespecial 25, 3) := by decide +kernel
theorem d22_29 : decode jdk_52_method_3_code 29 = .ok (.ldc 26, 2) := by decide +kernel
theorem d22_31 : decode jdk_52_method_3_code 31 = .ok (.invokevirtual 28, 3) := by decide +kernel
theorem d22_34 : decode jdk_52_method_3_code 34 = .ok (.iload_n 0, 1) := by decide +kernel
theorem d22_35 : decode jdk_52_method_3_code 35 = .ok (.invokevirtual 32, 3) := by decide +kernel
theorem d22_38 : decode jdk_52_method_3_code 38 = .ok (.ldc 35, 2) := by decide +kernel
theorem d22_40 : decode jdk_52_method_3_code 40 = .ok (.invokevirtual 28, 3) := by decide +kernel
theorem d22_43 : decode jdk_52_method_3_code 43 = .ok (.ldc 20, 2) := by decide +kernel
theorem d22_45 : decode jdk_52_method_3_code 45 = .ok (.invokevirtual 32, 3) := by decide +kernel
theorem d22_48 : decode jdk_52_method_3_code 48 = .ok (.invokevirtual 37, 3) := by decide +kernel
theorem d22_51 : decode jdk_52_method_3_code 51 = .ok (.invokespecial 41, 3) := by decide +kernel
theorem d22_54 : decode jdk_52_method_3_code 54 = .ok (.athrow, 1) := by decide +kernel
theorem d22_55 : decode jdk_52_method_3_code 55 = .ok (.iload_n 0, 1) := by decide +kernel
theorem d22_56 : decode jdk_52_method_3_code 56 = .ok (.iconst 1, 1) := by decide +kernel
theorem d22_57 : decode jdk_52_method_3_code 57 = .ok (.ishl, 1) := by decide +kernel
theorem d22_58 : decode jdk_52_method_3_code 58 = .ok (.ireturn, 1) := by decide +kernel
theorem pn_22 : plainFor (⟨"java/lang/StringUTF16", "newBytesLength", "(I)I"⟩ : MethodName) = true := by first | (apply plainFor_of_name; simp [plainName, overriddenIn]; done) | (apply plainFor_of_name; decide +kernel) | decide +kernel
theorem pd_22 : parseMethodDescriptor "(I)I" = some ⟨[.int], (some .int)⟩ := by decide +kernel
theorem d21_0 : decode jdk_52_method_2_code 0 = .ok (.iload_n 0, 1) := by decide +kernel
theorem d21_1 : decode jdk_52_method_2_code 1 = .ok (.invokestatic 11, 3) := by decide +kernel
theorem d21_4 : decode jdk_52_method_2_code 4 = .ok (.newarray .byte, 2) := by decide +kernel
theorem d21_6 : decode jdk_52_method_2_code 6 = .ok (.areturn, 1) := by decide +kernel
theorem pn_21 : plainFor (⟨"java/lang/StringUTF16", "newBytesFor", "(I)[B"⟩ : MethodName) = true := by first | (apply plainFor_of_name; simp [plainName, overriddenIn]; done) | (apply plainFor_of_name; decide +kernel) | decide +kernel
theorem pd_21 : parseMethodDescriptor "(I)[B" = some ⟨[.int], (some (.array .byte))⟩ := by decide +kernel
theorem d23_0 : decode jdk_52_method_4_code 0 = .ok (.getstatic 44, 3) := by decide +kernel
theorem d23_3 : decode jdk_52_method_4_code 3 = .ok (.ifCond .ne 25, 3) := by decide +kernel
theorem d23_6 : decode jdk_52_method_4_code 6 = .ok (.iload_n 1, 1) := by decide +kernel
theorem d23_7 : decode jdk_52_method_4_code 7 = .ok (.ifCond .lt 11, 3) := by decide +kernel
theorem d23_10 : decode jdk_52_method_4_code 10 = .ok (.iload_n 1, 1) := by decide +kernel
theorem d23_11 : decode jdk_52_method_4_code 11 = .ok (.aload_n 0, 1) := by decide +kernel
theorem d23_12 : decode jdk_52_method_4_code 12 = .ok (.invokestatic 48, 3) := by decide +kernel
theorem d23_15 : decode jdk_52_method_4_code 15 = .ok (.if_icmp .lt 13, 3) := by decide +kernel
theorem d23_18 : decode jdk_52_method_4_code 18 = .ok (.new 52, 3) := by decide +kernel
theorem d23_21 : decode jdk_52_method_4_code 21 = .ok (.dup, 1) := by decide +kernel
theorem d23_22 : decode jdk_52_method_4_code 22 = .ok (.ldc 54, 2) := by decide +kernel
theorem d23_24 : decode jdk_52_method_4_code 24 = .ok (.invokespecial 56, 3) := by decide +kernel
theorem d23_27 : decode jdk_52_method_4_code 27 = .ok (.athrow, 1) := by decide +kernel
theorem d23_28 : decode jdk_52_method_4_code 28 = .ok (.iload_n 1, 1) := by decide +kernel
theorem d23_29 : decode jdk_52_method_4_code 29 = .ok (.iconst 1, 1) := by decide +kernel
theorem d23_30 : decode jdk_52_method_4_code 30 = .ok (.ishl, 1) := by decide +kernel
theorem d23_31 : decode jdk_52_method_4_code 31 = .ok (.istore_n 1, 1) := by decide +kernel
theorem d23_32 : decode jdk_52_method_4_code 32 = .ok (.aload_n 0, 1) := by decide +kernel
theorem d23_33 : decode jdk_52_method_4_code 33 = .ok (.iload_n 1, 1) := by decide +kernel
theorem d23_34 : decode jdk_52_method_4_code 34 = .ok (.iinc 1 1, 3) := by decide +kernel
theorem d23_37 : decode jdk_52_method_4_code 37 = .ok (.iload_n 2, 1) := by decide +kernel
theorem d23_38 : decode jdk_52_method_4_code 38 = .ok (.getstatic 59, 3) := by decide +kernel
theorem d23_41 : decode jdk_52_method_4_code 41 = .ok (.ishr, 1) := by decide +kernel
theorem d23_42 : decode jdk_52_method_4_code 42 = .ok (.i2b, 1) := by decide +kernel
theorem d23_43 : decode jdk_52_method_4_code 43 = .ok (.bastore, 1) := by decide +kernel
theorem d23_44 : decode jdk_52_method_4_code 44 = .ok (.aload_n 0, 1) := by decide +kernel
theorem d23_45 : decode jdk_52_method_4_code 45 = .ok (.iload_n 1, 1) := by decide +kernel
theorem d23_46 : decode jdk_52_method_4_code 46 = .ok (.iload_n 2, 1) := by decide +kernel
theorem d23_47 : decode jdk_52_method_4_code 47 = .ok (.getstatic 63, 3) := by decide +kernel
theorem d23_50 : decode jdk_52_method_4_code 50 = .ok (.ishr, 1) := by decide +kernel
theorem d23_51 : decode jdk_52_method_4_code 51 = .ok (.i2b, 1) := by decide +kernel
theorem d23_52 : decode jdk_52_method_4_code 52 = .ok (.bastore, 1) := by decide +kernel
theorem d23_53 : decode jdk_52_method_4_code 53 = .ok (.return_, 1) := by decide +kernel
theorem pn_23 : plainFor (⟨"java/lang/StringUTF16", "putChar", "([BII)V"⟩ : MethodName) = true := by first | (apply plainFor_of_name; simp [plainName, overriddenIn]; done) | (apply plainFor_of_name; decide +kernel) | decide +kernel
theorem pd_23 : parseMethodDescriptor "([BII)V" = some ⟨[(.array .byte), .int, .int], none⟩ := by decide +kernel
theorem d24_0 : decode jdk_52_method_5_code 0 = .ok (.getstatic 44, 3) := by decide +kernel
theorem d24_3 : decode jdk_52_method_5_code 3 = .ok (.ifCond .ne 25, 3) := by decide +kernel
theorem d24_6 : decode jdk_52_method_5_code 6 = .ok (.iload_n 1, 1) := by decide +kernel
theorem d24_7 : decode jdk_52_method_5_code 7 = .ok (.ifCond .lt 11, 3) := by decide +kernel
theorem d24_10 : decode jdk_52_method_5_code 10 = .ok (.iload_n 1, 1) := by decide +kernel
theorem d24_11 : decode jdk_52_method_5_code 11 = .ok (.aload_n 0, 1) := by decide +kernel
theorem d24_12 : decode jdk_52_method_5_code 12 = .ok (.invokestatic 48, 3) := by decide +kernel
theorem d24_15 : decode jdk_52_method_5_code 15 = .ok (.if_icmp .lt 13, 3) := by decide +kernel
theorem d24_18 : decode jdk_52_method_5_code 18 = .ok (.new 52, 3) := by decide +kernel
theorem d24_21 : decode jdk_52_method_5_code 21 = .ok (.dup, 1) := by decide +kernel
theorem d24_22 : decode jdk_52_method_5_code 22 = .ok (.ldc 54, 2) := by decide +kernel
theorem d24_24 : decode jdk_52_method_5_code 24 = .ok (.invokespecial 56, 3) := by decide +kernel
theorem d24_27 : decode jdk_52_method_5_code 27 = .ok (.athrow, 1) := by decide +kernel
theorem d24_28 : decode jdk_52_method_5_code 28 = .ok (.iload_n 1, 1) := by decide +kernel
theorem d24_29 : decode jdk_52_method_5_code 29 = .ok (.iconst 1, 1) := by decide +kernel
theorem d24_30 : decode jdk_52_method_5_code 30 = .ok (.ishl, 1) := by decide +kernel
theorem d24_31 : decode jdk_52_method_5_code 31 = .ok (.istore_n 1, 1) := by decide +kernel
theorem d24_32 : decode jdk_52_method_5_code 32 = .ok (.aload_n 0, 1) := by decide +kernel
theorem d24_33 : decode jdk_52_method_5_code 33 = .ok (.iload_n 1, 1) := by decide +kernel
theorem d24_34 : decode jdk_52_method_5_code 34 = .ok (.iinc 1 1, 3) := by decide +kernel
theorem d24_37 : decode jdk_52_method_5_code 37 = .ok (.baload, 1) := by decide +kernel
theorem d24_38 : decode jdk_52_method_5_code 38 = .ok (.sipush 255, 3) := by decide +kernel
theorem d24_41 : decode jdk_52_method_5_code 41 = .ok (.iand, 1) := by decide +kernel
theorem d24_42 : decode jdk_52_method_5_code 42 = .ok (.getstatic 59, 3) := by decide +kernel
theorem d24_45 : decode jdk_52_method_5_code 45 = .ok (.ishl, 1) := by decide +kernel
theorem d24_46 : decode jdk_52_method_5_code 46 = .ok (.aload_n 0, 1) := by decide +kernel
theorem d24_47 : decode jdk_52_method_5_code 47 = .ok (.iload_n 1, 1) := by decide +kernel
theorem d24_48 : decode jdk_52_method_5_code 48 = .ok (.baload, 1) := by decide +kernel
theorem d24_49 : decode jdk_52_method_5_code 49 = .ok (.sipush 255, 3) := by decide +kernel
theorem d24_52 : decode jdk_52_method_5_code 52 = .ok (.iand, 1) := by decide +kernel
theorem d24_53 : decode jdk_52_method_5_code 53 = .ok (.getstatic 63, 3) := by decide +kernel
theorem d24_56 : decode jdk_52_method_5_code 56 = .ok (.ishl, 1) := by decide +kernel
theorem d24_57 : decode jdk_52_method_5_code 57 = .ok (.ior, 1) := by decide +kernel
theorem d24_58 : decode jdk_52_method_5_code 58 = .ok (.i2c, 1) := by decide +kernel
theorem d24_59 : decode jdk_52_method_5_code 59 = .ok (.ireturn, 1) := by decide +kernel
theorem pn_24 : plainFor (⟨"java/lang/StringUTF16", "getChar", "([BI)C"⟩ : MethodName) = true := by first | (apply plainFor_of_name; simp [plainName, overriddenIn]; done) | (apply plainFor_of_name; decide +kernel) | decide +kernel
theorem pd_24 : parseMethodDescriptor "([BI)C" = some ⟨[(.array .byte), .int], (some .char)⟩ := by decide +kernel
theorem d20_0 : decode jdk_52_method_14_code 0 = .ok (.iload_n 2, 1) := by decide +kernel
theorem d20_1 : decode jdk_52_method_14_code 1 = .ok (.invokestatic 107, 3) := by decide +kernel
theorem d20_4 : decode jdk_52_method_14_code 4 = .ok (.astore_n 3, 1) := by decide +kernel
theorem d20_5 : decode jdk_52_method_14_code 5 = .ok (.iconst 0, 1) := by decide +kernel
theorem d20_6 : decode jdk_52_method_14_code 6 = .ok (.istore 4, 2) := by decide +kernel
theorem d20_8 : decode jdk_52_method_14_code 8 = .ok (.iload 4, 2) := by decide +kernel
theorem d20_10 : decode jdk_52_method_14_code 10 = .ok (.iload_n 2, 1) := by decide +kernel
theorem d20_11 : decode jdk_52_method_14_code 11 = .ok (.if_icmp .ge 21, 3) := by decide +kernel
theorem d20_14 : decode jdk_52_method_14_code 14 = .ok (.aload_n 3, 1) := by decide +kernel
theorem d20_15 : decode jdk_52_method_14_code 15 = .ok (.iload 4, 2) := by decide +kernel
theorem d20_17 : decode jdk_52_method_14_code 17 = .ok (.aload_n 0, 1) := by decide +kernel
theorem d20_18 : decode jdk_52_method_14_code 18 = .ok (.iload_n 1, 1) := by decide +kernel
theorem d20_19 : decode jdk_52_method_14_code 19 = .ok (.caload, 1) := by decide +kernel
theorem d20_20 : decode jdk_52_method_14_code 20 = .ok (.invokestatic 111, 3) := by decide +kernel
theorem d20_23 : decode jdk_52_method_14_code 23 = .ok (.iinc 1 1, 3) := by decide +kernel
theorem d20_26 : decode jdk_52_method_14_code 26 = .ok (.iinc 4 1, 3) := by decide +kernel
theorem d20_29 : decode jdk_52_method_14_code 29 = .ok (.goto (-21), 3) := by decide +kernel
theorem d20_32 : decode jdk_52_method_14_code 32 = .ok (.aload_n 3, 1) := by decide +kernel
theorem d20_33 : decode jdk_52_method_14_code 33 = .ok (.areturn, 1) := by decide +kernel
theorem pn_20 : plainFor (⟨"java/lang/StringUTF16", "toBytes", "([CII)[B"⟩ : MethodName) = true := by first | (apply plainFor_of_name; simp [plainName, overriddenIn]; done) | (apply plainFor_of_name; decide +kernel) | decide +kernel
theorem pd_20 : parseMethodDescriptor "([CII)[B" = some ⟨[(.array .char), .int, .int], (some (.array .byte))⟩ := by decide +kernel
theorem d16_0 : decode jdk_52_method_21_code 0 = .ok (.iconst 0, 1) := by decide +kernel
theorem d16_1 : decode jdk_52_method_21_code 1 = .ok (.istore 5, 2) := by decide +kernel
theorem d16_3 : decode jdk_52_method_21_code 3 = .ok (.iload 5, 2) := by decide +kernel
theorem d16_5 : decode jdk_52_method_21_code 5 = .ok (.iload 4, 2) := by decide +kernel
theorem d16_7 : decode jdk_52_method_21_code 7 = .ok (.if_icmp .ge 37, 3) := by decide +kernel
theorem d16_10 : decode jdk_52_method_21_code 10 = .ok (.aload_n 0, 1) := by decide +kernel
theorem d16_11 : decode jdk_52_method_21_code 11 = .ok (.iload_n 1, 1) := by decide +kernel
theorem d16_12 : decode jdk_52_method_21_code 12 = .ok (.caload, 1) := by decide +kernel
theorem d16_13 : decode jdk_52_method_21_code 13 = .ok (.istore 6, 2) := by decide +kernel
theorem d16_15 : decode jdk_52_method_21_code 15 = .ok (.iload 6, 2) := by decide +kernel
theorem d16_17 : decode jdk_52_method_21_code 17 = .ok (.sipush 255, 3) := by decide +kernel
theorem d16_20 : decode jdk_52_method_21_code 20 = .ok (.if_icmp .le 6, 3) := by decide +kernel
theorem d16_23 : decode jdk_52_method_21_code 23 = .ok (.iload 5, 2) := by decide +kernel
theorem d16_25 : decode jdk_52_method_21_code 25 = .ok (.ireturn, 1) := by decide +kernel
theorem d16_26 : decode jdk_52_method_21_code 26 = .ok (.aload_n 2, 1) := by decide +kernel
theorem d16_27 : decode jdk_52_method_21_code 27 = .ok (.iload_n 3, 1) := by decide +kernel
theorem d16_28 : decode jdk_52_method_21_code 28 = .ok (.iload 6, 2) := by decide +kernel
theorem d16_30 : decode jdk_52_method_21_code 30 = .ok (.i2b, 1) := by decide +kernel
theorem d16_31 : decode jdk_52_method_21_code 31 = .ok (.bastore, 1) := by decide +kernel
theorem d16_32 : decode jdk_52_method_21_code 32 = .ok (.iinc 1 1, 3) := by decide +kernel
theorem d16_35 : decode jdk_52_method_21_code 35 = .ok (.iinc 3 1, 3) := by decide +kernel
theorem d16_38 : decode jdk_52_method_21_code 38 = .ok (.iinc 5 1, 3) := by decide +kernel
theorem d16_41 : decode jdk_52_method_21_code 41 = .ok (.goto (-38), 3) := by decide +kernel
theorem d16_44 : decode jdk_52_method_21_code 44 = .ok (.iload 4, 2) := by decide +kernel
theorem d16_46 : decode jdk_52_method_21_code 46 = .ok (.ireturn, 1) := by decide +kernel
theorem pn_16 : plainFor (⟨"java/lang/StringUTF16", "compress", "([CI[BII)I"⟩ : MethodName) = true := by first | (apply plainFor_of_name; simp [plainName, overriddenIn]; done) | (apply plainFor_of_name; decide +kernel) | decide +kernel
theorem pd_16 : parseMethodDescriptor "([CI[BII)I" = some ⟨[(.array .char), .int, (.array .byte), .int, .int], (some .int)⟩ := by decide +kernel
theorem d15_0 : decode jdk_52_method_16_code 0 = .ok (.iload_n 2, 1) := by decide +kernel
theorem d15_1 : decode jdk_52_method_16_code 1 = .ok (.newarray .byte, 2) := by decide +kernel
theorem d15_3 : decode jdk_52_method_16_code 3 = .ok (.astore_n 3, 1) := by decide +kernel
theorem d15_4 : decode jdk_52_method_16_code 4 = .ok (.aload_n 0, 1) := by decide +kernel
theorem d15_5 : decode jdk_52_method_16_code 5 = .ok (.iload_n 1, 1) := by decide +kernel
theorem d15_6 : decode jdk_52_method_16_code 6 = .ok (.aload_n 3, 1) := by decide +kernel
theorem d15_7 : decode jdk_52_method_16_code 7 = .ok (.iconst 0, 1) := by decide +kernel
theorem d15_8 : decode jdk_52_method_16_code 8 = .ok (.iload_n 2, 1) := by decide +kernel
theorem d15_9 : decode jdk_52_method_16_code 9 = .ok (.invokestatic 115, 3) := by decide +kernel
theorem d15_12 : decode jdk_52_method_16_code 12 = .ok (.istore 4, 2) := by decide +kernel
theorem d15_14 : decode jdk_52_method_16_code 14 = .ok (.iload 4, 2) := by decide +kernel
theorem d15_16 : decode jdk_52_method_16_code 16 = .ok (.iload_n 2, 1) := by decide +kernel
theorem d15_17 : decode jdk_52_method_16_code 17 = .ok (.if_icmp .eq 40, 3) := by decide +kernel
theorem d15_20 : decode jdk_52_method_16_code 20 = .ok (.aload_n 0, 1) := by decide +kernel
theorem d15_21 : decode jdk_52_method_16_code 21 = .ok (.iload_n 1, 1) := by decide +kernel
theorem d15_22 : decode jdk_52_method_16_code 22 = .ok (.iload_n 2, 1) := by decide +kernel
theorem d15_23 : decode jdk_52_method_16_code 23 = .ok (.invokestatic 119, 3) := by decide +kernel
theorem d15_26 : decode jdk_52_method_16_code 26 = .ok (.astore 5, 2) := by decide +kernel
theorem d15_28 : decode jdk_52_method_16_code 28 = .ok (.aload 5, 2) := by decide +kernel
theorem d15_30 : decode jdk_52_method_16_code 30 = .ok (.iload 4, 2) := by decide +kernel
theorem d15_32 : decode jdk_52_method_16_code 32 = .ok (.invokestatic 71, 3) := by decide +kernel
theorem d15_35 : decode jdk_52_method_16_code 35 = .ok (.sipush 255, 3) := by decide +kernel
theorem d15_38 : decode jdk_52_method_16_code 38 = .ok (.if_icmp .gt 16, 3) := by decide +kernel
theorem d15_41 : decode jdk_52_method_16_code 41 = .ok (.aload 5, 2) := by decide +kernel
theorem d15_43 : decode jdk_52_method_16_code 43 = .ok (.iconst 0, 1) := by decide +kernel
theorem d15_44 : decode jdk_52_method_16_code 44 = .ok (.aload_n 3, 1) := by decide +kernel
theorem d15_45 : decode jdk_52_method_16_code 45 = .ok (.iconst 0, 1) := by decide +kernel
theorem d15_46 : decode jdk_52_method_16_code 46 = .ok (.iload_n 2, 1) := by decide +kernel
theorem d15_47 : decode jdk_52_method_16_code 47 = .ok (.invokestatic 123, 3) := by decide +kernel
theorem d15_50 : decode jdk_52_method_16_code 50 = .ok (.iload_n 2, 1) := by decide +kernel
theorem d15_51 : decode jdk_52_method_16_code 51 = .ok (.if_icmp .eq 6, 3) := by decide +kernel
theorem d15_54 : decode jdk_52_method_16_code 54 = .ok (.aload 5, 2) := by decide +kernel
theorem d15_56 : decode jdk_52_method_16_code 56 = .ok (.areturn, 1) := by decide +kernel
theorem d15_57 : decode jdk_52_method_16_code 57 = .ok (.aload_n 3, 1) := by decide +kernel
theorem d15_58 : decode jdk_52_method_16_code 58 = .ok (.areturn, 1) := by decide +kernel
theorem pn_15 : plainFor (⟨"java/lang/StringUTF16", "compress", "([CII)[B"⟩ : MethodName) = true := by first | (apply plainFor_of_name; simp [plainName, overriddenIn]; done) | (apply plainFor_of_name; decide +kernel) | decide +kernel
theorem pd_15 : parseMethodDescriptor "([CII)[B" = some ⟨[(.array .char), .int, .int], (some (.array .byte))⟩ := by decide +kernel
theorem d17_0 : decode jdk_52_method_15_code 0 = .ok (.iload_n 1, 1) := by decide +kernel
theorem d17_1 : decode jdk_52_method_15_code 1 = .ok (.aload_n 0, 1) := by decide +kernel
theorem d17_2 : decode jdk_52_method_15_code 2 = .ok (.arraylength, 1) := by decide +kernel
theorem d17_3 : decode jdk_52_method_15_code 3 = .ok (.isub, 1) := by decide +kernel
theorem d17_4 : decode jdk_52_method_15_code 4 = .ok (.bipush 31, 2) := by decide +kernel
theorem d17_6 : decode jdk_52_method_15_code 6 = .ok (.iushr, 1) := by decide +kernel
theorem d17_7 : decode jdk_52_method_15_code 7 = .ok (.i2b, 1) := by decide +kernel
theorem d17_8 : decode jdk_52_method_15_code 8 = .ok (.ireturn, 1) := by decide +kernel
theorem pn_17 : plainFor (⟨"java/lang/StringUTF16", "coderFromArrayLen", "([BI)B"⟩ : MethodName) = true := by first | (apply plainFor_of_name; simp [plainName, overriddenIn]; done) | (apply plainFor_of_name; decide +kernel) | decide +kernel
theorem pd_17 : parseMethodDescriptor "([BI)B" = some ⟨[(.array .byte), .int], (some .byte)⟩ := by decide +kernel
theorem d3_0 : decode jdk_42_method_149_code 0 = .ok (.aload_n 0, 1) := by decide +kernel
theorem d3_1 : decode jdk_42_method_149_code 1 = .ok (.invokespecial 1, 3) := by decide +kernel
theorem d3_4 : decode jdk_42_method_149_code 4 = .ok (.iload_n 3, 1) := by decide +kernel
theorem d3_5 : decode jdk_42_method_149_code 5 = .ok (.ifCond .ne 22, 3) := by decide +kernel
theorem d3_8 : decode jdk_42_method_149_code 8 = .ok (.aload_n 0, 1) := by decide +kernel
theorem d3_9 : decode jdk_42_method_149_code 9 = .ok (.ldc 7, 2) := by decide +kernel
theorem d3_11 : decode jdk_42_method_149_code 11 = .ok (.getfield 9, 3) := by decide +kernel
theorem d3_14 : decode jdk_42_method_149_code 14 = .ok (.putfield 9, 3) := by decide +kernel
theorem d3_17 : decode jdk_42_method_149_code 17 = .ok (.aload_n 0, 1) := by decide +kernel
theorem d3_18 : decode jdk_42_method_149_code 18 = .ok (.ldc 7, 2) := by decide +kernel
theorem d3_20 : decode jdk_42_method_149_code 20 = .ok (.getfield 15, 3) := by decide +kernel
theorem d3_23 : decode jdk_42_method_149_code 23 = .ok (.putfield 15, 3) := by decide +kernel
theorem d3_26 : decode jdk_42_method_149_code 26 = .ok (.return_, 1) := by decide +kernel
theorem d3_27 : decode jdk_42_method_149_code 27 = .ok (.getstatic 38, 3) := by decide +kernel
theorem d3_30 : decode jdk_42_method_149_code 30 = .ok (.ifCond .eq 28, 3) := by decide +kernel
theorem d3_33 : decode jdk_42_method_149_code 33 = .ok (.aload_n 1, 1) := by decide +kernel
theorem d3_34 : decode jdk_42_method_149_code 34 = .ok (.iload_n 2, 1) := by decide +kernel
theorem d3_35 : decode jdk_42_method_149_code 35 = .ok (.iload_n 3, 1) := by decide +kernel
theorem d3_36 : decode jdk_42_method_149_code 36 = .ok (.invokestatic 177, 3) := by decide +kernel
theorem d3_39 : decode jdk_42_method_149_code 39 = .ok (.astore 5, 2) := by decide +kernel
theorem d3_41 : decode jdk_42_method_149_code 41 = .ok (.aload_n 0, 1) := by decide +kernel
theorem d3_42 : decode jdk_42_method_149_code 42 = .ok (.aload 5, 2) := by decide +kernel
theorem d3_44 : decode jdk_42_method_149_code 44 = .ok (.iload_n 3, 1) := by decide +kernel
theorem d3_45 : decode jdk_42_method_149_code 45 = .ok (.invokestatic 47, 3) := by decide +kernel
theorem d3_48 : decode jdk_42_method_149_code 48 = .ok (.putfield 15, 3) := by decide +kernel
theorem d3_51 : decode jdk_42_method_149_code 51 = .ok (.aload_n 0, 1) := by decide +kernel
theorem d3_52 : decode jdk_42_method_149_code 52 = .ok (.aload 5, 2) := by decide +kernel
theorem d3_54 : decode jdk_42_method_149_code 54 = .ok (.putfield 9, 3) := by decide +kernel
theorem d3_57 : decode jdk_42_method_149_code 57 = .ok (.return_, 1) := by decide +kernel
theorem d3_58 : decode jdk_42_method_149_code 58 = .ok (.aload_n 0, 1) := by decide +kernel
theorem d3_59 : decode jdk_42_method_149_code 59 = .ok (.iconst 1, 1) := by decide +kernel
theorem d3_60 : decode jdk_42_method_149_code 60 = .ok (.putfield 15, 3) := by decide +kernel
theorem d3_63 : decode jdk_42_method_149_code 63 = .ok (.aload_n 0, 1) := by decide +kernel
theorem d3_64 : decode jdk_42_method_149_code 64 = .ok (.aload_n 1, 1) := by decide +kernel
theorem d3_65 : decode jdk_42_method_149_code 65 = .ok (.iload_n 2, 1) := by decide +kernel
theorem d3_66 : decode jdk_42_method_149_code 66 = .ok (.iload_n 3, 1) := by decide +kernel
theorem d3_67 : decode jdk_42_method_149_code 67 = .ok (.invokestatic 180, 3) := by decide +kernel
theorem d3_70 : decode jdk_42_method_149_code 70 = .ok (.putfield 9, 3) := by decide +kernel
theorem d3_73 : decode jdk_42_method_149_code 73 = .ok (.return_, 1) := by decide +kernel
theorem pn_3 : plainFor (⟨"java/lang/String", "<init>", "([CIILjava/lang/Void;)V"⟩ : MethodName) = true := by first | (apply plainFor_of_name; simp [plainName, overriddenIn]; done) | (apply plainFor_of_name; decide +kernel) | decide +kernel
theorem pd_3 : parseMethodDescriptor "([CIILjava/lang/Void;)V" = some ⟨[(.array .char), .int, .int, (.object "java/lang/Void")], none⟩ := by decide +kernel
theorem d2_0 : decode jdk_42_method_3_code 0 = .ok (.aload_n 0, 1) := by decide +kernel
theorem d2_1 : decode jdk_42_method_3_code 1 = .ok (.aload_n 1, 1) := by decide +kernel
theorem d2_2 : decode jdk_42_method_3_code 2 = .ok (.iconst 0, 1) := by decide +kernel
theorem d2_3 : decode jdk_42_method_3_code 3 = .ok (.aload_n 1, 1) := by decide +kernel
theorem d2_4 : decode jdk_42_method_3_code 4 = .ok (.arraylength, 1) := by decide +kernel
theorem d2_5 : decode jdk_42_method_3_code 5 = .ok (.aconst_null, 1) := by decide +kernel
theorem d2_6 : decode jdk_42_method_3_code 6 = .ok (.invokespecial 27, 3) := by decide +kernel
theorem d2_9 : decode jdk_42_method_3_code 9 = .ok (.return_, 1) := by decide +kernel
theorem pn_2 : plainFor (⟨"java/lang/String", "<init>", "([C)V"⟩ : MethodName) = true := by first | (apply plainFor_of_name; simp [plainName, overriddenIn]; done) | (apply plainFor_of_name; decide +kernel) | decide +kernel
theorem pd_2 : parseMethodDescriptor "([C)V" = some ⟨[(.array .char)], none⟩ := by decide +kernel
theorem d10_0 : decode jdk_42_method_152_code 0 = .ok (.getstatic 38, 3) := by decide +kernel
theorem d10_3 : decode jdk_42_method_152_code 3 = .ok (.ifCond .eq 10, 3) := by decide +kernel
theorem d10_6 : decode jdk_42_method_152_code 6 = .ok (.aload_n 0, 1) := by decide +kernel
theorem d10_7 : decode jdk_42_method_152_code 7 = .ok (.getfield 15, 3) := by decide +kernel
theorem d10_10 : decode jdk_42_method_152_code 10 = .ok (.goto 4, 3) := by decide +kernel
theorem d10_13 : decode jdk_42_method_152_code 13 = .ok (.iconst 1, 1) := by decide +kernel
theorem d10_14 : decode jdk_42_method_152_code 14 = .ok (.ireturn, 1) := by decide +kernel
theorem pn_10 : plainFor (⟨"java/lang/String", "coder", "()B"⟩ : MethodName) = true := by first | (apply plainFor_of_name; simp [plainName, overriddenIn]; done) | (apply plainFor_of_name; decide +kernel) | decide +kernel
theorem pd_10 : parseMethodDescriptor "()B" = some ⟨[], (some .byte)⟩ := by decide +kernel
theorem d8_0 : decode jdk_42_method_154_code 0 = .ok (.getstatic 38, 3) := by decide +kernel
theorem d8_3 : decode jdk_42_method_154_code 3 = .ok (.ifCond .eq 14, 3) := by decide +kernel
theorem d8_6 : decode jdk_42_method_154_code 6 = .ok (.aload_n 0, 1) := by decide +kernel
theorem d8_7 : decode jdk_42_method_154_code 7 = .ok (.getfield 15, 3) := by decide +kernel
theorem d8_10 : decode jdk_42_method_154_code 10 = .ok (.ifCond .ne 7, 3) := by decide +kernel
theorem d8_13 : decode jdk_42_method_154_code 13 = .ok (.iconst 1, 1) := by decide +kernel
theorem d8_14 : decode jdk_42_method_154_code 14 = .ok (.goto 4, 3) := by decide +kernel
theorem d8_17 : decode jdk_42_method_154_code 17 = .ok (.iconst 0, 1) := by decide +kernel
theorem d8_18 : decode jdk_42_method_154_code 18 = .ok (.ireturn, 1) := by decide +kernel
theorem pn_8 : plainFor (⟨"java/lang/String", "isLatin1", "()Z"⟩ : MethodName) = true := by first | (apply plainFor_of_name; simp [plainName, overriddenIn]; done) | (apply plainFor_of_name; decide +kernel) | decide +kernel
theorem pd_8 : parseMethodDescriptor "()Z" = some ⟨[], (some .boolean)⟩ := by decide +kernel
theorem d9_0 : decode jdk_42_method_54_code 0 = .ok (.aload_n 0, 1) := by decide +kernel
theorem d9_1 : decode jdk_42_method_54_code 1 = .ok (.getfield 9, 3) := by decide +kernel
theorem d9_4 : decode jdk_42_method_54_code 4 = .ok (.arraylength, 1) := by decide +kernel
theorem d9_5 : decode jdk_42_method_54_code 5 = .ok (.aload_n 0, 1) := by decide +kernel
theorem d9_6 : decode jdk_42_method_54_code 6 = .ok (.invokevirtual 335, 3) := by decide +kernel
theorem d9_9 : decode jdk_42_method_54_code 9 = .ok (.ishr, 1) := by decide +kernel
theorem d9_10 : decode jdk_42_method_54_code 10 = .ok (.ireturn, 1) := by decide +kernel
theorem pn_9 : plainFor (⟨"java/lang/String", "length", "()I"⟩ : MethodName) = true := by first | (apply plainFor_of_name; simp [plainName, overriddenIn]; done) | (apply plainFor_of_name; decide +kernel) | decide +kernel
theorem pd_9 : parseMethodDescriptor "()I" = some ⟨[], (some .int)⟩ := by decide +kernel
theorem own_UpE {vs : List Value} {cs : List Int32} {i n : Nat} (q : i = n) (h : own_Up vs cs i) : own_Up vs cs n := q ▸ h
theorem own_LpE {vs : List Value} {cs : List Int32} {i n : Nat} (q : i = n) (h : own_Lp vs cs i) : own_Lp vs cs n := q ▸ h
def own_SV (k : Int32) (vs : List Value) (cs : List Int32) : Prop := (k = 0 ∧ own_L vs cs) ∨ (k = 1 ∧ own_U vs cs)
theorem own_ltlit {n : Nat} (h : n ≤ 4) {x : Int32} (hx : 4 < x.toInt) : Int32.ofNat n < x := by
  rw [Int32.lt_iff_toInt_lt, own_ti (by omega)]; omega
theorem own_cfal : ∀ n : Nat, n ≤ 4 → ((XT.ushr (Int32.ofNat n - Int32.ofNat n) 31).toInt8.toInt32 = 0) := by decide +kernel
theorem own_cfal2 : ∀ n : Nat, n ≤ 4 → 0 < n → ((XT.ushr (Int32.ofNat n - Int32.ofNat (2 * n)) 31).toInt8.toInt32 = 1) := by decide +kernel
theorem own_nz {n : Nat} (h : n ≤ 4) (h0 : 0 < n) : ¬ Int32.ofNat n = 0 := fun q => by
  have := congrArg Int32.toInt q
  rw [own_ti (by omega)] at this
  have k0 : (0 : Int32).toInt = 0 := by decide
  omega
theorem own_inj {i n : Nat} (hi : i < 2147483648) (hn : n < 2147483648) (h : Int32.ofNat i = Int32.ofNat n) : i = n := by
  have := congrArg Int32.toInt h
  rw [own_ti hi, own_ti hn] at this
  omega
theorem own_SVlen {k : Int32} {vs : List Value} {cs : List Int32} (hn : cs.length ≤ 4) (h : own_SV k vs cs) : Int32.ofNat vs.length >>> (k &&& 31) = Int32.ofNat cs.length := by
  rcases h with ⟨rfl, h⟩ | ⟨rfl, h⟩
  · rw [own_shr0, h.1]
  · rw [own_shr1 (by rw [h.1]; omega), h.1]; congr 1; omega
theorem own_SVk {k : Int32} {vs : List Value} {cs : List Int32} (h : own_SV k vs cs) : k = 0 ∨ k = 1 := by
  rcases h with ⟨rfl, h⟩ | ⟨rfl, h⟩
  · exact Or.inl rfl
  · exact Or.inr rfl
theorem own_kb {k : Int32} (h : k = 0 ∨ k = 1) : narrow .byte (.int k) = .int k := by rcases h with rfl | rfl <;> rfl
theorem own_kf {k : Int32} (h : k = 0 ∨ k = 1) : fits .byte (.int k) = true := by rcases h with rfl | rfl <;> rfl
theorem own_avN {Z : State} {h : Heap} {a b : Addr} {ty ty' : FieldType} {vs ws : List Value} (A : Av Z h a ty vs) (B : Av Z h b ty' ws) (q : ty ≠ ty') : a ≠ b := fun e => by
  subst e
  obtain ⟨c, ⟨h1, ⟨-, k1, k2, comp, k3⟩, -⟩, -⟩ := A
  obtain ⟨c', ⟨g1, ⟨-, l1, l2, comp', l3⟩, -⟩, -⟩ := B
  cases h1.symm.trans g1
  cases k2.symm.trans l2
  rw [k3] at l3
  cases l3
  exact q rfl

set_option maxRecDepth 65536 in
set_option maxHeartbeats 40000000 in
theorem rS_nbl (l : Launch) (Z : State) (ag : Array Value) (hw : ∀ d ∈ tables_1, d.before ag Z = true) (n : Nat) (hn : n ≤ 4) (h0 : Heap) (n0 : Nat)  :
    Ctr l Z (⟨"java/lang/StringUTF16", "newBytesLength", "(I)I"⟩ : MethodName) jdk_52_method_3_code 1 (some .int) ({ frames := 0, cells := 0, slots := 0, locals := 0 } : Room) #[.int (Int32.ofNat n)] h0 (fun v h L => v = some (.int (Int32.ofNat (2 * n))) ∧ Fr n0 L ∧ h0 = h) := by
  refine Ctr.of pn_22 ?_
  intro p e s m below meth c T0 X0 B e0
  refine Go.cast (f' := mkF m 0 #[.val (.int (Int32.ofNat n))] []) (by first | rfl | (simp [entryFrame, mkF, argsToLocals, Value.category, maxLocals]; done)) ?_

  refine g_iloadN X0 B d22_0 1 rfl rfl ?_
  refine g_if_ge X0 B d22_1 12 4 rfl (by decide) rfl (fun _ => ?_) (fun z => own_abs' (own_nn (by omega)) z)
  refine g_iloadN X0 B d22_12 13 rfl rfl ?_
  refine g_ldcI X0 B d22_13 15 rfl (hw _ (List.mem_of_getElem? (i := 97) rfl)) ?_
  refine g_icmp_lt X0 B d22_15 55 18 rfl (by decide) rfl (fun _ => ?_) (fun z => own_abs (own_ltlit hn (by decide)) z)
  refine g_iloadN X0 B d22_55 56 rfl rfl ?_
  refine g_iconst X0 B (1) d22_56 57 rfl rfl ?_
  refine g_ishl X0 B d22_57 58 rfl ?_
  exact g_retI X0 B d22_58 rfl (by decide) (by decide) e0 ⟨by rw [own_shl1 (by omega)], (Fr.nil n0), rfl⟩
set_option maxRecDepth 65536 in
set_option maxHeartbeats 40000000 in
theorem rS_nbf (l : Launch) (Z : State) (ag : Array Value) (hw : ∀ d ∈ tables_1, d.before ag Z = true) (n : Nat) (hn : n ≤ 4) (h0 : Heap) (n0 : Nat) (Z0 : n0 ≤ h0.size) :
    Ctr l Z (⟨"java/lang/StringUTF16", "newBytesFor", "(I)[B"⟩ : MethodName) jdk_52_method_2_code 1 (some (.array .byte)) ({ frames := 1, cells := 1, slots := 8, locals := 12 } : Room) #[.int (Int32.ofNat n)] h0 (fun v h L => ∃ a, v = some (.ref a) ∧ Fr n0 L ∧ Keep h0 h [] ∧ Av Z h a .byte (List.replicate (2 * n) (.int 0)) ∧ h0.size ≤ a ∧ n0 ≤ a) := by
  refine Ctr.of pn_21 ?_
  intro p e s m below meth c T0 X0 B e0
  refine Go.cast (f' := mkF m 0 #[.val (.int (Int32.ofNat n))] []) (by first | rfl | (simp [entryFrame, mkF, argsToLocals, Value.category, maxLocals]; done)) ?_

  refine g_iloadN X0 B d21_0 1 rfl rfl ?_
  refine g_callS X0 B [.int (Int32.ofNat n)] [] d21_1 4 rfl rfl (hw _ (List.mem_of_getElem? (i := 94) rfl)) (hw _ (List.mem_of_getElem? (i := 95) rfl)) (hw _ (List.mem_of_getElem? (i := 74) rfl)) (hw _ (List.mem_of_getElem? (i := 96) rfl)) (by decide) (lenOf pd_22 rfl) (rS_nbl l Z ag hw n hn h0 n0) e0 rfl 0 (Nat.le_of_eq rfl) (by decide) (by decide) (by decide) (by decide) (fun v1 T1 h1 L1 X1 e1 q1 => ?_)
  obtain ⟨rfl, N1, rfl⟩ := q1
  show Go p e below _ (T1.setTop (mkF m 4 #[.val (.int (Int32.ofNat n))] [.int (Int32.ofNat (2 * n))]))
  refine g_newP X1 B (List.replicate (2 * n) (.int 0)) d21_4 6 rfl (hw _ (List.mem_of_getElem? (i := 21) rfl)) e1 (own_nn (by omega)) (by rw [own_tn (by omega)]; rfl) (by simp; omega) (by decide) (by simp; omega) (fun T2 h2 a X2' e2 ea Ea Aa => ?_)
  have X2 := X2'.more (Nat.le_refl _) (show 0 + 0 + (List.replicate (2 * n) (Value.int 0)).length ≤ 8 by simp; omega)
  exact g_retA X2 B d21_6 rfl rfl rfl (by decide) (by decide) e2 ⟨a, rfl, ((Fr.nil n0).app N1), (Keep.refl _ _).ext Ea, Aa, Nat.le_of_eq ea.symm, ea ▸ Z0⟩
set_option maxRecDepth 65536 in
set_option maxHeartbeats 40000000 in
theorem rS_put (l : Launch) (Z : State) (ag : Array Value) (hw : ∀ d ∈ tables_1, d.before ag Z = true) (aB : Addr) (i : Nat) (c : Int32) (vs : List Value) (h0 : Heap) (n0 : Nat) (gB : n0 ≤ aB) (AB : Av Z h0 aB .byte vs) (hi : 2 * i + 1 < vs.length) (hl : vs.length ≤ 8) (SA : Sta Z h0 "java/lang/StringUTF16" "$assertionsDisabled" "Z" (.int 1)) (SH : Sta Z h0 "java/lang/StringUTF16" "HI_BYTE_SHIFT" "I" (.int 0)) (SLo : Sta Z h0 "java/lang/StringUTF16" "LO_BYTE_SHIFT" "I" (.int 8)) :
    Ctr l Z (⟨"java/lang/StringUTF16", "putChar", "([BII)V"⟩ : MethodName) jdk_52_method_4_code 3 none ({ frames := 0, cells := 0, slots := 0, locals := 0 } : Room) #[.ref aB, .int (Int32.ofNat i), .int c] h0 (fun v h L => v = none ∧ Fr n0 L ∧ Keep h0 h [aB] ∧ Av Z h aB .byte ((vs.set (2 * i) (.int (own_lo c))).set (2 * i + 1) (.int (own_hi c)))) := by
  refine Ctr.of pn_23 ?_
  intro p e s m below meth cc T0 X0 B e0
  refine Go.cast (f' := mkF m 0 #[.val (.ref aB), .val (.int (Int32.ofNat i)), .val (.int c)] []) (by first | rfl | (simp [entryFrame, mkF, argsToLocals, Value.category, maxLocals]; done)) ?_

  refine g_getS X0 B d23_0 3 rfl (hw _ (List.mem_of_getElem? (i := 101) rfl)) Via.refl e0 SA (fun T1 X1 e1 => ?_)
  refine g_if_ne X1 B d23_3 28 6 rfl (by decide) rfl (fun _ => ?_) (fun z => own_abs' (by decide) z)
  refine g_iloadN X1 B d23_28 29 rfl rfl ?_
  refine g_iconst X1 B (1) d23_29 30 rfl rfl ?_
  refine g_ishl X1 B d23_30 31 rfl ?_
  rw [own_shl1 (by omega)]
  refine g_istoreN X1 B #[.val (.ref aB), .val (.int (Int32.ofNat (2 * i))), .val (.int c)] d23_31 32 rfl rfl ?_
  refine g_aloadN X1 B d23_32 33 rfl rfl rfl ?_
  refine g_iloadN X1 B d23_33 34 rfl rfl ?_
  refine g_iinc X1 B #[.val (.ref aB), .val (.int ((Int32.ofNat (2 * i)) + (1))), .val (.int c)] (1) d23_34 37 rfl rfl rfl rfl ?_
  refine g_iloadN X1 B d23_37 38 rfl rfl ?_
  refine g_getS X1 B d23_38 41 rfl (hw _ (List.mem_of_getElem? (i := 102) rfl)) Via.refl e1 SH (fun T2 X2 e2 => ?_)
  refine g_ishr X2 B d23_41 42 rfl ?_
  rw [own_shr0]
  refine g_i2b X2 B d23_42 43 rfl ?_
  refine g_bastoreB X2 B (2 * i) d23_43 44 rfl e2 AB (own_tn (by omega)) (own_nn (by omega)) (by omega) (fun T3 h3 X3 e3 W3 A3 => ?_)
  rw [own_nb] at A3 W3
  rw [own_s1 (by omega)]
  refine g_aloadN X3 B d23_44 45 rfl rfl rfl ?_
  refine g_iloadN X3 B d23_45 46 rfl rfl ?_
  refine g_iloadN X3 B d23_46 47 rfl rfl ?_
  have t1 := (Sta.wr W3 SLo)
  refine g_getS X3 B d23_47 50 rfl (hw _ (List.mem_of_getElem? (i := 103) rfl)) Via.refl e3 t1 (fun T4 X4 e4 => ?_)
  refine g_ishr X4 B d23_50 51 rfl ?_
  refine g_i2b X4 B d23_51 52 rfl ?_
  refine g_bastoreB X4 B (2 * i + 1) d23_52 53 rfl e4 A3 (own_tn (by omega)) (own_nn (by omega)) (by simp; omega) (fun T5 h5 X5 e5 W5 A5 => ?_)
  rw [own_nb] at A5 W5
  exact g_retV X5 B d23_53 rfl (by decide) (by decide) e5 ⟨rfl, (Fr.snoc X5 (Fr.snoc X3 (Fr.nil n0) gB) gB), ((Keep.refl _ _).wr W3 (Or.inl (List.mem_singleton.mpr rfl))).wr W5 (Or.inl (List.mem_singleton.mpr rfl)), A5⟩
set_option maxRecDepth 65536 in
set_option maxHeartbeats 40000000 in
theorem rS_get (l : Launch) (Z : State) (ag : Array Value) (hw : ∀ d ∈ tables_1, d.before ag Z = true) (aB : Addr) (i : Nat) (c : Int32) (vs : List Value) (h0 : Heap) (n0 : Nat) (AB : Av Z h0 aB .byte vs) (hl : vs.length ≤ 8) (v1 : vs[2 * i]? = some (.int (own_lo c))) (v2 : vs[2 * i + 1]? = some (.int (own_hi c))) (hc : own_ch c) (SA : Sta Z h0 "java/lang/StringUTF16" "$assertionsDisabled" "Z" (.int 1)) (SH : Sta Z h0 "java/lang/StringUTF16" "HI_BYTE_SHIFT" "I" (.int 0)) (SLo : Sta Z h0 "java/lang/StringUTF16" "LO_BYTE_SHIFT" "I" (.int 8)) :
    Ctr l Z (⟨"java/lang/StringUTF16", "getChar", "([BI)C"⟩ : MethodName) jdk_52_method_5_code 2 (some .char) ({ frames := 0, cells := 0, slots := 0, locals := 0 } : Room) #[.ref aB, .int (Int32.ofNat i)] h0 (fun v h L => v = some (.int c) ∧ Fr n0 L ∧ h0 = h) := by
  refine Ctr.of pn_24 ?_
  intro p e s m below meth cc T0 X0 B e0
  refine Go.cast (f' := mkF m 0 #[.val (.ref aB), .val (.int (Int32.ofNat i))] []) (by first | rfl | (simp [entryFrame, mkF, argsToLocals, Value.category, maxLocals]; done)) ?_

  have hi : 2 * i + 1 < vs.length := (List.getElem?_eq_some_iff.mp v2).1
  refine g_getS X0 B d24_0 3 rfl (hw _ (List.mem_of_getElem? (i := 101) rfl)) Via.refl e0 SA (fun T1 X1 e1 => ?_)
  refine g_if_ne X1 B d24_3 28 6 rfl (by decide) rfl (fun _ => ?_) (fun z => own_abs' (by decide) z)
  refine g_iloadN X1 B d24_28 29 rfl rfl ?_
  refine g_iconst X1 B (1) d24_29 30 rfl rfl ?_
  refine g_ishl X1 B d24_30 31 rfl ?_
  rw [own_shl1 (by omega)]
  refine g_istoreN X1 B #[.val (.ref aB), .val (.int (Int32.ofNat (2 * i)))] d24_31 32 rfl rfl ?_
  refine g_aloadN X1 B d24_32 33 rfl rfl rfl ?_
  refine g_iloadN X1 B d24_33 34 rfl rfl ?_
  refine g_iinc X1 B #[.val (.ref aB), .val (.int ((Int32.ofNat (2 * i)) + (1)))] (1) d24_34 37 rfl rfl rfl rfl ?_
  refine g_baloadB X1 B (2 * i) d24_37 38 rfl e1 AB (own_tn (by omega)) (own_nn (by omega)) v1 ?_
  refine g_sipush X1 B (255) d24_38 41 rfl rfl ?_
  refine g_iand X1 B d24_41 42 rfl ?_
  refine g_getS X1 B d24_42 45 rfl (hw _ (List.mem_of_getElem? (i := 102) rfl)) Via.refl e1 SH (fun T2 X2 e2 => ?_)
  refine g_ishl X2 B d24_45 46 rfl ?_
  rw [own_s1 (by omega)]
  refine g_aloadN X2 B d24_46 47 rfl rfl rfl ?_
  refine g_iloadN X2 B d24_47 48 rfl rfl ?_
  refine g_baloadB X2 B (2 * i + 1) d24_48 49 rfl e2 AB (own_tn (by omega)) (own_nn (by omega)) v2 ?_
  refine g_sipush X2 B (255) d24_49 52 rfl rfl ?_
  refine g_iand X2 B d24_52 53 rfl ?_
  refine g_getS X2 B d24_53 56 rfl (hw _ (List.mem_of_getElem? (i := 103) rfl)) Via.refl e2 SLo (fun T3 X3 e3 => ?_)
  refine g_ishl X3 B d24_56 57 rfl ?_
  refine g_ior X3 B d24_57 58 rfl ?_
  refine g_i2c X3 B d24_58 59 rfl ?_
  rw [own_get hc]
  exact g_retN X3 B d24_59 rfl (by have q := own_nc hc; simpa [narrow, nar] using q) (by decide) (by decide) (by decide) e3 ⟨rfl, (Fr.nil n0), rfl⟩
def own_QT (Z : State) (h0 : Heap) (n0 : Nat) (cs : List Int32) (v : Option Value) (h : Heap) (L : List Loc) : Prop := ∃ a vs, v = some (.ref a) ∧ Fr n0 L ∧ Keep h0 h [] ∧ Av Z h a .byte vs ∧ own_U vs cs ∧ h0.size ≤ a ∧ n0 ≤ a
set_option maxRecDepth 65536 in
set_option maxHeartbeats 40000000 in
theorem rS_tob (l : Launch) (Z : State) (ag : Array Value) (hw : ∀ d ∈ tables_1, d.before ag Z = true) (aS : Addr) (cs : List Int32) (h0 : Heap) (n0 : Nat) (Z0 : n0 ≤ h0.size) (hn : cs.length ≤ 4) (AS : Av Z h0 aS .char (cs.map Value.int)) (SA : Sta Z h0 "java/lang/StringUTF16" "$assertionsDisabled" "Z" (.int 1)) (SH : Sta Z h0 "java/lang/StringUTF16" "HI_BYTE_SHIFT" "I" (.int 0)) (SLo : Sta Z h0 "java/lang/StringUTF16" "LO_BYTE_SHIFT" "I" (.int 8)) :
    Ctr l Z (⟨"java/lang/StringUTF16", "toBytes", "([CII)[B"⟩ : MethodName) jdk_52_method_14_code 5 (some (.array .byte)) ({ frames := 2, cells := 1, slots := 8, locals := 24 } : Room) #[.ref aS, .int (0 : Int32), .int (Int32.ofNat cs.length)] h0 (own_QT Z h0 n0 cs) := by
  refine Ctr.of pn_20 ?_
  intro p e s m below meth c T0 X0 B e0
  refine Go.cast (f' := mkF m 0 #[.val (.ref aS), .val (.int (0 : Int32)), .val (.int (Int32.ofNat cs.length)), .unset, .unset] []) (by first | rfl | (simp [entryFrame, mkF, argsToLocals, Value.category, maxLocals]; done)) ?_

  refine g_iloadN X0 B d20_0 1 rfl rfl ?_
  refine g_callS X0 B [.int (Int32.ofNat cs.length)] [] d20_1 4 rfl rfl (hw _ (List.mem_of_getElem? (i := 91) rfl)) (hw _ (List.mem_of_getElem? (i := 92) rfl)) (hw _ (List.mem_of_getElem? (i := 74) rfl)) (hw _ (List.mem_of_getElem? (i := 93) rfl)) (by decide) (lenOf pd_21 rfl) (rS_nbf l Z ag hw cs.length hn h0 n0 Z0) e0 rfl 0 (Nat.le_of_eq rfl) (by decide) (by decide) (by decide) (by decide) (fun v1 T1 h1 L1 X1 e1 q1 => ?_)
  obtain ⟨aB, rfl, N1, K1, AB, gh, gB⟩ := q1
  show Go p e below _ (T1.setTop (mkF m 4 #[.val (.ref aS), .val (.int (0 : Int32)), .val (.int (Int32.ofNat cs.length)), .unset, .unset] [.ref aB]))
  refine g_astoreN X1 B #[.val (.ref aS), .val (.int (0 : Int32)), .val (.int (Int32.ofNat cs.length)), .val (.ref aB), .unset] d20_4 5 rfl rfl rfl ?_
  refine g_iconst X1 B (0) d20_5 6 rfl rfl ?_
  refine g_istore X1 B #[.val (.ref aS), .val (.int (0 : Int32)), .val (.int (Int32.ofNat cs.length)), .val (.ref aB), .val (.int (0 : Int32))] d20_6 8 rfl rfl ?_
  have ne1 : aS ≠ aB := fun q => absurd (q ▸ AS.lt) (Nat.not_lt.mpr gh)
  have loop : ∀ (k i : Nat) (T : State) (hh : Heap) (vs : List Value) (Lo : List Loc), i + k = cs.length → Stand p l e ({ frames := 2, cells := 1, slots := 8, locals := 24 } : Room) s m #[.ref aS, .int (0 : Int32), .int (Int32.ofNat cs.length)] below meth c T Lo 1 8 → T.heap = hh → Av Z hh aS .char (cs.map Value.int) → Av Z hh aB .byte vs → own_Up vs cs i → Keep h0 hh [] → Fr n0 Lo → Sta Z hh "java/lang/StringUTF16" "$assertionsDisabled" "Z" (.int 1) → Sta Z hh "java/lang/StringUTF16" "HI_BYTE_SHIFT" "I" (.int 0) → Sta Z hh "java/lang/StringUTF16" "LO_BYTE_SHIFT" "I" (.int 8) → Go p e below (EndsQ s (own_QT Z h0 n0 cs) ({ frames := 2, cells := 1, slots := 8, locals := 24 } : Room).cells ({ frames := 2, cells := 1, slots := 8, locals := 24 } : Room).slots) (T.setTop (mkF m 8 #[.val (.ref aS), .val (.int (Int32.ofNat i)), .val (.int (Int32.ofNat cs.length)), .val (.ref aB), .val (.int (Int32.ofNat i))] [])) := by
    intro k
    induction k with
    | zero =>
      intro i T hh vs Lo hk X eh AS AB hU K N SA SH SLo
      refine g_iload X B d20_8 10 rfl rfl ?_
      refine g_iloadN X B d20_10 11 rfl rfl ?_
      refine g_icmp_ge X B d20_11 32 14 rfl (by decide) rfl (fun _ => ?_) (fun z => own_abs' (fun z => absurd ((own_lt (by omega) (by omega)).mp z) (by omega)) z)
      refine g_aloadN X B d20_32 33 rfl rfl rfl ?_
      exact g_retA X B d20_33 rfl rfl rfl (by decide) (by decide) eh ⟨aB, vs, rfl, N, K, AB, own_UpE (by omega) hU, gh, gB⟩
    | succ k ih =>
      intro i T hh vs Lo hk X eh AS AB hU K N SA SH SLo
      obtain ⟨c0, hc⟩ := own_ex (cs := cs) (i := i) (by omega)
      refine g_iload X B d20_8 10 rfl rfl ?_
      refine g_iloadN X B d20_10 11 rfl rfl ?_
      refine g_icmp_ge X B d20_11 32 14 rfl (by decide) rfl (fun z => own_abs ((own_lt (by omega) (by omega)).mpr (by omega)) z) (fun _ => ?_)
      refine g_aloadN X B d20_14 15 rfl rfl rfl ?_
      refine g_iload X B d20_15 17 rfl rfl ?_
      refine g_aloadN X B d20_17 18 rfl rfl rfl ?_
      refine g_iloadN X B d20_18 19 rfl rfl ?_
      refine g_caload X B i d20_19 20 rfl eh AS (own_tn (by omega)) (own_nn (by omega)) (own_mapat hc) ?_
      refine g_callS X B [.ref aB, .int (Int32.ofNat i), .int c0] [] d20_20 23 rfl rfl (hw _ (List.mem_of_getElem? (i := 98) rfl)) (hw _ (List.mem_of_getElem? (i := 99) rfl)) (hw _ (List.mem_of_getElem? (i := 74) rfl)) (hw _ (List.mem_of_getElem? (i := 100) rfl)) (by decide) (lenOf pd_23 rfl) (rS_put l Z ag hw aB i c0 vs hh n0 gB AB (by rw [hU.1]; omega) (by rw [hU.1]; omega) SA SH SLo) eh rfl 0 (Nat.le_of_eq rfl) (by decide) (by decide) (by decide) (by decide) (fun v1 T1 h1 L1 X1 e1 q1 => ?_)
      obtain ⟨rfl, N1, K1, A1⟩ := q1
      show Go p e below _ (T1.setTop (mkF m 23 #[.val (.ref aS), .val (.int (Int32.ofNat i)), .val (.int (Int32.ofNat cs.length)), .val (.ref aB), .val (.int (Int32.ofNat i))] []))
      refine g_iinc X1 B #[.val (.ref aS), .val (.int ((Int32.ofNat i) + (1))), .val (.int (Int32.ofNat cs.length)), .val (.ref aB), .val (.int (Int32.ofNat i))] (1) d20_23 26 rfl rfl rfl rfl ?_
      refine g_iinc X1 B #[.val (.ref aS), .val (.int ((Int32.ofNat i) + (1))), .val (.int (Int32.ofNat cs.length)), .val (.ref aB), .val (.int ((Int32.ofNat i) + (1)))] (1) d20_26 29 rfl rfl rfl rfl ?_
      refine g_goto X1 B d20_29 8 rfl (by decide) ?_
      rw [own_s1 (by omega)]
      exact ih (i + 1) _ _ _ _ (by omega) X1 e1 (AS.keep K1 (ninS ne1 nin0)) A1 (own_Ups hU hc) (K.trans K1 (allS (Or.inr gh) all0)) (N.app N1) (own_stkw SA K1 (own_plA AB own_pl0)) (own_stkw SH K1 (own_plA AB own_pl0)) (own_stkw SLo K1 (own_plA AB own_pl0))
  exact loop cs.length 0 _ _ _ _ (by omega) X1 e1 (AS.keep K1 nin0) AB (own_Up0 rfl) K1 (Fr.app (Fr.nil n0) N1) (own_stk SA K1) (own_stk SH K1) (own_stk SLo K1)
def own_QC (Z : State) (h0 : Heap) (n0 : Nat) (aB : Addr) (cs : List Int32) (v : Option Value) (h : Heap) (L : List Loc) : Prop := ∃ r vs, v = some (.int r) ∧ Fr n0 L ∧ Keep h0 h [aB] ∧ Av Z h aB .byte vs ∧ ((r = Int32.ofNat cs.length ∧ own_L vs cs) ∨ (∃ i c, i < cs.length ∧ r = Int32.ofNat i ∧ cs[i]? = some c ∧ 255 < c))
set_option maxRecDepth 65536 in
set_option maxHeartbeats 40000000 in
theorem rS_c5 (l : Launch) (Z : State) (ag : Array Value) (hw : ∀ d ∈ tables_1, d.before ag Z = true) (aS aB : Addr) (cs : List Int32) (vs0 : List Value) (h0 : Heap) (n0 : Nat) (hn : cs.length ≤ 4) (gB : n0 ≤ aB) (AS : Av Z h0 aS .char (cs.map Value.int)) (AB : Av Z h0 aB .byte vs0) (hL : own_Lp vs0 cs 0) :
    Ctr l Z (⟨"java/lang/StringUTF16", "compress", "([CI[BII)I"⟩ : MethodName) jdk_52_method_21_code 7 (some .int) ({ frames := 0, cells := 0, slots := 0, locals := 0 } : Room) #[.ref aS, .int (0 : Int32), .ref aB, .int (0 : Int32), .int (Int32.ofNat cs.length)] h0 (own_QC Z h0 n0 aB cs) := by
  refine Ctr.of pn_16 ?_
  intro p e s m below meth c T0 X0 B e0
  refine Go.cast (f' := mkF m 0 #[.val (.ref aS), .val (.int (0 : Int32)), .val (.ref aB), .val (.int (0 : Int32)), .val (.int (Int32.ofNat cs.length)), .unset, .unset] []) (by first | rfl | (simp [entryFrame, mkF, argsToLocals, Value.category, maxLocals]; done)) ?_

  have ne1 : aS ≠ aB := own_avN AS AB (by decide)
  refine g_iconst X0 B (0) d16_0 1 rfl rfl ?_
  refine g_istore X0 B #[.val (.ref aS), .val (.int (0 : Int32)), .val (.ref aB), .val (.int (0 : Int32)), .val (.int (Int32.ofNat cs.length)), .val (.int (0 : Int32)), .unset] d16_1 3 rfl rfl ?_
  have loop : ∀ (k i : Nat) (T : State) (hh : Heap) (vs : List Value) (Lo : List Loc) (o6 : Slot), i + k = cs.length → Stand p l e ({ frames := 0, cells := 0, slots := 0, locals := 0 } : Room) s m #[.ref aS, .int (0 : Int32), .ref aB, .int (0 : Int32), .int (Int32.ofNat cs.length)] below meth c T Lo 0 0 → T.heap = hh → Av Z hh aS .char (cs.map Value.int) → Av Z hh aB .byte vs → own_Lp vs cs i → Keep h0 hh [aB] → Fr n0 Lo → One o6 → Go p e below (EndsQ s (own_QC Z h0 n0 aB cs) ({ frames := 0, cells := 0, slots := 0, locals := 0 } : Room).cells ({ frames := 0, cells := 0, slots := 0, locals := 0 } : Room).slots) (T.setTop (mkF m 3 #[.val (.ref aS), .val (.int (Int32.ofNat i)), .val (.ref aB), .val (.int (Int32.ofNat i)), .val (.int (Int32.ofNat cs.length)), .val (.int (Int32.ofNat i)), o6] [])) := by
    intro k
    induction k with
    | zero =>
      intro i T hh vs Lo o6 hk X eh AS AB hL K N O
      refine g_iload X B d16_3 5 rfl rfl ?_
      refine g_iload X B d16_5 7 rfl rfl ?_
      refine g_icmp_ge X B d16_7 44 10 rfl (by decide) rfl (fun _ => ?_) (fun z => own_abs' (fun z => absurd ((own_lt (by omega) (by omega)).mp z) (by omega)) z)
      refine g_iload X B d16_44 46 rfl rfl ?_
      exact g_retI X B d16_46 rfl (by decide) (by decide) eh ⟨_, vs, rfl, N, K, AB, Or.inl ⟨rfl, own_LpE (by omega) hL⟩⟩
    | succ k ih =>
      intro i T hh vs Lo o6 hk X eh AS AB hL K N O
      obtain ⟨c0, hc⟩ := own_ex (cs := cs) (i := i) (by omega)
      refine g_iload X B d16_3 5 rfl rfl ?_
      refine g_iload X B d16_5 7 rfl rfl ?_
      refine g_icmp_ge X B d16_7 44 10 rfl (by decide) rfl (fun z => own_abs ((own_lt (by omega) (by omega)).mpr (by omega)) z) (fun _ => ?_)
      refine g_aloadN X B d16_10 11 rfl rfl rfl ?_
      refine g_iloadN X B d16_11 12 rfl rfl ?_
      refine g_caload X B i d16_12 13 rfl eh AS (own_tn (by omega)) (own_nn (by omega)) (own_mapat hc) ?_
      refine g_istore X B #[.val (.ref aS), .val (.int (Int32.ofNat i)), .val (.ref aB), .val (.int (Int32.ofNat i)), .val (.int (Int32.ofNat cs.length)), .val (.int (Int32.ofNat i)), .val (.int c0)] d16_13 15 rfl (XS.store1 rfl O rfl) ?_
      refine g_iload X B d16_15 17 rfl rfl ?_
      refine g_sipush X B (255) d16_17 20 rfl rfl ?_
      refine g_icmp_le X B d16_20 26 23 rfl (by decide) rfl (fun c1 => ?_) (fun c1 => ?_)
      · skip
        refine g_aloadN X B d16_26 27 rfl rfl rfl ?_
        refine g_iloadN X B d16_27 28 rfl rfl ?_
        refine g_iload X B d16_28 30 rfl rfl ?_
        refine g_i2b X B d16_30 31 rfl ?_
        refine g_bastoreB X B i d16_31 32 rfl eh AB (own_tn (by omega)) (own_nn (by omega)) (by rw [hL.1]; omega) (fun T2 h2 X2 e2 W2 A2 => ?_)
        rw [own_nb] at A2 W2
        refine g_iinc X2 B #[.val (.ref aS), .val (.int ((Int32.ofNat i) + (1))), .val (.ref aB), .val (.int (Int32.ofNat i)), .val (.int (Int32.ofNat cs.length)), .val (.int (Int32.ofNat i)), .val (.int c0)] (1) d16_32 35 rfl rfl rfl rfl ?_
        refine g_iinc X2 B #[.val (.ref aS), .val (.int ((Int32.ofNat i) + (1))), .val (.ref aB), .val (.int ((Int32.ofNat i) + (1))), .val (.int (Int32.ofNat cs.length)), .val (.int (Int32.ofNat i)), .val (.int c0)] (1) d16_35 38 rfl rfl rfl rfl ?_
        refine g_iinc X2 B #[.val (.ref aS), .val (.int ((Int32.ofNat i) + (1))), .val (.ref aB), .val (.int ((Int32.ofNat i) + (1))), .val (.int (Int32.ofNat cs.length)), .val (.int ((Int32.ofNat i) + (1))), .val (.int c0)] (1) d16_38 41 rfl rfl rfl rfl ?_
        refine g_goto X2 B d16_41 3 rfl (by decide) ?_
        rw [own_s1 (by omega)]
        exact ih (i + 1) _ _ _ _ _ (by omega) X2 e2 (AS.other W2 ne1) A2 (own_Lps hL hc c1) (K.wr W2 (Or.inl (List.mem_singleton.mpr rfl))) (Fr.snoc X2 N gB) (One.val rfl)
      · skip
        refine g_iload X B d16_23 25 rfl rfl ?_
        exact g_retI X B d16_25 rfl (by decide) (by decide) eh ⟨_, vs, rfl, N, K, AB, Or.inr ⟨i, c0, by omega, rfl, hc, c1⟩⟩
  exact loop cs.length 0 _ _ _ _ _ (by omega) X0 e0 AS AB hL (Keep.refl _ _) (Fr.nil n0) One.u
set_option maxRecDepth 65536 in
set_option maxHeartbeats 40000000 in
theorem rS_c3 (l : Launch) (Z : State) (ag : Array Value) (hw : ∀ d ∈ tables_1, d.before ag Z = true) (aS : Addr) (cs : List Int32) (h0 : Heap) (n0 : Nat) (Z0 : n0 ≤ h0.size) (hn : cs.length ≤ 4) (hcs : ∀ c ∈ cs, own_ch c) (AS : Av Z h0 aS .char (cs.map Value.int)) (SA : Sta Z h0 "java/lang/StringUTF16" "$assertionsDisabled" "Z" (.int 1)) (SH : Sta Z h0 "java/lang/StringUTF16" "HI_BYTE_SHIFT" "I" (.int 0)) (SLo : Sta Z h0 "java/lang/StringUTF16" "LO_BYTE_SHIFT" "I" (.int 8)) :
    Ctr l Z (⟨"java/lang/StringUTF16", "compress", "([CII)[B"⟩ : MethodName) jdk_52_method_16_code 6 (some (.array .byte)) ({ frames := 3, cells := 2, slots := 12, locals := 40 } : Room) #[.ref aS, .int (0 : Int32), .int (Int32.ofNat cs.length)] h0 (fun v h L => ∃ a vs, v = some (.ref a) ∧ Fr n0 L ∧ Keep h0 h [] ∧ Av Z h a .byte vs ∧ (own_L vs cs ∨ own_U vs cs) ∧ h0.size ≤ a ∧ n0 ≤ a) := by
  refine Ctr.of pn_15 ?_
  intro p e s m below meth c T0 X0 B e0
  refine Go.cast (f' := mkF m 0 #[.val (.ref aS), .val (.int (0 : Int32)), .val (.int (Int32.ofNat cs.length)), .unset, .unset, .unset] []) (by first | rfl | (simp [entryFrame, mkF, argsToLocals, Value.category, maxLocals]; done)) ?_

  refine g_iloadN X0 B d15_0 1 rfl rfl ?_
  refine g_newP X0 B (List.replicate cs.length (.int 0)) d15_1 3 rfl (hw _ (List.mem_of_getElem? (i := 21) rfl)) e0 (own_nn (by omega)) (by rw [own_tn (by omega)]; rfl) (by simp; omega) (by decide) (by simp; omega) (fun T1 h1 aB X1' e1 ea Ea AB => ?_)
  have X1 := X1'.more (Nat.le_refl _) (show 0 + (List.replicate cs.length (Value.int 0)).length ≤ 4 by simp; omega)
  have gB : n0 ≤ aB := ea ▸ Z0
  refine g_astoreN X1 B #[.val (.ref aS), .val (.int (0 : Int32)), .val (.int (Int32.ofNat cs.length)), .val (.ref aB), .unset, .unset] d15_3 4 rfl rfl rfl ?_
  refine g_aloadN X1 B d15_4 5 rfl rfl rfl ?_
  refine g_iloadN X1 B d15_5 6 rfl rfl ?_
  refine g_aloadN X1 B d15_6 7 rfl rfl rfl ?_
  refine g_iconst X1 B (0) d15_7 8 rfl rfl ?_
  refine g_iloadN X1 B d15_8 9 rfl rfl ?_
  refine g_callS X1 B [.ref aS, .int (0 : Int32), .ref aB, .int (0 : Int32), .int (Int32.ofNat cs.length)] [] d15_9 12 rfl rfl (hw _ (List.mem_of_getElem? (i := 76) rfl)) (hw _ (List.mem_of_getElem? (i := 77) rfl)) (hw _ (List.mem_of_getElem? (i := 74) rfl)) (hw _ (List.mem_of_getElem? (i := 78) rfl)) (by decide) (lenOf pd_16 rfl) (rS_c5 l Z ag hw aS aB cs _ h1 n0 hn gB (AS.ext Ea) AB (own_Lp0 rfl)) e1 rfl 0 (Nat.le_of_eq rfl) (by decide) (by decide) (by decide) (by decide) (fun v2 T2 h2 L2 X2 e2 q2 => ?_)
  obtain ⟨r, vs, rfl, N2, K2, A2, D2⟩ := q2
  show Go p e below _ (T2.setTop (mkF m 12 #[.val (.ref aS), .val (.int (0 : Int32)), .val (.int (Int32.ofNat cs.length)), .val (.ref aB), .unset, .unset] [.int r]))
  refine g_istore X2 B #[.val (.ref aS), .val (.int (0 : Int32)), .val (.int (Int32.ofNat cs.length)), .val (.ref aB), .val (.int r), .unset] d15_12 14 rfl rfl ?_
  refine g_iload X2 B d15_14 16 rfl rfl ?_
  refine g_iloadN X2 B d15_16 17 rfl rfl ?_
  refine g_icmp_eq X2 B d15_17 57 20 rfl (by decide) rfl (fun c3 => ?_) (fun c3 => ?_)
  · skip
    refine g_aloadN X2 B d15_57 58 rfl rfl rfl ?_
    exact g_retA X2 B d15_58 rfl rfl rfl (by decide) (by decide) e2 ⟨aB, vs, rfl, ((Fr.nil n0).app N2), ((Keep.refl h0 []).ext Ea).trans K2 (allS (Or.inr (Nat.le_of_eq ea.symm)) all0), A2, Or.inl (by
        rcases D2 with ⟨-, q⟩ | ⟨i, c0, hi, q, -⟩
        · exact q
        · exact absurd (own_inj (by omega) (by omega) (q.symm.trans c3)) (by omega)), Nat.le_of_eq ea.symm, gB⟩
  · skip
    refine g_aloadN X2 B d15_20 21 rfl rfl rfl ?_
    refine g_iloadN X2 B d15_21 22 rfl rfl ?_
    refine g_iloadN X2 B d15_22 23 rfl rfl ?_
    obtain ⟨i, c0, hi, rfl, hc, hb⟩ := D2.resolve_left (fun z => c3 z.1)
    have K20 : Keep h0 h2 [] := ((Keep.refl h0 []).ext Ea).trans K2 (allS (Or.inr (Nat.le_of_eq ea.symm)) all0)
    refine g_callS X2 B [.ref aS, .int (0 : Int32), .int (Int32.ofNat cs.length)] [] d15_23 26 rfl rfl (hw _ (List.mem_of_getElem? (i := 88) rfl)) (hw _ (List.mem_of_getElem? (i := 89) rfl)) (hw _ (List.mem_of_getElem? (i := 74) rfl)) (hw _ (List.mem_of_getElem? (i := 90) rfl)) (by decide) (lenOf pd_20 rfl) (rS_tob l Z ag hw aS cs h2 n0 (Nat.le_trans Z0 K20.1) hn (AS.keep K20 nin0) (own_stk SA K20) (own_stk SH K20) (own_stk SLo K20)) e2 rfl 0 (Nat.le_of_eq rfl) (by decide) (by decide) (by decide) (by decide) (fun v4 T4 h4 L4 X4 e4 q4 => ?_)
    obtain ⟨aU, us, rfl, N4, K4, AU, hU, gh, gU⟩ := q4
    show Go p e below _ (T4.setTop (mkF m 26 #[.val (.ref aS), .val (.int (0 : Int32)), .val (.int (Int32.ofNat cs.length)), .val (.ref aB), .val (.int (Int32.ofNat i)), .unset] [.ref aU]))
    refine g_astore X4 B #[.val (.ref aS), .val (.int (0 : Int32)), .val (.int (Int32.ofNat cs.length)), .val (.ref aB), .val (.int (Int32.ofNat i)), .val (.ref aU)] d15_26 28 rfl rfl rfl ?_
    refine g_aload X4 B d15_28 30 rfl rfl rfl ?_
    refine g_iload X4 B d15_30 32 rfl rfl ?_
    have K40 : Keep h0 h4 [] := K20.trans K4 all0
    refine g_callS X4 B [.ref aU, .int (Int32.ofNat i)] [] d15_32 35 rfl rfl (hw _ (List.mem_of_getElem? (i := 104) rfl)) (hw _ (List.mem_of_getElem? (i := 105) rfl)) (hw _ (List.mem_of_getElem? (i := 74) rfl)) (hw _ (List.mem_of_getElem? (i := 106) rfl)) (by decide) (lenOf pd_24 rfl) (rS_get l Z ag hw aU i c0 us h4 n0 AU (by rw [hU.1]; omega) (hU.2 i c0 hi hc).1 (hU.2 i c0 hi hc).2 (hcs c0 (List.mem_of_getElem? hc)) (own_stk SA K40) (own_stk SH K40) (own_stk SLo K40)) e4 rfl 0 (Nat.le_of_eq rfl) (by decide) (by decide) (by decide) (by decide) (fun v5 T5 h5 L5 X5 e5 q5 => ?_)
    obtain ⟨rfl, N5, rfl⟩ := q5
    show Go p e below _ (T5.setTop (mkF m 35 #[.val (.ref aS), .val (.int (0 : Int32)), .val (.int (Int32.ofNat cs.length)), .val (.ref aB), .val (.int (Int32.ofNat i)), .val (.ref aU)] [.int c0]))
    refine g_sipush X5 B (255) d15_35 38 rfl rfl ?_
    refine g_icmp_gt X5 B d15_38 54 41 rfl (by decide) rfl (fun _ => ?_) (fun z => own_abs (hb) z)
    refine g_aload X5 B d15_54 56 rfl rfl rfl ?_
    exact g_retA X5 B d15_56 rfl rfl rfl (by decide) (by decide) e5 ⟨aU, us, rfl, ((((Fr.nil n0).app N2).app N4).app N5), K40, AU, Or.inr hU, Nat.le_trans K20.1 gh, gU⟩
set_option maxRecDepth 65536 in
set_option maxHeartbeats 40000000 in
theorem rS_cfa (l : Launch) (Z : State) (ag : Array Value) (hw : ∀ d ∈ tables_1, d.before ag Z = true) (a : Addr) (n : Nat) (k : Int32) (vs : List Value) (h0 : Heap) (n0 : Nat) (hn : n ≤ 4) (hp : 0 < n) (A : Av Z h0 a .byte vs) (hk : (k = 0 ∧ vs.length = n) ∨ (k = 1 ∧ vs.length = 2 * n)) :
    Ctr l Z (⟨"java/lang/StringUTF16", "coderFromArrayLen", "([BI)B"⟩ : MethodName) jdk_52_method_15_code 2 (some .byte) ({ frames := 0, cells := 0, slots := 0, locals := 0 } : Room) #[.ref a, .int (Int32.ofNat n)] h0 (fun v h L => v = some (.int k) ∧ Fr n0 L ∧ h0 = h) := by
  refine Ctr.of pn_17 ?_
  intro p e s m below meth c T0 X0 B e0
  refine Go.cast (f' := mkF m 0 #[.val (.ref a), .val (.int (Int32.ofNat n))] []) (by first | rfl | (simp [entryFrame, mkF, argsToLocals, Value.category, maxLocals]; done)) ?_

  refine g_iloadN X0 B d17_0 1 rfl rfl ?_
  refine g_aloadN X0 B d17_1 2 rfl rfl rfl ?_
  refine g_arrlen X0 B (Int32.ofNat vs.length) d17_2 3 rfl e0 A rfl ?_
  refine g_isub X0 B d17_3 4 rfl ?_
  refine g_bipush X0 B (31) d17_4 6 rfl rfl ?_
  refine g_iushr X0 B d17_6 7 rfl ?_
  refine g_i2b X0 B d17_7 8 rfl ?_
  rw [show (XT.ushr (Int32.ofNat n - Int32.ofNat vs.length) 31).toInt8.toInt32 = k by
      rcases hk with ⟨rfl, q⟩ | ⟨rfl, q⟩
      · rw [q]; exact own_cfal n hn
      · rw [q]; exact own_cfal2 n hn hp]
  exact g_retN X0 B d17_8 rfl (own_kb (hk.imp And.left And.left)) (by decide) (by decide) (by decide) e0 ⟨rfl, (Fr.nil n0), rfl⟩
set_option maxRecDepth 65536 in
set_option maxHeartbeats 40000000 in
theorem rS_i4 (l : Launch) (Z : State) (ag : Array Value) (hw : ∀ d ∈ tables_1, d.before ag Z = true) (a aS : Addr) (cs : List Int32) (cx : Int32) (h0 : Heap) (n0 : Nat) (Z0 : n0 ≤ h0.size) (hn : cs.length ≤ 4) (hp : 0 < cs.length) (hcs : ∀ c ∈ cs, own_ch c) (ga : n0 ≤ a) (Ea : Exa Z h0 a "java/lang/String") (FV : Fld Z h0 a "java/lang/String" "value" "[B" (.null)) (FC : Fld Z h0 a "java/lang/String" "coder" "B" (.int 0)) (AS : Av Z h0 aS .char (cs.map Value.int)) (SA : Sta Z h0 "java/lang/StringUTF16" "$assertionsDisabled" "Z" (.int 1)) (SH : Sta Z h0 "java/lang/StringUTF16" "HI_BYTE_SHIFT" "I" (.int 0)) (SLo : Sta Z h0 "java/lang/StringUTF16" "LO_BYTE_SHIFT" "I" (.int 8)) (SC : Sta Z h0 "java/lang/String" "COMPACT_STRINGS" "Z" (.int cx)) (hcx : ¬ cx = 0) :
    Ctr l Z (⟨"java/lang/String", "<init>", "([CIILjava/lang/Void;)V"⟩ : MethodName) jdk_42_method_149_code 6 none ({ frames := 4, cells := 2, slots := 12, locals := 57 } : Room) #[.ref a, .ref aS, .int (0 : Int32), .int (Int32.ofNat cs.length), .null] h0 (fun v h L => ∃ b vs k, v = none ∧ Fr n0 L ∧ Keep h0 h [a] ∧ Fld Z h a "java/lang/String" "value" "[B" (.ref b) ∧ Fld Z h a "java/lang/String" "coder" "B" (.int k) ∧ Av Z h b .byte vs ∧ own_SV k vs cs ∧ h0.size ≤ b ∧ n0 ≤ b) := by
  refine Ctr.of pn_3 ?_
  intro p e s m below meth c T0 X0 B e0
  refine Go.cast (f' := mkF m 0 #[.val (.ref a), .val (.ref aS), .val (.int (0 : Int32)), .val (.int (Int32.ofNat cs.length)), .val (.null), .unset] []) (by first | rfl | (simp [entryFrame, mkF, argsToLocals, Value.category, maxLocals]; done)) ?_

  refine g_aloadN X0 B d3_0 1 rfl rfl rfl ?_
  obtain ⟨T1, X1, e1, st1⟩ := initO X0 B.x B.z B.o (hw _ (List.mem_of_getElem? (i := 17) rfl)) (hw _ (List.mem_of_getElem? (i := 18) rfl)) (hw _ (List.mem_of_getElem? (i := 19) rfl)) e0 (g := mkF m 1 #[.val (.ref a), .val (.ref aS), .val (.int (0 : Int32)), .val (.int (Int32.ofNat cs.length)), .val (.null), .unset] [.ref a]) rfl (B.mx rfl) rfl (B.d d3_1) (by decide) (W := 0) (by show 2 * 0 + _ ≤ _; exact Nat.le_of_eq rfl) (by decide)
  refine Go.via st1 ?_
  show Go p e below _ (T1.setTop (mkF m 4 #[.val (.ref a), .val (.ref aS), .val (.int (0 : Int32)), .val (.int (Int32.ofNat cs.length)), .val (.null), .unset] []))
  refine g_iloadN X1 B d3_4 5 rfl rfl ?_
  refine g_if_ne X1 B d3_5 27 8 rfl (by decide) rfl (fun _ => ?_) (fun z => own_abs' (own_nz hn hp) z)
  refine g_getS X1 B d3_27 30 rfl (hw _ (List.mem_of_getElem? (i := 47) rfl)) Via.refl e1 SC (fun T2 X2 e2 => ?_)
  refine g_if_eq X2 B d3_30 58 33 rfl (by decide) rfl (fun z => own_abs' (hcx) z) (fun _ => ?_)
  refine g_aloadN X2 B d3_33 34 rfl rfl rfl ?_
  refine g_iloadN X2 B d3_34 35 rfl rfl ?_
  refine g_iloadN X2 B d3_35 36 rfl rfl ?_
  refine g_callS X2 B [.ref aS, .int (0 : Int32), .int (Int32.ofNat cs.length)] [] d3_36 39 rfl rfl (hw _ (List.mem_of_getElem? (i := 72) rfl)) (hw _ (List.mem_of_getElem? (i := 73) rfl)) (hw _ (List.mem_of_getElem? (i := 74) rfl)) (hw _ (List.mem_of_getElem? (i := 75) rfl)) (by decide) (lenOf pd_15 rfl) (rS_c3 l Z ag hw aS cs h0 n0 Z0 hn hcs AS SA SH SLo) e2 rfl 0 (Nat.le_of_eq rfl) (by decide) (by decide) (by decide) (by decide) (fun v3 T3 h3 L3 X3 e3 q3 => ?_)
  obtain ⟨b, vs, rfl, N3, K3, Ab, D3, gh, gb⟩ := q3
  show Go p e below _ (T3.setTop (mkF m 39 #[.val (.ref a), .val (.ref aS), .val (.int (0 : Int32)), .val (.int (Int32.ofNat cs.length)), .val (.null), .unset] [.ref b]))
  obtain ⟨k, hk, hSV⟩ : ∃ k : Int32, ((k = 0 ∧ vs.length = cs.length) ∨ (k = 1 ∧ vs.length = 2 * cs.length)) ∧ own_SV k vs cs := by
    rcases D3 with q | q
    · exact ⟨0, Or.inl ⟨rfl, q.1⟩, Or.inl ⟨rfl, q⟩⟩
    · exact ⟨1, Or.inr ⟨rfl, q.1⟩, Or.inr ⟨rfl, q⟩⟩
  refine g_astore X3 B #[.val (.ref a), .val (.ref aS), .val (.int (0 : Int32)), .val (.int (Int32.ofNat cs.length)), .val (.null), .val (.ref b)] d3_39 41 rfl rfl rfl ?_
  refine g_aloadN X3 B d3_41 42 rfl rfl rfl ?_
  refine g_aload X3 B d3_42 44 rfl rfl rfl ?_
  refine g_iloadN X3 B d3_44 45 rfl rfl ?_
  refine g_callS X3 B [.ref b, .int (Int32.ofNat cs.length)] [.ref a] d3_45 48 rfl rfl (hw _ (List.mem_of_getElem? (i := 79) rfl)) (hw _ (List.mem_of_getElem? (i := 80) rfl)) (hw _ (List.mem_of_getElem? (i := 74) rfl)) (hw _ (List.mem_of_getElem? (i := 81) rfl)) (by decide) (lenOf pd_17 rfl) (rS_cfa l Z ag hw b cs.length k vs h3 n0 hn hp Ab hk) e3 rfl 1 (Nat.le_of_eq rfl) (by decide) (by decide) (by decide) (by decide) (fun v4 T4 h4 L4 X4 e4 q4 => ?_)
  obtain ⟨rfl, N4, rfl⟩ := q4
  show Go p e below _ (T4.setTop (mkF m 48 #[.val (.ref a), .val (.ref aS), .val (.int (0 : Int32)), .val (.int (Int32.ofNat cs.length)), .val (.null), .val (.ref b)] [.int k, .ref a]))
  have t1 := (Fld.keep FC K3 nin0)
  have t2 := (Exa.keep Ea K3)
  refine g_putF X4 B d3_48 51 rfl (hw _ (List.mem_of_getElem? (i := 27) rfl)) Via.refl e4 t1 t2 (Or.inr ⟨(hw _ (List.mem_of_getElem? (i := 23) rfl)), rfl, rfl⟩) (hw _ (List.mem_of_getElem? (i := 7) rfl)) (ty := .byte) (by decide) (own_kb (own_SVk hSV)) (own_kf (own_SVk hSV)) (fun T5 h5 X5 e5 W5 => ?_)
  have F5 := t1.same W5
  refine g_aloadN X5 B d3_51 52 rfl rfl rfl ?_
  refine g_aload X5 B d3_52 54 rfl rfl rfl ?_
  have t3 := (Fld.other W5 (Fld.keep FV K3 nin0) (Or.inr (slot_ne (Or.inr (hw _ (List.mem_of_getElem? (i := 22) rfl))) (Or.inr (hw _ (List.mem_of_getElem? (i := 23) rfl))) (by decide) (t := (.array .byte)) (by decide) (t' := .byte) (by decide))))
  have t4 := (Exa.wr W5 t2)
  refine g_putF X5 B d3_54 57 rfl (hw _ (List.mem_of_getElem? (i := 26) rfl)) Via.refl e5 t3 t4 (Or.inr ⟨(hw _ (List.mem_of_getElem? (i := 22) rfl)), rfl, rfl⟩) (hw _ (List.mem_of_getElem? (i := 7) rfl)) (ty := (.array .byte)) (by decide) rfl rfl (fun T6 h6 X6 e6 W6 => ?_)
  have F6 := t3.same W6
  have t5 := (Keep.wr (Keep.wr (Keep.trans (Keep.refl h0 [a]) K3 all0) W5 (Or.inl (List.mem_of_getElem? (i := 0) rfl))) W6 (Or.inl (List.mem_of_getElem? (i := 0) rfl)))
  have t6 := (Fld.other W6 F5 (Or.inr (slot_ne (Or.inr (hw _ (List.mem_of_getElem? (i := 23) rfl))) (Or.inr (hw _ (List.mem_of_getElem? (i := 22) rfl))) (by decide) (t := .byte) (by decide) (t' := (.array .byte)) (by decide))))
  have t7 : a ≠ b := own_neAv t2 (hw _ (List.mem_of_getElem? (i := 7) rfl)) Ab
  have t8 := (Av.other (Av.other Ab W5 (Ne.symm t7)) W6 (Ne.symm t7))
  exact g_retV X6 B d3_57 rfl (by decide) (by decide) e6 ⟨b, vs, k, rfl, (Fr.snoc X6 (Fr.snoc X5 (((Fr.nil n0).app N3).app N4) ga) ga), t5, F6, t6, t8, hSV, gh, gb⟩
set_option maxRecDepth 65536 in
set_option maxHeartbeats 40000000 in
theorem rS_i1 (l : Launch) (Z : State) (ag : Array Value) (hw : ∀ d ∈ tables_1, d.before ag Z = true) (a aS : Addr) (cs : List Int32) (cx : Int32) (h0 : Heap) (n0 : Nat) (Z0 : n0 ≤ h0.size) (hn : cs.length ≤ 4) (hp : 0 < cs.length) (hcs : ∀ c ∈ cs, own_ch c) (ga : n0 ≤ a) (Ea : Exa Z h0 a "java/lang/String") (FV : Fld Z h0 a "java/lang/String" "value" "[B" (.null)) (FC : Fld Z h0 a "java/lang/String" "coder" "B" (.int 0)) (AS : Av Z h0 aS .char (cs.map Value.int)) (SA : Sta Z h0 "java/lang/StringUTF16" "$assertionsDisabled" "Z" (.int 1)) (SH : Sta Z h0 "java/lang/StringUTF16" "HI_BYTE_SHIFT" "I" (.int 0)) (SLo : Sta Z h0 "java/lang/StringUTF16" "LO_BYTE_SHIFT" "I" (.int 8)) (SC : Sta Z h0 "java/lang/String" "COMPACT_STRINGS" "Z" (.int cx)) (hcx : ¬ cx = 0) :
    Ctr l Z (⟨"java/lang/String", "<init>", "([C)V"⟩ : MethodName) jdk_42_method_3_code 2 none ({ frames := 5, cells := 2, slots := 12, locals := 74 } : Room) #[.ref a, .ref aS] h0 (fun v h L => ∃ b vs k, v = none ∧ Fr n0 L ∧ Keep h0 h [a] ∧ Fld Z h a "java/lang/String" "value" "[B" (.ref b) ∧ Fld Z h a "java/lang/String" "coder" "B" (.int k) ∧ Av Z h b .byte vs ∧ own_SV k vs cs ∧ h0.size ≤ b ∧ n0 ≤ b) := by
  refine Ctr.of pn_2 ?_
  intro p e s m below meth c T0 X0 B e0
  refine Go.cast (f' := mkF m 0 #[.val (.ref a), .val (.ref aS)] []) (by first | rfl | (simp [entryFrame, mkF, argsToLocals, Value.category, maxLocals]; done)) ?_

  refine g_aloadN X0 B d2_0 1 rfl rfl rfl ?_
  refine g_aloadN X0 B d2_1 2 rfl rfl rfl ?_
  refine g_iconst X0 B (0) d2_2 3 rfl rfl ?_
  refine g_aloadN X0 B d2_3 4 rfl rfl rfl ?_
  refine g_arrlen X0 B (Int32.ofNat cs.length) d2_4 5 rfl e0 AS (by rw [List.length_map]) ?_
  refine g_aconstNull X0 B d2_5 6 rfl ?_
  refine g_callN X0 B [.ref aS, .int (0 : Int32), .int (Int32.ofNat cs.length), .null] [] d2_6 9 rfl rfl rfl (hw _ (List.mem_of_getElem? (i := 13) rfl)) (hw _ (List.mem_of_getElem? (i := 14) rfl)) (hw _ (List.mem_of_getElem? (i := 16) rfl)) (hw _ (List.mem_of_getElem? (i := 8) rfl)) (by decide) (lenOf pd_3 rfl) (rS_i4 l Z ag hw a aS cs cx h0 n0 Z0 hn hp hcs ga Ea FV FC AS SA SH SLo SC hcx) e0 rfl 0 (Nat.le_of_eq rfl) (by decide) (by decide) (by decide) (by decide) (fun v1 T1 h1 L1 X1 e1 q1 => ?_)
  obtain ⟨b, vs, k, rfl, N1, K1, f1, f2, f3, f4, f5, f6⟩ := q1
  show Go p e below _ (T1.setTop (mkF m 9 #[.val (.ref a), .val (.ref aS)] []))
  exact g_retV X1 B d2_9 rfl (by decide) (by decide) e1 ⟨b, vs, k, rfl, ((Fr.nil n0).app N1), K1, f1, f2, f3, f4, f5, f6⟩
set_option maxRecDepth 65536 in
set_option maxHeartbeats 40000000 in
theorem rS_cod (l : Launch) (Z : State) (ag : Array Value) (hw : ∀ d ∈ tables_1, d.before ag Z = true) (a : Addr) (k cx : Int32) (h0 : Heap) (n0 : Nat) (FC : Fld Z h0 a "java/lang/String" "coder" "B" (.int k)) (hk : k = 0 ∨ k = 1) (SC : Sta Z h0 "java/lang/String" "COMPACT_STRINGS" "Z" (.int cx)) (hcx : ¬ cx = 0) :
    Ctr l Z (⟨"java/lang/String", "coder", "()B"⟩ : MethodName) jdk_42_method_152_code 1 (some .byte) ({ frames := 0, cells := 0, slots := 0, locals := 0 } : Room) #[.ref a] h0 (fun v h L => v = some (.int k) ∧ Fr n0 L ∧ h0 = h) := by
  refine Ctr.of pn_10 ?_
  intro p e s m below meth c T0 X0 B e0
  refine Go.cast (f' := mkF m 0 #[.val (.ref a)] []) (by first | rfl | (simp [entryFrame, mkF, argsToLocals, Value.category, maxLocals]; done)) ?_

  refine g_getS X0 B d10_0 3 rfl (hw _ (List.mem_of_getElem? (i := 47) rfl)) Via.refl e0 SC (fun T1 X1 e1 => ?_)
  refine g_if_eq X1 B d10_3 13 6 rfl (by decide) rfl (fun z => own_abs' (hcx) z) (fun _ => ?_)
  refine g_aloadN X1 B d10_6 7 rfl rfl rfl ?_
  refine g_getF X1 B d10_7 10 rfl (hw _ (List.mem_of_getElem? (i := 27) rfl)) Via.refl e1 FC (fun T2 X2 e2 => ?_)
  refine g_goto X2 B d10_10 14 rfl (by decide) ?_
  exact g_retN X2 B d10_14 rfl (own_kb hk) (by decide) (by decide) (by decide) e2 ⟨rfl, (Fr.nil n0), rfl⟩
set_option maxRecDepth 65536 in
set_option maxHeartbeats 40000000 in
theorem rS_lat (l : Launch) (Z : State) (ag : Array Value) (hw : ∀ d ∈ tables_1, d.before ag Z = true) (a : Addr) (k cx : Int32) (h0 : Heap) (n0 : Nat) (FC : Fld Z h0 a "java/lang/String" "coder" "B" (.int k)) (hk : k = 0 ∨ k = 1) (SC : Sta Z h0 "java/lang/String" "COMPACT_STRINGS" "Z" (.int cx)) (hcx : ¬ cx = 0) :
    Ctr l Z (⟨"java/lang/String", "isLatin1", "()Z"⟩ : MethodName) jdk_42_method_154_code 1 (some .boolean) ({ frames := 0, cells := 0, slots := 0, locals := 0 } : Room) #[.ref a] h0 (fun v h L => v = some (.int (if k = 0 then 1 else 0)) ∧ Fr n0 L ∧ h0 = h) := by
  refine Ctr.of pn_8 ?_
  intro p e s m below meth c T0 X0 B e0
  refine Go.cast (f' := mkF m 0 #[.val (.ref a)] []) (by first | rfl | (simp [entryFrame, mkF, argsToLocals, Value.category, maxLocals]; done)) ?_

  refine g_getS X0 B d8_0 3 rfl (hw _ (List.mem_of_getElem? (i := 47) rfl)) Via.refl e0 SC (fun T1 X1 e1 => ?_)
  refine g_if_eq X1 B d8_3 17 6 rfl (by decide) rfl (fun z => own_abs' (hcx) z) (fun _ => ?_)
  refine g_aloadN X1 B d8_6 7 rfl rfl rfl ?_
  refine g_getF X1 B d8_7 10 rfl (hw _ (List.mem_of_getElem? (i := 27) rfl)) Via.refl e1 FC (fun T2 X2 e2 => ?_)
  refine g_if_ne X2 B d8_10 17 13 rfl (by decide) rfl (fun c3 => ?_) (fun c3 => ?_)
  · skip
    refine g_iconst X2 B (0) d8_17 18 rfl rfl ?_
    exact g_retN X2 B d8_18 rfl rfl (by decide) (by decide) (by decide) e2 ⟨by simp [c3], (Fr.nil n0), rfl⟩
  · skip
    refine g_iconst X2 B (1) d8_13 14 rfl rfl ?_
    refine g_goto X2 B d8_14 18 rfl (by decide) ?_
    exact g_retN X2 B d8_18 rfl rfl (by decide) (by decide) (by decide) e2 ⟨by simp [c3], (Fr.nil n0), rfl⟩
set_option maxRecDepth 65536 in
set_option maxHeartbeats 40000000 in
theorem rS_len (l : Launch) (Z : State) (ag : Array Value) (hw : ∀ d ∈ tables_1, d.before ag Z = true) (a b : Addr) (k cx : Int32) (vs : List Value) (cs : List Int32) (h0 : Heap) (n0 : Nat) (Ea : Exa Z h0 a "java/lang/String") (FV : Fld Z h0 a "java/lang/String" "value" "[B" (.ref b)) (FC : Fld Z h0 a "java/lang/String" "coder" "B" (.int k)) (Ab : Av Z h0 b .byte vs) (hn : cs.length ≤ 4) (hSV : own_SV k vs cs) (SC : Sta Z h0 "java/lang/String" "COMPACT_STRINGS" "Z" (.int cx)) (hcx : ¬ cx = 0) :
    Ctr l Z (⟨"java/lang/String", "length", "()I"⟩ : MethodName) jdk_42_method_54_code 1 (some .int) ({ frames := 1, cells := 0, slots := 0, locals := 13 } : Room) #[.ref a] h0 (fun v h L => v = some (.int (Int32.ofNat cs.length)) ∧ Fr n0 L ∧ h0 = h) := by
  refine Ctr.of pn_9 ?_
  intro p e s m below meth c T0 X0 B e0
  refine Go.cast (f' := mkF m 0 #[.val (.ref a)] []) (by first | rfl | (simp [entryFrame, mkF, argsToLocals, Value.category, maxLocals]; done)) ?_

  refine g_aloadN X0 B d9_0 1 rfl rfl rfl ?_
  refine g_getF X0 B d9_1 4 rfl (hw _ (List.mem_of_getElem? (i := 26) rfl)) Via.refl e0 FV (fun T1 X1 e1 => ?_)
  refine g_arrlen X1 B (Int32.ofNat vs.length) d9_4 5 rfl e1 Ab rfl ?_
  refine g_aloadN X1 B d9_5 6 rfl rfl rfl ?_
  refine g_callV X1 B [] [.int (Int32.ofNat vs.length)] d9_6 9 rfl rfl (hw _ (List.mem_of_getElem? (i := 53) rfl)) (hw _ (List.mem_of_getElem? (i := 54) rfl)) (hw _ (List.mem_of_getElem? (i := 56) rfl)) (hw _ (List.mem_of_getElem? (i := 55) rfl)) (hw _ (List.mem_of_getElem? (i := 8) rfl)) (hw _ (List.mem_of_getElem? (i := 57) rfl)) (by decide) (lenOf pd_10 rfl) Ea (rS_cod l Z ag hw a k cx h0 n0 FC (own_SVk hSV) SC hcx) e1 rfl 1 (Nat.le_of_eq rfl) (by decide) (by decide) (by decide) (by decide) (fun v2 T2 h2 L2 X2 e2 q2 => ?_)
  obtain ⟨rfl, N2, rfl⟩ := q2
  show Go p e below _ (T2.setTop (mkF m 9 #[.val (.ref a)] [.int k, .int (Int32.ofNat vs.length)]))
  refine g_ishr X2 B d9_9 10 rfl ?_
  exact g_retI X2 B d9_10 rfl (by decide) (by decide) e2 ⟨by rw [own_SVlen hn hSV], ((Fr.nil n0).app N2), rfl⟩
theorem d12_0 : decode jdk_43_method_4_code 0 = .ok (.iload_n 0, 1) := by decide +kernel
theorem d12_1 : decode jdk_43_method_4_code 1 = .ok (.ifCond .lt 14, 3) := by decide +kernel
theorem d12_4 : decode jdk_43_method_4_code 4 = .ok (.iload_n 0, 1) := by decide +kernel
theorem d12_5 : decode jdk_43_method_4_code 5 = .ok (.sipush 255, 3) := by decide +kernel
theorem d12_8 : decode jdk_43_method_4_code 8 = .ok (.if_icmp .gt 7, 3) := by decide +kernel
theorem d12_11 : decode jdk_43_method_4_code 11 = .ok (.iconst 1, 1) := by decide +kernel
theorem d12_12 : decode jdk_43_method_4_code 12 = .ok (.goto 4, 3) := by decide +kernel
theorem d12_15 : decode jdk_43_method_4_code 15 = .ok (.iconst 0, 1) := by decide +kernel
theorem d12_16 : decode jdk_43_method_4_code 16 = .ok (.ireturn, 1) := by decide +kernel
theorem pn_12 : plainFor (⟨"java/lang/StringLatin1", "canEncode", "(I)Z"⟩ : MethodName) = true := by first | (apply plainFor_of_name; simp [plainName, overriddenIn]; done) | (apply plainFor_of_name; decide +kernel) | decide +kernel
theorem pd_12 : parseMethodDescriptor "(I)Z" = some ⟨[.int], (some .boolean)⟩ := by decide +kernel
theorem d13_0 : decode jdk_29_method_65_code 0 = .ok (.iload_n 0, 1) := by decide +kernel
theorem d13_1 : decode jdk_29_method_65_code 1 = .ok (.iload_n 1, 1) := by decide +kernel
theorem d13_2 : decode jdk_29_method_65_code 2 = .ok (.if_icmp .lt 7, 3) := by decide +kernel
theorem d13_5 : decode jdk_29_method_65_code 5 = .ok (.iload_n 0, 1) := by decide +kernel
theorem d13_6 : decode jdk_29_method_65_code 6 = .ok (.goto 4, 3) := by decide +kernel
theorem d13_9 : decode jdk_29_method_65_code 9 = .ok (.iload_n 1, 1) := by decide +kernel
theorem d13_10 : decode jdk_29_method_65_code 10 = .ok (.ireturn, 1) := by decide +kernel
theorem pn_13 : plainFor (⟨"java/lang/Math", "max", "(II)I"⟩ : MethodName) = true := by first | (apply plainFor_of_name; simp [plainName, overriddenIn]; done) | (apply plainFor_of_name; decide +kernel) | decide +kernel
theorem pd_13 : parseMethodDescriptor "(II)I" = some ⟨[.int, .int], (some .int)⟩ := by decide +kernel
theorem d14_0 : decode jdk_29_method_69_code 0 = .ok (.iload_n 0, 1) := by decide +kernel
theorem d14_1 : decode jdk_29_method_69_code 1 = .ok (.iload_n 1, 1) := by decide +kernel
theorem d14_2 : decode jdk_29_method_69_code 2 = .ok (.if_icmp .gt 7, 3) := by decide +kernel
theorem d14_5 : decode jdk_29_method_69_code 5 = .ok (.iload_n 0, 1) := by decide +kernel
theorem d14_6 : decode jdk_29_method_69_code 6 = .ok (.goto 4, 3) := by decide +kernel
theorem d14_9 : decode jdk_29_method_69_code 9 = .ok (.iload_n 1, 1) := by decide +kernel
theorem d14_10 : decode jdk_29_method_69_code 10 = .ok (.ireturn, 1) := by decide +kernel
theorem pn_14 : plainFor (⟨"java/lang/Math", "min", "(II)I"⟩ : MethodName) = true := by first | (apply plainFor_of_name; simp [plainName, overriddenIn]; done) | (apply plainFor_of_name; decide +kernel) | decide +kernel
theorem pd_14 : parseMethodDescriptor "(II)I" = some ⟨[.int, .int], (some .int)⟩ := by decide +kernel
theorem d19_0 : decode jdk_43_method_23_code 0 = .ok (.iload_n 1, 1) := by decide +kernel
theorem d19_1 : decode jdk_43_method_23_code 1 = .ok (.i2b, 1) := by decide +kernel
theorem d19_2 : decode jdk_43_method_23_code 2 = .ok (.istore 4, 2) := by decide +kernel
theorem d19_4 : decode jdk_43_method_23_code 4 = .ok (.iload_n 2, 1) := by decide +kernel
theorem d19_5 : decode jdk_43_method_23_code 5 = .ok (.istore 5, 2) := by decide +kernel
theorem d19_7 : decode jdk_43_method_23_code 7 = .ok (.iload 5, 2) := by decide +kernel
theorem d19_9 : decode jdk_43_method_23_code 9 = .ok (.iload_n 3, 1) := by decide +kernel
theorem d19_10 : decode jdk_43_method_23_code 10 = .ok (.if_icmp .ge 21, 3) := by decide +kernel
theorem d19_13 : decode jdk_43_method_23_code 13 = .ok (.aload_n 0, 1) := by decide +kernel
theorem d19_14 : decode jdk_43_method_23_code 14 = .ok (.iload 5, 2) := by decide +kernel
theorem d19_16 : decode jdk_43_method_23_code 16 = .ok (.baload, 1) := by decide +kernel
theorem d19_17 : decode jdk_43_method_23_code 17 = .ok (.iload 4, 2) := by decide +kernel
theorem d19_19 : decode jdk_43_method_23_code 19 = .ok (.if_icmp .ne 6, 3) := by decide +kernel
theorem d19_22 : decode jdk_43_method_23_code 22 = .ok (.iload 5, 2) := by decide +kernel
theorem d19_24 : decode jdk_43_method_23_code 24 = .ok (.ireturn, 1) := by decide +kernel
theorem d19_25 : decode jdk_43_method_23_code 25 = .ok (.iinc 5 1, 3) := by decide +kernel
theorem d19_28 : decode jdk_43_method_23_code 28 = .ok (.goto (-21), 3) := by decide +kernel
theorem d19_31 : decode jdk_43_method_23_code 31 = .ok (.iconst (-1), 1) := by decide +kernel
theorem d19_32 : decode jdk_43_method_23_code 32 = .ok (.ireturn, 1) := by decide +kernel
theorem pn_19 : plainFor (⟨"java/lang/StringLatin1", "indexOfChar", "([BIII)I"⟩ : MethodName) = true := by first | (apply plainFor_of_name; simp [plainName, overriddenIn]; done) | (apply plainFor_of_name; decide +kernel) | decide +kernel
theorem pd_19 : parseMethodDescriptor "([BIII)I" = some ⟨[(.array .byte), .int, .int, .int], (some .int)⟩ := by decide +kernel
theorem d11_0 : decode jdk_43_method_22_code 0 = .ok (.iload_n 1, 1) := by decide +kernel
theorem d11_1 : decode jdk_43_method_22_code 1 = .ok (.invokestatic 88, 3) := by decide +kernel
theorem d11_4 : decode jdk_43_method_22_code 4 = .ok (.ifCond .ne 5, 3) := by decide +kernel
theorem d11_7 : decode jdk_43_method_22_code 7 = .ok (.iconst (-1), 1) := by decide +kernel
theorem d11_8 : decode jdk_43_method_22_code 8 = .ok (.ireturn, 1) := by decide +kernel
theorem d11_9 : decode jdk_43_method_22_code 9 = .ok (.iload_n 2, 1) := by decide +kernel
theorem d11_10 : decode jdk_43_method_22_code 10 = .ok (.iconst 0, 1) := by decide +kernel
theorem d11_11 : decode jdk_43_method_22_code 11 = .ok (.invokestatic 92, 3) := by decide +kernel
theorem d11_14 : decode jdk_43_method_22_code 14 = .ok (.istore_n 2, 1) := by decide +kernel
theorem d11_15 : decode jdk_43_method_22_code 15 = .ok (.iload_n 3, 1) := by decide +kernel
theorem d11_16 : decode jdk_43_method_22_code 16 = .ok (.aload_n 0, 1) := by decide +kernel
theorem d11_17 : decode jdk_43_method_22_code 17 = .ok (.arraylength, 1) := by decide +kernel
theorem d11_18 : decode jdk_43_method_22_code 18 = .ok (.invokestatic 38, 3) := by decide +kernel
theorem d11_21 : decode jdk_43_method_22_code 21 = .ok (.istore_n 3, 1) := by decide +kernel
theorem d11_22 : decode jdk_43_method_22_code 22 = .ok (.iload_n 2, 1) := by decide +kernel
theorem d11_23 : decode jdk_43_method_22_code 23 = .ok (.iload_n 3, 1) := by decide +kernel
theorem d11_24 : decode jdk_43_method_22_code 24 = .ok (.if_icmp .lt 5, 3) := by decide +kernel
theorem d11_27 : decode jdk_43_method_22_code 27 = .ok (.iconst (-1), 1) := by decide +kernel
theorem d11_28 : decode jdk_43_method_22_code 28 = .ok (.ireturn, 1) := by decide +kernel
theorem d11_29 : decode jdk_43_method_22_code 29 = .ok (.aload_n 0, 1) := by decide +kernel
theorem d11_30 : decode jdk_43_method_22_code 30 = .ok (.iload_n 1, 1) := by decide +kernel
theorem d11_31 : decode jdk_43_method_22_code 31 = .ok (.iload_n 2, 1) := by decide +kernel
theorem d11_32 : decode jdk_43_method_22_code 32 = .ok (.iload_n 3, 1) := by decide +kernel
theorem d11_33 : decode jdk_43_method_22_code 33 = .ok (.invokestatic 95, 3) := by decide +kernel
theorem d11_36 : decode jdk_43_method_22_code 36 = .ok (.ireturn, 1) := by decide +kernel
theorem pn_11 : plainFor (⟨"java/lang/StringLatin1", "indexOf", "([BIII)I"⟩ : MethodName) = true := by first | (apply plainFor_of_name; simp [plainName, overriddenIn]; done) | (apply plainFor_of_name; decide +kernel) | decide +kernel
theorem pd_11 : parseMethodDescriptor "([BIII)I" = some ⟨[(.array .byte), .int, .int, .int], (some .int)⟩ := by decide +kernel
theorem d28_0 : decode jdk_52_method_6_code 0 = .ok (.aload_n 0, 1) := by decide +kernel
theorem d28_1 : decode jdk_52_method_6_code 1 = .ok (.arraylength, 1) := by decide +kernel
theorem d28_2 : decode jdk_52_method_6_code 2 = .ok (.iconst 1, 1) := by decide +kernel
theorem d28_3 : decode jdk_52_method_6_code 3 = .ok (.ishr, 1) := by decide +kernel
theorem d28_4 : decode jdk_52_method_6_code 4 = .ok (.ireturn, 1) := by decide +kernel
theorem pn_28 : plainFor (⟨"java/lang/StringUTF16", "length", "([B)I"⟩ : MethodName) = true := by first | (apply plainFor_of_name; simp [plainName, overriddenIn]; done) | (apply plainFor_of_name; decide +kernel) | decide +kernel
theorem pd_28 : parseMethodDescriptor "([B)I" = some ⟨[(.array .byte)], (some .int)⟩ := by decide +kernel
theorem d30_0 : decode jdk_41_method_12_code 0 = .ok (.iload_n 0, 1) := by decide +kernel
theorem d30_1 : decode jdk_41_method_12_code 1 = .ok (.ifCond .lt 13, 3) := by decide +kernel
theorem d30_4 : decode jdk_41_method_12_code 4 = .ok (.iload_n 0, 1) := by decide +kernel
theorem d30_5 : decode jdk_41_method_12_code 5 = .ok (.iload_n 1, 1) := by decide +kernel
theorem d30_6 : decode jdk_41_method_12_code 6 = .ok (.if_icmp .gt 8, 3) := by decide +kernel
theorem d30_9 : decode jdk_41_method_12_code 9 = .ok (.iload_n 1, 1) := by decide +kernel
theorem d30_10 : decode jdk_41_method_12_code 10 = .ok (.iload_n 2, 1) := by decide +kernel
theorem d30_11 : decode jdk_41_method_12_code 11 = .ok (.if_icmp .le 11, 3) := by decide +kernel
theorem d30_14 : decode jdk_41_method_12_code 14 = .ok (.aload_n 3, 1) := by decide +kernel
theorem d30_15 : decode jdk_41_method_12_code 15 = .ok (.iload_n 0, 1) := by decide +kernel
theorem d30_16 : decode jdk_41_method_12_code 16 = .ok (.iload_n 1, 1) := by decide +kernel
theorem d30_17 : decode jdk_41_method_12_code 17 = .ok (.iload_n 2, 1) := by decide +kernel
theorem d30_18 : decode jdk_41_method_12_code 18 = .ok (.invokestatic 99, 3) := by decide +kernel
theorem d30_21 : decode jdk_41_method_12_code 21 = .ok (.athrow, 1) := by decide +kernel
theorem d30_22 : decode jdk_41_method_12_code 22 = .ok (.iload_n 0, 1) := by decide +kernel
theorem d30_23 : decode jdk_41_method_12_code 23 = .ok (.ireturn, 1) := by decide +kernel
theorem pn_30 : plainFor (⟨"jdk/internal/util/Preconditions", "checkFromToIndex", "(IIILjava/util/function/BiFunction;)I"⟩ : MethodName) = true := by first | (apply plainFor_of_name; simp [plainName, overriddenIn]; done) | (apply plainFor_of_name; decide +kernel) | decide +kernel
theorem pd_30 : parseMethodDescriptor "(IIILjava/util/function/BiFunction;)I" = some ⟨[.int, .int, .int, (.object "java/util/function/BiFunction")], (some .int)⟩ := by decide +kernel
theorem d29_0 : decode jdk_42_method_158_code 0 = .ok (.iload_n 0, 1) := by decide +kernel
theorem d29_1 : decode jdk_42_method_158_code 1 = .ok (.iload_n 1, 1) := by decide +kernel
theorem d29_2 : decode jdk_42_method_158_code 2 = .ok (.iload_n 2, 1) := by decide +kernel
theorem d29_3 : decode jdk_42_method_158_code 3 = .ok (.getstatic 1053, 3) := by decide +kernel
theorem d29_6 : decode jdk_42_method_158_code 6 = .ok (.invokestatic 1062, 3) := by decide +kernel
theorem d29_9 : decode jdk_42_method_158_code 9 = .ok (.pop, 1) := by decide +kernel
theorem d29_10 : decode jdk_42_method_158_code 10 = .ok (.return_, 1) := by decide +kernel
theorem pn_29 : plainFor (⟨"java/lang/String", "checkBoundsBeginEnd", "(III)V"⟩ : MethodName) = true := by first | (apply plainFor_of_name; simp [plainName, overriddenIn]; done) | (apply plainFor_of_name; decide +kernel) | decide +kernel
theorem pd_29 : parseMethodDescriptor "(III)V" = some ⟨[.int, .int, .int], none⟩ := by decide +kernel
theorem d27_0 : decode jdk_52_method_93_code 0 = .ok (.iload_n 0, 1) := by decide +kernel
theorem d27_1 : decode jdk_52_method_93_code 1 = .ok (.iload_n 1, 1) := by decide +kernel
theorem d27_2 : decode jdk_52_method_93_code 2 = .ok (.aload_n 2, 1) := by decide +kernel
theorem d27_3 : decode jdk_52_method_93_code 3 = .ok (.invokestatic 48, 3) := by decide +kernel
theorem d27_6 : decode jdk_52_method_93_code 6 = .ok (.invokestatic 241, 3) := by decide +kernel
theorem d27_9 : decode jdk_52_method_93_code 9 = .ok (.return_, 1) := by decide +kernel
theorem pn_27 : plainFor (⟨"java/lang/StringUTF16", "checkBoundsBeginEnd", "(II[B)V"⟩ : MethodName) = true := by first | (apply plainFor_of_name; simp [plainName, overriddenIn]; done) | (apply plainFor_of_name; decide +kernel) | decide +kernel
theorem pd_27 : parseMethodDescriptor "(II[B)V" = some ⟨[.int, .int, (.array .byte)], none⟩ := by decide +kernel
theorem d31_0 : decode jdk_52_method_48_code 0 = .ok (.iload_n 2, 1) := by decide +kernel
theorem d31_1 : decode jdk_52_method_48_code 1 = .ok (.istore 4, 2) := by decide +kernel
theorem d31_3 : decode jdk_52_method_48_code 3 = .ok (.iload 4, 2) := by decide +kernel
theorem d31_5 : decode jdk_52_method_48_code 5 = .ok (.iload_n 3, 1) := by decide +kernel
theorem d31_6 : decode jdk_52_method_48_code 6 = .ok (.if_icmp .ge 22, 3) := by decide +kernel
theorem d31_9 : decode jdk_52_method_48_code 9 = .ok (.aload_n 0, 1) := by decide +kernel
theorem d31_10 : decode jdk_52_method_48_code 10 = .ok (.iload 4, 2) := by decide +kernel
theorem d31_12 : decode jdk_52_method_48_code 12 = .ok (.invokestatic 71, 3) := by decide +kernel
theorem d31_15 : decode jdk_52_method_48_code 15 = .ok (.iload_n 1, 1) := by decide +kernel
theorem d31_16 : decode jdk_52_method_48_code 16 = .ok (.if_icmp .ne 6, 3) := by decide +kernel
theorem d31_19 : decode jdk_52_method_48_code 19 = .ok (.iload 4, 2) := by decide +kernel
theorem d31_21 : decode jdk_52_method_48_code 21 = .ok (.ireturn, 1) := by decide +kernel
theorem d31_22 : decode jdk_52_method_48_code 22 = .ok (.iinc 4 1, 3) := by decide +kernel
theorem d31_25 : decode jdk_52_method_48_code 25 = .ok (.goto (-22), 3) := by decide +kernel
theorem d31_28 : decode jdk_52_method_48_code 28 = .ok (.iconst (-1), 1) := by decide +kernel
theorem d31_29 : decode jdk_52_method_48_code 29 = .ok (.ireturn, 1) := by decide +kernel
theorem pn_31 : plainFor (⟨"java/lang/StringUTF16", "indexOfCharUnsafe", "([BIII)I"⟩ : MethodName) = true := by first | (apply plainFor_of_name; simp [plainName, overriddenIn]; done) | (apply plainFor_of_name; decide +kernel) | decide +kernel
theorem pd_31 : parseMethodDescriptor "([BIII)I" = some ⟨[(.array .byte), .int, .int, .int], (some .int)⟩ := by decide +kernel
theorem d26_0 : decode jdk_52_method_47_code 0 = .ok (.iload_n 2, 1) := by decide +kernel
theorem d26_1 : decode jdk_52_method_47_code 1 = .ok (.iload_n 3, 1) := by decide +kernel
theorem d26_2 : decode jdk_52_method_47_code 2 = .ok (.aload_n 0, 1) := by decide +kernel
theorem d26_3 : decode jdk_52_method_47_code 3 = .ok (.invokestatic 96, 3) := by decide +kernel
theorem d26_6 : decode jdk_52_method_47_code 6 = .ok (.aload_n 0, 1) := by decide +kernel
theorem d26_7 : decode jdk_52_method_47_code 7 = .ok (.iload_n 1, 1) := by decide +kernel
theorem d26_8 : decode jdk_52_method_47_code 8 = .ok (.iload_n 2, 1) := by decide +kernel
theorem d26_9 : decode jdk_52_method_47_code 9 = .ok (.iload_n 3, 1) := by decide +kernel
theorem d26_10 : decode jdk_52_method_47_code 10 = .ok (.invokestatic 244, 3) := by decide +kernel
theorem d26_13 : decode jdk_52_method_47_code 13 = .ok (.ireturn, 1) := by decide +kernel
theorem pn_26 : plainFor (⟨"java/lang/StringUTF16", "indexOfChar", "([BIII)I"⟩ : MethodName) = true := by first | (apply plainFor_of_name; simp [plainName, overriddenIn]; done) | (apply plainFor_of_name; decide +kernel) | decide +kernel
theorem pd_26 : parseMethodDescriptor "([BIII)I" = some ⟨[(.array .byte), .int, .int, .int], (some .int)⟩ := by decide +kernel
theorem d25_0 : decode jdk_52_method_40_code 0 = .ok (.iload_n 2, 1) := by decide +kernel
theorem d25_1 : decode jdk_52_method_40_code 1 = .ok (.iconst 0, 1) := by decide +kernel
theorem d25_2 : decode jdk_52_method_40_code 2 = .ok (.invokestatic 224, 3) := by decide +kernel
theorem d25_5 : decode jdk_52_method_40_code 5 = .ok (.istore_n 2, 1) := by decide +kernel
theorem d25_6 : decode jdk_52_method_40_code 6 = .ok (.iload_n 3, 1) := by decide +kernel
theorem d25_7 : decode jdk_52_method_40_code 7 = .ok (.aload_n 0, 1) := by decide +kernel
theorem d25_8 : decode jdk_52_method_40_code 8 = .ok (.arraylength, 1) := by decide +kernel
theorem d25_9 : decode jdk_52_method_40_code 9 = .ok (.iconst 1, 1) := by decide +kernel
theorem d25_10 : decode jdk_52_method_40_code 10 = .ok (.ishr, 1) := by decide +kernel
theorem d25_11 : decode jdk_52_method_40_code 11 = .ok (.invokestatic 183, 3) := by decide +kernel
theorem d25_14 : decode jdk_52_method_40_code 14 = .ok (.istore_n 3, 1) := by decide +kernel
theorem d25_15 : decode jdk_52_method_40_code 15 = .ok (.iload_n 2, 1) := by decide +kernel
theorem d25_16 : decode jdk_52_method_40_code 16 = .ok (.iload_n 3, 1) := by decide +kernel
theorem d25_17 : decode jdk_52_method_40_code 17 = .ok (.if_icmp .lt 5, 3) := by decide +kernel
theorem d25_20 : decode jdk_52_method_40_code 20 = .ok (.iconst (-1), 1) := by decide +kernel
theorem d25_21 : decode jdk_52_method_40_code 21 = .ok (.ireturn, 1) := by decide +kernel
theorem d25_22 : decode jdk_52_method_40_code 22 = .ok (.iload_n 1, 1) := by decide +kernel
theorem d25_23 : decode jdk_52_method_40_code 23 = .ok (.ldc 227, 2) := by decide +kernel
theorem d25_25 : decode jdk_52_method_40_code 25 = .ok (.if_icmp .ge 11, 3) := by decide +kernel
theorem d25_28 : decode jdk_52_method_40_code 28 = .ok (.aload_n 0, 1) := by decide +kernel
theorem d25_29 : decode jdk_52_method_40_code 29 = .ok (.iload_n 1, 1) := by decide +kernel
theorem d25_30 : decode jdk_52_method_40_code 30 = .ok (.iload_n 2, 1) := by decide +kernel
theorem d25_31 : decode jdk_52_method_40_code 31 = .ok (.iload_n 3, 1) := by decide +kernel
theorem d25_32 : decode jdk_52_method_40_code 32 = .ok (.invokestatic 228, 3) := by decide +kernel
theorem d25_35 : decode jdk_52_method_40_code 35 = .ok (.ireturn, 1) := by decide +kernel
theorem d25_36 : decode jdk_52_method_40_code 36 = .ok (.aload_n 0, 1) := by decide +kernel
theorem d25_37 : decode jdk_52_method_40_code 37 = .ok (.iload_n 1, 1) := by decide +kernel
theorem d25_38 : decode jdk_52_method_40_code 38 = .ok (.iload_n 2, 1) := by decide +kernel
theorem d25_39 : decode jdk_52_method_40_code 39 = .ok (.iload_n 3, 1) := by decide +kernel
theorem d25_40 : decode jdk_52_method_40_code 40 = .ok (.invokestatic 232, 3) := by decide +kernel
theorem d25_43 : decode jdk_52_method_40_code 43 = .ok (.ireturn, 1) := by decide +kernel
theorem pn_25 : plainFor (⟨"java/lang/StringUTF16", "indexOf", "([BIII)I"⟩ : MethodName) = true := by first | (apply plainFor_of_name; simp [plainName, overriddenIn]; done) | (apply plainFor_of_name; decide +kernel) | decide +kernel
theorem pd_25 : parseMethodDescriptor "([BIII)I" = some ⟨[(.array .byte), .int, .int, .int], (some .int)⟩ := by decide +kernel
theorem d7_0 : decode jdk_42_method_80_code 0 = .ok (.aload_n 0, 1) := by decide +kernel
theorem d7_1 : decode jdk_42_method_80_code 1 = .ok (.invokevirtual 492, 3) := by decide +kernel
theorem d7_4 : decode jdk_42_method_80_code 4 = .ok (.ifCond .eq 19, 3) := by decide +kernel
theorem d7_7 : decode jdk_42_method_80_code 7 = .ok (.aload_n 0, 1) := by decide +kernel
theorem d7_8 : decode jdk_42_method_80_code 8 = .ok (.getfield 9, 3) := by decide +kernel
theorem d7_11 : decode jdk_42_method_80_code 11 = .ok (.iload_n 1, 1) := by decide +kernel
theorem d7_12 : decode jdk_42_method_80_code 12 = .ok (.iload_n 2, 1) := by decide +kernel
theorem d7_13 : decode jdk_42_method_80_code 13 = .ok (.aload_n 0, 1) := by decide +kernel
theorem d7_14 : decode jdk_42_method_80_code 14 = .ok (.invokevirtual 505, 3) := by decide +kernel
theorem d7_17 : decode jdk_42_method_80_code 17 = .ok (.invokestatic 637, 3) := by decide +kernel
theorem d7_20 : decode jdk_42_method_80_code 20 = .ok (.goto 16, 3) := by decide +kernel
theorem d7_23 : decode jdk_42_method_80_code 23 = .ok (.aload_n 0, 1) := by decide +kernel
theorem d7_24 : decode jdk_42_method_80_code 24 = .ok (.getfield 9, 3) := by decide +kernel
theorem d7_27 : decode jdk_42_method_80_code 27 = .ok (.iload_n 1, 1) := by decide +kernel
theorem d7_28 : decode jdk_42_method_80_code 28 = .ok (.iload_n 2, 1) := by decide +kernel
theorem d7_29 : decode jdk_42_method_80_code 29 = .ok (.aload_n 0, 1) := by decide +kernel
theorem d7_30 : decode jdk_42_method_80_code 30 = .ok (.invokevirtual 505, 3) := by decide +kernel
theorem d7_33 : decode jdk_42_method_80_code 33 = .ok (.invokestatic 640, 3) := by decide +kernel
theorem d7_36 : decode jdk_42_method_80_code 36 = .ok (.ireturn, 1) := by decide +kernel
theorem pn_7 : plainFor (⟨"java/lang/String", "indexOf", "(II)I"⟩ : MethodName) = true := by first | (apply plainFor_of_name; simp [plainName, overriddenIn]; done) | (apply plainFor_of_name; decide +kernel) | decide +kernel
theorem pd_7 : parseMethodDescriptor "(II)I" = some ⟨[.int, .int], (some .int)⟩ := by decide +kernel
theorem d6_0 : decode jdk_42_method_79_code 0 = .ok (.aload_n 0, 1) := by decide +kernel
theorem d6_1 : decode jdk_42_method_79_code 1 = .ok (.iload_n 1, 1) := by decide +kernel
theorem d6_2 : decode jdk_42_method_79_code 2 = .ok (.iconst 0, 1) := by decide +kernel
theorem d6_3 : decode jdk_42_method_79_code 3 = .ok (.invokevirtual 633, 3) := by decide +kernel
theorem d6_6 : decode jdk_42_method_79_code 6 = .ok (.ireturn, 1) := by decide +kernel
theorem pn_6 : plainFor (⟨"java/lang/String", "indexOf", "(I)I"⟩ : MethodName) = true := by first | (apply plainFor_of_name; simp [plainName, overriddenIn]; done) | (apply plainFor_of_name; decide +kernel) | decide +kernel
theorem pd_6 : parseMethodDescriptor "(I)I" = some ⟨[.int], (some .int)⟩ := by decide +kernel
theorem own_max0 : (if (0 : Int32) < (0 : Int32) then (0 : Int32) else 0) = 0 := by decide
theorem own_minn (n : Int32) : (if n < n then n else n) = n := by split <;> rfl
theorem own_lo_inj {a b : Int32} (ha : own_ch a) (hb : own_ch b) (a1 : ¬ 255 < a) (b1 : ¬ 255 < b) : own_lo a = own_lo b ↔ a = b := by
  refine ⟨fun q => ?_, fun q => q ▸ rfl⟩
  have h1 := c_i2b a
  have h2 := c_i2b b
  have h3 : a.toInt8.toInt32.toInt = b.toInt8.toInt32.toInt := congrArg Int32.toInt q
  rw [Int32.lt_iff_toInt_lt] at a1 b1
  have k : (255 : Int32).toInt = 255 := by decide
  obtain ⟨p1, p2⟩ := ha
  obtain ⟨p3, p4⟩ := hb
  apply Int32.toInt_inj.mp
  omega
theorem own_nneg {n : Nat} (h : n ≤ 4) {P : Prop} (p : ¬ P) : Int32.ofNat n < 0 ↔ P := ⟨fun q => absurd q (own_nn (by omega)), fun q => absurd q p⟩
theorem own_memat {cs : List Int32} {i : Nat} {c : Int32} (h : cs[i]? = some c) : c ∈ cs := List.mem_of_getElem? h
theorem own_notin {cs : List Int32} {x : Int32} (h : ∀ j c, j < cs.length → cs[j]? = some c → ¬ c = x) : ¬ x ∈ cs := fun q => by
  obtain ⟨j, hj, e⟩ := List.mem_iff_getElem.mp q
  exact h j x hj (by rw [List.getElem?_eq_getElem hj, e]) rfl
theorem own_min2 {n : Nat} (h : n ≤ 4) : (if Int32.ofNat n < Int32.ofNat n then Int32.ofNat n else Int32.ofNat n) = Int32.ofNat n := by split <;> rfl
theorem own_shr2 {n : Nat} (h : n ≤ 4) : Int32.ofNat (2 * n) >>> ((1 : Int32) &&& 31) = Int32.ofNat n := by rw [own_shr1 (by omega)]; congr 1; omega
def own_QX (h0 : Heap) (n0 : Nat) (x : Int32) (cs : List Int32) (v : Option Value) (h : Heap) (L : List Loc) : Prop := ∃ r, v = some (.int r) ∧ (r < 0 ↔ ¬ x ∈ cs) ∧ Fr n0 L ∧ h0 = h

set_option maxRecDepth 65536 in
set_option maxHeartbeats 40000000 in
theorem rX_can (l : Launch) (Z : State) (ag : Array Value) (hw : ∀ d ∈ tables_1, d.before ag Z = true) (x : Int32) (h0 : Heap) (n0 : Nat) (x2 : ¬ x < 0) (x1 : ¬ 255 < x) :
    Ctr l Z (⟨"java/lang/StringLatin1", "canEncode", "(I)Z"⟩ : MethodName) jdk_43_method_4_code 1 (some .boolean) ({ frames := 0, cells := 0, slots := 0, locals := 0 } : Room) #[.int x] h0 (fun v h L => v = some (.int 1) ∧ Fr n0 L ∧ h0 = h) := by
  refine Ctr.of pn_12 ?_
  intro p e s m below meth c T0 X0 B e0
  refine Go.cast (f' := mkF m 0 #[.val (.int x)] []) (by first | rfl | (simp [entryFrame, mkF, argsToLocals, Value.category, maxLocals]; done)) ?_

  refine g_iloadN X0 B d12_0 1 rfl rfl ?_
  refine g_if_lt X0 B d12_1 15 4 rfl (by decide) rfl (fun z => own_abs' (x2) z) (fun _ => ?_)
  refine g_iloadN X0 B d12_4 5 rfl rfl ?_
  refine g_sipush X0 B (255) d12_5 8 rfl rfl ?_
  refine g_icmp_gt X0 B d12_8 15 11 rfl (by decide) rfl (fun z => own_abs' (x1) z) (fun _ => ?_)
  refine g_iconst X0 B (1) d12_11 12 rfl rfl ?_
  refine g_goto X0 B d12_12 16 rfl (by decide) ?_
  exact g_retN X0 B d12_16 rfl rfl (by decide) (by decide) (by decide) e0 ⟨rfl, (Fr.nil n0), rfl⟩
set_option maxRecDepth 65536 in
set_option maxHeartbeats 40000000 in
theorem rX_max (l : Launch) (Z : State) (ag : Array Value) (hw : ∀ d ∈ tables_1, d.before ag Z = true) (x y : Int32) (h0 : Heap) (n0 : Nat)  :
    Ctr l Z (⟨"java/lang/Math", "max", "(II)I"⟩ : MethodName) jdk_29_method_65_code 2 (some .int) ({ frames := 0, cells := 0, slots := 0, locals := 0 } : Room) #[.int x, .int y] h0 (fun v h L => v = some (.int (if x < y then y else x)) ∧ Fr n0 L ∧ h0 = h) := by
  refine Ctr.of pn_13 ?_
  intro p e s m below meth c T0 X0 B e0
  refine Go.cast (f' := mkF m 0 #[.val (.int x), .val (.int y)] []) (by first | rfl | (simp [entryFrame, mkF, argsToLocals, Value.category, maxLocals]; done)) ?_

  refine g_iloadN X0 B d13_0 1 rfl rfl ?_
  refine g_iloadN X0 B d13_1 2 rfl rfl ?_
  refine g_icmp_lt X0 B d13_2 9 5 rfl (by decide) rfl (fun c1 => ?_) (fun c1 => ?_)
  · skip
    refine g_iloadN X0 B d13_9 10 rfl rfl ?_
    exact g_retI X0 B d13_10 rfl (by decide) (by decide) e0 ⟨by simp [c1], (Fr.nil n0), rfl⟩
  · skip
    refine g_iloadN X0 B d13_5 6 rfl rfl ?_
    refine g_goto X0 B d13_6 10 rfl (by decide) ?_
    exact g_retI X0 B d13_10 rfl (by decide) (by decide) e0 ⟨by simp [c1], (Fr.nil n0), rfl⟩
set_option maxRecDepth 65536 in
set_option maxHeartbeats 40000000 in
theorem rX_min (l : Launch) (Z : State) (ag : Array Value) (hw : ∀ d ∈ tables_1, d.before ag Z = true) (x y : Int32) (h0 : Heap) (n0 : Nat)  :
    Ctr l Z (⟨"java/lang/Math", "min", "(II)I"⟩ : MethodName) jdk_29_method_69_code 2 (some .int) ({ frames := 0, cells := 0, slots := 0, locals := 0 } : Room) #[.int x, .int y] h0 (fun v h L => v = some (.int (if y < x then y else x)) ∧ Fr n0 L ∧ h0 = h) := by
  refine Ctr.of pn_14 ?_
  intro p e s m below meth c T0 X0 B e0
  refine Go.cast (f' := mkF m 0 #[.val (.int x), .val (.int y)] []) (by first | rfl | (simp [entryFrame, mkF, argsToLocals, Value.category, maxLocals]; done)) ?_

  refine g_iloadN X0 B d14_0 1 rfl rfl ?_
  refine g_iloadN X0 B d14_1 2 rfl rfl ?_
  refine g_icmp_gt X0 B d14_2 9 5 rfl (by decide) rfl (fun c1 => ?_) (fun c1 => ?_)
  · skip
    refine g_iloadN X0 B d14_9 10 rfl rfl ?_
    exact g_retI X0 B d14_10 rfl (by decide) (by decide) e0 ⟨by simp [c1], (Fr.nil n0), rfl⟩
  · skip
    refine g_iloadN X0 B d14_5 6 rfl rfl ?_
    refine g_goto X0 B d14_6 10 rfl (by decide) ?_
    exact g_retI X0 B d14_10 rfl (by decide) (by decide) e0 ⟨by simp [c1], (Fr.nil n0), rfl⟩
set_option maxRecDepth 65536 in
set_option maxHeartbeats 40000000 in
theorem rX_lic (l : Launch) (Z : State) (ag : Array Value) (hw : ∀ d ∈ tables_1, d.before ag Z = true) (b : Addr) (x : Int32) (vs : List Value) (cs : List Int32) (h0 : Heap) (n0 : Nat) (hn : cs.length ≤ 4) (hcs : ∀ c ∈ cs, own_ch c) (Ab : Av Z h0 b .byte vs) (hL : own_L vs cs) (x0 : own_ch x) (x1 : ¬ 255 < x) :
    Ctr l Z (⟨"java/lang/StringLatin1", "indexOfChar", "([BIII)I"⟩ : MethodName) jdk_43_method_23_code 6 (some .int) ({ frames := 0, cells := 0, slots := 0, locals := 0 } : Room) #[.ref b, .int x, .int (0 : Int32), .int (Int32.ofNat cs.length)] h0 (own_QX h0 n0 x cs) := by
  refine Ctr.of pn_19 ?_
  intro p e s m below meth c T0 X0 B e0
  refine Go.cast (f' := mkF m 0 #[.val (.ref b), .val (.int x), .val (.int (0 : Int32)), .val (.int (Int32.ofNat cs.length)), .unset, .unset] []) (by first | rfl | (simp [entryFrame, mkF, argsToLocals, Value.category, maxLocals]; done)) ?_

  refine g_iloadN X0 B d19_0 1 rfl rfl ?_
  refine g_i2b X0 B d19_1 2 rfl ?_
  refine g_istore X0 B #[.val (.ref b), .val (.int x), .val (.int (0 : Int32)), .val (.int (Int32.ofNat cs.length)), .val (.int (x.toInt8.toInt32)), .unset] d19_2 4 rfl rfl ?_
  refine g_iloadN X0 B d19_4 5 rfl rfl ?_
  refine g_istore X0 B #[.val (.ref b), .val (.int x), .val (.int (0 : Int32)), .val (.int (Int32.ofNat cs.length)), .val (.int (x.toInt8.toInt32)), .val (.int (0 : Int32))] d19_5 7 rfl rfl ?_
  have loop : ∀ (k i : Nat) (T : State) (Lo : List Loc), i + k = cs.length → (∀ j c, j < i → cs[j]? = some c → ¬ c = x) → Stand p l e ({ frames := 0, cells := 0, slots := 0, locals := 0 } : Room) s m #[.ref b, .int x, .int (0 : Int32), .int (Int32.ofNat cs.length)] below meth c T Lo 0 0 → T.heap = h0 → Fr n0 Lo → Go p e below (EndsQ s (own_QX h0 n0 x cs) ({ frames := 0, cells := 0, slots := 0, locals := 0 } : Room).cells ({ frames := 0, cells := 0, slots := 0, locals := 0 } : Room).slots) (T.setTop (mkF m 7 #[.val (.ref b), .val (.int x), .val (.int (0 : Int32)), .val (.int (Int32.ofNat cs.length)), .val (.int (x.toInt8.toInt32)), .val (.int (Int32.ofNat i))] [])) := by
    intro k
    induction k with
    | zero =>
      intro i T Lo hk hj X eh N
      refine g_iload X B d19_7 9 rfl rfl ?_
      refine g_iloadN X B d19_9 10 rfl rfl ?_
      refine g_icmp_ge X B d19_10 31 13 rfl (by decide) rfl (fun _ => ?_) (fun z => own_abs' (fun z => absurd ((own_lt (by omega) (by omega)).mp z) (by omega)) z)
      refine g_iconst X B (-1) d19_31 32 rfl rfl ?_
      exact g_retI X B d19_32 rfl (by decide) (by decide) eh ⟨_, rfl, ⟨fun _ => own_notin (fun j c q => hj j c (by omega)), fun _ => by decide⟩, N, rfl⟩
    | succ k ih =>
      intro i T Lo hk hj X eh N
      obtain ⟨c0, hc⟩ := own_ex (cs := cs) (i := i) (by omega)
      have hch := hcs c0 (own_memat hc)
      refine g_iload X B d19_7 9 rfl rfl ?_
      refine g_iloadN X B d19_9 10 rfl rfl ?_
      refine g_icmp_ge X B d19_10 31 13 rfl (by decide) rfl (fun z => own_abs ((own_lt (by omega) (by omega)).mpr (by omega)) z) (fun _ => ?_)
      refine g_aloadN X B d19_13 14 rfl rfl rfl ?_
      refine g_iload X B d19_14 16 rfl rfl ?_
      refine g_baloadB X B i d19_16 17 rfl eh Ab (own_tn (by omega)) (own_nn (by omega)) (hL.2 i c0 (by omega) hc).1 ?_
      refine g_iload X B d19_17 19 rfl rfl ?_
      refine g_icmp_ne X B d19_19 25 22 rfl (by decide) rfl (fun c1 => ?_) (fun c1 => ?_)
      · skip
        refine g_iinc X B #[.val (.ref b), .val (.int x), .val (.int (0 : Int32)), .val (.int (Int32.ofNat cs.length)), .val (.int (x.toInt8.toInt32)), .val (.int ((Int32.ofNat i) + (1)))] (1) d19_25 28 rfl rfl rfl rfl ?_
        rw [own_s1 (by omega)]
        refine g_goto X B d19_28 7 rfl (by decide) ?_
        exact ih (i + 1) _ _ (by omega) (fun j d q hd z => by
        by_cases e : j = i
        · subst e
          cases hc.symm.trans hd
          exact c1 (z ▸ rfl)
        · exact hj j d (by omega) hd z) X eh N
      · skip
        refine g_iload X B d19_22 24 rfl rfl ?_
        exact g_retI X B d19_24 rfl (by decide) (by decide) eh ⟨_, rfl, own_nneg (by omega) (fun z => z ((own_lo_inj hch x0 (hL.2 i c0 (by omega) hc).2 x1).mp c1 ▸ own_memat hc)), N, rfl⟩
  exact loop cs.length 0 _ _ (by omega) (fun j c q => absurd q (Nat.not_lt_zero _)) X0 e0 (Fr.nil n0)
set_option maxRecDepth 65536 in
set_option maxHeartbeats 40000000 in
theorem rX_lix (l : Launch) (Z : State) (ag : Array Value) (hw : ∀ d ∈ tables_1, d.before ag Z = true) (b : Addr) (x : Int32) (vs : List Value) (cs : List Int32) (h0 : Heap) (n0 : Nat) (hn : cs.length ≤ 4) (hcs : ∀ c ∈ cs, own_ch c) (Ab : Av Z h0 b .byte vs) (hL : own_L vs cs) (x0 : own_ch x) (x1 : ¬ 255 < x) (x2 : ¬ x < 0) :
    Ctr l Z (⟨"java/lang/StringLatin1", "indexOf", "([BIII)I"⟩ : MethodName) jdk_43_method_22_code 4 (some .int) ({ frames := 1, cells := 0, slots := 0, locals := 17 } : Room) #[.ref b, .int x, .int (0 : Int32), .int (Int32.ofNat cs.length)] h0 (own_QX h0 n0 x cs) := by
  refine Ctr.of pn_11 ?_
  intro p e s m below meth c T0 X0 B e0
  refine Go.cast (f' := mkF m 0 #[.val (.ref b), .val (.int x), .val (.int (0 : Int32)), .val (.int (Int32.ofNat cs.length))] []) (by first | rfl | (simp [entryFrame, mkF, argsToLocals, Value.category, maxLocals]; done)) ?_

  refine g_iloadN X0 B d11_0 1 rfl rfl ?_
  refine g_callS X0 B [.int x] [] d11_1 4 rfl rfl (hw _ (List.mem_of_getElem? (i := 62) rfl)) (hw _ (List.mem_of_getElem? (i := 63) rfl)) (hw _ (List.mem_of_getElem? (i := 60) rfl)) (hw _ (List.mem_of_getElem? (i := 64) rfl)) (by decide) (lenOf pd_12 rfl) (rX_can l Z ag hw x h0 n0 x2 x1) e0 rfl 0 (Nat.le_of_eq rfl) (by decide) (by decide) (by decide) (by decide) (fun v1 T1 h1 L1 X1 e1 q1 => ?_)
  obtain ⟨rfl, N1, rfl⟩ := q1
  show Go p e below _ (T1.setTop (mkF m 4 #[.val (.ref b), .val (.int x), .val (.int (0 : Int32)), .val (.int (Int32.ofNat cs.length))] [.int (1 : Int32)]))
  refine g_if_ne X1 B d11_4 9 7 rfl (by decide) rfl (fun _ => ?_) (fun z => own_abs' (by decide) z)
  refine g_iloadN X1 B d11_9 10 rfl rfl ?_
  refine g_iconst X1 B (0) d11_10 11 rfl rfl ?_
  refine g_callS X1 B [.int (0 : Int32), .int (0 : Int32)] [] d11_11 14 rfl rfl (hw _ (List.mem_of_getElem? (i := 65) rfl)) (hw _ (List.mem_of_getElem? (i := 66) rfl)) (hw _ (List.mem_of_getElem? (i := 67) rfl)) (hw _ (List.mem_of_getElem? (i := 68) rfl)) (by decide) (lenOf pd_13 rfl) (rX_max l Z ag hw 0 0 h0 n0) e1 rfl 0 (Nat.le_of_eq rfl) (by decide) (by decide) (by decide) (by decide) (fun v2 T2 h2 L2 X2 e2 q2 => ?_)
  obtain ⟨rfl, N2, rfl⟩ := q2
  show Go p e below _ (T2.setTop (mkF m 14 #[.val (.ref b), .val (.int x), .val (.int (0 : Int32)), .val (.int (Int32.ofNat cs.length))] [.int (if (0 : Int32) < (0 : Int32) then (0 : Int32) else 0)]))
  rw [own_max0]
  refine g_istoreN X2 B #[.val (.ref b), .val (.int x), .val (.int (0 : Int32)), .val (.int (Int32.ofNat cs.length))] d11_14 15 rfl rfl ?_
  refine g_iloadN X2 B d11_15 16 rfl rfl ?_
  refine g_aloadN X2 B d11_16 17 rfl rfl rfl ?_
  refine g_arrlen X2 B (Int32.ofNat cs.length) d11_17 18 rfl e2 Ab (by rw [hL.1]) ?_
  refine g_callS X2 B [.int (Int32.ofNat cs.length), .int (Int32.ofNat cs.length)] [] d11_18 21 rfl rfl (hw _ (List.mem_of_getElem? (i := 69) rfl)) (hw _ (List.mem_of_getElem? (i := 70) rfl)) (hw _ (List.mem_of_getElem? (i := 67) rfl)) (hw _ (List.mem_of_getElem? (i := 71) rfl)) (by decide) (lenOf pd_14 rfl) (rX_min l Z ag hw (Int32.ofNat cs.length) (Int32.ofNat cs.length) h0 n0) e2 rfl 0 (Nat.le_of_eq rfl) (by decide) (by decide) (by decide) (by decide) (fun v3 T3 h3 L3 X3 e3 q3 => ?_)
  obtain ⟨rfl, N3, rfl⟩ := q3
  show Go p e below _ (T3.setTop (mkF m 21 #[.val (.ref b), .val (.int x), .val (.int (0 : Int32)), .val (.int (Int32.ofNat cs.length))] [.int (if Int32.ofNat cs.length < Int32.ofNat cs.length then Int32.ofNat cs.length else Int32.ofNat cs.length)]))
  rw [own_min2 hn]
  refine g_istoreN X3 B #[.val (.ref b), .val (.int x), .val (.int (0 : Int32)), .val (.int (Int32.ofNat cs.length))] d11_21 22 rfl rfl ?_
  refine g_iloadN X3 B d11_22 23 rfl rfl ?_
  refine g_iloadN X3 B d11_23 24 rfl rfl ?_
  refine g_icmp_lt X3 B d11_24 29 27 rfl (by decide) rfl (fun c4 => ?_) (fun c4 => ?_)
  · skip
    refine g_aloadN X3 B d11_29 30 rfl rfl rfl ?_
    refine g_iloadN X3 B d11_30 31 rfl rfl ?_
    refine g_iloadN X3 B d11_31 32 rfl rfl ?_
    refine g_iloadN X3 B d11_32 33 rfl rfl ?_
    refine g_callS X3 B [.ref b, .int x, .int (0 : Int32), .int (Int32.ofNat cs.length)] [] d11_33 36 rfl rfl (hw _ (List.mem_of_getElem? (i := 85) rfl)) (hw _ (List.mem_of_getElem? (i := 86) rfl)) (hw _ (List.mem_of_getElem? (i := 60) rfl)) (hw _ (List.mem_of_getElem? (i := 87) rfl)) (by decide) (lenOf pd_19 rfl) (rX_lic l Z ag hw b x vs cs h0 n0 hn hcs Ab hL x0 x1) e3 rfl 0 (Nat.le_of_eq rfl) (by decide) (by decide) (by decide) (by decide) (fun v5 T5 h5 L5 X5 e5 q5 => ?_)
    obtain ⟨r, rfl, hr, N5, rfl⟩ := q5
    show Go p e below _ (T5.setTop (mkF m 36 #[.val (.ref b), .val (.int x), .val (.int (0 : Int32)), .val (.int (Int32.ofNat cs.length))] [.int r]))
    exact g_retI X5 B d11_36 rfl (by decide) (by decide) e5 ⟨r, rfl, hr, (((((Fr.nil n0).app N1).app N2).app N3).app N5), rfl⟩
  · skip
    refine g_iconst X3 B (-1) d11_27 28 rfl rfl ?_
    exact g_retI X3 B d11_28 rfl (by decide) (by decide) e3 ⟨_, rfl, ⟨fun _ => own_notin (fun j c q => absurd ((own_lt (i := 0) (by omega) (by omega)).mpr (by omega)) c4), fun _ => by decide⟩, ((((Fr.nil n0).app N1).app N2).app N3), rfl⟩
set_option maxRecDepth 65536 in
set_option maxHeartbeats 40000000 in
theorem rX_ul (l : Launch) (Z : State) (ag : Array Value) (hw : ∀ d ∈ tables_1, d.before ag Z = true) (b : Addr) (vs : List Value) (cs : List Int32) (h0 : Heap) (n0 : Nat) (hn : cs.length ≤ 4) (Ab : Av Z h0 b .byte vs) (hU : own_U vs cs) :
    Ctr l Z (⟨"java/lang/StringUTF16", "length", "([B)I"⟩ : MethodName) jdk_52_method_6_code 1 (some .int) ({ frames := 0, cells := 0, slots := 0, locals := 0 } : Room) #[.ref b] h0 (fun v h L => v = some (.int (Int32.ofNat cs.length)) ∧ Fr n0 L ∧ h0 = h) := by
  refine Ctr.of pn_28 ?_
  intro p e s m below meth c T0 X0 B e0
  refine Go.cast (f' := mkF m 0 #[.val (.ref b)] []) (by first | rfl | (simp [entryFrame, mkF, argsToLocals, Value.category, maxLocals]; done)) ?_

  refine g_aloadN X0 B d28_0 1 rfl rfl rfl ?_
  refine g_arrlen X0 B (Int32.ofNat (2 * cs.length)) d28_1 2 rfl e0 Ab (by rw [hU.1]) ?_
  refine g_iconst X0 B (1) d28_2 3 rfl rfl ?_
  refine g_ishr X0 B d28_3 4 rfl ?_
  exact g_retI X0 B d28_4 rfl (by decide) (by decide) e0 ⟨by rw [own_shr2 hn], (Fr.nil n0), rfl⟩
set_option maxRecDepth 65536 in
set_option maxHeartbeats 40000000 in
theorem rX_pcf (l : Launch) (Z : State) (ag : Array Value) (hw : ∀ d ∈ tables_1, d.before ag Z = true) (f t z : Int32) (g : Value) (hg : g.isRef = true) (h0 : Heap) (n0 : Nat) (f1 : ¬ f < 0) (f2 : ¬ t < f) (f3 : ¬ z < t) :
    Ctr l Z (⟨"jdk/internal/util/Preconditions", "checkFromToIndex", "(IIILjava/util/function/BiFunction;)I"⟩ : MethodName) jdk_41_method_12_code 4 (some .int) ({ frames := 0, cells := 0, slots := 0, locals := 0 } : Room) #[.int f, .int t, .int z, g] h0 (fun v h L => v = some (.int f) ∧ Fr n0 L ∧ h0 = h) := by
  refine Ctr.of pn_30 ?_
  intro p e s m below meth c T0 X0 B e0
  refine Go.cast (f' := mkF m 0 #[.val (.int f), .val (.int t), .val (.int z), .val (g)] []) (by first | (rcases XT.refc hg with rfl | ⟨_, rfl⟩ <;> rfl) | (simp [entryFrame, mkF, argsToLocals, Value.category, maxLocals]; done)) ?_

  refine g_iloadN X0 B d30_0 1 rfl rfl ?_
  refine g_if_lt X0 B d30_1 14 4 rfl (by decide) rfl (fun z => own_abs' (f1) z) (fun _ => ?_)
  refine g_iloadN X0 B d30_4 5 rfl rfl ?_
  refine g_iloadN X0 B d30_5 6 rfl rfl ?_
  refine g_icmp_gt X0 B d30_6 14 9 rfl (by decide) rfl (fun z => own_abs' (f2) z) (fun _ => ?_)
  refine g_iloadN X0 B d30_9 10 rfl rfl ?_
  refine g_iloadN X0 B d30_10 11 rfl rfl ?_
  refine g_icmp_le X0 B d30_11 22 14 rfl (by decide) rfl (fun _ => ?_) (fun z => own_abs' (f3) z)
  refine g_iloadN X0 B d30_22 23 rfl rfl ?_
  exact g_retI X0 B d30_23 rfl (by decide) (by decide) e0 ⟨rfl, (Fr.nil n0), rfl⟩
set_option maxRecDepth 65536 in
set_option maxHeartbeats 40000000 in
theorem rX_scb (l : Launch) (Z : State) (ag : Array Value) (hw : ∀ d ∈ tables_1, d.before ag Z = true) (f t z : Int32) (g : Value) (h0 : Heap) (n0 : Nat) (f1 : ¬ f < 0) (f2 : ¬ t < f) (f3 : ¬ z < t) (SF : Sta Z h0 "jdk/internal/util/Preconditions" "SIOOBE_FORMATTER" "Ljava/util/function/BiFunction;" g) (hg : g.isRef = true) :
    Ctr l Z (⟨"java/lang/String", "checkBoundsBeginEnd", "(III)V"⟩ : MethodName) jdk_42_method_158_code 3 none ({ frames := 1, cells := 0, slots := 0, locals := 15 } : Room) #[.int f, .int t, .int z] h0 (fun v h L => v = none ∧ Fr n0 L ∧ h0 = h) := by
  refine Ctr.of pn_29 ?_
  intro p e s m below meth c T0 X0 B e0
  refine Go.cast (f' := mkF m 0 #[.val (.int f), .val (.int t), .val (.int z)] []) (by first | rfl | (simp [entryFrame, mkF, argsToLocals, Value.category, maxLocals]; done)) ?_

  refine g_iloadN X0 B d29_0 1 rfl rfl ?_
  refine g_iloadN X0 B d29_1 2 rfl rfl ?_
  refine g_iloadN X0 B d29_2 3 rfl rfl ?_
  refine g_getS X0 B d29_3 6 rfl (hw _ (List.mem_of_getElem? (i := 125) rfl)) Via.refl e0 SF (fun T1 X1 e1 => ?_)
  refine g_callS X1 B [.int f, .int t, .int z, g] [] d29_6 9 rfl rfl (hw _ (List.mem_of_getElem? (i := 127) rfl)) (hw _ (List.mem_of_getElem? (i := 128) rfl)) (hw _ (List.mem_of_getElem? (i := 126) rfl)) (hw _ (List.mem_of_getElem? (i := 129) rfl)) (by decide) (lenOf pd_30 rfl) (rX_pcf l Z ag hw f t z g hg h0 n0 f1 f2 f3) e1 rfl 0 (Nat.le_of_eq rfl) (by decide) (by decide) (by decide) (by decide) (fun v2 T2 h2 L2 X2 e2 q2 => ?_)
  obtain ⟨rfl, N2, rfl⟩ := q2
  show Go p e below _ (T2.setTop (mkF m 9 #[.val (.int f), .val (.int t), .val (.int z)] [.int f]))
  refine g_pop X2 B d29_9 10 rfl rfl ?_
  exact g_retV X2 B d29_10 rfl (by decide) (by decide) e2 ⟨rfl, ((Fr.nil n0).app N2), rfl⟩
set_option maxRecDepth 65536 in
set_option maxHeartbeats 40000000 in
theorem rX_ucb (l : Launch) (Z : State) (ag : Array Value) (hw : ∀ d ∈ tables_1, d.before ag Z = true) (b : Addr) (vs : List Value) (cs : List Int32) (g : Value) (h0 : Heap) (n0 : Nat) (hn : cs.length ≤ 4) (Ab : Av Z h0 b .byte vs) (hU : own_U vs cs) (SF : Sta Z h0 "jdk/internal/util/Preconditions" "SIOOBE_FORMATTER" "Ljava/util/function/BiFunction;" g) (hg : g.isRef = true) :
    Ctr l Z (⟨"java/lang/StringUTF16", "checkBoundsBeginEnd", "(II[B)V"⟩ : MethodName) jdk_52_method_93_code 3 none ({ frames := 2, cells := 0, slots := 0, locals := 29 } : Room) #[.int (0 : Int32), .int (Int32.ofNat cs.length), .ref b] h0 (fun v h L => v = none ∧ Fr n0 L ∧ h0 = h) := by
  refine Ctr.of pn_27 ?_
  intro p e s m below meth c T0 X0 B e0
  refine Go.cast (f' := mkF m 0 #[.val (.int (0 : Int32)), .val (.int (Int32.ofNat cs.length)), .val (.ref b)] []) (by first | rfl | (simp [entryFrame, mkF, argsToLocals, Value.category, maxLocals]; done)) ?_

  refine g_iloadN X0 B d27_0 1 rfl rfl ?_
  refine g_iloadN X0 B d27_1 2 rfl rfl ?_
  refine g_aloadN X0 B d27_2 3 rfl rfl rfl ?_
  refine g_callS X0 B [.ref b] [.int (Int32.ofNat cs.length), .int (0 : Int32)] d27_3 6 rfl rfl (hw _ (List.mem_of_getElem? (i := 119) rfl)) (hw _ (List.mem_of_getElem? (i := 120) rfl)) (hw _ (List.mem_of_getElem? (i := 74) rfl)) (hw _ (List.mem_of_getElem? (i := 121) rfl)) (by decide) (lenOf pd_28 rfl) (rX_ul l Z ag hw b vs cs h0 n0 hn Ab hU) e0 rfl 2 (Nat.le_of_eq rfl) (by decide) (by decide) (by decide) (by decide) (fun v1 T1 h1 L1 X1 e1 q1 => ?_)
  obtain ⟨rfl, N1, rfl⟩ := q1
  show Go p e below _ (T1.setTop (mkF m 6 #[.val (.int (0 : Int32)), .val (.int (Int32.ofNat cs.length)), .val (.ref b)] [.int (Int32.ofNat cs.length), .int (Int32.ofNat cs.length), .int (0 : Int32)]))
  refine g_callS X1 B [.int (0 : Int32), .int (Int32.ofNat cs.length), .int (Int32.ofNat cs.length)] [] d27_6 9 rfl rfl (hw _ (List.mem_of_getElem? (i := 122) rfl)) (hw _ (List.mem_of_getElem? (i := 123) rfl)) (hw _ (List.mem_of_getElem? (i := 8) rfl)) (hw _ (List.mem_of_getElem? (i := 124) rfl)) (by decide) (lenOf pd_29 rfl) (rX_scb l Z ag hw 0 (Int32.ofNat cs.length) (Int32.ofNat cs.length) g h0 n0 (by decide) (own_nn (by omega)) (fun z => absurd ((own_lt (by omega) (by omega)).mp z) (by omega)) SF hg) e1 rfl 0 (Nat.le_of_eq rfl) (by decide) (by decide) (by decide) (by decide) (fun v2 T2 h2 L2 X2 e2 q2 => ?_)
  obtain ⟨rfl, N2, rfl⟩ := q2
  show Go p e below _ (T2.setTop (mkF m 9 #[.val (.int (0 : Int32)), .val (.int (Int32.ofNat cs.length)), .val (.ref b)] []))
  exact g_retV X2 B d27_9 rfl (by decide) (by decide) e2 ⟨rfl, (((Fr.nil n0).app N1).app N2), rfl⟩
set_option maxRecDepth 65536 in
set_option maxHeartbeats 40000000 in
theorem rX_uun (l : Launch) (Z : State) (ag : Array Value) (hw : ∀ d ∈ tables_1, d.before ag Z = true) (b : Addr) (x : Int32) (vs : List Value) (cs : List Int32) (h0 : Heap) (n0 : Nat) (hn : cs.length ≤ 4) (hcs : ∀ c ∈ cs, own_ch c) (Ab : Av Z h0 b .byte vs) (hU : own_U vs cs) (SA : Sta Z h0 "java/lang/StringUTF16" "$assertionsDisabled" "Z" (.int 1)) (SH : Sta Z h0 "java/lang/StringUTF16" "HI_BYTE_SHIFT" "I" (.int 0)) (SLo : Sta Z h0 "java/lang/StringUTF16" "LO_BYTE_SHIFT" "I" (.int 8)) :
    Ctr l Z (⟨"java/lang/StringUTF16", "indexOfCharUnsafe", "([BIII)I"⟩ : MethodName) jdk_52_method_48_code 5 (some .int) ({ frames := 1, cells := 0, slots := 0, locals := 13 } : Room) #[.ref b, .int x, .int (0 : Int32), .int (Int32.ofNat cs.length)] h0 (own_QX h0 n0 x cs) := by
  refine Ctr.of pn_31 ?_
  intro p e s m below meth c T0 X0 B e0
  refine Go.cast (f' := mkF m 0 #[.val (.ref b), .val (.int x), .val (.int (0 : Int32)), .val (.int (Int32.ofNat cs.length)), .unset] []) (by first | rfl | (simp [entryFrame, mkF, argsToLocals, Value.category, maxLocals]; done)) ?_

  refine g_iloadN X0 B d31_0 1 rfl rfl ?_
  refine g_istore X0 B #[.val (.ref b), .val (.int x), .val (.int (0 : Int32)), .val (.int (Int32.ofNat cs.length)), .val (.int (0 : Int32))] d31_1 3 rfl rfl ?_
  have loop : ∀ (k i : Nat) (T : State) (Lo : List Loc), i + k = cs.length → (∀ j c, j < i → cs[j]? = some c → ¬ c = x) → Stand p l e ({ frames := 1, cells := 0, slots := 0, locals := 13 } : Room) s m #[.ref b, .int x, .int (0 : Int32), .int (Int32.ofNat cs.length)] below meth c T Lo 0 0 → T.heap = h0 → Fr n0 Lo → Go p e below (EndsQ s (own_QX h0 n0 x cs) ({ frames := 1, cells := 0, slots := 0, locals := 13 } : Room).cells ({ frames := 1, cells := 0, slots := 0, locals := 13 } : Room).slots) (T.setTop (mkF m 3 #[.val (.ref b), .val (.int x), .val (.int (0 : Int32)), .val (.int (Int32.ofNat cs.length)), .val (.int (Int32.ofNat i))] [])) := by
    intro k
    induction k with
    | zero =>
      intro i T Lo hk hj X eh N
      refine g_iload X B d31_3 5 rfl rfl ?_
      refine g_iloadN X B d31_5 6 rfl rfl ?_
      refine g_icmp_ge X B d31_6 28 9 rfl (by decide) rfl (fun _ => ?_) (fun z => own_abs' (fun z => absurd ((own_lt (by omega) (by omega)).mp z) (by omega)) z)
      refine g_iconst X B (-1) d31_28 29 rfl rfl ?_
      exact g_retI X B d31_29 rfl (by decide) (by decide) eh ⟨_, rfl, ⟨fun _ => own_notin (fun j c q => hj j c (by omega)), fun _ => by decide⟩, N, rfl⟩
    | succ k ih =>
      intro i T Lo hk hj X eh N
      obtain ⟨c0, hc⟩ := own_ex (cs := cs) (i := i) (by omega)
      have hch := hcs c0 (own_memat hc)
      refine g_iload X B d31_3 5 rfl rfl ?_
      refine g_iloadN X B d31_5 6 rfl rfl ?_
      refine g_icmp_ge X B d31_6 28 9 rfl (by decide) rfl (fun z => own_abs ((own_lt (by omega) (by omega)).mpr (by omega)) z) (fun _ => ?_)
      refine g_aloadN X B d31_9 10 rfl rfl rfl ?_
      refine g_iload X B d31_10 12 rfl rfl ?_
      refine g_callS X B [.ref b, .int (Int32.ofNat i)] [] d31_12 15 rfl rfl (hw _ (List.mem_of_getElem? (i := 104) rfl)) (hw _ (List.mem_of_getElem? (i := 105) rfl)) (hw _ (List.mem_of_getElem? (i := 74) rfl)) (hw _ (List.mem_of_getElem? (i := 106) rfl)) (by decide) (lenOf pd_24 rfl) (rS_get l Z ag hw b i c0 vs h0 n0 Ab (by rw [hU.1]; omega) (hU.2 i c0 (by omega) hc).1 (hU.2 i c0 (by omega) hc).2 hch SA SH SLo) eh rfl 0 (Nat.le_of_eq rfl) (by decide) (by decide) (by decide) (by decide) (fun v1 T1 h1 L1 X1 e1 q1 => ?_)
      obtain ⟨rfl, N1, rfl⟩ := q1
      show Go p e below _ (T1.setTop (mkF m 15 #[.val (.ref b), .val (.int x), .val (.int (0 : Int32)), .val (.int (Int32.ofNat cs.length)), .val (.int (Int32.ofNat i))] [.int c0]))
      refine g_iloadN X1 B d31_15 16 rfl rfl ?_
      refine g_icmp_ne X1 B d31_16 22 19 rfl (by decide) rfl (fun c2 => ?_) (fun c2 => ?_)
      · skip
        refine g_iinc X1 B #[.val (.ref b), .val (.int x), .val (.int (0 : Int32)), .val (.int (Int32.ofNat cs.length)), .val (.int ((Int32.ofNat i) + (1)))] (1) d31_22 25 rfl rfl rfl rfl ?_
        rw [own_s1 (by omega)]
        refine g_goto X1 B d31_25 3 rfl (by decide) ?_
        exact ih (i + 1) _ _ (by omega) (fun j d q hd z => by
        by_cases e : j = i
        · subst e
          cases hc.symm.trans hd
          exact c2 z
        · exact hj j d (by omega) hd z) X1 e1 (N.app N1)
      · skip
        refine g_iload X1 B d31_19 21 rfl rfl ?_
        exact g_retI X1 B d31_21 rfl (by decide) (by decide) e1 ⟨_, rfl, own_nneg (by omega) (fun z => z (c2 ▸ own_memat hc)), (N.app N1), rfl⟩
  exact loop cs.length 0 _ _ (by omega) (fun j c q => absurd q (Nat.not_lt_zero _)) X0 e0 (Fr.nil n0)
set_option maxRecDepth 65536 in
set_option maxHeartbeats 40000000 in
theorem rX_uic (l : Launch) (Z : State) (ag : Array Value) (hw : ∀ d ∈ tables_1, d.before ag Z = true) (b : Addr) (x : Int32) (vs : List Value) (cs : List Int32) (g : Value) (h0 : Heap) (n0 : Nat) (hn : cs.length ≤ 4) (hcs : ∀ c ∈ cs, own_ch c) (Ab : Av Z h0 b .byte vs) (hU : own_U vs cs) (SA : Sta Z h0 "java/lang/StringUTF16" "$assertionsDisabled" "Z" (.int 1)) (SH : Sta Z h0 "java/lang/StringUTF16" "HI_BYTE_SHIFT" "I" (.int 0)) (SLo : Sta Z h0 "java/lang/StringUTF16" "LO_BYTE_SHIFT" "I" (.int 8)) (SF : Sta Z h0 "jdk/internal/util/Preconditions" "SIOOBE_FORMATTER" "Ljava/util/function/BiFunction;" g) (hg : g.isRef = true) :
    Ctr l Z (⟨"java/lang/StringUTF16", "indexOfChar", "([BIII)I"⟩ : MethodName) jdk_52_method_47_code 4 (some .int) ({ frames := 3, cells := 0, slots := 0, locals := 43 } : Room) #[.ref b, .int x, .int (0 : Int32), .int (Int32.ofNat cs.length)] h0 (own_QX h0 n0 x cs) := by
  refine Ctr.of pn_26 ?_
  intro p e s m below meth c T0 X0 B e0
  refine Go.cast (f' := mkF m 0 #[.val (.ref b), .val (.int x), .val (.int (0 : Int32)), .val (.int (Int32.ofNat cs.length))] []) (by first | rfl | (simp [entryFrame, mkF, argsToLocals, Value.category, maxLocals]; done)) ?_

  refine g_iloadN X0 B d26_0 1 rfl rfl ?_
  refine g_iloadN X0 B d26_1 2 rfl rfl ?_
  refine g_aloadN X0 B d26_2 3 rfl rfl rfl ?_
  refine g_callS X0 B [.int (0 : Int32), .int (Int32.ofNat cs.length), .ref b] [] d26_3 6 rfl rfl (hw _ (List.mem_of_getElem? (i := 116) rfl)) (hw _ (List.mem_of_getElem? (i := 117) rfl)) (hw _ (List.mem_of_getElem? (i := 74) rfl)) (hw _ (List.mem_of_getElem? (i := 118) rfl)) (by decide) (lenOf pd_27 rfl) (rX_ucb l Z ag hw b vs cs g h0 n0 hn Ab hU SF hg) e0 rfl 0 (Nat.le_of_eq rfl) (by decide) (by decide) (by decide) (by decide) (fun v1 T1 h1 L1 X1 e1 q1 => ?_)
  obtain ⟨rfl, N1, rfl⟩ := q1
  show Go p e below _ (T1.setTop (mkF m 6 #[.val (.ref b), .val (.int x), .val (.int (0 : Int32)), .val (.int (Int32.ofNat cs.length))] []))
  refine g_aloadN X1 B d26_6 7 rfl rfl rfl ?_
  refine g_iloadN X1 B d26_7 8 rfl rfl ?_
  refine g_iloadN X1 B d26_8 9 rfl rfl ?_
  refine g_iloadN X1 B d26_9 10 rfl rfl ?_
  refine g_callS X1 B [.ref b, .int x, .int (0 : Int32), .int (Int32.ofNat cs.length)] [] d26_10 13 rfl rfl (hw _ (List.mem_of_getElem? (i := 130) rfl)) (hw _ (List.mem_of_getElem? (i := 131) rfl)) (hw _ (List.mem_of_getElem? (i := 74) rfl)) (hw _ (List.mem_of_getElem? (i := 132) rfl)) (by decide) (lenOf pd_31 rfl) (rX_uun l Z ag hw b x vs cs h0 n0 hn hcs Ab hU SA SH SLo) e1 rfl 0 (Nat.le_of_eq rfl) (by decide) (by decide) (by decide) (by decide) (fun v2 T2 h2 L2 X2 e2 q2 => ?_)
  obtain ⟨r, rfl, hr, N2, rfl⟩ := q2
  show Go p e below _ (T2.setTop (mkF m 13 #[.val (.ref b), .val (.int x), .val (.int (0 : Int32)), .val (.int (Int32.ofNat cs.length))] [.int r]))
  exact g_retI X2 B d26_13 rfl (by decide) (by decide) e2 ⟨r, rfl, hr, (((Fr.nil n0).app N1).app N2), rfl⟩
set_option maxRecDepth 65536 in
set_option maxHeartbeats 40000000 in
theorem rX_uix (l : Launch) (Z : State) (ag : Array Value) (hw : ∀ d ∈ tables_1, d.before ag Z = true) (b : Addr) (x : Int32) (vs : List Value) (cs : List Int32) (g : Value) (h0 : Heap) (n0 : Nat) (hn : cs.length ≤ 4) (hcs : ∀ c ∈ cs, own_ch c) (Ab : Av Z h0 b .byte vs) (hU : own_U vs cs) (SA : Sta Z h0 "java/lang/StringUTF16" "$assertionsDisabled" "Z" (.int 1)) (SH : Sta Z h0 "java/lang/StringUTF16" "HI_BYTE_SHIFT" "I" (.int 0)) (SLo : Sta Z h0 "java/lang/StringUTF16" "LO_BYTE_SHIFT" "I" (.int 8)) (SF : Sta Z h0 "jdk/internal/util/Preconditions" "SIOOBE_FORMATTER" "Ljava/util/function/BiFunction;" g) (hg : g.isRef = true) (hx : x < 65536) (hp : 0 < cs.length) :
    Ctr l Z (⟨"java/lang/StringUTF16", "indexOf", "([BIII)I"⟩ : MethodName) jdk_52_method_40_code 4 (some .int) ({ frames := 4, cells := 0, slots := 0, locals := 58 } : Room) #[.ref b, .int x, .int (0 : Int32), .int (Int32.ofNat cs.length)] h0 (own_QX h0 n0 x cs) := by
  refine Ctr.of pn_25 ?_
  intro p e s m below meth c T0 X0 B e0
  refine Go.cast (f' := mkF m 0 #[.val (.ref b), .val (.int x), .val (.int (0 : Int32)), .val (.int (Int32.ofNat cs.length))] []) (by first | rfl | (simp [entryFrame, mkF, argsToLocals, Value.category, maxLocals]; done)) ?_

  refine g_iloadN X0 B d25_0 1 rfl rfl ?_
  refine g_iconst X0 B (0) d25_1 2 rfl rfl ?_
  refine g_callS X0 B [.int (0 : Int32), .int (0 : Int32)] [] d25_2 5 rfl rfl (hw _ (List.mem_of_getElem? (i := 110) rfl)) (hw _ (List.mem_of_getElem? (i := 66) rfl)) (hw _ (List.mem_of_getElem? (i := 67) rfl)) (hw _ (List.mem_of_getElem? (i := 68) rfl)) (by decide) (lenOf pd_13 rfl) (rX_max l Z ag hw 0 0 h0 n0) e0 rfl 0 (Nat.le_of_eq rfl) (by decide) (by decide) (by decide) (by decide) (fun v1 T1 h1 L1 X1 e1 q1 => ?_)
  obtain ⟨rfl, N1, rfl⟩ := q1
  show Go p e below _ (T1.setTop (mkF m 5 #[.val (.ref b), .val (.int x), .val (.int (0 : Int32)), .val (.int (Int32.ofNat cs.length))] [.int (if (0 : Int32) < (0 : Int32) then (0 : Int32) else 0)]))
  rw [own_max0]
  refine g_istoreN X1 B #[.val (.ref b), .val (.int x), .val (.int (0 : Int32)), .val (.int (Int32.ofNat cs.length))] d25_5 6 rfl rfl ?_
  refine g_iloadN X1 B d25_6 7 rfl rfl ?_
  refine g_aloadN X1 B d25_7 8 rfl rfl rfl ?_
  refine g_arrlen X1 B (Int32.ofNat (2 * cs.length)) d25_8 9 rfl e1 Ab (by rw [hU.1]) ?_
  refine g_iconst X1 B (1) d25_9 10 rfl rfl ?_
  refine g_ishr X1 B d25_10 11 rfl ?_
  rw [own_shr2 hn]
  refine g_callS X1 B [.int (Int32.ofNat cs.length), .int (Int32.ofNat cs.length)] [] d25_11 14 rfl rfl (hw _ (List.mem_of_getElem? (i := 111) rfl)) (hw _ (List.mem_of_getElem? (i := 70) rfl)) (hw _ (List.mem_of_getElem? (i := 67) rfl)) (hw _ (List.mem_of_getElem? (i := 71) rfl)) (by decide) (lenOf pd_14 rfl) (rX_min l Z ag hw (Int32.ofNat cs.length) (Int32.ofNat cs.length) h0 n0) e1 rfl 0 (Nat.le_of_eq rfl) (by decide) (by decide) (by decide) (by decide) (fun v2 T2 h2 L2 X2 e2 q2 => ?_)
  obtain ⟨rfl, N2, rfl⟩ := q2
  show Go p e below _ (T2.setTop (mkF m 14 #[.val (.ref b), .val (.int x), .val (.int (0 : Int32)), .val (.int (Int32.ofNat cs.length))] [.int (if Int32.ofNat cs.length < Int32.ofNat cs.length then Int32.ofNat cs.length else Int32.ofNat cs.length)]))
  rw [own_min2 hn]
  refine g_istoreN X2 B #[.val (.ref b), .val (.int x), .val (.int (0 : Int32)), .val (.int (Int32.ofNat cs.length))] d25_14 15 rfl rfl ?_
  refine g_iloadN X2 B d25_15 16 rfl rfl ?_
  refine g_iloadN X2 B d25_16 17 rfl rfl ?_
  refine g_icmp_lt X2 B d25_17 22 20 rfl (by decide) rfl (fun _ => ?_) (fun z => own_abs ((own_lt (i := 0) (by omega) (by omega)).mpr hp) z)
  refine g_iloadN X2 B d25_22 23 rfl rfl ?_
  refine g_ldcI X2 B d25_23 25 rfl (hw _ (List.mem_of_getElem? (i := 112) rfl)) ?_
  refine g_icmp_ge X2 B d25_25 36 28 rfl (by decide) rfl (fun z => own_abs (hx) z) (fun _ => ?_)
  refine g_aloadN X2 B d25_28 29 rfl rfl rfl ?_
  refine g_iloadN X2 B d25_29 30 rfl rfl ?_
  refine g_iloadN X2 B d25_30 31 rfl rfl ?_
  refine g_iloadN X2 B d25_31 32 rfl rfl ?_
  refine g_callS X2 B [.ref b, .int x, .int (0 : Int32), .int (Int32.ofNat cs.length)] [] d25_32 35 rfl rfl (hw _ (List.mem_of_getElem? (i := 113) rfl)) (hw _ (List.mem_of_getElem? (i := 114) rfl)) (hw _ (List.mem_of_getElem? (i := 74) rfl)) (hw _ (List.mem_of_getElem? (i := 115) rfl)) (by decide) (lenOf pd_26 rfl) (rX_uic l Z ag hw b x vs cs g h0 n0 hn hcs Ab hU SA SH SLo SF hg) e2 rfl 0 (Nat.le_of_eq rfl) (by decide) (by decide) (by decide) (by decide) (fun v3 T3 h3 L3 X3 e3 q3 => ?_)
  obtain ⟨r, rfl, hr, N3, rfl⟩ := q3
  show Go p e below _ (T3.setTop (mkF m 35 #[.val (.ref b), .val (.int x), .val (.int (0 : Int32)), .val (.int (Int32.ofNat cs.length))] [.int r]))
  exact g_retI X3 B d25_35 rfl (by decide) (by decide) e3 ⟨r, rfl, hr, ((((Fr.nil n0).app N1).app N2).app N3), rfl⟩
set_option maxRecDepth 65536 in
set_option maxHeartbeats 40000000 in
theorem rX_i2 (l : Launch) (Z : State) (ag : Array Value) (hw : ∀ d ∈ tables_1, d.before ag Z = true) (a b : Addr) (k cx x : Int32) (vs : List Value) (cs : List Int32) (g : Value) (h0 : Heap) (n0 : Nat) (Ea : Exa Z h0 a "java/lang/String") (FV : Fld Z h0 a "java/lang/String" "value" "[B" (.ref b)) (FC : Fld Z h0 a "java/lang/String" "coder" "B" (.int k)) (Ab : Av Z h0 b .byte vs) (hn : cs.length ≤ 4) (hcs : ∀ c ∈ cs, own_ch c) (hSV : own_SV k vs cs) (hp : k = 0 ∨ 0 < cs.length) (SA : Sta Z h0 "java/lang/StringUTF16" "$assertionsDisabled" "Z" (.int 1)) (SH : Sta Z h0 "java/lang/StringUTF16" "HI_BYTE_SHIFT" "I" (.int 0)) (SLo : Sta Z h0 "java/lang/StringUTF16" "LO_BYTE_SHIFT" "I" (.int 8)) (SC : Sta Z h0 "java/lang/String" "COMPACT_STRINGS" "Z" (.int cx)) (hcx : ¬ cx = 0) (SF : Sta Z h0 "jdk/internal/util/Preconditions" "SIOOBE_FORMATTER" "Ljava/util/function/BiFunction;" g) (hg : g.isRef = true) (x0 : own_ch x) (x1 : ¬ 255 < x) (x2 : ¬ x < 0) (x3 : x < 65536) :
    Ctr l Z (⟨"java/lang/String", "indexOf", "(II)I"⟩ : MethodName) jdk_42_method_80_code 3 (some .int) ({ frames := 5, cells := 0, slots := 0, locals := 73 } : Room) #[.ref a, .int x, .int (0 : Int32)] h0 (own_QX h0 n0 x cs) := by
  refine Ctr.of pn_7 ?_
  intro p e s m below meth c T0 X0 B e0
  refine Go.cast (f' := mkF m 0 #[.val (.ref a), .val (.int x), .val (.int (0 : Int32))] []) (by first | rfl | (simp [entryFrame, mkF, argsToLocals, Value.category, maxLocals]; done)) ?_

  refine g_aloadN X0 B d7_0 1 rfl rfl rfl ?_
  refine g_callV X0 B [] [] d7_1 4 rfl rfl (hw _ (List.mem_of_getElem? (i := 42) rfl)) (hw _ (List.mem_of_getElem? (i := 43) rfl)) (hw _ (List.mem_of_getElem? (i := 45) rfl)) (hw _ (List.mem_of_getElem? (i := 44) rfl)) (hw _ (List.mem_of_getElem? (i := 8) rfl)) (hw _ (List.mem_of_getElem? (i := 46) rfl)) (by decide) (lenOf pd_8 rfl) Ea (rS_lat l Z ag hw a k cx h0 n0 FC (own_SVk hSV) SC hcx) e0 rfl 0 (Nat.le_of_eq rfl) (by decide) (by decide) (by decide) (by decide) (fun v1 T1 h1 L1 X1 e1 q1 => ?_)
  obtain ⟨rfl, N1, rfl⟩ := q1
  show Go p e below _ (T1.setTop (mkF m 4 #[.val (.ref a), .val (.int x), .val (.int (0 : Int32))] [.int (if k = 0 then 1 else 0)]))
  rcases hSV with ⟨rfl, hL⟩ | ⟨rfl, hU⟩
  · skip
    have hSV : own_SV _ vs cs := Or.inl ⟨rfl, hL⟩
    refine g_if_eq X1 B d7_4 23 7 rfl (by decide) rfl (fun z => own_abs' (by decide) z) (fun _ => ?_)
    refine g_aloadN X1 B d7_7 8 rfl rfl rfl ?_
    refine g_getF X1 B d7_8 11 rfl (hw _ (List.mem_of_getElem? (i := 26) rfl)) Via.refl e1 FV (fun T2 X2 e2 => ?_)
    refine g_iloadN X2 B d7_11 12 rfl rfl ?_
    refine g_iloadN X2 B d7_12 13 rfl rfl ?_
    refine g_aloadN X2 B d7_13 14 rfl rfl rfl ?_
    refine g_callV X2 B [] [.int (0 : Int32), .int x, .ref b] d7_14 17 rfl rfl (hw _ (List.mem_of_getElem? (i := 48) rfl)) (hw _ (List.mem_of_getElem? (i := 49) rfl)) (hw _ (List.mem_of_getElem? (i := 51) rfl)) (hw _ (List.mem_of_getElem? (i := 50) rfl)) (hw _ (List.mem_of_getElem? (i := 8) rfl)) (hw _ (List.mem_of_getElem? (i := 52) rfl)) (by decide) (lenOf pd_9 rfl) Ea (rS_len l Z ag hw a b _ cx vs cs h0 n0 Ea FV FC Ab hn hSV SC hcx) e2 rfl 3 (Nat.le_of_eq rfl) (by decide) (by decide) (by decide) (by decide) (fun v3 T3 h3 L3 X3 e3 q3 => ?_)
    obtain ⟨rfl, N3, rfl⟩ := q3
    show Go p e below _ (T3.setTop (mkF m 17 #[.val (.ref a), .val (.int x), .val (.int (0 : Int32))] [.int (Int32.ofNat cs.length), .int (0 : Int32), .int x, .ref b]))
    refine g_callS X3 B [.ref b, .int x, .int (0 : Int32), .int (Int32.ofNat cs.length)] [] d7_17 20 rfl rfl (hw _ (List.mem_of_getElem? (i := 58) rfl)) (hw _ (List.mem_of_getElem? (i := 59) rfl)) (hw _ (List.mem_of_getElem? (i := 60) rfl)) (hw _ (List.mem_of_getElem? (i := 61) rfl)) (by decide) (lenOf pd_11 rfl) (rX_lix l Z ag hw b x vs cs h0 n0 hn hcs Ab hL x0 x1 x2) e3 rfl 0 (Nat.le_of_eq rfl) (by decide) (by decide) (by decide) (by decide) (fun v4 T4 h4 L4 X4 e4 q4 => ?_)
    obtain ⟨r, rfl, hr, N4, rfl⟩ := q4
    show Go p e below _ (T4.setTop (mkF m 20 #[.val (.ref a), .val (.int x), .val (.int (0 : Int32))] [.int r]))
    refine g_goto X4 B d7_20 36 rfl (by decide) ?_
    exact g_retI X4 B d7_36 rfl (by decide) (by decide) e4 ⟨r, rfl, hr, ((((Fr.nil n0).app N1).app N3).app N4), rfl⟩
  · skip
    have hSV : own_SV _ vs cs := Or.inr ⟨rfl, hU⟩
    refine g_if_eq X1 B d7_4 23 7 rfl (by decide) rfl (fun _ => ?_) (fun z => own_abs (by decide) z)
    refine g_aloadN X1 B d7_23 24 rfl rfl rfl ?_
    refine g_getF X1 B d7_24 27 rfl (hw _ (List.mem_of_getElem? (i := 26) rfl)) Via.refl e1 FV (fun T5 X5 e5 => ?_)
    refine g_iloadN X5 B d7_27 28 rfl rfl ?_
    refine g_iloadN X5 B d7_28 29 rfl rfl ?_
    refine g_aloadN X5 B d7_29 30 rfl rfl rfl ?_
    refine g_callV X5 B [] [.int (0 : Int32), .int x, .ref b] d7_30 33 rfl rfl (hw _ (List.mem_of_getElem? (i := 48) rfl)) (hw _ (List.mem_of_getElem? (i := 49) rfl)) (hw _ (List.mem_of_getElem? (i := 51) rfl)) (hw _ (List.mem_of_getElem? (i := 50) rfl)) (hw _ (List.mem_of_getElem? (i := 8) rfl)) (hw _ (List.mem_of_getElem? (i := 52) rfl)) (by decide) (lenOf pd_9 rfl) Ea (rS_len l Z ag hw a b _ cx vs cs h0 n0 Ea FV FC Ab hn hSV SC hcx) e5 rfl 3 (Nat.le_of_eq rfl) (by decide) (by decide) (by decide) (by decide) (fun v6 T6 h6 L6 X6 e6 q6 => ?_)
    obtain ⟨rfl, N6, rfl⟩ := q6
    show Go p e below _ (T6.setTop (mkF m 33 #[.val (.ref a), .val (.int x), .val (.int (0 : Int32))] [.int (Int32.ofNat cs.length), .int (0 : Int32), .int x, .ref b]))
    refine g_callS X6 B [.ref b, .int x, .int (0 : Int32), .int (Int32.ofNat cs.length)] [] d7_33 36 rfl rfl (hw _ (List.mem_of_getElem? (i := 107) rfl)) (hw _ (List.mem_of_getElem? (i := 108) rfl)) (hw _ (List.mem_of_getElem? (i := 74) rfl)) (hw _ (List.mem_of_getElem? (i := 109) rfl)) (by decide) (lenOf pd_25 rfl) (rX_uix l Z ag hw b x vs cs g h0 n0 hn hcs Ab hU SA SH SLo SF hg x3 (hp.resolve_left (by decide))) e6 rfl 0 (Nat.le_of_eq rfl) (by decide) (by decide) (by decide) (by decide) (fun v7 T7 h7 L7 X7 e7 q7 => ?_)
    obtain ⟨r, rfl, hr, N7, rfl⟩ := q7
    show Go p e below _ (T7.setTop (mkF m 36 #[.val (.ref a), .val (.int x), .val (.int (0 : Int32))] [.int r]))
    exact g_retI X7 B d7_36 rfl (by decide) (by decide) e7 ⟨r, rfl, hr, ((((Fr.nil n0).app N1).app N6).app N7), rfl⟩
set_option maxRecDepth 65536 in
set_option maxHeartbeats 40000000 in
theorem rX_i1 (l : Launch) (Z : State) (ag : Array Value) (hw : ∀ d ∈ tables_1, d.before ag Z = true) (a b : Addr) (k cx x : Int32) (vs : List Value) (cs : List Int32) (g : Value) (h0 : Heap) (n0 : Nat) (Ea : Exa Z h0 a "java/lang/String") (FV : Fld Z h0 a "java/lang/String" "value" "[B" (.ref b)) (FC : Fld Z h0 a "java/lang/String" "coder" "B" (.int k)) (Ab : Av Z h0 b .byte vs) (hn : cs.length ≤ 4) (hcs : ∀ c ∈ cs, own_ch c) (hSV : own_SV k vs cs) (hp : k = 0 ∨ 0 < cs.length) (SA : Sta Z h0 "java/lang/StringUTF16" "$assertionsDisabled" "Z" (.int 1)) (SH : Sta Z h0 "java/lang/StringUTF16" "HI_BYTE_SHIFT" "I" (.int 0)) (SLo : Sta Z h0 "java/lang/StringUTF16" "LO_BYTE_SHIFT" "I" (.int 8)) (SC : Sta Z h0 "java/lang/String" "COMPACT_STRINGS" "Z" (.int cx)) (hcx : ¬ cx = 0) (SF : Sta Z h0 "jdk/internal/util/Preconditions" "SIOOBE_FORMATTER" "Ljava/util/function/BiFunction;" g) (hg : g.isRef = true) (x0 : own_ch x) (x1 : ¬ 255 < x) (x2 : ¬ x < 0) (x3 : x < 65536) :
    Ctr l Z (⟨"java/lang/String", "indexOf", "(I)I"⟩ : MethodName) jdk_42_method_79_code 2 (some .int) ({ frames := 6, cells := 0, slots := 0, locals := 87 } : Room) #[.ref a, .int x] h0 (own_QX h0 n0 x cs) := by
  refine Ctr.of pn_6 ?_
  intro p e s m below meth c T0 X0 B e0
  refine Go.cast (f' := mkF m 0 #[.val (.ref a), .val (.int x)] []) (by first | rfl | (simp [entryFrame, mkF, argsToLocals, Value.category, maxLocals]; done)) ?_

  refine g_aloadN X0 B d6_0 1 rfl rfl rfl ?_
  refine g_iloadN X0 B d6_1 2 rfl rfl ?_
  refine g_iconst X0 B (0) d6_2 3 rfl rfl ?_
  refine g_callV X0 B [.int x, .int (0 : Int32)] [] d6_3 6 rfl rfl (hw _ (List.mem_of_getElem? (i := 37) rfl)) (hw _ (List.mem_of_getElem? (i := 38) rfl)) (hw _ (List.mem_of_getElem? (i := 40) rfl)) (hw _ (List.mem_of_getElem? (i := 39) rfl)) (hw _ (List.mem_of_getElem? (i := 8) rfl)) (hw _ (List.mem_of_getElem? (i := 41) rfl)) (by decide) (lenOf pd_7 rfl) Ea (rX_i2 l Z ag hw a b k cx x vs cs g h0 n0 Ea FV FC Ab hn hcs hSV hp SA SH SLo SC hcx SF hg x0 x1 x2 x3) e0 rfl 0 (Nat.le_of_eq rfl) (by decide) (by decide) (by decide) (by decide) (fun v1 T1 h1 L1 X1 e1 q1 => ?_)
  obtain ⟨r, rfl, hr, N1, rfl⟩ := q1
  show Go p e below _ (T1.setTop (mkF m 6 #[.val (.ref a), .val (.int x)] [.int r]))
  exact g_retI X1 B d6_6 rfl (by decide) (by decide) e1 ⟨r, rfl, hr, ((Fr.nil n0).app N1), rfl⟩
theorem own_wS {ag : Array Value} {Z : State} (hw : ∀ d ∈ tables_1, d.before ag Z = true) : ∀ a ∈ Bundle.stringAtoms, a.before ag Z = true := by
  intro a ha
  simp only [Bundle.stringAtoms, List.mem_cons, List.not_mem_nil, or_false] at ha
  rcases ha with rfl | rfl | rfl | rfl | rfl | rfl | rfl
  · exact (hw _ (List.mem_of_getElem? (i := 8) rfl))
  · exact (hw _ (List.mem_of_getElem? (i := 7) rfl))
  · exact (hw _ (List.mem_of_getElem? (i := 21) rfl))
  · exact (hw _ (List.mem_of_getElem? (i := 22) rfl))
  · exact (hw _ (List.mem_of_getElem? (i := 23) rfl))
  · exact (hw _ (List.mem_of_getElem? (i := 24) rfl))
  · exact (hw _ (List.mem_of_getElem? (i := 25) rfl))
set_option maxRecDepth 65536 in
set_option maxHeartbeats 40000000 in
theorem rW_i4 (l : Launch) (Z : State) (ag : Array Value) (hw : ∀ d ∈ tables_1, d.before ag Z = true) (a aS : Addr) (h0 : Heap) (n0 : Nat) (Z0 : n0 ≤ h0.size) (ga : n0 ≤ a) (Ea : Exa Z h0 a "java/lang/String") (FV : Fld Z h0 a "java/lang/String" "value" "[B" (.null)) (FC : Fld Z h0 a "java/lang/String" "coder" "B" (.int 0)) (OZ : ∀ (b : Addr) (cl : Cell), Z.heap[b]? = some cl → h0[b]? = some cl) (hH : Jvm.Lit.constHeld Z "java/lang/String" 7) (hcw : Jvm.Lit.compactW.before ag Z = true) :
    CtrW l Z (⟨"java/lang/String", "<init>", "([CIILjava/lang/Void;)V"⟩ : MethodName) jdk_42_method_149_code 6 none ({ frames := 1, cells := 2, slots := 4, locals := 12 } : Room) #[.ref a, .ref aS, .int (0 : Int32), .int (0 : Int32), .null] h0 [] (fun v h vm L => ∃ b, v = none ∧ Fr n0 L ∧ Keep h0 h [a] ∧ Fld Z h a "java/lang/String" "value" "[B" (.ref b) ∧ Fld Z h a "java/lang/String" "coder" "B" (.int 0) ∧ Av Z h b .byte [] ∧ IB Z vm [""]) := by
  refine CtrW.of pn_3 ?_
  intro p e s m below meth c T0 X0 B e0 hs0 hS I
  refine Go.cast (f' := mkF m 0 #[.val (.ref a), .val (.ref aS), .val (.int (0 : Int32)), .val (.int (0 : Int32)), .val (.null), .unset] []) (by first | rfl | (simp [entryFrame, mkF, argsToLocals, Value.category, maxLocals]; done)) ?_

  refine g_aloadN X0 B d3_0 1 rfl rfl rfl ?_
  obtain ⟨T1, X1, e1, st1⟩ := initO X0 B.x B.z B.o (hw _ (List.mem_of_getElem? (i := 17) rfl)) (hw _ (List.mem_of_getElem? (i := 18) rfl)) (hw _ (List.mem_of_getElem? (i := 19) rfl)) e0 (g := mkF m 1 #[.val (.ref a), .val (.ref aS), .val (.int (0 : Int32)), .val (.int (0 : Int32)), .val (.null), .unset] [.ref a]) rfl (B.mx rfl) rfl (B.d d3_1) (by decide) (W := 0) (by show 2 * 0 + _ ≤ _; exact Nat.le_of_eq rfl) (by decide)
  refine Go.via st1 ?_
  show Go p e below _ (T1.setTop (mkF m 4 #[.val (.ref a), .val (.ref aS), .val (.int (0 : Int32)), .val (.int (0 : Int32)), .val (.null), .unset] []))
  refine g_iloadN X1 B d3_4 5 rfl rfl ?_
  refine g_if_ne X1 B d3_5 27 8 rfl (by decide) rfl (fun z => own_abs (rfl) z) (fun _ => ?_)
  refine g_aloadN X1 B d3_8 9 rfl rfl rfl ?_
  refine g_ldcS X1 B "" [] 0 0 d3_9 11 rfl (hw _ (List.mem_of_getElem? (i := 20) rfl)) (own_wS hw) e1 hS (Nat.zero_le _) (Fr.nil _) (by rw [hs0]; exact OZ) I (by simp) hH hcw (by decide) (by decide) (by decide) (by decide) (by decide) (by decide) (by decide) (fun ls T2 h2 lb X2 B e2 E2 hS I Li2 Ex2 C2 V2 Ab2 => ?_)
  have kk2 : h2.size ≤ h2.size := Nat.le_refl _
  have t1 := (Fld.ext E2 FV)
  have t2 : a ≠ ls := Fld.ne t1 V2 (by simp)
  refine g_getF X2 B d3_11 14 rfl (hw _ (List.mem_of_getElem? (i := 26) rfl)) Via.refl e2 V2 (fun T3 X3 e3 => ?_)
  have t3 := (Exa.ext E2 Ea)
  refine g_putF X3 B d3_14 17 rfl (hw _ (List.mem_of_getElem? (i := 26) rfl)) Via.refl e3 t1 t3 (Or.inr ⟨(hw _ (List.mem_of_getElem? (i := 22) rfl)), rfl, rfl⟩) (hw _ (List.mem_of_getElem? (i := 7) rfl)) (ty := (.array .byte)) (by decide) rfl rfl (fun T4 h4 X4 e4 W4 => ?_)
  have F4 := t1.same W4
  refine g_aloadN X4 B d3_17 18 rfl rfl rfl ?_
  refine g_ldcAgain X4 B d3_18 20 rfl (hw _ (List.mem_of_getElem? (i := 20) rfl)) Li2 ?_
  have t4 := (Fld.other W4 C2 (Or.inl (Ne.symm t2)))
  refine g_getF X4 B d3_20 23 rfl (hw _ (List.mem_of_getElem? (i := 27) rfl)) Via.refl e4 t4 (fun T5 X5 e5 => ?_)
  have t5 := (Fld.other W4 (Fld.ext E2 FC) (Or.inr (slot_ne (Or.inr (hw _ (List.mem_of_getElem? (i := 23) rfl))) (Or.inr (hw _ (List.mem_of_getElem? (i := 22) rfl))) (by decide) (t := .byte) (by decide) (t' := (.array .byte)) (by decide))))
  have t6 := (Exa.wr W4 t3)
  refine g_putF X5 B d3_23 26 rfl (hw _ (List.mem_of_getElem? (i := 27) rfl)) Via.refl e5 t5 t6 (Or.inr ⟨(hw _ (List.mem_of_getElem? (i := 23) rfl)), rfl, rfl⟩) (hw _ (List.mem_of_getElem? (i := 7) rfl)) (ty := .byte) (by decide) rfl rfl (fun T6 h6 X6 e6 W6 => ?_)
  have F6 := t5.same W6
  have t7 := (Keep.wr (Keep.wr (Keep.ext (Keep.refl h0 [a]) E2) W4 (Or.inl (List.mem_of_getElem? (i := 0) rfl))) W6 (Or.inl (List.mem_of_getElem? (i := 0) rfl)))
  have t8 := (Fld.other W6 F4 (Or.inr (slot_ne (Or.inr (hw _ (List.mem_of_getElem? (i := 22) rfl))) (Or.inr (hw _ (List.mem_of_getElem? (i := 23) rfl))) (by decide) (t := (.array .byte)) (by decide) (t' := .byte) (by decide))))
  have t9 : a ≠ lb := own_neAv t3 (hw _ (List.mem_of_getElem? (i := 7) rfl)) Ab2
  have t10 := (Av.other (Av.other Ab2 W4 (Ne.symm t9)) W6 (Ne.symm t9))
  have t11 := (Nat.le_trans (Nat.le_trans kk2 (Nat.le_of_eq W4.size.symm)) (Nat.le_of_eq W6.size.symm))
  exact g_retVW X6 B d3_26 rfl (by decide) (by decide) e6 hS t11 (fun vm hvm => ⟨lb, rfl, (Fr.snoc X6 (Fr.snoc X4 (Fr.nil n0) ga) ga), t7, t8, F6, t10, own_IBeq I hvm⟩)
set_option maxRecDepth 65536 in
set_option maxHeartbeats 40000000 in
theorem rW_i1 (l : Launch) (Z : State) (ag : Array Value) (hw : ∀ d ∈ tables_1, d.before ag Z = true) (a aS : Addr) (h0 : Heap) (n0 : Nat) (Z0 : n0 ≤ h0.size) (ga : n0 ≤ a) (Ea : Exa Z h0 a "java/lang/String") (FV : Fld Z h0 a "java/lang/String" "value" "[B" (.null)) (FC : Fld Z h0 a "java/lang/String" "coder" "B" (.int 0)) (OZ : ∀ (b : Addr) (cl : Cell), Z.heap[b]? = some cl → h0[b]? = some cl) (hH : Jvm.Lit.constHeld Z "java/lang/String" 7) (hcw : Jvm.Lit.compactW.before ag Z = true) (AS : Av Z h0 aS .char []) :
    CtrW l Z (⟨"java/lang/String", "<init>", "([C)V"⟩ : MethodName) jdk_42_method_3_code 2 none ({ frames := 2, cells := 2, slots := 4, locals := 29 } : Room) #[.ref a, .ref aS] h0 [] (fun v h vm L => ∃ b, v = none ∧ Fr n0 L ∧ Keep h0 h [a] ∧ Fld Z h a "java/lang/String" "value" "[B" (.ref b) ∧ Fld Z h a "java/lang/String" "coder" "B" (.int 0) ∧ Av Z h b .byte [] ∧ IB Z vm [""]) := by
  refine CtrW.of pn_2 ?_
  intro p e s m below meth c T0 X0 B e0 hs0 hS I
  refine Go.cast (f' := mkF m 0 #[.val (.ref a), .val (.ref aS)] []) (by first | rfl | (simp [entryFrame, mkF, argsToLocals, Value.category, maxLocals]; done)) ?_

  refine g_aloadN X0 B d2_0 1 rfl rfl rfl ?_
  refine g_aloadN X0 B d2_1 2 rfl rfl rfl ?_
  refine g_iconst X0 B (0) d2_2 3 rfl rfl ?_
  refine g_aloadN X0 B d2_3 4 rfl rfl rfl ?_
  refine g_arrlen X0 B 0 d2_4 5 rfl e0 AS rfl ?_
  refine g_aconstNull X0 B d2_5 6 rfl ?_
  refine g_callNW X0 B hS (Nat.zero_le _) I [.ref aS, .int (0 : Int32), .int (0 : Int32), .null] [] d2_6 9 rfl rfl rfl (hw _ (List.mem_of_getElem? (i := 13) rfl)) (hw _ (List.mem_of_getElem? (i := 14) rfl)) (hw _ (List.mem_of_getElem? (i := 16) rfl)) (hw _ (List.mem_of_getElem? (i := 8) rfl)) (by decide) (lenOf pd_3 rfl) (rW_i4 l Z ag hw a aS h0 n0 Z0 ga Ea FV FC OZ hH hcw) e0 rfl 0 (Nat.le_of_eq rfl) (by decide) (by decide) (by decide) (by decide) (fun v1 T1 h1 L1 X1 B e1 hS q1 => ?_)
  obtain ⟨lb, rfl, N1, K1, f1, f2, f3, I⟩ := q1
  show Go p e below _ (T1.setTop (mkF m 9 #[.val (.ref a), .val (.ref aS)] []))
  have kk1 : h1.size ≤ h1.size := Nat.le_refl _
  exact g_retVW X1 B d2_9 rfl (by decide) (by decide) e1 hS kk1 (fun vm hvm => ⟨lb, rfl, ((Fr.nil n0).app N1), K1, f1, f2, f3, own_IBeq I hvm⟩)
theorem d1_0 : decode method_4_code 0 = .ok (.iload_n 0, 1) := by decide +kernel
theorem d1_1 : decode method_4_code 1 = .ok (.ifCond .ne 14, 3) := by decide +kernel
theorem d1_4 : decode method_4_code 4 = .ok (.new 25, 3) := by decide +kernel
theorem d1_7 : decode method_4_code 7 = .ok (.dup, 1) := by decide +kernel
theorem d1_8 : decode method_4_code 8 = .ok (.iconst 0, 1) := by decide +kernel
theorem d1_9 : decode method_4_code 9 = .ok (.newarray .char, 2) := by decide +kernel
theorem d1_11 : decode method_4_code 11 = .ok (.invokespecial 27, 3) := by decide +kernel
theorem d1_14 : decode method_4_code 14 = .ok (.areturn, 1) := by decide +kernel
theorem d1_15 : decode method_4_code 15 = .ok (.iload_n 0, 1) := by decide +kernel
theorem d1_16 : decode method_4_code 16 = .ok (.iconst 1, 1) := by decide +kernel
theorem d1_17 : decode method_4_code 17 = .ok (.if_icmp .ne 18, 3) := by decide +kernel
theorem d1_20 : decode method_4_code 20 = .ok (.new 25, 3) := by decide +kernel
theorem d1_23 : decode method_4_code 23 = .ok (.dup, 1) := by decide +kernel
theorem d1_24 : decode method_4_code 24 = .ok (.iconst 1, 1) := by decide +kernel
theorem d1_25 : decode method_4_code 25 = .ok (.newarray .char, 2) := by decide +kernel
theorem d1_27 : decode method_4_code 27 = .ok (.dup, 1) := by decide +kernel
theorem d1_28 : decode method_4_code 28 = .ok (.iconst 0, 1) := by decide +kernel
theorem d1_29 : decode method_4_code 29 = .ok (.iload_n 1, 1) := by decide +kernel
theorem d1_30 : decode method_4_code 30 = .ok (.castore, 1) := by decide +kernel
theorem d1_31 : decode method_4_code 31 = .ok (.invokespecial 27, 3) := by decide +kernel
theorem d1_34 : decode method_4_code 34 = .ok (.areturn, 1) := by decide +kernel
theorem d1_35 : decode method_4_code 35 = .ok (.iload_n 0, 1) := by decide +kernel
theorem d1_36 : decode method_4_code 36 = .ok (.iconst 2, 1) := by decide +kernel
theorem d1_37 : decode method_4_code 37 = .ok (.if_icmp .ne 22, 3) := by decide +kernel
theorem d1_40 : decode method_4_code 40 = .ok (.new 25, 3) := by decide +kernel
theorem d1_43 : decode method_4_code 43 = .ok (.dup, 1) := by decide +kernel
theorem d1_44 : decode method_4_code 44 = .ok (.iconst 2, 1) := by decide +kernel
theorem d1_45 : decode method_4_code 45 = .ok (.newarray .char, 2) := by decide +kernel
theorem d1_47 : decode method_4_code 47 = .ok (.dup, 1) := by decide +kernel
theorem d1_48 : decode method_4_code 48 = .ok (.iconst 0, 1) := by decide +kernel
theorem d1_49 : decode method_4_code 49 = .ok (.iload_n 1, 1) := by decide +kernel
theorem d1_50 : decode method_4_code 50 = .ok (.castore, 1) := by decide +kernel
theorem d1_51 : decode method_4_code 51 = .ok (.dup, 1) := by decide +kernel
theorem d1_52 : decode method_4_code 52 = .ok (.iconst 1, 1) := by decide +kernel
theorem d1_53 : decode method_4_code 53 = .ok (.iload_n 2, 1) := by decide +kernel
theorem d1_54 : decode method_4_code 54 = .ok (.castore, 1) := by decide +kernel
theorem d1_55 : decode method_4_code 55 = .ok (.invokespecial 27, 3) := by decide +kernel
theorem d1_58 : decode method_4_code 58 = .ok (.areturn, 1) := by decide +kernel
theorem d1_59 : decode method_4_code 59 = .ok (.iload_n 0, 1) := by decide +kernel
theorem d1_60 : decode method_4_code 60 = .ok (.iconst 3, 1) := by decide +kernel
theorem d1_61 : decode method_4_code 61 = .ok (.if_icmp .ne 26, 3) := by decide +kernel
theorem d1_64 : decode method_4_code 64 = .ok (.new 25, 3) := by decide +kernel
theorem d1_67 : decode method_4_code 67 = .ok (.dup, 1) := by decide +kernel
theorem d1_68 : decode method_4_code 68 = .ok (.iconst 3, 1) := by decide +kernel
theorem d1_69 : decode method_4_code 69 = .ok (.newarray .char, 2) := by decide +kernel
theorem d1_71 : decode method_4_code 71 = .ok (.dup, 1) := by decide +kernel
theorem d1_72 : decode method_4_code 72 = .ok (.iconst 0, 1) := by decide +kernel
theorem d1_73 : decode method_4_code 73 = .ok (.iload_n 1, 1) := by decide +kernel
theorem d1_74 : decode method_4_code 74 = .ok (.castore, 1) := by decide +kernel
theorem d1_75 : decode method_4_code 75 = .ok (.dup, 1) := by decide +kernel
theorem d1_76 : decode method_4_code 76 = .ok (.iconst 1, 1) := by decide +kernel
theorem d1_77 : decode method_4_code 77 = .ok (.iload_n 2, 1) := by decide +kernel
theorem d1_78 : decode method_4_code 78 = .ok (.castore, 1) := by decide +kernel
theorem d1_79 : decode method_4_code 79 = .ok (.dup, 1) := by decide +kernel
theorem d1_80 : decode method_4_code 80 = .ok (.iconst 2, 1) := by decide +kernel
theorem d1_81 : decode method_4_code 81 = .ok (.iload_n 3, 1) := by decide +kernel
theorem d1_82 : decode method_4_code 82 = .ok (.castore, 1) := by decide +kernel
theorem d1_83 : decode method_4_code 83 = .ok (.invokespecial 27, 3) := by decide +kernel
theorem d1_86 : decode method_4_code 86 = .ok (.areturn, 1) := by decide +kernel
theorem d1_87 : decode method_4_code 87 = .ok (.new 25, 3) := by decide +kernel
theorem d1_90 : decode method_4_code 90 = .ok (.dup, 1) := by decide +kernel
theorem d1_91 : decode method_4_code 91 = .ok (.iconst 4, 1) := by decide +kernel
theorem d1_92 : decode method_4_code 92 = .ok (.newarray .char, 2) := by decide +kernel
theorem d1_94 : decode method_4_code 94 = .ok (.dup, 1) := by decide +kernel
theorem d1_95 : decode method_4_code 95 = .ok (.iconst 0, 1) := by decide +kernel
theorem d1_96 : decode method_4_code 96 = .ok (.iload_n 1, 1) := by decide +kernel
theorem d1_97 : decode method_4_code 97 = .ok (.castore, 1) := by decide +kernel
theorem d1_98 : decode method_4_code 98 = .ok (.dup, 1) := by decide +kernel
theorem d1_99 : decode method_4_code 99 = .ok (.iconst 1, 1) := by decide +kernel
theorem d1_100 : decode method_4_code 100 = .ok (.iload_n 2, 1) := by decide +kernel
theorem d1_101 : decode method_4_code 101 = .ok (.castore, 1) := by decide +kernel
theorem d1_102 : decode method_4_code 102 = .ok (.dup, 1) := by decide +kernel
theorem d1_103 : decode method_4_code 103 = .ok (.iconst 2, 1) := by decide +kernel
theorem d1_104 : decode method_4_code 104 = .ok (.iload_n 3, 1) := by decide +kernel
theorem d1_105 : decode method_4_code 105 = .ok (.castore, 1) := by decide +kernel
theorem d1_106 : decode method_4_code 106 = .ok (.dup, 1) := by decide +kernel
theorem d1_107 : decode method_4_code 107 = .ok (.iconst 3, 1) := by decide +kernel
theorem d1_108 : decode method_4_code 108 = .ok (.iload 4, 2) := by decide +kernel
theorem d1_110 : decode method_4_code 110 = .ok (.castore, 1) := by decide +kernel
theorem d1_111 : decode method_4_code 111 = .ok (.invokespecial 27, 3) := by decide +kernel
theorem d1_114 : decode method_4_code 114 = .ok (.areturn, 1) := by decide +kernel
theorem pn_1 : plainFor (⟨"com/example/contractlint/contractlint/checks/FindingHoldsLineBreakPinLaw", "make", "(ICCCC)Ljava/lang/String;"⟩ : MethodName) = true := by first | (apply plainFor_of_name; simp [plainName, overriddenIn]; done) | (apply plainFor_of_name; decide +kernel) | decide +kernel
theorem pd_1 : parseMethodDescriptor "(ICCCC)Ljava/lang/String;" = some ⟨[.int, .char, .char, .char, .char], (some (.object "java/lang/String"))⟩ := by decide +kernel
theorem d18_0 : decode method_3_code 0 = .ok (.iload_n 0, 1) := by decide +kernel
theorem d18_1 : decode method_3_code 1 = .ok (.bipush 10, 2) := by decide +kernel
theorem d18_3 : decode method_3_code 3 = .ok (.if_icmp .eq 9, 3) := by decide +kernel
theorem d18_6 : decode method_3_code 6 = .ok (.iload_n 0, 1) := by decide +kernel
theorem d18_7 : decode method_3_code 7 = .ok (.bipush 13, 2) := by decide +kernel
theorem d18_9 : decode method_3_code 9 = .ok (.if_icmp .ne 7, 3) := by decide +kernel
theorem d18_12 : decode method_3_code 12 = .ok (.iconst 1, 1) := by decide +kernel
theorem d18_13 : decode method_3_code 13 = .ok (.goto 4, 3) := by decide +kernel
theorem d18_16 : decode method_3_code 16 = .ok (.iconst 0, 1) := by decide +kernel
theorem d18_17 : decode method_3_code 17 = .ok (.ireturn, 1) := by decide +kernel
theorem pn_18 : plainFor (⟨"com/example/contractlint/contractlint/checks/FindingHoldsLineBreakPinLaw", "isBreak", "(C)Z"⟩ : MethodName) = true := by first | (apply plainFor_of_name; simp [plainName, overriddenIn]; done) | (apply plainFor_of_name; decide +kernel) | decide +kernel
theorem pd_18 : parseMethodDescriptor "(C)Z" = some ⟨[.char], (some .boolean)⟩ := by decide +kernel
theorem d5_0 : decode prog_7_method_4_code 0 = .ok (.aload_n 0, 1) := by decide +kernel
theorem d5_1 : decode prog_7_method_4_code 1 = .ok (.bipush 10, 2) := by decide +kernel
theorem d5_3 : decode prog_7_method_4_code 3 = .ok (.invokevirtual 85, 3) := by decide +kernel
theorem d5_6 : decode prog_7_method_4_code 6 = .ok (.ifCond .ge 12, 3) := by decide +kernel
theorem d5_9 : decode prog_7_method_4_code 9 = .ok (.aload_n 0, 1) := by decide +kernel
theorem d5_10 : decode prog_7_method_4_code 10 = .ok (.bipush 13, 2) := by decide +kernel
theorem d5_12 : decode prog_7_method_4_code 12 = .ok (.invokevirtual 85, 3) := by decide +kernel
theorem d5_15 : decode prog_7_method_4_code 15 = .ok (.ifCond .lt 7, 3) := by decide +kernel
theorem d5_18 : decode prog_7_method_4_code 18 = .ok (.iconst 1, 1) := by decide +kernel
theorem d5_19 : decode prog_7_method_4_code 19 = .ok (.goto 4, 3) := by decide +kernel
theorem d5_22 : decode prog_7_method_4_code 22 = .ok (.iconst 0, 1) := by decide +kernel
theorem d5_23 : decode prog_7_method_4_code 23 = .ok (.ireturn, 1) := by decide +kernel
theorem pn_5 : plainFor (⟨"com/example/contractlint/contractlint/checks/Finding", "holdsLineBreak", "(Ljava/lang/String;)Z"⟩ : MethodName) = true := by first | (apply plainFor_of_name; simp [plainName, overriddenIn]; done) | (apply plainFor_of_name; decide +kernel) | decide +kernel
theorem pd_5 : parseMethodDescriptor "(Ljava/lang/String;)Z" = some ⟨[(.object "java/lang/String")], (some .boolean)⟩ := by decide +kernel
theorem pn_0 : plainFor (⟨"com/example/contractlint/contractlint/checks/FindingHoldsLineBreakPinLaw", "law", "(IIIII)Z"⟩ : MethodName) = true := by first | (apply plainFor_of_name; simp [plainName, overriddenIn]; done) | (apply plainFor_of_name; decide +kernel) | decide +kernel

set_option maxRecDepth 65536 in
set_option maxHeartbeats 40000000 in
theorem rm_isb (l : Launch) (Z : State) (ag : Array Value) (hw : ∀ d ∈ tables_1, d.before ag Z = true) (x : Int32) (h0 : Heap) (n0 : Nat)  :
    Ctr l Z (⟨"com/example/contractlint/contractlint/checks/FindingHoldsLineBreakPinLaw", "isBreak", "(C)Z"⟩ : MethodName) method_3_code 1 (some .boolean) ({ frames := 0, cells := 0, slots := 0, locals := 0 } : Room) #[.int x] h0 (fun v h L => v = some (.int (if x = 10 ∨ x = 13 then 1 else 0)) ∧ Fr n0 L ∧ h0 = h) := by
  refine Ctr.of pn_18 ?_
  intro p e s m below meth c T0 X0 B e0
  refine Go.cast (f' := mkF m 0 #[.val (.int x)] []) (by first | rfl | (simp [entryFrame, mkF, argsToLocals, Value.category, maxLocals]; done)) ?_

  refine g_iloadN X0 B d18_0 1 rfl rfl ?_
  refine g_bipush X0 B (10) d18_1 3 rfl rfl ?_
  refine g_icmp_eq X0 B d18_3 12 6 rfl (by decide) rfl (fun c1 => ?_) (fun c1 => ?_)
  · skip
    refine g_iconst X0 B (1) d18_12 13 rfl rfl ?_
    refine g_goto X0 B d18_13 17 rfl (by decide) ?_
    exact g_retN X0 B d18_17 rfl rfl (by decide) (by decide) (by decide) e0 ⟨by simp [c1], (Fr.nil n0), rfl⟩
  · skip
    refine g_iloadN X0 B d18_6 7 rfl rfl ?_
    refine g_bipush X0 B (13) d18_7 9 rfl rfl ?_
    refine g_icmp_ne X0 B d18_9 16 12 rfl (by decide) rfl (fun c2 => ?_) (fun c2 => ?_)
    · skip
      refine g_iconst X0 B (0) d18_16 17 rfl rfl ?_
      exact g_retN X0 B d18_17 rfl rfl (by decide) (by decide) (by decide) e0 ⟨by simp [c1, c2], (Fr.nil n0), rfl⟩
    · skip
      refine g_iconst X0 B (1) d18_12 13 rfl rfl ?_
      refine g_goto X0 B d18_13 17 rfl (by decide) ?_
      exact g_retN X0 B d18_17 rfl rfl (by decide) (by decide) (by decide) e0 ⟨by simp [c1, c2], (Fr.nil n0), rfl⟩
set_option maxRecDepth 65536 in
set_option maxHeartbeats 40000000 in
theorem rm_hlb (l : Launch) (Z : State) (ag : Array Value) (hw : ∀ d ∈ tables_1, d.before ag Z = true) (a b : Addr) (k cx : Int32) (vs : List Value) (cs : List Int32) (g : Value) (h0 : Heap) (n0 : Nat) (Ea : Exa Z h0 a "java/lang/String") (FV : Fld Z h0 a "java/lang/String" "value" "[B" (.ref b)) (FC : Fld Z h0 a "java/lang/String" "coder" "B" (.int k)) (Ab : Av Z h0 b .byte vs) (hn : cs.length ≤ 4) (hcs : ∀ c ∈ cs, own_ch c) (hSV : own_SV k vs cs) (hp : k = 0 ∨ 0 < cs.length) (SA : Sta Z h0 "java/lang/StringUTF16" "$assertionsDisabled" "Z" (.int 1)) (SH : Sta Z h0 "java/lang/StringUTF16" "HI_BYTE_SHIFT" "I" (.int 0)) (SLo : Sta Z h0 "java/lang/StringUTF16" "LO_BYTE_SHIFT" "I" (.int 8)) (SC : Sta Z h0 "java/lang/String" "COMPACT_STRINGS" "Z" (.int cx)) (hcx : ¬ cx = 0) (SF : Sta Z h0 "jdk/internal/util/Preconditions" "SIOOBE_FORMATTER" "Ljava/util/function/BiFunction;" g) (hg : g.isRef = true) :
    Ctr l Z (⟨"com/example/contractlint/contractlint/checks/Finding", "holdsLineBreak", "(Ljava/lang/String;)Z"⟩ : MethodName) prog_7_method_4_code 1 (some .boolean) ({ frames := 7, cells := 0, slots := 0, locals := 100 } : Room) #[.ref a] h0 (fun v h L => v = some (.int (if (10 : Int32) ∈ cs ∨ (13 : Int32) ∈ cs then (1 : Int32) else 0)) ∧ Fr n0 L ∧ h0 = h) := by
  refine Ctr.of pn_5 ?_
  intro p e s m below meth c T0 X0 B e0
  refine Go.cast (f' := mkF m 0 #[.val (.ref a)] []) (by first | rfl | (simp [entryFrame, mkF, argsToLocals, Value.category, maxLocals]; done)) ?_

  refine g_aloadN X0 B d5_0 1 rfl rfl rfl ?_
  refine g_bipush X0 B (10) d5_1 3 rfl rfl ?_
  refine g_callV X0 B [.int (10 : Int32)] [] d5_3 6 rfl rfl (hw _ (List.mem_of_getElem? (i := 32) rfl)) (hw _ (List.mem_of_getElem? (i := 33) rfl)) (hw _ (List.mem_of_getElem? (i := 35) rfl)) (hw _ (List.mem_of_getElem? (i := 34) rfl)) (hw _ (List.mem_of_getElem? (i := 8) rfl)) (hw _ (List.mem_of_getElem? (i := 36) rfl)) (by decide) (lenOf pd_6 rfl) Ea (rX_i1 l Z ag hw a b k cx 10 vs cs g h0 n0 Ea FV FC Ab hn hcs hSV hp SA SH SLo SC hcx SF hg (by unfold own_ch; decide) (by decide) (by decide) (by decide)) e0 rfl 0 (Nat.le_of_eq rfl) (by decide) (by decide) (by decide) (by decide) (fun v1 T1 h1 L1 X1 e1 q1 => ?_)
  obtain ⟨r1, rfl, hr1, N1, rfl⟩ := q1
  show Go p e below _ (T1.setTop (mkF m 6 #[.val (.ref a)] [.int r1]))
  refine g_if_ge X1 B d5_6 18 9 rfl (by decide) rfl (fun c2 => ?_) (fun c2 => ?_)
  · skip
    refine g_iconst X1 B (1) d5_18 19 rfl rfl ?_
    refine g_goto X1 B d5_19 23 rfl (by decide) ?_
    exact g_retN X1 B d5_23 rfl rfl (by decide) (by decide) (by decide) e1 ⟨by rw [if_pos (Or.inl (Classical.not_not.mp (fun z => c2 (hr1.mpr z))))], ((Fr.nil n0).app N1), rfl⟩
  · skip
    refine g_aloadN X1 B d5_9 10 rfl rfl rfl ?_
    refine g_bipush X1 B (13) d5_10 12 rfl rfl ?_
    refine g_callV X1 B [.int (13 : Int32)] [] d5_12 15 rfl rfl (hw _ (List.mem_of_getElem? (i := 32) rfl)) (hw _ (List.mem_of_getElem? (i := 33) rfl)) (hw _ (List.mem_of_getElem? (i := 35) rfl)) (hw _ (List.mem_of_getElem? (i := 34) rfl)) (hw _ (List.mem_of_getElem? (i := 8) rfl)) (hw _ (List.mem_of_getElem? (i := 36) rfl)) (by decide) (lenOf pd_6 rfl) Ea (rX_i1 l Z ag hw a b k cx 13 vs cs g h0 n0 Ea FV FC Ab hn hcs hSV hp SA SH SLo SC hcx SF hg (by unfold own_ch; decide) (by decide) (by decide) (by decide)) e1 rfl 0 (Nat.le_of_eq rfl) (by decide) (by decide) (by decide) (by decide) (fun v3 T3 h3 L3 X3 e3 q3 => ?_)
    obtain ⟨r2, rfl, hr2, N3, rfl⟩ := q3
    show Go p e below _ (T3.setTop (mkF m 15 #[.val (.ref a)] [.int r2]))
    refine g_if_lt X3 B d5_15 22 18 rfl (by decide) rfl (fun c4 => ?_) (fun c4 => ?_)
    · skip
      refine g_iconst X3 B (0) d5_22 23 rfl rfl ?_
      exact g_retN X3 B d5_23 rfl rfl (by decide) (by decide) (by decide) e3 ⟨by rw [if_neg (fun z => z.elim (hr1.mp c2) (hr2.mp c4))], (((Fr.nil n0).app N1).app N3), rfl⟩
    · skip
      refine g_iconst X3 B (1) d5_18 19 rfl rfl ?_
      refine g_goto X3 B d5_19 23 rfl (by decide) ?_
      exact g_retN X3 B d5_23 rfl rfl (by decide) (by decide) (by decide) e3 ⟨by rw [if_pos (Or.inr (Classical.not_not.mp (fun z => c4 (hr2.mpr z))))], (((Fr.nil n0).app N1).app N3), rfl⟩
theorem own_chs1 {x0 x1 x2 x3 : Int32} (hx0 : own_ch x0) (hx1 : own_ch x1) (hx2 : own_ch x2) (hx3 : own_ch x3) : ∀ x ∈ [x0], own_ch x := by
  intro x hx
  simp only [List.mem_cons, List.not_mem_nil, or_false] at hx
  rcases hx with rfl <;> assumption
set_option maxRecDepth 65536 in
set_option maxHeartbeats 40000000 in
theorem rm_mk1 (l : Launch) (Z : State) (ag : Array Value) (hw : ∀ d ∈ tables_1, d.before ag Z = true) (x0 x1 x2 x3 cx : Int32) (h0 : Heap) (n0 : Nat) (Z0 : n0 ≤ h0.size) (hx0 : own_ch x0) (hx1 : own_ch x1) (hx2 : own_ch x2) (hx3 : own_ch x3) (SA : Sta Z h0 "java/lang/StringUTF16" "$assertionsDisabled" "Z" (.int 1)) (SH : Sta Z h0 "java/lang/StringUTF16" "HI_BYTE_SHIFT" "I" (.int 0)) (SLo : Sta Z h0 "java/lang/StringUTF16" "LO_BYTE_SHIFT" "I" (.int 8)) (SC : Sta Z h0 "java/lang/String" "COMPACT_STRINGS" "Z" (.int cx)) (hcx : ¬ cx = 0) :
    Ctr l Z (⟨"com/example/contractlint/contractlint/checks/FindingHoldsLineBreakPinLaw", "make", "(ICCCC)Ljava/lang/String;"⟩ : MethodName) method_4_code 5 (some (.object "java/lang/String")) ({ frames := 6, cells := 4, slots := 20, locals := 88 } : Room) #[.int (1 : Int32), .int x0, .int x1, .int x2, .int x3] h0 (fun v h L => ∃ a b vs k, v = some (.ref a) ∧ Fr n0 L ∧ Keep h0 h [] ∧ Exa Z h a "java/lang/String" ∧ Fld Z h a "java/lang/String" "value" "[B" (.ref b) ∧ Fld Z h a "java/lang/String" "coder" "B" (.int k) ∧ Av Z h b .byte vs ∧ own_SV k vs [x0]) := by
  refine Ctr.of pn_1 ?_
  intro p e s m below meth c T0 X0 B e0
  refine Go.cast (f' := mkF m 0 #[.val (.int (1 : Int32)), .val (.int x0), .val (.int x1), .val (.int x2), .val (.int x3)] []) (by first | rfl | (simp [entryFrame, mkF, argsToLocals, Value.category, maxLocals]; done)) ?_

  refine g_iloadN X0 B d1_0 1 rfl rfl ?_
  refine g_if_ne X0 B d1_1 15 4 rfl (by decide) rfl (fun _ => ?_) (fun z => own_abs' (by decide) z)
  refine g_iloadN X0 B d1_15 16 rfl rfl ?_
  refine g_iconst X0 B (1) d1_16 17 rfl rfl ?_
  refine g_icmp_ne X0 B d1_17 35 20 rfl (by decide) rfl (fun z => own_abs (by decide) z) (fun _ => ?_)
  refine g_new X0 B d1_20 23 rfl (hw _ (List.mem_of_getElem? (i := 6) rfl)) (hw _ (List.mem_of_getElem? (i := 7) rfl)) (hw _ (List.mem_of_getElem? (i := 8) rfl)) e0 (by decide) (by decide) (fun T1 h1 str X1 e1 ea1 E1 A1 D1 => ?_)
  have g_str : n0 ≤ str := ea1 ▸ Z0
  have gg_str : h0.size ≤ str := ea1 ▸ (Keep.refl h0 []).1
  have D1_0 : Fld Z h1 str "java/lang/String" "value" "[B" (.null) := D1 (Or.inr (hw _ (List.mem_of_getElem? (i := 22) rfl))) (ty := (.array .byte)) (by decide)
  have D1_1 : Fld Z h1 str "java/lang/String" "coder" "B" (.int 0) := D1 (Or.inr (hw _ (List.mem_of_getElem? (i := 23) rfl))) (ty := .byte) (by decide)
  refine g_dup X1 B d1_23 24 rfl rfl ?_
  refine g_iconst X1 B (1) d1_24 25 rfl rfl ?_
  refine g_newP X1 B [(.int 0 : Value)] d1_25 27 rfl (hw _ (List.mem_of_getElem? (i := 9) rfl)) e1 (by decide) rfl (by decide) (by decide) (by decide) (fun T2 h2 ar X2 e2 ea2 E2 A2 => ?_)
  have t1 := (Nat.le_trans Z0 E1.1)
  have t2 := (Keep.ext (Keep.refl h0 []) E1)
  have g_ar : n0 ≤ ar := ea2 ▸ t1
  have gg_ar : h0.size ≤ ar := ea2 ▸ t2.1
  have t3 : str ≠ ar := ea2 ▸ Nat.ne_of_lt (A1.lt)
  refine g_dup X2 B d1_27 28 rfl rfl ?_
  refine g_iconst X2 B (0) d1_28 29 rfl rfl ?_
  refine g_iloadN X2 B d1_29 30 rfl rfl ?_
  refine g_castore X2 B 0 d1_30 31 rfl e2 A2 (by decide) (by decide) (by simp) (fun T3 h3 X3 e3 W3 A3 => ?_)
  rw [own_nc hx0] at A3 W3
  replace A3 : Av Z h3 ar .char [(.int x0 : Value)] := A3
  have t4 := (Nat.le_trans (Nat.le_trans t1 E2.1) (Nat.le_of_eq W3.size.symm))
  have t5 := (Exa.wr W3 (Exa.ext E2 A1))
  have t6 := (Fld.other W3 (Fld.ext E2 D1_0) (Or.inl t3))
  have t7 := (Fld.other W3 (Fld.ext E2 D1_1) (Or.inl t3))
  have t8 := (Sta.wr W3 (Sta.ext E2 (Sta.ext E1 SA)))
  have t9 := (Sta.wr W3 (Sta.ext E2 (Sta.ext E1 SH)))
  have t10 := (Sta.wr W3 (Sta.ext E2 (Sta.ext E1 SLo)))
  have t11 := (Sta.wr W3 (Sta.ext E2 (Sta.ext E1 SC)))
  refine g_callN X3 B [.ref ar] [.ref str] d1_31 34 rfl rfl rfl (hw _ (List.mem_of_getElem? (i := 10) rfl)) (hw _ (List.mem_of_getElem? (i := 11) rfl)) (hw _ (List.mem_of_getElem? (i := 12) rfl)) (hw _ (List.mem_of_getElem? (i := 8) rfl)) (by decide) (lenOf pd_2 rfl) (rS_i1 l Z ag hw str ar [x0] cx h3 n0 t4 (by simp) (by simp) (own_chs1 hx0 hx1 hx2 hx3) g_str t5 t6 t7 A3 t8 t9 t10 t11 hcx) e3 rfl 1 (Nat.le_of_eq rfl) (by decide) (by decide) (by decide) (by decide) (fun v4 T4 h4 L4 X4 e4 q4 => ?_)
  obtain ⟨bb, vs, kk, rfl, N4, K4, f1, f2, f3, hSV, f5, f6⟩ := q4
  show Go p e below _ (T4.setTop (mkF m 34 #[.val (.int (1 : Int32)), .val (.int x0), .val (.int x1), .val (.int x2), .val (.int x3)] [.ref str]))
  have t12 := (Keep.trans (Keep.wr (Keep.ext t2 E2) W3 (Or.inr gg_ar)) K4 (allS (Or.inr gg_str) all0))
  have t13 := (Exa.keep t5 K4)
  exact g_retA X4 B d1_34 rfl rfl rfl (by decide) (by decide) e4 ⟨str, bb, vs, kk, rfl, ((Fr.snoc X3 (Fr.nil n0) g_ar).app N4), t12, t13, f1, f2, f3, hSV⟩
theorem own_chs2 {x0 x1 x2 x3 : Int32} (hx0 : own_ch x0) (hx1 : own_ch x1) (hx2 : own_ch x2) (hx3 : own_ch x3) : ∀ x ∈ [x0, x1], own_ch x := by
  intro x hx
  simp only [List.mem_cons, List.not_mem_nil, or_false] at hx
  rcases hx with rfl | rfl <;> assumption
set_option maxRecDepth 65536 in
set_option maxHeartbeats 40000000 in
theorem rm_mk2 (l : Launch) (Z : State) (ag : Array Value) (hw : ∀ d ∈ tables_1, d.before ag Z = true) (x0 x1 x2 x3 cx : Int32) (h0 : Heap) (n0 : Nat) (Z0 : n0 ≤ h0.size) (hx0 : own_ch x0) (hx1 : own_ch x1) (hx2 : own_ch x2) (hx3 : own_ch x3) (SA : Sta Z h0 "java/lang/StringUTF16" "$assertionsDisabled" "Z" (.int 1)) (SH : Sta Z h0 "java/lang/StringUTF16" "HI_BYTE_SHIFT" "I" (.int 0)) (SLo : Sta Z h0 "java/lang/StringUTF16" "LO_BYTE_SHIFT" "I" (.int 8)) (SC : Sta Z h0 "java/lang/String" "COMPACT_STRINGS" "Z" (.int cx)) (hcx : ¬ cx = 0) :
    Ctr l Z (⟨"com/example/contractlint/contractlint/checks/FindingHoldsLineBreakPinLaw", "make", "(ICCCC)Ljava/lang/String;"⟩ : MethodName) method_4_code 5 (some (.object "java/lang/String")) ({ frames := 6, cells := 4, slots := 20, locals := 88 } : Room) #[.int (2 : Int32), .int x0, .int x1, .int x2, .int x3] h0 (fun v h L => ∃ a b vs k, v = some (.ref a) ∧ Fr n0 L ∧ Keep h0 h [] ∧ Exa Z h a "java/lang/String" ∧ Fld Z h a "java/lang/String" "value" "[B" (.ref b) ∧ Fld Z h a "java/lang/String" "coder" "B" (.int k) ∧ Av Z h b .byte vs ∧ own_SV k vs [x0, x1]) := by
  refine Ctr.of pn_1 ?_
  intro p e s m below meth c T0 X0 B e0
  refine Go.cast (f' := mkF m 0 #[.val (.int (2 : Int32)), .val (.int x0), .val (.int x1), .val (.int x2), .val (.int x3)] []) (by first | rfl | (simp [entryFrame, mkF, argsToLocals, Value.category, maxLocals]; done)) ?_

  refine g_iloadN X0 B d1_0 1 rfl rfl ?_
  refine g_if_ne X0 B d1_1 15 4 rfl (by decide) rfl (fun _ => ?_) (fun z => own_abs' (by decide) z)
  refine g_iloadN X0 B d1_15 16 rfl rfl ?_
  refine g_iconst X0 B (1) d1_16 17 rfl rfl ?_
  refine g_icmp_ne X0 B d1_17 35 20 rfl (by decide) rfl (fun _ => ?_) (fun z => own_abs' (by decide) z)
  refine g_iloadN X0 B d1_35 36 rfl rfl ?_
  refine g_iconst X0 B (2) d1_36 37 rfl rfl ?_
  refine g_icmp_ne X0 B d1_37 59 40 rfl (by decide) rfl (fun z => own_abs (by decide) z) (fun _ => ?_)
  refine g_new X0 B d1_40 43 rfl (hw _ (List.mem_of_getElem? (i := 6) rfl)) (hw _ (List.mem_of_getElem? (i := 7) rfl)) (hw _ (List.mem_of_getElem? (i := 8) rfl)) e0 (by decide) (by decide) (fun T1 h1 str X1 e1 ea1 E1 A1 D1 => ?_)
  have g_str : n0 ≤ str := ea1 ▸ Z0
  have gg_str : h0.size ≤ str := ea1 ▸ (Keep.refl h0 []).1
  have D1_0 : Fld Z h1 str "java/lang/String" "value" "[B" (.null) := D1 (Or.inr (hw _ (List.mem_of_getElem? (i := 22) rfl))) (ty := (.array .byte)) (by decide)
  have D1_1 : Fld Z h1 str "java/lang/String" "coder" "B" (.int 0) := D1 (Or.inr (hw _ (List.mem_of_getElem? (i := 23) rfl))) (ty := .byte) (by decide)
  refine g_dup X1 B d1_43 44 rfl rfl ?_
  refine g_iconst X1 B (2) d1_44 45 rfl rfl ?_
  refine g_newP X1 B [(.int 0 : Value), .int 0] d1_45 47 rfl (hw _ (List.mem_of_getElem? (i := 9) rfl)) e1 (by decide) rfl (by decide) (by decide) (by decide) (fun T2 h2 ar X2 e2 ea2 E2 A2 => ?_)
  have t1 := (Nat.le_trans Z0 E1.1)
  have t2 := (Keep.ext (Keep.refl h0 []) E1)
  have g_ar : n0 ≤ ar := ea2 ▸ t1
  have gg_ar : h0.size ≤ ar := ea2 ▸ t2.1
  have t3 : str ≠ ar := ea2 ▸ Nat.ne_of_lt (A1.lt)
  refine g_dup X2 B d1_47 48 rfl rfl ?_
  refine g_iconst X2 B (0) d1_48 49 rfl rfl ?_
  refine g_iloadN X2 B d1_49 50 rfl rfl ?_
  refine g_castore X2 B 0 d1_50 51 rfl e2 A2 (by decide) (by decide) (by simp) (fun T3 h3 X3 e3 W3 A3 => ?_)
  rw [own_nc hx0] at A3 W3
  replace A3 : Av Z h3 ar .char [(.int x0 : Value), .int 0] := A3
  refine g_dup X3 B d1_51 52 rfl rfl ?_
  refine g_iconst X3 B (1) d1_52 53 rfl rfl ?_
  refine g_iloadN X3 B d1_53 54 rfl rfl ?_
  refine g_castore X3 B 1 d1_54 55 rfl e3 A3 (by decide) (by decide) (by simp) (fun T4 h4 X4 e4 W4 A4 => ?_)
  rw [own_nc hx1] at A4 W4
  replace A4 : Av Z h4 ar .char [(.int x0 : Value), .int x1] := A4
  have t4 := (Nat.le_trans (Nat.le_trans (Nat.le_trans t1 E2.1) (Nat.le_of_eq W3.size.symm)) (Nat.le_of_eq W4.size.symm))
  have t5 := (Exa.wr W4 (Exa.wr W3 (Exa.ext E2 A1)))
  have t6 := (Fld.other W4 (Fld.other W3 (Fld.ext E2 D1_0) (Or.inl t3)) (Or.inl t3))
  have t7 := (Fld.other W4 (Fld.other W3 (Fld.ext E2 D1_1) (Or.inl t3)) (Or.inl t3))
  have t8 := (Sta.wr W4 (Sta.wr W3 (Sta.ext E2 (Sta.ext E1 SA))))
  have t9 := (Sta.wr W4 (Sta.wr W3 (Sta.ext E2 (Sta.ext E1 SH))))
  have t10 := (Sta.wr W4 (Sta.wr W3 (Sta.ext E2 (Sta.ext E1 SLo))))
  have t11 := (Sta.wr W4 (Sta.wr W3 (Sta.ext E2 (Sta.ext E1 SC))))
  refine g_callN X4 B [.ref ar] [.ref str] d1_55 58 rfl rfl rfl (hw _ (List.mem_of_getElem? (i := 10) rfl)) (hw _ (List.mem_of_getElem? (i := 11) rfl)) (hw _ (List.mem_of_getElem? (i := 12) rfl)) (hw _ (List.mem_of_getElem? (i := 8) rfl)) (by decide) (lenOf pd_2 rfl) (rS_i1 l Z ag hw str ar [x0, x1] cx h4 n0 t4 (by simp) (by simp) (own_chs2 hx0 hx1 hx2 hx3) g_str t5 t6 t7 A4 t8 t9 t10 t11 hcx) e4 rfl 1 (Nat.le_of_eq rfl) (by decide) (by decide) (by decide) (by decide) (fun v5 T5 h5 L5 X5 e5 q5 => ?_)
  obtain ⟨bb, vs, kk, rfl, N5, K5, f1, f2, f3, hSV, f5, f6⟩ := q5
  show Go p e below _ (T5.setTop (mkF m 58 #[.val (.int (2 : Int32)), .val (.int x0), .val (.int x1), .val (.int x2), .val (.int x3)] [.ref str]))
  have t12 := (Keep.trans (Keep.wr (Keep.wr (Keep.ext t2 E2) W3 (Or.inr gg_ar)) W4 (Or.inr gg_ar)) K5 (allS (Or.inr gg_str) all0))
  have t13 := (Exa.keep t5 K5)
  exact g_retA X5 B d1_58 rfl rfl rfl (by decide) (by decide) e5 ⟨str, bb, vs, kk, rfl, ((Fr.snoc X4 (Fr.snoc X3 (Fr.nil n0) g_ar) g_ar).app N5), t12, t13, f1, f2, f3, hSV⟩
theorem own_chs3 {x0 x1 x2 x3 : Int32} (hx0 : own_ch x0) (hx1 : own_ch x1) (hx2 : own_ch x2) (hx3 : own_ch x3) : ∀ x ∈ [x0, x1, x2], own_ch x := by
  intro x hx
  simp only [List.mem_cons, List.not_mem_nil, or_false] at hx
  rcases hx with rfl | rfl | rfl <;> assumption
set_option maxRecDepth 65536 in
set_option maxHeartbeats 40000000 in
theorem rm_mk3 (l : Launch) (Z : State) (ag : Array Value) (hw : ∀ d ∈ tables_1, d.before ag Z = true) (x0 x1 x2 x3 cx : Int32) (h0 : Heap) (n0 : Nat) (Z0 : n0 ≤ h0.size) (hx0 : own_ch x0) (hx1 : own_ch x1) (hx2 : own_ch x2) (hx3 : own_ch x3) (SA : Sta Z h0 "java/lang/StringUTF16" "$assertionsDisabled" "Z" (.int 1)) (SH : Sta Z h0 "java/lang/StringUTF16" "HI_BYTE_SHIFT" "I" (.int 0)) (SLo : Sta Z h0 "java/lang/StringUTF16" "LO_BYTE_SHIFT" "I" (.int 8)) (SC : Sta Z h0 "java/lang/String" "COMPACT_STRINGS" "Z" (.int cx)) (hcx : ¬ cx = 0) :
    Ctr l Z (⟨"com/example/contractlint/contractlint/checks/FindingHoldsLineBreakPinLaw", "make", "(ICCCC)Ljava/lang/String;"⟩ : MethodName) method_4_code 5 (some (.object "java/lang/String")) ({ frames := 6, cells := 4, slots := 20, locals := 88 } : Room) #[.int (3 : Int32), .int x0, .int x1, .int x2, .int x3] h0 (fun v h L => ∃ a b vs k, v = some (.ref a) ∧ Fr n0 L ∧ Keep h0 h [] ∧ Exa Z h a "java/lang/String" ∧ Fld Z h a "java/lang/String" "value" "[B" (.ref b) ∧ Fld Z h a "java/lang/String" "coder" "B" (.int k) ∧ Av Z h b .byte vs ∧ own_SV k vs [x0, x1, x2]) := by
  refine Ctr.of pn_1 ?_
  intro p e s m below meth c T0 X0 B e0
  refine Go.cast (f' := mkF m 0 #[.val (.int (3 : Int32)), .val (.int x0), .val (.int x1), .val (.int x2), .val (.int x3)] []) (by first | rfl | (simp [entryFrame, mkF, argsToLocals, Value.category, maxLocals]; done)) ?_

  refine g_iloadN X0 B d1_0 1 rfl rfl ?_
  refine g_if_ne X0 B d1_1 15 4 rfl (by decide) rfl (fun _ => ?_) (fun z => own_abs' (by decide) z)
  refine g_iloadN X0 B d1_15 16 rfl rfl ?_
  refine g_iconst X0 B (1) d1_16 17 rfl rfl ?_
  refine g_icmp_ne X0 B d1_17 35 20 rfl (by decide) rfl (fun _ => ?_) (fun z => own_abs' (by decide) z)
  refine g_iloadN X0 B d1_35 36 rfl rfl ?_
  refine g_iconst X0 B (2) d1_36 37 rfl rfl ?_
  refine g_icmp_ne X0 B d1_37 59 40 rfl (by decide) rfl (fun _ => ?_) (fun z => own_abs' (by decide) z)
  refine g_iloadN X0 B d1_59 60 rfl rfl ?_
  refine g_iconst X0 B (3) d1_60 61 rfl rfl ?_
  refine g_icmp_ne X0 B d1_61 87 64 rfl (by decide) rfl (fun z => own_abs (by decide) z) (fun _ => ?_)
  refine g_new X0 B d1_64 67 rfl (hw _ (List.mem_of_getElem? (i := 6) rfl)) (hw _ (List.mem_of_getElem? (i := 7) rfl)) (hw _ (List.mem_of_getElem? (i := 8) rfl)) e0 (by decide) (by decide) (fun T1 h1 str X1 e1 ea1 E1 A1 D1 => ?_)
  have g_str : n0 ≤ str := ea1 ▸ Z0
  have gg_str : h0.size ≤ str := ea1 ▸ (Keep.refl h0 []).1
  have D1_0 : Fld Z h1 str "java/lang/String" "value" "[B" (.null) := D1 (Or.inr (hw _ (List.mem_of_getElem? (i := 22) rfl))) (ty := (.array .byte)) (by decide)
  have D1_1 : Fld Z h1 str "java/lang/String" "coder" "B" (.int 0) := D1 (Or.inr (hw _ (List.mem_of_getElem? (i := 23) rfl))) (ty := .byte) (by decide)
  refine g_dup X1 B d1_67 68 rfl rfl ?_
  refine g_iconst X1 B (3) d1_68 69 rfl rfl ?_
  refine g_newP X1 B [(.int 0 : Value), .int 0, .int 0] d1_69 71 rfl (hw _ (List.mem_of_getElem? (i := 9) rfl)) e1 (by decide) rfl (by decide) (by decide) (by decide) (fun T2 h2 ar X2 e2 ea2 E2 A2 => ?_)
  have t1 := (Nat.le_trans Z0 E1.1)
  have t2 := (Keep.ext (Keep.refl h0 []) E1)
  have g_ar : n0 ≤ ar := ea2 ▸ t1
  have gg_ar : h0.size ≤ ar := ea2 ▸ t2.1
  have t3 : str ≠ ar := ea2 ▸ Nat.ne_of_lt (A1.lt)
  refine g_dup X2 B d1_71 72 rfl rfl ?_
  refine g_iconst X2 B (0) d1_72 73 rfl rfl ?_
  refine g_iloadN X2 B d1_73 74 rfl rfl ?_
  refine g_castore X2 B 0 d1_74 75 rfl e2 A2 (by decide) (by decide) (by simp) (fun T3 h3 X3 e3 W3 A3 => ?_)
  rw [own_nc hx0] at A3 W3
  replace A3 : Av Z h3 ar .char [(.int x0 : Value), .int 0, .int 0] := A3
  refine g_dup X3 B d1_75 76 rfl rfl ?_
  refine g_iconst X3 B (1) d1_76 77 rfl rfl ?_
  refine g_iloadN X3 B d1_77 78 rfl rfl ?_
  refine g_castore X3 B 1 d1_78 79 rfl e3 A3 (by decide) (by decide) (by simp) (fun T4 h4 X4 e4 W4 A4 => ?_)
  rw [own_nc hx1] at A4 W4
  replace A4 : Av Z h4 ar .char [(.int x0 : Value), .int x1, .int 0] := A4
  refine g_dup X4 B d1_79 80 rfl rfl ?_
  refine g_iconst X4 B (2) d1_80 81 rfl rfl ?_
  refine g_iloadN X4 B d1_81 82 rfl rfl ?_
  refine g_castore X4 B 2 d1_82 83 rfl e4 A4 (by decide) (by decide) (by simp) (fun T5 h5 X5 e5 W5 A5 => ?_)
  rw [own_nc hx2] at A5 W5
  replace A5 : Av Z h5 ar .char [(.int x0 : Value), .int x1, .int x2] := A5
  have t4 := (Nat.le_trans (Nat.le_trans (Nat.le_trans (Nat.le_trans t1 E2.1) (Nat.le_of_eq W3.size.symm)) (Nat.le_of_eq W4.size.symm)) (Nat.le_of_eq W5.size.symm))
  have t5 := (Exa.wr W5 (Exa.wr W4 (Exa.wr W3 (Exa.ext E2 A1))))
  have t6 := (Fld.other W5 (Fld.other W4 (Fld.other W3 (Fld.ext E2 D1_0) (Or.inl t3)) (Or.inl t3)) (Or.inl t3))
  have t7 := (Fld.other W5 (Fld.other W4 (Fld.other W3 (Fld.ext E2 D1_1) (Or.inl t3)) (Or.inl t3)) (Or.inl t3))
  have t8 := (Sta.wr W5 (Sta.wr W4 (Sta.wr W3 (Sta.ext E2 (Sta.ext E1 SA)))))
  have t9 := (Sta.wr W5 (Sta.wr W4 (Sta.wr W3 (Sta.ext E2 (Sta.ext E1 SH)))))
  have t10 := (Sta.wr W5 (Sta.wr W4 (Sta.wr W3 (Sta.ext E2 (Sta.ext E1 SLo)))))
  have t11 := (Sta.wr W5 (Sta.wr W4 (Sta.wr W3 (Sta.ext E2 (Sta.ext E1 SC)))))
  refine g_callN X5 B [.ref ar] [.ref str] d1_83 86 rfl rfl rfl (hw _ (List.mem_of_getElem? (i := 10) rfl)) (hw _ (List.mem_of_getElem? (i := 11) rfl)) (hw _ (List.mem_of_getElem? (i := 12) rfl)) (hw _ (List.mem_of_getElem? (i := 8) rfl)) (by decide) (lenOf pd_2 rfl) (rS_i1 l Z ag hw str ar [x0, x1, x2] cx h5 n0 t4 (by simp) (by simp) (own_chs3 hx0 hx1 hx2 hx3) g_str t5 t6 t7 A5 t8 t9 t10 t11 hcx) e5 rfl 1 (Nat.le_of_eq rfl) (by decide) (by decide) (by decide) (by decide) (fun v6 T6 h6 L6 X6 e6 q6 => ?_)
  obtain ⟨bb, vs, kk, rfl, N6, K6, f1, f2, f3, hSV, f5, f6⟩ := q6
  show Go p e below _ (T6.setTop (mkF m 86 #[.val (.int (3 : Int32)), .val (.int x0), .val (.int x1), .val (.int x2), .val (.int x3)] [.ref str]))
  have t12 := (Keep.trans (Keep.wr (Keep.wr (Keep.wr (Keep.ext t2 E2) W3 (Or.inr gg_ar)) W4 (Or.inr gg_ar)) W5 (Or.inr gg_ar)) K6 (allS (Or.inr gg_str) all0))
  have t13 := (Exa.keep t5 K6)
  exact g_retA X6 B d1_86 rfl rfl rfl (by decide) (by decide) e6 ⟨str, bb, vs, kk, rfl, ((Fr.snoc X5 (Fr.snoc X4 (Fr.snoc X3 (Fr.nil n0) g_ar) g_ar) g_ar).app N6), t12, t13, f1, f2, f3, hSV⟩
theorem own_chs4 {x0 x1 x2 x3 : Int32} (hx0 : own_ch x0) (hx1 : own_ch x1) (hx2 : own_ch x2) (hx3 : own_ch x3) : ∀ x ∈ [x0, x1, x2, x3], own_ch x := by
  intro x hx
  simp only [List.mem_cons, List.not_mem_nil, or_false] at hx
  rcases hx with rfl | rfl | rfl | rfl <;> assumption
set_option maxRecDepth 65536 in
set_option maxHeartbeats 40000000 in
theorem rm_mk4 (l : Launch) (Z : State) (ag : Array Value) (hw : ∀ d ∈ tables_1, d.before ag Z = true) (x0 x1 x2 x3 cx : Int32) (h0 : Heap) (n0 : Nat) (Z0 : n0 ≤ h0.size) (hx0 : own_ch x0) (hx1 : own_ch x1) (hx2 : own_ch x2) (hx3 : own_ch x3) (SA : Sta Z h0 "java/lang/StringUTF16" "$assertionsDisabled" "Z" (.int 1)) (SH : Sta Z h0 "java/lang/StringUTF16" "HI_BYTE_SHIFT" "I" (.int 0)) (SLo : Sta Z h0 "java/lang/StringUTF16" "LO_BYTE_SHIFT" "I" (.int 8)) (SC : Sta Z h0 "java/lang/String" "COMPACT_STRINGS" "Z" (.int cx)) (hcx : ¬ cx = 0) :
    Ctr l Z (⟨"com/example/contractlint/contractlint/checks/FindingHoldsLineBreakPinLaw", "make", "(ICCCC)Ljava/lang/String;"⟩ : MethodName) method_4_code 5 (some (.object "java/lang/String")) ({ frames := 6, cells := 4, slots := 20, locals := 88 } : Room) #[.int (4 : Int32), .int x0, .int x1, .int x2, .int x3] h0 (fun v h L => ∃ a b vs k, v = some (.ref a) ∧ Fr n0 L ∧ Keep h0 h [] ∧ Exa Z h a "java/lang/String" ∧ Fld Z h a "java/lang/String" "value" "[B" (.ref b) ∧ Fld Z h a "java/lang/String" "coder" "B" (.int k) ∧ Av Z h b .byte vs ∧ own_SV k vs [x0, x1, x2, x3]) := by
  refine Ctr.of pn_1 ?_
  intro p e s m below meth c T0 X0 B e0
  refine Go.cast (f' := mkF m 0 #[.val (.int (4 : Int32)), .val (.int x0), .val (.int x1), .val (.int x2), .val (.int x3)] []) (by first | rfl | (simp [entryFrame, mkF, argsToLocals, Value.category, maxLocals]; done)) ?_

  refine g_iloadN X0 B d1_0 1 rfl rfl ?_
  refine g_if_ne X0 B d1_1 15 4 rfl (by decide) rfl (fun _ => ?_) (fun z => own_abs' (by decide) z)
  refine g_iloadN X0 B d1_15 16 rfl rfl ?_
  refine g_iconst X0 B (1) d1_16 17 rfl rfl ?_
  refine g_icmp_ne X0 B d1_17 35 20 rfl (by decide) rfl (fun _ => ?_) (fun z => own_abs' (by decide) z)
  refine g_iloadN X0 B d1_35 36 rfl rfl ?_
  refine g_iconst X0 B (2) d1_36 37 rfl rfl ?_
  refine g_icmp_ne X0 B d1_37 59 40 rfl (by decide) rfl (fun _ => ?_) (fun z => own_abs' (by decide) z)
  refine g_iloadN X0 B d1_59 60 rfl rfl ?_
  refine g_iconst X0 B (3) d1_60 61 rfl rfl ?_
  refine g_icmp_ne X0 B d1_61 87 64 rfl (by decide) rfl (fun _ => ?_) (fun z => own_abs' (by decide) z)
  refine g_new X0 B d1_87 90 rfl (hw _ (List.mem_of_getElem? (i := 6) rfl)) (hw _ (List.mem_of_getElem? (i := 7) rfl)) (hw _ (List.mem_of_getElem? (i := 8) rfl)) e0 (by decide) (by decide) (fun T1 h1 str X1 e1 ea1 E1 A1 D1 => ?_)
  have g_str : n0 ≤ str := ea1 ▸ Z0
  have gg_str : h0.size ≤ str := ea1 ▸ (Keep.refl h0 []).1
  have D1_0 : Fld Z h1 str "java/lang/String" "value" "[B" (.null) := D1 (Or.inr (hw _ (List.mem_of_getElem? (i := 22) rfl))) (ty := (.array .byte)) (by decide)
  have D1_1 : Fld Z h1 str "java/lang/String" "coder" "B" (.int 0) := D1 (Or.inr (hw _ (List.mem_of_getElem? (i := 23) rfl))) (ty := .byte) (by decide)
  refine g_dup X1 B d1_90 91 rfl rfl ?_
  refine g_iconst X1 B (4) d1_91 92 rfl rfl ?_
  refine g_newP X1 B [(.int 0 : Value), .int 0, .int 0, .int 0] d1_92 94 rfl (hw _ (List.mem_of_getElem? (i := 9) rfl)) e1 (by decide) rfl (by decide) (by decide) (by decide) (fun T2 h2 ar X2 e2 ea2 E2 A2 => ?_)
  have t1 := (Nat.le_trans Z0 E1.1)
  have t2 := (Keep.ext (Keep.refl h0 []) E1)
  have g_ar : n0 ≤ ar := ea2 ▸ t1
  have gg_ar : h0.size ≤ ar := ea2 ▸ t2.1
  have t3 : str ≠ ar := ea2 ▸ Nat.ne_of_lt (A1.lt)
  refine g_dup X2 B d1_94 95 rfl rfl ?_
  refine g_iconst X2 B (0) d1_95 96 rfl rfl ?_
  refine g_iloadN X2 B d1_96 97 rfl rfl ?_
  refine g_castore X2 B 0 d1_97 98 rfl e2 A2 (by decide) (by decide) (by simp) (fun T3 h3 X3 e3 W3 A3 => ?_)
  rw [own_nc hx0] at A3 W3
  replace A3 : Av Z h3 ar .char [(.int x0 : Value), .int 0, .int 0, .int 0] := A3
  refine g_dup X3 B d1_98 99 rfl rfl ?_
  refine g_iconst X3 B (1) d1_99 100 rfl rfl ?_
  refine g_iloadN X3 B d1_100 101 rfl rfl ?_
  refine g_castore X3 B 1 d1_101 102 rfl e3 A3 (by decide) (by decide) (by simp) (fun T4 h4 X4 e4 W4 A4 => ?_)
  rw [own_nc hx1] at A4 W4
  replace A4 : Av Z h4 ar .char [(.int x0 : Value), .int x1, .int 0, .int 0] := A4
  refine g_dup X4 B d1_102 103 rfl rfl ?_
  refine g_iconst X4 B (2) d1_103 104 rfl rfl ?_
  refine g_iloadN X4 B d1_104 105 rfl rfl ?_
  refine g_castore X4 B 2 d1_105 106 rfl e4 A4 (by decide) (by decide) (by simp) (fun T5 h5 X5 e5 W5 A5 => ?_)
  rw [own_nc hx2] at A5 W5
  replace A5 : Av Z h5 ar .char [(.int x0 : Value), .int x1, .int x2, .int 0] := A5
  refine g_dup X5 B d1_106 107 rfl rfl ?_
  refine g_iconst X5 B (3) d1_107 108 rfl rfl ?_
  refine g_iload X5 B d1_108 110 rfl rfl ?_
  refine g_castore X5 B 3 d1_110 111 rfl e5 A5 (by decide) (by decide) (by simp) (fun T6 h6 X6 e6 W6 A6 => ?_)
  rw [own_nc hx3] at A6 W6
  replace A6 : Av Z h6 ar .char [(.int x0 : Value), .int x1, .int x2, .int x3] := A6
  have t4 := (Nat.le_trans (Nat.le_trans (Nat.le_trans (Nat.le_trans (Nat.le_trans t1 E2.1) (Nat.le_of_eq W3.size.symm)) (Nat.le_of_eq W4.size.symm)) (Nat.le_of_eq W5.size.symm)) (Nat.le_of_eq W6.size.symm))
  have t5 := (Exa.wr W6 (Exa.wr W5 (Exa.wr W4 (Exa.wr W3 (Exa.ext E2 A1)))))
  have t6 := (Fld.other W6 (Fld.other W5 (Fld.other W4 (Fld.other W3 (Fld.ext E2 D1_0) (Or.inl t3)) (Or.inl t3)) (Or.inl t3)) (Or.inl t3))
  have t7 := (Fld.other W6 (Fld.other W5 (Fld.other W4 (Fld.other W3 (Fld.ext E2 D1_1) (Or.inl t3)) (Or.inl t3)) (Or.inl t3)) (Or.inl t3))
  have t8 := (Sta.wr W6 (Sta.wr W5 (Sta.wr W4 (Sta.wr W3 (Sta.ext E2 (Sta.ext E1 SA))))))
  have t9 := (Sta.wr W6 (Sta.wr W5 (Sta.wr W4 (Sta.wr W3 (Sta.ext E2 (Sta.ext E1 SH))))))
  have t10 := (Sta.wr W6 (Sta.wr W5 (Sta.wr W4 (Sta.wr W3 (Sta.ext E2 (Sta.ext E1 SLo))))))
  have t11 := (Sta.wr W6 (Sta.wr W5 (Sta.wr W4 (Sta.wr W3 (Sta.ext E2 (Sta.ext E1 SC))))))
  refine g_callN X6 B [.ref ar] [.ref str] d1_111 114 rfl rfl rfl (hw _ (List.mem_of_getElem? (i := 10) rfl)) (hw _ (List.mem_of_getElem? (i := 11) rfl)) (hw _ (List.mem_of_getElem? (i := 12) rfl)) (hw _ (List.mem_of_getElem? (i := 8) rfl)) (by decide) (lenOf pd_2 rfl) (rS_i1 l Z ag hw str ar [x0, x1, x2, x3] cx h6 n0 t4 (by simp) (by simp) (own_chs4 hx0 hx1 hx2 hx3) g_str t5 t6 t7 A6 t8 t9 t10 t11 hcx) e6 rfl 1 (Nat.le_of_eq rfl) (by decide) (by decide) (by decide) (by decide) (fun v7 T7 h7 L7 X7 e7 q7 => ?_)
  obtain ⟨bb, vs, kk, rfl, N7, K7, f1, f2, f3, hSV, f5, f6⟩ := q7
  show Go p e below _ (T7.setTop (mkF m 114 #[.val (.int (4 : Int32)), .val (.int x0), .val (.int x1), .val (.int x2), .val (.int x3)] [.ref str]))
  have t12 := (Keep.trans (Keep.wr (Keep.wr (Keep.wr (Keep.wr (Keep.ext t2 E2) W3 (Or.inr gg_ar)) W4 (Or.inr gg_ar)) W5 (Or.inr gg_ar)) W6 (Or.inr gg_ar)) K7 (allS (Or.inr gg_str) all0))
  have t13 := (Exa.keep t5 K7)
  exact g_retA X7 B d1_114 rfl rfl rfl (by decide) (by decide) e7 ⟨str, bb, vs, kk, rfl, ((Fr.snoc X6 (Fr.snoc X5 (Fr.snoc X4 (Fr.snoc X3 (Fr.nil n0) g_ar) g_ar) g_ar) g_ar).app N7), t12, t13, f1, f2, f3, hSV⟩
set_option maxRecDepth 65536 in
set_option maxHeartbeats 40000000 in
theorem rW_mk (l : Launch) (Z : State) (ag : Array Value) (hw : ∀ d ∈ tables_1, d.before ag Z = true) (x0 x1 x2 x3 : Int32) (h0 : Heap) (n0 : Nat) (Z0 : n0 ≤ h0.size) (OZ : ∀ (b : Addr) (cl : Cell), Z.heap[b]? = some cl → h0[b]? = some cl) (hH : Jvm.Lit.constHeld Z "java/lang/String" 7) (hcw : Jvm.Lit.compactW.before ag Z = true) :
    CtrW l Z (⟨"com/example/contractlint/contractlint/checks/FindingHoldsLineBreakPinLaw", "make", "(ICCCC)Ljava/lang/String;"⟩ : MethodName) method_4_code 5 (some (.object "java/lang/String")) ({ frames := 3, cells := 4, slots := 8, locals := 43 } : Room) #[.int (0 : Int32), .int x0, .int x1, .int x2, .int x3] h0 [] (fun v h vm L => ∃ a b vs k, v = some (.ref a) ∧ Fr n0 L ∧ Keep h0 h [] ∧ Exa Z h a "java/lang/String" ∧ Fld Z h a "java/lang/String" "value" "[B" (.ref b) ∧ Fld Z h a "java/lang/String" "coder" "B" (.int k) ∧ Av Z h b .byte vs ∧ own_SV k vs [] ∧ k = 0) := by
  refine CtrW.of pn_1 ?_
  intro p e s m below meth c T0 X0 B e0 hs0 hS I
  refine Go.cast (f' := mkF m 0 #[.val (.int (0 : Int32)), .val (.int x0), .val (.int x1), .val (.int x2), .val (.int x3)] []) (by first | rfl | (simp [entryFrame, mkF, argsToLocals, Value.category, maxLocals]; done)) ?_

  refine g_iloadN X0 B d1_0 1 rfl rfl ?_
  refine g_if_ne X0 B d1_1 15 4 rfl (by decide) rfl (fun z => own_abs (by decide) z) (fun _ => ?_)
  refine g_new X0 B d1_4 7 rfl (hw _ (List.mem_of_getElem? (i := 6) rfl)) (hw _ (List.mem_of_getElem? (i := 7) rfl)) (hw _ (List.mem_of_getElem? (i := 8) rfl)) e0 (by decide) (by decide) (fun T1 h1 str X1 e1 ea1 E1 A1 D1 => ?_)
  have g_str : n0 ≤ str := ea1 ▸ Z0
  have gg_str : h0.size ≤ str := ea1 ▸ (Keep.refl h0 []).1
  have D1_0 : Fld Z h1 str "java/lang/String" "value" "[B" (.null) := D1 (Or.inr (hw _ (List.mem_of_getElem? (i := 22) rfl))) (ty := (.array .byte)) (by decide)
  have D1_1 : Fld Z h1 str "java/lang/String" "coder" "B" (.int 0) := D1 (Or.inr (hw _ (List.mem_of_getElem? (i := 23) rfl))) (ty := .byte) (by decide)
  refine g_dup X1 B d1_7 8 rfl rfl ?_
  refine g_iconst X1 B (0) d1_8 9 rfl rfl ?_
  refine g_newP X1 B [] d1_9 11 rfl (hw _ (List.mem_of_getElem? (i := 9) rfl)) e1 (by decide) rfl (by decide) (by decide) (by decide) (fun T2 h2 ar X2 e2 ea2 E2 A2 => ?_)
  have t1 := (Nat.le_trans Z0 E1.1)
  have t2 := (Keep.ext (Keep.refl h0 []) E1)
  have g_ar : n0 ≤ ar := ea2 ▸ t1
  have gg_ar : h0.size ≤ ar := ea2 ▸ t2.1
  have t3 : str ≠ ar := ea2 ▸ Nat.ne_of_lt (A1.lt)
  have t4 := (Keep.ext t2 E2)
  have t5 := (Nat.le_trans t1 E2.1)
  have t6 := (Exa.ext E2 A1)
  have t7 := (Fld.ext E2 D1_0)
  have t8 := (Fld.ext E2 D1_1)
  refine g_callNW X2 B hS (Nat.zero_le _) I [.ref ar] [.ref str] d1_11 14 rfl rfl rfl (hw _ (List.mem_of_getElem? (i := 10) rfl)) (hw _ (List.mem_of_getElem? (i := 11) rfl)) (hw _ (List.mem_of_getElem? (i := 12) rfl)) (hw _ (List.mem_of_getElem? (i := 8) rfl)) (by decide) (lenOf pd_2 rfl) (rW_i1 l Z ag hw str ar h2 n0 t5 g_str t6 t7 t8 (fun b cl q => t4.2.1 b cl (OZ b cl q) nin0) hH hcw A2) e2 rfl 1 (Nat.le_of_eq rfl) (by decide) (by decide) (by decide) (by decide) (fun v3 T3 h3 L3 X3 B e3 hS q3 => ?_)
  obtain ⟨bb, rfl, N3, K3, f1, f2, f3, I⟩ := q3
  show Go p e below _ (T3.setTop (mkF m 14 #[.val (.int (0 : Int32)), .val (.int x0), .val (.int x1), .val (.int x2), .val (.int x3)] [.ref str]))
  have kk3 : h3.size ≤ h3.size := Nat.le_refl _
  have t9 := (Keep.trans t4 K3 (allS (Or.inr gg_str) all0))
  have t10 := (Exa.keep t6 K3)
  exact g_retAW X3 B d1_14 rfl rfl rfl (by decide) (by decide) e3 hS kk3 (fun vm hvm => ⟨str, bb, [], 0, rfl, ((Fr.nil n0).app N3), t9, t10, f1, f2, f3, Or.inl ⟨rfl, rfl, fun j c q => absurd q (Nat.not_lt_zero _)⟩, rfl⟩)
theorem own_m5 (x : Int32) : ∃ i : Nat, i < 5 ∧ ((x &&& (2147483647 : Int32)) % (5 : Int32)) = Int32.ofNat i := by
  have h1 := c_mask x 2147483647 31 (by decide) (by decide)
  have h2 := (c_irem (x &&& 2147483647) 5 5 (by decide)).1 (by omega)
  refine ⟨((x &&& (2147483647 : Int32)) % (5 : Int32)).toInt.toNat, by omega, ?_⟩
  apply Int32.toInt_inj.mp
  rw [Int32.toInt_ofNat_of_lt (by omega)]
  omega
theorem own_if1 {P : Prop} [Decidable P] (h : ¬ (if P then (1 : Int32) else 0) = 0) : P := by
  by_cases p : P
  · exact p
  · exact absurd (if_neg p) h
theorem own_if0 {P : Prop} [Decidable P] (h : (if P then (1 : Int32) else 0) = 0) : ¬ P := fun p => by
  rw [if_pos p] at h; exact absurd h (by decide)
theorem own_in1_0 {a0 : Int32} (h : a0 = 10 ∨ a0 = 13) : (10 : Int32) ∈ [a0] ∨ (13 : Int32) ∈ [a0] := by rcases h with h | h <;> simp [h]
theorem own_out1 {a0 : Int32} (h0 : ¬ (a0 = 10 ∨ a0 = 13)) : ¬ ((10 : Int32) ∈ [a0] ∨ (13 : Int32) ∈ [a0]) := by
  simp only [not_or] at *
  simp only [List.mem_cons, List.not_mem_nil, or_false]
  refine ⟨?_, ?_⟩ <;> intro q
  · rcases q with q
    · exact h0.1 q.symm
  · rcases q with q
    · exact h0.2 q.symm
theorem own_in2_0 {a0 a1 : Int32} (h : a0 = 10 ∨ a0 = 13) : (10 : Int32) ∈ [a0, a1] ∨ (13 : Int32) ∈ [a0, a1] := by rcases h with h | h <;> simp [h]
theorem own_in2_1 {a0 a1 : Int32} (h : a1 = 10 ∨ a1 = 13) : (10 : Int32) ∈ [a0, a1] ∨ (13 : Int32) ∈ [a0, a1] := by rcases h with h | h <;> simp [h]
theorem own_out2 {a0 a1 : Int32} (h0 : ¬ (a0 = 10 ∨ a0 = 13)) (h1 : ¬ (a1 = 10 ∨ a1 = 13)) : ¬ ((10 : Int32) ∈ [a0, a1] ∨ (13 : Int32) ∈ [a0, a1]) := by
  simp only [not_or] at *
  simp only [List.mem_cons, List.not_mem_nil, or_false]
  refine ⟨?_, ?_⟩ <;> intro q
  · rcases q with q | q
    · exact h0.1 q.symm
    · exact h1.1 q.symm
  · rcases q with q | q
    · exact h0.2 q.symm
    · exact h1.2 q.symm
theorem own_in3_0 {a0 a1 a2 : Int32} (h : a0 = 10 ∨ a0 = 13) : (10 : Int32) ∈ [a0, a1, a2] ∨ (13 : Int32) ∈ [a0, a1, a2] := by rcases h with h | h <;> simp [h]
theorem own_in3_1 {a0 a1 a2 : Int32} (h : a1 = 10 ∨ a1 = 13) : (10 : Int32) ∈ [a0, a1, a2] ∨ (13 : Int32) ∈ [a0, a1, a2] := by rcases h with h | h <;> simp [h]
theorem own_in3_2 {a0 a1 a2 : Int32} (h : a2 = 10 ∨ a2 = 13) : (10 : Int32) ∈ [a0, a1, a2] ∨ (13 : Int32) ∈ [a0, a1, a2] := by rcases h with h | h <;> simp [h]
theorem own_out3 {a0 a1 a2 : Int32} (h0 : ¬ (a0 = 10 ∨ a0 = 13)) (h1 : ¬ (a1 = 10 ∨ a1 = 13)) (h2 : ¬ (a2 = 10 ∨ a2 = 13)) : ¬ ((10 : Int32) ∈ [a0, a1, a2] ∨ (13 : Int32) ∈ [a0, a1, a2]) := by
  simp only [not_or] at *
  simp only [List.mem_cons, List.not_mem_nil, or_false]
  refine ⟨?_, ?_⟩ <;> intro q
  · rcases q with q | q | q
    · exact h0.1 q.symm
    · exact h1.1 q.symm
    · exact h2.1 q.symm
  · rcases q with q | q | q
    · exact h0.2 q.symm
    · exact h1.2 q.symm
    · exact h2.2 q.symm
theorem own_in4_0 {a0 a1 a2 a3 : Int32} (h : a0 = 10 ∨ a0 = 13) : (10 : Int32) ∈ [a0, a1, a2, a3] ∨ (13 : Int32) ∈ [a0, a1, a2, a3] := by rcases h with h | h <;> simp [h]
theorem own_in4_1 {a0 a1 a2 a3 : Int32} (h : a1 = 10 ∨ a1 = 13) : (10 : Int32) ∈ [a0, a1, a2, a3] ∨ (13 : Int32) ∈ [a0, a1, a2, a3] := by rcases h with h | h <;> simp [h]
theorem own_in4_2 {a0 a1 a2 a3 : Int32} (h : a2 = 10 ∨ a2 = 13) : (10 : Int32) ∈ [a0, a1, a2, a3] ∨ (13 : Int32) ∈ [a0, a1, a2, a3] := by rcases h with h | h <;> simp [h]
theorem own_in4_3 {a0 a1 a2 a3 : Int32} (h : a3 = 10 ∨ a3 = 13) : (10 : Int32) ∈ [a0, a1, a2, a3] ∨ (13 : Int32) ∈ [a0, a1, a2, a3] := by rcases h with h | h <;> simp [h]
theorem own_out4 {a0 a1 a2 a3 : Int32} (h0 : ¬ (a0 = 10 ∨ a0 = 13)) (h1 : ¬ (a1 = 10 ∨ a1 = 13)) (h2 : ¬ (a2 = 10 ∨ a2 = 13)) (h3 : ¬ (a3 = 10 ∨ a3 = 13)) : ¬ ((10 : Int32) ∈ [a0, a1, a2, a3] ∨ (13 : Int32) ∈ [a0, a1, a2, a3]) := by
  simp only [not_or] at *
  simp only [List.mem_cons, List.not_mem_nil, or_false]
  refine ⟨?_, ?_⟩ <;> intro q
  · rcases q with q | q | q | q
    · exact h0.1 q.symm
    · exact h1.1 q.symm
    · exact h2.1 q.symm
    · exact h3.1 q.symm
  · rcases q with q | q | q | q
    · exact h0.2 q.symm
    · exact h1.2 q.symm
    · exact h2.2 q.symm
    · exact h3.2 q.symm
set_option maxRecDepth 65536 in
set_option maxHeartbeats 40000000 in
theorem rm0_0 (l : Launch) (Z : State) (ag : Array Value) (hw : ∀ d ∈ tables_1, d.before ag Z = true) (p0 p1 p2 p3 p4 cx : Int32) (g : Value) (h0 : Heap) (n0 : Nat) (Z0 : n0 ≤ h0.size) (SA : Sta Z h0 "java/lang/StringUTF16" "$assertionsDisabled" "Z" (.int 1)) (SH : Sta Z h0 "java/lang/StringUTF16" "HI_BYTE_SHIFT" "I" (.int 0)) (SLo : Sta Z h0 "java/lang/StringUTF16" "LO_BYTE_SHIFT" "I" (.int 8)) (SC : Sta Z h0 "java/lang/String" "COMPACT_STRINGS" "Z" (.int cx)) (hcx : ¬ cx = 0) (SF : Sta Z h0 "jdk/internal/util/Preconditions" "SIOOBE_FORMATTER" "Ljava/util/function/BiFunction;" g) (hg : g.isRef = true) (kk5 : ((p0 &&& (2147483647 : Int32)) % (5 : Int32)) = 0) (OZ : ∀ (b : Addr) (cl : Cell), Z.heap[b]? = some cl → h0[b]? = some cl) (hH : Jvm.Lit.constHeld Z "java/lang/String" 7) (hcw : Jvm.Lit.compactW.before ag Z = true) :
    CtrW l Z x code maxLocals ret room_1 #[.int p0, .int p1, .int p2, .int p3, .int p4] h0 [] (fun v h vm L => v = some (.int 1) ∧ Fr n0 L) := by
  refine CtrW.of pn_0 ?_
  intro p e s m below meth c T0 X0 B e0 hs0 hS I
  refine Go.cast (f' := mkF m 0 #[.val (.int p0), .val (.int p1), .val (.int p2), .val (.int p3), .val (.int p4), .unset, .unset, .unset, .unset, .unset, .unset, .unset] []) (by first | rfl | (simp [entryFrame, mkF, argsToLocals, Value.category, maxLocals]; done)) ?_

  refine g_iloadN X0 B at_0 1 rfl rfl ?_
  refine g_ldcI X0 B at_1 3 rfl (hw _ (List.mem_of_getElem? (i := 0) rfl)) ?_
  refine g_iand X0 B at_3 4 rfl ?_
  refine g_iconst X0 B (5) at_4 5 rfl rfl ?_
  refine g_irem X0 B at_5 6 rfl (by decide) ?_
  rw [kk5]
  show Go p e below _ (T0.setTop (mkF m 6 #[.val (.int p0), .val (.int p1), .val (.int p2), .val (.int p3), .val (.int p4), .unset, .unset, .unset, .unset, .unset, .unset, .unset] [.int (0 : Int32)]))
  refine g_istore X0 B #[.val (.int p0), .val (.int p1), .val (.int p2), .val (.int p3), .val (.int p4), .val (.int (0 : Int32)), .unset, .unset, .unset, .unset, .unset, .unset] at_6 8 rfl rfl ?_
  refine g_iloadN X0 B at_8 9 rfl rfl ?_
  refine g_ldcI X0 B at_9 11 rfl (hw _ (List.mem_of_getElem? (i := 1) rfl)) ?_
  refine g_iand X0 B at_11 12 rfl ?_
  refine g_i2c X0 B at_12 13 rfl ?_
  refine g_istore X0 B #[.val (.int p0), .val (.int p1), .val (.int p2), .val (.int p3), .val (.int p4), .val (.int (0 : Int32)), .val (.int ((p1 &&& (65535 : Int32)).toUInt32.toUInt16.toUInt32.toInt32)), .unset, .unset, .unset, .unset, .unset] at_13 15 rfl rfl ?_
  refine g_iloadN X0 B at_15 16 rfl rfl ?_
  refine g_ldcI X0 B at_16 18 rfl (hw _ (List.mem_of_getElem? (i := 1) rfl)) ?_
  refine g_iand X0 B at_18 19 rfl ?_
  refine g_i2c X0 B at_19 20 rfl ?_
  refine g_istore X0 B #[.val (.int p0), .val (.int p1), .val (.int p2), .val (.int p3), .val (.int p4), .val (.int (0 : Int32)), .val (.int ((p1 &&& (65535 : Int32)).toUInt32.toUInt16.toUInt32.toInt32)), .val (.int ((p2 &&& (65535 : Int32)).toUInt32.toUInt16.toUInt32.toInt32)), .unset, .unset, .unset, .unset] at_20 22 rfl rfl ?_
  refine g_iloadN X0 B at_22 23 rfl rfl ?_
  refine g_ldcI X0 B at_23 25 rfl (hw _ (List.mem_of_getElem? (i := 1) rfl)) ?_
  refine g_iand X0 B at_25 26 rfl ?_
  refine g_i2c X0 B at_26 27 rfl ?_
  refine g_istore X0 B #[.val (.int p0), .val (.int p1), .val (.int p2), .val (.int p3), .val (.int p4), .val (.int (0 : Int32)), .val (.int ((p1 &&& (65535 : Int32)).toUInt32.toUInt16.toUInt32.toInt32)), .val (.int ((p2 &&& (65535 : Int32)).toUInt32.toUInt16.toUInt32.toInt32)), .val (.int ((p3 &&& (65535 : Int32)).toUInt32.toUInt16.toUInt32.toInt32)), .unset, .unset, .unset] at_27 29 rfl rfl ?_
  refine g_iload X0 B at_29 31 rfl rfl ?_
  refine g_ldcI X0 B at_31 33 rfl (hw _ (List.mem_of_getElem? (i := 1) rfl)) ?_
  refine g_iand X0 B at_33 34 rfl ?_
  refine g_i2c X0 B at_34 35 rfl ?_
  refine g_istore X0 B #[.val (.int p0), .val (.int p1), .val (.int p2), .val (.int p3), .val (.int p4), .val (.int (0 : Int32)), .val (.int ((p1 &&& (65535 : Int32)).toUInt32.toUInt16.toUInt32.toInt32)), .val (.int ((p2 &&& (65535 : Int32)).toUInt32.toUInt16.toUInt32.toInt32)), .val (.int ((p3 &&& (65535 : Int32)).toUInt32.toUInt16.toUInt32.toInt32)), .val (.int ((p4 &&& (65535 : Int32)).toUInt32.toUInt16.toUInt32.toInt32)), .unset, .unset] at_35 37 rfl rfl ?_
  refine g_iload X0 B at_37 39 rfl rfl ?_
  refine g_iload X0 B at_39 41 rfl rfl ?_
  refine g_iload X0 B at_41 43 rfl rfl ?_
  refine g_iload X0 B at_43 45 rfl rfl ?_
  refine g_iload X0 B at_45 47 rfl rfl ?_
  refine g_callSW X0 B hS (Nat.zero_le _) I [.int (0 : Int32), .int ((p1 &&& (65535 : Int32)).toUInt32.toUInt16.toUInt32.toInt32), .int ((p2 &&& (65535 : Int32)).toUInt32.toUInt16.toUInt32.toInt32), .int ((p3 &&& (65535 : Int32)).toUInt32.toUInt16.toUInt32.toInt32), .int ((p4 &&& (65535 : Int32)).toUInt32.toUInt16.toUInt32.toInt32)] [] at_47 50 rfl rfl (hw _ (List.mem_of_getElem? (i := 2) rfl)) (hw _ (List.mem_of_getElem? (i := 3) rfl)) (hw _ (List.mem_of_getElem? (i := 4) rfl)) (hw _ (List.mem_of_getElem? (i := 5) rfl)) (by decide) (lenOf pd_1 rfl) (rW_mk l Z ag hw ((p1 &&& (65535 : Int32)).toUInt32.toUInt16.toUInt32.toInt32) ((p2 &&& (65535 : Int32)).toUInt32.toUInt16.toUInt32.toInt32) ((p3 &&& (65535 : Int32)).toUInt32.toUInt16.toUInt32.toInt32) ((p4 &&& (65535 : Int32)).toUInt32.toUInt16.toUInt32.toInt32) h0 n0 Z0 OZ hH hcw) e0 rfl 0 (Nat.le_of_eq rfl) (by decide) (by decide) (by decide) (by decide) (fun v1 T1 h1 L1 X1 B e1 hS q1 => ?_)
  obtain ⟨str, bb, vs, kk, rfl, N1, K1, Es, f1, f2, f3, hSV, hk0⟩ := q1
  show Go p e below _ (T1.setTop (mkF m 50 #[.val (.int p0), .val (.int p1), .val (.int p2), .val (.int p3), .val (.int p4), .val (.int (0 : Int32)), .val (.int ((p1 &&& (65535 : Int32)).toUInt32.toUInt16.toUInt32.toInt32)), .val (.int ((p2 &&& (65535 : Int32)).toUInt32.toUInt16.toUInt32.toInt32)), .val (.int ((p3 &&& (65535 : Int32)).toUInt32.toUInt16.toUInt32.toInt32)), .val (.int ((p4 &&& (65535 : Int32)).toUInt32.toUInt16.toUInt32.toInt32)), .unset, .unset] [.ref str]))
  have kk1 : h1.size ≤ h1.size := Nat.le_refl _
  refine g_astore X1 B #[.val (.int p0), .val (.int p1), .val (.int p2), .val (.int p3), .val (.int p4), .val (.int (0 : Int32)), .val (.int ((p1 &&& (65535 : Int32)).toUInt32.toUInt16.toUInt32.toInt32)), .val (.int ((p2 &&& (65535 : Int32)).toUInt32.toUInt16.toUInt32.toInt32)), .val (.int ((p3 &&& (65535 : Int32)).toUInt32.toUInt16.toUInt32.toInt32)), .val (.int ((p4 &&& (65535 : Int32)).toUInt32.toUInt16.toUInt32.toInt32)), .val (.ref str), .unset] at_50 52 rfl rfl rfl ?_
  refine g_iload X1 B at_52 54 rfl rfl ?_
  refine g_if_le X1 B at_54 65 57 rfl (by decide) rfl (fun _ => ?_) (fun z => own_abs' (by decide) z)
  refine g_iload X1 B at_65 67 rfl rfl ?_
  refine g_iconst X1 B (1) at_67 68 rfl rfl ?_
  refine g_icmp_le X1 B at_68 79 71 rfl (by decide) rfl (fun _ => ?_) (fun z => own_abs' (by decide) z)
  refine g_iload X1 B at_79 81 rfl rfl ?_
  refine g_iconst X1 B (2) at_81 82 rfl rfl ?_
  refine g_icmp_le X1 B at_82 93 85 rfl (by decide) rfl (fun _ => ?_) (fun z => own_abs' (by decide) z)
  refine g_iload X1 B at_93 95 rfl rfl ?_
  refine g_iconst X1 B (3) at_95 96 rfl rfl ?_
  refine g_icmp_le X1 B at_96 111 99 rfl (by decide) rfl (fun _ => ?_) (fun z => own_abs' (by decide) z)
  refine g_iconst X1 B (0) at_111 112 rfl rfl ?_
  refine g_istore X1 B #[.val (.int p0), .val (.int p1), .val (.int p2), .val (.int p3), .val (.int p4), .val (.int (0 : Int32)), .val (.int ((p1 &&& (65535 : Int32)).toUInt32.toUInt16.toUInt32.toInt32)), .val (.int ((p2 &&& (65535 : Int32)).toUInt32.toUInt16.toUInt32.toInt32)), .val (.int ((p3 &&& (65535 : Int32)).toUInt32.toUInt16.toUInt32.toInt32)), .val (.int ((p4 &&& (65535 : Int32)).toUInt32.toUInt16.toUInt32.toInt32)), .val (.ref str), .val (.int (0 : Int32))] at_112 114 rfl rfl ?_
  refine g_aload X1 B at_114 116 rfl rfl rfl ?_
  have t1 := (own_stk SA K1)
  have t2 := (own_stk SH K1)
  have t3 := (own_stk SLo K1)
  have t4 := (own_stk SC K1)
  have t5 := (own_stk SF K1)
  refine g_callS X1 B [.ref str] [] at_116 119 rfl rfl (hw _ (List.mem_of_getElem? (i := 28) rfl)) (hw _ (List.mem_of_getElem? (i := 29) rfl)) (hw _ (List.mem_of_getElem? (i := 30) rfl)) (hw _ (List.mem_of_getElem? (i := 31) rfl)) (by decide) (lenOf pd_5 rfl) (rm_hlb l Z ag hw str bb kk cx vs [] g h1 n0 Es f1 f2 f3 (by simp) (fun c q => nomatch q) hSV (Or.inl hk0) t1 t2 t3 t4 hcx t5 hg) e1 rfl 0 (Nat.le_of_eq rfl) (by decide) (by decide) (by decide) (by decide) (fun v2 T2 h2 L2 X2 e2 q2 => ?_)
  obtain ⟨rfl, N2, rfl⟩ := q2
  show Go p e below _ (T2.setTop (mkF m 119 #[.val (.int p0), .val (.int p1), .val (.int p2), .val (.int p3), .val (.int p4), .val (.int (0 : Int32)), .val (.int ((p1 &&& (65535 : Int32)).toUInt32.toUInt16.toUInt32.toInt32)), .val (.int ((p2 &&& (65535 : Int32)).toUInt32.toUInt16.toUInt32.toInt32)), .val (.int ((p3 &&& (65535 : Int32)).toUInt32.toUInt16.toUInt32.toInt32)), .val (.int ((p4 &&& (65535 : Int32)).toUInt32.toUInt16.toUInt32.toInt32)), .val (.ref str), .val (.int (0 : Int32))] [.int (if (10 : Int32) ∈ [] ∨ (13 : Int32) ∈ [] then (1 : Int32) else 0)]))
  refine g_iload X2 B at_119 121 rfl rfl ?_
  refine g_icmp_ne X2 B at_121 128 124 rfl (by decide) rfl (fun z => own_abs (by simp) z) (fun _ => ?_)
  refine g_iconst X2 B (1) at_124 125 rfl rfl ?_
  refine g_goto X2 B at_125 129 rfl (by decide) ?_
  exact g_retNW X2 B at_129 rfl rfl (by decide) (by decide) (by decide) e2 hS kk1 (fun vm hvm => ⟨rfl, (((Fr.nil n0).app N1).app N2)⟩)
set_option maxRecDepth 65536 in
set_option maxHeartbeats 40000000 in
theorem rm0_1 (l : Launch) (Z : State) (ag : Array Value) (hw : ∀ d ∈ tables_1, d.before ag Z = true) (p0 p1 p2 p3 p4 cx : Int32) (g : Value) (h0 : Heap) (n0 : Nat) (Z0 : n0 ≤ h0.size) (SA : Sta Z h0 "java/lang/StringUTF16" "$assertionsDisabled" "Z" (.int 1)) (SH : Sta Z h0 "java/lang/StringUTF16" "HI_BYTE_SHIFT" "I" (.int 0)) (SLo : Sta Z h0 "java/lang/StringUTF16" "LO_BYTE_SHIFT" "I" (.int 8)) (SC : Sta Z h0 "java/lang/String" "COMPACT_STRINGS" "Z" (.int cx)) (hcx : ¬ cx = 0) (SF : Sta Z h0 "jdk/internal/util/Preconditions" "SIOOBE_FORMATTER" "Ljava/util/function/BiFunction;" g) (hg : g.isRef = true) (kk5 : ((p0 &&& (2147483647 : Int32)) % (5 : Int32)) = 1) :
    Ctr l Z x code maxLocals ret room_1 #[.int p0, .int p1, .int p2, .int p3, .int p4] h0 (fun v h L => v = some (.int 1) ∧ Fr n0 L) := by
  refine Ctr.of pn_0 ?_
  intro p e s m below meth c T0 X0 B e0
  refine Go.cast (f' := mkF m 0 #[.val (.int p0), .val (.int p1), .val (.int p2), .val (.int p3), .val (.int p4), .unset, .unset, .unset, .unset, .unset, .unset, .unset] []) (by first | rfl | (simp [entryFrame, mkF, argsToLocals, Value.category, maxLocals]; done)) ?_

  refine g_iloadN X0 B at_0 1 rfl rfl ?_
  refine g_ldcI X0 B at_1 3 rfl (hw _ (List.mem_of_getElem? (i := 0) rfl)) ?_
  refine g_iand X0 B at_3 4 rfl ?_
  refine g_iconst X0 B (5) at_4 5 rfl rfl ?_
  refine g_irem X0 B at_5 6 rfl (by decide) ?_
  rw [kk5]
  show Go p e below _ (T0.setTop (mkF m 6 #[.val (.int p0), .val (.int p1), .val (.int p2), .val (.int p3), .val (.int p4), .unset, .unset, .unset, .unset, .unset, .unset, .unset] [.int (1 : Int32)]))
  refine g_istore X0 B #[.val (.int p0), .val (.int p1), .val (.int p2), .val (.int p3), .val (.int p4), .val (.int (1 : Int32)), .unset, .unset, .unset, .unset, .unset, .unset] at_6 8 rfl rfl ?_
  refine g_iloadN X0 B at_8 9 rfl rfl ?_
  refine g_ldcI X0 B at_9 11 rfl (hw _ (List.mem_of_getElem? (i := 1) rfl)) ?_
  refine g_iand X0 B at_11 12 rfl ?_
  refine g_i2c X0 B at_12 13 rfl ?_
  refine g_istore X0 B #[.val (.int p0), .val (.int p1), .val (.int p2), .val (.int p3), .val (.int p4), .val (.int (1 : Int32)), .val (.int ((p1 &&& (65535 : Int32)).toUInt32.toUInt16.toUInt32.toInt32)), .unset, .unset, .unset, .unset, .unset] at_13 15 rfl rfl ?_
  refine g_iloadN X0 B at_15 16 rfl rfl ?_
  refine g_ldcI X0 B at_16 18 rfl (hw _ (List.mem_of_getElem? (i := 1) rfl)) ?_
  refine g_iand X0 B at_18 19 rfl ?_
  refine g_i2c X0 B at_19 20 rfl ?_
  refine g_istore X0 B #[.val (.int p0), .val (.int p1), .val (.int p2), .val (.int p3), .val (.int p4), .val (.int (1 : Int32)), .val (.int ((p1 &&& (65535 : Int32)).toUInt32.toUInt16.toUInt32.toInt32)), .val (.int ((p2 &&& (65535 : Int32)).toUInt32.toUInt16.toUInt32.toInt32)), .unset, .unset, .unset, .unset] at_20 22 rfl rfl ?_
  refine g_iloadN X0 B at_22 23 rfl rfl ?_
  refine g_ldcI X0 B at_23 25 rfl (hw _ (List.mem_of_getElem? (i := 1) rfl)) ?_
  refine g_iand X0 B at_25 26 rfl ?_
  refine g_i2c X0 B at_26 27 rfl ?_
  refine g_istore X0 B #[.val (.int p0), .val (.int p1), .val (.int p2), .val (.int p3), .val (.int p4), .val (.int (1 : Int32)), .val (.int ((p1 &&& (65535 : Int32)).toUInt32.toUInt16.toUInt32.toInt32)), .val (.int ((p2 &&& (65535 : Int32)).toUInt32.toUInt16.toUInt32.toInt32)), .val (.int ((p3 &&& (65535 : Int32)).toUInt32.toUInt16.toUInt32.toInt32)), .unset, .unset, .unset] at_27 29 rfl rfl ?_
  refine g_iload X0 B at_29 31 rfl rfl ?_
  refine g_ldcI X0 B at_31 33 rfl (hw _ (List.mem_of_getElem? (i := 1) rfl)) ?_
  refine g_iand X0 B at_33 34 rfl ?_
  refine g_i2c X0 B at_34 35 rfl ?_
  refine g_istore X0 B #[.val (.int p0), .val (.int p1), .val (.int p2), .val (.int p3), .val (.int p4), .val (.int (1 : Int32)), .val (.int ((p1 &&& (65535 : Int32)).toUInt32.toUInt16.toUInt32.toInt32)), .val (.int ((p2 &&& (65535 : Int32)).toUInt32.toUInt16.toUInt32.toInt32)), .val (.int ((p3 &&& (65535 : Int32)).toUInt32.toUInt16.toUInt32.toInt32)), .val (.int ((p4 &&& (65535 : Int32)).toUInt32.toUInt16.toUInt32.toInt32)), .unset, .unset] at_35 37 rfl rfl ?_
  refine g_iload X0 B at_37 39 rfl rfl ?_
  refine g_iload X0 B at_39 41 rfl rfl ?_
  refine g_iload X0 B at_41 43 rfl rfl ?_
  refine g_iload X0 B at_43 45 rfl rfl ?_
  refine g_iload X0 B at_45 47 rfl rfl ?_
  refine g_callS X0 B [.int (1 : Int32), .int ((p1 &&& (65535 : Int32)).toUInt32.toUInt16.toUInt32.toInt32), .int ((p2 &&& (65535 : Int32)).toUInt32.toUInt16.toUInt32.toInt32), .int ((p3 &&& (65535 : Int32)).toUInt32.toUInt16.toUInt32.toInt32), .int ((p4 &&& (65535 : Int32)).toUInt32.toUInt16.toUInt32.toInt32)] [] at_47 50 rfl rfl (hw _ (List.mem_of_getElem? (i := 2) rfl)) (hw _ (List.mem_of_getElem? (i := 3) rfl)) (hw _ (List.mem_of_getElem? (i := 4) rfl)) (hw _ (List.mem_of_getElem? (i := 5) rfl)) (by decide) (lenOf pd_1 rfl) (rm_mk1 l Z ag hw ((p1 &&& (65535 : Int32)).toUInt32.toUInt16.toUInt32.toInt32) ((p2 &&& (65535 : Int32)).toUInt32.toUInt16.toUInt32.toInt32) ((p3 &&& (65535 : Int32)).toUInt32.toUInt16.toUInt32.toInt32) ((p4 &&& (65535 : Int32)).toUInt32.toUInt16.toUInt32.toInt32) cx h0 n0 Z0 (own_chc _) (own_chc _) (own_chc _) (own_chc _) SA SH SLo SC hcx) e0 rfl 0 (Nat.le_of_eq rfl) (by decide) (by decide) (by decide) (by decide) (fun v1 T1 h1 L1 X1 e1 q1 => ?_)
  obtain ⟨str, bb, vs, kk, rfl, N1, K1, Es, f1, f2, f3, hSV⟩ := q1
  show Go p e below _ (T1.setTop (mkF m 50 #[.val (.int p0), .val (.int p1), .val (.int p2), .val (.int p3), .val (.int p4), .val (.int (1 : Int32)), .val (.int ((p1 &&& (65535 : Int32)).toUInt32.toUInt16.toUInt32.toInt32)), .val (.int ((p2 &&& (65535 : Int32)).toUInt32.toUInt16.toUInt32.toInt32)), .val (.int ((p3 &&& (65535 : Int32)).toUInt32.toUInt16.toUInt32.toInt32)), .val (.int ((p4 &&& (65535 : Int32)).toUInt32.toUInt16.toUInt32.toInt32)), .unset, .unset] [.ref str]))
  refine g_astore X1 B #[.val (.int p0), .val (.int p1), .val (.int p2), .val (.int p3), .val (.int p4), .val (.int (1 : Int32)), .val (.int ((p1 &&& (65535 : Int32)).toUInt32.toUInt16.toUInt32.toInt32)), .val (.int ((p2 &&& (65535 : Int32)).toUInt32.toUInt16.toUInt32.toInt32)), .val (.int ((p3 &&& (65535 : Int32)).toUInt32.toUInt16.toUInt32.toInt32)), .val (.int ((p4 &&& (65535 : Int32)).toUInt32.toUInt16.toUInt32.toInt32)), .val (.ref str), .unset] at_50 52 rfl rfl rfl ?_
  refine g_iload X1 B at_52 54 rfl rfl ?_
  refine g_if_le X1 B at_54 65 57 rfl (by decide) rfl (fun z => own_abs (by decide) z) (fun _ => ?_)
  refine g_iload X1 B at_57 59 rfl rfl ?_
  refine g_callS X1 B [.int ((p1 &&& (65535 : Int32)).toUInt32.toUInt16.toUInt32.toInt32)] [] at_59 62 rfl rfl (hw _ (List.mem_of_getElem? (i := 82) rfl)) (hw _ (List.mem_of_getElem? (i := 83) rfl)) (hw _ (List.mem_of_getElem? (i := 4) rfl)) (hw _ (List.mem_of_getElem? (i := 84) rfl)) (by decide) (lenOf pd_18 rfl) (rm_isb l Z ag hw ((p1 &&& (65535 : Int32)).toUInt32.toUInt16.toUInt32.toInt32) h1 n0) e1 rfl 0 (Nat.le_of_eq rfl) (by decide) (by decide) (by decide) (by decide) (fun v2 T2 h2 L2 X2 e2 q2 => ?_)
  obtain ⟨rfl, N2, rfl⟩ := q2
  show Go p e below _ (T2.setTop (mkF m 62 #[.val (.int p0), .val (.int p1), .val (.int p2), .val (.int p3), .val (.int p4), .val (.int (1 : Int32)), .val (.int ((p1 &&& (65535 : Int32)).toUInt32.toUInt16.toUInt32.toInt32)), .val (.int ((p2 &&& (65535 : Int32)).toUInt32.toUInt16.toUInt32.toInt32)), .val (.int ((p3 &&& (65535 : Int32)).toUInt32.toUInt16.toUInt32.toInt32)), .val (.int ((p4 &&& (65535 : Int32)).toUInt32.toUInt16.toUInt32.toInt32)), .val (.ref str), .unset] [.int (if ((p1 &&& (65535 : Int32)).toUInt32.toUInt16.toUInt32.toInt32) = 10 ∨ ((p1 &&& (65535 : Int32)).toUInt32.toUInt16.toUInt32.toInt32) = 13 then 1 else 0)]))
  refine g_if_ne X2 B at_62 107 65 rfl (by decide) rfl (fun c3 => ?_) (fun c3 => ?_)
  · skip
    refine g_iconst X2 B (1) at_107 108 rfl rfl ?_
    refine g_goto X2 B at_108 112 rfl (by decide) ?_
    refine g_istore X2 B #[.val (.int p0), .val (.int p1), .val (.int p2), .val (.int p3), .val (.int p4), .val (.int (1 : Int32)), .val (.int ((p1 &&& (65535 : Int32)).toUInt32.toUInt16.toUInt32.toInt32)), .val (.int ((p2 &&& (65535 : Int32)).toUInt32.toUInt16.toUInt32.toInt32)), .val (.int ((p3 &&& (65535 : Int32)).toUInt32.toUInt16.toUInt32.toInt32)), .val (.int ((p4 &&& (65535 : Int32)).toUInt32.toUInt16.toUInt32.toInt32)), .val (.ref str), .val (.int (1 : Int32))] at_112 114 rfl rfl ?_
    refine g_aload X2 B at_114 116 rfl rfl rfl ?_
    have t1 := (own_stk SA K1)
    have t2 := (own_stk SH K1)
    have t3 := (own_stk SLo K1)
    have t4 := (own_stk SC K1)
    have t5 := (own_stk SF K1)
    refine g_callS X2 B [.ref str] [] at_116 119 rfl rfl (hw _ (List.mem_of_getElem? (i := 28) rfl)) (hw _ (List.mem_of_getElem? (i := 29) rfl)) (hw _ (List.mem_of_getElem? (i := 30) rfl)) (hw _ (List.mem_of_getElem? (i := 31) rfl)) (by decide) (lenOf pd_5 rfl) (rm_hlb l Z ag hw str bb kk cx vs [((p1 &&& (65535 : Int32)).toUInt32.toUInt16.toUInt32.toInt32)] g h1 n0 Es f1 f2 f3 (by simp) (own_chs1 (own_chc (p1 &&& (65535 : Int32))) (own_chc (p2 &&& (65535 : Int32))) (own_chc (p3 &&& (65535 : Int32))) (own_chc (p4 &&& (65535 : Int32)))) hSV (Or.inr (by simp)) t1 t2 t3 t4 hcx t5 hg) e2 rfl 0 (Nat.le_of_eq rfl) (by decide) (by decide) (by decide) (by decide) (fun v4 T4 h4 L4 X4 e4 q4 => ?_)
    obtain ⟨rfl, N4, rfl⟩ := q4
    show Go p e below _ (T4.setTop (mkF m 119 #[.val (.int p0), .val (.int p1), .val (.int p2), .val (.int p3), .val (.int p4), .val (.int (1 : Int32)), .val (.int ((p1 &&& (65535 : Int32)).toUInt32.toUInt16.toUInt32.toInt32)), .val (.int ((p2 &&& (65535 : Int32)).toUInt32.toUInt16.toUInt32.toInt32)), .val (.int ((p3 &&& (65535 : Int32)).toUInt32.toUInt16.toUInt32.toInt32)), .val (.int ((p4 &&& (65535 : Int32)).toUInt32.toUInt16.toUInt32.toInt32)), .val (.ref str), .val (.int (1 : Int32))] [.int (if (10 : Int32) ∈ [((p1 &&& (65535 : Int32)).toUInt32.toUInt16.toUInt32.toInt32)] ∨ (13 : Int32) ∈ [((p1 &&& (65535 : Int32)).toUInt32.toUInt16.toUInt32.toInt32)] then (1 : Int32) else 0)]))
    refine g_iload X4 B at_119 121 rfl rfl ?_
    refine g_icmp_ne X4 B at_121 128 124 rfl (by decide) rfl (fun z => own_abs (by have yc3 := own_if1 c3; exact if_pos (own_in1_0 yc3)) z) (fun _ => ?_)
    refine g_iconst X4 B (1) at_124 125 rfl rfl ?_
    refine g_goto X4 B at_125 129 rfl (by decide) ?_
    exact g_retN X4 B at_129 rfl rfl (by decide) (by decide) (by decide) e4 ⟨rfl, ((((Fr.nil n0).app N1).app N2).app N4)⟩
  · skip
    refine g_iload X2 B at_65 67 rfl rfl ?_
    refine g_iconst X2 B (1) at_67 68 rfl rfl ?_
    refine g_icmp_le X2 B at_68 79 71 rfl (by decide) rfl (fun _ => ?_) (fun z => own_abs' (by decide) z)
    refine g_iload X2 B at_79 81 rfl rfl ?_
    refine g_iconst X2 B (2) at_81 82 rfl rfl ?_
    refine g_icmp_le X2 B at_82 93 85 rfl (by decide) rfl (fun _ => ?_) (fun z => own_abs' (by decide) z)
    refine g_iload X2 B at_93 95 rfl rfl ?_
    refine g_iconst X2 B (3) at_95 96 rfl rfl ?_
    refine g_icmp_le X2 B at_96 111 99 rfl (by decide) rfl (fun _ => ?_) (fun z => own_abs' (by decide) z)
    refine g_iconst X2 B (0) at_111 112 rfl rfl ?_
    refine g_istore X2 B #[.val (.int p0), .val (.int p1), .val (.int p2), .val (.int p3), .val (.int p4), .val (.int (1 : Int32)), .val (.int ((p1 &&& (65535 : Int32)).toUInt32.toUInt16.toUInt32.toInt32)), .val (.int ((p2 &&& (65535 : Int32)).toUInt32.toUInt16.toUInt32.toInt32)), .val (.int ((p3 &&& (65535 : Int32)).toUInt32.toUInt16.toUInt32.toInt32)), .val (.int ((p4 &&& (65535 : Int32)).toUInt32.toUInt16.toUInt32.toInt32)), .val (.ref str), .val (.int (0 : Int32))] at_112 114 rfl rfl ?_
    refine g_aload X2 B at_114 116 rfl rfl rfl ?_
    have t6 := (own_stk SA K1)
    have t7 := (own_stk SH K1)
    have t8 := (own_stk SLo K1)
    have t9 := (own_stk SC K1)
    have t10 := (own_stk SF K1)
    refine g_callS X2 B [.ref str] [] at_116 119 rfl rfl (hw _ (List.mem_of_getElem? (i := 28) rfl)) (hw _ (List.mem_of_getElem? (i := 29) rfl)) (hw _ (List.mem_of_getElem? (i := 30) rfl)) (hw _ (List.mem_of_getElem? (i := 31) rfl)) (by decide) (lenOf pd_5 rfl) (rm_hlb l Z ag hw str bb kk cx vs [((p1 &&& (65535 : Int32)).toUInt32.toUInt16.toUInt32.toInt32)] g h1 n0 Es f1 f2 f3 (by simp) (own_chs1 (own_chc (p1 &&& (65535 : Int32))) (own_chc (p2 &&& (65535 : Int32))) (own_chc (p3 &&& (65535 : Int32))) (own_chc (p4 &&& (65535 : Int32)))) hSV (Or.inr (by simp)) t6 t7 t8 t9 hcx t10 hg) e2 rfl 0 (Nat.le_of_eq rfl) (by decide) (by decide) (by decide) (by decide) (fun v5 T5 h5 L5 X5 e5 q5 => ?_)
    obtain ⟨rfl, N5, rfl⟩ := q5
    show Go p e below _ (T5.setTop (mkF m 119 #[.val (.int p0), .val (.int p1), .val (.int p2), .val (.int p3), .val (.int p4), .val (.int (1 : Int32)), .val (.int ((p1 &&& (65535 : Int32)).toUInt32.toUInt16.toUInt32.toInt32)), .val (.int ((p2 &&& (65535 : Int32)).toUInt32.toUInt16.toUInt32.toInt32)), .val (.int ((p3 &&& (65535 : Int32)).toUInt32.toUInt16.toUInt32.toInt32)), .val (.int ((p4 &&& (65535 : Int32)).toUInt32.toUInt16.toUInt32.toInt32)), .val (.ref str), .val (.int (0 : Int32))] [.int (if (10 : Int32) ∈ [((p1 &&& (65535 : Int32)).toUInt32.toUInt16.toUInt32.toInt32)] ∨ (13 : Int32) ∈ [((p1 &&& (65535 : Int32)).toUInt32.toUInt16.toUInt32.toInt32)] then (1 : Int32) else 0)]))
    refine g_iload X5 B at_119 121 rfl rfl ?_
    refine g_icmp_ne X5 B at_121 128 124 rfl (by decide) rfl (fun z => own_abs (by have yc3 := own_if0 c3; exact if_neg (own_out1 yc3)) z) (fun _ => ?_)
    refine g_iconst X5 B (1) at_124 125 rfl rfl ?_
    refine g_goto X5 B at_125 129 rfl (by decide) ?_
    exact g_retN X5 B at_129 rfl rfl (by decide) (by decide) (by decide) e5 ⟨rfl, ((((Fr.nil n0).app N1).app N2).app N5)⟩
set_option maxRecDepth 65536 in
set_option maxHeartbeats 40000000 in
theorem rm0_2 (l : Launch) (Z : State) (ag : Array Value) (hw : ∀ d ∈ tables_1, d.before ag Z = true) (p0 p1 p2 p3 p4 cx : Int32) (g : Value) (h0 : Heap) (n0 : Nat) (Z0 : n0 ≤ h0.size) (SA : Sta Z h0 "java/lang/StringUTF16" "$assertionsDisabled" "Z" (.int 1)) (SH : Sta Z h0 "java/lang/StringUTF16" "HI_BYTE_SHIFT" "I" (.int 0)) (SLo : Sta Z h0 "java/lang/StringUTF16" "LO_BYTE_SHIFT" "I" (.int 8)) (SC : Sta Z h0 "java/lang/String" "COMPACT_STRINGS" "Z" (.int cx)) (hcx : ¬ cx = 0) (SF : Sta Z h0 "jdk/internal/util/Preconditions" "SIOOBE_FORMATTER" "Ljava/util/function/BiFunction;" g) (hg : g.isRef = true) (kk5 : ((p0 &&& (2147483647 : Int32)) % (5 : Int32)) = 2) :
    Ctr l Z x code maxLocals ret room_1 #[.int p0, .int p1, .int p2, .int p3, .int p4] h0 (fun v h L => v = some (.int 1) ∧ Fr n0 L) := by
  refine Ctr.of pn_0 ?_
  intro p e s m below meth c T0 X0 B e0
  refine Go.cast (f' := mkF m 0 #[.val (.int p0), .val (.int p1), .val (.int p2), .val (.int p3), .val (.int p4), .unset, .unset, .unset, .unset, .unset, .unset, .unset] []) (by first | rfl | (simp [entryFrame, mkF, argsToLocals, Value.category, maxLocals]; done)) ?_

  refine g_iloadN X0 B at_0 1 rfl rfl ?_
  refine g_ldcI X0 B at_1 3 rfl (hw _ (List.mem_of_getElem? (i := 0) rfl)) ?_
  refine g_iand X0 B at_3 4 rfl ?_
  refine g_iconst X0 B (5) at_4 5 rfl rfl ?_
  refine g_irem X0 B at_5 6 rfl (by decide) ?_
  rw [kk5]
  show Go p e below _ (T0.setTop (mkF m 6 #[.val (.int p0), .val (.int p1), .val (.int p2), .val (.int p3), .val (.int p4), .unset, .unset, .unset, .unset, .unset, .unset, .unset] [.int (2 : Int32)]))
  refine g_istore X0 B #[.val (.int p0), .val (.int p1), .val (.int p2), .val (.int p3), .val (.int p4), .val (.int (2 : Int32)), .unset, .unset, .unset, .unset, .unset, .unset] at_6 8 rfl rfl ?_
  refine g_iloadN X0 B at_8 9 rfl rfl ?_
  refine g_ldcI X0 B at_9 11 rfl (hw _ (List.mem_of_getElem? (i := 1) rfl)) ?_
  refine g_iand X0 B at_11 12 rfl ?_
  refine g_i2c X0 B at_12 13 rfl ?_
  refine g_istore X0 B #[.val (.int p0), .val (.int p1), .val (.int p2), .val (.int p3), .val (.int p4), .val (.int (2 : Int32)), .val (.int ((p1 &&& (65535 : Int32)).toUInt32.toUInt16.toUInt32.toInt32)), .unset, .unset, .unset, .unset, .unset] at_13 15 rfl rfl ?_
  refine g_iloadN X0 B at_15 16 rfl rfl ?_
  refine g_ldcI X0 B at_16 18 rfl (hw _ (List.mem_of_getElem? (i := 1) rfl)) ?_
  refine g_iand X0 B at_18 19 rfl ?_
  refine g_i2c X0 B at_19 20 rfl ?_
  refine g_istore X0 B #[.val (.int p0), .val (.int p1), .val (.int p2), .val (.int p3), .val (.int p4), .val (.int (2 : Int32)), .val (.int ((p1 &&& (65535 : Int32)).toUInt32.toUInt16.toUInt32.toInt32)), .val (.int ((p2 &&& (65535 : Int32)).toUInt32.toUInt16.toUInt32.toInt32)), .unset, .unset, .unset, .unset] at_20 22 rfl rfl ?_
  refine g_iloadN X0 B at_22 23 rfl rfl ?_
  refine g_ldcI X0 B at_23 25 rfl (hw _ (List.mem_of_getElem? (i := 1) rfl)) ?_
  refine g_iand X0 B at_25 26 rfl ?_
  refine g_i2c X0 B at_26 27 rfl ?_
  refine g_istore X0 B #[.val (.int p0), .val (.int p1), .val (.int p2), .val (.int p3), .val (.int p4), .val (.int (2 : Int32)), .val (.int ((p1 &&& (65535 : Int32)).toUInt32.toUInt16.toUInt32.toInt32)), .val (.int ((p2 &&& (65535 : Int32)).toUInt32.toUInt16.toUInt32.toInt32)), .val (.int ((p3 &&& (65535 : Int32)).toUInt32.toUInt16.toUInt32.toInt32)), .unset, .unset, .unset] at_27 29 rfl rfl ?_
  refine g_iload X0 B at_29 31 rfl rfl ?_
  refine g_ldcI X0 B at_31 33 rfl (hw _ (List.mem_of_getElem? (i := 1) rfl)) ?_
  refine g_iand X0 B at_33 34 rfl ?_
  refine g_i2c X0 B at_34 35 rfl ?_
  refine g_istore X0 B #[.val (.int p0), .val (.int p1), .val (.int p2), .val (.int p3), .val (.int p4), .val (.int (2 : Int32)), .val (.int ((p1 &&& (65535 : Int32)).toUInt32.toUInt16.toUInt32.toInt32)), .val (.int ((p2 &&& (65535 : Int32)).toUInt32.toUInt16.toUInt32.toInt32)), .val (.int ((p3 &&& (65535 : Int32)).toUInt32.toUInt16.toUInt32.toInt32)), .val (.int ((p4 &&& (65535 : Int32)).toUInt32.toUInt16.toUInt32.toInt32)), .unset, .unset] at_35 37 rfl rfl ?_
  refine g_iload X0 B at_37 39 rfl rfl ?_
  refine g_iload X0 B at_39 41 rfl rfl ?_
  refine g_iload X0 B at_41 43 rfl rfl ?_
  refine g_iload X0 B at_43 45 rfl rfl ?_
  refine g_iload X0 B at_45 47 rfl rfl ?_
  refine g_callS X0 B [.int (2 : Int32), .int ((p1 &&& (65535 : Int32)).toUInt32.toUInt16.toUInt32.toInt32), .int ((p2 &&& (65535 : Int32)).toUInt32.toUInt16.toUInt32.toInt32), .int ((p3 &&& (65535 : Int32)).toUInt32.toUInt16.toUInt32.toInt32), .int ((p4 &&& (65535 : Int32)).toUInt32.toUInt16.toUInt32.toInt32)] [] at_47 50 rfl rfl (hw _ (List.mem_of_getElem? (i := 2) rfl)) (hw _ (List.mem_of_getElem? (i := 3) rfl)) (hw _ (List.mem_of_getElem? (i := 4) rfl)) (hw _ (List.mem_of_getElem? (i := 5) rfl)) (by decide) (lenOf pd_1 rfl) (rm_mk2 l Z ag hw ((p1 &&& (65535 : Int32)).toUInt32.toUInt16.toUInt32.toInt32) ((p2 &&& (65535 : Int32)).toUInt32.toUInt16.toUInt32.toInt32) ((p3 &&& (65535 : Int32)).toUInt32.toUInt16.toUInt32.toInt32) ((p4 &&& (65535 : Int32)).toUInt32.toUInt16.toUInt32.toInt32) cx h0 n0 Z0 (own_chc _) (own_chc _) (own_chc _) (own_chc _) SA SH SLo SC hcx) e0 rfl 0 (Nat.le_of_eq rfl) (by decide) (by decide) (by decide) (by decide) (fun v1 T1 h1 L1 X1 e1 q1 => ?_)
  obtain ⟨str, bb, vs, kk, rfl, N1, K1, Es, f1, f2, f3, hSV⟩ := q1
  show Go p e below _ (T1.setTop (mkF m 50 #[.val (.int p0), .val (.int p1), .val (.int p2), .val (.int p3), .val (.int p4), .val (.int (2 : Int32)), .val (.int ((p1 &&& (65535 : Int32)).toUInt32.toUInt16.toUInt32.toInt32)), .val (.int ((p2 &&& (65535 : Int32)).toUInt32.toUInt16.toUInt32.toInt32)), .val (.int ((p3 &&& (65535 : Int32)).toUInt32.toUInt16.toUInt32.toInt32)), .val (.int ((p4 &&& (65535 : Int32)).toUInt32.toUInt16.toUInt32.toInt32)), .unset, .unset] [.ref str]))
  refine g_astore X1 B #[.val (.int p0), .val (.int p1), .val (.int p2), .val (.int p3), .val (.int p4), .val (.int (2 : Int32)), .val (.int ((p1 &&& (65535 : Int32)).toUInt32.toUInt16.toUInt32.toInt32)), .val (.int ((p2 &&& (65535 : Int32)).toUInt32.toUInt16.toUInt32.toInt32)), .val (.int ((p3 &&& (65535 : Int32)).toUInt32.toUInt16.toUInt32.toInt32)), .val (.int ((p4 &&& (65535 : Int32)).toUInt32.toUInt16.toUInt32.toInt32)), .val (.ref str), .unset] at_50 52 rfl rfl rfl ?_
  refine g_iload X1 B at_52 54 rfl rfl ?_
  refine g_if_le X1 B at_54 65 57 rfl (by decide) rfl (fun z => own_abs (by decide) z) (fun _ => ?_)
  refine g_iload X1 B at_57 59 rfl rfl ?_
  refine g_callS X1 B [.int ((p1 &&& (65535 : Int32)).toUInt32.toUInt16.toUInt32.toInt32)] [] at_59 62 rfl rfl (hw _ (List.mem_of_getElem? (i := 82) rfl)) (hw _ (List.mem_of_getElem? (i := 83) rfl)) (hw _ (List.mem_of_getElem? (i := 4) rfl)) (hw _ (List.mem_of_getElem? (i := 84) rfl)) (by decide) (lenOf pd_18 rfl) (rm_isb l Z ag hw ((p1 &&& (65535 : Int32)).toUInt32.toUInt16.toUInt32.toInt32) h1 n0) e1 rfl 0 (Nat.le_of_eq rfl) (by decide) (by decide) (by decide) (by decide) (fun v2 T2 h2 L2 X2 e2 q2 => ?_)
  obtain ⟨rfl, N2, rfl⟩ := q2
  show Go p e below _ (T2.setTop (mkF m 62 #[.val (.int p0), .val (.int p1), .val (.int p2), .val (.int p3), .val (.int p4), .val (.int (2 : Int32)), .val (.int ((p1 &&& (65535 : Int32)).toUInt32.toUInt16.toUInt32.toInt32)), .val (.int ((p2 &&& (65535 : Int32)).toUInt32.toUInt16.toUInt32.toInt32)), .val (.int ((p3 &&& (65535 : Int32)).toUInt32.toUInt16.toUInt32.toInt32)), .val (.int ((p4 &&& (65535 : Int32)).toUInt32.toUInt16.toUInt32.toInt32)), .val (.ref str), .unset] [.int (if ((p1 &&& (65535 : Int32)).toUInt32.toUInt16.toUInt32.toInt32) = 10 ∨ ((p1 &&& (65535 : Int32)).toUInt32.toUInt16.toUInt32.toInt32) = 13 then 1 else 0)]))
  refine g_if_ne X2 B at_62 107 65 rfl (by decide) rfl (fun c3 => ?_) (fun c3 => ?_)
  · skip
    refine g_iconst X2 B (1) at_107 108 rfl rfl ?_
    refine g_goto X2 B at_108 112 rfl (by decide) ?_
    refine g_istore X2 B #[.val (.int p0), .val (.int p1), .val (.int p2), .val (.int p3), .val (.int p4), .val (.int (2 : Int32)), .val (.int ((p1 &&& (65535 : Int32)).toUInt32.toUInt16.toUInt32.toInt32)), .val (.int ((p2 &&& (65535 : Int32)).toUInt32.toUInt16.toUInt32.toInt32)), .val (.int ((p3 &&& (65535 : Int32)).toUInt32.toUInt16.toUInt32.toInt32)), .val (.int ((p4 &&& (65535 : Int32)).toUInt32.toUInt16.toUInt32.toInt32)), .val (.ref str), .val (.int (1 : Int32))] at_112 114 rfl rfl ?_
    refine g_aload X2 B at_114 116 rfl rfl rfl ?_
    have t1 := (own_stk SA K1)
    have t2 := (own_stk SH K1)
    have t3 := (own_stk SLo K1)
    have t4 := (own_stk SC K1)
    have t5 := (own_stk SF K1)
    refine g_callS X2 B [.ref str] [] at_116 119 rfl rfl (hw _ (List.mem_of_getElem? (i := 28) rfl)) (hw _ (List.mem_of_getElem? (i := 29) rfl)) (hw _ (List.mem_of_getElem? (i := 30) rfl)) (hw _ (List.mem_of_getElem? (i := 31) rfl)) (by decide) (lenOf pd_5 rfl) (rm_hlb l Z ag hw str bb kk cx vs [((p1 &&& (65535 : Int32)).toUInt32.toUInt16.toUInt32.toInt32), ((p2 &&& (65535 : Int32)).toUInt32.toUInt16.toUInt32.toInt32)] g h1 n0 Es f1 f2 f3 (by simp) (own_chs2 (own_chc (p1 &&& (65535 : Int32))) (own_chc (p2 &&& (65535 : Int32))) (own_chc (p3 &&& (65535 : Int32))) (own_chc (p4 &&& (65535 : Int32)))) hSV (Or.inr (by simp)) t1 t2 t3 t4 hcx t5 hg) e2 rfl 0 (Nat.le_of_eq rfl) (by decide) (by decide) (by decide) (by decide) (fun v4 T4 h4 L4 X4 e4 q4 => ?_)
    obtain ⟨rfl, N4, rfl⟩ := q4
    show Go p e below _ (T4.setTop (mkF m 119 #[.val (.int p0), .val (.int p1), .val (.int p2), .val (.int p3), .val (.int p4), .val (.int (2 : Int32)), .val (.int ((p1 &&& (65535 : Int32)).toUInt32.toUInt16.toUInt32.toInt32)), .val (.int ((p2 &&& (65535 : Int32)).toUInt32.toUInt16.toUInt32.toInt32)), .val (.int ((p3 &&& (65535 : Int32)).toUInt32.toUInt16.toUInt32.toInt32)), .val (.int ((p4 &&& (65535 : Int32)).toUInt32.toUInt16.toUInt32.toInt32)), .val (.ref str), .val (.int (1 : Int32))] [.int (if (10 : Int32) ∈ [((p1 &&& (65535 : Int32)).toUInt32.toUInt16.toUInt32.toInt32), ((p2 &&& (65535 : Int32)).toUInt32.toUInt16.toUInt32.toInt32)] ∨ (13 : Int32) ∈ [((p1 &&& (65535 : Int32)).toUInt32.toUInt16.toUInt32.toInt32), ((p2 &&& (65535 : Int32)).toUInt32.toUInt16.toUInt32.toInt32)] then (1 : Int32) else 0)]))
    refine g_iload X4 B at_119 121 rfl rfl ?_
    refine g_icmp_ne X4 B at_121 128 124 rfl (by decide) rfl (fun z => own_abs (by have yc3 := own_if1 c3; exact if_pos (own_in2_0 yc3)) z) (fun _ => ?_)
    refine g_iconst X4 B (1) at_124 125 rfl rfl ?_
    refine g_goto X4 B at_125 129 rfl (by decide) ?_
    exact g_retN X4 B at_129 rfl rfl (by decide) (by decide) (by decide) e4 ⟨rfl, ((((Fr.nil n0).app N1).app N2).app N4)⟩
  · skip
    refine g_iload X2 B at_65 67 rfl rfl ?_
    refine g_iconst X2 B (1) at_67 68 rfl rfl ?_
    refine g_icmp_le X2 B at_68 79 71 rfl (by decide) rfl (fun z => own_abs (by decide) z) (fun _ => ?_)
    refine g_iload X2 B at_71 73 rfl rfl ?_
    refine g_callS X2 B [.int ((p2 &&& (65535 : Int32)).toUInt32.toUInt16.toUInt32.toInt32)] [] at_73 76 rfl rfl (hw _ (List.mem_of_getElem? (i := 82) rfl)) (hw _ (List.mem_of_getElem? (i := 83) rfl)) (hw _ (List.mem_of_getElem? (i := 4) rfl)) (hw _ (List.mem_of_getElem? (i := 84) rfl)) (by decide) (lenOf pd_18 rfl) (rm_isb l Z ag hw ((p2 &&& (65535 : Int32)).toUInt32.toUInt16.toUInt32.toInt32) h1 n0) e2 rfl 0 (Nat.le_of_eq rfl) (by decide) (by decide) (by decide) (by decide) (fun v5 T5 h5 L5 X5 e5 q5 => ?_)
    obtain ⟨rfl, N5, rfl⟩ := q5
    show Go p e below _ (T5.setTop (mkF m 76 #[.val (.int p0), .val (.int p1), .val (.int p2), .val (.int p3), .val (.int p4), .val (.int (2 : Int32)), .val (.int ((p1 &&& (65535 : Int32)).toUInt32.toUInt16.toUInt32.toInt32)), .val (.int ((p2 &&& (65535 : Int32)).toUInt32.toUInt16.toUInt32.toInt32)), .val (.int ((p3 &&& (65535 : Int32)).toUInt32.toUInt16.toUInt32.toInt32)), .val (.int ((p4 &&& (65535 : Int32)).toUInt32.toUInt16.toUInt32.toInt32)), .val (.ref str), .unset] [.int (if ((p2 &&& (65535 : Int32)).toUInt32.toUInt16.toUInt32.toInt32) = 10 ∨ ((p2 &&& (65535 : Int32)).toUInt32.toUInt16.toUInt32.toInt32) = 13 then 1 else 0)]))
    refine g_if_ne X5 B at_76 107 79 rfl (by decide) rfl (fun c6 => ?_) (fun c6 => ?_)
    · skip
      refine g_iconst X5 B (1) at_107 108 rfl rfl ?_
      refine g_goto X5 B at_108 112 rfl (by decide) ?_
      refine g_istore X5 B #[.val (.int p0), .val (.int p1), .val (.int p2), .val (.int p3), .val (.int p4), .val (.int (2 : Int32)), .val (.int ((p1 &&& (65535 : Int32)).toUInt32.toUInt16.toUInt32.toInt32)), .val (.int ((p2 &&& (65535 : Int32)).toUInt32.toUInt16.toUInt32.toInt32)), .val (.int ((p3 &&& (65535 : Int32)).toUInt32.toUInt16.toUInt32.toInt32)), .val (.int ((p4 &&& (65535 : Int32)).toUInt32.toUInt16.toUInt32.toInt32)), .val (.ref str), .val (.int (1 : Int32))] at_112 114 rfl rfl ?_
      refine g_aload X5 B at_114 116 rfl rfl rfl ?_
      have t6 := (own_stk SA K1)
      have t7 := (own_stk SH K1)
      have t8 := (own_stk SLo K1)
      have t9 := (own_stk SC K1)
      have t10 := (own_stk SF K1)
      refine g_callS X5 B [.ref str] [] at_116 119 rfl rfl (hw _ (List.mem_of_getElem? (i := 28) rfl)) (hw _ (List.mem_of_getElem? (i := 29) rfl)) (hw _ (List.mem_of_getElem? (i := 30) rfl)) (hw _ (List.mem_of_getElem? (i := 31) rfl)) (by decide) (lenOf pd_5 rfl) (rm_hlb l Z ag hw str bb kk cx vs [((p1 &&& (65535 : Int32)).toUInt32.toUInt16.toUInt32.toInt32), ((p2 &&& (65535 : Int32)).toUInt32.toUInt16.toUInt32.toInt32)] g h1 n0 Es f1 f2 f3 (by simp) (own_chs2 (own_chc (p1 &&& (65535 : Int32))) (own_chc (p2 &&& (65535 : Int32))) (own_chc (p3 &&& (65535 : Int32))) (own_chc (p4 &&& (65535 : Int32)))) hSV (Or.inr (by simp)) t6 t7 t8 t9 hcx t10 hg) e5 rfl 0 (Nat.le_of_eq rfl) (by decide) (by decide) (by decide) (by decide) (fun v7 T7 h7 L7 X7 e7 q7 => ?_)
      obtain ⟨rfl, N7, rfl⟩ := q7
      show Go p e below _ (T7.setTop (mkF m 119 #[.val (.int p0), .val (.int p1), .val (.int p2), .val (.int p3), .val (.int p4), .val (.int (2 : Int32)), .val (.int ((p1 &&& (65535 : Int32)).toUInt32.toUInt16.toUInt32.toInt32)), .val (.int ((p2 &&& (65535 : Int32)).toUInt32.toUInt16.toUInt32.toInt32)), .val (.int ((p3 &&& (65535 : Int32)).toUInt32.toUInt16.toUInt32.toInt32)), .val (.int ((p4 &&& (65535 : Int32)).toUInt32.toUInt16.toUInt32.toInt32)), .val (.ref str), .val (.int (1 : Int32))] [.int (if (10 : Int32) ∈ [((p1 &&& (65535 : Int32)).toUInt32.toUInt16.toUInt32.toInt32), ((p2 &&& (65535 : Int32)).toUInt32.toUInt16.toUInt32.toInt32)] ∨ (13 : Int32) ∈ [((p1 &&& (65535 : Int32)).toUInt32.toUInt16.toUInt32.toInt32), ((p2 &&& (65535 : Int32)).toUInt32.toUInt16.toUInt32.toInt32)] then (1 : Int32) else 0)]))
      refine g_iload X7 B at_119 121 rfl rfl ?_
      refine g_icmp_ne X7 B at_121 128 124 rfl (by decide) rfl (fun z => own_abs (by have yc6 := own_if1 c6; have yc3 := own_if0 c3; exact if_pos (own_in2_1 yc6)) z) (fun _ => ?_)
      refine g_iconst X7 B (1) at_124 125 rfl rfl ?_
      refine g_goto X7 B at_125 129 rfl (by decide) ?_
      exact g_retN X7 B at_129 rfl rfl (by decide) (by decide) (by decide) e7 ⟨rfl, (((((Fr.nil n0).app N1).app N2).app N5).app N7)⟩
    · skip
      refine g_iload X5 B at_79 81 rfl rfl ?_
      refine g_iconst X5 B (2) at_81 82 rfl rfl ?_
      refine g_icmp_le X5 B at_82 93 85 rfl (by decide) rfl (fun _ => ?_) (fun z => own_abs' (by decide) z)
      refine g_iload X5 B at_93 95 rfl rfl ?_
      refine g_iconst X5 B (3) at_95 96 rfl rfl ?_
      refine g_icmp_le X5 B at_96 111 99 rfl (by decide) rfl (fun _ => ?_) (fun z => own_abs' (by decide) z)
      refine g_iconst X5 B (0) at_111 112 rfl rfl ?_
      refine g_istore X5 B #[.val (.int p0), .val (.int p1), .val (.int p2), .val (.int p3), .val (.int p4), .val (.int (2 : Int32)), .val (.int ((p1 &&& (65535 : Int32)).toUInt32.toUInt16.toUInt32.toInt32)), .val (.int ((p2 &&& (65535 : Int32)).toUInt32.toUInt16.toUInt32.toInt32)), .val (.int ((p3 &&& (65535 : Int32)).toUInt32.toUInt16.toUInt32.toInt32)), .val (.int ((p4 &&& (65535 : Int32)).toUInt32.toUInt16.toUInt32.toInt32)), .val (.ref str), .val (.int (0 : Int32))] at_112 114 rfl rfl ?_
      refine g_aload X5 B at_114 116 rfl rfl rfl ?_
      have t11 := (own_stk SA K1)
      have t12 := (own_stk SH K1)
      have t13 := (own_stk SLo K1)
      have t14 := (own_stk SC K1)
      have t15 := (own_stk SF K1)
      refine g_callS X5 B [.ref str] [] at_116 119 rfl rfl (hw _ (List.mem_of_getElem? (i := 28) rfl)) (hw _ (List.mem_of_getElem? (i := 29) rfl)) (hw _ (List.mem_of_getElem? (i := 30) rfl)) (hw _ (List.mem_of_getElem? (i := 31) rfl)) (by decide) (lenOf pd_5 rfl) (rm_hlb l Z ag hw str bb kk cx vs [((p1 &&& (65535 : Int32)).toUInt32.toUInt16.toUInt32.toInt32), ((p2 &&& (65535 : Int32)).toUInt32.toUInt16.toUInt32.toInt32)] g h1 n0 Es f1 f2 f3 (by simp) (own_chs2 (own_chc (p1 &&& (65535 : Int32))) (own_chc (p2 &&& (65535 : Int32))) (own_chc (p3 &&& (65535 : Int32))) (own_chc (p4 &&& (65535 : Int32)))) hSV (Or.inr (by simp)) t11 t12 t13 t14 hcx t15 hg) e5 rfl 0 (Nat.le_of_eq rfl) (by decide) (by decide) (by decide) (by decide) (fun v8 T8 h8 L8 X8 e8 q8 => ?_)
      obtain ⟨rfl, N8, rfl⟩ := q8
      show Go p e below _ (T8.setTop (mkF m 119 #[.val (.int p0), .val (.int p1), .val (.int p2), .val (.int p3), .val (.int p4), .val (.int (2 : Int32)), .val (.int ((p1 &&& (65535 : Int32)).toUInt32.toUInt16.toUInt32.toInt32)), .val (.int ((p2 &&& (65535 : Int32)).toUInt32.toUInt16.toUInt32.toInt32)), .val (.int ((p3 &&& (65535 : Int32)).toUInt32.toUInt16.toUInt32.toInt32)), .val (.int ((p4 &&& (65535 : Int32)).toUInt32.toUInt16.toUInt32.toInt32)), .val (.ref str), .val (.int (0 : Int32))] [.int (if (10 : Int32) ∈ [((p1 &&& (65535 : Int32)).toUInt32.toUInt16.toUInt32.toInt32), ((p2 &&& (65535 : Int32)).toUInt32.toUInt16.toUInt32.toInt32)] ∨ (13 : Int32) ∈ [((p1 &&& (65535 : Int32)).toUInt32.toUInt16.toUInt32.toInt32), ((p2 &&& (65535 : Int32)).toUInt32.toUInt16.toUInt32.toInt32)] then (1 : Int32) else 0)]))
      refine g_iload X8 B at_119 121 rfl rfl ?_
      refine g_icmp_ne X8 B at_121 128 124 rfl (by decide) rfl (fun z => own_abs (by have yc3 := own_if0 c3; have yc6 := own_if0 c6; exact if_neg (own_out2 yc3 yc6)) z) (fun _ => ?_)
      refine g_iconst X8 B (1) at_124 125 rfl rfl ?_
      refine g_goto X8 B at_125 129 rfl (by decide) ?_
      exact g_retN X8 B at_129 rfl rfl (by decide) (by decide) (by decide) e8 ⟨rfl, (((((Fr.nil n0).app N1).app N2).app N5).app N8)⟩
set_option maxRecDepth 65536 in
set_option maxHeartbeats 40000000 in
theorem rm0_3 (l : Launch) (Z : State) (ag : Array Value) (hw : ∀ d ∈ tables_1, d.before ag Z = true) (p0 p1 p2 p3 p4 cx : Int32) (g : Value) (h0 : Heap) (n0 : Nat) (Z0 : n0 ≤ h0.size) (SA : Sta Z h0 "java/lang/StringUTF16" "$assertionsDisabled" "Z" (.int 1)) (SH : Sta Z h0 "java/lang/StringUTF16" "HI_BYTE_SHIFT" "I" (.int 0)) (SLo : Sta Z h0 "java/lang/StringUTF16" "LO_BYTE_SHIFT" "I" (.int 8)) (SC : Sta Z h0 "java/lang/String" "COMPACT_STRINGS" "Z" (.int cx)) (hcx : ¬ cx = 0) (SF : Sta Z h0 "jdk/internal/util/Preconditions" "SIOOBE_FORMATTER" "Ljava/util/function/BiFunction;" g) (hg : g.isRef = true) (kk5 : ((p0 &&& (2147483647 : Int32)) % (5 : Int32)) = 3) :
    Ctr l Z x code maxLocals ret room_1 #[.int p0, .int p1, .int p2, .int p3, .int p4] h0 (fun v h L => v = some (.int 1) ∧ Fr n0 L) := by
  refine Ctr.of pn_0 ?_
  intro p e s m below meth c T0 X0 B e0
  refine Go.cast (f' := mkF m 0 #[.val (.int p0), .val (.int p1), .val (.int p2), .val (.int p3), .val (.int p4), .unset, .unset, .unset, .unset, .unset, .unset, .unset] []) (by first | rfl | (simp [entryFrame, mkF, argsToLocals, Value.category, maxLocals]; done)) ?_

  refine g_iloadN X0 B at_0 1 rfl rfl ?_
  refine g_ldcI X0 B at_1 3 rfl (hw _ (List.mem_of_getElem? (i := 0) rfl)) ?_
  refine g_iand X0 B at_3 4 rfl ?_
  refine g_iconst X0 B (5) at_4 5 rfl rfl ?_
  refine g_irem X0 B at_5 6 rfl (by decide) ?_
  rw [kk5]
  show Go p e below _ (T0.setTop (mkF m 6 #[.val (.int p0), .val (.int p1), .val (.int p2), .val (.int p3), .val (.int p4), .unset, .unset, .unset, .unset, .unset, .unset, .unset] [.int (3 : Int32)]))
  refine g_istore X0 B #[.val (.int p0), .val (.int p1), .val (.int p2), .val (.int p3), .val (.int p4), .val (.int (3 : Int32)), .unset, .unset, .unset, .unset, .unset, .unset] at_6 8 rfl rfl ?_
  refine g_iloadN X0 B at_8 9 rfl rfl ?_
  refine g_ldcI X0 B at_9 11 rfl (hw _ (List.mem_of_getElem? (i := 1) rfl)) ?_
  refine g_iand X0 B at_11 12 rfl ?_
  refine g_i2c X0 B at_12 13 rfl ?_
  refine g_istore X0 B #[.val (.int p0), .val (.int p1), .val (.int p2), .val (.int p3), .val (.int p4), .val (.int (3 : Int32)), .val (.int ((p1 &&& (65535 : Int32)).toUInt32.toUInt16.toUInt32.toInt32)), .unset, .unset, .unset, .unset, .unset] at_13 15 rfl rfl ?_
  refine g_iloadN X0 B at_15 16 rfl rfl ?_
  refine g_ldcI X0 B at_16 18 rfl (hw _ (List.mem_of_getElem? (i := 1) rfl)) ?_
  refine g_iand X0 B at_18 19 rfl ?_
  refine g_i2c X0 B at_19 20 rfl ?_
  refine g_istore X0 B #[.val (.int p0), .val (.int p1), .val (.int p2), .val (.int p3), .val (.int p4), .val (.int (3 : Int32)), .val (.int ((p1 &&& (65535 : Int32)).toUInt32.toUInt16.toUInt32.toInt32)), .val (.int ((p2 &&& (65535 : Int32)).toUInt32.toUInt16.toUInt32.toInt32)), .unset, .unset, .unset, .unset] at_20 22 rfl rfl ?_
  refine g_iloadN X0 B at_22 23 rfl rfl ?_
  refine g_ldcI X0 B at_23 25 rfl (hw _ (List.mem_of_getElem? (i := 1) rfl)) ?_
  refine g_iand X0 B at_25 26 rfl ?_
  refine g_i2c X0 B at_26 27 rfl ?_
  refine g_istore X0 B #[.val (.int p0), .val (.int p1), .val (.int p2), .val (.int p3), .val (.int p4), .val (.int (3 : Int32)), .val (.int ((p1 &&& (65535 : Int32)).toUInt32.toUInt16.toUInt32.toInt32)), .val (.int ((p2 &&& (65535 : Int32)).toUInt32.toUInt16.toUInt32.toInt32)), .val (.int ((p3 &&& (65535 : Int32)).toUInt32.toUInt16.toUInt32.toInt32)), .unset, .unset, .unset] at_27 29 rfl rfl ?_
  refine g_iload X0 B at_29 31 rfl rfl ?_
  refine g_ldcI X0 B at_31 33 rfl (hw _ (List.mem_of_getElem? (i := 1) rfl)) ?_
  refine g_iand X0 B at_33 34 rfl ?_
  refine g_i2c X0 B at_34 35 rfl ?_
  refine g_istore X0 B #[.val (.int p0), .val (.int p1), .val (.int p2), .val (.int p3), .val (.int p4), .val (.int (3 : Int32)), .val (.int ((p1 &&& (65535 : Int32)).toUInt32.toUInt16.toUInt32.toInt32)), .val (.int ((p2 &&& (65535 : Int32)).toUInt32.toUInt16.toUInt32.toInt32)), .val (.int ((p3 &&& (65535 : Int32)).toUInt32.toUInt16.toUInt32.toInt32)), .val (.int ((p4 &&& (65535 : Int32)).toUInt32.toUInt16.toUInt32.toInt32)), .unset, .unset] at_35 37 rfl rfl ?_
  refine g_iload X0 B at_37 39 rfl rfl ?_
  refine g_iload X0 B at_39 41 rfl rfl ?_
  refine g_iload X0 B at_41 43 rfl rfl ?_
  refine g_iload X0 B at_43 45 rfl rfl ?_
  refine g_iload X0 B at_45 47 rfl rfl ?_
  refine g_callS X0 B [.int (3 : Int32), .int ((p1 &&& (65535 : Int32)).toUInt32.toUInt16.toUInt32.toInt32), .int ((p2 &&& (65535 : Int32)).toUInt32.toUInt16.toUInt32.toInt32), .int ((p3 &&& (65535 : Int32)).toUInt32.toUInt16.toUInt32.toInt32), .int ((p4 &&& (65535 : Int32)).toUInt32.toUInt16.toUInt32.toInt32)] [] at_47 50 rfl rfl (hw _ (List.mem_of_getElem? (i := 2) rfl)) (hw _ (List.mem_of_getElem? (i := 3) rfl)) (hw _ (List.mem_of_getElem? (i := 4) rfl)) (hw _ (List.mem_of_getElem? (i := 5) rfl)) (by decide) (lenOf pd_1 rfl) (rm_mk3 l Z ag hw ((p1 &&& (65535 : Int32)).toUInt32.toUInt16.toUInt32.toInt32) ((p2 &&& (65535 : Int32)).toUInt32.toUInt16.toUInt32.toInt32) ((p3 &&& (65535 : Int32)).toUInt32.toUInt16.toUInt32.toInt32) ((p4 &&& (65535 : Int32)).toUInt32.toUInt16.toUInt32.toInt32) cx h0 n0 Z0 (own_chc _) (own_chc _) (own_chc _) (own_chc _) SA SH SLo SC hcx) e0 rfl 0 (Nat.le_of_eq rfl) (by decide) (by decide) (by decide) (by decide) (fun v1 T1 h1 L1 X1 e1 q1 => ?_)
  obtain ⟨str, bb, vs, kk, rfl, N1, K1, Es, f1, f2, f3, hSV⟩ := q1
  show Go p e below _ (T1.setTop (mkF m 50 #[.val (.int p0), .val (.int p1), .val (.int p2), .val (.int p3), .val (.int p4), .val (.int (3 : Int32)), .val (.int ((p1 &&& (65535 : Int32)).toUInt32.toUInt16.toUInt32.toInt32)), .val (.int ((p2 &&& (65535 : Int32)).toUInt32.toUInt16.toUInt32.toInt32)), .val (.int ((p3 &&& (65535 : Int32)).toUInt32.toUInt16.toUInt32.toInt32)), .val (.int ((p4 &&& (65535 : Int32)).toUInt32.toUInt16.toUInt32.toInt32)), .unset, .unset] [.ref str]))
  refine g_astore X1 B #[.val (.int p0), .val (.int p1), .val (.int p2), .val (.int p3), .val (.int p4), .val (.int (3 : Int32)), .val (.int ((p1 &&& (65535 : Int32)).toUInt32.toUInt16.toUInt32.toInt32)), .val (.int ((p2 &&& (65535 : Int32)).toUInt32.toUInt16.toUInt32.toInt32)), .val (.int ((p3 &&& (65535 : Int32)).toUInt32.toUInt16.toUInt32.toInt32)), .val (.int ((p4 &&& (65535 : Int32)).toUInt32.toUInt16.toUInt32.toInt32)), .val (.ref str), .unset] at_50 52 rfl rfl rfl ?_
  refine g_iload X1 B at_52 54 rfl rfl ?_
  refine g_if_le X1 B at_54 65 57 rfl (by decide) rfl (fun z => own_abs (by decide) z) (fun _ => ?_)
  refine g_iload X1 B at_57 59 rfl rfl ?_
  refine g_callS X1 B [.int ((p1 &&& (65535 : Int32)).toUInt32.toUInt16.toUInt32.toInt32)] [] at_59 62 rfl rfl (hw _ (List.mem_of_getElem? (i := 82) rfl)) (hw _ (List.mem_of_getElem? (i := 83) rfl)) (hw _ (List.mem_of_getElem? (i := 4) rfl)) (hw _ (List.mem_of_getElem? (i := 84) rfl)) (by decide) (lenOf pd_18 rfl) (rm_isb l Z ag hw ((p1 &&& (65535 : Int32)).toUInt32.toUInt16.toUInt32.toInt32) h1 n0) e1 rfl 0 (Nat.le_of_eq rfl) (by decide) (by decide) (by decide) (by decide) (fun v2 T2 h2 L2 X2 e2 q2 => ?_)
  obtain ⟨rfl, N2, rfl⟩ := q2
  show Go p e below _ (T2.setTop (mkF m 62 #[.val (.int p0), .val (.int p1), .val (.int p2), .val (.int p3), .val (.int p4), .val (.int (3 : Int32)), .val (.int ((p1 &&& (65535 : Int32)).toUInt32.toUInt16.toUInt32.toInt32)), .val (.int ((p2 &&& (65535 : Int32)).toUInt32.toUInt16.toUInt32.toInt32)), .val (.int ((p3 &&& (65535 : Int32)).toUInt32.toUInt16.toUInt32.toInt32)), .val (.int ((p4 &&& (65535 : Int32)).toUInt32.toUInt16.toUInt32.toInt32)), .val (.ref str), .unset] [.int (if ((p1 &&& (65535 : Int32)).toUInt32.toUInt16.toUInt32.toInt32) = 10 ∨ ((p1 &&& (65535 : Int32)).toUInt32.toUInt16.toUInt32.toInt32) = 13 then 1 else 0)]))
  refine g_if_ne X2 B at_62 107 65 rfl (by decide) rfl (fun c3 => ?_) (fun c3 => ?_)
  · skip
    refine g_iconst X2 B (1) at_107 108 rfl rfl ?_
    refine g_goto X2 B at_108 112 rfl (by decide) ?_
    refine g_istore X2 B #[.val (.int p0), .val (.int p1), .val (.int p2), .val (.int p3), .val (.int p4), .val (.int (3 : Int32)), .val (.int ((p1 &&& (65535 : Int32)).toUInt32.toUInt16.toUInt32.toInt32)), .val (.int ((p2 &&& (65535 : Int32)).toUInt32.toUInt16.toUInt32.toInt32)), .val (.int ((p3 &&& (65535 : Int32)).toUInt32.toUInt16.toUInt32.toInt32)), .val (.int ((p4 &&& (65535 : Int32)).toUInt32.toUInt16.toUInt32.toInt32)), .val (.ref str), .val (.int (1 : Int32))] at_112 114 rfl rfl ?_
    refine g_aload X2 B at_114 116 rfl rfl rfl ?_
    have t1 := (own_stk SA K1)
    have t2 := (own_stk SH K1)
    have t3 := (own_stk SLo K1)
    have t4 := (own_stk SC K1)
    have t5 := (own_stk SF K1)
    refine g_callS X2 B [.ref str] [] at_116 119 rfl rfl (hw _ (List.mem_of_getElem? (i := 28) rfl)) (hw _ (List.mem_of_getElem? (i := 29) rfl)) (hw _ (List.mem_of_getElem? (i := 30) rfl)) (hw _ (List.mem_of_getElem? (i := 31) rfl)) (by decide) (lenOf pd_5 rfl) (rm_hlb l Z ag hw str bb kk cx vs [((p1 &&& (65535 : Int32)).toUInt32.toUInt16.toUInt32.toInt32), ((p2 &&& (65535 : Int32)).toUInt32.toUInt16.toUInt32.toInt32), ((p3 &&& (65535 : Int32)).toUInt32.toUInt16.toUInt32.toInt32)] g h1 n0 Es f1 f2 f3 (by simp) (own_chs3 (own_chc (p1 &&& (65535 : Int32))) (own_chc (p2 &&& (65535 : Int32))) (own_chc (p3 &&& (65535 : Int32))) (own_chc (p4 &&& (65535 : Int32)))) hSV (Or.inr (by simp)) t1 t2 t3 t4 hcx t5 hg) e2 rfl 0 (Nat.le_of_eq rfl) (by decide) (by decide) (by decide) (by decide) (fun v4 T4 h4 L4 X4 e4 q4 => ?_)
    obtain ⟨rfl, N4, rfl⟩ := q4
    show Go p e below _ (T4.setTop (mkF m 119 #[.val (.int p0), .val (.int p1), .val (.int p2), .val (.int p3), .val (.int p4), .val (.int (3 : Int32)), .val (.int ((p1 &&& (65535 : Int32)).toUInt32.toUInt16.toUInt32.toInt32)), .val (.int ((p2 &&& (65535 : Int32)).toUInt32.toUInt16.toUInt32.toInt32)), .val (.int ((p3 &&& (65535 : Int32)).toUInt32.toUInt16.toUInt32.toInt32)), .val (.int ((p4 &&& (65535 : Int32)).toUInt32.toUInt16.toUInt32.toInt32)), .val (.ref str), .val (.int (1 : Int32))] [.int (if (10 : Int32) ∈ [((p1 &&& (65535 : Int32)).toUInt32.toUInt16.toUInt32.toInt32), ((p2 &&& (65535 : Int32)).toUInt32.toUInt16.toUInt32.toInt32), ((p3 &&& (65535 : Int32)).toUInt32.toUInt16.toUInt32.toInt32)] ∨ (13 : Int32) ∈ [((p1 &&& (65535 : Int32)).toUInt32.toUInt16.toUInt32.toInt32), ((p2 &&& (65535 : Int32)).toUInt32.toUInt16.toUInt32.toInt32), ((p3 &&& (65535 : Int32)).toUInt32.toUInt16.toUInt32.toInt32)] then (1 : Int32) else 0)]))
    refine g_iload X4 B at_119 121 rfl rfl ?_
    refine g_icmp_ne X4 B at_121 128 124 rfl (by decide) rfl (fun z => own_abs (by have yc3 := own_if1 c3; exact if_pos (own_in3_0 yc3)) z) (fun _ => ?_)
    refine g_iconst X4 B (1) at_124 125 rfl rfl ?_
    refine g_goto X4 B at_125 129 rfl (by decide) ?_
    exact g_retN X4 B at_129 rfl rfl (by decide) (by decide) (by decide) e4 ⟨rfl, ((((Fr.nil n0).app N1).app N2).app N4)⟩
  · skip
    refine g_iload X2 B at_65 67 rfl rfl ?_
    refine g_iconst X2 B (1) at_67 68 rfl rfl ?_
    refine g_icmp_le X2 B at_68 79 71 rfl (by decide) rfl (fun z => own_abs (by decide) z) (fun _ => ?_)
    refine g_iload X2 B at_71 73 rfl rfl ?_
    refine g_callS X2 B [.int ((p2 &&& (65535 : Int32)).toUInt32.toUInt16.toUInt32.toInt32)] [] at_73 76 rfl rfl (hw _ (List.mem_of_getElem? (i := 82) rfl)) (hw _ (List.mem_of_getElem? (i := 83) rfl)) (hw _ (List.mem_of_getElem? (i := 4) rfl)) (hw _ (List.mem_of_getElem? (i := 84) rfl)) (by decide) (lenOf pd_18 rfl) (rm_isb l Z ag hw ((p2 &&& (65535 : Int32)).toUInt32.toUInt16.toUInt32.toInt32) h1 n0) e2 rfl 0 (Nat.le_of_eq rfl) (by decide) (by decide) (by decide) (by decide) (fun v5 T5 h5 L5 X5 e5 q5 => ?_)
    obtain ⟨rfl, N5, rfl⟩ := q5
    show Go p e below _ (T5.setTop (mkF m 76 #[.val (.int p0), .val (.int p1), .val (.int p2), .val (.int p3), .val (.int p4), .val (.int (3 : Int32)), .val (.int ((p1 &&& (65535 : Int32)).toUInt32.toUInt16.toUInt32.toInt32)), .val (.int ((p2 &&& (65535 : Int32)).toUInt32.toUInt16.toUInt32.toInt32)), .val (.int ((p3 &&& (65535 : Int32)).toUInt32.toUInt16.toUInt32.toInt32)), .val (.int ((p4 &&& (65535 : Int32)).toUInt32.toUInt16.toUInt32.toInt32)), .val (.ref str), .unset] [.int (if ((p2 &&& (65535 : Int32)).toUInt32.toUInt16.toUInt32.toInt32) = 10 ∨ ((p2 &&& (65535 : Int32)).toUInt32.toUInt16.toUInt32.toInt32) = 13 then 1 else 0)]))
    refine g_if_ne X5 B at_76 107 79 rfl (by decide) rfl (fun c6 => ?_) (fun c6 => ?_)
    · skip
      refine g_iconst X5 B (1) at_107 108 rfl rfl ?_
      refine g_goto X5 B at_108 112 rfl (by decide) ?_
      refine g_istore X5 B #[.val (.int p0), .val (.int p1), .val (.int p2), .val (.int p3), .val (.int p4), .val (.int (3 : Int32)), .val (.int ((p1 &&& (65535 : Int32)).toUInt32.toUInt16.toUInt32.toInt32)), .val (.int ((p2 &&& (65535 : Int32)).toUInt32.toUInt16.toUInt32.toInt32)), .val (.int ((p3 &&& (65535 : Int32)).toUInt32.toUInt16.toUInt32.toInt32)), .val (.int ((p4 &&& (65535 : Int32)).toUInt32.toUInt16.toUInt32.toInt32)), .val (.ref str), .val (.int (1 : Int32))] at_112 114 rfl rfl ?_
      refine g_aload X5 B at_114 116 rfl rfl rfl ?_
      have t6 := (own_stk SA K1)
      have t7 := (own_stk SH K1)
      have t8 := (own_stk SLo K1)
      have t9 := (own_stk SC K1)
      have t10 := (own_stk SF K1)
      refine g_callS X5 B [.ref str] [] at_116 119 rfl rfl (hw _ (List.mem_of_getElem? (i := 28) rfl)) (hw _ (List.mem_of_getElem? (i := 29) rfl)) (hw _ (List.mem_of_getElem? (i := 30) rfl)) (hw _ (List.mem_of_getElem? (i := 31) rfl)) (by decide) (lenOf pd_5 rfl) (rm_hlb l Z ag hw str bb kk cx vs [((p1 &&& (65535 : Int32)).toUInt32.toUInt16.toUInt32.toInt32), ((p2 &&& (65535 : Int32)).toUInt32.toUInt16.toUInt32.toInt32), ((p3 &&& (65535 : Int32)).toUInt32.toUInt16.toUInt32.toInt32)] g h1 n0 Es f1 f2 f3 (by simp) (own_chs3 (own_chc (p1 &&& (65535 : Int32))) (own_chc (p2 &&& (65535 : Int32))) (own_chc (p3 &&& (65535 : Int32))) (own_chc (p4 &&& (65535 : Int32)))) hSV (Or.inr (by simp)) t6 t7 t8 t9 hcx t10 hg) e5 rfl 0 (Nat.le_of_eq rfl) (by decide) (by decide) (by decide) (by decide) (fun v7 T7 h7 L7 X7 e7 q7 => ?_)
      obtain ⟨rfl, N7, rfl⟩ := q7
      show Go p e below _ (T7.setTop (mkF m 119 #[.val (.int p0), .val (.int p1), .val (.int p2), .val (.int p3), .val (.int p4), .val (.int (3 : Int32)), .val (.int ((p1 &&& (65535 : Int32)).toUInt32.toUInt16.toUInt32.toInt32)), .val (.int ((p2 &&& (65535 : Int32)).toUInt32.toUInt16.toUInt32.toInt32)), .val (.int ((p3 &&& (65535 : Int32)).toUInt32.toUInt16.toUInt32.toInt32)), .val (.int ((p4 &&& (65535 : Int32)).toUInt32.toUInt16.toUInt32.toInt32)), .val (.ref str), .val (.int (1 : Int32))] [.int (if (10 : Int32) ∈ [((p1 &&& (65535 : Int32)).toUInt32.toUInt16.toUInt32.toInt32), ((p2 &&& (65535 : Int32)).toUInt32.toUInt16.toUInt32.toInt32), ((p3 &&& (65535 : Int32)).toUInt32.toUInt16.toUInt32.toInt32)] ∨ (13 : Int32) ∈ [((p1 &&& (65535 : Int32)).toUInt32.toUInt16.toUInt32.toInt32), ((p2 &&& (65535 : Int32)).toUInt32.toUInt16.toUInt32.toInt32), ((p3 &&& (65535 : Int32)).toUInt32.toUInt16.toUInt32.toInt32)] then (1 : Int32) else 0)]))
      refine g_iload X7 B at_119 121 rfl rfl ?_
      refine g_icmp_ne X7 B at_121 128 124 rfl (by decide) rfl (fun z => own_abs (by have yc6 := own_if1 c6; have yc3 := own_if0 c3; exact if_pos (own_in3_1 yc6)) z) (fun _ => ?_)
      refine g_iconst X7 B (1) at_124 125 rfl rfl ?_
      refine g_goto X7 B at_125 129 rfl (by decide) ?_
      exact g_retN X7 B at_129 rfl rfl (by decide) (by decide) (by decide) e7 ⟨rfl, (((((Fr.nil n0).app N1).app N2).app N5).app N7)⟩
    · skip
      refine g_iload X5 B at_79 81 rfl rfl ?_
      refine g_iconst X5 B (2) at_81 82 rfl rfl ?_
      refine g_icmp_le X5 B at_82 93 85 rfl (by decide) rfl (fun z => own_abs (by decide) z) (fun _ => ?_)
      refine g_iload X5 B at_85 87 rfl rfl ?_
      refine g_callS X5 B [.int ((p3 &&& (65535 : Int32)).toUInt32.toUInt16.toUInt32.toInt32)] [] at_87 90 rfl rfl (hw _ (List.mem_of_getElem? (i := 82) rfl)) (hw _ (List.mem_of_getElem? (i := 83) rfl)) (hw _ (List.mem_of_getElem? (i := 4) rfl)) (hw _ (List.mem_of_getElem? (i := 84) rfl)) (by decide) (lenOf pd_18 rfl) (rm_isb l Z ag hw ((p3 &&& (65535 : Int32)).toUInt32.toUInt16.toUInt32.toInt32) h1 n0) e5 rfl 0 (Nat.le_of_eq rfl) (by decide) (by decide) (by decide) (by decide) (fun v8 T8 h8 L8 X8 e8 q8 => ?_)
      obtain ⟨rfl, N8, rfl⟩ := q8
      show Go p e below _ (T8.setTop (mkF m 90 #[.val (.int p0), .val (.int p1), .val (.int p2), .val (.int p3), .val (.int p4), .val (.int (3 : Int32)), .val (.int ((p1 &&& (65535 : Int32)).toUInt32.toUInt16.toUInt32.toInt32)), .val (.int ((p2 &&& (65535 : Int32)).toUInt32.toUInt16.toUInt32.toInt32)), .val (.int ((p3 &&& (65535 : Int32)).toUInt32.toUInt16.toUInt32.toInt32)), .val (.int ((p4 &&& (65535 : Int32)).toUInt32.toUInt16.toUInt32.toInt32)), .val (.ref str), .unset] [.int (if ((p3 &&& (65535 : Int32)).toUInt32.toUInt16.toUInt32.toInt32) = 10 ∨ ((p3 &&& (65535 : Int32)).toUInt32.toUInt16.toUInt32.toInt32) = 13 then 1 else 0)]))
      refine g_if_ne X8 B at_90 107 93 rfl (by decide) rfl (fun c9 => ?_) (fun c9 => ?_)
      · skip
        refine g_iconst X8 B (1) at_107 108 rfl rfl ?_
        refine g_goto X8 B at_108 112 rfl (by decide) ?_
        refine g_istore X8 B #[.val (.int p0), .val (.int p1), .val (.int p2), .val (.int p3), .val (.int p4), .val (.int (3 : Int32)), .val (.int ((p1 &&& (65535 : Int32)).toUInt32.toUInt16.toUInt32.toInt32)), .val (.int ((p2 &&& (65535 : Int32)).toUInt32.toUInt16.toUInt32.toInt32)), .val (.int ((p3 &&& (65535 : Int32)).toUInt32.toUInt16.toUInt32.toInt32)), .val (.int ((p4 &&& (65535 : Int32)).toUInt32.toUInt16.toUInt32.toInt32)), .val (.ref str), .val (.int (1 : Int32))] at_112 114 rfl rfl ?_
        refine g_aload X8 B at_114 116 rfl rfl rfl ?_
        have t11 := (own_stk SA K1)
        have t12 := (own_stk SH K1)
        have t13 := (own_stk SLo K1)
        have t14 := (own_stk SC K1)
        have t15 := (own_stk SF K1)
        refine g_callS X8 B [.ref str] [] at_116 119 rfl rfl (hw _ (List.mem_of_getElem? (i := 28) rfl)) (hw _ (List.mem_of_getElem? (i := 29) rfl)) (hw _ (List.mem_of_getElem? (i := 30) rfl)) (hw _ (List.mem_of_getElem? (i := 31) rfl)) (by decide) (lenOf pd_5 rfl) (rm_hlb l Z ag hw str bb kk cx vs [((p1 &&& (65535 : Int32)).toUInt32.toUInt16.toUInt32.toInt32), ((p2 &&& (65535 : Int32)).toUInt32.toUInt16.toUInt32.toInt32), ((p3 &&& (65535 : Int32)).toUInt32.toUInt16.toUInt32.toInt32)] g h1 n0 Es f1 f2 f3 (by simp) (own_chs3 (own_chc (p1 &&& (65535 : Int32))) (own_chc (p2 &&& (65535 : Int32))) (own_chc (p3 &&& (65535 : Int32))) (own_chc (p4 &&& (65535 : Int32)))) hSV (Or.inr (by simp)) t11 t12 t13 t14 hcx t15 hg) e8 rfl 0 (Nat.le_of_eq rfl) (by decide) (by decide) (by decide) (by decide) (fun v10 T10 h10 L10 X10 e10 q10 => ?_)
        obtain ⟨rfl, N10, rfl⟩ := q10
        show Go p e below _ (T10.setTop (mkF m 119 #[.val (.int p0), .val (.int p1), .val (.int p2), .val (.int p3), .val (.int p4), .val (.int (3 : Int32)), .val (.int ((p1 &&& (65535 : Int32)).toUInt32.toUInt16.toUInt32.toInt32)), .val (.int ((p2 &&& (65535 : Int32)).toUInt32.toUInt16.toUInt32.toInt32)), .val (.int ((p3 &&& (65535 : Int32)).toUInt32.toUInt16.toUInt32.toInt32)), .val (.int ((p4 &&& (65535 : Int32)).toUInt32.toUInt16.toUInt32.toInt32)), .val (.ref str), .val (.int (1 : Int32))] [.int (if (10 : Int32) ∈ [((p1 &&& (65535 : Int32)).toUInt32.toUInt16.toUInt32.toInt32), ((p2 &&& (65535 : Int32)).toUInt32.toUInt16.toUInt32.toInt32), ((p3 &&& (65535 : Int32)).toUInt32.toUInt16.toUInt32.toInt32)] ∨ (13 : Int32) ∈ [((p1 &&& (65535 : Int32)).toUInt32.toUInt16.toUInt32.toInt32), ((p2 &&& (65535 : Int32)).toUInt32.toUInt16.toUInt32.toInt32), ((p3 &&& (65535 : Int32)).toUInt32.toUInt16.toUInt32.toInt32)] then (1 : Int32) else 0)]))
        refine g_iload X10 B at_119 121 rfl rfl ?_
        refine g_icmp_ne X10 B at_121 128 124 rfl (by decide) rfl (fun z => own_abs (by have yc9 := own_if1 c9; have yc3 := own_if0 c3; have yc6 := own_if0 c6; exact if_pos (own_in3_2 yc9)) z) (fun _ => ?_)
        refine g_iconst X10 B (1) at_124 125 rfl rfl ?_
        refine g_goto X10 B at_125 129 rfl (by decide) ?_
        exact g_retN X10 B at_129 rfl rfl (by decide) (by decide) (by decide) e10 ⟨rfl, ((((((Fr.nil n0).app N1).app N2).app N5).app N8).app N10)⟩
      · skip
        refine g_iload X8 B at_93 95 rfl rfl ?_
        refine g_iconst X8 B (3) at_95 96 rfl rfl ?_
        refine g_icmp_le X8 B at_96 111 99 rfl (by decide) rfl (fun _ => ?_) (fun z => own_abs' (by decide) z)
        refine g_iconst X8 B (0) at_111 112 rfl rfl ?_
        refine g_istore X8 B #[.val (.int p0), .val (.int p1), .val (.int p2), .val (.int p3), .val (.int p4), .val (.int (3 : Int32)), .val (.int ((p1 &&& (65535 : Int32)).toUInt32.toUInt16.toUInt32.toInt32)), .val (.int ((p2 &&& (65535 : Int32)).toUInt32.toUInt16.toUInt32.toInt32)), .val (.int ((p3 &&& (65535 : Int32)).toUInt32.toUInt16.toUInt32.toInt32)), .val (.int ((p4 &&& (65535 : Int32)).toUInt32.toUInt16.toUInt32.toInt32)), .val (.ref str), .val (.int (0 : Int32))] at_112 114 rfl rfl ?_
        refine g_aload X8 B at_114 116 rfl rfl rfl ?_
        have t16 := (own_stk SA K1)
        have t17 := (own_stk SH K1)
        have t18 := (own_stk SLo K1)
        have t19 := (own_stk SC K1)
        have t20 := (own_stk SF K1)
        refine g_callS X8 B [.ref str] [] at_116 119 rfl rfl (hw _ (List.mem_of_getElem? (i := 28) rfl)) (hw _ (List.mem_of_getElem? (i := 29) rfl)) (hw _ (List.mem_of_getElem? (i := 30) rfl)) (hw _ (List.mem_of_getElem? (i := 31) rfl)) (by decide) (lenOf pd_5 rfl) (rm_hlb l Z ag hw str bb kk cx vs [((p1 &&& (65535 : Int32)).toUInt32.toUInt16.toUInt32.toInt32), ((p2 &&& (65535 : Int32)).toUInt32.toUInt16.toUInt32.toInt32), ((p3 &&& (65535 : Int32)).toUInt32.toUInt16.toUInt32.toInt32)] g h1 n0 Es f1 f2 f3 (by simp) (own_chs3 (own_chc (p1 &&& (65535 : Int32))) (own_chc (p2 &&& (65535 : Int32))) (own_chc (p3 &&& (65535 : Int32))) (own_chc (p4 &&& (65535 : Int32)))) hSV (Or.inr (by simp)) t16 t17 t18 t19 hcx t20 hg) e8 rfl 0 (Nat.le_of_eq rfl) (by decide) (by decide) (by decide) (by decide) (fun v11 T11 h11 L11 X11 e11 q11 => ?_)
        obtain ⟨rfl, N11, rfl⟩ := q11
        show Go p e below _ (T11.setTop (mkF m 119 #[.val (.int p0), .val (.int p1), .val (.int p2), .val (.int p3), .val (.int p4), .val (.int (3 : Int32)), .val (.int ((p1 &&& (65535 : Int32)).toUInt32.toUInt16.toUInt32.toInt32)), .val (.int ((p2 &&& (65535 : Int32)).toUInt32.toUInt16.toUInt32.toInt32)), .val (.int ((p3 &&& (65535 : Int32)).toUInt32.toUInt16.toUInt32.toInt32)), .val (.int ((p4 &&& (65535 : Int32)).toUInt32.toUInt16.toUInt32.toInt32)), .val (.ref str), .val (.int (0 : Int32))] [.int (if (10 : Int32) ∈ [((p1 &&& (65535 : Int32)).toUInt32.toUInt16.toUInt32.toInt32), ((p2 &&& (65535 : Int32)).toUInt32.toUInt16.toUInt32.toInt32), ((p3 &&& (65535 : Int32)).toUInt32.toUInt16.toUInt32.toInt32)] ∨ (13 : Int32) ∈ [((p1 &&& (65535 : Int32)).toUInt32.toUInt16.toUInt32.toInt32), ((p2 &&& (65535 : Int32)).toUInt32.toUInt16.toUInt32.toInt32), ((p3 &&& (65535 : Int32)).toUInt32.toUInt16.toUInt32.toInt32)] then (1 : Int32) else 0)]))
        refine g_iload X11 B at_119 121 rfl rfl ?_
        refine g_icmp_ne X11 B at_121 128 124 rfl (by decide) rfl (fun z => own_abs (by have yc3 := own_if0 c3; have yc6 := own_if0 c6; have yc9 := own_if0 c9; exact if_neg (own_out3 yc3 yc6 yc9)) z) (fun _ => ?_)
        refine g_iconst X11 B (1) at_124 125 rfl rfl ?_
        refine g_goto X11 B at_125 129 rfl (by decide) ?_
        exact g_retN X11 B at_129 rfl rfl (by decide) (by decide) (by decide) e11 ⟨rfl, ((((((Fr.nil n0).app N1).app N2).app N5).app N8).app N11)⟩
set_option maxRecDepth 65536 in
set_option maxHeartbeats 40000000 in
theorem rm0_4 (l : Launch) (Z : State) (ag : Array Value) (hw : ∀ d ∈ tables_1, d.before ag Z = true) (p0 p1 p2 p3 p4 cx : Int32) (g : Value) (h0 : Heap) (n0 : Nat) (Z0 : n0 ≤ h0.size) (SA : Sta Z h0 "java/lang/StringUTF16" "$assertionsDisabled" "Z" (.int 1)) (SH : Sta Z h0 "java/lang/StringUTF16" "HI_BYTE_SHIFT" "I" (.int 0)) (SLo : Sta Z h0 "java/lang/StringUTF16" "LO_BYTE_SHIFT" "I" (.int 8)) (SC : Sta Z h0 "java/lang/String" "COMPACT_STRINGS" "Z" (.int cx)) (hcx : ¬ cx = 0) (SF : Sta Z h0 "jdk/internal/util/Preconditions" "SIOOBE_FORMATTER" "Ljava/util/function/BiFunction;" g) (hg : g.isRef = true) (kk5 : ((p0 &&& (2147483647 : Int32)) % (5 : Int32)) = 4) :
    Ctr l Z x code maxLocals ret room_1 #[.int p0, .int p1, .int p2, .int p3, .int p4] h0 (fun v h L => v = some (.int 1) ∧ Fr n0 L) := by
  refine Ctr.of pn_0 ?_
  intro p e s m below meth c T0 X0 B e0
  refine Go.cast (f' := mkF m 0 #[.val (.int p0), .val (.int p1), .val (.int p2), .val (.int p3), .val (.int p4), .unset, .unset, .unset, .unset, .unset, .unset, .unset] []) (by first | rfl | (simp [entryFrame, mkF, argsToLocals, Value.category, maxLocals]; done)) ?_

  refine g_iloadN X0 B at_0 1 rfl rfl ?_
  refine g_ldcI X0 B at_1 3 rfl (hw _ (List.mem_of_getElem? (i := 0) rfl)) ?_
  refine g_iand X0 B at_3 4 rfl ?_
  refine g_iconst X0 B (5) at_4 5 rfl rfl ?_
  refine g_irem X0 B at_5 6 rfl (by decide) ?_
  rw [kk5]
  show Go p e below _ (T0.setTop (mkF m 6 #[.val (.int p0), .val (.int p1), .val (.int p2), .val (.int p3), .val (.int p4), .unset, .unset, .unset, .unset, .unset, .unset, .unset] [.int (4 : Int32)]))
  refine g_istore X0 B #[.val (.int p0), .val (.int p1), .val (.int p2), .val (.int p3), .val (.int p4), .val (.int (4 : Int32)), .unset, .unset, .unset, .unset, .unset, .unset] at_6 8 rfl rfl ?_
  refine g_iloadN X0 B at_8 9 rfl rfl ?_
  refine g_ldcI X0 B at_9 11 rfl (hw _ (List.mem_of_getElem? (i := 1) rfl)) ?_
  refine g_iand X0 B at_11 12 rfl ?_
  refine g_i2c X0 B at_12 13 rfl ?_
  refine g_istore X0 B #[.val (.int p0), .val (.int p1), .val (.int p2), .val (.int p3), .val (.int p4), .val (.int (4 : Int32)), .val (.int ((p1 &&& (65535 : Int32)).toUInt32.toUInt16.toUInt32.toInt32)), .unset, .unset, .unset, .unset, .unset] at_13 15 rfl rfl ?_
  refine g_iloadN X0 B at_15 16 rfl rfl ?_
  refine g_ldcI X0 B at_16 18 rfl (hw _ (List.mem_of_getElem? (i := 1) rfl)) ?_
  refine g_iand X0 B at_18 19 rfl ?_
  refine g_i2c X0 B at_19 20 rfl ?_
  refine g_istore X0 B #[.val (.int p0), .val (.int p1), .val (.int p2), .val (.int p3), .val (.int p4), .val (.int (4 : Int32)), .val (.int ((p1 &&& (65535 : Int32)).toUInt32.toUInt16.toUInt32.toInt32)), .val (.int ((p2 &&& (65535 : Int32)).toUInt32.toUInt16.toUInt32.toInt32)), .unset, .unset, .unset, .unset] at_20 22 rfl rfl ?_
  refine g_iloadN X0 B at_22 23 rfl rfl ?_
  refine g_ldcI X0 B at_23 25 rfl (hw _ (List.mem_of_getElem? (i := 1) rfl)) ?_
  refine g_iand X0 B at_25 26 rfl ?_
  refine g_i2c X0 B at_26 27 rfl ?_
  refine g_istore X0 B #[.val (.int p0), .val (.int p1), .val (.int p2), .val (.int p3), .val (.int p4), .val (.int (4 : Int32)), .val (.int ((p1 &&& (65535 : Int32)).toUInt32.toUInt16.toUInt32.toInt32)), .val (.int ((p2 &&& (65535 : Int32)).toUInt32.toUInt16.toUInt32.toInt32)), .val (.int ((p3 &&& (65535 : Int32)).toUInt32.toUInt16.toUInt32.toInt32)), .unset, .unset, .unset] at_27 29 rfl rfl ?_
  refine g_iload X0 B at_29 31 rfl rfl ?_
  refine g_ldcI X0 B at_31 33 rfl (hw _ (List.mem_of_getElem? (i := 1) rfl)) ?_
  refine g_iand X0 B at_33 34 rfl ?_
  refine g_i2c X0 B at_34 35 rfl ?_
  refine g_istore X0 B #[.val (.int p0), .val (.int p1), .val (.int p2), .val (.int p3), .val (.int p4), .val (.int (4 : Int32)), .val (.int ((p1 &&& (65535 : Int32)).toUInt32.toUInt16.toUInt32.toInt32)), .val (.int ((p2 &&& (65535 : Int32)).toUInt32.toUInt16.toUInt32.toInt32)), .val (.int ((p3 &&& (65535 : Int32)).toUInt32.toUInt16.toUInt32.toInt32)), .val (.int ((p4 &&& (65535 : Int32)).toUInt32.toUInt16.toUInt32.toInt32)), .unset, .unset] at_35 37 rfl rfl ?_
  refine g_iload X0 B at_37 39 rfl rfl ?_
  refine g_iload X0 B at_39 41 rfl rfl ?_
  refine g_iload X0 B at_41 43 rfl rfl ?_
  refine g_iload X0 B at_43 45 rfl rfl ?_
  refine g_iload X0 B at_45 47 rfl rfl ?_
  refine g_callS X0 B [.int (4 : Int32), .int ((p1 &&& (65535 : Int32)).toUInt32.toUInt16.toUInt32.toInt32), .int ((p2 &&& (65535 : Int32)).toUInt32.toUInt16.toUInt32.toInt32), .int ((p3 &&& (65535 : Int32)).toUInt32.toUInt16.toUInt32.toInt32), .int ((p4 &&& (65535 : Int32)).toUInt32.toUInt16.toUInt32.toInt32)] [] at_47 50 rfl rfl (hw _ (List.mem_of_getElem? (i := 2) rfl)) (hw _ (List.mem_of_getElem? (i := 3) rfl)) (hw _ (List.mem_of_getElem? (i := 4) rfl)) (hw _ (List.mem_of_getElem? (i := 5) rfl)) (by decide) (lenOf pd_1 rfl) (rm_mk4 l Z ag hw ((p1 &&& (65535 : Int32)).toUInt32.toUInt16.toUInt32.toInt32) ((p2 &&& (65535 : Int32)).toUInt32.toUInt16.toUInt32.toInt32) ((p3 &&& (65535 : Int32)).toUInt32.toUInt16.toUInt32.toInt32) ((p4 &&& (65535 : Int32)).toUInt32.toUInt16.toUInt32.toInt32) cx h0 n0 Z0 (own_chc _) (own_chc _) (own_chc _) (own_chc _) SA SH SLo SC hcx) e0 rfl 0 (Nat.le_of_eq rfl) (by decide) (by decide) (by decide) (by decide) (fun v1 T1 h1 L1 X1 e1 q1 => ?_)
  obtain ⟨str, bb, vs, kk, rfl, N1, K1, Es, f1, f2, f3, hSV⟩ := q1
  show Go p e below _ (T1.setTop (mkF m 50 #[.val (.int p0), .val (.int p1), .val (.int p2), .val (.int p3), .val (.int p4), .val (.int (4 : Int32)), .val (.int ((p1 &&& (65535 : Int32)).toUInt32.toUInt16.toUInt32.toInt32)), .val (.int ((p2 &&& (65535 : Int32)).toUInt32.toUInt16.toUInt32.toInt32)), .val (.int ((p3 &&& (65535 : Int32)).toUInt32.toUInt16.toUInt32.toInt32)), .val (.int ((p4 &&& (65535 : Int32)).toUInt32.toUInt16.toUInt32.toInt32)), .unset, .unset] [.ref str]))
  refine g_astore X1 B #[.val (.int p0), .val (.int p1), .val (.int p2), .val (.int p3), .val (.int p4), .val (.int (4 : Int32)), .val (.int ((p1 &&& (65535 : Int32)).toUInt32.toUInt16.toUInt32.toInt32)), .val (.int ((p2 &&& (65535 : Int32)).toUInt32.toUInt16.toUInt32.toInt32)), .val (.int ((p3 &&& (65535 : Int32)).toUInt32.toUInt16.toUInt32.toInt32)), .val (.int ((p4 &&& (65535 : Int32)).toUInt32.toUInt16.toUInt32.toInt32)), .val (.ref str), .unset] at_50 52 rfl rfl rfl ?_
  refine g_iload X1 B at_52 54 rfl rfl ?_
  refine g_if_le X1 B at_54 65 57 rfl (by decide) rfl (fun z => own_abs (by decide) z) (fun _ => ?_)
  refine g_iload X1 B at_57 59 rfl rfl ?_
  refine g_callS X1 B [.int ((p1 &&& (65535 : Int32)).toUInt32.toUInt16.toUInt32.toInt32)] [] at_59 62 rfl rfl (hw _ (List.mem_of_getElem? (i := 82) rfl)) (hw _ (List.mem_of_getElem? (i := 83) rfl)) (hw _ (List.mem_of_getElem? (i := 4) rfl)) (hw _ (List.mem_of_getElem? (i := 84) rfl)) (by decide) (lenOf pd_18 rfl) (rm_isb l Z ag hw ((p1 &&& (65535 : Int32)).toUInt32.toUInt16.toUInt32.toInt32) h1 n0) e1 rfl 0 (Nat.le_of_eq rfl) (by decide) (by decide) (by decide) (by decide) (fun v2 T2 h2 L2 X2 e2 q2 => ?_)
  obtain ⟨rfl, N2, rfl⟩ := q2
  show Go p e below _ (T2.setTop (mkF m 62 #[.val (.int p0), .val (.int p1), .val (.int p2), .val (.int p3), .val (.int p4), .val (.int (4 : Int32)), .val (.int ((p1 &&& (65535 : Int32)).toUInt32.toUInt16.toUInt32.toInt32)), .val (.int ((p2 &&& (65535 : Int32)).toUInt32.toUInt16.toUInt32.toInt32)), .val (.int ((p3 &&& (65535 : Int32)).toUInt32.toUInt16.toUInt32.toInt32)), .val (.int ((p4 &&& (65535 : Int32)).toUInt32.toUInt16.toUInt32.toInt32)), .val (.ref str), .unset] [.int (if ((p1 &&& (65535 : Int32)).toUInt32.toUInt16.toUInt32.toInt32) = 10 ∨ ((p1 &&& (65535 : Int32)).toUInt32.toUInt16.toUInt32.toInt32) = 13 then 1 else 0)]))
  refine g_if_ne X2 B at_62 107 65 rfl (by decide) rfl (fun c3 => ?_) (fun c3 => ?_)
  · skip
    refine g_iconst X2 B (1) at_107 108 rfl rfl ?_
    refine g_goto X2 B at_108 112 rfl (by decide) ?_
    refine g_istore X2 B #[.val (.int p0), .val (.int p1), .val (.int p2), .val (.int p3), .val (.int p4), .val (.int (4 : Int32)), .val (.int ((p1 &&& (65535 : Int32)).toUInt32.toUInt16.toUInt32.toInt32)), .val (.int ((p2 &&& (65535 : Int32)).toUInt32.toUInt16.toUInt32.toInt32)), .val (.int ((p3 &&& (65535 : Int32)).toUInt32.toUInt16.toUInt32.toInt32)), .val (.int ((p4 &&& (65535 : Int32)).toUInt32.toUInt16.toUInt32.toInt32)), .val (.ref str), .val (.int (1 : Int32))] at_112 114 rfl rfl ?_
    refine g_aload X2 B at_114 116 rfl rfl rfl ?_
    have t1 := (own_stk SA K1)
    have t2 := (own_stk SH K1)
    have t3 := (own_stk SLo K1)
    have t4 := (own_stk SC K1)
    have t5 := (own_stk SF K1)
    refine g_callS X2 B [.ref str] [] at_116 119 rfl rfl (hw _ (List.mem_of_getElem? (i := 28) rfl)) (hw _ (List.mem_of_getElem? (i := 29) rfl)) (hw _ (List.mem_of_getElem? (i := 30) rfl)) (hw _ (List.mem_of_getElem? (i := 31) rfl)) (by decide) (lenOf pd_5 rfl) (rm_hlb l Z ag hw str bb kk cx vs [((p1 &&& (65535 : Int32)).toUInt32.toUInt16.toUInt32.toInt32), ((p2 &&& (65535 : Int32)).toUInt32.toUInt16.toUInt32.toInt32), ((p3 &&& (65535 : Int32)).toUInt32.toUInt16.toUInt32.toInt32), ((p4 &&& (65535 : Int32)).toUInt32.toUInt16.toUInt32.toInt32)] g h1 n0 Es f1 f2 f3 (by simp) (own_chs4 (own_chc (p1 &&& (65535 : Int32))) (own_chc (p2 &&& (65535 : Int32))) (own_chc (p3 &&& (65535 : Int32))) (own_chc (p4 &&& (65535 : Int32)))) hSV (Or.inr (by simp)) t1 t2 t3 t4 hcx t5 hg) e2 rfl 0 (Nat.le_of_eq rfl) (by decide) (by decide) (by decide) (by decide) (fun v4 T4 h4 L4 X4 e4 q4 => ?_)
    obtain ⟨rfl, N4, rfl⟩ := q4
    show Go p e below _ (T4.setTop (mkF m 119 #[.val (.int p0), .val (.int p1), .val (.int p2), .val (.int p3), .val (.int p4), .val (.int (4 : Int32)), .val (.int ((p1 &&& (65535 : Int32)).toUInt32.toUInt16.toUInt32.toInt32)), .val (.int ((p2 &&& (65535 : Int32)).toUInt32.toUInt16.toUInt32.toInt32)), .val (.int ((p3 &&& (65535 : Int32)).toUInt32.toUInt16.toUInt32.toInt32)), .val (.int ((p4 &&& (65535 : Int32)).toUInt32.toUInt16.toUInt32.toInt32)), .val (.ref str), .val (.int (1 : Int32))] [.int (if (10 : Int32) ∈ [((p1 &&& (65535 : Int32)).toUInt32.toUInt16.toUInt32.toInt32), ((p2 &&& (65535 : Int32)).toUInt32.toUInt16.toUInt32.toInt32), ((p3 &&& (65535 : Int32)).toUInt32.toUInt16.toUInt32.toInt32), ((p4 &&& (65535 : Int32)).toUInt32.toUInt16.toUInt32.toInt32)] ∨ (13 : Int32) ∈ [((p1 &&& (65535 : Int32)).toUInt32.toUInt16.toUInt32.toInt32), ((p2 &&& (65535 : Int32)).toUInt32.toUInt16.toUInt32.toInt32), ((p3 &&& (65535 : Int32)).toUInt32.toUInt16.toUInt32.toInt32), ((p4 &&& (65535 : Int32)).toUInt32.toUInt16.toUInt32.toInt32)] then (1 : Int32) else 0)]))
    refine g_iload X4 B at_119 121 rfl rfl ?_
    refine g_icmp_ne X4 B at_121 128 124 rfl (by decide) rfl (fun z => own_abs (by have yc3 := own_if1 c3; exact if_pos (own_in4_0 yc3)) z) (fun _ => ?_)
    refine g_iconst X4 B (1) at_124 125 rfl rfl ?_
    refine g_goto X4 B at_125 129 rfl (by decide) ?_
    exact g_retN X4 B at_129 rfl rfl (by decide) (by decide) (by decide) e4 ⟨rfl, ((((Fr.nil n0).app N1).app N2).app N4)⟩
  · skip
    refine g_iload X2 B at_65 67 rfl rfl ?_
    refine g_iconst X2 B (1) at_67 68 rfl rfl ?_
    refine g_icmp_le X2 B at_68 79 71 rfl (by decide) rfl (fun z => own_abs (by decide) z) (fun _ => ?_)
    refine g_iload X2 B at_71 73 rfl rfl ?_
    refine g_callS X2 B [.int ((p2 &&& (65535 : Int32)).toUInt32.toUInt16.toUInt32.toInt32)] [] at_73 76 rfl rfl (hw _ (List.mem_of_getElem? (i := 82) rfl)) (hw _ (List.mem_of_getElem? (i := 83) rfl)) (hw _ (List.mem_of_getElem? (i := 4) rfl)) (hw _ (List.mem_of_getElem? (i := 84) rfl)) (by decide) (lenOf pd_18 rfl) (rm_isb l Z ag hw ((p2 &&& (65535 : Int32)).toUInt32.toUInt16.toUInt32.toInt32) h1 n0) e2 rfl 0 (Nat.le_of_eq rfl) (by decide) (by decide) (by decide) (by decide) (fun v5 T5 h5 L5 X5 e5 q5 => ?_)
    obtain ⟨rfl, N5, rfl⟩ := q5
    show Go p e below _ (T5.setTop (mkF m 76 #[.val (.int p0), .val (.int p1), .val (.int p2), .val (.int p3), .val (.int p4), .val (.int (4 : Int32)), .val (.int ((p1 &&& (65535 : Int32)).toUInt32.toUInt16.toUInt32.toInt32)), .val (.int ((p2 &&& (65535 : Int32)).toUInt32.toUInt16.toUInt32.toInt32)), .val (.int ((p3 &&& (65535 : Int32)).toUInt32.toUInt16.toUInt32.toInt32)), .val (.int ((p4 &&& (65535 : Int32)).toUInt32.toUInt16.toUInt32.toInt32)), .val (.ref str), .unset] [.int (if ((p2 &&& (65535 : Int32)).toUInt32.toUInt16.toUInt32.toInt32) = 10 ∨ ((p2 &&& (65535 : Int32)).toUInt32.toUInt16.toUInt32.toInt32) = 13 then 1 else 0)]))
    refine g_if_ne X5 B at_76 107 79 rfl (by decide) rfl (fun c6 => ?_) (fun c6 => ?_)
    · skip
      refine g_iconst X5 B (1) at_107 108 rfl rfl ?_
      refine g_goto X5 B at_108 112 rfl (by decide) ?_
      refine g_istore X5 B #[.val (.int p0), .val (.int p1), .val (.int p2), .val (.int p3), .val (.int p4), .val (.int (4 : Int32)), .val (.int ((p1 &&& (65535 : Int32)).toUInt32.toUInt16.toUInt32.toInt32)), .val (.int ((p2 &&& (65535 : Int32)).toUInt32.toUInt16.toUInt32.toInt32)), .val (.int ((p3 &&& (65535 : Int32)).toUInt32.toUInt16.toUInt32.toInt32)), .val (.int ((p4 &&& (65535 : Int32)).toUInt32.toUInt16.toUInt32.toInt32)), .val (.ref str), .val (.int (1 : Int32))] at_112 114 rfl rfl ?_
      refine g_aload X5 B at_114 116 rfl rfl rfl ?_
      have t6 := (own_stk SA K1)
      have t7 := (own_stk SH K1)
      have t8 := (own_stk SLo K1)
      have t9 := (own_stk SC K1)
      have t10 := (own_stk SF K1)
      refine g_callS X5 B [.ref str] [] at_116 119 rfl rfl (hw _ (List.mem_of_getElem? (i := 28) rfl)) (hw _ (List.mem_of_getElem? (i := 29) rfl)) (hw _ (List.mem_of_getElem? (i := 30) rfl)) (hw _ (List.mem_of_getElem? (i := 31) rfl)) (by decide) (lenOf pd_5 rfl) (rm_hlb l Z ag hw str bb kk cx vs [((p1 &&& (65535 : Int32)).toUInt32.toUInt16.toUInt32.toInt32), ((p2 &&& (65535 : Int32)).toUInt32.toUInt16.toUInt32.toInt32), ((p3 &&& (65535 : Int32)).toUInt32.toUInt16.toUInt32.toInt32), ((p4 &&& (65535 : Int32)).toUInt32.toUInt16.toUInt32.toInt32)] g h1 n0 Es f1 f2 f3 (by simp) (own_chs4 (own_chc (p1 &&& (65535 : Int32))) (own_chc (p2 &&& (65535 : Int32))) (own_chc (p3 &&& (65535 : Int32))) (own_chc (p4 &&& (65535 : Int32)))) hSV (Or.inr (by simp)) t6 t7 t8 t9 hcx t10 hg) e5 rfl 0 (Nat.le_of_eq rfl) (by decide) (by decide) (by decide) (by decide) (fun v7 T7 h7 L7 X7 e7 q7 => ?_)
      obtain ⟨rfl, N7, rfl⟩ := q7
      show Go p e below _ (T7.setTop (mkF m 119 #[.val (.int p0), .val (.int p1), .val (.int p2), .val (.int p3), .val (.int p4), .val (.int (4 : Int32)), .val (.int ((p1 &&& (65535 : Int32)).toUInt32.toUInt16.toUInt32.toInt32)), .val (.int ((p2 &&& (65535 : Int32)).toUInt32.toUInt16.toUInt32.toInt32)), .val (.int ((p3 &&& (65535 : Int32)).toUInt32.toUInt16.toUInt32.toInt32)), .val (.int ((p4 &&& (65535 : Int32)).toUInt32.toUInt16.toUInt32.toInt32)), .val (.ref str), .val (.int (1 : Int32))] [.int (if (10 : Int32) ∈ [((p1 &&& (65535 : Int32)).toUInt32.toUInt16.toUInt32.toInt32), ((p2 &&& (65535 : Int32)).toUInt32.toUInt16.toUInt32.toInt32), ((p3 &&& (65535 : Int32)).toUInt32.toUInt16.toUInt32.toInt32), ((p4 &&& (65535 : Int32)).toUInt32.toUInt16.toUInt32.toInt32)] ∨ (13 : Int32) ∈ [((p1 &&& (65535 : Int32)).toUInt32.toUInt16.toUInt32.toInt32), ((p2 &&& (65535 : Int32)).toUInt32.toUInt16.toUInt32.toInt32), ((p3 &&& (65535 : Int32)).toUInt32.toUInt16.toUInt32.toInt32), ((p4 &&& (65535 : Int32)).toUInt32.toUInt16.toUInt32.toInt32)] then (1 : Int32) else 0)]))
      refine g_iload X7 B at_119 121 rfl rfl ?_
      refine g_icmp_ne X7 B at_121 128 124 rfl (by decide) rfl (fun z => own_abs (by have yc6 := own_if1 c6; have yc3 := own_if0 c3; exact if_pos (own_in4_1 yc6)) z) (fun _ => ?_)
      refine g_iconst X7 B (1) at_124 125 rfl rfl ?_
      refine g_goto X7 B at_125 129 rfl (by decide) ?_
      exact g_retN X7 B at_129 rfl rfl (by decide) (by decide) (by decide) e7 ⟨rfl, (((((Fr.nil n0).app N1).app N2).app N5).app N7)⟩
    · skip
      refine g_iload X5 B at_79 81 rfl rfl ?_
      refine g_iconst X5 B (2) at_81 82 rfl rfl ?_
      refine g_icmp_le X5 B at_82 93 85 rfl (by decide) rfl (fun z => own_abs (by decide) z) (fun _ => ?_)
      refine g_iload X5 B at_85 87 rfl rfl ?_
      refine g_callS X5 B [.int ((p3 &&& (65535 : Int32)).toUInt32.toUInt16.toUInt32.toInt32)] [] at_87 90 rfl rfl (hw _ (List.mem_of_getElem? (i := 82) rfl)) (hw _ (List.mem_of_getElem? (i := 83) rfl)) (hw _ (List.mem_of_getElem? (i := 4) rfl)) (hw _ (List.mem_of_getElem? (i := 84) rfl)) (by decide) (lenOf pd_18 rfl) (rm_isb l Z ag hw ((p3 &&& (65535 : Int32)).toUInt32.toUInt16.toUInt32.toInt32) h1 n0) e5 rfl 0 (Nat.le_of_eq rfl) (by decide) (by decide) (by decide) (by decide) (fun v8 T8 h8 L8 X8 e8 q8 => ?_)
      obtain ⟨rfl, N8, rfl⟩ := q8
      show Go p e below _ (T8.setTop (mkF m 90 #[.val (.int p0), .val (.int p1), .val (.int p2), .val (.int p3), .val (.int p4), .val (.int (4 : Int32)), .val (.int ((p1 &&& (65535 : Int32)).toUInt32.toUInt16.toUInt32.toInt32)), .val (.int ((p2 &&& (65535 : Int32)).toUInt32.toUInt16.toUInt32.toInt32)), .val (.int ((p3 &&& (65535 : Int32)).toUInt32.toUInt16.toUInt32.toInt32)), .val (.int ((p4 &&& (65535 : Int32)).toUInt32.toUInt16.toUInt32.toInt32)), .val (.ref str), .unset] [.int (if ((p3 &&& (65535 : Int32)).toUInt32.toUInt16.toUInt32.toInt32) = 10 ∨ ((p3 &&& (65535 : Int32)).toUInt32.toUInt16.toUInt32.toInt32) = 13 then 1 else 0)]))
      refine g_if_ne X8 B at_90 107 93 rfl (by decide) rfl (fun c9 => ?_) (fun c9 => ?_)
      · skip
        refine g_iconst X8 B (1) at_107 108 rfl rfl ?_
        refine g_goto X8 B at_108 112 rfl (by decide) ?_
        refine g_istore X8 B #[.val (.int p0), .val (.int p1), .val (.int p2), .val (.int p3), .val (.int p4), .val (.int (4 : Int32)), .val (.int ((p1 &&& (65535 : Int32)).toUInt32.toUInt16.toUInt32.toInt32)), .val (.int ((p2 &&& (65535 : Int32)).toUInt32.toUInt16.toUInt32.toInt32)), .val (.int ((p3 &&& (65535 : Int32)).toUInt32.toUInt16.toUInt32.toInt32)), .val (.int ((p4 &&& (65535 : Int32)).toUInt32.toUInt16.toUInt32.toInt32)), .val (.ref str), .val (.int (1 : Int32))] at_112 114 rfl rfl ?_
        refine g_aload X8 B at_114 116 rfl rfl rfl ?_
        have t11 := (own_stk SA K1)
        have t12 := (own_stk SH K1)
        have t13 := (own_stk SLo K1)
        have t14 := (own_stk SC K1)
        have t15 := (own_stk SF K1)
        refine g_callS X8 B [.ref str] [] at_116 119 rfl rfl (hw _ (List.mem_of_getElem? (i := 28) rfl)) (hw _ (List.mem_of_getElem? (i := 29) rfl)) (hw _ (List.mem_of_getElem? (i := 30) rfl)) (hw _ (List.mem_of_getElem? (i := 31) rfl)) (by decide) (lenOf pd_5 rfl) (rm_hlb l Z ag hw str bb kk cx vs [((p1 &&& (65535 : Int32)).toUInt32.toUInt16.toUInt32.toInt32), ((p2 &&& (65535 : Int32)).toUInt32.toUInt16.toUInt32.toInt32), ((p3 &&& (65535 : Int32)).toUInt32.toUInt16.toUInt32.toInt32), ((p4 &&& (65535 : Int32)).toUInt32.toUInt16.toUInt32.toInt32)] g h1 n0 Es f1 f2 f3 (by simp) (own_chs4 (own_chc (p1 &&& (65535 : Int32))) (own_chc (p2 &&& (65535 : Int32))) (own_chc (p3 &&& (65535 : Int32))) (own_chc (p4 &&& (65535 : Int32)))) hSV (Or.inr (by simp)) t11 t12 t13 t14 hcx t15 hg) e8 rfl 0 (Nat.le_of_eq rfl) (by decide) (by decide) (by decide) (by decide) (fun v10 T10 h10 L10 X10 e10 q10 => ?_)
        obtain ⟨rfl, N10, rfl⟩ := q10
        show Go p e below _ (T10.setTop (mkF m 119 #[.val (.int p0), .val (.int p1), .val (.int p2), .val (.int p3), .val (.int p4), .val (.int (4 : Int32)), .val (.int ((p1 &&& (65535 : Int32)).toUInt32.toUInt16.toUInt32.toInt32)), .val (.int ((p2 &&& (65535 : Int32)).toUInt32.toUInt16.toUInt32.toInt32)), .val (.int ((p3 &&& (65535 : Int32)).toUInt32.toUInt16.toUInt32.toInt32)), .val (.int ((p4 &&& (65535 : Int32)).toUInt32.toUInt16.toUInt32.toInt32)), .val (.ref str), .val (.int (1 : Int32))] [.int (if (10 : Int32) ∈ [((p1 &&& (65535 : Int32)).toUInt32.toUInt16.toUInt32.toInt32), ((p2 &&& (65535 : Int32)).toUInt32.toUInt16.toUInt32.toInt32), ((p3 &&& (65535 : Int32)).toUInt32.toUInt16.toUInt32.toInt32), ((p4 &&& (65535 : Int32)).toUInt32.toUInt16.toUInt32.toInt32)] ∨ (13 : Int32) ∈ [((p1 &&& (65535 : Int32)).toUInt32.toUInt16.toUInt32.toInt32), ((p2 &&& (65535 : Int32)).toUInt32.toUInt16.toUInt32.toInt32), ((p3 &&& (65535 : Int32)).toUInt32.toUInt16.toUInt32.toInt32), ((p4 &&& (65535 : Int32)).toUInt32.toUInt16.toUInt32.toInt32)] then (1 : Int32) else 0)]))
        refine g_iload X10 B at_119 121 rfl rfl ?_
        refine g_icmp_ne X10 B at_121 128 124 rfl (by decide) rfl (fun z => own_abs (by have yc9 := own_if1 c9; have yc3 := own_if0 c3; have yc6 := own_if0 c6; exact if_pos (own_in4_2 yc9)) z) (fun _ => ?_)
        refine g_iconst X10 B (1) at_124 125 rfl rfl ?_
        refine g_goto X10 B at_125 129 rfl (by decide) ?_
        exact g_retN X10 B at_129 rfl rfl (by decide) (by decide) (by decide) e10 ⟨rfl, ((((((Fr.nil n0).app N1).app N2).app N5).app N8).app N10)⟩
      · skip
        refine g_iload X8 B at_93 95 rfl rfl ?_
        refine g_iconst X8 B (3) at_95 96 rfl rfl ?_
        refine g_icmp_le X8 B at_96 111 99 rfl (by decide) rfl (fun z => own_abs (by decide) z) (fun _ => ?_)
        refine g_iload X8 B at_99 101 rfl rfl ?_
        refine g_callS X8 B [.int ((p4 &&& (65535 : Int32)).toUInt32.toUInt16.toUInt32.toInt32)] [] at_101 104 rfl rfl (hw _ (List.mem_of_getElem? (i := 82) rfl)) (hw _ (List.mem_of_getElem? (i := 83) rfl)) (hw _ (List.mem_of_getElem? (i := 4) rfl)) (hw _ (List.mem_of_getElem? (i := 84) rfl)) (by decide) (lenOf pd_18 rfl) (rm_isb l Z ag hw ((p4 &&& (65535 : Int32)).toUInt32.toUInt16.toUInt32.toInt32) h1 n0) e8 rfl 0 (Nat.le_of_eq rfl) (by decide) (by decide) (by decide) (by decide) (fun v11 T11 h11 L11 X11 e11 q11 => ?_)
        obtain ⟨rfl, N11, rfl⟩ := q11
        show Go p e below _ (T11.setTop (mkF m 104 #[.val (.int p0), .val (.int p1), .val (.int p2), .val (.int p3), .val (.int p4), .val (.int (4 : Int32)), .val (.int ((p1 &&& (65535 : Int32)).toUInt32.toUInt16.toUInt32.toInt32)), .val (.int ((p2 &&& (65535 : Int32)).toUInt32.toUInt16.toUInt32.toInt32)), .val (.int ((p3 &&& (65535 : Int32)).toUInt32.toUInt16.toUInt32.toInt32)), .val (.int ((p4 &&& (65535 : Int32)).toUInt32.toUInt16.toUInt32.toInt32)), .val (.ref str), .unset] [.int (if ((p4 &&& (65535 : Int32)).toUInt32.toUInt16.toUInt32.toInt32) = 10 ∨ ((p4 &&& (65535 : Int32)).toUInt32.toUInt16.toUInt32.toInt32) = 13 then 1 else 0)]))
        refine g_if_eq X11 B at_104 111 107 rfl (by decide) rfl (fun c12 => ?_) (fun c12 => ?_)
        · skip
          refine g_iconst X11 B (0) at_111 112 rfl rfl ?_
          refine g_istore X11 B #[.val (.int p0), .val (.int p1), .val (.int p2), .val (.int p3), .val (.int p4), .val (.int (4 : Int32)), .val (.int ((p1 &&& (65535 : Int32)).toUInt32.toUInt16.toUInt32.toInt32)), .val (.int ((p2 &&& (65535 : Int32)).toUInt32.toUInt16.toUInt32.toInt32)), .val (.int ((p3 &&& (65535 : Int32)).toUInt32.toUInt16.toUInt32.toInt32)), .val (.int ((p4 &&& (65535 : Int32)).toUInt32.toUInt16.toUInt32.toInt32)), .val (.ref str), .val (.int (0 : Int32))] at_112 114 rfl rfl ?_
          refine g_aload X11 B at_114 116 rfl rfl rfl ?_
          have t16 := (own_stk SA K1)
          have t17 := (own_stk SH K1)
          have t18 := (own_stk SLo K1)
          have t19 := (own_stk SC K1)
          have t20 := (own_stk SF K1)
          refine g_callS X11 B [.ref str] [] at_116 119 rfl rfl (hw _ (List.mem_of_getElem? (i := 28) rfl)) (hw _ (List.mem_of_getElem? (i := 29) rfl)) (hw _ (List.mem_of_getElem? (i := 30) rfl)) (hw _ (List.mem_of_getElem? (i := 31) rfl)) (by decide) (lenOf pd_5 rfl) (rm_hlb l Z ag hw str bb kk cx vs [((p1 &&& (65535 : Int32)).toUInt32.toUInt16.toUInt32.toInt32), ((p2 &&& (65535 : Int32)).toUInt32.toUInt16.toUInt32.toInt32), ((p3 &&& (65535 : Int32)).toUInt32.toUInt16.toUInt32.toInt32), ((p4 &&& (65535 : Int32)).toUInt32.toUInt16.toUInt32.toInt32)] g h1 n0 Es f1 f2 f3 (by simp) (own_chs4 (own_chc (p1 &&& (65535 : Int32))) (own_chc (p2 &&& (65535 : Int32))) (own_chc (p3 &&& (65535 : Int32))) (own_chc (p4 &&& (65535 : Int32)))) hSV (Or.inr (by simp)) t16 t17 t18 t19 hcx t20 hg) e11 rfl 0 (Nat.le_of_eq rfl) (by decide) (by decide) (by decide) (by decide) (fun v13 T13 h13 L13 X13 e13 q13 => ?_)
          obtain ⟨rfl, N13, rfl⟩ := q13
          show Go p e below _ (T13.setTop (mkF m 119 #[.val (.int p0), .val (.int p1), .val (.int p2), .val (.int p3), .val (.int p4), .val (.int (4 : Int32)), .val (.int ((p1 &&& (65535 : Int32)).toUInt32.toUInt16.toUInt32.toInt32)), .val (.int ((p2 &&& (65535 : Int32)).toUInt32.toUInt16.toUInt32.toInt32)), .val (.int ((p3 &&& (65535 : Int32)).toUInt32.toUInt16.toUInt32.toInt32)), .val (.int ((p4 &&& (65535 : Int32)).toUInt32.toUInt16.toUInt32.toInt32)), .val (.ref str), .val (.int (0 : Int32))] [.int (if (10 : Int32) ∈ [((p1 &&& (65535 : Int32)).toUInt32.toUInt16.toUInt32.toInt32), ((p2 &&& (65535 : Int32)).toUInt32.toUInt16.toUInt32.toInt32), ((p3 &&& (65535 : Int32)).toUInt32.toUInt16.toUInt32.toInt32), ((p4 &&& (65535 : Int32)).toUInt32.toUInt16.toUInt32.toInt32)] ∨ (13 : Int32) ∈ [((p1 &&& (65535 : Int32)).toUInt32.toUInt16.toUInt32.toInt32), ((p2 &&& (65535 : Int32)).toUInt32.toUInt16.toUInt32.toInt32), ((p3 &&& (65535 : Int32)).toUInt32.toUInt16.toUInt32.toInt32), ((p4 &&& (65535 : Int32)).toUInt32.toUInt16.toUInt32.toInt32)] then (1 : Int32) else 0)]))
          refine g_iload X13 B at_119 121 rfl rfl ?_
          refine g_icmp_ne X13 B at_121 128 124 rfl (by decide) rfl (fun z => own_abs (by have yc3 := own_if0 c3; have yc6 := own_if0 c6; have yc9 := own_if0 c9; have yc12 := own_if0 c12; exact if_neg (own_out4 yc3 yc6 yc9 yc12)) z) (fun _ => ?_)
          refine g_iconst X13 B (1) at_124 125 rfl rfl ?_
          refine g_goto X13 B at_125 129 rfl (by decide) ?_
          exact g_retN X13 B at_129 rfl rfl (by decide) (by decide) (by decide) e13 ⟨rfl, (((((((Fr.nil n0).app N1).app N2).app N5).app N8).app N11).app N13)⟩
        · skip
          refine g_iconst X11 B (1) at_107 108 rfl rfl ?_
          refine g_goto X11 B at_108 112 rfl (by decide) ?_
          refine g_istore X11 B #[.val (.int p0), .val (.int p1), .val (.int p2), .val (.int p3), .val (.int p4), .val (.int (4 : Int32)), .val (.int ((p1 &&& (65535 : Int32)).toUInt32.toUInt16.toUInt32.toInt32)), .val (.int ((p2 &&& (65535 : Int32)).toUInt32.toUInt16.toUInt32.toInt32)), .val (.int ((p3 &&& (65535 : Int32)).toUInt32.toUInt16.toUInt32.toInt32)), .val (.int ((p4 &&& (65535 : Int32)).toUInt32.toUInt16.toUInt32.toInt32)), .val (.ref str), .val (.int (1 : Int32))] at_112 114 rfl rfl ?_
          refine g_aload X11 B at_114 116 rfl rfl rfl ?_
          have t21 := (own_stk SA K1)
          have t22 := (own_stk SH K1)
          have t23 := (own_stk SLo K1)
          have t24 := (own_stk SC K1)
          have t25 := (own_stk SF K1)
          refine g_callS X11 B [.ref str] [] at_116 119 rfl rfl (hw _ (List.mem_of_getElem? (i := 28) rfl)) (hw _ (List.mem_of_getElem? (i := 29) rfl)) (hw _ (List.mem_of_getElem? (i := 30) rfl)) (hw _ (List.mem_of_getElem? (i := 31) rfl)) (by decide) (lenOf pd_5 rfl) (rm_hlb l Z ag hw str bb kk cx vs [((p1 &&& (65535 : Int32)).toUInt32.toUInt16.toUInt32.toInt32), ((p2 &&& (65535 : Int32)).toUInt32.toUInt16.toUInt32.toInt32), ((p3 &&& (65535 : Int32)).toUInt32.toUInt16.toUInt32.toInt32), ((p4 &&& (65535 : Int32)).toUInt32.toUInt16.toUInt32.toInt32)] g h1 n0 Es f1 f2 f3 (by simp) (own_chs4 (own_chc (p1 &&& (65535 : Int32))) (own_chc (p2 &&& (65535 : Int32))) (own_chc (p3 &&& (65535 : Int32))) (own_chc (p4 &&& (65535 : Int32)))) hSV (Or.inr (by simp)) t21 t22 t23 t24 hcx t25 hg) e11 rfl 0 (Nat.le_of_eq rfl) (by decide) (by decide) (by decide) (by decide) (fun v14 T14 h14 L14 X14 e14 q14 => ?_)
          obtain ⟨rfl, N14, rfl⟩ := q14
          show Go p e below _ (T14.setTop (mkF m 119 #[.val (.int p0), .val (.int p1), .val (.int p2), .val (.int p3), .val (.int p4), .val (.int (4 : Int32)), .val (.int ((p1 &&& (65535 : Int32)).toUInt32.toUInt16.toUInt32.toInt32)), .val (.int ((p2 &&& (65535 : Int32)).toUInt32.toUInt16.toUInt32.toInt32)), .val (.int ((p3 &&& (65535 : Int32)).toUInt32.toUInt16.toUInt32.toInt32)), .val (.int ((p4 &&& (65535 : Int32)).toUInt32.toUInt16.toUInt32.toInt32)), .val (.ref str), .val (.int (1 : Int32))] [.int (if (10 : Int32) ∈ [((p1 &&& (65535 : Int32)).toUInt32.toUInt16.toUInt32.toInt32), ((p2 &&& (65535 : Int32)).toUInt32.toUInt16.toUInt32.toInt32), ((p3 &&& (65535 : Int32)).toUInt32.toUInt16.toUInt32.toInt32), ((p4 &&& (65535 : Int32)).toUInt32.toUInt16.toUInt32.toInt32)] ∨ (13 : Int32) ∈ [((p1 &&& (65535 : Int32)).toUInt32.toUInt16.toUInt32.toInt32), ((p2 &&& (65535 : Int32)).toUInt32.toUInt16.toUInt32.toInt32), ((p3 &&& (65535 : Int32)).toUInt32.toUInt16.toUInt32.toInt32), ((p4 &&& (65535 : Int32)).toUInt32.toUInt16.toUInt32.toInt32)] then (1 : Int32) else 0)]))
          refine g_iload X14 B at_119 121 rfl rfl ?_
          refine g_icmp_ne X14 B at_121 128 124 rfl (by decide) rfl (fun z => own_abs (by have yc12 := own_if1 c12; have yc3 := own_if0 c3; have yc6 := own_if0 c6; have yc9 := own_if0 c9; exact if_pos (own_in4_3 yc12)) z) (fun _ => ?_)
          refine g_iconst X14 B (1) at_124 125 rfl rfl ?_
          refine g_goto X14 B at_125 129 rfl (by decide) ?_
          exact g_retN X14 B at_129 rfl rfl (by decide) (by decide) (by decide) e14 ⟨rfl, (((((((Fr.nil n0).app N1).app N2).app N5).app N8).app N11).app N14)⟩
theorem own_staI {Z : State} {args : Array Value} {t : Term} {k : Int32} (q : (Jvm.Cond.eq t (.int k)).value args Z none Z [] = some true) : t.eval args Z none [] Z = some (.int k) := by
  obtain ⟨x, y, h1, h2, h3, -⟩ := cmp_v (Or.inl q)
  cases h2
  have h5 : ∃ z, x = .int z := by cases x <;> simp [Kin, Value.isRef] at h3 ⊢
  obtain ⟨z, rfl⟩ := h5
  have h7 : (Jvm.Cond.eq t (.int k)).value args Z none Z [] = some (decide (z = k)) := by simp only [Cond.value, h1, Term.int_eval]
  rw [h1, gotT h7 q]
theorem own_staN {Z : State} {args : Array Value} {t : Term} {z : Int32} (ev : t.eval args Z none [] Z = some (.int z)) (q : (Jvm.Cond.not (.eq t (.int 0))).value args Z none Z [] = some true) : ¬ z = 0 := by
  have h7 : (Jvm.Cond.eq t (.int 0)).value args Z none Z [] = some (decide (z = 0)) := by simp only [Cond.value, ev, Term.int_eval]
  have h8 := not_v q
  exact gotF h7 h8

set_option maxRecDepth 65536 in
set_option maxHeartbeats 40000000 in
theorem comes_1 {Post : Tables → Env → Array Value → State → Outcome → State → Prop} (hpost : ∀ tb e args s v u, (limb_1_1.after args s (.returned v) u = true ∧ limb_1_2.after args s (.returned v) u = true ∧ True) → ReturnedEndW s (.returned v) u (Jvm.fieldLocs frame_1_writes args s ++ Jvm.arrayLocs frame_1_arrays args s ++ Jvm.staticLocs frame_1_statics s) 24 1152 → Post tb e args s (.returned v) u) :
    ArmFor flags0 classFile x code maxLocals ret World_1 tables_1 room_1 Calls_1 rest_1 Pre_1 Post := by
  intro l hfl _ _ p e ha hc hk s m args below hf hA hF happ hP
  obtain ⟨hcalls, hrest, hpre⟩ := hP
  obtain ⟨-, -, -, hnamed, -, -, -, hat⟩ := (Spec.applies_iff hf).mp happ
  obtain ⟨hg, hn⟩ := and_e (Cond.before_iff.mp (show (Jvm.Cond.and given_1 narrow_1).before args s = true from hpre))
  obtain ⟨g0, hg⟩ := and_e hg
  obtain ⟨g1, hg⟩ := and_e hg
  obtain ⟨g2, hg⟩ := and_e hg
  obtain ⟨g3, hg⟩ := and_e hg
  obtain ⟨g4, hg⟩ := and_e hg
  have g5 := hg
  obtain ⟨w0, w1, w2, w3, w4, rfl⟩ : ∃ w0 w1 w2 w3 w4 : Value, args = #[w0, w1, w2, w3, w4] := by
    have hs : args.size = 5 := by simpa [Cond.value, given_1] using g0
    obtain ⟨L⟩ := args
    match L, hs with
    | [w0, w1, w2, w3, w4], _ => exact ⟨w0, w1, w2, w3, w4, rfl⟩
  have hw := fun d (hd : d ∈ tables_1) => atoms_spec (ws := Jvm.Cond.code x code maxLocals ret :: tables_1) hat d (List.mem_cons_of_mem _ hd)
  obtain ⟨i0, q0⟩ := is_v g1
  obtain rfl : w0 = (.int i0) := Option.some.inj q0
  obtain ⟨i1, q1⟩ := is_v g2
  obtain rfl : w1 = (.int i1) := Option.some.inj q1
  obtain ⟨i2, q2⟩ := is_v g3
  obtain rfl : w2 = (.int i2) := Option.some.inj q2
  obtain ⟨i3, q3⟩ := is_v g4
  obtain rfl : w3 = (.int i3) := Option.some.inj q3
  obtain ⟨i4, q4⟩ := is_v g5
  obtain rfl : w4 = (.int i4) := Option.some.inj q4
  obtain ⟨hsets, hown0⟩ := atoms_of _ (rest_1_c_eq ▸ (show rest_1_c.before _ s = true from hrest))
  have hH : Jvm.Lit.constHeld s "java/lang/String" 7 := hcalls.1 _ (List.mem_of_getElem? (i := 0) rfl)
  have hcw : Jvm.Lit.compactW.before _ s = true := (hsets _ (List.mem_of_getElem? (i := 2) rfl))
  obtain ⟨cx, ev0⟩ := is_v (Cond.before_iff.mp (hsets _ (List.mem_of_getElem? (i := 1) rfl)))
  have SC := Sta.start ev0 (Or.inl (hsets _ (List.mem_of_getElem? (i := 0) rfl)))
  have hcx := own_staN ev0 (Cond.before_iff.mp (hsets _ (List.mem_of_getElem? (i := 2) rfl)))
  obtain ⟨g, evg, hgr⟩ := isR_v (Cond.before_iff.mp (hsets _ (List.mem_of_getElem? (i := 8) rfl)))
  have SF := Sta.start evg (Or.inl (hsets _ (List.mem_of_getElem? (i := 7) rfl)))
  have SA := Sta.start (own_staI (Cond.before_iff.mp (hsets _ (List.mem_of_getElem? (i := 12) rfl)))) (Or.inl (hsets _ (List.mem_of_getElem? (i := 11) rfl)))
  have SH := Sta.start (own_staI (Cond.before_iff.mp (hsets _ (List.mem_of_getElem? (i := 15) rfl)))) (Or.inl (hsets _ (List.mem_of_getElem? (i := 14) rfl)))
  have SLo := Sta.start (own_staI (Cond.before_iff.mp (hsets _ (List.mem_of_getElem? (i := 18) rfl)))) (Or.inl (hsets _ (List.mem_of_getElem? (i := 17) rfl)))
  obtain ⟨ki, hki, kk5⟩ := own_m5 i0
  obtain rfl | rfl | rfl | rfl | rfl : ki = 0 ∨ ki = 1 ∨ ki = 2 ∨ ki = 3 ∨ ki = 4 := by omega
  · skip
    obtain ⟨n, o, r1, r2, r3, _, L, rfl, ⟨rfl, N⟩, hv⟩ := rm0_0 l s _ hw i0 i1 i2 i3 i4 cx g s.heap s.heap.size (Nat.le_refl _) SA SH SLo SC hcx SF hgr kk5 (fun b cl q => q) hH hcw tables_1 p e ha hc hk s m _ below hf ((Spec.applies_iff_loose hf).mp happ).1 ⟨rfl, State.Warmed39.refl s, rfl, IB.start⟩ trivial
    exact ⟨n, _, r1, r2, r3, hpost _ _ _ _ _ _ ⟨Cond.after_iff.mpr rfl, Cond.after_iff.mpr (eq_i res_at (Term.int_eval (1)) rfl), trivial⟩ ⟨hv.1, hv.2.1, hv.2.2.1, (hv.2.2.2.sift fun y hy => Or.inr (N y hy)).mono (by decide) (by decide)⟩⟩
  · skip
    obtain ⟨n, o, r1, r2, r3, _, L, rfl, ⟨rfl, N⟩, hq⟩ := rm0_1 l s _ hw i0 i1 i2 i3 i4 cx g s.heap s.heap.size (Nat.le_refl _) SA SH SLo SC hcx SF hgr kk5 tables_1 p e ha hc hk s m _ below hf ((Spec.applies_iff_loose hf).mp happ).1 ⟨rfl, State.Warmed39.refl s, rfl⟩ trivial
    have hv := wide hq
    exact ⟨n, _, r1, r2, r3, hpost _ _ _ _ _ _ ⟨Cond.after_iff.mpr rfl, Cond.after_iff.mpr (eq_i res_at (Term.int_eval (1)) rfl), trivial⟩ ⟨hv.1, hv.2.1, hv.2.2.1, (hv.2.2.2.sift fun y hy => Or.inr (N y hy)).mono (by decide) (by decide)⟩⟩
  · skip
    obtain ⟨n, o, r1, r2, r3, _, L, rfl, ⟨rfl, N⟩, hq⟩ := rm0_2 l s _ hw i0 i1 i2 i3 i4 cx g s.heap s.heap.size (Nat.le_refl _) SA SH SLo SC hcx SF hgr kk5 tables_1 p e ha hc hk s m _ below hf ((Spec.applies_iff_loose hf).mp happ).1 ⟨rfl, State.Warmed39.refl s, rfl⟩ trivial
    have hv := wide hq
    exact ⟨n, _, r1, r2, r3, hpost _ _ _ _ _ _ ⟨Cond.after_iff.mpr rfl, Cond.after_iff.mpr (eq_i res_at (Term.int_eval (1)) rfl), trivial⟩ ⟨hv.1, hv.2.1, hv.2.2.1, (hv.2.2.2.sift fun y hy => Or.inr (N y hy)).mono (by decide) (by decide)⟩⟩
  · skip
    obtain ⟨n, o, r1, r2, r3, _, L, rfl, ⟨rfl, N⟩, hq⟩ := rm0_3 l s _ hw i0 i1 i2 i3 i4 cx g s.heap s.heap.size (Nat.le_refl _) SA SH SLo SC hcx SF hgr kk5 tables_1 p e ha hc hk s m _ below hf ((Spec.applies_iff_loose hf).mp happ).1 ⟨rfl, State.Warmed39.refl s, rfl⟩ trivial
    have hv := wide hq
    exact ⟨n, _, r1, r2, r3, hpost _ _ _ _ _ _ ⟨Cond.after_iff.mpr rfl, Cond.after_iff.mpr (eq_i res_at (Term.int_eval (1)) rfl), trivial⟩ ⟨hv.1, hv.2.1, hv.2.2.1, (hv.2.2.2.sift fun y hy => Or.inr (N y hy)).mono (by decide) (by decide)⟩⟩
  · skip
    obtain ⟨n, o, r1, r2, r3, _, L, rfl, ⟨rfl, N⟩, hq⟩ := rm0_4 l s _ hw i0 i1 i2 i3 i4 cx g s.heap s.heap.size (Nat.le_refl _) SA SH SLo SC hcx SF hgr kk5 tables_1 p e ha hc hk s m _ below hf ((Spec.applies_iff_loose hf).mp happ).1 ⟨rfl, State.Warmed39.refl s, rfl⟩ trivial
    have hv := wide hq
    exact ⟨n, _, r1, r2, r3, hpost _ _ _ _ _ _ ⟨Cond.after_iff.mpr rfl, Cond.after_iff.mpr (eq_i res_at (Term.int_eval (1)) rfl), trivial⟩ ⟨hv.1, hv.2.1, hv.2.2.1, (hv.2.2.2.sift fun y hy => Or.inr (N y hy)).mono (by decide) (by decide)⟩⟩
theorem main_1_1 : Claimed_1_1 := comes_1 fun _ _ _ _ _ _ h hF => ⟨h.1, hF⟩
theorem main_1_2 : Claimed_1_2 := comes_1 fun _ _ _ _ _ _ h hF => ⟨h.2.1, hF⟩
end Jvm.Pilot.@@N@@
namespace Jvm.Pilot.@@N@@
open Jvm Jvm.ClassFile Sem Op Lib Jvm.Free Jvm.Stand Jvm.Pilot.@@N@@.Jvm.D
/-! MADE BY PROGRAM (witnessworld.py) out of the Statement's table words and the real class files: 22 classes; the members and pool entries that the words name. The judged class is class 1, her method 1. -/
namespace start1
open Jvm.ClassFile
def u (s : String) : CpInfo := .utf8 (stringToUtf16 s)
/-- a pool by its gaps: so many unusable entries, then the entry; so many at the end -/
def gap : Nat → List CpInfo → List CpInfo
  | 0, r => r
  | n + 1, r => .unusable :: gap n r
def poolList (es : List (Nat × CpInfo)) (last : Nat) : List CpInfo := es.foldr (fun e r => gap e.1 (e.2 :: r)) (gap last [])
def pool (es : List (Nat × CpInfo)) (last : Nat) : Array CpInfo := ⟨poolList es last⟩
def fileOf (pool : Array CpInfo) (this : Nat) (attrs : Array Attribute := #[]) (ms : Array MethodInfo := #[]) (fl : Nat := 33) (sup : Nat := 0) (ifs : Array Nat := #[]) (fds : Array FieldInfo := #[]) : ClassFile where
  minorVersion := 0
  majorVersion := 65
  constantPool := pool
  accessFlags := fl
  thisClass := this
  superClass := sup
  interfaces := ifs
  fields := fds
  methods := ms
  attributes := attrs
def plain (name : String) (sup : Option ClassId) : Class where
  name := name
  kind := .ordinary
  loader := none
  accessFlags := 33
  super := sup
  interfaces := #[]
  cf := none
  fields := #[]
  methods := #[]
  instanceTypes := #[]
  staticTypes := #[]
  resolved := #[]
  callSites := []
  init := .initialized
  statics := none
  mirror := none

def pool0 : Array CpInfo := pool [(5, u "<init>"), (0, u "()V"), (1, .class_ 10), (1, u "java/lang/Object")] 113

def k0c0 : Code := { maxStack := 0, maxLocals := 1, code := object_method_1_code, exceptionTable := #[], attributes := #[] }
def k0m0 : Method := { name := "<init>", desc := "()V", sig := { parameters := [], returnType := none }, accessFlags := 1, code := some k0c0 }
/-- java/lang/Object -/
def k0 : Class := { plain "java/lang/Object" none with
  accessFlags := 33
  interfaces := #[]
  cf := some (fileOf pool0 8 #[] #[{ accessFlags := 1, nameIndex := 5, descriptorIndex := 6, attributes := #[] }] 33 0 #[] #[])
  fields := #[]
  methods := #[k0m0]
  instanceTypes := #[]
  staticTypes := #[]
  resolved := Array.replicate 124 none
  statics := none }

def pool1 : Array CpInfo := pool [(2, .class_ 4), (1, u "java/lang/Object"), (0, u "<init>"), (0, u "()V"), (0, .integer 2147483647), (0, .integer 65535), (0, .methodref 10 11), (0, .class_ 12), (0, .nameAndType 13 14), (0, u "com/example/contractlint/contractlint/checks/FindingHoldsLineBreakPinLaw"), (0, u "make"), (0, u "(ICCCC)Ljava/lang/String;"), (0, .methodref 10 16), (0, .nameAndType 17 18), (0, u "isBreak"), (0, u "(C)Z"), (0, .methodref 20 21), (0, .class_ 22), (0, .nameAndType 23 24), (0, u "com/example/contractlint/contractlint/checks/Finding"), (0, u "holdsLineBreak"), (0, u "(Ljava/lang/String;)Z"), (0, .class_ 26), (0, u "java/lang/String"), (0, .methodref 25 28), (0, .nameAndType 5 29), (0, u "([C)V"), (2, u "law"), (0, u "(IIIII)Z")] 3

def k1m0 : Method := { name := "<init>", desc := "()V", sig := { parameters := [], returnType := none }, accessFlags := 2, code := none }
def k1c1 : Code := { maxStack := 5, maxLocals := 12, code := code, exceptionTable := #[], attributes := #[] }
def k1m1 : Method := { name := "law", desc := "(IIIII)Z", sig := { parameters := [.int, .int, .int, .int, .int], returnType := some .boolean }, accessFlags := 9, code := some k1c1 }
def k1c2 : Code := { maxStack := 2, maxLocals := 1, code := method_3_code, exceptionTable := #[], attributes := #[] }
def k1m2 : Method := { name := "isBreak", desc := "(C)Z", sig := { parameters := [.char], returnType := some .boolean }, accessFlags := 10, code := some k1c2 }
def k1c3 : Code := { maxStack := 6, maxLocals := 5, code := method_4_code, exceptionTable := #[], attributes := #[] }
def k1m3 : Method := { name := "make", desc := "(ICCCC)Ljava/lang/String;", sig := { parameters := [.int, .char, .char, .char, .char], returnType := some (.object "java/lang/String") }, accessFlags := 10, code := some k1c3 }
/-- com/example/contractlint/contractlint/checks/FindingHoldsLineBreakPinLaw -/
def k1 : Class := { plain "com/example/contractlint/contractlint/checks/FindingHoldsLineBreakPinLaw" (some 0) with
  accessFlags := 49
  interfaces := #[]
  cf := some (fileOf pool1 10 #[] #[{ accessFlags := 2, nameIndex := 5, descriptorIndex := 6, attributes := #[] }, { accessFlags := 9, nameIndex := 32, descriptorIndex := 33, attributes := #[] }, { accessFlags := 10, nameIndex := 17, descriptorIndex := 18, attributes := #[] }, { accessFlags := 10, nameIndex := 13, descriptorIndex := 14, attributes := #[] }] 49 2 #[] #[])
  fields := #[]
  methods := #[k1m0, k1m1, k1m2, k1m3]
  instanceTypes := #[]
  staticTypes := #[]
  resolved := Array.replicate 37 none
  statics := none }

def pool2 : Array CpInfo := pool [(1, .class_ 2), (0, u "java/io/Serializable"), (0, .class_ 4), (0, u "java/lang/Object")] 2

/-- java/io/Serializable -/
def k2 : Class := { plain "java/io/Serializable" (some 0) with
  accessFlags := 1537
  interfaces := #[]
  cf := some (fileOf pool2 1 #[] #[] 1537 3 #[] #[])
  fields := #[]
  methods := #[]
  instanceTypes := #[]
  staticTypes := #[]
  resolved := Array.replicate 7 none
  statics := none }

def pool3 : Array CpInfo := pool [(1, .class_ 2), (0, u "java/lang/Comparable"), (0, .class_ 4), (0, u "java/lang/Object")] 7

/-- java/lang/Comparable -/
def k3 : Class := { plain "java/lang/Comparable" (some 0) with
  accessFlags := 1537
  interfaces := #[]
  cf := some (fileOf pool3 1 #[] #[] 1537 3 #[] #[])
  fields := #[]
  methods := #[]
  instanceTypes := #[]
  staticTypes := #[]
  resolved := Array.replicate 12 none
  statics := none }

def pool4 : Array CpInfo := pool [(2, .class_ 4), (1, u "java/lang/CharSequence"), (42, .class_ 48), (0, u "java/lang/CharSequence$1CodePointIterator"), (10, .class_ 60), (0, u "java/lang/CharSequence$1CharIterator"), (5, .class_ 67), (0, u "java/lang/Object")] 63

/-- java/lang/CharSequence -/
def k4 : Class := { plain "java/lang/CharSequence" (some 0) with
  accessFlags := 1537
  interfaces := #[]
  cf := some (fileOf pool4 2 #[.nestMembers #[47, 59]] #[] 1537 66 #[] #[])
  fields := #[]
  methods := #[]
  instanceTypes := #[]
  staticTypes := #[]
  resolved := Array.replicate 131 none
  statics := none }

def pool5 : Array CpInfo := pool [(1, .class_ 2), (0, u "java/lang/constant/Constable"), (0, .class_ 4), (0, u "java/lang/Object")] 6

/-- java/lang/constant/Constable -/
def k5 : Class := { plain "java/lang/constant/Constable" (some 0) with
  accessFlags := 1537
  interfaces := #[]
  cf := some (fileOf pool5 1 #[] #[] 1537 3 #[] #[])
  fields := #[]
  methods := #[]
  instanceTypes := #[]
  staticTypes := #[]
  resolved := Array.replicate 11 none
  statics := none }

def pool6 : Array CpInfo := pool [(1, .class_ 2), (0, u "java/lang/constant/ConstantDesc"), (0, .class_ 4), (0, u "java/lang/Object")] 32

/-- java/lang/constant/ConstantDesc -/
def k6 : Class := { plain "java/lang/constant/ConstantDesc" (some 0) with
  accessFlags := 1537
  interfaces := #[]
  cf := some (fileOf pool6 1 #[] #[] 1537 3 #[] #[])
  fields := #[]
  methods := #[]
  instanceTypes := #[]
  staticTypes := #[]
  resolved := Array.replicate 37 none
  statics := none }

def pool7 : Array CpInfo := pool [(1, .methodref 2 3), (0, .class_ 4), (0, .nameAndType 5 6), (0, u "java/lang/Object"), (0, u "<init>"), (0, u "()V"), (0, .string 8), (0, u ""), (0, .fieldref 10 11), (0, .class_ 12), (0, .nameAndType 13 14), (0, u "java/lang/String"), (0, u "value"), (0, u "[B"), (0, .fieldref 10 16), (0, .nameAndType 17 18), (0, u "coder"), (0, u "B"), (2, u "hash"), (0, u "I"), (2, u "hashIsZero"), (0, u "Z"), (0, .methodref 10 28), (0, .nameAndType 5 29), (0, u "([CIILjava/lang/Void;)V"), (8, .fieldref 10 39), (0, .nameAndType 40 26), (0, u "COMPACT_STRINGS"), (1, .class_ 44), (1, u "java/lang/StringUTF16"), (0, u "compress"), (1, .methodref 42 48), (0, .nameAndType 49 50), (0, u "coderFromArrayLen"), (0, u "([BI)B"), (56, .class_ 109), (1, u "java/lang/StringLatin1"), (32, u "()Z"), (34, .methodref 42 178), (0, .nameAndType 45 179), (0, u "([CII)[B"), (154, u "()I"), (0, .methodref 10 336), (0, .nameAndType 17 337), (0, u "()B"), (154, .methodref 10 493), (0, .nameAndType 494 142), (0, u "isLatin1"), (10, .methodref 10 506), (0, .nameAndType 507 334), (0, u "length"), (5, u "checkFromToIndex"), (9, u "checkBoundsBeginEnd"), (0, u "(III)V"), (50, .class_ 576), (0, u "java/lang/CharSequence"), (22, u "CASE_INSENSITIVE_ORDER"), (0, u "Ljava/util/Comparator;"), (32, .methodref 10 634), (0, .nameAndType 635 636), (0, u "indexOf"), (0, u "(II)I"), (0, .methodref 107 638), (0, .nameAndType 635 639), (0, u "([BIII)I"), (0, .methodref 42 638), (124, u "(I)I"), (244, u "([C)V"), (42, .fieldref 1054 1055), (0, .class_ 1056), (0, .nameAndType 1057 1058), (0, u "jdk/internal/util/Preconditions"), (0, u "SIOOBE_FORMATTER"), (0, u "Ljava/util/function/BiFunction;"), (3, .methodref 1054 1063), (0, .nameAndType 513 1064), (0, u "(IIILjava/util/function/BiFunction;)I"), (36, u "serialPersistentFields"), (0, u "[Ljava/io/ObjectStreamField;"), (0, .class_ 1104), (0, u "java/lang/String$CaseInsensitiveComparator"), (1, .class_ 1107), (0, u "java/io/Serializable"), (0, .class_ 1109), (0, u "java/lang/Comparable"), (0, .class_ 1111), (0, u "java/lang/constant/Constable"), (0, .class_ 1113), (0, u "java/lang/constant/ConstantDesc"), (2, u "serialVersionUID"), (0, u "J"), (3, u "REPL"), (0, u "C"), (2, u "LATIN1"), (1, u "UTF16")] 323

def k7m0 : Method := { name := "<init>", desc := "()V", sig := { parameters := [], returnType := none }, accessFlags := 1, code := none }
def k7c1 : Code := { maxStack := 5, maxLocals := 2, code := jdk_42_method_3_code, exceptionTable := #[], attributes := #[] }
def k7m1 : Method := { name := "<init>", desc := "([C)V", sig := { parameters := [(.array .char)], returnType := none }, accessFlags := 1, code := some k7c1 }
def k7c2 : Code := { maxStack := 2, maxLocals := 1, code := jdk_42_method_54_code, exceptionTable := #[], attributes := #[] }
def k7m2 : Method := { name := "length", desc := "()I", sig := { parameters := [], returnType := some .int }, accessFlags := 1, code := some k7c2 }
def k7c3 : Code := { maxStack := 3, maxLocals := 2, code := jdk_42_method_79_code, exceptionTable := #[], attributes := #[] }
def k7m3 : Method := { name := "indexOf", desc := "(I)I", sig := { parameters := [.int], returnType := some .int }, accessFlags := 1, code := some k7c3 }
def k7c4 : Code := { maxStack := 4, maxLocals := 3, code := jdk_42_method_80_code, exceptionTable := #[], attributes := #[] }
def k7m4 : Method := { name := "indexOf", desc := "(II)I", sig := { parameters := [.int, .int], returnType := some .int }, accessFlags := 1, code := some k7c4 }
def k7c5 : Code := { maxStack := 4, maxLocals := 6, code := jdk_42_method_149_code, exceptionTable := #[], attributes := #[] }
def k7m5 : Method := { name := "<init>", desc := "([CIILjava/lang/Void;)V", sig := { parameters := [(.array .char), .int, .int, (.object "java/lang/Void")], returnType := none }, accessFlags := 2, code := some k7c5 }
def k7c6 : Code := { maxStack := 1, maxLocals := 1, code := jdk_42_method_152_code, exceptionTable := #[], attributes := #[] }
def k7m6 : Method := { name := "coder", desc := "()B", sig := { parameters := [], returnType := some .byte }, accessFlags := 0, code := some k7c6 }
def k7c7 : Code := { maxStack := 1, maxLocals := 1, code := jdk_42_method_154_code, exceptionTable := #[], attributes := #[] }
def k7m7 : Method := { name := "isLatin1", desc := "()Z", sig := { parameters := [], returnType := some .boolean }, accessFlags := 0, code := some k7c7 }
def k7c8 : Code := { maxStack := 4, maxLocals := 3, code := jdk_42_method_158_code, exceptionTable := #[], attributes := #[] }
def k7m8 : Method := { name := "checkBoundsBeginEnd", desc := "(III)V", sig := { parameters := [.int, .int, .int], returnType := none }, accessFlags := 8, code := some k7c8 }
/-- java/lang/String -/
def k7 : Class := { plain "java/lang/String" (some 0) with
  accessFlags := 49
  interfaces := #[2, 3, 4, 5, 6]
  cf := some (fileOf pool7 10 #[.nestMembers #[1103]] #[{ accessFlags := 1, nameIndex := 5, descriptorIndex := 6, attributes := #[] }, { accessFlags := 1, nameIndex := 5, descriptorIndex := 1010, attributes := #[] }, { accessFlags := 1, nameIndex := 507, descriptorIndex := 334, attributes := #[] }, { accessFlags := 1, nameIndex := 635, descriptorIndex := 765, attributes := #[] }, { accessFlags := 1, nameIndex := 635, descriptorIndex := 636, attributes := #[] }, { accessFlags := 2, nameIndex := 5, descriptorIndex := 29, attributes := #[] }, { accessFlags := 0, nameIndex := 17, descriptorIndex := 337, attributes := #[] }, { accessFlags := 0, nameIndex := 494, descriptorIndex := 142, attributes := #[] }, { accessFlags := 8, nameIndex := 523, descriptorIndex := 524, attributes := #[] }] 49 2 #[1106, 1108, 575, 1110, 1112] #[{ accessFlags := 18, nameIndex := 13, descriptorIndex := 14, attributes := #[] }, { accessFlags := 18, nameIndex := 17, descriptorIndex := 18, attributes := #[] }, { accessFlags := 2, nameIndex := 21, descriptorIndex := 22, attributes := #[] }, { accessFlags := 2, nameIndex := 25, descriptorIndex := 26, attributes := #[] }, { accessFlags := 26, nameIndex := 1116, descriptorIndex := 1117, attributes := #[] }, { accessFlags := 24, nameIndex := 40, descriptorIndex := 26, attributes := #[] }, { accessFlags := 26, nameIndex := 1101, descriptorIndex := 1102, attributes := #[] }, { accessFlags := 26, nameIndex := 1121, descriptorIndex := 1122, attributes := #[] }, { accessFlags := 25, nameIndex := 599, descriptorIndex := 600, attributes := #[] }, { accessFlags := 24, nameIndex := 1125, descriptorIndex := 18, attributes := #[] }, { accessFlags := 24, nameIndex := 1127, descriptorIndex := 18, attributes := #[] }])
  fields := #[{ name := "value", type := (.array .byte), accessFlags := 18, slot := 0, constantValue := 0 }, { name := "coder", type := .byte, accessFlags := 18, slot := 1, constantValue := 0 }, { name := "hash", type := .int, accessFlags := 2, slot := 2, constantValue := 0 }, { name := "hashIsZero", type := .boolean, accessFlags := 2, slot := 3, constantValue := 0 }, { name := "serialVersionUID", type := .long, accessFlags := 26, slot := 0, constantValue := 0 }, { name := "COMPACT_STRINGS", type := .boolean, accessFlags := 24, slot := 1, constantValue := 0 }, { name := "serialPersistentFields", type := (.array (.object "java/io/ObjectStreamField")), accessFlags := 26, slot := 2, constantValue := 0 }, { name := "REPL", type := .char, accessFlags := 26, slot := 3, constantValue := 0 }, { name := "CASE_INSENSITIVE_ORDER", type := (.object "java/util/Comparator"), accessFlags := 25, slot := 4, constantValue := 0 }, { name := "LATIN1", type := .byte, accessFlags := 24, slot := 5, constantValue := 0 }, { name := "UTF16", type := .byte, accessFlags := 24, slot := 6, constantValue := 0 }]
  methods := #[k7m0, k7m1, k7m2, k7m3, k7m4, k7m5, k7m6, k7m7, k7m8]
  instanceTypes := #[(.array .byte), .byte, .int, .boolean]
  staticTypes := #[.long, .boolean, (.array (.object "java/io/ObjectStreamField")), .char, (.object "java/util/Comparator"), .byte, .byte]
  resolved := Array.replicate 1451 none
  statics := some 0 }

def pool8 : Array CpInfo := pool [(2, .class_ 4), (1, u "java/lang/Object"), (0, u "<init>"), (0, u "()V"), (0, .class_ 8), (0, u "java/lang/Record")] 13

def k8m0 : Method := { name := "<init>", desc := "()V", sig := { parameters := [], returnType := none }, accessFlags := 4, code := none }
/-- java/lang/Record -/
def k8 : Class := { plain "java/lang/Record" (some 0) with
  accessFlags := 1057
  interfaces := #[]
  cf := some (fileOf pool8 7 #[] #[{ accessFlags := 4, nameIndex := 5, descriptorIndex := 6, attributes := #[] }] 1057 2 #[] #[])
  fields := #[]
  methods := #[k8m0]
  instanceTypes := #[]
  staticTypes := #[]
  resolved := Array.replicate 22 none
  statics := none }

def pool9 : Array CpInfo := pool [(2, .class_ 4), (1, u "java/lang/Record"), (3, u "path"), (7, u "severity"), (1, u "rule"), (1, u "message"), (1, .class_ 24), (1, u "java/lang/String"), (10, .class_ 37), (1, u "com/example/contractlint/contractlint/checks/Finding"), (0, u "holdsLineBreak"), (0, u "(Ljava/lang/String;)Z"), (13, u "Ljava/lang/String;"), (2, u "line"), (0, u "I"), (2, u "column"), (2, u "Lcom/example/contractlint/contractlint/checks/Severity;"), (2, u "Lcom/example/contractlint/contractlint/checks/Rule;"), (18, .methodref 22 86), (0, .nameAndType 87 88), (0, u "indexOf"), (0, u "(I)I"), (86, u "TEXT_ORDER"), (0, u "Ljava/util/Comparator;"), (21, u "REPORT_ORDER")] 86

def k9c0 : Code := { maxStack := 2, maxLocals := 1, code := prog_7_method_4_code, exceptionTable := #[], attributes := #[] }
def k9m0 : Method := { name := "holdsLineBreak", desc := "(Ljava/lang/String;)Z", sig := { parameters := [(.object "java/lang/String")], returnType := some .boolean }, accessFlags := 9, code := some k9c0 }
/-- com/example/contractlint/contractlint/checks/Finding -/
def k9 : Class := { plain "com/example/contractlint/contractlint/checks/Finding" (some 8) with
  accessFlags := 49
  interfaces := #[]
  cf := some (fileOf pool9 35 #[] #[{ accessFlags := 9, nameIndex := 38, descriptorIndex := 39, attributes := #[] }] 49 2 #[] #[{ accessFlags := 18, nameIndex := 8, descriptorIndex := 53, attributes := #[] }, { accessFlags := 18, nameIndex := 56, descriptorIndex := 57, attributes := #[] }, { accessFlags := 18, nameIndex := 60, descriptorIndex := 57, attributes := #[] }, { accessFlags := 18, nameIndex := 16, descriptorIndex := 63, attributes := #[] }, { accessFlags := 18, nameIndex := 18, descriptorIndex := 66, attributes := #[] }, { accessFlags := 18, nameIndex := 20, descriptorIndex := 53, attributes := #[] }, { accessFlags := 25, nameIndex := 175, descriptorIndex := 176, attributes := #[] }, { accessFlags := 25, nameIndex := 198, descriptorIndex := 176, attributes := #[] }])
  fields := #[{ name := "path", type := (.object "java/lang/String"), accessFlags := 18, slot := 0, constantValue := 0 }, { name := "line", type := .int, accessFlags := 18, slot := 1, constantValue := 0 }, { name := "column", type := .int, accessFlags := 18, slot := 2, constantValue := 0 }, { name := "severity", type := (.object "com/example/contractlint/contractlint/checks/Severity"), accessFlags := 18, slot := 3, constantValue := 0 }, { name := "rule", type := (.object "com/example/contractlint/contractlint/checks/Rule"), accessFlags := 18, slot := 4, constantValue := 0 }, { name := "message", type := (.object "java/lang/String"), accessFlags := 18, slot := 5, constantValue := 0 }, { name := "TEXT_ORDER", type := (.object "java/util/Comparator"), accessFlags := 25, slot := 0, constantValue := 0 }, { name := "REPORT_ORDER", type := (.object "java/util/Comparator"), accessFlags := 25, slot := 1, constantValue := 0 }]
  methods := #[k9m0]
  instanceTypes := #[(.object "java/lang/String"), .int, .int, (.object "com/example/contractlint/contractlint/checks/Severity"), (.object "com/example/contractlint/contractlint/checks/Rule"), (.object "java/lang/String")]
  staticTypes := #[(.object "java/util/Comparator"), (.object "java/util/Comparator")]
  resolved := Array.replicate 285 none
  statics := none }

def pool10 : Array CpInfo := pool [(4, .class_ 6), (1, u "java/lang/Object"), (0, u "<init>"), (0, u "()V"), (5, .class_ 16), (1, u "java/lang/StringLatin1"), (21, .methodref 39 40), (0, .class_ 41), (0, .nameAndType 42 43), (0, u "java/lang/Math"), (0, u "min"), (0, u "(II)I"), (44, .methodref 14 89), (0, .nameAndType 90 91), (0, u "canEncode"), (0, u "(I)Z"), (0, .methodref 39 93), (0, .nameAndType 94 43), (0, u "max"), (0, .methodref 14 96), (0, .nameAndType 97 98), (0, u "indexOfChar"), (0, u "([BIII)I"), (2, u "indexOf"), (19, u "$assertionsDisabled"), (0, u "Z"), (98, .class_ 223), (1, u "java/lang/StringLatin1$LinesSpliterator"), (166, .class_ 391), (0, u "java/lang/StringLatin1$CharsSpliterator")] 3

def k10m0 : Method := { name := "<init>", desc := "()V", sig := { parameters := [], returnType := none }, accessFlags := 0, code := none }
def k10c1 : Code := { maxStack := 2, maxLocals := 1, code := jdk_43_method_4_code, exceptionTable := #[], attributes := #[] }
def k10m1 : Method := { name := "canEncode", desc := "(I)Z", sig := { parameters := [.int], returnType := some .boolean }, accessFlags := 9, code := some k10c1 }
def k10c2 : Code := { maxStack := 4, maxLocals := 4, code := jdk_43_method_22_code, exceptionTable := #[], attributes := #[] }
def k10m2 : Method := { name := "indexOf", desc := "([BIII)I", sig := { parameters := [(.array .byte), .int, .int, .int], returnType := some .int }, accessFlags := 9, code := some k10c2 }
def k10c3 : Code := { maxStack := 2, maxLocals := 6, code := jdk_43_method_23_code, exceptionTable := #[], attributes := #[] }
def k10m3 : Method := { name := "indexOfChar", desc := "([BIII)I", sig := { parameters := [(.array .byte), .int, .int, .int], returnType := some .int }, accessFlags := 10, code := some k10c3 }
/-- java/lang/StringLatin1 -/
def k10 : Class := { plain "java/lang/StringLatin1" (some 0) with
  accessFlags := 48
  interfaces := #[]
  cf := some (fileOf pool10 14 #[.nestMembers #[390, 221]] #[{ accessFlags := 0, nameIndex := 7, descriptorIndex := 8, attributes := #[] }, { accessFlags := 9, nameIndex := 90, descriptorIndex := 91, attributes := #[] }, { accessFlags := 9, nameIndex := 101, descriptorIndex := 98, attributes := #[] }, { accessFlags := 10, nameIndex := 97, descriptorIndex := 98, attributes := #[] }] 48 4 #[] #[{ accessFlags := 4120, nameIndex := 121, descriptorIndex := 122, attributes := #[] }])
  fields := #[{ name := "$assertionsDisabled", type := .boolean, accessFlags := 4120, slot := 0, constantValue := 0 }]
  methods := #[k10m0, k10m1, k10m2, k10m3]
  instanceTypes := #[]
  staticTypes := #[.boolean]
  resolved := Array.replicate 395 none
  statics := none }

def pool11 : Array CpInfo := pool [(1, .class_ 2), (0, u "java/lang/Math"), (1, .class_ 6), (1, u "java/lang/Object"), (0, u "<init>"), (0, u "()V"), (89, .class_ 100), (1, u "java/lang/Math$RandomNumberGeneratorHolder"), (71, u "negativeZeroFloatBits"), (0, u "J"), (2, u "negativeZeroDoubleBits"), (21, u "max"), (2, u "min"), (43, u "$assertionsDisabled"), (0, u "Z"), (88, u "(II)I"), (2, u "twoToTheDoubleScaleDown"), (0, u "D"), (4, u "twoToTheDoubleScaleUp"), (9, u "E"), (3, u "PI"), (2, u "TAU"), (2, u "DEGREES_TO_RADIANS"), (0, u "RADIANS_TO_DEGREES")] 94

def k11m0 : Method := { name := "<init>", desc := "()V", sig := { parameters := [], returnType := none }, accessFlags := 2, code := none }
def k11c1 : Code := { maxStack := 2, maxLocals := 2, code := jdk_29_method_65_code, exceptionTable := #[], attributes := #[] }
def k11m1 : Method := { name := "max", desc := "(II)I", sig := { parameters := [.int, .int], returnType := some .int }, accessFlags := 9, code := some k11c1 }
def k11c2 : Code := { maxStack := 2, maxLocals := 2, code := jdk_29_method_69_code, exceptionTable := #[], attributes := #[] }
def k11m2 : Method := { name := "min", desc := "(II)I", sig := { parameters := [.int, .int], returnType := some .int }, accessFlags := 9, code := some k11c2 }
/-- java/lang/Math -/
def k11 : Class := { plain "java/lang/Math" (some 0) with
  accessFlags := 49
  interfaces := #[]
  cf := some (fileOf pool11 1 #[.nestMembers #[98]] #[{ accessFlags := 2, nameIndex := 7, descriptorIndex := 8, attributes := #[] }, { accessFlags := 9, nameIndex := 198, descriptorIndex := 335, attributes := #[] }, { accessFlags := 9, nameIndex := 201, descriptorIndex := 335, attributes := #[] }] 49 4 #[] #[{ accessFlags := 25, nameIndex := 354, descriptorIndex := 339, attributes := #[] }, { accessFlags := 25, nameIndex := 358, descriptorIndex := 339, attributes := #[] }, { accessFlags := 25, nameIndex := 361, descriptorIndex := 339, attributes := #[] }, { accessFlags := 26, nameIndex := 364, descriptorIndex := 339, attributes := #[] }, { accessFlags := 26, nameIndex := 365, descriptorIndex := 339, attributes := #[] }, { accessFlags := 26, nameIndex := 172, descriptorIndex := 173, attributes := #[] }, { accessFlags := 26, nameIndex := 176, descriptorIndex := 173, attributes := #[] }, { accessFlags := 8, nameIndex := 344, descriptorIndex := 339, attributes := #[] }, { accessFlags := 8, nameIndex := 338, descriptorIndex := 339, attributes := #[] }, { accessFlags := 4120, nameIndex := 245, descriptorIndex := 246, attributes := #[] }])
  fields := #[{ name := "E", type := .double, accessFlags := 25, slot := 0, constantValue := 0 }, { name := "PI", type := .double, accessFlags := 25, slot := 1, constantValue := 0 }, { name := "TAU", type := .double, accessFlags := 25, slot := 2, constantValue := 0 }, { name := "DEGREES_TO_RADIANS", type := .double, accessFlags := 26, slot := 3, constantValue := 0 }, { name := "RADIANS_TO_DEGREES", type := .double, accessFlags := 26, slot := 4, constantValue := 0 }, { name := "negativeZeroFloatBits", type := .long, accessFlags := 26, slot := 5, constantValue := 0 }, { name := "negativeZeroDoubleBits", type := .long, accessFlags := 26, slot := 6, constantValue := 0 }, { name := "twoToTheDoubleScaleUp", type := .double, accessFlags := 8, slot := 7, constantValue := 0 }, { name := "twoToTheDoubleScaleDown", type := .double, accessFlags := 8, slot := 8, constantValue := 0 }, { name := "$assertionsDisabled", type := .boolean, accessFlags := 4120, slot := 9, constantValue := 0 }]
  methods := #[k11m0, k11m1, k11m2]
  instanceTypes := #[]
  staticTypes := #[.double, .double, .double, .double, .double, .long, .long, .double, .double, .boolean]
  resolved := Array.replicate 460 none
  statics := none }

def pool12 : Array CpInfo := pool [(3, .class_ 4), (0, u "java/lang/String"), (1, .class_ 8), (1, u "java/lang/Object"), (0, u "<init>"), (0, u "()V"), (0, .methodref 12 13), (0, .class_ 14), (0, .nameAndType 15 16), (0, u "java/lang/StringUTF16"), (0, u "newBytesLength"), (0, u "(I)I"), (3, .integer 1073741823), (23, .fieldref 12 45), (0, .nameAndType 46 47), (0, u "$assertionsDisabled"), (0, u "Z"), (0, .methodref 12 49), (0, .nameAndType 50 51), (0, u "length"), (0, u "([B)I"), (7, .fieldref 12 60), (0, .nameAndType 61 62), (0, u "HI_BYTE_SHIFT"), (0, u "I"), (0, .fieldref 12 64), (0, .nameAndType 65 62), (0, u "LO_BYTE_SHIFT"), (5, .methodref 12 72), (0, .nameAndType 73 74), (0, u "getChar"), (0, u "([BI)C"), (21, .methodref 12 97), (0, .nameAndType 98 99), (0, u "checkBoundsBeginEnd"), (0, u "(II[B)V"), (7, .methodref 12 108), (0, .nameAndType 109 110), (0, u "newBytesFor"), (0, u "(I)[B"), (0, .methodref 12 112), (0, .nameAndType 113 114), (0, u "putChar"), (0, u "([BII)V"), (0, .methodref 12 116), (0, .nameAndType 117 118), (0, u "compress"), (0, u "([CI[BII)I"), (0, .methodref 12 120), (0, .nameAndType 121 122), (0, u "toBytes"), (0, u "([CII)[B"), (60, .methodref 184 185), (0, .class_ 186), (0, .nameAndType 187 188), (0, u "java/lang/Math"), (0, u "min"), (0, u "(II)I"), (35, .methodref 184 225), (0, .nameAndType 226 188), (0, u "max"), (0, .integer 65536), (0, .methodref 12 229), (0, .nameAndType 230 231), (0, u "indexOfChar"), (0, u "([BIII)I"), (9, .methodref 3 242), (0, .nameAndType 98 243), (0, u "(III)V"), (0, .methodref 12 245), (0, .nameAndType 246 231), (0, u "indexOfCharUnsafe"), (14, u "coderFromArrayLen"), (0, u "([BI)B"), (5, u "indexOf"), (100, .class_ 371), (1, u "java/lang/StringUTF16$LinesSpliterator"), (58, u "MAX_LENGTH"), (196, .class_ 628), (0, u "java/lang/StringUTF16$CodePointsSpliterator"), (0, .class_ 630), (0, u "java/lang/StringUTF16$CharsSpliterator")] 4

def k12m0 : Method := { name := "<init>", desc := "()V", sig := { parameters := [], returnType := none }, accessFlags := 0, code := none }
def k12c1 : Code := { maxStack := 1, maxLocals := 1, code := jdk_52_method_2_code, exceptionTable := #[], attributes := #[] }
def k12m1 : Method := { name := "newBytesFor", desc := "(I)[B", sig := { parameters := [.int], returnType := some (.array .byte) }, accessFlags := 9, code := some k12c1 }
def k12c2 : Code := { maxStack := 4, maxLocals := 1, code := jdk_52_method_3_code, exceptionTable := #[], attributes := #[] }
def k12m2 : Method := { name := "newBytesLength", desc := "(I)I", sig := { parameters := [.int], returnType := some .int }, accessFlags := 9, code := some k12c2 }
def k12c3 : Code := { maxStack := 4, maxLocals := 3, code := jdk_52_method_4_code, exceptionTable := #[], attributes := #[] }
def k12m3 : Method := { name := "putChar", desc := "([BII)V", sig := { parameters := [(.array .byte), .int, .int], returnType := none }, accessFlags := 8, code := some k12c3 }
def k12c4 : Code := { maxStack := 3, maxLocals := 2, code := jdk_52_method_5_code, exceptionTable := #[], attributes := #[] }
def k12m4 : Method := { name := "getChar", desc := "([BI)C", sig := { parameters := [(.array .byte), .int], returnType := some .char }, accessFlags := 8, code := some k12c4 }
def k12c5 : Code := { maxStack := 2, maxLocals := 1, code := jdk_52_method_6_code, exceptionTable := #[], attributes := #[] }
def k12m5 : Method := { name := "length", desc := "([B)I", sig := { parameters := [(.array .byte)], returnType := some .int }, accessFlags := 9, code := some k12c5 }
def k12c6 : Code := { maxStack := 4, maxLocals := 5, code := jdk_52_method_14_code, exceptionTable := #[], attributes := #[] }
def k12m6 : Method := { name := "toBytes", desc := "([CII)[B", sig := { parameters := [(.array .char), .int, .int], returnType := some (.array .byte) }, accessFlags := 9, code := some k12c6 }
def k12c7 : Code := { maxStack := 2, maxLocals := 2, code := jdk_52_method_15_code, exceptionTable := #[], attributes := #[] }
def k12m7 : Method := { name := "coderFromArrayLen", desc := "([BI)B", sig := { parameters := [(.array .byte), .int], returnType := some .byte }, accessFlags := 8, code := some k12c7 }
def k12c8 : Code := { maxStack := 5, maxLocals := 6, code := jdk_52_method_16_code, exceptionTable := #[], attributes := #[] }
def k12m8 : Method := { name := "compress", desc := "([CII)[B", sig := { parameters := [(.array .char), .int, .int], returnType := some (.array .byte) }, accessFlags := 9, code := some k12c8 }
def k12c9 : Code := { maxStack := 3, maxLocals := 7, code := jdk_52_method_21_code, exceptionTable := #[], attributes := #[] }
def k12m9 : Method := { name := "compress", desc := "([CI[BII)I", sig := { parameters := [(.array .char), .int, (.array .byte), .int, .int], returnType := some .int }, accessFlags := 9, code := some k12c9 }
def k12c10 : Code := { maxStack := 4, maxLocals := 4, code := jdk_52_method_40_code, exceptionTable := #[], attributes := #[] }
def k12m10 : Method := { name := "indexOf", desc := "([BIII)I", sig := { parameters := [(.array .byte), .int, .int, .int], returnType := some .int }, accessFlags := 9, code := some k12c10 }
def k12c11 : Code := { maxStack := 4, maxLocals := 4, code := jdk_52_method_47_code, exceptionTable := #[], attributes := #[] }
def k12m11 : Method := { name := "indexOfChar", desc := "([BIII)I", sig := { parameters := [(.array .byte), .int, .int, .int], returnType := some .int }, accessFlags := 10, code := some k12c11 }
def k12c12 : Code := { maxStack := 2, maxLocals := 5, code := jdk_52_method_48_code, exceptionTable := #[], attributes := #[] }
def k12m12 : Method := { name := "indexOfCharUnsafe", desc := "([BIII)I", sig := { parameters := [(.array .byte), .int, .int, .int], returnType := some .int }, accessFlags := 10, code := some k12c12 }
def k12c13 : Code := { maxStack := 3, maxLocals := 3, code := jdk_52_method_93_code, exceptionTable := #[], attributes := #[] }
def k12m13 : Method := { name := "checkBoundsBeginEnd", desc := "(II[B)V", sig := { parameters := [.int, .int, (.array .byte)], returnType := none }, accessFlags := 9, code := some k12c13 }
/-- java/lang/StringUTF16 -/
def k12 : Class := { plain "java/lang/StringUTF16" (some 0) with
  accessFlags := 48
  interfaces := #[]
  cf := some (fileOf pool12 12 #[.nestMembers #[627, 629, 369]] #[{ accessFlags := 0, nameIndex := 9, descriptorIndex := 10, attributes := #[] }, { accessFlags := 9, nameIndex := 109, descriptorIndex := 110, attributes := #[] }, { accessFlags := 9, nameIndex := 15, descriptorIndex := 16, attributes := #[] }, { accessFlags := 8, nameIndex := 113, descriptorIndex := 114, attributes := #[] }, { accessFlags := 8, nameIndex := 73, descriptorIndex := 74, attributes := #[] }, { accessFlags := 9, nameIndex := 50, descriptorIndex := 51, attributes := #[] }, { accessFlags := 9, nameIndex := 121, descriptorIndex := 122, attributes := #[] }, { accessFlags := 8, nameIndex := 261, descriptorIndex := 262, attributes := #[] }, { accessFlags := 9, nameIndex := 117, descriptorIndex := 122, attributes := #[] }, { accessFlags := 9, nameIndex := 117, descriptorIndex := 118, attributes := #[] }, { accessFlags := 9, nameIndex := 268, descriptorIndex := 231, attributes := #[] }, { accessFlags := 10, nameIndex := 230, descriptorIndex := 231, attributes := #[] }, { accessFlags := 10, nameIndex := 246, descriptorIndex := 231, attributes := #[] }, { accessFlags := 9, nameIndex := 98, descriptorIndex := 99, attributes := #[] }] 48 6 #[] #[{ accessFlags := 26, nameIndex := 61, descriptorIndex := 62, attributes := #[] }, { accessFlags := 26, nameIndex := 65, descriptorIndex := 62, attributes := #[] }, { accessFlags := 24, nameIndex := 430, descriptorIndex := 62, attributes := #[] }, { accessFlags := 4120, nameIndex := 46, descriptorIndex := 47, attributes := #[] }])
  fields := #[{ name := "HI_BYTE_SHIFT", type := .int, accessFlags := 26, slot := 0, constantValue := 0 }, { name := "LO_BYTE_SHIFT", type := .int, accessFlags := 26, slot := 1, constantValue := 0 }, { name := "MAX_LENGTH", type := .int, accessFlags := 24, slot := 2, constantValue := 0 }, { name := "$assertionsDisabled", type := .boolean, accessFlags := 4120, slot := 3, constantValue := 0 }]
  methods := #[k12m0, k12m1, k12m2, k12m3, k12m4, k12m5, k12m6, k12m7, k12m8, k12m9, k12m10, k12m11, k12m12, k12m13]
  instanceTypes := #[]
  staticTypes := #[.int, .int, .int, .boolean]
  resolved := Array.replicate 635 none
  statics := some 1 }

def pool13 : Array CpInfo := pool [(2, .class_ 4), (1, u "java/lang/Object"), (0, u "<init>"), (0, u "()V"), (17, .class_ 26), (1, u "jdk/internal/util/Preconditions"), (20, u "checkFromToIndex"), (7, .class_ 56), (0, u "jdk/internal/util/Preconditions$4"), (57, .class_ 115), (0, u "jdk/internal/util/Preconditions$1"), (7, u "SIOOBE_FORMATTER"), (0, u "Ljava/util/function/BiFunction;"), (0, .class_ 126), (0, u "jdk/internal/util/Preconditions$2"), (3, u "AIOOBE_FORMATTER"), (0, .class_ 132), (0, u "jdk/internal/util/Preconditions$3"), (3, u "IOOBE_FORMATTER"), (46, u "(IIILjava/util/function/BiFunction;)I")] 10

def k13m0 : Method := { name := "<init>", desc := "()V", sig := { parameters := [], returnType := none }, accessFlags := 1, code := none }
def k13c1 : Code := { maxStack := 4, maxLocals := 4, code := jdk_41_method_12_code, exceptionTable := #[], attributes := #[] }
def k13m1 : Method := { name := "checkFromToIndex", desc := "(IIILjava/util/function/BiFunction;)I", sig := { parameters := [.int, .int, .int, (.object "java/util/function/BiFunction")], returnType := some .int }, accessFlags := 9, code := some k13c1 }
/-- jdk/internal/util/Preconditions -/
def k13 : Class := { plain "jdk/internal/util/Preconditions" (some 0) with
  accessFlags := 33
  interfaces := #[]
  cf := some (fileOf pool13 24 #[.nestMembers #[55, 131, 125, 114]] #[{ accessFlags := 1, nameIndex := 5, descriptorIndex := 6, attributes := #[] }, { accessFlags := 9, nameIndex := 47, descriptorIndex := 183, attributes := #[] }] 33 2 #[] #[{ accessFlags := 25, nameIndex := 123, descriptorIndex := 124, attributes := #[] }, { accessFlags := 25, nameIndex := 130, descriptorIndex := 124, attributes := #[] }, { accessFlags := 25, nameIndex := 136, descriptorIndex := 124, attributes := #[] }])
  fields := #[{ name := "SIOOBE_FORMATTER", type := (.object "java/util/function/BiFunction"), accessFlags := 25, slot := 0, constantValue := 0 }, { name := "AIOOBE_FORMATTER", type := (.object "java/util/function/BiFunction"), accessFlags := 25, slot := 1, constantValue := 0 }, { name := "IOOBE_FORMATTER", type := (.object "java/util/function/BiFunction"), accessFlags := 25, slot := 2, constantValue := 0 }]
  methods := #[k13m0, k13m1]
  instanceTypes := #[]
  staticTypes := #[(.object "java/util/function/BiFunction"), (.object "java/util/function/BiFunction"), (.object "java/util/function/BiFunction")]
  resolved := Array.replicate 194 none
  statics := some 2 }

def pool14 : Array CpInfo := pool [(9, u "<init>"), (6, .class_ 18), (1, u "java/lang/Object"), (0, u "()V"), (1, .class_ 23), (1, u "jdk/internal/util/ArraysSupport"), (0, u "LOG2_ARRAY_LONG_INDEX_SCALE"), (0, u "I"), (2, u "U"), (0, u "Ljdk/internal/misc/Unsafe;"), (8, u "BIG_ENDIAN"), (0, u "Z"), (8, u "LOG2_BYTE_BIT_SIZE"), (4, u "LOG2_ARRAY_INT_INDEX_SCALE"), (54, u "JLA"), (0, u "Ljdk/internal/access/JavaLangAccess;"), (11, u "LOG2_ARRAY_BOOLEAN_INDEX_SCALE"), (9, u "LOG2_ARRAY_BYTE_INDEX_SCALE"), (5, u "LOG2_ARRAY_CHAR_INDEX_SCALE"), (5, u "LOG2_ARRAY_SHORT_INDEX_SCALE"), (18, u "LOG2_ARRAY_FLOAT_INDEX_SCALE"), (24, u "LOG2_ARRAY_DOUBLE_INDEX_SCALE"), (89, u "T_BOOLEAN"), (2, u "T_CHAR"), (1, u "T_FLOAT"), (1, u "T_DOUBLE"), (1, u "T_BYTE"), (1, u "T_SHORT"), (1, u "T_INT"), (1, u "T_LONG"), (1, u "SOFT_MAX_ARRAY_LENGTH")] 83

def k14m0 : Method := { name := "<init>", desc := "()V", sig := { parameters := [], returnType := none }, accessFlags := 2, code := none }
/-- jdk/internal/util/ArraysSupport -/
def k14 : Class := { plain "jdk/internal/util/ArraysSupport" (some 0) with
  accessFlags := 33
  interfaces := #[]
  cf := some (fileOf pool14 21 #[] #[{ accessFlags := 2, nameIndex := 9, descriptorIndex := 19, attributes := #[] }] 33 16 #[] #[{ accessFlags := 24, nameIndex := 28, descriptorIndex := 29, attributes := #[] }, { accessFlags := 26, nameIndex := 38, descriptorIndex := 39, attributes := #[] }, { accessFlags := 25, nameIndex := 121, descriptorIndex := 25, attributes := #[] }, { accessFlags := 25, nameIndex := 131, descriptorIndex := 25, attributes := #[] }, { accessFlags := 25, nameIndex := 137, descriptorIndex := 25, attributes := #[] }, { accessFlags := 25, nameIndex := 143, descriptorIndex := 25, attributes := #[] }, { accessFlags := 25, nameIndex := 53, descriptorIndex := 25, attributes := #[] }, { accessFlags := 25, nameIndex := 24, descriptorIndex := 25, attributes := #[] }, { accessFlags := 25, nameIndex := 162, descriptorIndex := 25, attributes := #[] }, { accessFlags := 25, nameIndex := 187, descriptorIndex := 25, attributes := #[] }, { accessFlags := 26, nameIndex := 48, descriptorIndex := 25, attributes := #[] }, { accessFlags := 25, nameIndex := 277, descriptorIndex := 25, attributes := #[] }, { accessFlags := 25, nameIndex := 280, descriptorIndex := 25, attributes := #[] }, { accessFlags := 25, nameIndex := 282, descriptorIndex := 25, attributes := #[] }, { accessFlags := 25, nameIndex := 284, descriptorIndex := 25, attributes := #[] }, { accessFlags := 25, nameIndex := 286, descriptorIndex := 25, attributes := #[] }, { accessFlags := 25, nameIndex := 288, descriptorIndex := 25, attributes := #[] }, { accessFlags := 25, nameIndex := 290, descriptorIndex := 25, attributes := #[] }, { accessFlags := 25, nameIndex := 292, descriptorIndex := 25, attributes := #[] }, { accessFlags := 26, nameIndex := 108, descriptorIndex := 109, attributes := #[] }, { accessFlags := 25, nameIndex := 294, descriptorIndex := 25, attributes := #[] }])
  fields := #[{ name := "U", type := (.object "jdk/internal/misc/Unsafe"), accessFlags := 24, slot := 0, constantValue := 0 }, { name := "BIG_ENDIAN", type := .boolean, accessFlags := 26, slot := 1, constantValue := 0 }, { name := "LOG2_ARRAY_BOOLEAN_INDEX_SCALE", type := .int, accessFlags := 25, slot := 2, constantValue := 0 }, { name := "LOG2_ARRAY_BYTE_INDEX_SCALE", type := .int, accessFlags := 25, slot := 3, constantValue := 0 }, { name := "LOG2_ARRAY_CHAR_INDEX_SCALE", type := .int, accessFlags := 25, slot := 4, constantValue := 0 }, { name := "LOG2_ARRAY_SHORT_INDEX_SCALE", type := .int, accessFlags := 25, slot := 5, constantValue := 0 }, { name := "LOG2_ARRAY_INT_INDEX_SCALE", type := .int, accessFlags := 25, slot := 6, constantValue := 0 }, { name := "LOG2_ARRAY_LONG_INDEX_SCALE", type := .int, accessFlags := 25, slot := 7, constantValue := 0 }, { name := "LOG2_ARRAY_FLOAT_INDEX_SCALE", type := .int, accessFlags := 25, slot := 8, constantValue := 0 }, { name := "LOG2_ARRAY_DOUBLE_INDEX_SCALE", type := .int, accessFlags := 25, slot := 9, constantValue := 0 }, { name := "LOG2_BYTE_BIT_SIZE", type := .int, accessFlags := 26, slot := 10, constantValue := 0 }, { name := "T_BOOLEAN", type := .int, accessFlags := 25, slot := 11, constantValue := 0 }, { name := "T_CHAR", type := .int, accessFlags := 25, slot := 12, constantValue := 0 }, { name := "T_FLOAT", type := .int, accessFlags := 25, slot := 13, constantValue := 0 }, { name := "T_DOUBLE", type := .int, accessFlags := 25, slot := 14, constantValue := 0 }, { name := "T_BYTE", type := .int, accessFlags := 25, slot := 15, constantValue := 0 }, { name := "T_SHORT", type := .int, accessFlags := 25, slot := 16, constantValue := 0 }, { name := "T_INT", type := .int, accessFlags := 25, slot := 17, constantValue := 0 }, { name := "T_LONG", type := .int, accessFlags := 25, slot := 18, constantValue := 0 }, { name := "JLA", type := (.object "jdk/internal/access/JavaLangAccess"), accessFlags := 26, slot := 19, constantValue := 0 }, { name := "SOFT_MAX_ARRAY_LENGTH", type := .int, accessFlags := 25, slot := 20, constantValue := 0 }]
  methods := #[k14m0]
  instanceTypes := #[]
  staticTypes := #[(.object "jdk/internal/misc/Unsafe"), .boolean, .int, .int, .int, .int, .int, .int, .int, .int, .int, .int, .int, .int, .int, .int, .int, .int, .int, (.object "jdk/internal/access/JavaLangAccess"), .int]
  resolved := Array.replicate 378 none
  statics := none }

def pool15 : Array CpInfo := pool [(1, u "java/lang/Cloneable"), (0, .class_ 1), (0, u "java/lang/Object"), (0, .class_ 3)] 3

/-- java/lang/Cloneable -/
def k15 : Class := { plain "java/lang/Cloneable" (some 0) with
  accessFlags := 1537
  interfaces := #[]
  cf := some (fileOf pool15 2 #[] #[] 1537 4 #[] #[])
  fields := #[]
  methods := #[]
  instanceTypes := #[]
  staticTypes := #[]
  resolved := Array.replicate 8 none
  statics := none }

/-- the primitive byte -/
def k16 : Class := { plain "byte" none with kind := .primitive 'B', accessFlags := 0x411 }
/-- [B -/
def k17 : Class := { plain "[B" (some 0) with kind := .array 16 .byte, interfaces := #[15, 2], accessFlags := 1041 }

/-- the primitive char -/
def k18 : Class := { plain "char" none with kind := .primitive 'C', accessFlags := 0x411 }
/-- [C -/
def k19 : Class := { plain "[C" (some 0) with kind := .array 18 .char, interfaces := #[15, 2], accessFlags := 1041 }

/-- the primitive int -/
def k20 : Class := { plain "int" none with kind := .primitive 'I', accessFlags := 0x411 }
/-- [I -/
def k21 : Class := { plain "[I" (some 0) with kind := .array 20 .int, interfaces := #[15, 2], accessFlags := 1041 }

def heap : Heap := #[{ cls := 7, slots := #[.long 0, .int 1, .null, .int 0, .null, .int 0, .int 0], vm := .statics 7 },
  { cls := 12, slots := #[.int 0, .int 8, .int 0, .int 1], vm := .statics 12 },
  { cls := 13, slots := #[.null, .null, .null], vm := .statics 13 }]
def classes : Array Class := #[k0, k1, k2, k3, k4, k5, k6, k7, k8, k9, k10, k11, k12, k13, k14, k15, k16, k17, k18, k19, k20, k21]
def interned : List (Array UInt16 × Addr) := []
def slotsUsed : Nat := 14
def theMethod : MethodId := ⟨1, 1⟩
def args0 : Array Value := #[.int 5, .int 7, .int 9, .int 11, .int 13]
def aboutOver (below : List Frame) : State where
  vm := { classes := classes, interned := interned.toArray }
  heap := heap
  slotsUsed := slotsUsed
  threads := #[{ frames := .invoking theMethod args0 :: below }]
def below0 : List Frame := [.native { method := ⟨0, 0⟩, args := #[] }]
def about1 : State := aboutOver below0
def p0 : Program := .bare "" "" ""
def e0 : Env := launch0.env 0 0 0
theorem w_frames : about1.frames = Frame.invoking theMethod args0 :: below0 := rfl
set_option maxRecDepth 65536 in
theorem w_args : argsFit about1.vm theMethod args0 = true := by decide +kernel
set_option maxRecDepth 65536 in
theorem w_heap : heapFits about1 = true := by decide +kernel
set_option maxRecDepth 65536 in
theorem w_runnable : about1.curStatus? = some .runnable := by decide +kernel
set_option maxRecDepth 65536 in
theorem w_alone : about1.alone = true := by decide +kernel
set_option maxRecDepth 65536 in
theorem w_named : about1.methodNamed? x = some theMethod := by decide +kernel
set_option maxRecDepth 65536 in
theorem w_hears : about1.hears theMethod below0 = true := by decide +kernel
set_option maxRecDepth 65536 in
theorem w_ripe : about1.ripe theMethod args0 below0 = true := by decide +kernel
theorem w_running : about1.status = .running := rfl
set_option maxRecDepth 65536 in
theorem w_room : about1.hasRoom e0.platform room_1 = true :=
  launch0.hasRoom_least _ room_1 (by decide +kernel) (by decide +kernel) (by decide +kernel) (by decide +kernel) (by decide +kernel) (by decide +kernel)
theorem allAtoms_all (ts : List Jvm.Cond) (a : Array Jvm.Value) (st : Jvm.State) : (allAtoms ts).before a st = ts.all (fun c => c.before a st) := by
  induction ts with
  | nil => rfl
  | cons c t ih =>
    show (Jvm.Cond.and c (allAtoms t)).before a st = _
    rw [Jvm.Cond.before_and, ih, List.all_cons]
def words1 : List Jvm.Cond := Jvm.Cond.code x code maxLocals ret :: tables_1
/-- a 'code' word, met by the world's own term for the bytes: nothing is compared byte by byte -/
theorem code_word {y : MethodName} {bytes : ByteArray} {mx : Nat} {rt : Option FieldType} {a : Array Value} {s : State} {m : MethodId} {meth : Method} {c : Code} (h1 : s.methodNamed? y = some m) (h2 : s.vm.method? m = some meth) (h3 : meth.code = some c) (h4 : c.code = bytes)
    (h5 : (c.maxLocals == mx && c.exceptionTable.isEmpty && decide (c.maxStack ≤ mostOperands) && decide (meth.sig.returnType = rt) && !meth.locks && decide (parseMethodDescriptor y.desc = some meth.sig)) = true) : (Jvm.Cond.code y bytes mx rt).before a s = true := by
  simp only [Bool.and_eq_true, beq_iff_eq, Bool.not_eq_true', decide_eq_true_eq] at h5
  obtain ⟨⟨⟨⟨⟨g1, g2⟩, g3⟩, g4⟩, g5⟩, g6⟩ := h5
  simp [Cond.before, Cond.holds, Cond.value, h1, h2, h3, h4, g1, g2, g3, g4, g5, g6]
def isCode : Jvm.Cond → Bool
  | .code _ _ _ _ => true
  | _ => false
theorem all_split {L : List Jvm.Cond} {P : Jvm.Cond → Bool} (h1 : L.all (fun c => isCode c || P c) = true) (h2 : ∀ c ∈ L.filter isCode, P c = true) : L.all P = true := by
  refine List.all_eq_true.mpr fun c hc => ?_
  have h := List.all_eq_true.mp h1 c hc
  rcases Bool.eq_false_or_eq_true (isCode c) with hi | hi
  · exact h2 c (List.mem_filter.mpr ⟨hc, hi⟩)
  · simpa [hi] using h
set_option maxRecDepth 65536 in
theorem w_c0 : (Jvm.Cond.code x code maxLocals ret).before args0 about1 = true := code_word (m := ⟨1, 1⟩) (meth := k1m1) (c := k1c1) (by decide +kernel) rfl rfl rfl (by decide +kernel)
set_option maxRecDepth 65536 in
theorem w_c1 : (Jvm.Cond.code ({ cls := "com/example/contractlint/contractlint/checks/FindingHoldsLineBreakPinLaw", name := "make", desc := "(ICCCC)Ljava/lang/String;" } : Jvm.MethodName) method_4_code (5 : Nat) (Option.some (Jvm.ClassFile.FieldType.object "java/lang/String"))).before args0 about1 = true := code_word (m := ⟨1, 3⟩) (meth := k1m3) (c := k1c3) (by decide +kernel) rfl rfl rfl (by decide +kernel)
set_option maxRecDepth 65536 in
theorem w_c2 : (Jvm.Cond.code ({ cls := "java/lang/String", name := "<init>", desc := "([C)V" } : Jvm.MethodName) jdk_42_method_3_code (2 : Nat) (Option.none : Option Jvm.ClassFile.FieldType)).before args0 about1 = true := code_word (m := ⟨7, 1⟩) (meth := k7m1) (c := k7c1) (by decide +kernel) rfl rfl rfl (by decide +kernel)
set_option maxRecDepth 65536 in
theorem w_c3 : (Jvm.Cond.code ({ cls := "java/lang/String", name := "<init>", desc := "([CIILjava/lang/Void;)V" } : Jvm.MethodName) jdk_42_method_149_code (6 : Nat) (Option.none : Option Jvm.ClassFile.FieldType)).before args0 about1 = true := code_word (m := ⟨7, 5⟩) (meth := k7m5) (c := k7c5) (by decide +kernel) rfl rfl rfl (by decide +kernel)
set_option maxRecDepth 65536 in
theorem w_c4 : (Jvm.Cond.code ({ cls := "java/lang/Object", name := "<init>", desc := "()V" } : Jvm.MethodName) object_method_1_code (1 : Nat) (Option.none : Option Jvm.ClassFile.FieldType)).before args0 about1 = true := code_word (m := ⟨0, 0⟩) (meth := k0m0) (c := k0c0) (by decide +kernel) rfl rfl rfl (by decide +kernel)
set_option maxRecDepth 65536 in
theorem w_c5 : (Jvm.Cond.code ({ cls := "com/example/contractlint/contractlint/checks/Finding", name := "holdsLineBreak", desc := "(Ljava/lang/String;)Z" } : Jvm.MethodName) prog_7_method_4_code (1 : Nat) (Option.some Jvm.ClassFile.FieldType.boolean)).before args0 about1 = true := code_word (m := ⟨9, 0⟩) (meth := k9m0) (c := k9c0) (by decide +kernel) rfl rfl rfl (by decide +kernel)
set_option maxRecDepth 65536 in
theorem w_c6 : (Jvm.Cond.code ({ cls := "java/lang/String", name := "indexOf", desc := "(I)I" } : Jvm.MethodName) jdk_42_method_79_code (2 : Nat) (Option.some Jvm.ClassFile.FieldType.int)).before args0 about1 = true := code_word (m := ⟨7, 3⟩) (meth := k7m3) (c := k7c3) (by decide +kernel) rfl rfl rfl (by decide +kernel)
set_option maxRecDepth 65536 in
theorem w_c7 : (Jvm.Cond.code ({ cls := "java/lang/String", name := "indexOf", desc := "(II)I" } : Jvm.MethodName) jdk_42_method_80_code (3 : Nat) (Option.some Jvm.ClassFile.FieldType.int)).before args0 about1 = true := code_word (m := ⟨7, 4⟩) (meth := k7m4) (c := k7c4) (by decide +kernel) rfl rfl rfl (by decide +kernel)
set_option maxRecDepth 65536 in
theorem w_c8 : (Jvm.Cond.code ({ cls := "java/lang/String", name := "isLatin1", desc := "()Z" } : Jvm.MethodName) jdk_42_method_154_code (1 : Nat) (Option.some Jvm.ClassFile.FieldType.boolean)).before args0 about1 = true := code_word (m := ⟨7, 7⟩) (meth := k7m7) (c := k7c7) (by decide +kernel) rfl rfl rfl (by decide +kernel)
set_option maxRecDepth 65536 in
theorem w_c9 : (Jvm.Cond.code ({ cls := "java/lang/String", name := "length", desc := "()I" } : Jvm.MethodName) jdk_42_method_54_code (1 : Nat) (Option.some Jvm.ClassFile.FieldType.int)).before args0 about1 = true := code_word (m := ⟨7, 2⟩) (meth := k7m2) (c := k7c2) (by decide +kernel) rfl rfl rfl (by decide +kernel)
set_option maxRecDepth 65536 in
theorem w_c10 : (Jvm.Cond.code ({ cls := "java/lang/String", name := "coder", desc := "()B" } : Jvm.MethodName) jdk_42_method_152_code (1 : Nat) (Option.some Jvm.ClassFile.FieldType.byte)).before args0 about1 = true := code_word (m := ⟨7, 6⟩) (meth := k7m6) (c := k7c6) (by decide +kernel) rfl rfl rfl (by decide +kernel)
set_option maxRecDepth 65536 in
theorem w_c11 : (Jvm.Cond.code ({ cls := "java/lang/StringLatin1", name := "indexOf", desc := "([BIII)I" } : Jvm.MethodName) jdk_43_method_22_code (4 : Nat) (Option.some Jvm.ClassFile.FieldType.int)).before args0 about1 = true := code_word (m := ⟨10, 2⟩) (meth := k10m2) (c := k10c2) (by decide +kernel) rfl rfl rfl (by decide +kernel)
set_option maxRecDepth 65536 in
theorem w_c12 : (Jvm.Cond.code ({ cls := "java/lang/StringLatin1", name := "canEncode", desc := "(I)Z" } : Jvm.MethodName) jdk_43_method_4_code (1 : Nat) (Option.some Jvm.ClassFile.FieldType.boolean)).before args0 about1 = true := code_word (m := ⟨10, 1⟩) (meth := k10m1) (c := k10c1) (by decide +kernel) rfl rfl rfl (by decide +kernel)
set_option maxRecDepth 65536 in
theorem w_c13 : (Jvm.Cond.code ({ cls := "java/lang/Math", name := "max", desc := "(II)I" } : Jvm.MethodName) jdk_29_method_65_code (2 : Nat) (Option.some Jvm.ClassFile.FieldType.int)).before args0 about1 = true := code_word (m := ⟨11, 1⟩) (meth := k11m1) (c := k11c1) (by decide +kernel) rfl rfl rfl (by decide +kernel)
set_option maxRecDepth 65536 in
theorem w_c14 : (Jvm.Cond.code ({ cls := "java/lang/Math", name := "min", desc := "(II)I" } : Jvm.MethodName) jdk_29_method_69_code (2 : Nat) (Option.some Jvm.ClassFile.FieldType.int)).before args0 about1 = true := code_word (m := ⟨11, 2⟩) (meth := k11m2) (c := k11c2) (by decide +kernel) rfl rfl rfl (by decide +kernel)
set_option maxRecDepth 65536 in
theorem w_c15 : (Jvm.Cond.code ({ cls := "java/lang/StringUTF16", name := "compress", desc := "([CII)[B" } : Jvm.MethodName) jdk_52_method_16_code (6 : Nat) (Option.some (Jvm.ClassFile.FieldType.array Jvm.ClassFile.FieldType.byte))).before args0 about1 = true := code_word (m := ⟨12, 8⟩) (meth := k12m8) (c := k12c8) (by decide +kernel) rfl rfl rfl (by decide +kernel)
set_option maxRecDepth 65536 in
theorem w_c16 : (Jvm.Cond.code ({ cls := "java/lang/StringUTF16", name := "compress", desc := "([CI[BII)I" } : Jvm.MethodName) jdk_52_method_21_code (7 : Nat) (Option.some Jvm.ClassFile.FieldType.int)).before args0 about1 = true := code_word (m := ⟨12, 9⟩) (meth := k12m9) (c := k12c9) (by decide +kernel) rfl rfl rfl (by decide +kernel)
set_option maxRecDepth 65536 in
theorem w_c17 : (Jvm.Cond.code ({ cls := "java/lang/StringUTF16", name := "coderFromArrayLen", desc := "([BI)B" } : Jvm.MethodName) jdk_52_method_15_code (2 : Nat) (Option.some Jvm.ClassFile.FieldType.byte)).before args0 about1 = true := code_word (m := ⟨12, 7⟩) (meth := k12m7) (c := k12c7) (by decide +kernel) rfl rfl rfl (by decide +kernel)
set_option maxRecDepth 65536 in
theorem w_c18 : (Jvm.Cond.code ({ cls := "com/example/contractlint/contractlint/checks/FindingHoldsLineBreakPinLaw", name := "isBreak", desc := "(C)Z" } : Jvm.MethodName) method_3_code (1 : Nat) (Option.some Jvm.ClassFile.FieldType.boolean)).before args0 about1 = true := code_word (m := ⟨1, 2⟩) (meth := k1m2) (c := k1c2) (by decide +kernel) rfl rfl rfl (by decide +kernel)
set_option maxRecDepth 65536 in
theorem w_c19 : (Jvm.Cond.code ({ cls := "java/lang/StringLatin1", name := "indexOfChar", desc := "([BIII)I" } : Jvm.MethodName) jdk_43_method_23_code (6 : Nat) (Option.some Jvm.ClassFile.FieldType.int)).before args0 about1 = true := code_word (m := ⟨10, 3⟩) (meth := k10m3) (c := k10c3) (by decide +kernel) rfl rfl rfl (by decide +kernel)
set_option maxRecDepth 65536 in
theorem w_c20 : (Jvm.Cond.code ({ cls := "java/lang/StringUTF16", name := "toBytes", desc := "([CII)[B" } : Jvm.MethodName) jdk_52_method_14_code (5 : Nat) (Option.some (Jvm.ClassFile.FieldType.array Jvm.ClassFile.FieldType.byte))).before args0 about1 = true := code_word (m := ⟨12, 6⟩) (meth := k12m6) (c := k12c6) (by decide +kernel) rfl rfl rfl (by decide +kernel)
set_option maxRecDepth 65536 in
theorem w_c21 : (Jvm.Cond.code ({ cls := "java/lang/StringUTF16", name := "newBytesFor", desc := "(I)[B" } : Jvm.MethodName) jdk_52_method_2_code (1 : Nat) (Option.some (Jvm.ClassFile.FieldType.array Jvm.ClassFile.FieldType.byte))).before args0 about1 = true := code_word (m := ⟨12, 1⟩) (meth := k12m1) (c := k12c1) (by decide +kernel) rfl rfl rfl (by decide +kernel)
set_option maxRecDepth 65536 in
theorem w_c22 : (Jvm.Cond.code ({ cls := "java/lang/StringUTF16", name := "newBytesLength", desc := "(I)I" } : Jvm.MethodName) jdk_52_method_3_code (1 : Nat) (Option.some Jvm.ClassFile.FieldType.int)).before args0 about1 = true := code_word (m := ⟨12, 2⟩) (meth := k12m2) (c := k12c2) (by decide +kernel) rfl rfl rfl (by decide +kernel)
set_option maxRecDepth 65536 in
theorem w_c23 : (Jvm.Cond.code ({ cls := "java/lang/StringUTF16", name := "putChar", desc := "([BII)V" } : Jvm.MethodName) jdk_52_method_4_code (3 : Nat) (Option.none : Option Jvm.ClassFile.FieldType)).before args0 about1 = true := code_word (m := ⟨12, 3⟩) (meth := k12m3) (c := k12c3) (by decide +kernel) rfl rfl rfl (by decide +kernel)
set_option maxRecDepth 65536 in
theorem w_c24 : (Jvm.Cond.code ({ cls := "java/lang/StringUTF16", name := "getChar", desc := "([BI)C" } : Jvm.MethodName) jdk_52_method_5_code (2 : Nat) (Option.some Jvm.ClassFile.FieldType.char)).before args0 about1 = true := code_word (m := ⟨12, 4⟩) (meth := k12m4) (c := k12c4) (by decide +kernel) rfl rfl rfl (by decide +kernel)
set_option maxRecDepth 65536 in
theorem w_c25 : (Jvm.Cond.code ({ cls := "java/lang/StringUTF16", name := "indexOf", desc := "([BIII)I" } : Jvm.MethodName) jdk_52_method_40_code (4 : Nat) (Option.some Jvm.ClassFile.FieldType.int)).before args0 about1 = true := code_word (m := ⟨12, 10⟩) (meth := k12m10) (c := k12c10) (by decide +kernel) rfl rfl rfl (by decide +kernel)
set_option maxRecDepth 65536 in
theorem w_c26 : (Jvm.Cond.code ({ cls := "java/lang/StringUTF16", name := "indexOfChar", desc := "([BIII)I" } : Jvm.MethodName) jdk_52_method_47_code (4 : Nat) (Option.some Jvm.ClassFile.FieldType.int)).before args0 about1 = true := code_word (m := ⟨12, 11⟩) (meth := k12m11) (c := k12c11) (by decide +kernel) rfl rfl rfl (by decide +kernel)
set_option maxRecDepth 65536 in
theorem w_c27 : (Jvm.Cond.code ({ cls := "java/lang/StringUTF16", name := "checkBoundsBeginEnd", desc := "(II[B)V" } : Jvm.MethodName) jdk_52_method_93_code (3 : Nat) (Option.none : Option Jvm.ClassFile.FieldType)).before args0 about1 = true := code_word (m := ⟨12, 13⟩) (meth := k12m13) (c := k12c13) (by decide +kernel) rfl rfl rfl (by decide +kernel)
set_option maxRecDepth 65536 in
theorem w_c28 : (Jvm.Cond.code ({ cls := "java/lang/StringUTF16", name := "length", desc := "([B)I" } : Jvm.MethodName) jdk_52_method_6_code (1 : Nat) (Option.some Jvm.ClassFile.FieldType.int)).before args0 about1 = true := code_word (m := ⟨12, 5⟩) (meth := k12m5) (c := k12c5) (by decide +kernel) rfl rfl rfl (by decide +kernel)
set_option maxRecDepth 65536 in
theorem w_c29 : (Jvm.Cond.code ({ cls := "java/lang/String", name := "checkBoundsBeginEnd", desc := "(III)V" } : Jvm.MethodName) jdk_42_method_158_code (3 : Nat) (Option.none : Option Jvm.ClassFile.FieldType)).before args0 about1 = true := code_word (m := ⟨7, 8⟩) (meth := k7m8) (c := k7c8) (by decide +kernel) rfl rfl rfl (by decide +kernel)
set_option maxRecDepth 65536 in
theorem w_c30 : (Jvm.Cond.code ({ cls := "jdk/internal/util/Preconditions", name := "checkFromToIndex", desc := "(IIILjava/util/function/BiFunction;)I" } : Jvm.MethodName) jdk_41_method_12_code (4 : Nat) (Option.some Jvm.ClassFile.FieldType.int)).before args0 about1 = true := code_word (m := ⟨13, 1⟩) (meth := k13m1) (c := k13c1) (by decide +kernel) rfl rfl rfl (by decide +kernel)
set_option maxRecDepth 65536 in
theorem w_c31 : (Jvm.Cond.code ({ cls := "java/lang/StringUTF16", name := "indexOfCharUnsafe", desc := "([BIII)I" } : Jvm.MethodName) jdk_52_method_48_code (5 : Nat) (Option.some Jvm.ClassFile.FieldType.int)).before args0 about1 = true := code_word (m := ⟨12, 12⟩) (meth := k12m12) (c := k12c12) (by decide +kernel) rfl rfl rfl (by decide +kernel)
def codes1 : List Jvm.Cond := [Jvm.Cond.code x code maxLocals ret, Jvm.Cond.code ({ cls := "com/example/contractlint/contractlint/checks/FindingHoldsLineBreakPinLaw", name := "make", desc := "(ICCCC)Ljava/lang/String;" } : Jvm.MethodName) method_4_code (5 : Nat) (Option.some (Jvm.ClassFile.FieldType.object "java/lang/String")), Jvm.Cond.code ({ cls := "java/lang/String", name := "<init>", desc := "([C)V" } : Jvm.MethodName) jdk_42_method_3_code (2 : Nat) (Option.none : Option Jvm.ClassFile.FieldType), Jvm.Cond.code ({ cls := "java/lang/String", name := "<init>", desc := "([CIILjava/lang/Void;)V" } : Jvm.MethodName) jdk_42_method_149_code (6 : Nat) (Option.none : Option Jvm.ClassFile.FieldType), Jvm.Cond.code ({ cls := "java/lang/Object", name := "<init>", desc := "()V" } : Jvm.MethodName) object_method_1_code (1 : Nat) (Option.none : Option Jvm.ClassFile.FieldType), Jvm.Cond.code ({ cls := "com/example/contractlint/contractlint/checks/Finding", name := "holdsLineBreak", desc := "(Ljava/lang/String;)Z" } : Jvm.MethodName) prog_7_method_4_code (1 : Nat) (Option.some Jvm.ClassFile.FieldType.boolean), Jvm.Cond.code ({ cls := "java/lang/String", name := "indexOf", desc := "(I)I" } : Jvm.MethodName) jdk_42_method_79_code (2 : Nat) (Option.some Jvm.ClassFile.FieldType.int), Jvm.Cond.code ({ cls := "java/lang/String", name := "indexOf", desc := "(II)I" } : Jvm.MethodName) jdk_42_method_80_code (3 : Nat) (Option.some Jvm.ClassFile.FieldType.int), Jvm.Cond.code ({ cls := "java/lang/String", name := "isLatin1", desc := "()Z" } : Jvm.MethodName) jdk_42_method_154_code (1 : Nat) (Option.some Jvm.ClassFile.FieldType.boolean), Jvm.Cond.code ({ cls := "java/lang/String", name := "length", desc := "()I" } : Jvm.MethodName) jdk_42_method_54_code (1 : Nat) (Option.some Jvm.ClassFile.FieldType.int), Jvm.Cond.code ({ cls := "java/lang/String", name := "coder", desc := "()B" } : Jvm.MethodName) jdk_42_method_152_code (1 : Nat) (Option.some Jvm.ClassFile.FieldType.byte), Jvm.Cond.code ({ cls := "java/lang/StringLatin1", name := "indexOf", desc := "([BIII)I" } : Jvm.MethodName) jdk_43_method_22_code (4 : Nat) (Option.some Jvm.ClassFile.FieldType.int), Jvm.Cond.code ({ cls := "java/lang/StringLatin1", name := "canEncode", desc := "(I)Z" } : Jvm.MethodName) jdk_43_method_4_code (1 : Nat) (Option.some Jvm.ClassFile.FieldType.boolean), Jvm.Cond.code ({ cls := "java/lang/Math", name := "max", desc := "(II)I" } : Jvm.MethodName) jdk_29_method_65_code (2 : Nat) (Option.some Jvm.ClassFile.FieldType.int), Jvm.Cond.code ({ cls := "java/lang/Math", name := "min", desc := "(II)I" } : Jvm.MethodName) jdk_29_method_69_code (2 : Nat) (Option.some Jvm.ClassFile.FieldType.int), Jvm.Cond.code ({ cls := "java/lang/StringUTF16", name := "compress", desc := "([CII)[B" } : Jvm.MethodName) jdk_52_method_16_code (6 : Nat) (Option.some (Jvm.ClassFile.FieldType.array Jvm.ClassFile.FieldType.byte)), Jvm.Cond.code ({ cls := "java/lang/StringUTF16", name := "compress", desc := "([CI[BII)I" } : Jvm.MethodName) jdk_52_method_21_code (7 : Nat) (Option.some Jvm.ClassFile.FieldType.int), Jvm.Cond.code ({ cls := "java/lang/StringUTF16", name := "coderFromArrayLen", desc := "([BI)B" } : Jvm.MethodName) jdk_52_method_15_code (2 : Nat) (Option.some Jvm.ClassFile.FieldType.byte), Jvm.Cond.code ({ cls := "com/example/contractlint/contractlint/checks/FindingHoldsLineBreakPinLaw", name := "isBreak", desc := "(C)Z" } : Jvm.MethodName) method_3_code (1 : Nat) (Option.some Jvm.ClassFile.FieldType.boolean), Jvm.Cond.code ({ cls := "java/lang/StringLatin1", name := "indexOfChar", desc := "([BIII)I" } : Jvm.MethodName) jdk_43_method_23_code (6 : Nat) (Option.some Jvm.ClassFile.FieldType.int), Jvm.Cond.code ({ cls := "java/lang/StringUTF16", name := "toBytes", desc := "([CII)[B" } : Jvm.MethodName) jdk_52_method_14_code (5 : Nat) (Option.some (Jvm.ClassFile.FieldType.array Jvm.ClassFile.FieldType.byte)), Jvm.Cond.code ({ cls := "java/lang/StringUTF16", name := "newBytesFor", desc := "(I)[B" } : Jvm.MethodName) jdk_52_method_2_code (1 : Nat) (Option.some (Jvm.ClassFile.FieldType.array Jvm.ClassFile.FieldType.byte)), Jvm.Cond.code ({ cls := "java/lang/StringUTF16", name := "newBytesLength", desc := "(I)I" } : Jvm.MethodName) jdk_52_method_3_code (1 : Nat) (Option.some Jvm.ClassFile.FieldType.int), Jvm.Cond.code ({ cls := "java/lang/StringUTF16", name := "putChar", desc := "([BII)V" } : Jvm.MethodName) jdk_52_method_4_code (3 : Nat) (Option.none : Option Jvm.ClassFile.FieldType), Jvm.Cond.code ({ cls := "java/lang/StringUTF16", name := "getChar", desc := "([BI)C" } : Jvm.MethodName) jdk_52_method_5_code (2 : Nat) (Option.some Jvm.ClassFile.FieldType.char), Jvm.Cond.code ({ cls := "java/lang/StringUTF16", name := "indexOf", desc := "([BIII)I" } : Jvm.MethodName) jdk_52_method_40_code (4 : Nat) (Option.some Jvm.ClassFile.FieldType.int), Jvm.Cond.code ({ cls := "java/lang/StringUTF16", name := "indexOfChar", desc := "([BIII)I" } : Jvm.MethodName) jdk_52_method_47_code (4 : Nat) (Option.some Jvm.ClassFile.FieldType.int), Jvm.Cond.code ({ cls := "java/lang/StringUTF16", name := "checkBoundsBeginEnd", desc := "(II[B)V" } : Jvm.MethodName) jdk_52_method_93_code (3 : Nat) (Option.none : Option Jvm.ClassFile.FieldType), Jvm.Cond.code ({ cls := "java/lang/StringUTF16", name := "length", desc := "([B)I" } : Jvm.MethodName) jdk_52_method_6_code (1 : Nat) (Option.some Jvm.ClassFile.FieldType.int), Jvm.Cond.code ({ cls := "java/lang/String", name := "checkBoundsBeginEnd", desc := "(III)V" } : Jvm.MethodName) jdk_42_method_158_code (3 : Nat) (Option.none : Option Jvm.ClassFile.FieldType), Jvm.Cond.code ({ cls := "jdk/internal/util/Preconditions", name := "checkFromToIndex", desc := "(IIILjava/util/function/BiFunction;)I" } : Jvm.MethodName) jdk_41_method_12_code (4 : Nat) (Option.some Jvm.ClassFile.FieldType.int), Jvm.Cond.code ({ cls := "java/lang/StringUTF16", name := "indexOfCharUnsafe", desc := "([BIII)I" } : Jvm.MethodName) jdk_52_method_48_code (5 : Nat) (Option.some Jvm.ClassFile.FieldType.int)]
set_option maxRecDepth 65536 in
theorem codes_eq : words1.filter isCode = codes1 := rfl
theorem w_codes : ∀ c ∈ words1.filter isCode, c.before args0 about1 = true := by
  rw [codes_eq]
  intro c hc
  simp only [codes1, List.mem_cons, List.not_mem_nil, or_false] at hc
  rcases hc with rfl | rfl | rfl | rfl | rfl | rfl | rfl | rfl | rfl | rfl | rfl | rfl | rfl | rfl | rfl | rfl | rfl | rfl | rfl | rfl | rfl | rfl | rfl | rfl | rfl | rfl | rfl | rfl | rfl | rfl | rfl | rfl
  · exact w_c0
  · exact w_c1
  · exact w_c2
  · exact w_c3
  · exact w_c4
  · exact w_c5
  · exact w_c6
  · exact w_c7
  · exact w_c8
  · exact w_c9
  · exact w_c10
  · exact w_c11
  · exact w_c12
  · exact w_c13
  · exact w_c14
  · exact w_c15
  · exact w_c16
  · exact w_c17
  · exact w_c18
  · exact w_c19
  · exact w_c20
  · exact w_c21
  · exact w_c22
  · exact w_c23
  · exact w_c24
  · exact w_c25
  · exact w_c26
  · exact w_c27
  · exact w_c28
  · exact w_c29
  · exact w_c30
  · exact w_c31
set_option maxRecDepth 65536 in
theorem w_t1 : (words1.take 24).all (fun c => isCode c || c.before args0 about1) = true := by decide +kernel
set_option maxRecDepth 65536 in
theorem w_t2 : ((words1.drop 24).take 24).all (fun c => isCode c || c.before args0 about1) = true := by decide +kernel
set_option maxRecDepth 65536 in
theorem w_t3 : (((words1.drop 24).drop 24).take 24).all (fun c => isCode c || c.before args0 about1) = true := by decide +kernel
set_option maxRecDepth 65536 in
theorem w_t4 : ((((words1.drop 24).drop 24).drop 24).take 24).all (fun c => isCode c || c.before args0 about1) = true := by decide +kernel
set_option maxRecDepth 65536 in
theorem w_t5 : (((((words1.drop 24).drop 24).drop 24).drop 24).take 24).all (fun c => isCode c || c.before args0 about1) = true := by decide +kernel
set_option maxRecDepth 65536 in
theorem w_t6 : (((((words1.drop 24).drop 24).drop 24).drop 24).drop 24).all (fun c => isCode c || c.before args0 about1) = true := by decide +kernel
theorem w_tables : (allAtoms (Jvm.Cond.code x code maxLocals ret :: tables_1)).before args0 about1 = true := by
  rw [allAtoms_all]
  show words1.all (fun c => c.before args0 about1) = true
  refine all_split ?_ w_codes
  rw [← List.take_append_drop 24 words1, List.all_append, w_t1, ← List.take_append_drop 24 (words1.drop 24), List.all_append, w_t2, ← List.take_append_drop 24 ((words1.drop 24).drop 24), List.all_append, w_t3, ← List.take_append_drop 24 (((words1.drop 24).drop 24).drop 24), List.all_append, w_t4, ← List.take_append_drop 24 ((((words1.drop 24).drop 24).drop 24).drop 24), List.all_append, w_t5, w_t6]
  rfl
set_option maxRecDepth 65536 in
theorem w_rest : rest_1_c.before args0 about1 = true := by decide +kernel
set_option maxRecDepth 65536 in
theorem w_case : (Jvm.Cond.and given_1 narrow_1).before args0 about1 = true := by decide +kernel
set_option maxRecDepth 65536 in
theorem w_consts : constsHeld consts_1 about1 := Jvm.Lit.constsHeldB_iff.mp (by decide +kernel)
theorem w_applies : (headSpec (Jvm.Cond.code x code maxLocals ret :: tables_1) room_1).applies x e0.platform about1 = true :=
  (Spec.applies_iff w_frames).mpr ⟨w_running, w_runnable, w_alone, w_named, w_hears, w_ripe, w_room, w_tables⟩
theorem atStart : AtStart classFile x code maxLocals ret World_1 tables_1 room_1 Calls_1 rest_1 Pre_1 launch0 p0 e0 about1 theMethod args0 below0 :=
  ⟨lists_1, trivial, launch0.admits_env _ _ _, launch0.least_env, fairChoices_fair.cas, fairChoices_fair.clock, w_frames, w_args, w_heap, w_applies, ⟨w_consts, trivial⟩, w_rest, w_case⟩
end start1
theorem witness_1 : WitnessClaimed_1 := ⟨start1.p0, start1.e0, start1.about1, start1.theMethod, start1.args0, start1.below0, start1.atStart⟩
end Jvm.Pilot.@@N@@
