import JvmDerived
import JvmDerived.Pilot.@@N@@Statement
import JvmDerived.Pilot.@@N@@Code
set_option linter.unusedVariables false
set_option linter.unusedSimpArgs false
namespace Jvm.Pilot.@@N@@
open Jvm Jvm.ClassFile Sem Op Lib Jvm.Free Jvm.Stand Jvm.LawKit Jvm.RoadKit Bundle Jvm.Pilot.@@N@@.Jvm.D
/-! own kit: walks in continuation form -/
def Go (p : Program) (e : Env) (below : List Frame) (P : State → Outcome → Prop) (A : State) : Prop := ∃ t o, Steps p.tables e below A t ∧ t.status = .running ∧ Ended t below o ∧ P t o
/-- the facts on the body that is walked, which no step moves -/
def Bo (Z : State) (p : Program) (s : State) (m : MethodId) (meth : Method) (c : Code) (own nm : String) (bytes : ByteArray) (maxL : Nat) (ret : Option FieldType) : Prop :=
  p.tables.exec = Jvm.exec ∧ c.code = bytes ∧ c.maxLocals = maxL ∧ Z.Warmed39 s.vm ∧ s.vm.findClass own = some m.cls ∧ meth.name = nm ∧ meth.sig.returnType = ret ∧ meth.locks = false
/-- what an end must be -/
def EndsQ (s : State) (Q : Option Value → Heap → List Loc → Prop) (cc ss : Nat) : State → Outcome → Prop := fun t o => ∃ v L, o = .returned v ∧ Q v t.heap L ∧ FrameEnd s o t L cc ss
/-- a body's contract -/
def Ctr (l : Launch) (Z : State) (y : MethodName) (bytes : ByteArray) (maxL : Nat) (ret : Option FieldType) (rm : Room) (as : Array Value) (h0 : Heap) (Q : Option Value → Heap → List Loc → Prop) : Prop :=
  ∀ ws, MetFree l y (head1 (Jvm.Cond.code y bytes maxL ret :: ws) rm) (fun a U => a = as ∧ Z.Warmed39 U.vm ∧ U.heap = h0) (fun _ _ _ _ _ => True) (fun _ U o U' => ∃ v L, o = .returned v ∧ Q v U'.heap L ∧ FrameEnd U o U' L rm.cells rm.slots)
/-! own: an array whose whole contents are known -/
def Av (Z : State) (h : Heap) (a : Addr) (ty : FieldType) (vs : List Value) : Prop := ∃ c : Cell, Arr Z h a c ty ∧ c.slots.toList = vs
theorem Av.lt {Z : State} {h : Heap} {a : Addr} {ty : FieldType} {vs : List Value} (A : Av Z h a ty vs) : a < h.size := by obtain ⟨c, q, -⟩ := A; exact q.lt
theorem Av.ext {Z : State} {h h' : Heap} {a : Addr} {ty : FieldType} {vs : List Value} (A : Av Z h a ty vs) (E : Ext h h') : Av Z h' a ty vs := by obtain ⟨c, q, r⟩ := A; exact ⟨c, q.ext E, r⟩
theorem Av.other {Z : State} {h h' : Heap} {a b : Addr} {ty : FieldType} {vs : List Value} {sl : Nat} {v : Value} (A : Av Z h b ty vs) (W : Wr h h' a sl v) (q : b ≠ a) : Av Z h' b ty vs := by obtain ⟨c, q1, r⟩ := A; exact ⟨c, q1.other W q, r⟩
theorem Av.keep {Z : State} {h h' : Heap} {a : Addr} {ty : FieldType} {vs : List Value} {ws : List Addr} (A : Av Z h a ty vs) (K : Keep h h' ws) (q : a ∉ ws) : Av Z h' a ty vs := by obtain ⟨c, q1, r⟩ := A; exact ⟨c, ⟨K.2.1 a c q1.1 q, q1.2⟩, r⟩
theorem Av.set {Z : State} {h h' : Heap} {a : Addr} {ty : FieldType} {vs : List Value} {i : Nat} {v : Value} (A : Av Z h a ty vs) (W : Wr h h' a i v) : Av Z h' a ty (vs.set i v) := by
  obtain ⟨c, q, rfl⟩ := A
  exact ⟨_, q.same W, by simp [Cell.setSlot]⟩
theorem Av.inb {Z : State} {h : Heap} {a : Addr} {ty : FieldType} {vs : List Value} {c : Cell} (q : c.slots.toList = vs) {j : Int32} {i : Nat} (hi : j.toNatClampNeg = i) (h0 : ¬ j < 0) (hl : i < vs.length) : ¬ (j < 0 ∨ c.slots.size ≤ j.toNatClampNeg) := by
  subst q hi
  simp only [Array.length_toList] at hl
  exact fun z => z.elim h0 (fun w => absurd hl (Nat.not_lt.mpr w))
section OwnKit
variable {p : Program} {l : Launch} {e : Env} {R : Room} {s : State} {m : MethodId} {args : Array Value} {below : List Frame} {meth : Method} {c : Code} {T : State} {locs : List Loc} {cells slots : Nat} {Z : State} {a0 : Array Value} {h : Heap} {P : State → Outcome → Prop} {pc : Nat} {Ls : Array Slot} {st rest : List Value} {own nm : String} {bytes : ByteArray} {maxL : Nat} {ret : Option FieldType}
theorem Bo.x (B : Bo Z p s m meth c own nm bytes maxL ret) : p.tables.exec = Jvm.exec := B.1
theorem Bo.z (B : Bo Z p s m meth c own nm bytes maxL ret) : Z.Warmed39 s.vm := B.2.2.2.1
theorem Bo.o (B : Bo Z p s m meth c own nm bytes maxL ret) : s.vm.findClass own = some m.cls := B.2.2.2.2.1
theorem Bo.d (B : Bo Z p s m meth c own nm bytes maxL ret) {r : Except ClassFile.DecodeError (ClassFile.Instr × Nat)} (q : decode bytes pc = r) : decode c.code pc = r := hb B.2.1 q
theorem Bo.n (B : Bo Z p s m meth c own nm bytes maxL ret) : meth.name = nm := B.2.2.2.2.2.1
theorem Bo.r (B : Bo Z p s m meth c own nm bytes maxL ret) : meth.sig.returnType = ret := B.2.2.2.2.2.2.1
theorem Bo.lk (B : Bo Z p s m meth c own nm bytes maxL ret) : meth.locks = false := B.2.2.2.2.2.2.2
theorem Bo.mx (B : Bo Z p s m meth c own nm bytes maxL ret) (q : Ls.size = maxL) {pc : Nat} {st : List Value} : (mkF m pc Ls st).locals.size = c.maxLocals := by rw [B.2.2.1]; exact q
theorem Go.via {A A' : State} (q : ∀ t, Steps p.tables e below A' t → Steps p.tables e below A t) (g : Go p e below P A') : Go p e below P A := by
  obtain ⟨t, o, h1, h2⟩ := g
  exact ⟨t, o, q t h1, h2⟩
theorem Go.cast {f f' : JFrame} (q : f = f') (g : Go p e below P (T.setTop f')) : Go p e below P (T.setTop f) := q ▸ g
theorem Ctr.of {y : MethodName} {rm : Room} {as : Array Value} {h0 : Heap} {Q : Option Value → Heap → List Loc → Prop} (hn : plainFor y = true)
    (body : ∀ (p : Program) (e : Env) (s : State) (m : MethodId) (below : List Frame) (meth : Method) (c : Code) (T : State), Stand p l e rm s m as below meth c T [] 0 0 → Bo Z p s m meth c y.cls y.name bytes maxL ret → T.heap = h0 → Go p e below (EndsQ s Q rm.cells rm.slots) (T.setTop (entryFrame m as maxL))) :
    Ctr l Z y bytes maxL ret rm as h0 Q := by
  intro ws
  refine MetFree.of_bodySF hn hisR ?_
  intro p e s m args below meth c s₁ Bd hml0 hP hK
  obtain ⟨rfl, hZ, hh⟩ := hP
  exact body p e s m below meth c s₁ (Stand.of_body Bd) ⟨Bd.exec, Bd.bytes, hml0, hZ, findClass_of_methodNamed Bd.named, (name_of_methodNamed Bd.named Bd.method).1, Bd.returns, BodyLoose.notSynchronized Bd⟩ (by rw [← hh, Bd.state]; rfl)
theorem Ctr.back {y : MethodName} {rm : Room} {as : Array Value} {Q : Option Value → Heap → List Loc → Prop} {W len : Nat} (C : Ctr l Z y bytes maxL ret rm as h Q) (hZ : Z.Warmed39 s.vm) (wc : (Jvm.Cond.code y bytes maxL ret).before a0 Z = true) (wz : (Jvm.Cond.initialized y.cls).before a0 Z = true) (hf : rm.frames + 1 ≤ R.frames) (hl : W + (maxL + 11) + rm.locals ≤ R.locals) :
    Back l R p e below s args y len W (fun A a => a = as ∧ A.U.heap = h ∧ A.cells + rm.cells ≤ R.cells ∧ A.slots + rm.slots ≤ R.slots)
      (fun A _ v B => ∃ L, Q v B.U.heap L ∧ B.locs = A.locs ++ L ∧ B.cells = A.cells + rm.cells ∧ B.slots = A.slots + rm.slots) := backOf (C []) hZ wc wz hf hl
theorem g_iloadN (X : Stand p l e R s m args below meth c T locs cells slots) (B : Bo Z p s m meth c own nm bytes maxL ret) {k : Fin 4} {v : Int32} (q : decode bytes pc = .ok (.iload_n k, 1)) (pc' : Nat) (hp : pc + 1 = pc') (u : Ls[k.val]? = some (.val (.int v))) (g : Go p e below P (T.setTop (mkF m pc' Ls (.int v :: st)))) : Go p e below P (T.setTop (mkF m pc Ls st)) := by
  subst hp
  exact g.via fun _ => XS.iloadN X.here B.x rfl (B.d q) u
theorem g_iload (X : Stand p l e R s m args below meth c T locs cells slots) (B : Bo Z p s m meth c own nm bytes maxL ret) {k : Nat} {v : Int32} (q : decode bytes pc = .ok (.iload k, 2)) (pc' : Nat) (hp : pc + 2 = pc') (u : Ls[k]? = some (.val (.int v))) (g : Go p e below P (T.setTop (mkF m pc' Ls (.int v :: st)))) : Go p e below P (T.setTop (mkF m pc Ls st)) := by
  subst hp
  exact g.via fun _ => XS.iload X.here B.x rfl (B.d q) u
theorem g_aloadN (X : Stand p l e R s m args below meth c T locs cells slots) (B : Bo Z p s m meth c own nm bytes maxL ret) {k : Fin 4} {v : Value} (q : decode bytes pc = .ok (.aload_n k, 1)) (pc' : Nat) (hp : pc + 1 = pc') (u : Ls[k.val]? = some (.val v)) (i : v.isRef = true) (g : Go p e below P (T.setTop (mkF m pc' Ls (v :: st)))) : Go p e below P (T.setTop (mkF m pc Ls st)) := by
  subst hp
  exact g.via fun _ => XS.aloadN X.here B.x rfl (B.d q) u i
theorem g_aload (X : Stand p l e R s m args below meth c T locs cells slots) (B : Bo Z p s m meth c own nm bytes maxL ret) {k : Nat} {v : Value} (q : decode bytes pc = .ok (.aload k, 2)) (pc' : Nat) (hp : pc + 2 = pc') (u : Ls[k]? = some (.val v)) (i : v.isRef = true) (g : Go p e below P (T.setTop (mkF m pc' Ls (v :: st)))) : Go p e below P (T.setTop (mkF m pc Ls st)) := by
  subst hp
  exact g.via fun _ => XS.aload X.here B.x rfl (B.d q) u i
theorem g_lloadN (X : Stand p l e R s m args below meth c T locs cells slots) (B : Bo Z p s m meth c own nm bytes maxL ret) {k : Fin 4} {v : Int64} (q : decode bytes pc = .ok (.lload_n k, 1)) (pc' : Nat) (hp : pc + 1 = pc') (u : Ls[k.val]? = some (.val (.long v))) (g : Go p e below P (T.setTop (mkF m pc' Ls (.long v :: st)))) : Go p e below P (T.setTop (mkF m pc Ls st)) := by
  subst hp
  exact g.via fun _ => XT.lloadN X.here B.x rfl (B.d q) u
theorem g_lload (X : Stand p l e R s m args below meth c T locs cells slots) (B : Bo Z p s m meth c own nm bytes maxL ret) {k : Nat} {v : Int64} (q : decode bytes pc = .ok (.lload k, 2)) (pc' : Nat) (hp : pc + 2 = pc') (u : Ls[k]? = some (.val (.long v))) (g : Go p e below P (T.setTop (mkF m pc' Ls (.long v :: st)))) : Go p e below P (T.setTop (mkF m pc Ls st)) := by
  subst hp
  exact g.via fun _ => XT.lload X.here B.x rfl (B.d q) u
theorem g_istoreN (X : Stand p l e R s m args below meth c T locs cells slots) (B : Bo Z p s m meth c own nm bytes maxL ret) {k : Fin 4} {x : Int32} (l' : Array Slot) (q : decode bytes pc = .ok (.istore_n k, 1)) (pc' : Nat) (hp : pc + 1 = pc') (u : storeLocals Ls k.val (.int x) = some l') (g : Go p e below P (T.setTop (mkF m pc' l' st))) : Go p e below P (T.setTop (mkF m pc Ls (.int x :: st))) := by
  subst hp
  exact g.via fun _ => XS.istoreN X.here B.x rfl (B.d q) rfl u
theorem g_istore (X : Stand p l e R s m args below meth c T locs cells slots) (B : Bo Z p s m meth c own nm bytes maxL ret) {k : Nat} {x : Int32} (l' : Array Slot) (q : decode bytes pc = .ok (.istore k, 2)) (pc' : Nat) (hp : pc + 2 = pc') (u : storeLocals Ls k (.int x) = some l') (g : Go p e below P (T.setTop (mkF m pc' l' st))) : Go p e below P (T.setTop (mkF m pc Ls (.int x :: st))) := by
  subst hp
  exact g.via fun _ => XS.istore X.here B.x rfl (B.d q) rfl u
theorem g_astoreN (X : Stand p l e R s m args below meth c T locs cells slots) (B : Bo Z p s m meth c own nm bytes maxL ret) {k : Fin 4} {x : Value} (l' : Array Slot) (q : decode bytes pc = .ok (.astore_n k, 1)) (pc' : Nat) (hp : pc + 1 = pc') (i : x.isRef = true) (u : storeLocals Ls k.val x = some l') (g : Go p e below P (T.setTop (mkF m pc' l' st))) : Go p e below P (T.setTop (mkF m pc Ls (x :: st))) := by
  subst hp
  exact g.via fun _ => XS.astoreN X.here B.x rfl (B.d q) rfl i u
theorem g_astore (X : Stand p l e R s m args below meth c T locs cells slots) (B : Bo Z p s m meth c own nm bytes maxL ret) {k : Nat} {x : Value} (l' : Array Slot) (q : decode bytes pc = .ok (.astore k, 2)) (pc' : Nat) (hp : pc + 2 = pc') (i : x.isRef = true) (u : storeLocals Ls k x = some l') (g : Go p e below P (T.setTop (mkF m pc' l' st))) : Go p e below P (T.setTop (mkF m pc Ls (x :: st))) := by
  subst hp
  exact g.via fun _ => XS.astore X.here B.x rfl (B.d q) rfl i u
theorem g_lstoreN (X : Stand p l e R s m args below meth c T locs cells slots) (B : Bo Z p s m meth c own nm bytes maxL ret) {k : Fin 4} {x : Int64} (l' : Array Slot) (q : decode bytes pc = .ok (.lstore_n k, 1)) (pc' : Nat) (hp : pc + 1 = pc') (u : storeLocals Ls k.val (.long x) = some l') (g : Go p e below P (T.setTop (mkF m pc' l' st))) : Go p e below P (T.setTop (mkF m pc Ls (.long x :: st))) := by
  subst hp
  exact g.via fun _ => XT.lstoreN X.here B.x rfl (B.d q) rfl u
theorem g_lstore (X : Stand p l e R s m args below meth c T locs cells slots) (B : Bo Z p s m meth c own nm bytes maxL ret) {k : Nat} {x : Int64} (l' : Array Slot) (q : decode bytes pc = .ok (.lstore k, 2)) (pc' : Nat) (hp : pc + 2 = pc') (u : storeLocals Ls k (.long x) = some l') (g : Go p e below P (T.setTop (mkF m pc' l' st))) : Go p e below P (T.setTop (mkF m pc Ls (.long x :: st))) := by
  subst hp
  exact g.via fun _ => XT.lstore X.here B.x rfl (B.d q) rfl u
theorem g_iconst (X : Stand p l e R s m args below meth c T locs cells slots) (B : Bo Z p s m meth c own nm bytes maxL ret) {i : Int} (v : Int32) (q : decode bytes pc = .ok (.iconst i, 1)) (pc' : Nat) (hp : pc + 1 = pc') (u : Int32.ofInt i = v) (g : Go p e below P (T.setTop (mkF m pc' Ls (.int v :: st)))) : Go p e below P (T.setTop (mkF m pc Ls st)) := by
  subst hp
  exact g.via fun _ => XT.iconstV X.here B.x rfl v (B.d q) u
theorem g_bipush (X : Stand p l e R s m args below meth c T locs cells slots) (B : Bo Z p s m meth c own nm bytes maxL ret) {i : Int} (v : Int32) (q : decode bytes pc = .ok (.bipush i, 2)) (pc' : Nat) (hp : pc + 2 = pc') (u : (Int8.ofInt i).toInt32 = v) (g : Go p e below P (T.setTop (mkF m pc' Ls (.int v :: st)))) : Go p e below P (T.setTop (mkF m pc Ls st)) := by
  subst hp
  exact g.via fun _ => XT.bipushV X.here B.x rfl v (B.d q) u
theorem g_sipush (X : Stand p l e R s m args below meth c T locs cells slots) (B : Bo Z p s m meth c own nm bytes maxL ret) {i : Int} (v : Int32) (q : decode bytes pc = .ok (.sipush i, 3)) (pc' : Nat) (hp : pc + 3 = pc') (u : (Int16.ofInt i).toInt32 = v) (g : Go p e below P (T.setTop (mkF m pc' Ls (.int v :: st)))) : Go p e below P (T.setTop (mkF m pc Ls st)) := by
  subst hp
  exact g.via fun _ => XT.sipushV X.here B.x rfl v (B.d q) u
theorem g_lconst (X : Stand p l e R s m args below meth c T locs cells slots) (B : Bo Z p s m meth c own nm bytes maxL ret) {k : Fin 2} (v : Int64) (q : decode bytes pc = .ok (.lconst k, 1)) (pc' : Nat) (hp : pc + 1 = pc') (u : Int64.ofNat k = v) (g : Go p e below P (T.setTop (mkF m pc' Ls (.long v :: st)))) : Go p e below P (T.setTop (mkF m pc Ls st)) := by
  subst hp
  exact g.via fun _ => XT.lconstV X.here B.x rfl v (B.d q) u
theorem g_aconstNull (X : Stand p l e R s m args below meth c T locs cells slots) (B : Bo Z p s m meth c own nm bytes maxL ret)  (q : decode bytes pc = .ok (.aconst_null, 1)) (pc' : Nat) (hp : pc + 1 = pc')  (g : Go p e below P (T.setTop (mkF m pc' Ls (.null :: st)))) : Go p e below P (T.setTop (mkF m pc Ls st)) := by
  subst hp
  exact g.via fun _ => XS.aconstNull X.here B.x rfl (B.d q)
theorem g_iadd (X : Stand p l e R s m args below meth c T locs cells slots) (B : Bo Z p s m meth c own nm bytes maxL ret) {x y : Int32} (q : decode bytes pc = .ok (.iadd, 1)) (pc' : Nat) (hp : pc + 1 = pc')  (g : Go p e below P (T.setTop (mkF m pc' Ls (.int (x + y) :: st)))) : Go p e below P (T.setTop (mkF m pc Ls (.int y :: .int x :: st))) := by
  subst hp
  exact g.via fun _ => XS.iadd X.here B.x rfl (B.d q) rfl
theorem g_isub (X : Stand p l e R s m args below meth c T locs cells slots) (B : Bo Z p s m meth c own nm bytes maxL ret) {x y : Int32} (q : decode bytes pc = .ok (.isub, 1)) (pc' : Nat) (hp : pc + 1 = pc')  (g : Go p e below P (T.setTop (mkF m pc' Ls (.int (x - y) :: st)))) : Go p e below P (T.setTop (mkF m pc Ls (.int y :: .int x :: st))) := by
  subst hp
  exact g.via fun _ => XS.isub X.here B.x rfl (B.d q) rfl
theorem g_imul (X : Stand p l e R s m args below meth c T locs cells slots) (B : Bo Z p s m meth c own nm bytes maxL ret) {x y : Int32} (q : decode bytes pc = .ok (.imul, 1)) (pc' : Nat) (hp : pc + 1 = pc')  (g : Go p e below P (T.setTop (mkF m pc' Ls (.int (x * y) :: st)))) : Go p e below P (T.setTop (mkF m pc Ls (.int y :: .int x :: st))) := by
  subst hp
  exact g.via fun _ => XS.imul X.here B.x rfl (B.d q) rfl
theorem g_iand (X : Stand p l e R s m args below meth c T locs cells slots) (B : Bo Z p s m meth c own nm bytes maxL ret) {x y : Int32} (q : decode bytes pc = .ok (.iand, 1)) (pc' : Nat) (hp : pc + 1 = pc')  (g : Go p e below P (T.setTop (mkF m pc' Ls (.int (x &&& y) :: st)))) : Go p e below P (T.setTop (mkF m pc Ls (.int y :: .int x :: st))) := by
  subst hp
  exact g.via fun _ => XS.iand X.here B.x rfl (B.d q) rfl
theorem g_ixor (X : Stand p l e R s m args below meth c T locs cells slots) (B : Bo Z p s m meth c own nm bytes maxL ret) {x y : Int32} (q : decode bytes pc = .ok (.ixor, 1)) (pc' : Nat) (hp : pc + 1 = pc')  (g : Go p e below P (T.setTop (mkF m pc' Ls (.int (x ^^^ y) :: st)))) : Go p e below P (T.setTop (mkF m pc Ls (.int y :: .int x :: st))) := by
  subst hp
  exact g.via fun _ => XT.ixor X.here B.x rfl (B.d q) rfl
theorem g_ior (X : Stand p l e R s m args below meth c T locs cells slots) (B : Bo Z p s m meth c own nm bytes maxL ret) {x y : Int32} (q : decode bytes pc = .ok (.ior, 1)) (pc' : Nat) (hp : pc + 1 = pc')  (g : Go p e below P (T.setTop (mkF m pc' Ls (.int (x ||| y) :: st)))) : Go p e below P (T.setTop (mkF m pc Ls (.int y :: .int x :: st))) := by
  subst hp
  exact g.via fun _ => XT.ior X.here B.x rfl (B.d q) rfl
theorem g_ishl (X : Stand p l e R s m args below meth c T locs cells slots) (B : Bo Z p s m meth c own nm bytes maxL ret) {x y : Int32} (q : decode bytes pc = .ok (.ishl, 1)) (pc' : Nat) (hp : pc + 1 = pc')  (g : Go p e below P (T.setTop (mkF m pc' Ls (.int (x <<< (y &&& 31)) :: st)))) : Go p e below P (T.setTop (mkF m pc Ls (.int y :: .int x :: st))) := by
  subst hp
  exact g.via fun _ => XT.ishl X.here B.x rfl (B.d q) rfl
theorem g_ishr (X : Stand p l e R s m args below meth c T locs cells slots) (B : Bo Z p s m meth c own nm bytes maxL ret) {x y : Int32} (q : decode bytes pc = .ok (.ishr, 1)) (pc' : Nat) (hp : pc + 1 = pc')  (g : Go p e below P (T.setTop (mkF m pc' Ls (.int (x >>> (y &&& 31)) :: st)))) : Go p e below P (T.setTop (mkF m pc Ls (.int y :: .int x :: st))) := by
  subst hp
  exact g.via fun _ => XT.ishr X.here B.x rfl (B.d q) rfl
theorem g_iushr (X : Stand p l e R s m args below meth c T locs cells slots) (B : Bo Z p s m meth c own nm bytes maxL ret) {x y : Int32} (q : decode bytes pc = .ok (.iushr, 1)) (pc' : Nat) (hp : pc + 1 = pc')  (g : Go p e below P (T.setTop (mkF m pc' Ls (.int (XT.ushr x y) :: st)))) : Go p e below P (T.setTop (mkF m pc Ls (.int y :: .int x :: st))) := by
  subst hp
  exact g.via fun _ => XT.iushr X.here B.x rfl (B.d q) rfl
theorem g_idiv (X : Stand p l e R s m args below meth c T locs cells slots) (B : Bo Z p s m meth c own nm bytes maxL ret) {x y : Int32} (q : decode bytes pc = .ok (.idiv, 1)) (pc' : Nat) (hp : pc + 1 = pc') (u : y ≠ 0) (g : Go p e below P (T.setTop (mkF m pc' Ls (.int (x / y) :: st)))) : Go p e below P (T.setTop (mkF m pc Ls (.int y :: .int x :: st))) := by
  subst hp
  exact g.via fun _ => XS.idiv X.here B.x rfl (B.d q) rfl u
theorem g_irem (X : Stand p l e R s m args below meth c T locs cells slots) (B : Bo Z p s m meth c own nm bytes maxL ret) {x y : Int32} (q : decode bytes pc = .ok (.irem, 1)) (pc' : Nat) (hp : pc + 1 = pc') (u : y ≠ 0) (g : Go p e below P (T.setTop (mkF m pc' Ls (.int (x % y) :: st)))) : Go p e below P (T.setTop (mkF m pc Ls (.int y :: .int x :: st))) := by
  subst hp
  exact g.via fun _ => iremM X B.x rfl (B.d q) rfl u
theorem g_ineg (X : Stand p l e R s m args below meth c T locs cells slots) (B : Bo Z p s m meth c own nm bytes maxL ret) {x : Int32} (q : decode bytes pc = .ok (.ineg, 1)) (pc' : Nat) (hp : pc + 1 = pc')  (g : Go p e below P (T.setTop (mkF m pc' Ls (.int (-x) :: st)))) : Go p e below P (T.setTop (mkF m pc Ls (.int x :: st))) := by
  subst hp
  exact g.via fun _ => XS.ineg X.here B.x rfl (B.d q) rfl
theorem g_iinc (X : Stand p l e R s m args below meth c T locs cells slots) (B : Bo Z p s m meth c own nm bytes maxL ret) {k : Nat} {cst : Int} {x : Int32} (l' : Array Slot) (v : Int32) (q : decode bytes pc = .ok (.iinc k cst, 3)) (pc' : Nat) (hp : pc + 3 = pc') (w : Int32.ofInt cst = v) (u : Ls[k]? = some (.val (.int x))) (u2 : storeLocals Ls k (.int (x + v)) = some l') (g : Go p e below P (T.setTop (mkF m pc' l' st))) : Go p e below P (T.setTop (mkF m pc Ls st)) := by
  subst hp
  exact g.via fun _ => XT.iincV X.here B.x rfl v (B.d q) w u u2
theorem g_ladd (X : Stand p l e R s m args below meth c T locs cells slots) (B : Bo Z p s m meth c own nm bytes maxL ret) {x y : Int64} (q : decode bytes pc = .ok (.ladd, 1)) (pc' : Nat) (hp : pc + 1 = pc')  (g : Go p e below P (T.setTop (mkF m pc' Ls (.long (x + y) :: st)))) : Go p e below P (T.setTop (mkF m pc Ls (.long y :: .long x :: st))) := by
  subst hp
  exact g.via fun _ => XT.ladd X.here B.x rfl (B.d q) rfl
theorem g_lsub (X : Stand p l e R s m args below meth c T locs cells slots) (B : Bo Z p s m meth c own nm bytes maxL ret) {x y : Int64} (q : decode bytes pc = .ok (.lsub, 1)) (pc' : Nat) (hp : pc + 1 = pc')  (g : Go p e below P (T.setTop (mkF m pc' Ls (.long (x - y) :: st)))) : Go p e below P (T.setTop (mkF m pc Ls (.long y :: .long x :: st))) := by
  subst hp
  exact g.via fun _ => XT.lsub X.here B.x rfl (B.d q) rfl
theorem g_land (X : Stand p l e R s m args below meth c T locs cells slots) (B : Bo Z p s m meth c own nm bytes maxL ret) {x y : Int64} (q : decode bytes pc = .ok (.land, 1)) (pc' : Nat) (hp : pc + 1 = pc')  (g : Go p e below P (T.setTop (mkF m pc' Ls (.long (x &&& y) :: st)))) : Go p e below P (T.setTop (mkF m pc Ls (.long y :: .long x :: st))) := by
  subst hp
  exact g.via fun _ => XT.land X.here B.x rfl (B.d q) rfl
theorem g_lor (X : Stand p l e R s m args below meth c T locs cells slots) (B : Bo Z p s m meth c own nm bytes maxL ret) {x y : Int64} (q : decode bytes pc = .ok (.lor, 1)) (pc' : Nat) (hp : pc + 1 = pc')  (g : Go p e below P (T.setTop (mkF m pc' Ls (.long (x ||| y) :: st)))) : Go p e below P (T.setTop (mkF m pc Ls (.long y :: .long x :: st))) := by
  subst hp
  exact g.via fun _ => XT.lor X.here B.x rfl (B.d q) rfl
theorem g_lxor (X : Stand p l e R s m args below meth c T locs cells slots) (B : Bo Z p s m meth c own nm bytes maxL ret) {x y : Int64} (q : decode bytes pc = .ok (.lxor, 1)) (pc' : Nat) (hp : pc + 1 = pc')  (g : Go p e below P (T.setTop (mkF m pc' Ls (.long (x ^^^ y) :: st)))) : Go p e below P (T.setTop (mkF m pc Ls (.long y :: .long x :: st))) := by
  subst hp
  exact g.via fun _ => XT.lxor X.here B.x rfl (B.d q) rfl
theorem g_lmul (X : Stand p l e R s m args below meth c T locs cells slots) (B : Bo Z p s m meth c own nm bytes maxL ret) {x y : Int64} (q : decode bytes pc = .ok (.lmul, 1)) (pc' : Nat) (hp : pc + 1 = pc')  (g : Go p e below P (T.setTop (mkF m pc' Ls (.long (x * y) :: st)))) : Go p e below P (T.setTop (mkF m pc Ls (.long y :: .long x :: st))) := by
  subst hp
  exact g.via fun _ => XT.lmul X.here B.x rfl (B.d q) rfl
theorem g_i2b (X : Stand p l e R s m args below meth c T locs cells slots) (B : Bo Z p s m meth c own nm bytes maxL ret) {x : Int32} (q : decode bytes pc = .ok (.i2b, 1)) (pc' : Nat) (hp : pc + 1 = pc')  (g : Go p e below P (T.setTop (mkF m pc' Ls (.int (x.toInt8.toInt32) :: st)))) : Go p e below P (T.setTop (mkF m pc Ls (.int x :: st))) := by
  subst hp
  exact g.via fun _ => XT.i2b X.here B.x rfl (B.d q) rfl
theorem g_i2c (X : Stand p l e R s m args below meth c T locs cells slots) (B : Bo Z p s m meth c own nm bytes maxL ret) {x : Int32} (q : decode bytes pc = .ok (.i2c, 1)) (pc' : Nat) (hp : pc + 1 = pc')  (g : Go p e below P (T.setTop (mkF m pc' Ls (.int (x.toUInt32.toUInt16.toUInt32.toInt32) :: st)))) : Go p e below P (T.setTop (mkF m pc Ls (.int x :: st))) := by
  subst hp
  exact g.via fun _ => XT.i2c X.here B.x rfl (B.d q) rfl
theorem g_i2l (X : Stand p l e R s m args below meth c T locs cells slots) (B : Bo Z p s m meth c own nm bytes maxL ret) {x : Int32} (q : decode bytes pc = .ok (.i2l, 1)) (pc' : Nat) (hp : pc + 1 = pc')  (g : Go p e below P (T.setTop (mkF m pc' Ls (.long (x.toInt64) :: st)))) : Go p e below P (T.setTop (mkF m pc Ls (.int x :: st))) := by
  subst hp
  exact g.via fun _ => XT.i2l X.here B.x rfl (B.d q) rfl
theorem g_l2i (X : Stand p l e R s m args below meth c T locs cells slots) (B : Bo Z p s m meth c own nm bytes maxL ret) {x : Int64} (q : decode bytes pc = .ok (.l2i, 1)) (pc' : Nat) (hp : pc + 1 = pc')  (g : Go p e below P (T.setTop (mkF m pc' Ls (.int (x.toInt32) :: st)))) : Go p e below P (T.setTop (mkF m pc Ls (.long x :: st))) := by
  subst hp
  exact g.via fun _ => XT.l2i X.here B.x rfl (B.d q) rfl
theorem g_dup (X : Stand p l e R s m args below meth c T locs cells slots) (B : Bo Z p s m meth c own nm bytes maxL ret) {x : Value} (q : decode bytes pc = .ok (.dup, 1)) (pc' : Nat) (hp : pc + 1 = pc') (u : x.category = 1) (g : Go p e below P (T.setTop (mkF m pc' Ls (x :: x :: st)))) : Go p e below P (T.setTop (mkF m pc Ls (x :: st))) := by
  subst hp
  exact g.via fun _ => XS.dup X.here B.x rfl (B.d q) rfl u
theorem g_pop (X : Stand p l e R s m args below meth c T locs cells slots) (B : Bo Z p s m meth c own nm bytes maxL ret) {x : Value} (q : decode bytes pc = .ok (.pop, 1)) (pc' : Nat) (hp : pc + 1 = pc') (u : x.category = 1) (g : Go p e below P (T.setTop (mkF m pc' Ls st))) : Go p e below P (T.setTop (mkF m pc Ls (x :: st))) := by
  subst hp
  exact g.via fun _ => XT.pop X.here B.x rfl (B.d q) rfl u
theorem g_goto (X : Stand p l e R s m args below meth c T locs cells slots) (B : Bo Z p s m meth c own nm bytes maxL ret) {o : Int} (q : decode bytes pc = .ok (.goto o, 3)) (pc' : Nat) (hp : ((pc : Int) + o).toNat = pc') (ho : 0 ≤ (pc : Int) + o) (g : Go p e below P (T.setTop (mkF m pc' Ls st))) : Go p e below P (T.setTop (mkF m pc Ls st)) := g.via fun _ => XS.goto X.here B.x rfl rfl (B.d q) ho hp
theorem g_icmp_eq (X : Stand p l e R s m args below meth c T locs cells slots) (B : Bo Z p s m meth c own nm bytes maxL ret) {o : Int} {x y : Int32} (q : decode bytes pc = .ok (.if_icmp .eq o, 3)) (pt pf : Nat) (hp : ((pc : Int) + o).toNat = pt) (ho : 0 ≤ (pc : Int) + o) (hf : pc + 3 = pf) (g1 : x = y → Go p e below P (T.setTop (mkF m pt Ls st))) (g2 : ¬ x = y → Go p e below P (T.setTop (mkF m pf Ls st))) : Go p e below P (T.setTop (mkF m pc Ls (.int y :: .int x :: st))) := by
  subst hf
  by_cases w : x = y
  · exact (g1 w).via fun _ => XS.icmpYes X.here B.x rfl rfl (B.d q) rfl (by simp [if_icmp.holds, w, Int32.not_lt, Int32.not_le]) ho hp
  · exact (g2 w).via fun _ => XS.icmpNo X.here B.x rfl (B.d q) rfl (by simp [if_icmp.holds, w, Int32.not_lt, Int32.not_le])
theorem g_icmp_ne (X : Stand p l e R s m args below meth c T locs cells slots) (B : Bo Z p s m meth c own nm bytes maxL ret) {o : Int} {x y : Int32} (q : decode bytes pc = .ok (.if_icmp .ne o, 3)) (pt pf : Nat) (hp : ((pc : Int) + o).toNat = pt) (ho : 0 ≤ (pc : Int) + o) (hf : pc + 3 = pf) (g1 : ¬ x = y → Go p e below P (T.setTop (mkF m pt Ls st))) (g2 : x = y → Go p e below P (T.setTop (mkF m pf Ls st))) : Go p e below P (T.setTop (mkF m pc Ls (.int y :: .int x :: st))) := by
  subst hf
  by_cases w : x = y
  · exact (g2 w).via fun _ => XS.icmpNo X.here B.x rfl (B.d q) rfl (by simp [if_icmp.holds, w, Int32.not_lt, Int32.not_le])
  · exact (g1 w).via fun _ => XS.icmpYes X.here B.x rfl rfl (B.d q) rfl (by simpa [if_icmp.holds, Int32.not_lt, Int32.not_le] using w) ho hp
theorem g_icmp_lt (X : Stand p l e R s m args below meth c T locs cells slots) (B : Bo Z p s m meth c own nm bytes maxL ret) {o : Int} {x y : Int32} (q : decode bytes pc = .ok (.if_icmp .lt o, 3)) (pt pf : Nat) (hp : ((pc : Int) + o).toNat = pt) (ho : 0 ≤ (pc : Int) + o) (hf : pc + 3 = pf) (g1 : x < y → Go p e below P (T.setTop (mkF m pt Ls st))) (g2 : ¬ x < y → Go p e below P (T.setTop (mkF m pf Ls st))) : Go p e below P (T.setTop (mkF m pc Ls (.int y :: .int x :: st))) := by
  subst hf
  by_cases w : x < y
  · exact (g1 w).via fun _ => XS.icmpYes X.here B.x rfl rfl (B.d q) rfl (by simp [if_icmp.holds, w, Int32.not_lt, Int32.not_le]) ho hp
  · exact (g2 w).via fun _ => XS.icmpNo X.here B.x rfl (B.d q) rfl (by simp [if_icmp.holds, w, Int32.not_lt, Int32.not_le])
theorem g_icmp_ge (X : Stand p l e R s m args below meth c T locs cells slots) (B : Bo Z p s m meth c own nm bytes maxL ret) {o : Int} {x y : Int32} (q : decode bytes pc = .ok (.if_icmp .ge o, 3)) (pt pf : Nat) (hp : ((pc : Int) + o).toNat = pt) (ho : 0 ≤ (pc : Int) + o) (hf : pc + 3 = pf) (g1 : ¬ x < y → Go p e below P (T.setTop (mkF m pt Ls st))) (g2 : x < y → Go p e below P (T.setTop (mkF m pf Ls st))) : Go p e below P (T.setTop (mkF m pc Ls (.int y :: .int x :: st))) := by
  subst hf
  by_cases w : x < y
  · exact (g2 w).via fun _ => XS.icmpNo X.here B.x rfl (B.d q) rfl (by simp [if_icmp.holds, w, Int32.not_lt, Int32.not_le])
  · exact (g1 w).via fun _ => XS.icmpYes X.here B.x rfl rfl (B.d q) rfl (by simpa [if_icmp.holds, Int32.not_lt, Int32.not_le] using w) ho hp
theorem g_icmp_gt (X : Stand p l e R s m args below meth c T locs cells slots) (B : Bo Z p s m meth c own nm bytes maxL ret) {o : Int} {x y : Int32} (q : decode bytes pc = .ok (.if_icmp .gt o, 3)) (pt pf : Nat) (hp : ((pc : Int) + o).toNat = pt) (ho : 0 ≤ (pc : Int) + o) (hf : pc + 3 = pf) (g1 : y < x → Go p e below P (T.setTop (mkF m pt Ls st))) (g2 : ¬ y < x → Go p e below P (T.setTop (mkF m pf Ls st))) : Go p e below P (T.setTop (mkF m pc Ls (.int y :: .int x :: st))) := by
  subst hf
  by_cases w : y < x
  · exact (g1 w).via fun _ => XS.icmpYes X.here B.x rfl rfl (B.d q) rfl (by simp [if_icmp.holds, w, Int32.not_lt, Int32.not_le]) ho hp
  · exact (g2 w).via fun _ => XS.icmpNo X.here B.x rfl (B.d q) rfl (by simp [if_icmp.holds, w, Int32.not_lt, Int32.not_le])
theorem g_icmp_le (X : Stand p l e R s m args below meth c T locs cells slots) (B : Bo Z p s m meth c own nm bytes maxL ret) {o : Int} {x y : Int32} (q : decode bytes pc = .ok (.if_icmp .le o, 3)) (pt pf : Nat) (hp : ((pc : Int) + o).toNat = pt) (ho : 0 ≤ (pc : Int) + o) (hf : pc + 3 = pf) (g1 : ¬ y < x → Go p e below P (T.setTop (mkF m pt Ls st))) (g2 : y < x → Go p e below P (T.setTop (mkF m pf Ls st))) : Go p e below P (T.setTop (mkF m pc Ls (.int y :: .int x :: st))) := by
  subst hf
  by_cases w : y < x
  · exact (g2 w).via fun _ => XS.icmpNo X.here B.x rfl (B.d q) rfl (by simp [if_icmp.holds, w, Int32.not_lt, Int32.not_le])
  · exact (g1 w).via fun _ => XS.icmpYes X.here B.x rfl rfl (B.d q) rfl (by simpa [if_icmp.holds, Int32.not_lt, Int32.not_le] using w) ho hp
theorem g_if_eq (X : Stand p l e R s m args below meth c T locs cells slots) (B : Bo Z p s m meth c own nm bytes maxL ret) {o : Int} {x : Int32} (q : decode bytes pc = .ok (.ifCond .eq o, 3)) (pt pf : Nat) (hp : ((pc : Int) + o).toNat = pt) (ho : 0 ≤ (pc : Int) + o) (hf : pc + 3 = pf) (g1 : x = 0 → Go p e below P (T.setTop (mkF m pt Ls st))) (g2 : ¬ x = 0 → Go p e below P (T.setTop (mkF m pf Ls st))) : Go p e below P (T.setTop (mkF m pc Ls (.int x :: st))) := by
  subst hf
  by_cases w : x = 0
  · exact (g1 w).via fun _ => XS.ifYes X.here B.x rfl rfl (B.d q) rfl (by simp [ifCond.holds, w, Int32.not_lt, Int32.not_le]) ho hp
  · exact (g2 w).via fun _ => XS.ifNo X.here B.x rfl (B.d q) rfl (by simp [ifCond.holds, w, Int32.not_lt, Int32.not_le])
theorem g_if_ne (X : Stand p l e R s m args below meth c T locs cells slots) (B : Bo Z p s m meth c own nm bytes maxL ret) {o : Int} {x : Int32} (q : decode bytes pc = .ok (.ifCond .ne o, 3)) (pt pf : Nat) (hp : ((pc : Int) + o).toNat = pt) (ho : 0 ≤ (pc : Int) + o) (hf : pc + 3 = pf) (g1 : ¬ x = 0 → Go p e below P (T.setTop (mkF m pt Ls st))) (g2 : x = 0 → Go p e below P (T.setTop (mkF m pf Ls st))) : Go p e below P (T.setTop (mkF m pc Ls (.int x :: st))) := by
  subst hf
  by_cases w : x = 0
  · exact (g2 w).via fun _ => XS.ifNo X.here B.x rfl (B.d q) rfl (by simp [ifCond.holds, w, Int32.not_lt, Int32.not_le])
  · exact (g1 w).via fun _ => XS.ifYes X.here B.x rfl rfl (B.d q) rfl (by simpa [ifCond.holds, Int32.not_lt, Int32.not_le] using w) ho hp
theorem g_if_lt (X : Stand p l e R s m args below meth c T locs cells slots) (B : Bo Z p s m meth c own nm bytes maxL ret) {o : Int} {x : Int32} (q : decode bytes pc = .ok (.ifCond .lt o, 3)) (pt pf : Nat) (hp : ((pc : Int) + o).toNat = pt) (ho : 0 ≤ (pc : Int) + o) (hf : pc + 3 = pf) (g1 : x < 0 → Go p e below P (T.setTop (mkF m pt Ls st))) (g2 : ¬ x < 0 → Go p e below P (T.setTop (mkF m pf Ls st))) : Go p e below P (T.setTop (mkF m pc Ls (.int x :: st))) := by
  subst hf
  by_cases w : x < 0
  · exact (g1 w).via fun _ => XS.ifYes X.here B.x rfl rfl (B.d q) rfl (by simp [ifCond.holds, w, Int32.not_lt, Int32.not_le]) ho hp
  · exact (g2 w).via fun _ => XS.ifNo X.here B.x rfl (B.d q) rfl (by simp [ifCond.holds, w, Int32.not_lt, Int32.not_le])
theorem g_if_ge (X : Stand p l e R s m args below meth c T locs cells slots) (B : Bo Z p s m meth c own nm bytes maxL ret) {o : Int} {x : Int32} (q : decode bytes pc = .ok (.ifCond .ge o, 3)) (pt pf : Nat) (hp : ((pc : Int) + o).toNat = pt) (ho : 0 ≤ (pc : Int) + o) (hf : pc + 3 = pf) (g1 : ¬ x < 0 → Go p e below P (T.setTop (mkF m pt Ls st))) (g2 : x < 0 → Go p e below P (T.setTop (mkF m pf Ls st))) : Go p e below P (T.setTop (mkF m pc Ls (.int x :: st))) := by
  subst hf
  by_cases w : x < 0
  · exact (g2 w).via fun _ => XS.ifNo X.here B.x rfl (B.d q) rfl (by simp [ifCond.holds, w, Int32.not_lt, Int32.not_le])
  · exact (g1 w).via fun _ => XS.ifYes X.here B.x rfl rfl (B.d q) rfl (by simpa [ifCond.holds, Int32.not_lt, Int32.not_le] using w) ho hp
theorem g_if_gt (X : Stand p l e R s m args below meth c T locs cells slots) (B : Bo Z p s m meth c own nm bytes maxL ret) {o : Int} {x : Int32} (q : decode bytes pc = .ok (.ifCond .gt o, 3)) (pt pf : Nat) (hp : ((pc : Int) + o).toNat = pt) (ho : 0 ≤ (pc : Int) + o) (hf : pc + 3 = pf) (g1 : 0 < x → Go p e below P (T.setTop (mkF m pt Ls st))) (g2 : ¬ 0 < x → Go p e below P (T.setTop (mkF m pf Ls st))) : Go p e below P (T.setTop (mkF m pc Ls (.int x :: st))) := by
  subst hf
  by_cases w : 0 < x
  · exact (g1 w).via fun _ => XS.ifYes X.here B.x rfl rfl (B.d q) rfl (by simp [ifCond.holds, w, Int32.not_lt, Int32.not_le]) ho hp
  · exact (g2 w).via fun _ => XS.ifNo X.here B.x rfl (B.d q) rfl (by simp [ifCond.holds, w, Int32.not_lt, Int32.not_le])
theorem g_if_le (X : Stand p l e R s m args below meth c T locs cells slots) (B : Bo Z p s m meth c own nm bytes maxL ret) {o : Int} {x : Int32} (q : decode bytes pc = .ok (.ifCond .le o, 3)) (pt pf : Nat) (hp : ((pc : Int) + o).toNat = pt) (ho : 0 ≤ (pc : Int) + o) (hf : pc + 3 = pf) (g1 : ¬ 0 < x → Go p e below P (T.setTop (mkF m pt Ls st))) (g2 : 0 < x → Go p e below P (T.setTop (mkF m pf Ls st))) : Go p e below P (T.setTop (mkF m pc Ls (.int x :: st))) := by
  subst hf
  by_cases w : 0 < x
  · exact (g2 w).via fun _ => XS.ifNo X.here B.x rfl (B.d q) rfl (by simp [ifCond.holds, w, Int32.not_lt, Int32.not_le])
  · exact (g1 w).via fun _ => XS.ifYes X.here B.x rfl rfl (B.d q) rfl (by simpa [ifCond.holds, Int32.not_lt, Int32.not_le] using w) ho hp
theorem g_acmp_eq (X : Stand p l e R s m args below meth c T locs cells slots) (B : Bo Z p s m meth c own nm bytes maxL ret) {o : Int} {x y : Value} (q : decode bytes pc = .ok (.if_acmp .eq o, 3)) (pt pf : Nat) (hp : ((pc : Int) + o).toNat = pt) (ho : 0 ≤ (pc : Int) + o) (hf : pc + 3 = pf) (i : x.isRef = true) (j : y.isRef = true) (g1 : x = y → Go p e below P (T.setTop (mkF m pt Ls st))) (g2 : ¬ x = y → Go p e below P (T.setTop (mkF m pf Ls st))) : Go p e below P (T.setTop (mkF m pc Ls (y :: x :: st))) := by
  subst hf
  by_cases w : x = y
  · exact (g1 w).via fun _ => XT.acmpYes X.here B.x rfl rfl (B.d q) rfl i j (by simp [XT.acmp, w]) ho hp
  · exact (g2 w).via fun _ => XT.acmpNo X.here B.x rfl (B.d q) rfl i j (by simp [XT.acmp, w])
theorem g_acmp_ne (X : Stand p l e R s m args below meth c T locs cells slots) (B : Bo Z p s m meth c own nm bytes maxL ret) {o : Int} {x y : Value} (q : decode bytes pc = .ok (.if_acmp .ne o, 3)) (pt pf : Nat) (hp : ((pc : Int) + o).toNat = pt) (ho : 0 ≤ (pc : Int) + o) (hf : pc + 3 = pf) (i : x.isRef = true) (j : y.isRef = true) (g1 : ¬ x = y → Go p e below P (T.setTop (mkF m pt Ls st))) (g2 : x = y → Go p e below P (T.setTop (mkF m pf Ls st))) : Go p e below P (T.setTop (mkF m pc Ls (y :: x :: st))) := by
  subst hf
  by_cases w : x = y
  · exact (g2 w).via fun _ => XT.acmpNo X.here B.x rfl (B.d q) rfl i j (by simp [XT.acmp, w])
  · exact (g1 w).via fun _ => XT.acmpYes X.here B.x rfl rfl (B.d q) rfl i j (by simp [XT.acmp, w]) ho hp
theorem g_ifnull (X : Stand p l e R s m args below meth c T locs cells slots) (B : Bo Z p s m meth c own nm bytes maxL ret) {o : Int} {v : Value} (q : decode bytes pc = .ok (.ifnull o, 3)) (pt pf : Nat) (hp : ((pc : Int) + o).toNat = pt) (ho : 0 ≤ (pc : Int) + o) (hf : pc + 3 = pf) (i : v.isRef = true) (g1 : v = .null → Go p e below P (T.setTop (mkF m pt Ls st))) (g2 : ¬ v = .null → Go p e below P (T.setTop (mkF m pf Ls st))) : Go p e below P (T.setTop (mkF m pc Ls (v :: st))) := by
  subst hf
  by_cases w : v = .null
  · exact (g1 w).via fun _ => XT.nullYes X.here B.x rfl rfl (B.d q) rfl w ho hp
  · exact (g2 w).via fun _ => XT.nullNo X.here B.x rfl (B.d q) rfl i w
theorem g_ifnonnull (X : Stand p l e R s m args below meth c T locs cells slots) (B : Bo Z p s m meth c own nm bytes maxL ret) {o : Int} {v : Value} (q : decode bytes pc = .ok (.ifnonnull o, 3)) (pt pf : Nat) (hp : ((pc : Int) + o).toNat = pt) (ho : 0 ≤ (pc : Int) + o) (hf : pc + 3 = pf) (i : v.isRef = true) (g1 : ¬ v = .null → Go p e below P (T.setTop (mkF m pt Ls st))) (g2 : v = .null → Go p e below P (T.setTop (mkF m pf Ls st))) : Go p e below P (T.setTop (mkF m pc Ls (v :: st))) := by
  subst hf
  by_cases w : v = .null
  · exact (g2 w).via fun _ => XT.nonnullNo X.here B.x rfl (B.d q) rfl w
  · exact (g1 w).via fun _ => XT.nonnullYes X.here B.x rfl rfl (B.d q) rfl i w ho hp
theorem g_tsw (X : Stand p l e R s m args below meth c T locs cells slots) (B : Bo Z p s m meth c own nm bytes maxL ret) {dflt low high : Int} {offs : Array Int} {len : Nat} {i : Int32} (o : Int) (q : decode bytes pc = .ok (.tableswitch dflt low high offs, len)) (pc' : Nat) (hin : ¬ (i.toInt < low ∨ i.toInt > high)) (hoff : offs[(i.toInt - low).toNat]? = some o) (ho : 0 ≤ (pc : Int) + o) (hp : ((pc : Int) + o).toNat = pc') (g : Go p e below P (T.setTop (mkF m pc' Ls st))) : Go p e below P (T.setTop (mkF m pc Ls (.int i :: st))) := g.via fun t => XS.tswIn (target := t) (g := mkF m pc Ls (.int i :: st)) (pc0 := pc) (pc' := pc') X.here B.x rfl rfl (B.d q) rfl hin hoff ho hp
theorem g_ldcI (X : Stand p l e R s m args below meth c T locs cells slots) (B : Bo Z p s m meth c own nm bytes maxL ret) {index : Nat} {v : Int32} (q : decode bytes pc = .ok (.ldc index, 2)) (pc' : Nat) (hp : pc + 2 = pc') (w : (Jvm.Cond.constant own index v).before a0 Z = true) (g : Go p e below P (T.setTop (mkF m pc' Ls (.int v :: st)))) : Go p e below P (T.setTop (mkF m pc Ls st)) := by
  subst hp
  exact g.via fun _ => X.ldcI B.x B.o (mvT B.z w) rfl (B.d q)
theorem g_getS (X : Stand p l e R s m args below meth c T locs cells slots) (B : Bo Z p s m meth c own nm bytes maxL ret) {R0 O n d : String} {index : Nat} {v : Value} (q : decode bytes pc = .ok (.getstatic index, 3)) (pc' : Nat) (hp : pc + 3 = pc') (w : (Jvm.Cond.fieldLink own index R0 n d).before a0 Z = true) (via : Via Z R0 O n d) (eT : T.heap = h) (F : Sta Z h O n d v) (k : ∀ T', Stand p l e R s m args below meth c T' locs cells slots → T'.heap = h → Go p e below P (T'.setTop (mkF m pc' Ls (v :: st)))) : Go p e below P (T.setTop (mkF m pc Ls st)) := by
  subst hp
  obtain ⟨T', X', e', q'⟩ := getS (host := "") X B.x B.z B.o w via eT F (g := mkF m pc Ls st) rfl (B.d q)
  exact (k T' X' e').via q'
theorem g_getF (X : Stand p l e R s m args below meth c T locs cells slots) (B : Bo Z p s m meth c own nm bytes maxL ret) {R0 O n d : String} {index : Nat} {a : Addr} {v : Value} (q : decode bytes pc = .ok (.getfield index, 3)) (pc' : Nat) (hp : pc + 3 = pc') (w : (Jvm.Cond.fieldLink own index R0 n d).before a0 Z = true) (via : Via Z R0 O n d) (eT : T.heap = h) (F : Fld Z h a O n d v) (k : ∀ T', Stand p l e R s m args below meth c T' locs cells slots → T'.heap = h → Go p e below P (T'.setTop (mkF m pc' Ls (v :: st)))) : Go p e below P (T.setTop (mkF m pc Ls (.ref a :: st))) := by
  subst hp
  obtain ⟨T', X', e', q'⟩ := getF (host := "") X B.x B.z B.o (Or.inl w) via eT F (g := mkF m pc Ls (.ref a :: st)) rfl rfl (B.d q)
  exact (k T' X' e').via q'
theorem g_putF (X : Stand p l e R s m args below meth c T locs cells slots) (B : Bo Z p s m meth c own nm bytes maxL ret) {R0 O n d C : String} {index kk : Nat} {ty : FieldType} {a : Addr} {v old : Value} (q : decode bytes pc = .ok (.putfield index, 3)) (pc' : Nat) (hp : pc + 3 = pc') (w : (Jvm.Cond.fieldLink own index R0 n d).before a0 Z = true) (via : Via Z R0 O n d) (eT : T.heap = h) (F : Fld Z h a O n d old) (E : Exa Z h a C) (L : (Jvm.Cond.lays C O n d).before a0 Z = true ∨ ((Jvm.Cond.laysFinal C O n d).before a0 Z = true ∧ own = O ∧ nm = "<init>")) (wi : (Jvm.Cond.instantiable C kk).before a0 Z = true) (hty : parseFieldDescriptor d = some ty) (hn : narrow ty v = v) (hf : fits ty v = true) (k : ∀ T' h', Stand p l e R s m args below meth c T' (locs ++ [⟨a, Jvm.RoadKit.slotOf Z O n d⟩]) cells slots → T'.heap = h' → Wr h h' a (Jvm.RoadKit.slotOf Z O n d) v → Go p e below P (T'.setTop (mkF m pc' Ls st))) : Go p e below P (T.setTop (mkF m pc Ls (v :: .ref a :: st))) := by
  subst hp
  obtain ⟨T', h', X', e', W', q'⟩ := putF (host := "") X B.x B.z B.o (Or.inl w) via eT F E (L.imp id fun y => ⟨y.1, y.2.1, B.n.trans y.2.2⟩) wi hty hn hf (g := mkF m pc Ls (v :: .ref a :: st)) rfl rfl (B.d q)
  exact (k T' h' X' e' W').via q'
theorem g_new (X : Stand p l e R s m args below meth c T locs cells slots) (B : Bo Z p s m meth c own nm bytes maxL ret) {C : String} {index n : Nat} (q : decode bytes pc = .ok (.new index, 3)) (pc' : Nat) (hp : pc + 3 = pc') (w : (Jvm.Cond.classLink own index C).before a0 Z = true) (wi : (Jvm.Cond.instantiable C n).before a0 Z = true) (wz : (Jvm.Cond.initialized C).before a0 Z = true) (eT : T.heap = h) (hc : cells + 1 ≤ R.cells) (hl : slots + n ≤ R.slots) (k : ∀ T' h' a, Stand p l e R s m args below meth c T' locs (cells + 1) (slots + n) → T'.heap = h' → a = h.size → Ext h h' → Exa Z h' a C → (∀ {O nm d : String} {ty : FieldType}, Laid Z a0 C O nm d → parseFieldDescriptor d = some ty → Fld Z h' a O nm d (defaultValue ty)) → Go p e below P (T'.setTop (mkF m pc' Ls (.ref a :: st)))) : Go p e below P (T.setTop (mkF m pc Ls st)) := by
  subst hp
  obtain ⟨T', h', X', e', E', A', D', -, q'⟩ := newO X B.x B.z B.o w wi wz eT (g := mkF m pc Ls st) rfl (B.d q) hc hl
  exact (k T' h' _ X' e' rfl E' A' D').via q'
theorem g_callS (X : Stand p l e R s m args below meth c T locs cells slots) (B : Bo Z p s m meth c own nm bytes maxL ret) {y : MethodName} {by' : ByteArray} {mx : Nat} {rt : Option FieldType} {rm : Room} {Q : Option Value → Heap → List Loc → Prop} {index : Nat} (argsL rest : List Value) (q : decode bytes pc = .ok (.invokestatic index, 3)) (pc' : Nat) (hp : pc + 3 = pc') (hst : st = argsL.reverse ++ rest) (w1 : (Jvm.Cond.methodLink own index y).before a0 Z = true) (w2 : (Jvm.Cond.static y).before a0 Z = true) (w3 : (Jvm.Cond.initialized y.cls).before a0 Z = true) (w4 : (Jvm.Cond.code y by' mx rt).before a0 Z = true) (hy : y.cls ≠ "java/lang/invoke/MethodHandle" ∧ y.cls ≠ "java/lang/invoke/VarHandle") (hlen : ∀ sig, parseMethodDescriptor y.desc = some sig → argsL.length = sig.parameters.length) (C : Ctr l Z y by' mx rt rm argsL.toArray h Q) (eT : T.heap = h) (hm : Ls.size = maxL) (W : Nat) (hW : (rest.map fun v => v.category).sum ≤ W) (hf : rm.frames + 1 ≤ R.frames) (hl : W + (mx + 11) + rm.locals ≤ R.locals) (hc : cells + rm.cells ≤ R.cells) (hs : slots + rm.slots ≤ R.slots) (k : ∀ v T' h' L', Stand p l e R s m args below meth c T' (locs ++ L') (cells + rm.cells) (slots + rm.slots) → T'.heap = h' → Q v h' L' → Go p e below P (T'.setTop (mkF m pc' Ls (v.toList ++ rest)))) : Go p e below P (T.setTop (mkF m pc Ls st)) := by
  subst hp hst
  obtain ⟨v, _, ⟨T', L', k', n'⟩, -, X', ⟨Lc, hQ, l1, l2, l3⟩, q'⟩ := Jvm.LawKit.callS X B.x (y := y) B.o (mvT B.z w1) (mvT B.z w2) (mvT B.z w3) (mvT B.z w4) hy (C.back (W := W) B.z w4 w3 hf hl) (g := mkF m pc Ls (argsL.reverse ++ rest)) rfl (B.mx hm) (argsL := argsL) (rest := rest) hlen rfl (by show 2 * 0 + _ ≤ _; omega) (B.d q) (fun _ _ => ⟨rfl, eT, hc, hs⟩)
  dsimp only [Pt.U, Pt.locs, Pt.cells, Pt.slots] at X' l1 l2 l3 q' hQ
  subst l1 l2 l3
  exact (k v T' _ Lc X' rfl hQ).via q'
theorem g_callV (X : Stand p l e R s m args below meth c T locs cells slots) (B : Bo Z p s m meth c own nm bytes maxL ret) {z : MethodName} {by' : ByteArray} {mx : Nat} {rt : Option FieldType} {rm : Room} {Q : Option Value → Heap → List Loc → Prop} {index : Nat} {K : String} {a : Addr} (argsL rest : List Value) (q : decode bytes pc = .ok (.invokevirtual index, 3)) (pc' : Nat) (hp : pc + 3 = pc') (hst : st = argsL.reverse ++ .ref a :: rest) (w1 : (Jvm.Cond.methodLink own index z).before a0 Z = true) (w2 : (Jvm.Cond.declares z).before a0 Z = true) (w3 : (Jvm.Cond.selects K z z).before a0 Z = true) (w4 : (Jvm.Cond.instanceMethod z).before a0 Z = true) (w5 : (Jvm.Cond.initialized z.cls).before a0 Z = true) (w6 : (Jvm.Cond.code z by' mx rt).before a0 Z = true) (hy : z.cls ≠ "java/lang/invoke/MethodHandle" ∧ z.cls ≠ "java/lang/invoke/VarHandle") (hlen : ∀ sig, parseMethodDescriptor z.desc = some sig → argsL.length = sig.parameters.length) (E : Exa Z h a K) (C : Ctr l Z z by' mx rt rm (.ref a :: argsL).toArray h Q) (eT : T.heap = h) (hm : Ls.size = maxL) (W : Nat) (hW : (rest.map fun v => v.category).sum ≤ W) (hf : rm.frames + 1 ≤ R.frames) (hl : W + (mx + 11) + rm.locals ≤ R.locals) (hc : cells + rm.cells ≤ R.cells) (hs : slots + rm.slots ≤ R.slots) (k : ∀ v T' h' L', Stand p l e R s m args below meth c T' (locs ++ L') (cells + rm.cells) (slots + rm.slots) → T'.heap = h' → Q v h' L' → Go p e below P (T'.setTop (mkF m pc' Ls (v.toList ++ rest)))) : Go p e below P (T.setTop (mkF m pc Ls st)) := by
  subst hp hst
  obtain ⟨cq, kq, qa, qb, qc⟩ := isOf B.z eT E
  obtain ⟨v, _, ⟨T', L', k', n'⟩, -, X', ⟨Lc, hQ, l1, l2, l3⟩, q'⟩ := X.virtualBack B.x (y := z) (z := z) B.o (mvT B.z w1) (mvT B.z w2) (notFace_of_selects (args := #[]) (mvT B.z w3)) (mvT B.z w3) (mvT B.z w4) hy (C.back (W := W) B.z w6 w5 hf hl) qa qc (g := mkF m pc Ls (argsL.reverse ++ .ref a :: rest)) rfl (B.mx hm) (Steps.refl _) (argsL := argsL) (rest := rest) hlen rfl (by show 2 * 0 + _ ≤ _; omega) (B.d q) (fun _ _ => ⟨rfl, eT, hc, hs⟩)
  dsimp only [Pt.U, Pt.locs, Pt.cells, Pt.slots] at X' l1 l2 l3 q' hQ
  subst l1 l2 l3
  exact (k v T' _ Lc X' rfl hQ).via fun _ => q'.trans
theorem g_callN (X : Stand p l e R s m args below meth c T locs cells slots) (B : Bo Z p s m meth c own nm bytes maxL ret) {y : MethodName} {by' : ByteArray} {mx : Nat} {rm : Room} {Q : Option Value → Heap → List Loc → Prop} {index : Nat} {a : Addr} (argsL rest : List Value) (q : decode bytes pc = .ok (.invokespecial index, 3)) (pc' : Nat) (hp : pc + 3 = pc') (hst : st = argsL.reverse ++ .ref a :: rest) (hn : y.name = "<init>") (w1 : (Jvm.Cond.methodLink own index y).before a0 Z = true) (w2 : (Jvm.Cond.instanceMethod y).before a0 Z = true) (w3 : (Jvm.Cond.code y by' mx none).before a0 Z = true) (w4 : (Jvm.Cond.initialized y.cls).before a0 Z = true) (hy : y.cls ≠ "java/lang/invoke/MethodHandle" ∧ y.cls ≠ "java/lang/invoke/VarHandle") (hlen : ∀ sig, parseMethodDescriptor y.desc = some sig → argsL.length = sig.parameters.length) (C : Ctr l Z y by' mx none rm (.ref a :: argsL).toArray h Q) (eT : T.heap = h) (hm : Ls.size = maxL) (W : Nat) (hW : (rest.map fun v => v.category).sum ≤ W) (hf : rm.frames + 1 ≤ R.frames) (hl : W + (mx + 11) + rm.locals ≤ R.locals) (hc : cells + rm.cells ≤ R.cells) (hs : slots + rm.slots ≤ R.slots) (k : ∀ v T' h' L', Stand p l e R s m args below meth c T' (locs ++ L') (cells + rm.cells) (slots + rm.slots) → T'.heap = h' → Q v h' L' → Go p e below P (T'.setTop (mkF m pc' Ls (v.toList ++ rest)))) : Go p e below P (T.setTop (mkF m pc Ls st)) := by
  subst hp hst
  obtain ⟨v, _, ⟨T', L', k', n'⟩, -, X', ⟨Lc, hQ, l1, l2, l3⟩, q'⟩ := X.specialBack B.x (y := y) hn B.o (mvT B.z w1) (mvT B.z w2) (mvT B.z w3) hy (C.back (W := W) B.z w3 w4 hf hl) (g := mkF m pc Ls (argsL.reverse ++ .ref a :: rest)) rfl (B.mx hm) (Steps.refl _) (a := a) (argsL := argsL) (rest := rest) hlen rfl (by show 2 * 0 + _ ≤ _; omega) (B.d q) (fun _ _ => ⟨rfl, eT, hc, hs⟩)
  dsimp only [Pt.U, Pt.locs, Pt.cells, Pt.slots] at X' l1 l2 l3 q' hQ
  subst l1 l2 l3
  exact (k v T' _ Lc X' rfl hQ).via fun _ => q'.trans
theorem g_newP (X : Stand p l e R s m args below meth c T locs cells slots) (B : Bo Z p s m meth c own nm bytes maxL ret) {aty : ArrayType} {n : Int32} (vs : List Value) (q : decode bytes pc = .ok (.newarray aty, 2)) (pc' : Nat) (hp : pc + 2 = pc') (w : (Jvm.Cond.arrayClass (newarray.typeOf aty)).before a0 Z = true) (eT : T.heap = h) (hn : ¬ n < 0) (hvs : List.replicate n.toNatClampNeg (defaultValue (newarray.typeOf aty)) = vs) (hb : vs.length * 8 ≤ 536870912) (hc : cells + 1 ≤ R.cells) (hl : slots + vs.length ≤ R.slots) (k : ∀ T' h' a, Stand p l e R s m args below meth c T' locs (cells + 1) (slots + vs.length) → T'.heap = h' → a = h.size → Ext h h' → Av Z h' a (newarray.typeOf aty) vs → Go p e below P (T'.setTop (mkF m pc' Ls (.ref a :: st)))) : Go p e below P (T.setTop (mkF m pc Ls (.int n :: st))) := by
  subst hp
  obtain ⟨T', h', cA, X', e', E', A', q'⟩ := newP X B.x B.z w eT (g := mkF m pc Ls (.int n :: st)) rfl (B.d q) rfl hn (cap := vs.length) (by rw [← hvs]; simp) hb hc hl
  exact (k T' h' _ X' e' rfl E' ⟨_, A', by rw [← hvs]; simp [newA]⟩).via q'
theorem g_castore (X : Stand p l e R s m args below meth c T locs cells slots) (B : Bo Z p s m meth c own nm bytes maxL ret) {a : Addr} {j x : Int32} {vs : List Value} (i : Nat) (q : decode bytes pc = .ok (.castore, 1)) (pc' : Nat) (hp : pc + 1 = pc') (eT : T.heap = h) (A : Av Z h a .char vs) (hi : j.toNatClampNeg = i) (h0 : ¬ j < 0) (hl : i < vs.length) (k : ∀ T' h', Stand p l e R s m args below meth c T' (locs ++ [⟨a, i⟩]) cells slots → T'.heap = h' → Wr h h' a i (.int (nar .char x)) → Av Z h' a .char (vs.set i (.int (nar .char x))) → Go p e below P (T'.setTop (mkF m pc' Ls st))) : Go p e below P (T.setTop (mkF m pc Ls (.int x :: .int j :: .ref a :: st))) := by
  subst hp
  have A' := A
  obtain ⟨cl, Ar, hv⟩ := A'
  obtain ⟨T', h', X', e', W', q'⟩ := stC X B.x B.z eT Ar (Av.inb (Z := Z) (h := h) (a := a) (ty := .char) hv hi h0 hl) (g := mkF m pc Ls (.int x :: .int j :: .ref a :: st)) rfl rfl (B.d q)
  subst hi
  exact (k T' h' X' e' W' (A.set W')).via q'
theorem g_bastoreB (X : Stand p l e R s m args below meth c T locs cells slots) (B : Bo Z p s m meth c own nm bytes maxL ret) {a : Addr} {j x : Int32} {vs : List Value} (i : Nat) (q : decode bytes pc = .ok (.bastore, 1)) (pc' : Nat) (hp : pc + 1 = pc') (eT : T.heap = h) (A : Av Z h a .byte vs) (hi : j.toNatClampNeg = i) (h0 : ¬ j < 0) (hl : i < vs.length) (k : ∀ T' h', Stand p l e R s m args below meth c T' (locs ++ [⟨a, i⟩]) cells slots → T'.heap = h' → Wr h h' a i (.int (nar .byte x)) → Av Z h' a .byte (vs.set i (.int (nar .byte x))) → Go p e below P (T'.setTop (mkF m pc' Ls st))) : Go p e below P (T.setTop (mkF m pc Ls (.int x :: .int j :: .ref a :: st))) := by
  subst hp
  have A' := A
  obtain ⟨cl, Ar, hv⟩ := A'
  obtain ⟨T', h', X', e', W', q'⟩ := stB X B.x B.z eT Ar (Av.inb (Z := Z) (h := h) (a := a) (ty := .byte) hv hi h0 hl) (g := mkF m pc Ls (.int x :: .int j :: .ref a :: st)) rfl rfl (B.d q)
  subst hi
  exact (k T' h' X' e' W' (A.set W')).via q'
theorem g_bastoreZ (X : Stand p l e R s m args below meth c T locs cells slots) (B : Bo Z p s m meth c own nm bytes maxL ret) {a : Addr} {j x : Int32} {vs : List Value} (i : Nat) (q : decode bytes pc = .ok (.bastore, 1)) (pc' : Nat) (hp : pc + 1 = pc') (eT : T.heap = h) (A : Av Z h a .boolean vs) (hi : j.toNatClampNeg = i) (h0 : ¬ j < 0) (hl : i < vs.length) (k : ∀ T' h', Stand p l e R s m args below meth c T' (locs ++ [⟨a, i⟩]) cells slots → T'.heap = h' → Wr h h' a i (.int (nar .boolean x)) → Av Z h' a .boolean (vs.set i (.int (nar .boolean x))) → Go p e below P (T'.setTop (mkF m pc' Ls st))) : Go p e below P (T.setTop (mkF m pc Ls (.int x :: .int j :: .ref a :: st))) := by
  subst hp
  have A' := A
  obtain ⟨cl, Ar, hv⟩ := A'
  obtain ⟨T', h', X', e', W', q'⟩ := stZ X B.x B.z eT Ar (Av.inb (Z := Z) (h := h) (a := a) (ty := .boolean) hv hi h0 hl) (g := mkF m pc Ls (.int x :: .int j :: .ref a :: st)) rfl rfl (B.d q)
  subst hi
  exact (k T' h' X' e' W' (A.set W')).via q'
theorem g_caload (X : Stand p l e R s m args below meth c T locs cells slots) (B : Bo Z p s m meth c own nm bytes maxL ret) {a : Addr} {j : Int32} {vs : List Value} {v : Value} (i : Nat) (q : decode bytes pc = .ok (.caload, 1)) (pc' : Nat) (hp : pc + 1 = pc') (eT : T.heap = h) (A : Av Z h a .char vs) (hi : j.toNatClampNeg = i) (h0 : ¬ j < 0) (hv : vs[i]? = some v) (g : Go p e below P (T.setTop (mkF m pc' Ls (v :: st)))) : Go p e below P (T.setTop (mkF m pc Ls (.int j :: .ref a :: st))) := by
  subst hp
  obtain ⟨cl, Ar, hc⟩ := A
  have hl : i < vs.length := (List.getElem?_eq_some_iff.mp hv).1
  have hin := Av.inb (Z := Z) (h := h) (a := a) (ty := .char) hc hi h0 hl
  have k1 : T.heap[a]? = some cl := by rw [eT]; exact Ar.1
  have k2 : s.isArrayOf cl .char := State.isArrayOf_alike B.z.alike Ar.2.1
  have k3 : cl.slots[j.toNatClampNeg]? = some v := by rw [hi, ← hv, ← hc]; simp
  exact g.via fun t => X.caload B.x k1 k2 Ar.2.2 hin k3 (g := mkF m pc Ls (.int j :: .ref a :: st)) rfl rfl (B.d q) t
theorem g_baloadB (X : Stand p l e R s m args below meth c T locs cells slots) (B : Bo Z p s m meth c own nm bytes maxL ret) {a : Addr} {j : Int32} {vs : List Value} {v : Value} (i : Nat) (q : decode bytes pc = .ok (.baload, 1)) (pc' : Nat) (hp : pc + 1 = pc') (eT : T.heap = h) (A : Av Z h a .byte vs) (hi : j.toNatClampNeg = i) (h0 : ¬ j < 0) (hv : vs[i]? = some v) (g : Go p e below P (T.setTop (mkF m pc' Ls (v :: st)))) : Go p e below P (T.setTop (mkF m pc Ls (.int j :: .ref a :: st))) := by
  subst hp
  obtain ⟨cl, Ar, hc⟩ := A
  have hl : i < vs.length := (List.getElem?_eq_some_iff.mp hv).1
  have hin := Av.inb (Z := Z) (h := h) (a := a) (ty := .byte) hc hi h0 hl
  have k1 : T.heap[a]? = some cl := by rw [eT]; exact Ar.1
  have k2 : s.isArrayOf cl .byte := State.isArrayOf_alike B.z.alike Ar.2.1
  have k3 : cl.slots[j.toNatClampNeg]? = some v := by rw [hi, ← hv, ← hc]; simp
  exact g.via fun t => X.baloadBytes B.x k1 k2 Ar.2.2 hin k3 (g := mkF m pc Ls (.int j :: .ref a :: st)) rfl rfl (B.d q) t
theorem g_baloadZ (X : Stand p l e R s m args below meth c T locs cells slots) (B : Bo Z p s m meth c own nm bytes maxL ret) {a : Addr} {j : Int32} {vs : List Value} {v : Value} (i : Nat) (q : decode bytes pc = .ok (.baload, 1)) (pc' : Nat) (hp : pc + 1 = pc') (eT : T.heap = h) (A : Av Z h a .boolean vs) (hi : j.toNatClampNeg = i) (h0 : ¬ j < 0) (hv : vs[i]? = some v) (g : Go p e below P (T.setTop (mkF m pc' Ls (v :: st)))) : Go p e below P (T.setTop (mkF m pc Ls (.int j :: .ref a :: st))) := by
  subst hp
  obtain ⟨cl, Ar, hc⟩ := A
  have hl : i < vs.length := (List.getElem?_eq_some_iff.mp hv).1
  have hin := Av.inb (Z := Z) (h := h) (a := a) (ty := .boolean) hc hi h0 hl
  have k1 : T.heap[a]? = some cl := by rw [eT]; exact Ar.1
  have k2 : s.isArrayOf cl .boolean := State.isArrayOf_alike B.z.alike Ar.2.1
  have k3 : cl.slots[j.toNatClampNeg]? = some v := by rw [hi, ← hv, ← hc]; simp
  exact g.via fun t => X.baloadBooleans B.x k1 k2 Ar.2.2 hin k3 (g := mkF m pc Ls (.int j :: .ref a :: st)) rfl rfl (B.d q) t
theorem g_aaload (X : Stand p l e R s m args below meth c T locs cells slots) (B : Bo Z p s m meth c own nm bytes maxL ret) {ty : FieldType} (hty : ty.isReference = true) {a : Addr} {j : Int32} {vs : List Value} {v : Value} (i : Nat) (q : decode bytes pc = .ok (.aaload, 1)) (pc' : Nat) (hp : pc + 1 = pc') (eT : T.heap = h) (A : Av Z h a ty vs) (hi : j.toNatClampNeg = i) (h0 : ¬ j < 0) (hv : vs[i]? = some v) (g : Go p e below P (T.setTop (mkF m pc' Ls (v :: st)))) : Go p e below P (T.setTop (mkF m pc Ls (.int j :: .ref a :: st))) := by
  subst hp
  obtain ⟨cl, Ar, hc⟩ := A
  have hl : i < vs.length := (List.getElem?_eq_some_iff.mp hv).1
  have hin := Av.inb (Z := Z) (h := h) (a := a) (ty := ty) hc hi h0 hl
  have k1 : T.heap[a]? = some cl := by rw [eT]; exact Ar.1
  have k2 : s.isArrayOf cl ty := State.isArrayOf_alike B.z.alike Ar.2.1
  have k3 : cl.slots[j.toNatClampNeg]? = some v := by rw [hi, ← hv, ← hc]; simp
  exact g.via fun t => X.aaload B.x k1 k2 hty Ar.2.2 hin k3 (g := mkF m pc Ls (.int j :: .ref a :: st)) rfl rfl (B.d q) t
theorem g_arrlen (X : Stand p l e R s m args below meth c T locs cells slots) (B : Bo Z p s m meth c own nm bytes maxL ret) {ty : FieldType} {a : Addr} {vs : List Value} (n : Int32) (q : decode bytes pc = .ok (.arraylength, 1)) (pc' : Nat) (hp : pc + 1 = pc') (eT : T.heap = h) (A : Av Z h a ty vs) (hn : vs.length.toInt32 = n) (g : Go p e below P (T.setTop (mkF m pc' Ls (.int n :: st)))) : Go p e below P (T.setTop (mkF m pc Ls (.ref a :: st))) := by
  subst hp hn
  obtain ⟨cl, Ar, hc⟩ := A
  have k1 : T.heap[a]? = some cl := by rw [eT]; exact Ar.1
  have k2 : s.isArrayOf cl ty := State.isArrayOf_alike B.z.alike Ar.2.1
  rw [← hc, Array.length_toList] at g
  exact g.via fun t => X.arraylength B.x k1 k2 (g := mkF m pc Ls (.ref a :: st)) rfl rfl (B.d q) t
theorem g_callUp (X : Stand p l e R s m args below meth c T locs cells slots) (B : Bo Z p s m meth c own nm bytes maxL ret) {y z : MethodName} {by' : ByteArray} {mx : Nat} {rt : Option FieldType} {rm : Room} {Q : Option Value → Heap → List Loc → Prop} {index : Nat} {K owner : String} {a : Addr} (argsL rest : List Value) (q : decode bytes pc = .ok (.invokevirtual index, 3)) (pc' : Nat) (hp : pc + 3 = pc') (hst : st = argsL.reverse ++ .ref a :: rest) (w1 : (Jvm.Cond.methodLink own index y).before a0 Z = true) (w2 : (Jvm.Cond.sameMethod y.cls owner y.name y.desc).before a0 Z = true) (w2' : (Jvm.Cond.declares ⟨owner, y.name, y.desc⟩).before a0 Z = true) (w3 : (Jvm.Cond.selects K y z).before a0 Z = true) (w4 : (Jvm.Cond.instanceMethod z).before a0 Z = true) (w5 : (Jvm.Cond.initialized z.cls).before a0 Z = true) (w6 : (Jvm.Cond.code z by' mx rt).before a0 Z = true) (hy : owner ≠ "java/lang/invoke/MethodHandle" ∧ owner ≠ "java/lang/invoke/VarHandle") (hlen : ∀ sig, parseMethodDescriptor y.desc = some sig → argsL.length = sig.parameters.length) (E : Exa Z h a K) (C : Ctr l Z z by' mx rt rm (.ref a :: argsL).toArray h Q) (eT : T.heap = h) (hm : Ls.size = maxL) (W : Nat) (hW : (rest.map fun v => v.category).sum ≤ W) (hf : rm.frames + 1 ≤ R.frames) (hl : W + (mx + 11) + rm.locals ≤ R.locals) (hc : cells + rm.cells ≤ R.cells) (hs : slots + rm.slots ≤ R.slots) (k : ∀ v T' h' L', Stand p l e R s m args below meth c T' (locs ++ L') (cells + rm.cells) (slots + rm.slots) → T'.heap = h' → Q v h' L' → Go p e below P (T'.setTop (mkF m pc' Ls (v.toList ++ rest)))) : Go p e below P (T.setTop (mkF m pc Ls st)) := by
  subst hp hst
  obtain ⟨cq, kq, qa, qb, qc⟩ := isOf B.z eT E
  obtain ⟨v, _, ⟨T', L', k', n'⟩, -, X', ⟨Lc, hQ, l1, l2, l3⟩, q'⟩ := X.virtualBackUp B.x (x := y) (y := z) B.o (mvT B.z w1) (mvT B.z w2) (mvT B.z w2') hy (mvT B.z w3) (mvT B.z w4) (C.back (W := W) B.z w6 w5 hf hl) qa qc (g := mkF m pc Ls (argsL.reverse ++ .ref a :: rest)) rfl (B.mx hm) (Steps.refl _) (argsL := argsL) (rest := rest) hlen rfl (by show 2 * 0 + _ ≤ _; omega) (B.d q) (fun _ _ => ⟨rfl, eT, hc, hs⟩)
  dsimp only [Pt.U, Pt.locs, Pt.cells, Pt.slots] at X' l1 l2 l3 q' hQ
  subst l1 l2 l3
  exact (k v T' _ Lc X' rfl hQ).via fun _ => q'.trans
theorem g_cast (X : Stand p l e R s m args below meth c T locs cells slots) (B : Bo Z p s m meth c own nm bytes maxL ret) {K : String} {index : Nat} {a : Addr} (q : decode bytes pc = .ok (.checkcast index, 3)) (pc' : Nat) (hp : pc + 3 = pc') (w : (Jvm.Cond.classLink own index K).before a0 Z = true) (eT : T.heap = h) (F : Ins Z h a K true) (k : ∀ T', Stand p l e R s m args below meth c T' locs cells slots → T'.heap = h → Go p e below P (T'.setTop (mkF m pc' Ls (.ref a :: st)))) : Go p e below P (T.setTop (mkF m pc Ls (.ref a :: st))) := by
  subst hp
  obtain ⟨T', X', e', q'⟩ := castY X B.x B.z B.o w eT F (g := mkF m pc Ls (.ref a :: st)) rfl rfl (B.d q)
  exact (k T' X' e').via q'
theorem g_dupX1 (X : Stand p l e R s m args below meth c T locs cells slots) (B : Bo Z p s m meth c own nm bytes maxL ret) {x y : Value} (q : decode bytes pc = .ok (.dup_x1, 1)) (pc' : Nat) (hp : pc + 1 = pc') (u : x.category = 1) (u' : y.category = 1) (g : Go p e below P (T.setTop (mkF m pc' Ls (x :: y :: x :: st)))) : Go p e below P (T.setTop (mkF m pc Ls (x :: y :: st))) := by
  subst hp
  exact g.via fun _ => XT.dupX1 X.here B.x rfl (B.d q) rfl u u'
theorem g_callI (X : Stand p l e R s m args below meth c T locs cells slots) (B : Bo Z p s m meth c own nm bytes maxL ret) {y z : MethodName} {by' : ByteArray} {mx : Nat} {rt : Option FieldType} {rm : Room} {Q : Option Value → Heap → List Loc → Prop} {index count : Nat} {K : String} {a : Addr} (argsL rest : List Value) (q : decode bytes pc = .ok (.invokeinterface index count, 5)) (pc' : Nat) (hp : pc + 5 = pc') (hst : st = argsL.reverse ++ .ref a :: rest) (w1 : (Jvm.Cond.methodLink own index y).before a0 Z = true) (w2 : (Jvm.Cond.declares y).before a0 Z = true) (hfa : ((Jvm.Cond.interfaceMethod y.cls y.cls y.name y.desc).onTables && (Jvm.Cond.interfaceMethod y.cls y.cls y.name y.desc).keepsFace) = true) (w2' : (Jvm.Cond.interfaceMethod y.cls y.cls y.name y.desc).before a0 Z = true) (w3 : (Jvm.Cond.selects K y z).before a0 Z = true) (w4 : (Jvm.Cond.instanceMethod z).before a0 Z = true) (w7 : (Jvm.Cond.publicMethod z).before a0 Z = true) (w8 : (Jvm.Cond.unhidden K y.name y.desc).before a0 Z = true) (w9 : (Jvm.Cond.castable K y.cls).before a0 Z = true) (w5 : (Jvm.Cond.initialized z.cls).before a0 Z = true) (w6 : (Jvm.Cond.code z by' mx rt).before a0 Z = true) (hy : y.cls ≠ "java/lang/invoke/MethodHandle" ∧ y.cls ≠ "java/lang/invoke/VarHandle") (hlen : ∀ sig, parseMethodDescriptor y.desc = some sig → argsL.length = sig.parameters.length) (E : Exa Z h a K) (C : Ctr l Z z by' mx rt rm (.ref a :: argsL).toArray h Q) (eT : T.heap = h) (hm : Ls.size = maxL) (W : Nat) (hW : (rest.map fun v => v.category).sum ≤ W) (hf : rm.frames + 1 ≤ R.frames) (hl : W + (mx + 11) + rm.locals ≤ R.locals) (hc : cells + rm.cells ≤ R.cells) (hs : slots + rm.slots ≤ R.slots) (k : ∀ v T' h' L', Stand p l e R s m args below meth c T' (locs ++ L') (cells + rm.cells) (slots + rm.slots) → T'.heap = h' → Q v h' L' → Go p e below P (T'.setTop (mkF m pc' Ls (v.toList ++ rest)))) : Go p e below P (T.setTop (mkF m pc Ls st)) := by
  subst hp hst
  obtain ⟨cq, kq, qa, qb, qc⟩ := isOf B.z eT E
  obtain ⟨v, _, ⟨T', L', k', n'⟩, -, X', ⟨Lc, hQ, l1, l2, l3⟩, q'⟩ := X.interfaceBack B.x (xi := y) (y := z) B.o (mvT B.z w1) (mvT B.z w2) (mvT B.z w2' hfa) (mvT B.z w3) (mvT B.z w4) (mvT B.z w7) (mvT B.z w8) (mvT B.z w9) hy (C.back (W := W) B.z w6 w5 hf hl) qa qb qc (g := mkF m pc Ls (argsL.reverse ++ .ref a :: rest)) rfl (B.mx hm) (Steps.refl _) (argsL := argsL) (rest := rest) hlen rfl (by show 2 * 0 + _ ≤ _; omega) (B.d q) (fun _ _ => ⟨rfl, eT, hc, hs⟩)
  dsimp only [Pt.U, Pt.locs, Pt.cells, Pt.slots] at X' l1 l2 l3 q' hQ
  subst l1 l2 l3
  exact (k v T' _ Lc X' rfl hQ).via fun _ => q'.trans
theorem g_callP (X : Stand p l e R s m args below meth c T locs cells slots) (B : Bo Z p s m meth c own nm bytes maxL ret) {y : MethodName} {by' : ByteArray} {mx : Nat} {rt : Option FieldType} {rm : Room} {Q : Option Value → Heap → List Loc → Prop} {index : Nat} {K : String} {a : Addr} (argsL rest : List Value) (q : decode bytes pc = .ok (.invokevirtual index, 3)) (pc' : Nat) (hp : pc + 3 = pc') (hst : st = argsL.reverse ++ .ref a :: rest) (w1 : (Jvm.Cond.methodLink own index y).before a0 Z = true) (w2 : (Jvm.Cond.instanceMethod y).before a0 Z = true) (w3 : (Jvm.Cond.selects y.cls y y).before a0 Z = true) (w4 : (Jvm.Cond.privateMethod y).before a0 Z = true) (w5 : (Jvm.Cond.initialized y.cls).before a0 Z = true) (w6 : (Jvm.Cond.code y by' mx rt).before a0 Z = true) (hy : y.cls ≠ "java/lang/invoke/MethodHandle" ∧ y.cls ≠ "java/lang/invoke/VarHandle") (hlen : ∀ sig, parseMethodDescriptor y.desc = some sig → argsL.length = sig.parameters.length) (E : Exa Z h a K) (C : Ctr l Z y by' mx rt rm (.ref a :: argsL).toArray h Q) (eT : T.heap = h) (hm : Ls.size = maxL) (W : Nat) (hW : (rest.map fun v => v.category).sum ≤ W) (hf : rm.frames + 1 ≤ R.frames) (hl : W + (mx + 11) + rm.locals ≤ R.locals) (hc : cells + rm.cells ≤ R.cells) (hs : slots + rm.slots ≤ R.slots) (k : ∀ v T' h' L', Stand p l e R s m args below meth c T' (locs ++ L') (cells + rm.cells) (slots + rm.slots) → T'.heap = h' → Q v h' L' → Go p e below P (T'.setTop (mkF m pc' Ls (v.toList ++ rest)))) : Go p e below P (T.setTop (mkF m pc Ls st)) := by
  subst hp hst
  obtain ⟨cl, hcl, hpl⟩ := E.cell
  obtain ⟨v, _, ⟨T', L', k', n'⟩, -, X', ⟨Lc, hQ, l1, l2, l3⟩, q'⟩ := X.privateBack B.x (y := y) B.o (mvT B.z w1) (mvT B.z w2) (mvT B.z w3) (Cond.privateMethod_at (args := #[]) (mvP B.z w4)) (mvT B.z w6) hy (C.back (W := W) B.z w6 w5 hf hl) (g := mkF m pc Ls (argsL.reverse ++ .ref a :: rest)) rfl (B.mx hm) (Steps.refl _) (by rw [eT]; exact hcl) hpl (argsL := argsL) (rest := rest) hlen rfl (by show 2 * 0 + _ ≤ _; omega) (B.d q) (fun _ _ => ⟨rfl, eT, hc, hs⟩)
  dsimp only [Pt.U, Pt.locs, Pt.cells, Pt.slots] at X' l1 l2 l3 q' hQ
  subst l1 l2 l3
  exact (k v T' _ Lc X' rfl hQ).via fun _ => q'.trans
theorem g_retOut (X : Stand p l e R s m args below meth c T locs cells slots) (B : Bo Z p s m meth c own nm bytes maxL ret) {Q : Option Value → Heap → List Loc → Prop} {cc ss : Nat} {w : Value} {t : FieldType} {i : Instr} (q : decode bytes pc = .ok (i, 1)) (ht : ret = some t) (hn : narrow t w = w)
    (hi : (i = .ireturn ∧ (t = .int ∨ t = .boolean ∨ t = .byte ∨ t = .char ∨ t = .short) ∧ ∃ z, w = .int z) ∨ (i = .lreturn ∧ t = .long ∧ ∃ z, w = .long z) ∨ (i = .dreturn ∧ t = .double ∧ ∃ z, w = .double z) ∨ (i = .freturn ∧ t = .float ∧ ∃ z, w = .float z) ∨ (i = .areturn ∧ t.isReference = true ∧ w.isRef = true))
    (hc : cells ≤ cc) (hs : slots ≤ ss) (eT : T.heap = h) (hQ : Q (some w) h locs) : Go p e below (EndsQ s Q cc ss) (T.setTop (mkF m pc Ls (w :: st))) := by
  have hl := B.lk
  obtain ⟨fs, hr, hrun, hended, hW, hsame⟩ := X.leave (v := some w) (fun z => by rw [B.r, ht] at z; cases z) hl
  subst eT
  exact ⟨_, _, retOut X B.x (B.r.trans ht) hn hi (B.d q) hr, hrun, hended, _, _, rfl, hQ, ⟨_, rfl⟩, hW, hsame.mono hc hs⟩
theorem g_retA (X : Stand p l e R s m args below meth c T locs cells slots) (B : Bo Z p s m meth c own nm bytes maxL ret) {Q : Option Value → Heap → List Loc → Prop} {cc ss : Nat} {w : Value} {t : FieldType} (q : decode bytes pc = .ok (.areturn, 1)) (ht : ret = some t) (hr : t.isReference = true) (hw : w.isRef = true) (hc : cells ≤ cc) (hs : slots ≤ ss) (eT : T.heap = h) (hQ : Q (some w) h locs) : Go p e below (EndsQ s Q cc ss) (T.setTop (mkF m pc Ls (w :: st))) :=
  g_retOut X B q ht (by cases t <;> first | (cases hr; done) | (cases w <;> first | rfl | (cases hw; done))) (Or.inr (Or.inr (Or.inr (Or.inr ⟨rfl, hr, hw⟩)))) hc hs eT hQ
theorem g_retI (X : Stand p l e R s m args below meth c T locs cells slots) (B : Bo Z p s m meth c own nm bytes maxL ret) {Q : Option Value → Heap → List Loc → Prop} {cc ss : Nat} {z : Int32} (q : decode bytes pc = .ok (.ireturn, 1)) (ht : ret = some .int) (hc : cells ≤ cc) (hs : slots ≤ ss) (eT : T.heap = h) (hQ : Q (some (.int z)) h locs) : Go p e below (EndsQ s Q cc ss) (T.setTop (mkF m pc Ls (.int z :: st))) :=
  g_retOut X B q ht rfl (Or.inl ⟨rfl, Or.inl rfl, _, rfl⟩) hc hs eT hQ
theorem g_retL (X : Stand p l e R s m args below meth c T locs cells slots) (B : Bo Z p s m meth c own nm bytes maxL ret) {Q : Option Value → Heap → List Loc → Prop} {cc ss : Nat} {z : Int64} (q : decode bytes pc = .ok (.lreturn, 1)) (ht : ret = some .long) (hc : cells ≤ cc) (hs : slots ≤ ss) (eT : T.heap = h) (hQ : Q (some (.long z)) h locs) : Go p e below (EndsQ s Q cc ss) (T.setTop (mkF m pc Ls (.long z :: st))) :=
  g_retOut X B q ht rfl (Or.inr (Or.inl ⟨rfl, rfl, _, rfl⟩)) hc hs eT hQ
theorem g_retN (X : Stand p l e R s m args below meth c T locs cells slots) (B : Bo Z p s m meth c own nm bytes maxL ret) {Q : Option Value → Heap → List Loc → Prop} {cc ss : Nat} {z : Int32} {t : FieldType} (q : decode bytes pc = .ok (.ireturn, 1)) (ht : ret = some t) (hn : narrow t (.int z) = .int z) (hk : t = .boolean ∨ t = .byte ∨ t = .char ∨ t = .short) (hc : cells ≤ cc) (hs : slots ≤ ss) (eT : T.heap = h) (hQ : Q (some (.int z)) h locs) : Go p e below (EndsQ s Q cc ss) (T.setTop (mkF m pc Ls (.int z :: st))) :=
  g_retOut X B q ht hn (Or.inl ⟨rfl, Or.inr hk, _, rfl⟩) hc hs eT hQ
theorem g_retV (X : Stand p l e R s m args below meth c T locs cells slots) (B : Bo Z p s m meth c own nm bytes maxL ret) {Q : Option Value → Heap → List Loc → Prop} {cc ss : Nat} (q : decode bytes pc = .ok (.return_, 1)) (ht : ret = none) (hc : cells ≤ cc) (hs : slots ≤ ss) (eT : T.heap = h) (hQ : Q none h locs) : Go p e below (EndsQ s Q cc ss) (T.setTop (mkF m pc Ls [])) := by
  have hl := B.lk
  obtain ⟨fs, hr, hrun, hended, hW, hsame⟩ := X.leave (v := none) (fun _ => rfl) hl
  subst eT
  exact ⟨_, _, X.returnOut B.x (B.r.trans ht) (B.d q) hr, hrun, hended, _, _, rfl, hQ, ⟨_, rfl⟩, hW, hsame.mono hc hs⟩
end OwnKit
theorem own_abs {P : Prop} {G : Prop} (q : P) (z : ¬ P) : G := absurd q z
theorem own_abs' {P : Prop} {G : Prop} (q : ¬ P) (z : P) : G := absurd z q
/-! own: from the words of a case to facts -/
theorem own_fldI {Z : State} {args : Array Value} {t : Term} {C n d : String} {a : Addr} {k : Int32} (ev : t.eval args Z none [] Z = some (.ref a)) (q : (Jvm.Cond.eq (.field t C n d) (.int k)).value args Z none Z [] = some true) : Fld Z Z.heap a C n d (.int k) := by
  obtain ⟨x, y, h1, h2, h3, -⟩ := cmp_v (Or.inl q)
  cases h2
  have h4 : Z.fieldOf? a C n d = some x := (fld_at ev).symm.trans h1
  have h5 : ∃ z, x = .int z := by cases x <;> simp [Kin, Value.isRef] at h3 ⊢
  obtain ⟨z, rfl⟩ := h5
  have h6 : z = k := by
    have h7 : (Jvm.Cond.eq (.field t C n d) (.int k)).value args Z none Z [] = some (decide (z = k)) := by simp only [Cond.value, h1, Term.int_eval]
    exact gotT h7 q
  exact h6 ▸ Fld.start h4
theorem own_fldN {Z : State} {args : Array Value} {t : Term} {C n d : String} {a : Addr} (ev : t.eval args Z none [] Z = some (.ref a)) (q : (Jvm.Cond.eq (.field t C n d) .null).value args Z none Z [] = some true) : Fld Z Z.heap a C n d .null := Fld.start ((fld_at ev).symm.trans (null_v q))
theorem own_stk {Z : State} {h h' : Heap} {C n d : String} {v : Value} (F : Sta Z h C n d v) (K : Keep h h' []) : Sta Z h' C n d v := by
  obtain ⟨cf, i, k, f, st, cell, h1, h2, h3, h4, h5, r⟩ := F
  exact ⟨cf, i, k, f, st, cell, h1, h2, h3, h4, K.2.1 _ _ h5 (fun q => nomatch q), r⟩
def own_Pl (h : Heap) (ws : List Addr) : Prop := ∀ a ∈ ws, ∀ c : Cell, h[a]? = some c → c.vm.isStatics = false
theorem own_pl0 {h : Heap} : own_Pl h [] := fun _ q => nomatch q
theorem own_plE {Z : State} {h : Heap} {a : Addr} {C : String} {ws : List Addr} (E : Exa Z h a C) (q : own_Pl h ws) : own_Pl h (a :: ws) := fun x hx c hc => by
  rcases List.mem_cons.mp hx with rfl | hx
  · obtain ⟨c', k, h1, -, -, h4, -⟩ := E
    cases h1.symm.trans hc; exact h4
  · exact q x hx c hc
theorem own_plA {Z : State} {h : Heap} {a : Addr} {ty : FieldType} {vs : List Value} {ws : List Addr} (E : Av Z h a ty vs) (q : own_Pl h ws) : own_Pl h (a :: ws) := fun x hx c hc => by
  rcases List.mem_cons.mp hx with rfl | hx
  · obtain ⟨c', A, -⟩ := E
    cases A.1.symm.trans hc; exact A.plain
  · exact q x hx c hc
theorem own_stkw {Z : State} {h h' : Heap} {C n d : String} {v : Value} {ws : List Addr} (F : Sta Z h C n d v) (K : Keep h h' ws) (q : own_Pl h ws) : Sta Z h' C n d v := by
  obtain ⟨cf, i, k, f, st, cell, h1, h2, h3, h4, h5, h6, r⟩ := F
  exact ⟨cf, i, k, f, st, cell, h1, h2, h3, h4, K.2.1 _ _ h5 (fun z => by rw [q _ z _ h5] at h6; cases h6), h6, r⟩
theorem own_neAv {Z : State} {h : Heap} {a b : Addr} {C : String} {ty : FieldType} {vs : List Value} {a0 : Array Value} {k : Nat} (F : Exa Z h a C) (wi : (Jvm.Cond.instantiable C k).before a0 Z = true) (G : Av Z h b ty vs) : a ≠ b := by
  obtain ⟨c, A, -⟩ := G
  exact ne_arr F wi A
/-- an array of references over C, its contents known -/
def AvR (Z : State) (h : Heap) (a : Addr) (C : String) (vs : List Value) : Prop := ∃ c : Cell, Arr Z h a c (.object C) ∧ c.slots.toList = vs ∧ Ovr Z c.cls C
theorem AvR.av {Z : State} {h : Heap} {a : Addr} {C : String} {vs : List Value} (A : AvR Z h a C vs) : Av Z h a (.object C) vs := by obtain ⟨c, q, r, -⟩ := A; exact ⟨c, q, r⟩
theorem own_AvR_ext {Z : State} {h h' : Heap} {a : Addr} {C : String} {vs : List Value} (A : AvR Z h a C vs) (E : Ext h h') : AvR Z h' a C vs := by obtain ⟨c, q, r⟩ := A; exact ⟨c, q.ext E, r⟩
theorem own_AvR_other {Z : State} {h h' : Heap} {a b : Addr} {C : String} {vs : List Value} {sl : Nat} {v : Value} (A : AvR Z h b C vs) (W : Wr h h' a sl v) (q : b ≠ a) : AvR Z h' b C vs := by obtain ⟨c, q1, r⟩ := A; exact ⟨c, q1.other W q, r⟩
theorem own_AvR_keep {Z : State} {h h' : Heap} {a : Addr} {C : String} {vs : List Value} {ws : List Addr} (A : AvR Z h a C vs) (K : Keep h h' ws) (q : a ∉ ws) : AvR Z h' a C vs := by obtain ⟨c, q1, r⟩ := A; exact ⟨c, ⟨K.2.1 a c q1.1 q, q1.2⟩, r⟩
theorem AvR.set {Z : State} {h h' : Heap} {a : Addr} {C : String} {vs : List Value} {i : Nat} {v : Value} (A : AvR Z h a C vs) (W : Wr h h' a i v) : AvR Z h' a C (vs.set i v) := by
  obtain ⟨c, q, rfl, r⟩ := A
  exact ⟨_, q.same W, by simp [Cell.setSlot], r⟩
theorem own_fldR {Z : State} {args : Array Value} {t u : Term} {C n d : String} {a b : Addr} (ev : t.eval args Z none [] Z = some (.ref a)) (ew : u.eval args Z none [] Z = some (.ref b)) (q : (Jvm.Cond.eq (.field t C n d) u).value args Z none Z [] = some true) : Fld Z Z.heap a C n d (.ref b) := by
  obtain ⟨x, y, h1, h2, h3, -⟩ := cmp_v (Or.inl q)
  cases ew.symm.trans h2
  have h4 : Z.fieldOf? a C n d = some x := (fld_at ev).symm.trans h1
  have h5 : x.isRef = true := by cases x <;> simp [Kin, Value.isRef] at h3 ⊢
  have h6 : x = .ref b := gotT (eq_R h1 ew h5 rfl) q
  exact h6 ▸ Fld.start h4
section OwnKit2
variable {p : Program} {l : Launch} {e : Env} {R : Room} {s : State} {m : MethodId} {args : Array Value} {below : List Frame} {meth : Method} {c : Code} {T : State} {locs : List Loc} {cells slots : Nat} {Z : State} {a0 : Array Value} {h : Heap} {P : State → Outcome → Prop} {pc : Nat} {Ls : Array Slot} {st rest : List Value} {own nm : String} {bytes : ByteArray} {maxL : Nat} {ret : Option FieldType}
theorem g_newR (X : Stand p l e R s m args below meth c T locs cells slots) (B : Bo Z p s m meth c own nm bytes maxL ret) {C : String} {index : Nat} {n : Int32} (vs : List Value) (q : decode bytes pc = .ok (.anewarray index, 3)) (pc' : Nat) (hp : pc + 3 = pc') (w1 : (Jvm.Cond.classLink own index C).before a0 Z = true) (w2 : (Jvm.Cond.arrayOver (.object C)).before a0 Z = true) (eT : T.heap = h) (hn : ¬ n < 0) (hvs : List.replicate n.toNatClampNeg (Value.null) = vs) (hb : vs.length * 8 ≤ 536870912) (hc : cells + 1 ≤ R.cells) (hl : slots + vs.length ≤ R.slots) (k : ∀ T' h' a, Stand p l e R s m args below meth c T' locs (cells + 1) (slots + vs.length) → T'.heap = h' → a = h.size → Ext h h' → AvR Z h' a C vs → Go p e below P (T'.setTop (mkF m pc' Ls (.ref a :: st)))) : Go p e below P (T.setTop (mkF m pc Ls (.int n :: st))) := by
  subst hp
  obtain ⟨T', h', cA, X', e', E', A', O', q'⟩ := newR X B.x B.z B.o w1 w2 eT (g := mkF m pc Ls (.int n :: st)) rfl (B.d q) rfl hn (cap := vs.length) (by rw [← hvs]; simp) hb hc hl
  exact (k T' h' _ X' e' rfl E' ⟨_, A', by rw [← hvs]; simp [newA, defaultValue], O'⟩).via q'
theorem g_aastore (X : Stand p l e R s m args below meth c T locs cells slots) (B : Bo Z p s m meth c own nm bytes maxL ret) {C : String} {a y : Addr} {j : Int32} {vs : List Value} (i : Nat) (q : decode bytes pc = .ok (.aastore, 1)) (pc' : Nat) (hp : pc + 1 = pc') (eT : T.heap = h) (A : AvR Z h a C vs) (I : Ins Z h y C true) (hi : j.toNatClampNeg = i) (h0 : ¬ j < 0) (hl : i < vs.length) (k : ∀ T' h', Stand p l e R s m args below meth c T' (locs ++ [⟨a, i⟩]) cells slots → T'.heap = h' → Wr h h' a i (.ref y) → AvR Z h' a C (vs.set i (.ref y)) → Go p e below P (T'.setTop (mkF m pc' Ls st))) : Go p e below P (T.setTop (mkF m pc Ls (.ref y :: .int j :: .ref a :: st))) := by
  subst hp
  have A' := A
  obtain ⟨cl, Ar, hv, O⟩ := A'
  obtain ⟨T', h', X', e', W', q'⟩ := stR X B.x B.z eT Ar (Av.inb (Z := Z) (h := h) (a := a) (ty := .object C) hv hi h0 hl) rfl (Sto.of Ar O I) (g := mkF m pc Ls (.ref y :: .int j :: .ref a :: st)) rfl rfl (B.d q)
  subst hi
  exact (k T' h' X' e' W' (A.set W')).via q'
end OwnKit2

/-! own: numbers of the String bodies -/
theorem own_ti {n : Nat} (h : n < 2147483648) : (Int32.ofNat n).toInt = n := Int32.toInt_ofNat_of_lt h
theorem own_tn {n : Nat} (h : n < 2147483648) : (Int32.ofNat n).toNatClampNeg = n := by
  rw [Int32.toNatClampNeg, own_ti h]; rfl
theorem own_nn {n : Nat} (h : n < 2147483648) : ¬ Int32.ofNat n < 0 := by
  rw [Int32.lt_iff_toInt_lt, own_ti h]; show ¬ (n : Int) < 0; omega
theorem own_lt {i n : Nat} (hi : i < 2147483648) (hn : n < 2147483648) : (Int32.ofNat i < Int32.ofNat n) ↔ i < n := by
  rw [Int32.lt_iff_toInt_lt, own_ti hi, own_ti hn]; omega
theorem own_s1 {i : Nat} (h : i + 1 < 2147483648) : Int32.ofNat i + 1 = Int32.ofNat (i + 1) := by
  apply Int32.toInt_inj.mp
  have h1 := c_iadd (Int32.ofNat i) 1
  have h2 := rng32 (Int32.ofNat i + 1)
  have h3 : (1 : Int32).toInt = 1 := by decide
  rw [own_ti (by omega)] at h1
  rw [own_ti h]
  omega
theorem own_shl1 {n : Nat} (h : n < 1073741824) : Int32.ofNat n <<< ((1 : Int32) &&& 31) = Int32.ofNat (2 * n) := by
  apply Int32.toInt_inj.mp
  have h1 := c_ishl (Int32.ofNat n) 1 1 (by decide)
  have h2 := rng32 (Int32.ofNat n <<< ((1 : Int32) &&& 31))
  rw [own_ti (by omega)] at h1
  rw [own_ti (by omega)]
  omega
theorem own_shr1 {n : Nat} (h : n < 2147483648) : Int32.ofNat n >>> ((1 : Int32) &&& 31) = Int32.ofNat (n / 2) := by
  apply Int32.toInt_inj.mp
  have h1 := c_ishr (Int32.ofNat n) 1 1 (by decide)
  rw [own_ti h] at h1
  rw [own_ti (by omega), h1]
  omega
theorem own_shr0 (x : Int32) : x >>> ((0 : Int32) &&& 31) = x := by
  apply Int32.toInt_inj.mp
  have h1 := c_ishr x 0 0 (by decide)
  simpa using h1
def own_ch (c : Int32) : Prop := 0 ≤ c.toInt ∧ c.toInt < 65536
def own_lo (c : Int32) : Int32 := c.toInt8.toInt32
def own_hi (c : Int32) : Int32 := (c >>> ((8 : Int32) &&& 31)).toInt8.toInt32
theorem own_nb (x : Int32) : nar .byte (x.toInt8.toInt32) = x.toInt8.toInt32 := by
  have h := XT.narrow_b x
  simpa [narrow, nar] using h
theorem own_get {c : Int32} (h : own_ch c) : ((((own_lo c) &&& (255 : Int32)) <<< ((0 : Int32) &&& 31)) ||| (((own_hi c) &&& (255 : Int32)) <<< ((8 : Int32) &&& 31))).toUInt32.toUInt16.toUInt32.toInt32 = c := by
  obtain ⟨h0, h1⟩ := h
  have a1 := c_i2b c
  have a2 := c_ishr c 8 8 (by decide)
  have a3 := c_i2b (c >>> ((8 : Int32) &&& 31))
  have a4 := c_mask (own_lo c) 255 8 (by decide) (by decide)
  have a5 := c_mask (own_hi c) 255 8 (by decide) (by decide)
  have a6 := c_ishl (own_lo c &&& 255) 0 0 (by decide)
  have a7 := c_ishl (own_hi c &&& 255) 8 8 (by decide)
  have r6 := rng32 ((own_lo c &&& 255) <<< ((0 : Int32) &&& 31))
  have r7 := rng32 ((own_hi c &&& 255) <<< ((8 : Int32) &&& 31))
  unfold own_lo at a4
  unfold own_hi at a5
  have b4 : (own_lo c &&& 255).toInt = c.toInt % 256 := by unfold own_lo; omega
  have b5 : (own_hi c &&& 255).toInt = c.toInt / 256 := by unfold own_hi; omega
  have b6 : ((own_lo c &&& 255) <<< ((0 : Int32) &&& 31)).toInt = c.toInt % 256 := by omega
  have b7 : ((own_hi c &&& 255) <<< ((8 : Int32) &&& 31)).toInt = c.toInt / 256 * 256 := by omega
  have a8 := c_or' ((own_lo c &&& 255) <<< ((0 : Int32) &&& 31)) ((own_hi c &&& 255) <<< ((8 : Int32) &&& 31)) 8 (by decide) 256 (by decide) (by omega) (by omega) (by omega)
  have r8 := rng32 (((own_lo c &&& 255) <<< ((0 : Int32) &&& 31)) ||| ((own_hi c &&& 255) <<< ((8 : Int32) &&& 31)))
  have b8 : (((own_lo c &&& 255) <<< ((0 : Int32) &&& 31)) ||| ((own_hi c &&& 255) <<< ((8 : Int32) &&& 31))).toInt = c.toInt := by omega
  have a9 := c_i2c (((own_lo c &&& 255) <<< ((0 : Int32) &&& 31)) ||| ((own_hi c &&& 255) <<< ((8 : Int32) &&& 31)))
  apply Int32.toInt_inj.mp
  omega
theorem own_chc (x : Int32) : own_ch x.toUInt32.toUInt16.toUInt32.toInt32 := by have h := c_i2c x; exact ⟨h.2.1, h.2.2⟩
theorem own_nc {c : Int32} (h : own_ch c) : nar .char c = c := by
  have h1 : nar .char c = c.toUInt32.toUInt16.toUInt32.toInt32 := rfl
  have h2 := c_i2c c
  rw [h1]
  apply Int32.toInt_inj.mp
  obtain ⟨h3, h4⟩ := h
  omega
/-- the bytes of a UTF-16 String, up to the i-th sign -/
def own_Up (vs : List Value) (cs : List Int32) (i : Nat) : Prop := vs.length = 2 * cs.length ∧ ∀ j c, j < i → cs[j]? = some c → vs[2 * j]? = some (.int (own_lo c)) ∧ vs[2 * j + 1]? = some (.int (own_hi c))
def own_U (vs : List Value) (cs : List Int32) : Prop := own_Up vs cs cs.length
/-- the bytes of a Latin-1 String, up to the i-th sign -/
def own_Lp (vs : List Value) (cs : List Int32) (i : Nat) : Prop := vs.length = cs.length ∧ ∀ j c, j < i → cs[j]? = some c → vs[j]? = some (.int (own_lo c)) ∧ ¬ 255 < c
def own_L (vs : List Value) (cs : List Int32) : Prop := own_Lp vs cs cs.length
theorem own_Up0 {cs : List Int32} {n : Nat} (h : n = 2 * cs.length) : own_Up (List.replicate n (.int 0)) cs 0 := ⟨by simp [h], fun j c q => absurd q (Nat.not_lt_zero _)⟩
theorem own_Ups {vs : List Value} {cs : List Int32} {i : Nat} {c : Int32} (h : own_Up vs cs i) (hc : cs[i]? = some c) : own_Up ((vs.set (2 * i) (.int (own_lo c))).set (2 * i + 1) (.int (own_hi c))) cs (i + 1) := by
  obtain ⟨h1, h2⟩ := h
  have hi : i < cs.length := (List.getElem?_eq_some_iff.mp hc).1
  refine ⟨by simp [h1], fun j d hj hd => ?_⟩
  by_cases e : j = i
  · subst e
    cases hc.symm.trans hd
    refine ⟨?_, ?_⟩
    · rw [List.getElem?_set_ne (by omega), List.getElem?_set_self (by omega)]
    · rw [List.getElem?_set_self (by simp; omega)]
  · have q := h2 j d (by omega) hd
    refine ⟨?_, ?_⟩
    · rw [List.getElem?_set_ne (by omega), List.getElem?_set_ne (by omega)]; exact q.1
    · rw [List.getElem?_set_ne (by omega), List.getElem?_set_ne (by omega)]; exact q.2
theorem own_Lp0 {cs : List Int32} {n : Nat} (h : n = cs.length) : own_Lp (List.replicate n (.int 0)) cs 0 := ⟨by simp [h], fun j c q => absurd q (Nat.not_lt_zero _)⟩
theorem own_Lps {vs : List Value} {cs : List Int32} {i : Nat} {c : Int32} (h : own_Lp vs cs i) (hc : cs[i]? = some c) (hl : ¬ 255 < c) : own_Lp (vs.set i (.int (own_lo c))) cs (i + 1) := by
  obtain ⟨h1, h2⟩ := h
  have hi : i < cs.length := (List.getElem?_eq_some_iff.mp hc).1
  refine ⟨by simp [h1], fun j d hj hd => ?_⟩
  by_cases e : j = i
  · subst e
    cases hc.symm.trans hd
    exact ⟨by rw [List.getElem?_set_self (by omega)], hl⟩
  · have q := h2 j d (by omega) hd
    exact ⟨by rw [List.getElem?_set_ne (by omega)]; exact q.1, q.2⟩
theorem own_mapat {cs : List Int32} {i : Nat} {c : Int32} (h : cs[i]? = some c) : (cs.map Value.int)[i]? = some (.int c) := by simp [h]
theorem own_ex {cs : List Int32} {i : Nat} (h : i < cs.length) : ∃ c, cs[i]? = some c := ⟨cs[i], List.getElem?_eq_getElem h⟩

theorem d9_0 : decode jdk_52_method_3_code 0 = .ok (.iload_n 0, 1) := by decide +kernel
theorem d9_1 : decode jdk_52_method_3_code 1 = .ok (.ifCond .ge 11, 3) := by decide +kernel
theorem d9_4 : decode jdk_52_method_3_code 4 = .ok (.new 17, 3) := by decide +kernel
theorem d9_7 : decode jdk_52_method_3_code 7 = .ok (.dup, 1) := by decide +kernel
theorem d9_8 : decode jdk_52_method_3_code 8 = .ok (.invokespecial 19, 3) := by decide +kernel
theorem d9_11 : decode jdk_52_method_3_code 11 = .ok (.athrow, 1) := by decide +kernel
theorem d9_12 : decode jdk_52_method_3_code 12 = .ok (.iload_n 0, 1) := by decide +kernel
theorem d9_13 : decode jdk_52_method_3_code 13 = .ok (.ldc 20, 2) := by decide +kernel
theorem d9_15 : decode jdk_52_method_3_code 15 = .ok (.if_icmp .lt 40, 3) := by decide +kernel
theorem d9_18 : decode jdk_52_method_3_code 18 = .ok (.new 21, 3) := by decide +kernel
theorem d9_21 : decode jdk_52_method_3_code 21 = .ok (.dup, 1) := by decide +kernel
theorem d9_22 : decode jdk_52_method_3_code 22 = .ok (.new 23, 3) := by decide +kernel
theorem d9_25 : decode jdk_52_method_3_code 25 = .ok (.dup, 1) := by decide +kernel
theorem d9_26 : decode jdk_52_method_3_code 26 = .ok (.invokespecial 25, 3) := by decide +kernel
theorem d9_29 : decode jdk_52_method_3_code 29 = .ok (.ldc 26, 2) := by decide +kernel
theorem d9_31 : decode jdk_52_method_3_code 31 = .ok (.invokevirtual 28, 3) := by decide +kernel
theorem d9_34 : decode jdk_52_method_3_code 34 = .ok (.iload_n 0, 1) := by decide +kernel
theorem d9_35 : decode jdk_52_method_3_code 35 = .ok (.invokevirtual 32, 3) := by decide +kernel
theorem d9_38 : decode jdk_52_method_3_code 38 = .ok (.ldc 35, 2) := by decide +kernel
theorem d9_40 : decode jdk_52_method_3_code 40 = .ok (.invokevirtual 28, 3) := by decide +kernel
theorem d9_43 : decode jdk_52_method_3_code 43 = .ok (.ldc 20, 2) := by decide +kernel
theorem d9_45 : decode jdk_52_method_3_code 45 = .ok (.invokevirtual 32, 3) := by decide +kernel
theorem d9_48 : decode jdk_52_method_3_code 48 = .ok (.invokevirtual 37, 3) := by decide +kernel
theorem d9_51 : decode jdk_52_method_3_code 51 = .ok (.invokespecial 41, 3) := by decide +kernel
theorem d9_54 : decode jdk_52_method_3_code 54 = .ok (.athrow, 1) := by decide +kernel
theorem d9_55 : decode jdk_52_method_3_code 55 = .ok (.iload_n 0, 1) := by decide +kernel
theorem d9_56 : decode jdk_52_method_3_code 56 = .ok (.iconst 1, 1) := by decide +kernel
theorem d9_57 : decode jdk_52_method_3_code 57 = .ok (.ishl, 1) := by decide +kernel
theorem d9_58 : decode jdk_52_method_3_code 58 = .ok (.ireturn, 1) := by decide +kernel
theorem pn_9 : plainFor (⟨"java/lang/StringUTF16", "newBytesLength", "(I)I"⟩ : MethodName) = true := by first | (apply plainFor_of_name; simp [plainName, overriddenIn]; done) | (apply plainFor_of_name; decide +kernel) | decide +kernel
theorem pd_9 : parseMethodDescriptor "(I)I" = some ⟨[.int], (some .int)⟩ := by decide +kernel
theorem d8_0 : decode jdk_52_method_2_code 0 = .ok (.iload_n 0, 1) := by decide +kernel
theorem d8_1 : decode jdk_52_method_2_code 1 = .ok (.invokestatic 11, 3) := by decide +kernel
theorem d8_4 : decode jdk_52_method_2_code 4 = .ok (.newarray .byte, 2) := by decide +kernel
theorem d8_6 : decode jdk_52_method_2_code 6 = .ok (.areturn, 1) := by decide +kernel
theorem pn_8 : plainFor (⟨"java/lang/StringUTF16", "newBytesFor", "(I)[B"⟩ : MethodName) = true := by first | (apply plainFor_of_name; simp [plainName, overriddenIn]; done) | (apply plainFor_of_name; decide +kernel) | decide +kernel
theorem pd_8 : parseMethodDescriptor "(I)[B" = some ⟨[.int], (some (.array .byte))⟩ := by decide +kernel
theorem d10_0 : decode jdk_52_method_4_code 0 = .ok (.getstatic 44, 3) := by decide +kernel
theorem d10_3 : decode jdk_52_method_4_code 3 = .ok (.ifCond .ne 25, 3) := by decide +kernel
theorem d10_6 : decode jdk_52_method_4_code 6 = .ok (.iload_n 1, 1) := by decide +kernel
theorem d10_7 : decode jdk_52_method_4_code 7 = .ok (.ifCond .lt 11, 3) := by decide +kernel
theorem d10_10 : decode jdk_52_method_4_code 10 = .ok (.iload_n 1, 1) := by decide +kernel
theorem d10_11 : decode jdk_52_method_4_code 11 = .ok (.aload_n 0, 1) := by decide +kernel
theorem d10_12 : decode jdk_52_method_4_code 12 = .ok (.invokestatic 48, 3) := by decide +kernel
theorem d10_15 : decode jdk_52_method_4_code 15 = .ok (.if_icmp .lt 13, 3) := by decide +kernel
theorem d10_18 : decode jdk_52_method_4_code 18 = .ok (.new 52, 3) := by decide +kernel
theorem d10_21 : decode jdk_52_method_4_code 21 = .ok (.dup, 1) := by decide +kernel
theorem d10_22 : decode jdk_52_method_4_code 22 = .ok (.ldc 54, 2) := by decide +kernel
theorem d10_24 : decode jdk_52_method_4_code 24 = .ok (.invokespecial 56, 3) := by decide +kernel
theorem d10_27 : decode jdk_52_method_4_code 27 = .ok (.athrow, 1) := by decide +kernel
theorem d10_28 : decode jdk_52_method_4_code 28 = .ok (.iload_n 1, 1) := by decide +kernel
theorem d10_29 : decode jdk_52_method_4_code 29 = .ok (.iconst 1, 1) := by decide +kernel
theorem d10_30 : decode jdk_52_method_4_code 30 = .ok (.ishl, 1) := by decide +kernel
theorem d10_31 : decode jdk_52_method_4_code 31 = .ok (.istore_n 1, 1) := by decide +kernel
theorem d10_32 : decode jdk_52_method_4_code 32 = .ok (.aload_n 0, 1) := by decide +kernel
theorem d10_33 : decode jdk_52_method_4_code 33 = .ok (.iload_n 1, 1) := by decide +kernel
theorem d10_34 : decode jdk_52_method_4_code 34 = .ok (.iinc 1 1, 3) := by decide +kernel
theorem d10_37 : decode jdk_52_method_4_code 37 = .ok (.iload_n 2, 1) := by decide +kernel
theorem d10_38 : decode jdk_52_method_4_code 38 = .ok (.getstatic 59, 3) := by decide +kernel
theorem d10_41 : decode jdk_52_method_4_code 41 = .ok (.ishr, 1) := by decide +kernel
theorem d10_42 : decode jdk_52_method_4_code 42 = .ok (.i2b, 1) := by decide +kernel
theorem d10_43 : decode jdk_52_method_4_code 43 = .ok (.bastore, 1) := by decide +kernel
theorem d10_44 : decode jdk_52_method_4_code 44 = .ok (.aload_n 0, 1) := by decide +kernel
theorem d10_45 : decode jdk_52_method_4_code 45 = .ok (.iload_n 1, 1) := by decide +kernel
theorem d10_46 : decode jdk_52_method_4_code 46 = .ok (.iload_n 2, 1) := by decide +kernel
theorem d10_47 : decode jdk_52_method_4_code 47 = .ok (.getstatic 63, 3) := by decide +kernel
theorem d10_50 : decode jdk_52_method_4_code 50 = .ok (.ishr, 1) := by decide +kernel
theorem d10_51 : decode jdk_52_method_4_code 51 = .ok (.i2b, 1) := by decide +kernel
theorem d10_52 : decode jdk_52_method_4_code 52 = .ok (.bastore, 1) := by decide +kernel
theorem d10_53 : decode jdk_52_method_4_code 53 = .ok (.return_, 1) := by decide +kernel
theorem pn_10 : plainFor (⟨"java/lang/StringUTF16", "putChar", "([BII)V"⟩ : MethodName) = true := by first | (apply plainFor_of_name; simp [plainName, overriddenIn]; done) | (apply plainFor_of_name; decide +kernel) | decide +kernel
theorem pd_10 : parseMethodDescriptor "([BII)V" = some ⟨[(.array .byte), .int, .int], none⟩ := by decide +kernel
theorem d11_0 : decode jdk_52_method_5_code 0 = .ok (.getstatic 44, 3) := by decide +kernel
theorem d11_3 : decode jdk_52_method_5_code 3 = .ok (.ifCond .ne 25, 3) := by decide +kernel
theorem d11_6 : decode jdk_52_method_5_code 6 = .ok (.iload_n 1, 1) := by decide +kernel
theorem d11_7 : decode jdk_52_method_5_code 7 = .ok (.ifCond .lt 11, 3) := by decide +kernel
theorem d11_10 : decode jdk_52_method_5_code 10 = .ok (.iload_n 1, 1) := by decide +kernel
theorem d11_11 : decode jdk_52_method_5_code 11 = .ok (.aload_n 0, 1) := by decide +kernel
theorem d11_12 : decode jdk_52_method_5_code 12 = .ok (.invokestatic 48, 3) := by decide +kernel
theorem d11_15 : decode jdk_52_method_5_code 15 = .ok (.if_icmp .lt 13, 3) := by decide +kernel
theorem d11_18 : decode jdk_52_method_5_code 18 = .ok (.new 52, 3) := by decide +kernel
theorem d11_21 : decode jdk_52_method_5_code 21 = .ok (.dup, 1) := by decide +kernel
theorem d11_22 : decode jdk_52_method_5_code 22 = .ok (.ldc 54, 2) := by decide +kernel
theorem d11_24 : decode jdk_52_method_5_code 24 = .ok (.invokespecial 56, 3) := by decide +kernel
theorem d11_27 : decode jdk_52_method_5_code 27 = .ok (.athrow, 1) := by decide +kernel
theorem d11_28 : decode jdk_52_method_5_code 28 = .ok (.iload_n 1, 1) := by decide +kernel
theorem d11_29 : decode jdk_52_method_5_code 29 = .ok (.iconst 1, 1) := by decide +kernel
theorem d11_30 : decode jdk_52_method_5_code 30 = .ok (.ishl, 1) := by decide +kernel
theorem d11_31 : decode jdk_52_method_5_code 31 = .ok (.istore_n 1, 1) := by decide +kernel
theorem d11_32 : decode jdk_52_method_5_code 32 = .ok (.aload_n 0, 1) := by decide +kernel
theorem d11_33 : decode jdk_52_method_5_code 33 = .ok (.iload_n 1, 1) := by decide +kernel
theorem d11_34 : decode jdk_52_method_5_code 34 = .ok (.iinc 1 1, 3) := by decide +kernel
theorem d11_37 : decode jdk_52_method_5_code 37 = .ok (.baload, 1) := by decide +kernel
theorem d11_38 : decode jdk_52_method_5_code 38 = .ok (.sipush 255, 3) := by decide +kernel
theorem d11_41 : decode jdk_52_method_5_code 41 = .ok (.iand, 1) := by decide +kernel
theorem d11_42 : decode jdk_52_method_5_code 42 = .ok (.getstatic 59, 3) := by decide +kernel
theorem d11_45 : decode jdk_52_method_5_code 45 = .ok (.ishl, 1) := by decide +kernel
theorem d11_46 : decode jdk_52_method_5_code 46 = .ok (.aload_n 0, 1) := by decide +kernel
theorem d11_47 : decode jdk_52_method_5_code 47 = .ok (.iload_n 1, 1) := by decide +kernel
theorem d11_48 : decode jdk_52_method_5_code 48 = .ok (.baload, 1) := by decide +kernel
theorem d11_49 : decode jdk_52_method_5_code 49 = .ok (.sipush 255, 3) := by decide +kernel
theorem d11_52 : decode jdk_52_method_5_code 52 = .ok (.iand, 1) := by decide +kernel
theorem d11_53 : decode jdk_52_method_5_code 53 = .ok (.getstatic 63, 3) := by decide +kernel
theorem d11_56 : decode jdk_52_method_5_code 56 = .ok (.ishl, 1) := by decide +kernel
theorem d11_57 : decode jdk_52_method_5_code 57 = .ok (.ior, 1) := by decide +kernel
theorem d11_58 : decode jdk_52_method_5_code 58 = .ok (.i2c, 1) := by decide +kernel
theorem d11_59 : decode jdk_52_method_5_code 59 = .ok (.ireturn, 1) := by decide +kernel
theorem pn_11 : plainFor (⟨"java/lang/StringUTF16", "getChar", "([BI)C"⟩ : MethodName) = true := by first | (apply plainFor_of_name; simp [plainName, overriddenIn]; done) | (apply plainFor_of_name; decide +kernel) | decide +kernel
theorem pd_11 : parseMethodDescriptor "([BI)C" = some ⟨[(.array .byte), .int], (some .char)⟩ := by decide +kernel
theorem d7_0 : decode jdk_52_method_14_code 0 = .ok (.iload_n 2, 1) := by decide +kernel
theorem d7_1 : decode jdk_52_method_14_code 1 = .ok (.invokestatic 107, 3) := by decide +kernel
theorem d7_4 : decode jdk_52_method_14_code 4 = .ok (.astore_n 3, 1) := by decide +kernel
theorem d7_5 : decode jdk_52_method_14_code 5 = .ok (.iconst 0, 1) := by decide +kernel
theorem d7_6 : decode jdk_52_method_14_code 6 = .ok (.istore 4, 2) := by decide +kernel
theorem d7_8 : decode jdk_52_method_14_code 8 = .ok (.iload 4, 2) := by decide +kernel
theorem d7_10 : decode jdk_52_method_14_code 10 = .ok (.iload_n 2, 1) := by decide +kernel
theorem d7_11 : decode jdk_52_method_14_code 11 = .ok (.if_icmp .ge 21, 3) := by decide +kernel
theorem d7_14 : decode jdk_52_method_14_code 14 = .ok (.aload_n 3, 1) := by decide +kernel
theorem d7_15 : decode jdk_52_method_14_code 15 = .ok (.iload 4, 2) := by decide +kernel
theorem d7_17 : decode jdk_52_method_14_code 17 = .ok (.aload_n 0, 1) := by decide +kernel
theorem d7_18 : decode jdk_52_method_14_code 18 = .ok (.iload_n 1, 1) := by decide +kernel
theorem d7_19 : decode jdk_52_method_14_code 19 = .ok (.caload, 1) := by decide +kernel
theorem d7_20 : decode jdk_52_method_14_code 20 = .ok (.invokestatic 111, 3) := by decide +kernel
theorem d7_23 : decode jdk_52_method_14_code 23 = .ok (.iinc 1 1, 3) := by decide +kernel
theorem d7_26 : decode jdk_52_method_14_code 26 = .ok (.iinc 4 1, 3) := by decide +kernel
theorem d7_29 : decode jdk_52_method_14_code 29 = .ok (.goto (-21), 3) := by decide +kernel
theorem d7_32 : decode jdk_52_method_14_code 32 = .ok (.aload_n 3, 1) := by decide +kernel
theorem d7_33 : decode jdk_52_method_14_code 33 = .ok (.areturn, 1) := by decide +kernel
theorem pn_7 : plainFor (⟨"java/lang/StringUTF16", "toBytes", "([CII)[B"⟩ : MethodName) = true := by first | (apply plainFor_of_name; simp [plainName, overriddenIn]; done) | (apply plainFor_of_name; decide +kernel) | decide +kernel
theorem pd_7 : parseMethodDescriptor "([CII)[B" = some ⟨[(.array .char), .int, .int], (some (.array .byte))⟩ := by decide +kernel
theorem d6_0 : decode jdk_52_method_21_code 0 = .ok (.iconst 0, 1) := by decide +kernel
theorem d6_1 : decode jdk_52_method_21_code 1 = .ok (.istore 5, 2) := by decide +kernel
theorem d6_3 : decode jdk_52_method_21_code 3 = .ok (.iload 5, 2) := by decide +kernel
theorem d6_5 : decode jdk_52_method_21_code 5 = .ok (.iload 4, 2) := by decide +kernel
theorem d6_7 : decode jdk_52_method_21_code 7 = .ok (.if_icmp .ge 37, 3) := by decide +kernel
theorem d6_10 : decode jdk_52_method_21_code 10 = .ok (.aload_n 0, 1) := by decide +kernel
theorem d6_11 : decode jdk_52_method_21_code 11 = .ok (.iload_n 1, 1) := by decide +kernel
theorem d6_12 : decode jdk_52_method_21_code 12 = .ok (.caload, 1) := by decide +kernel
theorem d6_13 : decode jdk_52_method_21_code 13 = .ok (.istore 6, 2) := by decide +kernel
theorem d6_15 : decode jdk_52_method_21_code 15 = .ok (.iload 6, 2) := by decide +kernel
theorem d6_17 : decode jdk_52_method_21_code 17 = .ok (.sipush 255, 3) := by decide +kernel
theorem d6_20 : decode jdk_52_method_21_code 20 = .ok (.if_icmp .le 6, 3) := by decide +kernel
theorem d6_23 : decode jdk_52_method_21_code 23 = .ok (.iload 5, 2) := by decide +kernel
theorem d6_25 : decode jdk_52_method_21_code 25 = .ok (.ireturn, 1) := by decide +kernel
theorem d6_26 : decode jdk_52_method_21_code 26 = .ok (.aload_n 2, 1) := by decide +kernel
theorem d6_27 : decode jdk_52_method_21_code 27 = .ok (.iload_n 3, 1) := by decide +kernel
theorem d6_28 : decode jdk_52_method_21_code 28 = .ok (.iload 6, 2) := by decide +kernel
theorem d6_30 : decode jdk_52_method_21_code 30 = .ok (.i2b, 1) := by decide +kernel
theorem d6_31 : decode jdk_52_method_21_code 31 = .ok (.bastore, 1) := by decide +kernel
theorem d6_32 : decode jdk_52_method_21_code 32 = .ok (.iinc 1 1, 3) := by decide +kernel
theorem d6_35 : decode jdk_52_method_21_code 35 = .ok (.iinc 3 1, 3) := by decide +kernel
theorem d6_38 : decode jdk_52_method_21_code 38 = .ok (.iinc 5 1, 3) := by decide +kernel
theorem d6_41 : decode jdk_52_method_21_code 41 = .ok (.goto (-38), 3) := by decide +kernel
theorem d6_44 : decode jdk_52_method_21_code 44 = .ok (.iload 4, 2) := by decide +kernel
theorem d6_46 : decode jdk_52_method_21_code 46 = .ok (.ireturn, 1) := by decide +kernel
theorem pn_6 : plainFor (⟨"java/lang/StringUTF16", "compress", "([CI[BII)I"⟩ : MethodName) = true := by first | (apply plainFor_of_name; simp [plainName, overriddenIn]; done) | (apply plainFor_of_name; decide +kernel) | decide +kernel
theorem pd_6 : parseMethodDescriptor "([CI[BII)I" = some ⟨[(.array .char), .int, (.array .byte), .int, .int], (some .int)⟩ := by decide +kernel
theorem d5_0 : decode jdk_52_method_16_code 0 = .ok (.iload_n 2, 1) := by decide +kernel
theorem d5_1 : decode jdk_52_method_16_code 1 = .ok (.newarray .byte, 2) := by decide +kernel
theorem d5_3 : decode jdk_52_method_16_code 3 = .ok (.astore_n 3, 1) := by decide +kernel
theorem d5_4 : decode jdk_52_method_16_code 4 = .ok (.aload_n 0, 1) := by decide +kernel
theorem d5_5 : decode jdk_52_method_16_code 5 = .ok (.iload_n 1, 1) := by decide +kernel
theorem d5_6 : decode jdk_52_method_16_code 6 = .ok (.aload_n 3, 1) := by decide +kernel
theorem d5_7 : decode jdk_52_method_16_code 7 = .ok (.iconst 0, 1) := by decide +kernel
theorem d5_8 : decode jdk_52_method_16_code 8 = .ok (.iload_n 2, 1) := by decide +kernel
theorem d5_9 : decode jdk_52_method_16_code 9 = .ok (.invokestatic 115, 3) := by decide +kernel
theorem d5_12 : decode jdk_52_method_16_code 12 = .ok (.istore 4, 2) := by decide +kernel
theorem d5_14 : decode jdk_52_method_16_code 14 = .ok (.iload 4, 2) := by decide +kernel
theorem d5_16 : decode jdk_52_method_16_code 16 = .ok (.iload_n 2, 1) := by decide +kernel
theorem d5_17 : decode jdk_52_method_16_code 17 = .ok (.if_icmp .eq 40, 3) := by decide +kernel
theorem d5_20 : decode jdk_52_method_16_code 20 = .ok (.aload_n 0, 1) := by decide +kernel
theorem d5_21 : decode jdk_52_method_16_code 21 = .ok (.iload_n 1, 1) := by decide +kernel
theorem d5_22 : decode jdk_52_method_16_code 22 = .ok (.iload_n 2, 1) := by decide +kernel
theorem d5_23 : decode jdk_52_method_16_code 23 = .ok (.invokestatic 119, 3) := by decide +kernel
theorem d5_26 : decode jdk_52_method_16_code 26 = .ok (.astore 5, 2) := by decide +kernel
theorem d5_28 : decode jdk_52_method_16_code 28 = .ok (.aload 5, 2) := by decide +kernel
theorem d5_30 : decode jdk_52_method_16_code 30 = .ok (.iload 4, 2) := by decide +kernel
theorem d5_32 : decode jdk_52_method_16_code 32 = .ok (.invokestatic 71, 3) := by decide +kernel
theorem d5_35 : decode jdk_52_method_16_code 35 = .ok (.sipush 255, 3) := by decide +kernel
theorem d5_38 : decode jdk_52_method_16_code 38 = .ok (.if_icmp .gt 16, 3) := by decide +kernel
theorem d5_41 : decode jdk_52_method_16_code 41 = .ok (.aload 5, 2) := by decide +kernel
theorem d5_43 : decode jdk_52_method_16_code 43 = .ok (.iconst 0, 1) := by decide +kernel
theorem d5_44 : decode jdk_52_method_16_code 44 = .ok (.aload_n 3, 1) := by decide +kernel
theorem d5_45 : decode jdk_52_method_16_code 45 = .ok (.iconst 0, 1) := by decide +kernel
theorem d5_46 : decode jdk_52_method_16_code 46 = .ok (.iload_n 2, 1) := by decide +kernel
theorem d5_47 : decode jdk_52_method_16_code 47 = .ok (.invokestatic 123, 3) := by decide +kernel
theorem d5_50 : decode jdk_52_method_16_code 50 = .ok (.iload_n 2, 1) := by decide +kernel
theorem d5_51 : decode jdk_52_method_16_code 51 = .ok (.if_icmp .eq 6, 3) := by decide +kernel
theorem d5_54 : decode jdk_52_method_16_code 54 = .ok (.aload 5, 2) := by decide +kernel
theorem d5_56 : decode jdk_52_method_16_code 56 = .ok (.areturn, 1) := by decide +kernel
theorem d5_57 : decode jdk_52_method_16_code 57 = .ok (.aload_n 3, 1) := by decide +kernel
theorem d5_58 : decode jdk_52_method_16_code 58 = .ok (.areturn, 1) := by decide +kernel
theorem pn_5 : plainFor (⟨"java/lang/StringUTF16", "compress", "([CII)[B"⟩ : MethodName) = true := by first | (apply plainFor_of_name; simp [plainName, overriddenIn]; done) | (apply plainFor_of_name; decide +kernel) | decide +kernel
theorem pd_5 : parseMethodDescriptor "([CII)[B" = some ⟨[(.array .char), .int, .int], (some (.array .byte))⟩ := by decide +kernel
theorem d12_0 : decode jdk_52_method_15_code 0 = .ok (.iload_n 1, 1) := by decide +kernel
theorem d12_1 : decode jdk_52_method_15_code 1 = .ok (.aload_n 0, 1) := by decide +kernel
theorem d12_2 : decode jdk_52_method_15_code 2 = .ok (.arraylength, 1) := by decide +kernel
theorem d12_3 : decode jdk_52_method_15_code 3 = .ok (.isub, 1) := by decide +kernel
theorem d12_4 : decode jdk_52_method_15_code 4 = .ok (.bipush 31, 2) := by decide +kernel
theorem d12_6 : decode jdk_52_method_15_code 6 = .ok (.iushr, 1) := by decide +kernel
theorem d12_7 : decode jdk_52_method_15_code 7 = .ok (.i2b, 1) := by decide +kernel
theorem d12_8 : decode jdk_52_method_15_code 8 = .ok (.ireturn, 1) := by decide +kernel
theorem pn_12 : plainFor (⟨"java/lang/StringUTF16", "coderFromArrayLen", "([BI)B"⟩ : MethodName) = true := by first | (apply plainFor_of_name; simp [plainName, overriddenIn]; done) | (apply plainFor_of_name; decide +kernel) | decide +kernel
theorem pd_12 : parseMethodDescriptor "([BI)B" = some ⟨[(.array .byte), .int], (some .byte)⟩ := by decide +kernel
theorem d3_0 : decode jdk_42_method_149_code 0 = .ok (.aload_n 0, 1) := by decide +kernel
theorem d3_1 : decode jdk_42_method_149_code 1 = .ok (.invokespecial 1, 3) := by decide +kernel
theorem d3_4 : decode jdk_42_method_149_code 4 = .ok (.iload_n 3, 1) := by decide +kernel
theorem d3_5 : decode jdk_42_method_149_code 5 = .ok (.ifCond .ne 22, 3) := by decide +kernel
theorem d3_8 : decode jdk_42_method_149_code 8 = .ok (.aload_n 0, 1) := by decide +kernel
theorem d3_9 : decode jdk_42_method_149_code 9 = .ok (.ldc 7, 2) := by decide +kernel
theorem d3_11 : decode jdk_42_method_149_code 11 = .ok (.getfield 9, 3) := by decide +kernel
theorem d3_14 : decode jdk_42_method_149_code 14 = .ok (.putfield 9, 3) := by decide +kernel
theorem d3_17 : decode jdk_42_method_149_code 17 = .ok (.aload_n 0, 1) := by decide +kernel
theorem d3_18 : decode jdk_42_method_149_code 18 = .ok (.ldc 7, 2) := by decide +kernel
theorem d3_20 : decode jdk_42_method_149_code 20 = .ok (.getfield 15, 3) := by decide +kernel
theorem d3_23 : decode jdk_42_method_149_code 23 = .ok (.putfield 15, 3) := by decide +kernel
theorem d3_26 : decode jdk_42_method_149_code 26 = .ok (.return_, 1) := by decide +kernel
theorem d3_27 : decode jdk_42_method_149_code 27 = .ok (.getstatic 38, 3) := by decide +kernel
theorem d3_30 : decode jdk_42_method_149_code 30 = .ok (.ifCond .eq 28, 3) := by decide +kernel
theorem d3_33 : decode jdk_42_method_149_code 33 = .ok (.aload_n 1, 1) := by decide +kernel
theorem d3_34 : decode jdk_42_method_149_code 34 = .ok (.iload_n 2, 1) := by decide +kernel
theorem d3_35 : decode jdk_42_method_149_code 35 = .ok (.iload_n 3, 1) := by decide +kernel
theorem d3_36 : decode jdk_42_method_149_code 36 = .ok (.invokestatic 177, 3) := by decide +kernel
theorem d3_39 : decode jdk_42_method_149_code 39 = .ok (.astore 5, 2) := by decide +kernel
theorem d3_41 : decode jdk_42_method_149_code 41 = .ok (.aload_n 0, 1) := by decide +kernel
theorem d3_42 : decode jdk_42_method_149_code 42 = .ok (.aload 5, 2) := by decide +kernel
theorem d3_44 : decode jdk_42_method_149_code 44 = .ok (.iload_n 3, 1) := by decide +kernel
theorem d3_45 : decode jdk_42_method_149_code 45 = .ok (.invokestatic 47, 3) := by decide +kernel
theorem d3_48 : decode jdk_42_method_149_code 48 = .ok (.putfield 15, 3) := by decide +kernel
theorem d3_51 : decode jdk_42_method_149_code 51 = .ok (.aload_n 0, 1) := by decide +kernel
theorem d3_52 : decode jdk_42_method_149_code 52 = .ok (.aload 5, 2) := by decide +kernel
theorem d3_54 : decode jdk_42_method_149_code 54 = .ok (.putfield 9, 3) := by decide +kernel
theorem d3_57 : decode jdk_42_method_149_code 57 = .ok (.return_, 1) := by decide +kernel
theorem d3_58 : decode jdk_42_method_149_code 58 = .ok (.aload_n 0, 1) := by decide +kernel
theorem d3_59 : decode jdk_42_method_149_code 59 = .ok (.iconst 1, 1) := by decide +kernel
theorem d3_60 : decode jdk_42_method_149_code 60 = .ok (.putfield 15, 3) := by decide +kernel
theorem d3_63 : decode jdk_42_method_149_code 63 = .ok (.aload_n 0, 1) := by decide +kernel
theorem d3_64 : decode jdk_42_method_149_code 64 = .ok (.aload_n 1, 1) := by decide +kernel
theorem d3_65 : decode jdk_42_method_149_code 65 = .ok (.iload_n 2, 1) := by decide +kernel
theorem d3_66 : decode jdk_42_method_149_code 66 = .ok (.iload_n 3, 1) := by decide +kernel
theorem d3_67 : decode jdk_42_method_149_code 67 = .ok (.invokestatic 180, 3) := by decide +kernel
theorem d3_70 : decode jdk_42_method_149_code 70 = .ok (.putfield 9, 3) := by decide +kernel
theorem d3_73 : decode jdk_42_method_149_code 73 = .ok (.return_, 1) := by decide +kernel
theorem pn_3 : plainFor (⟨"java/lang/String", "<init>", "([CIILjava/lang/Void;)V"⟩ : MethodName) = true := by first | (apply plainFor_of_name; simp [plainName, overriddenIn]; done) | (apply plainFor_of_name; decide +kernel) | decide +kernel
theorem pd_3 : parseMethodDescriptor "([CIILjava/lang/Void;)V" = some ⟨[(.array .char), .int, .int, (.object "java/lang/Void")], none⟩ := by decide +kernel
theorem d2_0 : decode jdk_42_method_3_code 0 = .ok (.aload_n 0, 1) := by decide +kernel
theorem d2_1 : decode jdk_42_method_3_code 1 = .ok (.aload_n 1, 1) := by decide +kernel
theorem d2_2 : decode jdk_42_method_3_code 2 = .ok (.iconst 0, 1) := by decide +kernel
theorem d2_3 : decode jdk_42_method_3_code 3 = .ok (.aload_n 1, 1) := by decide +kernel
theorem d2_4 : decode jdk_42_method_3_code 4 = .ok (.arraylength, 1) := by decide +kernel
theorem d2_5 : decode jdk_42_method_3_code 5 = .ok (.aconst_null, 1) := by decide +kernel
theorem d2_6 : decode jdk_42_method_3_code 6 = .ok (.invokespecial 27, 3) := by decide +kernel
theorem d2_9 : decode jdk_42_method_3_code 9 = .ok (.return_, 1) := by decide +kernel
theorem pn_2 : plainFor (⟨"java/lang/String", "<init>", "([C)V"⟩ : MethodName) = true := by first | (apply plainFor_of_name; simp [plainName, overriddenIn]; done) | (apply plainFor_of_name; decide +kernel) | decide +kernel
theorem pd_2 : parseMethodDescriptor "([C)V" = some ⟨[(.array .char)], none⟩ := by decide +kernel
theorem d17_0 : decode jdk_42_method_152_code 0 = .ok (.getstatic 38, 3) := by decide +kernel
theorem d17_3 : decode jdk_42_method_152_code 3 = .ok (.ifCond .eq 10, 3) := by decide +kernel
theorem d17_6 : decode jdk_42_method_152_code 6 = .ok (.aload_n 0, 1) := by decide +kernel
theorem d17_7 : decode jdk_42_method_152_code 7 = .ok (.getfield 15, 3) := by decide +kernel
theorem d17_10 : decode jdk_42_method_152_code 10 = .ok (.goto 4, 3) := by decide +kernel
theorem d17_13 : decode jdk_42_method_152_code 13 = .ok (.iconst 1, 1) := by decide +kernel
theorem d17_14 : decode jdk_42_method_152_code 14 = .ok (.ireturn, 1) := by decide +kernel
theorem pn_17 : plainFor (⟨"java/lang/String", "coder", "()B"⟩ : MethodName) = true := by first | (apply plainFor_of_name; simp [plainName, overriddenIn]; done) | (apply plainFor_of_name; decide +kernel) | decide +kernel
theorem pd_17 : parseMethodDescriptor "()B" = some ⟨[], (some .byte)⟩ := by decide +kernel
theorem d20_0 : decode jdk_42_method_154_code 0 = .ok (.getstatic 38, 3) := by decide +kernel
theorem d20_3 : decode jdk_42_method_154_code 3 = .ok (.ifCond .eq 14, 3) := by decide +kernel
theorem d20_6 : decode jdk_42_method_154_code 6 = .ok (.aload_n 0, 1) := by decide +kernel
theorem d20_7 : decode jdk_42_method_154_code 7 = .ok (.getfield 15, 3) := by decide +kernel
theorem d20_10 : decode jdk_42_method_154_code 10 = .ok (.ifCond .ne 7, 3) := by decide +kernel
theorem d20_13 : decode jdk_42_method_154_code 13 = .ok (.iconst 1, 1) := by decide +kernel
theorem d20_14 : decode jdk_42_method_154_code 14 = .ok (.goto 4, 3) := by decide +kernel
theorem d20_17 : decode jdk_42_method_154_code 17 = .ok (.iconst 0, 1) := by decide +kernel
theorem d20_18 : decode jdk_42_method_154_code 18 = .ok (.ireturn, 1) := by decide +kernel
theorem pn_20 : plainFor (⟨"java/lang/String", "isLatin1", "()Z"⟩ : MethodName) = true := by first | (apply plainFor_of_name; simp [plainName, overriddenIn]; done) | (apply plainFor_of_name; decide +kernel) | decide +kernel
theorem pd_20 : parseMethodDescriptor "()Z" = some ⟨[], (some .boolean)⟩ := by decide +kernel
theorem d16_0 : decode jdk_42_method_54_code 0 = .ok (.aload_n 0, 1) := by decide +kernel
theorem d16_1 : decode jdk_42_method_54_code 1 = .ok (.getfield 9, 3) := by decide +kernel
theorem d16_4 : decode jdk_42_method_54_code 4 = .ok (.arraylength, 1) := by decide +kernel
theorem d16_5 : decode jdk_42_method_54_code 5 = .ok (.aload_n 0, 1) := by decide +kernel
theorem d16_6 : decode jdk_42_method_54_code 6 = .ok (.invokevirtual 335, 3) := by decide +kernel
theorem d16_9 : decode jdk_42_method_54_code 9 = .ok (.ishr, 1) := by decide +kernel
theorem d16_10 : decode jdk_42_method_54_code 10 = .ok (.ireturn, 1) := by decide +kernel
theorem pn_16 : plainFor (⟨"java/lang/String", "length", "()I"⟩ : MethodName) = true := by first | (apply plainFor_of_name; simp [plainName, overriddenIn]; done) | (apply plainFor_of_name; decide +kernel) | decide +kernel
theorem pd_16 : parseMethodDescriptor "()I" = some ⟨[], (some .int)⟩ := by decide +kernel
theorem own_UpE {vs : List Value} {cs : List Int32} {i n : Nat} (q : i = n) (h : own_Up vs cs i) : own_Up vs cs n := q ▸ h
theorem own_LpE {vs : List Value} {cs : List Int32} {i n : Nat} (q : i = n) (h : own_Lp vs cs i) : own_Lp vs cs n := q ▸ h
def own_SV (k : Int32) (vs : List Value) (cs : List Int32) : Prop := (k = 0 ∧ own_L vs cs) ∨ (k = 1 ∧ own_U vs cs)
theorem own_ltlit {n : Nat} (h : n ≤ 4) {x : Int32} (hx : 4 < x.toInt) : Int32.ofNat n < x := by
  rw [Int32.lt_iff_toInt_lt, own_ti (by omega)]; omega
theorem own_cfal : ∀ n : Nat, n ≤ 4 → ((XT.ushr (Int32.ofNat n - Int32.ofNat n) 31).toInt8.toInt32 = 0) := by decide +kernel
theorem own_cfal2 : ∀ n : Nat, n ≤ 4 → 0 < n → ((XT.ushr (Int32.ofNat n - Int32.ofNat (2 * n)) 31).toInt8.toInt32 = 1) := by decide +kernel
theorem own_nz {n : Nat} (h : n ≤ 4) (h0 : 0 < n) : ¬ Int32.ofNat n = 0 := fun q => by
  have := congrArg Int32.toInt q
  rw [own_ti (by omega)] at this
  have k0 : (0 : Int32).toInt = 0 := by decide
  omega
theorem own_inj {i n : Nat} (hi : i < 2147483648) (hn : n < 2147483648) (h : Int32.ofNat i = Int32.ofNat n) : i = n := by
  have := congrArg Int32.toInt h
  rw [own_ti hi, own_ti hn] at this
  omega
theorem own_SVlen {k : Int32} {vs : List Value} {cs : List Int32} (hn : cs.length ≤ 4) (h : own_SV k vs cs) : Int32.ofNat vs.length >>> (k &&& 31) = Int32.ofNat cs.length := by
  rcases h with ⟨rfl, h⟩ | ⟨rfl, h⟩
  · rw [own_shr0, h.1]
  · rw [own_shr1 (by rw [h.1]; omega), h.1]; congr 1; omega
theorem own_SVk {k : Int32} {vs : List Value} {cs : List Int32} (h : own_SV k vs cs) : k = 0 ∨ k = 1 := by
  rcases h with ⟨rfl, h⟩ | ⟨rfl, h⟩
  · exact Or.inl rfl
  · exact Or.inr rfl
theorem own_kb {k : Int32} (h : k = 0 ∨ k = 1) : narrow .byte (.int k) = .int k := by rcases h with rfl | rfl <;> rfl
theorem own_kf {k : Int32} (h : k = 0 ∨ k = 1) : fits .byte (.int k) = true := by rcases h with rfl | rfl <;> rfl
theorem own_avN {Z : State} {h : Heap} {a b : Addr} {ty ty' : FieldType} {vs ws : List Value} (A : Av Z h a ty vs) (B : Av Z h b ty' ws) (q : ty ≠ ty') : a ≠ b := fun e => by
  subst e
  obtain ⟨c, ⟨h1, ⟨-, k1, k2, comp, k3⟩, -⟩, -⟩ := A
  obtain ⟨c', ⟨g1, ⟨-, l1, l2, comp', l3⟩, -⟩, -⟩ := B
  cases h1.symm.trans g1
  cases k2.symm.trans l2
  rw [k3] at l3
  cases l3
  exact q rfl

set_option maxRecDepth 65536 in
set_option maxHeartbeats 40000000 in
theorem rS_nbl (l : Launch) (Z : State) (ag : Array Value) (hw : ∀ d ∈ tables_1, d.before ag Z = true) (n : Nat) (hn : n ≤ 4) (h0 : Heap) (n0 : Nat)  :
    Ctr l Z (⟨"java/lang/StringUTF16", "newBytesLength", "(I)I"⟩ : MethodName) jdk_52_method_3_code 1 (some .int) ({ frames := 0, cells := 0, slots := 0, locals := 0 } : Room) #[.int (Int32.ofNat n)] h0 (fun v h L => v = some (.int (Int32.ofNat (2 * n))) ∧ Fr n0 L ∧ h0 = h) := by
  refine Ctr.of pn_9 ?_
  intro p e s m below meth c T0 X0 B e0
  refine Go.cast (f' := mkF m 0 #[.val (.int (Int32.ofNat n))] []) (by first | rfl | (simp [entryFrame, mkF, argsToLocals, Value.category, maxLocals]; done)) ?_

  refine g_iloadN X0 B d9_0 1 rfl rfl ?_
  refine g_if_ge X0 B d9_1 12 4 rfl (by decide) rfl (fun _ => ?_) (fun z => own_abs' (own_nn (by omega)) z)
  refine g_iloadN X0 B d9_12 13 rfl rfl ?_
  refine g_ldcI X0 B d9_13 15 rfl (hw _ (List.mem_of_getElem? (i := 39) rfl)) ?_
  refine g_icmp_lt X0 B d9_15 55 18 rfl (by decide) rfl (fun _ => ?_) (fun z => own_abs (own_ltlit hn (by decide)) z)
  refine g_iloadN X0 B d9_55 56 rfl rfl ?_
  refine g_iconst X0 B (1) d9_56 57 rfl rfl ?_
  refine g_ishl X0 B d9_57 58 rfl ?_
  exact g_retI X0 B d9_58 rfl (by decide) (by decide) e0 ⟨by rw [own_shl1 (by omega)], (Fr.nil n0), rfl⟩
set_option maxRecDepth 65536 in
set_option maxHeartbeats 40000000 in
theorem rS_nbf (l : Launch) (Z : State) (ag : Array Value) (hw : ∀ d ∈ tables_1, d.before ag Z = true) (n : Nat) (hn : n ≤ 4) (h0 : Heap) (n0 : Nat) (Z0 : n0 ≤ h0.size) :
    Ctr l Z (⟨"java/lang/StringUTF16", "newBytesFor", "(I)[B"⟩ : MethodName) jdk_52_method_2_code 1 (some (.array .byte)) ({ frames := 1, cells := 1, slots := 8, locals := 12 } : Room) #[.int (Int32.ofNat n)] h0 (fun v h L => ∃ a, v = some (.ref a) ∧ Fr n0 L ∧ Keep h0 h [] ∧ Av Z h a .byte (List.replicate (2 * n) (.int 0)) ∧ h0.size ≤ a ∧ n0 ≤ a) := by
  refine Ctr.of pn_8 ?_
  intro p e s m below meth c T0 X0 B e0
  refine Go.cast (f' := mkF m 0 #[.val (.int (Int32.ofNat n))] []) (by first | rfl | (simp [entryFrame, mkF, argsToLocals, Value.category, maxLocals]; done)) ?_

  refine g_iloadN X0 B d8_0 1 rfl rfl ?_
  refine g_callS X0 B [.int (Int32.ofNat n)] [] d8_1 4 rfl rfl (hw _ (List.mem_of_getElem? (i := 36) rfl)) (hw _ (List.mem_of_getElem? (i := 37) rfl)) (hw _ (List.mem_of_getElem? (i := 24) rfl)) (hw _ (List.mem_of_getElem? (i := 38) rfl)) (by decide) (lenOf pd_9 rfl) (rS_nbl l Z ag hw n hn h0 n0) e0 rfl 0 (Nat.le_of_eq rfl) (by decide) (by decide) (by decide) (by decide) (fun v1 T1 h1 L1 X1 e1 q1 => ?_)
  obtain ⟨rfl, N1, rfl⟩ := q1
  show Go p e below _ (T1.setTop (mkF m 4 #[.val (.int (Int32.ofNat n))] [.int (Int32.ofNat (2 * n))]))
  refine g_newP X1 B (List.replicate (2 * n) (.int 0)) d8_4 6 rfl (hw _ (List.mem_of_getElem? (i := 26) rfl)) e1 (own_nn (by omega)) (by rw [own_tn (by omega)]; rfl) (by simp; omega) (by decide) (by simp; omega) (fun T2 h2 a X2' e2 ea Ea Aa => ?_)
  have X2 := X2'.more (Nat.le_refl _) (show 0 + 0 + (List.replicate (2 * n) (Value.int 0)).length ≤ 8 by simp; omega)
  exact g_retA X2 B d8_6 rfl rfl rfl (by decide) (by decide) e2 ⟨a, rfl, ((Fr.nil n0).app N1), (Keep.refl _ _).ext Ea, Aa, Nat.le_of_eq ea.symm, ea ▸ Z0⟩
set_option maxRecDepth 65536 in
set_option maxHeartbeats 40000000 in
theorem rS_put (l : Launch) (Z : State) (ag : Array Value) (hw : ∀ d ∈ tables_1, d.before ag Z = true) (aB : Addr) (i : Nat) (c : Int32) (vs : List Value) (h0 : Heap) (n0 : Nat) (gB : n0 ≤ aB) (AB : Av Z h0 aB .byte vs) (hi : 2 * i + 1 < vs.length) (hl : vs.length ≤ 8) (SA : Sta Z h0 "java/lang/StringUTF16" "$assertionsDisabled" "Z" (.int 1)) (SH : Sta Z h0 "java/lang/StringUTF16" "HI_BYTE_SHIFT" "I" (.int 0)) (SLo : Sta Z h0 "java/lang/StringUTF16" "LO_BYTE_SHIFT" "I" (.int 8)) :
    Ctr l Z (⟨"java/lang/StringUTF16", "putChar", "([BII)V"⟩ : MethodName) jdk_52_method_4_code 3 none ({ frames := 0, cells := 0, slots := 0, locals := 0 } : Room) #[.ref aB, .int (Int32.ofNat i), .int c] h0 (fun v h L => v = none ∧ Fr n0 L ∧ Keep h0 h [aB] ∧ Av Z h aB .byte ((vs.set (2 * i) (.int (own_lo c))).set (2 * i + 1) (.int (own_hi c)))) := by
  refine Ctr.of pn_10 ?_
  intro p e s m below meth cc T0 X0 B e0
  refine Go.cast (f' := mkF m 0 #[.val (.ref aB), .val (.int (Int32.ofNat i)), .val (.int c)] []) (by first | rfl | (simp [entryFrame, mkF, argsToLocals, Value.category, maxLocals]; done)) ?_

  refine g_getS X0 B d10_0 3 rfl (hw _ (List.mem_of_getElem? (i := 43) rfl)) Via.refl e0 SA (fun T1 X1 e1 => ?_)
  refine g_if_ne X1 B d10_3 28 6 rfl (by decide) rfl (fun _ => ?_) (fun z => own_abs' (by decide) z)
  refine g_iloadN X1 B d10_28 29 rfl rfl ?_
  refine g_iconst X1 B (1) d10_29 30 rfl rfl ?_
  refine g_ishl X1 B d10_30 31 rfl ?_
  rw [own_shl1 (by omega)]
  refine g_istoreN X1 B #[.val (.ref aB), .val (.int (Int32.ofNat (2 * i))), .val (.int c)] d10_31 32 rfl rfl ?_
  refine g_aloadN X1 B d10_32 33 rfl rfl rfl ?_
  refine g_iloadN X1 B d10_33 34 rfl rfl ?_
  refine g_iinc X1 B #[.val (.ref aB), .val (.int ((Int32.ofNat (2 * i)) + (1))), .val (.int c)] (1) d10_34 37 rfl rfl rfl rfl ?_
  refine g_iloadN X1 B d10_37 38 rfl rfl ?_
  refine g_getS X1 B d10_38 41 rfl (hw _ (List.mem_of_getElem? (i := 44) rfl)) Via.refl e1 SH (fun T2 X2 e2 => ?_)
  refine g_ishr X2 B d10_41 42 rfl ?_
  rw [own_shr0]
  refine g_i2b X2 B d10_42 43 rfl ?_
  refine g_bastoreB X2 B (2 * i) d10_43 44 rfl e2 AB (own_tn (by omega)) (own_nn (by omega)) (by omega) (fun T3 h3 X3 e3 W3 A3 => ?_)
  rw [own_nb] at A3 W3
  rw [own_s1 (by omega)]
  refine g_aloadN X3 B d10_44 45 rfl rfl rfl ?_
  refine g_iloadN X3 B d10_45 46 rfl rfl ?_
  refine g_iloadN X3 B d10_46 47 rfl rfl ?_
  have t1 := (Sta.wr W3 SLo)
  refine g_getS X3 B d10_47 50 rfl (hw _ (List.mem_of_getElem? (i := 45) rfl)) Via.refl e3 t1 (fun T4 X4 e4 => ?_)
  refine g_ishr X4 B d10_50 51 rfl ?_
  refine g_i2b X4 B d10_51 52 rfl ?_
  refine g_bastoreB X4 B (2 * i + 1) d10_52 53 rfl e4 A3 (own_tn (by omega)) (own_nn (by omega)) (by simp; omega) (fun T5 h5 X5 e5 W5 A5 => ?_)
  rw [own_nb] at A5 W5
  exact g_retV X5 B d10_53 rfl (by decide) (by decide) e5 ⟨rfl, (Fr.snoc X5 (Fr.snoc X3 (Fr.nil n0) gB) gB), ((Keep.refl _ _).wr W3 (Or.inl (List.mem_singleton.mpr rfl))).wr W5 (Or.inl (List.mem_singleton.mpr rfl)), A5⟩
set_option maxRecDepth 65536 in
set_option maxHeartbeats 40000000 in
theorem rS_get (l : Launch) (Z : State) (ag : Array Value) (hw : ∀ d ∈ tables_1, d.before ag Z = true) (aB : Addr) (i : Nat) (c : Int32) (vs : List Value) (h0 : Heap) (n0 : Nat) (AB : Av Z h0 aB .byte vs) (hl : vs.length ≤ 8) (v1 : vs[2 * i]? = some (.int (own_lo c))) (v2 : vs[2 * i + 1]? = some (.int (own_hi c))) (hc : own_ch c) (SA : Sta Z h0 "java/lang/StringUTF16" "$assertionsDisabled" "Z" (.int 1)) (SH : Sta Z h0 "java/lang/StringUTF16" "HI_BYTE_SHIFT" "I" (.int 0)) (SLo : Sta Z h0 "java/lang/StringUTF16" "LO_BYTE_SHIFT" "I" (.int 8)) :
    Ctr l Z (⟨"java/lang/StringUTF16", "getChar", "([BI)C"⟩ : MethodName) jdk_52_method_5_code 2 (some .char) ({ frames := 0, cells := 0, slots := 0, locals := 0 } : Room) #[.ref aB, .int (Int32.ofNat i)] h0 (fun v h L => v = some (.int c) ∧ Fr n0 L ∧ h0 = h) := by
  refine Ctr.of pn_11 ?_
  intro p e s m below meth cc T0 X0 B e0
  refine Go.cast (f' := mkF m 0 #[.val (.ref aB), .val (.int (Int32.ofNat i))] []) (by first | rfl | (simp [entryFrame, mkF, argsToLocals, Value.category, maxLocals]; done)) ?_

  have hi : 2 * i + 1 < vs.length := (List.getElem?_eq_some_iff.mp v2).1
  refine g_getS X0 B d11_0 3 rfl (hw _ (List.mem_of_getElem? (i := 43) rfl)) Via.refl e0 SA (fun T1 X1 e1 => ?_)
  refine g_if_ne X1 B d11_3 28 6 rfl (by decide) rfl (fun _ => ?_) (fun z => own_abs' (by decide) z)
  refine g_iloadN X1 B d11_28 29 rfl rfl ?_
  refine g_iconst X1 B (1) d11_29 30 rfl rfl ?_
  refine g_ishl X1 B d11_30 31 rfl ?_
  rw [own_shl1 (by omega)]
  refine g_istoreN X1 B #[.val (.ref aB), .val (.int (Int32.ofNat (2 * i)))] d11_31 32 rfl rfl ?_
  refine g_aloadN X1 B d11_32 33 rfl rfl rfl ?_
  refine g_iloadN X1 B d11_33 34 rfl rfl ?_
  refine g_iinc X1 B #[.val (.ref aB), .val (.int ((Int32.ofNat (2 * i)) + (1)))] (1) d11_34 37 rfl rfl rfl rfl ?_
  refine g_baloadB X1 B (2 * i) d11_37 38 rfl e1 AB (own_tn (by omega)) (own_nn (by omega)) v1 ?_
  refine g_sipush X1 B (255) d11_38 41 rfl rfl ?_
  refine g_iand X1 B d11_41 42 rfl ?_
  refine g_getS X1 B d11_42 45 rfl (hw _ (List.mem_of_getElem? (i := 44) rfl)) Via.refl e1 SH (fun T2 X2 e2 => ?_)
  refine g_ishl X2 B d11_45 46 rfl ?_
  rw [own_s1 (by omega)]
  refine g_aloadN X2 B d11_46 47 rfl rfl rfl ?_
  refine g_iloadN X2 B d11_47 48 rfl rfl ?_
  refine g_baloadB X2 B (2 * i + 1) d11_48 49 rfl e2 AB (own_tn (by omega)) (own_nn (by omega)) v2 ?_
  refine g_sipush X2 B (255) d11_49 52 rfl rfl ?_
  refine g_iand X2 B d11_52 53 rfl ?_
  refine g_getS X2 B d11_53 56 rfl (hw _ (List.mem_of_getElem? (i := 45) rfl)) Via.refl e2 SLo (fun T3 X3 e3 => ?_)
  refine g_ishl X3 B d11_56 57 rfl ?_
  refine g_ior X3 B d11_57 58 rfl ?_
  refine g_i2c X3 B d11_58 59 rfl ?_
  rw [own_get hc]
  exact g_retN X3 B d11_59 rfl (by have q := own_nc hc; simpa [narrow, nar] using q) (by decide) (by decide) (by decide) e3 ⟨rfl, (Fr.nil n0), rfl⟩
def own_QT (Z : State) (h0 : Heap) (n0 : Nat) (cs : List Int32) (v : Option Value) (h : Heap) (L : List Loc) : Prop := ∃ a vs, v = some (.ref a) ∧ Fr n0 L ∧ Keep h0 h [] ∧ Av Z h a .byte vs ∧ own_U vs cs ∧ h0.size ≤ a ∧ n0 ≤ a
set_option maxRecDepth 65536 in
set_option maxHeartbeats 40000000 in
theorem rS_tob (l : Launch) (Z : State) (ag : Array Value) (hw : ∀ d ∈ tables_1, d.before ag Z = true) (aS : Addr) (cs : List Int32) (h0 : Heap) (n0 : Nat) (Z0 : n0 ≤ h0.size) (hn : cs.length ≤ 4) (AS : Av Z h0 aS .char (cs.map Value.int)) (SA : Sta Z h0 "java/lang/StringUTF16" "$assertionsDisabled" "Z" (.int 1)) (SH : Sta Z h0 "java/lang/StringUTF16" "HI_BYTE_SHIFT" "I" (.int 0)) (SLo : Sta Z h0 "java/lang/StringUTF16" "LO_BYTE_SHIFT" "I" (.int 8)) :
    Ctr l Z (⟨"java/lang/StringUTF16", "toBytes", "([CII)[B"⟩ : MethodName) jdk_52_method_14_code 5 (some (.array .byte)) ({ frames := 2, cells := 1, slots := 8, locals := 24 } : Room) #[.ref aS, .int (0 : Int32), .int (Int32.ofNat cs.length)] h0 (own_QT Z h0 n0 cs) := by
  refine Ctr.of pn_7 ?_
  intro p e s m below meth c T0 X0 B e0
  refine Go.cast (f' := mkF m 0 #[.val (.ref aS), .val (.int (0 : Int32)), .val (.int (Int32.ofNat cs.length)), .unset, .unset] []) (by first | rfl | (simp [entryFrame, mkF, argsToLocals, Value.category, maxLocals]; done)) ?_

  refine g_iloadN X0 B d7_0 1 rfl rfl ?_
  refine g_callS X0 B [.int (Int32.ofNat cs.length)] [] d7_1 4 rfl rfl (hw _ (List.mem_of_getElem? (i := 33) rfl)) (hw _ (List.mem_of_getElem? (i := 34) rfl)) (hw _ (List.mem_of_getElem? (i := 24) rfl)) (hw _ (List.mem_of_getElem? (i := 35) rfl)) (by decide) (lenOf pd_8 rfl) (rS_nbf l Z ag hw cs.length hn h0 n0 Z0) e0 rfl 0 (Nat.le_of_eq rfl) (by decide) (by decide) (by decide) (by decide) (fun v1 T1 h1 L1 X1 e1 q1 => ?_)
  obtain ⟨aB, rfl, N1, K1, AB, gh, gB⟩ := q1
  show Go p e below _ (T1.setTop (mkF m 4 #[.val (.ref aS), .val (.int (0 : Int32)), .val (.int (Int32.ofNat cs.length)), .unset, .unset] [.ref aB]))
  refine g_astoreN X1 B #[.val (.ref aS), .val (.int (0 : Int32)), .val (.int (Int32.ofNat cs.length)), .val (.ref aB), .unset] d7_4 5 rfl rfl rfl ?_
  refine g_iconst X1 B (0) d7_5 6 rfl rfl ?_
  refine g_istore X1 B #[.val (.ref aS), .val (.int (0 : Int32)), .val (.int (Int32.ofNat cs.length)), .val (.ref aB), .val (.int (0 : Int32))] d7_6 8 rfl rfl ?_
  have ne1 : aS ≠ aB := fun q => absurd (q ▸ AS.lt) (Nat.not_lt.mpr gh)
  have loop : ∀ (k i : Nat) (T : State) (hh : Heap) (vs : List Value) (Lo : List Loc), i + k = cs.length → Stand p l e ({ frames := 2, cells := 1, slots := 8, locals := 24 } : Room) s m #[.ref aS, .int (0 : Int32), .int (Int32.ofNat cs.length)] below meth c T Lo 1 8 → T.heap = hh → Av Z hh aS .char (cs.map Value.int) → Av Z hh aB .byte vs → own_Up vs cs i → Keep h0 hh [] → Fr n0 Lo → Sta Z hh "java/lang/StringUTF16" "$assertionsDisabled" "Z" (.int 1) → Sta Z hh "java/lang/StringUTF16" "HI_BYTE_SHIFT" "I" (.int 0) → Sta Z hh "java/lang/StringUTF16" "LO_BYTE_SHIFT" "I" (.int 8) → Go p e below (EndsQ s (own_QT Z h0 n0 cs) ({ frames := 2, cells := 1, slots := 8, locals := 24 } : Room).cells ({ frames := 2, cells := 1, slots := 8, locals := 24 } : Room).slots) (T.setTop (mkF m 8 #[.val (.ref aS), .val (.int (Int32.ofNat i)), .val (.int (Int32.ofNat cs.length)), .val (.ref aB), .val (.int (Int32.ofNat i))] [])) := by
    intro k
    induction k with
    | zero =>
      intro i T hh vs Lo hk X eh AS AB hU K N SA SH SLo
      refine g_iload X B d7_8 10 rfl rfl ?_
      refine g_iloadN X B d7_10 11 rfl rfl ?_
      refine g_icmp_ge X B d7_11 32 14 rfl (by decide) rfl (fun _ => ?_) (fun z => own_abs' (fun z => absurd ((own_lt (by omega) (by omega)).mp z) (by omega)) z)
      refine g_aloadN X B d7_32 33 rfl rfl rfl ?_
      exact g_retA X B d7_33 rfl rfl rfl (by decide) (by decide) eh ⟨aB, vs, rfl, N, K, AB, own_UpE (by omega) hU, gh, gB⟩
    | succ k ih =>
      intro i T hh vs Lo hk X eh AS AB hU K N SA SH SLo
      obtain ⟨c0, hc⟩ := own_ex (cs := cs) (i := i) (by omega)
      refine g_iload X B d7_8 10 rfl rfl ?_
      refine g_iloadN X B d7_10 11 rfl rfl ?_
      refine g_icmp_ge X B d7_11 32 14 rfl (by decide) rfl (fun z => own_abs ((own_lt (by omega) (by omega)).mpr (by omega)) z) (fun _ => ?_)
      refine g_aloadN X B d7_14 15 rfl rfl rfl ?_
      refine g_iload X B d7_15 17 rfl rfl ?_
      refine g_aloadN X B d7_17 18 rfl rfl rfl ?_
      refine g_iloadN X B d7_18 19 rfl rfl ?_
      refine g_caload X B i d7_19 20 rfl eh AS (own_tn (by omega)) (own_nn (by omega)) (own_mapat hc) ?_
      refine g_callS X B [.ref aB, .int (Int32.ofNat i), .int c0] [] d7_20 23 rfl rfl (hw _ (List.mem_of_getElem? (i := 40) rfl)) (hw _ (List.mem_of_getElem? (i := 41) rfl)) (hw _ (List.mem_of_getElem? (i := 24) rfl)) (hw _ (List.mem_of_getElem? (i := 42) rfl)) (by decide) (lenOf pd_10 rfl) (rS_put l Z ag hw aB i c0 vs hh n0 gB AB (by rw [hU.1]; omega) (by rw [hU.1]; omega) SA SH SLo) eh rfl 0 (Nat.le_of_eq rfl) (by decide) (by decide) (by decide) (by decide) (fun v1 T1 h1 L1 X1 e1 q1 => ?_)
      obtain ⟨rfl, N1, K1, A1⟩ := q1
      show Go p e below _ (T1.setTop (mkF m 23 #[.val (.ref aS), .val (.int (Int32.ofNat i)), .val (.int (Int32.ofNat cs.length)), .val (.ref aB), .val (.int (Int32.ofNat i))] []))
      refine g_iinc X1 B #[.val (.ref aS), .val (.int ((Int32.ofNat i) + (1))), .val (.int (Int32.ofNat cs.length)), .val (.ref aB), .val (.int (Int32.ofNat i))] (1) d7_23 26 rfl rfl rfl rfl ?_
      refine g_iinc X1 B #[.val (.ref aS), .val (.int ((Int32.ofNat i) + (1))), .val (.int (Int32.ofNat cs.length)), .val (.ref aB), .val (.int ((Int32.ofNat i) + (1)))] (1) d7_26 29 rfl rfl rfl rfl ?_
      refine g_goto X1 B d7_29 8 rfl (by decide) ?_
      rw [own_s1 (by omega)]
      exact ih (i + 1) _ _ _ _ (by omega) X1 e1 (AS.keep K1 (ninS ne1 nin0)) A1 (own_Ups hU hc) (K.trans K1 (allS (Or.inr gh) all0)) (N.app N1) (own_stkw SA K1 (own_plA AB own_pl0)) (own_stkw SH K1 (own_plA AB own_pl0)) (own_stkw SLo K1 (own_plA AB own_pl0))
  exact loop cs.length 0 _ _ _ _ (by omega) X1 e1 (AS.keep K1 nin0) AB (own_Up0 rfl) K1 (Fr.app (Fr.nil n0) N1) (own_stk SA K1) (own_stk SH K1) (own_stk SLo K1)
def own_QC (Z : State) (h0 : Heap) (n0 : Nat) (aB : Addr) (cs : List Int32) (v : Option Value) (h : Heap) (L : List Loc) : Prop := ∃ r vs, v = some (.int r) ∧ Fr n0 L ∧ Keep h0 h [aB] ∧ Av Z h aB .byte vs ∧ ((r = Int32.ofNat cs.length ∧ own_L vs cs) ∨ (∃ i c, i < cs.length ∧ r = Int32.ofNat i ∧ cs[i]? = some c ∧ 255 < c))
set_option maxRecDepth 65536 in
set_option maxHeartbeats 40000000 in
theorem rS_c5 (l : Launch) (Z : State) (ag : Array Value) (hw : ∀ d ∈ tables_1, d.before ag Z = true) (aS aB : Addr) (cs : List Int32) (vs0 : List Value) (h0 : Heap) (n0 : Nat) (hn : cs.length ≤ 4) (gB : n0 ≤ aB) (AS : Av Z h0 aS .char (cs.map Value.int)) (AB : Av Z h0 aB .byte vs0) (hL : own_Lp vs0 cs 0) :
    Ctr l Z (⟨"java/lang/StringUTF16", "compress", "([CI[BII)I"⟩ : MethodName) jdk_52_method_21_code 7 (some .int) ({ frames := 0, cells := 0, slots := 0, locals := 0 } : Room) #[.ref aS, .int (0 : Int32), .ref aB, .int (0 : Int32), .int (Int32.ofNat cs.length)] h0 (own_QC Z h0 n0 aB cs) := by
  refine Ctr.of pn_6 ?_
  intro p e s m below meth c T0 X0 B e0
  refine Go.cast (f' := mkF m 0 #[.val (.ref aS), .val (.int (0 : Int32)), .val (.ref aB), .val (.int (0 : Int32)), .val (.int (Int32.ofNat cs.length)), .unset, .unset] []) (by first | rfl | (simp [entryFrame, mkF, argsToLocals, Value.category, maxLocals]; done)) ?_

  have ne1 : aS ≠ aB := own_avN AS AB (by decide)
  refine g_iconst X0 B (0) d6_0 1 rfl rfl ?_
  refine g_istore X0 B #[.val (.ref aS), .val (.int (0 : Int32)), .val (.ref aB), .val (.int (0 : Int32)), .val (.int (Int32.ofNat cs.length)), .val (.int (0 : Int32)), .unset] d6_1 3 rfl rfl ?_
  have loop : ∀ (k i : Nat) (T : State) (hh : Heap) (vs : List Value) (Lo : List Loc) (o6 : Slot), i + k = cs.length → Stand p l e ({ frames := 0, cells := 0, slots := 0, locals := 0 } : Room) s m #[.ref aS, .int (0 : Int32), .ref aB, .int (0 : Int32), .int (Int32.ofNat cs.length)] below meth c T Lo 0 0 → T.heap = hh → Av Z hh aS .char (cs.map Value.int) → Av Z hh aB .byte vs → own_Lp vs cs i → Keep h0 hh [aB] → Fr n0 Lo → One o6 → Go p e below (EndsQ s (own_QC Z h0 n0 aB cs) ({ frames := 0, cells := 0, slots := 0, locals := 0 } : Room).cells ({ frames := 0, cells := 0, slots := 0, locals := 0 } : Room).slots) (T.setTop (mkF m 3 #[.val (.ref aS), .val (.int (Int32.ofNat i)), .val (.ref aB), .val (.int (Int32.ofNat i)), .val (.int (Int32.ofNat cs.length)), .val (.int (Int32.ofNat i)), o6] [])) := by
    intro k
    induction k with
    | zero =>
      intro i T hh vs Lo o6 hk X eh AS AB hL K N O
      refine g_iload X B d6_3 5 rfl rfl ?_
      refine g_iload X B d6_5 7 rfl rfl ?_
      refine g_icmp_ge X B d6_7 44 10 rfl (by decide) rfl (fun _ => ?_) (fun z => own_abs' (fun z => absurd ((own_lt (by omega) (by omega)).mp z) (by omega)) z)
      refine g_iload X B d6_44 46 rfl rfl ?_
      exact g_retI X B d6_46 rfl (by decide) (by decide) eh ⟨_, vs, rfl, N, K, AB, Or.inl ⟨rfl, own_LpE (by omega) hL⟩⟩
    | succ k ih =>
      intro i T hh vs Lo o6 hk X eh AS AB hL K N O
      obtain ⟨c0, hc⟩ := own_ex (cs := cs) (i := i) (by omega)
      refine g_iload X B d6_3 5 rfl rfl ?_
      refine g_iload X B d6_5 7 rfl rfl ?_
      refine g_icmp_ge X B d6_7 44 10 rfl (by decide) rfl (fun z => own_abs ((own_lt (by omega) (by omega)).mpr (by omega)) z) (fun _ => ?_)
      refine g_aloadN X B d6_10 11 rfl rfl rfl ?_
      refine g_iloadN X B d6_11 12 rfl rfl ?_
      refine g_caload X B i d6_12 13 rfl eh AS (own_tn (by omega)) (own_nn (by omega)) (own_mapat hc) ?_
      refine g_istore X B #[.val (.ref aS), .val (.int (Int32.ofNat i)), .val (.ref aB), .val (.int (Int32.ofNat i)), .val (.int (Int32.ofNat cs.length)), .val (.int (Int32.ofNat i)), .val (.int c0)] d6_13 15 rfl (XS.store1 rfl O rfl) ?_
      refine g_iload X B d6_15 17 rfl rfl ?_
      refine g_sipush X B (255) d6_17 20 rfl rfl ?_
      refine g_icmp_le X B d6_20 26 23 rfl (by decide) rfl (fun c1 => ?_) (fun c1 => ?_)
      · skip
        refine g_aloadN X B d6_26 27 rfl rfl rfl ?_
        refine g_iloadN X B d6_27 28 rfl rfl ?_
        refine g_iload X B d6_28 30 rfl rfl ?_
        refine g_i2b X B d6_30 31 rfl ?_
        refine g_bastoreB X B i d6_31 32 rfl eh AB (own_tn (by omega)) (own_nn (by omega)) (by rw [hL.1]; omega) (fun T2 h2 X2 e2 W2 A2 => ?_)
        rw [own_nb] at A2 W2
        refine g_iinc X2 B #[.val (.ref aS), .val (.int ((Int32.ofNat i) + (1))), .val (.ref aB), .val (.int (Int32.ofNat i)), .val (.int (Int32.ofNat cs.length)), .val (.int (Int32.ofNat i)), .val (.int c0)] (1) d6_32 35 rfl rfl rfl rfl ?_
        refine g_iinc X2 B #[.val (.ref aS), .val (.int ((Int32.ofNat i) + (1))), .val (.ref aB), .val (.int ((Int32.ofNat i) + (1))), .val (.int (Int32.ofNat cs.length)), .val (.int (Int32.ofNat i)), .val (.int c0)] (1) d6_35 38 rfl rfl rfl rfl ?_
        refine g_iinc X2 B #[.val (.ref aS), .val (.int ((Int32.ofNat i) + (1))), .val (.ref aB), .val (.int ((Int32.ofNat i) + (1))), .val (.int (Int32.ofNat cs.length)), .val (.int ((Int32.ofNat i) + (1))), .val (.int c0)] (1) d6_38 41 rfl rfl rfl rfl ?_
        refine g_goto X2 B d6_41 3 rfl (by decide) ?_
        rw [own_s1 (by omega)]
        exact ih (i + 1) _ _ _ _ _ (by omega) X2 e2 (AS.other W2 ne1) A2 (own_Lps hL hc c1) (K.wr W2 (Or.inl (List.mem_singleton.mpr rfl))) (Fr.snoc X2 N gB) (One.val rfl)
      · skip
        refine g_iload X B d6_23 25 rfl rfl ?_
        exact g_retI X B d6_25 rfl (by decide) (by decide) eh ⟨_, vs, rfl, N, K, AB, Or.inr ⟨i, c0, by omega, rfl, hc, c1⟩⟩
  exact loop cs.length 0 _ _ _ _ _ (by omega) X0 e0 AS AB hL (Keep.refl _ _) (Fr.nil n0) One.u
set_option maxRecDepth 65536 in
set_option maxHeartbeats 40000000 in
theorem rS_c3 (l : Launch) (Z : State) (ag : Array Value) (hw : ∀ d ∈ tables_1, d.before ag Z = true) (aS : Addr) (cs : List Int32) (h0 : Heap) (n0 : Nat) (Z0 : n0 ≤ h0.size) (hn : cs.length ≤ 4) (hcs : ∀ c ∈ cs, own_ch c) (AS : Av Z h0 aS .char (cs.map Value.int)) (SA : Sta Z h0 "java/lang/StringUTF16" "$assertionsDisabled" "Z" (.int 1)) (SH : Sta Z h0 "java/lang/StringUTF16" "HI_BYTE_SHIFT" "I" (.int 0)) (SLo : Sta Z h0 "java/lang/StringUTF16" "LO_BYTE_SHIFT" "I" (.int 8)) :
    Ctr l Z (⟨"java/lang/StringUTF16", "compress", "([CII)[B"⟩ : MethodName) jdk_52_method_16_code 6 (some (.array .byte)) ({ frames := 3, cells := 2, slots := 12, locals := 40 } : Room) #[.ref aS, .int (0 : Int32), .int (Int32.ofNat cs.length)] h0 (fun v h L => ∃ a vs, v = some (.ref a) ∧ Fr n0 L ∧ Keep h0 h [] ∧ Av Z h a .byte vs ∧ (own_L vs cs ∨ own_U vs cs) ∧ h0.size ≤ a ∧ n0 ≤ a) := by
  refine Ctr.of pn_5 ?_
  intro p e s m below meth c T0 X0 B e0
  refine Go.cast (f' := mkF m 0 #[.val (.ref aS), .val (.int (0 : Int32)), .val (.int (Int32.ofNat cs.length)), .unset, .unset, .unset] []) (by first | rfl | (simp [entryFrame, mkF, argsToLocals, Value.category, maxLocals]; done)) ?_

  refine g_iloadN X0 B d5_0 1 rfl rfl ?_
  refine g_newP X0 B (List.replicate cs.length (.int 0)) d5_1 3 rfl (hw _ (List.mem_of_getElem? (i := 26) rfl)) e0 (own_nn (by omega)) (by rw [own_tn (by omega)]; rfl) (by simp; omega) (by decide) (by simp; omega) (fun T1 h1 aB X1' e1 ea Ea AB => ?_)
  have X1 := X1'.more (Nat.le_refl _) (show 0 + (List.replicate cs.length (Value.int 0)).length ≤ 4 by simp; omega)
  have gB : n0 ≤ aB := ea ▸ Z0
  refine g_astoreN X1 B #[.val (.ref aS), .val (.int (0 : Int32)), .val (.int (Int32.ofNat cs.length)), .val (.ref aB), .unset, .unset] d5_3 4 rfl rfl rfl ?_
  refine g_aloadN X1 B d5_4 5 rfl rfl rfl ?_
  refine g_iloadN X1 B d5_5 6 rfl rfl ?_
  refine g_aloadN X1 B d5_6 7 rfl rfl rfl ?_
  refine g_iconst X1 B (0) d5_7 8 rfl rfl ?_
  refine g_iloadN X1 B d5_8 9 rfl rfl ?_
  refine g_callS X1 B [.ref aS, .int (0 : Int32), .ref aB, .int (0 : Int32), .int (Int32.ofNat cs.length)] [] d5_9 12 rfl rfl (hw _ (List.mem_of_getElem? (i := 27) rfl)) (hw _ (List.mem_of_getElem? (i := 28) rfl)) (hw _ (List.mem_of_getElem? (i := 24) rfl)) (hw _ (List.mem_of_getElem? (i := 29) rfl)) (by decide) (lenOf pd_6 rfl) (rS_c5 l Z ag hw aS aB cs _ h1 n0 hn gB (AS.ext Ea) AB (own_Lp0 rfl)) e1 rfl 0 (Nat.le_of_eq rfl) (by decide) (by decide) (by decide) (by decide) (fun v2 T2 h2 L2 X2 e2 q2 => ?_)
  obtain ⟨r, vs, rfl, N2, K2, A2, D2⟩ := q2
  show Go p e below _ (T2.setTop (mkF m 12 #[.val (.ref aS), .val (.int (0 : Int32)), .val (.int (Int32.ofNat cs.length)), .val (.ref aB), .unset, .unset] [.int r]))
  refine g_istore X2 B #[.val (.ref aS), .val (.int (0 : Int32)), .val (.int (Int32.ofNat cs.length)), .val (.ref aB), .val (.int r), .unset] d5_12 14 rfl rfl ?_
  refine g_iload X2 B d5_14 16 rfl rfl ?_
  refine g_iloadN X2 B d5_16 17 rfl rfl ?_
  refine g_icmp_eq X2 B d5_17 57 20 rfl (by decide) rfl (fun c3 => ?_) (fun c3 => ?_)
  · skip
    refine g_aloadN X2 B d5_57 58 rfl rfl rfl ?_
    exact g_retA X2 B d5_58 rfl rfl rfl (by decide) (by decide) e2 ⟨aB, vs, rfl, ((Fr.nil n0).app N2), ((Keep.refl h0 []).ext Ea).trans K2 (allS (Or.inr (Nat.le_of_eq ea.symm)) all0), A2, Or.inl (by
        rcases D2 with ⟨-, q⟩ | ⟨i, c0, hi, q, -⟩
        · exact q
        · exact absurd (own_inj (by omega) (by omega) (q.symm.trans c3)) (by omega)), Nat.le_of_eq ea.symm, gB⟩
  · skip
    refine g_aloadN X2 B d5_20 21 rfl rfl rfl ?_
    refine g_iloadN X2 B d5_21 22 rfl rfl ?_
    refine g_iloadN X2 B d5_22 23 rfl rfl ?_
    obtain ⟨i, c0, hi, rfl, hc, hb⟩ := D2.resolve_left (fun z => c3 z.1)
    have K20 : Keep h0 h2 [] := ((Keep.refl h0 []).ext Ea).trans K2 (allS (Or.inr (Nat.le_of_eq ea.symm)) all0)
    refine g_callS X2 B [.ref aS, .int (0 : Int32), .int (Int32.ofNat cs.length)] [] d5_23 26 rfl rfl (hw _ (List.mem_of_getElem? (i := 30) rfl)) (hw _ (List.mem_of_getElem? (i := 31) rfl)) (hw _ (List.mem_of_getElem? (i := 24) rfl)) (hw _ (List.mem_of_getElem? (i := 32) rfl)) (by decide) (lenOf pd_7 rfl) (rS_tob l Z ag hw aS cs h2 n0 (Nat.le_trans Z0 K20.1) hn (AS.keep K20 nin0) (own_stk SA K20) (own_stk SH K20) (own_stk SLo K20)) e2 rfl 0 (Nat.le_of_eq rfl) (by decide) (by decide) (by decide) (by decide) (fun v4 T4 h4 L4 X4 e4 q4 => ?_)
    obtain ⟨aU, us, rfl, N4, K4, AU, hU, gh, gU⟩ := q4
    show Go p e below _ (T4.setTop (mkF m 26 #[.val (.ref aS), .val (.int (0 : Int32)), .val (.int (Int32.ofNat cs.length)), .val (.ref aB), .val (.int (Int32.ofNat i)), .unset] [.ref aU]))
    refine g_astore X4 B #[.val (.ref aS), .val (.int (0 : Int32)), .val (.int (Int32.ofNat cs.length)), .val (.ref aB), .val (.int (Int32.ofNat i)), .val (.ref aU)] d5_26 28 rfl rfl rfl ?_
    refine g_aload X4 B d5_28 30 rfl rfl rfl ?_
    refine g_iload X4 B d5_30 32 rfl rfl ?_
    have K40 : Keep h0 h4 [] := K20.trans K4 all0
    refine g_callS X4 B [.ref aU, .int (Int32.ofNat i)] [] d5_32 35 rfl rfl (hw _ (List.mem_of_getElem? (i := 46) rfl)) (hw _ (List.mem_of_getElem? (i := 47) rfl)) (hw _ (List.mem_of_getElem? (i := 24) rfl)) (hw _ (List.mem_of_getElem? (i := 48) rfl)) (by decide) (lenOf pd_11 rfl) (rS_get l Z ag hw aU i c0 us h4 n0 AU (by rw [hU.1]; omega) (hU.2 i c0 hi hc).1 (hU.2 i c0 hi hc).2 (hcs c0 (List.mem_of_getElem? hc)) (own_stk SA K40) (own_stk SH K40) (own_stk SLo K40)) e4 rfl 0 (Nat.le_of_eq rfl) (by decide) (by decide) (by decide) (by decide) (fun v5 T5 h5 L5 X5 e5 q5 => ?_)
    obtain ⟨rfl, N5, rfl⟩ := q5
    show Go p e below _ (T5.setTop (mkF m 35 #[.val (.ref aS), .val (.int (0 : Int32)), .val (.int (Int32.ofNat cs.length)), .val (.ref aB), .val (.int (Int32.ofNat i)), .val (.ref aU)] [.int c0]))
    refine g_sipush X5 B (255) d5_35 38 rfl rfl ?_
    refine g_icmp_gt X5 B d5_38 54 41 rfl (by decide) rfl (fun _ => ?_) (fun z => own_abs (hb) z)
    refine g_aload X5 B d5_54 56 rfl rfl rfl ?_
    exact g_retA X5 B d5_56 rfl rfl rfl (by decide) (by decide) e5 ⟨aU, us, rfl, ((((Fr.nil n0).app N2).app N4).app N5), K40, AU, Or.inr hU, Nat.le_trans K20.1 gh, gU⟩
set_option maxRecDepth 65536 in
set_option maxHeartbeats 40000000 in
theorem rS_cfa (l : Launch) (Z : State) (ag : Array Value) (hw : ∀ d ∈ tables_1, d.before ag Z = true) (a : Addr) (n : Nat) (k : Int32) (vs : List Value) (h0 : Heap) (n0 : Nat) (hn : n ≤ 4) (hp : 0 < n) (A : Av Z h0 a .byte vs) (hk : (k = 0 ∧ vs.length = n) ∨ (k = 1 ∧ vs.length = 2 * n)) :
    Ctr l Z (⟨"java/lang/StringUTF16", "coderFromArrayLen", "([BI)B"⟩ : MethodName) jdk_52_method_15_code 2 (some .byte) ({ frames := 0, cells := 0, slots := 0, locals := 0 } : Room) #[.ref a, .int (Int32.ofNat n)] h0 (fun v h L => v = some (.int k) ∧ Fr n0 L ∧ h0 = h) := by
  refine Ctr.of pn_12 ?_
  intro p e s m below meth c T0 X0 B e0
  refine Go.cast (f' := mkF m 0 #[.val (.ref a), .val (.int (Int32.ofNat n))] []) (by first | rfl | (simp [entryFrame, mkF, argsToLocals, Value.category, maxLocals]; done)) ?_

  refine g_iloadN X0 B d12_0 1 rfl rfl ?_
  refine g_aloadN X0 B d12_1 2 rfl rfl rfl ?_
  refine g_arrlen X0 B (Int32.ofNat vs.length) d12_2 3 rfl e0 A rfl ?_
  refine g_isub X0 B d12_3 4 rfl ?_
  refine g_bipush X0 B (31) d12_4 6 rfl rfl ?_
  refine g_iushr X0 B d12_6 7 rfl ?_
  refine g_i2b X0 B d12_7 8 rfl ?_
  rw [show (XT.ushr (Int32.ofNat n - Int32.ofNat vs.length) 31).toInt8.toInt32 = k by
      rcases hk with ⟨rfl, q⟩ | ⟨rfl, q⟩
      · rw [q]; exact own_cfal n hn
      · rw [q]; exact own_cfal2 n hn hp]
  exact g_retN X0 B d12_8 rfl (own_kb (hk.imp And.left And.left)) (by decide) (by decide) (by decide) e0 ⟨rfl, (Fr.nil n0), rfl⟩
set_option maxRecDepth 65536 in
set_option maxHeartbeats 40000000 in
theorem rS_i4 (l : Launch) (Z : State) (ag : Array Value) (hw : ∀ d ∈ tables_1, d.before ag Z = true) (a aS : Addr) (cs : List Int32) (cx : Int32) (h0 : Heap) (n0 : Nat) (Z0 : n0 ≤ h0.size) (hn : cs.length ≤ 4) (hp : 0 < cs.length) (hcs : ∀ c ∈ cs, own_ch c) (ga : n0 ≤ a) (Ea : Exa Z h0 a "java/lang/String") (FV : Fld Z h0 a "java/lang/String" "value" "[B" (.null)) (FC : Fld Z h0 a "java/lang/String" "coder" "B" (.int 0)) (AS : Av Z h0 aS .char (cs.map Value.int)) (SA : Sta Z h0 "java/lang/StringUTF16" "$assertionsDisabled" "Z" (.int 1)) (SH : Sta Z h0 "java/lang/StringUTF16" "HI_BYTE_SHIFT" "I" (.int 0)) (SLo : Sta Z h0 "java/lang/StringUTF16" "LO_BYTE_SHIFT" "I" (.int 8)) (SC : Sta Z h0 "java/lang/String" "COMPACT_STRINGS" "Z" (.int cx)) (hcx : ¬ cx = 0) :
    Ctr l Z (⟨"java/lang/String", "<init>", "([CIILjava/lang/Void;)V"⟩ : MethodName) jdk_42_method_149_code 6 none ({ frames := 4, cells := 2, slots := 12, locals := 57 } : Room) #[.ref a, .ref aS, .int (0 : Int32), .int (Int32.ofNat cs.length), .null] h0 (fun v h L => ∃ b vs k, v = none ∧ Fr n0 L ∧ Keep h0 h [a] ∧ Fld Z h a "java/lang/String" "value" "[B" (.ref b) ∧ Fld Z h a "java/lang/String" "coder" "B" (.int k) ∧ Av Z h b .byte vs ∧ own_SV k vs cs ∧ h0.size ≤ b ∧ n0 ≤ b) := by
  refine Ctr.of pn_3 ?_
  intro p e s m below meth c T0 X0 B e0
  refine Go.cast (f' := mkF m 0 #[.val (.ref a), .val (.ref aS), .val (.int (0 : Int32)), .val (.int (Int32.ofNat cs.length)), .val (.null), .unset] []) (by first | rfl | (simp [entryFrame, mkF, argsToLocals, Value.category, maxLocals]; done)) ?_

  refine g_aloadN X0 B d3_0 1 rfl rfl rfl ?_
  obtain ⟨T1, X1, e1, st1⟩ := initO X0 B.x B.z B.o (hw _ (List.mem_of_getElem? (i := 18) rfl)) (hw _ (List.mem_of_getElem? (i := 19) rfl)) (hw _ (List.mem_of_getElem? (i := 20) rfl)) e0 (g := mkF m 1 #[.val (.ref a), .val (.ref aS), .val (.int (0 : Int32)), .val (.int (Int32.ofNat cs.length)), .val (.null), .unset] [.ref a]) rfl (B.mx rfl) rfl (B.d d3_1) (by decide) (W := 0) (by show 2 * 0 + _ ≤ _; exact Nat.le_of_eq rfl) (by decide)
  refine Go.via st1 ?_
  show Go p e below _ (T1.setTop (mkF m 4 #[.val (.ref a), .val (.ref aS), .val (.int (0 : Int32)), .val (.int (Int32.ofNat cs.length)), .val (.null), .unset] []))
  refine g_iloadN X1 B d3_4 5 rfl rfl ?_
  refine g_if_ne X1 B d3_5 27 8 rfl (by decide) rfl (fun _ => ?_) (fun z => own_abs' (own_nz hn hp) z)
  refine g_getS X1 B d3_27 30 rfl (hw _ (List.mem_of_getElem? (i := 21) rfl)) Via.refl e1 SC (fun T2 X2 e2 => ?_)
  refine g_if_eq X2 B d3_30 58 33 rfl (by decide) rfl (fun z => own_abs' (hcx) z) (fun _ => ?_)
  refine g_aloadN X2 B d3_33 34 rfl rfl rfl ?_
  refine g_iloadN X2 B d3_34 35 rfl rfl ?_
  refine g_iloadN X2 B d3_35 36 rfl rfl ?_
  refine g_callS X2 B [.ref aS, .int (0 : Int32), .int (Int32.ofNat cs.length)] [] d3_36 39 rfl rfl (hw _ (List.mem_of_getElem? (i := 22) rfl)) (hw _ (List.mem_of_getElem? (i := 23) rfl)) (hw _ (List.mem_of_getElem? (i := 24) rfl)) (hw _ (List.mem_of_getElem? (i := 25) rfl)) (by decide) (lenOf pd_5 rfl) (rS_c3 l Z ag hw aS cs h0 n0 Z0 hn hcs AS SA SH SLo) e2 rfl 0 (Nat.le_of_eq rfl) (by decide) (by decide) (by decide) (by decide) (fun v3 T3 h3 L3 X3 e3 q3 => ?_)
  obtain ⟨b, vs, rfl, N3, K3, Ab, D3, gh, gb⟩ := q3
  show Go p e below _ (T3.setTop (mkF m 39 #[.val (.ref a), .val (.ref aS), .val (.int (0 : Int32)), .val (.int (Int32.ofNat cs.length)), .val (.null), .unset] [.ref b]))
  obtain ⟨k, hk, hSV⟩ : ∃ k : Int32, ((k = 0 ∧ vs.length = cs.length) ∨ (k = 1 ∧ vs.length = 2 * cs.length)) ∧ own_SV k vs cs := by
    rcases D3 with q | q
    · exact ⟨0, Or.inl ⟨rfl, q.1⟩, Or.inl ⟨rfl, q⟩⟩
    · exact ⟨1, Or.inr ⟨rfl, q.1⟩, Or.inr ⟨rfl, q⟩⟩
  refine g_astore X3 B #[.val (.ref a), .val (.ref aS), .val (.int (0 : Int32)), .val (.int (Int32.ofNat cs.length)), .val (.null), .val (.ref b)] d3_39 41 rfl rfl rfl ?_
  refine g_aloadN X3 B d3_41 42 rfl rfl rfl ?_
  refine g_aload X3 B d3_42 44 rfl rfl rfl ?_
  refine g_iloadN X3 B d3_44 45 rfl rfl ?_
  refine g_callS X3 B [.ref b, .int (Int32.ofNat cs.length)] [.ref a] d3_45 48 rfl rfl (hw _ (List.mem_of_getElem? (i := 49) rfl)) (hw _ (List.mem_of_getElem? (i := 50) rfl)) (hw _ (List.mem_of_getElem? (i := 24) rfl)) (hw _ (List.mem_of_getElem? (i := 51) rfl)) (by decide) (lenOf pd_12 rfl) (rS_cfa l Z ag hw b cs.length k vs h3 n0 hn hp Ab hk) e3 rfl 1 (Nat.le_of_eq rfl) (by decide) (by decide) (by decide) (by decide) (fun v4 T4 h4 L4 X4 e4 q4 => ?_)
  obtain ⟨rfl, N4, rfl⟩ := q4
  show Go p e below _ (T4.setTop (mkF m 48 #[.val (.ref a), .val (.ref aS), .val (.int (0 : Int32)), .val (.int (Int32.ofNat cs.length)), .val (.null), .val (.ref b)] [.int k, .ref a]))
  have t1 := (Fld.keep FC K3 nin0)
  have t2 := (Exa.keep Ea K3)
  refine g_putF X4 B d3_48 51 rfl (hw _ (List.mem_of_getElem? (i := 52) rfl)) Via.refl e4 t1 t2 (Or.inr ⟨(hw _ (List.mem_of_getElem? (i := 53) rfl)), rfl, rfl⟩) (hw _ (List.mem_of_getElem? (i := 9) rfl)) (ty := .byte) (by decide) (own_kb (own_SVk hSV)) (own_kf (own_SVk hSV)) (fun T5 h5 X5 e5 W5 => ?_)
  have F5 := t1.same W5
  refine g_aloadN X5 B d3_51 52 rfl rfl rfl ?_
  refine g_aload X5 B d3_52 54 rfl rfl rfl ?_
  have t3 := (Fld.other W5 (Fld.keep FV K3 nin0) (Or.inr (slot_ne (Or.inr (hw _ (List.mem_of_getElem? (i := 55) rfl))) (Or.inr (hw _ (List.mem_of_getElem? (i := 53) rfl))) (by decide) (t := (.array .byte)) (by decide) (t' := .byte) (by decide))))
  have t4 := (Exa.wr W5 t2)
  refine g_putF X5 B d3_54 57 rfl (hw _ (List.mem_of_getElem? (i := 54) rfl)) Via.refl e5 t3 t4 (Or.inr ⟨(hw _ (List.mem_of_getElem? (i := 55) rfl)), rfl, rfl⟩) (hw _ (List.mem_of_getElem? (i := 9) rfl)) (ty := (.array .byte)) (by decide) rfl rfl (fun T6 h6 X6 e6 W6 => ?_)
  have F6 := t3.same W6
  have t5 := (Keep.wr (Keep.wr (Keep.trans (Keep.refl h0 [a]) K3 all0) W5 (Or.inl (List.mem_of_getElem? (i := 0) rfl))) W6 (Or.inl (List.mem_of_getElem? (i := 0) rfl)))
  have t6 := (Fld.other W6 F5 (Or.inr (slot_ne (Or.inr (hw _ (List.mem_of_getElem? (i := 53) rfl))) (Or.inr (hw _ (List.mem_of_getElem? (i := 55) rfl))) (by decide) (t := .byte) (by decide) (t' := (.array .byte)) (by decide))))
  have t7 : a ≠ b := own_neAv t2 (hw _ (List.mem_of_getElem? (i := 9) rfl)) Ab
  have t8 := (Av.other (Av.other Ab W5 (Ne.symm t7)) W6 (Ne.symm t7))
  exact g_retV X6 B d3_57 rfl (by decide) (by decide) e6 ⟨b, vs, k, rfl, (Fr.snoc X6 (Fr.snoc X5 (((Fr.nil n0).app N3).app N4) ga) ga), t5, F6, t6, t8, hSV, gh, gb⟩
set_option maxRecDepth 65536 in
set_option maxHeartbeats 40000000 in
theorem rS_i1 (l : Launch) (Z : State) (ag : Array Value) (hw : ∀ d ∈ tables_1, d.before ag Z = true) (a aS : Addr) (cs : List Int32) (cx : Int32) (h0 : Heap) (n0 : Nat) (Z0 : n0 ≤ h0.size) (hn : cs.length ≤ 4) (hp : 0 < cs.length) (hcs : ∀ c ∈ cs, own_ch c) (ga : n0 ≤ a) (Ea : Exa Z h0 a "java/lang/String") (FV : Fld Z h0 a "java/lang/String" "value" "[B" (.null)) (FC : Fld Z h0 a "java/lang/String" "coder" "B" (.int 0)) (AS : Av Z h0 aS .char (cs.map Value.int)) (SA : Sta Z h0 "java/lang/StringUTF16" "$assertionsDisabled" "Z" (.int 1)) (SH : Sta Z h0 "java/lang/StringUTF16" "HI_BYTE_SHIFT" "I" (.int 0)) (SLo : Sta Z h0 "java/lang/StringUTF16" "LO_BYTE_SHIFT" "I" (.int 8)) (SC : Sta Z h0 "java/lang/String" "COMPACT_STRINGS" "Z" (.int cx)) (hcx : ¬ cx = 0) :
    Ctr l Z (⟨"java/lang/String", "<init>", "([C)V"⟩ : MethodName) jdk_42_method_3_code 2 none ({ frames := 5, cells := 2, slots := 12, locals := 74 } : Room) #[.ref a, .ref aS] h0 (fun v h L => ∃ b vs k, v = none ∧ Fr n0 L ∧ Keep h0 h [a] ∧ Fld Z h a "java/lang/String" "value" "[B" (.ref b) ∧ Fld Z h a "java/lang/String" "coder" "B" (.int k) ∧ Av Z h b .byte vs ∧ own_SV k vs cs ∧ h0.size ≤ b ∧ n0 ≤ b) := by
  refine Ctr.of pn_2 ?_
  intro p e s m below meth c T0 X0 B e0
  refine Go.cast (f' := mkF m 0 #[.val (.ref a), .val (.ref aS)] []) (by first | rfl | (simp [entryFrame, mkF, argsToLocals, Value.category, maxLocals]; done)) ?_

  refine g_aloadN X0 B d2_0 1 rfl rfl rfl ?_
  refine g_aloadN X0 B d2_1 2 rfl rfl rfl ?_
  refine g_iconst X0 B (0) d2_2 3 rfl rfl ?_
  refine g_aloadN X0 B d2_3 4 rfl rfl rfl ?_
  refine g_arrlen X0 B (Int32.ofNat cs.length) d2_4 5 rfl e0 AS (by rw [List.length_map]) ?_
  refine g_aconstNull X0 B d2_5 6 rfl ?_
  refine g_callN X0 B [.ref aS, .int (0 : Int32), .int (Int32.ofNat cs.length), .null] [] d2_6 9 rfl rfl rfl (hw _ (List.mem_of_getElem? (i := 14) rfl)) (hw _ (List.mem_of_getElem? (i := 15) rfl)) (hw _ (List.mem_of_getElem? (i := 17) rfl)) (hw _ (List.mem_of_getElem? (i := 10) rfl)) (by decide) (lenOf pd_3 rfl) (rS_i4 l Z ag hw a aS cs cx h0 n0 Z0 hn hp hcs ga Ea FV FC AS SA SH SLo SC hcx) e0 rfl 0 (Nat.le_of_eq rfl) (by decide) (by decide) (by decide) (by decide) (fun v1 T1 h1 L1 X1 e1 q1 => ?_)
  obtain ⟨b, vs, k, rfl, N1, K1, f1, f2, f3, f4, f5, f6⟩ := q1
  show Go p e below _ (T1.setTop (mkF m 9 #[.val (.ref a), .val (.ref aS)] []))
  exact g_retV X1 B d2_9 rfl (by decide) (by decide) e1 ⟨b, vs, k, rfl, ((Fr.nil n0).app N1), K1, f1, f2, f3, f4, f5, f6⟩
set_option maxRecDepth 65536 in
set_option maxHeartbeats 40000000 in
theorem rS_cod (l : Launch) (Z : State) (ag : Array Value) (hw : ∀ d ∈ tables_1, d.before ag Z = true) (a : Addr) (k cx : Int32) (h0 : Heap) (n0 : Nat) (FC : Fld Z h0 a "java/lang/String" "coder" "B" (.int k)) (hk : k = 0 ∨ k = 1) (SC : Sta Z h0 "java/lang/String" "COMPACT_STRINGS" "Z" (.int cx)) (hcx : ¬ cx = 0) :
    Ctr l Z (⟨"java/lang/String", "coder", "()B"⟩ : MethodName) jdk_42_method_152_code 1 (some .byte) ({ frames := 0, cells := 0, slots := 0, locals := 0 } : Room) #[.ref a] h0 (fun v h L => v = some (.int k) ∧ Fr n0 L ∧ h0 = h) := by
  refine Ctr.of pn_17 ?_
  intro p e s m below meth c T0 X0 B e0
  refine Go.cast (f' := mkF m 0 #[.val (.ref a)] []) (by first | rfl | (simp [entryFrame, mkF, argsToLocals, Value.category, maxLocals]; done)) ?_

  refine g_getS X0 B d17_0 3 rfl (hw _ (List.mem_of_getElem? (i := 21) rfl)) Via.refl e0 SC (fun T1 X1 e1 => ?_)
  refine g_if_eq X1 B d17_3 13 6 rfl (by decide) rfl (fun z => own_abs' (hcx) z) (fun _ => ?_)
  refine g_aloadN X1 B d17_6 7 rfl rfl rfl ?_
  refine g_getF X1 B d17_7 10 rfl (hw _ (List.mem_of_getElem? (i := 52) rfl)) Via.refl e1 FC (fun T2 X2 e2 => ?_)
  refine g_goto X2 B d17_10 14 rfl (by decide) ?_
  exact g_retN X2 B d17_14 rfl (own_kb hk) (by decide) (by decide) (by decide) e2 ⟨rfl, (Fr.nil n0), rfl⟩
set_option maxRecDepth 65536 in
set_option maxHeartbeats 40000000 in
theorem rS_lat (l : Launch) (Z : State) (ag : Array Value) (hw : ∀ d ∈ tables_1, d.before ag Z = true) (a : Addr) (k cx : Int32) (h0 : Heap) (n0 : Nat) (FC : Fld Z h0 a "java/lang/String" "coder" "B" (.int k)) (hk : k = 0 ∨ k = 1) (SC : Sta Z h0 "java/lang/String" "COMPACT_STRINGS" "Z" (.int cx)) (hcx : ¬ cx = 0) :
    Ctr l Z (⟨"java/lang/String", "isLatin1", "()Z"⟩ : MethodName) jdk_42_method_154_code 1 (some .boolean) ({ frames := 0, cells := 0, slots := 0, locals := 0 } : Room) #[.ref a] h0 (fun v h L => v = some (.int (if k = 0 then 1 else 0)) ∧ Fr n0 L ∧ h0 = h) := by
  refine Ctr.of pn_20 ?_
  intro p e s m below meth c T0 X0 B e0
  refine Go.cast (f' := mkF m 0 #[.val (.ref a)] []) (by first | rfl | (simp [entryFrame, mkF, argsToLocals, Value.category, maxLocals]; done)) ?_

  refine g_getS X0 B d20_0 3 rfl (hw _ (List.mem_of_getElem? (i := 21) rfl)) Via.refl e0 SC (fun T1 X1 e1 => ?_)
  refine g_if_eq X1 B d20_3 17 6 rfl (by decide) rfl (fun z => own_abs' (hcx) z) (fun _ => ?_)
  refine g_aloadN X1 B d20_6 7 rfl rfl rfl ?_
  refine g_getF X1 B d20_7 10 rfl (hw _ (List.mem_of_getElem? (i := 52) rfl)) Via.refl e1 FC (fun T2 X2 e2 => ?_)
  refine g_if_ne X2 B d20_10 17 13 rfl (by decide) rfl (fun c3 => ?_) (fun c3 => ?_)
  · skip
    refine g_iconst X2 B (0) d20_17 18 rfl rfl ?_
    exact g_retN X2 B d20_18 rfl rfl (by decide) (by decide) (by decide) e2 ⟨by simp [c3], (Fr.nil n0), rfl⟩
  · skip
    refine g_iconst X2 B (1) d20_13 14 rfl rfl ?_
    refine g_goto X2 B d20_14 18 rfl (by decide) ?_
    exact g_retN X2 B d20_18 rfl rfl (by decide) (by decide) (by decide) e2 ⟨by simp [c3], (Fr.nil n0), rfl⟩
set_option maxRecDepth 65536 in
set_option maxHeartbeats 40000000 in
theorem rS_len (l : Launch) (Z : State) (ag : Array Value) (hw : ∀ d ∈ tables_1, d.before ag Z = true) (a b : Addr) (k cx : Int32) (vs : List Value) (cs : List Int32) (h0 : Heap) (n0 : Nat) (Ea : Exa Z h0 a "java/lang/String") (FV : Fld Z h0 a "java/lang/String" "value" "[B" (.ref b)) (FC : Fld Z h0 a "java/lang/String" "coder" "B" (.int k)) (Ab : Av Z h0 b .byte vs) (hn : cs.length ≤ 4) (hSV : own_SV k vs cs) (SC : Sta Z h0 "java/lang/String" "COMPACT_STRINGS" "Z" (.int cx)) (hcx : ¬ cx = 0) :
    Ctr l Z (⟨"java/lang/String", "length", "()I"⟩ : MethodName) jdk_42_method_54_code 1 (some .int) ({ frames := 1, cells := 0, slots := 0, locals := 13 } : Room) #[.ref a] h0 (fun v h L => v = some (.int (Int32.ofNat cs.length)) ∧ Fr n0 L ∧ h0 = h) := by
  refine Ctr.of pn_16 ?_
  intro p e s m below meth c T0 X0 B e0
  refine Go.cast (f' := mkF m 0 #[.val (.ref a)] []) (by first | rfl | (simp [entryFrame, mkF, argsToLocals, Value.category, maxLocals]; done)) ?_

  refine g_aloadN X0 B d16_0 1 rfl rfl rfl ?_
  refine g_getF X0 B d16_1 4 rfl (hw _ (List.mem_of_getElem? (i := 54) rfl)) Via.refl e0 FV (fun T1 X1 e1 => ?_)
  refine g_arrlen X1 B (Int32.ofNat vs.length) d16_4 5 rfl e1 Ab rfl ?_
  refine g_aloadN X1 B d16_5 6 rfl rfl rfl ?_
  refine g_callV X1 B [] [.int (Int32.ofNat vs.length)] d16_6 9 rfl rfl (hw _ (List.mem_of_getElem? (i := 78) rfl)) (hw _ (List.mem_of_getElem? (i := 79) rfl)) (hw _ (List.mem_of_getElem? (i := 81) rfl)) (hw _ (List.mem_of_getElem? (i := 80) rfl)) (hw _ (List.mem_of_getElem? (i := 10) rfl)) (hw _ (List.mem_of_getElem? (i := 82) rfl)) (by decide) (lenOf pd_17 rfl) Ea (rS_cod l Z ag hw a k cx h0 n0 FC (own_SVk hSV) SC hcx) e1 rfl 1 (Nat.le_of_eq rfl) (by decide) (by decide) (by decide) (by decide) (fun v2 T2 h2 L2 X2 e2 q2 => ?_)
  obtain ⟨rfl, N2, rfl⟩ := q2
  show Go p e below _ (T2.setTop (mkF m 9 #[.val (.ref a)] [.int k, .int (Int32.ofNat vs.length)]))
  refine g_ishr X2 B d16_9 10 rfl ?_
  exact g_retI X2 B d16_10 rfl (by decide) (by decide) e2 ⟨by rw [own_SVlen hn hSV], ((Fr.nil n0).app N2), rfl⟩
theorem d23_0 : decode jdk_89_method_14_code 0 = .ok (.iload_n 0, 1) := by decide +kernel
theorem d23_1 : decode jdk_89_method_14_code 1 = .ok (.ldc 75, 2) := by decide +kernel
theorem d23_3 : decode jdk_89_method_14_code 3 = .ok (.if_icmp .lt 13, 3) := by decide +kernel
theorem d23_6 : decode jdk_89_method_14_code 6 = .ok (.iload_n 0, 1) := by decide +kernel
theorem d23_7 : decode jdk_89_method_14_code 7 = .ok (.ldc 76, 2) := by decide +kernel
theorem d23_9 : decode jdk_89_method_14_code 9 = .ok (.if_icmp .ge 7, 3) := by decide +kernel
theorem d23_12 : decode jdk_89_method_14_code 12 = .ok (.iconst 1, 1) := by decide +kernel
theorem d23_13 : decode jdk_89_method_14_code 13 = .ok (.goto 4, 3) := by decide +kernel
theorem d23_16 : decode jdk_89_method_14_code 16 = .ok (.iconst 0, 1) := by decide +kernel
theorem d23_17 : decode jdk_89_method_14_code 17 = .ok (.ireturn, 1) := by decide +kernel
theorem pn_23 : plainFor (⟨"java/lang/Character", "isHighSurrogate", "(C)Z"⟩ : MethodName) = true := by first | (apply plainFor_of_name; simp [plainName, overriddenIn]; done) | (apply plainFor_of_name; decide +kernel) | decide +kernel
theorem pd_23 : parseMethodDescriptor "(C)Z" = some ⟨[.char], (some .boolean)⟩ := by decide +kernel
theorem d28_0 : decode jdk_89_method_15_code 0 = .ok (.iload_n 0, 1) := by decide +kernel
theorem d28_1 : decode jdk_89_method_15_code 1 = .ok (.ldc 76, 2) := by decide +kernel
theorem d28_3 : decode jdk_89_method_15_code 3 = .ok (.if_icmp .lt 13, 3) := by decide +kernel
theorem d28_6 : decode jdk_89_method_15_code 6 = .ok (.iload_n 0, 1) := by decide +kernel
theorem d28_7 : decode jdk_89_method_15_code 7 = .ok (.ldc 77, 2) := by decide +kernel
theorem d28_9 : decode jdk_89_method_15_code 9 = .ok (.if_icmp .ge 7, 3) := by decide +kernel
theorem d28_12 : decode jdk_89_method_15_code 12 = .ok (.iconst 1, 1) := by decide +kernel
theorem d28_13 : decode jdk_89_method_15_code 13 = .ok (.goto 4, 3) := by decide +kernel
theorem d28_16 : decode jdk_89_method_15_code 16 = .ok (.iconst 0, 1) := by decide +kernel
theorem d28_17 : decode jdk_89_method_15_code 17 = .ok (.ireturn, 1) := by decide +kernel
theorem pn_28 : plainFor (⟨"java/lang/Character", "isLowSurrogate", "(C)Z"⟩ : MethodName) = true := by first | (apply plainFor_of_name; simp [plainName, overriddenIn]; done) | (apply plainFor_of_name; decide +kernel) | decide +kernel
theorem pd_28 : parseMethodDescriptor "(C)Z" = some ⟨[.char], (some .boolean)⟩ := by decide +kernel
theorem d19_0 : decode jdk_41_method_12_code 0 = .ok (.iload_n 0, 1) := by decide +kernel
theorem d19_1 : decode jdk_41_method_12_code 1 = .ok (.ifCond .lt 13, 3) := by decide +kernel
theorem d19_4 : decode jdk_41_method_12_code 4 = .ok (.iload_n 0, 1) := by decide +kernel
theorem d19_5 : decode jdk_41_method_12_code 5 = .ok (.iload_n 1, 1) := by decide +kernel
theorem d19_6 : decode jdk_41_method_12_code 6 = .ok (.if_icmp .gt 8, 3) := by decide +kernel
theorem d19_9 : decode jdk_41_method_12_code 9 = .ok (.iload_n 1, 1) := by decide +kernel
theorem d19_10 : decode jdk_41_method_12_code 10 = .ok (.iload_n 2, 1) := by decide +kernel
theorem d19_11 : decode jdk_41_method_12_code 11 = .ok (.if_icmp .le 11, 3) := by decide +kernel
theorem d19_14 : decode jdk_41_method_12_code 14 = .ok (.aload_n 3, 1) := by decide +kernel
theorem d19_15 : decode jdk_41_method_12_code 15 = .ok (.iload_n 0, 1) := by decide +kernel
theorem d19_16 : decode jdk_41_method_12_code 16 = .ok (.iload_n 1, 1) := by decide +kernel
theorem d19_17 : decode jdk_41_method_12_code 17 = .ok (.iload_n 2, 1) := by decide +kernel
theorem d19_18 : decode jdk_41_method_12_code 18 = .ok (.invokestatic 99, 3) := by decide +kernel
theorem d19_21 : decode jdk_41_method_12_code 21 = .ok (.athrow, 1) := by decide +kernel
theorem d19_22 : decode jdk_41_method_12_code 22 = .ok (.iload_n 0, 1) := by decide +kernel
theorem d19_23 : decode jdk_41_method_12_code 23 = .ok (.ireturn, 1) := by decide +kernel
theorem pn_19 : plainFor (⟨"jdk/internal/util/Preconditions", "checkFromToIndex", "(IIILjava/util/function/BiFunction;)I"⟩ : MethodName) = true := by first | (apply plainFor_of_name; simp [plainName, overriddenIn]; done) | (apply plainFor_of_name; decide +kernel) | decide +kernel
theorem pd_19 : parseMethodDescriptor "(IIILjava/util/function/BiFunction;)I" = some ⟨[.int, .int, .int, (.object "java/util/function/BiFunction")], (some .int)⟩ := by decide +kernel
theorem d18_0 : decode jdk_31_method_18_code 0 = .ok (.iload_n 0, 1) := by decide +kernel
theorem d18_1 : decode jdk_31_method_18_code 1 = .ok (.iload_n 1, 1) := by decide +kernel
theorem d18_2 : decode jdk_31_method_18_code 2 = .ok (.iload_n 2, 1) := by decide +kernel
theorem d18_3 : decode jdk_31_method_18_code 3 = .ok (.aconst_null, 1) := by decide +kernel
theorem d18_4 : decode jdk_31_method_18_code 4 = .ok (.invokestatic 111, 3) := by decide +kernel
theorem d18_7 : decode jdk_31_method_18_code 7 = .ok (.ireturn, 1) := by decide +kernel
theorem pn_18 : plainFor (⟨"java/util/Objects", "checkFromToIndex", "(III)I"⟩ : MethodName) = true := by first | (apply plainFor_of_name; simp [plainName, overriddenIn]; done) | (apply plainFor_of_name; decide +kernel) | decide +kernel
theorem pd_18 : parseMethodDescriptor "(III)I" = some ⟨[.int, .int, .int], (some .int)⟩ := by decide +kernel
theorem d22_0 : decode jdk_52_method_11_code 0 = .ok (.getstatic 44, 3) := by decide +kernel
theorem d22_3 : decode jdk_52_method_11_code 3 = .ok (.ifCond .ne 16, 3) := by decide +kernel
theorem d22_6 : decode jdk_52_method_11_code 6 = .ok (.iload_n 1, 1) := by decide +kernel
theorem d22_7 : decode jdk_52_method_11_code 7 = .ok (.iload_n 2, 1) := by decide +kernel
theorem d22_8 : decode jdk_52_method_11_code 8 = .ok (.if_icmp .le 11, 3) := by decide +kernel
theorem d22_11 : decode jdk_52_method_11_code 11 = .ok (.new 52, 3) := by decide +kernel
theorem d22_14 : decode jdk_52_method_11_code 14 = .ok (.dup, 1) := by decide +kernel
theorem d22_15 : decode jdk_52_method_11_code 15 = .ok (.invokespecial 66, 3) := by decide +kernel
theorem d22_18 : decode jdk_52_method_11_code 18 = .ok (.athrow, 1) := by decide +kernel
theorem d22_19 : decode jdk_52_method_11_code 19 = .ok (.iload_n 2, 1) := by decide +kernel
theorem d22_20 : decode jdk_52_method_11_code 20 = .ok (.iload_n 1, 1) := by decide +kernel
theorem d22_21 : decode jdk_52_method_11_code 21 = .ok (.isub, 1) := by decide +kernel
theorem d22_22 : decode jdk_52_method_11_code 22 = .ok (.istore 4, 2) := by decide +kernel
theorem d22_24 : decode jdk_52_method_11_code 24 = .ok (.iload_n 1, 1) := by decide +kernel
theorem d22_25 : decode jdk_52_method_11_code 25 = .ok (.istore 5, 2) := by decide +kernel
theorem d22_27 : decode jdk_52_method_11_code 27 = .ok (.iload_n 3, 1) := by decide +kernel
theorem d22_28 : decode jdk_52_method_11_code 28 = .ok (.ifCond .eq 16, 3) := by decide +kernel
theorem d22_31 : decode jdk_52_method_11_code 31 = .ok (.iload 5, 2) := by decide +kernel
theorem d22_33 : decode jdk_52_method_11_code 33 = .ok (.iload_n 2, 1) := by decide +kernel
theorem d22_34 : decode jdk_52_method_11_code 34 = .ok (.if_icmp .ge 10, 3) := by decide +kernel
theorem d22_37 : decode jdk_52_method_11_code 37 = .ok (.iload 5, 2) := by decide +kernel
theorem d22_39 : decode jdk_52_method_11_code 39 = .ok (.iload_n 2, 1) := by decide +kernel
theorem d22_40 : decode jdk_52_method_11_code 40 = .ok (.aload_n 0, 1) := by decide +kernel
theorem d22_41 : decode jdk_52_method_11_code 41 = .ok (.invokestatic 96, 3) := by decide +kernel
theorem d22_44 : decode jdk_52_method_11_code 44 = .ok (.iload 5, 2) := by decide +kernel
theorem d22_46 : decode jdk_52_method_11_code 46 = .ok (.iload_n 2, 1) := by decide +kernel
theorem d22_47 : decode jdk_52_method_11_code 47 = .ok (.iconst 1, 1) := by decide +kernel
theorem d22_48 : decode jdk_52_method_11_code 48 = .ok (.isub, 1) := by decide +kernel
theorem d22_49 : decode jdk_52_method_11_code 49 = .ok (.if_icmp .ge 39, 3) := by decide +kernel
theorem d22_52 : decode jdk_52_method_11_code 52 = .ok (.aload_n 0, 1) := by decide +kernel
theorem d22_53 : decode jdk_52_method_11_code 53 = .ok (.iload 5, 2) := by decide +kernel
theorem d22_55 : decode jdk_52_method_11_code 55 = .ok (.iinc 5 1, 3) := by decide +kernel
theorem d22_58 : decode jdk_52_method_11_code 58 = .ok (.invokestatic 71, 3) := by decide +kernel
theorem d22_61 : decode jdk_52_method_11_code 61 = .ok (.invokestatic 75, 3) := by decide +kernel
theorem d22_64 : decode jdk_52_method_11_code 64 = .ok (.ifCond .eq (-20), 3) := by decide +kernel
theorem d22_67 : decode jdk_52_method_11_code 67 = .ok (.aload_n 0, 1) := by decide +kernel
theorem d22_68 : decode jdk_52_method_11_code 68 = .ok (.iload 5, 2) := by decide +kernel
theorem d22_70 : decode jdk_52_method_11_code 70 = .ok (.invokestatic 71, 3) := by decide +kernel
theorem d22_73 : decode jdk_52_method_11_code 73 = .ok (.invokestatic 81, 3) := by decide +kernel
theorem d22_76 : decode jdk_52_method_11_code 76 = .ok (.ifCond .eq (-32), 3) := by decide +kernel
theorem d22_79 : decode jdk_52_method_11_code 79 = .ok (.iinc 4 (-1), 3) := by decide +kernel
theorem d22_82 : decode jdk_52_method_11_code 82 = .ok (.iinc 5 1, 3) := by decide +kernel
theorem d22_85 : decode jdk_52_method_11_code 85 = .ok (.goto (-41), 3) := by decide +kernel
theorem d22_88 : decode jdk_52_method_11_code 88 = .ok (.iload 4, 2) := by decide +kernel
theorem d22_90 : decode jdk_52_method_11_code 90 = .ok (.ireturn, 1) := by decide +kernel
theorem pn_22 : plainFor (⟨"java/lang/StringUTF16", "codePointCount", "([BIIZ)I"⟩ : MethodName) = true := by first | (apply plainFor_of_name; simp [plainName, overriddenIn]; done) | (apply plainFor_of_name; decide +kernel) | decide +kernel
theorem pd_22 : parseMethodDescriptor "([BIIZ)I" = some ⟨[(.array .byte), .int, .int, .boolean], (some .int)⟩ := by decide +kernel
theorem d21_0 : decode jdk_52_method_12_code 0 = .ok (.aload_n 0, 1) := by decide +kernel
theorem d21_1 : decode jdk_52_method_12_code 1 = .ok (.iload_n 1, 1) := by decide +kernel
theorem d21_2 : decode jdk_52_method_12_code 2 = .ok (.iload_n 2, 1) := by decide +kernel
theorem d21_3 : decode jdk_52_method_12_code 3 = .ok (.iconst 0, 1) := by decide +kernel
theorem d21_4 : decode jdk_52_method_12_code 4 = .ok (.invokestatic 100, 3) := by decide +kernel
theorem d21_7 : decode jdk_52_method_12_code 7 = .ok (.ireturn, 1) := by decide +kernel
theorem pn_21 : plainFor (⟨"java/lang/StringUTF16", "codePointCount", "([BII)I"⟩ : MethodName) = true := by first | (apply plainFor_of_name; simp [plainName, overriddenIn]; done) | (apply plainFor_of_name; decide +kernel) | decide +kernel
theorem pd_21 : parseMethodDescriptor "([BII)I" = some ⟨[(.array .byte), .int, .int], (some .int)⟩ := by decide +kernel
theorem d15_0 : decode jdk_42_method_59_code 0 = .ok (.iload_n 1, 1) := by decide +kernel
theorem d15_1 : decode jdk_42_method_59_code 1 = .ok (.iload_n 2, 1) := by decide +kernel
theorem d15_2 : decode jdk_42_method_59_code 2 = .ok (.aload_n 0, 1) := by decide +kernel
theorem d15_3 : decode jdk_42_method_59_code 3 = .ok (.invokevirtual 505, 3) := by decide +kernel
theorem d15_6 : decode jdk_42_method_59_code 6 = .ok (.invokestatic 511, 3) := by decide +kernel
theorem d15_9 : decode jdk_42_method_59_code 9 = .ok (.pop, 1) := by decide +kernel
theorem d15_10 : decode jdk_42_method_59_code 10 = .ok (.aload_n 0, 1) := by decide +kernel
theorem d15_11 : decode jdk_42_method_59_code 11 = .ok (.invokevirtual 492, 3) := by decide +kernel
theorem d15_14 : decode jdk_42_method_59_code 14 = .ok (.ifCond .eq 7, 3) := by decide +kernel
theorem d15_17 : decode jdk_42_method_59_code 17 = .ok (.iload_n 2, 1) := by decide +kernel
theorem d15_18 : decode jdk_42_method_59_code 18 = .ok (.iload_n 1, 1) := by decide +kernel
theorem d15_19 : decode jdk_42_method_59_code 19 = .ok (.isub, 1) := by decide +kernel
theorem d15_20 : decode jdk_42_method_59_code 20 = .ok (.ireturn, 1) := by decide +kernel
theorem d15_21 : decode jdk_42_method_59_code 21 = .ok (.aload_n 0, 1) := by decide +kernel
theorem d15_22 : decode jdk_42_method_59_code 22 = .ok (.getfield 9, 3) := by decide +kernel
theorem d15_25 : decode jdk_42_method_59_code 25 = .ok (.iload_n 1, 1) := by decide +kernel
theorem d15_26 : decode jdk_42_method_59_code 26 = .ok (.iload_n 2, 1) := by decide +kernel
theorem d15_27 : decode jdk_42_method_59_code 27 = .ok (.invokestatic 514, 3) := by decide +kernel
theorem d15_30 : decode jdk_42_method_59_code 30 = .ok (.ireturn, 1) := by decide +kernel
theorem pn_15 : plainFor (⟨"java/lang/String", "codePointCount", "(II)I"⟩ : MethodName) = true := by first | (apply plainFor_of_name; simp [plainName, overriddenIn]; done) | (apply plainFor_of_name; decide +kernel) | decide +kernel
theorem pd_15 : parseMethodDescriptor "(II)I" = some ⟨[.int, .int], (some .int)⟩ := by decide +kernel
def own_hs (c : Int32) : Prop := ¬ c < 55296 ∧ c < 56320
def own_ls (c : Int32) : Prop := ¬ c < 56320 ∧ c < 57344
instance (c : Int32) : Decidable (own_hs c) := by unfold own_hs; exact inferInstance
instance (c : Int32) : Decidable (own_ls c) := by unfold own_ls; exact inferInstance
def own_pr (cs : List Int32) (j : Nat) : Nat := if own_hs (cs.getD j 0) ∧ own_ls (cs.getD (j + 1) 0) then 1 else 0
def own_ps (cs : List Int32) : Nat → Nat
  | 0 => 0
  | j + 1 => own_ps cs j + own_pr cs j
theorem own_psS (cs : List Int32) (j : Nat) : own_ps cs (j + 1) = own_ps cs j + own_pr cs j := rfl
theorem own_ps_le (cs : List Int32) : ∀ j, own_ps cs j ≤ j
  | 0 => Nat.le_refl _
  | j + 1 => by
    have h := own_ps_le cs j
    rw [own_psS]
    unfold own_pr
    split <;> omega
theorem own_gd {cs : List Int32} {i : Nat} {c : Int32} (h : cs[i]? = some c) : cs.getD i 0 = c := by simp [List.getD, h]
theorem own_hl {c : Int32} (h : own_ls c) : ¬ own_hs c := fun q => h.1 q.2
theorem own_psL {cs : List Int32} (h : ∀ (j : Nat) (c : Int32), cs[j]? = some c → ¬ 255 < c) : ∀ j, own_ps cs j = 0
  | 0 => rfl
  | j + 1 => by
    rw [own_psS, own_psL h j]
    unfold own_pr
    rw [if_neg]
    rintro ⟨⟨q, -⟩, -⟩
    cases hc : cs[j]? with
    | none =>
      rw [show cs.getD j 0 = 0 by simp [List.getD, hc]] at q
      exact q (by decide)
    | some c =>
      rw [own_gd hc] at q
      have q1 := h j c hc
      rw [Int32.lt_iff_toInt_lt] at q q1
      have k1 : (255 : Int32).toInt = 255 := by decide
      have k2 : (55296 : Int32).toInt = 55296 := by decide
      omega
theorem own_m1 {m : Nat} (h : m + 1 < 2147483648) : Int32.ofNat (m + 1) + (-1) = Int32.ofNat m := by
  apply Int32.toInt_inj.mp
  have h1 := c_iadd (Int32.ofNat (m + 1)) (-1)
  have h2 := rng32 (Int32.ofNat (m + 1) + (-1))
  have h3 : (-1 : Int32).toInt = -1 := by decide
  rw [own_ti h] at h1
  rw [own_ti (by omega)]
  omega
theorem own_sub0 (x : Int32) : x - (0 : Int32) = x := by simp
theorem own_ltm1 {i K : Nat} (hi : i ≤ 8) (hK : K ≤ 8) : (Int32.ofNat i < Int32.ofNat K - (1 : Int32)) ↔ i + 1 < K := by
  have h1 := c_isub (Int32.ofNat K) 1
  have h2 := rng32 (Int32.ofNat K - 1)
  have h3 : (1 : Int32).toInt = 1 := by decide
  rw [own_ti (by omega)] at h1
  rw [Int32.lt_iff_toInt_lt, own_ti (by omega)]
  omega
theorem own_if1 {P : Prop} [Decidable P] (h : ¬ (if P then (1 : Int32) else 0) = 0) : P := by
  by_cases p : P
  · exact p
  · exact absurd (if_neg p) h
theorem own_if0 {P : Prop} [Decidable P] (h : (if P then (1 : Int32) else 0) = 0) : ¬ P := fun p => by
  rw [if_pos p] at h; exact absurd h (by decide)
theorem own_cpE {cs : List Int32} {K i : Nat} (q : own_ps cs i = own_ps cs (K - 1)) : some (Value.int (Int32.ofNat (K - own_ps cs i))) = some (Value.int (Int32.ofNat (K - own_ps cs (K - 1)))) := by rw [q]

set_option maxRecDepth 65536 in
set_option maxHeartbeats 40000000 in
theorem rC_isHighSurrogate (l : Launch) (Z : State) (ag : Array Value) (hw : ∀ d ∈ tables_1, d.before ag Z = true) (x : Int32) (h0 : Heap) (n0 : Nat)  :
    Ctr l Z (⟨"java/lang/Character", "isHighSurrogate", "(C)Z"⟩ : MethodName) jdk_89_method_14_code 1 (some .boolean) ({ frames := 0, cells := 0, slots := 0, locals := 0 } : Room) #[.int x] h0 (fun v h L => v = some (.int (if own_hs x then 1 else 0)) ∧ Fr n0 L ∧ h0 = h) := by
  refine Ctr.of pn_23 ?_
  intro p e s m below meth c T0 X0 B e0
  refine Go.cast (f' := mkF m 0 #[.val (.int x)] []) (by first | rfl | (simp [entryFrame, mkF, argsToLocals, Value.category, maxLocals]; done)) ?_

  refine g_iloadN X0 B d23_0 1 rfl rfl ?_
  refine g_ldcI X0 B d23_1 3 rfl (hw _ (List.mem_of_getElem? (i := 106) rfl)) ?_
  refine g_icmp_lt X0 B d23_3 16 6 rfl (by decide) rfl (fun c1 => ?_) (fun c1 => ?_)
  · skip
    refine g_iconst X0 B (0) d23_16 17 rfl rfl ?_
    exact g_retN X0 B d23_17 rfl rfl (by decide) (by decide) (by decide) e0 ⟨by simp [own_hs, c1], (Fr.nil n0), rfl⟩
  · skip
    refine g_iloadN X0 B d23_6 7 rfl rfl ?_
    refine g_ldcI X0 B d23_7 9 rfl (hw _ (List.mem_of_getElem? (i := 107) rfl)) ?_
    refine g_icmp_ge X0 B d23_9 16 12 rfl (by decide) rfl (fun c2 => ?_) (fun c2 => ?_)
    · skip
      refine g_iconst X0 B (0) d23_16 17 rfl rfl ?_
      exact g_retN X0 B d23_17 rfl rfl (by decide) (by decide) (by decide) e0 ⟨by simp [own_hs, c1, c2], (Fr.nil n0), rfl⟩
    · skip
      refine g_iconst X0 B (1) d23_12 13 rfl rfl ?_
      refine g_goto X0 B d23_13 17 rfl (by decide) ?_
      exact g_retN X0 B d23_17 rfl rfl (by decide) (by decide) (by decide) e0 ⟨by simp [own_hs, c1, c2], (Fr.nil n0), rfl⟩
set_option maxRecDepth 65536 in
set_option maxHeartbeats 40000000 in
theorem rC_isLowSurrogate (l : Launch) (Z : State) (ag : Array Value) (hw : ∀ d ∈ tables_1, d.before ag Z = true) (x : Int32) (h0 : Heap) (n0 : Nat)  :
    Ctr l Z (⟨"java/lang/Character", "isLowSurrogate", "(C)Z"⟩ : MethodName) jdk_89_method_15_code 1 (some .boolean) ({ frames := 0, cells := 0, slots := 0, locals := 0 } : Room) #[.int x] h0 (fun v h L => v = some (.int (if own_ls x then 1 else 0)) ∧ Fr n0 L ∧ h0 = h) := by
  refine Ctr.of pn_28 ?_
  intro p e s m below meth c T0 X0 B e0
  refine Go.cast (f' := mkF m 0 #[.val (.int x)] []) (by first | rfl | (simp [entryFrame, mkF, argsToLocals, Value.category, maxLocals]; done)) ?_

  refine g_iloadN X0 B d28_0 1 rfl rfl ?_
  refine g_ldcI X0 B d28_1 3 rfl (hw _ (List.mem_of_getElem? (i := 107) rfl)) ?_
  refine g_icmp_lt X0 B d28_3 16 6 rfl (by decide) rfl (fun c1 => ?_) (fun c1 => ?_)
  · skip
    refine g_iconst X0 B (0) d28_16 17 rfl rfl ?_
    exact g_retN X0 B d28_17 rfl rfl (by decide) (by decide) (by decide) e0 ⟨by simp [own_ls, c1], (Fr.nil n0), rfl⟩
  · skip
    refine g_iloadN X0 B d28_6 7 rfl rfl ?_
    refine g_ldcI X0 B d28_7 9 rfl (hw _ (List.mem_of_getElem? (i := 134) rfl)) ?_
    refine g_icmp_ge X0 B d28_9 16 12 rfl (by decide) rfl (fun c2 => ?_) (fun c2 => ?_)
    · skip
      refine g_iconst X0 B (0) d28_16 17 rfl rfl ?_
      exact g_retN X0 B d28_17 rfl rfl (by decide) (by decide) (by decide) e0 ⟨by simp [own_ls, c1, c2], (Fr.nil n0), rfl⟩
    · skip
      refine g_iconst X0 B (1) d28_12 13 rfl rfl ?_
      refine g_goto X0 B d28_13 17 rfl (by decide) ?_
      exact g_retN X0 B d28_17 rfl rfl (by decide) (by decide) (by decide) e0 ⟨by simp [own_ls, c1, c2], (Fr.nil n0), rfl⟩
set_option maxRecDepth 65536 in
set_option maxHeartbeats 40000000 in
theorem rC_pcf (l : Launch) (Z : State) (ag : Array Value) (hw : ∀ d ∈ tables_1, d.before ag Z = true) (f t z : Int32) (h0 : Heap) (n0 : Nat) (f1 : ¬ f < 0) (f2 : ¬ t < f) (f3 : ¬ z < t) :
    Ctr l Z (⟨"jdk/internal/util/Preconditions", "checkFromToIndex", "(IIILjava/util/function/BiFunction;)I"⟩ : MethodName) jdk_41_method_12_code 4 (some .int) ({ frames := 0, cells := 0, slots := 0, locals := 0 } : Room) #[.int f, .int t, .int z, .null] h0 (fun v h L => v = some (.int f) ∧ Fr n0 L ∧ h0 = h) := by
  refine Ctr.of pn_19 ?_
  intro p e s m below meth c T0 X0 B e0
  refine Go.cast (f' := mkF m 0 #[.val (.int f), .val (.int t), .val (.int z), .val (.null)] []) (by first | rfl | (simp [entryFrame, mkF, argsToLocals, Value.category, maxLocals]; done)) ?_

  refine g_iloadN X0 B d19_0 1 rfl rfl ?_
  refine g_if_lt X0 B d19_1 14 4 rfl (by decide) rfl (fun z => own_abs' (f1) z) (fun _ => ?_)
  refine g_iloadN X0 B d19_4 5 rfl rfl ?_
  refine g_iloadN X0 B d19_5 6 rfl rfl ?_
  refine g_icmp_gt X0 B d19_6 14 9 rfl (by decide) rfl (fun z => own_abs' (f2) z) (fun _ => ?_)
  refine g_iloadN X0 B d19_9 10 rfl rfl ?_
  refine g_iloadN X0 B d19_10 11 rfl rfl ?_
  refine g_icmp_le X0 B d19_11 22 14 rfl (by decide) rfl (fun _ => ?_) (fun z => own_abs' (f3) z)
  refine g_iloadN X0 B d19_22 23 rfl rfl ?_
  exact g_retI X0 B d19_23 rfl (by decide) (by decide) e0 ⟨rfl, (Fr.nil n0), rfl⟩
set_option maxRecDepth 65536 in
set_option maxHeartbeats 40000000 in
theorem rC_ocf (l : Launch) (Z : State) (ag : Array Value) (hw : ∀ d ∈ tables_1, d.before ag Z = true) (f t z : Int32) (h0 : Heap) (n0 : Nat) (f1 : ¬ f < 0) (f2 : ¬ t < f) (f3 : ¬ z < t) :
    Ctr l Z (⟨"java/util/Objects", "checkFromToIndex", "(III)I"⟩ : MethodName) jdk_31_method_18_code 3 (some .int) ({ frames := 1, cells := 0, slots := 0, locals := 15 } : Room) #[.int f, .int t, .int z] h0 (fun v h L => v = some (.int f) ∧ Fr n0 L ∧ h0 = h) := by
  refine Ctr.of pn_18 ?_
  intro p e s m below meth c T0 X0 B e0
  refine Go.cast (f' := mkF m 0 #[.val (.int f), .val (.int t), .val (.int z)] []) (by first | rfl | (simp [entryFrame, mkF, argsToLocals, Value.category, maxLocals]; done)) ?_

  refine g_iloadN X0 B d18_0 1 rfl rfl ?_
  refine g_iloadN X0 B d18_1 2 rfl rfl ?_
  refine g_iloadN X0 B d18_2 3 rfl rfl ?_
  refine g_aconstNull X0 B d18_3 4 rfl ?_
  refine g_callS X0 B [.int f, .int t, .int z, .null] [] d18_4 7 rfl rfl (hw _ (List.mem_of_getElem? (i := 87) rfl)) (hw _ (List.mem_of_getElem? (i := 88) rfl)) (hw _ (List.mem_of_getElem? (i := 89) rfl)) (hw _ (List.mem_of_getElem? (i := 90) rfl)) (by decide) (lenOf pd_19 rfl) (rC_pcf l Z ag hw f t z h0 n0 f1 f2 f3) e0 rfl 0 (Nat.le_of_eq rfl) (by decide) (by decide) (by decide) (by decide) (fun v1 T1 h1 L1 X1 e1 q1 => ?_)
  obtain ⟨rfl, N1, rfl⟩ := q1
  show Go p e below _ (T1.setTop (mkF m 7 #[.val (.int f), .val (.int t), .val (.int z)] [.int f]))
  exact g_retI X1 B d18_7 rfl (by decide) (by decide) e1 ⟨rfl, ((Fr.nil n0).app N1), rfl⟩
def own_QP (h0 : Heap) (n0 : Nat) (cs : List Int32) (K : Nat) (v : Option Value) (h : Heap) (L : List Loc) : Prop := v = some (.int (Int32.ofNat (K - own_ps cs (K - 1)))) ∧ Fr n0 L ∧ h0 = h
set_option maxRecDepth 65536 in
set_option maxHeartbeats 40000000 in
theorem rC_c4 (l : Launch) (Z : State) (ag : Array Value) (hw : ∀ d ∈ tables_1, d.before ag Z = true) (b : Addr) (us : List Value) (cs : List Int32) (K : Nat) (h0 : Heap) (n0 : Nat) (Ab : Av Z h0 b .byte us) (hn : cs.length ≤ 4) (hK : K ≤ cs.length) (hU : own_U us cs) (hcs : ∀ c ∈ cs, own_ch c) (SA : Sta Z h0 "java/lang/StringUTF16" "$assertionsDisabled" "Z" (.int 1)) (SH : Sta Z h0 "java/lang/StringUTF16" "HI_BYTE_SHIFT" "I" (.int 0)) (SLo : Sta Z h0 "java/lang/StringUTF16" "LO_BYTE_SHIFT" "I" (.int 8)) :
    Ctr l Z (⟨"java/lang/StringUTF16", "codePointCount", "([BIIZ)I"⟩ : MethodName) jdk_52_method_11_code 6 (some .int) ({ frames := 1, cells := 0, slots := 0, locals := 13 } : Room) #[.ref b, .int (0 : Int32), .int (Int32.ofNat K), .int (0 : Int32)] h0 (own_QP h0 n0 cs K) := by
  refine Ctr.of pn_22 ?_
  intro p e s m below meth c T0 X0 B e0
  refine Go.cast (f' := mkF m 0 #[.val (.ref b), .val (.int (0 : Int32)), .val (.int (Int32.ofNat K)), .val (.int (0 : Int32)), .unset, .unset] []) (by first | rfl | (simp [entryFrame, mkF, argsToLocals, Value.category, maxLocals]; done)) ?_

  refine g_getS X0 B d22_0 3 rfl (hw _ (List.mem_of_getElem? (i := 43) rfl)) Via.refl e0 SA (fun T1 X1 e1 => ?_)
  refine g_if_ne X1 B d22_3 19 6 rfl (by decide) rfl (fun _ => ?_) (fun z => own_abs' (by decide) z)
  refine g_iloadN X1 B d22_19 20 rfl rfl ?_
  refine g_iloadN X1 B d22_20 21 rfl rfl ?_
  refine g_isub X1 B d22_21 22 rfl ?_
  rw [own_sub0]
  refine g_istore X1 B #[.val (.ref b), .val (.int (0 : Int32)), .val (.int (Int32.ofNat K)), .val (.int (0 : Int32)), .val (.int (Int32.ofNat K)), .unset] d22_22 24 rfl rfl ?_
  refine g_iloadN X1 B d22_24 25 rfl rfl ?_
  refine g_istore X1 B #[.val (.ref b), .val (.int (0 : Int32)), .val (.int (Int32.ofNat K)), .val (.int (0 : Int32)), .val (.int (Int32.ofNat K)), .val (.int (0 : Int32))] d22_25 27 rfl rfl ?_
  refine g_iloadN X1 B d22_27 28 rfl rfl ?_
  refine g_if_eq X1 B d22_28 44 31 rfl (by decide) rfl (fun _ => ?_) (fun z => own_abs (rfl) z)
  have loop : ∀ (f i : Nat) (T : State) (Lo : List Loc), K ≤ i + f → i ≤ K → (i ≤ K - 1 ∨ own_ps cs i = own_ps cs (K - 1)) → Stand p l e ({ frames := 1, cells := 0, slots := 0, locals := 13 } : Room) s m #[.ref b, .int (0 : Int32), .int (Int32.ofNat K), .int (0 : Int32)] below meth c T Lo 0 0 → T.heap = h0 → Fr n0 Lo → Go p e below (EndsQ s (own_QP h0 n0 cs K) ({ frames := 1, cells := 0, slots := 0, locals := 13 } : Room).cells ({ frames := 1, cells := 0, slots := 0, locals := 13 } : Room).slots) (T.setTop (mkF m 44 #[.val (.ref b), .val (.int (0 : Int32)), .val (.int (Int32.ofNat K)), .val (.int (0 : Int32)), .val (.int (Int32.ofNat (K - own_ps cs i))), .val (.int (Int32.ofNat i))] [])) := by
    intro f
    induction f with
    | zero =>
      intro i T Lo hf hi hj X eh N
      refine g_iload X B d22_44 46 rfl rfl ?_
      refine g_iloadN X B d22_46 47 rfl rfl ?_
      refine g_iconst X B (1) d22_47 48 rfl rfl ?_
      refine g_isub X B d22_48 49 rfl ?_
      refine g_icmp_ge X B d22_49 88 52 rfl (by decide) rfl (fun _ => ?_) (fun z => own_abs' (fun z => absurd ((own_ltm1 (by omega) (by omega)).mp z) (by omega)) z)
      refine g_iload X B d22_88 90 rfl rfl ?_
      exact g_retI X B d22_90 rfl (by decide) (by decide) eh ⟨own_cpE (hj.elim (fun z => by rw [show i = K - 1 by omega]) id), N, rfl⟩
    | succ f ih =>
      intro i T Lo hf hi hj X eh N
      by_cases hlt : i + 1 < K
      · obtain ⟨c0, hc0⟩ := own_ex (cs := cs) (i := i) (by omega)
        obtain ⟨c1, hc1⟩ := own_ex (cs := cs) (i := i + 1) (by omega)
        have ple := own_ps_le cs i
        refine g_iload X B d22_44 46 rfl rfl ?_
        refine g_iloadN X B d22_46 47 rfl rfl ?_
        refine g_iconst X B (1) d22_47 48 rfl rfl ?_
        refine g_isub X B d22_48 49 rfl ?_
        refine g_icmp_ge X B d22_49 88 52 rfl (by decide) rfl (fun z => own_abs ((own_ltm1 (by omega) (by omega)).mpr hlt) z) (fun _ => ?_)
        refine g_aloadN X B d22_52 53 rfl rfl rfl ?_
        refine g_iload X B d22_53 55 rfl rfl ?_
        refine g_iinc X B #[.val (.ref b), .val (.int (0 : Int32)), .val (.int (Int32.ofNat K)), .val (.int (0 : Int32)), .val (.int (Int32.ofNat (K - own_ps cs i))), .val (.int ((Int32.ofNat i) + (1)))] (1) d22_55 58 rfl rfl rfl rfl ?_
        rw [own_s1 (by omega)]
        refine g_callS X B [.ref b, .int (Int32.ofNat i)] [] d22_58 61 rfl rfl (hw _ (List.mem_of_getElem? (i := 46) rfl)) (hw _ (List.mem_of_getElem? (i := 47) rfl)) (hw _ (List.mem_of_getElem? (i := 24) rfl)) (hw _ (List.mem_of_getElem? (i := 48) rfl)) (by decide) (lenOf pd_11 rfl) (rS_get l Z ag hw b (i) c0 us h0 n0 Ab (by rw [hU.1]; omega) (hU.2 _ c0 (by omega) hc0).1 (hU.2 _ c0 (by omega) hc0).2 (hcs c0 (List.mem_of_getElem? hc0)) SA SH SLo) eh rfl 0 (Nat.le_of_eq rfl) (by decide) (by decide) (by decide) (by decide) (fun v1 T1 h1 L1 X1 e1 q1 => ?_)
        obtain ⟨rfl, N1, rfl⟩ := q1
        show Go p e below _ (T1.setTop (mkF m 61 #[.val (.ref b), .val (.int (0 : Int32)), .val (.int (Int32.ofNat K)), .val (.int (0 : Int32)), .val (.int (Int32.ofNat (K - own_ps cs i))), .val (.int (Int32.ofNat (i + 1)))] [.int c0]))
        refine g_callS X1 B [.int c0] [] d22_61 64 rfl rfl (hw _ (List.mem_of_getElem? (i := 102) rfl)) (hw _ (List.mem_of_getElem? (i := 103) rfl)) (hw _ (List.mem_of_getElem? (i := 104) rfl)) (hw _ (List.mem_of_getElem? (i := 105) rfl)) (by decide) (lenOf pd_23 rfl) (rC_isHighSurrogate l Z ag hw c0 h0 n0) e1 rfl 0 (Nat.le_of_eq rfl) (by decide) (by decide) (by decide) (by decide) (fun v2 T2 h2 L2 X2 e2 q2 => ?_)
        obtain ⟨rfl, N2, rfl⟩ := q2
        show Go p e below _ (T2.setTop (mkF m 64 #[.val (.ref b), .val (.int (0 : Int32)), .val (.int (Int32.ofNat K)), .val (.int (0 : Int32)), .val (.int (Int32.ofNat (K - own_ps cs i))), .val (.int (Int32.ofNat (i + 1)))] [.int (if own_hs c0 then 1 else 0)]))
        refine g_if_eq X2 B d22_64 44 67 rfl (by decide) rfl (fun c3 => ?_) (fun c3 => ?_)
        · skip
          have p1 : own_pr cs i = 0 := by unfold own_pr; rw [own_gd hc0, if_neg (fun z => own_if0 c3 z.1)]
          rw [show own_ps cs i = own_ps cs (i + 1) by rw [own_psS, p1]; rfl]
          exact ih (i + 1) _ _ (by omega) (by omega) (Or.inl (by omega)) X2 e2 ((N.app N1).app N2)
        · skip
          refine g_aloadN X2 B d22_67 68 rfl rfl rfl ?_
          refine g_iload X2 B d22_68 70 rfl rfl ?_
          refine g_callS X2 B [.ref b, .int (Int32.ofNat (i + 1))] [] d22_70 73 rfl rfl (hw _ (List.mem_of_getElem? (i := 46) rfl)) (hw _ (List.mem_of_getElem? (i := 47) rfl)) (hw _ (List.mem_of_getElem? (i := 24) rfl)) (hw _ (List.mem_of_getElem? (i := 48) rfl)) (by decide) (lenOf pd_11 rfl) (rS_get l Z ag hw b (i + 1) c1 us h0 n0 Ab (by rw [hU.1]; omega) (hU.2 _ c1 (by omega) hc1).1 (hU.2 _ c1 (by omega) hc1).2 (hcs c1 (List.mem_of_getElem? hc1)) SA SH SLo) e2 rfl 0 (Nat.le_of_eq rfl) (by decide) (by decide) (by decide) (by decide) (fun v4 T4 h4 L4 X4 e4 q4 => ?_)
          obtain ⟨rfl, N4, rfl⟩ := q4
          show Go p e below _ (T4.setTop (mkF m 73 #[.val (.ref b), .val (.int (0 : Int32)), .val (.int (Int32.ofNat K)), .val (.int (0 : Int32)), .val (.int (Int32.ofNat (K - own_ps cs i))), .val (.int (Int32.ofNat (i + 1)))] [.int c1]))
          refine g_callS X4 B [.int c1] [] d22_73 76 rfl rfl (hw _ (List.mem_of_getElem? (i := 131) rfl)) (hw _ (List.mem_of_getElem? (i := 132) rfl)) (hw _ (List.mem_of_getElem? (i := 104) rfl)) (hw _ (List.mem_of_getElem? (i := 133) rfl)) (by decide) (lenOf pd_28 rfl) (rC_isLowSurrogate l Z ag hw c1 h0 n0) e4 rfl 0 (Nat.le_of_eq rfl) (by decide) (by decide) (by decide) (by decide) (fun v5 T5 h5 L5 X5 e5 q5 => ?_)
          obtain ⟨rfl, N5, rfl⟩ := q5
          show Go p e below _ (T5.setTop (mkF m 76 #[.val (.ref b), .val (.int (0 : Int32)), .val (.int (Int32.ofNat K)), .val (.int (0 : Int32)), .val (.int (Int32.ofNat (K - own_ps cs i))), .val (.int (Int32.ofNat (i + 1)))] [.int (if own_ls c1 then 1 else 0)]))
          refine g_if_eq X5 B d22_76 44 79 rfl (by decide) rfl (fun c6 => ?_) (fun c6 => ?_)
          · skip
            have p1 : own_pr cs i = 0 := by unfold own_pr; rw [own_gd hc1, if_neg (fun z => own_if0 c6 z.2)]
            rw [show own_ps cs i = own_ps cs (i + 1) by rw [own_psS, p1]; rfl]
            exact ih (i + 1) _ _ (by omega) (by omega) (Or.inl (by omega)) X5 e5 ((((N.app N1).app N2).app N4).app N5)
          · skip
            refine g_iinc X5 B #[.val (.ref b), .val (.int (0 : Int32)), .val (.int (Int32.ofNat K)), .val (.int (0 : Int32)), .val (.int ((Int32.ofNat (K - own_ps cs i)) + (-1))), .val (.int (Int32.ofNat (i + 1)))] (-1) d22_79 82 rfl rfl rfl rfl ?_
            have hh := own_if1 c3
            have hl := own_if1 c6
            have p1 : own_pr cs i = 1 := by unfold own_pr; rw [own_gd hc0, own_gd hc1, if_pos ⟨hh, hl⟩]
            have p2 : own_pr cs (i + 1) = 0 := by unfold own_pr; rw [own_gd hc1, if_neg (fun z => own_hl hl z.1)]
            have p3 : own_ps cs (i + 2) = own_ps cs i + 1 := by rw [own_psS, own_psS, p1, p2]
            have p4 : own_ps cs (i + 2) = own_ps cs (i + 1) := by rw [own_psS, p2]; rfl
            rw [show K - own_ps cs i = (K - own_ps cs (i + 2)) + 1 by omega, own_m1 (by omega)]
            refine g_iinc X5 B #[.val (.ref b), .val (.int (0 : Int32)), .val (.int (Int32.ofNat K)), .val (.int (0 : Int32)), .val (.int (Int32.ofNat (K - own_ps cs (i + 2)))), .val (.int ((Int32.ofNat (i + 1)) + (1)))] (1) d22_82 85 rfl rfl rfl rfl ?_
            rw [own_s1 (by omega)]
            refine g_goto X5 B d22_85 44 rfl (by decide) ?_
            exact ih (i + 2) _ _ (by omega) (by omega) (if z : i + 2 ≤ K - 1 then Or.inl z else Or.inr (by rw [p4, show K - 1 = i + 1 by omega])) X5 e5 ((((N.app N1).app N2).app N4).app N5)
      · skip
        refine g_iload X B d22_44 46 rfl rfl ?_
        refine g_iloadN X B d22_46 47 rfl rfl ?_
        refine g_iconst X B (1) d22_47 48 rfl rfl ?_
        refine g_isub X B d22_48 49 rfl ?_
        refine g_icmp_ge X B d22_49 88 52 rfl (by decide) rfl (fun _ => ?_) (fun z => own_abs' (fun z => absurd ((own_ltm1 (by omega) (by omega)).mp z) hlt) z)
        refine g_iload X B d22_88 90 rfl rfl ?_
        exact g_retI X B d22_90 rfl (by decide) (by decide) eh ⟨own_cpE (hj.elim (fun z => by rw [show i = K - 1 by omega]) id), N, rfl⟩
  exact loop K 0 _ _ (by omega) (by omega) (Or.inl (by omega)) X1 e1 (Fr.nil n0)
set_option maxRecDepth 65536 in
set_option maxHeartbeats 40000000 in
theorem rC_c3 (l : Launch) (Z : State) (ag : Array Value) (hw : ∀ d ∈ tables_1, d.before ag Z = true) (b : Addr) (us : List Value) (cs : List Int32) (K : Nat) (h0 : Heap) (n0 : Nat) (Ab : Av Z h0 b .byte us) (hn : cs.length ≤ 4) (hK : K ≤ cs.length) (hU : own_U us cs) (hcs : ∀ c ∈ cs, own_ch c) (SA : Sta Z h0 "java/lang/StringUTF16" "$assertionsDisabled" "Z" (.int 1)) (SH : Sta Z h0 "java/lang/StringUTF16" "HI_BYTE_SHIFT" "I" (.int 0)) (SLo : Sta Z h0 "java/lang/StringUTF16" "LO_BYTE_SHIFT" "I" (.int 8)) :
    Ctr l Z (⟨"java/lang/StringUTF16", "codePointCount", "([BII)I"⟩ : MethodName) jdk_52_method_12_code 3 (some .int) ({ frames := 2, cells := 0, slots := 0, locals := 30 } : Room) #[.ref b, .int (0 : Int32), .int (Int32.ofNat K)] h0 (own_QP h0 n0 cs K) := by
  refine Ctr.of pn_21 ?_
  intro p e s m below meth c T0 X0 B e0
  refine Go.cast (f' := mkF m 0 #[.val (.ref b), .val (.int (0 : Int32)), .val (.int (Int32.ofNat K))] []) (by first | rfl | (simp [entryFrame, mkF, argsToLocals, Value.category, maxLocals]; done)) ?_

  refine g_aloadN X0 B d21_0 1 rfl rfl rfl ?_
  refine g_iloadN X0 B d21_1 2 rfl rfl ?_
  refine g_iloadN X0 B d21_2 3 rfl rfl ?_
  refine g_iconst X0 B (0) d21_3 4 rfl rfl ?_
  refine g_callS X0 B [.ref b, .int (0 : Int32), .int (Int32.ofNat K), .int (0 : Int32)] [] d21_4 7 rfl rfl (hw _ (List.mem_of_getElem? (i := 99) rfl)) (hw _ (List.mem_of_getElem? (i := 100) rfl)) (hw _ (List.mem_of_getElem? (i := 24) rfl)) (hw _ (List.mem_of_getElem? (i := 101) rfl)) (by decide) (lenOf pd_22 rfl) (rC_c4 l Z ag hw b us cs K h0 n0 Ab hn hK hU hcs SA SH SLo) e0 rfl 0 (Nat.le_of_eq rfl) (by decide) (by decide) (by decide) (by decide) (fun v1 T1 h1 L1 X1 e1 q1 => ?_)
  obtain ⟨rfl, N1, rfl⟩ := q1
  show Go p e below _ (T1.setTop (mkF m 7 #[.val (.ref b), .val (.int (0 : Int32)), .val (.int (Int32.ofNat K))] [.int (Int32.ofNat (K - own_ps cs (K - 1)))]))
  exact g_retI X1 B d21_7 rfl (by decide) (by decide) e1 ⟨rfl, ((Fr.nil n0).app N1), rfl⟩
set_option maxRecDepth 65536 in
set_option maxHeartbeats 40000000 in
theorem rC_c2 (l : Launch) (Z : State) (ag : Array Value) (hw : ∀ d ∈ tables_1, d.before ag Z = true) (a b : Addr) (k cx : Int32) (vs : List Value) (cs : List Int32) (K : Nat) (h0 : Heap) (n0 : Nat) (Ea : Exa Z h0 a "java/lang/String") (FV : Fld Z h0 a "java/lang/String" "value" "[B" (.ref b)) (FC : Fld Z h0 a "java/lang/String" "coder" "B" (.int k)) (Ab : Av Z h0 b .byte vs) (hn : cs.length ≤ 4) (hK : K ≤ cs.length) (hcs : ∀ c ∈ cs, own_ch c) (hSV : own_SV k vs cs) (SA : Sta Z h0 "java/lang/StringUTF16" "$assertionsDisabled" "Z" (.int 1)) (SH : Sta Z h0 "java/lang/StringUTF16" "HI_BYTE_SHIFT" "I" (.int 0)) (SLo : Sta Z h0 "java/lang/StringUTF16" "LO_BYTE_SHIFT" "I" (.int 8)) (SC : Sta Z h0 "java/lang/String" "COMPACT_STRINGS" "Z" (.int cx)) (hcx : ¬ cx = 0) :
    Ctr l Z (⟨"java/lang/String", "codePointCount", "(II)I"⟩ : MethodName) jdk_42_method_59_code 3 (some .int) ({ frames := 3, cells := 0, slots := 0, locals := 44 } : Room) #[.ref a, .int (0 : Int32), .int (Int32.ofNat K)] h0 (own_QP h0 n0 cs K) := by
  refine Ctr.of pn_15 ?_
  intro p e s m below meth c T0 X0 B e0
  refine Go.cast (f' := mkF m 0 #[.val (.ref a), .val (.int (0 : Int32)), .val (.int (Int32.ofNat K))] []) (by first | rfl | (simp [entryFrame, mkF, argsToLocals, Value.category, maxLocals]; done)) ?_

  refine g_iloadN X0 B d15_0 1 rfl rfl ?_
  refine g_iloadN X0 B d15_1 2 rfl rfl ?_
  refine g_aloadN X0 B d15_2 3 rfl rfl rfl ?_
  refine g_callV X0 B [] [.int (Int32.ofNat K), .int (0 : Int32)] d15_3 6 rfl rfl (hw _ (List.mem_of_getElem? (i := 73) rfl)) (hw _ (List.mem_of_getElem? (i := 74) rfl)) (hw _ (List.mem_of_getElem? (i := 76) rfl)) (hw _ (List.mem_of_getElem? (i := 75) rfl)) (hw _ (List.mem_of_getElem? (i := 10) rfl)) (hw _ (List.mem_of_getElem? (i := 77) rfl)) (by decide) (lenOf pd_16 rfl) Ea (rS_len l Z ag hw a b k cx vs cs h0 n0 Ea FV FC Ab hn hSV SC hcx) e0 rfl 2 (Nat.le_of_eq rfl) (by decide) (by decide) (by decide) (by decide) (fun v1 T1 h1 L1 X1 e1 q1 => ?_)
  obtain ⟨rfl, N1, rfl⟩ := q1
  show Go p e below _ (T1.setTop (mkF m 6 #[.val (.ref a), .val (.int (0 : Int32)), .val (.int (Int32.ofNat K))] [.int (Int32.ofNat cs.length), .int (Int32.ofNat K), .int (0 : Int32)]))
  refine g_callS X1 B [.int (0 : Int32), .int (Int32.ofNat K), .int (Int32.ofNat cs.length)] [] d15_6 9 rfl rfl (hw _ (List.mem_of_getElem? (i := 83) rfl)) (hw _ (List.mem_of_getElem? (i := 84) rfl)) (hw _ (List.mem_of_getElem? (i := 85) rfl)) (hw _ (List.mem_of_getElem? (i := 86) rfl)) (by decide) (lenOf pd_18 rfl) (rC_ocf l Z ag hw 0 (Int32.ofNat K) (Int32.ofNat cs.length) h0 n0 (by decide) (own_nn (by omega)) (fun z => absurd ((own_lt (by omega) (by omega)).mp z) (by omega))) e1 rfl 0 (Nat.le_of_eq rfl) (by decide) (by decide) (by decide) (by decide) (fun v2 T2 h2 L2 X2 e2 q2 => ?_)
  obtain ⟨rfl, N2, rfl⟩ := q2
  show Go p e below _ (T2.setTop (mkF m 9 #[.val (.ref a), .val (.int (0 : Int32)), .val (.int (Int32.ofNat K))] [.int (0 : Int32)]))
  refine g_pop X2 B d15_9 10 rfl rfl ?_
  refine g_aloadN X2 B d15_10 11 rfl rfl rfl ?_
  refine g_callV X2 B [] [] d15_11 14 rfl rfl (hw _ (List.mem_of_getElem? (i := 91) rfl)) (hw _ (List.mem_of_getElem? (i := 92) rfl)) (hw _ (List.mem_of_getElem? (i := 94) rfl)) (hw _ (List.mem_of_getElem? (i := 93) rfl)) (hw _ (List.mem_of_getElem? (i := 10) rfl)) (hw _ (List.mem_of_getElem? (i := 95) rfl)) (by decide) (lenOf pd_20 rfl) Ea (rS_lat l Z ag hw a k cx h0 n0 FC (own_SVk hSV) SC hcx) e2 rfl 0 (Nat.le_of_eq rfl) (by decide) (by decide) (by decide) (by decide) (fun v3 T3 h3 L3 X3 e3 q3 => ?_)
  obtain ⟨rfl, N3, rfl⟩ := q3
  show Go p e below _ (T3.setTop (mkF m 14 #[.val (.ref a), .val (.int (0 : Int32)), .val (.int (Int32.ofNat K))] [.int (if k = 0 then 1 else 0)]))
  rcases hSV with ⟨rfl, hL⟩ | ⟨rfl, hU⟩
  · skip
    refine g_if_eq X3 B d15_14 21 17 rfl (by decide) rfl (fun z => own_abs' (by decide) z) (fun _ => ?_)
    refine g_iloadN X3 B d15_17 18 rfl rfl ?_
    refine g_iloadN X3 B d15_18 19 rfl rfl ?_
    refine g_isub X3 B d15_19 20 rfl ?_
    exact g_retI X3 B d15_20 rfl (by decide) (by decide) e3 ⟨by rw [own_psL (fun j c q => (hL.2 j c (List.getElem?_eq_some_iff.mp q).1 q).2), own_sub0]; rfl, ((((Fr.nil n0).app N1).app N2).app N3), rfl⟩
  · skip
    refine g_if_eq X3 B d15_14 21 17 rfl (by decide) rfl (fun _ => ?_) (fun z => own_abs (by decide) z)
    refine g_aloadN X3 B d15_21 22 rfl rfl rfl ?_
    refine g_getF X3 B d15_22 25 rfl (hw _ (List.mem_of_getElem? (i := 54) rfl)) Via.refl e3 FV (fun T4 X4 e4 => ?_)
    refine g_iloadN X4 B d15_25 26 rfl rfl ?_
    refine g_iloadN X4 B d15_26 27 rfl rfl ?_
    refine g_callS X4 B [.ref b, .int (0 : Int32), .int (Int32.ofNat K)] [] d15_27 30 rfl rfl (hw _ (List.mem_of_getElem? (i := 96) rfl)) (hw _ (List.mem_of_getElem? (i := 97) rfl)) (hw _ (List.mem_of_getElem? (i := 24) rfl)) (hw _ (List.mem_of_getElem? (i := 98) rfl)) (by decide) (lenOf pd_21 rfl) (rC_c3 l Z ag hw b vs cs K h0 n0 Ab hn hK hU hcs SA SH SLo) e4 rfl 0 (Nat.le_of_eq rfl) (by decide) (by decide) (by decide) (by decide) (fun v5 T5 h5 L5 X5 e5 q5 => ?_)
    obtain ⟨rfl, N5, rfl⟩ := q5
    show Go p e below _ (T5.setTop (mkF m 30 #[.val (.ref a), .val (.int (0 : Int32)), .val (.int (Int32.ofNat K))] [.int (Int32.ofNat (K - own_ps cs (K - 1)))]))
    exact g_retI X5 B d15_30 rfl (by decide) (by decide) e5 ⟨rfl, (((((Fr.nil n0).app N1).app N2).app N3).app N5), rfl⟩
theorem d1_0 : decode method_2_code 0 = .ok (.iload_n 0, 1) := by decide +kernel
theorem d1_1 : decode method_2_code 1 = .ok (.iconst 3, 1) := by decide +kernel
theorem d1_2 : decode method_2_code 2 = .ok (.iand, 1) := by decide +kernel
theorem d1_3 : decode method_2_code 3 = .ok (.istore_n 1, 1) := by decide +kernel
theorem d1_4 : decode method_2_code 4 = .ok (.iload_n 0, 1) := by decide +kernel
theorem d1_5 : decode method_2_code 5 = .ok (.iconst 2, 1) := by decide +kernel
theorem d1_6 : decode method_2_code 6 = .ok (.iushr, 1) := by decide +kernel
theorem d1_7 : decode method_2_code 7 = .ok (.istore_n 2, 1) := by decide +kernel
theorem d1_8 : decode method_2_code 8 = .ok (.iload_n 1, 1) := by decide +kernel
theorem d1_9 : decode method_2_code 9 = .ok (.ifCond .ne 10, 3) := by decide +kernel
theorem d1_12 : decode method_2_code 12 = .ok (.iload_n 2, 1) := by decide +kernel
theorem d1_13 : decode method_2_code 13 = .ok (.sipush 255, 3) := by decide +kernel
theorem d1_16 : decode method_2_code 16 = .ok (.iand, 1) := by decide +kernel
theorem d1_17 : decode method_2_code 17 = .ok (.i2c, 1) := by decide +kernel
theorem d1_18 : decode method_2_code 18 = .ok (.ireturn, 1) := by decide +kernel
theorem d1_19 : decode method_2_code 19 = .ok (.iload_n 1, 1) := by decide +kernel
theorem d1_20 : decode method_2_code 20 = .ok (.iconst 1, 1) := by decide +kernel
theorem d1_21 : decode method_2_code 21 = .ok (.if_icmp .ne 13, 3) := by decide +kernel
theorem d1_24 : decode method_2_code 24 = .ok (.ldc 7, 2) := by decide +kernel
theorem d1_26 : decode method_2_code 26 = .ok (.iload_n 2, 1) := by decide +kernel
theorem d1_27 : decode method_2_code 27 = .ok (.sipush 1023, 3) := by decide +kernel
theorem d1_30 : decode method_2_code 30 = .ok (.iand, 1) := by decide +kernel
theorem d1_31 : decode method_2_code 31 = .ok (.ior, 1) := by decide +kernel
theorem d1_32 : decode method_2_code 32 = .ok (.i2c, 1) := by decide +kernel
theorem d1_33 : decode method_2_code 33 = .ok (.ireturn, 1) := by decide +kernel
theorem d1_34 : decode method_2_code 34 = .ok (.iload_n 1, 1) := by decide +kernel
theorem d1_35 : decode method_2_code 35 = .ok (.iconst 2, 1) := by decide +kernel
theorem d1_36 : decode method_2_code 36 = .ok (.if_icmp .ne 13, 3) := by decide +kernel
theorem d1_39 : decode method_2_code 39 = .ok (.ldc 8, 2) := by decide +kernel
theorem d1_41 : decode method_2_code 41 = .ok (.iload_n 2, 1) := by decide +kernel
theorem d1_42 : decode method_2_code 42 = .ok (.sipush 1023, 3) := by decide +kernel
theorem d1_45 : decode method_2_code 45 = .ok (.iand, 1) := by decide +kernel
theorem d1_46 : decode method_2_code 46 = .ok (.ior, 1) := by decide +kernel
theorem d1_47 : decode method_2_code 47 = .ok (.i2c, 1) := by decide +kernel
theorem d1_48 : decode method_2_code 48 = .ok (.ireturn, 1) := by decide +kernel
theorem d1_49 : decode method_2_code 49 = .ok (.iload_n 2, 1) := by decide +kernel
theorem d1_50 : decode method_2_code 50 = .ok (.ldc 9, 2) := by decide +kernel
theorem d1_52 : decode method_2_code 52 = .ok (.iand, 1) := by decide +kernel
theorem d1_53 : decode method_2_code 53 = .ok (.i2c, 1) := by decide +kernel
theorem d1_54 : decode method_2_code 54 = .ok (.ireturn, 1) := by decide +kernel
theorem pn_1 : plainFor (⟨"com/example/contractlint/contractlint/model/PositionInLinePinLaw", "mk", "(I)C"⟩ : MethodName) = true := by first | (apply plainFor_of_name; simp [plainName, overriddenIn]; done) | (apply plainFor_of_name; decide +kernel) | decide +kernel
theorem pd_1 : parseMethodDescriptor "(I)C" = some ⟨[.int], (some .char)⟩ := by decide +kernel
theorem d13_0 : decode method_3_code 0 = .ok (.iload_n 1, 1) := by decide +kernel
theorem d13_1 : decode method_3_code 1 = .ok (.ldc 8, 2) := by decide +kernel
theorem d13_3 : decode method_3_code 3 = .ok (.if_icmp .lt 13, 3) := by decide +kernel
theorem d13_6 : decode method_3_code 6 = .ok (.iload_n 1, 1) := by decide +kernel
theorem d13_7 : decode method_3_code 7 = .ok (.ldc 10, 2) := by decide +kernel
theorem d13_9 : decode method_3_code 9 = .ok (.if_icmp .gt 7, 3) := by decide +kernel
theorem d13_12 : decode method_3_code 12 = .ok (.iconst 1, 1) := by decide +kernel
theorem d13_13 : decode method_3_code 13 = .ok (.goto 4, 3) := by decide +kernel
theorem d13_16 : decode method_3_code 16 = .ok (.iconst 0, 1) := by decide +kernel
theorem d13_17 : decode method_3_code 17 = .ok (.istore_n 2, 1) := by decide +kernel
theorem d13_18 : decode method_3_code 18 = .ok (.iload_n 0, 1) := by decide +kernel
theorem d13_19 : decode method_3_code 19 = .ok (.ldc 7, 2) := by decide +kernel
theorem d13_21 : decode method_3_code 21 = .ok (.if_icmp .lt 13, 3) := by decide +kernel
theorem d13_24 : decode method_3_code 24 = .ok (.iload_n 0, 1) := by decide +kernel
theorem d13_25 : decode method_3_code 25 = .ok (.ldc 11, 2) := by decide +kernel
theorem d13_27 : decode method_3_code 27 = .ok (.if_icmp .gt 7, 3) := by decide +kernel
theorem d13_30 : decode method_3_code 30 = .ok (.iconst 1, 1) := by decide +kernel
theorem d13_31 : decode method_3_code 31 = .ok (.goto 4, 3) := by decide +kernel
theorem d13_34 : decode method_3_code 34 = .ok (.iconst 0, 1) := by decide +kernel
theorem d13_35 : decode method_3_code 35 = .ok (.istore_n 3, 1) := by decide +kernel
theorem d13_36 : decode method_3_code 36 = .ok (.iload_n 2, 1) := by decide +kernel
theorem d13_37 : decode method_3_code 37 = .ok (.ifCond .eq 9, 3) := by decide +kernel
theorem d13_40 : decode method_3_code 40 = .ok (.iload_n 3, 1) := by decide +kernel
theorem d13_41 : decode method_3_code 41 = .ok (.ifCond .eq 5, 3) := by decide +kernel
theorem d13_44 : decode method_3_code 44 = .ok (.iconst 0, 1) := by decide +kernel
theorem d13_45 : decode method_3_code 45 = .ok (.ireturn, 1) := by decide +kernel
theorem d13_46 : decode method_3_code 46 = .ok (.iconst 1, 1) := by decide +kernel
theorem d13_47 : decode method_3_code 47 = .ok (.ireturn, 1) := by decide +kernel
theorem pn_13 : plainFor (⟨"com/example/contractlint/contractlint/model/PositionInLinePinLaw", "w", "(CC)I"⟩ : MethodName) = true := by first | (apply plainFor_of_name; simp [plainName, overriddenIn]; done) | (apply plainFor_of_name; decide +kernel) | decide +kernel
theorem pd_13 : parseMethodDescriptor "(CC)I" = some ⟨[.char, .char], (some .int)⟩ := by decide +kernel
theorem d24_0 : decode prog_47_method_1_code 0 = .ok (.aload_n 0, 1) := by decide +kernel
theorem d24_1 : decode prog_47_method_1_code 1 = .ok (.invokespecial 1, 3) := by decide +kernel
theorem d24_4 : decode prog_47_method_1_code 4 = .ok (.aload_n 0, 1) := by decide +kernel
theorem d24_5 : decode prog_47_method_1_code 5 = .ok (.iload_n 1, 1) := by decide +kernel
theorem d24_6 : decode prog_47_method_1_code 6 = .ok (.putfield 7, 3) := by decide +kernel
theorem d24_9 : decode prog_47_method_1_code 9 = .ok (.aload_n 0, 1) := by decide +kernel
theorem d24_10 : decode prog_47_method_1_code 10 = .ok (.iload_n 2, 1) := by decide +kernel
theorem d24_11 : decode prog_47_method_1_code 11 = .ok (.putfield 13, 3) := by decide +kernel
theorem d24_14 : decode prog_47_method_1_code 14 = .ok (.return_, 1) := by decide +kernel
theorem pn_24 : plainFor (⟨"com/example/contractlint/contractlint/model/Position", "<init>", "(II)V"⟩ : MethodName) = true := by first | (apply plainFor_of_name; simp [plainName, overriddenIn]; done) | (apply plainFor_of_name; decide +kernel) | decide +kernel
theorem pd_24 : parseMethodDescriptor "(II)V" = some ⟨[.int, .int], none⟩ := by decide +kernel
theorem d25_0 : decode jdk_30_method_1_code 0 = .ok (.aload_n 0, 1) := by decide +kernel
theorem d25_1 : decode jdk_30_method_1_code 1 = .ok (.invokespecial 1, 3) := by decide +kernel
theorem d25_4 : decode jdk_30_method_1_code 4 = .ok (.return_, 1) := by decide +kernel
theorem pn_25 : plainFor (⟨"java/lang/Record", "<init>", "()V"⟩ : MethodName) = true := by first | (apply plainFor_of_name; simp [plainName, overriddenIn]; done) | (apply plainFor_of_name; decide +kernel) | decide +kernel
theorem pd_25 : parseMethodDescriptor "()V" = some ⟨[], none⟩ := by decide +kernel
theorem d14_0 : decode prog_47_method_3_code 0 = .ok (.new 8, 3) := by decide +kernel
theorem d14_3 : decode prog_47_method_3_code 3 = .ok (.dup, 1) := by decide +kernel
theorem d14_4 : decode prog_47_method_3_code 4 = .ok (.iload_n 0, 1) := by decide +kernel
theorem d14_5 : decode prog_47_method_3_code 5 = .ok (.iconst 1, 1) := by decide +kernel
theorem d14_6 : decode prog_47_method_3_code 6 = .ok (.iadd, 1) := by decide +kernel
theorem d14_7 : decode prog_47_method_3_code 7 = .ok (.aload_n 1, 1) := by decide +kernel
theorem d14_8 : decode prog_47_method_3_code 8 = .ok (.iconst 0, 1) := by decide +kernel
theorem d14_9 : decode prog_47_method_3_code 9 = .ok (.iload_n 2, 1) := by decide +kernel
theorem d14_10 : decode prog_47_method_3_code 10 = .ok (.invokevirtual 20, 3) := by decide +kernel
theorem d14_13 : decode prog_47_method_3_code 13 = .ok (.iconst 1, 1) := by decide +kernel
theorem d14_14 : decode prog_47_method_3_code 14 = .ok (.iadd, 1) := by decide +kernel
theorem d14_15 : decode prog_47_method_3_code 15 = .ok (.invokespecial 26, 3) := by decide +kernel
theorem d14_18 : decode prog_47_method_3_code 18 = .ok (.areturn, 1) := by decide +kernel
theorem pn_14 : plainFor (⟨"com/example/contractlint/contractlint/model/Position", "inLine", "(ILjava/lang/String;I)Lcom/example/contractlint/contractlint/model/Position;"⟩ : MethodName) = true := by first | (apply plainFor_of_name; simp [plainName, overriddenIn]; done) | (apply plainFor_of_name; decide +kernel) | decide +kernel
theorem pd_14 : parseMethodDescriptor "(ILjava/lang/String;I)Lcom/example/contractlint/contractlint/model/Position;" = some ⟨[.int, (.object "java/lang/String"), .int], (some (.object "com/example/contractlint/contractlint/model/Position"))⟩ := by decide +kernel
theorem d26_0 : decode prog_47_method_7_code 0 = .ok (.aload_n 0, 1) := by decide +kernel
theorem d26_1 : decode prog_47_method_7_code 1 = .ok (.getfield 7, 3) := by decide +kernel
theorem d26_4 : decode prog_47_method_7_code 4 = .ok (.ireturn, 1) := by decide +kernel
theorem pn_26 : plainFor (⟨"com/example/contractlint/contractlint/model/Position", "line", "()I"⟩ : MethodName) = true := by first | (apply plainFor_of_name; simp [plainName, overriddenIn]; done) | (apply plainFor_of_name; decide +kernel) | decide +kernel
theorem pd_26 : parseMethodDescriptor "()I" = some ⟨[], (some .int)⟩ := by decide +kernel
theorem d27_0 : decode prog_47_method_8_code 0 = .ok (.aload_n 0, 1) := by decide +kernel
theorem d27_1 : decode prog_47_method_8_code 1 = .ok (.getfield 13, 3) := by decide +kernel
theorem d27_4 : decode prog_47_method_8_code 4 = .ok (.ireturn, 1) := by decide +kernel
theorem pn_27 : plainFor (⟨"com/example/contractlint/contractlint/model/Position", "column", "()I"⟩ : MethodName) = true := by first | (apply plainFor_of_name; simp [plainName, overriddenIn]; done) | (apply plainFor_of_name; decide +kernel) | decide +kernel
theorem pd_27 : parseMethodDescriptor "()I" = some ⟨[], (some .int)⟩ := by decide +kernel
theorem pn_0 : plainFor (⟨"com/example/contractlint/contractlint/model/PositionInLinePinLaw", "law", "(IIIIII)Z"⟩ : MethodName) = true := by first | (apply plainFor_of_name; simp [plainName, overriddenIn]; done) | (apply plainFor_of_name; decide +kernel) | decide +kernel

set_option maxRecDepth 65536 in
set_option maxHeartbeats 40000000 in
theorem rm_mk (l : Launch) (Z : State) (ag : Array Value) (hw : ∀ d ∈ tables_1, d.before ag Z = true) (x : Int32) (h0 : Heap) (n0 : Nat)  :
    Ctr l Z (⟨"com/example/contractlint/contractlint/model/PositionInLinePinLaw", "mk", "(I)C"⟩ : MethodName) method_2_code 3 (some .char) ({ frames := 0, cells := 0, slots := 0, locals := 0 } : Room) #[.int x] h0 (fun v h L => ∃ c, v = some (.int c) ∧ own_ch c ∧ Fr n0 L ∧ h0 = h) := by
  refine Ctr.of pn_1 ?_
  intro p e s m below meth c T0 X0 B e0
  refine Go.cast (f' := mkF m 0 #[.val (.int x), .unset, .unset] []) (by first | rfl | (simp [entryFrame, mkF, argsToLocals, Value.category, maxLocals]; done)) ?_

  refine g_iloadN X0 B d1_0 1 rfl rfl ?_
  refine g_iconst X0 B (3) d1_1 2 rfl rfl ?_
  refine g_iand X0 B d1_2 3 rfl ?_
  refine g_istoreN X0 B #[.val (.int x), .val (.int (x &&& (3 : Int32))), .unset] d1_3 4 rfl rfl ?_
  refine g_iloadN X0 B d1_4 5 rfl rfl ?_
  refine g_iconst X0 B (2) d1_5 6 rfl rfl ?_
  refine g_iushr X0 B d1_6 7 rfl ?_
  refine g_istoreN X0 B #[.val (.int x), .val (.int (x &&& (3 : Int32))), .val (.int (XT.ushr x (2 : Int32)))] d1_7 8 rfl rfl ?_
  refine g_iloadN X0 B d1_8 9 rfl rfl ?_
  refine g_if_ne X0 B d1_9 19 12 rfl (by decide) rfl (fun c1 => ?_) (fun c1 => ?_)
  · skip
    refine g_iloadN X0 B d1_19 20 rfl rfl ?_
    refine g_iconst X0 B (1) d1_20 21 rfl rfl ?_
    refine g_icmp_ne X0 B d1_21 34 24 rfl (by decide) rfl (fun c2 => ?_) (fun c2 => ?_)
    · skip
      refine g_iloadN X0 B d1_34 35 rfl rfl ?_
      refine g_iconst X0 B (2) d1_35 36 rfl rfl ?_
      refine g_icmp_ne X0 B d1_36 49 39 rfl (by decide) rfl (fun c3 => ?_) (fun c3 => ?_)
      · skip
        refine g_iloadN X0 B d1_49 50 rfl rfl ?_
        refine g_ldcI X0 B d1_50 52 rfl (hw _ (List.mem_of_getElem? (i := 4) rfl)) ?_
        refine g_iand X0 B d1_52 53 rfl ?_
        refine g_i2c X0 B d1_53 54 rfl ?_
        exact g_retN X0 B d1_54 rfl (XT.narrow_c _) (by decide) (by decide) (by decide) e0 ⟨_, rfl, own_chc _, (Fr.nil n0), rfl⟩
      · skip
        refine g_ldcI X0 B d1_39 41 rfl (hw _ (List.mem_of_getElem? (i := 5) rfl)) ?_
        refine g_iloadN X0 B d1_41 42 rfl rfl ?_
        refine g_sipush X0 B (1023) d1_42 45 rfl rfl ?_
        refine g_iand X0 B d1_45 46 rfl ?_
        refine g_ior X0 B d1_46 47 rfl ?_
        refine g_i2c X0 B d1_47 48 rfl ?_
        exact g_retN X0 B d1_48 rfl (XT.narrow_c _) (by decide) (by decide) (by decide) e0 ⟨_, rfl, own_chc _, (Fr.nil n0), rfl⟩
    · skip
      refine g_ldcI X0 B d1_24 26 rfl (hw _ (List.mem_of_getElem? (i := 6) rfl)) ?_
      refine g_iloadN X0 B d1_26 27 rfl rfl ?_
      refine g_sipush X0 B (1023) d1_27 30 rfl rfl ?_
      refine g_iand X0 B d1_30 31 rfl ?_
      refine g_ior X0 B d1_31 32 rfl ?_
      refine g_i2c X0 B d1_32 33 rfl ?_
      exact g_retN X0 B d1_33 rfl (XT.narrow_c _) (by decide) (by decide) (by decide) e0 ⟨_, rfl, own_chc _, (Fr.nil n0), rfl⟩
  · skip
    refine g_iloadN X0 B d1_12 13 rfl rfl ?_
    refine g_sipush X0 B (255) d1_13 16 rfl rfl ?_
    refine g_iand X0 B d1_16 17 rfl ?_
    refine g_i2c X0 B d1_17 18 rfl ?_
    exact g_retN X0 B d1_18 rfl (XT.narrow_c _) (by decide) (by decide) (by decide) e0 ⟨_, rfl, own_chc _, (Fr.nil n0), rfl⟩
def own_w (p c : Int32) : Int32 := if own_hs p ∧ own_ls c then 0 else 1
theorem own_gt1 (c : Int32) : (56319 < c) ↔ ¬ (c < 56320) := by
  rw [Int32.lt_iff_toInt_lt, Int32.lt_iff_toInt_lt]
  have k1 : (56319 : Int32).toInt = 56319 := by decide
  have k2 : (56320 : Int32).toInt = 56320 := by decide
  omega
theorem own_gt2 (c : Int32) : (57343 < c) ↔ ¬ (c < 57344) := by
  rw [Int32.lt_iff_toInt_lt, Int32.lt_iff_toInt_lt]
  have k1 : (57343 : Int32).toInt = 57343 := by decide
  have k2 : (57344 : Int32).toInt = 57344 := by decide
  omega
set_option maxRecDepth 65536 in
set_option maxHeartbeats 40000000 in
theorem rm_w (l : Launch) (Z : State) (ag : Array Value) (hw : ∀ d ∈ tables_1, d.before ag Z = true) (x y : Int32) (h0 : Heap) (n0 : Nat)  :
    Ctr l Z (⟨"com/example/contractlint/contractlint/model/PositionInLinePinLaw", "w", "(CC)I"⟩ : MethodName) method_3_code 4 (some .int) ({ frames := 0, cells := 0, slots := 0, locals := 0 } : Room) #[.int x, .int y] h0 (fun v h L => v = some (.int (own_w x y)) ∧ Fr n0 L ∧ h0 = h) := by
  refine Ctr.of pn_13 ?_
  intro p e s m below meth c T0 X0 B e0
  refine Go.cast (f' := mkF m 0 #[.val (.int x), .val (.int y), .unset, .unset] []) (by first | rfl | (simp [entryFrame, mkF, argsToLocals, Value.category, maxLocals]; done)) ?_

  refine g_iloadN X0 B d13_0 1 rfl rfl ?_
  refine g_ldcI X0 B d13_1 3 rfl (hw _ (List.mem_of_getElem? (i := 5) rfl)) ?_
  refine g_icmp_lt X0 B d13_3 16 6 rfl (by decide) rfl (fun c1 => ?_) (fun c1 => ?_)
  · skip
    refine g_iconst X0 B (0) d13_16 17 rfl rfl ?_
    refine g_istoreN X0 B #[.val (.int x), .val (.int y), .val (.int (0 : Int32)), .unset] d13_17 18 rfl rfl ?_
    refine g_iloadN X0 B d13_18 19 rfl rfl ?_
    refine g_ldcI X0 B d13_19 21 rfl (hw _ (List.mem_of_getElem? (i := 6) rfl)) ?_
    refine g_icmp_lt X0 B d13_21 34 24 rfl (by decide) rfl (fun c2 => ?_) (fun c2 => ?_)
    · skip
      refine g_iconst X0 B (0) d13_34 35 rfl rfl ?_
      refine g_istoreN X0 B #[.val (.int x), .val (.int y), .val (.int (0 : Int32)), .val (.int (0 : Int32))] d13_35 36 rfl rfl ?_
      refine g_iloadN X0 B d13_36 37 rfl rfl ?_
      refine g_if_eq X0 B d13_37 46 40 rfl (by decide) rfl (fun _ => ?_) (fun z => own_abs (by decide) z)
      refine g_iconst X0 B (1) d13_46 47 rfl rfl ?_
      exact g_retI X0 B d13_47 rfl (by decide) (by decide) e0 ⟨by (try simp only [own_gt1, own_gt2] at c1 c2); simp [own_w, own_hs, own_ls, c1, c2], (Fr.nil n0), rfl⟩
    · skip
      refine g_iloadN X0 B d13_24 25 rfl rfl ?_
      refine g_ldcI X0 B d13_25 27 rfl (hw _ (List.mem_of_getElem? (i := 61) rfl)) ?_
      refine g_icmp_gt X0 B d13_27 34 30 rfl (by decide) rfl (fun c3 => ?_) (fun c3 => ?_)
      · skip
        refine g_iconst X0 B (0) d13_34 35 rfl rfl ?_
        refine g_istoreN X0 B #[.val (.int x), .val (.int y), .val (.int (0 : Int32)), .val (.int (0 : Int32))] d13_35 36 rfl rfl ?_
        refine g_iloadN X0 B d13_36 37 rfl rfl ?_
        refine g_if_eq X0 B d13_37 46 40 rfl (by decide) rfl (fun _ => ?_) (fun z => own_abs (by decide) z)
        refine g_iconst X0 B (1) d13_46 47 rfl rfl ?_
        exact g_retI X0 B d13_47 rfl (by decide) (by decide) e0 ⟨by (try simp only [own_gt1, own_gt2] at c1 c2 c3); simp [own_w, own_hs, own_ls, c1, c2, c3], (Fr.nil n0), rfl⟩
      · skip
        refine g_iconst X0 B (1) d13_30 31 rfl rfl ?_
        refine g_goto X0 B d13_31 35 rfl (by decide) ?_
        refine g_istoreN X0 B #[.val (.int x), .val (.int y), .val (.int (0 : Int32)), .val (.int (1 : Int32))] d13_35 36 rfl rfl ?_
        refine g_iloadN X0 B d13_36 37 rfl rfl ?_
        refine g_if_eq X0 B d13_37 46 40 rfl (by decide) rfl (fun _ => ?_) (fun z => own_abs (by decide) z)
        refine g_iconst X0 B (1) d13_46 47 rfl rfl ?_
        exact g_retI X0 B d13_47 rfl (by decide) (by decide) e0 ⟨by (try simp only [own_gt1, own_gt2] at c1 c2 c3); simp [own_w, own_hs, own_ls, c1, c2, c3], (Fr.nil n0), rfl⟩
  · skip
    refine g_iloadN X0 B d13_6 7 rfl rfl ?_
    refine g_ldcI X0 B d13_7 9 rfl (hw _ (List.mem_of_getElem? (i := 60) rfl)) ?_
    refine g_icmp_gt X0 B d13_9 16 12 rfl (by decide) rfl (fun c4 => ?_) (fun c4 => ?_)
    · skip
      refine g_iconst X0 B (0) d13_16 17 rfl rfl ?_
      refine g_istoreN X0 B #[.val (.int x), .val (.int y), .val (.int (0 : Int32)), .unset] d13_17 18 rfl rfl ?_
      refine g_iloadN X0 B d13_18 19 rfl rfl ?_
      refine g_ldcI X0 B d13_19 21 rfl (hw _ (List.mem_of_getElem? (i := 6) rfl)) ?_
      refine g_icmp_lt X0 B d13_21 34 24 rfl (by decide) rfl (fun c5 => ?_) (fun c5 => ?_)
      · skip
        refine g_iconst X0 B (0) d13_34 35 rfl rfl ?_
        refine g_istoreN X0 B #[.val (.int x), .val (.int y), .val (.int (0 : Int32)), .val (.int (0 : Int32))] d13_35 36 rfl rfl ?_
        refine g_iloadN X0 B d13_36 37 rfl rfl ?_
        refine g_if_eq X0 B d13_37 46 40 rfl (by decide) rfl (fun _ => ?_) (fun z => own_abs (by decide) z)
        refine g_iconst X0 B (1) d13_46 47 rfl rfl ?_
        exact g_retI X0 B d13_47 rfl (by decide) (by decide) e0 ⟨by (try simp only [own_gt1, own_gt2] at c1 c4 c5); simp [own_w, own_hs, own_ls, c1, c4, c5], (Fr.nil n0), rfl⟩
      · skip
        refine g_iloadN X0 B d13_24 25 rfl rfl ?_
        refine g_ldcI X0 B d13_25 27 rfl (hw _ (List.mem_of_getElem? (i := 61) rfl)) ?_
        refine g_icmp_gt X0 B d13_27 34 30 rfl (by decide) rfl (fun c6 => ?_) (fun c6 => ?_)
        · skip
          refine g_iconst X0 B (0) d13_34 35 rfl rfl ?_
          refine g_istoreN X0 B #[.val (.int x), .val (.int y), .val (.int (0 : Int32)), .val (.int (0 : Int32))] d13_35 36 rfl rfl ?_
          refine g_iloadN X0 B d13_36 37 rfl rfl ?_
          refine g_if_eq X0 B d13_37 46 40 rfl (by decide) rfl (fun _ => ?_) (fun z => own_abs (by decide) z)
          refine g_iconst X0 B (1) d13_46 47 rfl rfl ?_
          exact g_retI X0 B d13_47 rfl (by decide) (by decide) e0 ⟨by (try simp only [own_gt1, own_gt2] at c1 c4 c5 c6); simp [own_w, own_hs, own_ls, c1, c4, c5, c6], (Fr.nil n0), rfl⟩
        · skip
          refine g_iconst X0 B (1) d13_30 31 rfl rfl ?_
          refine g_goto X0 B d13_31 35 rfl (by decide) ?_
          refine g_istoreN X0 B #[.val (.int x), .val (.int y), .val (.int (0 : Int32)), .val (.int (1 : Int32))] d13_35 36 rfl rfl ?_
          refine g_iloadN X0 B d13_36 37 rfl rfl ?_
          refine g_if_eq X0 B d13_37 46 40 rfl (by decide) rfl (fun _ => ?_) (fun z => own_abs (by decide) z)
          refine g_iconst X0 B (1) d13_46 47 rfl rfl ?_
          exact g_retI X0 B d13_47 rfl (by decide) (by decide) e0 ⟨by (try simp only [own_gt1, own_gt2] at c1 c4 c5 c6); simp [own_w, own_hs, own_ls, c1, c4, c5, c6], (Fr.nil n0), rfl⟩
    · skip
      refine g_iconst X0 B (1) d13_12 13 rfl rfl ?_
      refine g_goto X0 B d13_13 17 rfl (by decide) ?_
      refine g_istoreN X0 B #[.val (.int x), .val (.int y), .val (.int (1 : Int32)), .unset] d13_17 18 rfl rfl ?_
      refine g_iloadN X0 B d13_18 19 rfl rfl ?_
      refine g_ldcI X0 B d13_19 21 rfl (hw _ (List.mem_of_getElem? (i := 6) rfl)) ?_
      refine g_icmp_lt X0 B d13_21 34 24 rfl (by decide) rfl (fun c7 => ?_) (fun c7 => ?_)
      · skip
        refine g_iconst X0 B (0) d13_34 35 rfl rfl ?_
        refine g_istoreN X0 B #[.val (.int x), .val (.int y), .val (.int (1 : Int32)), .val (.int (0 : Int32))] d13_35 36 rfl rfl ?_
        refine g_iloadN X0 B d13_36 37 rfl rfl ?_
        refine g_if_eq X0 B d13_37 46 40 rfl (by decide) rfl (fun z => own_abs' (by decide) z) (fun _ => ?_)
        refine g_iloadN X0 B d13_40 41 rfl rfl ?_
        refine g_if_eq X0 B d13_41 46 44 rfl (by decide) rfl (fun _ => ?_) (fun z => own_abs (by decide) z)
        refine g_iconst X0 B (1) d13_46 47 rfl rfl ?_
        exact g_retI X0 B d13_47 rfl (by decide) (by decide) e0 ⟨by (try simp only [own_gt1, own_gt2] at c1 c4 c7); simp [own_w, own_hs, own_ls, c1, c4, c7], (Fr.nil n0), rfl⟩
      · skip
        refine g_iloadN X0 B d13_24 25 rfl rfl ?_
        refine g_ldcI X0 B d13_25 27 rfl (hw _ (List.mem_of_getElem? (i := 61) rfl)) ?_
        refine g_icmp_gt X0 B d13_27 34 30 rfl (by decide) rfl (fun c8 => ?_) (fun c8 => ?_)
        · skip
          refine g_iconst X0 B (0) d13_34 35 rfl rfl ?_
          refine g_istoreN X0 B #[.val (.int x), .val (.int y), .val (.int (1 : Int32)), .val (.int (0 : Int32))] d13_35 36 rfl rfl ?_
          refine g_iloadN X0 B d13_36 37 rfl rfl ?_
          refine g_if_eq X0 B d13_37 46 40 rfl (by decide) rfl (fun z => own_abs' (by decide) z) (fun _ => ?_)
          refine g_iloadN X0 B d13_40 41 rfl rfl ?_
          refine g_if_eq X0 B d13_41 46 44 rfl (by decide) rfl (fun _ => ?_) (fun z => own_abs (by decide) z)
          refine g_iconst X0 B (1) d13_46 47 rfl rfl ?_
          exact g_retI X0 B d13_47 rfl (by decide) (by decide) e0 ⟨by (try simp only [own_gt1, own_gt2] at c1 c4 c7 c8); simp [own_w, own_hs, own_ls, c1, c4, c7, c8], (Fr.nil n0), rfl⟩
        · skip
          refine g_iconst X0 B (1) d13_30 31 rfl rfl ?_
          refine g_goto X0 B d13_31 35 rfl (by decide) ?_
          refine g_istoreN X0 B #[.val (.int x), .val (.int y), .val (.int (1 : Int32)), .val (.int (1 : Int32))] d13_35 36 rfl rfl ?_
          refine g_iloadN X0 B d13_36 37 rfl rfl ?_
          refine g_if_eq X0 B d13_37 46 40 rfl (by decide) rfl (fun z => own_abs' (by decide) z) (fun _ => ?_)
          refine g_iloadN X0 B d13_40 41 rfl rfl ?_
          refine g_if_eq X0 B d13_41 46 44 rfl (by decide) rfl (fun z => own_abs' (by decide) z) (fun _ => ?_)
          refine g_iconst X0 B (0) d13_44 45 rfl rfl ?_
          exact g_retI X0 B d13_45 rfl (by decide) (by decide) e0 ⟨by (try simp only [own_gt1, own_gt2] at c1 c4 c7 c8); simp [own_w, own_hs, own_ls, c1, c4, c7, c8], (Fr.nil n0), rfl⟩
set_option maxRecDepth 65536 in
set_option maxHeartbeats 40000000 in
theorem rm_rec (l : Launch) (Z : State) (ag : Array Value) (hw : ∀ d ∈ tables_1, d.before ag Z = true) (a : Addr) (h0 : Heap) (n0 : Nat)  :
    Ctr l Z (⟨"java/lang/Record", "<init>", "()V"⟩ : MethodName) jdk_30_method_1_code 1 none ({ frames := 1, cells := 0, slots := 0, locals := 12 } : Room) #[.ref a] h0 (fun v h L => v = none ∧ Fr n0 L ∧ h0 = h) := by
  refine Ctr.of pn_25 ?_
  intro p e s m below meth c T0 X0 B e0
  refine Go.cast (f' := mkF m 0 #[.val (.ref a)] []) (by first | rfl | (simp [entryFrame, mkF, argsToLocals, Value.category, maxLocals]; done)) ?_

  refine g_aloadN X0 B d25_0 1 rfl rfl rfl ?_
  obtain ⟨T1, X1, e1, st1⟩ := initO X0 B.x B.z B.o (hw _ (List.mem_of_getElem? (i := 116) rfl)) (hw _ (List.mem_of_getElem? (i := 19) rfl)) (hw _ (List.mem_of_getElem? (i := 20) rfl)) e0 (g := mkF m 1 #[.val (.ref a)] [.ref a]) rfl (B.mx rfl) rfl (B.d d25_1) (by decide) (W := 0) (by show 2 * 0 + _ ≤ _; exact Nat.le_of_eq rfl) (by decide)
  refine Go.via st1 ?_
  show Go p e below _ (T1.setTop (mkF m 4 #[.val (.ref a)] []))
  exact g_retV X1 B d25_4 rfl (by decide) (by decide) e1 ⟨rfl, (Fr.nil n0), rfl⟩
set_option maxRecDepth 65536 in
set_option maxHeartbeats 40000000 in
theorem rm_pin (l : Launch) (Z : State) (ag : Array Value) (hw : ∀ d ∈ tables_1, d.before ag Z = true) (a : Addr) (x y : Int32) (h0 : Heap) (n0 : Nat) (Z0 : n0 ≤ h0.size) (ga : n0 ≤ a) (Ea : Exa Z h0 a "com/example/contractlint/contractlint/model/Position") (G1 : Fld Z h0 a "com/example/contractlint/contractlint/model/Position" "line" "I" (.int 0)) (G2 : Fld Z h0 a "com/example/contractlint/contractlint/model/Position" "column" "I" (.int 0)) :
    Ctr l Z (⟨"com/example/contractlint/contractlint/model/Position", "<init>", "(II)V"⟩ : MethodName) prog_47_method_1_code 3 none ({ frames := 2, cells := 0, slots := 0, locals := 24 } : Room) #[.ref a, .int x, .int y] h0 (fun v h L => v = none ∧ Fr n0 L ∧ Keep h0 h [a] ∧ Fld Z h a "com/example/contractlint/contractlint/model/Position" "line" "I" (.int x) ∧ Fld Z h a "com/example/contractlint/contractlint/model/Position" "column" "I" (.int y)) := by
  refine Ctr.of pn_24 ?_
  intro p e s m below meth c T0 X0 B e0
  refine Go.cast (f' := mkF m 0 #[.val (.ref a), .val (.int x), .val (.int y)] []) (by first | rfl | (simp [entryFrame, mkF, argsToLocals, Value.category, maxLocals]; done)) ?_

  refine g_aloadN X0 B d24_0 1 rfl rfl rfl ?_
  refine g_callN X0 B [] [] d24_1 4 rfl rfl rfl (hw _ (List.mem_of_getElem? (i := 111) rfl)) (hw _ (List.mem_of_getElem? (i := 112) rfl)) (hw _ (List.mem_of_getElem? (i := 115) rfl)) (hw _ (List.mem_of_getElem? (i := 114) rfl)) (by decide) (lenOf pd_25 rfl) (rm_rec l Z ag hw a h0 n0) e0 rfl 0 (Nat.le_of_eq rfl) (by decide) (by decide) (by decide) (by decide) (fun v1 T1 h1 L1 X1 e1 q1 => ?_)
  obtain ⟨rfl, N1, rfl⟩ := q1
  show Go p e below _ (T1.setTop (mkF m 4 #[.val (.ref a), .val (.int x), .val (.int y)] []))
  refine g_aloadN X1 B d24_4 5 rfl rfl rfl ?_
  refine g_iloadN X1 B d24_5 6 rfl rfl ?_
  refine g_putF X1 B d24_6 9 rfl (hw _ (List.mem_of_getElem? (i := 117) rfl)) Via.refl e1 G1 Ea (Or.inr ⟨(hw _ (List.mem_of_getElem? (i := 118) rfl)), rfl, rfl⟩) (hw _ (List.mem_of_getElem? (i := 67) rfl)) (ty := .int) (by decide) rfl rfl (fun T2 h2 X2 e2 W2 => ?_)
  have F2 := G1.same W2
  refine g_aloadN X2 B d24_9 10 rfl rfl rfl ?_
  refine g_iloadN X2 B d24_10 11 rfl rfl ?_
  have t1 := (Fld.other W2 G2 (Or.inr (slot_ne (Or.inr (hw _ (List.mem_of_getElem? (i := 120) rfl))) (Or.inr (hw _ (List.mem_of_getElem? (i := 118) rfl))) (by decide) (t := .int) (by decide) (t' := .int) (by decide))))
  have t2 := (Exa.wr W2 Ea)
  refine g_putF X2 B d24_11 14 rfl (hw _ (List.mem_of_getElem? (i := 119) rfl)) Via.refl e2 t1 t2 (Or.inr ⟨(hw _ (List.mem_of_getElem? (i := 120) rfl)), rfl, rfl⟩) (hw _ (List.mem_of_getElem? (i := 67) rfl)) (ty := .int) (by decide) rfl rfl (fun T3 h3 X3 e3 W3 => ?_)
  have F3 := t1.same W3
  have t3 := (Keep.wr (Keep.wr (Keep.refl h0 [a]) W2 (Or.inl (List.mem_of_getElem? (i := 0) rfl))) W3 (Or.inl (List.mem_of_getElem? (i := 0) rfl)))
  have t4 := (Fld.other W3 F2 (Or.inr (slot_ne (Or.inr (hw _ (List.mem_of_getElem? (i := 118) rfl))) (Or.inr (hw _ (List.mem_of_getElem? (i := 120) rfl))) (by decide) (t := .int) (by decide) (t' := .int) (by decide))))
  exact g_retV X3 B d24_14 rfl (by decide) (by decide) e3 ⟨rfl, (Fr.snoc X3 (Fr.snoc X2 ((Fr.nil n0).app N1) ga) ga), t3, t4, F3⟩
set_option maxRecDepth 65536 in
set_option maxHeartbeats 40000000 in
theorem rm_line (l : Launch) (Z : State) (ag : Array Value) (hw : ∀ d ∈ tables_1, d.before ag Z = true) (a : Addr) (x : Int32) (h0 : Heap) (n0 : Nat) (G1 : Fld Z h0 a "com/example/contractlint/contractlint/model/Position" "line" "I" (.int x)) :
    Ctr l Z (⟨"com/example/contractlint/contractlint/model/Position", "line", "()I"⟩ : MethodName) prog_47_method_7_code 1 (some .int) ({ frames := 0, cells := 0, slots := 0, locals := 0 } : Room) #[.ref a] h0 (fun v h L => v = some (.int x) ∧ Fr n0 L ∧ h0 = h) := by
  refine Ctr.of pn_26 ?_
  intro p e s m below meth c T0 X0 B e0
  refine Go.cast (f' := mkF m 0 #[.val (.ref a)] []) (by first | rfl | (simp [entryFrame, mkF, argsToLocals, Value.category, maxLocals]; done)) ?_

  refine g_aloadN X0 B d26_0 1 rfl rfl rfl ?_
  refine g_getF X0 B d26_1 4 rfl (hw _ (List.mem_of_getElem? (i := 117) rfl)) Via.refl e0 G1 (fun T1 X1 e1 => ?_)
  exact g_retI X1 B d26_4 rfl (by decide) (by decide) e1 ⟨rfl, (Fr.nil n0), rfl⟩
set_option maxRecDepth 65536 in
set_option maxHeartbeats 40000000 in
theorem rm_column (l : Launch) (Z : State) (ag : Array Value) (hw : ∀ d ∈ tables_1, d.before ag Z = true) (a : Addr) (x : Int32) (h0 : Heap) (n0 : Nat) (G1 : Fld Z h0 a "com/example/contractlint/contractlint/model/Position" "column" "I" (.int x)) :
    Ctr l Z (⟨"com/example/contractlint/contractlint/model/Position", "column", "()I"⟩ : MethodName) prog_47_method_8_code 1 (some .int) ({ frames := 0, cells := 0, slots := 0, locals := 0 } : Room) #[.ref a] h0 (fun v h L => v = some (.int x) ∧ Fr n0 L ∧ h0 = h) := by
  refine Ctr.of pn_27 ?_
  intro p e s m below meth c T0 X0 B e0
  refine Go.cast (f' := mkF m 0 #[.val (.ref a)] []) (by first | rfl | (simp [entryFrame, mkF, argsToLocals, Value.category, maxLocals]; done)) ?_

  refine g_aloadN X0 B d27_0 1 rfl rfl rfl ?_
  refine g_getF X0 B d27_1 4 rfl (hw _ (List.mem_of_getElem? (i := 119) rfl)) Via.refl e0 G1 (fun T1 X1 e1 => ?_)
  exact g_retI X1 B d27_4 rfl (by decide) (by decide) e1 ⟨rfl, (Fr.nil n0), rfl⟩
set_option maxRecDepth 65536 in
set_option maxHeartbeats 40000000 in
theorem rm_inl (l : Launch) (Z : State) (ag : Array Value) (hw : ∀ d ∈ tables_1, d.before ag Z = true) (a b : Addr) (k cx x : Int32) (vs : List Value) (cs : List Int32) (K : Nat) (h0 : Heap) (n0 : Nat) (Z0 : n0 ≤ h0.size) (Ea : Exa Z h0 a "java/lang/String") (FV : Fld Z h0 a "java/lang/String" "value" "[B" (.ref b)) (FC : Fld Z h0 a "java/lang/String" "coder" "B" (.int k)) (Ab : Av Z h0 b .byte vs) (hn : cs.length ≤ 4) (hK : K ≤ cs.length) (hcs : ∀ c ∈ cs, own_ch c) (hSV : own_SV k vs cs) (SA : Sta Z h0 "java/lang/StringUTF16" "$assertionsDisabled" "Z" (.int 1)) (SH : Sta Z h0 "java/lang/StringUTF16" "HI_BYTE_SHIFT" "I" (.int 0)) (SLo : Sta Z h0 "java/lang/StringUTF16" "LO_BYTE_SHIFT" "I" (.int 8)) (SC : Sta Z h0 "java/lang/String" "COMPACT_STRINGS" "Z" (.int cx)) (hcx : ¬ cx = 0) :
    Ctr l Z (⟨"com/example/contractlint/contractlint/model/Position", "inLine", "(ILjava/lang/String;I)Lcom/example/contractlint/contractlint/model/Position;"⟩ : MethodName) prog_47_method_3_code 3 (some (.object "com/example/contractlint/contractlint/model/Position")) ({ frames := 4, cells := 1, slots := 2, locals := 61 } : Room) #[.int x, .ref a, .int (Int32.ofNat K)] h0 (fun v h L => ∃ p, v = some (.ref p) ∧ Fr n0 L ∧ Keep h0 h [] ∧ Exa Z h p "com/example/contractlint/contractlint/model/Position" ∧ Fld Z h p "com/example/contractlint/contractlint/model/Position" "line" "I" (.int (x + 1)) ∧ Fld Z h p "com/example/contractlint/contractlint/model/Position" "column" "I" (.int (Int32.ofNat (K - own_ps cs (K - 1)) + 1))) := by
  refine Ctr.of pn_14 ?_
  intro p e s m below meth c T0 X0 B e0
  refine Go.cast (f' := mkF m 0 #[.val (.int x), .val (.ref a), .val (.int (Int32.ofNat K))] []) (by first | rfl | (simp [entryFrame, mkF, argsToLocals, Value.category, maxLocals]; done)) ?_

  refine g_new X0 B d14_0 3 rfl (hw _ (List.mem_of_getElem? (i := 66) rfl)) (hw _ (List.mem_of_getElem? (i := 67) rfl)) (hw _ (List.mem_of_getElem? (i := 64) rfl)) e0 (by decide) (by decide) (fun T1 h1 po X1 e1 ea1 E1 A1 D1 => ?_)
  have g_po : n0 ≤ po := ea1 ▸ Z0
  have gg_po : h0.size ≤ po := ea1 ▸ (Keep.refl h0 []).1
  have t1 : a ≠ po := ea1 ▸ Nat.ne_of_lt (Ea.lt)
  have t2 : b ≠ po := ea1 ▸ Nat.ne_of_lt (Ab.lt)
  have D1_0 : Fld Z h1 po "com/example/contractlint/contractlint/model/Position" "line" "I" (.int 0) := D1 (Or.inr (hw _ (List.mem_of_getElem? (i := 118) rfl))) (ty := .int) (by decide)
  have D1_1 : Fld Z h1 po "com/example/contractlint/contractlint/model/Position" "column" "I" (.int 0) := D1 (Or.inr (hw _ (List.mem_of_getElem? (i := 120) rfl))) (ty := .int) (by decide)
  refine g_dup X1 B d14_3 4 rfl rfl ?_
  refine g_iloadN X1 B d14_4 5 rfl rfl ?_
  refine g_iconst X1 B (1) d14_5 6 rfl rfl ?_
  refine g_iadd X1 B d14_6 7 rfl ?_
  refine g_aloadN X1 B d14_7 8 rfl rfl rfl ?_
  refine g_iconst X1 B (0) d14_8 9 rfl rfl ?_
  refine g_iloadN X1 B d14_9 10 rfl rfl ?_
  have t3 := (Exa.ext E1 Ea)
  have t4 := (Fld.ext E1 FV)
  have t5 := (Fld.ext E1 FC)
  have t6 := (Av.ext Ab E1)
  have t7 := (Sta.ext E1 SA)
  have t8 := (Sta.ext E1 SH)
  have t9 := (Sta.ext E1 SLo)
  have t10 := (Sta.ext E1 SC)
  refine g_callV X1 B [.int (0 : Int32), .int (Int32.ofNat K)] [.int (x + (1 : Int32)), .ref po, .ref po] d14_10 13 rfl rfl (hw _ (List.mem_of_getElem? (i := 68) rfl)) (hw _ (List.mem_of_getElem? (i := 69) rfl)) (hw _ (List.mem_of_getElem? (i := 71) rfl)) (hw _ (List.mem_of_getElem? (i := 70) rfl)) (hw _ (List.mem_of_getElem? (i := 10) rfl)) (hw _ (List.mem_of_getElem? (i := 72) rfl)) (by decide) (lenOf pd_15 rfl) t3 (rC_c2 l Z ag hw a b k cx vs cs K h1 n0 t3 t4 t5 t6 hn hK hcs hSV t7 t8 t9 t10 hcx) e1 rfl 3 (Nat.le_of_eq rfl) (by decide) (by decide) (by decide) (by decide) (fun v2 T2 h2 L2 X2 e2 q2 => ?_)
  obtain ⟨rfl, N2, rfl⟩ := q2
  show Go p e below _ (T2.setTop (mkF m 13 #[.val (.int x), .val (.ref a), .val (.int (Int32.ofNat K))] [.int (Int32.ofNat (K - own_ps cs (K - 1))), .int (x + (1 : Int32)), .ref po, .ref po]))
  refine g_iconst X2 B (1) d14_13 14 rfl rfl ?_
  refine g_iadd X2 B d14_14 15 rfl ?_
  have t11 := (Nat.le_trans Z0 E1.1)
  refine g_callN X2 B [.int (x + (1 : Int32)), .int ((Int32.ofNat (K - own_ps cs (K - 1))) + (1 : Int32))] [.ref po] d14_15 18 rfl rfl rfl (hw _ (List.mem_of_getElem? (i := 108) rfl)) (hw _ (List.mem_of_getElem? (i := 109) rfl)) (hw _ (List.mem_of_getElem? (i := 110) rfl)) (hw _ (List.mem_of_getElem? (i := 64) rfl)) (by decide) (lenOf pd_24 rfl) (rm_pin l Z ag hw po _ _ h1 n0 t11 g_po A1 D1_0 D1_1) e2 rfl 1 (Nat.le_of_eq rfl) (by decide) (by decide) (by decide) (by decide) (fun v3 T3 h3 L3 X3 e3 q3 => ?_)
  obtain ⟨rfl, N3, K3, f1, f2⟩ := q3
  show Go p e below _ (T3.setTop (mkF m 18 #[.val (.int x), .val (.ref a), .val (.int (Int32.ofNat K))] [.ref po]))
  have t12 := (Keep.trans (Keep.ext (Keep.refl h0 []) E1) K3 (allS (Or.inr gg_po) all0))
  have t13 := (Exa.keep A1 K3)
  exact g_retA X3 B d14_18 rfl rfl rfl (by decide) (by decide) e3 ⟨po, rfl, (((Fr.nil n0).app N2).app N3), t12, t13, f1, f2⟩
theorem own_m5 (x : Int32) : ∃ i : Nat, i < 5 ∧ ((x &&& (2147483647 : Int32)) % (5 : Int32)) = Int32.ofNat i := by
  have h1 := c_mask x 2147483647 31 (by decide) (by decide)
  have h2 := (c_irem (x &&& 2147483647) 5 5 (by decide)).1 (by omega)
  refine ⟨((x &&& (2147483647 : Int32)) % (5 : Int32)).toInt.toNat, by omega, ?_⟩
  apply Int32.toInt_inj.mp
  rw [Int32.toInt_ofNat_of_lt (by omega)]
  omega
theorem own_chs {a b c d : Int32} (h0 : own_ch a) (h1 : own_ch b) (h2 : own_ch c) (h3 : own_ch d) : ∀ x ∈ [a, b, c, d], own_ch x := by
  intro x hx
  simp only [List.mem_cons, List.not_mem_nil, or_false] at hx
  rcases hx with rfl | rfl | rfl | rfl <;> assumption
theorem own_fin0 (a b c d : Int32) : Int32.ofNat (0 - own_ps [a, b, c, d] (0 - 1)) + 1 = (1 : Int32) := by
  simp only [own_ps, own_pr, own_w, List.getD, List.getElem?_cons_zero, List.getElem?_cons_succ, Option.getD_some, Nat.reduceSub, Nat.reduceAdd]
  decide
theorem own_fin1 (a b c d : Int32) : Int32.ofNat (1 - own_ps [a, b, c, d] (1 - 1)) + 1 = (1 + 1 : Int32) := by
  simp only [own_ps, own_pr, own_w, List.getD, List.getElem?_cons_zero, List.getElem?_cons_succ, Option.getD_some, Nat.reduceSub, Nat.reduceAdd]
  decide
theorem own_fin2 (a b c d : Int32) : Int32.ofNat (2 - own_ps [a, b, c, d] (2 - 1)) + 1 = (1 + 1 + own_w a b) := by
  simp only [own_ps, own_pr, own_w, List.getD, List.getElem?_cons_zero, List.getElem?_cons_succ, Option.getD_some, Nat.reduceSub, Nat.reduceAdd]
  by_cases p1 : own_hs a ∧ own_ls b <;> simp [p1] <;> decide
theorem own_fin3 (a b c d : Int32) : Int32.ofNat (3 - own_ps [a, b, c, d] (3 - 1)) + 1 = (1 + 1 + own_w a b + own_w b c) := by
  simp only [own_ps, own_pr, own_w, List.getD, List.getElem?_cons_zero, List.getElem?_cons_succ, Option.getD_some, Nat.reduceSub, Nat.reduceAdd]
  by_cases p1 : own_hs a ∧ own_ls b <;> by_cases p2 : own_hs b ∧ own_ls c <;> simp [p1, p2] <;> decide
theorem own_fin4 (a b c d : Int32) : Int32.ofNat (4 - own_ps [a, b, c, d] (4 - 1)) + 1 = (1 + 1 + own_w a b + own_w b c + own_w c d) := by
  simp only [own_ps, own_pr, own_w, List.getD, List.getElem?_cons_zero, List.getElem?_cons_succ, Option.getD_some, Nat.reduceSub, Nat.reduceAdd]
  by_cases p1 : own_hs a ∧ own_ls b <;> by_cases p2 : own_hs b ∧ own_ls c <;> by_cases p3 : own_hs c ∧ own_ls d <;> simp [p1, p2, p3] <;> decide
set_option maxRecDepth 65536 in
set_option maxHeartbeats 40000000 in
theorem rm0 (l : Launch) (Z : State) (ag : Array Value) (hw : ∀ d ∈ tables_1, d.before ag Z = true) (p0 p1 p2 p3 p4 p5 : Int32) (cx : Int32) (h0 : Heap) (n0 : Nat) (Z0 : n0 ≤ h0.size) (SA : Sta Z h0 "java/lang/StringUTF16" "$assertionsDisabled" "Z" (.int 1)) (SH : Sta Z h0 "java/lang/StringUTF16" "HI_BYTE_SHIFT" "I" (.int 0)) (SLo : Sta Z h0 "java/lang/StringUTF16" "LO_BYTE_SHIFT" "I" (.int 8)) (SC : Sta Z h0 "java/lang/String" "COMPACT_STRINGS" "Z" (.int cx)) (hcx : ¬ cx = 0) :
    Ctr l Z x code maxLocals ret room_1 #[.int p0, .int p1, .int p2, .int p3, .int p4, .int p5] h0 (fun v h L => v = some (.int 1) ∧ Fr n0 L) := by
  refine Ctr.of pn_0 ?_
  intro p e s m below meth c T0 X0 B e0
  refine Go.cast (f' := mkF m 0 #[.val (.int p0), .val (.int p1), .val (.int p2), .val (.int p3), .val (.int p4), .val (.int p5), .unset, .unset, .unset, .unset, .unset, .unset, .unset, .unset, .unset] []) (by first | rfl | (simp [entryFrame, mkF, argsToLocals, Value.category, maxLocals]; done)) ?_

  refine g_iloadN X0 B at_0 1 rfl rfl ?_
  refine g_callS X0 B [.int p1] [] at_1 4 rfl rfl (hw _ (List.mem_of_getElem? (i := 0) rfl)) (hw _ (List.mem_of_getElem? (i := 1) rfl)) (hw _ (List.mem_of_getElem? (i := 2) rfl)) (hw _ (List.mem_of_getElem? (i := 3) rfl)) (by decide) (lenOf pd_1 rfl) (rm_mk l Z ag hw p1 h0 n0) e0 rfl 0 (Nat.le_of_eq rfl) (by decide) (by decide) (by decide) (by decide) (fun v1 T1 h1 L1 X1 e1 q1 => ?_)
  obtain ⟨c0x, rfl, hc0x, N1, rfl⟩ := q1
  show Go p e below _ (T1.setTop (mkF m 4 #[.val (.int p0), .val (.int p1), .val (.int p2), .val (.int p3), .val (.int p4), .val (.int p5), .unset, .unset, .unset, .unset, .unset, .unset, .unset, .unset, .unset] [.int c0x]))
  refine g_istore X1 B #[.val (.int p0), .val (.int p1), .val (.int p2), .val (.int p3), .val (.int p4), .val (.int p5), .val (.int c0x), .unset, .unset, .unset, .unset, .unset, .unset, .unset, .unset] at_4 6 rfl rfl ?_
  refine g_iloadN X1 B at_6 7 rfl rfl ?_
  refine g_callS X1 B [.int p2] [] at_7 10 rfl rfl (hw _ (List.mem_of_getElem? (i := 0) rfl)) (hw _ (List.mem_of_getElem? (i := 1) rfl)) (hw _ (List.mem_of_getElem? (i := 2) rfl)) (hw _ (List.mem_of_getElem? (i := 3) rfl)) (by decide) (lenOf pd_1 rfl) (rm_mk l Z ag hw p2 h0 n0) e1 rfl 0 (Nat.le_of_eq rfl) (by decide) (by decide) (by decide) (by decide) (fun v2 T2 h2 L2 X2 e2 q2 => ?_)
  obtain ⟨c1x, rfl, hc1x, N2, rfl⟩ := q2
  show Go p e below _ (T2.setTop (mkF m 10 #[.val (.int p0), .val (.int p1), .val (.int p2), .val (.int p3), .val (.int p4), .val (.int p5), .val (.int c0x), .unset, .unset, .unset, .unset, .unset, .unset, .unset, .unset] [.int c1x]))
  refine g_istore X2 B #[.val (.int p0), .val (.int p1), .val (.int p2), .val (.int p3), .val (.int p4), .val (.int p5), .val (.int c0x), .val (.int c1x), .unset, .unset, .unset, .unset, .unset, .unset, .unset] at_10 12 rfl rfl ?_
  refine g_iloadN X2 B at_12 13 rfl rfl ?_
  refine g_callS X2 B [.int p3] [] at_13 16 rfl rfl (hw _ (List.mem_of_getElem? (i := 0) rfl)) (hw _ (List.mem_of_getElem? (i := 1) rfl)) (hw _ (List.mem_of_getElem? (i := 2) rfl)) (hw _ (List.mem_of_getElem? (i := 3) rfl)) (by decide) (lenOf pd_1 rfl) (rm_mk l Z ag hw p3 h0 n0) e2 rfl 0 (Nat.le_of_eq rfl) (by decide) (by decide) (by decide) (by decide) (fun v3 T3 h3 L3 X3 e3 q3 => ?_)
  obtain ⟨c2x, rfl, hc2x, N3, rfl⟩ := q3
  show Go p e below _ (T3.setTop (mkF m 16 #[.val (.int p0), .val (.int p1), .val (.int p2), .val (.int p3), .val (.int p4), .val (.int p5), .val (.int c0x), .val (.int c1x), .unset, .unset, .unset, .unset, .unset, .unset, .unset] [.int c2x]))
  refine g_istore X3 B #[.val (.int p0), .val (.int p1), .val (.int p2), .val (.int p3), .val (.int p4), .val (.int p5), .val (.int c0x), .val (.int c1x), .val (.int c2x), .unset, .unset, .unset, .unset, .unset, .unset] at_16 18 rfl rfl ?_
  refine g_iload X3 B at_18 20 rfl rfl ?_
  refine g_callS X3 B [.int p4] [] at_20 23 rfl rfl (hw _ (List.mem_of_getElem? (i := 0) rfl)) (hw _ (List.mem_of_getElem? (i := 1) rfl)) (hw _ (List.mem_of_getElem? (i := 2) rfl)) (hw _ (List.mem_of_getElem? (i := 3) rfl)) (by decide) (lenOf pd_1 rfl) (rm_mk l Z ag hw p4 h0 n0) e3 rfl 0 (Nat.le_of_eq rfl) (by decide) (by decide) (by decide) (by decide) (fun v4 T4 h4 L4 X4 e4 q4 => ?_)
  obtain ⟨c3x, rfl, hc3x, N4, rfl⟩ := q4
  show Go p e below _ (T4.setTop (mkF m 23 #[.val (.int p0), .val (.int p1), .val (.int p2), .val (.int p3), .val (.int p4), .val (.int p5), .val (.int c0x), .val (.int c1x), .val (.int c2x), .unset, .unset, .unset, .unset, .unset, .unset] [.int c3x]))
  refine g_istore X4 B #[.val (.int p0), .val (.int p1), .val (.int p2), .val (.int p3), .val (.int p4), .val (.int p5), .val (.int c0x), .val (.int c1x), .val (.int c2x), .val (.int c3x), .unset, .unset, .unset, .unset, .unset] at_23 25 rfl rfl ?_
  refine g_iconst X4 B (4) at_25 26 rfl rfl ?_
  refine g_newP X4 B [(.int 0 : Value), .int 0, .int 0, .int 0] at_26 28 rfl (hw _ (List.mem_of_getElem? (i := 7) rfl)) e4 (by decide) rfl (by decide) (by decide) (by decide) (fun T5 h5 ar X5 e5 ea5 E5 A5 => ?_)
  have g_ar : n0 ≤ ar := ea5 ▸ Z0
  have gg_ar : h0.size ≤ ar := ea5 ▸ (Keep.refl h0 []).1
  refine g_astore X5 B #[.val (.int p0), .val (.int p1), .val (.int p2), .val (.int p3), .val (.int p4), .val (.int p5), .val (.int c0x), .val (.int c1x), .val (.int c2x), .val (.int c3x), .val (.ref ar), .unset, .unset, .unset, .unset] at_28 30 rfl rfl rfl ?_
  refine g_aload X5 B at_30 32 rfl rfl rfl ?_
  refine g_iconst X5 B (0) at_32 33 rfl rfl ?_
  refine g_iload X5 B at_33 35 rfl rfl ?_
  refine g_castore X5 B 0 at_35 36 rfl e5 A5 (by decide) (by decide) (by simp) (fun T6 h6 X6 e6 W6 A6 => ?_)
  rw [own_nc hc0x] at A6 W6
  replace A6 : Av Z h6 ar .char [(.int c0x : Value), .int 0, .int 0, .int 0] := A6
  refine g_aload X6 B at_36 38 rfl rfl rfl ?_
  refine g_iconst X6 B (1) at_38 39 rfl rfl ?_
  refine g_iload X6 B at_39 41 rfl rfl ?_
  refine g_castore X6 B 1 at_41 42 rfl e6 A6 (by decide) (by decide) (by simp) (fun T7 h7 X7 e7 W7 A7 => ?_)
  rw [own_nc hc1x] at A7 W7
  replace A7 : Av Z h7 ar .char [(.int c0x : Value), .int c1x, .int 0, .int 0] := A7
  refine g_aload X7 B at_42 44 rfl rfl rfl ?_
  refine g_iconst X7 B (2) at_44 45 rfl rfl ?_
  refine g_iload X7 B at_45 47 rfl rfl ?_
  refine g_castore X7 B 2 at_47 48 rfl e7 A7 (by decide) (by decide) (by simp) (fun T8 h8 X8 e8 W8 A8 => ?_)
  rw [own_nc hc2x] at A8 W8
  replace A8 : Av Z h8 ar .char [(.int c0x : Value), .int c1x, .int c2x, .int 0] := A8
  refine g_aload X8 B at_48 50 rfl rfl rfl ?_
  refine g_iconst X8 B (3) at_50 51 rfl rfl ?_
  refine g_iload X8 B at_51 53 rfl rfl ?_
  refine g_castore X8 B 3 at_53 54 rfl e8 A8 (by decide) (by decide) (by simp) (fun T9 h9 X9 e9 W9 A9 => ?_)
  rw [own_nc hc3x] at A9 W9
  replace A9 : Av Z h9 ar .char [(.int c0x : Value), .int c1x, .int c2x, .int c3x] := A9
  refine g_new X9 B at_54 57 rfl (hw _ (List.mem_of_getElem? (i := 8) rfl)) (hw _ (List.mem_of_getElem? (i := 9) rfl)) (hw _ (List.mem_of_getElem? (i := 10) rfl)) e9 (by decide) (by decide) (fun T10 h10 str X10 e10 ea10 E10 A10 D10 => ?_)
  have t1 := (Nat.le_trans (Nat.le_trans (Nat.le_trans (Nat.le_trans (Nat.le_trans Z0 E5.1) (Nat.le_of_eq W6.size.symm)) (Nat.le_of_eq W7.size.symm)) (Nat.le_of_eq W8.size.symm)) (Nat.le_of_eq W9.size.symm))
  have t2 := (Keep.wr (Keep.wr (Keep.wr (Keep.wr (Keep.ext (Keep.refl h0 []) E5) W6 (Or.inr gg_ar)) W7 (Or.inr gg_ar)) W8 (Or.inr gg_ar)) W9 (Or.inr gg_ar))
  have g_str : n0 ≤ str := ea10 ▸ t1
  have gg_str : h0.size ≤ str := ea10 ▸ t2.1
  have t3 : ar ≠ str := ea10 ▸ Nat.ne_of_lt (A9.lt)
  have D10_0 : Fld Z h10 str "java/lang/String" "value" "[B" (.null) := D10 (Or.inr (hw _ (List.mem_of_getElem? (i := 55) rfl))) (ty := (.array .byte)) (by decide)
  have D10_1 : Fld Z h10 str "java/lang/String" "coder" "B" (.int 0) := D10 (Or.inr (hw _ (List.mem_of_getElem? (i := 53) rfl))) (ty := .byte) (by decide)
  refine g_dup X10 B at_57 58 rfl rfl ?_
  refine g_aload X10 B at_58 60 rfl rfl rfl ?_
  have t4 := (Nat.le_trans t1 E10.1)
  have t5 := (Av.ext A9 E10)
  have t6 := (Sta.ext E10 (Sta.wr W9 (Sta.wr W8 (Sta.wr W7 (Sta.wr W6 (Sta.ext E5 SA))))))
  have t7 := (Sta.ext E10 (Sta.wr W9 (Sta.wr W8 (Sta.wr W7 (Sta.wr W6 (Sta.ext E5 SH))))))
  have t8 := (Sta.ext E10 (Sta.wr W9 (Sta.wr W8 (Sta.wr W7 (Sta.wr W6 (Sta.ext E5 SLo))))))
  have t9 := (Sta.ext E10 (Sta.wr W9 (Sta.wr W8 (Sta.wr W7 (Sta.wr W6 (Sta.ext E5 SC))))))
  refine g_callN X10 B [.ref ar] [.ref str] at_60 63 rfl rfl rfl (hw _ (List.mem_of_getElem? (i := 11) rfl)) (hw _ (List.mem_of_getElem? (i := 12) rfl)) (hw _ (List.mem_of_getElem? (i := 13) rfl)) (hw _ (List.mem_of_getElem? (i := 10) rfl)) (by decide) (lenOf pd_2 rfl) (rS_i1 l Z ag hw str ar [c0x, c1x, c2x, c3x] cx h10 n0 t4 (by simp) (by simp) (own_chs hc0x hc1x hc2x hc3x) g_str A10 D10_0 D10_1 t5 t6 t7 t8 t9 hcx) e10 rfl 1 (Nat.le_of_eq rfl) (by decide) (by decide) (by decide) (by decide) (fun v11 T11 h11 L11 X11 e11 q11 => ?_)
  obtain ⟨bb, vs, kk, rfl, N11, K11, f1, f2, f3, hSV, f5, f6⟩ := q11
  show Go p e below _ (T11.setTop (mkF m 63 #[.val (.int p0), .val (.int p1), .val (.int p2), .val (.int p3), .val (.int p4), .val (.int p5), .val (.int c0x), .val (.int c1x), .val (.int c2x), .val (.int c3x), .val (.ref ar), .unset, .unset, .unset, .unset] [.ref str]))
  refine g_astore X11 B #[.val (.int p0), .val (.int p1), .val (.int p2), .val (.int p3), .val (.int p4), .val (.int p5), .val (.int c0x), .val (.int c1x), .val (.int c2x), .val (.int c3x), .val (.ref ar), .val (.ref str), .unset, .unset, .unset] at_63 65 rfl rfl rfl ?_
  refine g_iload X11 B at_65 67 rfl rfl ?_
  refine g_ldcI X11 B at_67 69 rfl (hw _ (List.mem_of_getElem? (i := 56) rfl)) ?_
  refine g_iand X11 B at_69 70 rfl ?_
  refine g_iconst X11 B (5) at_70 71 rfl rfl ?_
  refine g_irem X11 B at_71 72 rfl (by decide) ?_
  obtain ⟨ki, hki, kk5⟩ := own_m5 p5
  rw [kk5]
  obtain rfl | rfl | rfl | rfl | rfl : ki = 0 ∨ ki = 1 ∨ ki = 2 ∨ ki = 3 ∨ ki = 4 := by omega
  · skip
    show Go p e below _ (T11.setTop (mkF m 72 #[.val (.int p0), .val (.int p1), .val (.int p2), .val (.int p3), .val (.int p4), .val (.int p5), .val (.int c0x), .val (.int c1x), .val (.int c2x), .val (.int c3x), .val (.ref ar), .val (.ref str), .unset, .unset, .unset] [.int (0 : Int32)]))
    refine g_istore X11 B #[.val (.int p0), .val (.int p1), .val (.int p2), .val (.int p3), .val (.int p4), .val (.int p5), .val (.int c0x), .val (.int c1x), .val (.int c2x), .val (.int c3x), .val (.ref ar), .val (.ref str), .val (.int (0 : Int32)), .unset, .unset] at_72 74 rfl rfl ?_
    refine g_iconst X11 B (1) at_74 75 rfl rfl ?_
    refine g_istore X11 B #[.val (.int p0), .val (.int p1), .val (.int p2), .val (.int p3), .val (.int p4), .val (.int p5), .val (.int c0x), .val (.int c1x), .val (.int c2x), .val (.int c3x), .val (.ref ar), .val (.ref str), .val (.int (0 : Int32)), .val (.int (1 : Int32)), .unset] at_75 77 rfl rfl ?_
    refine g_iload X11 B at_77 79 rfl rfl ?_
    refine g_if_le X11 B at_79 88 82 rfl (by decide) rfl (fun _ => ?_) (fun z => own_abs' (by decide) z)
    refine g_iload X11 B at_88 90 rfl rfl ?_
    refine g_iconst X11 B (1) at_90 91 rfl rfl ?_
    refine g_icmp_le X11 B at_91 106 94 rfl (by decide) rfl (fun _ => ?_) (fun z => own_abs' (by decide) z)
    refine g_iload X11 B at_106 108 rfl rfl ?_
    refine g_iconst X11 B (2) at_108 109 rfl rfl ?_
    refine g_icmp_le X11 B at_109 124 112 rfl (by decide) rfl (fun _ => ?_) (fun z => own_abs' (by decide) z)
    refine g_iload X11 B at_124 126 rfl rfl ?_
    refine g_iconst X11 B (3) at_126 127 rfl rfl ?_
    refine g_icmp_le X11 B at_127 142 130 rfl (by decide) rfl (fun _ => ?_) (fun z => own_abs' (by decide) z)
    refine g_iloadN X11 B at_142 143 rfl rfl ?_
    refine g_aload X11 B at_143 145 rfl rfl rfl ?_
    refine g_iload X11 B at_145 147 rfl rfl ?_
    have t10 := (Nat.le_trans t4 K11.1)
    have t11 := (Exa.keep A10 K11)
    have t12 := (own_stkw t6 K11 (own_plE A10 own_pl0))
    have t13 := (own_stkw t7 K11 (own_plE A10 own_pl0))
    have t14 := (own_stkw t8 K11 (own_plE A10 own_pl0))
    have t15 := (own_stkw t9 K11 (own_plE A10 own_pl0))
    refine g_callS X11 B [.int p0, .ref str, .int (0 : Int32)] [] at_147 150 rfl rfl (hw _ (List.mem_of_getElem? (i := 62) rfl)) (hw _ (List.mem_of_getElem? (i := 63) rfl)) (hw _ (List.mem_of_getElem? (i := 64) rfl)) (hw _ (List.mem_of_getElem? (i := 65) rfl)) (by decide) (lenOf pd_14 rfl) (rm_inl l Z ag hw str bb kk cx p0 vs [c0x, c1x, c2x, c3x] 0 h11 n0 t10 t11 f1 f2 f3 (by simp) (by simp) (own_chs hc0x hc1x hc2x hc3x) hSV t12 t13 t14 t15 hcx) e11 rfl 0 (Nat.le_of_eq rfl) (by decide) (by decide) (by decide) (by decide) (fun v12 T12 h12 L12 X12 e12 q12 => ?_)
    obtain ⟨po, rfl, N12, K12, Ep, g1, g2⟩ := q12
    show Go p e below _ (T12.setTop (mkF m 150 #[.val (.int p0), .val (.int p1), .val (.int p2), .val (.int p3), .val (.int p4), .val (.int p5), .val (.int c0x), .val (.int c1x), .val (.int c2x), .val (.int c3x), .val (.ref ar), .val (.ref str), .val (.int (0 : Int32)), .val (.int (1 : Int32)), .unset] [.ref po]))
    refine g_astore X12 B #[.val (.int p0), .val (.int p1), .val (.int p2), .val (.int p3), .val (.int p4), .val (.int p5), .val (.int c0x), .val (.int c1x), .val (.int c2x), .val (.int c3x), .val (.ref ar), .val (.ref str), .val (.int (0 : Int32)), .val (.int (1 : Int32)), .val (.ref po)] at_150 152 rfl rfl rfl ?_
    refine g_aload X12 B at_152 154 rfl rfl rfl ?_
    refine g_callV X12 B [] [] at_154 157 rfl rfl (hw _ (List.mem_of_getElem? (i := 121) rfl)) (hw _ (List.mem_of_getElem? (i := 122) rfl)) (hw _ (List.mem_of_getElem? (i := 124) rfl)) (hw _ (List.mem_of_getElem? (i := 123) rfl)) (hw _ (List.mem_of_getElem? (i := 64) rfl)) (hw _ (List.mem_of_getElem? (i := 125) rfl)) (by decide) (lenOf pd_26 rfl) Ep (rm_line l Z ag hw po _ h12 n0 g1) e12 rfl 0 (Nat.le_of_eq rfl) (by decide) (by decide) (by decide) (by decide) (fun v13 T13 h13 L13 X13 e13 q13 => ?_)
    obtain ⟨rfl, N13, rfl⟩ := q13
    show Go p e below _ (T13.setTop (mkF m 157 #[.val (.int p0), .val (.int p1), .val (.int p2), .val (.int p3), .val (.int p4), .val (.int p5), .val (.int c0x), .val (.int c1x), .val (.int c2x), .val (.int c3x), .val (.ref ar), .val (.ref str), .val (.int (0 : Int32)), .val (.int (1 : Int32)), .val (.ref po)] [.int (p0 + 1)]))
    refine g_iloadN X13 B at_157 158 rfl rfl ?_
    refine g_iconst X13 B (1) at_158 159 rfl rfl ?_
    refine g_iadd X13 B at_159 160 rfl ?_
    refine g_icmp_ne X13 B at_160 177 163 rfl (by decide) rfl (fun z => own_abs (rfl) z) (fun _ => ?_)
    refine g_aload X13 B at_163 165 rfl rfl rfl ?_
    refine g_callV X13 B [] [] at_165 168 rfl rfl (hw _ (List.mem_of_getElem? (i := 126) rfl)) (hw _ (List.mem_of_getElem? (i := 127) rfl)) (hw _ (List.mem_of_getElem? (i := 129) rfl)) (hw _ (List.mem_of_getElem? (i := 128) rfl)) (hw _ (List.mem_of_getElem? (i := 64) rfl)) (hw _ (List.mem_of_getElem? (i := 130) rfl)) (by decide) (lenOf pd_27 rfl) Ep (rm_column l Z ag hw po _ h12 n0 g2) e13 rfl 0 (Nat.le_of_eq rfl) (by decide) (by decide) (by decide) (by decide) (fun v14 T14 h14 L14 X14 e14 q14 => ?_)
    obtain ⟨rfl, N14, rfl⟩ := q14
    show Go p e below _ (T14.setTop (mkF m 168 #[.val (.int p0), .val (.int p1), .val (.int p2), .val (.int p3), .val (.int p4), .val (.int p5), .val (.int c0x), .val (.int c1x), .val (.int c2x), .val (.int c3x), .val (.ref ar), .val (.ref str), .val (.int (0 : Int32)), .val (.int (1 : Int32)), .val (.ref po)] [.int (Int32.ofNat (0 - own_ps [c0x, c1x, c2x, c3x] (0 - 1)) + 1)]))
    refine g_iload X14 B at_168 170 rfl rfl ?_
    refine g_icmp_ne X14 B at_170 177 173 rfl (by decide) rfl (fun z => own_abs (own_fin0 c0x c1x c2x c3x) z) (fun _ => ?_)
    refine g_iconst X14 B (1) at_173 174 rfl rfl ?_
    refine g_goto X14 B at_174 178 rfl (by decide) ?_
    exact g_retN X14 B at_178 rfl rfl (by decide) (by decide) (by decide) e14 ⟨rfl, (((((Fr.snoc X9 (Fr.snoc X8 (Fr.snoc X7 (Fr.snoc X6 (((((Fr.nil n0).app N1).app N2).app N3).app N4) g_ar) g_ar) g_ar) g_ar).app N11).app N12).app N13).app N14)⟩
  · skip
    show Go p e below _ (T11.setTop (mkF m 72 #[.val (.int p0), .val (.int p1), .val (.int p2), .val (.int p3), .val (.int p4), .val (.int p5), .val (.int c0x), .val (.int c1x), .val (.int c2x), .val (.int c3x), .val (.ref ar), .val (.ref str), .unset, .unset, .unset] [.int (1 : Int32)]))
    refine g_istore X11 B #[.val (.int p0), .val (.int p1), .val (.int p2), .val (.int p3), .val (.int p4), .val (.int p5), .val (.int c0x), .val (.int c1x), .val (.int c2x), .val (.int c3x), .val (.ref ar), .val (.ref str), .val (.int (1 : Int32)), .unset, .unset] at_72 74 rfl rfl ?_
    refine g_iconst X11 B (1) at_74 75 rfl rfl ?_
    refine g_istore X11 B #[.val (.int p0), .val (.int p1), .val (.int p2), .val (.int p3), .val (.int p4), .val (.int p5), .val (.int c0x), .val (.int c1x), .val (.int c2x), .val (.int c3x), .val (.ref ar), .val (.ref str), .val (.int (1 : Int32)), .val (.int (1 : Int32)), .unset] at_75 77 rfl rfl ?_
    refine g_iload X11 B at_77 79 rfl rfl ?_
    refine g_if_le X11 B at_79 88 82 rfl (by decide) rfl (fun z => own_abs (by decide) z) (fun _ => ?_)
    refine g_iload X11 B at_82 84 rfl rfl ?_
    refine g_iconst X11 B (1) at_84 85 rfl rfl ?_
    refine g_iadd X11 B at_85 86 rfl ?_
    refine g_istore X11 B #[.val (.int p0), .val (.int p1), .val (.int p2), .val (.int p3), .val (.int p4), .val (.int p5), .val (.int c0x), .val (.int c1x), .val (.int c2x), .val (.int c3x), .val (.ref ar), .val (.ref str), .val (.int (1 : Int32)), .val (.int ((1 : Int32) + (1 : Int32))), .unset] at_86 88 rfl rfl ?_
    refine g_iload X11 B at_88 90 rfl rfl ?_
    refine g_iconst X11 B (1) at_90 91 rfl rfl ?_
    refine g_icmp_le X11 B at_91 106 94 rfl (by decide) rfl (fun _ => ?_) (fun z => own_abs' (by decide) z)
    refine g_iload X11 B at_106 108 rfl rfl ?_
    refine g_iconst X11 B (2) at_108 109 rfl rfl ?_
    refine g_icmp_le X11 B at_109 124 112 rfl (by decide) rfl (fun _ => ?_) (fun z => own_abs' (by decide) z)
    refine g_iload X11 B at_124 126 rfl rfl ?_
    refine g_iconst X11 B (3) at_126 127 rfl rfl ?_
    refine g_icmp_le X11 B at_127 142 130 rfl (by decide) rfl (fun _ => ?_) (fun z => own_abs' (by decide) z)
    refine g_iloadN X11 B at_142 143 rfl rfl ?_
    refine g_aload X11 B at_143 145 rfl rfl rfl ?_
    refine g_iload X11 B at_145 147 rfl rfl ?_
    have t16 := (Nat.le_trans t4 K11.1)
    have t17 := (Exa.keep A10 K11)
    have t18 := (own_stkw t6 K11 (own_plE A10 own_pl0))
    have t19 := (own_stkw t7 K11 (own_plE A10 own_pl0))
    have t20 := (own_stkw t8 K11 (own_plE A10 own_pl0))
    have t21 := (own_stkw t9 K11 (own_plE A10 own_pl0))
    refine g_callS X11 B [.int p0, .ref str, .int (1 : Int32)] [] at_147 150 rfl rfl (hw _ (List.mem_of_getElem? (i := 62) rfl)) (hw _ (List.mem_of_getElem? (i := 63) rfl)) (hw _ (List.mem_of_getElem? (i := 64) rfl)) (hw _ (List.mem_of_getElem? (i := 65) rfl)) (by decide) (lenOf pd_14 rfl) (rm_inl l Z ag hw str bb kk cx p0 vs [c0x, c1x, c2x, c3x] 1 h11 n0 t16 t17 f1 f2 f3 (by simp) (by simp) (own_chs hc0x hc1x hc2x hc3x) hSV t18 t19 t20 t21 hcx) e11 rfl 0 (Nat.le_of_eq rfl) (by decide) (by decide) (by decide) (by decide) (fun v15 T15 h15 L15 X15 e15 q15 => ?_)
    obtain ⟨po, rfl, N15, K15, Ep, g1, g2⟩ := q15
    show Go p e below _ (T15.setTop (mkF m 150 #[.val (.int p0), .val (.int p1), .val (.int p2), .val (.int p3), .val (.int p4), .val (.int p5), .val (.int c0x), .val (.int c1x), .val (.int c2x), .val (.int c3x), .val (.ref ar), .val (.ref str), .val (.int (1 : Int32)), .val (.int ((1 : Int32) + (1 : Int32))), .unset] [.ref po]))
    refine g_astore X15 B #[.val (.int p0), .val (.int p1), .val (.int p2), .val (.int p3), .val (.int p4), .val (.int p5), .val (.int c0x), .val (.int c1x), .val (.int c2x), .val (.int c3x), .val (.ref ar), .val (.ref str), .val (.int (1 : Int32)), .val (.int ((1 : Int32) + (1 : Int32))), .val (.ref po)] at_150 152 rfl rfl rfl ?_
    refine g_aload X15 B at_152 154 rfl rfl rfl ?_
    refine g_callV X15 B [] [] at_154 157 rfl rfl (hw _ (List.mem_of_getElem? (i := 121) rfl)) (hw _ (List.mem_of_getElem? (i := 122) rfl)) (hw _ (List.mem_of_getElem? (i := 124) rfl)) (hw _ (List.mem_of_getElem? (i := 123) rfl)) (hw _ (List.mem_of_getElem? (i := 64) rfl)) (hw _ (List.mem_of_getElem? (i := 125) rfl)) (by decide) (lenOf pd_26 rfl) Ep (rm_line l Z ag hw po _ h15 n0 g1) e15 rfl 0 (Nat.le_of_eq rfl) (by decide) (by decide) (by decide) (by decide) (fun v16 T16 h16 L16 X16 e16 q16 => ?_)
    obtain ⟨rfl, N16, rfl⟩ := q16
    show Go p e below _ (T16.setTop (mkF m 157 #[.val (.int p0), .val (.int p1), .val (.int p2), .val (.int p3), .val (.int p4), .val (.int p5), .val (.int c0x), .val (.int c1x), .val (.int c2x), .val (.int c3x), .val (.ref ar), .val (.ref str), .val (.int (1 : Int32)), .val (.int ((1 : Int32) + (1 : Int32))), .val (.ref po)] [.int (p0 + 1)]))
    refine g_iloadN X16 B at_157 158 rfl rfl ?_
    refine g_iconst X16 B (1) at_158 159 rfl rfl ?_
    refine g_iadd X16 B at_159 160 rfl ?_
    refine g_icmp_ne X16 B at_160 177 163 rfl (by decide) rfl (fun z => own_abs (rfl) z) (fun _ => ?_)
    refine g_aload X16 B at_163 165 rfl rfl rfl ?_
    refine g_callV X16 B [] [] at_165 168 rfl rfl (hw _ (List.mem_of_getElem? (i := 126) rfl)) (hw _ (List.mem_of_getElem? (i := 127) rfl)) (hw _ (List.mem_of_getElem? (i := 129) rfl)) (hw _ (List.mem_of_getElem? (i := 128) rfl)) (hw _ (List.mem_of_getElem? (i := 64) rfl)) (hw _ (List.mem_of_getElem? (i := 130) rfl)) (by decide) (lenOf pd_27 rfl) Ep (rm_column l Z ag hw po _ h15 n0 g2) e16 rfl 0 (Nat.le_of_eq rfl) (by decide) (by decide) (by decide) (by decide) (fun v17 T17 h17 L17 X17 e17 q17 => ?_)
    obtain ⟨rfl, N17, rfl⟩ := q17
    show Go p e below _ (T17.setTop (mkF m 168 #[.val (.int p0), .val (.int p1), .val (.int p2), .val (.int p3), .val (.int p4), .val (.int p5), .val (.int c0x), .val (.int c1x), .val (.int c2x), .val (.int c3x), .val (.ref ar), .val (.ref str), .val (.int (1 : Int32)), .val (.int ((1 : Int32) + (1 : Int32))), .val (.ref po)] [.int (Int32.ofNat (1 - own_ps [c0x, c1x, c2x, c3x] (1 - 1)) + 1)]))
    refine g_iload X17 B at_168 170 rfl rfl ?_
    refine g_icmp_ne X17 B at_170 177 173 rfl (by decide) rfl (fun z => own_abs (own_fin1 c0x c1x c2x c3x) z) (fun _ => ?_)
    refine g_iconst X17 B (1) at_173 174 rfl rfl ?_
    refine g_goto X17 B at_174 178 rfl (by decide) ?_
    exact g_retN X17 B at_178 rfl rfl (by decide) (by decide) (by decide) e17 ⟨rfl, (((((Fr.snoc X9 (Fr.snoc X8 (Fr.snoc X7 (Fr.snoc X6 (((((Fr.nil n0).app N1).app N2).app N3).app N4) g_ar) g_ar) g_ar) g_ar).app N11).app N15).app N16).app N17)⟩
  · skip
    show Go p e below _ (T11.setTop (mkF m 72 #[.val (.int p0), .val (.int p1), .val (.int p2), .val (.int p3), .val (.int p4), .val (.int p5), .val (.int c0x), .val (.int c1x), .val (.int c2x), .val (.int c3x), .val (.ref ar), .val (.ref str), .unset, .unset, .unset] [.int (2 : Int32)]))
    refine g_istore X11 B #[.val (.int p0), .val (.int p1), .val (.int p2), .val (.int p3), .val (.int p4), .val (.int p5), .val (.int c0x), .val (.int c1x), .val (.int c2x), .val (.int c3x), .val (.ref ar), .val (.ref str), .val (.int (2 : Int32)), .unset, .unset] at_72 74 rfl rfl ?_
    refine g_iconst X11 B (1) at_74 75 rfl rfl ?_
    refine g_istore X11 B #[.val (.int p0), .val (.int p1), .val (.int p2), .val (.int p3), .val (.int p4), .val (.int p5), .val (.int c0x), .val (.int c1x), .val (.int c2x), .val (.int c3x), .val (.ref ar), .val (.ref str), .val (.int (2 : Int32)), .val (.int (1 : Int32)), .unset] at_75 77 rfl rfl ?_
    refine g_iload X11 B at_77 79 rfl rfl ?_
    refine g_if_le X11 B at_79 88 82 rfl (by decide) rfl (fun z => own_abs (by decide) z) (fun _ => ?_)
    refine g_iload X11 B at_82 84 rfl rfl ?_
    refine g_iconst X11 B (1) at_84 85 rfl rfl ?_
    refine g_iadd X11 B at_85 86 rfl ?_
    refine g_istore X11 B #[.val (.int p0), .val (.int p1), .val (.int p2), .val (.int p3), .val (.int p4), .val (.int p5), .val (.int c0x), .val (.int c1x), .val (.int c2x), .val (.int c3x), .val (.ref ar), .val (.ref str), .val (.int (2 : Int32)), .val (.int ((1 : Int32) + (1 : Int32))), .unset] at_86 88 rfl rfl ?_
    refine g_iload X11 B at_88 90 rfl rfl ?_
    refine g_iconst X11 B (1) at_90 91 rfl rfl ?_
    refine g_icmp_le X11 B at_91 106 94 rfl (by decide) rfl (fun z => own_abs (by decide) z) (fun _ => ?_)
    refine g_iload X11 B at_94 96 rfl rfl ?_
    refine g_iload X11 B at_96 98 rfl rfl ?_
    refine g_iload X11 B at_98 100 rfl rfl ?_
    refine g_callS X11 B [.int c0x, .int c1x] [.int ((1 : Int32) + (1 : Int32))] at_100 103 rfl rfl (hw _ (List.mem_of_getElem? (i := 57) rfl)) (hw _ (List.mem_of_getElem? (i := 58) rfl)) (hw _ (List.mem_of_getElem? (i := 2) rfl)) (hw _ (List.mem_of_getElem? (i := 59) rfl)) (by decide) (lenOf pd_13 rfl) (rm_w l Z ag hw c0x c1x h11 n0) e11 rfl 1 (Nat.le_of_eq rfl) (by decide) (by decide) (by decide) (by decide) (fun v18 T18 h18 L18 X18 e18 q18 => ?_)
    obtain ⟨rfl, N18, rfl⟩ := q18
    show Go p e below _ (T18.setTop (mkF m 103 #[.val (.int p0), .val (.int p1), .val (.int p2), .val (.int p3), .val (.int p4), .val (.int p5), .val (.int c0x), .val (.int c1x), .val (.int c2x), .val (.int c3x), .val (.ref ar), .val (.ref str), .val (.int (2 : Int32)), .val (.int ((1 : Int32) + (1 : Int32))), .unset] [.int (own_w c0x c1x), .int ((1 : Int32) + (1 : Int32))]))
    refine g_iadd X18 B at_103 104 rfl ?_
    refine g_istore X18 B #[.val (.int p0), .val (.int p1), .val (.int p2), .val (.int p3), .val (.int p4), .val (.int p5), .val (.int c0x), .val (.int c1x), .val (.int c2x), .val (.int c3x), .val (.ref ar), .val (.ref str), .val (.int (2 : Int32)), .val (.int (((1 : Int32) + (1 : Int32)) + (own_w c0x c1x))), .unset] at_104 106 rfl rfl ?_
    refine g_iload X18 B at_106 108 rfl rfl ?_
    refine g_iconst X18 B (2) at_108 109 rfl rfl ?_
    refine g_icmp_le X18 B at_109 124 112 rfl (by decide) rfl (fun _ => ?_) (fun z => own_abs' (by decide) z)
    refine g_iload X18 B at_124 126 rfl rfl ?_
    refine g_iconst X18 B (3) at_126 127 rfl rfl ?_
    refine g_icmp_le X18 B at_127 142 130 rfl (by decide) rfl (fun _ => ?_) (fun z => own_abs' (by decide) z)
    refine g_iloadN X18 B at_142 143 rfl rfl ?_
    refine g_aload X18 B at_143 145 rfl rfl rfl ?_
    refine g_iload X18 B at_145 147 rfl rfl ?_
    have t22 := (Nat.le_trans t4 K11.1)
    have t23 := (Exa.keep A10 K11)
    have t24 := (own_stkw t6 K11 (own_plE A10 own_pl0))
    have t25 := (own_stkw t7 K11 (own_plE A10 own_pl0))
    have t26 := (own_stkw t8 K11 (own_plE A10 own_pl0))
    have t27 := (own_stkw t9 K11 (own_plE A10 own_pl0))
    refine g_callS X18 B [.int p0, .ref str, .int (2 : Int32)] [] at_147 150 rfl rfl (hw _ (List.mem_of_getElem? (i := 62) rfl)) (hw _ (List.mem_of_getElem? (i := 63) rfl)) (hw _ (List.mem_of_getElem? (i := 64) rfl)) (hw _ (List.mem_of_getElem? (i := 65) rfl)) (by decide) (lenOf pd_14 rfl) (rm_inl l Z ag hw str bb kk cx p0 vs [c0x, c1x, c2x, c3x] 2 h11 n0 t22 t23 f1 f2 f3 (by simp) (by simp) (own_chs hc0x hc1x hc2x hc3x) hSV t24 t25 t26 t27 hcx) e18 rfl 0 (Nat.le_of_eq rfl) (by decide) (by decide) (by decide) (by decide) (fun v19 T19 h19 L19 X19 e19 q19 => ?_)
    obtain ⟨po, rfl, N19, K19, Ep, g1, g2⟩ := q19
    show Go p e below _ (T19.setTop (mkF m 150 #[.val (.int p0), .val (.int p1), .val (.int p2), .val (.int p3), .val (.int p4), .val (.int p5), .val (.int c0x), .val (.int c1x), .val (.int c2x), .val (.int c3x), .val (.ref ar), .val (.ref str), .val (.int (2 : Int32)), .val (.int (((1 : Int32) + (1 : Int32)) + (own_w c0x c1x))), .unset] [.ref po]))
    refine g_astore X19 B #[.val (.int p0), .val (.int p1), .val (.int p2), .val (.int p3), .val (.int p4), .val (.int p5), .val (.int c0x), .val (.int c1x), .val (.int c2x), .val (.int c3x), .val (.ref ar), .val (.ref str), .val (.int (2 : Int32)), .val (.int (((1 : Int32) + (1 : Int32)) + (own_w c0x c1x))), .val (.ref po)] at_150 152 rfl rfl rfl ?_
    refine g_aload X19 B at_152 154 rfl rfl rfl ?_
    refine g_callV X19 B [] [] at_154 157 rfl rfl (hw _ (List.mem_of_getElem? (i := 121) rfl)) (hw _ (List.mem_of_getElem? (i := 122) rfl)) (hw _ (List.mem_of_getElem? (i := 124) rfl)) (hw _ (List.mem_of_getElem? (i := 123) rfl)) (hw _ (List.mem_of_getElem? (i := 64) rfl)) (hw _ (List.mem_of_getElem? (i := 125) rfl)) (by decide) (lenOf pd_26 rfl) Ep (rm_line l Z ag hw po _ h19 n0 g1) e19 rfl 0 (Nat.le_of_eq rfl) (by decide) (by decide) (by decide) (by decide) (fun v20 T20 h20 L20 X20 e20 q20 => ?_)
    obtain ⟨rfl, N20, rfl⟩ := q20
    show Go p e below _ (T20.setTop (mkF m 157 #[.val (.int p0), .val (.int p1), .val (.int p2), .val (.int p3), .val (.int p4), .val (.int p5), .val (.int c0x), .val (.int c1x), .val (.int c2x), .val (.int c3x), .val (.ref ar), .val (.ref str), .val (.int (2 : Int32)), .val (.int (((1 : Int32) + (1 : Int32)) + (own_w c0x c1x))), .val (.ref po)] [.int (p0 + 1)]))
    refine g_iloadN X20 B at_157 158 rfl rfl ?_
    refine g_iconst X20 B (1) at_158 159 rfl rfl ?_
    refine g_iadd X20 B at_159 160 rfl ?_
    refine g_icmp_ne X20 B at_160 177 163 rfl (by decide) rfl (fun z => own_abs (rfl) z) (fun _ => ?_)
    refine g_aload X20 B at_163 165 rfl rfl rfl ?_
    refine g_callV X20 B [] [] at_165 168 rfl rfl (hw _ (List.mem_of_getElem? (i := 126) rfl)) (hw _ (List.mem_of_getElem? (i := 127) rfl)) (hw _ (List.mem_of_getElem? (i := 129) rfl)) (hw _ (List.mem_of_getElem? (i := 128) rfl)) (hw _ (List.mem_of_getElem? (i := 64) rfl)) (hw _ (List.mem_of_getElem? (i := 130) rfl)) (by decide) (lenOf pd_27 rfl) Ep (rm_column l Z ag hw po _ h19 n0 g2) e20 rfl 0 (Nat.le_of_eq rfl) (by decide) (by decide) (by decide) (by decide) (fun v21 T21 h21 L21 X21 e21 q21 => ?_)
    obtain ⟨rfl, N21, rfl⟩ := q21
    show Go p e below _ (T21.setTop (mkF m 168 #[.val (.int p0), .val (.int p1), .val (.int p2), .val (.int p3), .val (.int p4), .val (.int p5), .val (.int c0x), .val (.int c1x), .val (.int c2x), .val (.int c3x), .val (.ref ar), .val (.ref str), .val (.int (2 : Int32)), .val (.int (((1 : Int32) + (1 : Int32)) + (own_w c0x c1x))), .val (.ref po)] [.int (Int32.ofNat (2 - own_ps [c0x, c1x, c2x, c3x] (2 - 1)) + 1)]))
    refine g_iload X21 B at_168 170 rfl rfl ?_
    refine g_icmp_ne X21 B at_170 177 173 rfl (by decide) rfl (fun z => own_abs (own_fin2 c0x c1x c2x c3x) z) (fun _ => ?_)
    refine g_iconst X21 B (1) at_173 174 rfl rfl ?_
    refine g_goto X21 B at_174 178 rfl (by decide) ?_
    exact g_retN X21 B at_178 rfl rfl (by decide) (by decide) (by decide) e21 ⟨rfl, ((((((Fr.snoc X9 (Fr.snoc X8 (Fr.snoc X7 (Fr.snoc X6 (((((Fr.nil n0).app N1).app N2).app N3).app N4) g_ar) g_ar) g_ar) g_ar).app N11).app N18).app N19).app N20).app N21)⟩
  · skip
    show Go p e below _ (T11.setTop (mkF m 72 #[.val (.int p0), .val (.int p1), .val (.int p2), .val (.int p3), .val (.int p4), .val (.int p5), .val (.int c0x), .val (.int c1x), .val (.int c2x), .val (.int c3x), .val (.ref ar), .val (.ref str), .unset, .unset, .unset] [.int (3 : Int32)]))
    refine g_istore X11 B #[.val (.int p0), .val (.int p1), .val (.int p2), .val (.int p3), .val (.int p4), .val (.int p5), .val (.int c0x), .val (.int c1x), .val (.int c2x), .val (.int c3x), .val (.ref ar), .val (.ref str), .val (.int (3 : Int32)), .unset, .unset] at_72 74 rfl rfl ?_
    refine g_iconst X11 B (1) at_74 75 rfl rfl ?_
    refine g_istore X11 B #[.val (.int p0), .val (.int p1), .val (.int p2), .val (.int p3), .val (.int p4), .val (.int p5), .val (.int c0x), .val (.int c1x), .val (.int c2x), .val (.int c3x), .val (.ref ar), .val (.ref str), .val (.int (3 : Int32)), .val (.int (1 : Int32)), .unset] at_75 77 rfl rfl ?_
    refine g_iload X11 B at_77 79 rfl rfl ?_
    refine g_if_le X11 B at_79 88 82 rfl (by decide) rfl (fun z => own_abs (by decide) z) (fun _ => ?_)
    refine g_iload X11 B at_82 84 rfl rfl ?_
    refine g_iconst X11 B (1) at_84 85 rfl rfl ?_
    refine g_iadd X11 B at_85 86 rfl ?_
    refine g_istore X11 B #[.val (.int p0), .val (.int p1), .val (.int p2), .val (.int p3), .val (.int p4), .val (.int p5), .val (.int c0x), .val (.int c1x), .val (.int c2x), .val (.int c3x), .val (.ref ar), .val (.ref str), .val (.int (3 : Int32)), .val (.int ((1 : Int32) + (1 : Int32))), .unset] at_86 88 rfl rfl ?_
    refine g_iload X11 B at_88 90 rfl rfl ?_
    refine g_iconst X11 B (1) at_90 91 rfl rfl ?_
    refine g_icmp_le X11 B at_91 106 94 rfl (by decide) rfl (fun z => own_abs (by decide) z) (fun _ => ?_)
    refine g_iload X11 B at_94 96 rfl rfl ?_
    refine g_iload X11 B at_96 98 rfl rfl ?_
    refine g_iload X11 B at_98 100 rfl rfl ?_
    refine g_callS X11 B [.int c0x, .int c1x] [.int ((1 : Int32) + (1 : Int32))] at_100 103 rfl rfl (hw _ (List.mem_of_getElem? (i := 57) rfl)) (hw _ (List.mem_of_getElem? (i := 58) rfl)) (hw _ (List.mem_of_getElem? (i := 2) rfl)) (hw _ (List.mem_of_getElem? (i := 59) rfl)) (by decide) (lenOf pd_13 rfl) (rm_w l Z ag hw c0x c1x h11 n0) e11 rfl 1 (Nat.le_of_eq rfl) (by decide) (by decide) (by decide) (by decide) (fun v22 T22 h22 L22 X22 e22 q22 => ?_)
    obtain ⟨rfl, N22, rfl⟩ := q22
    show Go p e below _ (T22.setTop (mkF m 103 #[.val (.int p0), .val (.int p1), .val (.int p2), .val (.int p3), .val (.int p4), .val (.int p5), .val (.int c0x), .val (.int c1x), .val (.int c2x), .val (.int c3x), .val (.ref ar), .val (.ref str), .val (.int (3 : Int32)), .val (.int ((1 : Int32) + (1 : Int32))), .unset] [.int (own_w c0x c1x), .int ((1 : Int32) + (1 : Int32))]))
    refine g_iadd X22 B at_103 104 rfl ?_
    refine g_istore X22 B #[.val (.int p0), .val (.int p1), .val (.int p2), .val (.int p3), .val (.int p4), .val (.int p5), .val (.int c0x), .val (.int c1x), .val (.int c2x), .val (.int c3x), .val (.ref ar), .val (.ref str), .val (.int (3 : Int32)), .val (.int (((1 : Int32) + (1 : Int32)) + (own_w c0x c1x))), .unset] at_104 106 rfl rfl ?_
    refine g_iload X22 B at_106 108 rfl rfl ?_
    refine g_iconst X22 B (2) at_108 109 rfl rfl ?_
    refine g_icmp_le X22 B at_109 124 112 rfl (by decide) rfl (fun z => own_abs (by decide) z) (fun _ => ?_)
    refine g_iload X22 B at_112 114 rfl rfl ?_
    refine g_iload X22 B at_114 116 rfl rfl ?_
    refine g_iload X22 B at_116 118 rfl rfl ?_
    refine g_callS X22 B [.int c1x, .int c2x] [.int (((1 : Int32) + (1 : Int32)) + (own_w c0x c1x))] at_118 121 rfl rfl (hw _ (List.mem_of_getElem? (i := 57) rfl)) (hw _ (List.mem_of_getElem? (i := 58) rfl)) (hw _ (List.mem_of_getElem? (i := 2) rfl)) (hw _ (List.mem_of_getElem? (i := 59) rfl)) (by decide) (lenOf pd_13 rfl) (rm_w l Z ag hw c1x c2x h11 n0) e22 rfl 1 (Nat.le_of_eq rfl) (by decide) (by decide) (by decide) (by decide) (fun v23 T23 h23 L23 X23 e23 q23 => ?_)
    obtain ⟨rfl, N23, rfl⟩ := q23
    show Go p e below _ (T23.setTop (mkF m 121 #[.val (.int p0), .val (.int p1), .val (.int p2), .val (.int p3), .val (.int p4), .val (.int p5), .val (.int c0x), .val (.int c1x), .val (.int c2x), .val (.int c3x), .val (.ref ar), .val (.ref str), .val (.int (3 : Int32)), .val (.int (((1 : Int32) + (1 : Int32)) + (own_w c0x c1x))), .unset] [.int (own_w c1x c2x), .int (((1 : Int32) + (1 : Int32)) + (own_w c0x c1x))]))
    refine g_iadd X23 B at_121 122 rfl ?_
    refine g_istore X23 B #[.val (.int p0), .val (.int p1), .val (.int p2), .val (.int p3), .val (.int p4), .val (.int p5), .val (.int c0x), .val (.int c1x), .val (.int c2x), .val (.int c3x), .val (.ref ar), .val (.ref str), .val (.int (3 : Int32)), .val (.int ((((1 : Int32) + (1 : Int32)) + (own_w c0x c1x)) + (own_w c1x c2x))), .unset] at_122 124 rfl rfl ?_
    refine g_iload X23 B at_124 126 rfl rfl ?_
    refine g_iconst X23 B (3) at_126 127 rfl rfl ?_
    refine g_icmp_le X23 B at_127 142 130 rfl (by decide) rfl (fun _ => ?_) (fun z => own_abs' (by decide) z)
    refine g_iloadN X23 B at_142 143 rfl rfl ?_
    refine g_aload X23 B at_143 145 rfl rfl rfl ?_
    refine g_iload X23 B at_145 147 rfl rfl ?_
    have t28 := (Nat.le_trans t4 K11.1)
    have t29 := (Exa.keep A10 K11)
    have t30 := (own_stkw t6 K11 (own_plE A10 own_pl0))
    have t31 := (own_stkw t7 K11 (own_plE A10 own_pl0))
    have t32 := (own_stkw t8 K11 (own_plE A10 own_pl0))
    have t33 := (own_stkw t9 K11 (own_plE A10 own_pl0))
    refine g_callS X23 B [.int p0, .ref str, .int (3 : Int32)] [] at_147 150 rfl rfl (hw _ (List.mem_of_getElem? (i := 62) rfl)) (hw _ (List.mem_of_getElem? (i := 63) rfl)) (hw _ (List.mem_of_getElem? (i := 64) rfl)) (hw _ (List.mem_of_getElem? (i := 65) rfl)) (by decide) (lenOf pd_14 rfl) (rm_inl l Z ag hw str bb kk cx p0 vs [c0x, c1x, c2x, c3x] 3 h11 n0 t28 t29 f1 f2 f3 (by simp) (by simp) (own_chs hc0x hc1x hc2x hc3x) hSV t30 t31 t32 t33 hcx) e23 rfl 0 (Nat.le_of_eq rfl) (by decide) (by decide) (by decide) (by decide) (fun v24 T24 h24 L24 X24 e24 q24 => ?_)
    obtain ⟨po, rfl, N24, K24, Ep, g1, g2⟩ := q24
    show Go p e below _ (T24.setTop (mkF m 150 #[.val (.int p0), .val (.int p1), .val (.int p2), .val (.int p3), .val (.int p4), .val (.int p5), .val (.int c0x), .val (.int c1x), .val (.int c2x), .val (.int c3x), .val (.ref ar), .val (.ref str), .val (.int (3 : Int32)), .val (.int ((((1 : Int32) + (1 : Int32)) + (own_w c0x c1x)) + (own_w c1x c2x))), .unset] [.ref po]))
    refine g_astore X24 B #[.val (.int p0), .val (.int p1), .val (.int p2), .val (.int p3), .val (.int p4), .val (.int p5), .val (.int c0x), .val (.int c1x), .val (.int c2x), .val (.int c3x), .val (.ref ar), .val (.ref str), .val (.int (3 : Int32)), .val (.int ((((1 : Int32) + (1 : Int32)) + (own_w c0x c1x)) + (own_w c1x c2x))), .val (.ref po)] at_150 152 rfl rfl rfl ?_
    refine g_aload X24 B at_152 154 rfl rfl rfl ?_
    refine g_callV X24 B [] [] at_154 157 rfl rfl (hw _ (List.mem_of_getElem? (i := 121) rfl)) (hw _ (List.mem_of_getElem? (i := 122) rfl)) (hw _ (List.mem_of_getElem? (i := 124) rfl)) (hw _ (List.mem_of_getElem? (i := 123) rfl)) (hw _ (List.mem_of_getElem? (i := 64) rfl)) (hw _ (List.mem_of_getElem? (i := 125) rfl)) (by decide) (lenOf pd_26 rfl) Ep (rm_line l Z ag hw po _ h24 n0 g1) e24 rfl 0 (Nat.le_of_eq rfl) (by decide) (by decide) (by decide) (by decide) (fun v25 T25 h25 L25 X25 e25 q25 => ?_)
    obtain ⟨rfl, N25, rfl⟩ := q25
    show Go p e below _ (T25.setTop (mkF m 157 #[.val (.int p0), .val (.int p1), .val (.int p2), .val (.int p3), .val (.int p4), .val (.int p5), .val (.int c0x), .val (.int c1x), .val (.int c2x), .val (.int c3x), .val (.ref ar), .val (.ref str), .val (.int (3 : Int32)), .val (.int ((((1 : Int32) + (1 : Int32)) + (own_w c0x c1x)) + (own_w c1x c2x))), .val (.ref po)] [.int (p0 + 1)]))
    refine g_iloadN X25 B at_157 158 rfl rfl ?_
    refine g_iconst X25 B (1) at_158 159 rfl rfl ?_
    refine g_iadd X25 B at_159 160 rfl ?_
    refine g_icmp_ne X25 B at_160 177 163 rfl (by decide) rfl (fun z => own_abs (rfl) z) (fun _ => ?_)
    refine g_aload X25 B at_163 165 rfl rfl rfl ?_
    refine g_callV X25 B [] [] at_165 168 rfl rfl (hw _ (List.mem_of_getElem? (i := 126) rfl)) (hw _ (List.mem_of_getElem? (i := 127) rfl)) (hw _ (List.mem_of_getElem? (i := 129) rfl)) (hw _ (List.mem_of_getElem? (i := 128) rfl)) (hw _ (List.mem_of_getElem? (i := 64) rfl)) (hw _ (List.mem_of_getElem? (i := 130) rfl)) (by decide) (lenOf pd_27 rfl) Ep (rm_column l Z ag hw po _ h24 n0 g2) e25 rfl 0 (Nat.le_of_eq rfl) (by decide) (by decide) (by decide) (by decide) (fun v26 T26 h26 L26 X26 e26 q26 => ?_)
    obtain ⟨rfl, N26, rfl⟩ := q26
    show Go p e below _ (T26.setTop (mkF m 168 #[.val (.int p0), .val (.int p1), .val (.int p2), .val (.int p3), .val (.int p4), .val (.int p5), .val (.int c0x), .val (.int c1x), .val (.int c2x), .val (.int c3x), .val (.ref ar), .val (.ref str), .val (.int (3 : Int32)), .val (.int ((((1 : Int32) + (1 : Int32)) + (own_w c0x c1x)) + (own_w c1x c2x))), .val (.ref po)] [.int (Int32.ofNat (3 - own_ps [c0x, c1x, c2x, c3x] (3 - 1)) + 1)]))
    refine g_iload X26 B at_168 170 rfl rfl ?_
    refine g_icmp_ne X26 B at_170 177 173 rfl (by decide) rfl (fun z => own_abs (own_fin3 c0x c1x c2x c3x) z) (fun _ => ?_)
    refine g_iconst X26 B (1) at_173 174 rfl rfl ?_
    refine g_goto X26 B at_174 178 rfl (by decide) ?_
    exact g_retN X26 B at_178 rfl rfl (by decide) (by decide) (by decide) e26 ⟨rfl, (((((((Fr.snoc X9 (Fr.snoc X8 (Fr.snoc X7 (Fr.snoc X6 (((((Fr.nil n0).app N1).app N2).app N3).app N4) g_ar) g_ar) g_ar) g_ar).app N11).app N22).app N23).app N24).app N25).app N26)⟩
  · skip
    show Go p e below _ (T11.setTop (mkF m 72 #[.val (.int p0), .val (.int p1), .val (.int p2), .val (.int p3), .val (.int p4), .val (.int p5), .val (.int c0x), .val (.int c1x), .val (.int c2x), .val (.int c3x), .val (.ref ar), .val (.ref str), .unset, .unset, .unset] [.int (4 : Int32)]))
    refine g_istore X11 B #[.val (.int p0), .val (.int p1), .val (.int p2), .val (.int p3), .val (.int p4), .val (.int p5), .val (.int c0x), .val (.int c1x), .val (.int c2x), .val (.int c3x), .val (.ref ar), .val (.ref str), .val (.int (4 : Int32)), .unset, .unset] at_72 74 rfl rfl ?_
    refine g_iconst X11 B (1) at_74 75 rfl rfl ?_
    refine g_istore X11 B #[.val (.int p0), .val (.int p1), .val (.int p2), .val (.int p3), .val (.int p4), .val (.int p5), .val (.int c0x), .val (.int c1x), .val (.int c2x), .val (.int c3x), .val (.ref ar), .val (.ref str), .val (.int (4 : Int32)), .val (.int (1 : Int32)), .unset] at_75 77 rfl rfl ?_
    refine g_iload X11 B at_77 79 rfl rfl ?_
    refine g_if_le X11 B at_79 88 82 rfl (by decide) rfl (fun z => own_abs (by decide) z) (fun _ => ?_)
    refine g_iload X11 B at_82 84 rfl rfl ?_
    refine g_iconst X11 B (1) at_84 85 rfl rfl ?_
    refine g_iadd X11 B at_85 86 rfl ?_
    refine g_istore X11 B #[.val (.int p0), .val (.int p1), .val (.int p2), .val (.int p3), .val (.int p4), .val (.int p5), .val (.int c0x), .val (.int c1x), .val (.int c2x), .val (.int c3x), .val (.ref ar), .val (.ref str), .val (.int (4 : Int32)), .val (.int ((1 : Int32) + (1 : Int32))), .unset] at_86 88 rfl rfl ?_
    refine g_iload X11 B at_88 90 rfl rfl ?_
    refine g_iconst X11 B (1) at_90 91 rfl rfl ?_
    refine g_icmp_le X11 B at_91 106 94 rfl (by decide) rfl (fun z => own_abs (by decide) z) (fun _ => ?_)
    refine g_iload X11 B at_94 96 rfl rfl ?_
    refine g_iload X11 B at_96 98 rfl rfl ?_
    refine g_iload X11 B at_98 100 rfl rfl ?_
    refine g_callS X11 B [.int c0x, .int c1x] [.int ((1 : Int32) + (1 : Int32))] at_100 103 rfl rfl (hw _ (List.mem_of_getElem? (i := 57) rfl)) (hw _ (List.mem_of_getElem? (i := 58) rfl)) (hw _ (List.mem_of_getElem? (i := 2) rfl)) (hw _ (List.mem_of_getElem? (i := 59) rfl)) (by decide) (lenOf pd_13 rfl) (rm_w l Z ag hw c0x c1x h11 n0) e11 rfl 1 (Nat.le_of_eq rfl) (by decide) (by decide) (by decide) (by decide) (fun v27 T27 h27 L27 X27 e27 q27 => ?_)
    obtain ⟨rfl, N27, rfl⟩ := q27
    show Go p e below _ (T27.setTop (mkF m 103 #[.val (.int p0), .val (.int p1), .val (.int p2), .val (.int p3), .val (.int p4), .val (.int p5), .val (.int c0x), .val (.int c1x), .val (.int c2x), .val (.int c3x), .val (.ref ar), .val (.ref str), .val (.int (4 : Int32)), .val (.int ((1 : Int32) + (1 : Int32))), .unset] [.int (own_w c0x c1x), .int ((1 : Int32) + (1 : Int32))]))
    refine g_iadd X27 B at_103 104 rfl ?_
    refine g_istore X27 B #[.val (.int p0), .val (.int p1), .val (.int p2), .val (.int p3), .val (.int p4), .val (.int p5), .val (.int c0x), .val (.int c1x), .val (.int c2x), .val (.int c3x), .val (.ref ar), .val (.ref str), .val (.int (4 : Int32)), .val (.int (((1 : Int32) + (1 : Int32)) + (own_w c0x c1x))), .unset] at_104 106 rfl rfl ?_
    refine g_iload X27 B at_106 108 rfl rfl ?_
    refine g_iconst X27 B (2) at_108 109 rfl rfl ?_
    refine g_icmp_le X27 B at_109 124 112 rfl (by decide) rfl (fun z => own_abs (by decide) z) (fun _ => ?_)
    refine g_iload X27 B at_112 114 rfl rfl ?_
    refine g_iload X27 B at_114 116 rfl rfl ?_
    refine g_iload X27 B at_116 118 rfl rfl ?_
    refine g_callS X27 B [.int c1x, .int c2x] [.int (((1 : Int32) + (1 : Int32)) + (own_w c0x c1x))] at_118 121 rfl rfl (hw _ (List.mem_of_getElem? (i := 57) rfl)) (hw _ (List.mem_of_getElem? (i := 58) rfl)) (hw _ (List.mem_of_getElem? (i := 2) rfl)) (hw _ (List.mem_of_getElem? (i := 59) rfl)) (by decide) (lenOf pd_13 rfl) (rm_w l Z ag hw c1x c2x h11 n0) e27 rfl 1 (Nat.le_of_eq rfl) (by decide) (by decide) (by decide) (by decide) (fun v28 T28 h28 L28 X28 e28 q28 => ?_)
    obtain ⟨rfl, N28, rfl⟩ := q28
    show Go p e below _ (T28.setTop (mkF m 121 #[.val (.int p0), .val (.int p1), .val (.int p2), .val (.int p3), .val (.int p4), .val (.int p5), .val (.int c0x), .val (.int c1x), .val (.int c2x), .val (.int c3x), .val (.ref ar), .val (.ref str), .val (.int (4 : Int32)), .val (.int (((1 : Int32) + (1 : Int32)) + (own_w c0x c1x))), .unset] [.int (own_w c1x c2x), .int (((1 : Int32) + (1 : Int32)) + (own_w c0x c1x))]))
    refine g_iadd X28 B at_121 122 rfl ?_
    refine g_istore X28 B #[.val (.int p0), .val (.int p1), .val (.int p2), .val (.int p3), .val (.int p4), .val (.int p5), .val (.int c0x), .val (.int c1x), .val (.int c2x), .val (.int c3x), .val (.ref ar), .val (.ref str), .val (.int (4 : Int32)), .val (.int ((((1 : Int32) + (1 : Int32)) + (own_w c0x c1x)) + (own_w c1x c2x))), .unset] at_122 124 rfl rfl ?_
    refine g_iload X28 B at_124 126 rfl rfl ?_
    refine g_iconst X28 B (3) at_126 127 rfl rfl ?_
    refine g_icmp_le X28 B at_127 142 130 rfl (by decide) rfl (fun z => own_abs (by decide) z) (fun _ => ?_)
    refine g_iload X28 B at_130 132 rfl rfl ?_
    refine g_iload X28 B at_132 134 rfl rfl ?_
    refine g_iload X28 B at_134 136 rfl rfl ?_
    refine g_callS X28 B [.int c2x, .int c3x] [.int ((((1 : Int32) + (1 : Int32)) + (own_w c0x c1x)) + (own_w c1x c2x))] at_136 139 rfl rfl (hw _ (List.mem_of_getElem? (i := 57) rfl)) (hw _ (List.mem_of_getElem? (i := 58) rfl)) (hw _ (List.mem_of_getElem? (i := 2) rfl)) (hw _ (List.mem_of_getElem? (i := 59) rfl)) (by decide) (lenOf pd_13 rfl) (rm_w l Z ag hw c2x c3x h11 n0) e28 rfl 1 (Nat.le_of_eq rfl) (by decide) (by decide) (by decide) (by decide) (fun v29 T29 h29 L29 X29 e29 q29 => ?_)
    obtain ⟨rfl, N29, rfl⟩ := q29
    show Go p e below _ (T29.setTop (mkF m 139 #[.val (.int p0), .val (.int p1), .val (.int p2), .val (.int p3), .val (.int p4), .val (.int p5), .val (.int c0x), .val (.int c1x), .val (.int c2x), .val (.int c3x), .val (.ref ar), .val (.ref str), .val (.int (4 : Int32)), .val (.int ((((1 : Int32) + (1 : Int32)) + (own_w c0x c1x)) + (own_w c1x c2x))), .unset] [.int (own_w c2x c3x), .int ((((1 : Int32) + (1 : Int32)) + (own_w c0x c1x)) + (own_w c1x c2x))]))
    refine g_iadd X29 B at_139 140 rfl ?_
    refine g_istore X29 B #[.val (.int p0), .val (.int p1), .val (.int p2), .val (.int p3), .val (.int p4), .val (.int p5), .val (.int c0x), .val (.int c1x), .val (.int c2x), .val (.int c3x), .val (.ref ar), .val (.ref str), .val (.int (4 : Int32)), .val (.int (((((1 : Int32) + (1 : Int32)) + (own_w c0x c1x)) + (own_w c1x c2x)) + (own_w c2x c3x))), .unset] at_140 142 rfl rfl ?_
    refine g_iloadN X29 B at_142 143 rfl rfl ?_
    refine g_aload X29 B at_143 145 rfl rfl rfl ?_
    refine g_iload X29 B at_145 147 rfl rfl ?_
    have t34 := (Nat.le_trans t4 K11.1)
    have t35 := (Exa.keep A10 K11)
    have t36 := (own_stkw t6 K11 (own_plE A10 own_pl0))
    have t37 := (own_stkw t7 K11 (own_plE A10 own_pl0))
    have t38 := (own_stkw t8 K11 (own_plE A10 own_pl0))
    have t39 := (own_stkw t9 K11 (own_plE A10 own_pl0))
    refine g_callS X29 B [.int p0, .ref str, .int (4 : Int32)] [] at_147 150 rfl rfl (hw _ (List.mem_of_getElem? (i := 62) rfl)) (hw _ (List.mem_of_getElem? (i := 63) rfl)) (hw _ (List.mem_of_getElem? (i := 64) rfl)) (hw _ (List.mem_of_getElem? (i := 65) rfl)) (by decide) (lenOf pd_14 rfl) (rm_inl l Z ag hw str bb kk cx p0 vs [c0x, c1x, c2x, c3x] 4 h11 n0 t34 t35 f1 f2 f3 (by simp) (by simp) (own_chs hc0x hc1x hc2x hc3x) hSV t36 t37 t38 t39 hcx) e29 rfl 0 (Nat.le_of_eq rfl) (by decide) (by decide) (by decide) (by decide) (fun v30 T30 h30 L30 X30 e30 q30 => ?_)
    obtain ⟨po, rfl, N30, K30, Ep, g1, g2⟩ := q30
    show Go p e below _ (T30.setTop (mkF m 150 #[.val (.int p0), .val (.int p1), .val (.int p2), .val (.int p3), .val (.int p4), .val (.int p5), .val (.int c0x), .val (.int c1x), .val (.int c2x), .val (.int c3x), .val (.ref ar), .val (.ref str), .val (.int (4 : Int32)), .val (.int (((((1 : Int32) + (1 : Int32)) + (own_w c0x c1x)) + (own_w c1x c2x)) + (own_w c2x c3x))), .unset] [.ref po]))
    refine g_astore X30 B #[.val (.int p0), .val (.int p1), .val (.int p2), .val (.int p3), .val (.int p4), .val (.int p5), .val (.int c0x), .val (.int c1x), .val (.int c2x), .val (.int c3x), .val (.ref ar), .val (.ref str), .val (.int (4 : Int32)), .val (.int (((((1 : Int32) + (1 : Int32)) + (own_w c0x c1x)) + (own_w c1x c2x)) + (own_w c2x c3x))), .val (.ref po)] at_150 152 rfl rfl rfl ?_
    refine g_aload X30 B at_152 154 rfl rfl rfl ?_
    refine g_callV X30 B [] [] at_154 157 rfl rfl (hw _ (List.mem_of_getElem? (i := 121) rfl)) (hw _ (List.mem_of_getElem? (i := 122) rfl)) (hw _ (List.mem_of_getElem? (i := 124) rfl)) (hw _ (List.mem_of_getElem? (i := 123) rfl)) (hw _ (List.mem_of_getElem? (i := 64) rfl)) (hw _ (List.mem_of_getElem? (i := 125) rfl)) (by decide) (lenOf pd_26 rfl) Ep (rm_line l Z ag hw po _ h30 n0 g1) e30 rfl 0 (Nat.le_of_eq rfl) (by decide) (by decide) (by decide) (by decide) (fun v31 T31 h31 L31 X31 e31 q31 => ?_)
    obtain ⟨rfl, N31, rfl⟩ := q31
    show Go p e below _ (T31.setTop (mkF m 157 #[.val (.int p0), .val (.int p1), .val (.int p2), .val (.int p3), .val (.int p4), .val (.int p5), .val (.int c0x), .val (.int c1x), .val (.int c2x), .val (.int c3x), .val (.ref ar), .val (.ref str), .val (.int (4 : Int32)), .val (.int (((((1 : Int32) + (1 : Int32)) + (own_w c0x c1x)) + (own_w c1x c2x)) + (own_w c2x c3x))), .val (.ref po)] [.int (p0 + 1)]))
    refine g_iloadN X31 B at_157 158 rfl rfl ?_
    refine g_iconst X31 B (1) at_158 159 rfl rfl ?_
    refine g_iadd X31 B at_159 160 rfl ?_
    refine g_icmp_ne X31 B at_160 177 163 rfl (by decide) rfl (fun z => own_abs (rfl) z) (fun _ => ?_)
    refine g_aload X31 B at_163 165 rfl rfl rfl ?_
    refine g_callV X31 B [] [] at_165 168 rfl rfl (hw _ (List.mem_of_getElem? (i := 126) rfl)) (hw _ (List.mem_of_getElem? (i := 127) rfl)) (hw _ (List.mem_of_getElem? (i := 129) rfl)) (hw _ (List.mem_of_getElem? (i := 128) rfl)) (hw _ (List.mem_of_getElem? (i := 64) rfl)) (hw _ (List.mem_of_getElem? (i := 130) rfl)) (by decide) (lenOf pd_27 rfl) Ep (rm_column l Z ag hw po _ h30 n0 g2) e31 rfl 0 (Nat.le_of_eq rfl) (by decide) (by decide) (by decide) (by decide) (fun v32 T32 h32 L32 X32 e32 q32 => ?_)
    obtain ⟨rfl, N32, rfl⟩ := q32
    show Go p e below _ (T32.setTop (mkF m 168 #[.val (.int p0), .val (.int p1), .val (.int p2), .val (.int p3), .val (.int p4), .val (.int p5), .val (.int c0x), .val (.int c1x), .val (.int c2x), .val (.int c3x), .val (.ref ar), .val (.ref str), .val (.int (4 : Int32)), .val (.int (((((1 : Int32) + (1 : Int32)) + (own_w c0x c1x)) + (own_w c1x c2x)) + (own_w c2x c3x))), .val (.ref po)] [.int (Int32.ofNat (4 - own_ps [c0x, c1x, c2x, c3x] (4 - 1)) + 1)]))
    refine g_iload X32 B at_168 170 rfl rfl ?_
    refine g_icmp_ne X32 B at_170 177 173 rfl (by decide) rfl (fun z => own_abs (own_fin4 c0x c1x c2x c3x) z) (fun _ => ?_)
    refine g_iconst X32 B (1) at_173 174 rfl rfl ?_
    refine g_goto X32 B at_174 178 rfl (by decide) ?_
    exact g_retN X32 B at_178 rfl rfl (by decide) (by decide) (by decide) e32 ⟨rfl, ((((((((Fr.snoc X9 (Fr.snoc X8 (Fr.snoc X7 (Fr.snoc X6 (((((Fr.nil n0).app N1).app N2).app N3).app N4) g_ar) g_ar) g_ar) g_ar).app N11).app N27).app N28).app N29).app N30).app N31).app N32)⟩
theorem own_staI {Z : State} {args : Array Value} {t : Term} {k : Int32} (q : (Jvm.Cond.eq t (.int k)).value args Z none Z [] = some true) : t.eval args Z none [] Z = some (.int k) := by
  obtain ⟨x, y, h1, h2, h3, -⟩ := cmp_v (Or.inl q)
  cases h2
  have h5 : ∃ z, x = .int z := by cases x <;> simp [Kin, Value.isRef] at h3 ⊢
  obtain ⟨z, rfl⟩ := h5
  have h7 : (Jvm.Cond.eq t (.int k)).value args Z none Z [] = some (decide (z = k)) := by simp only [Cond.value, h1, Term.int_eval]
  rw [h1, gotT h7 q]
theorem own_staN {Z : State} {args : Array Value} {t : Term} {z : Int32} (ev : t.eval args Z none [] Z = some (.int z)) (q : (Jvm.Cond.not (.eq t (.int 0))).value args Z none Z [] = some true) : ¬ z = 0 := by
  have h7 : (Jvm.Cond.eq t (.int 0)).value args Z none Z [] = some (decide (z = 0)) := by simp only [Cond.value, ev, Term.int_eval]
  have h8 := not_v q
  exact gotF h7 h8
set_option maxRecDepth 65536 in
set_option maxHeartbeats 40000000 in
theorem comes_1 {Post : Tables → Env → Array Value → State → Outcome → State → Prop} (hpost : ∀ tb e args s v u, (limb_1_1.after args s (.returned v) u = true ∧ limb_1_2.after args s (.returned v) u = true ∧ True) → FrameEnd s (.returned v) u (Jvm.fieldLocs frame_1_writes args s ++ Jvm.arrayLocs frame_1_arrays args s ++ Jvm.staticLocs frame_1_statics s) 24 128 → Post tb e args s (.returned v) u) :
    ArmFor flags0 classFile x code maxLocals ret World_1 tables_1 room_1 Calls_1 rest_1 Pre_1 Post := by
  intro l hfl _ _ p e ha hc hk s m args below hf hA hF happ hP
  obtain ⟨hcalls, hrest, hpre⟩ := hP
  obtain ⟨-, -, -, hnamed, -, -, -, hat⟩ := (Spec.applies_iff hf).mp happ
  obtain ⟨hg, hn⟩ := and_e (Cond.before_iff.mp (show (Jvm.Cond.and given_1 narrow_1).before args s = true from hpre))
  obtain ⟨g0, hg⟩ := and_e hg
  obtain ⟨g1, hg⟩ := and_e hg
  obtain ⟨g2, hg⟩ := and_e hg
  obtain ⟨g3, hg⟩ := and_e hg
  obtain ⟨g4, hg⟩ := and_e hg
  obtain ⟨g5, hg⟩ := and_e hg
  have g6 := hg
  obtain ⟨w0, w1, w2, w3, w4, w5, rfl⟩ : ∃ w0 w1 w2 w3 w4 w5 : Value, args = #[w0, w1, w2, w3, w4, w5] := by
    have hs : args.size = 6 := by simpa [Cond.value, given_1] using g0
    obtain ⟨L⟩ := args
    match L, hs with
    | [w0, w1, w2, w3, w4, w5], _ => exact ⟨w0, w1, w2, w3, w4, w5, rfl⟩
  have hw := fun d (hd : d ∈ tables_1) => atoms_spec (ws := Jvm.Cond.code x code maxLocals ret :: tables_1) hat d (List.mem_cons_of_mem _ hd)
  have hfit : Fit s := fun {y c} hc i hi => by
    obtain ⟨ha, rfl⟩ := Array.getElem?_eq_some_iff.mp hc
    have q := List.all_eq_true.mp ((Array.all_eq_true_iff_forall_mem.mp hF) _ (Array.getElem_mem ha)) i (List.mem_range.mpr hi)
    simpa [Array.getElem?_eq_getElem hi] using q
  obtain ⟨i0, q0⟩ := is_v g1
  obtain rfl : w0 = (.int i0) := Option.some.inj q0
  obtain ⟨i1, q1⟩ := is_v g2
  obtain rfl : w1 = (.int i1) := Option.some.inj q1
  obtain ⟨i2, q2⟩ := is_v g3
  obtain rfl : w2 = (.int i2) := Option.some.inj q2
  obtain ⟨i3, q3⟩ := is_v g4
  obtain rfl : w3 = (.int i3) := Option.some.inj q3
  obtain ⟨i4, q4⟩ := is_v g5
  obtain rfl : w4 = (.int i4) := Option.some.inj q4
  obtain ⟨i5, q5⟩ := is_v g6
  obtain rfl : w5 = (.int i5) := Option.some.inj q5
  obtain ⟨hsets, hown0⟩ := atoms_of _ (rest_1_c_eq ▸ (show rest_1_c.before _ s = true from hrest))
  obtain ⟨cx, ev0⟩ := is_v (Cond.before_iff.mp (hsets _ (List.mem_of_getElem? (i := 1) rfl)))
  have SC := Sta.start ev0 (Or.inl (hsets _ (List.mem_of_getElem? (i := 0) rfl)))
  have hcx := own_staN ev0 (Cond.before_iff.mp (hsets _ (List.mem_of_getElem? (i := 2) rfl)))
  have SA := Sta.start (own_staI (Cond.before_iff.mp (hsets _ (List.mem_of_getElem? (i := 12) rfl)))) (Or.inl (hsets _ (List.mem_of_getElem? (i := 11) rfl)))
  have SH := Sta.start (own_staI (Cond.before_iff.mp (hsets _ (List.mem_of_getElem? (i := 15) rfl)))) (Or.inl (hsets _ (List.mem_of_getElem? (i := 14) rfl)))
  have SLo := Sta.start (own_staI (Cond.before_iff.mp (hsets _ (List.mem_of_getElem? (i := 18) rfl)))) (Or.inl (hsets _ (List.mem_of_getElem? (i := 17) rfl)))
  obtain ⟨n, o, r1, r2, r3, _, L, rfl, ⟨rfl, N⟩, hq⟩ := rm0 l s _ hw i0 i1 i2 i3 i4 i5 cx s.heap s.heap.size (Nat.le_refl _) SA SH SLo SC hcx tables_1 p e ha hc hk s m _ below hf ((Spec.applies_iff_loose hf).mp happ).1 ⟨rfl, State.Warmed39.refl s, rfl⟩ trivial
  refine ⟨n, _, r1, r2, r3, hpost _ _ _ _ _ _ ⟨Cond.after_iff.mpr rfl, Cond.after_iff.mpr (eq_i res_at (Term.int_eval (1)) rfl), trivial⟩ ⟨hq.1, hq.2.1, (hq.2.2.sift fun y hy => Or.inr (N y hy)).mono (by decide) (by decide)⟩⟩
theorem main_1_1 : Claimed_1_1 := comes_1 fun _ _ _ _ _ _ h hF => ⟨h.1, hF⟩
theorem main_1_2 : Claimed_1_2 := comes_1 fun _ _ _ _ _ _ h hF => ⟨h.2.1, hF⟩
end Jvm.Pilot.@@N@@
namespace Jvm.Pilot.@@N@@
open Jvm Jvm.ClassFile Sem Op Lib Jvm.Free Jvm.Stand Jvm.Pilot.@@N@@.Jvm.D
/-! MADE BY PROGRAM (witnessworld.py) out of the Statement's table words and the real class files: 23 classes; the members and pool entries that the words name. The judged class is class 1, her method 3. -/
namespace start1
open Jvm.ClassFile
def u (s : String) : CpInfo := .utf8 (stringToUtf16 s)
/-- a pool by its gaps: so many unusable entries, then the entry; so many at the end -/
def gap : Nat → List CpInfo → List CpInfo
  | 0, r => r
  | n + 1, r => .unusable :: gap n r
def poolList (es : List (Nat × CpInfo)) (last : Nat) : List CpInfo := es.foldr (fun e r => gap e.1 (e.2 :: r)) (gap last [])
def pool (es : List (Nat × CpInfo)) (last : Nat) : Array CpInfo := ⟨poolList es last⟩
def fileOf (pool : Array CpInfo) (this : Nat) (attrs : Array Attribute := #[]) (ms : Array MethodInfo := #[]) (fl : Nat := 33) (sup : Nat := 0) (ifs : Array Nat := #[]) (fds : Array FieldInfo := #[]) : ClassFile where
  minorVersion := 0
  majorVersion := 65
  constantPool := pool
  accessFlags := fl
  thisClass := this
  superClass := sup
  interfaces := ifs
  fields := fds
  methods := ms
  attributes := attrs
def plain (name : String) (sup : Option ClassId) : Class where
  name := name
  kind := .ordinary
  loader := none
  accessFlags := 33
  super := sup
  interfaces := #[]
  cf := none
  fields := #[]
  methods := #[]
  instanceTypes := #[]
  staticTypes := #[]
  resolved := #[]
  callSites := []
  init := .initialized
  statics := none
  mirror := none

def pool0 : Array CpInfo := pool [(5, u "<init>"), (0, u "()V"), (1, .class_ 10), (1, u "java/lang/Object")] 113

def k0c0 : Code := { maxStack := 0, maxLocals := 1, code := object_method_1_code, exceptionTable := #[], attributes := #[] }
def k0m0 : Method := { name := "<init>", desc := "()V", sig := { parameters := [], returnType := none }, accessFlags := 1, code := some k0c0 }
/-- java/lang/Object -/
def k0 : Class := { plain "java/lang/Object" none with
  accessFlags := 33
  interfaces := #[]
  cf := some (fileOf pool0 8 #[] #[{ accessFlags := 1, nameIndex := 5, descriptorIndex := 6, attributes := #[] }] 33 0 #[] #[])
  fields := #[]
  methods := #[k0m0]
  instanceTypes := #[]
  staticTypes := #[]
  resolved := Array.replicate 124 none
  statics := none }

def pool1 : Array CpInfo := pool [(2, .class_ 4), (1, u "java/lang/Object"), (0, u "<init>"), (0, u "()V"), (0, .integer 55296), (0, .integer 56320), (0, .integer 65535), (0, .integer 57343), (0, .integer 56319), (0, .methodref 13 14), (0, .class_ 15), (0, .nameAndType 16 17), (0, u "com/example/contractlint/contractlint/model/PositionInLinePinLaw"), (0, u "mk"), (0, u "(I)C"), (0, .class_ 19), (0, u "java/lang/String"), (0, .methodref 18 21), (0, .nameAndType 5 22), (0, u "([C)V"), (0, .integer 2147483647), (0, .methodref 13 25), (0, .nameAndType 26 27), (0, u "w"), (0, u "(CC)I"), (0, .methodref 29 30), (0, .class_ 31), (0, .nameAndType 32 33), (0, u "com/example/contractlint/contractlint/model/Position"), (0, u "inLine"), (0, u "(ILjava/lang/String;I)Lcom/example/contractlint/contractlint/model/Position;"), (0, .methodref 29 35), (0, .nameAndType 36 37), (0, u "line"), (0, u "()I"), (0, .methodref 29 39), (0, .nameAndType 40 37), (0, u "column"), (3, u "law"), (0, u "(IIIIII)Z")] 4

def k1m0 : Method := { name := "<init>", desc := "()V", sig := { parameters := [], returnType := none }, accessFlags := 1, code := none }
def k1c1 : Code := { maxStack := 3, maxLocals := 3, code := method_2_code, exceptionTable := #[], attributes := #[] }
def k1m1 : Method := { name := "mk", desc := "(I)C", sig := { parameters := [.int], returnType := some .char }, accessFlags := 10, code := some k1c1 }
def k1c2 : Code := { maxStack := 2, maxLocals := 4, code := method_3_code, exceptionTable := #[], attributes := #[] }
def k1m2 : Method := { name := "w", desc := "(CC)I", sig := { parameters := [.char, .char], returnType := some .int }, accessFlags := 10, code := some k1c2 }
def k1c3 : Code := { maxStack := 3, maxLocals := 15, code := code, exceptionTable := #[], attributes := #[] }
def k1m3 : Method := { name := "law", desc := "(IIIIII)Z", sig := { parameters := [.int, .int, .int, .int, .int, .int], returnType := some .boolean }, accessFlags := 9, code := some k1c3 }
/-- com/example/contractlint/contractlint/model/PositionInLinePinLaw -/
def k1 : Class := { plain "com/example/contractlint/contractlint/model/PositionInLinePinLaw" (some 0) with
  accessFlags := 49
  interfaces := #[]
  cf := some (fileOf pool1 13 #[] #[{ accessFlags := 1, nameIndex := 5, descriptorIndex := 6, attributes := #[] }, { accessFlags := 10, nameIndex := 16, descriptorIndex := 17, attributes := #[] }, { accessFlags := 10, nameIndex := 26, descriptorIndex := 27, attributes := #[] }, { accessFlags := 9, nameIndex := 44, descriptorIndex := 45, attributes := #[] }] 49 2 #[] #[])
  fields := #[]
  methods := #[k1m0, k1m1, k1m2, k1m3]
  instanceTypes := #[]
  staticTypes := #[]
  resolved := Array.replicate 50 none
  statics := none }

def pool2 : Array CpInfo := pool [(1, .class_ 2), (0, u "java/io/Serializable"), (0, .class_ 4), (0, u "java/lang/Object")] 2

/-- java/io/Serializable -/
def k2 : Class := { plain "java/io/Serializable" (some 0) with
  accessFlags := 1537
  interfaces := #[]
  cf := some (fileOf pool2 1 #[] #[] 1537 3 #[] #[])
  fields := #[]
  methods := #[]
  instanceTypes := #[]
  staticTypes := #[]
  resolved := Array.replicate 7 none
  statics := none }

def pool3 : Array CpInfo := pool [(1, .class_ 2), (0, u "java/lang/Comparable"), (0, .class_ 4), (0, u "java/lang/Object")] 7

/-- java/lang/Comparable -/
def k3 : Class := { plain "java/lang/Comparable" (some 0) with
  accessFlags := 1537
  interfaces := #[]
  cf := some (fileOf pool3 1 #[] #[] 1537 3 #[] #[])
  fields := #[]
  methods := #[]
  instanceTypes := #[]
  staticTypes := #[]
  resolved := Array.replicate 12 none
  statics := none }

def pool4 : Array CpInfo := pool [(2, .class_ 4), (1, u "java/lang/CharSequence"), (42, .class_ 48), (0, u "java/lang/CharSequence$1CodePointIterator"), (10, .class_ 60), (0, u "java/lang/CharSequence$1CharIterator"), (5, .class_ 67), (0, u "java/lang/Object")] 63

/-- java/lang/CharSequence -/
def k4 : Class := { plain "java/lang/CharSequence" (some 0) with
  accessFlags := 1537
  interfaces := #[]
  cf := some (fileOf pool4 2 #[.nestMembers #[47, 59]] #[] 1537 66 #[] #[])
  fields := #[]
  methods := #[]
  instanceTypes := #[]
  staticTypes := #[]
  resolved := Array.replicate 131 none
  statics := none }

def pool5 : Array CpInfo := pool [(1, .class_ 2), (0, u "java/lang/constant/Constable"), (0, .class_ 4), (0, u "java/lang/Object")] 6

/-- java/lang/constant/Constable -/
def k5 : Class := { plain "java/lang/constant/Constable" (some 0) with
  accessFlags := 1537
  interfaces := #[]
  cf := some (fileOf pool5 1 #[] #[] 1537 3 #[] #[])
  fields := #[]
  methods := #[]
  instanceTypes := #[]
  staticTypes := #[]
  resolved := Array.replicate 11 none
  statics := none }

def pool6 : Array CpInfo := pool [(1, .class_ 2), (0, u "java/lang/constant/ConstantDesc"), (0, .class_ 4), (0, u "java/lang/Object")] 32

/-- java/lang/constant/ConstantDesc -/
def k6 : Class := { plain "java/lang/constant/ConstantDesc" (some 0) with
  accessFlags := 1537
  interfaces := #[]
  cf := some (fileOf pool6 1 #[] #[] 1537 3 #[] #[])
  fields := #[]
  methods := #[]
  instanceTypes := #[]
  staticTypes := #[]
  resolved := Array.replicate 37 none
  statics := none }

def pool7 : Array CpInfo := pool [(1, .methodref 2 3), (0, .class_ 4), (0, .nameAndType 5 6), (0, u "java/lang/Object"), (0, u "<init>"), (0, u "()V"), (2, .fieldref 10 11), (0, .class_ 12), (0, .nameAndType 13 14), (0, u "java/lang/String"), (0, u "value"), (0, u "[B"), (0, .fieldref 10 16), (0, .nameAndType 17 18), (0, u "coder"), (0, u "B"), (2, u "hash"), (0, u "I"), (2, u "hashIsZero"), (0, u "Z"), (0, .methodref 10 28), (0, .nameAndType 5 29), (0, u "([CIILjava/lang/Void;)V"), (7, u "(III)I"), (0, .fieldref 10 39), (0, .nameAndType 40 26), (0, u "COMPACT_STRINGS"), (1, .class_ 44), (1, u "java/lang/StringUTF16"), (0, u "compress"), (1, .methodref 42 48), (0, .nameAndType 49 50), (0, u "coderFromArrayLen"), (0, u "([BI)B"), (28, .class_ 81), (1, u "java/util/Objects"), (15, u "([BII)I"), (44, u "()Z"), (34, .methodref 42 178), (0, .nameAndType 45 179), (0, u "([CII)[B"), (154, u "()I"), (0, .methodref 10 336), (0, .nameAndType 17 337), (0, u "()B"), (154, .methodref 10 493), (0, .nameAndType 494 142), (0, u "isLatin1"), (10, .methodref 10 506), (0, .nameAndType 507 334), (0, u "length"), (3, .methodref 79 512), (0, .nameAndType 513 37), (0, u "checkFromToIndex"), (0, .methodref 42 515), (0, .nameAndType 516 97), (0, u "codePointCount"), (58, .class_ 576), (0, u "java/lang/CharSequence"), (22, u "CASE_INSENSITIVE_ORDER"), (0, u "Ljava/util/Comparator;"), (35, u "(II)I"), (373, u "([C)V"), (90, u "serialPersistentFields"), (0, u "[Ljava/io/ObjectStreamField;"), (0, .class_ 1104), (0, u "java/lang/String$CaseInsensitiveComparator"), (1, .class_ 1107), (0, u "java/io/Serializable"), (0, .class_ 1109), (0, u "java/lang/Comparable"), (0, .class_ 1111), (0, u "java/lang/constant/Constable"), (0, .class_ 1113), (0, u "java/lang/constant/ConstantDesc"), (2, u "serialVersionUID"), (0, u "J"), (3, u "REPL"), (0, u "C"), (2, u "LATIN1"), (1, u "UTF16")] 323

def k7m0 : Method := { name := "<init>", desc := "()V", sig := { parameters := [], returnType := none }, accessFlags := 1, code := none }
def k7c1 : Code := { maxStack := 5, maxLocals := 2, code := jdk_42_method_3_code, exceptionTable := #[], attributes := #[] }
def k7m1 : Method := { name := "<init>", desc := "([C)V", sig := { parameters := [(.array .char)], returnType := none }, accessFlags := 1, code := some k7c1 }
def k7c2 : Code := { maxStack := 2, maxLocals := 1, code := jdk_42_method_54_code, exceptionTable := #[], attributes := #[] }
def k7m2 : Method := { name := "length", desc := "()I", sig := { parameters := [], returnType := some .int }, accessFlags := 1, code := some k7c2 }
def k7c3 : Code := { maxStack := 3, maxLocals := 3, code := jdk_42_method_59_code, exceptionTable := #[], attributes := #[] }
def k7m3 : Method := { name := "codePointCount", desc := "(II)I", sig := { parameters := [.int, .int], returnType := some .int }, accessFlags := 1, code := some k7c3 }
def k7c4 : Code := { maxStack := 4, maxLocals := 6, code := jdk_42_method_149_code, exceptionTable := #[], attributes := #[] }
def k7m4 : Method := { name := "<init>", desc := "([CIILjava/lang/Void;)V", sig := { parameters := [(.array .char), .int, .int, (.object "java/lang/Void")], returnType := none }, accessFlags := 2, code := some k7c4 }
def k7c5 : Code := { maxStack := 1, maxLocals := 1, code := jdk_42_method_152_code, exceptionTable := #[], attributes := #[] }
def k7m5 : Method := { name := "coder", desc := "()B", sig := { parameters := [], returnType := some .byte }, accessFlags := 0, code := some k7c5 }
def k7c6 : Code := { maxStack := 1, maxLocals := 1, code := jdk_42_method_154_code, exceptionTable := #[], attributes := #[] }
def k7m6 : Method := { name := "isLatin1", desc := "()Z", sig := { parameters := [], returnType := some .boolean }, accessFlags := 0, code := some k7c6 }
/-- java/lang/String -/
def k7 : Class := { plain "java/lang/String" (some 0) with
  accessFlags := 49
  interfaces := #[2, 3, 4, 5, 6]
  cf := some (fileOf pool7 10 #[.nestMembers #[1103]] #[{ accessFlags := 1, nameIndex := 5, descriptorIndex := 6, attributes := #[] }, { accessFlags := 1, nameIndex := 5, descriptorIndex := 1010, attributes := #[] }, { accessFlags := 1, nameIndex := 507, descriptorIndex := 334, attributes := #[] }, { accessFlags := 1, nameIndex := 516, descriptorIndex := 636, attributes := #[] }, { accessFlags := 2, nameIndex := 5, descriptorIndex := 29, attributes := #[] }, { accessFlags := 0, nameIndex := 17, descriptorIndex := 337, attributes := #[] }, { accessFlags := 0, nameIndex := 494, descriptorIndex := 142, attributes := #[] }] 49 2 #[1106, 1108, 575, 1110, 1112] #[{ accessFlags := 18, nameIndex := 13, descriptorIndex := 14, attributes := #[] }, { accessFlags := 18, nameIndex := 17, descriptorIndex := 18, attributes := #[] }, { accessFlags := 2, nameIndex := 21, descriptorIndex := 22, attributes := #[] }, { accessFlags := 2, nameIndex := 25, descriptorIndex := 26, attributes := #[] }, { accessFlags := 26, nameIndex := 1116, descriptorIndex := 1117, attributes := #[] }, { accessFlags := 24, nameIndex := 40, descriptorIndex := 26, attributes := #[] }, { accessFlags := 26, nameIndex := 1101, descriptorIndex := 1102, attributes := #[] }, { accessFlags := 26, nameIndex := 1121, descriptorIndex := 1122, attributes := #[] }, { accessFlags := 25, nameIndex := 599, descriptorIndex := 600, attributes := #[] }, { accessFlags := 24, nameIndex := 1125, descriptorIndex := 18, attributes := #[] }, { accessFlags := 24, nameIndex := 1127, descriptorIndex := 18, attributes := #[] }])
  fields := #[{ name := "value", type := (.array .byte), accessFlags := 18, slot := 0, constantValue := 0 }, { name := "coder", type := .byte, accessFlags := 18, slot := 1, constantValue := 0 }, { name := "hash", type := .int, accessFlags := 2, slot := 2, constantValue := 0 }, { name := "hashIsZero", type := .boolean, accessFlags := 2, slot := 3, constantValue := 0 }, { name := "serialVersionUID", type := .long, accessFlags := 26, slot := 0, constantValue := 0 }, { name := "COMPACT_STRINGS", type := .boolean, accessFlags := 24, slot := 1, constantValue := 0 }, { name := "serialPersistentFields", type := (.array (.object "java/io/ObjectStreamField")), accessFlags := 26, slot := 2, constantValue := 0 }, { name := "REPL", type := .char, accessFlags := 26, slot := 3, constantValue := 0 }, { name := "CASE_INSENSITIVE_ORDER", type := (.object "java/util/Comparator"), accessFlags := 25, slot := 4, constantValue := 0 }, { name := "LATIN1", type := .byte, accessFlags := 24, slot := 5, constantValue := 0 }, { name := "UTF16", type := .byte, accessFlags := 24, slot := 6, constantValue := 0 }]
  methods := #[k7m0, k7m1, k7m2, k7m3, k7m4, k7m5, k7m6]
  instanceTypes := #[(.array .byte), .byte, .int, .boolean]
  staticTypes := #[.long, .boolean, (.array (.object "java/io/ObjectStreamField")), .char, (.object "java/util/Comparator"), .byte, .byte]
  resolved := Array.replicate 1451 none
  statics := some 0 }

def pool8 : Array CpInfo := pool [(6, .class_ 8), (1, u "java/lang/Object"), (0, u "<init>"), (0, u "()V"), (0, .methodref 12 13), (0, .class_ 14), (0, .nameAndType 15 16), (0, u "java/lang/StringUTF16"), (0, u "newBytesLength"), (0, u "(I)I"), (3, .integer 1073741823), (23, .fieldref 12 45), (0, .nameAndType 46 47), (0, u "$assertionsDisabled"), (0, u "Z"), (11, .fieldref 12 60), (0, .nameAndType 61 62), (0, u "HI_BYTE_SHIFT"), (0, u "I"), (0, .fieldref 12 64), (0, .nameAndType 65 62), (0, u "LO_BYTE_SHIFT"), (5, .methodref 12 72), (0, .nameAndType 73 74), (0, u "getChar"), (0, u "([BI)C"), (0, .methodref 76 77), (0, .class_ 78), (0, .nameAndType 79 80), (0, u "java/lang/Character"), (0, u "isHighSurrogate"), (0, u "(C)Z"), (0, .methodref 76 82), (0, .nameAndType 83 80), (0, u "isLowSurrogate"), (7, u "([BIIZ)I"), (8, .methodref 12 101), (0, .nameAndType 102 91), (0, u "codePointCount"), (4, .methodref 12 108), (0, .nameAndType 109 110), (0, u "newBytesFor"), (0, u "(I)[B"), (0, .methodref 12 112), (0, .nameAndType 113 114), (0, u "putChar"), (0, u "([BII)V"), (0, .methodref 12 116), (0, .nameAndType 117 118), (0, u "compress"), (0, u "([CI[BII)I"), (0, .methodref 12 120), (0, .nameAndType 121 122), (0, u "toBytes"), (0, u "([CII)[B"), (127, u "([BII)I"), (10, u "coderFromArrayLen"), (0, u "([BI)B"), (106, .class_ 371), (1, u "java/lang/StringUTF16$LinesSpliterator"), (58, u "MAX_LENGTH"), (196, .class_ 628), (0, u "java/lang/StringUTF16$CodePointsSpliterator"), (0, .class_ 630), (0, u "java/lang/StringUTF16$CharsSpliterator")] 4

def k8m0 : Method := { name := "<init>", desc := "()V", sig := { parameters := [], returnType := none }, accessFlags := 0, code := none }
def k8c1 : Code := { maxStack := 1, maxLocals := 1, code := jdk_52_method_2_code, exceptionTable := #[], attributes := #[] }
def k8m1 : Method := { name := "newBytesFor", desc := "(I)[B", sig := { parameters := [.int], returnType := some (.array .byte) }, accessFlags := 9, code := some k8c1 }
def k8c2 : Code := { maxStack := 4, maxLocals := 1, code := jdk_52_method_3_code, exceptionTable := #[], attributes := #[] }
def k8m2 : Method := { name := "newBytesLength", desc := "(I)I", sig := { parameters := [.int], returnType := some .int }, accessFlags := 9, code := some k8c2 }
def k8c3 : Code := { maxStack := 4, maxLocals := 3, code := jdk_52_method_4_code, exceptionTable := #[], attributes := #[] }
def k8m3 : Method := { name := "putChar", desc := "([BII)V", sig := { parameters := [(.array .byte), .int, .int], returnType := none }, accessFlags := 8, code := some k8c3 }
def k8c4 : Code := { maxStack := 3, maxLocals := 2, code := jdk_52_method_5_code, exceptionTable := #[], attributes := #[] }
def k8m4 : Method := { name := "getChar", desc := "([BI)C", sig := { parameters := [(.array .byte), .int], returnType := some .char }, accessFlags := 8, code := some k8c4 }
def k8c5 : Code := { maxStack := 3, maxLocals := 6, code := jdk_52_method_11_code, exceptionTable := #[], attributes := #[] }
def k8m5 : Method := { name := "codePointCount", desc := "([BIIZ)I", sig := { parameters := [(.array .byte), .int, .int, .boolean], returnType := some .int }, accessFlags := 10, code := some k8c5 }
def k8c6 : Code := { maxStack := 4, maxLocals := 3, code := jdk_52_method_12_code, exceptionTable := #[], attributes := #[] }
def k8m6 : Method := { name := "codePointCount", desc := "([BII)I", sig := { parameters := [(.array .byte), .int, .int], returnType := some .int }, accessFlags := 9, code := some k8c6 }
def k8c7 : Code := { maxStack := 4, maxLocals := 5, code := jdk_52_method_14_code, exceptionTable := #[], attributes := #[] }
def k8m7 : Method := { name := "toBytes", desc := "([CII)[B", sig := { parameters := [(.array .char), .int, .int], returnType := some (.array .byte) }, accessFlags := 9, code := some k8c7 }
def k8c8 : Code := { maxStack := 2, maxLocals := 2, code := jdk_52_method_15_code, exceptionTable := #[], attributes := #[] }
def k8m8 : Method := { name := "coderFromArrayLen", desc := "([BI)B", sig := { parameters := [(.array .byte), .int], returnType := some .byte }, accessFlags := 8, code := some k8c8 }
def k8c9 : Code := { maxStack := 5, maxLocals := 6, code := jdk_52_method_16_code, exceptionTable := #[], attributes := #[] }
def k8m9 : Method := { name := "compress", desc := "([CII)[B", sig := { parameters := [(.array .char), .int, .int], returnType := some (.array .byte) }, accessFlags := 9, code := some k8c9 }
def k8c10 : Code := { maxStack := 3, maxLocals := 7, code := jdk_52_method_21_code, exceptionTable := #[], attributes := #[] }
def k8m10 : Method := { name := "compress", desc := "([CI[BII)I", sig := { parameters := [(.array .char), .int, (.array .byte), .int, .int], returnType := some .int }, accessFlags := 9, code := some k8c10 }
/-- java/lang/StringUTF16 -/
def k8 : Class := { plain "java/lang/StringUTF16" (some 0) with
  accessFlags := 48
  interfaces := #[]
  cf := some (fileOf pool8 12 #[.nestMembers #[627, 629, 369]] #[{ accessFlags := 0, nameIndex := 9, descriptorIndex := 10, attributes := #[] }, { accessFlags := 9, nameIndex := 109, descriptorIndex := 110, attributes := #[] }, { accessFlags := 9, nameIndex := 15, descriptorIndex := 16, attributes := #[] }, { accessFlags := 8, nameIndex := 113, descriptorIndex := 114, attributes := #[] }, { accessFlags := 8, nameIndex := 73, descriptorIndex := 74, attributes := #[] }, { accessFlags := 10, nameIndex := 102, descriptorIndex := 91, attributes := #[] }, { accessFlags := 9, nameIndex := 102, descriptorIndex := 250, attributes := #[] }, { accessFlags := 9, nameIndex := 121, descriptorIndex := 122, attributes := #[] }, { accessFlags := 8, nameIndex := 261, descriptorIndex := 262, attributes := #[] }, { accessFlags := 9, nameIndex := 117, descriptorIndex := 122, attributes := #[] }, { accessFlags := 9, nameIndex := 117, descriptorIndex := 118, attributes := #[] }] 48 6 #[] #[{ accessFlags := 26, nameIndex := 61, descriptorIndex := 62, attributes := #[] }, { accessFlags := 26, nameIndex := 65, descriptorIndex := 62, attributes := #[] }, { accessFlags := 24, nameIndex := 430, descriptorIndex := 62, attributes := #[] }, { accessFlags := 4120, nameIndex := 46, descriptorIndex := 47, attributes := #[] }])
  fields := #[{ name := "HI_BYTE_SHIFT", type := .int, accessFlags := 26, slot := 0, constantValue := 0 }, { name := "LO_BYTE_SHIFT", type := .int, accessFlags := 26, slot := 1, constantValue := 0 }, { name := "MAX_LENGTH", type := .int, accessFlags := 24, slot := 2, constantValue := 0 }, { name := "$assertionsDisabled", type := .boolean, accessFlags := 4120, slot := 3, constantValue := 0 }]
  methods := #[k8m0, k8m1, k8m2, k8m3, k8m4, k8m5, k8m6, k8m7, k8m8, k8m9, k8m10]
  instanceTypes := #[]
  staticTypes := #[.int, .int, .int, .boolean]
  resolved := Array.replicate 635 none
  statics := some 1 }

def pool9 : Array CpInfo := pool [(1, .methodref 2 3), (0, .class_ 4), (0, .nameAndType 5 6), (0, u "java/lang/Object"), (0, u "<init>"), (0, u "()V"), (0, .class_ 8), (0, u "java/lang/Record")] 13

def k9c0 : Code := { maxStack := 1, maxLocals := 1, code := jdk_30_method_1_code, exceptionTable := #[], attributes := #[] }
def k9m0 : Method := { name := "<init>", desc := "()V", sig := { parameters := [], returnType := none }, accessFlags := 4, code := some k9c0 }
/-- java/lang/Record -/
def k9 : Class := { plain "java/lang/Record" (some 0) with
  accessFlags := 1057
  interfaces := #[]
  cf := some (fileOf pool9 7 #[] #[{ accessFlags := 4, nameIndex := 5, descriptorIndex := 6, attributes := #[] }] 1057 2 #[] #[])
  fields := #[]
  methods := #[k9m0]
  instanceTypes := #[]
  staticTypes := #[]
  resolved := Array.replicate 22 none
  statics := none }

def pool10 : Array CpInfo := pool [(1, .methodref 2 3), (0, .class_ 4), (0, .nameAndType 5 6), (0, u "java/lang/Record"), (0, u "<init>"), (0, u "()V"), (0, .fieldref 8 9), (0, .class_ 10), (0, .nameAndType 11 12), (0, u "com/example/contractlint/contractlint/model/Position"), (0, u "line"), (0, u "I"), (0, .fieldref 8 14), (0, .nameAndType 15 12), (0, u "column"), (4, .methodref 21 22), (0, .class_ 23), (0, .nameAndType 24 25), (0, u "java/lang/String"), (0, u "codePointCount"), (0, u "(II)I"), (0, .methodref 8 27), (0, .nameAndType 5 28), (0, u "(II)V"), (17, u "inLine"), (0, u "(ILjava/lang/String;I)Lcom/example/contractlint/contractlint/model/Position;"), (0, u "()I")] 30

def k10c0 : Code := { maxStack := 2, maxLocals := 3, code := prog_47_method_1_code, exceptionTable := #[], attributes := #[] }
def k10m0 : Method := { name := "<init>", desc := "(II)V", sig := { parameters := [.int, .int], returnType := none }, accessFlags := 1, code := some k10c0 }
def k10c1 : Code := { maxStack := 6, maxLocals := 3, code := prog_47_method_3_code, exceptionTable := #[], attributes := #[] }
def k10m1 : Method := { name := "inLine", desc := "(ILjava/lang/String;I)Lcom/example/contractlint/contractlint/model/Position;", sig := { parameters := [.int, (.object "java/lang/String"), .int], returnType := some (.object "com/example/contractlint/contractlint/model/Position") }, accessFlags := 8, code := some k10c1 }
def k10c2 : Code := { maxStack := 1, maxLocals := 1, code := prog_47_method_7_code, exceptionTable := #[], attributes := #[] }
def k10m2 : Method := { name := "line", desc := "()I", sig := { parameters := [], returnType := some .int }, accessFlags := 1, code := some k10c2 }
def k10c3 : Code := { maxStack := 1, maxLocals := 1, code := prog_47_method_8_code, exceptionTable := #[], attributes := #[] }
def k10m3 : Method := { name := "column", desc := "()I", sig := { parameters := [], returnType := some .int }, accessFlags := 1, code := some k10c3 }
/-- com/example/contractlint/contractlint/model/Position -/
def k10 : Class := { plain "com/example/contractlint/contractlint/model/Position" (some 9) with
  accessFlags := 49
  interfaces := #[]
  cf := some (fileOf pool10 8 #[] #[{ accessFlags := 1, nameIndex := 5, descriptorIndex := 28, attributes := #[] }, { accessFlags := 8, nameIndex := 46, descriptorIndex := 47, attributes := #[] }, { accessFlags := 1, nameIndex := 11, descriptorIndex := 48, attributes := #[] }, { accessFlags := 1, nameIndex := 15, descriptorIndex := 48, attributes := #[] }] 49 2 #[] #[{ accessFlags := 18, nameIndex := 11, descriptorIndex := 12, attributes := #[] }, { accessFlags := 18, nameIndex := 15, descriptorIndex := 12, attributes := #[] }])
  fields := #[{ name := "line", type := .int, accessFlags := 18, slot := 0, constantValue := 0 }, { name := "column", type := .int, accessFlags := 18, slot := 1, constantValue := 0 }]
  methods := #[k10m0, k10m1, k10m2, k10m3]
  instanceTypes := #[.int, .int]
  staticTypes := #[]
  resolved := Array.replicate 79 none
  statics := none }

def pool11 : Array CpInfo := pool [(2, .class_ 4), (1, u "java/lang/Object"), (0, u "<init>"), (0, u "()V"), (35, .class_ 44), (1, u "java/util/Objects"), (61, .class_ 108), (1, u "jdk/internal/util/Preconditions"), (2, .methodref 106 112), (0, .nameAndType 113 114), (0, u "checkFromToIndex"), (0, u "(IIILjava/util/function/BiFunction;)I"), (60, u "(III)I")] 8

def k11m0 : Method := { name := "<init>", desc := "()V", sig := { parameters := [], returnType := none }, accessFlags := 2, code := none }
def k11c1 : Code := { maxStack := 4, maxLocals := 3, code := jdk_31_method_18_code, exceptionTable := #[], attributes := #[] }
def k11m1 : Method := { name := "checkFromToIndex", desc := "(III)I", sig := { parameters := [.int, .int, .int], returnType := some .int }, accessFlags := 9, code := some k11c1 }
/-- java/util/Objects -/
def k11 : Class := { plain "java/util/Objects" (some 0) with
  accessFlags := 49
  interfaces := #[]
  cf := some (fileOf pool11 42 #[] #[{ accessFlags := 2, nameIndex := 5, descriptorIndex := 6, attributes := #[] }, { accessFlags := 9, nameIndex := 113, descriptorIndex := 175, attributes := #[] }] 49 2 #[] #[])
  fields := #[]
  methods := #[k11m0, k11m1]
  instanceTypes := #[]
  staticTypes := #[]
  resolved := Array.replicate 184 none
  statics := none }

def pool12 : Array CpInfo := pool [(2, .class_ 4), (1, u "java/lang/Object"), (0, u "<init>"), (0, u "()V"), (17, .class_ 26), (1, u "jdk/internal/util/Preconditions"), (20, u "checkFromToIndex"), (7, .class_ 56), (0, u "jdk/internal/util/Preconditions$4"), (57, .class_ 115), (0, u "jdk/internal/util/Preconditions$1"), (7, u "SIOOBE_FORMATTER"), (0, u "Ljava/util/function/BiFunction;"), (0, .class_ 126), (0, u "jdk/internal/util/Preconditions$2"), (3, u "AIOOBE_FORMATTER"), (0, .class_ 132), (0, u "jdk/internal/util/Preconditions$3"), (3, u "IOOBE_FORMATTER"), (46, u "(IIILjava/util/function/BiFunction;)I")] 10

def k12m0 : Method := { name := "<init>", desc := "()V", sig := { parameters := [], returnType := none }, accessFlags := 1, code := none }
def k12c1 : Code := { maxStack := 4, maxLocals := 4, code := jdk_41_method_12_code, exceptionTable := #[], attributes := #[] }
def k12m1 : Method := { name := "checkFromToIndex", desc := "(IIILjava/util/function/BiFunction;)I", sig := { parameters := [.int, .int, .int, (.object "java/util/function/BiFunction")], returnType := some .int }, accessFlags := 9, code := some k12c1 }
/-- jdk/internal/util/Preconditions -/
def k12 : Class := { plain "jdk/internal/util/Preconditions" (some 0) with
  accessFlags := 33
  interfaces := #[]
  cf := some (fileOf pool12 24 #[.nestMembers #[55, 131, 125, 114]] #[{ accessFlags := 1, nameIndex := 5, descriptorIndex := 6, attributes := #[] }, { accessFlags := 9, nameIndex := 47, descriptorIndex := 183, attributes := #[] }] 33 2 #[] #[{ accessFlags := 25, nameIndex := 123, descriptorIndex := 124, attributes := #[] }, { accessFlags := 25, nameIndex := 130, descriptorIndex := 124, attributes := #[] }, { accessFlags := 25, nameIndex := 136, descriptorIndex := 124, attributes := #[] }])
  fields := #[{ name := "SIOOBE_FORMATTER", type := (.object "java/util/function/BiFunction"), accessFlags := 25, slot := 0, constantValue := 0 }, { name := "AIOOBE_FORMATTER", type := (.object "java/util/function/BiFunction"), accessFlags := 25, slot := 1, constantValue := 0 }, { name := "IOOBE_FORMATTER", type := (.object "java/util/function/BiFunction"), accessFlags := 25, slot := 2, constantValue := 0 }]
  methods := #[k12m0, k12m1]
  instanceTypes := #[]
  staticTypes := #[(.object "java/util/function/BiFunction"), (.object "java/util/function/BiFunction"), (.object "java/util/function/BiFunction")]
  resolved := Array.replicate 194 none
  statics := some 2 }

def pool13 : Array CpInfo := pool [(1, .class_ 2), (0, u "java/lang/Character"), (18, u "value"), (0, u "C"), (19, .class_ 44), (1, u "java/lang/Object"), (3, .class_ 50), (1, u "java/lang/Character$CharacterCache"), (24, .integer 55296), (0, .integer 56320), (0, .integer 57344), (2, u "isHighSurrogate"), (0, u "(C)Z"), (2, u "isLowSurrogate"), (199, u "$assertionsDisabled"), (0, u "Z"), (21, .class_ 309), (1, u "java/lang/Character$UnicodeBlock"), (73, u "TYPE"), (0, u "Ljava/lang/Class;"), (0, .class_ 386), (0, u "java/io/Serializable"), (0, .class_ 388), (0, u "java/lang/Comparable"), (0, .class_ 390), (0, u "java/lang/constant/Constable"), (0, u "MIN_RADIX"), (0, u "I"), (2, u "MAX_RADIX"), (1, u "MIN_VALUE"), (1, u "MAX_VALUE"), (3, u "UNASSIGNED"), (0, u "B"), (0, u "UPPERCASE_LETTER"), (1, u "LOWERCASE_LETTER"), (0, u "TITLECASE_LETTER"), (1, u "MODIFIER_LETTER"), (1, u "OTHER_LETTER"), (1, u "NON_SPACING_MARK"), (1, u "ENCLOSING_MARK"), (1, u "COMBINING_SPACING_MARK"), (1, u "DECIMAL_DIGIT_NUMBER"), (1, u "LETTER_NUMBER"), (1, u "OTHER_NUMBER"), (1, u "SPACE_SEPARATOR"), (1, u "LINE_SEPARATOR"), (1, u "PARAGRAPH_SEPARATOR"), (1, u "CONTROL"), (1, u "FORMAT"), (1, u "PRIVATE_USE"), (1, u "SURROGATE"), (1, u "DASH_PUNCTUATION"), (1, u "START_PUNCTUATION"), (1, u "END_PUNCTUATION"), (1, u "CONNECTOR_PUNCTUATION"), (1, u "OTHER_PUNCTUATION"), (1, u "MATH_SYMBOL"), (1, u "CURRENCY_SYMBOL"), (1, u "MODIFIER_SYMBOL"), (1, u "OTHER_SYMBOL"), (1, u "INITIAL_QUOTE_PUNCTUATION"), (1, u "FINAL_QUOTE_PUNCTUATION"), (1, u "ERROR"), (1, u "DIRECTIONALITY_UNDEFINED"), (0, u "DIRECTIONALITY_LEFT_TO_RIGHT"), (0, u "DIRECTIONALITY_RIGHT_TO_LEFT"), (0, u "DIRECTIONALITY_RIGHT_TO_LEFT_ARABIC"), (0, u "DIRECTIONALITY_EUROPEAN_NUMBER"), (0, u "DIRECTIONALITY_EUROPEAN_NUMBER_SEPARATOR"), (0, u "DIRECTIONALITY_EUROPEAN_NUMBER_TERMINATOR"), (0, u "DIRECTIONALITY_ARABIC_NUMBER"), (0, u "DIRECTIONALITY_COMMON_NUMBER_SEPARATOR"), (0, u "DIRECTIONALITY_NONSPACING_MARK"), (0, u "DIRECTIONALITY_BOUNDARY_NEUTRAL"), (0, u "DIRECTIONALITY_PARAGRAPH_SEPARATOR"), (0, u "DIRECTIONALITY_SEGMENT_SEPARATOR"), (0, u "DIRECTIONALITY_WHITESPACE"), (0, u "DIRECTIONALITY_OTHER_NEUTRALS"), (0, u "DIRECTIONALITY_LEFT_TO_RIGHT_EMBEDDING"), (0, u "DIRECTIONALITY_LEFT_TO_RIGHT_OVERRIDE"), (0, u "DIRECTIONALITY_RIGHT_TO_LEFT_EMBEDDING"), (0, u "DIRECTIONALITY_RIGHT_TO_LEFT_OVERRIDE"), (1, u "DIRECTIONALITY_POP_DIRECTIONAL_FORMAT"), (0, u "DIRECTIONALITY_LEFT_TO_RIGHT_ISOLATE"), (0, u "DIRECTIONALITY_RIGHT_TO_LEFT_ISOLATE"), (0, u "DIRECTIONALITY_FIRST_STRONG_ISOLATE"), (0, u "DIRECTIONALITY_POP_DIRECTIONAL_ISOLATE"), (0, u "MIN_HIGH_SURROGATE"), (0, u "MAX_HIGH_SURROGATE"), (1, u "MIN_LOW_SURROGATE"), (0, u "MAX_LOW_SURROGATE"), (1, u "MIN_SURROGATE"), (0, u "MAX_SURROGATE"), (0, u "MIN_SUPPLEMENTARY_CODE_POINT"), (0, u "MIN_CODE_POINT"), (0, u "MAX_CODE_POINT"), (1, u "serialVersionUID"), (0, u "J"), (2, u "SIZE"), (0, u "BYTES"), (88, .class_ 596), (0, u "java/lang/Character$UnicodeScript"), (0, .class_ 598), (0, u "java/lang/Character$Subset")] 5

def k13c0 : Code := { maxStack := 2, maxLocals := 1, code := jdk_89_method_14_code, exceptionTable := #[], attributes := #[] }
def k13m0 : Method := { name := "isHighSurrogate", desc := "(C)Z", sig := { parameters := [.char], returnType := some .boolean }, accessFlags := 9, code := some k13c0 }
def k13c1 : Code := { maxStack := 2, maxLocals := 1, code := jdk_89_method_15_code, exceptionTable := #[], attributes := #[] }
def k13m1 : Method := { name := "isLowSurrogate", desc := "(C)Z", sig := { parameters := [.char], returnType := some .boolean }, accessFlags := 9, code := some k13c1 }
/-- java/lang/Character -/
def k13 : Class := { plain "java/lang/Character" (some 0) with
  accessFlags := 49
  interfaces := #[2, 3, 5]
  cf := some (fileOf pool13 1 #[.nestMembers #[48, 595, 307, 597]] #[{ accessFlags := 9, nameIndex := 80, descriptorIndex := 81, attributes := #[] }, { accessFlags := 9, nameIndex := 84, descriptorIndex := 81, attributes := #[] }] 49 42 #[385, 387, 389] #[{ accessFlags := 25, nameIndex := 391, descriptorIndex := 392, attributes := #[] }, { accessFlags := 25, nameIndex := 395, descriptorIndex := 392, attributes := #[] }, { accessFlags := 25, nameIndex := 397, descriptorIndex := 22, attributes := #[] }, { accessFlags := 25, nameIndex := 399, descriptorIndex := 22, attributes := #[] }, { accessFlags := 25, nameIndex := 383, descriptorIndex := 384, attributes := #[] }, { accessFlags := 25, nameIndex := 403, descriptorIndex := 404, attributes := #[] }, { accessFlags := 25, nameIndex := 405, descriptorIndex := 404, attributes := #[] }, { accessFlags := 25, nameIndex := 407, descriptorIndex := 404, attributes := #[] }, { accessFlags := 25, nameIndex := 408, descriptorIndex := 404, attributes := #[] }, { accessFlags := 25, nameIndex := 410, descriptorIndex := 404, attributes := #[] }, { accessFlags := 25, nameIndex := 412, descriptorIndex := 404, attributes := #[] }, { accessFlags := 25, nameIndex := 414, descriptorIndex := 404, attributes := #[] }, { accessFlags := 25, nameIndex := 416, descriptorIndex := 404, attributes := #[] }, { accessFlags := 25, nameIndex := 418, descriptorIndex := 404, attributes := #[] }, { accessFlags := 25, nameIndex := 420, descriptorIndex := 404, attributes := #[] }, { accessFlags := 25, nameIndex := 422, descriptorIndex := 404, attributes := #[] }, { accessFlags := 25, nameIndex := 424, descriptorIndex := 404, attributes := #[] }, { accessFlags := 25, nameIndex := 426, descriptorIndex := 404, attributes := #[] }, { accessFlags := 25, nameIndex := 428, descriptorIndex := 404, attributes := #[] }, { accessFlags := 25, nameIndex := 430, descriptorIndex := 404, attributes := #[] }, { accessFlags := 25, nameIndex := 432, descriptorIndex := 404, attributes := #[] }, { accessFlags := 25, nameIndex := 434, descriptorIndex := 404, attributes := #[] }, { accessFlags := 25, nameIndex := 436, descriptorIndex := 404, attributes := #[] }, { accessFlags := 25, nameIndex := 438, descriptorIndex := 404, attributes := #[] }, { accessFlags := 25, nameIndex := 440, descriptorIndex := 404, attributes := #[] }, { accessFlags := 25, nameIndex := 442, descriptorIndex := 404, attributes := #[] }, { accessFlags := 25, nameIndex := 444, descriptorIndex := 404, attributes := #[] }, { accessFlags := 25, nameIndex := 446, descriptorIndex := 404, attributes := #[] }, { accessFlags := 25, nameIndex := 448, descriptorIndex := 404, attributes := #[] }, { accessFlags := 25, nameIndex := 450, descriptorIndex := 404, attributes := #[] }, { accessFlags := 25, nameIndex := 452, descriptorIndex := 404, attributes := #[] }, { accessFlags := 25, nameIndex := 454, descriptorIndex := 404, attributes := #[] }, { accessFlags := 25, nameIndex := 456, descriptorIndex := 404, attributes := #[] }, { accessFlags := 25, nameIndex := 458, descriptorIndex := 404, attributes := #[] }, { accessFlags := 25, nameIndex := 460, descriptorIndex := 404, attributes := #[] }, { accessFlags := 24, nameIndex := 462, descriptorIndex := 392, attributes := #[] }, { accessFlags := 25, nameIndex := 464, descriptorIndex := 404, attributes := #[] }, { accessFlags := 25, nameIndex := 465, descriptorIndex := 404, attributes := #[] }, { accessFlags := 25, nameIndex := 466, descriptorIndex := 404, attributes := #[] }, { accessFlags := 25, nameIndex := 467, descriptorIndex := 404, attributes := #[] }, { accessFlags := 25, nameIndex := 468, descriptorIndex := 404, attributes := #[] }, { accessFlags := 25, nameIndex := 469, descriptorIndex := 404, attributes := #[] }, { accessFlags := 25, nameIndex := 470, descriptorIndex := 404, attributes := #[] }, { accessFlags := 25, nameIndex := 471, descriptorIndex := 404, attributes := #[] }, { accessFlags := 25, nameIndex := 472, descriptorIndex := 404, attributes := #[] }, { accessFlags := 25, nameIndex := 473, descriptorIndex := 404, attributes := #[] }, { accessFlags := 25, nameIndex := 474, descriptorIndex := 404, attributes := #[] }, { accessFlags := 25, nameIndex := 475, descriptorIndex := 404, attributes := #[] }, { accessFlags := 25, nameIndex := 476, descriptorIndex := 404, attributes := #[] }, { accessFlags := 25, nameIndex := 477, descriptorIndex := 404, attributes := #[] }, { accessFlags := 25, nameIndex := 478, descriptorIndex := 404, attributes := #[] }, { accessFlags := 25, nameIndex := 479, descriptorIndex := 404, attributes := #[] }, { accessFlags := 25, nameIndex := 480, descriptorIndex := 404, attributes := #[] }, { accessFlags := 25, nameIndex := 481, descriptorIndex := 404, attributes := #[] }, { accessFlags := 25, nameIndex := 482, descriptorIndex := 404, attributes := #[] }, { accessFlags := 25, nameIndex := 484, descriptorIndex := 404, attributes := #[] }, { accessFlags := 25, nameIndex := 485, descriptorIndex := 404, attributes := #[] }, { accessFlags := 25, nameIndex := 486, descriptorIndex := 404, attributes := #[] }, { accessFlags := 25, nameIndex := 487, descriptorIndex := 404, attributes := #[] }, { accessFlags := 25, nameIndex := 488, descriptorIndex := 404, attributes := #[] }, { accessFlags := 25, nameIndex := 489, descriptorIndex := 22, attributes := #[] }, { accessFlags := 25, nameIndex := 490, descriptorIndex := 22, attributes := #[] }, { accessFlags := 25, nameIndex := 492, descriptorIndex := 22, attributes := #[] }, { accessFlags := 25, nameIndex := 493, descriptorIndex := 22, attributes := #[] }, { accessFlags := 25, nameIndex := 495, descriptorIndex := 22, attributes := #[] }, { accessFlags := 25, nameIndex := 496, descriptorIndex := 22, attributes := #[] }, { accessFlags := 25, nameIndex := 497, descriptorIndex := 392, attributes := #[] }, { accessFlags := 25, nameIndex := 498, descriptorIndex := 392, attributes := #[] }, { accessFlags := 25, nameIndex := 499, descriptorIndex := 392, attributes := #[] }, { accessFlags := 18, nameIndex := 21, descriptorIndex := 22, attributes := #[] }, { accessFlags := 26, nameIndex := 501, descriptorIndex := 502, attributes := #[] }, { accessFlags := 25, nameIndex := 505, descriptorIndex := 392, attributes := #[] }, { accessFlags := 25, nameIndex := 506, descriptorIndex := 392, attributes := #[] }, { accessFlags := 4120, nameIndex := 284, descriptorIndex := 285, attributes := #[] }])
  fields := #[{ name := "MIN_RADIX", type := .int, accessFlags := 25, slot := 0, constantValue := 0 }, { name := "MAX_RADIX", type := .int, accessFlags := 25, slot := 1, constantValue := 0 }, { name := "MIN_VALUE", type := .char, accessFlags := 25, slot := 2, constantValue := 0 }, { name := "MAX_VALUE", type := .char, accessFlags := 25, slot := 3, constantValue := 0 }, { name := "TYPE", type := (.object "java/lang/Class"), accessFlags := 25, slot := 4, constantValue := 0 }, { name := "UNASSIGNED", type := .byte, accessFlags := 25, slot := 5, constantValue := 0 }, { name := "UPPERCASE_LETTER", type := .byte, accessFlags := 25, slot := 6, constantValue := 0 }, { name := "LOWERCASE_LETTER", type := .byte, accessFlags := 25, slot := 7, constantValue := 0 }, { name := "TITLECASE_LETTER", type := .byte, accessFlags := 25, slot := 8, constantValue := 0 }, { name := "MODIFIER_LETTER", type := .byte, accessFlags := 25, slot := 9, constantValue := 0 }, { name := "OTHER_LETTER", type := .byte, accessFlags := 25, slot := 10, constantValue := 0 }, { name := "NON_SPACING_MARK", type := .byte, accessFlags := 25, slot := 11, constantValue := 0 }, { name := "ENCLOSING_MARK", type := .byte, accessFlags := 25, slot := 12, constantValue := 0 }, { name := "COMBINING_SPACING_MARK", type := .byte, accessFlags := 25, slot := 13, constantValue := 0 }, { name := "DECIMAL_DIGIT_NUMBER", type := .byte, accessFlags := 25, slot := 14, constantValue := 0 }, { name := "LETTER_NUMBER", type := .byte, accessFlags := 25, slot := 15, constantValue := 0 }, { name := "OTHER_NUMBER", type := .byte, accessFlags := 25, slot := 16, constantValue := 0 }, { name := "SPACE_SEPARATOR", type := .byte, accessFlags := 25, slot := 17, constantValue := 0 }, { name := "LINE_SEPARATOR", type := .byte, accessFlags := 25, slot := 18, constantValue := 0 }, { name := "PARAGRAPH_SEPARATOR", type := .byte, accessFlags := 25, slot := 19, constantValue := 0 }, { name := "CONTROL", type := .byte, accessFlags := 25, slot := 20, constantValue := 0 }, { name := "FORMAT", type := .byte, accessFlags := 25, slot := 21, constantValue := 0 }, { name := "PRIVATE_USE", type := .byte, accessFlags := 25, slot := 22, constantValue := 0 }, { name := "SURROGATE", type := .byte, accessFlags := 25, slot := 23, constantValue := 0 }, { name := "DASH_PUNCTUATION", type := .byte, accessFlags := 25, slot := 24, constantValue := 0 }, { name := "START_PUNCTUATION", type := .byte, accessFlags := 25, slot := 25, constantValue := 0 }, { name := "END_PUNCTUATION", type := .byte, accessFlags := 25, slot := 26, constantValue := 0 }, { name := "CONNECTOR_PUNCTUATION", type := .byte, accessFlags := 25, slot := 27, constantValue := 0 }, { name := "OTHER_PUNCTUATION", type := .byte, accessFlags := 25, slot := 28, constantValue := 0 }, { name := "MATH_SYMBOL", type := .byte, accessFlags := 25, slot := 29, constantValue := 0 }, { name := "CURRENCY_SYMBOL", type := .byte, accessFlags := 25, slot := 30, constantValue := 0 }, { name := "MODIFIER_SYMBOL", type := .byte, accessFlags := 25, slot := 31, constantValue := 0 }, { name := "OTHER_SYMBOL", type := .byte, accessFlags := 25, slot := 32, constantValue := 0 }, { name := "INITIAL_QUOTE_PUNCTUATION", type := .byte, accessFlags := 25, slot := 33, constantValue := 0 }, { name := "FINAL_QUOTE_PUNCTUATION", type := .byte, accessFlags := 25, slot := 34, constantValue := 0 }, { name := "ERROR", type := .int, accessFlags := 24, slot := 35, constantValue := 0 }, { name := "DIRECTIONALITY_UNDEFINED", type := .byte, accessFlags := 25, slot := 36, constantValue := 0 }, { name := "DIRECTIONALITY_LEFT_TO_RIGHT", type := .byte, accessFlags := 25, slot := 37, constantValue := 0 }, { name := "DIRECTIONALITY_RIGHT_TO_LEFT", type := .byte, accessFlags := 25, slot := 38, constantValue := 0 }, { name := "DIRECTIONALITY_RIGHT_TO_LEFT_ARABIC", type := .byte, accessFlags := 25, slot := 39, constantValue := 0 }, { name := "DIRECTIONALITY_EUROPEAN_NUMBER", type := .byte, accessFlags := 25, slot := 40, constantValue := 0 }, { name := "DIRECTIONALITY_EUROPEAN_NUMBER_SEPARATOR", type := .byte, accessFlags := 25, slot := 41, constantValue := 0 }, { name := "DIRECTIONALITY_EUROPEAN_NUMBER_TERMINATOR", type := .byte, accessFlags := 25, slot := 42, constantValue := 0 }, { name := "DIRECTIONALITY_ARABIC_NUMBER", type := .byte, accessFlags := 25, slot := 43, constantValue := 0 }, { name := "DIRECTIONALITY_COMMON_NUMBER_SEPARATOR", type := .byte, accessFlags := 25, slot := 44, constantValue := 0 }, { name := "DIRECTIONALITY_NONSPACING_MARK", type := .byte, accessFlags := 25, slot := 45, constantValue := 0 }, { name := "DIRECTIONALITY_BOUNDARY_NEUTRAL", type := .byte, accessFlags := 25, slot := 46, constantValue := 0 }, { name := "DIRECTIONALITY_PARAGRAPH_SEPARATOR", type := .byte, accessFlags := 25, slot := 47, constantValue := 0 }, { name := "DIRECTIONALITY_SEGMENT_SEPARATOR", type := .byte, accessFlags := 25, slot := 48, constantValue := 0 }, { name := "DIRECTIONALITY_WHITESPACE", type := .byte, accessFlags := 25, slot := 49, constantValue := 0 }, { name := "DIRECTIONALITY_OTHER_NEUTRALS", type := .byte, accessFlags := 25, slot := 50, constantValue := 0 }, { name := "DIRECTIONALITY_LEFT_TO_RIGHT_EMBEDDING", type := .byte, accessFlags := 25, slot := 51, constantValue := 0 }, { name := "DIRECTIONALITY_LEFT_TO_RIGHT_OVERRIDE", type := .byte, accessFlags := 25, slot := 52, constantValue := 0 }, { name := "DIRECTIONALITY_RIGHT_TO_LEFT_EMBEDDING", type := .byte, accessFlags := 25, slot := 53, constantValue := 0 }, { name := "DIRECTIONALITY_RIGHT_TO_LEFT_OVERRIDE", type := .byte, accessFlags := 25, slot := 54, constantValue := 0 }, { name := "DIRECTIONALITY_POP_DIRECTIONAL_FORMAT", type := .byte, accessFlags := 25, slot := 55, constantValue := 0 }, { name := "DIRECTIONALITY_LEFT_TO_RIGHT_ISOLATE", type := .byte, accessFlags := 25, slot := 56, constantValue := 0 }, { name := "DIRECTIONALITY_RIGHT_TO_LEFT_ISOLATE", type := .byte, accessFlags := 25, slot := 57, constantValue := 0 }, { name := "DIRECTIONALITY_FIRST_STRONG_ISOLATE", type := .byte, accessFlags := 25, slot := 58, constantValue := 0 }, { name := "DIRECTIONALITY_POP_DIRECTIONAL_ISOLATE", type := .byte, accessFlags := 25, slot := 59, constantValue := 0 }, { name := "MIN_HIGH_SURROGATE", type := .char, accessFlags := 25, slot := 60, constantValue := 0 }, { name := "MAX_HIGH_SURROGATE", type := .char, accessFlags := 25, slot := 61, constantValue := 0 }, { name := "MIN_LOW_SURROGATE", type := .char, accessFlags := 25, slot := 62, constantValue := 0 }, { name := "MAX_LOW_SURROGATE", type := .char, accessFlags := 25, slot := 63, constantValue := 0 }, { name := "MIN_SURROGATE", type := .char, accessFlags := 25, slot := 64, constantValue := 0 }, { name := "MAX_SURROGATE", type := .char, accessFlags := 25, slot := 65, constantValue := 0 }, { name := "MIN_SUPPLEMENTARY_CODE_POINT", type := .int, accessFlags := 25, slot := 66, constantValue := 0 }, { name := "MIN_CODE_POINT", type := .int, accessFlags := 25, slot := 67, constantValue := 0 }, { name := "MAX_CODE_POINT", type := .int, accessFlags := 25, slot := 68, constantValue := 0 }, { name := "value", type := .char, accessFlags := 18, slot := 0, constantValue := 0 }, { name := "serialVersionUID", type := .long, accessFlags := 26, slot := 69, constantValue := 0 }, { name := "SIZE", type := .int, accessFlags := 25, slot := 70, constantValue := 0 }, { name := "BYTES", type := .int, accessFlags := 25, slot := 71, constantValue := 0 }, { name := "$assertionsDisabled", type := .boolean, accessFlags := 4120, slot := 72, constantValue := 0 }]
  methods := #[k13m0, k13m1]
  instanceTypes := #[.char]
  staticTypes := #[.int, .int, .char, .char, (.object "java/lang/Class"), .byte, .byte, .byte, .byte, .byte, .byte, .byte, .byte, .byte, .byte, .byte, .byte, .byte, .byte, .byte, .byte, .byte, .byte, .byte, .byte, .byte, .byte, .byte, .byte, .byte, .byte, .byte, .byte, .byte, .byte, .int, .byte, .byte, .byte, .byte, .byte, .byte, .byte, .byte, .byte, .byte, .byte, .byte, .byte, .byte, .byte, .byte, .byte, .byte, .byte, .byte, .byte, .byte, .byte, .byte, .char, .char, .char, .char, .char, .char, .int, .int, .int, .long, .int, .int, .boolean]
  resolved := Array.replicate 604 none
  statics := none }

def pool14 : Array CpInfo := pool [(4, .class_ 6), (1, u "java/lang/Object"), (0, u "<init>"), (0, u "()V"), (5, .class_ 16), (1, u "java/lang/StringLatin1"), (104, u "$assertionsDisabled"), (0, u "Z"), (98, .class_ 223), (1, u "java/lang/StringLatin1$LinesSpliterator"), (166, .class_ 391), (0, u "java/lang/StringLatin1$CharsSpliterator")] 3

def k14m0 : Method := { name := "<init>", desc := "()V", sig := { parameters := [], returnType := none }, accessFlags := 0, code := none }
/-- java/lang/StringLatin1 -/
def k14 : Class := { plain "java/lang/StringLatin1" (some 0) with
  accessFlags := 48
  interfaces := #[]
  cf := some (fileOf pool14 14 #[.nestMembers #[390, 221]] #[{ accessFlags := 0, nameIndex := 7, descriptorIndex := 8, attributes := #[] }] 48 4 #[] #[{ accessFlags := 4120, nameIndex := 121, descriptorIndex := 122, attributes := #[] }])
  fields := #[{ name := "$assertionsDisabled", type := .boolean, accessFlags := 4120, slot := 0, constantValue := 0 }]
  methods := #[k14m0]
  instanceTypes := #[]
  staticTypes := #[.boolean]
  resolved := Array.replicate 395 none
  statics := none }

def pool15 : Array CpInfo := pool [(9, u "<init>"), (6, .class_ 18), (1, u "java/lang/Object"), (0, u "()V"), (1, .class_ 23), (1, u "jdk/internal/util/ArraysSupport"), (0, u "LOG2_ARRAY_LONG_INDEX_SCALE"), (0, u "I"), (2, u "U"), (0, u "Ljdk/internal/misc/Unsafe;"), (8, u "BIG_ENDIAN"), (0, u "Z"), (8, u "LOG2_BYTE_BIT_SIZE"), (4, u "LOG2_ARRAY_INT_INDEX_SCALE"), (54, u "JLA"), (0, u "Ljdk/internal/access/JavaLangAccess;"), (11, u "LOG2_ARRAY_BOOLEAN_INDEX_SCALE"), (9, u "LOG2_ARRAY_BYTE_INDEX_SCALE"), (5, u "LOG2_ARRAY_CHAR_INDEX_SCALE"), (5, u "LOG2_ARRAY_SHORT_INDEX_SCALE"), (18, u "LOG2_ARRAY_FLOAT_INDEX_SCALE"), (24, u "LOG2_ARRAY_DOUBLE_INDEX_SCALE"), (89, u "T_BOOLEAN"), (2, u "T_CHAR"), (1, u "T_FLOAT"), (1, u "T_DOUBLE"), (1, u "T_BYTE"), (1, u "T_SHORT"), (1, u "T_INT"), (1, u "T_LONG"), (1, u "SOFT_MAX_ARRAY_LENGTH")] 83

def k15m0 : Method := { name := "<init>", desc := "()V", sig := { parameters := [], returnType := none }, accessFlags := 2, code := none }
/-- jdk/internal/util/ArraysSupport -/
def k15 : Class := { plain "jdk/internal/util/ArraysSupport" (some 0) with
  accessFlags := 33
  interfaces := #[]
  cf := some (fileOf pool15 21 #[] #[{ accessFlags := 2, nameIndex := 9, descriptorIndex := 19, attributes := #[] }] 33 16 #[] #[{ accessFlags := 24, nameIndex := 28, descriptorIndex := 29, attributes := #[] }, { accessFlags := 26, nameIndex := 38, descriptorIndex := 39, attributes := #[] }, { accessFlags := 25, nameIndex := 121, descriptorIndex := 25, attributes := #[] }, { accessFlags := 25, nameIndex := 131, descriptorIndex := 25, attributes := #[] }, { accessFlags := 25, nameIndex := 137, descriptorIndex := 25, attributes := #[] }, { accessFlags := 25, nameIndex := 143, descriptorIndex := 25, attributes := #[] }, { accessFlags := 25, nameIndex := 53, descriptorIndex := 25, attributes := #[] }, { accessFlags := 25, nameIndex := 24, descriptorIndex := 25, attributes := #[] }, { accessFlags := 25, nameIndex := 162, descriptorIndex := 25, attributes := #[] }, { accessFlags := 25, nameIndex := 187, descriptorIndex := 25, attributes := #[] }, { accessFlags := 26, nameIndex := 48, descriptorIndex := 25, attributes := #[] }, { accessFlags := 25, nameIndex := 277, descriptorIndex := 25, attributes := #[] }, { accessFlags := 25, nameIndex := 280, descriptorIndex := 25, attributes := #[] }, { accessFlags := 25, nameIndex := 282, descriptorIndex := 25, attributes := #[] }, { accessFlags := 25, nameIndex := 284, descriptorIndex := 25, attributes := #[] }, { accessFlags := 25, nameIndex := 286, descriptorIndex := 25, attributes := #[] }, { accessFlags := 25, nameIndex := 288, descriptorIndex := 25, attributes := #[] }, { accessFlags := 25, nameIndex := 290, descriptorIndex := 25, attributes := #[] }, { accessFlags := 25, nameIndex := 292, descriptorIndex := 25, attributes := #[] }, { accessFlags := 26, nameIndex := 108, descriptorIndex := 109, attributes := #[] }, { accessFlags := 25, nameIndex := 294, descriptorIndex := 25, attributes := #[] }])
  fields := #[{ name := "U", type := (.object "jdk/internal/misc/Unsafe"), accessFlags := 24, slot := 0, constantValue := 0 }, { name := "BIG_ENDIAN", type := .boolean, accessFlags := 26, slot := 1, constantValue := 0 }, { name := "LOG2_ARRAY_BOOLEAN_INDEX_SCALE", type := .int, accessFlags := 25, slot := 2, constantValue := 0 }, { name := "LOG2_ARRAY_BYTE_INDEX_SCALE", type := .int, accessFlags := 25, slot := 3, constantValue := 0 }, { name := "LOG2_ARRAY_CHAR_INDEX_SCALE", type := .int, accessFlags := 25, slot := 4, constantValue := 0 }, { name := "LOG2_ARRAY_SHORT_INDEX_SCALE", type := .int, accessFlags := 25, slot := 5, constantValue := 0 }, { name := "LOG2_ARRAY_INT_INDEX_SCALE", type := .int, accessFlags := 25, slot := 6, constantValue := 0 }, { name := "LOG2_ARRAY_LONG_INDEX_SCALE", type := .int, accessFlags := 25, slot := 7, constantValue := 0 }, { name := "LOG2_ARRAY_FLOAT_INDEX_SCALE", type := .int, accessFlags := 25, slot := 8, constantValue := 0 }, { name := "LOG2_ARRAY_DOUBLE_INDEX_SCALE", type := .int, accessFlags := 25, slot := 9, constantValue := 0 }, { name := "LOG2_BYTE_BIT_SIZE", type := .int, accessFlags := 26, slot := 10, constantValue := 0 }, { name := "T_BOOLEAN", type := .int, accessFlags := 25, slot := 11, constantValue := 0 }, { name := "T_CHAR", type := .int, accessFlags := 25, slot := 12, constantValue := 0 }, { name := "T_FLOAT", type := .int, accessFlags := 25, slot := 13, constantValue := 0 }, { name := "T_DOUBLE", type := .int, accessFlags := 25, slot := 14, constantValue := 0 }, { name := "T_BYTE", type := .int, accessFlags := 25, slot := 15, constantValue := 0 }, { name := "T_SHORT", type := .int, accessFlags := 25, slot := 16, constantValue := 0 }, { name := "T_INT", type := .int, accessFlags := 25, slot := 17, constantValue := 0 }, { name := "T_LONG", type := .int, accessFlags := 25, slot := 18, constantValue := 0 }, { name := "JLA", type := (.object "jdk/internal/access/JavaLangAccess"), accessFlags := 26, slot := 19, constantValue := 0 }, { name := "SOFT_MAX_ARRAY_LENGTH", type := .int, accessFlags := 25, slot := 20, constantValue := 0 }]
  methods := #[k15m0]
  instanceTypes := #[]
  staticTypes := #[(.object "jdk/internal/misc/Unsafe"), .boolean, .int, .int, .int, .int, .int, .int, .int, .int, .int, .int, .int, .int, .int, .int, .int, .int, .int, (.object "jdk/internal/access/JavaLangAccess"), .int]
  resolved := Array.replicate 378 none
  statics := none }

def pool16 : Array CpInfo := pool [(1, u "java/lang/Cloneable"), (0, .class_ 1), (0, u "java/lang/Object"), (0, .class_ 3)] 3

/-- java/lang/Cloneable -/
def k16 : Class := { plain "java/lang/Cloneable" (some 0) with
  accessFlags := 1537
  interfaces := #[]
  cf := some (fileOf pool16 2 #[] #[] 1537 4 #[] #[])
  fields := #[]
  methods := #[]
  instanceTypes := #[]
  staticTypes := #[]
  resolved := Array.replicate 8 none
  statics := none }

/-- the primitive byte -/
def k17 : Class := { plain "byte" none with kind := .primitive 'B', accessFlags := 0x411 }
/-- [B -/
def k18 : Class := { plain "[B" (some 0) with kind := .array 17 .byte, interfaces := #[16, 2], accessFlags := 1041 }

/-- the primitive char -/
def k19 : Class := { plain "char" none with kind := .primitive 'C', accessFlags := 0x411 }
/-- [C -/
def k20 : Class := { plain "[C" (some 0) with kind := .array 19 .char, interfaces := #[16, 2], accessFlags := 1041 }

/-- the primitive int -/
def k21 : Class := { plain "int" none with kind := .primitive 'I', accessFlags := 0x411 }
/-- [I -/
def k22 : Class := { plain "[I" (some 0) with kind := .array 21 .int, interfaces := #[16, 2], accessFlags := 1041 }

def heap : Heap := #[{ cls := 7, slots := #[.long 0, .int 1, .null, .int 0, .null, .int 0, .int 0], vm := .statics 7 },
  { cls := 8, slots := #[.int 0, .int 8, .int 0, .int 1], vm := .statics 8 },
  { cls := 12, slots := #[.null, .null, .null], vm := .statics 12 }]
def classes : Array Class := #[k0, k1, k2, k3, k4, k5, k6, k7, k8, k9, k10, k11, k12, k13, k14, k15, k16, k17, k18, k19, k20, k21, k22]
def interned : List (Array UInt16 × Addr) := []
def slotsUsed : Nat := 14
def theMethod : MethodId := ⟨1, 3⟩
def args0 : Array Value := #[.int 5, .int 7, .int 9, .int 11, .int 13, .int 15]
def aboutOver (below : List Frame) : State where
  vm := { classes := classes, interned := interned.toArray }
  heap := heap
  slotsUsed := slotsUsed
  threads := #[{ frames := .invoking theMethod args0 :: below }]
def below0 : List Frame := [.native { method := ⟨0, 0⟩, args := #[] }]
def about1 : State := aboutOver below0
def p0 : Program := .bare "" "" ""
def e0 : Env := launch0.env 0 0 0
theorem w_frames : about1.frames = Frame.invoking theMethod args0 :: below0 := rfl
set_option maxRecDepth 65536 in
theorem w_args : argsFit about1.vm theMethod args0 = true := by decide +kernel
set_option maxRecDepth 65536 in
theorem w_heap : heapFits about1 = true := by decide +kernel
set_option maxRecDepth 65536 in
theorem w_runnable : about1.curStatus? = some .runnable := by decide +kernel
set_option maxRecDepth 65536 in
theorem w_alone : about1.alone = true := by decide +kernel
set_option maxRecDepth 65536 in
theorem w_named : about1.methodNamed? x = some theMethod := by decide +kernel
set_option maxRecDepth 65536 in
theorem w_hears : about1.hears theMethod below0 = true := by decide +kernel
set_option maxRecDepth 65536 in
theorem w_ripe : about1.ripe theMethod args0 below0 = true := by decide +kernel
theorem w_running : about1.status = .running := rfl
set_option maxRecDepth 65536 in
theorem w_room : about1.hasRoom e0.platform room_1 = true :=
  launch0.hasRoom_least _ room_1 (by decide +kernel) (by decide +kernel) (by decide +kernel) (by decide +kernel) (by decide +kernel) (by decide +kernel)
theorem allAtoms_all (ts : List Jvm.Cond) (a : Array Jvm.Value) (st : Jvm.State) : (allAtoms ts).before a st = ts.all (fun c => c.before a st) := by
  induction ts with
  | nil => rfl
  | cons c t ih =>
    show (Jvm.Cond.and c (allAtoms t)).before a st = _
    rw [Jvm.Cond.before_and, ih, List.all_cons]
def words1 : List Jvm.Cond := Jvm.Cond.code x code maxLocals ret :: tables_1
/-- a 'code' word, met by the world's own term for the bytes: nothing is compared byte by byte -/
theorem code_word {y : MethodName} {bytes : ByteArray} {mx : Nat} {rt : Option FieldType} {a : Array Value} {s : State} {m : MethodId} {meth : Method} {c : Code} (h1 : s.methodNamed? y = some m) (h2 : s.vm.method? m = some meth) (h3 : meth.code = some c) (h4 : c.code = bytes)
    (h5 : (c.maxLocals == mx && c.exceptionTable.isEmpty && decide (c.maxStack ≤ mostOperands) && decide (meth.sig.returnType = rt) && !meth.locks && decide (parseMethodDescriptor y.desc = some meth.sig)) = true) : (Jvm.Cond.code y bytes mx rt).before a s = true := by
  simp only [Bool.and_eq_true, beq_iff_eq, Bool.not_eq_true', decide_eq_true_eq] at h5
  obtain ⟨⟨⟨⟨⟨g1, g2⟩, g3⟩, g4⟩, g5⟩, g6⟩ := h5
  simp [Cond.before, Cond.holds, Cond.value, h1, h2, h3, h4, g1, g2, g3, g4, g5, g6]
def isCode : Jvm.Cond → Bool
  | .code _ _ _ _ => true
  | _ => false
theorem all_split {L : List Jvm.Cond} {P : Jvm.Cond → Bool} (h1 : L.all (fun c => isCode c || P c) = true) (h2 : ∀ c ∈ L.filter isCode, P c = true) : L.all P = true := by
  refine List.all_eq_true.mpr fun c hc => ?_
  have h := List.all_eq_true.mp h1 c hc
  rcases Bool.eq_false_or_eq_true (isCode c) with hi | hi
  · exact h2 c (List.mem_filter.mpr ⟨hc, hi⟩)
  · simpa [hi] using h
set_option maxRecDepth 65536 in
theorem w_c0 : (Jvm.Cond.code x code maxLocals ret).before args0 about1 = true := code_word (m := ⟨1, 3⟩) (meth := k1m3) (c := k1c3) (by decide +kernel) rfl rfl rfl (by decide +kernel)
set_option maxRecDepth 65536 in
theorem w_c1 : (Jvm.Cond.code ({ cls := "com/example/contractlint/contractlint/model/PositionInLinePinLaw", name := "mk", desc := "(I)C" } : Jvm.MethodName) method_2_code (3 : Nat) (Option.some Jvm.ClassFile.FieldType.char)).before args0 about1 = true := code_word (m := ⟨1, 1⟩) (meth := k1m1) (c := k1c1) (by decide +kernel) rfl rfl rfl (by decide +kernel)
set_option maxRecDepth 65536 in
theorem w_c2 : (Jvm.Cond.code ({ cls := "java/lang/String", name := "<init>", desc := "([C)V" } : Jvm.MethodName) jdk_42_method_3_code (2 : Nat) (Option.none : Option Jvm.ClassFile.FieldType)).before args0 about1 = true := code_word (m := ⟨7, 1⟩) (meth := k7m1) (c := k7c1) (by decide +kernel) rfl rfl rfl (by decide +kernel)
set_option maxRecDepth 65536 in
theorem w_c3 : (Jvm.Cond.code ({ cls := "java/lang/String", name := "<init>", desc := "([CIILjava/lang/Void;)V" } : Jvm.MethodName) jdk_42_method_149_code (6 : Nat) (Option.none : Option Jvm.ClassFile.FieldType)).before args0 about1 = true := code_word (m := ⟨7, 4⟩) (meth := k7m4) (c := k7c4) (by decide +kernel) rfl rfl rfl (by decide +kernel)
set_option maxRecDepth 65536 in
theorem w_c4 : (Jvm.Cond.code ({ cls := "java/lang/Object", name := "<init>", desc := "()V" } : Jvm.MethodName) object_method_1_code (1 : Nat) (Option.none : Option Jvm.ClassFile.FieldType)).before args0 about1 = true := code_word (m := ⟨0, 0⟩) (meth := k0m0) (c := k0c0) (by decide +kernel) rfl rfl rfl (by decide +kernel)
set_option maxRecDepth 65536 in
theorem w_c5 : (Jvm.Cond.code ({ cls := "java/lang/StringUTF16", name := "compress", desc := "([CII)[B" } : Jvm.MethodName) jdk_52_method_16_code (6 : Nat) (Option.some (Jvm.ClassFile.FieldType.array Jvm.ClassFile.FieldType.byte))).before args0 about1 = true := code_word (m := ⟨8, 9⟩) (meth := k8m9) (c := k8c9) (by decide +kernel) rfl rfl rfl (by decide +kernel)
set_option maxRecDepth 65536 in
theorem w_c6 : (Jvm.Cond.code ({ cls := "java/lang/StringUTF16", name := "compress", desc := "([CI[BII)I" } : Jvm.MethodName) jdk_52_method_21_code (7 : Nat) (Option.some Jvm.ClassFile.FieldType.int)).before args0 about1 = true := code_word (m := ⟨8, 10⟩) (meth := k8m10) (c := k8c10) (by decide +kernel) rfl rfl rfl (by decide +kernel)
set_option maxRecDepth 65536 in
theorem w_c7 : (Jvm.Cond.code ({ cls := "java/lang/StringUTF16", name := "toBytes", desc := "([CII)[B" } : Jvm.MethodName) jdk_52_method_14_code (5 : Nat) (Option.some (Jvm.ClassFile.FieldType.array Jvm.ClassFile.FieldType.byte))).before args0 about1 = true := code_word (m := ⟨8, 7⟩) (meth := k8m7) (c := k8c7) (by decide +kernel) rfl rfl rfl (by decide +kernel)
set_option maxRecDepth 65536 in
theorem w_c8 : (Jvm.Cond.code ({ cls := "java/lang/StringUTF16", name := "newBytesFor", desc := "(I)[B" } : Jvm.MethodName) jdk_52_method_2_code (1 : Nat) (Option.some (Jvm.ClassFile.FieldType.array Jvm.ClassFile.FieldType.byte))).before args0 about1 = true := code_word (m := ⟨8, 1⟩) (meth := k8m1) (c := k8c1) (by decide +kernel) rfl rfl rfl (by decide +kernel)
set_option maxRecDepth 65536 in
theorem w_c9 : (Jvm.Cond.code ({ cls := "java/lang/StringUTF16", name := "newBytesLength", desc := "(I)I" } : Jvm.MethodName) jdk_52_method_3_code (1 : Nat) (Option.some Jvm.ClassFile.FieldType.int)).before args0 about1 = true := code_word (m := ⟨8, 2⟩) (meth := k8m2) (c := k8c2) (by decide +kernel) rfl rfl rfl (by decide +kernel)
set_option maxRecDepth 65536 in
theorem w_c10 : (Jvm.Cond.code ({ cls := "java/lang/StringUTF16", name := "putChar", desc := "([BII)V" } : Jvm.MethodName) jdk_52_method_4_code (3 : Nat) (Option.none : Option Jvm.ClassFile.FieldType)).before args0 about1 = true := code_word (m := ⟨8, 3⟩) (meth := k8m3) (c := k8c3) (by decide +kernel) rfl rfl rfl (by decide +kernel)
set_option maxRecDepth 65536 in
theorem w_c11 : (Jvm.Cond.code ({ cls := "java/lang/StringUTF16", name := "getChar", desc := "([BI)C" } : Jvm.MethodName) jdk_52_method_5_code (2 : Nat) (Option.some Jvm.ClassFile.FieldType.char)).before args0 about1 = true := code_word (m := ⟨8, 4⟩) (meth := k8m4) (c := k8c4) (by decide +kernel) rfl rfl rfl (by decide +kernel)
set_option maxRecDepth 65536 in
theorem w_c12 : (Jvm.Cond.code ({ cls := "java/lang/StringUTF16", name := "coderFromArrayLen", desc := "([BI)B" } : Jvm.MethodName) jdk_52_method_15_code (2 : Nat) (Option.some Jvm.ClassFile.FieldType.byte)).before args0 about1 = true := code_word (m := ⟨8, 8⟩) (meth := k8m8) (c := k8c8) (by decide +kernel) rfl rfl rfl (by decide +kernel)
set_option maxRecDepth 65536 in
theorem w_c13 : (Jvm.Cond.code ({ cls := "com/example/contractlint/contractlint/model/PositionInLinePinLaw", name := "w", desc := "(CC)I" } : Jvm.MethodName) method_3_code (4 : Nat) (Option.some Jvm.ClassFile.FieldType.int)).before args0 about1 = true := code_word (m := ⟨1, 2⟩) (meth := k1m2) (c := k1c2) (by decide +kernel) rfl rfl rfl (by decide +kernel)
set_option maxRecDepth 65536 in
theorem w_c14 : (Jvm.Cond.code ({ cls := "com/example/contractlint/contractlint/model/Position", name := "inLine", desc := "(ILjava/lang/String;I)Lcom/example/contractlint/contractlint/model/Position;" } : Jvm.MethodName) prog_47_method_3_code (3 : Nat) (Option.some (Jvm.ClassFile.FieldType.object "com/example/contractlint/contractlint/model/Position"))).before args0 about1 = true := code_word (m := ⟨10, 1⟩) (meth := k10m1) (c := k10c1) (by decide +kernel) rfl rfl rfl (by decide +kernel)
set_option maxRecDepth 65536 in
theorem w_c15 : (Jvm.Cond.code ({ cls := "java/lang/String", name := "codePointCount", desc := "(II)I" } : Jvm.MethodName) jdk_42_method_59_code (3 : Nat) (Option.some Jvm.ClassFile.FieldType.int)).before args0 about1 = true := code_word (m := ⟨7, 3⟩) (meth := k7m3) (c := k7c3) (by decide +kernel) rfl rfl rfl (by decide +kernel)
set_option maxRecDepth 65536 in
theorem w_c16 : (Jvm.Cond.code ({ cls := "java/lang/String", name := "length", desc := "()I" } : Jvm.MethodName) jdk_42_method_54_code (1 : Nat) (Option.some Jvm.ClassFile.FieldType.int)).before args0 about1 = true := code_word (m := ⟨7, 2⟩) (meth := k7m2) (c := k7c2) (by decide +kernel) rfl rfl rfl (by decide +kernel)
set_option maxRecDepth 65536 in
theorem w_c17 : (Jvm.Cond.code ({ cls := "java/lang/String", name := "coder", desc := "()B" } : Jvm.MethodName) jdk_42_method_152_code (1 : Nat) (Option.some Jvm.ClassFile.FieldType.byte)).before args0 about1 = true := code_word (m := ⟨7, 5⟩) (meth := k7m5) (c := k7c5) (by decide +kernel) rfl rfl rfl (by decide +kernel)
set_option maxRecDepth 65536 in
theorem w_c18 : (Jvm.Cond.code ({ cls := "java/util/Objects", name := "checkFromToIndex", desc := "(III)I" } : Jvm.MethodName) jdk_31_method_18_code (3 : Nat) (Option.some Jvm.ClassFile.FieldType.int)).before args0 about1 = true := code_word (m := ⟨11, 1⟩) (meth := k11m1) (c := k11c1) (by decide +kernel) rfl rfl rfl (by decide +kernel)
set_option maxRecDepth 65536 in
theorem w_c19 : (Jvm.Cond.code ({ cls := "jdk/internal/util/Preconditions", name := "checkFromToIndex", desc := "(IIILjava/util/function/BiFunction;)I" } : Jvm.MethodName) jdk_41_method_12_code (4 : Nat) (Option.some Jvm.ClassFile.FieldType.int)).before args0 about1 = true := code_word (m := ⟨12, 1⟩) (meth := k12m1) (c := k12c1) (by decide +kernel) rfl rfl rfl (by decide +kernel)
set_option maxRecDepth 65536 in
theorem w_c20 : (Jvm.Cond.code ({ cls := "java/lang/String", name := "isLatin1", desc := "()Z" } : Jvm.MethodName) jdk_42_method_154_code (1 : Nat) (Option.some Jvm.ClassFile.FieldType.boolean)).before args0 about1 = true := code_word (m := ⟨7, 6⟩) (meth := k7m6) (c := k7c6) (by decide +kernel) rfl rfl rfl (by decide +kernel)
set_option maxRecDepth 65536 in
theorem w_c21 : (Jvm.Cond.code ({ cls := "java/lang/StringUTF16", name := "codePointCount", desc := "([BII)I" } : Jvm.MethodName) jdk_52_method_12_code (3 : Nat) (Option.some Jvm.ClassFile.FieldType.int)).before args0 about1 = true := code_word (m := ⟨8, 6⟩) (meth := k8m6) (c := k8c6) (by decide +kernel) rfl rfl rfl (by decide +kernel)
set_option maxRecDepth 65536 in
theorem w_c22 : (Jvm.Cond.code ({ cls := "java/lang/StringUTF16", name := "codePointCount", desc := "([BIIZ)I" } : Jvm.MethodName) jdk_52_method_11_code (6 : Nat) (Option.some Jvm.ClassFile.FieldType.int)).before args0 about1 = true := code_word (m := ⟨8, 5⟩) (meth := k8m5) (c := k8c5) (by decide +kernel) rfl rfl rfl (by decide +kernel)
set_option maxRecDepth 65536 in
theorem w_c23 : (Jvm.Cond.code ({ cls := "java/lang/Character", name := "isHighSurrogate", desc := "(C)Z" } : Jvm.MethodName) jdk_89_method_14_code (1 : Nat) (Option.some Jvm.ClassFile.FieldType.boolean)).before args0 about1 = true := code_word (m := ⟨13, 0⟩) (meth := k13m0) (c := k13c0) (by decide +kernel) rfl rfl rfl (by decide +kernel)
set_option maxRecDepth 65536 in
theorem w_c24 : (Jvm.Cond.code ({ cls := "com/example/contractlint/contractlint/model/Position", name := "<init>", desc := "(II)V" } : Jvm.MethodName) prog_47_method_1_code (3 : Nat) (Option.none : Option Jvm.ClassFile.FieldType)).before args0 about1 = true := code_word (m := ⟨10, 0⟩) (meth := k10m0) (c := k10c0) (by decide +kernel) rfl rfl rfl (by decide +kernel)
set_option maxRecDepth 65536 in
theorem w_c25 : (Jvm.Cond.code ({ cls := "java/lang/Record", name := "<init>", desc := "()V" } : Jvm.MethodName) jdk_30_method_1_code (1 : Nat) (Option.none : Option Jvm.ClassFile.FieldType)).before args0 about1 = true := code_word (m := ⟨9, 0⟩) (meth := k9m0) (c := k9c0) (by decide +kernel) rfl rfl rfl (by decide +kernel)
set_option maxRecDepth 65536 in
theorem w_c26 : (Jvm.Cond.code ({ cls := "com/example/contractlint/contractlint/model/Position", name := "line", desc := "()I" } : Jvm.MethodName) prog_47_method_7_code (1 : Nat) (Option.some Jvm.ClassFile.FieldType.int)).before args0 about1 = true := code_word (m := ⟨10, 2⟩) (meth := k10m2) (c := k10c2) (by decide +kernel) rfl rfl rfl (by decide +kernel)
set_option maxRecDepth 65536 in
theorem w_c27 : (Jvm.Cond.code ({ cls := "com/example/contractlint/contractlint/model/Position", name := "column", desc := "()I" } : Jvm.MethodName) prog_47_method_8_code (1 : Nat) (Option.some Jvm.ClassFile.FieldType.int)).before args0 about1 = true := code_word (m := ⟨10, 3⟩) (meth := k10m3) (c := k10c3) (by decide +kernel) rfl rfl rfl (by decide +kernel)
set_option maxRecDepth 65536 in
theorem w_c28 : (Jvm.Cond.code ({ cls := "java/lang/Character", name := "isLowSurrogate", desc := "(C)Z" } : Jvm.MethodName) jdk_89_method_15_code (1 : Nat) (Option.some Jvm.ClassFile.FieldType.boolean)).before args0 about1 = true := code_word (m := ⟨13, 1⟩) (meth := k13m1) (c := k13c1) (by decide +kernel) rfl rfl rfl (by decide +kernel)
def codes1 : List Jvm.Cond := [Jvm.Cond.code x code maxLocals ret, Jvm.Cond.code ({ cls := "com/example/contractlint/contractlint/model/PositionInLinePinLaw", name := "mk", desc := "(I)C" } : Jvm.MethodName) method_2_code (3 : Nat) (Option.some Jvm.ClassFile.FieldType.char), Jvm.Cond.code ({ cls := "java/lang/String", name := "<init>", desc := "([C)V" } : Jvm.MethodName) jdk_42_method_3_code (2 : Nat) (Option.none : Option Jvm.ClassFile.FieldType), Jvm.Cond.code ({ cls := "java/lang/String", name := "<init>", desc := "([CIILjava/lang/Void;)V" } : Jvm.MethodName) jdk_42_method_149_code (6 : Nat) (Option.none : Option Jvm.ClassFile.FieldType), Jvm.Cond.code ({ cls := "java/lang/Object", name := "<init>", desc := "()V" } : Jvm.MethodName) object_method_1_code (1 : Nat) (Option.none : Option Jvm.ClassFile.FieldType), Jvm.Cond.code ({ cls := "java/lang/StringUTF16", name := "compress", desc := "([CII)[B" } : Jvm.MethodName) jdk_52_method_16_code (6 : Nat) (Option.some (Jvm.ClassFile.FieldType.array Jvm.ClassFile.FieldType.byte)), Jvm.Cond.code ({ cls := "java/lang/StringUTF16", name := "compress", desc := "([CI[BII)I" } : Jvm.MethodName) jdk_52_method_21_code (7 : Nat) (Option.some Jvm.ClassFile.FieldType.int), Jvm.Cond.code ({ cls := "java/lang/StringUTF16", name := "toBytes", desc := "([CII)[B" } : Jvm.MethodName) jdk_52_method_14_code (5 : Nat) (Option.some (Jvm.ClassFile.FieldType.array Jvm.ClassFile.FieldType.byte)), Jvm.Cond.code ({ cls := "java/lang/StringUTF16", name := "newBytesFor", desc := "(I)[B" } : Jvm.MethodName) jdk_52_method_2_code (1 : Nat) (Option.some (Jvm.ClassFile.FieldType.array Jvm.ClassFile.FieldType.byte)), Jvm.Cond.code ({ cls := "java/lang/StringUTF16", name := "newBytesLength", desc := "(I)I" } : Jvm.MethodName) jdk_52_method_3_code (1 : Nat) (Option.some Jvm.ClassFile.FieldType.int), Jvm.Cond.code ({ cls := "java/lang/StringUTF16", name := "putChar", desc := "([BII)V" } : Jvm.MethodName) jdk_52_method_4_code (3 : Nat) (Option.none : Option Jvm.ClassFile.FieldType), Jvm.Cond.code ({ cls := "java/lang/StringUTF16", name := "getChar", desc := "([BI)C" } : Jvm.MethodName) jdk_52_method_5_code (2 : Nat) (Option.some Jvm.ClassFile.FieldType.char), Jvm.Cond.code ({ cls := "java/lang/StringUTF16", name := "coderFromArrayLen", desc := "([BI)B" } : Jvm.MethodName) jdk_52_method_15_code (2 : Nat) (Option.some Jvm.ClassFile.FieldType.byte), Jvm.Cond.code ({ cls := "com/example/contractlint/contractlint/model/PositionInLinePinLaw", name := "w", desc := "(CC)I" } : Jvm.MethodName) method_3_code (4 : Nat) (Option.some Jvm.ClassFile.FieldType.int), Jvm.Cond.code ({ cls := "com/example/contractlint/contractlint/model/Position", name := "inLine", desc := "(ILjava/lang/String;I)Lcom/example/contractlint/contractlint/model/Position;" } : Jvm.MethodName) prog_47_method_3_code (3 : Nat) (Option.some (Jvm.ClassFile.FieldType.object "com/example/contractlint/contractlint/model/Position")), Jvm.Cond.code ({ cls := "java/lang/String", name := "codePointCount", desc := "(II)I" } : Jvm.MethodName) jdk_42_method_59_code (3 : Nat) (Option.some Jvm.ClassFile.FieldType.int), Jvm.Cond.code ({ cls := "java/lang/String", name := "length", desc := "()I" } : Jvm.MethodName) jdk_42_method_54_code (1 : Nat) (Option.some Jvm.ClassFile.FieldType.int), Jvm.Cond.code ({ cls := "java/lang/String", name := "coder", desc := "()B" } : Jvm.MethodName) jdk_42_method_152_code (1 : Nat) (Option.some Jvm.ClassFile.FieldType.byte), Jvm.Cond.code ({ cls := "java/util/Objects", name := "checkFromToIndex", desc := "(III)I" } : Jvm.MethodName) jdk_31_method_18_code (3 : Nat) (Option.some Jvm.ClassFile.FieldType.int), Jvm.Cond.code ({ cls := "jdk/internal/util/Preconditions", name := "checkFromToIndex", desc := "(IIILjava/util/function/BiFunction;)I" } : Jvm.MethodName) jdk_41_method_12_code (4 : Nat) (Option.some Jvm.ClassFile.FieldType.int), Jvm.Cond.code ({ cls := "java/lang/String", name := "isLatin1", desc := "()Z" } : Jvm.MethodName) jdk_42_method_154_code (1 : Nat) (Option.some Jvm.ClassFile.FieldType.boolean), Jvm.Cond.code ({ cls := "java/lang/StringUTF16", name := "codePointCount", desc := "([BII)I" } : Jvm.MethodName) jdk_52_method_12_code (3 : Nat) (Option.some Jvm.ClassFile.FieldType.int), Jvm.Cond.code ({ cls := "java/lang/StringUTF16", name := "codePointCount", desc := "([BIIZ)I" } : Jvm.MethodName) jdk_52_method_11_code (6 : Nat) (Option.some Jvm.ClassFile.FieldType.int), Jvm.Cond.code ({ cls := "java/lang/Character", name := "isHighSurrogate", desc := "(C)Z" } : Jvm.MethodName) jdk_89_method_14_code (1 : Nat) (Option.some Jvm.ClassFile.FieldType.boolean), Jvm.Cond.code ({ cls := "com/example/contractlint/contractlint/model/Position", name := "<init>", desc := "(II)V" } : Jvm.MethodName) prog_47_method_1_code (3 : Nat) (Option.none : Option Jvm.ClassFile.FieldType), Jvm.Cond.code ({ cls := "java/lang/Record", name := "<init>", desc := "()V" } : Jvm.MethodName) jdk_30_method_1_code (1 : Nat) (Option.none : Option Jvm.ClassFile.FieldType), Jvm.Cond.code ({ cls := "com/example/contractlint/contractlint/model/Position", name := "line", desc := "()I" } : Jvm.MethodName) prog_47_method_7_code (1 : Nat) (Option.some Jvm.ClassFile.FieldType.int), Jvm.Cond.code ({ cls := "com/example/contractlint/contractlint/model/Position", name := "column", desc := "()I" } : Jvm.MethodName) prog_47_method_8_code (1 : Nat) (Option.some Jvm.ClassFile.FieldType.int), Jvm.Cond.code ({ cls := "java/lang/Character", name := "isLowSurrogate", desc := "(C)Z" } : Jvm.MethodName) jdk_89_method_15_code (1 : Nat) (Option.some Jvm.ClassFile.FieldType.boolean)]
set_option maxRecDepth 65536 in
theorem codes_eq : words1.filter isCode = codes1 := rfl
theorem w_codes : ∀ c ∈ words1.filter isCode, c.before args0 about1 = true := by
  rw [codes_eq]
  intro c hc
  simp only [codes1, List.mem_cons, List.not_mem_nil, or_false] at hc
  rcases hc with rfl | rfl | rfl | rfl | rfl | rfl | rfl | rfl | rfl | rfl | rfl | rfl | rfl | rfl | rfl | rfl | rfl | rfl | rfl | rfl | rfl | rfl | rfl | rfl | rfl | rfl | rfl | rfl | rfl
  · exact w_c0
  · exact w_c1
  · exact w_c2
  · exact w_c3
  · exact w_c4
  · exact w_c5
  · exact w_c6
  · exact w_c7
  · exact w_c8
  · exact w_c9
  · exact w_c10
  · exact w_c11
  · exact w_c12
  · exact w_c13
  · exact w_c14
  · exact w_c15
  · exact w_c16
  · exact w_c17
  · exact w_c18
  · exact w_c19
  · exact w_c20
  · exact w_c21
  · exact w_c22
  · exact w_c23
  · exact w_c24
  · exact w_c25
  · exact w_c26
  · exact w_c27
  · exact w_c28
set_option maxRecDepth 65536 in
theorem w_t1 : (words1.take 24).all (fun c => isCode c || c.before args0 about1) = true := by decide +kernel
set_option maxRecDepth 65536 in
theorem w_t2 : ((words1.drop 24).take 24).all (fun c => isCode c || c.before args0 about1) = true := by decide +kernel
set_option maxRecDepth 65536 in
theorem w_t3 : (((words1.drop 24).drop 24).take 24).all (fun c => isCode c || c.before args0 about1) = true := by decide +kernel
set_option maxRecDepth 65536 in
theorem w_t4 : ((((words1.drop 24).drop 24).drop 24).take 24).all (fun c => isCode c || c.before args0 about1) = true := by decide +kernel
set_option maxRecDepth 65536 in
theorem w_t5 : (((((words1.drop 24).drop 24).drop 24).drop 24).take 24).all (fun c => isCode c || c.before args0 about1) = true := by decide +kernel
set_option maxRecDepth 65536 in
theorem w_t6 : (((((words1.drop 24).drop 24).drop 24).drop 24).drop 24).all (fun c => isCode c || c.before args0 about1) = true := by decide +kernel
theorem w_tables : (allAtoms (Jvm.Cond.code x code maxLocals ret :: tables_1)).before args0 about1 = true := by
  rw [allAtoms_all]
  show words1.all (fun c => c.before args0 about1) = true
  refine all_split ?_ w_codes
  rw [← List.take_append_drop 24 words1, List.all_append, w_t1, ← List.take_append_drop 24 (words1.drop 24), List.all_append, w_t2, ← List.take_append_drop 24 ((words1.drop 24).drop 24), List.all_append, w_t3, ← List.take_append_drop 24 (((words1.drop 24).drop 24).drop 24), List.all_append, w_t4, ← List.take_append_drop 24 ((((words1.drop 24).drop 24).drop 24).drop 24), List.all_append, w_t5, w_t6]
  rfl
set_option maxRecDepth 65536 in
theorem w_rest : rest_1_c.before args0 about1 = true := by decide +kernel
set_option maxRecDepth 65536 in
theorem w_case : (Jvm.Cond.and given_1 narrow_1).before args0 about1 = true := by decide +kernel
theorem w_applies : (headSpec (Jvm.Cond.code x code maxLocals ret :: tables_1) room_1).applies x e0.platform about1 = true :=
  (Spec.applies_iff w_frames).mpr ⟨w_running, w_runnable, w_alone, w_named, w_hears, w_ripe, w_room, w_tables⟩
theorem atStart : AtStart classFile x code maxLocals ret World_1 tables_1 room_1 Calls_1 rest_1 Pre_1 launch0 p0 e0 about1 theMethod args0 below0 :=
  ⟨lists_1, trivial, launch0.admits_env _ _ _, launch0.least_env, fairChoices_fair.cas, fairChoices_fair.clock, w_frames, w_args, w_heap, w_applies, trivial, w_rest, w_case⟩
end start1
theorem witness_1 : WitnessClaimed_1 := ⟨start1.p0, start1.e0, start1.about1, start1.theMethod, start1.args0, start1.below0, start1.atStart⟩
end Jvm.Pilot.@@N@@
