import JvmDerived
import JvmDerived.Pilot.@@N@@Statement
import JvmDerived.Pilot.@@N@@Code
set_option linter.unusedVariables false
set_option linter.unusedSimpArgs false
namespace Jvm.Pilot.@@N@@
open Jvm Jvm.ClassFile Sem Op Lib Jvm.Free Jvm.Stand Jvm.LawKit Jvm.RoadKit Bundle Jvm.Pilot.@@N@@.Jvm.D
/-! own kit: walks in continuation form -/
def Go (p : Program) (e : Env) (below : List Frame) (P : State → Outcome → Prop) (A : State) : Prop := ∃ t o, Steps p.tables e below A t ∧ t.status = .running ∧ Ended t below o ∧ P t o
/-- the facts on the body that is walked, which no step moves -/
def Bo (Z : State) (p : Program) (s : State) (m : MethodId) (meth : Method) (c : Code) (own nm : String) (bytes : ByteArray) (maxL : Nat) (ret : Option FieldType) : Prop :=
  p.tables.exec = Jvm.exec ∧ c.code = bytes ∧ c.maxLocals = maxL ∧ Z.Warmed39 s.vm ∧ s.vm.findClass own = some m.cls ∧ meth.name = nm ∧ meth.sig.returnType = ret ∧ meth.locks = false
/-- what an end must be -/
def EndsQ (s : State) (Q : Option Value → Heap → List Loc → Prop) (cc ss : Nat) : State → Outcome → Prop := fun t o => ∃ v L, o = .returned v ∧ Q v t.heap L ∧ FrameEnd s o t L cc ss
/-- a body's contract -/
def Ctr (l : Launch) (Z : State) (y : MethodName) (bytes : ByteArray) (maxL : Nat) (ret : Option FieldType) (rm : Room) (as : Array Value) (h0 : Heap) (Q : Option Value → Heap → List Loc → Prop) : Prop :=
  ∀ ws, MetFree l y (head1 (Jvm.Cond.code y bytes maxL ret :: ws) rm) (fun a U => a = as ∧ Z.Warmed39 U.vm ∧ U.heap = h0) (fun _ _ _ _ _ => True) (fun _ U o U' => ∃ v L, o = .returned v ∧ Q v U'.heap L ∧ FrameEnd U o U' L rm.cells rm.slots)
/-! own: an array whose whole contents are known -/
def Av (Z : State) (h : Heap) (a : Addr) (ty : FieldType) (vs : List Value) : Prop := ∃ c : Cell, Arr Z h a c ty ∧ c.slots.toList = vs
theorem Av.lt {Z : State} {h : Heap} {a : Addr} {ty : FieldType} {vs : List Value} (A : Av Z h a ty vs) : a < h.size := by obtain ⟨c, q, -⟩ := A; exact q.lt
theorem Av.ext {Z : State} {h h' : Heap} {a : Addr} {ty : FieldType} {vs : List Value} (A : Av Z h a ty vs) (E : Ext h h') : Av Z h' a ty vs := by obtain ⟨c, q, r⟩ := A; exact ⟨c, q.ext E, r⟩
theorem Av.other {Z : State} {h h' : Heap} {a b : Addr} {ty : FieldType} {vs : List Value} {sl : Nat} {v : Value} (A : Av Z h b ty vs) (W : Wr h h' a sl v) (q : b ≠ a) : Av Z h' b ty vs := by obtain ⟨c, q1, r⟩ := A; exact ⟨c, q1.other W q, r⟩
theorem Av.keep {Z : State} {h h' : Heap} {a : Addr} {ty : FieldType} {vs : List Value} {ws : List Addr} (A : Av Z h a ty vs) (K : Keep h h' ws) (q : a ∉ ws) : Av Z h' a ty vs := by obtain ⟨c, q1, r⟩ := A; exact ⟨c, ⟨K.2.1 a c q1.1 q, q1.2⟩, r⟩
theorem Av.set {Z : State} {h h' : Heap} {a : Addr} {ty : FieldType} {vs : List Value} {i : Nat} {v : Value} (A : Av Z h a ty vs) (W : Wr h h' a i v) : Av Z h' a ty (vs.set i v) := by
  obtain ⟨c, q, rfl⟩ := A
  exact ⟨_, q.same W, by simp [Cell.setSlot]⟩
theorem Av.inb {Z : State} {h : Heap} {a : Addr} {ty : FieldType} {vs : List Value} {c : Cell} (q : c.slots.toList = vs) {j : Int32} {i : Nat} (hi : j.toNatClampNeg = i) (h0 : ¬ j < 0) (hl : i < vs.length) : ¬ (j < 0 ∨ c.slots.size ≤ j.toNatClampNeg) := by
  subst q hi
  simp only [Array.length_toList] at hl
  exact fun z => z.elim h0 (fun w => absurd hl (Nat.not_lt.mpr w))
section OwnKit
variable {p : Program} {l : Launch} {e : Env} {R : Room} {s : State} {m : MethodId} {args : Array Value} {below : List Frame} {meth : Method} {c : Code} {T : State} {locs : List Loc} {cells slots : Nat} {Z : State} {a0 : Array Value} {h : Heap} {P : State → Outcome → Prop} {pc : Nat} {Ls : Array Slot} {st rest : List Value} {own nm : String} {bytes : ByteArray} {maxL : Nat} {ret : Option FieldType}
theorem Bo.x (B : Bo Z p s m meth c own nm bytes maxL ret) : p.tables.exec = Jvm.exec := B.1
theorem Bo.z (B : Bo Z p s m meth c own nm bytes maxL ret) : Z.Warmed39 s.vm := B.2.2.2.1
theorem Bo.o (B : Bo Z p s m meth c own nm bytes maxL ret) : s.vm.findClass own = some m.cls := B.2.2.2.2.1
theorem Bo.d (B : Bo Z p s m meth c own nm bytes maxL ret) {r : Except ClassFile.DecodeError (ClassFile.Instr × Nat)} (q : decode bytes pc = r) : decode c.code pc = r := hb B.2.1 q
theorem Bo.n (B : Bo Z p s m meth c own nm bytes maxL ret) : meth.name = nm := B.2.2.2.2.2.1
theorem Bo.r (B : Bo Z p s m meth c own nm bytes maxL ret) : meth.sig.returnType = ret := B.2.2.2.2.2.2.1
theorem Bo.lk (B : Bo Z p s m meth c own nm bytes maxL ret) : meth.locks = false := B.2.2.2.2.2.2.2
theorem Bo.mx (B : Bo Z p s m meth c own nm bytes maxL ret) (q : Ls.size = maxL) {pc : Nat} {st : List Value} : (mkF m pc Ls st).locals.size = c.maxLocals := by rw [B.2.2.1]; exact q
theorem Go.via {A A' : State} (q : ∀ t, Steps p.tables e below A' t → Steps p.tables e below A t) (g : Go p e below P A') : Go p e below P A := by
  obtain ⟨t, o, h1, h2⟩ := g
  exact ⟨t, o, q t h1, h2⟩
theorem Go.cast {f f' : JFrame} (q : f = f') (g : Go p e below P (T.setTop f')) : Go p e below P (T.setTop f) := q ▸ g
theorem Ctr.of {y : MethodName} {rm : Room} {as : Array Value} {h0 : Heap} {Q : Option Value → Heap → List Loc → Prop} (hn : plainFor y = true)
    (body : ∀ (p : Program) (e : Env) (s : State) (m : MethodId) (below : List Frame) (meth : Method) (c : Code) (T : State), Stand p l e rm s m as below meth c T [] 0 0 → Bo Z p s m meth c y.cls y.name bytes maxL ret → T.heap = h0 → Go p e below (EndsQ s Q rm.cells rm.slots) (T.setTop (entryFrame m as maxL))) :
    Ctr l Z y bytes maxL ret rm as h0 Q := by
  intro ws
  refine MetFree.of_bodySF hn hisR ?_
  intro p e s m args below meth c s₁ Bd hml0 hP hK
  obtain ⟨rfl, hZ, hh⟩ := hP
  exact body p e s m below meth c s₁ (Stand.of_body Bd) ⟨Bd.exec, Bd.bytes, hml0, hZ, findClass_of_methodNamed Bd.named, (name_of_methodNamed Bd.named Bd.method).1, Bd.returns, BodyLoose.notSynchronized Bd⟩ (by rw [← hh, Bd.state]; rfl)
theorem Ctr.back {y : MethodName} {rm : Room} {as : Array Value} {Q : Option Value → Heap → List Loc → Prop} {W len : Nat} (C : Ctr l Z y bytes maxL ret rm as h Q) (hZ : Z.Warmed39 s.vm) (wc : (Jvm.Cond.code y bytes maxL ret).before a0 Z = true) (wz : (Jvm.Cond.initialized y.cls).before a0 Z = true) (hf : rm.frames + 1 ≤ R.frames) (hl : W + (maxL + 11) + rm.locals ≤ R.locals) :
    Back l R p e below s args y len W (fun A a => a = as ∧ A.U.heap = h ∧ A.cells + rm.cells ≤ R.cells ∧ A.slots + rm.slots ≤ R.slots)
      (fun A _ v B => ∃ L, Q v B.U.heap L ∧ B.locs = A.locs ++ L ∧ B.cells = A.cells + rm.cells ∧ B.slots = A.slots + rm.slots) := backOf (C []) hZ wc wz hf hl
theorem g_iloadN (X : Stand p l e R s m args below meth c T locs cells slots) (B : Bo Z p s m meth c own nm bytes maxL ret) {k : Fin 4} {v : Int32} (q : decode bytes pc = .ok (.iload_n k, 1)) (pc' : Nat) (hp : pc + 1 = pc') (u : Ls[k.val]? = some (.val (.int v))) (g : Go p e below P (T.setTop (mkF m pc' Ls (.int v :: st)))) : Go p e below P (T.setTop (mkF m pc Ls st)) := by
  subst hp
  exact g.via fun _ => XS.iloadN X.here B.x rfl (B.d q) u
theorem g_iload (X : Stand p l e R s m args below meth c T locs cells slots) (B : Bo Z p s m meth c own nm bytes maxL ret) {k : Nat} {v : Int32} (q : decode bytes pc = .ok (.iload k, 2)) (pc' : Nat) (hp : pc + 2 = pc') (u : Ls[k]? = some (.val (.int v))) (g : Go p e below P (T.setTop (mkF m pc' Ls (.int v :: st)))) : Go p e below P (T.setTop (mkF m pc Ls st)) := by
  subst hp
  exact g.via fun _ => XS.iload X.here B.x rfl (B.d q) u
theorem g_aloadN (X : Stand p l e R s m args below meth c T locs cells slots) (B : Bo Z p s m meth c own nm bytes maxL ret) {k : Fin 4} {v : Value} (q : decode bytes pc = .ok (.aload_n k, 1)) (pc' : Nat) (hp : pc + 1 = pc') (u : Ls[k.val]? = some (.val v)) (i : v.isRef = true) (g : Go p e below P (T.setTop (mkF m pc' Ls (v :: st)))) : Go p e below P (T.setTop (mkF m pc Ls st)) := by
  subst hp
  exact g.via fun _ => XS.aloadN X.here B.x rfl (B.d q) u i
theorem g_aload (X : Stand p l e R s m args below meth c T locs cells slots) (B : Bo Z p s m meth c own nm bytes maxL ret) {k : Nat} {v : Value} (q : decode bytes pc = .ok (.aload k, 2)) (pc' : Nat) (hp : pc + 2 = pc') (u : Ls[k]? = some (.val v)) (i : v.isRef = true) (g : Go p e below P (T.setTop (mkF m pc' Ls (v :: st)))) : Go p e below P (T.setTop (mkF m pc Ls st)) := by
  subst hp
  exact g.via fun _ => XS.aload X.here B.x rfl (B.d q) u i
theorem g_lloadN (X : Stand p l e R s m args below meth c T locs cells slots) (B : Bo Z p s m meth c own nm bytes maxL ret) {k : Fin 4} {v : Int64} (q : decode bytes pc = .ok (.lload_n k, 1)) (pc' : Nat) (hp : pc + 1 = pc') (u : Ls[k.val]? = some (.val (.long v))) (g : Go p e below P (T.setTop (mkF m pc' Ls (.long v :: st)))) : Go p e below P (T.setTop (mkF m pc Ls st)) := by
  subst hp
  exact g.via fun _ => XT.lloadN X.here B.x rfl (B.d q) u
theorem g_lload (X : Stand p l e R s m args below meth c T locs cells slots) (B : Bo Z p s m meth c own nm bytes maxL ret) {k : Nat} {v : Int64} (q : decode bytes pc = .ok (.lload k, 2)) (pc' : Nat) (hp : pc + 2 = pc') (u : Ls[k]? = some (.val (.long v))) (g : Go p e below P (T.setTop (mkF m pc' Ls (.long v :: st)))) : Go p e below P (T.setTop (mkF m pc Ls st)) := by
  subst hp
  exact g.via fun _ => XT.lload X.here B.x rfl (B.d q) u
theorem g_istoreN (X : Stand p l e R s m args below meth c T locs cells slots) (B : Bo Z p s m meth c own nm bytes maxL ret) {k : Fin 4} {x : Int32} (l' : Array Slot) (q : decode bytes pc = .ok (.istore_n k, 1)) (pc' : Nat) (hp : pc + 1 = pc') (u : storeLocals Ls k.val (.int x) = some l') (g : Go p e below P (T.setTop (mkF m pc' l' st))) : Go p e below P (T.setTop (mkF m pc Ls (.int x :: st))) := by
  subst hp
  exact g.via fun _ => XS.istoreN X.here B.x rfl (B.d q) rfl u
theorem g_istore (X : Stand p l e R s m args below meth c T locs cells slots) (B : Bo Z p s m meth c own nm bytes maxL ret) {k : Nat} {x : Int32} (l' : Array Slot) (q : decode bytes pc = .ok (.istore k, 2)) (pc' : Nat) (hp : pc + 2 = pc') (u : storeLocals Ls k (.int x) = some l') (g : Go p e below P (T.setTop (mkF m pc' l' st))) : Go p e below P (T.setTop (mkF m pc Ls (.int x :: st))) := by
  subst hp
  exact g.via fun _ => XS.istore X.here B.x rfl (B.d q) rfl u
theorem g_astoreN (X : Stand p l e R s m args below meth c T locs cells slots) (B : Bo Z p s m meth c own nm bytes maxL ret) {k : Fin 4} {x : Value} (l' : Array Slot) (q : decode bytes pc = .ok (.astore_n k, 1)) (pc' : Nat) (hp : pc + 1 = pc') (i : x.isRef = true) (u : storeLocals Ls k.val x = some l') (g : Go p e below P (T.setTop (mkF m pc' l' st))) : Go p e below P (T.setTop (mkF m pc Ls (x :: st))) := by
  subst hp
  exact g.via fun _ => XS.astoreN X.here B.x rfl (B.d q) rfl i u
theorem g_astore (X : Stand p l e R s m args below meth c T locs cells slots) (B : Bo Z p s m meth c own nm bytes maxL ret) {k : Nat} {x : Value} (l' : Array Slot) (q : decode bytes pc = .ok (.astore k, 2)) (pc' : Nat) (hp : pc + 2 = pc') (i : x.isRef = true) (u : storeLocals Ls k x = some l') (g : Go p e below P (T.setTop (mkF m pc' l' st))) : Go p e below P (T.setTop (mkF m pc Ls (x :: st))) := by
  subst hp
  exact g.via fun _ => XS.astore X.here B.x rfl (B.d q) rfl i u
theorem g_lstoreN (X : Stand p l e R s m args below meth c T locs cells slots) (B : Bo Z p s m meth c own nm bytes maxL ret) {k : Fin 4} {x : Int64} (l' : Array Slot) (q : decode bytes pc = .ok (.lstore_n k, 1)) (pc' : Nat) (hp : pc + 1 = pc') (u : storeLocals Ls k.val (.long x) = some l') (g : Go p e below P (T.setTop (mkF m pc' l' st))) : Go p e below P (T.setTop (mkF m pc Ls (.long x :: st))) := by
  subst hp
  exact g.via fun _ => XT.lstoreN X.here B.x rfl (B.d q) rfl u
theorem g_lstore (X : Stand p l e R s m args below meth c T locs cells slots) (B : Bo Z p s m meth c own nm bytes maxL ret) {k : Nat} {x : Int64} (l' : Array Slot) (q : decode bytes pc = .ok (.lstore k, 2)) (pc' : Nat) (hp : pc + 2 = pc') (u : storeLocals Ls k (.long x) = some l') (g : Go p e below P (T.setTop (mkF m pc' l' st))) : Go p e below P (T.setTop (mkF m pc Ls (.long x :: st))) := by
  subst hp
  exact g.via fun _ => XT.lstore X.here B.x rfl (B.d q) rfl u
theorem g_iconst (X : Stand p l e R s m args below meth c T locs cells slots) (B : Bo Z p s m meth c own nm bytes maxL ret) {i : Int} (v : Int32) (q : decode bytes pc = .ok (.iconst i, 1)) (pc' : Nat) (hp : pc + 1 = pc') (u : Int32.ofInt i = v) (g : Go p e below P (T.setTop (mkF m pc' Ls (.int v :: st)))) : Go p e below P (T.setTop (mkF m pc Ls st)) := by
  subst hp
  exact g.via fun _ => XT.iconstV X.here B.x rfl v (B.d q) u
theorem g_bipush (X : Stand p l e R s m args below meth c T locs cells slots) (B : Bo Z p s m meth c own nm bytes maxL ret) {i : Int} (v : Int32) (q : decode bytes pc = .ok (.bipush i, 2)) (pc' : Nat) (hp : pc + 2 = pc') (u : (Int8.ofInt i).toInt32 = v) (g : Go p e below P (T.setTop (mkF m pc' Ls (.int v :: st)))) : Go p e below P (T.setTop (mkF m pc Ls st)) := by
  subst hp
  exact g.via fun _ => XT.bipushV X.here B.x rfl v (B.d q) u
theorem g_sipush (X : Stand p l e R s m args below meth c T locs cells slots) (B : Bo Z p s m meth c own nm bytes maxL ret) {i : Int} (v : Int32) (q : decode bytes pc = .ok (.sipush i, 3)) (pc' : Nat) (hp : pc + 3 = pc') (u : (Int16.ofInt i).toInt32 = v) (g : Go p e below P (T.setTop (mkF m pc' Ls (.int v :: st)))) : Go p e below P (T.setTop (mkF m pc Ls st)) := by
  subst hp
  exact g.via fun _ => XT.sipushV X.here B.x rfl v (B.d q) u
theorem g_lconst (X : Stand p l e R s m args below meth c T locs cells slots) (B : Bo Z p s m meth c own nm bytes maxL ret) {k : Fin 2} (v : Int64) (q : decode bytes pc = .ok (.lconst k, 1)) (pc' : Nat) (hp : pc + 1 = pc') (u : Int64.ofNat k = v) (g : Go p e below P (T.setTop (mkF m pc' Ls (.long v :: st)))) : Go p e below P (T.setTop (mkF m pc Ls st)) := by
  subst hp
  exact g.via fun _ => XT.lconstV X.here B.x rfl v (B.d q) u
theorem g_aconstNull (X : Stand p l e R s m args below meth c T locs cells slots) (B : Bo Z p s m meth c own nm bytes maxL ret)  (q : decode bytes pc = .ok (.aconst_null, 1)) (pc' : Nat) (hp : pc + 1 = pc')  (g : Go p e below P (T.setTop (mkF m pc' Ls (.null :: st)))) : Go p e below P (T.setTop (mkF m pc Ls st)) := by
  subst hp
  exact g.via fun _ => XS.aconstNull X.here B.x rfl (B.d q)
theorem g_iadd (X : Stand p l e R s m args below meth c T locs cells slots) (B : Bo Z p s m meth c own nm bytes maxL ret) {x y : Int32} (q : decode bytes pc = .ok (.iadd, 1)) (pc' : Nat) (hp : pc + 1 = pc')  (g : Go p e below P (T.setTop (mkF m pc' Ls (.int (x + y) :: st)))) : Go p e below P (T.setTop (mkF m pc Ls (.int y :: .int x :: st))) := by
  subst hp
  exact g.via fun _ => XS.iadd X.here B.x rfl (B.d q) rfl
theorem g_isub (X : Stand p l e R s m args below meth c T locs cells slots) (B : Bo Z p s m meth c own nm bytes maxL ret) {x y : Int32} (q : decode bytes pc = .ok (.isub, 1)) (pc' : Nat) (hp : pc + 1 = pc')  (g : Go p e below P (T.setTop (mkF m pc' Ls (.int (x - y) :: st)))) : Go p e below P (T.setTop (mkF m pc Ls (.int y :: .int x :: st))) := by
  subst hp
  exact g.via fun _ => XS.isub X.here B.x rfl (B.d q) rfl
theorem g_imul (X : Stand p l e R s m args below meth c T locs cells slots) (B : Bo Z p s m meth c own nm bytes maxL ret) {x y : Int32} (q : decode bytes pc = .ok (.imul, 1)) (pc' : Nat) (hp : pc + 1 = pc')  (g : Go p e below P (T.setTop (mkF m pc' Ls (.int (x * y) :: st)))) : Go p e below P (T.setTop (mkF m pc Ls (.int y :: .int x :: st))) := by
  subst hp
  exact g.via fun _ => XS.imul X.here B.x rfl (B.d q) rfl
theorem g_iand (X : Stand p l e R s m args below meth c T locs cells slots) (B : Bo Z p s m meth c own nm bytes maxL ret) {x y : Int32} (q : decode bytes pc = .ok (.iand, 1)) (pc' : Nat) (hp : pc + 1 = pc')  (g : Go p e below P (T.setTop (mkF m pc' Ls (.int (x &&& y) :: st)))) : Go p e below P (T.setTop (mkF m pc Ls (.int y :: .int x :: st))) := by
  subst hp
  exact g.via fun _ => XS.iand X.here B.x rfl (B.d q) rfl
theorem g_ixor (X : Stand p l e R s m args below meth c T locs cells slots) (B : Bo Z p s m meth c own nm bytes maxL ret) {x y : Int32} (q : decode bytes pc = .ok (.ixor, 1)) (pc' : Nat) (hp : pc + 1 = pc')  (g : Go p e below P (T.setTop (mkF m pc' Ls (.int (x ^^^ y) :: st)))) : Go p e below P (T.setTop (mkF m pc Ls (.int y :: .int x :: st))) := by
  subst hp
  exact g.via fun _ => XT.ixor X.here B.x rfl (B.d q) rfl
theorem g_ior (X : Stand p l e R s m args below meth c T locs cells slots) (B : Bo Z p s m meth c own nm bytes maxL ret) {x y : Int32} (q : decode bytes pc = .ok (.ior, 1)) (pc' : Nat) (hp : pc + 1 = pc')  (g : Go p e below P (T.setTop (mkF m pc' Ls (.int (x ||| y) :: st)))) : Go p e below P (T.setTop (mkF m pc Ls (.int y :: .int x :: st))) := by
  subst hp
  exact g.via fun _ => XT.ior X.here B.x rfl (B.d q) rfl
theorem g_ishl (X : Stand p l e R s m args below meth c T locs cells slots) (B : Bo Z p s m meth c own nm bytes maxL ret) {x y : Int32} (q : decode bytes pc = .ok (.ishl, 1)) (pc' : Nat) (hp : pc + 1 = pc')  (g : Go p e below P (T.setTop (mkF m pc' Ls (.int (x <<< (y &&& 31)) :: st)))) : Go p e below P (T.setTop (mkF m pc Ls (.int y :: .int x :: st))) := by
  subst hp
  exact g.via fun _ => XT.ishl X.here B.x rfl (B.d q) rfl
theorem g_ishr (X : Stand p l e R s m args below meth c T locs cells slots) (B : Bo Z p s m meth c own nm bytes maxL ret) {x y : Int32} (q : decode bytes pc = .ok (.ishr, 1)) (pc' : Nat) (hp : pc + 1 = pc')  (g : Go p e below P (T.setTop (mkF m pc' Ls (.int (x >>> (y &&& 31)) :: st)))) : Go p e below P (T.setTop (mkF m pc Ls (.int y :: .int x :: st))) := by
  subst hp
  exact g.via fun _ => XT.ishr X.here B.x rfl (B.d q) rfl
theorem g_iushr (X : Stand p l e R s m args below meth c T locs cells slots) (B : Bo Z p s m meth c own nm bytes maxL ret) {x y : Int32} (q : decode bytes pc = .ok (.iushr, 1)) (pc' : Nat) (hp : pc + 1 = pc')  (g : Go p e below P (T.setTop (mkF m pc' Ls (.int (XT.ushr x y) :: st)))) : Go p e below P (T.setTop (mkF m pc Ls (.int y :: .int x :: st))) := by
  subst hp
  exact g.via fun _ => XT.iushr X.here B.x rfl (B.d q) rfl
theorem g_idiv (X : Stand p l e R s m args below meth c T locs cells slots) (B : Bo Z p s m meth c own nm bytes maxL ret) {x y : Int32} (q : decode bytes pc = .ok (.idiv, 1)) (pc' : Nat) (hp : pc + 1 = pc') (u : y ≠ 0) (g : Go p e below P (T.setTop (mkF m pc' Ls (.int (x / y) :: st)))) : Go p e below P (T.setTop (mkF m pc Ls (.int y :: .int x :: st))) := by
  subst hp
  exact g.via fun _ => XS.idiv X.here B.x rfl (B.d q) rfl u
theorem g_irem (X : Stand p l e R s m args below meth c T locs cells slots) (B : Bo Z p s m meth c own nm bytes maxL ret) {x y : Int32} (q : decode bytes pc = .ok (.irem, 1)) (pc' : Nat) (hp : pc + 1 = pc') (u : y ≠ 0) (g : Go p e below P (T.setTop (mkF m pc' Ls (.int (x % y) :: st)))) : Go p e below P (T.setTop (mkF m pc Ls (.int y :: .int x :: st))) := by
  subst hp
  exact g.via fun _ => iremM X B.x rfl (B.d q) rfl u
theorem g_ineg (X : Stand p l e R s m args below meth c T locs cells slots) (B : Bo Z p s m meth c own nm bytes maxL ret) {x : Int32} (q : decode bytes pc = .ok (.ineg, 1)) (pc' : Nat) (hp : pc + 1 = pc')  (g : Go p e below P (T.setTop (mkF m pc' Ls (.int (-x) :: st)))) : Go p e below P (T.setTop (mkF m pc Ls (.int x :: st))) := by
  subst hp
  exact g.via fun _ => XS.ineg X.here B.x rfl (B.d q) rfl
theorem g_iinc (X : Stand p l e R s m args below meth c T locs cells slots) (B : Bo Z p s m meth c own nm bytes maxL ret) {k : Nat} {cst : Int} {x : Int32} (l' : Array Slot) (v : Int32) (q : decode bytes pc = .ok (.iinc k cst, 3)) (pc' : Nat) (hp : pc + 3 = pc') (w : Int32.ofInt cst = v) (u : Ls[k]? = some (.val (.int x))) (u2 : storeLocals Ls k (.int (x + v)) = some l') (g : Go p e below P (T.setTop (mkF m pc' l' st))) : Go p e below P (T.setTop (mkF m pc Ls st)) := by
  subst hp
  exact g.via fun _ => XT.iincV X.here B.x rfl v (B.d q) w u u2
theorem g_ladd (X : Stand p l e R s m args below meth c T locs cells slots) (B : Bo Z p s m meth c own nm bytes maxL ret) {x y : Int64} (q : decode bytes pc = .ok (.ladd, 1)) (pc' : Nat) (hp : pc + 1 = pc')  (g : Go p e below P (T.setTop (mkF m pc' Ls (.long (x + y) :: st)))) : Go p e below P (T.setTop (mkF m pc Ls (.long y :: .long x :: st))) := by
  subst hp
  exact g.via fun _ => XT.ladd X.here B.x rfl (B.d q) rfl
theorem g_lsub (X : Stand p l e R s m args below meth c T locs cells slots) (B : Bo Z p s m meth c own nm bytes maxL ret) {x y : Int64} (q : decode bytes pc = .ok (.lsub, 1)) (pc' : Nat) (hp : pc + 1 = pc')  (g : Go p e below P (T.setTop (mkF m pc' Ls (.long (x - y) :: st)))) : Go p e below P (T.setTop (mkF m pc Ls (.long y :: .long x :: st))) := by
  subst hp
  exact g.via fun _ => XT.lsub X.here B.x rfl (B.d q) rfl
theorem g_land (X : Stand p l e R s m args below meth c T locs cells slots) (B : Bo Z p s m meth c own nm bytes maxL ret) {x y : Int64} (q : decode bytes pc = .ok (.land, 1)) (pc' : Nat) (hp : pc + 1 = pc')  (g : Go p e below P (T.setTop (mkF m pc' Ls (.long (x &&& y) :: st)))) : Go p e below P (T.setTop (mkF m pc Ls (.long y :: .long x :: st))) := by
  subst hp
  exact g.via fun _ => XT.land X.here B.x rfl (B.d q) rfl
theorem g_lor (X : Stand p l e R s m args below meth c T locs cells slots) (B : Bo Z p s m meth c own nm bytes maxL ret) {x y : Int64} (q : decode bytes pc = .ok (.lor, 1)) (pc' : Nat) (hp : pc + 1 = pc')  (g : Go p e below P (T.setTop (mkF m pc' Ls (.long (x ||| y) :: st)))) : Go p e below P (T.setTop (mkF m pc Ls (.long y :: .long x :: st))) := by
  subst hp
  exact g.via fun _ => XT.lor X.here B.x rfl (B.d q) rfl
theorem g_lxor (X : Stand p l e R s m args below meth c T locs cells slots) (B : Bo Z p s m meth c own nm bytes maxL ret) {x y : Int64} (q : decode bytes pc = .ok (.lxor, 1)) (pc' : Nat) (hp : pc + 1 = pc')  (g : Go p e below P (T.setTop (mkF m pc' Ls (.long (x ^^^ y) :: st)))) : Go p e below P (T.setTop (mkF m pc Ls (.long y :: .long x :: st))) := by
  subst hp
  exact g.via fun _ => XT.lxor X.here B.x rfl (B.d q) rfl
theorem g_lmul (X : Stand p l e R s m args below meth c T locs cells slots) (B : Bo Z p s m meth c own nm bytes maxL ret) {x y : Int64} (q : decode bytes pc = .ok (.lmul, 1)) (pc' : Nat) (hp : pc + 1 = pc')  (g : Go p e below P (T.setTop (mkF m pc' Ls (.long (x * y) :: st)))) : Go p e below P (T.setTop (mkF m pc Ls (.long y :: .long x :: st))) := by
  subst hp
  exact g.via fun _ => XT.lmul X.here B.x rfl (B.d q) rfl
theorem g_i2b (X : Stand p l e R s m args below meth c T locs cells slots) (B : Bo Z p s m meth c own nm bytes maxL ret) {x : Int32} (q : decode bytes pc = .ok (.i2b, 1)) (pc' : Nat) (hp : pc + 1 = pc')  (g : Go p e below P (T.setTop (mkF m pc' Ls (.int (x.toInt8.toInt32) :: st)))) : Go p e below P (T.setTop (mkF m pc Ls (.int x :: st))) := by
  subst hp
  exact g.via fun _ => XT.i2b X.here B.x rfl (B.d q) rfl
theorem g_i2c (X : Stand p l e R s m args below meth c T locs cells slots) (B : Bo Z p s m meth c own nm bytes maxL ret) {x : Int32} (q : decode bytes pc = .ok (.i2c, 1)) (pc' : Nat) (hp : pc + 1 = pc')  (g : Go p e below P (T.setTop (mkF m pc' Ls (.int (x.toUInt32.toUInt16.toUInt32.toInt32) :: st)))) : Go p e below P (T.setTop (mkF m pc Ls (.int x :: st))) := by
  subst hp
  exact g.via fun _ => XT.i2c X.here B.x rfl (B.d q) rfl
theorem g_i2l (X : Stand p l e R s m args below meth c T locs cells slots) (B : Bo Z p s m meth c own nm bytes maxL ret) {x : Int32} (q : decode bytes pc = .ok (.i2l, 1)) (pc' : Nat) (hp : pc + 1 = pc')  (g : Go p e below P (T.setTop (mkF m pc' Ls (.long (x.toInt64) :: st)))) : Go p e below P (T.setTop (mkF m pc Ls (.int x :: st))) := by
  subst hp
  exact g.via fun _ => XT.i2l X.here B.x rfl (B.d q) rfl
theorem g_l2i (X : Stand p l e R s m args below meth c T locs cells slots) (B : Bo Z p s m meth c own nm bytes maxL ret) {x : Int64} (q : decode bytes pc = .ok (.l2i, 1)) (pc' : Nat) (hp : pc + 1 = pc')  (g : Go p e below P (T.setTop (mkF m pc' Ls (.int (x.toInt32) :: st)))) : Go p e below P (T.setTop (mkF m pc Ls (.long x :: st))) := by
  subst hp
  exact g.via fun _ => XT.l2i X.here B.x rfl (B.d q) rfl
theorem g_dup (X : Stand p l e R s m args below meth c T locs cells slots) (B : Bo Z p s m meth c own nm bytes maxL ret) {x : Value} (q : decode bytes pc = .ok (.dup, 1)) (pc' : Nat) (hp : pc + 1 = pc') (u : x.category = 1) (g : Go p e below P (T.setTop (mkF m pc' Ls (x :: x :: st)))) : Go p e below P (T.setTop (mkF m pc Ls (x :: st))) := by
  subst hp
  exact g.via fun _ => XS.dup X.here B.x rfl (B.d q) rfl u
theorem g_pop (X : Stand p l e R s m args below meth c T locs cells slots) (B : Bo Z p s m meth c own nm bytes maxL ret) {x : Value} (q : decode bytes pc = .ok (.pop, 1)) (pc' : Nat) (hp : pc + 1 = pc') (u : x.category = 1) (g : Go p e below P (T.setTop (mkF m pc' Ls st))) : Go p e below P (T.setTop (mkF m pc Ls (x :: st))) := by
  subst hp
  exact g.via fun _ => XT.pop X.here B.x rfl (B.d q) rfl u
theorem g_goto (X : Stand p l e R s m args below meth c T locs cells slots) (B : Bo Z p s m meth c own nm bytes maxL ret) {o : Int} (q : decode bytes pc = .ok (.goto o, 3)) (pc' : Nat) (hp : ((pc : Int) + o).toNat = pc') (ho : 0 ≤ (pc : Int) + o) (g : Go p e below P (T.setTop (mkF m pc' Ls st))) : Go p e below P (T.setTop (mkF m pc Ls st)) := g.via fun _ => XS.goto X.here B.x rfl rfl (B.d q) ho hp
theorem g_icmp_eq (X : Stand p l e R s m args below meth c T locs cells slots) (B : Bo Z p s m meth c own nm bytes maxL ret) {o : Int} {x y : Int32} (q : decode bytes pc = .ok (.if_icmp .eq o, 3)) (pt pf : Nat) (hp : ((pc : Int) + o).toNat = pt) (ho : 0 ≤ (pc : Int) + o) (hf : pc + 3 = pf) (g1 : x = y → Go p e below P (T.setTop (mkF m pt Ls st))) (g2 : ¬ x = y → Go p e below P (T.setTop (mkF m pf Ls st))) : Go p e below P (T.setTop (mkF m pc Ls (.int y :: .int x :: st))) := by
  subst hf
  by_cases w : x = y
  · exact (g1 w).via fun _ => XS.icmpYes X.here B.x rfl rfl (B.d q) rfl (by simp [if_icmp.holds, w, Int32.not_lt, Int32.not_le]) ho hp
  · exact (g2 w).via fun _ => XS.icmpNo X.here B.x rfl (B.d q) rfl (by simp [if_icmp.holds, w, Int32.not_lt, Int32.not_le])
theorem g_icmp_ne (X : Stand p l e R s m args below meth c T locs cells slots) (B : Bo Z p s m meth c own nm bytes maxL ret) {o : Int} {x y : Int32} (q : decode bytes pc = .ok (.if_icmp .ne o, 3)) (pt pf : Nat) (hp : ((pc : Int) + o).toNat = pt) (ho : 0 ≤ (pc : Int) + o) (hf : pc + 3 = pf) (g1 : ¬ x = y → Go p e below P (T.setTop (mkF m pt Ls st))) (g2 : x = y → Go p e below P (T.setTop (mkF m pf Ls st))) : Go p e below P (T.setTop (mkF m pc Ls (.int y :: .int x :: st))) := by
  subst hf
  by_cases w : x = y
  · exact (g2 w).via fun _ => XS.icmpNo X.here B.x rfl (B.d q) rfl (by simp [if_icmp.holds, w, Int32.not_lt, Int32.not_le])
  · exact (g1 w).via fun _ => XS.icmpYes X.here B.x rfl rfl (B.d q) rfl (by simpa [if_icmp.holds, Int32.not_lt, Int32.not_le] using w) ho hp
theorem g_icmp_lt (X : Stand p l e R s m args below meth c T locs cells slots) (B : Bo Z p s m meth c own nm bytes maxL ret) {o : Int} {x y : Int32} (q : decode bytes pc = .ok (.if_icmp .lt o, 3)) (pt pf : Nat) (hp : ((pc : Int) + o).toNat = pt) (ho : 0 ≤ (pc : Int) + o) (hf : pc + 3 = pf) (g1 : x < y → Go p e below P (T.setTop (mkF m pt Ls st))) (g2 : ¬ x < y → Go p e below P (T.setTop (mkF m pf Ls st))) : Go p e below P (T.setTop (mkF m pc Ls (.int y :: .int x :: st))) := by
  subst hf
  by_cases w : x < y
  · exact (g1 w).via fun _ => XS.icmpYes X.here B.x rfl rfl (B.d q) rfl (by simp [if_icmp.holds, w, Int32.not_lt, Int32.not_le]) ho hp
  · exact (g2 w).via fun _ => XS.icmpNo X.here B.x rfl (B.d q) rfl (by simp [if_icmp.holds, w, Int32.not_lt, Int32.not_le])
theorem g_icmp_ge (X : Stand p l e R s m args below meth c T locs cells slots) (B : Bo Z p s m meth c own nm bytes maxL ret) {o : Int} {x y : Int32} (q : decode bytes pc = .ok (.if_icmp .ge o, 3)) (pt pf : Nat) (hp : ((pc : Int) + o).toNat = pt) (ho : 0 ≤ (pc : Int) + o) (hf : pc + 3 = pf) (g1 : ¬ x < y → Go p e below P (T.setTop (mkF m pt Ls st))) (g2 : x < y → Go p e below P (T.setTop (mkF m pf Ls st))) : Go p e below P (T.setTop (mkF m pc Ls (.int y :: .int x :: st))) := by
  subst hf
  by_cases w : x < y
  · exact (g2 w).via fun _ => XS.icmpNo X.here B.x rfl (B.d q) rfl (by simp [if_icmp.holds, w, Int32.not_lt, Int32.not_le])
  · exact (g1 w).via fun _ => XS.icmpYes X.here B.x rfl rfl (B.d q) rfl (by simpa [if_icmp.holds, Int32.not_lt, Int32.not_le] using w) ho hp
theorem g_icmp_gt (X : Stand p l e R s m args below meth c T locs cells slots) (B : Bo Z p s m meth c own nm bytes maxL ret) {o : Int} {x y : Int32} (q : decode bytes pc = .ok (.if_icmp .gt o, 3)) (pt pf : Nat) (hp : ((pc : Int) + o).toNat = pt) (ho : 0 ≤ (pc : Int) + o) (hf : pc + 3 = pf) (g1 : y < x → Go p e below P (T.setTop (mkF m pt Ls st))) (g2 : ¬ y < x → Go p e below P (T.setTop (mkF m pf Ls st))) : Go p e below P (T.setTop (mkF m pc Ls (.int y :: .int x :: st))) := by
  subst hf
  by_cases w : y < x
  · exact (g1 w).via fun _ => XS.icmpYes X.here B.x rfl rfl (B.d q) rfl (by simp [if_icmp.holds, w, Int32.not_lt, Int32.not_le]) ho hp
  · exact (g2 w).via fun _ => XS.icmpNo X.here B.x rfl (B.d q) rfl (by simp [if_icmp.holds, w, Int32.not_lt, Int32.not_le])
theorem g_icmp_le (X : Stand p l e R s m args below meth c T locs cells slots) (B : Bo Z p s m meth c own nm bytes maxL ret) {o : Int} {x y : Int32} (q : decode bytes pc = .ok (.if_icmp .le o, 3)) (pt pf : Nat) (hp : ((pc : Int) + o).toNat = pt) (ho : 0 ≤ (pc : Int) + o) (hf : pc + 3 = pf) (g1 : ¬ y < x → Go p e below P (T.setTop (mkF m pt Ls st))) (g2 : y < x → Go p e below P (T.setTop (mkF m pf Ls st))) : Go p e below P (T.setTop (mkF m pc Ls (.int y :: .int x :: st))) := by
  subst hf
  by_cases w : y < x
  · exact (g2 w).via fun _ => XS.icmpNo X.here B.x rfl (B.d q) rfl (by simp [if_icmp.holds, w, Int32.not_lt, Int32.not_le])
  · exact (g1 w).via fun _ => XS.icmpYes X.here B.x rfl rfl (B.d q) rfl (by simpa [if_icmp.holds, Int32.not_lt, Int32.not_le] using w) ho hp
theorem g_if_eq (X : Stand p l e R s m args below meth c T locs cells slots) (B : Bo Z p s m meth c own nm bytes maxL ret) {o : Int} {x : Int32} (q : decode bytes pc = .ok (.ifCond .eq o, 3)) (pt pf : Nat) (hp : ((pc : Int) + o).toNat = pt) (ho : 0 ≤ (pc : Int) + o) (hf : pc + 3 = pf) (g1 : x = 0 → Go p e below P (T.setTop (mkF m pt Ls st))) (g2 : ¬ x = 0 → Go p e below P (T.setTop (mkF m pf Ls st))) : Go p e below P (T.setTop (mkF m pc Ls (.int x :: st))) := by
  subst hf
  by_cases w : x = 0
  · exact (g1 w).via fun _ => XS.ifYes X.here B.x rfl rfl (B.d q) rfl (by simp [ifCond.holds, w, Int32.not_lt, Int32.not_le]) ho hp
  · exact (g2 w).via fun _ => XS.ifNo X.here B.x rfl (B.d q) rfl (by simp [ifCond.holds, w, Int32.not_lt, Int32.not_le])
theorem g_if_ne (X : Stand p l e R s m args below meth c T locs cells slots) (B : Bo Z p s m meth c own nm bytes maxL ret) {o : Int} {x : Int32} (q : decode bytes pc = .ok (.ifCond .ne o, 3)) (pt pf : Nat) (hp : ((pc : Int) + o).toNat = pt) (ho : 0 ≤ (pc : Int) + o) (hf : pc + 3 = pf) (g1 : ¬ x = 0 → Go p e below P (T.setTop (mkF m pt Ls st))) (g2 : x = 0 → Go p e below P (T.setTop (mkF m pf Ls st))) : Go p e below P (T.setTop (mkF m pc Ls (.int x :: st))) := by
  subst hf
  by_cases w : x = 0
  · exact (g2 w).via fun _ => XS.ifNo X.here B.x rfl (B.d q) rfl (by simp [ifCond.holds, w, Int32.not_lt, Int32.not_le])
  · exact (g1 w).via fun _ => XS.ifYes X.here B.x rfl rfl (B.d q) rfl (by simpa [ifCond.holds, Int32.not_lt, Int32.not_le] using w) ho hp
theorem g_if_lt (X : Stand p l e R s m args below meth c T locs cells slots) (B : Bo Z p s m meth c own nm bytes maxL ret) {o : Int} {x : Int32} (q : decode bytes pc = .ok (.ifCond .lt o, 3)) (pt pf : Nat) (hp : ((pc : Int) + o).toNat = pt) (ho : 0 ≤ (pc : Int) + o) (hf : pc + 3 = pf) (g1 : x < 0 → Go p e below P (T.setTop (mkF m pt Ls st))) (g2 : ¬ x < 0 → Go p e below P (T.setTop (mkF m pf Ls st))) : Go p e below P (T.setTop (mkF m pc Ls (.int x :: st))) := by
  subst hf
  by_cases w : x < 0
  · exact (g1 w).via fun _ => XS.ifYes X.here B.x rfl rfl (B.d q) rfl (by simp [ifCond.holds, w, Int32.not_lt, Int32.not_le]) ho hp
  · exact (g2 w).via fun _ => XS.ifNo X.here B.x rfl (B.d q) rfl (by simp [ifCond.holds, w, Int32.not_lt, Int32.not_le])
theorem g_if_ge (X : Stand p l e R s m args below meth c T locs cells slots) (B : Bo Z p s m meth c own nm bytes maxL ret) {o : Int} {x : Int32} (q : decode bytes pc = .ok (.ifCond .ge o, 3)) (pt pf : Nat) (hp : ((pc : Int) + o).toNat = pt) (ho : 0 ≤ (pc : Int) + o) (hf : pc + 3 = pf) (g1 : ¬ x < 0 → Go p e below P (T.setTop (mkF m pt Ls st))) (g2 : x < 0 → Go p e below P (T.setTop (mkF m pf Ls st))) : Go p e below P (T.setTop (mkF m pc Ls (.int x :: st))) := by
  subst hf
  by_cases w : x < 0
  · exact (g2 w).via fun _ => XS.ifNo X.here B.x rfl (B.d q) rfl (by simp [ifCond.holds, w, Int32.not_lt, Int32.not_le])
  · exact (g1 w).via fun _ => XS.ifYes X.here B.x rfl rfl (B.d q) rfl (by simpa [ifCond.holds, Int32.not_lt, Int32.not_le] using w) ho hp
theorem g_if_gt (X : Stand p l e R s m args below meth c T locs cells slots) (B : Bo Z p s m meth c own nm bytes maxL ret) {o : Int} {x : Int32} (q : decode bytes pc = .ok (.ifCond .gt o, 3)) (pt pf : Nat) (hp : ((pc : Int) + o).toNat = pt) (ho : 0 ≤ (pc : Int) + o) (hf : pc + 3 = pf) (g1 : 0 < x → Go p e below P (T.setTop (mkF m pt Ls st))) (g2 : ¬ 0 < x → Go p e below P (T.setTop (mkF m pf Ls st))) : Go p e below P (T.setTop (mkF m pc Ls (.int x :: st))) := by
  subst hf
  by_cases w : 0 < x
  · exact (g1 w).via fun _ => XS.ifYes X.here B.x rfl rfl (B.d q) rfl (by simp [ifCond.holds, w, Int32.not_lt, Int32.not_le]) ho hp
  · exact (g2 w).via fun _ => XS.ifNo X.here B.x rfl (B.d q) rfl (by simp [ifCond.holds, w, Int32.not_lt, Int32.not_le])
theorem g_if_le (X : Stand p l e R s m args below meth c T locs cells slots) (B : Bo Z p s m meth c own nm bytes maxL ret) {o : Int} {x : Int32} (q : decode bytes pc = .ok (.ifCond .le o, 3)) (pt pf : Nat) (hp : ((pc : Int) + o).toNat = pt) (ho : 0 ≤ (pc : Int) + o) (hf : pc + 3 = pf) (g1 : ¬ 0 < x → Go p e below P (T.setTop (mkF m pt Ls st))) (g2 : 0 < x → Go p e below P (T.setTop (mkF m pf Ls st))) : Go p e below P (T.setTop (mkF m pc Ls (.int x :: st))) := by
  subst hf
  by_cases w : 0 < x
  · exact (g2 w).via fun _ => XS.ifNo X.here B.x rfl (B.d q) rfl (by simp [ifCond.holds, w, Int32.not_lt, Int32.not_le])
  · exact (g1 w).via fun _ => XS.ifYes X.here B.x rfl rfl (B.d q) rfl (by simpa [ifCond.holds, Int32.not_lt, Int32.not_le] using w) ho hp
theorem g_acmp_eq (X : Stand p l e R s m args below meth c T locs cells slots) (B : Bo Z p s m meth c own nm bytes maxL ret) {o : Int} {x y : Value} (q : decode bytes pc = .ok (.if_acmp .eq o, 3)) (pt pf : Nat) (hp : ((pc : Int) + o).toNat = pt) (ho : 0 ≤ (pc : Int) + o) (hf : pc + 3 = pf) (i : x.isRef = true) (j : y.isRef = true) (g1 : x = y → Go p e below P (T.setTop (mkF m pt Ls st))) (g2 : ¬ x = y → Go p e below P (T.setTop (mkF m pf Ls st))) : Go p e below P (T.setTop (mkF m pc Ls (y :: x :: st))) := by
  subst hf
  by_cases w : x = y
  · exact (g1 w).via fun _ => XT.acmpYes X.here B.x rfl rfl (B.d q) rfl i j (by simp [XT.acmp, w]) ho hp
  · exact (g2 w).via fun _ => XT.acmpNo X.here B.x rfl (B.d q) rfl i j (by simp [XT.acmp, w])
theorem g_acmp_ne (X : Stand p l e R s m args below meth c T locs cells slots) (B : Bo Z p s m meth c own nm bytes maxL ret) {o : Int} {x y : Value} (q : decode bytes pc = .ok (.if_acmp .ne o, 3)) (pt pf : Nat) (hp : ((pc : Int) + o).toNat = pt) (ho : 0 ≤ (pc : Int) + o) (hf : pc + 3 = pf) (i : x.isRef = true) (j : y.isRef = true) (g1 : ¬ x = y → Go p e below P (T.setTop (mkF m pt Ls st))) (g2 : x = y → Go p e below P (T.setTop (mkF m pf Ls st))) : Go p e below P (T.setTop (mkF m pc Ls (y :: x :: st))) := by
  subst hf
  by_cases w : x = y
  · exact (g2 w).via fun _ => XT.acmpNo X.here B.x rfl (B.d q) rfl i j (by simp [XT.acmp, w])
  · exact (g1 w).via fun _ => XT.acmpYes X.here B.x rfl rfl (B.d q) rfl i j (by simp [XT.acmp, w]) ho hp
theorem g_ifnull (X : Stand p l e R s m args below meth c T locs cells slots) (B : Bo Z p s m meth c own nm bytes maxL ret) {o : Int} {v : Value} (q : decode bytes pc = .ok (.ifnull o, 3)) (pt pf : Nat) (hp : ((pc : Int) + o).toNat = pt) (ho : 0 ≤ (pc : Int) + o) (hf : pc + 3 = pf) (i : v.isRef = true) (g1 : v = .null → Go p e below P (T.setTop (mkF m pt Ls st))) (g2 : ¬ v = .null → Go p e below P (T.setTop (mkF m pf Ls st))) : Go p e below P (T.setTop (mkF m pc Ls (v :: st))) := by
  subst hf
  by_cases w : v = .null
  · exact (g1 w).via fun _ => XT.nullYes X.here B.x rfl rfl (B.d q) rfl w ho hp
  · exact (g2 w).via fun _ => XT.nullNo X.here B.x rfl (B.d q) rfl i w
theorem g_ifnonnull (X : Stand p l e R s m args below meth c T locs cells slots) (B : Bo Z p s m meth c own nm bytes maxL ret) {o : Int} {v : Value} (q : decode bytes pc = .ok (.ifnonnull o, 3)) (pt pf : Nat) (hp : ((pc : Int) + o).toNat = pt) (ho : 0 ≤ (pc : Int) + o) (hf : pc + 3 = pf) (i : v.isRef = true) (g1 : ¬ v = .null → Go p e below P (T.setTop (mkF m pt Ls st))) (g2 : v = .null → Go p e below P (T.setTop (mkF m pf Ls st))) : Go p e below P (T.setTop (mkF m pc Ls (v :: st))) := by
  subst hf
  by_cases w : v = .null
  · exact (g2 w).via fun _ => XT.nonnullNo X.here B.x rfl (B.d q) rfl w
  · exact (g1 w).via fun _ => XT.nonnullYes X.here B.x rfl rfl (B.d q) rfl i w ho hp
theorem g_tsw (X : Stand p l e R s m args below meth c T locs cells slots) (B : Bo Z p s m meth c own nm bytes maxL ret) {dflt low high : Int} {offs : Array Int} {len : Nat} {i : Int32} (o : Int) (q : decode bytes pc = .ok (.tableswitch dflt low high offs, len)) (pc' : Nat) (hin : ¬ (i.toInt < low ∨ i.toInt > high)) (hoff : offs[(i.toInt - low).toNat]? = some o) (ho : 0 ≤ (pc : Int) + o) (hp : ((pc : Int) + o).toNat = pc') (g : Go p e below P (T.setTop (mkF m pc' Ls st))) : Go p e below P (T.setTop (mkF m pc Ls (.int i :: st))) := g.via fun t => XS.tswIn (target := t) (g := mkF m pc Ls (.int i :: st)) (pc0 := pc) (pc' := pc') X.here B.x rfl rfl (B.d q) rfl hin hoff ho hp
theorem g_ldcI (X : Stand p l e R s m args below meth c T locs cells slots) (B : Bo Z p s m meth c own nm bytes maxL ret) {index : Nat} {v : Int32} (q : decode bytes pc = .ok (.ldc index, 2)) (pc' : Nat) (hp : pc + 2 = pc') (w : (Jvm.Cond.constant own index v).before a0 Z = true) (g : Go p e below P (T.setTop (mkF m pc' Ls (.int v :: st)))) : Go p e below P (T.setTop (mkF m pc Ls st)) := by
  subst hp
  exact g.via fun _ => X.ldcI B.x B.o (mvT B.z w) rfl (B.d q)
theorem g_getS (X : Stand p l e R s m args below meth c T locs cells slots) (B : Bo Z p s m meth c own nm bytes maxL ret) {R0 O n d : String} {index : Nat} {v : Value} (q : decode bytes pc = .ok (.getstatic index, 3)) (pc' : Nat) (hp : pc + 3 = pc') (w : (Jvm.Cond.fieldLink own index R0 n d).before a0 Z = true) (via : Via Z R0 O n d) (eT : T.heap = h) (F : Sta Z h O n d v) (k : ∀ T', Stand p l e R s m args below meth c T' locs cells slots → T'.heap = h → Go p e below P (T'.setTop (mkF m pc' Ls (v :: st)))) : Go p e below P (T.setTop (mkF m pc Ls st)) := by
  subst hp
  obtain ⟨T', X', e', q'⟩ := getS (host := "") X B.x B.z B.o w via eT F (g := mkF m pc Ls st) rfl (B.d q)
  exact (k T' X' e').via q'
theorem g_getF (X : Stand p l e R s m args below meth c T locs cells slots) (B : Bo Z p s m meth c own nm bytes maxL ret) {R0 O n d : String} {index : Nat} {a : Addr} {v : Value} (q : decode bytes pc = .ok (.getfield index, 3)) (pc' : Nat) (hp : pc + 3 = pc') (w : (Jvm.Cond.fieldLink own index R0 n d).before a0 Z = true) (via : Via Z R0 O n d) (eT : T.heap = h) (F : Fld Z h a O n d v) (k : ∀ T', Stand p l e R s m args below meth c T' locs cells slots → T'.heap = h → Go p e below P (T'.setTop (mkF m pc' Ls (v :: st)))) : Go p e below P (T.setTop (mkF m pc Ls (.ref a :: st))) := by
  subst hp
  obtain ⟨T', X', e', q'⟩ := getF (host := "") X B.x B.z B.o (Or.inl w) via eT F (g := mkF m pc Ls (.ref a :: st)) rfl rfl (B.d q)
  exact (k T' X' e').via q'
theorem g_putF (X : Stand p l e R s m args below meth c T locs cells slots) (B : Bo Z p s m meth c own nm bytes maxL ret) {R0 O n d C : String} {index kk : Nat} {ty : FieldType} {a : Addr} {v old : Value} (q : decode bytes pc = .ok (.putfield index, 3)) (pc' : Nat) (hp : pc + 3 = pc') (w : (Jvm.Cond.fieldLink own index R0 n d).before a0 Z = true) (via : Via Z R0 O n d) (eT : T.heap = h) (F : Fld Z h a O n d old) (E : Exa Z h a C) (L : (Jvm.Cond.lays C O n d).before a0 Z = true ∨ ((Jvm.Cond.laysFinal C O n d).before a0 Z = true ∧ own = O ∧ nm = "<init>")) (wi : (Jvm.Cond.instantiable C kk).before a0 Z = true) (hty : parseFieldDescriptor d = some ty) (hn : narrow ty v = v) (hf : fits ty v = true) (k : ∀ T' h', Stand p l e R s m args below meth c T' (locs ++ [⟨a, Jvm.RoadKit.slotOf Z O n d⟩]) cells slots → T'.heap = h' → Wr h h' a (Jvm.RoadKit.slotOf Z O n d) v → Go p e below P (T'.setTop (mkF m pc' Ls st))) : Go p e below P (T.setTop (mkF m pc Ls (v :: .ref a :: st))) := by
  subst hp
  obtain ⟨T', h', X', e', W', q'⟩ := putF (host := "") X B.x B.z B.o (Or.inl w) via eT F E (L.imp id fun y => ⟨y.1, y.2.1, B.n.trans y.2.2⟩) wi hty hn hf (g := mkF m pc Ls (v :: .ref a :: st)) rfl rfl (B.d q)
  exact (k T' h' X' e' W').via q'
theorem g_new (X : Stand p l e R s m args below meth c T locs cells slots) (B : Bo Z p s m meth c own nm bytes maxL ret) {C : String} {index n : Nat} (q : decode bytes pc = .ok (.new index, 3)) (pc' : Nat) (hp : pc + 3 = pc') (w : (Jvm.Cond.classLink own index C).before a0 Z = true) (wi : (Jvm.Cond.instantiable C n).before a0 Z = true) (wz : (Jvm.Cond.initialized C).before a0 Z = true) (eT : T.heap = h) (hc : cells + 1 ≤ R.cells) (hl : slots + n ≤ R.slots) (k : ∀ T' h' a, Stand p l e R s m args below meth c T' locs (cells + 1) (slots + n) → T'.heap = h' → a = h.size → Ext h h' → Exa Z h' a C → (∀ {O nm d : String} {ty : FieldType}, Laid Z a0 C O nm d → parseFieldDescriptor d = some ty → Fld Z h' a O nm d (defaultValue ty)) → Go p e below P (T'.setTop (mkF m pc' Ls (.ref a :: st)))) : Go p e below P (T.setTop (mkF m pc Ls st)) := by
  subst hp
  obtain ⟨T', h', X', e', E', A', D', -, q'⟩ := newO X B.x B.z B.o w wi wz eT (g := mkF m pc Ls st) rfl (B.d q) hc hl
  exact (k T' h' _ X' e' rfl E' A' D').via q'
theorem g_callS (X : Stand p l e R s m args below meth c T locs cells slots) (B : Bo Z p s m meth c own nm bytes maxL ret) {y : MethodName} {by' : ByteArray} {mx : Nat} {rt : Option FieldType} {rm : Room} {Q : Option Value → Heap → List Loc → Prop} {index : Nat} (argsL rest : List Value) (q : decode bytes pc = .ok (.invokestatic index, 3)) (pc' : Nat) (hp : pc + 3 = pc') (hst : st = argsL.reverse ++ rest) (w1 : (Jvm.Cond.methodLink own index y).before a0 Z = true) (w2 : (Jvm.Cond.static y).before a0 Z = true) (w3 : (Jvm.Cond.initialized y.cls).before a0 Z = true) (w4 : (Jvm.Cond.code y by' mx rt).before a0 Z = true) (hy : y.cls ≠ "java/lang/invoke/MethodHandle" ∧ y.cls ≠ "java/lang/invoke/VarHandle") (hlen : ∀ sig, parseMethodDescriptor y.desc = some sig → argsL.length = sig.parameters.length) (C : Ctr l Z y by' mx rt rm argsL.toArray h Q) (eT : T.heap = h) (hm : Ls.size = maxL) (W : Nat) (hW : (rest.map fun v => v.category).sum ≤ W) (hf : rm.frames + 1 ≤ R.frames) (hl : W + (mx + 11) + rm.locals ≤ R.locals) (hc : cells + rm.cells ≤ R.cells) (hs : slots + rm.slots ≤ R.slots) (k : ∀ v T' h' L', Stand p l e R s m args below meth c T' (locs ++ L') (cells + rm.cells) (slots + rm.slots) → T'.heap = h' → Q v h' L' → Go p e below P (T'.setTop (mkF m pc' Ls (v.toList ++ rest)))) : Go p e below P (T.setTop (mkF m pc Ls st)) := by
  subst hp hst
  obtain ⟨v, _, ⟨T', L', k', n'⟩, -, X', ⟨Lc, hQ, l1, l2, l3⟩, q'⟩ := Jvm.LawKit.callS X B.x (y := y) B.o (mvT B.z w1) (mvT B.z w2) (mvT B.z w3) (mvT B.z w4) hy (C.back (W := W) B.z w4 w3 hf hl) (g := mkF m pc Ls (argsL.reverse ++ rest)) rfl (B.mx hm) (argsL := argsL) (rest := rest) hlen rfl (by show 2 * 0 + _ ≤ _; omega) (B.d q) (fun _ _ => ⟨rfl, eT, hc, hs⟩)
  dsimp only [Pt.U, Pt.locs, Pt.cells, Pt.slots] at X' l1 l2 l3 q' hQ
  subst l1 l2 l3
  exact (k v T' _ Lc X' rfl hQ).via q'
theorem g_callV (X : Stand p l e R s m args below meth c T locs cells slots) (B : Bo Z p s m meth c own nm bytes maxL ret) {z : MethodName} {by' : ByteArray} {mx : Nat} {rt : Option FieldType} {rm : Room} {Q : Option Value → Heap → List Loc → Prop} {index : Nat} {K : String} {a : Addr} (argsL rest : List Value) (q : decode bytes pc = .ok (.invokevirtual index, 3)) (pc' : Nat) (hp : pc + 3 = pc') (hst : st = argsL.reverse ++ .ref a :: rest) (w1 : (Jvm.Cond.methodLink own index z).before a0 Z = true) (w2 : (Jvm.Cond.declares z).before a0 Z = true) (w3 : (Jvm.Cond.selects K z z).before a0 Z = true) (w4 : (Jvm.Cond.instanceMethod z).before a0 Z = true) (w5 : (Jvm.Cond.initialized z.cls).before a0 Z = true) (w6 : (Jvm.Cond.code z by' mx rt).before a0 Z = true) (hy : z.cls ≠ "java/lang/invoke/MethodHandle" ∧ z.cls ≠ "java/lang/invoke/VarHandle") (hlen : ∀ sig, parseMethodDescriptor z.desc = some sig → argsL.length = sig.parameters.length) (E : Exa Z h a K) (C : Ctr l Z z by' mx rt rm (.ref a :: argsL).toArray h Q) (eT : T.heap = h) (hm : Ls.size = maxL) (W : Nat) (hW : (rest.map fun v => v.category).sum ≤ W) (hf : rm.frames + 1 ≤ R.frames) (hl : W + (mx + 11) + rm.locals ≤ R.locals) (hc : cells + rm.cells ≤ R.cells) (hs : slots + rm.slots ≤ R.slots) (k : ∀ v T' h' L', Stand p l e R s m args below meth c T' (locs ++ L') (cells + rm.cells) (slots + rm.slots) → T'.heap = h' → Q v h' L' → Go p e below P (T'.setTop (mkF m pc' Ls (v.toList ++ rest)))) : Go p e below P (T.setTop (mkF m pc Ls st)) := by
  subst hp hst
  obtain ⟨cq, kq, qa, qb, qc⟩ := isOf B.z eT E
  obtain ⟨v, _, ⟨T', L', k', n'⟩, -, X', ⟨Lc, hQ, l1, l2, l3⟩, q'⟩ := X.virtualBack B.x (y := z) (z := z) B.o (mvT B.z w1) (mvT B.z w2) (notFace_of_selects (args := #[]) (mvT B.z w3)) (mvT B.z w3) (mvT B.z w4) hy (C.back (W := W) B.z w6 w5 hf hl) qa qc (g := mkF m pc Ls (argsL.reverse ++ .ref a :: rest)) rfl (B.mx hm) (Steps.refl _) (argsL := argsL) (rest := rest) hlen rfl (by show 2 * 0 + _ ≤ _; omega) (B.d q) (fun _ _ => ⟨rfl, eT, hc, hs⟩)
  dsimp only [Pt.U, Pt.locs, Pt.cells, Pt.slots] at X' l1 l2 l3 q' hQ
  subst l1 l2 l3
  exact (k v T' _ Lc X' rfl hQ).via fun _ => q'.trans
theorem g_callN (X : Stand p l e R s m args below meth c T locs cells slots) (B : Bo Z p s m meth c own nm bytes maxL ret) {y : MethodName} {by' : ByteArray} {mx : Nat} {rm : Room} {Q : Option Value → Heap → List Loc → Prop} {index : Nat} {a : Addr} (argsL rest : List Value) (q : decode bytes pc = .ok (.invokespecial index, 3)) (pc' : Nat) (hp : pc + 3 = pc') (hst : st = argsL.reverse ++ .ref a :: rest) (hn : y.name = "<init>") (w1 : (Jvm.Cond.methodLink own index y).before a0 Z = true) (w2 : (Jvm.Cond.instanceMethod y).before a0 Z = true) (w3 : (Jvm.Cond.code y by' mx none).before a0 Z = true) (w4 : (Jvm.Cond.initialized y.cls).before a0 Z = true) (hy : y.cls ≠ "java/lang/invoke/MethodHandle" ∧ y.cls ≠ "java/lang/invoke/VarHandle") (hlen : ∀ sig, parseMethodDescriptor y.desc = some sig → argsL.length = sig.parameters.length) (C : Ctr l Z y by' mx none rm (.ref a :: argsL).toArray h Q) (eT : T.heap = h) (hm : Ls.size = maxL) (W : Nat) (hW : (rest.map fun v => v.category).sum ≤ W) (hf : rm.frames + 1 ≤ R.frames) (hl : W + (mx + 11) + rm.locals ≤ R.locals) (hc : cells + rm.cells ≤ R.cells) (hs : slots + rm.slots ≤ R.slots) (k : ∀ v T' h' L', Stand p l e R s m args below meth c T' (locs ++ L') (cells + rm.cells) (slots + rm.slots) → T'.heap = h' → Q v h' L' → Go p e below P (T'.setTop (mkF m pc' Ls (v.toList ++ rest)))) : Go p e below P (T.setTop (mkF m pc Ls st)) := by
  subst hp hst
  obtain ⟨v, _, ⟨T', L', k', n'⟩, -, X', ⟨Lc, hQ, l1, l2, l3⟩, q'⟩ := X.specialBack B.x (y := y) hn B.o (mvT B.z w1) (mvT B.z w2) (mvT B.z w3) hy (C.back (W := W) B.z w3 w4 hf hl) (g := mkF m pc Ls (argsL.reverse ++ .ref a :: rest)) rfl (B.mx hm) (Steps.refl _) (a := a) (argsL := argsL) (rest := rest) hlen rfl (by show 2 * 0 + _ ≤ _; omega) (B.d q) (fun _ _ => ⟨rfl, eT, hc, hs⟩)
  dsimp only [Pt.U, Pt.locs, Pt.cells, Pt.slots] at X' l1 l2 l3 q' hQ
  subst l1 l2 l3
  exact (k v T' _ Lc X' rfl hQ).via fun _ => q'.trans
theorem g_newP (X : Stand p l e R s m args below meth c T locs cells slots) (B : Bo Z p s m meth c own nm bytes maxL ret) {aty : ArrayType} {n : Int32} (vs : List Value) (q : decode bytes pc = .ok (.newarray aty, 2)) (pc' : Nat) (hp : pc + 2 = pc') (w : (Jvm.Cond.arrayClass (newarray.typeOf aty)).before a0 Z = true) (eT : T.heap = h) (hn : ¬ n < 0) (hvs : List.replicate n.toNatClampNeg (defaultValue (newarray.typeOf aty)) = vs) (hb : vs.length * 8 ≤ 536870912) (hc : cells + 1 ≤ R.cells) (hl : slots + vs.length ≤ R.slots) (k : ∀ T' h' a, Stand p l e R s m args below meth c T' locs (cells + 1) (slots + vs.length) → T'.heap = h' → a = h.size → Ext h h' → Av Z h' a (newarray.typeOf aty) vs → Go p e below P (T'.setTop (mkF m pc' Ls (.ref a :: st)))) : Go p e below P (T.setTop (mkF m pc Ls (.int n :: st))) := by
  subst hp
  obtain ⟨T', h', cA, X', e', E', A', q'⟩ := newP X B.x B.z w eT (g := mkF m pc Ls (.int n :: st)) rfl (B.d q) rfl hn (cap := vs.length) (by rw [← hvs]; simp) hb hc hl
  exact (k T' h' _ X' e' rfl E' ⟨_, A', by rw [← hvs]; simp [newA]⟩).via q'
theorem g_castore (X : Stand p l e R s m args below meth c T locs cells slots) (B : Bo Z p s m meth c own nm bytes maxL ret) {a : Addr} {j x : Int32} {vs : List Value} (i : Nat) (q : decode bytes pc = .ok (.castore, 1)) (pc' : Nat) (hp : pc + 1 = pc') (eT : T.heap = h) (A : Av Z h a .char vs) (hi : j.toNatClampNeg = i) (h0 : ¬ j < 0) (hl : i < vs.length) (k : ∀ T' h', Stand p l e R s m args below meth c T' (locs ++ [⟨a, i⟩]) cells slots → T'.heap = h' → Wr h h' a i (.int (nar .char x)) → Av Z h' a .char (vs.set i (.int (nar .char x))) → Go p e below P (T'.setTop (mkF m pc' Ls st))) : Go p e below P (T.setTop (mkF m pc Ls (.int x :: .int j :: .ref a :: st))) := by
  subst hp
  have A' := A
  obtain ⟨cl, Ar, hv⟩ := A'
  obtain ⟨T', h', X', e', W', q'⟩ := stC X B.x B.z eT Ar (Av.inb (Z := Z) (h := h) (a := a) (ty := .char) hv hi h0 hl) (g := mkF m pc Ls (.int x :: .int j :: .ref a :: st)) rfl rfl (B.d q)
  subst hi
  exact (k T' h' X' e' W' (A.set W')).via q'
theorem g_bastoreB (X : Stand p l e R s m args below meth c T locs cells slots) (B : Bo Z p s m meth c own nm bytes maxL ret) {a : Addr} {j x : Int32} {vs : List Value} (i : Nat) (q : decode bytes pc = .ok (.bastore, 1)) (pc' : Nat) (hp : pc + 1 = pc') (eT : T.heap = h) (A : Av Z h a .byte vs) (hi : j.toNatClampNeg = i) (h0 : ¬ j < 0) (hl : i < vs.length) (k : ∀ T' h', Stand p l e R s m args below meth c T' (locs ++ [⟨a, i⟩]) cells slots → T'.heap = h' → Wr h h' a i (.int (nar .byte x)) → Av Z h' a .byte (vs.set i (.int (nar .byte x))) → Go p e below P (T'.setTop (mkF m pc' Ls st))) : Go p e below P (T.setTop (mkF m pc Ls (.int x :: .int j :: .ref a :: st))) := by
  subst hp
  have A' := A
  obtain ⟨cl, Ar, hv⟩ := A'
  obtain ⟨T', h', X', e', W', q'⟩ := stB X B.x B.z eT Ar (Av.inb (Z := Z) (h := h) (a := a) (ty := .byte) hv hi h0 hl) (g := mkF m pc Ls (.int x :: .int j :: .ref a :: st)) rfl rfl (B.d q)
  subst hi
  exact (k T' h' X' e' W' (A.set W')).via q'
theorem g_bastoreZ (X : Stand p l e R s m args below meth c T locs cells slots) (B : Bo Z p s m meth c own nm bytes maxL ret) {a : Addr} {j x : Int32} {vs : List Value} (i : Nat) (q : decode bytes pc = .ok (.bastore, 1)) (pc' : Nat) (hp : pc + 1 = pc') (eT : T.heap = h) (A : Av Z h a .boolean vs) (hi : j.toNatClampNeg = i) (h0 : ¬ j < 0) (hl : i < vs.length) (k : ∀ T' h', Stand p l e R s m args below meth c T' (locs ++ [⟨a, i⟩]) cells slots → T'.heap = h' → Wr h h' a i (.int (nar .boolean x)) → Av Z h' a .boolean (vs.set i (.int (nar .boolean x))) → Go p e below P (T'.setTop (mkF m pc' Ls st))) : Go p e below P (T.setTop (mkF m pc Ls (.int x :: .int j :: .ref a :: st))) := by
  subst hp
  have A' := A
  obtain ⟨cl, Ar, hv⟩ := A'
  obtain ⟨T', h', X', e', W', q'⟩ := stZ X B.x B.z eT Ar (Av.inb (Z := Z) (h := h) (a := a) (ty := .boolean) hv hi h0 hl) (g := mkF m pc Ls (.int x :: .int j :: .ref a :: st)) rfl rfl (B.d q)
  subst hi
  exact (k T' h' X' e' W' (A.set W')).via q'
theorem g_caload (X : Stand p l e R s m args below meth c T locs cells slots) (B : Bo Z p s m meth c own nm bytes maxL ret) {a : Addr} {j : Int32} {vs : List Value} {v : Value} (i : Nat) (q : decode bytes pc = .ok (.caload, 1)) (pc' : Nat) (hp : pc + 1 = pc') (eT : T.heap = h) (A : Av Z h a .char vs) (hi : j.toNatClampNeg = i) (h0 : ¬ j < 0) (hv : vs[i]? = some v) (g : Go p e below P (T.setTop (mkF m pc' Ls (v :: st)))) : Go p e below P (T.setTop (mkF m pc Ls (.int j :: .ref a :: st))) := by
  subst hp
  obtain ⟨cl, Ar, hc⟩ := A
  have hl : i < vs.length := (List.getElem?_eq_some_iff.mp hv).1
  have hin := Av.inb (Z := Z) (h := h) (a := a) (ty := .char) hc hi h0 hl
  have k1 : T.heap[a]? = some cl := by rw [eT]; exact Ar.1
  have k2 : s.isArrayOf cl .char := State.isArrayOf_alike B.z.alike Ar.2.1
  have k3 : cl.slots[j.toNatClampNeg]? = some v := by rw [hi, ← hv, ← hc]; simp
  exact g.via fun t => X.caload B.x k1 k2 Ar.2.2 hin k3 (g := mkF m pc Ls (.int j :: .ref a :: st)) rfl rfl (B.d q) t
theorem g_baloadB (X : Stand p l e R s m args below meth c T locs cells slots) (B : Bo Z p s m meth c own nm bytes maxL ret) {a : Addr} {j : Int32} {vs : List Value} {v : Value} (i : Nat) (q : decode bytes pc = .ok (.baload, 1)) (pc' : Nat) (hp : pc + 1 = pc') (eT : T.heap = h) (A : Av Z h a .byte vs) (hi : j.toNatClampNeg = i) (h0 : ¬ j < 0) (hv : vs[i]? = some v) (g : Go p e below P (T.setTop (mkF m pc' Ls (v :: st)))) : Go p e below P (T.setTop (mkF m pc Ls (.int j :: .ref a :: st))) := by
  subst hp
  obtain ⟨cl, Ar, hc⟩ := A
  have hl : i < vs.length := (List.getElem?_eq_some_iff.mp hv).1
  have hin := Av.inb (Z := Z) (h := h) (a := a) (ty := .byte) hc hi h0 hl
  have k1 : T.heap[a]? = some cl := by rw [eT]; exact Ar.1
  have k2 : s.isArrayOf cl .byte := State.isArrayOf_alike B.z.alike Ar.2.1
  have k3 : cl.slots[j.toNatClampNeg]? = some v := by rw [hi, ← hv, ← hc]; simp
  exact g.via fun t => X.baloadBytes B.x k1 k2 Ar.2.2 hin k3 (g := mkF m pc Ls (.int j :: .ref a :: st)) rfl rfl (B.d q) t
theorem g_baloadZ (X : Stand p l e R s m args below meth c T locs cells slots) (B : Bo Z p s m meth c own nm bytes maxL ret) {a : Addr} {j : Int32} {vs : List Value} {v : Value} (i : Nat) (q : decode bytes pc = .ok (.baload, 1)) (pc' : Nat) (hp : pc + 1 = pc') (eT : T.heap = h) (A : Av Z h a .boolean vs) (hi : j.toNatClampNeg = i) (h0 : ¬ j < 0) (hv : vs[i]? = some v) (g : Go p e below P (T.setTop (mkF m pc' Ls (v :: st)))) : Go p e below P (T.setTop (mkF m pc Ls (.int j :: .ref a :: st))) := by
  subst hp
  obtain ⟨cl, Ar, hc⟩ := A
  have hl : i < vs.length := (List.getElem?_eq_some_iff.mp hv).1
  have hin := Av.inb (Z := Z) (h := h) (a := a) (ty := .boolean) hc hi h0 hl
  have k1 : T.heap[a]? = some cl := by rw [eT]; exact Ar.1
  have k2 : s.isArrayOf cl .boolean := State.isArrayOf_alike B.z.alike Ar.2.1
  have k3 : cl.slots[j.toNatClampNeg]? = some v := by rw [hi, ← hv, ← hc]; simp
  exact g.via fun t => X.baloadBooleans B.x k1 k2 Ar.2.2 hin k3 (g := mkF m pc Ls (.int j :: .ref a :: st)) rfl rfl (B.d q) t
theorem g_aaload (X : Stand p l e R s m args below meth c T locs cells slots) (B : Bo Z p s m meth c own nm bytes maxL ret) {ty : FieldType} (hty : ty.isReference = true) {a : Addr} {j : Int32} {vs : List Value} {v : Value} (i : Nat) (q : decode bytes pc = .ok (.aaload, 1)) (pc' : Nat) (hp : pc + 1 = pc') (eT : T.heap = h) (A : Av Z h a ty vs) (hi : j.toNatClampNeg = i) (h0 : ¬ j < 0) (hv : vs[i]? = some v) (g : Go p e below P (T.setTop (mkF m pc' Ls (v :: st)))) : Go p e below P (T.setTop (mkF m pc Ls (.int j :: .ref a :: st))) := by
  subst hp
  obtain ⟨cl, Ar, hc⟩ := A
  have hl : i < vs.length := (List.getElem?_eq_some_iff.mp hv).1
  have hin := Av.inb (Z := Z) (h := h) (a := a) (ty := ty) hc hi h0 hl
  have k1 : T.heap[a]? = some cl := by rw [eT]; exact Ar.1
  have k2 : s.isArrayOf cl ty := State.isArrayOf_alike B.z.alike Ar.2.1
  have k3 : cl.slots[j.toNatClampNeg]? = some v := by rw [hi, ← hv, ← hc]; simp
  exact g.via fun t => X.aaload B.x k1 k2 hty Ar.2.2 hin k3 (g := mkF m pc Ls (.int j :: .ref a :: st)) rfl rfl (B.d q) t
theorem g_arrlen (X : Stand p l e R s m args below meth c T locs cells slots) (B : Bo Z p s m meth c own nm bytes maxL ret) {ty : FieldType} {a : Addr} {vs : List Value} (n : Int32) (q : decode bytes pc = .ok (.arraylength, 1)) (pc' : Nat) (hp : pc + 1 = pc') (eT : T.heap = h) (A : Av Z h a ty vs) (hn : vs.length.toInt32 = n) (g : Go p e below P (T.setTop (mkF m pc' Ls (.int n :: st)))) : Go p e below P (T.setTop (mkF m pc Ls (.ref a :: st))) := by
  subst hp hn
  obtain ⟨cl, Ar, hc⟩ := A
  have k1 : T.heap[a]? = some cl := by rw [eT]; exact Ar.1
  have k2 : s.isArrayOf cl ty := State.isArrayOf_alike B.z.alike Ar.2.1
  rw [← hc, Array.length_toList] at g
  exact g.via fun t => X.arraylength B.x k1 k2 (g := mkF m pc Ls (.ref a :: st)) rfl rfl (B.d q) t
theorem g_callUp (X : Stand p l e R s m args below meth c T locs cells slots) (B : Bo Z p s m meth c own nm bytes maxL ret) {y z : MethodName} {by' : ByteArray} {mx : Nat} {rt : Option FieldType} {rm : Room} {Q : Option Value → Heap → List Loc → Prop} {index : Nat} {K owner : String} {a : Addr} (argsL rest : List Value) (q : decode bytes pc = .ok (.invokevirtual index, 3)) (pc' : Nat) (hp : pc + 3 = pc') (hst : st = argsL.reverse ++ .ref a :: rest) (w1 : (Jvm.Cond.methodLink own index y).before a0 Z = true) (w2 : (Jvm.Cond.sameMethod y.cls owner y.name y.desc).before a0 Z = true) (w2' : (Jvm.Cond.declares ⟨owner, y.name, y.desc⟩).before a0 Z = true) (w3 : (Jvm.Cond.selects K y z).before a0 Z = true) (w4 : (Jvm.Cond.instanceMethod z).before a0 Z = true) (w5 : (Jvm.Cond.initialized z.cls).before a0 Z = true) (w6 : (Jvm.Cond.code z by' mx rt).before a0 Z = true) (hy : owner ≠ "java/lang/invoke/MethodHandle" ∧ owner ≠ "java/lang/invoke/VarHandle") (hlen : ∀ sig, parseMethodDescriptor y.desc = some sig → argsL.length = sig.parameters.length) (E : Exa Z h a K) (C : Ctr l Z z by' mx rt rm (.ref a :: argsL).toArray h Q) (eT : T.heap = h) (hm : Ls.size = maxL) (W : Nat) (hW : (rest.map fun v => v.category).sum ≤ W) (hf : rm.frames + 1 ≤ R.frames) (hl : W + (mx + 11) + rm.locals ≤ R.locals) (hc : cells + rm.cells ≤ R.cells) (hs : slots + rm.slots ≤ R.slots) (k : ∀ v T' h' L', Stand p l e R s m args below meth c T' (locs ++ L') (cells + rm.cells) (slots + rm.slots) → T'.heap = h' → Q v h' L' → Go p e below P (T'.setTop (mkF m pc' Ls (v.toList ++ rest)))) : Go p e below P (T.setTop (mkF m pc Ls st)) := by
  subst hp hst
  obtain ⟨cq, kq, qa, qb, qc⟩ := isOf B.z eT E
  obtain ⟨v, _, ⟨T', L', k', n'⟩, -, X', ⟨Lc, hQ, l1, l2, l3⟩, q'⟩ := X.virtualBackUp B.x (x := y) (y := z) B.o (mvT B.z w1) (mvT B.z w2) (mvT B.z w2') hy (mvT B.z w3) (mvT B.z w4) (C.back (W := W) B.z w6 w5 hf hl) qa qc (g := mkF m pc Ls (argsL.reverse ++ .ref a :: rest)) rfl (B.mx hm) (Steps.refl _) (argsL := argsL) (rest := rest) hlen rfl (by show 2 * 0 + _ ≤ _; omega) (B.d q) (fun _ _ => ⟨rfl, eT, hc, hs⟩)
  dsimp only [Pt.U, Pt.locs, Pt.cells, Pt.slots] at X' l1 l2 l3 q' hQ
  subst l1 l2 l3
  exact (k v T' _ Lc X' rfl hQ).via fun _ => q'.trans
theorem g_cast (X : Stand p l e R s m args below meth c T locs cells slots) (B : Bo Z p s m meth c own nm bytes maxL ret) {K : String} {index : Nat} {a : Addr} (q : decode bytes pc = .ok (.checkcast index, 3)) (pc' : Nat) (hp : pc + 3 = pc') (w : (Jvm.Cond.classLink own index K).before a0 Z = true) (eT : T.heap = h) (F : Ins Z h a K true) (k : ∀ T', Stand p l e R s m args below meth c T' locs cells slots → T'.heap = h → Go p e below P (T'.setTop (mkF m pc' Ls (.ref a :: st)))) : Go p e below P (T.setTop (mkF m pc Ls (.ref a :: st))) := by
  subst hp
  obtain ⟨T', X', e', q'⟩ := castY X B.x B.z B.o w eT F (g := mkF m pc Ls (.ref a :: st)) rfl rfl (B.d q)
  exact (k T' X' e').via q'
theorem g_dupX1 (X : Stand p l e R s m args below meth c T locs cells slots) (B : Bo Z p s m meth c own nm bytes maxL ret) {x y : Value} (q : decode bytes pc = .ok (.dup_x1, 1)) (pc' : Nat) (hp : pc + 1 = pc') (u : x.category = 1) (u' : y.category = 1) (g : Go p e below P (T.setTop (mkF m pc' Ls (x :: y :: x :: st)))) : Go p e below P (T.setTop (mkF m pc Ls (x :: y :: st))) := by
  subst hp
  exact g.via fun _ => XT.dupX1 X.here B.x rfl (B.d q) rfl u u'
theorem g_callI (X : Stand p l e R s m args below meth c T locs cells slots) (B : Bo Z p s m meth c own nm bytes maxL ret) {y z : MethodName} {by' : ByteArray} {mx : Nat} {rt : Option FieldType} {rm : Room} {Q : Option Value → Heap → List Loc → Prop} {index count : Nat} {K : String} {a : Addr} (argsL rest : List Value) (q : decode bytes pc = .ok (.invokeinterface index count, 5)) (pc' : Nat) (hp : pc + 5 = pc') (hst : st = argsL.reverse ++ .ref a :: rest) (w1 : (Jvm.Cond.methodLink own index y).before a0 Z = true) (w2 : (Jvm.Cond.declares y).before a0 Z = true) (hfa : ((Jvm.Cond.interfaceMethod y.cls y.cls y.name y.desc).onTables && (Jvm.Cond.interfaceMethod y.cls y.cls y.name y.desc).keepsFace) = true) (w2' : (Jvm.Cond.interfaceMethod y.cls y.cls y.name y.desc).before a0 Z = true) (w3 : (Jvm.Cond.selects K y z).before a0 Z = true) (w4 : (Jvm.Cond.instanceMethod z).before a0 Z = true) (w7 : (Jvm.Cond.publicMethod z).before a0 Z = true) (w8 : (Jvm.Cond.unhidden K y.name y.desc).before a0 Z = true) (w9 : (Jvm.Cond.castable K y.cls).before a0 Z = true) (w5 : (Jvm.Cond.initialized z.cls).before a0 Z = true) (w6 : (Jvm.Cond.code z by' mx rt).before a0 Z = true) (hy : y.cls ≠ "java/lang/invoke/MethodHandle" ∧ y.cls ≠ "java/lang/invoke/VarHandle") (hlen : ∀ sig, parseMethodDescriptor y.desc = some sig → argsL.length = sig.parameters.length) (E : Exa Z h a K) (C : Ctr l Z z by' mx rt rm (.ref a :: argsL).toArray h Q) (eT : T.heap = h) (hm : Ls.size = maxL) (W : Nat) (hW : (rest.map fun v => v.category).sum ≤ W) (hf : rm.frames + 1 ≤ R.frames) (hl : W + (mx + 11) + rm.locals ≤ R.locals) (hc : cells + rm.cells ≤ R.cells) (hs : slots + rm.slots ≤ R.slots) (k : ∀ v T' h' L', Stand p l e R s m args below meth c T' (locs ++ L') (cells + rm.cells) (slots + rm.slots) → T'.heap = h' → Q v h' L' → Go p e below P (T'.setTop (mkF m pc' Ls (v.toList ++ rest)))) : Go p e below P (T.setTop (mkF m pc Ls st)) := by
  subst hp hst
  obtain ⟨cq, kq, qa, qb, qc⟩ := isOf B.z eT E
  obtain ⟨v, _, ⟨T', L', k', n'⟩, -, X', ⟨Lc, hQ, l1, l2, l3⟩, q'⟩ := X.interfaceBack B.x (xi := y) (y := z) B.o (mvT B.z w1) (mvT B.z w2) (mvT B.z w2' hfa) (mvT B.z w3) (mvT B.z w4) (mvT B.z w7) (mvT B.z w8) (mvT B.z w9) hy (C.back (W := W) B.z w6 w5 hf hl) qa qb qc (g := mkF m pc Ls (argsL.reverse ++ .ref a :: rest)) rfl (B.mx hm) (Steps.refl _) (argsL := argsL) (rest := rest) hlen rfl (by show 2 * 0 + _ ≤ _; omega) (B.d q) (fun _ _ => ⟨rfl, eT, hc, hs⟩)
  dsimp only [Pt.U, Pt.locs, Pt.cells, Pt.slots] at X' l1 l2 l3 q' hQ
  subst l1 l2 l3
  exact (k v T' _ Lc X' rfl hQ).via fun _ => q'.trans
theorem g_callP (X : Stand p l e R s m args below meth c T locs cells slots) (B : Bo Z p s m meth c own nm bytes maxL ret) {y : MethodName} {by' : ByteArray} {mx : Nat} {rt : Option FieldType} {rm : Room} {Q : Option Value → Heap → List Loc → Prop} {index : Nat} {K : String} {a : Addr} (argsL rest : List Value) (q : decode bytes pc = .ok (.invokevirtual index, 3)) (pc' : Nat) (hp : pc + 3 = pc') (hst : st = argsL.reverse ++ .ref a :: rest) (w1 : (Jvm.Cond.methodLink own index y).before a0 Z = true) (w2 : (Jvm.Cond.instanceMethod y).before a0 Z = true) (w3 : (Jvm.Cond.selects y.cls y y).before a0 Z = true) (w4 : (Jvm.Cond.privateMethod y).before a0 Z = true) (w5 : (Jvm.Cond.initialized y.cls).before a0 Z = true) (w6 : (Jvm.Cond.code y by' mx rt).before a0 Z = true) (hy : y.cls ≠ "java/lang/invoke/MethodHandle" ∧ y.cls ≠ "java/lang/invoke/VarHandle") (hlen : ∀ sig, parseMethodDescriptor y.desc = some sig → argsL.length = sig.parameters.length) (E : Exa Z h a K) (C : Ctr l Z y by' mx rt rm (.ref a :: argsL).toArray h Q) (eT : T.heap = h) (hm : Ls.size = maxL) (W : Nat) (hW : (rest.map fun v => v.category).sum ≤ W) (hf : rm.frames + 1 ≤ R.frames) (hl : W + (mx + 11) + rm.locals ≤ R.locals) (hc : cells + rm.cells ≤ R.cells) (hs : slots + rm.slots ≤ R.slots) (k : ∀ v T' h' L', Stand p l e R s m args below meth c T' (locs ++ L') (cells + rm.cells) (slots + rm.slots) → T'.heap = h' → Q v h' L' → Go p e below P (T'.setTop (mkF m pc' Ls (v.toList ++ rest)))) : Go p e below P (T.setTop (mkF m pc Ls st)) := by
  subst hp hst
  obtain ⟨cl, hcl, hpl⟩ := E.cell
  obtain ⟨v, _, ⟨T', L', k', n'⟩, -, X', ⟨Lc, hQ, l1, l2, l3⟩, q'⟩ := X.privateBack B.x (y := y) B.o (mvT B.z w1) (mvT B.z w2) (mvT B.z w3) (Cond.privateMethod_at (args := #[]) (mvP B.z w4)) (mvT B.z w6) hy (C.back (W := W) B.z w6 w5 hf hl) (g := mkF m pc Ls (argsL.reverse ++ .ref a :: rest)) rfl (B.mx hm) (Steps.refl _) (by rw [eT]; exact hcl) hpl (argsL := argsL) (rest := rest) hlen rfl (by show 2 * 0 + _ ≤ _; omega) (B.d q) (fun _ _ => ⟨rfl, eT, hc, hs⟩)
  dsimp only [Pt.U, Pt.locs, Pt.cells, Pt.slots] at X' l1 l2 l3 q' hQ
  subst l1 l2 l3
  exact (k v T' _ Lc X' rfl hQ).via fun _ => q'.trans
theorem g_retOut (X : Stand p l e R s m args below meth c T locs cells slots) (B : Bo Z p s m meth c own nm bytes maxL ret) {Q : Option Value → Heap → List Loc → Prop} {cc ss : Nat} {w : Value} {t : FieldType} {i : Instr} (q : decode bytes pc = .ok (i, 1)) (ht : ret = some t) (hn : narrow t w = w)
    (hi : (i = .ireturn ∧ (t = .int ∨ t = .boolean ∨ t = .byte ∨ t = .char ∨ t = .short) ∧ ∃ z, w = .int z) ∨ (i = .lreturn ∧ t = .long ∧ ∃ z, w = .long z) ∨ (i = .dreturn ∧ t = .double ∧ ∃ z, w = .double z) ∨ (i = .freturn ∧ t = .float ∧ ∃ z, w = .float z) ∨ (i = .areturn ∧ t.isReference = true ∧ w.isRef = true))
    (hc : cells ≤ cc) (hs : slots ≤ ss) (eT : T.heap = h) (hQ : Q (some w) h locs) : Go p e below (EndsQ s Q cc ss) (T.setTop (mkF m pc Ls (w :: st))) := by
  have hl := B.lk
  obtain ⟨fs, hr, hrun, hended, hW, hsame⟩ := X.leave (v := some w) (fun z => by rw [B.r, ht] at z; cases z) hl
  subst eT
  exact ⟨_, _, retOut X B.x (B.r.trans ht) hn hi (B.d q) hr, hrun, hended, _, _, rfl, hQ, ⟨_, rfl⟩, hW, hsame.mono hc hs⟩
theorem g_retA (X : Stand p l e R s m args below meth c T locs cells slots) (B : Bo Z p s m meth c own nm bytes maxL ret) {Q : Option Value → Heap → List Loc → Prop} {cc ss : Nat} {w : Value} {t : FieldType} (q : decode bytes pc = .ok (.areturn, 1)) (ht : ret = some t) (hr : t.isReference = true) (hw : w.isRef = true) (hc : cells ≤ cc) (hs : slots ≤ ss) (eT : T.heap = h) (hQ : Q (some w) h locs) : Go p e below (EndsQ s Q cc ss) (T.setTop (mkF m pc Ls (w :: st))) :=
  g_retOut X B q ht (by cases t <;> first | (cases hr; done) | (cases w <;> first | rfl | (cases hw; done))) (Or.inr (Or.inr (Or.inr (Or.inr ⟨rfl, hr, hw⟩)))) hc hs eT hQ
theorem g_retI (X : Stand p l e R s m args below meth c T locs cells slots) (B : Bo Z p s m meth c own nm bytes maxL ret) {Q : Option Value → Heap → List Loc → Prop} {cc ss : Nat} {z : Int32} (q : decode bytes pc = .ok (.ireturn, 1)) (ht : ret = some .int) (hc : cells ≤ cc) (hs : slots ≤ ss) (eT : T.heap = h) (hQ : Q (some (.int z)) h locs) : Go p e below (EndsQ s Q cc ss) (T.setTop (mkF m pc Ls (.int z :: st))) :=
  g_retOut X B q ht rfl (Or.inl ⟨rfl, Or.inl rfl, _, rfl⟩) hc hs eT hQ
theorem g_retL (X : Stand p l e R s m args below meth c T locs cells slots) (B : Bo Z p s m meth c own nm bytes maxL ret) {Q : Option Value → Heap → List Loc → Prop} {cc ss : Nat} {z : Int64} (q : decode bytes pc = .ok (.lreturn, 1)) (ht : ret = some .long) (hc : cells ≤ cc) (hs : slots ≤ ss) (eT : T.heap = h) (hQ : Q (some (.long z)) h locs) : Go p e below (EndsQ s Q cc ss) (T.setTop (mkF m pc Ls (.long z :: st))) :=
  g_retOut X B q ht rfl (Or.inr (Or.inl ⟨rfl, rfl, _, rfl⟩)) hc hs eT hQ
theorem g_retN (X : Stand p l e R s m args below meth c T locs cells slots) (B : Bo Z p s m meth c own nm bytes maxL ret) {Q : Option Value → Heap → List Loc → Prop} {cc ss : Nat} {z : Int32} {t : FieldType} (q : decode bytes pc = .ok (.ireturn, 1)) (ht : ret = some t) (hn : narrow t (.int z) = .int z) (hk : t = .boolean ∨ t = .byte ∨ t = .char ∨ t = .short) (hc : cells ≤ cc) (hs : slots ≤ ss) (eT : T.heap = h) (hQ : Q (some (.int z)) h locs) : Go p e below (EndsQ s Q cc ss) (T.setTop (mkF m pc Ls (.int z :: st))) :=
  g_retOut X B q ht hn (Or.inl ⟨rfl, Or.inr hk, _, rfl⟩) hc hs eT hQ
theorem g_retV (X : Stand p l e R s m args below meth c T locs cells slots) (B : Bo Z p s m meth c own nm bytes maxL ret) {Q : Option Value → Heap → List Loc → Prop} {cc ss : Nat} (q : decode bytes pc = .ok (.return_, 1)) (ht : ret = none) (hc : cells ≤ cc) (hs : slots ≤ ss) (eT : T.heap = h) (hQ : Q none h locs) : Go p e below (EndsQ s Q cc ss) (T.setTop (mkF m pc Ls [])) := by
  have hl := B.lk
  obtain ⟨fs, hr, hrun, hended, hW, hsame⟩ := X.leave (v := none) (fun _ => rfl) hl
  subst eT
  exact ⟨_, _, X.returnOut B.x (B.r.trans ht) (B.d q) hr, hrun, hended, _, _, rfl, hQ, ⟨_, rfl⟩, hW, hsame.mono hc hs⟩
end OwnKit
theorem own_abs {P : Prop} {G : Prop} (q : P) (z : ¬ P) : G := absurd q z
theorem own_abs' {P : Prop} {G : Prop} (q : ¬ P) (z : P) : G := absurd z q
/-! own: from the words of a case to facts -/
theorem own_fldI {Z : State} {args : Array Value} {t : Term} {C n d : String} {a : Addr} {k : Int32} (ev : t.eval args Z none [] Z = some (.ref a)) (q : (Jvm.Cond.eq (.field t C n d) (.int k)).value args Z none Z [] = some true) : Fld Z Z.heap a C n d (.int k) := by
  obtain ⟨x, y, h1, h2, h3, -⟩ := cmp_v (Or.inl q)
  cases h2
  have h4 : Z.fieldOf? a C n d = some x := (fld_at ev).symm.trans h1
  have h5 : ∃ z, x = .int z := by cases x <;> simp [Kin, Value.isRef] at h3 ⊢
  obtain ⟨z, rfl⟩ := h5
  have h6 : z = k := by
    have h7 : (Jvm.Cond.eq (.field t C n d) (.int k)).value args Z none Z [] = some (decide (z = k)) := by simp only [Cond.value, h1, Term.int_eval]
    exact gotT h7 q
  exact h6 ▸ Fld.start h4
theorem own_fldN {Z : State} {args : Array Value} {t : Term} {C n d : String} {a : Addr} (ev : t.eval args Z none [] Z = some (.ref a)) (q : (Jvm.Cond.eq (.field t C n d) .null).value args Z none Z [] = some true) : Fld Z Z.heap a C n d .null := Fld.start ((fld_at ev).symm.trans (null_v q))
theorem own_stk {Z : State} {h h' : Heap} {C n d : String} {v : Value} (F : Sta Z h C n d v) (K : Keep h h' []) : Sta Z h' C n d v := by
  obtain ⟨cf, i, k, f, st, cell, h1, h2, h3, h4, h5, r⟩ := F
  exact ⟨cf, i, k, f, st, cell, h1, h2, h3, h4, K.2.1 _ _ h5 (fun q => nomatch q), r⟩
def own_Pl (h : Heap) (ws : List Addr) : Prop := ∀ a ∈ ws, ∀ c : Cell, h[a]? = some c → c.vm.isStatics = false
theorem own_pl0 {h : Heap} : own_Pl h [] := fun _ q => nomatch q
theorem own_plE {Z : State} {h : Heap} {a : Addr} {C : String} {ws : List Addr} (E : Exa Z h a C) (q : own_Pl h ws) : own_Pl h (a :: ws) := fun x hx c hc => by
  rcases List.mem_cons.mp hx with rfl | hx
  · obtain ⟨c', k, h1, -, -, h4, -⟩ := E
    cases h1.symm.trans hc; exact h4
  · exact q x hx c hc
theorem own_plA {Z : State} {h : Heap} {a : Addr} {ty : FieldType} {vs : List Value} {ws : List Addr} (E : Av Z h a ty vs) (q : own_Pl h ws) : own_Pl h (a :: ws) := fun x hx c hc => by
  rcases List.mem_cons.mp hx with rfl | hx
  · obtain ⟨c', A, -⟩ := E
    cases A.1.symm.trans hc; exact A.plain
  · exact q x hx c hc
theorem own_stkw {Z : State} {h h' : Heap} {C n d : String} {v : Value} {ws : List Addr} (F : Sta Z h C n d v) (K : Keep h h' ws) (q : own_Pl h ws) : Sta Z h' C n d v := by
  obtain ⟨cf, i, k, f, st, cell, h1, h2, h3, h4, h5, h6, r⟩ := F
  exact ⟨cf, i, k, f, st, cell, h1, h2, h3, h4, K.2.1 _ _ h5 (fun z => by rw [q _ z _ h5] at h6; cases h6), h6, r⟩
theorem own_neAv {Z : State} {h : Heap} {a b : Addr} {C : String} {ty : FieldType} {vs : List Value} {a0 : Array Value} {k : Nat} (F : Exa Z h a C) (wi : (Jvm.Cond.instantiable C k).before a0 Z = true) (G : Av Z h b ty vs) : a ≠ b := by
  obtain ⟨c, A, -⟩ := G
  exact ne_arr F wi A
/-- an array of references over C, its contents known -/
def AvR (Z : State) (h : Heap) (a : Addr) (C : String) (vs : List Value) : Prop := ∃ c : Cell, Arr Z h a c (.object C) ∧ c.slots.toList = vs ∧ Ovr Z c.cls C
theorem AvR.av {Z : State} {h : Heap} {a : Addr} {C : String} {vs : List Value} (A : AvR Z h a C vs) : Av Z h a (.object C) vs := by obtain ⟨c, q, r, -⟩ := A; exact ⟨c, q, r⟩
theorem own_AvR_ext {Z : State} {h h' : Heap} {a : Addr} {C : String} {vs : List Value} (A : AvR Z h a C vs) (E : Ext h h') : AvR Z h' a C vs := by obtain ⟨c, q, r⟩ := A; exact ⟨c, q.ext E, r⟩
theorem own_AvR_other {Z : State} {h h' : Heap} {a b : Addr} {C : String} {vs : List Value} {sl : Nat} {v : Value} (A : AvR Z h b C vs) (W : Wr h h' a sl v) (q : b ≠ a) : AvR Z h' b C vs := by obtain ⟨c, q1, r⟩ := A; exact ⟨c, q1.other W q, r⟩
theorem own_AvR_keep {Z : State} {h h' : Heap} {a : Addr} {C : String} {vs : List Value} {ws : List Addr} (A : AvR Z h a C vs) (K : Keep h h' ws) (q : a ∉ ws) : AvR Z h' a C vs := by obtain ⟨c, q1, r⟩ := A; exact ⟨c, ⟨K.2.1 a c q1.1 q, q1.2⟩, r⟩
theorem AvR.set {Z : State} {h h' : Heap} {a : Addr} {C : String} {vs : List Value} {i : Nat} {v : Value} (A : AvR Z h a C vs) (W : Wr h h' a i v) : AvR Z h' a C (vs.set i v) := by
  obtain ⟨c, q, rfl, r⟩ := A
  exact ⟨_, q.same W, by simp [Cell.setSlot], r⟩
theorem own_fldR {Z : State} {args : Array Value} {t u : Term} {C n d : String} {a b : Addr} (ev : t.eval args Z none [] Z = some (.ref a)) (ew : u.eval args Z none [] Z = some (.ref b)) (q : (Jvm.Cond.eq (.field t C n d) u).value args Z none Z [] = some true) : Fld Z Z.heap a C n d (.ref b) := by
  obtain ⟨x, y, h1, h2, h3, -⟩ := cmp_v (Or.inl q)
  cases ew.symm.trans h2
  have h4 : Z.fieldOf? a C n d = some x := (fld_at ev).symm.trans h1
  have h5 : x.isRef = true := by cases x <;> simp [Kin, Value.isRef] at h3 ⊢
  have h6 : x = .ref b := gotT (eq_R h1 ew h5 rfl) q
  exact h6 ▸ Fld.start h4
section OwnKit2
variable {p : Program} {l : Launch} {e : Env} {R : Room} {s : State} {m : MethodId} {args : Array Value} {below : List Frame} {meth : Method} {c : Code} {T : State} {locs : List Loc} {cells slots : Nat} {Z : State} {a0 : Array Value} {h : Heap} {P : State → Outcome → Prop} {pc : Nat} {Ls : Array Slot} {st rest : List Value} {own nm : String} {bytes : ByteArray} {maxL : Nat} {ret : Option FieldType}
theorem g_newR (X : Stand p l e R s m args below meth c T locs cells slots) (B : Bo Z p s m meth c own nm bytes maxL ret) {C : String} {index : Nat} {n : Int32} (vs : List Value) (q : decode bytes pc = .ok (.anewarray index, 3)) (pc' : Nat) (hp : pc + 3 = pc') (w1 : (Jvm.Cond.classLink own index C).before a0 Z = true) (w2 : (Jvm.Cond.arrayOver (.object C)).before a0 Z = true) (eT : T.heap = h) (hn : ¬ n < 0) (hvs : List.replicate n.toNatClampNeg (Value.null) = vs) (hb : vs.length * 8 ≤ 536870912) (hc : cells + 1 ≤ R.cells) (hl : slots + vs.length ≤ R.slots) (k : ∀ T' h' a, Stand p l e R s m args below meth c T' locs (cells + 1) (slots + vs.length) → T'.heap = h' → a = h.size → Ext h h' → AvR Z h' a C vs → Go p e below P (T'.setTop (mkF m pc' Ls (.ref a :: st)))) : Go p e below P (T.setTop (mkF m pc Ls (.int n :: st))) := by
  subst hp
  obtain ⟨T', h', cA, X', e', E', A', O', q'⟩ := newR X B.x B.z B.o w1 w2 eT (g := mkF m pc Ls (.int n :: st)) rfl (B.d q) rfl hn (cap := vs.length) (by rw [← hvs]; simp) hb hc hl
  exact (k T' h' _ X' e' rfl E' ⟨_, A', by rw [← hvs]; simp [newA, defaultValue], O'⟩).via q'
theorem g_aastore (X : Stand p l e R s m args below meth c T locs cells slots) (B : Bo Z p s m meth c own nm bytes maxL ret) {C : String} {a y : Addr} {j : Int32} {vs : List Value} (i : Nat) (q : decode bytes pc = .ok (.aastore, 1)) (pc' : Nat) (hp : pc + 1 = pc') (eT : T.heap = h) (A : AvR Z h a C vs) (I : Ins Z h y C true) (hi : j.toNatClampNeg = i) (h0 : ¬ j < 0) (hl : i < vs.length) (k : ∀ T' h', Stand p l e R s m args below meth c T' (locs ++ [⟨a, i⟩]) cells slots → T'.heap = h' → Wr h h' a i (.ref y) → AvR Z h' a C (vs.set i (.ref y)) → Go p e below P (T'.setTop (mkF m pc' Ls st))) : Go p e below P (T.setTop (mkF m pc Ls (.ref y :: .int j :: .ref a :: st))) := by
  subst hp
  have A' := A
  obtain ⟨cl, Ar, hv, O⟩ := A'
  obtain ⟨T', h', X', e', W', q'⟩ := stR X B.x B.z eT Ar (Av.inb (Z := Z) (h := h) (a := a) (ty := .object C) hv hi h0 hl) rfl (Sto.of Ar O I) (g := mkF m pc Ls (.ref y :: .int j :: .ref a :: st)) rfl rfl (B.d q)
  subst hi
  exact (k T' h' X' e' W' (A.set W')).via q'
end OwnKit2

/-! own: numbers of the String bodies -/
theorem own_ti {n : Nat} (h : n < 2147483648) : (Int32.ofNat n).toInt = n := Int32.toInt_ofNat_of_lt h
theorem own_tn {n : Nat} (h : n < 2147483648) : (Int32.ofNat n).toNatClampNeg = n := by
  rw [Int32.toNatClampNeg, own_ti h]; rfl
theorem own_nn {n : Nat} (h : n < 2147483648) : ¬ Int32.ofNat n < 0 := by
  rw [Int32.lt_iff_toInt_lt, own_ti h]; show ¬ (n : Int) < 0; omega
theorem own_lt {i n : Nat} (hi : i < 2147483648) (hn : n < 2147483648) : (Int32.ofNat i < Int32.ofNat n) ↔ i < n := by
  rw [Int32.lt_iff_toInt_lt, own_ti hi, own_ti hn]; omega
theorem own_s1 {i : Nat} (h : i + 1 < 2147483648) : Int32.ofNat i + 1 = Int32.ofNat (i + 1) := by
  apply Int32.toInt_inj.mp
  have h1 := c_iadd (Int32.ofNat i) 1
  have h2 := rng32 (Int32.ofNat i + 1)
  have h3 : (1 : Int32).toInt = 1 := by decide
  rw [own_ti (by omega)] at h1
  rw [own_ti h]
  omega
theorem own_shl1 {n : Nat} (h : n < 1073741824) : Int32.ofNat n <<< ((1 : Int32) &&& 31) = Int32.ofNat (2 * n) := by
  apply Int32.toInt_inj.mp
  have h1 := c_ishl (Int32.ofNat n) 1 1 (by decide)
  have h2 := rng32 (Int32.ofNat n <<< ((1 : Int32) &&& 31))
  rw [own_ti (by omega)] at h1
  rw [own_ti (by omega)]
  omega
theorem own_shr1 {n : Nat} (h : n < 2147483648) : Int32.ofNat n >>> ((1 : Int32) &&& 31) = Int32.ofNat (n / 2) := by
  apply Int32.toInt_inj.mp
  have h1 := c_ishr (Int32.ofNat n) 1 1 (by decide)
  rw [own_ti h] at h1
  rw [own_ti (by omega), h1]
  omega
theorem own_shr0 (x : Int32) : x >>> ((0 : Int32) &&& 31) = x := by
  apply Int32.toInt_inj.mp
  have h1 := c_ishr x 0 0 (by decide)
  simpa using h1
def own_ch (c : Int32) : Prop := 0 ≤ c.toInt ∧ c.toInt < 65536
def own_lo (c : Int32) : Int32 := c.toInt8.toInt32
def own_hi (c : Int32) : Int32 := (c >>> ((8 : Int32) &&& 31)).toInt8.toInt32
theorem own_nb (x : Int32) : nar .byte (x.toInt8.toInt32) = x.toInt8.toInt32 := by
  have h := XT.narrow_b x
  simpa [narrow, nar] using h
theorem own_get {c : Int32} (h : own_ch c) : ((((own_lo c) &&& (255 : Int32)) <<< ((0 : Int32) &&& 31)) ||| (((own_hi c) &&& (255 : Int32)) <<< ((8 : Int32) &&& 31))).toUInt32.toUInt16.toUInt32.toInt32 = c := by
  obtain ⟨h0, h1⟩ := h
  have a1 := c_i2b c
  have a2 := c_ishr c 8 8 (by decide)
  have a3 := c_i2b (c >>> ((8 : Int32) &&& 31))
  have a4 := c_mask (own_lo c) 255 8 (by decide) (by decide)
  have a5 := c_mask (own_hi c) 255 8 (by decide) (by decide)
  have a6 := c_ishl (own_lo c &&& 255) 0 0 (by decide)
  have a7 := c_ishl (own_hi c &&& 255) 8 8 (by decide)
  have r6 := rng32 ((own_lo c &&& 255) <<< ((0 : Int32) &&& 31))
  have r7 := rng32 ((own_hi c &&& 255) <<< ((8 : Int32) &&& 31))
  unfold own_lo at a4
  unfold own_hi at a5
  have b4 : (own_lo c &&& 255).toInt = c.toInt % 256 := by unfold own_lo; omega
  have b5 : (own_hi c &&& 255).toInt = c.toInt / 256 := by unfold own_hi; omega
  have b6 : ((own_lo c &&& 255) <<< ((0 : Int32) &&& 31)).toInt = c.toInt % 256 := by omega
  have b7 : ((own_hi c &&& 255) <<< ((8 : Int32) &&& 31)).toInt = c.toInt / 256 * 256 := by omega
  have a8 := c_or' ((own_lo c &&& 255) <<< ((0 : Int32) &&& 31)) ((own_hi c &&& 255) <<< ((8 : Int32) &&& 31)) 8 (by decide) 256 (by decide) (by omega) (by omega) (by omega)
  have r8 := rng32 (((own_lo c &&& 255) <<< ((0 : Int32) &&& 31)) ||| ((own_hi c &&& 255) <<< ((8 : Int32) &&& 31)))
  have b8 : (((own_lo c &&& 255) <<< ((0 : Int32) &&& 31)) ||| ((own_hi c &&& 255) <<< ((8 : Int32) &&& 31))).toInt = c.toInt := by omega
  have a9 := c_i2c (((own_lo c &&& 255) <<< ((0 : Int32) &&& 31)) ||| ((own_hi c &&& 255) <<< ((8 : Int32) &&& 31)))
  apply Int32.toInt_inj.mp
  omega
theorem own_chc (x : Int32) : own_ch x.toUInt32.toUInt16.toUInt32.toInt32 := by have h := c_i2c x; exact ⟨h.2.1, h.2.2⟩
theorem own_nc {c : Int32} (h : own_ch c) : nar .char c = c := by
  have h1 : nar .char c = c.toUInt32.toUInt16.toUInt32.toInt32 := rfl
  have h2 := c_i2c c
  rw [h1]
  apply Int32.toInt_inj.mp
  obtain ⟨h3, h4⟩ := h
  omega
/-- the bytes of a UTF-16 String, up to the i-th sign -/
def own_Up (vs : List Value) (cs : List Int32) (i : Nat) : Prop := vs.length = 2 * cs.length ∧ ∀ j c, j < i → cs[j]? = some c → vs[2 * j]? = some (.int (own_lo c)) ∧ vs[2 * j + 1]? = some (.int (own_hi c))
def own_U (vs : List Value) (cs : List Int32) : Prop := own_Up vs cs cs.length
/-- the bytes of a Latin-1 String, up to the i-th sign -/
def own_Lp (vs : List Value) (cs : List Int32) (i : Nat) : Prop := vs.length = cs.length ∧ ∀ j c, j < i → cs[j]? = some c → vs[j]? = some (.int (own_lo c)) ∧ ¬ 255 < c
def own_L (vs : List Value) (cs : List Int32) : Prop := own_Lp vs cs cs.length
theorem own_Up0 {cs : List Int32} {n : Nat} (h : n = 2 * cs.length) : own_Up (List.replicate n (.int 0)) cs 0 := ⟨by simp [h], fun j c q => absurd q (Nat.not_lt_zero _)⟩
theorem own_Ups {vs : List Value} {cs : List Int32} {i : Nat} {c : Int32} (h : own_Up vs cs i) (hc : cs[i]? = some c) : own_Up ((vs.set (2 * i) (.int (own_lo c))).set (2 * i + 1) (.int (own_hi c))) cs (i + 1) := by
  obtain ⟨h1, h2⟩ := h
  have hi : i < cs.length := (List.getElem?_eq_some_iff.mp hc).1
  refine ⟨by simp [h1], fun j d hj hd => ?_⟩
  by_cases e : j = i
  · subst e
    cases hc.symm.trans hd
    refine ⟨?_, ?_⟩
    · rw [List.getElem?_set_ne (by omega), List.getElem?_set_self (by omega)]
    · rw [List.getElem?_set_self (by simp; omega)]
  · have q := h2 j d (by omega) hd
    refine ⟨?_, ?_⟩
    · rw [List.getElem?_set_ne (by omega), List.getElem?_set_ne (by omega)]; exact q.1
    · rw [List.getElem?_set_ne (by omega), List.getElem?_set_ne (by omega)]; exact q.2
theorem own_Lp0 {cs : List Int32} {n : Nat} (h : n = cs.length) : own_Lp (List.replicate n (.int 0)) cs 0 := ⟨by simp [h], fun j c q => absurd q (Nat.not_lt_zero _)⟩
theorem own_Lps {vs : List Value} {cs : List Int32} {i : Nat} {c : Int32} (h : own_Lp vs cs i) (hc : cs[i]? = some c) (hl : ¬ 255 < c) : own_Lp (vs.set i (.int (own_lo c))) cs (i + 1) := by
  obtain ⟨h1, h2⟩ := h
  have hi : i < cs.length := (List.getElem?_eq_some_iff.mp hc).1
  refine ⟨by simp [h1], fun j d hj hd => ?_⟩
  by_cases e : j = i
  · subst e
    cases hc.symm.trans hd
    exact ⟨by rw [List.getElem?_set_self (by omega)], hl⟩
  · have q := h2 j d (by omega) hd
    exact ⟨by rw [List.getElem?_set_ne (by omega)]; exact q.1, q.2⟩
theorem own_mapat {cs : List Int32} {i : Nat} {c : Int32} (h : cs[i]? = some c) : (cs.map Value.int)[i]? = some (.int c) := by simp [h]
theorem own_ex {cs : List Int32} {i : Nat} (h : i < cs.length) : ∃ c, cs[i]? = some c := ⟨cs[i], List.getElem?_eq_getElem h⟩

/-! own: the wide kit: bodies that may load String constants -/
def EndsW (s : State) (Q : Option Value → Heap → Vm → List Loc → Prop) (cc ss : Nat) : State → Outcome → Prop := fun t o => ∃ v L, o = .returned v ∧ Q v t.heap t.vm L ∧ ReturnedEndW s o t L cc ss
def CtrW (l : Launch) (Z : State) (y : MethodName) (bytes : ByteArray) (maxL : Nat) (ret : Option FieldType) (rm : Room) (as : Array Value) (h0 : Heap) (Ts : List String) (Q : Option Value → Heap → Vm → List Loc → Prop) : Prop :=
  ∀ ws, MetFree l y (head1 (Jvm.Cond.code y bytes maxL ret :: ws) rm) (fun a U => a = as ∧ Z.Warmed39 U.vm ∧ U.heap = h0 ∧ IB Z U.vm Ts) (fun _ _ _ _ _ => True) (fun _ U o U' => ∃ v L, o = .returned v ∧ Q v U'.heap U'.vm L ∧ ReturnedEndW U o U' L rm.cells rm.slots)
section OwnWide
variable {p : Program} {l : Launch} {e : Env} {R : Room} {s : State} {m : MethodId} {args : Array Value} {below : List Frame} {meth : Method} {c : Code} {T : State} {locs : List Loc} {cells slots : Nat} {Z : State} {a0 : Array Value} {h : Heap} {P : State → Outcome → Prop} {pc : Nat} {Ls : Array Slot} {st rest : List Value} {own nm : String} {bytes : ByteArray} {maxL : Nat} {ret : Option FieldType} {vm0 : Vm} {k0 : Nat} {Ts : List String}
theorem Bo.re {vm1 : Vm} (B : Bo Z p s m meth c own nm bytes maxL ret) (hW : s.Warmed39 vm1) : Bo Z p (s.setVm vm1) m meth c own nm bytes maxL ret :=
  ⟨B.1, B.2.1, B.2.2.1, State.Warmed39.trans (t := s) B.z hW, (by show vm1.findClass own = _; rw [hW.alike.findClass]; exact B.o), B.n, B.r, B.lk⟩
theorem CtrW.of {y : MethodName} {rm : Room} {as : Array Value} {h0 : Heap} {Q : Option Value → Heap → Vm → List Loc → Prop} (hn : plainFor y = true)
    (body : ∀ (p : Program) (e : Env) (s : State) (m : MethodId) (below : List Frame) (meth : Method) (c : Code) (T : State), Stand p l e rm (s.setVm s.vm) m as below meth c T [] 0 0 → Bo Z p (s.setVm s.vm) m meth c y.cls y.name bytes maxL ret → T.heap = h0 → s.heap = h0 → s.Since s.vm 0 → IB Z s.vm Ts → Go p e below (EndsW s Q rm.cells rm.slots) (T.setTop (entryFrame m as maxL))) :
    CtrW l Z y bytes maxL ret rm as h0 Ts Q := by
  intro ws
  refine MetFree.of_bodySF hn hisR ?_
  intro p e s m args below meth c s₁ Bd hml0 hP hK
  obtain ⟨rfl, hZ, hh, hI⟩ := hP
  exact body p e s m below meth c s₁ (Stand.of_body Bd) ⟨Bd.exec, Bd.bytes, hml0, hZ, findClass_of_methodNamed Bd.named, (name_of_methodNamed Bd.named Bd.method).1, Bd.returns, BodyLoose.notSynchronized Bd⟩ (by rw [← hh, Bd.state]; rfl) hh ((State.WarmedH.refl s).since 0) hI
theorem CtrW.back {y : MethodName} {rm : Room} {as : Array Value} {Q : Option Value → Heap → Vm → List Loc → Prop} {W len : Nat} (C : CtrW l Z y bytes maxL ret rm as h Ts Q) (hZ : Z.Warmed39 s.vm) (I : IB Z s.vm Ts) (wc : (Jvm.Cond.code y bytes maxL ret).before a0 Z = true) (wz : (Jvm.Cond.initialized y.cls).before a0 Z = true) (hf : rm.frames + 1 ≤ R.frames) (hl : W + (maxL + 11) + rm.locals ≤ R.locals) :
    BackS l R p e below s args y len W (fun A a => a = as ∧ A.U.heap = h ∧ A.cells + rm.cells ≤ R.cells ∧ A.slots + rm.slots ≤ R.slots)
      (fun A _ v B => ∃ L, Q v B.U.heap B.U.vm L ∧ B.locs = A.locs ++ L ∧ B.cells = A.cells + rm.cells ∧ B.slots = A.slots + rm.slots) :=
  BackS.of_freeW (bytes := bytes) (maxL := maxL) (ret := ret) (E := fun _ _ o t L k n => k = rm.cells ∧ n = rm.slots ∧ ∃ v, o = .returned v ∧ Q v t.heap t.vm L) (C []) hf hl
    (fun m meth c A a Y hp => have hU : Z.Warmed39 A.U.vm := wtrans hZ Y.warmed
      ⟨by show (Cond.and _ .tt).before a A.U = true; rw [Cond.before_and, mv hU wc]; rfl, mv hU wc, mv hU wz, hp.2.2.1, hp.2.2.2⟩)
    (fun m meth c A a g mk Y hp => ⟨hp.1, wtrans hZ Y.warmed, hp.2.1, by
      have q : (A.U.calling g mk a).vm.interned = s.vm.interned := Y.warmed.interned_eq
      obtain ⟨more, e1, e2⟩ := I
      exact ⟨more, q.trans e1, e2⟩⟩) (fun _ _ _ _ _ _ _ _ _ => trivial)
    (fun _ _ _ _ ⟨v, L, h1, h2, h3⟩ => ⟨L, _, _, h3, rfl, rfl, v, h1, h2⟩)
    (fun m meth c A a g mk v t L k n Y hp _ _ ⟨e1, e2, v', e3, e4⟩ => by cases e3; subst e1 e2; exact ⟨L, e4, rfl, rfl, rfl⟩)
theorem own_Arv_Av {a : Addr} {k : ClassId} {ty : FieldType} {z : Int32} {vs : List Value} {d : Value} (A : Arv Z h a k ty z vs d) (hl : z.toNatClampNeg = vs.length) : Av Z h a ty vs := by
  obtain ⟨c, A1, -, A3, -, A5, -⟩ := A
  refine ⟨c, A1, List.ext_getElem? fun i => ?_⟩
  rw [Array.getElem?_toList]
  by_cases q : i < c.slots.size
  · rw [A5 i q, List.getD, List.getElem?_eq_getElem (by omega)]; rfl
  · rw [Array.getElem?_eq_none (by omega), List.getElem?_eq_none (by omega)]
theorem g_ldcS (X : Stand p l e R (s.setVm vm0) m args below meth c T locs cells slots) (B : Bo Z p (s.setVm vm0) m meth c own nm bytes maxL ret) {index : Nat} (text : String) (vs : List Value) (z : Int32) (n : Nat) (q : decode bytes pc = .ok (.ldc index, 2)) (pc' : Nat) (hp : pc + 2 = pc') (w : (Jvm.Cond.stringLink own index text).before a0 Z = true) (wS : ∀ a ∈ Bundle.stringAtoms, a.before a0 Z = true)
    (eT : T.heap = h) (hS : s.Since vm0 k0) (hk : k0 ≤ h.size) (N : Fr s.heap.size locs) (hkeep : ∀ (b : Addr) (cl : Cell), Z.heap[b]? = some cl → s.heap[b]? = some cl) (I : IB Z vm0 Ts) (hnot : text ∉ Ts) (hh : Jvm.Lit.constHeld Z own index) (hcw : Jvm.Lit.compactW.before a0 Z = true)
    (ht : (∀ c ∈ text.toList, c.toNat < 256) ∧ text.toList.map (fun c => Value.int (Jvm.Lit.byteI c.toNat.toUInt16)) = vs) (hz : ¬ z < 0) (hl : z.toNatClampNeg = vs.length) (hn : 4 * text.toList.length ≤ n) (hbig : n ≤ 536870912) (hc : cells + 2 ≤ R.cells) (hl' : slots + (n + 4) ≤ R.slots)
    (k : ∀ a T' h' b, Stand p l e R (s.setVm T'.vm) m args below meth c T' locs (cells + 2) (slots + (n + 4)) → Bo Z p (s.setVm T'.vm) m meth c own nm bytes maxL ret → T'.heap = h' → Ext h h' → s.Since T'.vm h'.size → IB Z T'.vm (text :: Ts) → Lit (s.setVm T'.vm) own index a → Exa Z h' a "java/lang/String" → Fld Z h' a "java/lang/String" "coder" "B" (.int 0) → Fld Z h' a "java/lang/String" "value" "[B" (.ref b) → Av Z h' b .byte vs →
      Go p e below P (T'.setTop (mkF m pc' Ls (.ref a :: st)))) : Go p e below P (T.setTop (mkF m pc Ls st)) := by
  subst hp
  obtain ⟨a, T', h', k1, b, kb, r1, r2, r3, r4, r5, r6, r7, r8, r9, r10, r11, r12, r13, r14, r15, r16⟩ := ldcSVL X B.x B.z B.o w wS eT hS hk N hkeep I hnot hh hcw ht hz hl (g := mkF m pc Ls st) rfl (B.d q) hn hbig hc hl'
  exact (k a T' h' b r1 ⟨B.1, B.2.1, B.2.2.1, r6, r7, B.n, B.r, B.lk⟩ r2 r3 ⟨r4.1, r4.2.mono r5⟩ r14 r15 r8 r9 r10 (own_Arv_Av r11 hl)).via r16
theorem g_ldcAgain (X : Stand p l e R (s.setVm vm0) m args below meth c T locs cells slots) (B : Bo Z p (s.setVm vm0) m meth c own nm bytes maxL ret) {index : Nat} {text : String} {a : Addr} (q : decode bytes pc = .ok (.ldc index, 2)) (pc' : Nat) (hp : pc + 2 = pc') (w : (Jvm.Cond.stringLink own index text).before a0 Z = true) (L : Lit (s.setVm vm0) own index a) (k : Go p e below P (T.setTop (mkF m pc' Ls (.ref a :: st)))) : Go p e below P (T.setTop (mkF m pc Ls st)) := by
  subst hp
  exact k.via (ldcAgain X B.x B.z B.o w L (g := mkF m pc Ls st) rfl (B.d q))
theorem g_callNW (X : Stand p l e R (s.setVm vm0) m args below meth c T locs cells slots) (B : Bo Z p (s.setVm vm0) m meth c own nm bytes maxL ret) (hS : s.Since vm0 k0) (hk : k0 ≤ h.size) (I : IB Z vm0 Ts) {y : MethodName} {by' : ByteArray} {mx : Nat} {rm : Room} {Q : Option Value → Heap → Vm → List Loc → Prop} {index : Nat} {a : Addr} (argsL rest : List Value) (q : decode bytes pc = .ok (.invokespecial index, 3)) (pc' : Nat) (hp : pc + 3 = pc') (hst : st = argsL.reverse ++ .ref a :: rest) (hn : y.name = "<init>") (w1 : (Jvm.Cond.methodLink own index y).before a0 Z = true) (w2 : (Jvm.Cond.instanceMethod y).before a0 Z = true) (w3 : (Jvm.Cond.code y by' mx none).before a0 Z = true) (w4 : (Jvm.Cond.initialized y.cls).before a0 Z = true) (hy : y.cls ≠ "java/lang/invoke/MethodHandle" ∧ y.cls ≠ "java/lang/invoke/VarHandle") (hlen : ∀ sig, parseMethodDescriptor y.desc = some sig → argsL.length = sig.parameters.length) (C : CtrW l Z y by' mx none rm (.ref a :: argsL).toArray h Ts Q) (eT : T.heap = h) (hm : Ls.size = maxL) (W : Nat) (hW : (rest.map fun v => v.category).sum ≤ W) (hf : rm.frames + 1 ≤ R.frames) (hl : W + (mx + 11) + rm.locals ≤ R.locals) (hc : cells + rm.cells ≤ R.cells) (hs : slots + rm.slots ≤ R.slots) (k : ∀ v T' h' L', Stand p l e R (s.setVm T'.vm) m args below meth c T' (locs ++ L') (cells + rm.cells) (slots + rm.slots) → Bo Z p (s.setVm T'.vm) m meth c own nm bytes maxL ret → T'.heap = h' → s.Since T'.vm h'.size → Q v h' T'.vm L' → Go p e below P (T'.setTop (mkF m pc' Ls (v.toList ++ rest)))) : Go p e below P (T.setTop (mkF m pc Ls st)) := by
  subst hp hst
  obtain ⟨v, _, ⟨T', L', k', n'⟩, -, X', hS', hgr, ⟨Lc, hQ, l1, l2, l3⟩, q'⟩ := X.specialBackS B.x (y := y) hn B.o (mvT B.z w1) (mvT B.z w2) (mvT B.z w3) hy (C.back (W := W) B.z I w3 w4 hf hl) (g := mkF m pc Ls (argsL.reverse ++ .ref a :: rest)) rfl (B.mx hm) (Steps.refl _) (a := a) (argsL := argsL) (rest := rest) hlen rfl (by show 2 * 0 + _ ≤ _; omega) (B.d q) (fun _ _ => ⟨rfl, eT, hc, hs⟩)
  dsimp only [Pt.U, Pt.locs, Pt.cells, Pt.slots] at X' l1 l2 l3 q' hQ hS' hgr
  subst l1 l2 l3
  subst eT
  exact (k v T' _ Lc X' (Bo.re (s := s.setVm vm0) B hS'.1) rfl (hS.trans hS' (Nat.le_trans hk hgr)) hQ).via fun _ => q'.trans
theorem g_callSW (X : Stand p l e R (s.setVm vm0) m args below meth c T locs cells slots) (B : Bo Z p (s.setVm vm0) m meth c own nm bytes maxL ret) (hS : s.Since vm0 k0) (hk : k0 ≤ h.size) (I : IB Z vm0 Ts) {y : MethodName} {by' : ByteArray} {mx : Nat} {rt : Option FieldType} {rm : Room} {Q : Option Value → Heap → Vm → List Loc → Prop} {index : Nat} (argsL rest : List Value) (q : decode bytes pc = .ok (.invokestatic index, 3)) (pc' : Nat) (hp : pc + 3 = pc') (hst : st = argsL.reverse ++ rest) (w1 : (Jvm.Cond.methodLink own index y).before a0 Z = true) (w2 : (Jvm.Cond.static y).before a0 Z = true) (w3 : (Jvm.Cond.initialized y.cls).before a0 Z = true) (w4 : (Jvm.Cond.code y by' mx rt).before a0 Z = true) (hy : y.cls ≠ "java/lang/invoke/MethodHandle" ∧ y.cls ≠ "java/lang/invoke/VarHandle") (hlen : ∀ sig, parseMethodDescriptor y.desc = some sig → argsL.length = sig.parameters.length) (C : CtrW l Z y by' mx rt rm argsL.toArray h Ts Q) (eT : T.heap = h) (hm : Ls.size = maxL) (W : Nat) (hW : (rest.map fun v => v.category).sum ≤ W) (hf : rm.frames + 1 ≤ R.frames) (hl : W + (mx + 11) + rm.locals ≤ R.locals) (hc : cells + rm.cells ≤ R.cells) (hs : slots + rm.slots ≤ R.slots) (k : ∀ v T' h' L', Stand p l e R (s.setVm T'.vm) m args below meth c T' (locs ++ L') (cells + rm.cells) (slots + rm.slots) → Bo Z p (s.setVm T'.vm) m meth c own nm bytes maxL ret → T'.heap = h' → s.Since T'.vm h'.size → Q v h' T'.vm L' → Go p e below P (T'.setTop (mkF m pc' Ls (v.toList ++ rest)))) : Go p e below P (T.setTop (mkF m pc Ls st)) := by
  subst hp hst
  obtain ⟨v, _, ⟨T', L', k', n'⟩, -, X', hS', hgr, ⟨Lc, hQ, l1, l2, l3⟩, q'⟩ := callSS X B.x (y := y) B.o (mvT B.z w1) (mvT B.z w2) (mvT B.z w3) (mvT B.z w4) hy (C.back (W := W) B.z I w4 w3 hf hl) (g := mkF m pc Ls (argsL.reverse ++ rest)) rfl (B.mx hm) (argsL := argsL) (rest := rest) hlen rfl (by show 2 * 0 + _ ≤ _; omega) (B.d q) (fun _ _ => ⟨rfl, eT, hc, hs⟩)
  dsimp only [Pt.U, Pt.locs, Pt.cells, Pt.slots] at X' l1 l2 l3 q' hQ hS' hgr
  subst l1 l2 l3
  subst eT
  exact (k v T' _ Lc X' (Bo.re (s := s.setVm vm0) B hS'.1) rfl (hS.trans hS' (Nat.le_trans hk hgr)) hQ).via fun _ => q'.trans
theorem g_callVW (X : Stand p l e R (s.setVm vm0) m args below meth c T locs cells slots) (B : Bo Z p (s.setVm vm0) m meth c own nm bytes maxL ret) (hS : s.Since vm0 k0) (hk : k0 ≤ h.size) (I : IB Z vm0 Ts) {y : MethodName} {by' : ByteArray} {mx : Nat} {rt : Option FieldType} {rm : Room} {Q : Option Value → Heap → Vm → List Loc → Prop} {index : Nat} {KC : String} {a : Addr} (argsL rest : List Value) (q : decode bytes pc = .ok (.invokevirtual index, 3)) (pc' : Nat) (hp : pc + 3 = pc') (hst : st = argsL.reverse ++ .ref a :: rest) (w1 : (Jvm.Cond.methodLink own index y).before a0 Z = true) (w2 : (Jvm.Cond.declares y).before a0 Z = true) (w3 : (Jvm.Cond.selects KC y y).before a0 Z = true) (w4 : (Jvm.Cond.instanceMethod y).before a0 Z = true) (w5 : (Jvm.Cond.initialized y.cls).before a0 Z = true) (w6 : (Jvm.Cond.code y by' mx rt).before a0 Z = true) (hy : y.cls ≠ "java/lang/invoke/MethodHandle" ∧ y.cls ≠ "java/lang/invoke/VarHandle") (hlen : ∀ sig, parseMethodDescriptor y.desc = some sig → argsL.length = sig.parameters.length) (E : Exa Z h a KC) (C : CtrW l Z y by' mx rt rm (.ref a :: argsL).toArray h Ts Q) (eT : T.heap = h) (hm : Ls.size = maxL) (W : Nat) (hW : (rest.map fun v => v.category).sum ≤ W) (hf : rm.frames + 1 ≤ R.frames) (hl : W + (mx + 11) + rm.locals ≤ R.locals) (hc : cells + rm.cells ≤ R.cells) (hs : slots + rm.slots ≤ R.slots) (k : ∀ v T' h' L', Stand p l e R (s.setVm T'.vm) m args below meth c T' (locs ++ L') (cells + rm.cells) (slots + rm.slots) → Bo Z p (s.setVm T'.vm) m meth c own nm bytes maxL ret → T'.heap = h' → s.Since T'.vm h'.size → Q v h' T'.vm L' → Go p e below P (T'.setTop (mkF m pc' Ls (v.toList ++ rest)))) : Go p e below P (T.setTop (mkF m pc Ls st)) := by
  subst hp hst
  obtain ⟨cq, kq, qa, qb, qc⟩ := isOf B.z eT E
  obtain ⟨v, _, ⟨T', L', k', n'⟩, -, X', hS', hgr, ⟨Lc, hQ, l1, l2, l3⟩, q'⟩ := X.virtualBackS B.x (y := y) (z := y) B.o (mvT B.z w1) (mvT B.z w2) (notFace_of_selects (args := #[]) (mvT B.z w3)) (mvT B.z w3) (mvT B.z w4) hy (C.back (W := W) B.z I w6 w5 hf hl) qa qc (g := mkF m pc Ls (argsL.reverse ++ .ref a :: rest)) rfl (B.mx hm) (Steps.refl _) (argsL := argsL) (rest := rest) hlen rfl (by show 2 * 0 + _ ≤ _; omega) (B.d q) (fun _ _ => ⟨rfl, eT, hc, hs⟩)
  dsimp only [Pt.U, Pt.locs, Pt.cells, Pt.slots] at X' l1 l2 l3 q' hQ hS' hgr
  subst l1 l2 l3
  subst eT
  exact (k v T' _ Lc X' (Bo.re (s := s.setVm vm0) B hS'.1) rfl (hS.trans hS' (Nat.le_trans hk hgr)) hQ).via fun _ => q'.trans
theorem g_retOutW (X : Stand p l e R (s.setVm vm0) m args below meth c T locs cells slots) (B : Bo Z p (s.setVm vm0) m meth c own nm bytes maxL ret) {Q : Option Value → Heap → Vm → List Loc → Prop} {cc ss : Nat} {w : Value} {t : FieldType} {i : Instr} (q : decode bytes pc = .ok (i, 1)) (ht : ret = some t) (hn : narrow t w = w)
    (hi : (i = .ireturn ∧ (t = .int ∨ t = .boolean ∨ t = .byte ∨ t = .char ∨ t = .short) ∧ ∃ z, w = .int z) ∨ (i = .lreturn ∧ t = .long ∧ ∃ z, w = .long z) ∨ (i = .dreturn ∧ t = .double ∧ ∃ z, w = .double z) ∨ (i = .freturn ∧ t = .float ∧ ∃ z, w = .float z) ∨ (i = .areturn ∧ t.isReference = true ∧ w.isRef = true))
    (hc : cells ≤ cc) (hs : slots ≤ ss) (eT : T.heap = h) (hS : s.Since vm0 k0) (hk : k0 ≤ h.size) (hQ : ∀ vm, vm.interned = vm0.interned → Q (some w) h vm locs) : Go p e below (EndsW s Q cc ss) (T.setTop (mkF m pc Ls (w :: st))) := by
  have hl := B.lk
  subst eT
  obtain ⟨fs, hr, hrun, hended, h1, h2, h3, h4⟩ := X.leaveW hS hk (v := some w) (fun z => by rw [B.r, ht] at z; cases z) hl
  exact ⟨_, _, retOut X B.x (B.r.trans ht) hn hi (B.d q) hr, hrun, hended, _, _, rfl, hQ _ X.warmed.interned_eq, h1, h2, h3, h4.mono hc hs⟩
theorem g_retAW (X : Stand p l e R (s.setVm vm0) m args below meth c T locs cells slots) (B : Bo Z p (s.setVm vm0) m meth c own nm bytes maxL ret) {Q : Option Value → Heap → Vm → List Loc → Prop} {cc ss : Nat} {w : Value} {t : FieldType} (q : decode bytes pc = .ok (.areturn, 1)) (ht : ret = some t) (hr : t.isReference = true) (hw : w.isRef = true) (hc : cells ≤ cc) (hs : slots ≤ ss) (eT : T.heap = h) (hS : s.Since vm0 k0) (hk : k0 ≤ h.size) (hQ : ∀ vm, vm.interned = vm0.interned → Q (some w) h vm locs) : Go p e below (EndsW s Q cc ss) (T.setTop (mkF m pc Ls (w :: st))) :=
  g_retOutW X B q ht (by cases t <;> first | (cases hr; done) | (cases w <;> first | rfl | (cases hw; done))) (Or.inr (Or.inr (Or.inr (Or.inr ⟨rfl, hr, hw⟩)))) hc hs eT hS hk hQ
theorem g_retNW (X : Stand p l e R (s.setVm vm0) m args below meth c T locs cells slots) (B : Bo Z p (s.setVm vm0) m meth c own nm bytes maxL ret) {Q : Option Value → Heap → Vm → List Loc → Prop} {cc ss : Nat} {z : Int32} {t : FieldType} (q : decode bytes pc = .ok (.ireturn, 1)) (ht : ret = some t) (hn : narrow t (.int z) = .int z) (hk' : t = .int ∨ t = .boolean ∨ t = .byte ∨ t = .char ∨ t = .short) (hc : cells ≤ cc) (hs : slots ≤ ss) (eT : T.heap = h) (hS : s.Since vm0 k0) (hk : k0 ≤ h.size) (hQ : ∀ vm, vm.interned = vm0.interned → Q (some (.int z)) h vm locs) : Go p e below (EndsW s Q cc ss) (T.setTop (mkF m pc Ls (.int z :: st))) :=
  g_retOutW X B q ht hn (Or.inl ⟨rfl, hk', _, rfl⟩) hc hs eT hS hk hQ
theorem g_retVW (X : Stand p l e R (s.setVm vm0) m args below meth c T locs cells slots) (B : Bo Z p (s.setVm vm0) m meth c own nm bytes maxL ret) {Q : Option Value → Heap → Vm → List Loc → Prop} {cc ss : Nat} (q : decode bytes pc = .ok (.return_, 1)) (ht : ret = none) (hc : cells ≤ cc) (hs : slots ≤ ss) (eT : T.heap = h) (hS : s.Since vm0 k0) (hk : k0 ≤ h.size) (hQ : ∀ vm, vm.interned = vm0.interned → Q none h vm locs) : Go p e below (EndsW s Q cc ss) (T.setTop (mkF m pc Ls [])) := by
  have hl := B.lk
  subst eT
  obtain ⟨fs, hr, hrun, hended, h1, h2, h3, h4⟩ := X.leaveW hS hk (v := none) (fun _ => rfl) hl
  exact ⟨_, _, X.returnOut B.x (B.r.trans ht) (B.d q) hr, hrun, hended, _, _, rfl, hQ _ X.warmed.interned_eq, h1, h2, h3, h4.mono hc hs⟩
theorem own_IBeq {vm1 : Vm} (I : IB Z vm0 Ts) (q : vm1.interned = vm0.interned) : IB Z vm1 Ts := by
  obtain ⟨more, e1, e2⟩ := I
  exact ⟨more, q.trans e1, e2⟩
end OwnWide

theorem d13_0 : decode jdk_52_method_21_code 0 = .ok (.iconst 0, 1) := by decide +kernel
theorem d13_1 : decode jdk_52_method_21_code 1 = .ok (.istore 5, 2) := by decide +kernel
theorem d13_3 : decode jdk_52_method_21_code 3 = .ok (.iload 5, 2) := by decide +kernel
theorem d13_5 : decode jdk_52_method_21_code 5 = .ok (.iload 4, 2) := by decide +kernel
theorem d13_7 : decode jdk_52_method_21_code 7 = .ok (.if_icmp .ge 37, 3) := by decide +kernel
theorem d13_10 : decode jdk_52_method_21_code 10 = .ok (.aload_n 0, 1) := by decide +kernel
theorem d13_11 : decode jdk_52_method_21_code 11 = .ok (.iload_n 1, 1) := by decide +kernel
theorem d13_12 : decode jdk_52_method_21_code 12 = .ok (.caload, 1) := by decide +kernel
theorem d13_13 : decode jdk_52_method_21_code 13 = .ok (.istore 6, 2) := by decide +kernel
theorem d13_15 : decode jdk_52_method_21_code 15 = .ok (.iload 6, 2) := by decide +kernel
theorem d13_17 : decode jdk_52_method_21_code 17 = .ok (.sipush 255, 3) := by decide +kernel
theorem d13_20 : decode jdk_52_method_21_code 20 = .ok (.if_icmp .le 6, 3) := by decide +kernel
theorem d13_23 : decode jdk_52_method_21_code 23 = .ok (.iload 5, 2) := by decide +kernel
theorem d13_25 : decode jdk_52_method_21_code 25 = .ok (.ireturn, 1) := by decide +kernel
theorem d13_26 : decode jdk_52_method_21_code 26 = .ok (.aload_n 2, 1) := by decide +kernel
theorem d13_27 : decode jdk_52_method_21_code 27 = .ok (.iload_n 3, 1) := by decide +kernel
theorem d13_28 : decode jdk_52_method_21_code 28 = .ok (.iload 6, 2) := by decide +kernel
theorem d13_30 : decode jdk_52_method_21_code 30 = .ok (.i2b, 1) := by decide +kernel
theorem d13_31 : decode jdk_52_method_21_code 31 = .ok (.bastore, 1) := by decide +kernel
theorem d13_32 : decode jdk_52_method_21_code 32 = .ok (.iinc 1 1, 3) := by decide +kernel
theorem d13_35 : decode jdk_52_method_21_code 35 = .ok (.iinc 3 1, 3) := by decide +kernel
theorem d13_38 : decode jdk_52_method_21_code 38 = .ok (.iinc 5 1, 3) := by decide +kernel
theorem d13_41 : decode jdk_52_method_21_code 41 = .ok (.goto (-38), 3) := by decide +kernel
theorem d13_44 : decode jdk_52_method_21_code 44 = .ok (.iload 4, 2) := by decide +kernel
theorem d13_46 : decode jdk_52_method_21_code 46 = .ok (.ireturn, 1) := by decide +kernel
theorem pn_13 : plainFor (⟨"java/lang/StringUTF16", "compress", "([CI[BII)I"⟩ : MethodName) = true := by first | (apply plainFor_of_name; simp [plainName, overriddenIn]; done) | (apply plainFor_of_name; decide +kernel) | decide +kernel
theorem pd_13 : parseMethodDescriptor "([CI[BII)I" = some ⟨[(.array .char), .int, (.array .byte), .int, .int], (some .int)⟩ := by decide +kernel
theorem d12_0 : decode jdk_52_method_16_code 0 = .ok (.iload_n 2, 1) := by decide +kernel
theorem d12_1 : decode jdk_52_method_16_code 1 = .ok (.newarray .byte, 2) := by decide +kernel
theorem d12_3 : decode jdk_52_method_16_code 3 = .ok (.astore_n 3, 1) := by decide +kernel
theorem d12_4 : decode jdk_52_method_16_code 4 = .ok (.aload_n 0, 1) := by decide +kernel
theorem d12_5 : decode jdk_52_method_16_code 5 = .ok (.iload_n 1, 1) := by decide +kernel
theorem d12_6 : decode jdk_52_method_16_code 6 = .ok (.aload_n 3, 1) := by decide +kernel
theorem d12_7 : decode jdk_52_method_16_code 7 = .ok (.iconst 0, 1) := by decide +kernel
theorem d12_8 : decode jdk_52_method_16_code 8 = .ok (.iload_n 2, 1) := by decide +kernel
theorem d12_9 : decode jdk_52_method_16_code 9 = .ok (.invokestatic 115, 3) := by decide +kernel
theorem d12_12 : decode jdk_52_method_16_code 12 = .ok (.istore 4, 2) := by decide +kernel
theorem d12_14 : decode jdk_52_method_16_code 14 = .ok (.iload 4, 2) := by decide +kernel
theorem d12_16 : decode jdk_52_method_16_code 16 = .ok (.iload_n 2, 1) := by decide +kernel
theorem d12_17 : decode jdk_52_method_16_code 17 = .ok (.if_icmp .eq 40, 3) := by decide +kernel
theorem d12_20 : decode jdk_52_method_16_code 20 = .ok (.aload_n 0, 1) := by decide +kernel
theorem d12_21 : decode jdk_52_method_16_code 21 = .ok (.iload_n 1, 1) := by decide +kernel
theorem d12_22 : decode jdk_52_method_16_code 22 = .ok (.iload_n 2, 1) := by decide +kernel
theorem d12_23 : decode jdk_52_method_16_code 23 = .ok (.invokestatic 119, 3) := by decide +kernel
theorem d12_26 : decode jdk_52_method_16_code 26 = .ok (.astore 5, 2) := by decide +kernel
theorem d12_28 : decode jdk_52_method_16_code 28 = .ok (.aload 5, 2) := by decide +kernel
theorem d12_30 : decode jdk_52_method_16_code 30 = .ok (.iload 4, 2) := by decide +kernel
theorem d12_32 : decode jdk_52_method_16_code 32 = .ok (.invokestatic 71, 3) := by decide +kernel
theorem d12_35 : decode jdk_52_method_16_code 35 = .ok (.sipush 255, 3) := by decide +kernel
theorem d12_38 : decode jdk_52_method_16_code 38 = .ok (.if_icmp .gt 16, 3) := by decide +kernel
theorem d12_41 : decode jdk_52_method_16_code 41 = .ok (.aload 5, 2) := by decide +kernel
theorem d12_43 : decode jdk_52_method_16_code 43 = .ok (.iconst 0, 1) := by decide +kernel
theorem d12_44 : decode jdk_52_method_16_code 44 = .ok (.aload_n 3, 1) := by decide +kernel
theorem d12_45 : decode jdk_52_method_16_code 45 = .ok (.iconst 0, 1) := by decide +kernel
theorem d12_46 : decode jdk_52_method_16_code 46 = .ok (.iload_n 2, 1) := by decide +kernel
theorem d12_47 : decode jdk_52_method_16_code 47 = .ok (.invokestatic 123, 3) := by decide +kernel
theorem d12_50 : decode jdk_52_method_16_code 50 = .ok (.iload_n 2, 1) := by decide +kernel
theorem d12_51 : decode jdk_52_method_16_code 51 = .ok (.if_icmp .eq 6, 3) := by decide +kernel
theorem d12_54 : decode jdk_52_method_16_code 54 = .ok (.aload 5, 2) := by decide +kernel
theorem d12_56 : decode jdk_52_method_16_code 56 = .ok (.areturn, 1) := by decide +kernel
theorem d12_57 : decode jdk_52_method_16_code 57 = .ok (.aload_n 3, 1) := by decide +kernel
theorem d12_58 : decode jdk_52_method_16_code 58 = .ok (.areturn, 1) := by decide +kernel
theorem pn_12 : plainFor (⟨"java/lang/StringUTF16", "compress", "([CII)[B"⟩ : MethodName) = true := by first | (apply plainFor_of_name; simp [plainName, overriddenIn]; done) | (apply plainFor_of_name; decide +kernel) | decide +kernel
theorem pd_12 : parseMethodDescriptor "([CII)[B" = some ⟨[(.array .char), .int, .int], (some (.array .byte))⟩ := by decide +kernel
theorem d14_0 : decode jdk_52_method_15_code 0 = .ok (.iload_n 1, 1) := by decide +kernel
theorem d14_1 : decode jdk_52_method_15_code 1 = .ok (.aload_n 0, 1) := by decide +kernel
theorem d14_2 : decode jdk_52_method_15_code 2 = .ok (.arraylength, 1) := by decide +kernel
theorem d14_3 : decode jdk_52_method_15_code 3 = .ok (.isub, 1) := by decide +kernel
theorem d14_4 : decode jdk_52_method_15_code 4 = .ok (.bipush 31, 2) := by decide +kernel
theorem d14_6 : decode jdk_52_method_15_code 6 = .ok (.iushr, 1) := by decide +kernel
theorem d14_7 : decode jdk_52_method_15_code 7 = .ok (.i2b, 1) := by decide +kernel
theorem d14_8 : decode jdk_52_method_15_code 8 = .ok (.ireturn, 1) := by decide +kernel
theorem pn_14 : plainFor (⟨"java/lang/StringUTF16", "coderFromArrayLen", "([BI)B"⟩ : MethodName) = true := by first | (apply plainFor_of_name; simp [plainName, overriddenIn]; done) | (apply plainFor_of_name; decide +kernel) | decide +kernel
theorem pd_14 : parseMethodDescriptor "([BI)B" = some ⟨[(.array .byte), .int], (some .byte)⟩ := by decide +kernel
theorem d3_0 : decode jdk_42_method_149_code 0 = .ok (.aload_n 0, 1) := by decide +kernel
theorem d3_1 : decode jdk_42_method_149_code 1 = .ok (.invokespecial 1, 3) := by decide +kernel
theorem d3_4 : decode jdk_42_method_149_code 4 = .ok (.iload_n 3, 1) := by decide +kernel
theorem d3_5 : decode jdk_42_method_149_code 5 = .ok (.ifCond .ne 22, 3) := by decide +kernel
theorem d3_8 : decode jdk_42_method_149_code 8 = .ok (.aload_n 0, 1) := by decide +kernel
theorem d3_9 : decode jdk_42_method_149_code 9 = .ok (.ldc 7, 2) := by decide +kernel
theorem d3_11 : decode jdk_42_method_149_code 11 = .ok (.getfield 9, 3) := by decide +kernel
theorem d3_14 : decode jdk_42_method_149_code 14 = .ok (.putfield 9, 3) := by decide +kernel
theorem d3_17 : decode jdk_42_method_149_code 17 = .ok (.aload_n 0, 1) := by decide +kernel
theorem d3_18 : decode jdk_42_method_149_code 18 = .ok (.ldc 7, 2) := by decide +kernel
theorem d3_20 : decode jdk_42_method_149_code 20 = .ok (.getfield 15, 3) := by decide +kernel
theorem d3_23 : decode jdk_42_method_149_code 23 = .ok (.putfield 15, 3) := by decide +kernel
theorem d3_26 : decode jdk_42_method_149_code 26 = .ok (.return_, 1) := by decide +kernel
theorem d3_27 : decode jdk_42_method_149_code 27 = .ok (.getstatic 38, 3) := by decide +kernel
theorem d3_30 : decode jdk_42_method_149_code 30 = .ok (.ifCond .eq 28, 3) := by decide +kernel
theorem d3_33 : decode jdk_42_method_149_code 33 = .ok (.aload_n 1, 1) := by decide +kernel
theorem d3_34 : decode jdk_42_method_149_code 34 = .ok (.iload_n 2, 1) := by decide +kernel
theorem d3_35 : decode jdk_42_method_149_code 35 = .ok (.iload_n 3, 1) := by decide +kernel
theorem d3_36 : decode jdk_42_method_149_code 36 = .ok (.invokestatic 177, 3) := by decide +kernel
theorem d3_39 : decode jdk_42_method_149_code 39 = .ok (.astore 5, 2) := by decide +kernel
theorem d3_41 : decode jdk_42_method_149_code 41 = .ok (.aload_n 0, 1) := by decide +kernel
theorem d3_42 : decode jdk_42_method_149_code 42 = .ok (.aload 5, 2) := by decide +kernel
theorem d3_44 : decode jdk_42_method_149_code 44 = .ok (.iload_n 3, 1) := by decide +kernel
theorem d3_45 : decode jdk_42_method_149_code 45 = .ok (.invokestatic 47, 3) := by decide +kernel
theorem d3_48 : decode jdk_42_method_149_code 48 = .ok (.putfield 15, 3) := by decide +kernel
theorem d3_51 : decode jdk_42_method_149_code 51 = .ok (.aload_n 0, 1) := by decide +kernel
theorem d3_52 : decode jdk_42_method_149_code 52 = .ok (.aload 5, 2) := by decide +kernel
theorem d3_54 : decode jdk_42_method_149_code 54 = .ok (.putfield 9, 3) := by decide +kernel
theorem d3_57 : decode jdk_42_method_149_code 57 = .ok (.return_, 1) := by decide +kernel
theorem d3_58 : decode jdk_42_method_149_code 58 = .ok (.aload_n 0, 1) := by decide +kernel
theorem d3_59 : decode jdk_42_method_149_code 59 = .ok (.iconst 1, 1) := by decide +kernel
theorem d3_60 : decode jdk_42_method_149_code 60 = .ok (.putfield 15, 3) := by decide +kernel
theorem d3_63 : decode jdk_42_method_149_code 63 = .ok (.aload_n 0, 1) := by decide +kernel
theorem d3_64 : decode jdk_42_method_149_code 64 = .ok (.aload_n 1, 1) := by decide +kernel
theorem d3_65 : decode jdk_42_method_149_code 65 = .ok (.iload_n 2, 1) := by decide +kernel
theorem d3_66 : decode jdk_42_method_149_code 66 = .ok (.iload_n 3, 1) := by decide +kernel
theorem d3_67 : decode jdk_42_method_149_code 67 = .ok (.invokestatic 180, 3) := by decide +kernel
theorem d3_70 : decode jdk_42_method_149_code 70 = .ok (.putfield 9, 3) := by decide +kernel
theorem d3_73 : decode jdk_42_method_149_code 73 = .ok (.return_, 1) := by decide +kernel
theorem pn_3 : plainFor (⟨"java/lang/String", "<init>", "([CIILjava/lang/Void;)V"⟩ : MethodName) = true := by first | (apply plainFor_of_name; simp [plainName, overriddenIn]; done) | (apply plainFor_of_name; decide +kernel) | decide +kernel
theorem pd_3 : parseMethodDescriptor "([CIILjava/lang/Void;)V" = some ⟨[(.array .char), .int, .int, (.object "java/lang/Void")], none⟩ := by decide +kernel
theorem d2_0 : decode jdk_42_method_3_code 0 = .ok (.aload_n 0, 1) := by decide +kernel
theorem d2_1 : decode jdk_42_method_3_code 1 = .ok (.aload_n 1, 1) := by decide +kernel
theorem d2_2 : decode jdk_42_method_3_code 2 = .ok (.iconst 0, 1) := by decide +kernel
theorem d2_3 : decode jdk_42_method_3_code 3 = .ok (.aload_n 1, 1) := by decide +kernel
theorem d2_4 : decode jdk_42_method_3_code 4 = .ok (.arraylength, 1) := by decide +kernel
theorem d2_5 : decode jdk_42_method_3_code 5 = .ok (.aconst_null, 1) := by decide +kernel
theorem d2_6 : decode jdk_42_method_3_code 6 = .ok (.invokespecial 27, 3) := by decide +kernel
theorem d2_9 : decode jdk_42_method_3_code 9 = .ok (.return_, 1) := by decide +kernel
theorem pn_2 : plainFor (⟨"java/lang/String", "<init>", "([C)V"⟩ : MethodName) = true := by first | (apply plainFor_of_name; simp [plainName, overriddenIn]; done) | (apply plainFor_of_name; decide +kernel) | decide +kernel
theorem pd_2 : parseMethodDescriptor "([C)V" = some ⟨[(.array .char)], none⟩ := by decide +kernel
theorem d7_0 : decode jdk_42_method_152_code 0 = .ok (.getstatic 38, 3) := by decide +kernel
theorem d7_3 : decode jdk_42_method_152_code 3 = .ok (.ifCond .eq 10, 3) := by decide +kernel
theorem d7_6 : decode jdk_42_method_152_code 6 = .ok (.aload_n 0, 1) := by decide +kernel
theorem d7_7 : decode jdk_42_method_152_code 7 = .ok (.getfield 15, 3) := by decide +kernel
theorem d7_10 : decode jdk_42_method_152_code 10 = .ok (.goto 4, 3) := by decide +kernel
theorem d7_13 : decode jdk_42_method_152_code 13 = .ok (.iconst 1, 1) := by decide +kernel
theorem d7_14 : decode jdk_42_method_152_code 14 = .ok (.ireturn, 1) := by decide +kernel
theorem pn_7 : plainFor (⟨"java/lang/String", "coder", "()B"⟩ : MethodName) = true := by first | (apply plainFor_of_name; simp [plainName, overriddenIn]; done) | (apply plainFor_of_name; decide +kernel) | decide +kernel
theorem pd_7 : parseMethodDescriptor "()B" = some ⟨[], (some .byte)⟩ := by decide +kernel
theorem d16_0 : decode jdk_42_method_154_code 0 = .ok (.getstatic 38, 3) := by decide +kernel
theorem d16_3 : decode jdk_42_method_154_code 3 = .ok (.ifCond .eq 14, 3) := by decide +kernel
theorem d16_6 : decode jdk_42_method_154_code 6 = .ok (.aload_n 0, 1) := by decide +kernel
theorem d16_7 : decode jdk_42_method_154_code 7 = .ok (.getfield 15, 3) := by decide +kernel
theorem d16_10 : decode jdk_42_method_154_code 10 = .ok (.ifCond .ne 7, 3) := by decide +kernel
theorem d16_13 : decode jdk_42_method_154_code 13 = .ok (.iconst 1, 1) := by decide +kernel
theorem d16_14 : decode jdk_42_method_154_code 14 = .ok (.goto 4, 3) := by decide +kernel
theorem d16_17 : decode jdk_42_method_154_code 17 = .ok (.iconst 0, 1) := by decide +kernel
theorem d16_18 : decode jdk_42_method_154_code 18 = .ok (.ireturn, 1) := by decide +kernel
theorem pn_16 : plainFor (⟨"java/lang/String", "isLatin1", "()Z"⟩ : MethodName) = true := by first | (apply plainFor_of_name; simp [plainName, overriddenIn]; done) | (apply plainFor_of_name; decide +kernel) | decide +kernel
theorem pd_16 : parseMethodDescriptor "()Z" = some ⟨[], (some .boolean)⟩ := by decide +kernel
theorem d6_0 : decode jdk_42_method_54_code 0 = .ok (.aload_n 0, 1) := by decide +kernel
theorem d6_1 : decode jdk_42_method_54_code 1 = .ok (.getfield 9, 3) := by decide +kernel
theorem d6_4 : decode jdk_42_method_54_code 4 = .ok (.arraylength, 1) := by decide +kernel
theorem d6_5 : decode jdk_42_method_54_code 5 = .ok (.aload_n 0, 1) := by decide +kernel
theorem d6_6 : decode jdk_42_method_54_code 6 = .ok (.invokevirtual 335, 3) := by decide +kernel
theorem d6_9 : decode jdk_42_method_54_code 9 = .ok (.ishr, 1) := by decide +kernel
theorem d6_10 : decode jdk_42_method_54_code 10 = .ok (.ireturn, 1) := by decide +kernel
theorem pn_6 : plainFor (⟨"java/lang/String", "length", "()I"⟩ : MethodName) = true := by first | (apply plainFor_of_name; simp [plainName, overriddenIn]; done) | (apply plainFor_of_name; decide +kernel) | decide +kernel
theorem pd_6 : parseMethodDescriptor "()I" = some ⟨[], (some .int)⟩ := by decide +kernel
theorem d15_0 : decode jdk_42_method_56_code 0 = .ok (.aload_n 0, 1) := by decide +kernel
theorem d15_1 : decode jdk_42_method_56_code 1 = .ok (.invokevirtual 492, 3) := by decide +kernel
theorem d15_4 : decode jdk_42_method_56_code 4 = .ok (.ifCond .eq 12, 3) := by decide +kernel
theorem d15_7 : decode jdk_42_method_56_code 7 = .ok (.aload_n 0, 1) := by decide +kernel
theorem d15_8 : decode jdk_42_method_56_code 8 = .ok (.getfield 9, 3) := by decide +kernel
theorem d15_11 : decode jdk_42_method_56_code 11 = .ok (.iload_n 1, 1) := by decide +kernel
theorem d15_12 : decode jdk_42_method_56_code 12 = .ok (.invokestatic 495, 3) := by decide +kernel
theorem d15_15 : decode jdk_42_method_56_code 15 = .ok (.ireturn, 1) := by decide +kernel
theorem d15_16 : decode jdk_42_method_56_code 16 = .ok (.aload_n 0, 1) := by decide +kernel
theorem d15_17 : decode jdk_42_method_56_code 17 = .ok (.getfield 9, 3) := by decide +kernel
theorem d15_20 : decode jdk_42_method_56_code 20 = .ok (.iload_n 1, 1) := by decide +kernel
theorem d15_21 : decode jdk_42_method_56_code 21 = .ok (.invokestatic 498, 3) := by decide +kernel
theorem d15_24 : decode jdk_42_method_56_code 24 = .ok (.ireturn, 1) := by decide +kernel
theorem pn_15 : plainFor (⟨"java/lang/String", "charAt", "(I)C"⟩ : MethodName) = true := by first | (apply plainFor_of_name; simp [plainName, overriddenIn]; done) | (apply plainFor_of_name; decide +kernel) | decide +kernel
theorem pd_15 : parseMethodDescriptor "(I)C" = some ⟨[.int], (some .char)⟩ := by decide +kernel
theorem d17_0 : decode jdk_43_method_2_code 0 = .ok (.iload_n 1, 1) := by decide +kernel
theorem d17_1 : decode jdk_43_method_2_code 1 = .ok (.aload_n 0, 1) := by decide +kernel
theorem d17_2 : decode jdk_43_method_2_code 2 = .ok (.arraylength, 1) := by decide +kernel
theorem d17_3 : decode jdk_43_method_2_code 3 = .ok (.invokestatic 9, 3) := by decide +kernel
theorem d17_6 : decode jdk_43_method_2_code 6 = .ok (.aload_n 0, 1) := by decide +kernel
theorem d17_7 : decode jdk_43_method_2_code 7 = .ok (.iload_n 1, 1) := by decide +kernel
theorem d17_8 : decode jdk_43_method_2_code 8 = .ok (.baload, 1) := by decide +kernel
theorem d17_9 : decode jdk_43_method_2_code 9 = .ok (.sipush 255, 3) := by decide +kernel
theorem d17_12 : decode jdk_43_method_2_code 12 = .ok (.iand, 1) := by decide +kernel
theorem d17_13 : decode jdk_43_method_2_code 13 = .ok (.i2c, 1) := by decide +kernel
theorem d17_14 : decode jdk_43_method_2_code 14 = .ok (.ireturn, 1) := by decide +kernel
theorem pn_17 : plainFor (⟨"java/lang/StringLatin1", "charAt", "([BI)C"⟩ : MethodName) = true := by first | (apply plainFor_of_name; simp [plainName, overriddenIn]; done) | (apply plainFor_of_name; decide +kernel) | decide +kernel
theorem pd_17 : parseMethodDescriptor "([BI)C" = some ⟨[(.array .byte), .int], (some .char)⟩ := by decide +kernel
theorem d18_0 : decode jdk_42_method_155_code 0 = .ok (.iload_n 0, 1) := by decide +kernel
theorem d18_1 : decode jdk_42_method_155_code 1 = .ok (.iload_n 1, 1) := by decide +kernel
theorem d18_2 : decode jdk_42_method_155_code 2 = .ok (.getstatic 1053, 3) := by decide +kernel
theorem d18_5 : decode jdk_42_method_155_code 5 = .ok (.invokestatic 1059, 3) := by decide +kernel
theorem d18_8 : decode jdk_42_method_155_code 8 = .ok (.pop, 1) := by decide +kernel
theorem d18_9 : decode jdk_42_method_155_code 9 = .ok (.return_, 1) := by decide +kernel
theorem pn_18 : plainFor (⟨"java/lang/String", "checkIndex", "(II)V"⟩ : MethodName) = true := by first | (apply plainFor_of_name; simp [plainName, overriddenIn]; done) | (apply plainFor_of_name; decide +kernel) | decide +kernel
theorem pd_18 : parseMethodDescriptor "(II)V" = some ⟨[.int, .int], none⟩ := by decide +kernel
theorem d19_0 : decode jdk_41_method_11_code 0 = .ok (.iload_n 0, 1) := by decide +kernel
theorem d19_1 : decode jdk_41_method_11_code 1 = .ok (.ifCond .lt 8, 3) := by decide +kernel
theorem d19_4 : decode jdk_41_method_11_code 4 = .ok (.iload_n 0, 1) := by decide +kernel
theorem d19_5 : decode jdk_41_method_11_code 5 = .ok (.iload_n 1, 1) := by decide +kernel
theorem d19_6 : decode jdk_41_method_11_code 6 = .ok (.if_icmp .lt 10, 3) := by decide +kernel
theorem d19_9 : decode jdk_41_method_11_code 9 = .ok (.aload_n 2, 1) := by decide +kernel
theorem d19_10 : decode jdk_41_method_11_code 10 = .ok (.iload_n 0, 1) := by decide +kernel
theorem d19_11 : decode jdk_41_method_11_code 11 = .ok (.iload_n 1, 1) := by decide +kernel
theorem d19_12 : decode jdk_41_method_11_code 12 = .ok (.invokestatic 95, 3) := by decide +kernel
theorem d19_15 : decode jdk_41_method_11_code 15 = .ok (.athrow, 1) := by decide +kernel
theorem d19_16 : decode jdk_41_method_11_code 16 = .ok (.iload_n 0, 1) := by decide +kernel
theorem d19_17 : decode jdk_41_method_11_code 17 = .ok (.ireturn, 1) := by decide +kernel
theorem pn_19 : plainFor (⟨"jdk/internal/util/Preconditions", "checkIndex", "(IILjava/util/function/BiFunction;)I"⟩ : MethodName) = true := by first | (apply plainFor_of_name; simp [plainName, overriddenIn]; done) | (apply plainFor_of_name; decide +kernel) | decide +kernel
theorem pd_19 : parseMethodDescriptor "(IILjava/util/function/BiFunction;)I" = some ⟨[.int, .int, (.object "java/util/function/BiFunction")], (some .int)⟩ := by decide +kernel
theorem own_UpE {vs : List Value} {cs : List Int32} {i n : Nat} (q : i = n) (h : own_Up vs cs i) : own_Up vs cs n := q ▸ h
theorem own_LpE {vs : List Value} {cs : List Int32} {i n : Nat} (q : i = n) (h : own_Lp vs cs i) : own_Lp vs cs n := q ▸ h
def own_SV (k : Int32) (vs : List Value) (cs : List Int32) : Prop := (k = 0 ∧ own_L vs cs) ∨ (k = 1 ∧ own_U vs cs)
theorem own_ltlit {n : Nat} (h : n ≤ 4) {x : Int32} (hx : 4 < x.toInt) : Int32.ofNat n < x := by
  rw [Int32.lt_iff_toInt_lt, own_ti (by omega)]; omega
theorem own_cfal : ∀ n : Nat, n ≤ 4 → ((XT.ushr (Int32.ofNat n - Int32.ofNat n) 31).toInt8.toInt32 = 0) := by decide +kernel
theorem own_cfal2 : ∀ n : Nat, n ≤ 4 → 0 < n → ((XT.ushr (Int32.ofNat n - Int32.ofNat (2 * n)) 31).toInt8.toInt32 = 1) := by decide +kernel
theorem own_nz {n : Nat} (h : n ≤ 4) (h0 : 0 < n) : ¬ Int32.ofNat n = 0 := fun q => by
  have := congrArg Int32.toInt q
  rw [own_ti (by omega)] at this
  have k0 : (0 : Int32).toInt = 0 := by decide
  omega
theorem own_inj {i n : Nat} (hi : i < 2147483648) (hn : n < 2147483648) (h : Int32.ofNat i = Int32.ofNat n) : i = n := by
  have := congrArg Int32.toInt h
  rw [own_ti hi, own_ti hn] at this
  omega
theorem own_SVlen {k : Int32} {vs : List Value} {cs : List Int32} (hn : cs.length ≤ 4) (h : own_SV k vs cs) : Int32.ofNat vs.length >>> (k &&& 31) = Int32.ofNat cs.length := by
  rcases h with ⟨rfl, h⟩ | ⟨rfl, h⟩
  · rw [own_shr0, h.1]
  · rw [own_shr1 (by rw [h.1]; omega), h.1]; congr 1; omega
theorem own_SVk {k : Int32} {vs : List Value} {cs : List Int32} (h : own_SV k vs cs) : k = 0 ∨ k = 1 := by
  rcases h with ⟨rfl, h⟩ | ⟨rfl, h⟩
  · exact Or.inl rfl
  · exact Or.inr rfl
theorem own_kb {k : Int32} (h : k = 0 ∨ k = 1) : narrow .byte (.int k) = .int k := by rcases h with rfl | rfl <;> rfl
theorem own_kf {k : Int32} (h : k = 0 ∨ k = 1) : fits .byte (.int k) = true := by rcases h with rfl | rfl <;> rfl
theorem own_avN {Z : State} {h : Heap} {a b : Addr} {ty ty' : FieldType} {vs ws : List Value} (A : Av Z h a ty vs) (B : Av Z h b ty' ws) (q : ty ≠ ty') : a ≠ b := fun e => by
  subst e
  obtain ⟨c, ⟨h1, ⟨-, k1, k2, comp, k3⟩, -⟩, -⟩ := A
  obtain ⟨c', ⟨g1, ⟨-, l1, l2, comp', l3⟩, -⟩, -⟩ := B
  cases h1.symm.trans g1
  cases k2.symm.trans l2
  rw [k3] at l3
  cases l3
  exact q rfl

theorem own_getL {c : Int32} (h : own_ch c) (h1 : ¬ 255 < c) : ((own_lo c) &&& (255 : Int32)).toUInt32.toUInt16.toUInt32.toInt32 = c := by
  obtain ⟨h0, h2⟩ := h
  rw [Int32.lt_iff_toInt_lt] at h1
  have k : (255 : Int32).toInt = 255 := by decide
  have a1 := c_i2b c
  have a4 := c_mask (own_lo c) 255 8 (by decide) (by decide)
  unfold own_lo at a4
  have b4 : (own_lo c &&& 255).toInt = c.toInt := by unfold own_lo; omega
  have a9 := c_i2c (own_lo c &&& 255)
  apply Int32.toInt_inj.mp
  omega
theorem own_Lfits {vs : List Value} {cs : List Int32} (h : own_L vs cs) : ∀ v ∈ vs, fits .byte v = true := by
  intro v hv
  obtain ⟨j, hj, e⟩ := List.mem_iff_getElem.mp hv
  obtain ⟨c, hc⟩ := own_ex (cs := cs) (i := j) (by rw [← h.1]; exact hj)
  have q := (h.2 j c (by rw [← h.1]; exact hj) hc).1
  rw [List.getElem?_eq_getElem hj, e] at q
  cases q
  exact fits_nar_byte c
theorem own_AvArv {Z : State} {h : Heap} {a : Addr} {ty : FieldType} {vs : List Value} {d : Value} (A : Av Z h a ty vs) (hf : ∀ v ∈ vs, fits ty v = true) (hn : vs.length < 2147483648) : ∃ k, Arv Z h a k ty (Int32.ofNat vs.length) vs d := by
  obtain ⟨c, A1, rfl⟩ := A
  refine ⟨c.cls, c, A1, rfl, by rw [own_tn hn]; simp, own_nn hn, fun i hi => ?_, fun i hi => ?_⟩
  · rw [List.getD, Array.getElem?_toList, Array.getElem?_eq_getElem hi]; rfl
  · have q : c.slots.toList.getD i d = c.slots[i] := by rw [List.getD, Array.getElem?_toList, Array.getElem?_eq_getElem hi]; rfl
    rw [q]
    exact hf _ (by simp)
theorem own_Ltake {vs : List Value} {cs : List Int32} {m : Nat} (h : own_L vs cs) (hm : m ≤ cs.length) : own_L ((List.range m).map fun i => vs.getD (0 + i) (.int 0)) (cs.take m) := by
  refine ⟨by simp; omega, fun j c hj hc => ?_⟩
  have hj' : j < m := by simp at hj; omega
  have hc' : cs[j]? = some c := by rw [List.getElem?_take_of_lt hj'] at hc; exact hc
  have q := h.2 j c (by omega) hc'
  refine ⟨?_, q.2⟩
  rw [List.getElem?_map, List.getElem?_range hj']
  simp only [Option.map_some, Nat.zero_add, List.getD, q.1, Option.getD_some]
theorem own_L0 {vs : List Value} : own_L [] [] := ⟨rfl, fun j c q => absurd q (Nat.not_lt_zero _)⟩

def own_QC (Z : State) (h0 : Heap) (n0 : Nat) (aB : Addr) (cs : List Int32) (v : Option Value) (h : Heap) (L : List Loc) : Prop := ∃ r vs, v = some (.int r) ∧ Fr n0 L ∧ Keep h0 h [aB] ∧ Av Z h aB .byte vs ∧ ((r = Int32.ofNat cs.length ∧ own_L vs cs) ∨ (∃ i c, i < cs.length ∧ r = Int32.ofNat i ∧ cs[i]? = some c ∧ 255 < c))
set_option maxRecDepth 65536 in
set_option maxHeartbeats 40000000 in
theorem rS_c5 (l : Launch) (Z : State) (ag : Array Value) (hw : ∀ d ∈ tables_1, d.before ag Z = true) (aS aB : Addr) (cs : List Int32) (vs0 : List Value) (h0 : Heap) (n0 : Nat) (hn : cs.length ≤ 4) (gB : n0 ≤ aB) (AS : Av Z h0 aS .char (cs.map Value.int)) (AB : Av Z h0 aB .byte vs0) (hL : own_Lp vs0 cs 0) :
    Ctr l Z (⟨"java/lang/StringUTF16", "compress", "([CI[BII)I"⟩ : MethodName) jdk_52_method_21_code 7 (some .int) ({ frames := 0, cells := 0, slots := 0, locals := 0 } : Room) #[.ref aS, .int (0 : Int32), .ref aB, .int (0 : Int32), .int (Int32.ofNat cs.length)] h0 (own_QC Z h0 n0 aB cs) := by
  refine Ctr.of pn_13 ?_
  intro p e s m below meth c T0 X0 B e0
  refine Go.cast (f' := mkF m 0 #[.val (.ref aS), .val (.int (0 : Int32)), .val (.ref aB), .val (.int (0 : Int32)), .val (.int (Int32.ofNat cs.length)), .unset, .unset] []) (by first | rfl | (simp [entryFrame, mkF, argsToLocals, Value.category, maxLocals]; done)) ?_

  have ne1 : aS ≠ aB := own_avN AS AB (by decide)
  refine g_iconst X0 B (0) d13_0 1 rfl rfl ?_
  refine g_istore X0 B #[.val (.ref aS), .val (.int (0 : Int32)), .val (.ref aB), .val (.int (0 : Int32)), .val (.int (Int32.ofNat cs.length)), .val (.int (0 : Int32)), .unset] d13_1 3 rfl rfl ?_
  have loop : ∀ (k i : Nat) (T : State) (hh : Heap) (vs : List Value) (Lo : List Loc) (o6 : Slot), i + k = cs.length → Stand p l e ({ frames := 0, cells := 0, slots := 0, locals := 0 } : Room) s m #[.ref aS, .int (0 : Int32), .ref aB, .int (0 : Int32), .int (Int32.ofNat cs.length)] below meth c T Lo 0 0 → T.heap = hh → Av Z hh aS .char (cs.map Value.int) → Av Z hh aB .byte vs → own_Lp vs cs i → Keep h0 hh [aB] → Fr n0 Lo → One o6 → Go p e below (EndsQ s (own_QC Z h0 n0 aB cs) ({ frames := 0, cells := 0, slots := 0, locals := 0 } : Room).cells ({ frames := 0, cells := 0, slots := 0, locals := 0 } : Room).slots) (T.setTop (mkF m 3 #[.val (.ref aS), .val (.int (Int32.ofNat i)), .val (.ref aB), .val (.int (Int32.ofNat i)), .val (.int (Int32.ofNat cs.length)), .val (.int (Int32.ofNat i)), o6] [])) := by
    intro k
    induction k with
    | zero =>
      intro i T hh vs Lo o6 hk X eh AS AB hL K N O
      refine g_iload X B d13_3 5 rfl rfl ?_
      refine g_iload X B d13_5 7 rfl rfl ?_
      refine g_icmp_ge X B d13_7 44 10 rfl (by decide) rfl (fun _ => ?_) (fun z => own_abs' (fun z => absurd ((own_lt (by omega) (by omega)).mp z) (by omega)) z)
      refine g_iload X B d13_44 46 rfl rfl ?_
      exact g_retI X B d13_46 rfl (by decide) (by decide) eh ⟨_, vs, rfl, N, K, AB, Or.inl ⟨rfl, own_LpE (by omega) hL⟩⟩
    | succ k ih =>
      intro i T hh vs Lo o6 hk X eh AS AB hL K N O
      obtain ⟨c0, hc⟩ := own_ex (cs := cs) (i := i) (by omega)
      refine g_iload X B d13_3 5 rfl rfl ?_
      refine g_iload X B d13_5 7 rfl rfl ?_
      refine g_icmp_ge X B d13_7 44 10 rfl (by decide) rfl (fun z => own_abs ((own_lt (by omega) (by omega)).mpr (by omega)) z) (fun _ => ?_)
      refine g_aloadN X B d13_10 11 rfl rfl rfl ?_
      refine g_iloadN X B d13_11 12 rfl rfl ?_
      refine g_caload X B i d13_12 13 rfl eh AS (own_tn (by omega)) (own_nn (by omega)) (own_mapat hc) ?_
      refine g_istore X B #[.val (.ref aS), .val (.int (Int32.ofNat i)), .val (.ref aB), .val (.int (Int32.ofNat i)), .val (.int (Int32.ofNat cs.length)), .val (.int (Int32.ofNat i)), .val (.int c0)] d13_13 15 rfl (XS.store1 rfl O rfl) ?_
      refine g_iload X B d13_15 17 rfl rfl ?_
      refine g_sipush X B (255) d13_17 20 rfl rfl ?_
      refine g_icmp_le X B d13_20 26 23 rfl (by decide) rfl (fun c1 => ?_) (fun c1 => ?_)
      · skip
        refine g_aloadN X B d13_26 27 rfl rfl rfl ?_
        refine g_iloadN X B d13_27 28 rfl rfl ?_
        refine g_iload X B d13_28 30 rfl rfl ?_
        refine g_i2b X B d13_30 31 rfl ?_
        refine g_bastoreB X B i d13_31 32 rfl eh AB (own_tn (by omega)) (own_nn (by omega)) (by rw [hL.1]; omega) (fun T2 h2 X2 e2 W2 A2 => ?_)
        rw [own_nb] at A2 W2
        refine g_iinc X2 B #[.val (.ref aS), .val (.int ((Int32.ofNat i) + (1))), .val (.ref aB), .val (.int (Int32.ofNat i)), .val (.int (Int32.ofNat cs.length)), .val (.int (Int32.ofNat i)), .val (.int c0)] (1) d13_32 35 rfl rfl rfl rfl ?_
        refine g_iinc X2 B #[.val (.ref aS), .val (.int ((Int32.ofNat i) + (1))), .val (.ref aB), .val (.int ((Int32.ofNat i) + (1))), .val (.int (Int32.ofNat cs.length)), .val (.int (Int32.ofNat i)), .val (.int c0)] (1) d13_35 38 rfl rfl rfl rfl ?_
        refine g_iinc X2 B #[.val (.ref aS), .val (.int ((Int32.ofNat i) + (1))), .val (.ref aB), .val (.int ((Int32.ofNat i) + (1))), .val (.int (Int32.ofNat cs.length)), .val (.int ((Int32.ofNat i) + (1))), .val (.int c0)] (1) d13_38 41 rfl rfl rfl rfl ?_
        refine g_goto X2 B d13_41 3 rfl (by decide) ?_
        rw [own_s1 (by omega)]
        exact ih (i + 1) _ _ _ _ _ (by omega) X2 e2 (AS.other W2 ne1) A2 (own_Lps hL hc c1) (K.wr W2 (Or.inl (List.mem_singleton.mpr rfl))) (Fr.snoc X2 N gB) (One.val rfl)
      · skip
        refine g_iload X B d13_23 25 rfl rfl ?_
        exact g_retI X B d13_25 rfl (by decide) (by decide) eh ⟨_, vs, rfl, N, K, AB, Or.inr ⟨i, c0, by omega, rfl, hc, c1⟩⟩
  exact loop cs.length 0 _ _ _ _ _ (by omega) X0 e0 AS AB hL (Keep.refl _ _) (Fr.nil n0) One.u
set_option maxRecDepth 65536 in
set_option maxHeartbeats 40000000 in
theorem rS_c3 (l : Launch) (Z : State) (ag : Array Value) (hw : ∀ d ∈ tables_1, d.before ag Z = true) (aS : Addr) (cs : List Int32) (h0 : Heap) (n0 : Nat) (Z0 : n0 ≤ h0.size) (hn : cs.length ≤ 4) (hcl : ∀ c ∈ cs, ¬ 255 < c) (AS : Av Z h0 aS .char (cs.map Value.int)) :
    Ctr l Z (⟨"java/lang/StringUTF16", "compress", "([CII)[B"⟩ : MethodName) jdk_52_method_16_code 6 (some (.array .byte)) ({ frames := 1, cells := 1, slots := 4, locals := 18 } : Room) #[.ref aS, .int (0 : Int32), .int (Int32.ofNat cs.length)] h0 (fun v h L => ∃ a vs, v = some (.ref a) ∧ Fr n0 L ∧ Keep h0 h [] ∧ Av Z h a .byte vs ∧ own_L vs cs ∧ h0.size ≤ a ∧ n0 ≤ a) := by
  refine Ctr.of pn_12 ?_
  intro p e s m below meth c T0 X0 B e0
  refine Go.cast (f' := mkF m 0 #[.val (.ref aS), .val (.int (0 : Int32)), .val (.int (Int32.ofNat cs.length)), .unset, .unset, .unset] []) (by first | rfl | (simp [entryFrame, mkF, argsToLocals, Value.category, maxLocals]; done)) ?_

  refine g_iloadN X0 B d12_0 1 rfl rfl ?_
  refine g_newP X0 B (List.replicate cs.length (.int 0)) d12_1 3 rfl (hw _ (List.mem_of_getElem? (i := 20) rfl)) e0 (own_nn (by omega)) (by rw [own_tn (by omega)]; rfl) (by simp; omega) (by decide) (by simp; omega) (fun T1 h1 aB X1' e1 ea Ea AB => ?_)
  have X1 := X1'.more (Nat.le_refl _) (show 0 + (List.replicate cs.length (Value.int 0)).length ≤ 4 by simp; omega)
  have gB : n0 ≤ aB := ea ▸ Z0
  refine g_astoreN X1 B #[.val (.ref aS), .val (.int (0 : Int32)), .val (.int (Int32.ofNat cs.length)), .val (.ref aB), .unset, .unset] d12_3 4 rfl rfl rfl ?_
  refine g_aloadN X1 B d12_4 5 rfl rfl rfl ?_
  refine g_iloadN X1 B d12_5 6 rfl rfl ?_
  refine g_aloadN X1 B d12_6 7 rfl rfl rfl ?_
  refine g_iconst X1 B (0) d12_7 8 rfl rfl ?_
  refine g_iloadN X1 B d12_8 9 rfl rfl ?_
  refine g_callS X1 B [.ref aS, .int (0 : Int32), .ref aB, .int (0 : Int32), .int (Int32.ofNat cs.length)] [] d12_9 12 rfl rfl (hw _ (List.mem_of_getElem? (i := 64) rfl)) (hw _ (List.mem_of_getElem? (i := 65) rfl)) (hw _ (List.mem_of_getElem? (i := 62) rfl)) (hw _ (List.mem_of_getElem? (i := 66) rfl)) (by decide) (lenOf pd_13 rfl) (rS_c5 l Z ag hw aS aB cs _ h1 n0 hn gB (AS.ext Ea) AB (own_Lp0 rfl)) e1 rfl 0 (Nat.le_of_eq rfl) (by decide) (by decide) (by decide) (by decide) (fun v2 T2 h2 L2 X2 e2 q2 => ?_)
  obtain ⟨r, vs, rfl, N2, K2, A2, D2⟩ := q2
  show Go p e below _ (T2.setTop (mkF m 12 #[.val (.ref aS), .val (.int (0 : Int32)), .val (.int (Int32.ofNat cs.length)), .val (.ref aB), .unset, .unset] [.int r]))
  obtain ⟨rfl, hLv⟩ := D2.resolve_right (fun ⟨i, c, hi, _, hc, hb⟩ => hcl c (List.mem_of_getElem? hc) hb)
  refine g_istore X2 B #[.val (.ref aS), .val (.int (0 : Int32)), .val (.int (Int32.ofNat cs.length)), .val (.ref aB), .val (.int (Int32.ofNat cs.length)), .unset] d12_12 14 rfl rfl ?_
  refine g_iload X2 B d12_14 16 rfl rfl ?_
  refine g_iloadN X2 B d12_16 17 rfl rfl ?_
  refine g_icmp_eq X2 B d12_17 57 20 rfl (by decide) rfl (fun _ => ?_) (fun z => own_abs (rfl) z)
  refine g_aloadN X2 B d12_57 58 rfl rfl rfl ?_
  exact g_retA X2 B d12_58 rfl rfl rfl (by decide) (by decide) e2 ⟨aB, vs, rfl, ((Fr.nil n0).app N2), ((Keep.refl h0 []).ext Ea).trans K2 (allS (Or.inr (Nat.le_of_eq ea.symm)) all0), A2, hLv, Nat.le_of_eq ea.symm, gB⟩
set_option maxRecDepth 65536 in
set_option maxHeartbeats 40000000 in
theorem rS_cfa (l : Launch) (Z : State) (ag : Array Value) (hw : ∀ d ∈ tables_1, d.before ag Z = true) (a : Addr) (n : Nat) (vs : List Value) (h0 : Heap) (n0 : Nat) (hn : n ≤ 4) (A : Av Z h0 a .byte vs) (hk : vs.length = n) :
    Ctr l Z (⟨"java/lang/StringUTF16", "coderFromArrayLen", "([BI)B"⟩ : MethodName) jdk_52_method_15_code 2 (some .byte) ({ frames := 0, cells := 0, slots := 0, locals := 0 } : Room) #[.ref a, .int (Int32.ofNat n)] h0 (fun v h L => v = some (.int 0) ∧ Fr n0 L ∧ h0 = h) := by
  refine Ctr.of pn_14 ?_
  intro p e s m below meth c T0 X0 B e0
  refine Go.cast (f' := mkF m 0 #[.val (.ref a), .val (.int (Int32.ofNat n))] []) (by first | rfl | (simp [entryFrame, mkF, argsToLocals, Value.category, maxLocals]; done)) ?_

  refine g_iloadN X0 B d14_0 1 rfl rfl ?_
  refine g_aloadN X0 B d14_1 2 rfl rfl rfl ?_
  refine g_arrlen X0 B (Int32.ofNat n) d14_2 3 rfl e0 A (by rw [hk]) ?_
  refine g_isub X0 B d14_3 4 rfl ?_
  refine g_bipush X0 B (31) d14_4 6 rfl rfl ?_
  refine g_iushr X0 B d14_6 7 rfl ?_
  refine g_i2b X0 B d14_7 8 rfl ?_
  rw [own_cfal n hn]
  exact g_retN X0 B d14_8 rfl rfl (by decide) (by decide) (by decide) e0 ⟨rfl, (Fr.nil n0), rfl⟩
set_option maxRecDepth 65536 in
set_option maxHeartbeats 40000000 in
theorem rS_i4 (l : Launch) (Z : State) (ag : Array Value) (hw : ∀ d ∈ tables_1, d.before ag Z = true) (a aS : Addr) (cs : List Int32) (cx : Int32) (h0 : Heap) (n0 : Nat) (Z0 : n0 ≤ h0.size) (hn : cs.length ≤ 4) (hp : 0 < cs.length) (hcl : ∀ c ∈ cs, ¬ 255 < c) (ga : n0 ≤ a) (Ea : Exa Z h0 a "java/lang/String") (FV : Fld Z h0 a "java/lang/String" "value" "[B" (.null)) (FC : Fld Z h0 a "java/lang/String" "coder" "B" (.int 0)) (AS : Av Z h0 aS .char (cs.map Value.int)) (SC : Sta Z h0 "java/lang/String" "COMPACT_STRINGS" "Z" (.int cx)) (hcx : ¬ cx = 0) :
    Ctr l Z (⟨"java/lang/String", "<init>", "([CIILjava/lang/Void;)V"⟩ : MethodName) jdk_42_method_149_code 6 none ({ frames := 2, cells := 1, slots := 4, locals := 35 } : Room) #[.ref a, .ref aS, .int (0 : Int32), .int (Int32.ofNat cs.length), .null] h0 (fun v h L => ∃ b vs, v = none ∧ Fr n0 L ∧ Keep h0 h [a] ∧ Fld Z h a "java/lang/String" "value" "[B" (.ref b) ∧ Fld Z h a "java/lang/String" "coder" "B" (.int 0) ∧ Av Z h b .byte vs ∧ own_L vs cs ∧ h0.size ≤ b ∧ n0 ≤ b) := by
  refine Ctr.of pn_3 ?_
  intro p e s m below meth c T0 X0 B e0
  refine Go.cast (f' := mkF m 0 #[.val (.ref a), .val (.ref aS), .val (.int (0 : Int32)), .val (.int (Int32.ofNat cs.length)), .val (.null), .unset] []) (by first | rfl | (simp [entryFrame, mkF, argsToLocals, Value.category, maxLocals]; done)) ?_

  refine g_aloadN X0 B d3_0 1 rfl rfl rfl ?_
  obtain ⟨T1, X1, e1, st1⟩ := initO X0 B.x B.z B.o (hw _ (List.mem_of_getElem? (i := 16) rfl)) (hw _ (List.mem_of_getElem? (i := 17) rfl)) (hw _ (List.mem_of_getElem? (i := 18) rfl)) e0 (g := mkF m 1 #[.val (.ref a), .val (.ref aS), .val (.int (0 : Int32)), .val (.int (Int32.ofNat cs.length)), .val (.null), .unset] [.ref a]) rfl (B.mx rfl) rfl (B.d d3_1) (by decide) (W := 0) (by show 2 * 0 + _ ≤ _; exact Nat.le_of_eq rfl) (by decide)
  refine Go.via st1 ?_
  show Go p e below _ (T1.setTop (mkF m 4 #[.val (.ref a), .val (.ref aS), .val (.int (0 : Int32)), .val (.int (Int32.ofNat cs.length)), .val (.null), .unset] []))
  refine g_iloadN X1 B d3_4 5 rfl rfl ?_
  refine g_if_ne X1 B d3_5 27 8 rfl (by decide) rfl (fun _ => ?_) (fun z => own_abs' (own_nz hn hp) z)
  refine g_getS X1 B d3_27 30 rfl (hw _ (List.mem_of_getElem? (i := 41) rfl)) Via.refl e1 SC (fun T2 X2 e2 => ?_)
  refine g_if_eq X2 B d3_30 58 33 rfl (by decide) rfl (fun z => own_abs' (hcx) z) (fun _ => ?_)
  refine g_aloadN X2 B d3_33 34 rfl rfl rfl ?_
  refine g_iloadN X2 B d3_34 35 rfl rfl ?_
  refine g_iloadN X2 B d3_35 36 rfl rfl ?_
  refine g_callS X2 B [.ref aS, .int (0 : Int32), .int (Int32.ofNat cs.length)] [] d3_36 39 rfl rfl (hw _ (List.mem_of_getElem? (i := 60) rfl)) (hw _ (List.mem_of_getElem? (i := 61) rfl)) (hw _ (List.mem_of_getElem? (i := 62) rfl)) (hw _ (List.mem_of_getElem? (i := 63) rfl)) (by decide) (lenOf pd_12 rfl) (rS_c3 l Z ag hw aS cs h0 n0 Z0 hn hcl AS) e2 rfl 0 (Nat.le_of_eq rfl) (by decide) (by decide) (by decide) (by decide) (fun v3 T3 h3 L3 X3 e3 q3 => ?_)
  obtain ⟨b, vs, rfl, N3, K3, Ab, hLv, gh, gb⟩ := q3
  show Go p e below _ (T3.setTop (mkF m 39 #[.val (.ref a), .val (.ref aS), .val (.int (0 : Int32)), .val (.int (Int32.ofNat cs.length)), .val (.null), .unset] [.ref b]))
  refine g_astore X3 B #[.val (.ref a), .val (.ref aS), .val (.int (0 : Int32)), .val (.int (Int32.ofNat cs.length)), .val (.null), .val (.ref b)] d3_39 41 rfl rfl rfl ?_
  refine g_aloadN X3 B d3_41 42 rfl rfl rfl ?_
  refine g_aload X3 B d3_42 44 rfl rfl rfl ?_
  refine g_iloadN X3 B d3_44 45 rfl rfl ?_
  refine g_callS X3 B [.ref b, .int (Int32.ofNat cs.length)] [.ref a] d3_45 48 rfl rfl (hw _ (List.mem_of_getElem? (i := 67) rfl)) (hw _ (List.mem_of_getElem? (i := 68) rfl)) (hw _ (List.mem_of_getElem? (i := 62) rfl)) (hw _ (List.mem_of_getElem? (i := 69) rfl)) (by decide) (lenOf pd_14 rfl) (rS_cfa l Z ag hw b cs.length vs h3 n0 hn Ab hLv.1) e3 rfl 1 (Nat.le_of_eq rfl) (by decide) (by decide) (by decide) (by decide) (fun v4 T4 h4 L4 X4 e4 q4 => ?_)
  obtain ⟨rfl, N4, rfl⟩ := q4
  show Go p e below _ (T4.setTop (mkF m 48 #[.val (.ref a), .val (.ref aS), .val (.int (0 : Int32)), .val (.int (Int32.ofNat cs.length)), .val (.null), .val (.ref b)] [.int (0 : Int32), .ref a]))
  have t1 := (Fld.keep FC K3 nin0)
  have t2 := (Exa.keep Ea K3)
  refine g_putF X4 B d3_48 51 rfl (hw _ (List.mem_of_getElem? (i := 26) rfl)) Via.refl e4 t1 t2 (Or.inr ⟨(hw _ (List.mem_of_getElem? (i := 22) rfl)), rfl, rfl⟩) (hw _ (List.mem_of_getElem? (i := 7) rfl)) (ty := .byte) (by decide) rfl rfl (fun T5 h5 X5 e5 W5 => ?_)
  have F5 := t1.same W5
  refine g_aloadN X5 B d3_51 52 rfl rfl rfl ?_
  refine g_aload X5 B d3_52 54 rfl rfl rfl ?_
  have t3 := (Fld.other W5 (Fld.keep FV K3 nin0) (Or.inr (slot_ne (Or.inr (hw _ (List.mem_of_getElem? (i := 21) rfl))) (Or.inr (hw _ (List.mem_of_getElem? (i := 22) rfl))) (by decide) (t := (.array .byte)) (by decide) (t' := .byte) (by decide))))
  have t4 := (Exa.wr W5 t2)
  refine g_putF X5 B d3_54 57 rfl (hw _ (List.mem_of_getElem? (i := 25) rfl)) Via.refl e5 t3 t4 (Or.inr ⟨(hw _ (List.mem_of_getElem? (i := 21) rfl)), rfl, rfl⟩) (hw _ (List.mem_of_getElem? (i := 7) rfl)) (ty := (.array .byte)) (by decide) rfl rfl (fun T6 h6 X6 e6 W6 => ?_)
  have F6 := t3.same W6
  have t5 := (Keep.wr (Keep.wr (Keep.trans (Keep.refl h0 [a]) K3 all0) W5 (Or.inl (List.mem_of_getElem? (i := 0) rfl))) W6 (Or.inl (List.mem_of_getElem? (i := 0) rfl)))
  have t6 := (Fld.other W6 F5 (Or.inr (slot_ne (Or.inr (hw _ (List.mem_of_getElem? (i := 22) rfl))) (Or.inr (hw _ (List.mem_of_getElem? (i := 21) rfl))) (by decide) (t := .byte) (by decide) (t' := (.array .byte)) (by decide))))
  have t7 : a ≠ b := own_neAv t2 (hw _ (List.mem_of_getElem? (i := 7) rfl)) Ab
  have t8 := (Av.other (Av.other Ab W5 (Ne.symm t7)) W6 (Ne.symm t7))
  exact g_retV X6 B d3_57 rfl (by decide) (by decide) e6 ⟨b, vs, rfl, (Fr.snoc X6 (Fr.snoc X5 (((Fr.nil n0).app N3).app N4) ga) ga), t5, F6, t6, t8, hLv, gh, gb⟩
set_option maxRecDepth 65536 in
set_option maxHeartbeats 40000000 in
theorem rS_i1 (l : Launch) (Z : State) (ag : Array Value) (hw : ∀ d ∈ tables_1, d.before ag Z = true) (a aS : Addr) (cs : List Int32) (cx : Int32) (h0 : Heap) (n0 : Nat) (Z0 : n0 ≤ h0.size) (hn : cs.length ≤ 4) (hp : 0 < cs.length) (hcl : ∀ c ∈ cs, ¬ 255 < c) (ga : n0 ≤ a) (Ea : Exa Z h0 a "java/lang/String") (FV : Fld Z h0 a "java/lang/String" "value" "[B" (.null)) (FC : Fld Z h0 a "java/lang/String" "coder" "B" (.int 0)) (AS : Av Z h0 aS .char (cs.map Value.int)) (SC : Sta Z h0 "java/lang/String" "COMPACT_STRINGS" "Z" (.int cx)) (hcx : ¬ cx = 0) :
    Ctr l Z (⟨"java/lang/String", "<init>", "([C)V"⟩ : MethodName) jdk_42_method_3_code 2 none ({ frames := 3, cells := 1, slots := 4, locals := 52 } : Room) #[.ref a, .ref aS] h0 (fun v h L => ∃ b vs, v = none ∧ Fr n0 L ∧ Keep h0 h [a] ∧ Fld Z h a "java/lang/String" "value" "[B" (.ref b) ∧ Fld Z h a "java/lang/String" "coder" "B" (.int 0) ∧ Av Z h b .byte vs ∧ own_L vs cs ∧ h0.size ≤ b ∧ n0 ≤ b) := by
  refine Ctr.of pn_2 ?_
  intro p e s m below meth c T0 X0 B e0
  refine Go.cast (f' := mkF m 0 #[.val (.ref a), .val (.ref aS)] []) (by first | rfl | (simp [entryFrame, mkF, argsToLocals, Value.category, maxLocals]; done)) ?_

  refine g_aloadN X0 B d2_0 1 rfl rfl rfl ?_
  refine g_aloadN X0 B d2_1 2 rfl rfl rfl ?_
  refine g_iconst X0 B (0) d2_2 3 rfl rfl ?_
  refine g_aloadN X0 B d2_3 4 rfl rfl rfl ?_
  refine g_arrlen X0 B (Int32.ofNat cs.length) d2_4 5 rfl e0 AS (by rw [List.length_map]) ?_
  refine g_aconstNull X0 B d2_5 6 rfl ?_
  refine g_callN X0 B [.ref aS, .int (0 : Int32), .int (Int32.ofNat cs.length), .null] [] d2_6 9 rfl rfl rfl (hw _ (List.mem_of_getElem? (i := 12) rfl)) (hw _ (List.mem_of_getElem? (i := 13) rfl)) (hw _ (List.mem_of_getElem? (i := 15) rfl)) (hw _ (List.mem_of_getElem? (i := 8) rfl)) (by decide) (lenOf pd_3 rfl) (rS_i4 l Z ag hw a aS cs cx h0 n0 Z0 hn hp hcl ga Ea FV FC AS SC hcx) e0 rfl 0 (Nat.le_of_eq rfl) (by decide) (by decide) (by decide) (by decide) (fun v1 T1 h1 L1 X1 e1 q1 => ?_)
  obtain ⟨b, vs, rfl, N1, K1, f1, f2, f3, f4, f5, f6⟩ := q1
  show Go p e below _ (T1.setTop (mkF m 9 #[.val (.ref a), .val (.ref aS)] []))
  exact g_retV X1 B d2_9 rfl (by decide) (by decide) e1 ⟨b, vs, rfl, ((Fr.nil n0).app N1), K1, f1, f2, f3, f4, f5, f6⟩
set_option maxRecDepth 65536 in
set_option maxHeartbeats 40000000 in
theorem rS_cod (l : Launch) (Z : State) (ag : Array Value) (hw : ∀ d ∈ tables_1, d.before ag Z = true) (a : Addr) (cx : Int32) (h0 : Heap) (n0 : Nat) (FC : Fld Z h0 a "java/lang/String" "coder" "B" (.int 0)) (SC : Sta Z h0 "java/lang/String" "COMPACT_STRINGS" "Z" (.int cx)) (hcx : ¬ cx = 0) :
    Ctr l Z (⟨"java/lang/String", "coder", "()B"⟩ : MethodName) jdk_42_method_152_code 1 (some .byte) ({ frames := 0, cells := 0, slots := 0, locals := 0 } : Room) #[.ref a] h0 (fun v h L => v = some (.int 0) ∧ Fr n0 L ∧ h0 = h) := by
  refine Ctr.of pn_7 ?_
  intro p e s m below meth c T0 X0 B e0
  refine Go.cast (f' := mkF m 0 #[.val (.ref a)] []) (by first | rfl | (simp [entryFrame, mkF, argsToLocals, Value.category, maxLocals]; done)) ?_

  refine g_getS X0 B d7_0 3 rfl (hw _ (List.mem_of_getElem? (i := 41) rfl)) Via.refl e0 SC (fun T1 X1 e1 => ?_)
  refine g_if_eq X1 B d7_3 13 6 rfl (by decide) rfl (fun z => own_abs' (hcx) z) (fun _ => ?_)
  refine g_aloadN X1 B d7_6 7 rfl rfl rfl ?_
  refine g_getF X1 B d7_7 10 rfl (hw _ (List.mem_of_getElem? (i := 26) rfl)) Via.refl e1 FC (fun T2 X2 e2 => ?_)
  refine g_goto X2 B d7_10 14 rfl (by decide) ?_
  exact g_retN X2 B d7_14 rfl rfl (by decide) (by decide) (by decide) e2 ⟨rfl, (Fr.nil n0), rfl⟩
set_option maxRecDepth 65536 in
set_option maxHeartbeats 40000000 in
theorem rS_lat (l : Launch) (Z : State) (ag : Array Value) (hw : ∀ d ∈ tables_1, d.before ag Z = true) (a : Addr) (cx : Int32) (h0 : Heap) (n0 : Nat) (FC : Fld Z h0 a "java/lang/String" "coder" "B" (.int 0)) (SC : Sta Z h0 "java/lang/String" "COMPACT_STRINGS" "Z" (.int cx)) (hcx : ¬ cx = 0) :
    Ctr l Z (⟨"java/lang/String", "isLatin1", "()Z"⟩ : MethodName) jdk_42_method_154_code 1 (some .boolean) ({ frames := 0, cells := 0, slots := 0, locals := 0 } : Room) #[.ref a] h0 (fun v h L => v = some (.int 1) ∧ Fr n0 L ∧ h0 = h) := by
  refine Ctr.of pn_16 ?_
  intro p e s m below meth c T0 X0 B e0
  refine Go.cast (f' := mkF m 0 #[.val (.ref a)] []) (by first | rfl | (simp [entryFrame, mkF, argsToLocals, Value.category, maxLocals]; done)) ?_

  refine g_getS X0 B d16_0 3 rfl (hw _ (List.mem_of_getElem? (i := 41) rfl)) Via.refl e0 SC (fun T1 X1 e1 => ?_)
  refine g_if_eq X1 B d16_3 17 6 rfl (by decide) rfl (fun z => own_abs' (hcx) z) (fun _ => ?_)
  refine g_aloadN X1 B d16_6 7 rfl rfl rfl ?_
  refine g_getF X1 B d16_7 10 rfl (hw _ (List.mem_of_getElem? (i := 26) rfl)) Via.refl e1 FC (fun T2 X2 e2 => ?_)
  refine g_if_ne X2 B d16_10 17 13 rfl (by decide) rfl (fun z => own_abs (rfl) z) (fun _ => ?_)
  refine g_iconst X2 B (1) d16_13 14 rfl rfl ?_
  refine g_goto X2 B d16_14 18 rfl (by decide) ?_
  exact g_retN X2 B d16_18 rfl rfl (by decide) (by decide) (by decide) e2 ⟨rfl, (Fr.nil n0), rfl⟩
set_option maxRecDepth 65536 in
set_option maxHeartbeats 40000000 in
theorem rS_len (l : Launch) (Z : State) (ag : Array Value) (hw : ∀ d ∈ tables_1, d.before ag Z = true) (a b : Addr) (cx : Int32) (vs : List Value) (cs : List Int32) (h0 : Heap) (n0 : Nat) (Ea : Exa Z h0 a "java/lang/String") (FV : Fld Z h0 a "java/lang/String" "value" "[B" (.ref b)) (FC : Fld Z h0 a "java/lang/String" "coder" "B" (.int 0)) (Ab : Av Z h0 b .byte vs) (hn : cs.length ≤ 4) (hLv : own_L vs cs) (SC : Sta Z h0 "java/lang/String" "COMPACT_STRINGS" "Z" (.int cx)) (hcx : ¬ cx = 0) :
    Ctr l Z (⟨"java/lang/String", "length", "()I"⟩ : MethodName) jdk_42_method_54_code 1 (some .int) ({ frames := 1, cells := 0, slots := 0, locals := 13 } : Room) #[.ref a] h0 (fun v h L => v = some (.int (Int32.ofNat cs.length)) ∧ Fr n0 L ∧ h0 = h) := by
  refine Ctr.of pn_6 ?_
  intro p e s m below meth c T0 X0 B e0
  refine Go.cast (f' := mkF m 0 #[.val (.ref a)] []) (by first | rfl | (simp [entryFrame, mkF, argsToLocals, Value.category, maxLocals]; done)) ?_

  refine g_aloadN X0 B d6_0 1 rfl rfl rfl ?_
  refine g_getF X0 B d6_1 4 rfl (hw _ (List.mem_of_getElem? (i := 25) rfl)) Via.refl e0 FV (fun T1 X1 e1 => ?_)
  refine g_arrlen X1 B (Int32.ofNat cs.length) d6_4 5 rfl e1 Ab (by rw [hLv.1]) ?_
  refine g_aloadN X1 B d6_5 6 rfl rfl rfl ?_
  refine g_callV X1 B [] [.int (Int32.ofNat cs.length)] d6_6 9 rfl rfl (hw _ (List.mem_of_getElem? (i := 36) rfl)) (hw _ (List.mem_of_getElem? (i := 37) rfl)) (hw _ (List.mem_of_getElem? (i := 39) rfl)) (hw _ (List.mem_of_getElem? (i := 38) rfl)) (hw _ (List.mem_of_getElem? (i := 8) rfl)) (hw _ (List.mem_of_getElem? (i := 40) rfl)) (by decide) (lenOf pd_7 rfl) Ea (rS_cod l Z ag hw a cx h0 n0 FC SC hcx) e1 rfl 1 (Nat.le_of_eq rfl) (by decide) (by decide) (by decide) (by decide) (fun v2 T2 h2 L2 X2 e2 q2 => ?_)
  obtain ⟨rfl, N2, rfl⟩ := q2
  show Go p e below _ (T2.setTop (mkF m 9 #[.val (.ref a)] [.int (0 : Int32), .int (Int32.ofNat cs.length)]))
  refine g_ishr X2 B d6_9 10 rfl ?_
  exact g_retI X2 B d6_10 rfl (by decide) (by decide) e2 ⟨by rw [own_shr0], ((Fr.nil n0).app N2), rfl⟩
set_option maxRecDepth 65536 in
set_option maxHeartbeats 40000000 in
theorem rL_pci (l : Launch) (Z : State) (ag : Array Value) (hw : ∀ d ∈ tables_1, d.before ag Z = true) (i z : Int32) (g : Value) (hg : g.isRef = true) (h0 : Heap) (n0 : Nat) (f1 : ¬ i < 0) (f2 : i < z) :
    Ctr l Z (⟨"jdk/internal/util/Preconditions", "checkIndex", "(IILjava/util/function/BiFunction;)I"⟩ : MethodName) jdk_41_method_11_code 3 (some .int) ({ frames := 0, cells := 0, slots := 0, locals := 0 } : Room) #[.int i, .int z, g] h0 (fun v h L => v = some (.int i) ∧ Fr n0 L ∧ h0 = h) := by
  refine Ctr.of pn_19 ?_
  intro p e s m below meth c T0 X0 B e0
  refine Go.cast (f' := mkF m 0 #[.val (.int i), .val (.int z), .val (g)] []) (by first | (rcases XT.refc hg with rfl | ⟨_, rfl⟩ <;> rfl) | (simp [entryFrame, mkF, argsToLocals, Value.category, maxLocals]; done)) ?_

  refine g_iloadN X0 B d19_0 1 rfl rfl ?_
  refine g_if_lt X0 B d19_1 9 4 rfl (by decide) rfl (fun z => own_abs' (f1) z) (fun _ => ?_)
  refine g_iloadN X0 B d19_4 5 rfl rfl ?_
  refine g_iloadN X0 B d19_5 6 rfl rfl ?_
  refine g_icmp_lt X0 B d19_6 16 9 rfl (by decide) rfl (fun _ => ?_) (fun z => own_abs (f2) z)
  refine g_iloadN X0 B d19_16 17 rfl rfl ?_
  exact g_retI X0 B d19_17 rfl (by decide) (by decide) e0 ⟨rfl, (Fr.nil n0), rfl⟩
set_option maxRecDepth 65536 in
set_option maxHeartbeats 40000000 in
theorem rL_sci (l : Launch) (Z : State) (ag : Array Value) (hw : ∀ d ∈ tables_1, d.before ag Z = true) (i z : Int32) (g : Value) (h0 : Heap) (n0 : Nat) (f1 : ¬ i < 0) (f2 : i < z) (SF : Sta Z h0 "jdk/internal/util/Preconditions" "SIOOBE_FORMATTER" "Ljava/util/function/BiFunction;" g) (hg : g.isRef = true) :
    Ctr l Z (⟨"java/lang/String", "checkIndex", "(II)V"⟩ : MethodName) jdk_42_method_155_code 2 none ({ frames := 1, cells := 0, slots := 0, locals := 14 } : Room) #[.int i, .int z] h0 (fun v h L => v = none ∧ Fr n0 L ∧ h0 = h) := by
  refine Ctr.of pn_18 ?_
  intro p e s m below meth c T0 X0 B e0
  refine Go.cast (f' := mkF m 0 #[.val (.int i), .val (.int z)] []) (by first | rfl | (simp [entryFrame, mkF, argsToLocals, Value.category, maxLocals]; done)) ?_

  refine g_iloadN X0 B d18_0 1 rfl rfl ?_
  refine g_iloadN X0 B d18_1 2 rfl rfl ?_
  refine g_getS X0 B d18_2 5 rfl (hw _ (List.mem_of_getElem? (i := 51) rfl)) Via.refl e0 SF (fun T1 X1 e1 => ?_)
  refine g_callS X1 B [.int i, .int z, g] [] d18_5 8 rfl rfl (hw _ (List.mem_of_getElem? (i := 87) rfl)) (hw _ (List.mem_of_getElem? (i := 88) rfl)) (hw _ (List.mem_of_getElem? (i := 52) rfl)) (hw _ (List.mem_of_getElem? (i := 89) rfl)) (by decide) (lenOf pd_19 rfl) (rL_pci l Z ag hw i z g hg h0 n0 f1 f2) e1 rfl 0 (Nat.le_of_eq rfl) (by decide) (by decide) (by decide) (by decide) (fun v2 T2 h2 L2 X2 e2 q2 => ?_)
  obtain ⟨rfl, N2, rfl⟩ := q2
  show Go p e below _ (T2.setTop (mkF m 8 #[.val (.int i), .val (.int z)] [.int i]))
  refine g_pop X2 B d18_8 9 rfl rfl ?_
  exact g_retV X2 B d18_9 rfl (by decide) (by decide) e2 ⟨rfl, ((Fr.nil n0).app N2), rfl⟩
set_option maxRecDepth 65536 in
set_option maxHeartbeats 40000000 in
theorem rL_lca (l : Launch) (Z : State) (ag : Array Value) (hw : ∀ d ∈ tables_1, d.before ag Z = true) (b : Addr) (i : Nat) (c0 : Int32) (vs : List Value) (cs : List Int32) (g : Value) (h0 : Heap) (n0 : Nat) (Ab : Av Z h0 b .byte vs) (hn : cs.length ≤ 4) (hLv : own_L vs cs) (hi : i < cs.length) (hc : cs[i]? = some c0) (hch : own_ch c0) (SF : Sta Z h0 "jdk/internal/util/Preconditions" "SIOOBE_FORMATTER" "Ljava/util/function/BiFunction;" g) (hg : g.isRef = true) :
    Ctr l Z (⟨"java/lang/StringLatin1", "charAt", "([BI)C"⟩ : MethodName) jdk_43_method_2_code 2 (some .char) ({ frames := 2, cells := 0, slots := 0, locals := 27 } : Room) #[.ref b, .int (Int32.ofNat i)] h0 (fun v h L => v = some (.int c0) ∧ Fr n0 L ∧ h0 = h) := by
  refine Ctr.of pn_17 ?_
  intro p e s m below meth c T0 X0 B e0
  refine Go.cast (f' := mkF m 0 #[.val (.ref b), .val (.int (Int32.ofNat i))] []) (by first | rfl | (simp [entryFrame, mkF, argsToLocals, Value.category, maxLocals]; done)) ?_

  refine g_iloadN X0 B d17_0 1 rfl rfl ?_
  refine g_aloadN X0 B d17_1 2 rfl rfl rfl ?_
  refine g_arrlen X0 B (Int32.ofNat cs.length) d17_2 3 rfl e0 Ab (by rw [hLv.1]) ?_
  refine g_callS X0 B [.int (Int32.ofNat i), .int (Int32.ofNat cs.length)] [] d17_3 6 rfl rfl (hw _ (List.mem_of_getElem? (i := 84) rfl)) (hw _ (List.mem_of_getElem? (i := 85) rfl)) (hw _ (List.mem_of_getElem? (i := 8) rfl)) (hw _ (List.mem_of_getElem? (i := 86) rfl)) (by decide) (lenOf pd_18 rfl) (rL_sci l Z ag hw (Int32.ofNat i) (Int32.ofNat cs.length) g h0 n0 (own_nn (by omega)) ((own_lt (by omega) (by omega)).mpr hi) SF hg) e0 rfl 0 (Nat.le_of_eq rfl) (by decide) (by decide) (by decide) (by decide) (fun v1 T1 h1 L1 X1 e1 q1 => ?_)
  obtain ⟨rfl, N1, rfl⟩ := q1
  show Go p e below _ (T1.setTop (mkF m 6 #[.val (.ref b), .val (.int (Int32.ofNat i))] []))
  refine g_aloadN X1 B d17_6 7 rfl rfl rfl ?_
  refine g_iloadN X1 B d17_7 8 rfl rfl ?_
  refine g_baloadB X1 B i d17_8 9 rfl e1 Ab (own_tn (by omega)) (own_nn (by omega)) (hLv.2 i c0 hi hc).1 ?_
  refine g_sipush X1 B (255) d17_9 12 rfl rfl ?_
  refine g_iand X1 B d17_12 13 rfl ?_
  refine g_i2c X1 B d17_13 14 rfl ?_
  rw [own_getL hch (hLv.2 i c0 hi hc).2]
  exact g_retN X1 B d17_14 rfl (by have q := own_nc hch; simpa [narrow, nar] using q) (by decide) (by decide) (by decide) e1 ⟨rfl, ((Fr.nil n0).app N1), rfl⟩
set_option maxRecDepth 65536 in
set_option maxHeartbeats 40000000 in
theorem rL_cat (l : Launch) (Z : State) (ag : Array Value) (hw : ∀ d ∈ tables_1, d.before ag Z = true) (a b : Addr) (cx : Int32) (i : Nat) (c0 : Int32) (vs : List Value) (cs : List Int32) (g : Value) (h0 : Heap) (n0 : Nat) (Ea : Exa Z h0 a "java/lang/String") (FV : Fld Z h0 a "java/lang/String" "value" "[B" (.ref b)) (FC : Fld Z h0 a "java/lang/String" "coder" "B" (.int 0)) (Ab : Av Z h0 b .byte vs) (hn : cs.length ≤ 4) (hLv : own_L vs cs) (SC : Sta Z h0 "java/lang/String" "COMPACT_STRINGS" "Z" (.int cx)) (hcx : ¬ cx = 0) (hi : i < cs.length) (hc : cs[i]? = some c0) (hch : own_ch c0) (SF : Sta Z h0 "jdk/internal/util/Preconditions" "SIOOBE_FORMATTER" "Ljava/util/function/BiFunction;" g) (hg : g.isRef = true) :
    Ctr l Z (⟨"java/lang/String", "charAt", "(I)C"⟩ : MethodName) jdk_42_method_56_code 2 (some .char) ({ frames := 3, cells := 0, slots := 0, locals := 40 } : Room) #[.ref a, .int (Int32.ofNat i)] h0 (fun v h L => v = some (.int c0) ∧ Fr n0 L ∧ h0 = h) := by
  refine Ctr.of pn_15 ?_
  intro p e s m below meth c T0 X0 B e0
  refine Go.cast (f' := mkF m 0 #[.val (.ref a), .val (.int (Int32.ofNat i))] []) (by first | rfl | (simp [entryFrame, mkF, argsToLocals, Value.category, maxLocals]; done)) ?_

  refine g_aloadN X0 B d15_0 1 rfl rfl rfl ?_
  refine g_callV X0 B [] [] d15_1 4 rfl rfl (hw _ (List.mem_of_getElem? (i := 75) rfl)) (hw _ (List.mem_of_getElem? (i := 76) rfl)) (hw _ (List.mem_of_getElem? (i := 78) rfl)) (hw _ (List.mem_of_getElem? (i := 77) rfl)) (hw _ (List.mem_of_getElem? (i := 8) rfl)) (hw _ (List.mem_of_getElem? (i := 79) rfl)) (by decide) (lenOf pd_16 rfl) Ea (rS_lat l Z ag hw a cx h0 n0 FC SC hcx) e0 rfl 0 (Nat.le_of_eq rfl) (by decide) (by decide) (by decide) (by decide) (fun v1 T1 h1 L1 X1 e1 q1 => ?_)
  obtain ⟨rfl, N1, rfl⟩ := q1
  show Go p e below _ (T1.setTop (mkF m 4 #[.val (.ref a), .val (.int (Int32.ofNat i))] [.int (1 : Int32)]))
  refine g_if_eq X1 B d15_4 16 7 rfl (by decide) rfl (fun z => own_abs' (by decide) z) (fun _ => ?_)
  refine g_aloadN X1 B d15_7 8 rfl rfl rfl ?_
  refine g_getF X1 B d15_8 11 rfl (hw _ (List.mem_of_getElem? (i := 25) rfl)) Via.refl e1 FV (fun T2 X2 e2 => ?_)
  refine g_iloadN X2 B d15_11 12 rfl rfl ?_
  refine g_callS X2 B [.ref b, .int (Int32.ofNat i)] [] d15_12 15 rfl rfl (hw _ (List.mem_of_getElem? (i := 80) rfl)) (hw _ (List.mem_of_getElem? (i := 81) rfl)) (hw _ (List.mem_of_getElem? (i := 82) rfl)) (hw _ (List.mem_of_getElem? (i := 83) rfl)) (by decide) (lenOf pd_17 rfl) (rL_lca l Z ag hw b i c0 vs cs g h0 n0 Ab hn hLv hi hc hch SF hg) e2 rfl 0 (Nat.le_of_eq rfl) (by decide) (by decide) (by decide) (by decide) (fun v3 T3 h3 L3 X3 e3 q3 => ?_)
  obtain ⟨rfl, N3, rfl⟩ := q3
  show Go p e below _ (T3.setTop (mkF m 15 #[.val (.ref a), .val (.int (Int32.ofNat i))] [.int c0]))
  exact g_retN X3 B d15_15 rfl (by have q := own_nc hch; simpa [narrow, nar] using q) (by decide) (by decide) (by decide) e3 ⟨rfl, (((Fr.nil n0).app N1).app N3), rfl⟩
theorem own_wS {ag : Array Value} {Z : State} (hw : ∀ d ∈ tables_1, d.before ag Z = true) : ∀ a ∈ Bundle.stringAtoms, a.before ag Z = true := by
  intro a ha
  simp only [Bundle.stringAtoms, List.mem_cons, List.not_mem_nil, or_false] at ha
  rcases ha with rfl | rfl | rfl | rfl | rfl | rfl | rfl
  · exact (hw _ (List.mem_of_getElem? (i := 8) rfl))
  · exact (hw _ (List.mem_of_getElem? (i := 7) rfl))
  · exact (hw _ (List.mem_of_getElem? (i := 20) rfl))
  · exact (hw _ (List.mem_of_getElem? (i := 21) rfl))
  · exact (hw _ (List.mem_of_getElem? (i := 22) rfl))
  · exact (hw _ (List.mem_of_getElem? (i := 23) rfl))
  · exact (hw _ (List.mem_of_getElem? (i := 24) rfl))
set_option maxRecDepth 65536 in
set_option maxHeartbeats 40000000 in
theorem rW_i4 (l : Launch) (Z : State) (ag : Array Value) (hw : ∀ d ∈ tables_1, d.before ag Z = true) (a aS : Addr) (h0 : Heap) (n0 : Nat) (Z0 : n0 ≤ h0.size) (ga : n0 ≤ a) (Ea : Exa Z h0 a "java/lang/String") (FV : Fld Z h0 a "java/lang/String" "value" "[B" (.null)) (FC : Fld Z h0 a "java/lang/String" "coder" "B" (.int 0)) (OZ : ∀ (b : Addr) (cl : Cell), Z.heap[b]? = some cl → h0[b]? = some cl) (hH : Jvm.Lit.constHeld Z "java/lang/String" 7) (hcw : Jvm.Lit.compactW.before ag Z = true) :
    CtrW l Z (⟨"java/lang/String", "<init>", "([CIILjava/lang/Void;)V"⟩ : MethodName) jdk_42_method_149_code 6 none ({ frames := 1, cells := 2, slots := 4, locals := 12 } : Room) #[.ref a, .ref aS, .int (0 : Int32), .int (0 : Int32), .null] h0 [] (fun v h vm L => ∃ b, v = none ∧ Fr n0 L ∧ Keep h0 h [a] ∧ Fld Z h a "java/lang/String" "value" "[B" (.ref b) ∧ Fld Z h a "java/lang/String" "coder" "B" (.int 0) ∧ Av Z h b .byte [] ∧ IB Z vm [""]) := by
  refine CtrW.of pn_3 ?_
  intro p e s m below meth c T0 X0 B e0 hs0 hS I
  refine Go.cast (f' := mkF m 0 #[.val (.ref a), .val (.ref aS), .val (.int (0 : Int32)), .val (.int (0 : Int32)), .val (.null), .unset] []) (by first | rfl | (simp [entryFrame, mkF, argsToLocals, Value.category, maxLocals]; done)) ?_

  refine g_aloadN X0 B d3_0 1 rfl rfl rfl ?_
  obtain ⟨T1, X1, e1, st1⟩ := initO X0 B.x B.z B.o (hw _ (List.mem_of_getElem? (i := 16) rfl)) (hw _ (List.mem_of_getElem? (i := 17) rfl)) (hw _ (List.mem_of_getElem? (i := 18) rfl)) e0 (g := mkF m 1 #[.val (.ref a), .val (.ref aS), .val (.int (0 : Int32)), .val (.int (0 : Int32)), .val (.null), .unset] [.ref a]) rfl (B.mx rfl) rfl (B.d d3_1) (by decide) (W := 0) (by show 2 * 0 + _ ≤ _; exact Nat.le_of_eq rfl) (by decide)
  refine Go.via st1 ?_
  show Go p e below _ (T1.setTop (mkF m 4 #[.val (.ref a), .val (.ref aS), .val (.int (0 : Int32)), .val (.int (0 : Int32)), .val (.null), .unset] []))
  refine g_iloadN X1 B d3_4 5 rfl rfl ?_
  refine g_if_ne X1 B d3_5 27 8 rfl (by decide) rfl (fun z => own_abs (rfl) z) (fun _ => ?_)
  refine g_aloadN X1 B d3_8 9 rfl rfl rfl ?_
  refine g_ldcS X1 B "" [] 0 0 d3_9 11 rfl (hw _ (List.mem_of_getElem? (i := 19) rfl)) (own_wS hw) e1 hS (Nat.zero_le _) (Fr.nil _) (by rw [hs0]; exact OZ) I (by simp) hH hcw (by decide) (by decide) (by decide) (by decide) (by decide) (by decide) (by decide) (fun ls T2 h2 lb X2 B e2 E2 hS I Li2 Ex2 C2 V2 Ab2 => ?_)
  have kk2 : h2.size ≤ h2.size := Nat.le_refl _
  have t1 := (Fld.ext E2 FV)
  have t2 : a ≠ ls := Fld.ne t1 V2 (by simp)
  refine g_getF X2 B d3_11 14 rfl (hw _ (List.mem_of_getElem? (i := 25) rfl)) Via.refl e2 V2 (fun T3 X3 e3 => ?_)
  have t3 := (Exa.ext E2 Ea)
  refine g_putF X3 B d3_14 17 rfl (hw _ (List.mem_of_getElem? (i := 25) rfl)) Via.refl e3 t1 t3 (Or.inr ⟨(hw _ (List.mem_of_getElem? (i := 21) rfl)), rfl, rfl⟩) (hw _ (List.mem_of_getElem? (i := 7) rfl)) (ty := (.array .byte)) (by decide) rfl rfl (fun T4 h4 X4 e4 W4 => ?_)
  have F4 := t1.same W4
  refine g_aloadN X4 B d3_17 18 rfl rfl rfl ?_
  refine g_ldcAgain X4 B d3_18 20 rfl (hw _ (List.mem_of_getElem? (i := 19) rfl)) Li2 ?_
  have t4 := (Fld.other W4 C2 (Or.inl (Ne.symm t2)))
  refine g_getF X4 B d3_20 23 rfl (hw _ (List.mem_of_getElem? (i := 26) rfl)) Via.refl e4 t4 (fun T5 X5 e5 => ?_)
  have t5 := (Fld.other W4 (Fld.ext E2 FC) (Or.inr (slot_ne (Or.inr (hw _ (List.mem_of_getElem? (i := 22) rfl))) (Or.inr (hw _ (List.mem_of_getElem? (i := 21) rfl))) (by decide) (t := .byte) (by decide) (t' := (.array .byte)) (by decide))))
  have t6 := (Exa.wr W4 t3)
  refine g_putF X5 B d3_23 26 rfl (hw _ (List.mem_of_getElem? (i := 26) rfl)) Via.refl e5 t5 t6 (Or.inr ⟨(hw _ (List.mem_of_getElem? (i := 22) rfl)), rfl, rfl⟩) (hw _ (List.mem_of_getElem? (i := 7) rfl)) (ty := .byte) (by decide) rfl rfl (fun T6 h6 X6 e6 W6 => ?_)
  have F6 := t5.same W6
  have t7 := (Keep.wr (Keep.wr (Keep.ext (Keep.refl h0 [a]) E2) W4 (Or.inl (List.mem_of_getElem? (i := 0) rfl))) W6 (Or.inl (List.mem_of_getElem? (i := 0) rfl)))
  have t8 := (Fld.other W6 F4 (Or.inr (slot_ne (Or.inr (hw _ (List.mem_of_getElem? (i := 21) rfl))) (Or.inr (hw _ (List.mem_of_getElem? (i := 22) rfl))) (by decide) (t := (.array .byte)) (by decide) (t' := .byte) (by decide))))
  have t9 : a ≠ lb := own_neAv t3 (hw _ (List.mem_of_getElem? (i := 7) rfl)) Ab2
  have t10 := (Av.other (Av.other Ab2 W4 (Ne.symm t9)) W6 (Ne.symm t9))
  have t11 := (Nat.le_trans (Nat.le_trans kk2 (Nat.le_of_eq W4.size.symm)) (Nat.le_of_eq W6.size.symm))
  exact g_retVW X6 B d3_26 rfl (by decide) (by decide) e6 hS t11 (fun vm hvm => ⟨lb, rfl, (Fr.snoc X6 (Fr.snoc X4 (Fr.nil n0) ga) ga), t7, t8, F6, t10, own_IBeq I hvm⟩)
set_option maxRecDepth 65536 in
set_option maxHeartbeats 40000000 in
theorem rW_i1 (l : Launch) (Z : State) (ag : Array Value) (hw : ∀ d ∈ tables_1, d.before ag Z = true) (a aS : Addr) (h0 : Heap) (n0 : Nat) (Z0 : n0 ≤ h0.size) (ga : n0 ≤ a) (Ea : Exa Z h0 a "java/lang/String") (FV : Fld Z h0 a "java/lang/String" "value" "[B" (.null)) (FC : Fld Z h0 a "java/lang/String" "coder" "B" (.int 0)) (OZ : ∀ (b : Addr) (cl : Cell), Z.heap[b]? = some cl → h0[b]? = some cl) (hH : Jvm.Lit.constHeld Z "java/lang/String" 7) (hcw : Jvm.Lit.compactW.before ag Z = true) (AS : Av Z h0 aS .char []) :
    CtrW l Z (⟨"java/lang/String", "<init>", "([C)V"⟩ : MethodName) jdk_42_method_3_code 2 none ({ frames := 2, cells := 2, slots := 4, locals := 29 } : Room) #[.ref a, .ref aS] h0 [] (fun v h vm L => ∃ b, v = none ∧ Fr n0 L ∧ Keep h0 h [a] ∧ Fld Z h a "java/lang/String" "value" "[B" (.ref b) ∧ Fld Z h a "java/lang/String" "coder" "B" (.int 0) ∧ Av Z h b .byte [] ∧ IB Z vm [""]) := by
  refine CtrW.of pn_2 ?_
  intro p e s m below meth c T0 X0 B e0 hs0 hS I
  refine Go.cast (f' := mkF m 0 #[.val (.ref a), .val (.ref aS)] []) (by first | rfl | (simp [entryFrame, mkF, argsToLocals, Value.category, maxLocals]; done)) ?_

  refine g_aloadN X0 B d2_0 1 rfl rfl rfl ?_
  refine g_aloadN X0 B d2_1 2 rfl rfl rfl ?_
  refine g_iconst X0 B (0) d2_2 3 rfl rfl ?_
  refine g_aloadN X0 B d2_3 4 rfl rfl rfl ?_
  refine g_arrlen X0 B 0 d2_4 5 rfl e0 AS rfl ?_
  refine g_aconstNull X0 B d2_5 6 rfl ?_
  refine g_callNW X0 B hS (Nat.zero_le _) I [.ref aS, .int (0 : Int32), .int (0 : Int32), .null] [] d2_6 9 rfl rfl rfl (hw _ (List.mem_of_getElem? (i := 12) rfl)) (hw _ (List.mem_of_getElem? (i := 13) rfl)) (hw _ (List.mem_of_getElem? (i := 15) rfl)) (hw _ (List.mem_of_getElem? (i := 8) rfl)) (by decide) (lenOf pd_3 rfl) (rW_i4 l Z ag hw a aS h0 n0 Z0 ga Ea FV FC OZ hH hcw) e0 rfl 0 (Nat.le_of_eq rfl) (by decide) (by decide) (by decide) (by decide) (fun v1 T1 h1 L1 X1 B e1 hS q1 => ?_)
  obtain ⟨lb, rfl, N1, K1, f1, f2, f3, I⟩ := q1
  show Go p e below _ (T1.setTop (mkF m 9 #[.val (.ref a), .val (.ref aS)] []))
  have kk1 : h1.size ≤ h1.size := Nat.le_refl _
  exact g_retVW X1 B d2_9 rfl (by decide) (by decide) e1 hS kk1 (fun vm hvm => ⟨lb, rfl, ((Fr.nil n0).app N1), K1, f1, f2, f3, own_IBeq I hvm⟩)
section OwnCpy
variable {p : Program} {l : Launch} {e : Env} {R : Room} {s : State} {m : MethodId} {args : Array Value} {below : List Frame} {meth : Method} {c : Code} {T : State} {locs : List Loc} {cells slots : Nat} {Z : State} {a0 : Array Value} {h : Heap} {P : State → Outcome → Prop} {pc : Nat} {Ls : Array Slot} {own nm : String} {bytes : ByteArray} {maxL : Nat} {ret : Option FieldType}
theorem g_cpyB (X : Stand p l e R s m args below meth c T locs cells slots) (B : Bo Z p s m meth c own nm bytes maxL ret) {index : Nat} {a b : Addr} {vs vd : List Value} (j : Nat) (rest : List Value) (q : decode bytes pc = .ok (.invokestatic index, 3)) (pc' : Nat) (hp : pc + 3 = pc')
    (w1 : (Cond.methodLink own index Jvm.Stand.acN).before a0 Z = true) (w2 : (Cond.native Jvm.Stand.acN).before a0 Z = true) (w3 : (Cond.static Jvm.Stand.acN).before a0 Z = true) (w4 : (Cond.initialized "java/lang/System").before a0 Z = true) (eT : T.heap = h) (A : Av Z h a .byte vs) (D : Av Z h b .byte vd) (hf : ∀ v ∈ vs, fits .byte v = true) (hfd : ∀ v ∈ vd, fits .byte v = true) (hvl : vs.length < 2147483648) (hj : j ≤ vs.length) (hd : vd.length = j) {n0 : Nat} (N : Fr n0 locs) (ge : n0 ≤ b) (hm : Ls.size = maxL) (hfr : 1 ≤ R.frames) (W : Nat) (hW : (rest.map fun v => v.category).sum ≤ W) (hlo : W + (nativeFrameWords "java/lang/System" "arraycopy" 5 + 11) ≤ R.locals)
    (k : ∀ T' h' L, Stand p l e R s m args below meth c T' L cells slots → T'.heap = h' → Fr n0 L → Keep h h' [b] → Av Z h' b .byte ((List.range j).map fun i => vs.getD (0 + i) (.int 0)) → Go p e below P (T'.setTop (mkF m pc' Ls rest))) :
    Go p e below P (T.setTop (mkF m pc Ls (.int (Int32.ofNat j) :: .int 0 :: .ref b :: .int 0 :: .ref a :: rest))) := by
  subst hp
  obtain ⟨k1, A1⟩ := own_AvArv (d := .int 0) A hf hvl
  obtain ⟨k2, D1⟩ := own_AvArv (d := .int 0) D hfd (by omega)
  have tj : (Int32.ofNat j).toNatClampNeg = j := own_tn (by omega)
  have tv : (Int32.ofNat vs.length).toNatClampNeg = vs.length := own_tn hvl
  have td : (Int32.ofNat vd.length).toNatClampNeg = vd.length := own_tn (by omega)
  have t0 : (0 : Int32).toNatClampNeg = 0 := by decide
  obtain ⟨T', h', L, X', eT', N', K, A', st⟩ := cpA X B.x B.z B.o w1 w2 w3 w4 eT A1 D1 (Or.inl ⟨rfl, rfl⟩) (sp := 0) (dp := 0) (nn := Int32.ofNat j) (by decide) (by decide) (own_nn (by omega)) (by rw [tj, tv, t0]; omega) (by rw [tj, td, t0]; omega) rfl (by rw [tj, t0]; omega) N ge (g := mkF m pc Ls (.int (Int32.ofNat j) :: .int 0 :: .ref b :: .int 0 :: .ref a :: rest)) rfl (B.mx hm) rfl (B.d q) hfr (W := W) (by show 2 * 0 + _ ≤ _; omega) hlo
  rw [t0, tj] at A'
  have A2 : Arv Z h' b k2 .byte (Int32.ofNat vd.length) ((List.range j).map fun i => vs.getD (0 + i) (.int 0)) (.int 0) := by
    have z : vd.take 0 ++ ((List.range j).map fun i => vs.getD (0 + i) (.int 0)) ++ vd.drop (0 + j) = ((List.range j).map fun i => vs.getD (0 + i) (.int 0)) := by
      rw [List.take_zero, List.nil_append, List.drop_eq_nil_of_le (by omega), List.append_nil]
    rw [z] at A'
    exact A'
  exact (k T' h' L X' eT' N' K (own_Arv_Av A2 (by rw [td]; simp; omega))).via st
end OwnCpy
theorem own_sub0 (x : Int32) : x - 0 = x := by
  apply Int32.toInt_inj.mp
  have h := c_isub x 0
  have h9 := rng32 (x - 0)
  have k : (0 : Int32).toInt = 0 := by decide
  have b1 := Int32.le_toInt x
  have b2 := Int32.toInt_lt x
  omega
theorem own_add0 (x : Int32) : 0 + x = x := by
  apply Int32.toInt_inj.mp
  have h := c_iadd 0 x
  have h9 := rng32 (0 + x)
  have k : (0 : Int32).toInt = 0 := by decide
  have b1 := Int32.le_toInt x
  have b2 := Int32.toInt_lt x
  omega
theorem own_sm1 {i : Nat} (h : i < 2147483648) (hp : 0 < i) : Int32.ofNat i - 1 = Int32.ofNat (i - 1) := by
  apply Int32.toInt_inj.mp
  have h1 := c_isub (Int32.ofNat i) 1
  have h9 := rng32 (Int32.ofNat i - 1)
  have k : (1 : Int32).toInt = 1 := by decide
  rw [own_ti h] at h1
  rw [own_ti (by omega)]
  omega
theorem own_am1 {i : Nat} (h : i < 2147483648) (hp : 0 < i) : Int32.ofNat i + (-1) = Int32.ofNat (i - 1) := by
  apply Int32.toInt_inj.mp
  have h1 := c_iadd (Int32.ofNat i) (-1)
  have h9 := rng32 (Int32.ofNat i + (-1))
  have k : (-1 : Int32).toInt = -1 := by decide
  rw [own_ti h] at h1
  rw [own_ti (by omega)]
  omega
theorem own_min_ {n m : Nat} (hn : n < 2147483648) (h : m ≤ n) : (if Int32.ofNat m < Int32.ofNat n then Int32.ofNat m else Int32.ofNat n) = Int32.ofNat m := by
  split
  · rfl
  · rename_i q
    rw [own_lt (by omega) hn] at q
    rw [show n = m by omega]
theorem own_gt0 {i : Nat} (h : i < 2147483648) : (0 : Int32) < Int32.ofNat i ↔ 0 < i := by
  rw [Int32.lt_iff_toInt_lt, own_ti h]
  have k : (0 : Int32).toInt = 0 := by decide
  omega
theorem own_repf (n : Nat) : ∀ v ∈ List.replicate n (Value.int 0), fits .byte v = true := by
  intro v hv
  rw [(List.mem_replicate.mp hv).2]; rfl
theorem own_takeat {cs : List Int32} {i k : Nat} (h : i < k) : (cs.take k)[i]? = cs[i]? := List.getElem?_take_of_lt h
theorem own_tlen {cs : List Int32} {k : Nat} (h : k ≤ cs.length) : (cs.take k).length = k := by simp; omega
theorem own_chmask (p : Int32) : own_ch ((p &&& (255 : Int32)).toUInt32.toUInt16.toUInt32.toInt32) ∧ ¬ (255 : Int32) < ((p &&& (255 : Int32)).toUInt32.toUInt16.toUInt32.toInt32) := by
  refine ⟨own_chc _, ?_⟩
  have h1 := c_mask p 255 8 (by decide) (by decide)
  have h2 := c_i2c (p &&& 255)
  rw [Int32.lt_iff_toInt_lt]
  have k : (255 : Int32).toInt = 255 := by decide
  omega
def own_Of (cs : List Int32) (k : Nat) : Prop := k ≤ cs.length ∧ (k = 0 ∨ ∃ c, cs[k - 1]? = some c ∧ ¬ c = 47) ∧ ∀ j c, k ≤ j → cs[j]? = some c → c = 47

theorem d1_0 : decode method_2_code 0 = .ok (.iload_n 0, 1) := by decide +kernel
theorem d1_1 : decode method_2_code 1 = .ok (.sipush 256, 3) := by decide +kernel
theorem d1_4 : decode method_2_code 4 = .ok (.iand, 1) := by decide +kernel
theorem d1_5 : decode method_2_code 5 = .ok (.ifCond .eq 8, 3) := by decide +kernel
theorem d1_8 : decode method_2_code 8 = .ok (.bipush 47, 2) := by decide +kernel
theorem d1_10 : decode method_2_code 10 = .ok (.goto 9, 3) := by decide +kernel
theorem d1_13 : decode method_2_code 13 = .ok (.iload_n 0, 1) := by decide +kernel
theorem d1_14 : decode method_2_code 14 = .ok (.sipush 255, 3) := by decide +kernel
theorem d1_17 : decode method_2_code 17 = .ok (.iand, 1) := by decide +kernel
theorem d1_18 : decode method_2_code 18 = .ok (.i2c, 1) := by decide +kernel
theorem d1_19 : decode method_2_code 19 = .ok (.ireturn, 1) := by decide +kernel
theorem pn_1 : plainFor (⟨"com/example/contractlint/contractlint/model/BasePathOfPinLaw", "ch", "(I)C"⟩ : MethodName) = true := by first | (apply plainFor_of_name; simp [plainName, overriddenIn]; done) | (apply plainFor_of_name; decide +kernel) | decide +kernel
theorem pd_1 : parseMethodDescriptor "(I)C" = some ⟨[.int], (some .char)⟩ := by decide +kernel
theorem d5_0 : decode prog_22_method_2_code 0 = .ok (.aload_n 0, 1) := by decide +kernel
theorem d5_1 : decode prog_22_method_2_code 1 = .ok (.invokevirtual 7, 3) := by decide +kernel
theorem d5_4 : decode prog_22_method_2_code 4 = .ok (.istore_n 1, 1) := by decide +kernel
theorem d5_5 : decode prog_22_method_2_code 5 = .ok (.iload_n 1, 1) := by decide +kernel
theorem d5_6 : decode prog_22_method_2_code 6 = .ok (.ifCond .le 21, 3) := by decide +kernel
theorem d5_9 : decode prog_22_method_2_code 9 = .ok (.aload_n 0, 1) := by decide +kernel
theorem d5_10 : decode prog_22_method_2_code 10 = .ok (.iload_n 1, 1) := by decide +kernel
theorem d5_11 : decode prog_22_method_2_code 11 = .ok (.iconst 1, 1) := by decide +kernel
theorem d5_12 : decode prog_22_method_2_code 12 = .ok (.isub, 1) := by decide +kernel
theorem d5_13 : decode prog_22_method_2_code 13 = .ok (.invokevirtual 13, 3) := by decide +kernel
theorem d5_16 : decode prog_22_method_2_code 16 = .ok (.bipush 47, 2) := by decide +kernel
theorem d5_18 : decode prog_22_method_2_code 18 = .ok (.if_icmp .ne 9, 3) := by decide +kernel
theorem d5_21 : decode prog_22_method_2_code 21 = .ok (.iinc 1 (-1), 3) := by decide +kernel
theorem d5_24 : decode prog_22_method_2_code 24 = .ok (.goto (-19), 3) := by decide +kernel
theorem d5_27 : decode prog_22_method_2_code 27 = .ok (.aload_n 0, 1) := by decide +kernel
theorem d5_28 : decode prog_22_method_2_code 28 = .ok (.iconst 0, 1) := by decide +kernel
theorem d5_29 : decode prog_22_method_2_code 29 = .ok (.iload_n 1, 1) := by decide +kernel
theorem d5_30 : decode prog_22_method_2_code 30 = .ok (.invokevirtual 17, 3) := by decide +kernel
theorem d5_33 : decode prog_22_method_2_code 33 = .ok (.areturn, 1) := by decide +kernel
theorem pn_5 : plainFor (⟨"com/example/contractlint/contractlint/model/BasePath", "of", "(Ljava/lang/String;)Ljava/lang/String;"⟩ : MethodName) = true := by first | (apply plainFor_of_name; simp [plainName, overriddenIn]; done) | (apply plainFor_of_name; decide +kernel) | decide +kernel
theorem pd_5 : parseMethodDescriptor "(Ljava/lang/String;)Ljava/lang/String;" = some ⟨[(.object "java/lang/String")], (some (.object "java/lang/String"))⟩ := by decide +kernel
theorem d8_0 : decode jdk_42_method_92_code 0 = .ok (.aload_n 0, 1) := by decide +kernel
theorem d8_1 : decode jdk_42_method_92_code 1 = .ok (.invokevirtual 505, 3) := by decide +kernel
theorem d8_4 : decode jdk_42_method_92_code 4 = .ok (.istore_n 3, 1) := by decide +kernel
theorem d8_5 : decode jdk_42_method_92_code 5 = .ok (.iload_n 1, 1) := by decide +kernel
theorem d8_6 : decode jdk_42_method_92_code 6 = .ok (.iload_n 2, 1) := by decide +kernel
theorem d8_7 : decode jdk_42_method_92_code 7 = .ok (.iload_n 3, 1) := by decide +kernel
theorem d8_8 : decode jdk_42_method_92_code 8 = .ok (.invokestatic 521, 3) := by decide +kernel
theorem d8_11 : decode jdk_42_method_92_code 11 = .ok (.iload_n 1, 1) := by decide +kernel
theorem d8_12 : decode jdk_42_method_92_code 12 = .ok (.ifCond .ne 10, 3) := by decide +kernel
theorem d8_15 : decode jdk_42_method_92_code 15 = .ok (.iload_n 2, 1) := by decide +kernel
theorem d8_16 : decode jdk_42_method_92_code 16 = .ok (.iload_n 3, 1) := by decide +kernel
theorem d8_17 : decode jdk_42_method_92_code 17 = .ok (.if_icmp .ne 5, 3) := by decide +kernel
theorem d8_20 : decode jdk_42_method_92_code 20 = .ok (.aload_n 0, 1) := by decide +kernel
theorem d8_21 : decode jdk_42_method_92_code 21 = .ok (.areturn, 1) := by decide +kernel
theorem d8_22 : decode jdk_42_method_92_code 22 = .ok (.iload_n 2, 1) := by decide +kernel
theorem d8_23 : decode jdk_42_method_92_code 23 = .ok (.iload_n 1, 1) := by decide +kernel
theorem d8_24 : decode jdk_42_method_92_code 24 = .ok (.isub, 1) := by decide +kernel
theorem d8_25 : decode jdk_42_method_92_code 25 = .ok (.istore 4, 2) := by decide +kernel
theorem d8_27 : decode jdk_42_method_92_code 27 = .ok (.aload_n 0, 1) := by decide +kernel
theorem d8_28 : decode jdk_42_method_92_code 28 = .ok (.invokevirtual 492, 3) := by decide +kernel
theorem d8_31 : decode jdk_42_method_92_code 31 = .ok (.ifCond .eq 16, 3) := by decide +kernel
theorem d8_34 : decode jdk_42_method_92_code 34 = .ok (.aload_n 0, 1) := by decide +kernel
theorem d8_35 : decode jdk_42_method_92_code 35 = .ok (.getfield 9, 3) := by decide +kernel
theorem d8_38 : decode jdk_42_method_92_code 38 = .ok (.iload_n 1, 1) := by decide +kernel
theorem d8_39 : decode jdk_42_method_92_code 39 = .ok (.iload 4, 2) := by decide +kernel
theorem d8_41 : decode jdk_42_method_92_code 41 = .ok (.invokestatic 685, 3) := by decide +kernel
theorem d8_44 : decode jdk_42_method_92_code 44 = .ok (.goto 13, 3) := by decide +kernel
theorem d8_47 : decode jdk_42_method_92_code 47 = .ok (.aload_n 0, 1) := by decide +kernel
theorem d8_48 : decode jdk_42_method_92_code 48 = .ok (.getfield 9, 3) := by decide +kernel
theorem d8_51 : decode jdk_42_method_92_code 51 = .ok (.iload_n 1, 1) := by decide +kernel
theorem d8_52 : decode jdk_42_method_92_code 52 = .ok (.iload 4, 2) := by decide +kernel
theorem d8_54 : decode jdk_42_method_92_code 54 = .ok (.invokestatic 689, 3) := by decide +kernel
theorem d8_57 : decode jdk_42_method_92_code 57 = .ok (.areturn, 1) := by decide +kernel
theorem pn_8 : plainFor (⟨"java/lang/String", "substring", "(II)Ljava/lang/String;"⟩ : MethodName) = true := by first | (apply plainFor_of_name; simp [plainName, overriddenIn]; done) | (apply plainFor_of_name; decide +kernel) | decide +kernel
theorem pd_8 : parseMethodDescriptor "(II)Ljava/lang/String;" = some ⟨[.int, .int], (some (.object "java/lang/String"))⟩ := by decide +kernel
theorem d9_0 : decode jdk_42_method_158_code 0 = .ok (.iload_n 0, 1) := by decide +kernel
theorem d9_1 : decode jdk_42_method_158_code 1 = .ok (.iload_n 1, 1) := by decide +kernel
theorem d9_2 : decode jdk_42_method_158_code 2 = .ok (.iload_n 2, 1) := by decide +kernel
theorem d9_3 : decode jdk_42_method_158_code 3 = .ok (.getstatic 1053, 3) := by decide +kernel
theorem d9_6 : decode jdk_42_method_158_code 6 = .ok (.invokestatic 1062, 3) := by decide +kernel
theorem d9_9 : decode jdk_42_method_158_code 9 = .ok (.pop, 1) := by decide +kernel
theorem d9_10 : decode jdk_42_method_158_code 10 = .ok (.return_, 1) := by decide +kernel
theorem pn_9 : plainFor (⟨"java/lang/String", "checkBoundsBeginEnd", "(III)V"⟩ : MethodName) = true := by first | (apply plainFor_of_name; simp [plainName, overriddenIn]; done) | (apply plainFor_of_name; decide +kernel) | decide +kernel
theorem pd_9 : parseMethodDescriptor "(III)V" = some ⟨[.int, .int, .int], none⟩ := by decide +kernel
theorem d10_0 : decode jdk_41_method_12_code 0 = .ok (.iload_n 0, 1) := by decide +kernel
theorem d10_1 : decode jdk_41_method_12_code 1 = .ok (.ifCond .lt 13, 3) := by decide +kernel
theorem d10_4 : decode jdk_41_method_12_code 4 = .ok (.iload_n 0, 1) := by decide +kernel
theorem d10_5 : decode jdk_41_method_12_code 5 = .ok (.iload_n 1, 1) := by decide +kernel
theorem d10_6 : decode jdk_41_method_12_code 6 = .ok (.if_icmp .gt 8, 3) := by decide +kernel
theorem d10_9 : decode jdk_41_method_12_code 9 = .ok (.iload_n 1, 1) := by decide +kernel
theorem d10_10 : decode jdk_41_method_12_code 10 = .ok (.iload_n 2, 1) := by decide +kernel
theorem d10_11 : decode jdk_41_method_12_code 11 = .ok (.if_icmp .le 11, 3) := by decide +kernel
theorem d10_14 : decode jdk_41_method_12_code 14 = .ok (.aload_n 3, 1) := by decide +kernel
theorem d10_15 : decode jdk_41_method_12_code 15 = .ok (.iload_n 0, 1) := by decide +kernel
theorem d10_16 : decode jdk_41_method_12_code 16 = .ok (.iload_n 1, 1) := by decide +kernel
theorem d10_17 : decode jdk_41_method_12_code 17 = .ok (.iload_n 2, 1) := by decide +kernel
theorem d10_18 : decode jdk_41_method_12_code 18 = .ok (.invokestatic 99, 3) := by decide +kernel
theorem d10_21 : decode jdk_41_method_12_code 21 = .ok (.athrow, 1) := by decide +kernel
theorem d10_22 : decode jdk_41_method_12_code 22 = .ok (.iload_n 0, 1) := by decide +kernel
theorem d10_23 : decode jdk_41_method_12_code 23 = .ok (.ireturn, 1) := by decide +kernel
theorem pn_10 : plainFor (⟨"jdk/internal/util/Preconditions", "checkFromToIndex", "(IIILjava/util/function/BiFunction;)I"⟩ : MethodName) = true := by first | (apply plainFor_of_name; simp [plainName, overriddenIn]; done) | (apply plainFor_of_name; decide +kernel) | decide +kernel
theorem pd_10 : parseMethodDescriptor "(IIILjava/util/function/BiFunction;)I" = some ⟨[.int, .int, .int, (.object "java/util/function/BiFunction")], (some .int)⟩ := by decide +kernel
theorem d11_0 : decode method_3_code 0 = .ok (.iload_n 2, 1) := by decide +kernel
theorem d11_1 : decode method_3_code 1 = .ok (.iload 4, 2) := by decide +kernel
theorem d11_3 : decode method_3_code 3 = .ok (.if_icmp .ge 22, 3) := by decide +kernel
theorem d11_6 : decode method_3_code 6 = .ok (.aload_n 1, 1) := by decide +kernel
theorem d11_7 : decode method_3_code 7 = .ok (.iload_n 2, 1) := by decide +kernel
theorem d11_8 : decode method_3_code 8 = .ok (.invokevirtual 7, 3) := by decide +kernel
theorem d11_11 : decode method_3_code 11 = .ok (.aload_n 0, 1) := by decide +kernel
theorem d11_12 : decode method_3_code 12 = .ok (.iload_n 2, 1) := by decide +kernel
theorem d11_13 : decode method_3_code 13 = .ok (.invokevirtual 7, 3) := by decide +kernel
theorem d11_16 : decode method_3_code 16 = .ok (.if_icmp .ne 7, 3) := by decide +kernel
theorem d11_19 : decode method_3_code 19 = .ok (.iconst 1, 1) := by decide +kernel
theorem d11_20 : decode method_3_code 20 = .ok (.goto 4, 3) := by decide +kernel
theorem d11_23 : decode method_3_code 23 = .ok (.iconst 0, 1) := by decide +kernel
theorem d11_24 : decode method_3_code 24 = .ok (.ireturn, 1) := by decide +kernel
theorem d11_25 : decode method_3_code 25 = .ok (.iload_n 2, 1) := by decide +kernel
theorem d11_26 : decode method_3_code 26 = .ok (.iload_n 3, 1) := by decide +kernel
theorem d11_27 : decode method_3_code 27 = .ok (.if_icmp .ge 19, 3) := by decide +kernel
theorem d11_30 : decode method_3_code 30 = .ok (.aload_n 0, 1) := by decide +kernel
theorem d11_31 : decode method_3_code 31 = .ok (.iload_n 2, 1) := by decide +kernel
theorem d11_32 : decode method_3_code 32 = .ok (.invokevirtual 7, 3) := by decide +kernel
theorem d11_35 : decode method_3_code 35 = .ok (.bipush 47, 2) := by decide +kernel
theorem d11_37 : decode method_3_code 37 = .ok (.if_icmp .ne 7, 3) := by decide +kernel
theorem d11_40 : decode method_3_code 40 = .ok (.iconst 1, 1) := by decide +kernel
theorem d11_41 : decode method_3_code 41 = .ok (.goto 4, 3) := by decide +kernel
theorem d11_44 : decode method_3_code 44 = .ok (.iconst 0, 1) := by decide +kernel
theorem d11_45 : decode method_3_code 45 = .ok (.ireturn, 1) := by decide +kernel
theorem d11_46 : decode method_3_code 46 = .ok (.iconst 1, 1) := by decide +kernel
theorem d11_47 : decode method_3_code 47 = .ok (.ireturn, 1) := by decide +kernel
theorem pn_11 : plainFor (⟨"com/example/contractlint/contractlint/model/BasePathOfPinLaw", "at", "(Ljava/lang/String;Ljava/lang/String;III)Z"⟩ : MethodName) = true := by first | (apply plainFor_of_name; simp [plainName, overriddenIn]; done) | (apply plainFor_of_name; decide +kernel) | decide +kernel
theorem pd_11 : parseMethodDescriptor "(Ljava/lang/String;Ljava/lang/String;III)Z" = some ⟨[(.object "java/lang/String"), (.object "java/lang/String"), .int, .int, .int], (some .boolean)⟩ := by decide +kernel
theorem d20_0 : decode jdk_43_method_47_code 0 = .ok (.iload_n 2, 1) := by decide +kernel
theorem d20_1 : decode jdk_43_method_47_code 1 = .ok (.ifCond .ne 6, 3) := by decide +kernel
theorem d20_4 : decode jdk_43_method_47_code 4 = .ok (.ldc 151, 2) := by decide +kernel
theorem d20_6 : decode jdk_43_method_47_code 6 = .ok (.areturn, 1) := by decide +kernel
theorem d20_7 : decode jdk_43_method_47_code 7 = .ok (.new 1, 3) := by decide +kernel
theorem d20_10 : decode jdk_43_method_47_code 10 = .ok (.dup, 1) := by decide +kernel
theorem d20_11 : decode jdk_43_method_47_code 11 = .ok (.aload_n 0, 1) := by decide +kernel
theorem d20_12 : decode jdk_43_method_47_code 12 = .ok (.iload_n 1, 1) := by decide +kernel
theorem d20_13 : decode jdk_43_method_47_code 13 = .ok (.iload_n 1, 1) := by decide +kernel
theorem d20_14 : decode jdk_43_method_47_code 14 = .ok (.iload_n 2, 1) := by decide +kernel
theorem d20_15 : decode jdk_43_method_47_code 15 = .ok (.iadd, 1) := by decide +kernel
theorem d20_16 : decode jdk_43_method_47_code 16 = .ok (.invokestatic 232, 3) := by decide +kernel
theorem d20_19 : decode jdk_43_method_47_code 19 = .ok (.iconst 0, 1) := by decide +kernel
theorem d20_20 : decode jdk_43_method_47_code 20 = .ok (.invokespecial 112, 3) := by decide +kernel
theorem d20_23 : decode jdk_43_method_47_code 23 = .ok (.areturn, 1) := by decide +kernel
theorem pn_20 : plainFor (⟨"java/lang/StringLatin1", "newString", "([BII)Ljava/lang/String;"⟩ : MethodName) = true := by first | (apply plainFor_of_name; simp [plainName, overriddenIn]; done) | (apply plainFor_of_name; decide +kernel) | decide +kernel
theorem pd_20 : parseMethodDescriptor "([BII)Ljava/lang/String;" = some ⟨[(.array .byte), .int, .int], (some (.object "java/lang/String"))⟩ := by decide +kernel
theorem d21_0 : decode jdk_65_method_132_code 0 = .ok (.iload_n 1, 1) := by decide +kernel
theorem d21_1 : decode jdk_65_method_132_code 1 = .ok (.ifCond .ne 9, 3) := by decide +kernel
theorem d21_4 : decode jdk_65_method_132_code 4 = .ok (.iload_n 2, 1) := by decide +kernel
theorem d21_5 : decode jdk_65_method_132_code 5 = .ok (.aload_n 0, 1) := by decide +kernel
theorem d21_6 : decode jdk_65_method_132_code 6 = .ok (.arraylength, 1) := by decide +kernel
theorem d21_7 : decode jdk_65_method_132_code 7 = .ok (.if_icmp .eq 10, 3) := by decide +kernel
theorem d21_10 : decode jdk_65_method_132_code 10 = .ok (.aload_n 0, 1) := by decide +kernel
theorem d21_11 : decode jdk_65_method_132_code 11 = .ok (.iload_n 1, 1) := by decide +kernel
theorem d21_12 : decode jdk_65_method_132_code 12 = .ok (.iload_n 2, 1) := by decide +kernel
theorem d21_13 : decode jdk_65_method_132_code 13 = .ok (.invokestatic 339, 3) := by decide +kernel
theorem d21_16 : decode jdk_65_method_132_code 16 = .ok (.areturn, 1) := by decide +kernel
theorem d21_17 : decode jdk_65_method_132_code 17 = .ok (.aload_n 0, 1) := by decide +kernel
theorem d21_18 : decode jdk_65_method_132_code 18 = .ok (.invokevirtual 310, 3) := by decide +kernel
theorem d21_21 : decode jdk_65_method_132_code 21 = .ok (.checkcast 311, 3) := by decide +kernel
theorem d21_24 : decode jdk_65_method_132_code 24 = .ok (.areturn, 1) := by decide +kernel
theorem pn_21 : plainFor (⟨"java/util/Arrays", "copyOfRange", "([BII)[B"⟩ : MethodName) = true := by first | (apply plainFor_of_name; simp [plainName, overriddenIn]; done) | (apply plainFor_of_name; decide +kernel) | decide +kernel
theorem pd_21 : parseMethodDescriptor "([BII)[B" = some ⟨[(.array .byte), .int, .int], (some (.array .byte))⟩ := by decide +kernel
theorem d22_0 : decode jdk_65_method_133_code 0 = .ok (.iload_n 1, 1) := by decide +kernel
theorem d22_1 : decode jdk_65_method_133_code 1 = .ok (.iload_n 2, 1) := by decide +kernel
theorem d22_2 : decode jdk_65_method_133_code 2 = .ok (.invokestatic 343, 3) := by decide +kernel
theorem d22_5 : decode jdk_65_method_133_code 5 = .ok (.iload_n 2, 1) := by decide +kernel
theorem d22_6 : decode jdk_65_method_133_code 6 = .ok (.iload_n 1, 1) := by decide +kernel
theorem d22_7 : decode jdk_65_method_133_code 7 = .ok (.isub, 1) := by decide +kernel
theorem d22_8 : decode jdk_65_method_133_code 8 = .ok (.istore_n 3, 1) := by decide +kernel
theorem d22_9 : decode jdk_65_method_133_code 9 = .ok (.iload_n 3, 1) := by decide +kernel
theorem d22_10 : decode jdk_65_method_133_code 10 = .ok (.newarray .byte, 2) := by decide +kernel
theorem d22_12 : decode jdk_65_method_133_code 12 = .ok (.astore 4, 2) := by decide +kernel
theorem d22_14 : decode jdk_65_method_133_code 14 = .ok (.aload_n 0, 1) := by decide +kernel
theorem d22_15 : decode jdk_65_method_133_code 15 = .ok (.iload_n 1, 1) := by decide +kernel
theorem d22_16 : decode jdk_65_method_133_code 16 = .ok (.aload 4, 2) := by decide +kernel
theorem d22_18 : decode jdk_65_method_133_code 18 = .ok (.iconst 0, 1) := by decide +kernel
theorem d22_19 : decode jdk_65_method_133_code 19 = .ok (.aload_n 0, 1) := by decide +kernel
theorem d22_20 : decode jdk_65_method_133_code 20 = .ok (.arraylength, 1) := by decide +kernel
theorem d22_21 : decode jdk_65_method_133_code 21 = .ok (.iload_n 1, 1) := by decide +kernel
theorem d22_22 : decode jdk_65_method_133_code 22 = .ok (.isub, 1) := by decide +kernel
theorem d22_23 : decode jdk_65_method_133_code 23 = .ok (.iload_n 3, 1) := by decide +kernel
theorem d22_24 : decode jdk_65_method_133_code 24 = .ok (.invokestatic 304, 3) := by decide +kernel
theorem d22_27 : decode jdk_65_method_133_code 27 = .ok (.invokestatic 150, 3) := by decide +kernel
theorem d22_30 : decode jdk_65_method_133_code 30 = .ok (.aload 4, 2) := by decide +kernel
theorem d22_32 : decode jdk_65_method_133_code 32 = .ok (.areturn, 1) := by decide +kernel
theorem pn_22 : plainFor (⟨"java/util/Arrays", "copyOfRangeByte", "([BII)[B"⟩ : MethodName) = true := by first | (apply plainFor_of_name; simp [plainName, overriddenIn]; done) | (apply plainFor_of_name; decide +kernel) | decide +kernel
theorem pd_22 : parseMethodDescriptor "([BII)[B" = some ⟨[(.array .byte), .int, .int], (some (.array .byte))⟩ := by decide +kernel
theorem d23_0 : decode jdk_65_method_131_code 0 = .ok (.iload_n 1, 1) := by decide +kernel
theorem d23_1 : decode jdk_65_method_131_code 1 = .ok (.iload_n 0, 1) := by decide +kernel
theorem d23_2 : decode jdk_65_method_131_code 2 = .ok (.if_icmp .ge 35, 3) := by decide +kernel
theorem d23_5 : decode jdk_65_method_131_code 5 = .ok (.new 43, 3) := by decide +kernel
theorem d23_8 : decode jdk_65_method_131_code 8 = .ok (.dup, 1) := by decide +kernel
theorem d23_9 : decode jdk_65_method_131_code 9 = .ok (.new 45, 3) := by decide +kernel
theorem d23_12 : decode jdk_65_method_131_code 12 = .ok (.dup, 1) := by decide +kernel
theorem d23_13 : decode jdk_65_method_131_code 13 = .ok (.invokespecial 47, 3) := by decide +kernel
theorem d23_16 : decode jdk_65_method_131_code 16 = .ok (.iload_n 0, 1) := by decide +kernel
theorem d23_17 : decode jdk_65_method_131_code 17 = .ok (.invokevirtual 54, 3) := by decide +kernel
theorem d23_20 : decode jdk_65_method_131_code 20 = .ok (.ldc_w 337, 3) := by decide +kernel
theorem d23_23 : decode jdk_65_method_131_code 23 = .ok (.invokevirtual 50, 3) := by decide +kernel
theorem d23_26 : decode jdk_65_method_131_code 26 = .ok (.iload_n 1, 1) := by decide +kernel
theorem d23_27 : decode jdk_65_method_131_code 27 = .ok (.invokevirtual 54, 3) := by decide +kernel
theorem d23_30 : decode jdk_65_method_131_code 30 = .ok (.invokevirtual 61, 3) := by decide +kernel
theorem d23_33 : decode jdk_65_method_131_code 33 = .ok (.invokespecial 65, 3) := by decide +kernel
theorem d23_36 : decode jdk_65_method_131_code 36 = .ok (.athrow, 1) := by decide +kernel
theorem d23_37 : decode jdk_65_method_131_code 37 = .ok (.return_, 1) := by decide +kernel
theorem pn_23 : plainFor (⟨"java/util/Arrays", "checkLength", "(II)V"⟩ : MethodName) = true := by first | (apply plainFor_of_name; simp [plainName, overriddenIn]; done) | (apply plainFor_of_name; decide +kernel) | decide +kernel
theorem pd_23 : parseMethodDescriptor "(II)V" = some ⟨[.int, .int], none⟩ := by decide +kernel
theorem d24_0 : decode jdk_29_method_69_code 0 = .ok (.iload_n 0, 1) := by decide +kernel
theorem d24_1 : decode jdk_29_method_69_code 1 = .ok (.iload_n 1, 1) := by decide +kernel
theorem d24_2 : decode jdk_29_method_69_code 2 = .ok (.if_icmp .gt 7, 3) := by decide +kernel
theorem d24_5 : decode jdk_29_method_69_code 5 = .ok (.iload_n 0, 1) := by decide +kernel
theorem d24_6 : decode jdk_29_method_69_code 6 = .ok (.goto 4, 3) := by decide +kernel
theorem d24_9 : decode jdk_29_method_69_code 9 = .ok (.iload_n 1, 1) := by decide +kernel
theorem d24_10 : decode jdk_29_method_69_code 10 = .ok (.ireturn, 1) := by decide +kernel
theorem pn_24 : plainFor (⟨"java/lang/Math", "min", "(II)I"⟩ : MethodName) = true := by first | (apply plainFor_of_name; simp [plainName, overriddenIn]; done) | (apply plainFor_of_name; decide +kernel) | decide +kernel
theorem pd_24 : parseMethodDescriptor "(II)I" = some ⟨[.int, .int], (some .int)⟩ := by decide +kernel
theorem d25_0 : decode jdk_42_method_151_code 0 = .ok (.aload_n 0, 1) := by decide +kernel
theorem d25_1 : decode jdk_42_method_151_code 1 = .ok (.invokespecial 1, 3) := by decide +kernel
theorem d25_4 : decode jdk_42_method_151_code 4 = .ok (.aload_n 0, 1) := by decide +kernel
theorem d25_5 : decode jdk_42_method_151_code 5 = .ok (.aload_n 1, 1) := by decide +kernel
theorem d25_6 : decode jdk_42_method_151_code 6 = .ok (.putfield 9, 3) := by decide +kernel
theorem d25_9 : decode jdk_42_method_151_code 9 = .ok (.aload_n 0, 1) := by decide +kernel
theorem d25_10 : decode jdk_42_method_151_code 10 = .ok (.iload_n 2, 1) := by decide +kernel
theorem d25_11 : decode jdk_42_method_151_code 11 = .ok (.putfield 15, 3) := by decide +kernel
theorem d25_14 : decode jdk_42_method_151_code 14 = .ok (.return_, 1) := by decide +kernel
theorem pn_25 : plainFor (⟨"java/lang/String", "<init>", "([BB)V"⟩ : MethodName) = true := by first | (apply plainFor_of_name; simp [plainName, overriddenIn]; done) | (apply plainFor_of_name; decide +kernel) | decide +kernel
theorem pd_25 : parseMethodDescriptor "([BB)V" = some ⟨[(.array .byte), .byte], none⟩ := by decide +kernel
theorem pn_0 : plainFor (⟨"com/example/contractlint/contractlint/model/BasePathOfPinLaw", "law", "(IIIII)Z"⟩ : MethodName) = true := by first | (apply plainFor_of_name; simp [plainName, overriddenIn]; done) | (apply plainFor_of_name; decide +kernel) | decide +kernel

set_option maxRecDepth 65536 in
set_option maxHeartbeats 40000000 in
theorem rm_ch (l : Launch) (Z : State) (ag : Array Value) (hw : ∀ d ∈ tables_1, d.before ag Z = true) (x : Int32) (h0 : Heap) (n0 : Nat)  :
    Ctr l Z (⟨"com/example/contractlint/contractlint/model/BasePathOfPinLaw", "ch", "(I)C"⟩ : MethodName) method_2_code 1 (some .char) ({ frames := 0, cells := 0, slots := 0, locals := 0 } : Room) #[.int x] h0 (fun v h L => ∃ r, v = some (.int r) ∧ own_ch r ∧ (¬ 255 < r) ∧ Fr n0 L ∧ h0 = h) := by
  refine Ctr.of pn_1 ?_
  intro p e s m below meth c T0 X0 B e0
  refine Go.cast (f' := mkF m 0 #[.val (.int x)] []) (by first | rfl | (simp [entryFrame, mkF, argsToLocals, Value.category, maxLocals]; done)) ?_

  refine g_iloadN X0 B d1_0 1 rfl rfl ?_
  refine g_sipush X0 B (256) d1_1 4 rfl rfl ?_
  refine g_iand X0 B d1_4 5 rfl ?_
  refine g_if_eq X0 B d1_5 13 8 rfl (by decide) rfl (fun c1 => ?_) (fun c1 => ?_)
  · skip
    refine g_iloadN X0 B d1_13 14 rfl rfl ?_
    refine g_sipush X0 B (255) d1_14 17 rfl rfl ?_
    refine g_iand X0 B d1_17 18 rfl ?_
    refine g_i2c X0 B d1_18 19 rfl ?_
    exact g_retN X0 B d1_19 rfl (by have q := own_nc (own_chc (x &&& (255 : Int32))); simpa [narrow, nar] using q) (by decide) (by decide) (by decide) e0 ⟨_, rfl, (own_chmask x).1, (own_chmask x).2, (Fr.nil n0), rfl⟩
  · skip
    refine g_bipush X0 B (47) d1_8 10 rfl rfl ?_
    refine g_goto X0 B d1_10 19 rfl (by decide) ?_
    exact g_retN X0 B d1_19 rfl (by rfl) (by decide) (by decide) (by decide) e0 ⟨_, rfl, by unfold own_ch; decide, by decide, (Fr.nil n0), rfl⟩
set_option maxRecDepth 65536 in
set_option maxHeartbeats 40000000 in
theorem rX_min (l : Launch) (Z : State) (ag : Array Value) (hw : ∀ d ∈ tables_1, d.before ag Z = true) (x y : Int32) (h0 : Heap) (n0 : Nat)  :
    Ctr l Z (⟨"java/lang/Math", "min", "(II)I"⟩ : MethodName) jdk_29_method_69_code 2 (some .int) ({ frames := 0, cells := 0, slots := 0, locals := 0 } : Room) #[.int x, .int y] h0 (fun v h L => v = some (.int (if y < x then y else x)) ∧ Fr n0 L ∧ h0 = h) := by
  refine Ctr.of pn_24 ?_
  intro p e s m below meth c T0 X0 B e0
  refine Go.cast (f' := mkF m 0 #[.val (.int x), .val (.int y)] []) (by first | rfl | (simp [entryFrame, mkF, argsToLocals, Value.category, maxLocals]; done)) ?_

  refine g_iloadN X0 B d24_0 1 rfl rfl ?_
  refine g_iloadN X0 B d24_1 2 rfl rfl ?_
  refine g_icmp_gt X0 B d24_2 9 5 rfl (by decide) rfl (fun c1 => ?_) (fun c1 => ?_)
  · skip
    refine g_iloadN X0 B d24_9 10 rfl rfl ?_
    exact g_retI X0 B d24_10 rfl (by decide) (by decide) e0 ⟨by simp [c1], (Fr.nil n0), rfl⟩
  · skip
    refine g_iloadN X0 B d24_5 6 rfl rfl ?_
    refine g_goto X0 B d24_6 10 rfl (by decide) ?_
    exact g_retI X0 B d24_10 rfl (by decide) (by decide) e0 ⟨by simp [c1], (Fr.nil n0), rfl⟩
set_option maxRecDepth 65536 in
set_option maxHeartbeats 40000000 in
theorem rX_pcf (l : Launch) (Z : State) (ag : Array Value) (hw : ∀ d ∈ tables_1, d.before ag Z = true) (f t z : Int32) (g : Value) (hg : g.isRef = true) (h0 : Heap) (n0 : Nat) (f1 : ¬ f < 0) (f2 : ¬ t < f) (f3 : ¬ z < t) :
    Ctr l Z (⟨"jdk/internal/util/Preconditions", "checkFromToIndex", "(IIILjava/util/function/BiFunction;)I"⟩ : MethodName) jdk_41_method_12_code 4 (some .int) ({ frames := 0, cells := 0, slots := 0, locals := 0 } : Room) #[.int f, .int t, .int z, g] h0 (fun v h L => v = some (.int f) ∧ Fr n0 L ∧ h0 = h) := by
  refine Ctr.of pn_10 ?_
  intro p e s m below meth c T0 X0 B e0
  refine Go.cast (f' := mkF m 0 #[.val (.int f), .val (.int t), .val (.int z), .val (g)] []) (by first | (rcases XT.refc hg with rfl | ⟨_, rfl⟩ <;> rfl) | (simp [entryFrame, mkF, argsToLocals, Value.category, maxLocals]; done)) ?_

  refine g_iloadN X0 B d10_0 1 rfl rfl ?_
  refine g_if_lt X0 B d10_1 14 4 rfl (by decide) rfl (fun z => own_abs' (f1) z) (fun _ => ?_)
  refine g_iloadN X0 B d10_4 5 rfl rfl ?_
  refine g_iloadN X0 B d10_5 6 rfl rfl ?_
  refine g_icmp_gt X0 B d10_6 14 9 rfl (by decide) rfl (fun z => own_abs' (f2) z) (fun _ => ?_)
  refine g_iloadN X0 B d10_9 10 rfl rfl ?_
  refine g_iloadN X0 B d10_10 11 rfl rfl ?_
  refine g_icmp_le X0 B d10_11 22 14 rfl (by decide) rfl (fun _ => ?_) (fun z => own_abs' (f3) z)
  refine g_iloadN X0 B d10_22 23 rfl rfl ?_
  exact g_retI X0 B d10_23 rfl (by decide) (by decide) e0 ⟨rfl, (Fr.nil n0), rfl⟩
set_option maxRecDepth 65536 in
set_option maxHeartbeats 40000000 in
theorem rX_scb (l : Launch) (Z : State) (ag : Array Value) (hw : ∀ d ∈ tables_1, d.before ag Z = true) (f t z : Int32) (g : Value) (h0 : Heap) (n0 : Nat) (f1 : ¬ f < 0) (f2 : ¬ t < f) (f3 : ¬ z < t) (SF : Sta Z h0 "jdk/internal/util/Preconditions" "SIOOBE_FORMATTER" "Ljava/util/function/BiFunction;" g) (hg : g.isRef = true) :
    Ctr l Z (⟨"java/lang/String", "checkBoundsBeginEnd", "(III)V"⟩ : MethodName) jdk_42_method_158_code 3 none ({ frames := 1, cells := 0, slots := 0, locals := 15 } : Room) #[.int f, .int t, .int z] h0 (fun v h L => v = none ∧ Fr n0 L ∧ h0 = h) := by
  refine Ctr.of pn_9 ?_
  intro p e s m below meth c T0 X0 B e0
  refine Go.cast (f' := mkF m 0 #[.val (.int f), .val (.int t), .val (.int z)] []) (by first | rfl | (simp [entryFrame, mkF, argsToLocals, Value.category, maxLocals]; done)) ?_

  refine g_iloadN X0 B d9_0 1 rfl rfl ?_
  refine g_iloadN X0 B d9_1 2 rfl rfl ?_
  refine g_iloadN X0 B d9_2 3 rfl rfl ?_
  refine g_getS X0 B d9_3 6 rfl (hw _ (List.mem_of_getElem? (i := 51) rfl)) Via.refl e0 SF (fun T1 X1 e1 => ?_)
  refine g_callS X1 B [.int f, .int t, .int z, g] [] d9_6 9 rfl rfl (hw _ (List.mem_of_getElem? (i := 53) rfl)) (hw _ (List.mem_of_getElem? (i := 54) rfl)) (hw _ (List.mem_of_getElem? (i := 52) rfl)) (hw _ (List.mem_of_getElem? (i := 55) rfl)) (by decide) (lenOf pd_10 rfl) (rX_pcf l Z ag hw f t z g hg h0 n0 f1 f2 f3) e1 rfl 0 (Nat.le_of_eq rfl) (by decide) (by decide) (by decide) (by decide) (fun v2 T2 h2 L2 X2 e2 q2 => ?_)
  obtain ⟨rfl, N2, rfl⟩ := q2
  show Go p e below _ (T2.setTop (mkF m 9 #[.val (.int f), .val (.int t), .val (.int z)] [.int f]))
  refine g_pop X2 B d9_9 10 rfl rfl ?_
  exact g_retV X2 B d9_10 rfl (by decide) (by decide) e2 ⟨rfl, ((Fr.nil n0).app N2), rfl⟩
set_option maxRecDepth 65536 in
set_option maxHeartbeats 40000000 in
theorem rX_chl (l : Launch) (Z : State) (ag : Array Value) (hw : ∀ d ∈ tables_1, d.before ag Z = true) (f t : Int32) (h0 : Heap) (n0 : Nat) (f2 : ¬ t < f) :
    Ctr l Z (⟨"java/util/Arrays", "checkLength", "(II)V"⟩ : MethodName) jdk_65_method_131_code 2 none ({ frames := 0, cells := 0, slots := 0, locals := 0 } : Room) #[.int f, .int t] h0 (fun v h L => v = none ∧ Fr n0 L ∧ h0 = h) := by
  refine Ctr.of pn_23 ?_
  intro p e s m below meth c T0 X0 B e0
  refine Go.cast (f' := mkF m 0 #[.val (.int f), .val (.int t)] []) (by first | rfl | (simp [entryFrame, mkF, argsToLocals, Value.category, maxLocals]; done)) ?_

  refine g_iloadN X0 B d23_0 1 rfl rfl ?_
  refine g_iloadN X0 B d23_1 2 rfl rfl ?_
  refine g_icmp_ge X0 B d23_2 37 5 rfl (by decide) rfl (fun _ => ?_) (fun z => own_abs' (f2) z)
  exact g_retV X0 B d23_37 rfl (by decide) (by decide) e0 ⟨rfl, (Fr.nil n0), rfl⟩
set_option maxRecDepth 65536 in
set_option maxHeartbeats 40000000 in
theorem rL_crb (l : Launch) (Z : State) (ag : Array Value) (hw : ∀ d ∈ tables_1, d.before ag Z = true) (b : Addr) (vs : List Value) (cs : List Int32) (k : Nat) (h0 : Heap) (n0 : Nat) (Z0 : n0 ≤ h0.size) (Ab : Av Z h0 b .byte vs) (hn : cs.length ≤ 4) (hLv : own_L vs cs) (hk : k < cs.length) :
    Ctr l Z (⟨"java/util/Arrays", "copyOfRangeByte", "([BII)[B"⟩ : MethodName) jdk_65_method_133_code 5 (some (.array .byte)) ({ frames := 1, cells := 1, slots := 4, locals := 40 } : Room) #[.ref b, .int (0 : Int32), .int (Int32.ofNat k)] h0 (fun v h L => ∃ b2 ws, v = some (.ref b2) ∧ Fr n0 L ∧ Keep h0 h [] ∧ Av Z h b2 .byte ws ∧ own_L ws (cs.take k) ∧ h0.size ≤ b2 ∧ n0 ≤ b2) := by
  refine Ctr.of pn_22 ?_
  intro p e s m below meth c T0 X0 B e0
  refine Go.cast (f' := mkF m 0 #[.val (.ref b), .val (.int (0 : Int32)), .val (.int (Int32.ofNat k)), .unset, .unset] []) (by first | rfl | (simp [entryFrame, mkF, argsToLocals, Value.category, maxLocals]; done)) ?_

  refine g_iloadN X0 B d22_0 1 rfl rfl ?_
  refine g_iloadN X0 B d22_1 2 rfl rfl ?_
  refine g_callS X0 B [.int (0 : Int32), .int (Int32.ofNat k)] [] d22_2 5 rfl rfl (hw _ (List.mem_of_getElem? (i := 103) rfl)) (hw _ (List.mem_of_getElem? (i := 104) rfl)) (hw _ (List.mem_of_getElem? (i := 98) rfl)) (hw _ (List.mem_of_getElem? (i := 105) rfl)) (by decide) (lenOf pd_23 rfl) (rX_chl l Z ag hw 0 (Int32.ofNat k) h0 n0 (own_nn (by omega))) e0 rfl 0 (Nat.le_of_eq rfl) (by decide) (by decide) (by decide) (by decide) (fun v1 T1 h1 L1 X1 e1 q1 => ?_)
  obtain ⟨rfl, N1, rfl⟩ := q1
  show Go p e below _ (T1.setTop (mkF m 5 #[.val (.ref b), .val (.int (0 : Int32)), .val (.int (Int32.ofNat k)), .unset, .unset] []))
  refine g_iloadN X1 B d22_5 6 rfl rfl ?_
  refine g_iloadN X1 B d22_6 7 rfl rfl ?_
  refine g_isub X1 B d22_7 8 rfl ?_
  rw [own_sub0]
  refine g_istoreN X1 B #[.val (.ref b), .val (.int (0 : Int32)), .val (.int (Int32.ofNat k)), .val (.int (Int32.ofNat k)), .unset] d22_8 9 rfl rfl ?_
  refine g_iloadN X1 B d22_9 10 rfl rfl ?_
  refine g_newP X1 B (List.replicate k (.int 0)) d22_10 12 rfl (hw _ (List.mem_of_getElem? (i := 20) rfl)) e1 (own_nn (by omega)) (by rw [own_tn (by omega)]; rfl) (by simp; omega) (by decide) (by simp; omega) (fun T2 h2 b2 X2' e2 ea Ea AB => ?_)
  have X2 := X2'.more (Nat.le_refl _) (show 0 + 0 + (List.replicate k (Value.int 0)).length ≤ 4 by simp; omega)
  have gB : n0 ≤ b2 := ea ▸ Z0
  refine g_astore X2 B #[.val (.ref b), .val (.int (0 : Int32)), .val (.int (Int32.ofNat k)), .val (.int (Int32.ofNat k)), .val (.ref b2)] d22_12 14 rfl rfl rfl ?_
  refine g_aloadN X2 B d22_14 15 rfl rfl rfl ?_
  refine g_iloadN X2 B d22_15 16 rfl rfl ?_
  refine g_aload X2 B d22_16 18 rfl rfl rfl ?_
  refine g_iconst X2 B (0) d22_18 19 rfl rfl ?_
  refine g_aloadN X2 B d22_19 20 rfl rfl rfl ?_
  refine g_arrlen X2 B (Int32.ofNat cs.length) d22_20 21 rfl e2 (Ab.ext Ea) (by rw [hLv.1]) ?_
  refine g_iloadN X2 B d22_21 22 rfl rfl ?_
  refine g_isub X2 B d22_22 23 rfl ?_
  refine g_iloadN X2 B d22_23 24 rfl rfl ?_
  rw [own_sub0]
  refine g_callS X2 B [.int (Int32.ofNat cs.length), .int (Int32.ofNat k)] [.int (0 : Int32), .ref b2, .int (0 : Int32), .ref b] d22_24 27 rfl rfl (hw _ (List.mem_of_getElem? (i := 106) rfl)) (hw _ (List.mem_of_getElem? (i := 107) rfl)) (hw _ (List.mem_of_getElem? (i := 108) rfl)) (hw _ (List.mem_of_getElem? (i := 109) rfl)) (by decide) (lenOf pd_24 rfl) (rX_min l Z ag hw (Int32.ofNat cs.length) (Int32.ofNat k) h2 n0) e2 rfl 4 (Nat.le_of_eq rfl) (by decide) (by decide) (by decide) (by decide) (fun v3 T3 h3 L3 X3 e3 q3 => ?_)
  obtain ⟨rfl, N3, rfl⟩ := q3
  show Go p e below _ (T3.setTop (mkF m 27 #[.val (.ref b), .val (.int (0 : Int32)), .val (.int (Int32.ofNat k)), .val (.int (Int32.ofNat k)), .val (.ref b2)] [.int (if Int32.ofNat k < Int32.ofNat cs.length then Int32.ofNat k else Int32.ofNat cs.length), .int (0 : Int32), .ref b2, .int (0 : Int32), .ref b]))
  rw [own_min_ (by omega) (by omega)]
  refine g_cpyB X3 B k [] d22_27 30 rfl (hw _ (List.mem_of_getElem? (i := 110) rfl)) (hw _ (List.mem_of_getElem? (i := 113) rfl)) (hw _ (List.mem_of_getElem? (i := 111) rfl)) (hw _ (List.mem_of_getElem? (i := 112) rfl)) e3 (Ab.ext Ea) AB (own_Lfits hLv) (own_repf k) (by rw [hLv.1]; omega) (by rw [hLv.1]; omega) (by simp) (((Fr.nil n0).app N1).app N3) gB rfl (by decide) 0 (Nat.le_of_eq rfl) (by decide) (fun T4 h4 L4 X4 e4 N4 K4 A4 => ?_)
  refine g_aload X4 B d22_30 32 rfl rfl rfl ?_
  exact g_retA X4 B d22_32 rfl rfl rfl (by decide) (by decide) e4 ⟨b2, _, rfl, N4, ((Keep.refl h0 []).ext Ea).trans K4 (allS (Or.inr (Nat.le_of_eq ea.symm)) all0), A4, own_Ltake hLv (by omega), Nat.le_of_eq ea.symm, gB⟩
set_option maxRecDepth 65536 in
set_option maxHeartbeats 40000000 in
theorem rL_cor (l : Launch) (Z : State) (ag : Array Value) (hw : ∀ d ∈ tables_1, d.before ag Z = true) (b : Addr) (vs : List Value) (cs : List Int32) (k : Nat) (h0 : Heap) (n0 : Nat) (Z0 : n0 ≤ h0.size) (Ab : Av Z h0 b .byte vs) (hn : cs.length ≤ 4) (hLv : own_L vs cs) (hk : k < cs.length) :
    Ctr l Z (⟨"java/util/Arrays", "copyOfRange", "([BII)[B"⟩ : MethodName) jdk_65_method_132_code 3 (some (.array .byte)) ({ frames := 2, cells := 1, slots := 4, locals := 56 } : Room) #[.ref b, .int (0 : Int32), .int (Int32.ofNat k)] h0 (fun v h L => ∃ b2 ws, v = some (.ref b2) ∧ Fr n0 L ∧ Keep h0 h [] ∧ Av Z h b2 .byte ws ∧ own_L ws (cs.take k) ∧ h0.size ≤ b2 ∧ n0 ≤ b2) := by
  refine Ctr.of pn_21 ?_
  intro p e s m below meth c T0 X0 B e0
  refine Go.cast (f' := mkF m 0 #[.val (.ref b), .val (.int (0 : Int32)), .val (.int (Int32.ofNat k))] []) (by first | rfl | (simp [entryFrame, mkF, argsToLocals, Value.category, maxLocals]; done)) ?_

  refine g_iloadN X0 B d21_0 1 rfl rfl ?_
  refine g_if_ne X0 B d21_1 10 4 rfl (by decide) rfl (fun z => own_abs (rfl) z) (fun _ => ?_)
  refine g_iloadN X0 B d21_4 5 rfl rfl ?_
  refine g_aloadN X0 B d21_5 6 rfl rfl rfl ?_
  refine g_arrlen X0 B (Int32.ofNat cs.length) d21_6 7 rfl e0 Ab (by rw [hLv.1]) ?_
  refine g_icmp_eq X0 B d21_7 17 10 rfl (by decide) rfl (fun z => own_abs' (fun z => absurd (own_inj (by omega) (by omega) z) (by omega)) z) (fun _ => ?_)
  refine g_aloadN X0 B d21_10 11 rfl rfl rfl ?_
  refine g_iloadN X0 B d21_11 12 rfl rfl ?_
  refine g_iloadN X0 B d21_12 13 rfl rfl ?_
  refine g_callS X0 B [.ref b, .int (0 : Int32), .int (Int32.ofNat k)] [] d21_13 16 rfl rfl (hw _ (List.mem_of_getElem? (i := 100) rfl)) (hw _ (List.mem_of_getElem? (i := 101) rfl)) (hw _ (List.mem_of_getElem? (i := 98) rfl)) (hw _ (List.mem_of_getElem? (i := 102) rfl)) (by decide) (lenOf pd_22 rfl) (rL_crb l Z ag hw b vs cs k h0 n0 Z0 Ab hn hLv hk) e0 rfl 0 (Nat.le_of_eq rfl) (by decide) (by decide) (by decide) (by decide) (fun v1 T1 h1 L1 X1 e1 q1 => ?_)
  obtain ⟨b2, ws, rfl, N1, K1, A1, D1, g1, g2⟩ := q1
  show Go p e below _ (T1.setTop (mkF m 16 #[.val (.ref b), .val (.int (0 : Int32)), .val (.int (Int32.ofNat k))] [.ref b2]))
  exact g_retA X1 B d21_16 rfl rfl rfl (by decide) (by decide) e1 ⟨b2, ws, rfl, ((Fr.nil n0).app N1), K1, A1, D1, g1, g2⟩
set_option maxRecDepth 65536 in
set_option maxHeartbeats 40000000 in
theorem rL_ib (l : Launch) (Z : State) (ag : Array Value) (hw : ∀ d ∈ tables_1, d.before ag Z = true) (a b : Addr) (vs : List Value) (h0 : Heap) (n0 : Nat) (Z0 : n0 ≤ h0.size) (ga : n0 ≤ a) (Ea : Exa Z h0 a "java/lang/String") (FV : Fld Z h0 a "java/lang/String" "value" "[B" (.null)) (FC : Fld Z h0 a "java/lang/String" "coder" "B" (.int 0)) (Ab : Av Z h0 b .byte vs) :
    Ctr l Z (⟨"java/lang/String", "<init>", "([BB)V"⟩ : MethodName) jdk_42_method_151_code 3 none ({ frames := 1, cells := 0, slots := 0, locals := 12 } : Room) #[.ref a, .ref b, .int (0 : Int32)] h0 (fun v h L => v = none ∧ Fr n0 L ∧ Keep h0 h [a] ∧ Fld Z h a "java/lang/String" "value" "[B" (.ref b) ∧ Fld Z h a "java/lang/String" "coder" "B" (.int 0)) := by
  refine Ctr.of pn_25 ?_
  intro p e s m below meth c T0 X0 B e0
  refine Go.cast (f' := mkF m 0 #[.val (.ref a), .val (.ref b), .val (.int (0 : Int32))] []) (by first | rfl | (simp [entryFrame, mkF, argsToLocals, Value.category, maxLocals]; done)) ?_

  refine g_aloadN X0 B d25_0 1 rfl rfl rfl ?_
  obtain ⟨T1, X1, e1, st1⟩ := initO X0 B.x B.z B.o (hw _ (List.mem_of_getElem? (i := 16) rfl)) (hw _ (List.mem_of_getElem? (i := 17) rfl)) (hw _ (List.mem_of_getElem? (i := 18) rfl)) e0 (g := mkF m 1 #[.val (.ref a), .val (.ref b), .val (.int (0 : Int32))] [.ref a]) rfl (B.mx rfl) rfl (B.d d25_1) (by decide) (W := 0) (by show 2 * 0 + _ ≤ _; exact Nat.le_of_eq rfl) (by decide)
  refine Go.via st1 ?_
  show Go p e below _ (T1.setTop (mkF m 4 #[.val (.ref a), .val (.ref b), .val (.int (0 : Int32))] []))
  refine g_aloadN X1 B d25_4 5 rfl rfl rfl ?_
  refine g_aloadN X1 B d25_5 6 rfl rfl rfl ?_
  refine g_putF X1 B d25_6 9 rfl (hw _ (List.mem_of_getElem? (i := 25) rfl)) Via.refl e1 FV Ea (Or.inr ⟨(hw _ (List.mem_of_getElem? (i := 21) rfl)), rfl, rfl⟩) (hw _ (List.mem_of_getElem? (i := 7) rfl)) (ty := (.array .byte)) (by decide) rfl rfl (fun T2 h2 X2 e2 W2 => ?_)
  have F2 := FV.same W2
  refine g_aloadN X2 B d25_9 10 rfl rfl rfl ?_
  refine g_iloadN X2 B d25_10 11 rfl rfl ?_
  have t1 := (Fld.other W2 FC (Or.inr (slot_ne (Or.inr (hw _ (List.mem_of_getElem? (i := 22) rfl))) (Or.inr (hw _ (List.mem_of_getElem? (i := 21) rfl))) (by decide) (t := .byte) (by decide) (t' := (.array .byte)) (by decide))))
  have t2 := (Exa.wr W2 Ea)
  refine g_putF X2 B d25_11 14 rfl (hw _ (List.mem_of_getElem? (i := 26) rfl)) Via.refl e2 t1 t2 (Or.inr ⟨(hw _ (List.mem_of_getElem? (i := 22) rfl)), rfl, rfl⟩) (hw _ (List.mem_of_getElem? (i := 7) rfl)) (ty := .byte) (by decide) rfl rfl (fun T3 h3 X3 e3 W3 => ?_)
  have F3 := t1.same W3
  have t3 := (Keep.wr (Keep.wr (Keep.refl h0 [a]) W2 (Or.inl (List.mem_of_getElem? (i := 0) rfl))) W3 (Or.inl (List.mem_of_getElem? (i := 0) rfl)))
  have t4 := (Fld.other W3 F2 (Or.inr (slot_ne (Or.inr (hw _ (List.mem_of_getElem? (i := 21) rfl))) (Or.inr (hw _ (List.mem_of_getElem? (i := 22) rfl))) (by decide) (t := (.array .byte)) (by decide) (t' := .byte) (by decide))))
  exact g_retV X3 B d25_14 rfl (by decide) (by decide) e3 ⟨rfl, (Fr.snoc X3 (Fr.snoc X2 (Fr.nil n0) ga) ga), t3, t4, F3⟩
set_option maxRecDepth 65536 in
set_option maxHeartbeats 40000000 in
theorem rL_ns (l : Launch) (Z : State) (ag : Array Value) (hw : ∀ d ∈ tables_1, d.before ag Z = true) (b : Addr) (vs : List Value) (cs : List Int32) (k : Nat) (h0 : Heap) (n0 : Nat) (Z0 : n0 ≤ h0.size) (Ab : Av Z h0 b .byte vs) (hn : cs.length ≤ 4) (hLv : own_L vs cs) (hk : k < cs.length) (kp : 0 < k) :
    Ctr l Z (⟨"java/lang/StringLatin1", "newString", "([BII)Ljava/lang/String;"⟩ : MethodName) jdk_43_method_47_code 3 (some (.object "java/lang/String")) ({ frames := 3, cells := 2, slots := 8, locals := 72 } : Room) #[.ref b, .int (0 : Int32), .int (Int32.ofNat k)] h0 (fun v h L => ∃ r b2 ws, v = some (.ref r) ∧ Fr n0 L ∧ Keep h0 h [] ∧ Exa Z h r "java/lang/String" ∧ Fld Z h r "java/lang/String" "value" "[B" (.ref b2) ∧ Fld Z h r "java/lang/String" "coder" "B" (.int 0) ∧ Av Z h b2 .byte ws ∧ own_L ws (cs.take k)) := by
  refine Ctr.of pn_20 ?_
  intro p e s m below meth c T0 X0 B e0
  refine Go.cast (f' := mkF m 0 #[.val (.ref b), .val (.int (0 : Int32)), .val (.int (Int32.ofNat k))] []) (by first | rfl | (simp [entryFrame, mkF, argsToLocals, Value.category, maxLocals]; done)) ?_

  refine g_iloadN X0 B d20_0 1 rfl rfl ?_
  refine g_if_ne X0 B d20_1 7 4 rfl (by decide) rfl (fun _ => ?_) (fun z => own_abs' (own_nz (by omega) kp) z)
  refine g_new X0 B d20_7 10 rfl (hw _ (List.mem_of_getElem? (i := 95) rfl)) (hw _ (List.mem_of_getElem? (i := 7) rfl)) (hw _ (List.mem_of_getElem? (i := 8) rfl)) e0 (by decide) (by decide) (fun T1 h1 r X1 e1 ea1 E1 A1 D1 => ?_)
  have g_r : n0 ≤ r := ea1 ▸ Z0
  have gg_r : h0.size ≤ r := ea1 ▸ (Keep.refl h0 []).1
  have t1 : b ≠ r := ea1 ▸ Nat.ne_of_lt (Ab.lt)
  have D1_0 : Fld Z h1 r "java/lang/String" "value" "[B" (.null) := D1 (Or.inr (hw _ (List.mem_of_getElem? (i := 21) rfl))) (ty := (.array .byte)) (by decide)
  have D1_1 : Fld Z h1 r "java/lang/String" "coder" "B" (.int 0) := D1 (Or.inr (hw _ (List.mem_of_getElem? (i := 22) rfl))) (ty := .byte) (by decide)
  refine g_dup X1 B d20_10 11 rfl rfl ?_
  refine g_aloadN X1 B d20_11 12 rfl rfl rfl ?_
  refine g_iloadN X1 B d20_12 13 rfl rfl ?_
  refine g_iloadN X1 B d20_13 14 rfl rfl ?_
  refine g_iloadN X1 B d20_14 15 rfl rfl ?_
  refine g_iadd X1 B d20_15 16 rfl ?_
  rw [own_add0]
  have t2 := (Nat.le_trans Z0 E1.1)
  have t3 := (Av.ext Ab E1)
  refine g_callS X1 B [.ref b, .int (0 : Int32), .int (Int32.ofNat k)] [.ref r, .ref r] d20_16 19 rfl rfl (hw _ (List.mem_of_getElem? (i := 96) rfl)) (hw _ (List.mem_of_getElem? (i := 97) rfl)) (hw _ (List.mem_of_getElem? (i := 98) rfl)) (hw _ (List.mem_of_getElem? (i := 99) rfl)) (by decide) (lenOf pd_21 rfl) (rL_cor l Z ag hw b vs cs k h1 n0 t2 t3 hn hLv hk) e1 rfl 2 (Nat.le_of_eq rfl) (by decide) (by decide) (by decide) (by decide) (fun v2 T2 h2 L2 X2 e2 q2 => ?_)
  obtain ⟨b2, ws, rfl, N2, K2, A2, D2, g1, g2⟩ := q2
  show Go p e below _ (T2.setTop (mkF m 19 #[.val (.ref b), .val (.int (0 : Int32)), .val (.int (Int32.ofNat k))] [.ref b2, .ref r, .ref r]))
  refine g_iconst X2 B (0) d20_19 20 rfl rfl ?_
  have t4 := (Exa.keep A1 K2)
  have t5 : r ≠ b2 := own_neAv t4 (hw _ (List.mem_of_getElem? (i := 7) rfl)) A2
  have t6 := (Nat.le_trans t2 K2.1)
  have t7 := (Fld.keep D1_0 K2 nin0)
  have t8 := (Fld.keep D1_1 K2 nin0)
  refine g_callN X2 B [.ref b2, .int (0 : Int32)] [.ref r] d20_20 23 rfl rfl rfl (hw _ (List.mem_of_getElem? (i := 114) rfl)) (hw _ (List.mem_of_getElem? (i := 115) rfl)) (hw _ (List.mem_of_getElem? (i := 116) rfl)) (hw _ (List.mem_of_getElem? (i := 8) rfl)) (by decide) (lenOf pd_25 rfl) (rL_ib l Z ag hw r b2 ws h2 n0 t6 g_r t4 t7 t8 A2) e2 rfl 1 (Nat.le_of_eq rfl) (by decide) (by decide) (by decide) (by decide) (fun v3 T3 h3 L3 X3 e3 q3 => ?_)
  obtain ⟨rfl, N3, K3, f1, f2⟩ := q3
  show Go p e below _ (T3.setTop (mkF m 23 #[.val (.ref b), .val (.int (0 : Int32)), .val (.int (Int32.ofNat k))] [.ref r]))
  have t9 := (Keep.trans (Keep.trans (Keep.ext (Keep.refl h0 []) E1) K2 all0) K3 (allS (Or.inr gg_r) all0))
  have t10 := (Exa.keep t4 K3)
  have t11 := (Av.keep A2 K3 (ninS (Ne.symm t5) nin0))
  exact g_retA X3 B d20_23 rfl rfl rfl (by decide) (by decide) e3 ⟨r, b2, ws, rfl, (((Fr.nil n0).app N2).app N3), t9, t10, f1, f2, t11, D2⟩
set_option maxRecDepth 65536 in
set_option maxHeartbeats 40000000 in
theorem rW_ns (l : Launch) (Z : State) (ag : Array Value) (hw : ∀ d ∈ tables_1, d.before ag Z = true) (b : Addr) (h0 : Heap) (n0 : Nat) (OZ : ∀ (b : Addr) (cl : Cell), Z.heap[b]? = some cl → h0[b]? = some cl) (hH : Jvm.Lit.constHeld Z "java/lang/StringLatin1" 151) (hcw : Jvm.Lit.compactW.before ag Z = true) :
    CtrW l Z (⟨"java/lang/StringLatin1", "newString", "([BII)Ljava/lang/String;"⟩ : MethodName) jdk_43_method_47_code 3 (some (.object "java/lang/String")) ({ frames := 0, cells := 2, slots := 4, locals := 0 } : Room) #[.ref b, .int (0 : Int32), .int (0 : Int32)] h0 [] (fun v h vm L => ∃ r b2 ws, v = some (.ref r) ∧ Fr n0 L ∧ Keep h0 h [] ∧ Exa Z h r "java/lang/String" ∧ Fld Z h r "java/lang/String" "value" "[B" (.ref b2) ∧ Fld Z h r "java/lang/String" "coder" "B" (.int 0) ∧ Av Z h b2 .byte ws ∧ own_L ws ([])) := by
  refine CtrW.of pn_20 ?_
  intro p e s m below meth c T0 X0 B e0 hs0 hS I
  refine Go.cast (f' := mkF m 0 #[.val (.ref b), .val (.int (0 : Int32)), .val (.int (0 : Int32))] []) (by first | rfl | (simp [entryFrame, mkF, argsToLocals, Value.category, maxLocals]; done)) ?_

  refine g_iloadN X0 B d20_0 1 rfl rfl ?_
  refine g_if_ne X0 B d20_1 7 4 rfl (by decide) rfl (fun z => own_abs (rfl) z) (fun _ => ?_)
  refine g_ldcS X0 B "" [] 0 0 d20_4 6 rfl (hw _ (List.mem_of_getElem? (i := 94) rfl)) (own_wS hw) e0 hS (Nat.zero_le _) (Fr.nil _) (by rw [hs0]; exact OZ) I (by simp) hH hcw (by decide) (by decide) (by decide) (by decide) (by decide) (by decide) (by decide) (fun r T1 h1 b2 X1 B e1 E1 hS I Li1 Ex1 C1 V1 Ab1 => ?_)
  have kk1 : h1.size ≤ h1.size := Nat.le_refl _
  have t1 := (Keep.ext (Keep.refl h0 []) E1)
  exact g_retAW X1 B d20_6 rfl rfl rfl (by decide) (by decide) e1 hS kk1 (fun vm hvm => ⟨r, b2, [], rfl, (Fr.nil n0), t1, Ex1, V1, C1, Ab1, own_L0 (vs := [])⟩)
set_option maxRecDepth 65536 in
set_option maxHeartbeats 40000000 in
theorem rL_ss (l : Launch) (Z : State) (ag : Array Value) (hw : ∀ d ∈ tables_1, d.before ag Z = true) (a b : Addr) (cx : Int32) (vs : List Value) (cs : List Int32) (g : Value) (h0 : Heap) (n0 : Nat) (Ea : Exa Z h0 a "java/lang/String") (FV : Fld Z h0 a "java/lang/String" "value" "[B" (.ref b)) (FC : Fld Z h0 a "java/lang/String" "coder" "B" (.int 0)) (Ab : Av Z h0 b .byte vs) (hn : cs.length ≤ 4) (hLv : own_L vs cs) (SC : Sta Z h0 "java/lang/String" "COMPACT_STRINGS" "Z" (.int cx)) (hcx : ¬ cx = 0) (SF : Sta Z h0 "jdk/internal/util/Preconditions" "SIOOBE_FORMATTER" "Ljava/util/function/BiFunction;" g) (hg : g.isRef = true) :
    Ctr l Z (⟨"java/lang/String", "substring", "(II)Ljava/lang/String;"⟩ : MethodName) jdk_42_method_92_code 5 (some (.object "java/lang/String")) ({ frames := 2, cells := 0, slots := 0, locals := 40 } : Room) #[.ref a, .int (0 : Int32), .int (Int32.ofNat cs.length)] h0 (fun v h L => v = some (.ref a) ∧ Fr n0 L ∧ h0 = h) := by
  refine Ctr.of pn_8 ?_
  intro p e s m below meth c T0 X0 B e0
  refine Go.cast (f' := mkF m 0 #[.val (.ref a), .val (.int (0 : Int32)), .val (.int (Int32.ofNat cs.length)), .unset, .unset] []) (by first | rfl | (simp [entryFrame, mkF, argsToLocals, Value.category, maxLocals]; done)) ?_

  refine g_aloadN X0 B d8_0 1 rfl rfl rfl ?_
  refine g_callV X0 B [] [] d8_1 4 rfl rfl (hw _ (List.mem_of_getElem? (i := 47) rfl)) (hw _ (List.mem_of_getElem? (i := 32) rfl)) (hw _ (List.mem_of_getElem? (i := 34) rfl)) (hw _ (List.mem_of_getElem? (i := 33) rfl)) (hw _ (List.mem_of_getElem? (i := 8) rfl)) (hw _ (List.mem_of_getElem? (i := 35) rfl)) (by decide) (lenOf pd_6 rfl) Ea (rS_len l Z ag hw a b cx vs cs h0 n0 Ea FV FC Ab hn hLv SC hcx) e0 rfl 0 (Nat.le_of_eq rfl) (by decide) (by decide) (by decide) (by decide) (fun v1 T1 h1 L1 X1 e1 q1 => ?_)
  obtain ⟨rfl, N1, rfl⟩ := q1
  show Go p e below _ (T1.setTop (mkF m 4 #[.val (.ref a), .val (.int (0 : Int32)), .val (.int (Int32.ofNat cs.length)), .unset, .unset] [.int (Int32.ofNat cs.length)]))
  refine g_istoreN X1 B #[.val (.ref a), .val (.int (0 : Int32)), .val (.int (Int32.ofNat cs.length)), .val (.int (Int32.ofNat cs.length)), .unset] d8_4 5 rfl rfl ?_
  refine g_iloadN X1 B d8_5 6 rfl rfl ?_
  refine g_iloadN X1 B d8_6 7 rfl rfl ?_
  refine g_iloadN X1 B d8_7 8 rfl rfl ?_
  refine g_callS X1 B [.int (0 : Int32), .int (Int32.ofNat cs.length), .int (Int32.ofNat cs.length)] [] d8_8 11 rfl rfl (hw _ (List.mem_of_getElem? (i := 48) rfl)) (hw _ (List.mem_of_getElem? (i := 49) rfl)) (hw _ (List.mem_of_getElem? (i := 8) rfl)) (hw _ (List.mem_of_getElem? (i := 50) rfl)) (by decide) (lenOf pd_9 rfl) (rX_scb l Z ag hw 0 (Int32.ofNat cs.length) (Int32.ofNat cs.length) g h0 n0 (by decide) (own_nn (by omega)) (fun z => absurd ((own_lt (by omega) (by omega)).mp z) (by omega)) SF hg) e1 rfl 0 (Nat.le_of_eq rfl) (by decide) (by decide) (by decide) (by decide) (fun v2 T2 h2 L2 X2 e2 q2 => ?_)
  obtain ⟨rfl, N2, rfl⟩ := q2
  show Go p e below _ (T2.setTop (mkF m 11 #[.val (.ref a), .val (.int (0 : Int32)), .val (.int (Int32.ofNat cs.length)), .val (.int (Int32.ofNat cs.length)), .unset] []))
  refine g_iloadN X2 B d8_11 12 rfl rfl ?_
  refine g_if_ne X2 B d8_12 22 15 rfl (by decide) rfl (fun z => own_abs (rfl) z) (fun _ => ?_)
  refine g_iloadN X2 B d8_15 16 rfl rfl ?_
  refine g_iloadN X2 B d8_16 17 rfl rfl ?_
  refine g_icmp_ne X2 B d8_17 22 20 rfl (by decide) rfl (fun z => own_abs (rfl) z) (fun _ => ?_)
  refine g_aloadN X2 B d8_20 21 rfl rfl rfl ?_
  exact g_retA X2 B d8_21 rfl rfl rfl (by decide) (by decide) e2 ⟨rfl, (((Fr.nil n0).app N1).app N2), rfl⟩
set_option maxRecDepth 65536 in
set_option maxHeartbeats 40000000 in
theorem rL_sk (l : Launch) (Z : State) (ag : Array Value) (hw : ∀ d ∈ tables_1, d.before ag Z = true) (a b : Addr) (cx : Int32) (vs : List Value) (cs : List Int32) (g : Value) (k : Nat) (h0 : Heap) (n0 : Nat) (Z0 : n0 ≤ h0.size) (Ea : Exa Z h0 a "java/lang/String") (FV : Fld Z h0 a "java/lang/String" "value" "[B" (.ref b)) (FC : Fld Z h0 a "java/lang/String" "coder" "B" (.int 0)) (Ab : Av Z h0 b .byte vs) (hn : cs.length ≤ 4) (hLv : own_L vs cs) (SC : Sta Z h0 "java/lang/String" "COMPACT_STRINGS" "Z" (.int cx)) (hcx : ¬ cx = 0) (SF : Sta Z h0 "jdk/internal/util/Preconditions" "SIOOBE_FORMATTER" "Ljava/util/function/BiFunction;" g) (hg : g.isRef = true) (hk : k < cs.length) (kp : 0 < k) :
    Ctr l Z (⟨"java/lang/String", "substring", "(II)Ljava/lang/String;"⟩ : MethodName) jdk_42_method_92_code 5 (some (.object "java/lang/String")) ({ frames := 4, cells := 2, slots := 8, locals := 86 } : Room) #[.ref a, .int (0 : Int32), .int (Int32.ofNat k)] h0 (fun v h L => ∃ r b2 ws, v = some (.ref r) ∧ Fr n0 L ∧ Keep h0 h [] ∧ Exa Z h r "java/lang/String" ∧ Fld Z h r "java/lang/String" "value" "[B" (.ref b2) ∧ Fld Z h r "java/lang/String" "coder" "B" (.int 0) ∧ Av Z h b2 .byte ws ∧ own_L ws (cs.take k)) := by
  refine Ctr.of pn_8 ?_
  intro p e s m below meth c T0 X0 B e0
  refine Go.cast (f' := mkF m 0 #[.val (.ref a), .val (.int (0 : Int32)), .val (.int (Int32.ofNat k)), .unset, .unset] []) (by first | rfl | (simp [entryFrame, mkF, argsToLocals, Value.category, maxLocals]; done)) ?_

  refine g_aloadN X0 B d8_0 1 rfl rfl rfl ?_
  refine g_callV X0 B [] [] d8_1 4 rfl rfl (hw _ (List.mem_of_getElem? (i := 47) rfl)) (hw _ (List.mem_of_getElem? (i := 32) rfl)) (hw _ (List.mem_of_getElem? (i := 34) rfl)) (hw _ (List.mem_of_getElem? (i := 33) rfl)) (hw _ (List.mem_of_getElem? (i := 8) rfl)) (hw _ (List.mem_of_getElem? (i := 35) rfl)) (by decide) (lenOf pd_6 rfl) Ea (rS_len l Z ag hw a b cx vs cs h0 n0 Ea FV FC Ab hn hLv SC hcx) e0 rfl 0 (Nat.le_of_eq rfl) (by decide) (by decide) (by decide) (by decide) (fun v1 T1 h1 L1 X1 e1 q1 => ?_)
  obtain ⟨rfl, N1, rfl⟩ := q1
  show Go p e below _ (T1.setTop (mkF m 4 #[.val (.ref a), .val (.int (0 : Int32)), .val (.int (Int32.ofNat k)), .unset, .unset] [.int (Int32.ofNat cs.length)]))
  refine g_istoreN X1 B #[.val (.ref a), .val (.int (0 : Int32)), .val (.int (Int32.ofNat k)), .val (.int (Int32.ofNat cs.length)), .unset] d8_4 5 rfl rfl ?_
  refine g_iloadN X1 B d8_5 6 rfl rfl ?_
  refine g_iloadN X1 B d8_6 7 rfl rfl ?_
  refine g_iloadN X1 B d8_7 8 rfl rfl ?_
  refine g_callS X1 B [.int (0 : Int32), .int (Int32.ofNat k), .int (Int32.ofNat cs.length)] [] d8_8 11 rfl rfl (hw _ (List.mem_of_getElem? (i := 48) rfl)) (hw _ (List.mem_of_getElem? (i := 49) rfl)) (hw _ (List.mem_of_getElem? (i := 8) rfl)) (hw _ (List.mem_of_getElem? (i := 50) rfl)) (by decide) (lenOf pd_9 rfl) (rX_scb l Z ag hw 0 (Int32.ofNat k) (Int32.ofNat cs.length) g h0 n0 (by decide) (own_nn (by omega)) (fun z => absurd ((own_lt (by omega) (by omega)).mp z) (by omega)) SF hg) e1 rfl 0 (Nat.le_of_eq rfl) (by decide) (by decide) (by decide) (by decide) (fun v2 T2 h2 L2 X2 e2 q2 => ?_)
  obtain ⟨rfl, N2, rfl⟩ := q2
  show Go p e below _ (T2.setTop (mkF m 11 #[.val (.ref a), .val (.int (0 : Int32)), .val (.int (Int32.ofNat k)), .val (.int (Int32.ofNat cs.length)), .unset] []))
  refine g_iloadN X2 B d8_11 12 rfl rfl ?_
  refine g_if_ne X2 B d8_12 22 15 rfl (by decide) rfl (fun z => own_abs (rfl) z) (fun _ => ?_)
  refine g_iloadN X2 B d8_15 16 rfl rfl ?_
  refine g_iloadN X2 B d8_16 17 rfl rfl ?_
  refine g_icmp_ne X2 B d8_17 22 20 rfl (by decide) rfl (fun _ => ?_) (fun z => own_abs' (fun z => absurd (own_inj (by omega) (by omega) z) (by omega)) z)
  refine g_iloadN X2 B d8_22 23 rfl rfl ?_
  refine g_iloadN X2 B d8_23 24 rfl rfl ?_
  refine g_isub X2 B d8_24 25 rfl ?_
  rw [own_sub0]
  refine g_istore X2 B #[.val (.ref a), .val (.int (0 : Int32)), .val (.int (Int32.ofNat k)), .val (.int (Int32.ofNat cs.length)), .val (.int (Int32.ofNat k))] d8_25 27 rfl rfl ?_
  refine g_aloadN X2 B d8_27 28 rfl rfl rfl ?_
  refine g_callV X2 B [] [] d8_28 31 rfl rfl (hw _ (List.mem_of_getElem? (i := 75) rfl)) (hw _ (List.mem_of_getElem? (i := 76) rfl)) (hw _ (List.mem_of_getElem? (i := 78) rfl)) (hw _ (List.mem_of_getElem? (i := 77) rfl)) (hw _ (List.mem_of_getElem? (i := 8) rfl)) (hw _ (List.mem_of_getElem? (i := 79) rfl)) (by decide) (lenOf pd_16 rfl) Ea (rS_lat l Z ag hw a cx h0 n0 FC SC hcx) e2 rfl 0 (Nat.le_of_eq rfl) (by decide) (by decide) (by decide) (by decide) (fun v3 T3 h3 L3 X3 e3 q3 => ?_)
  obtain ⟨rfl, N3, rfl⟩ := q3
  show Go p e below _ (T3.setTop (mkF m 31 #[.val (.ref a), .val (.int (0 : Int32)), .val (.int (Int32.ofNat k)), .val (.int (Int32.ofNat cs.length)), .val (.int (Int32.ofNat k))] [.int (1 : Int32)]))
  refine g_if_eq X3 B d8_31 47 34 rfl (by decide) rfl (fun z => own_abs' (by decide) z) (fun _ => ?_)
  refine g_aloadN X3 B d8_34 35 rfl rfl rfl ?_
  refine g_getF X3 B d8_35 38 rfl (hw _ (List.mem_of_getElem? (i := 25) rfl)) Via.refl e3 FV (fun T4 X4 e4 => ?_)
  refine g_iloadN X4 B d8_38 39 rfl rfl ?_
  refine g_iload X4 B d8_39 41 rfl rfl ?_
  refine g_callS X4 B [.ref b, .int (0 : Int32), .int (Int32.ofNat k)] [] d8_41 44 rfl rfl (hw _ (List.mem_of_getElem? (i := 91) rfl)) (hw _ (List.mem_of_getElem? (i := 92) rfl)) (hw _ (List.mem_of_getElem? (i := 82) rfl)) (hw _ (List.mem_of_getElem? (i := 93) rfl)) (by decide) (lenOf pd_20 rfl) (rL_ns l Z ag hw b vs cs k h0 n0 Z0 Ab hn hLv hk kp) e4 rfl 0 (Nat.le_of_eq rfl) (by decide) (by decide) (by decide) (by decide) (fun v5 T5 h5 L5 X5 e5 q5 => ?_)
  obtain ⟨r, b2, ws, rfl, N5, t1, t2, t3, t4, t5, t6⟩ := q5
  show Go p e below _ (T5.setTop (mkF m 44 #[.val (.ref a), .val (.int (0 : Int32)), .val (.int (Int32.ofNat k)), .val (.int (Int32.ofNat cs.length)), .val (.int (Int32.ofNat k))] [.ref r]))
  refine g_goto X5 B d8_44 57 rfl (by decide) ?_
  exact g_retA X5 B d8_57 rfl rfl rfl (by decide) (by decide) e5 ⟨r, b2, ws, rfl, (((((Fr.nil n0).app N1).app N2).app N3).app N5), t1, t2, t3, t4, t5, t6⟩
set_option maxRecDepth 65536 in
set_option maxHeartbeats 40000000 in
theorem rW_s0 (l : Launch) (Z : State) (ag : Array Value) (hw : ∀ d ∈ tables_1, d.before ag Z = true) (a b : Addr) (cx : Int32) (vs : List Value) (cs : List Int32) (g : Value) (h0 : Heap) (n0 : Nat) (Ea : Exa Z h0 a "java/lang/String") (FV : Fld Z h0 a "java/lang/String" "value" "[B" (.ref b)) (FC : Fld Z h0 a "java/lang/String" "coder" "B" (.int 0)) (Ab : Av Z h0 b .byte vs) (hn : cs.length ≤ 4) (hLv : own_L vs cs) (SC : Sta Z h0 "java/lang/String" "COMPACT_STRINGS" "Z" (.int cx)) (hcx : ¬ cx = 0) (SF : Sta Z h0 "jdk/internal/util/Preconditions" "SIOOBE_FORMATTER" "Ljava/util/function/BiFunction;" g) (hg : g.isRef = true) (hk : 0 < cs.length) (OZ : ∀ (b : Addr) (cl : Cell), Z.heap[b]? = some cl → h0[b]? = some cl) (hH : Jvm.Lit.constHeld Z "java/lang/StringLatin1" 151) (hcw : Jvm.Lit.compactW.before ag Z = true) :
    CtrW l Z (⟨"java/lang/String", "substring", "(II)Ljava/lang/String;"⟩ : MethodName) jdk_42_method_92_code 5 (some (.object "java/lang/String")) ({ frames := 4, cells := 2, slots := 4, locals := 40 } : Room) #[.ref a, .int (0 : Int32), .int (0 : Int32)] h0 [] (fun v h vm L => ∃ r b2 ws, v = some (.ref r) ∧ Fr n0 L ∧ Keep h0 h [] ∧ Exa Z h r "java/lang/String" ∧ Fld Z h r "java/lang/String" "value" "[B" (.ref b2) ∧ Fld Z h r "java/lang/String" "coder" "B" (.int 0) ∧ Av Z h b2 .byte ws ∧ own_L ws ([])) := by
  refine CtrW.of pn_8 ?_
  intro p e s m below meth c T0 X0 B e0 hs0 hS I
  refine Go.cast (f' := mkF m 0 #[.val (.ref a), .val (.int (0 : Int32)), .val (.int (0 : Int32)), .unset, .unset] []) (by first | rfl | (simp [entryFrame, mkF, argsToLocals, Value.category, maxLocals]; done)) ?_

  refine g_aloadN X0 B d8_0 1 rfl rfl rfl ?_
  refine g_callV X0 B [] [] d8_1 4 rfl rfl (hw _ (List.mem_of_getElem? (i := 47) rfl)) (hw _ (List.mem_of_getElem? (i := 32) rfl)) (hw _ (List.mem_of_getElem? (i := 34) rfl)) (hw _ (List.mem_of_getElem? (i := 33) rfl)) (hw _ (List.mem_of_getElem? (i := 8) rfl)) (hw _ (List.mem_of_getElem? (i := 35) rfl)) (by decide) (lenOf pd_6 rfl) Ea (rS_len l Z ag hw a b cx vs cs h0 n0 Ea FV FC Ab hn hLv SC hcx) e0 rfl 0 (Nat.le_of_eq rfl) (by decide) (by decide) (by decide) (by decide) (fun v1 T1 h1 L1 X1 e1 q1 => ?_)
  obtain ⟨rfl, N1, rfl⟩ := q1
  show Go p e below _ (T1.setTop (mkF m 4 #[.val (.ref a), .val (.int (0 : Int32)), .val (.int (0 : Int32)), .unset, .unset] [.int (Int32.ofNat cs.length)]))
  refine g_istoreN X1 B #[.val (.ref a), .val (.int (0 : Int32)), .val (.int (0 : Int32)), .val (.int (Int32.ofNat cs.length)), .unset] d8_4 5 rfl rfl ?_
  refine g_iloadN X1 B d8_5 6 rfl rfl ?_
  refine g_iloadN X1 B d8_6 7 rfl rfl ?_
  refine g_iloadN X1 B d8_7 8 rfl rfl ?_
  refine g_callS X1 B [.int (0 : Int32), .int (0 : Int32), .int (Int32.ofNat cs.length)] [] d8_8 11 rfl rfl (hw _ (List.mem_of_getElem? (i := 48) rfl)) (hw _ (List.mem_of_getElem? (i := 49) rfl)) (hw _ (List.mem_of_getElem? (i := 8) rfl)) (hw _ (List.mem_of_getElem? (i := 50) rfl)) (by decide) (lenOf pd_9 rfl) (rX_scb l Z ag hw 0 0 (Int32.ofNat cs.length) g h0 n0 (by decide) (by decide) (own_nn (by omega)) SF hg) e1 rfl 0 (Nat.le_of_eq rfl) (by decide) (by decide) (by decide) (by decide) (fun v2 T2 h2 L2 X2 e2 q2 => ?_)
  obtain ⟨rfl, N2, rfl⟩ := q2
  show Go p e below _ (T2.setTop (mkF m 11 #[.val (.ref a), .val (.int (0 : Int32)), .val (.int (0 : Int32)), .val (.int (Int32.ofNat cs.length)), .unset] []))
  refine g_iloadN X2 B d8_11 12 rfl rfl ?_
  refine g_if_ne X2 B d8_12 22 15 rfl (by decide) rfl (fun z => own_abs (rfl) z) (fun _ => ?_)
  refine g_iloadN X2 B d8_15 16 rfl rfl ?_
  refine g_iloadN X2 B d8_16 17 rfl rfl ?_
  refine g_icmp_ne X2 B d8_17 22 20 rfl (by decide) rfl (fun _ => ?_) (fun z => own_abs' (fun z => own_nz hn hk z.symm) z)
  refine g_iloadN X2 B d8_22 23 rfl rfl ?_
  refine g_iloadN X2 B d8_23 24 rfl rfl ?_
  refine g_isub X2 B d8_24 25 rfl ?_
  rw [show ((0 : Int32) - (0 : Int32)) = 0 by decide]
  refine g_istore X2 B #[.val (.ref a), .val (.int (0 : Int32)), .val (.int (0 : Int32)), .val (.int (Int32.ofNat cs.length)), .val (.int (0 : Int32))] d8_25 27 rfl rfl ?_
  refine g_aloadN X2 B d8_27 28 rfl rfl rfl ?_
  refine g_callV X2 B [] [] d8_28 31 rfl rfl (hw _ (List.mem_of_getElem? (i := 75) rfl)) (hw _ (List.mem_of_getElem? (i := 76) rfl)) (hw _ (List.mem_of_getElem? (i := 78) rfl)) (hw _ (List.mem_of_getElem? (i := 77) rfl)) (hw _ (List.mem_of_getElem? (i := 8) rfl)) (hw _ (List.mem_of_getElem? (i := 79) rfl)) (by decide) (lenOf pd_16 rfl) Ea (rS_lat l Z ag hw a cx h0 n0 FC SC hcx) e2 rfl 0 (Nat.le_of_eq rfl) (by decide) (by decide) (by decide) (by decide) (fun v3 T3 h3 L3 X3 e3 q3 => ?_)
  obtain ⟨rfl, N3, rfl⟩ := q3
  show Go p e below _ (T3.setTop (mkF m 31 #[.val (.ref a), .val (.int (0 : Int32)), .val (.int (0 : Int32)), .val (.int (Int32.ofNat cs.length)), .val (.int (0 : Int32))] [.int (1 : Int32)]))
  refine g_if_eq X3 B d8_31 47 34 rfl (by decide) rfl (fun z => own_abs' (by decide) z) (fun _ => ?_)
  refine g_aloadN X3 B d8_34 35 rfl rfl rfl ?_
  refine g_getF X3 B d8_35 38 rfl (hw _ (List.mem_of_getElem? (i := 25) rfl)) Via.refl e3 FV (fun T4 X4 e4 => ?_)
  refine g_iloadN X4 B d8_38 39 rfl rfl ?_
  refine g_iload X4 B d8_39 41 rfl rfl ?_
  refine g_callSW X4 B hS (Nat.zero_le _) I [.ref b, .int (0 : Int32), .int (0 : Int32)] [] d8_41 44 rfl rfl (hw _ (List.mem_of_getElem? (i := 91) rfl)) (hw _ (List.mem_of_getElem? (i := 92) rfl)) (hw _ (List.mem_of_getElem? (i := 82) rfl)) (hw _ (List.mem_of_getElem? (i := 93) rfl)) (by decide) (lenOf pd_20 rfl) (rW_ns l Z ag hw b h0 n0 OZ hH hcw) e4 rfl 0 (Nat.le_of_eq rfl) (by decide) (by decide) (by decide) (by decide) (fun v5 T5 h5 L5 X5 B e5 hS q5 => ?_)
  obtain ⟨r, b2, ws, rfl, N5, t1, t2, t3, t4, t5, t6⟩ := q5
  show Go p e below _ (T5.setTop (mkF m 44 #[.val (.ref a), .val (.int (0 : Int32)), .val (.int (0 : Int32)), .val (.int (Int32.ofNat cs.length)), .val (.int (0 : Int32))] [.ref r]))
  have kk5 : h5.size ≤ h5.size := Nat.le_refl _
  refine g_goto X5 B d8_44 57 rfl (by decide) ?_
  exact g_retAW X5 B d8_57 rfl rfl rfl (by decide) (by decide) e5 hS kk5 (fun vm hvm => ⟨r, b2, ws, rfl, (((((Fr.nil n0).app N1).app N2).app N3).app N5), t1, t2, t3, t4, t5, t6⟩)
set_option maxRecDepth 65536 in
set_option maxHeartbeats 40000000 in
theorem rL_of0 (l : Launch) (Z : State) (ag : Array Value) (hw : ∀ d ∈ tables_1, d.before ag Z = true) (a b : Addr) (cx : Int32) (vs : List Value) (cs : List Int32) (g : Value) (h0 : Heap) (n0 : Nat) (Ea : Exa Z h0 a "java/lang/String") (FV : Fld Z h0 a "java/lang/String" "value" "[B" (.ref b)) (FC : Fld Z h0 a "java/lang/String" "coder" "B" (.int 0)) (Ab : Av Z h0 b .byte vs) (hn : cs.length ≤ 4) (hLv : own_L vs cs) (SC : Sta Z h0 "java/lang/String" "COMPACT_STRINGS" "Z" (.int cx)) (hcx : ¬ cx = 0) (SF : Sta Z h0 "jdk/internal/util/Preconditions" "SIOOBE_FORMATTER" "Ljava/util/function/BiFunction;" g) (hg : g.isRef = true) (h00 : cs.length = 0) :
    Ctr l Z (⟨"com/example/contractlint/contractlint/model/BasePath", "of", "(Ljava/lang/String;)Ljava/lang/String;"⟩ : MethodName) prog_22_method_2_code 2 (some (.object "java/lang/String")) ({ frames := 3, cells := 0, slots := 0, locals := 60 } : Room) #[.ref a] h0 (fun v h L => v = some (.ref a) ∧ Fr n0 L ∧ h0 = h) := by
  refine Ctr.of pn_5 ?_
  intro p e s m below meth c T0 X0 B e0
  refine Go.cast (f' := mkF m 0 #[.val (.ref a), .unset] []) (by first | rfl | (simp [entryFrame, mkF, argsToLocals, Value.category, maxLocals]; done)) ?_

  refine g_aloadN X0 B d5_0 1 rfl rfl rfl ?_
  refine g_callV X0 B [] [] d5_1 4 rfl rfl (hw _ (List.mem_of_getElem? (i := 31) rfl)) (hw _ (List.mem_of_getElem? (i := 32) rfl)) (hw _ (List.mem_of_getElem? (i := 34) rfl)) (hw _ (List.mem_of_getElem? (i := 33) rfl)) (hw _ (List.mem_of_getElem? (i := 8) rfl)) (hw _ (List.mem_of_getElem? (i := 35) rfl)) (by decide) (lenOf pd_6 rfl) Ea (rS_len l Z ag hw a b cx vs cs h0 n0 Ea FV FC Ab hn hLv SC hcx) e0 rfl 0 (Nat.le_of_eq rfl) (by decide) (by decide) (by decide) (by decide) (fun v1 T1 h1 L1 X1 e1 q1 => ?_)
  obtain ⟨rfl, N1, rfl⟩ := q1
  show Go p e below _ (T1.setTop (mkF m 4 #[.val (.ref a), .unset] [.int (Int32.ofNat cs.length)]))
  refine g_istoreN X1 B #[.val (.ref a), .val (.int (Int32.ofNat cs.length))] d5_4 5 rfl rfl ?_
  refine g_iloadN X1 B d5_5 6 rfl rfl ?_
  refine g_if_le X1 B d5_6 27 9 rfl (by decide) rfl (fun _ => ?_) (fun z => own_abs' (fun z => absurd ((own_gt0 (by omega)).mp z) (by omega)) z)
  refine g_aloadN X1 B d5_27 28 rfl rfl rfl ?_
  refine g_iconst X1 B (0) d5_28 29 rfl rfl ?_
  refine g_iloadN X1 B d5_29 30 rfl rfl ?_
  refine g_callV X1 B [.int (0 : Int32), .int (Int32.ofNat cs.length)] [] d5_30 33 rfl rfl (hw _ (List.mem_of_getElem? (i := 42) rfl)) (hw _ (List.mem_of_getElem? (i := 43) rfl)) (hw _ (List.mem_of_getElem? (i := 45) rfl)) (hw _ (List.mem_of_getElem? (i := 44) rfl)) (hw _ (List.mem_of_getElem? (i := 8) rfl)) (hw _ (List.mem_of_getElem? (i := 46) rfl)) (by decide) (lenOf pd_8 rfl) Ea (rL_ss l Z ag hw a b cx vs cs g h0 n0 Ea FV FC Ab hn hLv SC hcx SF hg) e1 rfl 0 (Nat.le_of_eq rfl) (by decide) (by decide) (by decide) (by decide) (fun v2 T2 h2 L2 X2 e2 q2 => ?_)
  obtain ⟨rfl, N2, rfl⟩ := q2
  show Go p e below _ (T2.setTop (mkF m 33 #[.val (.ref a), .val (.int (Int32.ofNat cs.length))] [.ref a]))
  exact g_retA X2 B d5_33 rfl rfl rfl (by decide) (by decide) e2 ⟨rfl, (((Fr.nil n0).app N1).app N2), rfl⟩
def own_QO (Z : State) (h0 : Heap) (n0 : Nat) (cs : List Int32) (v : Option Value) (h : Heap) (vm : Vm) (L : List Loc) : Prop := ∃ k, own_Of cs k ∧ ∃ r b2 ws, v = some (.ref r) ∧ Fr n0 L ∧ Keep h0 h [] ∧ Exa Z h r "java/lang/String" ∧ Fld Z h r "java/lang/String" "value" "[B" (.ref b2) ∧ Fld Z h r "java/lang/String" "coder" "B" (.int 0) ∧ Av Z h b2 .byte ws ∧ own_L ws (cs.take k)
set_option maxRecDepth 65536 in
set_option maxHeartbeats 40000000 in
theorem rW_of (l : Launch) (Z : State) (ag : Array Value) (hw : ∀ d ∈ tables_1, d.before ag Z = true) (a b : Addr) (cx : Int32) (vs : List Value) (cs : List Int32) (g : Value) (h0 : Heap) (n0 : Nat) (Z0 : n0 ≤ h0.size) (Ea : Exa Z h0 a "java/lang/String") (FV : Fld Z h0 a "java/lang/String" "value" "[B" (.ref b)) (FC : Fld Z h0 a "java/lang/String" "coder" "B" (.int 0)) (Ab : Av Z h0 b .byte vs) (hn : cs.length ≤ 4) (hLv : own_L vs cs) (SC : Sta Z h0 "java/lang/String" "COMPACT_STRINGS" "Z" (.int cx)) (hcx : ¬ cx = 0) (SF : Sta Z h0 "jdk/internal/util/Preconditions" "SIOOBE_FORMATTER" "Ljava/util/function/BiFunction;" g) (hg : g.isRef = true) (hcs : ∀ c ∈ cs, own_ch c) (hp : 0 < cs.length) (OZ : ∀ (b : Addr) (cl : Cell), Z.heap[b]? = some cl → h0[b]? = some cl) (hH : Jvm.Lit.constHeld Z "java/lang/StringLatin1" 151) (hcw : Jvm.Lit.compactW.before ag Z = true) :
    CtrW l Z (⟨"com/example/contractlint/contractlint/model/BasePath", "of", "(Ljava/lang/String;)Ljava/lang/String;"⟩ : MethodName) prog_22_method_2_code 2 (some (.object "java/lang/String")) ({ frames := 5, cells := 2, slots := 8, locals := 102 } : Room) #[.ref a] h0 [] (own_QO Z h0 n0 cs) := by
  refine CtrW.of pn_5 ?_
  intro p e s m below meth c T0 X0 B e0 hs0 hS I
  refine Go.cast (f' := mkF m 0 #[.val (.ref a), .unset] []) (by first | rfl | (simp [entryFrame, mkF, argsToLocals, Value.category, maxLocals]; done)) ?_

  refine g_aloadN X0 B d5_0 1 rfl rfl rfl ?_
  refine g_callV X0 B [] [] d5_1 4 rfl rfl (hw _ (List.mem_of_getElem? (i := 31) rfl)) (hw _ (List.mem_of_getElem? (i := 32) rfl)) (hw _ (List.mem_of_getElem? (i := 34) rfl)) (hw _ (List.mem_of_getElem? (i := 33) rfl)) (hw _ (List.mem_of_getElem? (i := 8) rfl)) (hw _ (List.mem_of_getElem? (i := 35) rfl)) (by decide) (lenOf pd_6 rfl) Ea (rS_len l Z ag hw a b cx vs cs h0 n0 Ea FV FC Ab hn hLv SC hcx) e0 rfl 0 (Nat.le_of_eq rfl) (by decide) (by decide) (by decide) (by decide) (fun v1 T1 h1 L1 X1 e1 q1 => ?_)
  obtain ⟨rfl, N1, rfl⟩ := q1
  show Go p e below _ (T1.setTop (mkF m 4 #[.val (.ref a), .unset] [.int (Int32.ofNat cs.length)]))
  refine g_istoreN X1 B #[.val (.ref a), .val (.int (Int32.ofNat cs.length))] d5_4 5 rfl rfl ?_
  have loop : ∀ (i : Nat) (T : State) (Lo : List Loc), i ≤ cs.length → (∀ j c, i ≤ j → cs[j]? = some c → c = 47) → Stand p l e ({ frames := 5, cells := 2, slots := 8, locals := 102 } : Room) (s.setVm s.vm) m #[.ref a] below meth c T Lo 0 0 → T.heap = h0 → Fr n0 Lo → Go p e below (EndsW s (own_QO Z h0 n0 cs) ({ frames := 5, cells := 2, slots := 8, locals := 102 } : Room).cells ({ frames := 5, cells := 2, slots := 8, locals := 102 } : Room).slots) (T.setTop (mkF m 5 #[.val (.ref a), .val (.int (Int32.ofNat i))] [])) := by
    intro i
    induction i with
    | zero =>
      intro T Lo hi hj X eh N
      show Go p e below _ (T.setTop (mkF m 5 #[.val (.ref a), .val (.int (0 : Int32))] []))
      refine g_iloadN X B d5_5 6 rfl rfl ?_
      refine g_if_le X B d5_6 27 9 rfl (by decide) rfl (fun _ => ?_) (fun z => own_abs' (by decide) z)
      refine g_aloadN X B d5_27 28 rfl rfl rfl ?_
      refine g_iconst X B (0) d5_28 29 rfl rfl ?_
      refine g_iloadN X B d5_29 30 rfl rfl ?_
      refine g_callVW X B hS (Nat.zero_le _) I [.int (0 : Int32), .int (0 : Int32)] [] d5_30 33 rfl rfl (hw _ (List.mem_of_getElem? (i := 42) rfl)) (hw _ (List.mem_of_getElem? (i := 43) rfl)) (hw _ (List.mem_of_getElem? (i := 45) rfl)) (hw _ (List.mem_of_getElem? (i := 44) rfl)) (hw _ (List.mem_of_getElem? (i := 8) rfl)) (hw _ (List.mem_of_getElem? (i := 46) rfl)) (by decide) (lenOf pd_8 rfl) Ea (rW_s0 l Z ag hw a b cx vs cs g h0 n0 Ea FV FC Ab hn hLv SC hcx SF hg hp OZ hH hcw) eh rfl 0 (Nat.le_of_eq rfl) (by decide) (by decide) (by decide) (by decide) (fun v1 T1 h1 L1 X1 B e1 hS q1 => ?_)
      obtain ⟨r, b2, ws, rfl, N1, t1, t2, t3, t4, t5, t6⟩ := q1
      show Go p e below _ (T1.setTop (mkF m 33 #[.val (.ref a), .val (.int (0 : Int32))] [.ref r]))
      have kk1 : h1.size ≤ h1.size := Nat.le_refl _
      exact g_retAW X1 B d5_33 rfl rfl rfl (by decide) (by decide) e1 hS kk1 (fun vm hvm => ⟨0, ⟨Nat.zero_le _, Or.inl rfl, fun j c _ => hj j c (Nat.zero_le _)⟩, r, b2, ws, rfl, (N.app N1), t1, t2, t3, t4, t5, t6⟩)
    | succ i ih =>
      intro T Lo hi hj X eh N
      obtain ⟨c0, hc⟩ := own_ex (cs := cs) (i := i) (by omega)
      have hch := hcs c0 (List.mem_of_getElem? hc)
      refine g_iloadN X B d5_5 6 rfl rfl ?_
      refine g_if_le X B d5_6 27 9 rfl (by decide) rfl (fun z => own_abs ((own_gt0 (by omega)).mpr (by omega)) z) (fun _ => ?_)
      refine g_aloadN X B d5_9 10 rfl rfl rfl ?_
      refine g_iloadN X B d5_10 11 rfl rfl ?_
      refine g_iconst X B (1) d5_11 12 rfl rfl ?_
      refine g_isub X B d5_12 13 rfl ?_
      rw [own_sm1 (by omega) (by omega), Nat.add_sub_cancel]
      show Go p e below _ (T.setTop (mkF m 13 #[.val (.ref a), .val (.int (Int32.ofNat (i + 1)))] [.int (Int32.ofNat i), .ref a]))
      refine g_callV X B [.int (Int32.ofNat i)] [] d5_13 16 rfl rfl (hw _ (List.mem_of_getElem? (i := 70) rfl)) (hw _ (List.mem_of_getElem? (i := 71) rfl)) (hw _ (List.mem_of_getElem? (i := 73) rfl)) (hw _ (List.mem_of_getElem? (i := 72) rfl)) (hw _ (List.mem_of_getElem? (i := 8) rfl)) (hw _ (List.mem_of_getElem? (i := 74) rfl)) (by decide) (lenOf pd_15 rfl) Ea (rL_cat l Z ag hw a b cx i c0 vs cs g h0 n0 Ea FV FC Ab hn hLv SC hcx (by omega) hc hch SF hg) eh rfl 0 (Nat.le_of_eq rfl) (by decide) (by decide) (by decide) (by decide) (fun v1 T1 h1 L1 X1 e1 q1 => ?_)
      obtain ⟨rfl, N1, rfl⟩ := q1
      show Go p e below _ (T1.setTop (mkF m 16 #[.val (.ref a), .val (.int (Int32.ofNat (i + 1)))] [.int c0]))
      refine g_bipush X1 B (47) d5_16 18 rfl rfl ?_
      refine g_icmp_ne X1 B d5_18 27 21 rfl (by decide) rfl (fun c2 => ?_) (fun c2 => ?_)
      · skip
        refine g_aloadN X1 B d5_27 28 rfl rfl rfl ?_
        refine g_iconst X1 B (0) d5_28 29 rfl rfl ?_
        refine g_iloadN X1 B d5_29 30 rfl rfl ?_
        by_cases hfull : i + 1 = cs.length
        · skip
          rw [hfull]
          refine g_callV X1 B [.int (0 : Int32), .int (Int32.ofNat cs.length)] [] d5_30 33 rfl rfl (hw _ (List.mem_of_getElem? (i := 42) rfl)) (hw _ (List.mem_of_getElem? (i := 43) rfl)) (hw _ (List.mem_of_getElem? (i := 45) rfl)) (hw _ (List.mem_of_getElem? (i := 44) rfl)) (hw _ (List.mem_of_getElem? (i := 8) rfl)) (hw _ (List.mem_of_getElem? (i := 46) rfl)) (by decide) (lenOf pd_8 rfl) Ea (rL_ss l Z ag hw a b cx vs cs g h0 n0 Ea FV FC Ab hn hLv SC hcx SF hg) e1 rfl 0 (Nat.le_of_eq rfl) (by decide) (by decide) (by decide) (by decide) (fun v3 T3 h3 L3 X3 e3 q3 => ?_)
          obtain ⟨rfl, N3, rfl⟩ := q3
          show Go p e below _ (T3.setTop (mkF m 33 #[.val (.ref a), .val (.int (Int32.ofNat cs.length))] [.ref a]))
          exact g_retAW X3 B d5_33 rfl rfl rfl (by decide) (by decide) e3 hS (Nat.zero_le _) (fun vm hvm => ⟨i + 1, ⟨by omega, Or.inr ⟨c0, by rw [Nat.add_sub_cancel]; exact hc, c2⟩, hj⟩, a, b, vs, rfl, ((N.app N1).app N3), Keep.refl h0 [], Ea, FV, FC, Ab, by rw [hfull, List.take_length]; exact hLv⟩)
        · skip
          refine g_callV X1 B [.int (0 : Int32), .int (Int32.ofNat (i + 1))] [] d5_30 33 rfl rfl (hw _ (List.mem_of_getElem? (i := 42) rfl)) (hw _ (List.mem_of_getElem? (i := 43) rfl)) (hw _ (List.mem_of_getElem? (i := 45) rfl)) (hw _ (List.mem_of_getElem? (i := 44) rfl)) (hw _ (List.mem_of_getElem? (i := 8) rfl)) (hw _ (List.mem_of_getElem? (i := 46) rfl)) (by decide) (lenOf pd_8 rfl) Ea (rL_sk l Z ag hw a b cx vs cs g (i + 1) h0 n0 Z0 Ea FV FC Ab hn hLv SC hcx SF hg (by omega) (by omega)) e1 rfl 0 (Nat.le_of_eq rfl) (by decide) (by decide) (by decide) (by decide) (fun v4 T4 h4 L4 X4 e4 q4 => ?_)
          obtain ⟨r, b2, ws, rfl, N4, t1, t2, t3, t4, t5, t6⟩ := q4
          show Go p e below _ (T4.setTop (mkF m 33 #[.val (.ref a), .val (.int (Int32.ofNat (i + 1)))] [.ref r]))
          exact g_retAW X4 B d5_33 rfl rfl rfl (by decide) (by decide) e4 hS (Nat.zero_le _) (fun vm hvm => ⟨i + 1, ⟨by omega, Or.inr ⟨c0, by rw [Nat.add_sub_cancel]; exact hc, c2⟩, hj⟩, r, b2, ws, rfl, ((N.app N1).app N4), t1, t2, t3, t4, t5, t6⟩)
      · skip
        refine g_iinc X1 B #[.val (.ref a), .val (.int ((Int32.ofNat (i + 1)) + (-1)))] (-1) d5_21 24 rfl rfl rfl rfl ?_
        refine g_goto X1 B d5_24 5 rfl (by decide) ?_
        rw [own_am1 (by omega) (by omega), Nat.add_sub_cancel]
        exact ih _ _ (by omega) (fun j d q hd => by
        by_cases e : j = i
        · subst e
          cases hc.symm.trans hd
          exact c2
        · exact hj j d (by omega) hd) X1 e1 (N.app N1)
  exact loop cs.length _ _ (Nat.le_refl _) (fun j c q hc => absurd (List.getElem?_eq_some_iff.mp hc).1 (by omega)) X1 e1 ((Fr.nil n0).app N1)
set_option maxRecDepth 65536 in
set_option maxHeartbeats 40000000 in
theorem rm_at (l : Launch) (Z : State) (ag : Array Value) (hw : ∀ d ∈ tables_1, d.before ag Z = true) (a b a2 b2 : Addr) (cx : Int32) (vs ws : List Value) (cs : List Int32) (g : Value) (i k : Nat) (h0 : Heap) (n0 : Nat) (Ea : Exa Z h0 a "java/lang/String") (FV : Fld Z h0 a "java/lang/String" "value" "[B" (.ref b)) (FC : Fld Z h0 a "java/lang/String" "coder" "B" (.int 0)) (Ab : Av Z h0 b .byte vs) (hn : cs.length ≤ 4) (hLv : own_L vs cs) (SC : Sta Z h0 "java/lang/String" "COMPACT_STRINGS" "Z" (.int cx)) (hcx : ¬ cx = 0) (Er : Exa Z h0 a2 "java/lang/String") (GV : Fld Z h0 a2 "java/lang/String" "value" "[B" (.ref b2)) (GC : Fld Z h0 a2 "java/lang/String" "coder" "B" (.int 0)) (Ar : Av Z h0 b2 .byte ws) (hm : (cs.take k).length ≤ 4) (hLr : own_L ws (cs.take k))  (SF : Sta Z h0 "jdk/internal/util/Preconditions" "SIOOBE_FORMATTER" "Ljava/util/function/BiFunction;" g) (hg : g.isRef = true) (hcs : ∀ c ∈ cs, own_ch c) (hO : own_Of cs k) (hi : i < 4) :
    Ctr l Z (⟨"com/example/contractlint/contractlint/model/BasePathOfPinLaw", "at", "(Ljava/lang/String;Ljava/lang/String;III)Z"⟩ : MethodName) method_3_code 5 (some .boolean) ({ frames := 4, cells := 0, slots := 0, locals := 54 } : Room) #[.ref a, .ref a2, .int (Int32.ofNat i), .int (Int32.ofNat cs.length), .int (Int32.ofNat k)] h0 (fun v h L => v = some (.int 1) ∧ Fr n0 L ∧ h0 = h) := by
  refine Ctr.of pn_11 ?_
  intro p e s m below meth c T0 X0 B e0
  refine Go.cast (f' := mkF m 0 #[.val (.ref a), .val (.ref a2), .val (.int (Int32.ofNat i)), .val (.int (Int32.ofNat cs.length)), .val (.int (Int32.ofNat k))] []) (by first | rfl | (simp [entryFrame, mkF, argsToLocals, Value.category, maxLocals]; done)) ?_

  obtain ⟨hk, -, htail⟩ := hO
  refine g_iloadN X0 B d11_0 1 rfl rfl ?_
  refine g_iload X0 B d11_1 3 rfl rfl ?_
  by_cases hik : i < k
  · skip
    obtain ⟨c0, hc⟩ := own_ex (cs := cs) (i := i) (by omega)
    have hch := hcs c0 (List.mem_of_getElem? hc)
    refine g_icmp_ge X0 B d11_3 25 6 rfl (by decide) rfl (fun z => own_abs ((own_lt (by omega) (by omega)).mpr hik) z) (fun _ => ?_)
    refine g_aloadN X0 B d11_6 7 rfl rfl rfl ?_
    refine g_iloadN X0 B d11_7 8 rfl rfl ?_
    refine g_callV X0 B [.int (Int32.ofNat i)] [] d11_8 11 rfl rfl (hw _ (List.mem_of_getElem? (i := 90) rfl)) (hw _ (List.mem_of_getElem? (i := 71) rfl)) (hw _ (List.mem_of_getElem? (i := 73) rfl)) (hw _ (List.mem_of_getElem? (i := 72) rfl)) (hw _ (List.mem_of_getElem? (i := 8) rfl)) (hw _ (List.mem_of_getElem? (i := 74) rfl)) (by decide) (lenOf pd_15 rfl) Er (rL_cat l Z ag hw a2 b2 cx i c0 ws (cs.take k) g h0 n0 Er GV GC Ar hm hLr SC hcx (by rw [own_tlen hk]; exact hik) (by rw [own_takeat hik]; exact hc) hch SF hg) e0 rfl 0 (Nat.le_of_eq rfl) (by decide) (by decide) (by decide) (by decide) (fun v1 T1 h1 L1 X1 e1 q1 => ?_)
    obtain ⟨rfl, N1, rfl⟩ := q1
    show Go p e below _ (T1.setTop (mkF m 11 #[.val (.ref a), .val (.ref a2), .val (.int (Int32.ofNat i)), .val (.int (Int32.ofNat cs.length)), .val (.int (Int32.ofNat k))] [.int c0]))
    refine g_aloadN X1 B d11_11 12 rfl rfl rfl ?_
    refine g_iloadN X1 B d11_12 13 rfl rfl ?_
    refine g_callV X1 B [.int (Int32.ofNat i)] [.int c0] d11_13 16 rfl rfl (hw _ (List.mem_of_getElem? (i := 90) rfl)) (hw _ (List.mem_of_getElem? (i := 71) rfl)) (hw _ (List.mem_of_getElem? (i := 73) rfl)) (hw _ (List.mem_of_getElem? (i := 72) rfl)) (hw _ (List.mem_of_getElem? (i := 8) rfl)) (hw _ (List.mem_of_getElem? (i := 74) rfl)) (by decide) (lenOf pd_15 rfl) Ea (rL_cat l Z ag hw a b cx i c0 vs cs g h0 n0 Ea FV FC Ab hn hLv SC hcx (by omega) hc hch SF hg) e1 rfl 1 (Nat.le_of_eq rfl) (by decide) (by decide) (by decide) (by decide) (fun v2 T2 h2 L2 X2 e2 q2 => ?_)
    obtain ⟨rfl, N2, rfl⟩ := q2
    show Go p e below _ (T2.setTop (mkF m 16 #[.val (.ref a), .val (.ref a2), .val (.int (Int32.ofNat i)), .val (.int (Int32.ofNat cs.length)), .val (.int (Int32.ofNat k))] [.int c0, .int c0]))
    refine g_icmp_ne X2 B d11_16 23 19 rfl (by decide) rfl (fun z => own_abs (rfl) z) (fun _ => ?_)
    refine g_iconst X2 B (1) d11_19 20 rfl rfl ?_
    refine g_goto X2 B d11_20 24 rfl (by decide) ?_
    exact g_retN X2 B d11_24 rfl rfl (by decide) (by decide) (by decide) e2 ⟨rfl, (((Fr.nil n0).app N1).app N2), rfl⟩
  · skip
    refine g_icmp_ge X0 B d11_3 25 6 rfl (by decide) rfl (fun _ => ?_) (fun z => own_abs' (fun z => hik ((own_lt (by omega) (by omega)).mp z)) z)
    refine g_iloadN X0 B d11_25 26 rfl rfl ?_
    refine g_iloadN X0 B d11_26 27 rfl rfl ?_
    by_cases hin : i < cs.length
    · skip
      obtain ⟨c0, hc⟩ := own_ex (cs := cs) (i := i) (by omega)
      have hch := hcs c0 (List.mem_of_getElem? hc)
      refine g_icmp_ge X0 B d11_27 46 30 rfl (by decide) rfl (fun z => own_abs ((own_lt (by omega) (by omega)).mpr hin) z) (fun _ => ?_)
      refine g_aloadN X0 B d11_30 31 rfl rfl rfl ?_
      refine g_iloadN X0 B d11_31 32 rfl rfl ?_
      refine g_callV X0 B [.int (Int32.ofNat i)] [] d11_32 35 rfl rfl (hw _ (List.mem_of_getElem? (i := 90) rfl)) (hw _ (List.mem_of_getElem? (i := 71) rfl)) (hw _ (List.mem_of_getElem? (i := 73) rfl)) (hw _ (List.mem_of_getElem? (i := 72) rfl)) (hw _ (List.mem_of_getElem? (i := 8) rfl)) (hw _ (List.mem_of_getElem? (i := 74) rfl)) (by decide) (lenOf pd_15 rfl) Ea (rL_cat l Z ag hw a b cx i c0 vs cs g h0 n0 Ea FV FC Ab hn hLv SC hcx (by omega) hc hch SF hg) e0 rfl 0 (Nat.le_of_eq rfl) (by decide) (by decide) (by decide) (by decide) (fun v3 T3 h3 L3 X3 e3 q3 => ?_)
      obtain ⟨rfl, N3, rfl⟩ := q3
      show Go p e below _ (T3.setTop (mkF m 35 #[.val (.ref a), .val (.ref a2), .val (.int (Int32.ofNat i)), .val (.int (Int32.ofNat cs.length)), .val (.int (Int32.ofNat k))] [.int c0]))
      refine g_bipush X3 B (47) d11_35 37 rfl rfl ?_
      refine g_icmp_ne X3 B d11_37 44 40 rfl (by decide) rfl (fun z => own_abs (htail i c0 (by omega) hc) z) (fun _ => ?_)
      refine g_iconst X3 B (1) d11_40 41 rfl rfl ?_
      refine g_goto X3 B d11_41 45 rfl (by decide) ?_
      exact g_retN X3 B d11_45 rfl rfl (by decide) (by decide) (by decide) e3 ⟨rfl, ((Fr.nil n0).app N3), rfl⟩
    · skip
      refine g_icmp_ge X0 B d11_27 46 30 rfl (by decide) rfl (fun _ => ?_) (fun z => own_abs' (fun z => hin ((own_lt (by omega) (by omega)).mp z)) z)
      refine g_iconst X0 B (1) d11_46 47 rfl rfl ?_
      exact g_retN X0 B d11_47 rfl rfl (by decide) (by decide) (by decide) e0 ⟨rfl, (Fr.nil n0), rfl⟩
theorem own_m5 (x : Int32) : ∃ i : Nat, i < 5 ∧ ((x &&& (2147483647 : Int32)) % (5 : Int32)) = Int32.ofNat i := by
  have h1 := c_mask x 2147483647 31 (by decide) (by decide)
  have h2 := (c_irem (x &&& 2147483647) 5 5 (by decide)).1 (by omega)
  refine ⟨((x &&& (2147483647 : Int32)) % (5 : Int32)).toInt.toNat, by omega, ?_⟩
  apply Int32.toInt_inj.mp
  rw [Int32.toInt_ofNat_of_lt (by omega)]
  omega
theorem own_lastat {cs : List Int32} {k : Nat} (h : own_Of cs k) (hk : 0 < k) : ∃ c, cs[k - 1]? = some c ∧ ¬ c = 47 := h.2.1.resolve_left (by omega)
theorem own_chs1 {c0 c1 c2 c3 : Int32} (hx0 : own_ch c0) (hx1 : own_ch c1) (hx2 : own_ch c2) (hx3 : own_ch c3) : ∀ x ∈ [c0], own_ch x := by
  intro x hx
  simp only [List.mem_cons, List.not_mem_nil, or_false] at hx
  rcases hx with rfl <;> assumption
theorem own_chl1 {c0 c1 c2 c3 : Int32} (hy0 : ¬ 255 < c0) (hy1 : ¬ 255 < c1) (hy2 : ¬ 255 < c2) (hy3 : ¬ 255 < c3) : ∀ x ∈ [c0], ¬ 255 < x := by
  intro x hx
  simp only [List.mem_cons, List.not_mem_nil, or_false] at hx
  rcases hx with rfl <;> assumption
theorem own_chs2 {c0 c1 c2 c3 : Int32} (hx0 : own_ch c0) (hx1 : own_ch c1) (hx2 : own_ch c2) (hx3 : own_ch c3) : ∀ x ∈ [c0, c1], own_ch x := by
  intro x hx
  simp only [List.mem_cons, List.not_mem_nil, or_false] at hx
  rcases hx with rfl | rfl <;> assumption
theorem own_chl2 {c0 c1 c2 c3 : Int32} (hy0 : ¬ 255 < c0) (hy1 : ¬ 255 < c1) (hy2 : ¬ 255 < c2) (hy3 : ¬ 255 < c3) : ∀ x ∈ [c0, c1], ¬ 255 < x := by
  intro x hx
  simp only [List.mem_cons, List.not_mem_nil, or_false] at hx
  rcases hx with rfl | rfl <;> assumption
theorem own_chs3 {c0 c1 c2 c3 : Int32} (hx0 : own_ch c0) (hx1 : own_ch c1) (hx2 : own_ch c2) (hx3 : own_ch c3) : ∀ x ∈ [c0, c1, c2], own_ch x := by
  intro x hx
  simp only [List.mem_cons, List.not_mem_nil, or_false] at hx
  rcases hx with rfl | rfl | rfl <;> assumption
theorem own_chl3 {c0 c1 c2 c3 : Int32} (hy0 : ¬ 255 < c0) (hy1 : ¬ 255 < c1) (hy2 : ¬ 255 < c2) (hy3 : ¬ 255 < c3) : ∀ x ∈ [c0, c1, c2], ¬ 255 < x := by
  intro x hx
  simp only [List.mem_cons, List.not_mem_nil, or_false] at hx
  rcases hx with rfl | rfl | rfl <;> assumption
theorem own_chs4 {c0 c1 c2 c3 : Int32} (hx0 : own_ch c0) (hx1 : own_ch c1) (hx2 : own_ch c2) (hx3 : own_ch c3) : ∀ x ∈ [c0, c1, c2, c3], own_ch x := by
  intro x hx
  simp only [List.mem_cons, List.not_mem_nil, or_false] at hx
  rcases hx with rfl | rfl | rfl | rfl <;> assumption
theorem own_chl4 {c0 c1 c2 c3 : Int32} (hy0 : ¬ 255 < c0) (hy1 : ¬ 255 < c1) (hy2 : ¬ 255 < c2) (hy3 : ¬ 255 < c3) : ∀ x ∈ [c0, c1, c2, c3], ¬ 255 < x := by
  intro x hx
  simp only [List.mem_cons, List.not_mem_nil, or_false] at hx
  rcases hx with rfl | rfl | rfl | rfl <;> assumption
set_option maxRecDepth 65536 in
set_option maxHeartbeats 40000000 in
theorem rm0_0 (l : Launch) (Z : State) (ag : Array Value) (hw : ∀ d ∈ tables_1, d.before ag Z = true) (p0 p1 p2 p3 p4 cx : Int32) (g : Value) (h0 : Heap) (n0 : Nat) (Z0 : n0 ≤ h0.size) (SC : Sta Z h0 "java/lang/String" "COMPACT_STRINGS" "Z" (.int cx)) (hcx : ¬ cx = 0) (SF : Sta Z h0 "jdk/internal/util/Preconditions" "SIOOBE_FORMATTER" "Ljava/util/function/BiFunction;" g) (hg : g.isRef = true) (kk5 : ((p0 &&& (2147483647 : Int32)) % (5 : Int32)) = 0) (OZ : ∀ (b : Addr) (cl : Cell), Z.heap[b]? = some cl → h0[b]? = some cl) (hH7 : Jvm.Lit.constHeld Z "java/lang/String" 7) (hH : Jvm.Lit.constHeld Z "java/lang/StringLatin1" 151) (hcw : Jvm.Lit.compactW.before ag Z = true) :
    CtrW l Z x code maxLocals ret room_1 #[.int p0, .int p1, .int p2, .int p3, .int p4] h0 [] (fun v h vm L => v = some (.int 1) ∧ Fr n0 L) := by
  refine CtrW.of pn_0 ?_
  intro p e s m below meth c T0 X0 B e0 hs0 hS I
  refine Go.cast (f' := mkF m 0 #[.val (.int p0), .val (.int p1), .val (.int p2), .val (.int p3), .val (.int p4), .unset, .unset, .unset, .unset, .unset, .unset, .unset, .unset, .unset] []) (by first | rfl | (simp [entryFrame, mkF, argsToLocals, Value.category, maxLocals]; done)) ?_

  refine g_iloadN X0 B at_0 1 rfl rfl ?_
  refine g_ldcI X0 B at_1 3 rfl (hw _ (List.mem_of_getElem? (i := 0) rfl)) ?_
  refine g_iand X0 B at_3 4 rfl ?_
  refine g_iconst X0 B (5) at_4 5 rfl rfl ?_
  refine g_irem X0 B at_5 6 rfl (by decide) ?_
  rw [kk5]
  show Go p e below _ (T0.setTop (mkF m 6 #[.val (.int p0), .val (.int p1), .val (.int p2), .val (.int p3), .val (.int p4), .unset, .unset, .unset, .unset, .unset, .unset, .unset, .unset, .unset] [.int (0 : Int32)]))
  refine g_istore X0 B #[.val (.int p0), .val (.int p1), .val (.int p2), .val (.int p3), .val (.int p4), .val (.int (0 : Int32)), .unset, .unset, .unset, .unset, .unset, .unset, .unset, .unset] at_6 8 rfl rfl ?_
  refine g_iloadN X0 B at_8 9 rfl rfl ?_
  refine g_callS X0 B [.int p1] [] at_9 12 rfl rfl (hw _ (List.mem_of_getElem? (i := 1) rfl)) (hw _ (List.mem_of_getElem? (i := 2) rfl)) (hw _ (List.mem_of_getElem? (i := 3) rfl)) (hw _ (List.mem_of_getElem? (i := 4) rfl)) (by decide) (lenOf pd_1 rfl) (rm_ch l Z ag hw p1 h0 n0) e0 rfl 0 (Nat.le_of_eq rfl) (by decide) (by decide) (by decide) (by decide) (fun v1 T1 h1 L1 X1 e1 q1 => ?_)
  obtain ⟨c0, rfl, hx0, hy0, N1, rfl⟩ := q1
  show Go p e below _ (T1.setTop (mkF m 12 #[.val (.int p0), .val (.int p1), .val (.int p2), .val (.int p3), .val (.int p4), .val (.int (0 : Int32)), .unset, .unset, .unset, .unset, .unset, .unset, .unset, .unset] [.int c0]))
  refine g_istore X1 B #[.val (.int p0), .val (.int p1), .val (.int p2), .val (.int p3), .val (.int p4), .val (.int (0 : Int32)), .val (.int c0), .unset, .unset, .unset, .unset, .unset, .unset, .unset] at_12 14 rfl rfl ?_
  refine g_iloadN X1 B at_14 15 rfl rfl ?_
  refine g_callS X1 B [.int p2] [] at_15 18 rfl rfl (hw _ (List.mem_of_getElem? (i := 1) rfl)) (hw _ (List.mem_of_getElem? (i := 2) rfl)) (hw _ (List.mem_of_getElem? (i := 3) rfl)) (hw _ (List.mem_of_getElem? (i := 4) rfl)) (by decide) (lenOf pd_1 rfl) (rm_ch l Z ag hw p2 h0 n0) e1 rfl 0 (Nat.le_of_eq rfl) (by decide) (by decide) (by decide) (by decide) (fun v2 T2 h2 L2 X2 e2 q2 => ?_)
  obtain ⟨c1, rfl, hx1, hy1, N2, rfl⟩ := q2
  show Go p e below _ (T2.setTop (mkF m 18 #[.val (.int p0), .val (.int p1), .val (.int p2), .val (.int p3), .val (.int p4), .val (.int (0 : Int32)), .val (.int c0), .unset, .unset, .unset, .unset, .unset, .unset, .unset] [.int c1]))
  refine g_istore X2 B #[.val (.int p0), .val (.int p1), .val (.int p2), .val (.int p3), .val (.int p4), .val (.int (0 : Int32)), .val (.int c0), .val (.int c1), .unset, .unset, .unset, .unset, .unset, .unset] at_18 20 rfl rfl ?_
  refine g_iloadN X2 B at_20 21 rfl rfl ?_
  refine g_callS X2 B [.int p3] [] at_21 24 rfl rfl (hw _ (List.mem_of_getElem? (i := 1) rfl)) (hw _ (List.mem_of_getElem? (i := 2) rfl)) (hw _ (List.mem_of_getElem? (i := 3) rfl)) (hw _ (List.mem_of_getElem? (i := 4) rfl)) (by decide) (lenOf pd_1 rfl) (rm_ch l Z ag hw p3 h0 n0) e2 rfl 0 (Nat.le_of_eq rfl) (by decide) (by decide) (by decide) (by decide) (fun v3 T3 h3 L3 X3 e3 q3 => ?_)
  obtain ⟨c2, rfl, hx2, hy2, N3, rfl⟩ := q3
  show Go p e below _ (T3.setTop (mkF m 24 #[.val (.int p0), .val (.int p1), .val (.int p2), .val (.int p3), .val (.int p4), .val (.int (0 : Int32)), .val (.int c0), .val (.int c1), .unset, .unset, .unset, .unset, .unset, .unset] [.int c2]))
  refine g_istore X3 B #[.val (.int p0), .val (.int p1), .val (.int p2), .val (.int p3), .val (.int p4), .val (.int (0 : Int32)), .val (.int c0), .val (.int c1), .val (.int c2), .unset, .unset, .unset, .unset, .unset] at_24 26 rfl rfl ?_
  refine g_iload X3 B at_26 28 rfl rfl ?_
  refine g_callS X3 B [.int p4] [] at_28 31 rfl rfl (hw _ (List.mem_of_getElem? (i := 1) rfl)) (hw _ (List.mem_of_getElem? (i := 2) rfl)) (hw _ (List.mem_of_getElem? (i := 3) rfl)) (hw _ (List.mem_of_getElem? (i := 4) rfl)) (by decide) (lenOf pd_1 rfl) (rm_ch l Z ag hw p4 h0 n0) e3 rfl 0 (Nat.le_of_eq rfl) (by decide) (by decide) (by decide) (by decide) (fun v4 T4 h4 L4 X4 e4 q4 => ?_)
  obtain ⟨c3, rfl, hx3, hy3, N4, rfl⟩ := q4
  show Go p e below _ (T4.setTop (mkF m 31 #[.val (.int p0), .val (.int p1), .val (.int p2), .val (.int p3), .val (.int p4), .val (.int (0 : Int32)), .val (.int c0), .val (.int c1), .val (.int c2), .unset, .unset, .unset, .unset, .unset] [.int c3]))
  refine g_istore X4 B #[.val (.int p0), .val (.int p1), .val (.int p2), .val (.int p3), .val (.int p4), .val (.int (0 : Int32)), .val (.int c0), .val (.int c1), .val (.int c2), .val (.int c3), .unset, .unset, .unset, .unset] at_31 33 rfl rfl ?_
  refine g_iload X4 B at_33 35 rfl rfl ?_
  refine g_if_ne X4 B at_35 46 38 rfl (by decide) rfl (fun z => own_abs (by decide) z) (fun _ => ?_)
  refine g_iconst X4 B (0) at_38 39 rfl rfl ?_
  refine g_newP X4 B [] at_39 41 rfl (hw _ (List.mem_of_getElem? (i := 5) rfl)) e4 (by decide) rfl (by decide) (by decide) (by decide) (fun T5 h5 ar X5 e5 ea5 E5 A5 => ?_)
  have g_ar : n0 ≤ ar := ea5 ▸ Z0
  have gg_ar : h0.size ≤ ar := ea5 ▸ (Keep.refl h0 []).1
  refine g_astore X5 B #[.val (.int p0), .val (.int p1), .val (.int p2), .val (.int p3), .val (.int p4), .val (.int (0 : Int32)), .val (.int c0), .val (.int c1), .val (.int c2), .val (.int c3), .val (.ref ar), .unset, .unset, .unset] at_41 43 rfl rfl rfl ?_
  refine g_goto X5 B at_43 143 rfl (by decide) ?_
  refine g_new X5 B at_143 146 rfl (hw _ (List.mem_of_getElem? (i := 6) rfl)) (hw _ (List.mem_of_getElem? (i := 7) rfl)) (hw _ (List.mem_of_getElem? (i := 8) rfl)) e5 (by decide) (by decide) (fun T6 h6 str X6 e6 ea6 E6 A6 D6 => ?_)
  have t1 := (Nat.le_trans Z0 E5.1)
  have t2 := (Keep.ext (Keep.refl h0 []) E5)
  have g_str : n0 ≤ str := ea6 ▸ t1
  have gg_str : h0.size ≤ str := ea6 ▸ t2.1
  have t3 : ar ≠ str := ea6 ▸ Nat.ne_of_lt (A5.lt)
  have D6_0 : Fld Z h6 str "java/lang/String" "value" "[B" (.null) := D6 (Or.inr (hw _ (List.mem_of_getElem? (i := 21) rfl))) (ty := (.array .byte)) (by decide)
  have D6_1 : Fld Z h6 str "java/lang/String" "coder" "B" (.int 0) := D6 (Or.inr (hw _ (List.mem_of_getElem? (i := 22) rfl))) (ty := .byte) (by decide)
  refine g_dup X6 B at_146 147 rfl rfl ?_
  refine g_aload X6 B at_147 149 rfl rfl rfl ?_
  have t4 := (Keep.ext t2 E6)
  have t5 := (Nat.le_trans t1 E6.1)
  have t6 := (Av.ext A5 E6)
  refine g_callNW X6 B hS (Nat.zero_le _) I [.ref ar] [.ref str] at_149 152 rfl rfl rfl (hw _ (List.mem_of_getElem? (i := 9) rfl)) (hw _ (List.mem_of_getElem? (i := 10) rfl)) (hw _ (List.mem_of_getElem? (i := 11) rfl)) (hw _ (List.mem_of_getElem? (i := 8) rfl)) (by decide) (lenOf pd_2 rfl) (rW_i1 l Z ag hw str ar h6 n0 t5 g_str A6 D6_0 D6_1 (fun b cl q => t4.2.1 b cl (OZ b cl q) nin0) hH7 hcw t6) e6 rfl 1 (Nat.le_of_eq rfl) (by decide) (by decide) (by decide) (by decide) (fun v7 T7 h7 L7 X7 B e7 hS q7 => ?_)
  obtain ⟨bb, rfl, N7, K7, f1, f2, f3, I⟩ := q7
  show Go p e below _ (T7.setTop (mkF m 152 #[.val (.int p0), .val (.int p1), .val (.int p2), .val (.int p3), .val (.int p4), .val (.int (0 : Int32)), .val (.int c0), .val (.int c1), .val (.int c2), .val (.int c3), .val (.ref ar), .unset, .unset, .unset] [.ref str]))
  have kk7 : h7.size ≤ h7.size := Nat.le_refl _
  have hLv : own_L [] [] := own_L0 (vs := [])
  refine g_astore X7 B #[.val (.int p0), .val (.int p1), .val (.int p2), .val (.int p3), .val (.int p4), .val (.int (0 : Int32)), .val (.int c0), .val (.int c1), .val (.int c2), .val (.int c3), .val (.ref ar), .val (.ref str), .unset, .unset] at_152 154 rfl rfl rfl ?_
  refine g_aload X7 B at_154 156 rfl rfl rfl ?_
  have t7 := (Exa.keep A6 K7)
  have t8 := (own_stkw (Sta.ext E6 (Sta.ext E5 SC)) K7 (own_plE A6 own_pl0))
  have t9 := (own_stkw (Sta.ext E6 (Sta.ext E5 SF)) K7 (own_plE A6 own_pl0))
  refine g_callS X7 B [.ref str] [] at_156 159 rfl rfl (hw _ (List.mem_of_getElem? (i := 27) rfl)) (hw _ (List.mem_of_getElem? (i := 28) rfl)) (hw _ (List.mem_of_getElem? (i := 29) rfl)) (hw _ (List.mem_of_getElem? (i := 30) rfl)) (by decide) (lenOf pd_5 rfl) (rL_of0 l Z ag hw str bb cx [] [] g h7 n0 t7 f1 f2 f3 (by simp) hLv t8 hcx t9 hg rfl) e7 rfl 0 (Nat.le_of_eq rfl) (by decide) (by decide) (by decide) (by decide) (fun v8 T8 h8 L8 X8 e8 q8 => ?_)
  obtain ⟨rfl, N8, rfl⟩ := q8
  show Go p e below _ (T8.setTop (mkF m 159 #[.val (.int p0), .val (.int p1), .val (.int p2), .val (.int p3), .val (.int p4), .val (.int (0 : Int32)), .val (.int c0), .val (.int c1), .val (.int c2), .val (.int c3), .val (.ref ar), .val (.ref str), .unset, .unset] [.ref str]))
  have hO : own_Of ([] : List Int32) 0 := ⟨Nat.le_refl _, Or.inl rfl, fun j c _ q => by simp at q⟩
  have hLr : own_L [] (([] : List Int32).take 0) := own_L0 (vs := [])
  have hkn : ((([] : List Int32)).take 0).length = 0 := own_tlen hO.1
  have hk4 : 0 ≤ 0 := hO.1
  refine g_astore X8 B #[.val (.int p0), .val (.int p1), .val (.int p2), .val (.int p3), .val (.int p4), .val (.int (0 : Int32)), .val (.int c0), .val (.int c1), .val (.int c2), .val (.int c3), .val (.ref ar), .val (.ref str), .val (.ref str), .unset] at_159 161 rfl rfl rfl ?_
  refine g_aload X8 B at_161 163 rfl rfl rfl ?_
  refine g_callV X8 B [] [] at_163 166 rfl rfl (hw _ (List.mem_of_getElem? (i := 56) rfl)) (hw _ (List.mem_of_getElem? (i := 32) rfl)) (hw _ (List.mem_of_getElem? (i := 34) rfl)) (hw _ (List.mem_of_getElem? (i := 33) rfl)) (hw _ (List.mem_of_getElem? (i := 8) rfl)) (hw _ (List.mem_of_getElem? (i := 35) rfl)) (by decide) (lenOf pd_6 rfl) t7 (rS_len l Z ag hw str bb cx [] ((([] : List Int32)).take 0) h7 n0 t7 f1 f2 f3 (by rw [hkn]; omega) hLr t8 hcx) e8 rfl 0 (Nat.le_of_eq rfl) (by decide) (by decide) (by decide) (by decide) (fun v9 T9 h9 L9 X9 e9 q9 => ?_)
  obtain ⟨rfl, N9, rfl⟩ := q9
  show Go p e below _ (T9.setTop (mkF m 166 #[.val (.int p0), .val (.int p1), .val (.int p2), .val (.int p3), .val (.int p4), .val (.int (0 : Int32)), .val (.int c0), .val (.int c1), .val (.int c2), .val (.int c3), .val (.ref ar), .val (.ref str), .val (.ref str), .unset] [.int (Int32.ofNat ((([] : List Int32)).take 0).length)]))
  rw [hkn]
  refine g_istore X9 B #[.val (.int p0), .val (.int p1), .val (.int p2), .val (.int p3), .val (.int p4), .val (.int (0 : Int32)), .val (.int c0), .val (.int c1), .val (.int c2), .val (.int c3), .val (.ref ar), .val (.ref str), .val (.ref str), .val (.int (Int32.ofNat 0))] at_166 168 rfl rfl ?_
  refine g_iload X9 B at_168 170 rfl rfl ?_
  refine g_iload X9 B at_170 172 rfl rfl ?_
  refine g_icmp_le X9 B at_172 177 175 rfl (by decide) rfl (fun _ => ?_) (fun z => own_abs' (fun z => absurd ((own_lt (i := 0) (n := 0) (by omega) (by omega)).mp z) (by omega)) z)
  refine g_iload X9 B at_177 179 rfl rfl ?_
  refine g_if_le X9 B at_179 198 182 rfl (by decide) rfl (fun _ => ?_) (fun z => own_abs' (by decide) z)
  refine g_aload X9 B at_198 200 rfl rfl rfl ?_
  refine g_aload X9 B at_200 202 rfl rfl rfl ?_
  refine g_iconst X9 B (0) at_202 203 rfl rfl ?_
  refine g_iload X9 B at_203 205 rfl rfl ?_
  refine g_iload X9 B at_205 207 rfl rfl ?_
  refine g_callS X9 B [.ref str, .ref str, .int (0 : Int32), .int (0 : Int32), .int (Int32.ofNat 0)] [] at_207 210 rfl rfl (hw _ (List.mem_of_getElem? (i := 57) rfl)) (hw _ (List.mem_of_getElem? (i := 58) rfl)) (hw _ (List.mem_of_getElem? (i := 3) rfl)) (hw _ (List.mem_of_getElem? (i := 59) rfl)) (by decide) (lenOf pd_11 rfl) (rm_at l Z ag hw str bb str bb cx [] [] ([] : List Int32) g 0 0 h7 n0 t7 f1 f2 f3 (by simp) hLv t8 hcx t7 f1 f2 f3 (by rw [hkn]; omega) hLr t9 hg (fun c q => nomatch q) hO (by decide)) e9 rfl 0 (Nat.le_of_eq rfl) (by decide) (by decide) (by decide) (by decide) (fun v10 T10 h10 L10 X10 e10 q10 => ?_)
  obtain ⟨rfl, N10, rfl⟩ := q10
  show Go p e below _ (T10.setTop (mkF m 210 #[.val (.int p0), .val (.int p1), .val (.int p2), .val (.int p3), .val (.int p4), .val (.int (0 : Int32)), .val (.int c0), .val (.int c1), .val (.int c2), .val (.int c3), .val (.ref ar), .val (.ref str), .val (.ref str), .val (.int (Int32.ofNat 0))] [.int (1 : Int32)]))
  refine g_if_eq X10 B at_210 262 213 rfl (by decide) rfl (fun z => own_abs' (by decide) z) (fun _ => ?_)
  refine g_aload X10 B at_213 215 rfl rfl rfl ?_
  refine g_aload X10 B at_215 217 rfl rfl rfl ?_
  refine g_iconst X10 B (1) at_217 218 rfl rfl ?_
  refine g_iload X10 B at_218 220 rfl rfl ?_
  refine g_iload X10 B at_220 222 rfl rfl ?_
  refine g_callS X10 B [.ref str, .ref str, .int (1 : Int32), .int (0 : Int32), .int (Int32.ofNat 0)] [] at_222 225 rfl rfl (hw _ (List.mem_of_getElem? (i := 57) rfl)) (hw _ (List.mem_of_getElem? (i := 58) rfl)) (hw _ (List.mem_of_getElem? (i := 3) rfl)) (hw _ (List.mem_of_getElem? (i := 59) rfl)) (by decide) (lenOf pd_11 rfl) (rm_at l Z ag hw str bb str bb cx [] [] ([] : List Int32) g 1 0 h7 n0 t7 f1 f2 f3 (by simp) hLv t8 hcx t7 f1 f2 f3 (by rw [hkn]; omega) hLr t9 hg (fun c q => nomatch q) hO (by decide)) e10 rfl 0 (Nat.le_of_eq rfl) (by decide) (by decide) (by decide) (by decide) (fun v11 T11 h11 L11 X11 e11 q11 => ?_)
  obtain ⟨rfl, N11, rfl⟩ := q11
  show Go p e below _ (T11.setTop (mkF m 225 #[.val (.int p0), .val (.int p1), .val (.int p2), .val (.int p3), .val (.int p4), .val (.int (0 : Int32)), .val (.int c0), .val (.int c1), .val (.int c2), .val (.int c3), .val (.ref ar), .val (.ref str), .val (.ref str), .val (.int (Int32.ofNat 0))] [.int (1 : Int32)]))
  refine g_if_eq X11 B at_225 262 228 rfl (by decide) rfl (fun z => own_abs' (by decide) z) (fun _ => ?_)
  refine g_aload X11 B at_228 230 rfl rfl rfl ?_
  refine g_aload X11 B at_230 232 rfl rfl rfl ?_
  refine g_iconst X11 B (2) at_232 233 rfl rfl ?_
  refine g_iload X11 B at_233 235 rfl rfl ?_
  refine g_iload X11 B at_235 237 rfl rfl ?_
  refine g_callS X11 B [.ref str, .ref str, .int (2 : Int32), .int (0 : Int32), .int (Int32.ofNat 0)] [] at_237 240 rfl rfl (hw _ (List.mem_of_getElem? (i := 57) rfl)) (hw _ (List.mem_of_getElem? (i := 58) rfl)) (hw _ (List.mem_of_getElem? (i := 3) rfl)) (hw _ (List.mem_of_getElem? (i := 59) rfl)) (by decide) (lenOf pd_11 rfl) (rm_at l Z ag hw str bb str bb cx [] [] ([] : List Int32) g 2 0 h7 n0 t7 f1 f2 f3 (by simp) hLv t8 hcx t7 f1 f2 f3 (by rw [hkn]; omega) hLr t9 hg (fun c q => nomatch q) hO (by decide)) e11 rfl 0 (Nat.le_of_eq rfl) (by decide) (by decide) (by decide) (by decide) (fun v12 T12 h12 L12 X12 e12 q12 => ?_)
  obtain ⟨rfl, N12, rfl⟩ := q12
  show Go p e below _ (T12.setTop (mkF m 240 #[.val (.int p0), .val (.int p1), .val (.int p2), .val (.int p3), .val (.int p4), .val (.int (0 : Int32)), .val (.int c0), .val (.int c1), .val (.int c2), .val (.int c3), .val (.ref ar), .val (.ref str), .val (.ref str), .val (.int (Int32.ofNat 0))] [.int (1 : Int32)]))
  refine g_if_eq X12 B at_240 262 243 rfl (by decide) rfl (fun z => own_abs' (by decide) z) (fun _ => ?_)
  refine g_aload X12 B at_243 245 rfl rfl rfl ?_
  refine g_aload X12 B at_245 247 rfl rfl rfl ?_
  refine g_iconst X12 B (3) at_247 248 rfl rfl ?_
  refine g_iload X12 B at_248 250 rfl rfl ?_
  refine g_iload X12 B at_250 252 rfl rfl ?_
  refine g_callS X12 B [.ref str, .ref str, .int (3 : Int32), .int (0 : Int32), .int (Int32.ofNat 0)] [] at_252 255 rfl rfl (hw _ (List.mem_of_getElem? (i := 57) rfl)) (hw _ (List.mem_of_getElem? (i := 58) rfl)) (hw _ (List.mem_of_getElem? (i := 3) rfl)) (hw _ (List.mem_of_getElem? (i := 59) rfl)) (by decide) (lenOf pd_11 rfl) (rm_at l Z ag hw str bb str bb cx [] [] ([] : List Int32) g 3 0 h7 n0 t7 f1 f2 f3 (by simp) hLv t8 hcx t7 f1 f2 f3 (by rw [hkn]; omega) hLr t9 hg (fun c q => nomatch q) hO (by decide)) e12 rfl 0 (Nat.le_of_eq rfl) (by decide) (by decide) (by decide) (by decide) (fun v13 T13 h13 L13 X13 e13 q13 => ?_)
  obtain ⟨rfl, N13, rfl⟩ := q13
  show Go p e below _ (T13.setTop (mkF m 255 #[.val (.int p0), .val (.int p1), .val (.int p2), .val (.int p3), .val (.int p4), .val (.int (0 : Int32)), .val (.int c0), .val (.int c1), .val (.int c2), .val (.int c3), .val (.ref ar), .val (.ref str), .val (.ref str), .val (.int (Int32.ofNat 0))] [.int (1 : Int32)]))
  refine g_if_eq X13 B at_255 262 258 rfl (by decide) rfl (fun z => own_abs' (by decide) z) (fun _ => ?_)
  refine g_iconst X13 B (1) at_258 259 rfl rfl ?_
  refine g_goto X13 B at_259 263 rfl (by decide) ?_
  exact g_retNW X13 B at_263 rfl rfl (by decide) (by decide) (by decide) e13 hS kk7 (fun vm hvm => ⟨rfl, ((((((((((((Fr.nil n0).app N1).app N2).app N3).app N4).app N7).app N8).app N9).app N10).app N11).app N12).app N13)⟩)
set_option maxRecDepth 65536 in
set_option maxHeartbeats 40000000 in
theorem rm0_1 (l : Launch) (Z : State) (ag : Array Value) (hw : ∀ d ∈ tables_1, d.before ag Z = true) (p0 p1 p2 p3 p4 cx : Int32) (g : Value) (h0 : Heap) (n0 : Nat) (Z0 : n0 ≤ h0.size) (SC : Sta Z h0 "java/lang/String" "COMPACT_STRINGS" "Z" (.int cx)) (hcx : ¬ cx = 0) (SF : Sta Z h0 "jdk/internal/util/Preconditions" "SIOOBE_FORMATTER" "Ljava/util/function/BiFunction;" g) (hg : g.isRef = true) (kk5 : ((p0 &&& (2147483647 : Int32)) % (5 : Int32)) = 1) (OZ : ∀ (b : Addr) (cl : Cell), Z.heap[b]? = some cl → h0[b]? = some cl) (hH7 : Jvm.Lit.constHeld Z "java/lang/String" 7) (hH : Jvm.Lit.constHeld Z "java/lang/StringLatin1" 151) (hcw : Jvm.Lit.compactW.before ag Z = true) :
    CtrW l Z x code maxLocals ret room_1 #[.int p0, .int p1, .int p2, .int p3, .int p4] h0 [] (fun v h vm L => v = some (.int 1) ∧ Fr n0 L) := by
  refine CtrW.of pn_0 ?_
  intro p e s m below meth c T0 X0 B e0 hs0 hS I
  refine Go.cast (f' := mkF m 0 #[.val (.int p0), .val (.int p1), .val (.int p2), .val (.int p3), .val (.int p4), .unset, .unset, .unset, .unset, .unset, .unset, .unset, .unset, .unset] []) (by first | rfl | (simp [entryFrame, mkF, argsToLocals, Value.category, maxLocals]; done)) ?_

  refine g_iloadN X0 B at_0 1 rfl rfl ?_
  refine g_ldcI X0 B at_1 3 rfl (hw _ (List.mem_of_getElem? (i := 0) rfl)) ?_
  refine g_iand X0 B at_3 4 rfl ?_
  refine g_iconst X0 B (5) at_4 5 rfl rfl ?_
  refine g_irem X0 B at_5 6 rfl (by decide) ?_
  rw [kk5]
  show Go p e below _ (T0.setTop (mkF m 6 #[.val (.int p0), .val (.int p1), .val (.int p2), .val (.int p3), .val (.int p4), .unset, .unset, .unset, .unset, .unset, .unset, .unset, .unset, .unset] [.int (1 : Int32)]))
  refine g_istore X0 B #[.val (.int p0), .val (.int p1), .val (.int p2), .val (.int p3), .val (.int p4), .val (.int (1 : Int32)), .unset, .unset, .unset, .unset, .unset, .unset, .unset, .unset] at_6 8 rfl rfl ?_
  refine g_iloadN X0 B at_8 9 rfl rfl ?_
  refine g_callS X0 B [.int p1] [] at_9 12 rfl rfl (hw _ (List.mem_of_getElem? (i := 1) rfl)) (hw _ (List.mem_of_getElem? (i := 2) rfl)) (hw _ (List.mem_of_getElem? (i := 3) rfl)) (hw _ (List.mem_of_getElem? (i := 4) rfl)) (by decide) (lenOf pd_1 rfl) (rm_ch l Z ag hw p1 h0 n0) e0 rfl 0 (Nat.le_of_eq rfl) (by decide) (by decide) (by decide) (by decide) (fun v1 T1 h1 L1 X1 e1 q1 => ?_)
  obtain ⟨c0, rfl, hx0, hy0, N1, rfl⟩ := q1
  show Go p e below _ (T1.setTop (mkF m 12 #[.val (.int p0), .val (.int p1), .val (.int p2), .val (.int p3), .val (.int p4), .val (.int (1 : Int32)), .unset, .unset, .unset, .unset, .unset, .unset, .unset, .unset] [.int c0]))
  refine g_istore X1 B #[.val (.int p0), .val (.int p1), .val (.int p2), .val (.int p3), .val (.int p4), .val (.int (1 : Int32)), .val (.int c0), .unset, .unset, .unset, .unset, .unset, .unset, .unset] at_12 14 rfl rfl ?_
  refine g_iloadN X1 B at_14 15 rfl rfl ?_
  refine g_callS X1 B [.int p2] [] at_15 18 rfl rfl (hw _ (List.mem_of_getElem? (i := 1) rfl)) (hw _ (List.mem_of_getElem? (i := 2) rfl)) (hw _ (List.mem_of_getElem? (i := 3) rfl)) (hw _ (List.mem_of_getElem? (i := 4) rfl)) (by decide) (lenOf pd_1 rfl) (rm_ch l Z ag hw p2 h0 n0) e1 rfl 0 (Nat.le_of_eq rfl) (by decide) (by decide) (by decide) (by decide) (fun v2 T2 h2 L2 X2 e2 q2 => ?_)
  obtain ⟨c1, rfl, hx1, hy1, N2, rfl⟩ := q2
  show Go p e below _ (T2.setTop (mkF m 18 #[.val (.int p0), .val (.int p1), .val (.int p2), .val (.int p3), .val (.int p4), .val (.int (1 : Int32)), .val (.int c0), .unset, .unset, .unset, .unset, .unset, .unset, .unset] [.int c1]))
  refine g_istore X2 B #[.val (.int p0), .val (.int p1), .val (.int p2), .val (.int p3), .val (.int p4), .val (.int (1 : Int32)), .val (.int c0), .val (.int c1), .unset, .unset, .unset, .unset, .unset, .unset] at_18 20 rfl rfl ?_
  refine g_iloadN X2 B at_20 21 rfl rfl ?_
  refine g_callS X2 B [.int p3] [] at_21 24 rfl rfl (hw _ (List.mem_of_getElem? (i := 1) rfl)) (hw _ (List.mem_of_getElem? (i := 2) rfl)) (hw _ (List.mem_of_getElem? (i := 3) rfl)) (hw _ (List.mem_of_getElem? (i := 4) rfl)) (by decide) (lenOf pd_1 rfl) (rm_ch l Z ag hw p3 h0 n0) e2 rfl 0 (Nat.le_of_eq rfl) (by decide) (by decide) (by decide) (by decide) (fun v3 T3 h3 L3 X3 e3 q3 => ?_)
  obtain ⟨c2, rfl, hx2, hy2, N3, rfl⟩ := q3
  show Go p e below _ (T3.setTop (mkF m 24 #[.val (.int p0), .val (.int p1), .val (.int p2), .val (.int p3), .val (.int p4), .val (.int (1 : Int32)), .val (.int c0), .val (.int c1), .unset, .unset, .unset, .unset, .unset, .unset] [.int c2]))
  refine g_istore X3 B #[.val (.int p0), .val (.int p1), .val (.int p2), .val (.int p3), .val (.int p4), .val (.int (1 : Int32)), .val (.int c0), .val (.int c1), .val (.int c2), .unset, .unset, .unset, .unset, .unset] at_24 26 rfl rfl ?_
  refine g_iload X3 B at_26 28 rfl rfl ?_
  refine g_callS X3 B [.int p4] [] at_28 31 rfl rfl (hw _ (List.mem_of_getElem? (i := 1) rfl)) (hw _ (List.mem_of_getElem? (i := 2) rfl)) (hw _ (List.mem_of_getElem? (i := 3) rfl)) (hw _ (List.mem_of_getElem? (i := 4) rfl)) (by decide) (lenOf pd_1 rfl) (rm_ch l Z ag hw p4 h0 n0) e3 rfl 0 (Nat.le_of_eq rfl) (by decide) (by decide) (by decide) (by decide) (fun v4 T4 h4 L4 X4 e4 q4 => ?_)
  obtain ⟨c3, rfl, hx3, hy3, N4, rfl⟩ := q4
  show Go p e below _ (T4.setTop (mkF m 31 #[.val (.int p0), .val (.int p1), .val (.int p2), .val (.int p3), .val (.int p4), .val (.int (1 : Int32)), .val (.int c0), .val (.int c1), .val (.int c2), .unset, .unset, .unset, .unset, .unset] [.int c3]))
  refine g_istore X4 B #[.val (.int p0), .val (.int p1), .val (.int p2), .val (.int p3), .val (.int p4), .val (.int (1 : Int32)), .val (.int c0), .val (.int c1), .val (.int c2), .val (.int c3), .unset, .unset, .unset, .unset] at_31 33 rfl rfl ?_
  refine g_iload X4 B at_33 35 rfl rfl ?_
  refine g_if_ne X4 B at_35 46 38 rfl (by decide) rfl (fun _ => ?_) (fun z => own_abs' (by decide) z)
  refine g_iload X4 B at_46 48 rfl rfl ?_
  refine g_iconst X4 B (1) at_48 49 rfl rfl ?_
  refine g_icmp_ne X4 B at_49 65 52 rfl (by decide) rfl (fun z => own_abs (by decide) z) (fun _ => ?_)
  refine g_iconst X4 B (1) at_52 53 rfl rfl ?_
  refine g_newP X4 B [(.int 0 : Value)] at_53 55 rfl (hw _ (List.mem_of_getElem? (i := 5) rfl)) e4 (by decide) rfl (by decide) (by decide) (by decide) (fun T5 h5 ar X5 e5 ea5 E5 A5 => ?_)
  have g_ar : n0 ≤ ar := ea5 ▸ Z0
  have gg_ar : h0.size ≤ ar := ea5 ▸ (Keep.refl h0 []).1
  refine g_dup X5 B at_55 56 rfl rfl ?_
  refine g_iconst X5 B (0) at_56 57 rfl rfl ?_
  refine g_iload X5 B at_57 59 rfl rfl ?_
  refine g_castore X5 B 0 at_59 60 rfl e5 A5 (by decide) (by decide) (by simp) (fun T6 h6 X6 e6 W6 A6 => ?_)
  rw [own_nc hx0] at A6 W6
  replace A6 : Av Z h6 ar .char [(.int c0 : Value)] := A6
  refine g_astore X6 B #[.val (.int p0), .val (.int p1), .val (.int p2), .val (.int p3), .val (.int p4), .val (.int (1 : Int32)), .val (.int c0), .val (.int c1), .val (.int c2), .val (.int c3), .val (.ref ar), .unset, .unset, .unset] at_60 62 rfl rfl rfl ?_
  refine g_goto X6 B at_62 143 rfl (by decide) ?_
  refine g_new X6 B at_143 146 rfl (hw _ (List.mem_of_getElem? (i := 6) rfl)) (hw _ (List.mem_of_getElem? (i := 7) rfl)) (hw _ (List.mem_of_getElem? (i := 8) rfl)) e6 (by decide) (by decide) (fun T7 h7 str X7 e7 ea7 E7 A7 D7 => ?_)
  have t1 := (Nat.le_trans (Nat.le_trans Z0 E5.1) (Nat.le_of_eq W6.size.symm))
  have t2 := (Keep.wr (Keep.ext (Keep.refl h0 []) E5) W6 (Or.inr gg_ar))
  have g_str : n0 ≤ str := ea7 ▸ t1
  have gg_str : h0.size ≤ str := ea7 ▸ t2.1
  have t3 : ar ≠ str := ea7 ▸ Nat.ne_of_lt (A6.lt)
  have D7_0 : Fld Z h7 str "java/lang/String" "value" "[B" (.null) := D7 (Or.inr (hw _ (List.mem_of_getElem? (i := 21) rfl))) (ty := (.array .byte)) (by decide)
  have D7_1 : Fld Z h7 str "java/lang/String" "coder" "B" (.int 0) := D7 (Or.inr (hw _ (List.mem_of_getElem? (i := 22) rfl))) (ty := .byte) (by decide)
  refine g_dup X7 B at_146 147 rfl rfl ?_
  refine g_aload X7 B at_147 149 rfl rfl rfl ?_
  have t4 := (Nat.le_trans t1 E7.1)
  have t5 := (Av.ext A6 E7)
  have t6 := (Sta.ext E7 (Sta.wr W6 (Sta.ext E5 SC)))
  refine g_callN X7 B [.ref ar] [.ref str] at_149 152 rfl rfl rfl (hw _ (List.mem_of_getElem? (i := 9) rfl)) (hw _ (List.mem_of_getElem? (i := 10) rfl)) (hw _ (List.mem_of_getElem? (i := 11) rfl)) (hw _ (List.mem_of_getElem? (i := 8) rfl)) (by decide) (lenOf pd_2 rfl) (rS_i1 l Z ag hw str ar [c0] cx h7 n0 t4 (by simp) (by simp) (own_chl1 hy0 hy1 hy2 hy3) g_str A7 D7_0 D7_1 t5 t6 hcx) e7 rfl 1 (Nat.le_of_eq rfl) (by decide) (by decide) (by decide) (by decide) (fun v8 T8 h8 L8 X8 e8 q8 => ?_)
  obtain ⟨bb, vs, rfl, N8, K8, f1, f2, f3, hLv, f5, f6⟩ := q8
  show Go p e below _ (T8.setTop (mkF m 152 #[.val (.int p0), .val (.int p1), .val (.int p2), .val (.int p3), .val (.int p4), .val (.int (1 : Int32)), .val (.int c0), .val (.int c1), .val (.int c2), .val (.int c3), .val (.ref ar), .unset, .unset, .unset] [.ref str]))
  refine g_astore X8 B #[.val (.int p0), .val (.int p1), .val (.int p2), .val (.int p3), .val (.int p4), .val (.int (1 : Int32)), .val (.int c0), .val (.int c1), .val (.int c2), .val (.int c3), .val (.ref ar), .val (.ref str), .unset, .unset] at_152 154 rfl rfl rfl ?_
  refine g_aload X8 B at_154 156 rfl rfl rfl ?_
  have t7 := (Keep.trans (Keep.ext t2 E7) K8 (allS (Or.inr gg_str) all0))
  have t8 := (Nat.le_trans t4 K8.1)
  have t9 := (Exa.keep A7 K8)
  have t10 := (own_stkw t6 K8 (own_plE A7 own_pl0))
  have t11 := (own_stkw (Sta.ext E7 (Sta.wr W6 (Sta.ext E5 SF))) K8 (own_plE A7 own_pl0))
  refine g_callSW X8 B hS (Nat.zero_le _) I [.ref str] [] at_156 159 rfl rfl (hw _ (List.mem_of_getElem? (i := 27) rfl)) (hw _ (List.mem_of_getElem? (i := 28) rfl)) (hw _ (List.mem_of_getElem? (i := 29) rfl)) (hw _ (List.mem_of_getElem? (i := 30) rfl)) (by decide) (lenOf pd_5 rfl) (rW_of l Z ag hw str bb cx vs [c0] g h8 n0 t8 t9 f1 f2 f3 (by simp) hLv t10 hcx t11 hg (own_chs1 hx0 hx1 hx2 hx3) (by simp) (fun b cl q => t7.2.1 b cl (OZ b cl q) nin0) hH hcw) e8 rfl 0 (Nat.le_of_eq rfl) (by decide) (by decide) (by decide) (by decide) (fun v9 T9 h9 L9 X9 B e9 hS q9 => ?_)
  obtain ⟨k, hO, r, b2, ws, rfl, N9, K9, t2, t3, t4, t5, hLr⟩ := q9
  show Go p e below _ (T9.setTop (mkF m 159 #[.val (.int p0), .val (.int p1), .val (.int p2), .val (.int p3), .val (.int p4), .val (.int (1 : Int32)), .val (.int c0), .val (.int c1), .val (.int c2), .val (.int c3), .val (.ref ar), .val (.ref str), .unset, .unset] [.ref r]))
  have kk9 : h9.size ≤ h9.size := Nat.le_refl _
  have hkn : (([c0]).take k).length = k := own_tlen hO.1
  have hk4 : k ≤ 1 := hO.1
  refine g_astore X9 B #[.val (.int p0), .val (.int p1), .val (.int p2), .val (.int p3), .val (.int p4), .val (.int (1 : Int32)), .val (.int c0), .val (.int c1), .val (.int c2), .val (.int c3), .val (.ref ar), .val (.ref str), .val (.ref r), .unset] at_159 161 rfl rfl rfl ?_
  refine g_aload X9 B at_161 163 rfl rfl rfl ?_
  have t12 := (own_stk t10 K9)
  refine g_callV X9 B [] [] at_163 166 rfl rfl (hw _ (List.mem_of_getElem? (i := 56) rfl)) (hw _ (List.mem_of_getElem? (i := 32) rfl)) (hw _ (List.mem_of_getElem? (i := 34) rfl)) (hw _ (List.mem_of_getElem? (i := 33) rfl)) (hw _ (List.mem_of_getElem? (i := 8) rfl)) (hw _ (List.mem_of_getElem? (i := 35) rfl)) (by decide) (lenOf pd_6 rfl) t2 (rS_len l Z ag hw r b2 cx ws (([c0]).take k) h9 n0 t2 t3 t4 t5 (by rw [hkn]; omega) hLr t12 hcx) e9 rfl 0 (Nat.le_of_eq rfl) (by decide) (by decide) (by decide) (by decide) (fun v10 T10 h10 L10 X10 e10 q10 => ?_)
  obtain ⟨rfl, N10, rfl⟩ := q10
  show Go p e below _ (T10.setTop (mkF m 166 #[.val (.int p0), .val (.int p1), .val (.int p2), .val (.int p3), .val (.int p4), .val (.int (1 : Int32)), .val (.int c0), .val (.int c1), .val (.int c2), .val (.int c3), .val (.ref ar), .val (.ref str), .val (.ref r), .unset] [.int (Int32.ofNat (([c0]).take k).length)]))
  rw [hkn]
  refine g_istore X10 B #[.val (.int p0), .val (.int p1), .val (.int p2), .val (.int p3), .val (.int p4), .val (.int (1 : Int32)), .val (.int c0), .val (.int c1), .val (.int c2), .val (.int c3), .val (.ref ar), .val (.ref str), .val (.ref r), .val (.int (Int32.ofNat k))] at_166 168 rfl rfl ?_
  refine g_iload X10 B at_168 170 rfl rfl ?_
  refine g_iload X10 B at_170 172 rfl rfl ?_
  refine g_icmp_le X10 B at_172 177 175 rfl (by decide) rfl (fun _ => ?_) (fun z => own_abs' (fun z => absurd ((own_lt (i := 1) (n := k) (by omega) (by omega)).mp z) (by omega)) z)
  refine g_iload X10 B at_177 179 rfl rfl ?_
  refine g_if_le X10 B at_179 198 182 rfl (by decide) rfl (fun c11 => ?_) (fun c11 => ?_)
  · skip
    refine g_aload X10 B at_198 200 rfl rfl rfl ?_
    refine g_aload X10 B at_200 202 rfl rfl rfl ?_
    refine g_iconst X10 B (0) at_202 203 rfl rfl ?_
    refine g_iload X10 B at_203 205 rfl rfl ?_
    refine g_iload X10 B at_205 207 rfl rfl ?_
    have t13 := (Exa.keep t9 K9)
    have t14 := (Fld.keep f1 K9 nin0)
    have t15 := (Fld.keep f2 K9 nin0)
    have t16 := (Av.keep f3 K9 nin0)
    have t17 := (own_stk t11 K9)
    refine g_callS X10 B [.ref str, .ref r, .int (0 : Int32), .int (1 : Int32), .int (Int32.ofNat k)] [] at_207 210 rfl rfl (hw _ (List.mem_of_getElem? (i := 57) rfl)) (hw _ (List.mem_of_getElem? (i := 58) rfl)) (hw _ (List.mem_of_getElem? (i := 3) rfl)) (hw _ (List.mem_of_getElem? (i := 59) rfl)) (by decide) (lenOf pd_11 rfl) (rm_at l Z ag hw str bb r b2 cx vs ws [c0] g 0 k h9 n0 t13 t14 t15 t16 (by simp) hLv t12 hcx t2 t3 t4 t5 (by rw [hkn]; omega) hLr t17 hg (own_chs1 hx0 hx1 hx2 hx3) hO (by decide)) e10 rfl 0 (Nat.le_of_eq rfl) (by decide) (by decide) (by decide) (by decide) (fun v12 T12 h12 L12 X12 e12 q12 => ?_)
    obtain ⟨rfl, N12, rfl⟩ := q12
    show Go p e below _ (T12.setTop (mkF m 210 #[.val (.int p0), .val (.int p1), .val (.int p2), .val (.int p3), .val (.int p4), .val (.int (1 : Int32)), .val (.int c0), .val (.int c1), .val (.int c2), .val (.int c3), .val (.ref ar), .val (.ref str), .val (.ref r), .val (.int (Int32.ofNat k))] [.int (1 : Int32)]))
    refine g_if_eq X12 B at_210 262 213 rfl (by decide) rfl (fun z => own_abs' (by decide) z) (fun _ => ?_)
    refine g_aload X12 B at_213 215 rfl rfl rfl ?_
    refine g_aload X12 B at_215 217 rfl rfl rfl ?_
    refine g_iconst X12 B (1) at_217 218 rfl rfl ?_
    refine g_iload X12 B at_218 220 rfl rfl ?_
    refine g_iload X12 B at_220 222 rfl rfl ?_
    refine g_callS X12 B [.ref str, .ref r, .int (1 : Int32), .int (1 : Int32), .int (Int32.ofNat k)] [] at_222 225 rfl rfl (hw _ (List.mem_of_getElem? (i := 57) rfl)) (hw _ (List.mem_of_getElem? (i := 58) rfl)) (hw _ (List.mem_of_getElem? (i := 3) rfl)) (hw _ (List.mem_of_getElem? (i := 59) rfl)) (by decide) (lenOf pd_11 rfl) (rm_at l Z ag hw str bb r b2 cx vs ws [c0] g 1 k h9 n0 t13 t14 t15 t16 (by simp) hLv t12 hcx t2 t3 t4 t5 (by rw [hkn]; omega) hLr t17 hg (own_chs1 hx0 hx1 hx2 hx3) hO (by decide)) e12 rfl 0 (Nat.le_of_eq rfl) (by decide) (by decide) (by decide) (by decide) (fun v13 T13 h13 L13 X13 e13 q13 => ?_)
    obtain ⟨rfl, N13, rfl⟩ := q13
    show Go p e below _ (T13.setTop (mkF m 225 #[.val (.int p0), .val (.int p1), .val (.int p2), .val (.int p3), .val (.int p4), .val (.int (1 : Int32)), .val (.int c0), .val (.int c1), .val (.int c2), .val (.int c3), .val (.ref ar), .val (.ref str), .val (.ref r), .val (.int (Int32.ofNat k))] [.int (1 : Int32)]))
    refine g_if_eq X13 B at_225 262 228 rfl (by decide) rfl (fun z => own_abs' (by decide) z) (fun _ => ?_)
    refine g_aload X13 B at_228 230 rfl rfl rfl ?_
    refine g_aload X13 B at_230 232 rfl rfl rfl ?_
    refine g_iconst X13 B (2) at_232 233 rfl rfl ?_
    refine g_iload X13 B at_233 235 rfl rfl ?_
    refine g_iload X13 B at_235 237 rfl rfl ?_
    refine g_callS X13 B [.ref str, .ref r, .int (2 : Int32), .int (1 : Int32), .int (Int32.ofNat k)] [] at_237 240 rfl rfl (hw _ (List.mem_of_getElem? (i := 57) rfl)) (hw _ (List.mem_of_getElem? (i := 58) rfl)) (hw _ (List.mem_of_getElem? (i := 3) rfl)) (hw _ (List.mem_of_getElem? (i := 59) rfl)) (by decide) (lenOf pd_11 rfl) (rm_at l Z ag hw str bb r b2 cx vs ws [c0] g 2 k h9 n0 t13 t14 t15 t16 (by simp) hLv t12 hcx t2 t3 t4 t5 (by rw [hkn]; omega) hLr t17 hg (own_chs1 hx0 hx1 hx2 hx3) hO (by decide)) e13 rfl 0 (Nat.le_of_eq rfl) (by decide) (by decide) (by decide) (by decide) (fun v14 T14 h14 L14 X14 e14 q14 => ?_)
    obtain ⟨rfl, N14, rfl⟩ := q14
    show Go p e below _ (T14.setTop (mkF m 240 #[.val (.int p0), .val (.int p1), .val (.int p2), .val (.int p3), .val (.int p4), .val (.int (1 : Int32)), .val (.int c0), .val (.int c1), .val (.int c2), .val (.int c3), .val (.ref ar), .val (.ref str), .val (.ref r), .val (.int (Int32.ofNat k))] [.int (1 : Int32)]))
    refine g_if_eq X14 B at_240 262 243 rfl (by decide) rfl (fun z => own_abs' (by decide) z) (fun _ => ?_)
    refine g_aload X14 B at_243 245 rfl rfl rfl ?_
    refine g_aload X14 B at_245 247 rfl rfl rfl ?_
    refine g_iconst X14 B (3) at_247 248 rfl rfl ?_
    refine g_iload X14 B at_248 250 rfl rfl ?_
    refine g_iload X14 B at_250 252 rfl rfl ?_
    refine g_callS X14 B [.ref str, .ref r, .int (3 : Int32), .int (1 : Int32), .int (Int32.ofNat k)] [] at_252 255 rfl rfl (hw _ (List.mem_of_getElem? (i := 57) rfl)) (hw _ (List.mem_of_getElem? (i := 58) rfl)) (hw _ (List.mem_of_getElem? (i := 3) rfl)) (hw _ (List.mem_of_getElem? (i := 59) rfl)) (by decide) (lenOf pd_11 rfl) (rm_at l Z ag hw str bb r b2 cx vs ws [c0] g 3 k h9 n0 t13 t14 t15 t16 (by simp) hLv t12 hcx t2 t3 t4 t5 (by rw [hkn]; omega) hLr t17 hg (own_chs1 hx0 hx1 hx2 hx3) hO (by decide)) e14 rfl 0 (Nat.le_of_eq rfl) (by decide) (by decide) (by decide) (by decide) (fun v15 T15 h15 L15 X15 e15 q15 => ?_)
    obtain ⟨rfl, N15, rfl⟩ := q15
    show Go p e below _ (T15.setTop (mkF m 255 #[.val (.int p0), .val (.int p1), .val (.int p2), .val (.int p3), .val (.int p4), .val (.int (1 : Int32)), .val (.int c0), .val (.int c1), .val (.int c2), .val (.int c3), .val (.ref ar), .val (.ref str), .val (.ref r), .val (.int (Int32.ofNat k))] [.int (1 : Int32)]))
    refine g_if_eq X15 B at_255 262 258 rfl (by decide) rfl (fun z => own_abs' (by decide) z) (fun _ => ?_)
    refine g_iconst X15 B (1) at_258 259 rfl rfl ?_
    refine g_goto X15 B at_259 263 rfl (by decide) ?_
    exact g_retNW X15 B at_263 rfl rfl (by decide) (by decide) (by decide) e15 hS kk9 (fun vm hvm => ⟨rfl, ((((((((Fr.snoc X6 (((((Fr.nil n0).app N1).app N2).app N3).app N4) g_ar).app N8).app N9).app N10).app N12).app N13).app N14).app N15)⟩)
  · skip
    refine g_aload X10 B at_182 184 rfl rfl rfl ?_
    refine g_iload X10 B at_184 186 rfl rfl ?_
    refine g_iconst X10 B (1) at_186 187 rfl rfl ?_
    refine g_isub X10 B at_187 188 rfl ?_
    have hkp : 0 < k := (own_gt0 (by omega)).mp (by have q := c11; first | exact q | exact Classical.not_not.mp q)
    obtain ⟨cl, hcl, hc47⟩ := own_lastat hO hkp
    rw [own_sm1 (by omega) hkp]
    have t18 := (own_stk t11 K9)
    refine g_callV X10 B [.int (Int32.ofNat (k - 1))] [] at_188 191 rfl rfl (hw _ (List.mem_of_getElem? (i := 90) rfl)) (hw _ (List.mem_of_getElem? (i := 71) rfl)) (hw _ (List.mem_of_getElem? (i := 73) rfl)) (hw _ (List.mem_of_getElem? (i := 72) rfl)) (hw _ (List.mem_of_getElem? (i := 8) rfl)) (hw _ (List.mem_of_getElem? (i := 74) rfl)) (by decide) (lenOf pd_15 rfl) t2 (rL_cat l Z ag hw r b2 cx (k - 1) cl ws (([c0]).take k) g h9 n0 t2 t3 t4 t5 (by rw [hkn]; omega) hLr t12 hcx (by rw [hkn]; omega) (by rw [own_takeat (by omega)]; exact hcl) ((own_chs1 hx0 hx1 hx2 hx3) cl (List.mem_of_getElem? hcl)) t18 hg) e10 rfl 0 (Nat.le_of_eq rfl) (by decide) (by decide) (by decide) (by decide) (fun v16 T16 h16 L16 X16 e16 q16 => ?_)
    obtain ⟨rfl, N16, rfl⟩ := q16
    show Go p e below _ (T16.setTop (mkF m 191 #[.val (.int p0), .val (.int p1), .val (.int p2), .val (.int p3), .val (.int p4), .val (.int (1 : Int32)), .val (.int c0), .val (.int c1), .val (.int c2), .val (.int c3), .val (.ref ar), .val (.ref str), .val (.ref r), .val (.int (Int32.ofNat k))] [.int cl]))
    refine g_bipush X16 B (47) at_191 193 rfl rfl ?_
    refine g_icmp_ne X16 B at_193 198 196 rfl (by decide) rfl (fun _ => ?_) (fun z => own_abs' (hc47) z)
    refine g_aload X16 B at_198 200 rfl rfl rfl ?_
    refine g_aload X16 B at_200 202 rfl rfl rfl ?_
    refine g_iconst X16 B (0) at_202 203 rfl rfl ?_
    refine g_iload X16 B at_203 205 rfl rfl ?_
    refine g_iload X16 B at_205 207 rfl rfl ?_
    have t19 := (Exa.keep t9 K9)
    have t20 := (Fld.keep f1 K9 nin0)
    have t21 := (Fld.keep f2 K9 nin0)
    have t22 := (Av.keep f3 K9 nin0)
    refine g_callS X16 B [.ref str, .ref r, .int (0 : Int32), .int (1 : Int32), .int (Int32.ofNat k)] [] at_207 210 rfl rfl (hw _ (List.mem_of_getElem? (i := 57) rfl)) (hw _ (List.mem_of_getElem? (i := 58) rfl)) (hw _ (List.mem_of_getElem? (i := 3) rfl)) (hw _ (List.mem_of_getElem? (i := 59) rfl)) (by decide) (lenOf pd_11 rfl) (rm_at l Z ag hw str bb r b2 cx vs ws [c0] g 0 k h9 n0 t19 t20 t21 t22 (by simp) hLv t12 hcx t2 t3 t4 t5 (by rw [hkn]; omega) hLr t18 hg (own_chs1 hx0 hx1 hx2 hx3) hO (by decide)) e16 rfl 0 (Nat.le_of_eq rfl) (by decide) (by decide) (by decide) (by decide) (fun v17 T17 h17 L17 X17 e17 q17 => ?_)
    obtain ⟨rfl, N17, rfl⟩ := q17
    show Go p e below _ (T17.setTop (mkF m 210 #[.val (.int p0), .val (.int p1), .val (.int p2), .val (.int p3), .val (.int p4), .val (.int (1 : Int32)), .val (.int c0), .val (.int c1), .val (.int c2), .val (.int c3), .val (.ref ar), .val (.ref str), .val (.ref r), .val (.int (Int32.ofNat k))] [.int (1 : Int32)]))
    refine g_if_eq X17 B at_210 262 213 rfl (by decide) rfl (fun z => own_abs' (by decide) z) (fun _ => ?_)
    refine g_aload X17 B at_213 215 rfl rfl rfl ?_
    refine g_aload X17 B at_215 217 rfl rfl rfl ?_
    refine g_iconst X17 B (1) at_217 218 rfl rfl ?_
    refine g_iload X17 B at_218 220 rfl rfl ?_
    refine g_iload X17 B at_220 222 rfl rfl ?_
    refine g_callS X17 B [.ref str, .ref r, .int (1 : Int32), .int (1 : Int32), .int (Int32.ofNat k)] [] at_222 225 rfl rfl (hw _ (List.mem_of_getElem? (i := 57) rfl)) (hw _ (List.mem_of_getElem? (i := 58) rfl)) (hw _ (List.mem_of_getElem? (i := 3) rfl)) (hw _ (List.mem_of_getElem? (i := 59) rfl)) (by decide) (lenOf pd_11 rfl) (rm_at l Z ag hw str bb r b2 cx vs ws [c0] g 1 k h9 n0 t19 t20 t21 t22 (by simp) hLv t12 hcx t2 t3 t4 t5 (by rw [hkn]; omega) hLr t18 hg (own_chs1 hx0 hx1 hx2 hx3) hO (by decide)) e17 rfl 0 (Nat.le_of_eq rfl) (by decide) (by decide) (by decide) (by decide) (fun v18 T18 h18 L18 X18 e18 q18 => ?_)
    obtain ⟨rfl, N18, rfl⟩ := q18
    show Go p e below _ (T18.setTop (mkF m 225 #[.val (.int p0), .val (.int p1), .val (.int p2), .val (.int p3), .val (.int p4), .val (.int (1 : Int32)), .val (.int c0), .val (.int c1), .val (.int c2), .val (.int c3), .val (.ref ar), .val (.ref str), .val (.ref r), .val (.int (Int32.ofNat k))] [.int (1 : Int32)]))
    refine g_if_eq X18 B at_225 262 228 rfl (by decide) rfl (fun z => own_abs' (by decide) z) (fun _ => ?_)
    refine g_aload X18 B at_228 230 rfl rfl rfl ?_
    refine g_aload X18 B at_230 232 rfl rfl rfl ?_
    refine g_iconst X18 B (2) at_232 233 rfl rfl ?_
    refine g_iload X18 B at_233 235 rfl rfl ?_
    refine g_iload X18 B at_235 237 rfl rfl ?_
    refine g_callS X18 B [.ref str, .ref r, .int (2 : Int32), .int (1 : Int32), .int (Int32.ofNat k)] [] at_237 240 rfl rfl (hw _ (List.mem_of_getElem? (i := 57) rfl)) (hw _ (List.mem_of_getElem? (i := 58) rfl)) (hw _ (List.mem_of_getElem? (i := 3) rfl)) (hw _ (List.mem_of_getElem? (i := 59) rfl)) (by decide) (lenOf pd_11 rfl) (rm_at l Z ag hw str bb r b2 cx vs ws [c0] g 2 k h9 n0 t19 t20 t21 t22 (by simp) hLv t12 hcx t2 t3 t4 t5 (by rw [hkn]; omega) hLr t18 hg (own_chs1 hx0 hx1 hx2 hx3) hO (by decide)) e18 rfl 0 (Nat.le_of_eq rfl) (by decide) (by decide) (by decide) (by decide) (fun v19 T19 h19 L19 X19 e19 q19 => ?_)
    obtain ⟨rfl, N19, rfl⟩ := q19
    show Go p e below _ (T19.setTop (mkF m 240 #[.val (.int p0), .val (.int p1), .val (.int p2), .val (.int p3), .val (.int p4), .val (.int (1 : Int32)), .val (.int c0), .val (.int c1), .val (.int c2), .val (.int c3), .val (.ref ar), .val (.ref str), .val (.ref r), .val (.int (Int32.ofNat k))] [.int (1 : Int32)]))
    refine g_if_eq X19 B at_240 262 243 rfl (by decide) rfl (fun z => own_abs' (by decide) z) (fun _ => ?_)
    refine g_aload X19 B at_243 245 rfl rfl rfl ?_
    refine g_aload X19 B at_245 247 rfl rfl rfl ?_
    refine g_iconst X19 B (3) at_247 248 rfl rfl ?_
    refine g_iload X19 B at_248 250 rfl rfl ?_
    refine g_iload X19 B at_250 252 rfl rfl ?_
    refine g_callS X19 B [.ref str, .ref r, .int (3 : Int32), .int (1 : Int32), .int (Int32.ofNat k)] [] at_252 255 rfl rfl (hw _ (List.mem_of_getElem? (i := 57) rfl)) (hw _ (List.mem_of_getElem? (i := 58) rfl)) (hw _ (List.mem_of_getElem? (i := 3) rfl)) (hw _ (List.mem_of_getElem? (i := 59) rfl)) (by decide) (lenOf pd_11 rfl) (rm_at l Z ag hw str bb r b2 cx vs ws [c0] g 3 k h9 n0 t19 t20 t21 t22 (by simp) hLv t12 hcx t2 t3 t4 t5 (by rw [hkn]; omega) hLr t18 hg (own_chs1 hx0 hx1 hx2 hx3) hO (by decide)) e19 rfl 0 (Nat.le_of_eq rfl) (by decide) (by decide) (by decide) (by decide) (fun v20 T20 h20 L20 X20 e20 q20 => ?_)
    obtain ⟨rfl, N20, rfl⟩ := q20
    show Go p e below _ (T20.setTop (mkF m 255 #[.val (.int p0), .val (.int p1), .val (.int p2), .val (.int p3), .val (.int p4), .val (.int (1 : Int32)), .val (.int c0), .val (.int c1), .val (.int c2), .val (.int c3), .val (.ref ar), .val (.ref str), .val (.ref r), .val (.int (Int32.ofNat k))] [.int (1 : Int32)]))
    refine g_if_eq X20 B at_255 262 258 rfl (by decide) rfl (fun z => own_abs' (by decide) z) (fun _ => ?_)
    refine g_iconst X20 B (1) at_258 259 rfl rfl ?_
    refine g_goto X20 B at_259 263 rfl (by decide) ?_
    exact g_retNW X20 B at_263 rfl rfl (by decide) (by decide) (by decide) e20 hS kk9 (fun vm hvm => ⟨rfl, (((((((((Fr.snoc X6 (((((Fr.nil n0).app N1).app N2).app N3).app N4) g_ar).app N8).app N9).app N10).app N16).app N17).app N18).app N19).app N20)⟩)
set_option maxRecDepth 65536 in
set_option maxHeartbeats 40000000 in
theorem rm0_2 (l : Launch) (Z : State) (ag : Array Value) (hw : ∀ d ∈ tables_1, d.before ag Z = true) (p0 p1 p2 p3 p4 cx : Int32) (g : Value) (h0 : Heap) (n0 : Nat) (Z0 : n0 ≤ h0.size) (SC : Sta Z h0 "java/lang/String" "COMPACT_STRINGS" "Z" (.int cx)) (hcx : ¬ cx = 0) (SF : Sta Z h0 "jdk/internal/util/Preconditions" "SIOOBE_FORMATTER" "Ljava/util/function/BiFunction;" g) (hg : g.isRef = true) (kk5 : ((p0 &&& (2147483647 : Int32)) % (5 : Int32)) = 2) (OZ : ∀ (b : Addr) (cl : Cell), Z.heap[b]? = some cl → h0[b]? = some cl) (hH7 : Jvm.Lit.constHeld Z "java/lang/String" 7) (hH : Jvm.Lit.constHeld Z "java/lang/StringLatin1" 151) (hcw : Jvm.Lit.compactW.before ag Z = true) :
    CtrW l Z x code maxLocals ret room_1 #[.int p0, .int p1, .int p2, .int p3, .int p4] h0 [] (fun v h vm L => v = some (.int 1) ∧ Fr n0 L) := by
  refine CtrW.of pn_0 ?_
  intro p e s m below meth c T0 X0 B e0 hs0 hS I
  refine Go.cast (f' := mkF m 0 #[.val (.int p0), .val (.int p1), .val (.int p2), .val (.int p3), .val (.int p4), .unset, .unset, .unset, .unset, .unset, .unset, .unset, .unset, .unset] []) (by first | rfl | (simp [entryFrame, mkF, argsToLocals, Value.category, maxLocals]; done)) ?_

  refine g_iloadN X0 B at_0 1 rfl rfl ?_
  refine g_ldcI X0 B at_1 3 rfl (hw _ (List.mem_of_getElem? (i := 0) rfl)) ?_
  refine g_iand X0 B at_3 4 rfl ?_
  refine g_iconst X0 B (5) at_4 5 rfl rfl ?_
  refine g_irem X0 B at_5 6 rfl (by decide) ?_
  rw [kk5]
  show Go p e below _ (T0.setTop (mkF m 6 #[.val (.int p0), .val (.int p1), .val (.int p2), .val (.int p3), .val (.int p4), .unset, .unset, .unset, .unset, .unset, .unset, .unset, .unset, .unset] [.int (2 : Int32)]))
  refine g_istore X0 B #[.val (.int p0), .val (.int p1), .val (.int p2), .val (.int p3), .val (.int p4), .val (.int (2 : Int32)), .unset, .unset, .unset, .unset, .unset, .unset, .unset, .unset] at_6 8 rfl rfl ?_
  refine g_iloadN X0 B at_8 9 rfl rfl ?_
  refine g_callS X0 B [.int p1] [] at_9 12 rfl rfl (hw _ (List.mem_of_getElem? (i := 1) rfl)) (hw _ (List.mem_of_getElem? (i := 2) rfl)) (hw _ (List.mem_of_getElem? (i := 3) rfl)) (hw _ (List.mem_of_getElem? (i := 4) rfl)) (by decide) (lenOf pd_1 rfl) (rm_ch l Z ag hw p1 h0 n0) e0 rfl 0 (Nat.le_of_eq rfl) (by decide) (by decide) (by decide) (by decide) (fun v1 T1 h1 L1 X1 e1 q1 => ?_)
  obtain ⟨c0, rfl, hx0, hy0, N1, rfl⟩ := q1
  show Go p e below _ (T1.setTop (mkF m 12 #[.val (.int p0), .val (.int p1), .val (.int p2), .val (.int p3), .val (.int p4), .val (.int (2 : Int32)), .unset, .unset, .unset, .unset, .unset, .unset, .unset, .unset] [.int c0]))
  refine g_istore X1 B #[.val (.int p0), .val (.int p1), .val (.int p2), .val (.int p3), .val (.int p4), .val (.int (2 : Int32)), .val (.int c0), .unset, .unset, .unset, .unset, .unset, .unset, .unset] at_12 14 rfl rfl ?_
  refine g_iloadN X1 B at_14 15 rfl rfl ?_
  refine g_callS X1 B [.int p2] [] at_15 18 rfl rfl (hw _ (List.mem_of_getElem? (i := 1) rfl)) (hw _ (List.mem_of_getElem? (i := 2) rfl)) (hw _ (List.mem_of_getElem? (i := 3) rfl)) (hw _ (List.mem_of_getElem? (i := 4) rfl)) (by decide) (lenOf pd_1 rfl) (rm_ch l Z ag hw p2 h0 n0) e1 rfl 0 (Nat.le_of_eq rfl) (by decide) (by decide) (by decide) (by decide) (fun v2 T2 h2 L2 X2 e2 q2 => ?_)
  obtain ⟨c1, rfl, hx1, hy1, N2, rfl⟩ := q2
  show Go p e below _ (T2.setTop (mkF m 18 #[.val (.int p0), .val (.int p1), .val (.int p2), .val (.int p3), .val (.int p4), .val (.int (2 : Int32)), .val (.int c0), .unset, .unset, .unset, .unset, .unset, .unset, .unset] [.int c1]))
  refine g_istore X2 B #[.val (.int p0), .val (.int p1), .val (.int p2), .val (.int p3), .val (.int p4), .val (.int (2 : Int32)), .val (.int c0), .val (.int c1), .unset, .unset, .unset, .unset, .unset, .unset] at_18 20 rfl rfl ?_
  refine g_iloadN X2 B at_20 21 rfl rfl ?_
  refine g_callS X2 B [.int p3] [] at_21 24 rfl rfl (hw _ (List.mem_of_getElem? (i := 1) rfl)) (hw _ (List.mem_of_getElem? (i := 2) rfl)) (hw _ (List.mem_of_getElem? (i := 3) rfl)) (hw _ (List.mem_of_getElem? (i := 4) rfl)) (by decide) (lenOf pd_1 rfl) (rm_ch l Z ag hw p3 h0 n0) e2 rfl 0 (Nat.le_of_eq rfl) (by decide) (by decide) (by decide) (by decide) (fun v3 T3 h3 L3 X3 e3 q3 => ?_)
  obtain ⟨c2, rfl, hx2, hy2, N3, rfl⟩ := q3
  show Go p e below _ (T3.setTop (mkF m 24 #[.val (.int p0), .val (.int p1), .val (.int p2), .val (.int p3), .val (.int p4), .val (.int (2 : Int32)), .val (.int c0), .val (.int c1), .unset, .unset, .unset, .unset, .unset, .unset] [.int c2]))
  refine g_istore X3 B #[.val (.int p0), .val (.int p1), .val (.int p2), .val (.int p3), .val (.int p4), .val (.int (2 : Int32)), .val (.int c0), .val (.int c1), .val (.int c2), .unset, .unset, .unset, .unset, .unset] at_24 26 rfl rfl ?_
  refine g_iload X3 B at_26 28 rfl rfl ?_
  refine g_callS X3 B [.int p4] [] at_28 31 rfl rfl (hw _ (List.mem_of_getElem? (i := 1) rfl)) (hw _ (List.mem_of_getElem? (i := 2) rfl)) (hw _ (List.mem_of_getElem? (i := 3) rfl)) (hw _ (List.mem_of_getElem? (i := 4) rfl)) (by decide) (lenOf pd_1 rfl) (rm_ch l Z ag hw p4 h0 n0) e3 rfl 0 (Nat.le_of_eq rfl) (by decide) (by decide) (by decide) (by decide) (fun v4 T4 h4 L4 X4 e4 q4 => ?_)
  obtain ⟨c3, rfl, hx3, hy3, N4, rfl⟩ := q4
  show Go p e below _ (T4.setTop (mkF m 31 #[.val (.int p0), .val (.int p1), .val (.int p2), .val (.int p3), .val (.int p4), .val (.int (2 : Int32)), .val (.int c0), .val (.int c1), .val (.int c2), .unset, .unset, .unset, .unset, .unset] [.int c3]))
  refine g_istore X4 B #[.val (.int p0), .val (.int p1), .val (.int p2), .val (.int p3), .val (.int p4), .val (.int (2 : Int32)), .val (.int c0), .val (.int c1), .val (.int c2), .val (.int c3), .unset, .unset, .unset, .unset] at_31 33 rfl rfl ?_
  refine g_iload X4 B at_33 35 rfl rfl ?_
  refine g_if_ne X4 B at_35 46 38 rfl (by decide) rfl (fun _ => ?_) (fun z => own_abs' (by decide) z)
  refine g_iload X4 B at_46 48 rfl rfl ?_
  refine g_iconst X4 B (1) at_48 49 rfl rfl ?_
  refine g_icmp_ne X4 B at_49 65 52 rfl (by decide) rfl (fun _ => ?_) (fun z => own_abs' (by decide) z)
  refine g_iload X4 B at_65 67 rfl rfl ?_
  refine g_iconst X4 B (2) at_67 68 rfl rfl ?_
  refine g_icmp_ne X4 B at_68 89 71 rfl (by decide) rfl (fun z => own_abs (by decide) z) (fun _ => ?_)
  refine g_iconst X4 B (2) at_71 72 rfl rfl ?_
  refine g_newP X4 B [(.int 0 : Value), .int 0] at_72 74 rfl (hw _ (List.mem_of_getElem? (i := 5) rfl)) e4 (by decide) rfl (by decide) (by decide) (by decide) (fun T5 h5 ar X5 e5 ea5 E5 A5 => ?_)
  have g_ar : n0 ≤ ar := ea5 ▸ Z0
  have gg_ar : h0.size ≤ ar := ea5 ▸ (Keep.refl h0 []).1
  refine g_dup X5 B at_74 75 rfl rfl ?_
  refine g_iconst X5 B (0) at_75 76 rfl rfl ?_
  refine g_iload X5 B at_76 78 rfl rfl ?_
  refine g_castore X5 B 0 at_78 79 rfl e5 A5 (by decide) (by decide) (by simp) (fun T6 h6 X6 e6 W6 A6 => ?_)
  rw [own_nc hx0] at A6 W6
  replace A6 : Av Z h6 ar .char [(.int c0 : Value), .int 0] := A6
  refine g_dup X6 B at_79 80 rfl rfl ?_
  refine g_iconst X6 B (1) at_80 81 rfl rfl ?_
  refine g_iload X6 B at_81 83 rfl rfl ?_
  refine g_castore X6 B 1 at_83 84 rfl e6 A6 (by decide) (by decide) (by simp) (fun T7 h7 X7 e7 W7 A7 => ?_)
  rw [own_nc hx1] at A7 W7
  replace A7 : Av Z h7 ar .char [(.int c0 : Value), .int c1] := A7
  refine g_astore X7 B #[.val (.int p0), .val (.int p1), .val (.int p2), .val (.int p3), .val (.int p4), .val (.int (2 : Int32)), .val (.int c0), .val (.int c1), .val (.int c2), .val (.int c3), .val (.ref ar), .unset, .unset, .unset] at_84 86 rfl rfl rfl ?_
  refine g_goto X7 B at_86 143 rfl (by decide) ?_
  refine g_new X7 B at_143 146 rfl (hw _ (List.mem_of_getElem? (i := 6) rfl)) (hw _ (List.mem_of_getElem? (i := 7) rfl)) (hw _ (List.mem_of_getElem? (i := 8) rfl)) e7 (by decide) (by decide) (fun T8 h8 str X8 e8 ea8 E8 A8 D8 => ?_)
  have t1 := (Nat.le_trans (Nat.le_trans (Nat.le_trans Z0 E5.1) (Nat.le_of_eq W6.size.symm)) (Nat.le_of_eq W7.size.symm))
  have t2 := (Keep.wr (Keep.wr (Keep.ext (Keep.refl h0 []) E5) W6 (Or.inr gg_ar)) W7 (Or.inr gg_ar))
  have g_str : n0 ≤ str := ea8 ▸ t1
  have gg_str : h0.size ≤ str := ea8 ▸ t2.1
  have t3 : ar ≠ str := ea8 ▸ Nat.ne_of_lt (A7.lt)
  have D8_0 : Fld Z h8 str "java/lang/String" "value" "[B" (.null) := D8 (Or.inr (hw _ (List.mem_of_getElem? (i := 21) rfl))) (ty := (.array .byte)) (by decide)
  have D8_1 : Fld Z h8 str "java/lang/String" "coder" "B" (.int 0) := D8 (Or.inr (hw _ (List.mem_of_getElem? (i := 22) rfl))) (ty := .byte) (by decide)
  refine g_dup X8 B at_146 147 rfl rfl ?_
  refine g_aload X8 B at_147 149 rfl rfl rfl ?_
  have t4 := (Nat.le_trans t1 E8.1)
  have t5 := (Av.ext A7 E8)
  have t6 := (Sta.ext E8 (Sta.wr W7 (Sta.wr W6 (Sta.ext E5 SC))))
  refine g_callN X8 B [.ref ar] [.ref str] at_149 152 rfl rfl rfl (hw _ (List.mem_of_getElem? (i := 9) rfl)) (hw _ (List.mem_of_getElem? (i := 10) rfl)) (hw _ (List.mem_of_getElem? (i := 11) rfl)) (hw _ (List.mem_of_getElem? (i := 8) rfl)) (by decide) (lenOf pd_2 rfl) (rS_i1 l Z ag hw str ar [c0, c1] cx h8 n0 t4 (by simp) (by simp) (own_chl2 hy0 hy1 hy2 hy3) g_str A8 D8_0 D8_1 t5 t6 hcx) e8 rfl 1 (Nat.le_of_eq rfl) (by decide) (by decide) (by decide) (by decide) (fun v9 T9 h9 L9 X9 e9 q9 => ?_)
  obtain ⟨bb, vs, rfl, N9, K9, f1, f2, f3, hLv, f5, f6⟩ := q9
  show Go p e below _ (T9.setTop (mkF m 152 #[.val (.int p0), .val (.int p1), .val (.int p2), .val (.int p3), .val (.int p4), .val (.int (2 : Int32)), .val (.int c0), .val (.int c1), .val (.int c2), .val (.int c3), .val (.ref ar), .unset, .unset, .unset] [.ref str]))
  refine g_astore X9 B #[.val (.int p0), .val (.int p1), .val (.int p2), .val (.int p3), .val (.int p4), .val (.int (2 : Int32)), .val (.int c0), .val (.int c1), .val (.int c2), .val (.int c3), .val (.ref ar), .val (.ref str), .unset, .unset] at_152 154 rfl rfl rfl ?_
  refine g_aload X9 B at_154 156 rfl rfl rfl ?_
  have t7 := (Keep.trans (Keep.ext t2 E8) K9 (allS (Or.inr gg_str) all0))
  have t8 := (Nat.le_trans t4 K9.1)
  have t9 := (Exa.keep A8 K9)
  have t10 := (own_stkw t6 K9 (own_plE A8 own_pl0))
  have t11 := (own_stkw (Sta.ext E8 (Sta.wr W7 (Sta.wr W6 (Sta.ext E5 SF)))) K9 (own_plE A8 own_pl0))
  refine g_callSW X9 B hS (Nat.zero_le _) I [.ref str] [] at_156 159 rfl rfl (hw _ (List.mem_of_getElem? (i := 27) rfl)) (hw _ (List.mem_of_getElem? (i := 28) rfl)) (hw _ (List.mem_of_getElem? (i := 29) rfl)) (hw _ (List.mem_of_getElem? (i := 30) rfl)) (by decide) (lenOf pd_5 rfl) (rW_of l Z ag hw str bb cx vs [c0, c1] g h9 n0 t8 t9 f1 f2 f3 (by simp) hLv t10 hcx t11 hg (own_chs2 hx0 hx1 hx2 hx3) (by simp) (fun b cl q => t7.2.1 b cl (OZ b cl q) nin0) hH hcw) e9 rfl 0 (Nat.le_of_eq rfl) (by decide) (by decide) (by decide) (by decide) (fun v10 T10 h10 L10 X10 B e10 hS q10 => ?_)
  obtain ⟨k, hO, r, b2, ws, rfl, N10, K10, t2, t3, t4, t5, hLr⟩ := q10
  show Go p e below _ (T10.setTop (mkF m 159 #[.val (.int p0), .val (.int p1), .val (.int p2), .val (.int p3), .val (.int p4), .val (.int (2 : Int32)), .val (.int c0), .val (.int c1), .val (.int c2), .val (.int c3), .val (.ref ar), .val (.ref str), .unset, .unset] [.ref r]))
  have kk10 : h10.size ≤ h10.size := Nat.le_refl _
  have hkn : (([c0, c1]).take k).length = k := own_tlen hO.1
  have hk4 : k ≤ 2 := hO.1
  refine g_astore X10 B #[.val (.int p0), .val (.int p1), .val (.int p2), .val (.int p3), .val (.int p4), .val (.int (2 : Int32)), .val (.int c0), .val (.int c1), .val (.int c2), .val (.int c3), .val (.ref ar), .val (.ref str), .val (.ref r), .unset] at_159 161 rfl rfl rfl ?_
  refine g_aload X10 B at_161 163 rfl rfl rfl ?_
  have t12 := (own_stk t10 K10)
  refine g_callV X10 B [] [] at_163 166 rfl rfl (hw _ (List.mem_of_getElem? (i := 56) rfl)) (hw _ (List.mem_of_getElem? (i := 32) rfl)) (hw _ (List.mem_of_getElem? (i := 34) rfl)) (hw _ (List.mem_of_getElem? (i := 33) rfl)) (hw _ (List.mem_of_getElem? (i := 8) rfl)) (hw _ (List.mem_of_getElem? (i := 35) rfl)) (by decide) (lenOf pd_6 rfl) t2 (rS_len l Z ag hw r b2 cx ws (([c0, c1]).take k) h10 n0 t2 t3 t4 t5 (by rw [hkn]; omega) hLr t12 hcx) e10 rfl 0 (Nat.le_of_eq rfl) (by decide) (by decide) (by decide) (by decide) (fun v11 T11 h11 L11 X11 e11 q11 => ?_)
  obtain ⟨rfl, N11, rfl⟩ := q11
  show Go p e below _ (T11.setTop (mkF m 166 #[.val (.int p0), .val (.int p1), .val (.int p2), .val (.int p3), .val (.int p4), .val (.int (2 : Int32)), .val (.int c0), .val (.int c1), .val (.int c2), .val (.int c3), .val (.ref ar), .val (.ref str), .val (.ref r), .unset] [.int (Int32.ofNat (([c0, c1]).take k).length)]))
  rw [hkn]
  refine g_istore X11 B #[.val (.int p0), .val (.int p1), .val (.int p2), .val (.int p3), .val (.int p4), .val (.int (2 : Int32)), .val (.int c0), .val (.int c1), .val (.int c2), .val (.int c3), .val (.ref ar), .val (.ref str), .val (.ref r), .val (.int (Int32.ofNat k))] at_166 168 rfl rfl ?_
  refine g_iload X11 B at_168 170 rfl rfl ?_
  refine g_iload X11 B at_170 172 rfl rfl ?_
  refine g_icmp_le X11 B at_172 177 175 rfl (by decide) rfl (fun _ => ?_) (fun z => own_abs' (fun z => absurd ((own_lt (i := 2) (n := k) (by omega) (by omega)).mp z) (by omega)) z)
  refine g_iload X11 B at_177 179 rfl rfl ?_
  refine g_if_le X11 B at_179 198 182 rfl (by decide) rfl (fun c12 => ?_) (fun c12 => ?_)
  · skip
    refine g_aload X11 B at_198 200 rfl rfl rfl ?_
    refine g_aload X11 B at_200 202 rfl rfl rfl ?_
    refine g_iconst X11 B (0) at_202 203 rfl rfl ?_
    refine g_iload X11 B at_203 205 rfl rfl ?_
    refine g_iload X11 B at_205 207 rfl rfl ?_
    have t13 := (Exa.keep t9 K10)
    have t14 := (Fld.keep f1 K10 nin0)
    have t15 := (Fld.keep f2 K10 nin0)
    have t16 := (Av.keep f3 K10 nin0)
    have t17 := (own_stk t11 K10)
    refine g_callS X11 B [.ref str, .ref r, .int (0 : Int32), .int (2 : Int32), .int (Int32.ofNat k)] [] at_207 210 rfl rfl (hw _ (List.mem_of_getElem? (i := 57) rfl)) (hw _ (List.mem_of_getElem? (i := 58) rfl)) (hw _ (List.mem_of_getElem? (i := 3) rfl)) (hw _ (List.mem_of_getElem? (i := 59) rfl)) (by decide) (lenOf pd_11 rfl) (rm_at l Z ag hw str bb r b2 cx vs ws [c0, c1] g 0 k h10 n0 t13 t14 t15 t16 (by simp) hLv t12 hcx t2 t3 t4 t5 (by rw [hkn]; omega) hLr t17 hg (own_chs2 hx0 hx1 hx2 hx3) hO (by decide)) e11 rfl 0 (Nat.le_of_eq rfl) (by decide) (by decide) (by decide) (by decide) (fun v13 T13 h13 L13 X13 e13 q13 => ?_)
    obtain ⟨rfl, N13, rfl⟩ := q13
    show Go p e below _ (T13.setTop (mkF m 210 #[.val (.int p0), .val (.int p1), .val (.int p2), .val (.int p3), .val (.int p4), .val (.int (2 : Int32)), .val (.int c0), .val (.int c1), .val (.int c2), .val (.int c3), .val (.ref ar), .val (.ref str), .val (.ref r), .val (.int (Int32.ofNat k))] [.int (1 : Int32)]))
    refine g_if_eq X13 B at_210 262 213 rfl (by decide) rfl (fun z => own_abs' (by decide) z) (fun _ => ?_)
    refine g_aload X13 B at_213 215 rfl rfl rfl ?_
    refine g_aload X13 B at_215 217 rfl rfl rfl ?_
    refine g_iconst X13 B (1) at_217 218 rfl rfl ?_
    refine g_iload X13 B at_218 220 rfl rfl ?_
    refine g_iload X13 B at_220 222 rfl rfl ?_
    refine g_callS X13 B [.ref str, .ref r, .int (1 : Int32), .int (2 : Int32), .int (Int32.ofNat k)] [] at_222 225 rfl rfl (hw _ (List.mem_of_getElem? (i := 57) rfl)) (hw _ (List.mem_of_getElem? (i := 58) rfl)) (hw _ (List.mem_of_getElem? (i := 3) rfl)) (hw _ (List.mem_of_getElem? (i := 59) rfl)) (by decide) (lenOf pd_11 rfl) (rm_at l Z ag hw str bb r b2 cx vs ws [c0, c1] g 1 k h10 n0 t13 t14 t15 t16 (by simp) hLv t12 hcx t2 t3 t4 t5 (by rw [hkn]; omega) hLr t17 hg (own_chs2 hx0 hx1 hx2 hx3) hO (by decide)) e13 rfl 0 (Nat.le_of_eq rfl) (by decide) (by decide) (by decide) (by decide) (fun v14 T14 h14 L14 X14 e14 q14 => ?_)
    obtain ⟨rfl, N14, rfl⟩ := q14
    show Go p e below _ (T14.setTop (mkF m 225 #[.val (.int p0), .val (.int p1), .val (.int p2), .val (.int p3), .val (.int p4), .val (.int (2 : Int32)), .val (.int c0), .val (.int c1), .val (.int c2), .val (.int c3), .val (.ref ar), .val (.ref str), .val (.ref r), .val (.int (Int32.ofNat k))] [.int (1 : Int32)]))
    refine g_if_eq X14 B at_225 262 228 rfl (by decide) rfl (fun z => own_abs' (by decide) z) (fun _ => ?_)
    refine g_aload X14 B at_228 230 rfl rfl rfl ?_
    refine g_aload X14 B at_230 232 rfl rfl rfl ?_
    refine g_iconst X14 B (2) at_232 233 rfl rfl ?_
    refine g_iload X14 B at_233 235 rfl rfl ?_
    refine g_iload X14 B at_235 237 rfl rfl ?_
    refine g_callS X14 B [.ref str, .ref r, .int (2 : Int32), .int (2 : Int32), .int (Int32.ofNat k)] [] at_237 240 rfl rfl (hw _ (List.mem_of_getElem? (i := 57) rfl)) (hw _ (List.mem_of_getElem? (i := 58) rfl)) (hw _ (List.mem_of_getElem? (i := 3) rfl)) (hw _ (List.mem_of_getElem? (i := 59) rfl)) (by decide) (lenOf pd_11 rfl) (rm_at l Z ag hw str bb r b2 cx vs ws [c0, c1] g 2 k h10 n0 t13 t14 t15 t16 (by simp) hLv t12 hcx t2 t3 t4 t5 (by rw [hkn]; omega) hLr t17 hg (own_chs2 hx0 hx1 hx2 hx3) hO (by decide)) e14 rfl 0 (Nat.le_of_eq rfl) (by decide) (by decide) (by decide) (by decide) (fun v15 T15 h15 L15 X15 e15 q15 => ?_)
    obtain ⟨rfl, N15, rfl⟩ := q15
    show Go p e below _ (T15.setTop (mkF m 240 #[.val (.int p0), .val (.int p1), .val (.int p2), .val (.int p3), .val (.int p4), .val (.int (2 : Int32)), .val (.int c0), .val (.int c1), .val (.int c2), .val (.int c3), .val (.ref ar), .val (.ref str), .val (.ref r), .val (.int (Int32.ofNat k))] [.int (1 : Int32)]))
    refine g_if_eq X15 B at_240 262 243 rfl (by decide) rfl (fun z => own_abs' (by decide) z) (fun _ => ?_)
    refine g_aload X15 B at_243 245 rfl rfl rfl ?_
    refine g_aload X15 B at_245 247 rfl rfl rfl ?_
    refine g_iconst X15 B (3) at_247 248 rfl rfl ?_
    refine g_iload X15 B at_248 250 rfl rfl ?_
    refine g_iload X15 B at_250 252 rfl rfl ?_
    refine g_callS X15 B [.ref str, .ref r, .int (3 : Int32), .int (2 : Int32), .int (Int32.ofNat k)] [] at_252 255 rfl rfl (hw _ (List.mem_of_getElem? (i := 57) rfl)) (hw _ (List.mem_of_getElem? (i := 58) rfl)) (hw _ (List.mem_of_getElem? (i := 3) rfl)) (hw _ (List.mem_of_getElem? (i := 59) rfl)) (by decide) (lenOf pd_11 rfl) (rm_at l Z ag hw str bb r b2 cx vs ws [c0, c1] g 3 k h10 n0 t13 t14 t15 t16 (by simp) hLv t12 hcx t2 t3 t4 t5 (by rw [hkn]; omega) hLr t17 hg (own_chs2 hx0 hx1 hx2 hx3) hO (by decide)) e15 rfl 0 (Nat.le_of_eq rfl) (by decide) (by decide) (by decide) (by decide) (fun v16 T16 h16 L16 X16 e16 q16 => ?_)
    obtain ⟨rfl, N16, rfl⟩ := q16
    show Go p e below _ (T16.setTop (mkF m 255 #[.val (.int p0), .val (.int p1), .val (.int p2), .val (.int p3), .val (.int p4), .val (.int (2 : Int32)), .val (.int c0), .val (.int c1), .val (.int c2), .val (.int c3), .val (.ref ar), .val (.ref str), .val (.ref r), .val (.int (Int32.ofNat k))] [.int (1 : Int32)]))
    refine g_if_eq X16 B at_255 262 258 rfl (by decide) rfl (fun z => own_abs' (by decide) z) (fun _ => ?_)
    refine g_iconst X16 B (1) at_258 259 rfl rfl ?_
    refine g_goto X16 B at_259 263 rfl (by decide) ?_
    exact g_retNW X16 B at_263 rfl rfl (by decide) (by decide) (by decide) e16 hS kk10 (fun vm hvm => ⟨rfl, ((((((((Fr.snoc X7 (Fr.snoc X6 (((((Fr.nil n0).app N1).app N2).app N3).app N4) g_ar) g_ar).app N9).app N10).app N11).app N13).app N14).app N15).app N16)⟩)
  · skip
    refine g_aload X11 B at_182 184 rfl rfl rfl ?_
    refine g_iload X11 B at_184 186 rfl rfl ?_
    refine g_iconst X11 B (1) at_186 187 rfl rfl ?_
    refine g_isub X11 B at_187 188 rfl ?_
    have hkp : 0 < k := (own_gt0 (by omega)).mp (by have q := c12; first | exact q | exact Classical.not_not.mp q)
    obtain ⟨cl, hcl, hc47⟩ := own_lastat hO hkp
    rw [own_sm1 (by omega) hkp]
    have t18 := (own_stk t11 K10)
    refine g_callV X11 B [.int (Int32.ofNat (k - 1))] [] at_188 191 rfl rfl (hw _ (List.mem_of_getElem? (i := 90) rfl)) (hw _ (List.mem_of_getElem? (i := 71) rfl)) (hw _ (List.mem_of_getElem? (i := 73) rfl)) (hw _ (List.mem_of_getElem? (i := 72) rfl)) (hw _ (List.mem_of_getElem? (i := 8) rfl)) (hw _ (List.mem_of_getElem? (i := 74) rfl)) (by decide) (lenOf pd_15 rfl) t2 (rL_cat l Z ag hw r b2 cx (k - 1) cl ws (([c0, c1]).take k) g h10 n0 t2 t3 t4 t5 (by rw [hkn]; omega) hLr t12 hcx (by rw [hkn]; omega) (by rw [own_takeat (by omega)]; exact hcl) ((own_chs2 hx0 hx1 hx2 hx3) cl (List.mem_of_getElem? hcl)) t18 hg) e11 rfl 0 (Nat.le_of_eq rfl) (by decide) (by decide) (by decide) (by decide) (fun v17 T17 h17 L17 X17 e17 q17 => ?_)
    obtain ⟨rfl, N17, rfl⟩ := q17
    show Go p e below _ (T17.setTop (mkF m 191 #[.val (.int p0), .val (.int p1), .val (.int p2), .val (.int p3), .val (.int p4), .val (.int (2 : Int32)), .val (.int c0), .val (.int c1), .val (.int c2), .val (.int c3), .val (.ref ar), .val (.ref str), .val (.ref r), .val (.int (Int32.ofNat k))] [.int cl]))
    refine g_bipush X17 B (47) at_191 193 rfl rfl ?_
    refine g_icmp_ne X17 B at_193 198 196 rfl (by decide) rfl (fun _ => ?_) (fun z => own_abs' (hc47) z)
    refine g_aload X17 B at_198 200 rfl rfl rfl ?_
    refine g_aload X17 B at_200 202 rfl rfl rfl ?_
    refine g_iconst X17 B (0) at_202 203 rfl rfl ?_
    refine g_iload X17 B at_203 205 rfl rfl ?_
    refine g_iload X17 B at_205 207 rfl rfl ?_
    have t19 := (Exa.keep t9 K10)
    have t20 := (Fld.keep f1 K10 nin0)
    have t21 := (Fld.keep f2 K10 nin0)
    have t22 := (Av.keep f3 K10 nin0)
    refine g_callS X17 B [.ref str, .ref r, .int (0 : Int32), .int (2 : Int32), .int (Int32.ofNat k)] [] at_207 210 rfl rfl (hw _ (List.mem_of_getElem? (i := 57) rfl)) (hw _ (List.mem_of_getElem? (i := 58) rfl)) (hw _ (List.mem_of_getElem? (i := 3) rfl)) (hw _ (List.mem_of_getElem? (i := 59) rfl)) (by decide) (lenOf pd_11 rfl) (rm_at l Z ag hw str bb r b2 cx vs ws [c0, c1] g 0 k h10 n0 t19 t20 t21 t22 (by simp) hLv t12 hcx t2 t3 t4 t5 (by rw [hkn]; omega) hLr t18 hg (own_chs2 hx0 hx1 hx2 hx3) hO (by decide)) e17 rfl 0 (Nat.le_of_eq rfl) (by decide) (by decide) (by decide) (by decide) (fun v18 T18 h18 L18 X18 e18 q18 => ?_)
    obtain ⟨rfl, N18, rfl⟩ := q18
    show Go p e below _ (T18.setTop (mkF m 210 #[.val (.int p0), .val (.int p1), .val (.int p2), .val (.int p3), .val (.int p4), .val (.int (2 : Int32)), .val (.int c0), .val (.int c1), .val (.int c2), .val (.int c3), .val (.ref ar), .val (.ref str), .val (.ref r), .val (.int (Int32.ofNat k))] [.int (1 : Int32)]))
    refine g_if_eq X18 B at_210 262 213 rfl (by decide) rfl (fun z => own_abs' (by decide) z) (fun _ => ?_)
    refine g_aload X18 B at_213 215 rfl rfl rfl ?_
    refine g_aload X18 B at_215 217 rfl rfl rfl ?_
    refine g_iconst X18 B (1) at_217 218 rfl rfl ?_
    refine g_iload X18 B at_218 220 rfl rfl ?_
    refine g_iload X18 B at_220 222 rfl rfl ?_
    refine g_callS X18 B [.ref str, .ref r, .int (1 : Int32), .int (2 : Int32), .int (Int32.ofNat k)] [] at_222 225 rfl rfl (hw _ (List.mem_of_getElem? (i := 57) rfl)) (hw _ (List.mem_of_getElem? (i := 58) rfl)) (hw _ (List.mem_of_getElem? (i := 3) rfl)) (hw _ (List.mem_of_getElem? (i := 59) rfl)) (by decide) (lenOf pd_11 rfl) (rm_at l Z ag hw str bb r b2 cx vs ws [c0, c1] g 1 k h10 n0 t19 t20 t21 t22 (by simp) hLv t12 hcx t2 t3 t4 t5 (by rw [hkn]; omega) hLr t18 hg (own_chs2 hx0 hx1 hx2 hx3) hO (by decide)) e18 rfl 0 (Nat.le_of_eq rfl) (by decide) (by decide) (by decide) (by decide) (fun v19 T19 h19 L19 X19 e19 q19 => ?_)
    obtain ⟨rfl, N19, rfl⟩ := q19
    show Go p e below _ (T19.setTop (mkF m 225 #[.val (.int p0), .val (.int p1), .val (.int p2), .val (.int p3), .val (.int p4), .val (.int (2 : Int32)), .val (.int c0), .val (.int c1), .val (.int c2), .val (.int c3), .val (.ref ar), .val (.ref str), .val (.ref r), .val (.int (Int32.ofNat k))] [.int (1 : Int32)]))
    refine g_if_eq X19 B at_225 262 228 rfl (by decide) rfl (fun z => own_abs' (by decide) z) (fun _ => ?_)
    refine g_aload X19 B at_228 230 rfl rfl rfl ?_
    refine g_aload X19 B at_230 232 rfl rfl rfl ?_
    refine g_iconst X19 B (2) at_232 233 rfl rfl ?_
    refine g_iload X19 B at_233 235 rfl rfl ?_
    refine g_iload X19 B at_235 237 rfl rfl ?_
    refine g_callS X19 B [.ref str, .ref r, .int (2 : Int32), .int (2 : Int32), .int (Int32.ofNat k)] [] at_237 240 rfl rfl (hw _ (List.mem_of_getElem? (i := 57) rfl)) (hw _ (List.mem_of_getElem? (i := 58) rfl)) (hw _ (List.mem_of_getElem? (i := 3) rfl)) (hw _ (List.mem_of_getElem? (i := 59) rfl)) (by decide) (lenOf pd_11 rfl) (rm_at l Z ag hw str bb r b2 cx vs ws [c0, c1] g 2 k h10 n0 t19 t20 t21 t22 (by simp) hLv t12 hcx t2 t3 t4 t5 (by rw [hkn]; omega) hLr t18 hg (own_chs2 hx0 hx1 hx2 hx3) hO (by decide)) e19 rfl 0 (Nat.le_of_eq rfl) (by decide) (by decide) (by decide) (by decide) (fun v20 T20 h20 L20 X20 e20 q20 => ?_)
    obtain ⟨rfl, N20, rfl⟩ := q20
    show Go p e below _ (T20.setTop (mkF m 240 #[.val (.int p0), .val (.int p1), .val (.int p2), .val (.int p3), .val (.int p4), .val (.int (2 : Int32)), .val (.int c0), .val (.int c1), .val (.int c2), .val (.int c3), .val (.ref ar), .val (.ref str), .val (.ref r), .val (.int (Int32.ofNat k))] [.int (1 : Int32)]))
    refine g_if_eq X20 B at_240 262 243 rfl (by decide) rfl (fun z => own_abs' (by decide) z) (fun _ => ?_)
    refine g_aload X20 B at_243 245 rfl rfl rfl ?_
    refine g_aload X20 B at_245 247 rfl rfl rfl ?_
    refine g_iconst X20 B (3) at_247 248 rfl rfl ?_
    refine g_iload X20 B at_248 250 rfl rfl ?_
    refine g_iload X20 B at_250 252 rfl rfl ?_
    refine g_callS X20 B [.ref str, .ref r, .int (3 : Int32), .int (2 : Int32), .int (Int32.ofNat k)] [] at_252 255 rfl rfl (hw _ (List.mem_of_getElem? (i := 57) rfl)) (hw _ (List.mem_of_getElem? (i := 58) rfl)) (hw _ (List.mem_of_getElem? (i := 3) rfl)) (hw _ (List.mem_of_getElem? (i := 59) rfl)) (by decide) (lenOf pd_11 rfl) (rm_at l Z ag hw str bb r b2 cx vs ws [c0, c1] g 3 k h10 n0 t19 t20 t21 t22 (by simp) hLv t12 hcx t2 t3 t4 t5 (by rw [hkn]; omega) hLr t18 hg (own_chs2 hx0 hx1 hx2 hx3) hO (by decide)) e20 rfl 0 (Nat.le_of_eq rfl) (by decide) (by decide) (by decide) (by decide) (fun v21 T21 h21 L21 X21 e21 q21 => ?_)
    obtain ⟨rfl, N21, rfl⟩ := q21
    show Go p e below _ (T21.setTop (mkF m 255 #[.val (.int p0), .val (.int p1), .val (.int p2), .val (.int p3), .val (.int p4), .val (.int (2 : Int32)), .val (.int c0), .val (.int c1), .val (.int c2), .val (.int c3), .val (.ref ar), .val (.ref str), .val (.ref r), .val (.int (Int32.ofNat k))] [.int (1 : Int32)]))
    refine g_if_eq X21 B at_255 262 258 rfl (by decide) rfl (fun z => own_abs' (by decide) z) (fun _ => ?_)
    refine g_iconst X21 B (1) at_258 259 rfl rfl ?_
    refine g_goto X21 B at_259 263 rfl (by decide) ?_
    exact g_retNW X21 B at_263 rfl rfl (by decide) (by decide) (by decide) e21 hS kk10 (fun vm hvm => ⟨rfl, (((((((((Fr.snoc X7 (Fr.snoc X6 (((((Fr.nil n0).app N1).app N2).app N3).app N4) g_ar) g_ar).app N9).app N10).app N11).app N17).app N18).app N19).app N20).app N21)⟩)
set_option maxRecDepth 65536 in
set_option maxHeartbeats 40000000 in
theorem rm0_3 (l : Launch) (Z : State) (ag : Array Value) (hw : ∀ d ∈ tables_1, d.before ag Z = true) (p0 p1 p2 p3 p4 cx : Int32) (g : Value) (h0 : Heap) (n0 : Nat) (Z0 : n0 ≤ h0.size) (SC : Sta Z h0 "java/lang/String" "COMPACT_STRINGS" "Z" (.int cx)) (hcx : ¬ cx = 0) (SF : Sta Z h0 "jdk/internal/util/Preconditions" "SIOOBE_FORMATTER" "Ljava/util/function/BiFunction;" g) (hg : g.isRef = true) (kk5 : ((p0 &&& (2147483647 : Int32)) % (5 : Int32)) = 3) (OZ : ∀ (b : Addr) (cl : Cell), Z.heap[b]? = some cl → h0[b]? = some cl) (hH7 : Jvm.Lit.constHeld Z "java/lang/String" 7) (hH : Jvm.Lit.constHeld Z "java/lang/StringLatin1" 151) (hcw : Jvm.Lit.compactW.before ag Z = true) :
    CtrW l Z x code maxLocals ret room_1 #[.int p0, .int p1, .int p2, .int p3, .int p4] h0 [] (fun v h vm L => v = some (.int 1) ∧ Fr n0 L) := by
  refine CtrW.of pn_0 ?_
  intro p e s m below meth c T0 X0 B e0 hs0 hS I
  refine Go.cast (f' := mkF m 0 #[.val (.int p0), .val (.int p1), .val (.int p2), .val (.int p3), .val (.int p4), .unset, .unset, .unset, .unset, .unset, .unset, .unset, .unset, .unset] []) (by first | rfl | (simp [entryFrame, mkF, argsToLocals, Value.category, maxLocals]; done)) ?_

  refine g_iloadN X0 B at_0 1 rfl rfl ?_
  refine g_ldcI X0 B at_1 3 rfl (hw _ (List.mem_of_getElem? (i := 0) rfl)) ?_
  refine g_iand X0 B at_3 4 rfl ?_
  refine g_iconst X0 B (5) at_4 5 rfl rfl ?_
  refine g_irem X0 B at_5 6 rfl (by decide) ?_
  rw [kk5]
  show Go p e below _ (T0.setTop (mkF m 6 #[.val (.int p0), .val (.int p1), .val (.int p2), .val (.int p3), .val (.int p4), .unset, .unset, .unset, .unset, .unset, .unset, .unset, .unset, .unset] [.int (3 : Int32)]))
  refine g_istore X0 B #[.val (.int p0), .val (.int p1), .val (.int p2), .val (.int p3), .val (.int p4), .val (.int (3 : Int32)), .unset, .unset, .unset, .unset, .unset, .unset, .unset, .unset] at_6 8 rfl rfl ?_
  refine g_iloadN X0 B at_8 9 rfl rfl ?_
  refine g_callS X0 B [.int p1] [] at_9 12 rfl rfl (hw _ (List.mem_of_getElem? (i := 1) rfl)) (hw _ (List.mem_of_getElem? (i := 2) rfl)) (hw _ (List.mem_of_getElem? (i := 3) rfl)) (hw _ (List.mem_of_getElem? (i := 4) rfl)) (by decide) (lenOf pd_1 rfl) (rm_ch l Z ag hw p1 h0 n0) e0 rfl 0 (Nat.le_of_eq rfl) (by decide) (by decide) (by decide) (by decide) (fun v1 T1 h1 L1 X1 e1 q1 => ?_)
  obtain ⟨c0, rfl, hx0, hy0, N1, rfl⟩ := q1
  show Go p e below _ (T1.setTop (mkF m 12 #[.val (.int p0), .val (.int p1), .val (.int p2), .val (.int p3), .val (.int p4), .val (.int (3 : Int32)), .unset, .unset, .unset, .unset, .unset, .unset, .unset, .unset] [.int c0]))
  refine g_istore X1 B #[.val (.int p0), .val (.int p1), .val (.int p2), .val (.int p3), .val (.int p4), .val (.int (3 : Int32)), .val (.int c0), .unset, .unset, .unset, .unset, .unset, .unset, .unset] at_12 14 rfl rfl ?_
  refine g_iloadN X1 B at_14 15 rfl rfl ?_
  refine g_callS X1 B [.int p2] [] at_15 18 rfl rfl (hw _ (List.mem_of_getElem? (i := 1) rfl)) (hw _ (List.mem_of_getElem? (i := 2) rfl)) (hw _ (List.mem_of_getElem? (i := 3) rfl)) (hw _ (List.mem_of_getElem? (i := 4) rfl)) (by decide) (lenOf pd_1 rfl) (rm_ch l Z ag hw p2 h0 n0) e1 rfl 0 (Nat.le_of_eq rfl) (by decide) (by decide) (by decide) (by decide) (fun v2 T2 h2 L2 X2 e2 q2 => ?_)
  obtain ⟨c1, rfl, hx1, hy1, N2, rfl⟩ := q2
  show Go p e below _ (T2.setTop (mkF m 18 #[.val (.int p0), .val (.int p1), .val (.int p2), .val (.int p3), .val (.int p4), .val (.int (3 : Int32)), .val (.int c0), .unset, .unset, .unset, .unset, .unset, .unset, .unset] [.int c1]))
  refine g_istore X2 B #[.val (.int p0), .val (.int p1), .val (.int p2), .val (.int p3), .val (.int p4), .val (.int (3 : Int32)), .val (.int c0), .val (.int c1), .unset, .unset, .unset, .unset, .unset, .unset] at_18 20 rfl rfl ?_
  refine g_iloadN X2 B at_20 21 rfl rfl ?_
  refine g_callS X2 B [.int p3] [] at_21 24 rfl rfl (hw _ (List.mem_of_getElem? (i := 1) rfl)) (hw _ (List.mem_of_getElem? (i := 2) rfl)) (hw _ (List.mem_of_getElem? (i := 3) rfl)) (hw _ (List.mem_of_getElem? (i := 4) rfl)) (by decide) (lenOf pd_1 rfl) (rm_ch l Z ag hw p3 h0 n0) e2 rfl 0 (Nat.le_of_eq rfl) (by decide) (by decide) (by decide) (by decide) (fun v3 T3 h3 L3 X3 e3 q3 => ?_)
  obtain ⟨c2, rfl, hx2, hy2, N3, rfl⟩ := q3
  show Go p e below _ (T3.setTop (mkF m 24 #[.val (.int p0), .val (.int p1), .val (.int p2), .val (.int p3), .val (.int p4), .val (.int (3 : Int32)), .val (.int c0), .val (.int c1), .unset, .unset, .unset, .unset, .unset, .unset] [.int c2]))
  refine g_istore X3 B #[.val (.int p0), .val (.int p1), .val (.int p2), .val (.int p3), .val (.int p4), .val (.int (3 : Int32)), .val (.int c0), .val (.int c1), .val (.int c2), .unset, .unset, .unset, .unset, .unset] at_24 26 rfl rfl ?_
  refine g_iload X3 B at_26 28 rfl rfl ?_
  refine g_callS X3 B [.int p4] [] at_28 31 rfl rfl (hw _ (List.mem_of_getElem? (i := 1) rfl)) (hw _ (List.mem_of_getElem? (i := 2) rfl)) (hw _ (List.mem_of_getElem? (i := 3) rfl)) (hw _ (List.mem_of_getElem? (i := 4) rfl)) (by decide) (lenOf pd_1 rfl) (rm_ch l Z ag hw p4 h0 n0) e3 rfl 0 (Nat.le_of_eq rfl) (by decide) (by decide) (by decide) (by decide) (fun v4 T4 h4 L4 X4 e4 q4 => ?_)
  obtain ⟨c3, rfl, hx3, hy3, N4, rfl⟩ := q4
  show Go p e below _ (T4.setTop (mkF m 31 #[.val (.int p0), .val (.int p1), .val (.int p2), .val (.int p3), .val (.int p4), .val (.int (3 : Int32)), .val (.int c0), .val (.int c1), .val (.int c2), .unset, .unset, .unset, .unset, .unset] [.int c3]))
  refine g_istore X4 B #[.val (.int p0), .val (.int p1), .val (.int p2), .val (.int p3), .val (.int p4), .val (.int (3 : Int32)), .val (.int c0), .val (.int c1), .val (.int c2), .val (.int c3), .unset, .unset, .unset, .unset] at_31 33 rfl rfl ?_
  refine g_iload X4 B at_33 35 rfl rfl ?_
  refine g_if_ne X4 B at_35 46 38 rfl (by decide) rfl (fun _ => ?_) (fun z => own_abs' (by decide) z)
  refine g_iload X4 B at_46 48 rfl rfl ?_
  refine g_iconst X4 B (1) at_48 49 rfl rfl ?_
  refine g_icmp_ne X4 B at_49 65 52 rfl (by decide) rfl (fun _ => ?_) (fun z => own_abs' (by decide) z)
  refine g_iload X4 B at_65 67 rfl rfl ?_
  refine g_iconst X4 B (2) at_67 68 rfl rfl ?_
  refine g_icmp_ne X4 B at_68 89 71 rfl (by decide) rfl (fun _ => ?_) (fun z => own_abs' (by decide) z)
  refine g_iload X4 B at_89 91 rfl rfl ?_
  refine g_iconst X4 B (3) at_91 92 rfl rfl ?_
  refine g_icmp_ne X4 B at_92 118 95 rfl (by decide) rfl (fun z => own_abs (by decide) z) (fun _ => ?_)
  refine g_iconst X4 B (3) at_95 96 rfl rfl ?_
  refine g_newP X4 B [(.int 0 : Value), .int 0, .int 0] at_96 98 rfl (hw _ (List.mem_of_getElem? (i := 5) rfl)) e4 (by decide) rfl (by decide) (by decide) (by decide) (fun T5 h5 ar X5 e5 ea5 E5 A5 => ?_)
  have g_ar : n0 ≤ ar := ea5 ▸ Z0
  have gg_ar : h0.size ≤ ar := ea5 ▸ (Keep.refl h0 []).1
  refine g_dup X5 B at_98 99 rfl rfl ?_
  refine g_iconst X5 B (0) at_99 100 rfl rfl ?_
  refine g_iload X5 B at_100 102 rfl rfl ?_
  refine g_castore X5 B 0 at_102 103 rfl e5 A5 (by decide) (by decide) (by simp) (fun T6 h6 X6 e6 W6 A6 => ?_)
  rw [own_nc hx0] at A6 W6
  replace A6 : Av Z h6 ar .char [(.int c0 : Value), .int 0, .int 0] := A6
  refine g_dup X6 B at_103 104 rfl rfl ?_
  refine g_iconst X6 B (1) at_104 105 rfl rfl ?_
  refine g_iload X6 B at_105 107 rfl rfl ?_
  refine g_castore X6 B 1 at_107 108 rfl e6 A6 (by decide) (by decide) (by simp) (fun T7 h7 X7 e7 W7 A7 => ?_)
  rw [own_nc hx1] at A7 W7
  replace A7 : Av Z h7 ar .char [(.int c0 : Value), .int c1, .int 0] := A7
  refine g_dup X7 B at_108 109 rfl rfl ?_
  refine g_iconst X7 B (2) at_109 110 rfl rfl ?_
  refine g_iload X7 B at_110 112 rfl rfl ?_
  refine g_castore X7 B 2 at_112 113 rfl e7 A7 (by decide) (by decide) (by simp) (fun T8 h8 X8 e8 W8 A8 => ?_)
  rw [own_nc hx2] at A8 W8
  replace A8 : Av Z h8 ar .char [(.int c0 : Value), .int c1, .int c2] := A8
  refine g_astore X8 B #[.val (.int p0), .val (.int p1), .val (.int p2), .val (.int p3), .val (.int p4), .val (.int (3 : Int32)), .val (.int c0), .val (.int c1), .val (.int c2), .val (.int c3), .val (.ref ar), .unset, .unset, .unset] at_113 115 rfl rfl rfl ?_
  refine g_goto X8 B at_115 143 rfl (by decide) ?_
  refine g_new X8 B at_143 146 rfl (hw _ (List.mem_of_getElem? (i := 6) rfl)) (hw _ (List.mem_of_getElem? (i := 7) rfl)) (hw _ (List.mem_of_getElem? (i := 8) rfl)) e8 (by decide) (by decide) (fun T9 h9 str X9 e9 ea9 E9 A9 D9 => ?_)
  have t1 := (Nat.le_trans (Nat.le_trans (Nat.le_trans (Nat.le_trans Z0 E5.1) (Nat.le_of_eq W6.size.symm)) (Nat.le_of_eq W7.size.symm)) (Nat.le_of_eq W8.size.symm))
  have t2 := (Keep.wr (Keep.wr (Keep.wr (Keep.ext (Keep.refl h0 []) E5) W6 (Or.inr gg_ar)) W7 (Or.inr gg_ar)) W8 (Or.inr gg_ar))
  have g_str : n0 ≤ str := ea9 ▸ t1
  have gg_str : h0.size ≤ str := ea9 ▸ t2.1
  have t3 : ar ≠ str := ea9 ▸ Nat.ne_of_lt (A8.lt)
  have D9_0 : Fld Z h9 str "java/lang/String" "value" "[B" (.null) := D9 (Or.inr (hw _ (List.mem_of_getElem? (i := 21) rfl))) (ty := (.array .byte)) (by decide)
  have D9_1 : Fld Z h9 str "java/lang/String" "coder" "B" (.int 0) := D9 (Or.inr (hw _ (List.mem_of_getElem? (i := 22) rfl))) (ty := .byte) (by decide)
  refine g_dup X9 B at_146 147 rfl rfl ?_
  refine g_aload X9 B at_147 149 rfl rfl rfl ?_
  have t4 := (Nat.le_trans t1 E9.1)
  have t5 := (Av.ext A8 E9)
  have t6 := (Sta.ext E9 (Sta.wr W8 (Sta.wr W7 (Sta.wr W6 (Sta.ext E5 SC)))))
  refine g_callN X9 B [.ref ar] [.ref str] at_149 152 rfl rfl rfl (hw _ (List.mem_of_getElem? (i := 9) rfl)) (hw _ (List.mem_of_getElem? (i := 10) rfl)) (hw _ (List.mem_of_getElem? (i := 11) rfl)) (hw _ (List.mem_of_getElem? (i := 8) rfl)) (by decide) (lenOf pd_2 rfl) (rS_i1 l Z ag hw str ar [c0, c1, c2] cx h9 n0 t4 (by simp) (by simp) (own_chl3 hy0 hy1 hy2 hy3) g_str A9 D9_0 D9_1 t5 t6 hcx) e9 rfl 1 (Nat.le_of_eq rfl) (by decide) (by decide) (by decide) (by decide) (fun v10 T10 h10 L10 X10 e10 q10 => ?_)
  obtain ⟨bb, vs, rfl, N10, K10, f1, f2, f3, hLv, f5, f6⟩ := q10
  show Go p e below _ (T10.setTop (mkF m 152 #[.val (.int p0), .val (.int p1), .val (.int p2), .val (.int p3), .val (.int p4), .val (.int (3 : Int32)), .val (.int c0), .val (.int c1), .val (.int c2), .val (.int c3), .val (.ref ar), .unset, .unset, .unset] [.ref str]))
  refine g_astore X10 B #[.val (.int p0), .val (.int p1), .val (.int p2), .val (.int p3), .val (.int p4), .val (.int (3 : Int32)), .val (.int c0), .val (.int c1), .val (.int c2), .val (.int c3), .val (.ref ar), .val (.ref str), .unset, .unset] at_152 154 rfl rfl rfl ?_
  refine g_aload X10 B at_154 156 rfl rfl rfl ?_
  have t7 := (Keep.trans (Keep.ext t2 E9) K10 (allS (Or.inr gg_str) all0))
  have t8 := (Nat.le_trans t4 K10.1)
  have t9 := (Exa.keep A9 K10)
  have t10 := (own_stkw t6 K10 (own_plE A9 own_pl0))
  have t11 := (own_stkw (Sta.ext E9 (Sta.wr W8 (Sta.wr W7 (Sta.wr W6 (Sta.ext E5 SF))))) K10 (own_plE A9 own_pl0))
  refine g_callSW X10 B hS (Nat.zero_le _) I [.ref str] [] at_156 159 rfl rfl (hw _ (List.mem_of_getElem? (i := 27) rfl)) (hw _ (List.mem_of_getElem? (i := 28) rfl)) (hw _ (List.mem_of_getElem? (i := 29) rfl)) (hw _ (List.mem_of_getElem? (i := 30) rfl)) (by decide) (lenOf pd_5 rfl) (rW_of l Z ag hw str bb cx vs [c0, c1, c2] g h10 n0 t8 t9 f1 f2 f3 (by simp) hLv t10 hcx t11 hg (own_chs3 hx0 hx1 hx2 hx3) (by simp) (fun b cl q => t7.2.1 b cl (OZ b cl q) nin0) hH hcw) e10 rfl 0 (Nat.le_of_eq rfl) (by decide) (by decide) (by decide) (by decide) (fun v11 T11 h11 L11 X11 B e11 hS q11 => ?_)
  obtain ⟨k, hO, r, b2, ws, rfl, N11, K11, t2, t3, t4, t5, hLr⟩ := q11
  show Go p e below _ (T11.setTop (mkF m 159 #[.val (.int p0), .val (.int p1), .val (.int p2), .val (.int p3), .val (.int p4), .val (.int (3 : Int32)), .val (.int c0), .val (.int c1), .val (.int c2), .val (.int c3), .val (.ref ar), .val (.ref str), .unset, .unset] [.ref r]))
  have kk11 : h11.size ≤ h11.size := Nat.le_refl _
  have hkn : (([c0, c1, c2]).take k).length = k := own_tlen hO.1
  have hk4 : k ≤ 3 := hO.1
  refine g_astore X11 B #[.val (.int p0), .val (.int p1), .val (.int p2), .val (.int p3), .val (.int p4), .val (.int (3 : Int32)), .val (.int c0), .val (.int c1), .val (.int c2), .val (.int c3), .val (.ref ar), .val (.ref str), .val (.ref r), .unset] at_159 161 rfl rfl rfl ?_
  refine g_aload X11 B at_161 163 rfl rfl rfl ?_
  have t12 := (own_stk t10 K11)
  refine g_callV X11 B [] [] at_163 166 rfl rfl (hw _ (List.mem_of_getElem? (i := 56) rfl)) (hw _ (List.mem_of_getElem? (i := 32) rfl)) (hw _ (List.mem_of_getElem? (i := 34) rfl)) (hw _ (List.mem_of_getElem? (i := 33) rfl)) (hw _ (List.mem_of_getElem? (i := 8) rfl)) (hw _ (List.mem_of_getElem? (i := 35) rfl)) (by decide) (lenOf pd_6 rfl) t2 (rS_len l Z ag hw r b2 cx ws (([c0, c1, c2]).take k) h11 n0 t2 t3 t4 t5 (by rw [hkn]; omega) hLr t12 hcx) e11 rfl 0 (Nat.le_of_eq rfl) (by decide) (by decide) (by decide) (by decide) (fun v12 T12 h12 L12 X12 e12 q12 => ?_)
  obtain ⟨rfl, N12, rfl⟩ := q12
  show Go p e below _ (T12.setTop (mkF m 166 #[.val (.int p0), .val (.int p1), .val (.int p2), .val (.int p3), .val (.int p4), .val (.int (3 : Int32)), .val (.int c0), .val (.int c1), .val (.int c2), .val (.int c3), .val (.ref ar), .val (.ref str), .val (.ref r), .unset] [.int (Int32.ofNat (([c0, c1, c2]).take k).length)]))
  rw [hkn]
  refine g_istore X12 B #[.val (.int p0), .val (.int p1), .val (.int p2), .val (.int p3), .val (.int p4), .val (.int (3 : Int32)), .val (.int c0), .val (.int c1), .val (.int c2), .val (.int c3), .val (.ref ar), .val (.ref str), .val (.ref r), .val (.int (Int32.ofNat k))] at_166 168 rfl rfl ?_
  refine g_iload X12 B at_168 170 rfl rfl ?_
  refine g_iload X12 B at_170 172 rfl rfl ?_
  refine g_icmp_le X12 B at_172 177 175 rfl (by decide) rfl (fun _ => ?_) (fun z => own_abs' (fun z => absurd ((own_lt (i := 3) (n := k) (by omega) (by omega)).mp z) (by omega)) z)
  refine g_iload X12 B at_177 179 rfl rfl ?_
  refine g_if_le X12 B at_179 198 182 rfl (by decide) rfl (fun c13 => ?_) (fun c13 => ?_)
  · skip
    refine g_aload X12 B at_198 200 rfl rfl rfl ?_
    refine g_aload X12 B at_200 202 rfl rfl rfl ?_
    refine g_iconst X12 B (0) at_202 203 rfl rfl ?_
    refine g_iload X12 B at_203 205 rfl rfl ?_
    refine g_iload X12 B at_205 207 rfl rfl ?_
    have t13 := (Exa.keep t9 K11)
    have t14 := (Fld.keep f1 K11 nin0)
    have t15 := (Fld.keep f2 K11 nin0)
    have t16 := (Av.keep f3 K11 nin0)
    have t17 := (own_stk t11 K11)
    refine g_callS X12 B [.ref str, .ref r, .int (0 : Int32), .int (3 : Int32), .int (Int32.ofNat k)] [] at_207 210 rfl rfl (hw _ (List.mem_of_getElem? (i := 57) rfl)) (hw _ (List.mem_of_getElem? (i := 58) rfl)) (hw _ (List.mem_of_getElem? (i := 3) rfl)) (hw _ (List.mem_of_getElem? (i := 59) rfl)) (by decide) (lenOf pd_11 rfl) (rm_at l Z ag hw str bb r b2 cx vs ws [c0, c1, c2] g 0 k h11 n0 t13 t14 t15 t16 (by simp) hLv t12 hcx t2 t3 t4 t5 (by rw [hkn]; omega) hLr t17 hg (own_chs3 hx0 hx1 hx2 hx3) hO (by decide)) e12 rfl 0 (Nat.le_of_eq rfl) (by decide) (by decide) (by decide) (by decide) (fun v14 T14 h14 L14 X14 e14 q14 => ?_)
    obtain ⟨rfl, N14, rfl⟩ := q14
    show Go p e below _ (T14.setTop (mkF m 210 #[.val (.int p0), .val (.int p1), .val (.int p2), .val (.int p3), .val (.int p4), .val (.int (3 : Int32)), .val (.int c0), .val (.int c1), .val (.int c2), .val (.int c3), .val (.ref ar), .val (.ref str), .val (.ref r), .val (.int (Int32.ofNat k))] [.int (1 : Int32)]))
    refine g_if_eq X14 B at_210 262 213 rfl (by decide) rfl (fun z => own_abs' (by decide) z) (fun _ => ?_)
    refine g_aload X14 B at_213 215 rfl rfl rfl ?_
    refine g_aload X14 B at_215 217 rfl rfl rfl ?_
    refine g_iconst X14 B (1) at_217 218 rfl rfl ?_
    refine g_iload X14 B at_218 220 rfl rfl ?_
    refine g_iload X14 B at_220 222 rfl rfl ?_
    refine g_callS X14 B [.ref str, .ref r, .int (1 : Int32), .int (3 : Int32), .int (Int32.ofNat k)] [] at_222 225 rfl rfl (hw _ (List.mem_of_getElem? (i := 57) rfl)) (hw _ (List.mem_of_getElem? (i := 58) rfl)) (hw _ (List.mem_of_getElem? (i := 3) rfl)) (hw _ (List.mem_of_getElem? (i := 59) rfl)) (by decide) (lenOf pd_11 rfl) (rm_at l Z ag hw str bb r b2 cx vs ws [c0, c1, c2] g 1 k h11 n0 t13 t14 t15 t16 (by simp) hLv t12 hcx t2 t3 t4 t5 (by rw [hkn]; omega) hLr t17 hg (own_chs3 hx0 hx1 hx2 hx3) hO (by decide)) e14 rfl 0 (Nat.le_of_eq rfl) (by decide) (by decide) (by decide) (by decide) (fun v15 T15 h15 L15 X15 e15 q15 => ?_)
    obtain ⟨rfl, N15, rfl⟩ := q15
    show Go p e below _ (T15.setTop (mkF m 225 #[.val (.int p0), .val (.int p1), .val (.int p2), .val (.int p3), .val (.int p4), .val (.int (3 : Int32)), .val (.int c0), .val (.int c1), .val (.int c2), .val (.int c3), .val (.ref ar), .val (.ref str), .val (.ref r), .val (.int (Int32.ofNat k))] [.int (1 : Int32)]))
    refine g_if_eq X15 B at_225 262 228 rfl (by decide) rfl (fun z => own_abs' (by decide) z) (fun _ => ?_)
    refine g_aload X15 B at_228 230 rfl rfl rfl ?_
    refine g_aload X15 B at_230 232 rfl rfl rfl ?_
    refine g_iconst X15 B (2) at_232 233 rfl rfl ?_
    refine g_iload X15 B at_233 235 rfl rfl ?_
    refine g_iload X15 B at_235 237 rfl rfl ?_
    refine g_callS X15 B [.ref str, .ref r, .int (2 : Int32), .int (3 : Int32), .int (Int32.ofNat k)] [] at_237 240 rfl rfl (hw _ (List.mem_of_getElem? (i := 57) rfl)) (hw _ (List.mem_of_getElem? (i := 58) rfl)) (hw _ (List.mem_of_getElem? (i := 3) rfl)) (hw _ (List.mem_of_getElem? (i := 59) rfl)) (by decide) (lenOf pd_11 rfl) (rm_at l Z ag hw str bb r b2 cx vs ws [c0, c1, c2] g 2 k h11 n0 t13 t14 t15 t16 (by simp) hLv t12 hcx t2 t3 t4 t5 (by rw [hkn]; omega) hLr t17 hg (own_chs3 hx0 hx1 hx2 hx3) hO (by decide)) e15 rfl 0 (Nat.le_of_eq rfl) (by decide) (by decide) (by decide) (by decide) (fun v16 T16 h16 L16 X16 e16 q16 => ?_)
    obtain ⟨rfl, N16, rfl⟩ := q16
    show Go p e below _ (T16.setTop (mkF m 240 #[.val (.int p0), .val (.int p1), .val (.int p2), .val (.int p3), .val (.int p4), .val (.int (3 : Int32)), .val (.int c0), .val (.int c1), .val (.int c2), .val (.int c3), .val (.ref ar), .val (.ref str), .val (.ref r), .val (.int (Int32.ofNat k))] [.int (1 : Int32)]))
    refine g_if_eq X16 B at_240 262 243 rfl (by decide) rfl (fun z => own_abs' (by decide) z) (fun _ => ?_)
    refine g_aload X16 B at_243 245 rfl rfl rfl ?_
    refine g_aload X16 B at_245 247 rfl rfl rfl ?_
    refine g_iconst X16 B (3) at_247 248 rfl rfl ?_
    refine g_iload X16 B at_248 250 rfl rfl ?_
    refine g_iload X16 B at_250 252 rfl rfl ?_
    refine g_callS X16 B [.ref str, .ref r, .int (3 : Int32), .int (3 : Int32), .int (Int32.ofNat k)] [] at_252 255 rfl rfl (hw _ (List.mem_of_getElem? (i := 57) rfl)) (hw _ (List.mem_of_getElem? (i := 58) rfl)) (hw _ (List.mem_of_getElem? (i := 3) rfl)) (hw _ (List.mem_of_getElem? (i := 59) rfl)) (by decide) (lenOf pd_11 rfl) (rm_at l Z ag hw str bb r b2 cx vs ws [c0, c1, c2] g 3 k h11 n0 t13 t14 t15 t16 (by simp) hLv t12 hcx t2 t3 t4 t5 (by rw [hkn]; omega) hLr t17 hg (own_chs3 hx0 hx1 hx2 hx3) hO (by decide)) e16 rfl 0 (Nat.le_of_eq rfl) (by decide) (by decide) (by decide) (by decide) (fun v17 T17 h17 L17 X17 e17 q17 => ?_)
    obtain ⟨rfl, N17, rfl⟩ := q17
    show Go p e below _ (T17.setTop (mkF m 255 #[.val (.int p0), .val (.int p1), .val (.int p2), .val (.int p3), .val (.int p4), .val (.int (3 : Int32)), .val (.int c0), .val (.int c1), .val (.int c2), .val (.int c3), .val (.ref ar), .val (.ref str), .val (.ref r), .val (.int (Int32.ofNat k))] [.int (1 : Int32)]))
    refine g_if_eq X17 B at_255 262 258 rfl (by decide) rfl (fun z => own_abs' (by decide) z) (fun _ => ?_)
    refine g_iconst X17 B (1) at_258 259 rfl rfl ?_
    refine g_goto X17 B at_259 263 rfl (by decide) ?_
    exact g_retNW X17 B at_263 rfl rfl (by decide) (by decide) (by decide) e17 hS kk11 (fun vm hvm => ⟨rfl, ((((((((Fr.snoc X8 (Fr.snoc X7 (Fr.snoc X6 (((((Fr.nil n0).app N1).app N2).app N3).app N4) g_ar) g_ar) g_ar).app N10).app N11).app N12).app N14).app N15).app N16).app N17)⟩)
  · skip
    refine g_aload X12 B at_182 184 rfl rfl rfl ?_
    refine g_iload X12 B at_184 186 rfl rfl ?_
    refine g_iconst X12 B (1) at_186 187 rfl rfl ?_
    refine g_isub X12 B at_187 188 rfl ?_
    have hkp : 0 < k := (own_gt0 (by omega)).mp (by have q := c13; first | exact q | exact Classical.not_not.mp q)
    obtain ⟨cl, hcl, hc47⟩ := own_lastat hO hkp
    rw [own_sm1 (by omega) hkp]
    have t18 := (own_stk t11 K11)
    refine g_callV X12 B [.int (Int32.ofNat (k - 1))] [] at_188 191 rfl rfl (hw _ (List.mem_of_getElem? (i := 90) rfl)) (hw _ (List.mem_of_getElem? (i := 71) rfl)) (hw _ (List.mem_of_getElem? (i := 73) rfl)) (hw _ (List.mem_of_getElem? (i := 72) rfl)) (hw _ (List.mem_of_getElem? (i := 8) rfl)) (hw _ (List.mem_of_getElem? (i := 74) rfl)) (by decide) (lenOf pd_15 rfl) t2 (rL_cat l Z ag hw r b2 cx (k - 1) cl ws (([c0, c1, c2]).take k) g h11 n0 t2 t3 t4 t5 (by rw [hkn]; omega) hLr t12 hcx (by rw [hkn]; omega) (by rw [own_takeat (by omega)]; exact hcl) ((own_chs3 hx0 hx1 hx2 hx3) cl (List.mem_of_getElem? hcl)) t18 hg) e12 rfl 0 (Nat.le_of_eq rfl) (by decide) (by decide) (by decide) (by decide) (fun v18 T18 h18 L18 X18 e18 q18 => ?_)
    obtain ⟨rfl, N18, rfl⟩ := q18
    show Go p e below _ (T18.setTop (mkF m 191 #[.val (.int p0), .val (.int p1), .val (.int p2), .val (.int p3), .val (.int p4), .val (.int (3 : Int32)), .val (.int c0), .val (.int c1), .val (.int c2), .val (.int c3), .val (.ref ar), .val (.ref str), .val (.ref r), .val (.int (Int32.ofNat k))] [.int cl]))
    refine g_bipush X18 B (47) at_191 193 rfl rfl ?_
    refine g_icmp_ne X18 B at_193 198 196 rfl (by decide) rfl (fun _ => ?_) (fun z => own_abs' (hc47) z)
    refine g_aload X18 B at_198 200 rfl rfl rfl ?_
    refine g_aload X18 B at_200 202 rfl rfl rfl ?_
    refine g_iconst X18 B (0) at_202 203 rfl rfl ?_
    refine g_iload X18 B at_203 205 rfl rfl ?_
    refine g_iload X18 B at_205 207 rfl rfl ?_
    have t19 := (Exa.keep t9 K11)
    have t20 := (Fld.keep f1 K11 nin0)
    have t21 := (Fld.keep f2 K11 nin0)
    have t22 := (Av.keep f3 K11 nin0)
    refine g_callS X18 B [.ref str, .ref r, .int (0 : Int32), .int (3 : Int32), .int (Int32.ofNat k)] [] at_207 210 rfl rfl (hw _ (List.mem_of_getElem? (i := 57) rfl)) (hw _ (List.mem_of_getElem? (i := 58) rfl)) (hw _ (List.mem_of_getElem? (i := 3) rfl)) (hw _ (List.mem_of_getElem? (i := 59) rfl)) (by decide) (lenOf pd_11 rfl) (rm_at l Z ag hw str bb r b2 cx vs ws [c0, c1, c2] g 0 k h11 n0 t19 t20 t21 t22 (by simp) hLv t12 hcx t2 t3 t4 t5 (by rw [hkn]; omega) hLr t18 hg (own_chs3 hx0 hx1 hx2 hx3) hO (by decide)) e18 rfl 0 (Nat.le_of_eq rfl) (by decide) (by decide) (by decide) (by decide) (fun v19 T19 h19 L19 X19 e19 q19 => ?_)
    obtain ⟨rfl, N19, rfl⟩ := q19
    show Go p e below _ (T19.setTop (mkF m 210 #[.val (.int p0), .val (.int p1), .val (.int p2), .val (.int p3), .val (.int p4), .val (.int (3 : Int32)), .val (.int c0), .val (.int c1), .val (.int c2), .val (.int c3), .val (.ref ar), .val (.ref str), .val (.ref r), .val (.int (Int32.ofNat k))] [.int (1 : Int32)]))
    refine g_if_eq X19 B at_210 262 213 rfl (by decide) rfl (fun z => own_abs' (by decide) z) (fun _ => ?_)
    refine g_aload X19 B at_213 215 rfl rfl rfl ?_
    refine g_aload X19 B at_215 217 rfl rfl rfl ?_
    refine g_iconst X19 B (1) at_217 218 rfl rfl ?_
    refine g_iload X19 B at_218 220 rfl rfl ?_
    refine g_iload X19 B at_220 222 rfl rfl ?_
    refine g_callS X19 B [.ref str, .ref r, .int (1 : Int32), .int (3 : Int32), .int (Int32.ofNat k)] [] at_222 225 rfl rfl (hw _ (List.mem_of_getElem? (i := 57) rfl)) (hw _ (List.mem_of_getElem? (i := 58) rfl)) (hw _ (List.mem_of_getElem? (i := 3) rfl)) (hw _ (List.mem_of_getElem? (i := 59) rfl)) (by decide) (lenOf pd_11 rfl) (rm_at l Z ag hw str bb r b2 cx vs ws [c0, c1, c2] g 1 k h11 n0 t19 t20 t21 t22 (by simp) hLv t12 hcx t2 t3 t4 t5 (by rw [hkn]; omega) hLr t18 hg (own_chs3 hx0 hx1 hx2 hx3) hO (by decide)) e19 rfl 0 (Nat.le_of_eq rfl) (by decide) (by decide) (by decide) (by decide) (fun v20 T20 h20 L20 X20 e20 q20 => ?_)
    obtain ⟨rfl, N20, rfl⟩ := q20
    show Go p e below _ (T20.setTop (mkF m 225 #[.val (.int p0), .val (.int p1), .val (.int p2), .val (.int p3), .val (.int p4), .val (.int (3 : Int32)), .val (.int c0), .val (.int c1), .val (.int c2), .val (.int c3), .val (.ref ar), .val (.ref str), .val (.ref r), .val (.int (Int32.ofNat k))] [.int (1 : Int32)]))
    refine g_if_eq X20 B at_225 262 228 rfl (by decide) rfl (fun z => own_abs' (by decide) z) (fun _ => ?_)
    refine g_aload X20 B at_228 230 rfl rfl rfl ?_
    refine g_aload X20 B at_230 232 rfl rfl rfl ?_
    refine g_iconst X20 B (2) at_232 233 rfl rfl ?_
    refine g_iload X20 B at_233 235 rfl rfl ?_
    refine g_iload X20 B at_235 237 rfl rfl ?_
    refine g_callS X20 B [.ref str, .ref r, .int (2 : Int32), .int (3 : Int32), .int (Int32.ofNat k)] [] at_237 240 rfl rfl (hw _ (List.mem_of_getElem? (i := 57) rfl)) (hw _ (List.mem_of_getElem? (i := 58) rfl)) (hw _ (List.mem_of_getElem? (i := 3) rfl)) (hw _ (List.mem_of_getElem? (i := 59) rfl)) (by decide) (lenOf pd_11 rfl) (rm_at l Z ag hw str bb r b2 cx vs ws [c0, c1, c2] g 2 k h11 n0 t19 t20 t21 t22 (by simp) hLv t12 hcx t2 t3 t4 t5 (by rw [hkn]; omega) hLr t18 hg (own_chs3 hx0 hx1 hx2 hx3) hO (by decide)) e20 rfl 0 (Nat.le_of_eq rfl) (by decide) (by decide) (by decide) (by decide) (fun v21 T21 h21 L21 X21 e21 q21 => ?_)
    obtain ⟨rfl, N21, rfl⟩ := q21
    show Go p e below _ (T21.setTop (mkF m 240 #[.val (.int p0), .val (.int p1), .val (.int p2), .val (.int p3), .val (.int p4), .val (.int (3 : Int32)), .val (.int c0), .val (.int c1), .val (.int c2), .val (.int c3), .val (.ref ar), .val (.ref str), .val (.ref r), .val (.int (Int32.ofNat k))] [.int (1 : Int32)]))
    refine g_if_eq X21 B at_240 262 243 rfl (by decide) rfl (fun z => own_abs' (by decide) z) (fun _ => ?_)
    refine g_aload X21 B at_243 245 rfl rfl rfl ?_
    refine g_aload X21 B at_245 247 rfl rfl rfl ?_
    refine g_iconst X21 B (3) at_247 248 rfl rfl ?_
    refine g_iload X21 B at_248 250 rfl rfl ?_
    refine g_iload X21 B at_250 252 rfl rfl ?_
    refine g_callS X21 B [.ref str, .ref r, .int (3 : Int32), .int (3 : Int32), .int (Int32.ofNat k)] [] at_252 255 rfl rfl (hw _ (List.mem_of_getElem? (i := 57) rfl)) (hw _ (List.mem_of_getElem? (i := 58) rfl)) (hw _ (List.mem_of_getElem? (i := 3) rfl)) (hw _ (List.mem_of_getElem? (i := 59) rfl)) (by decide) (lenOf pd_11 rfl) (rm_at l Z ag hw str bb r b2 cx vs ws [c0, c1, c2] g 3 k h11 n0 t19 t20 t21 t22 (by simp) hLv t12 hcx t2 t3 t4 t5 (by rw [hkn]; omega) hLr t18 hg (own_chs3 hx0 hx1 hx2 hx3) hO (by decide)) e21 rfl 0 (Nat.le_of_eq rfl) (by decide) (by decide) (by decide) (by decide) (fun v22 T22 h22 L22 X22 e22 q22 => ?_)
    obtain ⟨rfl, N22, rfl⟩ := q22
    show Go p e below _ (T22.setTop (mkF m 255 #[.val (.int p0), .val (.int p1), .val (.int p2), .val (.int p3), .val (.int p4), .val (.int (3 : Int32)), .val (.int c0), .val (.int c1), .val (.int c2), .val (.int c3), .val (.ref ar), .val (.ref str), .val (.ref r), .val (.int (Int32.ofNat k))] [.int (1 : Int32)]))
    refine g_if_eq X22 B at_255 262 258 rfl (by decide) rfl (fun z => own_abs' (by decide) z) (fun _ => ?_)
    refine g_iconst X22 B (1) at_258 259 rfl rfl ?_
    refine g_goto X22 B at_259 263 rfl (by decide) ?_
    exact g_retNW X22 B at_263 rfl rfl (by decide) (by decide) (by decide) e22 hS kk11 (fun vm hvm => ⟨rfl, (((((((((Fr.snoc X8 (Fr.snoc X7 (Fr.snoc X6 (((((Fr.nil n0).app N1).app N2).app N3).app N4) g_ar) g_ar) g_ar).app N10).app N11).app N12).app N18).app N19).app N20).app N21).app N22)⟩)
set_option maxRecDepth 65536 in
set_option maxHeartbeats 40000000 in
theorem rm0_4 (l : Launch) (Z : State) (ag : Array Value) (hw : ∀ d ∈ tables_1, d.before ag Z = true) (p0 p1 p2 p3 p4 cx : Int32) (g : Value) (h0 : Heap) (n0 : Nat) (Z0 : n0 ≤ h0.size) (SC : Sta Z h0 "java/lang/String" "COMPACT_STRINGS" "Z" (.int cx)) (hcx : ¬ cx = 0) (SF : Sta Z h0 "jdk/internal/util/Preconditions" "SIOOBE_FORMATTER" "Ljava/util/function/BiFunction;" g) (hg : g.isRef = true) (kk5 : ((p0 &&& (2147483647 : Int32)) % (5 : Int32)) = 4) (OZ : ∀ (b : Addr) (cl : Cell), Z.heap[b]? = some cl → h0[b]? = some cl) (hH7 : Jvm.Lit.constHeld Z "java/lang/String" 7) (hH : Jvm.Lit.constHeld Z "java/lang/StringLatin1" 151) (hcw : Jvm.Lit.compactW.before ag Z = true) :
    CtrW l Z x code maxLocals ret room_1 #[.int p0, .int p1, .int p2, .int p3, .int p4] h0 [] (fun v h vm L => v = some (.int 1) ∧ Fr n0 L) := by
  refine CtrW.of pn_0 ?_
  intro p e s m below meth c T0 X0 B e0 hs0 hS I
  refine Go.cast (f' := mkF m 0 #[.val (.int p0), .val (.int p1), .val (.int p2), .val (.int p3), .val (.int p4), .unset, .unset, .unset, .unset, .unset, .unset, .unset, .unset, .unset] []) (by first | rfl | (simp [entryFrame, mkF, argsToLocals, Value.category, maxLocals]; done)) ?_

  refine g_iloadN X0 B at_0 1 rfl rfl ?_
  refine g_ldcI X0 B at_1 3 rfl (hw _ (List.mem_of_getElem? (i := 0) rfl)) ?_
  refine g_iand X0 B at_3 4 rfl ?_
  refine g_iconst X0 B (5) at_4 5 rfl rfl ?_
  refine g_irem X0 B at_5 6 rfl (by decide) ?_
  rw [kk5]
  show Go p e below _ (T0.setTop (mkF m 6 #[.val (.int p0), .val (.int p1), .val (.int p2), .val (.int p3), .val (.int p4), .unset, .unset, .unset, .unset, .unset, .unset, .unset, .unset, .unset] [.int (4 : Int32)]))
  refine g_istore X0 B #[.val (.int p0), .val (.int p1), .val (.int p2), .val (.int p3), .val (.int p4), .val (.int (4 : Int32)), .unset, .unset, .unset, .unset, .unset, .unset, .unset, .unset] at_6 8 rfl rfl ?_
  refine g_iloadN X0 B at_8 9 rfl rfl ?_
  refine g_callS X0 B [.int p1] [] at_9 12 rfl rfl (hw _ (List.mem_of_getElem? (i := 1) rfl)) (hw _ (List.mem_of_getElem? (i := 2) rfl)) (hw _ (List.mem_of_getElem? (i := 3) rfl)) (hw _ (List.mem_of_getElem? (i := 4) rfl)) (by decide) (lenOf pd_1 rfl) (rm_ch l Z ag hw p1 h0 n0) e0 rfl 0 (Nat.le_of_eq rfl) (by decide) (by decide) (by decide) (by decide) (fun v1 T1 h1 L1 X1 e1 q1 => ?_)
  obtain ⟨c0, rfl, hx0, hy0, N1, rfl⟩ := q1
  show Go p e below _ (T1.setTop (mkF m 12 #[.val (.int p0), .val (.int p1), .val (.int p2), .val (.int p3), .val (.int p4), .val (.int (4 : Int32)), .unset, .unset, .unset, .unset, .unset, .unset, .unset, .unset] [.int c0]))
  refine g_istore X1 B #[.val (.int p0), .val (.int p1), .val (.int p2), .val (.int p3), .val (.int p4), .val (.int (4 : Int32)), .val (.int c0), .unset, .unset, .unset, .unset, .unset, .unset, .unset] at_12 14 rfl rfl ?_
  refine g_iloadN X1 B at_14 15 rfl rfl ?_
  refine g_callS X1 B [.int p2] [] at_15 18 rfl rfl (hw _ (List.mem_of_getElem? (i := 1) rfl)) (hw _ (List.mem_of_getElem? (i := 2) rfl)) (hw _ (List.mem_of_getElem? (i := 3) rfl)) (hw _ (List.mem_of_getElem? (i := 4) rfl)) (by decide) (lenOf pd_1 rfl) (rm_ch l Z ag hw p2 h0 n0) e1 rfl 0 (Nat.le_of_eq rfl) (by decide) (by decide) (by decide) (by decide) (fun v2 T2 h2 L2 X2 e2 q2 => ?_)
  obtain ⟨c1, rfl, hx1, hy1, N2, rfl⟩ := q2
  show Go p e below _ (T2.setTop (mkF m 18 #[.val (.int p0), .val (.int p1), .val (.int p2), .val (.int p3), .val (.int p4), .val (.int (4 : Int32)), .val (.int c0), .unset, .unset, .unset, .unset, .unset, .unset, .unset] [.int c1]))
  refine g_istore X2 B #[.val (.int p0), .val (.int p1), .val (.int p2), .val (.int p3), .val (.int p4), .val (.int (4 : Int32)), .val (.int c0), .val (.int c1), .unset, .unset, .unset, .unset, .unset, .unset] at_18 20 rfl rfl ?_
  refine g_iloadN X2 B at_20 21 rfl rfl ?_
  refine g_callS X2 B [.int p3] [] at_21 24 rfl rfl (hw _ (List.mem_of_getElem? (i := 1) rfl)) (hw _ (List.mem_of_getElem? (i := 2) rfl)) (hw _ (List.mem_of_getElem? (i := 3) rfl)) (hw _ (List.mem_of_getElem? (i := 4) rfl)) (by decide) (lenOf pd_1 rfl) (rm_ch l Z ag hw p3 h0 n0) e2 rfl 0 (Nat.le_of_eq rfl) (by decide) (by decide) (by decide) (by decide) (fun v3 T3 h3 L3 X3 e3 q3 => ?_)
  obtain ⟨c2, rfl, hx2, hy2, N3, rfl⟩ := q3
  show Go p e below _ (T3.setTop (mkF m 24 #[.val (.int p0), .val (.int p1), .val (.int p2), .val (.int p3), .val (.int p4), .val (.int (4 : Int32)), .val (.int c0), .val (.int c1), .unset, .unset, .unset, .unset, .unset, .unset] [.int c2]))
  refine g_istore X3 B #[.val (.int p0), .val (.int p1), .val (.int p2), .val (.int p3), .val (.int p4), .val (.int (4 : Int32)), .val (.int c0), .val (.int c1), .val (.int c2), .unset, .unset, .unset, .unset, .unset] at_24 26 rfl rfl ?_
  refine g_iload X3 B at_26 28 rfl rfl ?_
  refine g_callS X3 B [.int p4] [] at_28 31 rfl rfl (hw _ (List.mem_of_getElem? (i := 1) rfl)) (hw _ (List.mem_of_getElem? (i := 2) rfl)) (hw _ (List.mem_of_getElem? (i := 3) rfl)) (hw _ (List.mem_of_getElem? (i := 4) rfl)) (by decide) (lenOf pd_1 rfl) (rm_ch l Z ag hw p4 h0 n0) e3 rfl 0 (Nat.le_of_eq rfl) (by decide) (by decide) (by decide) (by decide) (fun v4 T4 h4 L4 X4 e4 q4 => ?_)
  obtain ⟨c3, rfl, hx3, hy3, N4, rfl⟩ := q4
  show Go p e below _ (T4.setTop (mkF m 31 #[.val (.int p0), .val (.int p1), .val (.int p2), .val (.int p3), .val (.int p4), .val (.int (4 : Int32)), .val (.int c0), .val (.int c1), .val (.int c2), .unset, .unset, .unset, .unset, .unset] [.int c3]))
  refine g_istore X4 B #[.val (.int p0), .val (.int p1), .val (.int p2), .val (.int p3), .val (.int p4), .val (.int (4 : Int32)), .val (.int c0), .val (.int c1), .val (.int c2), .val (.int c3), .unset, .unset, .unset, .unset] at_31 33 rfl rfl ?_
  refine g_iload X4 B at_33 35 rfl rfl ?_
  refine g_if_ne X4 B at_35 46 38 rfl (by decide) rfl (fun _ => ?_) (fun z => own_abs' (by decide) z)
  refine g_iload X4 B at_46 48 rfl rfl ?_
  refine g_iconst X4 B (1) at_48 49 rfl rfl ?_
  refine g_icmp_ne X4 B at_49 65 52 rfl (by decide) rfl (fun _ => ?_) (fun z => own_abs' (by decide) z)
  refine g_iload X4 B at_65 67 rfl rfl ?_
  refine g_iconst X4 B (2) at_67 68 rfl rfl ?_
  refine g_icmp_ne X4 B at_68 89 71 rfl (by decide) rfl (fun _ => ?_) (fun z => own_abs' (by decide) z)
  refine g_iload X4 B at_89 91 rfl rfl ?_
  refine g_iconst X4 B (3) at_91 92 rfl rfl ?_
  refine g_icmp_ne X4 B at_92 118 95 rfl (by decide) rfl (fun _ => ?_) (fun z => own_abs' (by decide) z)
  refine g_iconst X4 B (4) at_118 119 rfl rfl ?_
  refine g_newP X4 B [(.int 0 : Value), .int 0, .int 0, .int 0] at_119 121 rfl (hw _ (List.mem_of_getElem? (i := 5) rfl)) e4 (by decide) rfl (by decide) (by decide) (by decide) (fun T5 h5 ar X5 e5 ea5 E5 A5 => ?_)
  have g_ar : n0 ≤ ar := ea5 ▸ Z0
  have gg_ar : h0.size ≤ ar := ea5 ▸ (Keep.refl h0 []).1
  refine g_dup X5 B at_121 122 rfl rfl ?_
  refine g_iconst X5 B (0) at_122 123 rfl rfl ?_
  refine g_iload X5 B at_123 125 rfl rfl ?_
  refine g_castore X5 B 0 at_125 126 rfl e5 A5 (by decide) (by decide) (by simp) (fun T6 h6 X6 e6 W6 A6 => ?_)
  rw [own_nc hx0] at A6 W6
  replace A6 : Av Z h6 ar .char [(.int c0 : Value), .int 0, .int 0, .int 0] := A6
  refine g_dup X6 B at_126 127 rfl rfl ?_
  refine g_iconst X6 B (1) at_127 128 rfl rfl ?_
  refine g_iload X6 B at_128 130 rfl rfl ?_
  refine g_castore X6 B 1 at_130 131 rfl e6 A6 (by decide) (by decide) (by simp) (fun T7 h7 X7 e7 W7 A7 => ?_)
  rw [own_nc hx1] at A7 W7
  replace A7 : Av Z h7 ar .char [(.int c0 : Value), .int c1, .int 0, .int 0] := A7
  refine g_dup X7 B at_131 132 rfl rfl ?_
  refine g_iconst X7 B (2) at_132 133 rfl rfl ?_
  refine g_iload X7 B at_133 135 rfl rfl ?_
  refine g_castore X7 B 2 at_135 136 rfl e7 A7 (by decide) (by decide) (by simp) (fun T8 h8 X8 e8 W8 A8 => ?_)
  rw [own_nc hx2] at A8 W8
  replace A8 : Av Z h8 ar .char [(.int c0 : Value), .int c1, .int c2, .int 0] := A8
  refine g_dup X8 B at_136 137 rfl rfl ?_
  refine g_iconst X8 B (3) at_137 138 rfl rfl ?_
  refine g_iload X8 B at_138 140 rfl rfl ?_
  refine g_castore X8 B 3 at_140 141 rfl e8 A8 (by decide) (by decide) (by simp) (fun T9 h9 X9 e9 W9 A9 => ?_)
  rw [own_nc hx3] at A9 W9
  replace A9 : Av Z h9 ar .char [(.int c0 : Value), .int c1, .int c2, .int c3] := A9
  refine g_astore X9 B #[.val (.int p0), .val (.int p1), .val (.int p2), .val (.int p3), .val (.int p4), .val (.int (4 : Int32)), .val (.int c0), .val (.int c1), .val (.int c2), .val (.int c3), .val (.ref ar), .unset, .unset, .unset] at_141 143 rfl rfl rfl ?_
  refine g_new X9 B at_143 146 rfl (hw _ (List.mem_of_getElem? (i := 6) rfl)) (hw _ (List.mem_of_getElem? (i := 7) rfl)) (hw _ (List.mem_of_getElem? (i := 8) rfl)) e9 (by decide) (by decide) (fun T10 h10 str X10 e10 ea10 E10 A10 D10 => ?_)
  have t1 := (Nat.le_trans (Nat.le_trans (Nat.le_trans (Nat.le_trans (Nat.le_trans Z0 E5.1) (Nat.le_of_eq W6.size.symm)) (Nat.le_of_eq W7.size.symm)) (Nat.le_of_eq W8.size.symm)) (Nat.le_of_eq W9.size.symm))
  have t2 := (Keep.wr (Keep.wr (Keep.wr (Keep.wr (Keep.ext (Keep.refl h0 []) E5) W6 (Or.inr gg_ar)) W7 (Or.inr gg_ar)) W8 (Or.inr gg_ar)) W9 (Or.inr gg_ar))
  have g_str : n0 ≤ str := ea10 ▸ t1
  have gg_str : h0.size ≤ str := ea10 ▸ t2.1
  have t3 : ar ≠ str := ea10 ▸ Nat.ne_of_lt (A9.lt)
  have D10_0 : Fld Z h10 str "java/lang/String" "value" "[B" (.null) := D10 (Or.inr (hw _ (List.mem_of_getElem? (i := 21) rfl))) (ty := (.array .byte)) (by decide)
  have D10_1 : Fld Z h10 str "java/lang/String" "coder" "B" (.int 0) := D10 (Or.inr (hw _ (List.mem_of_getElem? (i := 22) rfl))) (ty := .byte) (by decide)
  refine g_dup X10 B at_146 147 rfl rfl ?_
  refine g_aload X10 B at_147 149 rfl rfl rfl ?_
  have t4 := (Nat.le_trans t1 E10.1)
  have t5 := (Av.ext A9 E10)
  have t6 := (Sta.ext E10 (Sta.wr W9 (Sta.wr W8 (Sta.wr W7 (Sta.wr W6 (Sta.ext E5 SC))))))
  refine g_callN X10 B [.ref ar] [.ref str] at_149 152 rfl rfl rfl (hw _ (List.mem_of_getElem? (i := 9) rfl)) (hw _ (List.mem_of_getElem? (i := 10) rfl)) (hw _ (List.mem_of_getElem? (i := 11) rfl)) (hw _ (List.mem_of_getElem? (i := 8) rfl)) (by decide) (lenOf pd_2 rfl) (rS_i1 l Z ag hw str ar [c0, c1, c2, c3] cx h10 n0 t4 (by simp) (by simp) (own_chl4 hy0 hy1 hy2 hy3) g_str A10 D10_0 D10_1 t5 t6 hcx) e10 rfl 1 (Nat.le_of_eq rfl) (by decide) (by decide) (by decide) (by decide) (fun v11 T11 h11 L11 X11 e11 q11 => ?_)
  obtain ⟨bb, vs, rfl, N11, K11, f1, f2, f3, hLv, f5, f6⟩ := q11
  show Go p e below _ (T11.setTop (mkF m 152 #[.val (.int p0), .val (.int p1), .val (.int p2), .val (.int p3), .val (.int p4), .val (.int (4 : Int32)), .val (.int c0), .val (.int c1), .val (.int c2), .val (.int c3), .val (.ref ar), .unset, .unset, .unset] [.ref str]))
  refine g_astore X11 B #[.val (.int p0), .val (.int p1), .val (.int p2), .val (.int p3), .val (.int p4), .val (.int (4 : Int32)), .val (.int c0), .val (.int c1), .val (.int c2), .val (.int c3), .val (.ref ar), .val (.ref str), .unset, .unset] at_152 154 rfl rfl rfl ?_
  refine g_aload X11 B at_154 156 rfl rfl rfl ?_
  have t7 := (Keep.trans (Keep.ext t2 E10) K11 (allS (Or.inr gg_str) all0))
  have t8 := (Nat.le_trans t4 K11.1)
  have t9 := (Exa.keep A10 K11)
  have t10 := (own_stkw t6 K11 (own_plE A10 own_pl0))
  have t11 := (own_stkw (Sta.ext E10 (Sta.wr W9 (Sta.wr W8 (Sta.wr W7 (Sta.wr W6 (Sta.ext E5 SF)))))) K11 (own_plE A10 own_pl0))
  refine g_callSW X11 B hS (Nat.zero_le _) I [.ref str] [] at_156 159 rfl rfl (hw _ (List.mem_of_getElem? (i := 27) rfl)) (hw _ (List.mem_of_getElem? (i := 28) rfl)) (hw _ (List.mem_of_getElem? (i := 29) rfl)) (hw _ (List.mem_of_getElem? (i := 30) rfl)) (by decide) (lenOf pd_5 rfl) (rW_of l Z ag hw str bb cx vs [c0, c1, c2, c3] g h11 n0 t8 t9 f1 f2 f3 (by simp) hLv t10 hcx t11 hg (own_chs4 hx0 hx1 hx2 hx3) (by simp) (fun b cl q => t7.2.1 b cl (OZ b cl q) nin0) hH hcw) e11 rfl 0 (Nat.le_of_eq rfl) (by decide) (by decide) (by decide) (by decide) (fun v12 T12 h12 L12 X12 B e12 hS q12 => ?_)
  obtain ⟨k, hO, r, b2, ws, rfl, N12, K12, t2, t3, t4, t5, hLr⟩ := q12
  show Go p e below _ (T12.setTop (mkF m 159 #[.val (.int p0), .val (.int p1), .val (.int p2), .val (.int p3), .val (.int p4), .val (.int (4 : Int32)), .val (.int c0), .val (.int c1), .val (.int c2), .val (.int c3), .val (.ref ar), .val (.ref str), .unset, .unset] [.ref r]))
  have kk12 : h12.size ≤ h12.size := Nat.le_refl _
  have hkn : (([c0, c1, c2, c3]).take k).length = k := own_tlen hO.1
  have hk4 : k ≤ 4 := hO.1
  refine g_astore X12 B #[.val (.int p0), .val (.int p1), .val (.int p2), .val (.int p3), .val (.int p4), .val (.int (4 : Int32)), .val (.int c0), .val (.int c1), .val (.int c2), .val (.int c3), .val (.ref ar), .val (.ref str), .val (.ref r), .unset] at_159 161 rfl rfl rfl ?_
  refine g_aload X12 B at_161 163 rfl rfl rfl ?_
  have t12 := (own_stk t10 K12)
  refine g_callV X12 B [] [] at_163 166 rfl rfl (hw _ (List.mem_of_getElem? (i := 56) rfl)) (hw _ (List.mem_of_getElem? (i := 32) rfl)) (hw _ (List.mem_of_getElem? (i := 34) rfl)) (hw _ (List.mem_of_getElem? (i := 33) rfl)) (hw _ (List.mem_of_getElem? (i := 8) rfl)) (hw _ (List.mem_of_getElem? (i := 35) rfl)) (by decide) (lenOf pd_6 rfl) t2 (rS_len l Z ag hw r b2 cx ws (([c0, c1, c2, c3]).take k) h12 n0 t2 t3 t4 t5 (by rw [hkn]; omega) hLr t12 hcx) e12 rfl 0 (Nat.le_of_eq rfl) (by decide) (by decide) (by decide) (by decide) (fun v13 T13 h13 L13 X13 e13 q13 => ?_)
  obtain ⟨rfl, N13, rfl⟩ := q13
  show Go p e below _ (T13.setTop (mkF m 166 #[.val (.int p0), .val (.int p1), .val (.int p2), .val (.int p3), .val (.int p4), .val (.int (4 : Int32)), .val (.int c0), .val (.int c1), .val (.int c2), .val (.int c3), .val (.ref ar), .val (.ref str), .val (.ref r), .unset] [.int (Int32.ofNat (([c0, c1, c2, c3]).take k).length)]))
  rw [hkn]
  refine g_istore X13 B #[.val (.int p0), .val (.int p1), .val (.int p2), .val (.int p3), .val (.int p4), .val (.int (4 : Int32)), .val (.int c0), .val (.int c1), .val (.int c2), .val (.int c3), .val (.ref ar), .val (.ref str), .val (.ref r), .val (.int (Int32.ofNat k))] at_166 168 rfl rfl ?_
  refine g_iload X13 B at_168 170 rfl rfl ?_
  refine g_iload X13 B at_170 172 rfl rfl ?_
  refine g_icmp_le X13 B at_172 177 175 rfl (by decide) rfl (fun _ => ?_) (fun z => own_abs' (fun z => absurd ((own_lt (i := 4) (n := k) (by omega) (by omega)).mp z) (by omega)) z)
  refine g_iload X13 B at_177 179 rfl rfl ?_
  refine g_if_le X13 B at_179 198 182 rfl (by decide) rfl (fun c14 => ?_) (fun c14 => ?_)
  · skip
    refine g_aload X13 B at_198 200 rfl rfl rfl ?_
    refine g_aload X13 B at_200 202 rfl rfl rfl ?_
    refine g_iconst X13 B (0) at_202 203 rfl rfl ?_
    refine g_iload X13 B at_203 205 rfl rfl ?_
    refine g_iload X13 B at_205 207 rfl rfl ?_
    have t13 := (Exa.keep t9 K12)
    have t14 := (Fld.keep f1 K12 nin0)
    have t15 := (Fld.keep f2 K12 nin0)
    have t16 := (Av.keep f3 K12 nin0)
    have t17 := (own_stk t11 K12)
    refine g_callS X13 B [.ref str, .ref r, .int (0 : Int32), .int (4 : Int32), .int (Int32.ofNat k)] [] at_207 210 rfl rfl (hw _ (List.mem_of_getElem? (i := 57) rfl)) (hw _ (List.mem_of_getElem? (i := 58) rfl)) (hw _ (List.mem_of_getElem? (i := 3) rfl)) (hw _ (List.mem_of_getElem? (i := 59) rfl)) (by decide) (lenOf pd_11 rfl) (rm_at l Z ag hw str bb r b2 cx vs ws [c0, c1, c2, c3] g 0 k h12 n0 t13 t14 t15 t16 (by simp) hLv t12 hcx t2 t3 t4 t5 (by rw [hkn]; omega) hLr t17 hg (own_chs4 hx0 hx1 hx2 hx3) hO (by decide)) e13 rfl 0 (Nat.le_of_eq rfl) (by decide) (by decide) (by decide) (by decide) (fun v15 T15 h15 L15 X15 e15 q15 => ?_)
    obtain ⟨rfl, N15, rfl⟩ := q15
    show Go p e below _ (T15.setTop (mkF m 210 #[.val (.int p0), .val (.int p1), .val (.int p2), .val (.int p3), .val (.int p4), .val (.int (4 : Int32)), .val (.int c0), .val (.int c1), .val (.int c2), .val (.int c3), .val (.ref ar), .val (.ref str), .val (.ref r), .val (.int (Int32.ofNat k))] [.int (1 : Int32)]))
    refine g_if_eq X15 B at_210 262 213 rfl (by decide) rfl (fun z => own_abs' (by decide) z) (fun _ => ?_)
    refine g_aload X15 B at_213 215 rfl rfl rfl ?_
    refine g_aload X15 B at_215 217 rfl rfl rfl ?_
    refine g_iconst X15 B (1) at_217 218 rfl rfl ?_
    refine g_iload X15 B at_218 220 rfl rfl ?_
    refine g_iload X15 B at_220 222 rfl rfl ?_
    refine g_callS X15 B [.ref str, .ref r, .int (1 : Int32), .int (4 : Int32), .int (Int32.ofNat k)] [] at_222 225 rfl rfl (hw _ (List.mem_of_getElem? (i := 57) rfl)) (hw _ (List.mem_of_getElem? (i := 58) rfl)) (hw _ (List.mem_of_getElem? (i := 3) rfl)) (hw _ (List.mem_of_getElem? (i := 59) rfl)) (by decide) (lenOf pd_11 rfl) (rm_at l Z ag hw str bb r b2 cx vs ws [c0, c1, c2, c3] g 1 k h12 n0 t13 t14 t15 t16 (by simp) hLv t12 hcx t2 t3 t4 t5 (by rw [hkn]; omega) hLr t17 hg (own_chs4 hx0 hx1 hx2 hx3) hO (by decide)) e15 rfl 0 (Nat.le_of_eq rfl) (by decide) (by decide) (by decide) (by decide) (fun v16 T16 h16 L16 X16 e16 q16 => ?_)
    obtain ⟨rfl, N16, rfl⟩ := q16
    show Go p e below _ (T16.setTop (mkF m 225 #[.val (.int p0), .val (.int p1), .val (.int p2), .val (.int p3), .val (.int p4), .val (.int (4 : Int32)), .val (.int c0), .val (.int c1), .val (.int c2), .val (.int c3), .val (.ref ar), .val (.ref str), .val (.ref r), .val (.int (Int32.ofNat k))] [.int (1 : Int32)]))
    refine g_if_eq X16 B at_225 262 228 rfl (by decide) rfl (fun z => own_abs' (by decide) z) (fun _ => ?_)
    refine g_aload X16 B at_228 230 rfl rfl rfl ?_
    refine g_aload X16 B at_230 232 rfl rfl rfl ?_
    refine g_iconst X16 B (2) at_232 233 rfl rfl ?_
    refine g_iload X16 B at_233 235 rfl rfl ?_
    refine g_iload X16 B at_235 237 rfl rfl ?_
    refine g_callS X16 B [.ref str, .ref r, .int (2 : Int32), .int (4 : Int32), .int (Int32.ofNat k)] [] at_237 240 rfl rfl (hw _ (List.mem_of_getElem? (i := 57) rfl)) (hw _ (List.mem_of_getElem? (i := 58) rfl)) (hw _ (List.mem_of_getElem? (i := 3) rfl)) (hw _ (List.mem_of_getElem? (i := 59) rfl)) (by decide) (lenOf pd_11 rfl) (rm_at l Z ag hw str bb r b2 cx vs ws [c0, c1, c2, c3] g 2 k h12 n0 t13 t14 t15 t16 (by simp) hLv t12 hcx t2 t3 t4 t5 (by rw [hkn]; omega) hLr t17 hg (own_chs4 hx0 hx1 hx2 hx3) hO (by decide)) e16 rfl 0 (Nat.le_of_eq rfl) (by decide) (by decide) (by decide) (by decide) (fun v17 T17 h17 L17 X17 e17 q17 => ?_)
    obtain ⟨rfl, N17, rfl⟩ := q17
    show Go p e below _ (T17.setTop (mkF m 240 #[.val (.int p0), .val (.int p1), .val (.int p2), .val (.int p3), .val (.int p4), .val (.int (4 : Int32)), .val (.int c0), .val (.int c1), .val (.int c2), .val (.int c3), .val (.ref ar), .val (.ref str), .val (.ref r), .val (.int (Int32.ofNat k))] [.int (1 : Int32)]))
    refine g_if_eq X17 B at_240 262 243 rfl (by decide) rfl (fun z => own_abs' (by decide) z) (fun _ => ?_)
    refine g_aload X17 B at_243 245 rfl rfl rfl ?_
    refine g_aload X17 B at_245 247 rfl rfl rfl ?_
    refine g_iconst X17 B (3) at_247 248 rfl rfl ?_
    refine g_iload X17 B at_248 250 rfl rfl ?_
    refine g_iload X17 B at_250 252 rfl rfl ?_
    refine g_callS X17 B [.ref str, .ref r, .int (3 : Int32), .int (4 : Int32), .int (Int32.ofNat k)] [] at_252 255 rfl rfl (hw _ (List.mem_of_getElem? (i := 57) rfl)) (hw _ (List.mem_of_getElem? (i := 58) rfl)) (hw _ (List.mem_of_getElem? (i := 3) rfl)) (hw _ (List.mem_of_getElem? (i := 59) rfl)) (by decide) (lenOf pd_11 rfl) (rm_at l Z ag hw str bb r b2 cx vs ws [c0, c1, c2, c3] g 3 k h12 n0 t13 t14 t15 t16 (by simp) hLv t12 hcx t2 t3 t4 t5 (by rw [hkn]; omega) hLr t17 hg (own_chs4 hx0 hx1 hx2 hx3) hO (by decide)) e17 rfl 0 (Nat.le_of_eq rfl) (by decide) (by decide) (by decide) (by decide) (fun v18 T18 h18 L18 X18 e18 q18 => ?_)
    obtain ⟨rfl, N18, rfl⟩ := q18
    show Go p e below _ (T18.setTop (mkF m 255 #[.val (.int p0), .val (.int p1), .val (.int p2), .val (.int p3), .val (.int p4), .val (.int (4 : Int32)), .val (.int c0), .val (.int c1), .val (.int c2), .val (.int c3), .val (.ref ar), .val (.ref str), .val (.ref r), .val (.int (Int32.ofNat k))] [.int (1 : Int32)]))
    refine g_if_eq X18 B at_255 262 258 rfl (by decide) rfl (fun z => own_abs' (by decide) z) (fun _ => ?_)
    refine g_iconst X18 B (1) at_258 259 rfl rfl ?_
    refine g_goto X18 B at_259 263 rfl (by decide) ?_
    exact g_retNW X18 B at_263 rfl rfl (by decide) (by decide) (by decide) e18 hS kk12 (fun vm hvm => ⟨rfl, ((((((((Fr.snoc X9 (Fr.snoc X8 (Fr.snoc X7 (Fr.snoc X6 (((((Fr.nil n0).app N1).app N2).app N3).app N4) g_ar) g_ar) g_ar) g_ar).app N11).app N12).app N13).app N15).app N16).app N17).app N18)⟩)
  · skip
    refine g_aload X13 B at_182 184 rfl rfl rfl ?_
    refine g_iload X13 B at_184 186 rfl rfl ?_
    refine g_iconst X13 B (1) at_186 187 rfl rfl ?_
    refine g_isub X13 B at_187 188 rfl ?_
    have hkp : 0 < k := (own_gt0 (by omega)).mp (by have q := c14; first | exact q | exact Classical.not_not.mp q)
    obtain ⟨cl, hcl, hc47⟩ := own_lastat hO hkp
    rw [own_sm1 (by omega) hkp]
    have t18 := (own_stk t11 K12)
    refine g_callV X13 B [.int (Int32.ofNat (k - 1))] [] at_188 191 rfl rfl (hw _ (List.mem_of_getElem? (i := 90) rfl)) (hw _ (List.mem_of_getElem? (i := 71) rfl)) (hw _ (List.mem_of_getElem? (i := 73) rfl)) (hw _ (List.mem_of_getElem? (i := 72) rfl)) (hw _ (List.mem_of_getElem? (i := 8) rfl)) (hw _ (List.mem_of_getElem? (i := 74) rfl)) (by decide) (lenOf pd_15 rfl) t2 (rL_cat l Z ag hw r b2 cx (k - 1) cl ws (([c0, c1, c2, c3]).take k) g h12 n0 t2 t3 t4 t5 (by rw [hkn]; omega) hLr t12 hcx (by rw [hkn]; omega) (by rw [own_takeat (by omega)]; exact hcl) ((own_chs4 hx0 hx1 hx2 hx3) cl (List.mem_of_getElem? hcl)) t18 hg) e13 rfl 0 (Nat.le_of_eq rfl) (by decide) (by decide) (by decide) (by decide) (fun v19 T19 h19 L19 X19 e19 q19 => ?_)
    obtain ⟨rfl, N19, rfl⟩ := q19
    show Go p e below _ (T19.setTop (mkF m 191 #[.val (.int p0), .val (.int p1), .val (.int p2), .val (.int p3), .val (.int p4), .val (.int (4 : Int32)), .val (.int c0), .val (.int c1), .val (.int c2), .val (.int c3), .val (.ref ar), .val (.ref str), .val (.ref r), .val (.int (Int32.ofNat k))] [.int cl]))
    refine g_bipush X19 B (47) at_191 193 rfl rfl ?_
    refine g_icmp_ne X19 B at_193 198 196 rfl (by decide) rfl (fun _ => ?_) (fun z => own_abs' (hc47) z)
    refine g_aload X19 B at_198 200 rfl rfl rfl ?_
    refine g_aload X19 B at_200 202 rfl rfl rfl ?_
    refine g_iconst X19 B (0) at_202 203 rfl rfl ?_
    refine g_iload X19 B at_203 205 rfl rfl ?_
    refine g_iload X19 B at_205 207 rfl rfl ?_
    have t19 := (Exa.keep t9 K12)
    have t20 := (Fld.keep f1 K12 nin0)
    have t21 := (Fld.keep f2 K12 nin0)
    have t22 := (Av.keep f3 K12 nin0)
    refine g_callS X19 B [.ref str, .ref r, .int (0 : Int32), .int (4 : Int32), .int (Int32.ofNat k)] [] at_207 210 rfl rfl (hw _ (List.mem_of_getElem? (i := 57) rfl)) (hw _ (List.mem_of_getElem? (i := 58) rfl)) (hw _ (List.mem_of_getElem? (i := 3) rfl)) (hw _ (List.mem_of_getElem? (i := 59) rfl)) (by decide) (lenOf pd_11 rfl) (rm_at l Z ag hw str bb r b2 cx vs ws [c0, c1, c2, c3] g 0 k h12 n0 t19 t20 t21 t22 (by simp) hLv t12 hcx t2 t3 t4 t5 (by rw [hkn]; omega) hLr t18 hg (own_chs4 hx0 hx1 hx2 hx3) hO (by decide)) e19 rfl 0 (Nat.le_of_eq rfl) (by decide) (by decide) (by decide) (by decide) (fun v20 T20 h20 L20 X20 e20 q20 => ?_)
    obtain ⟨rfl, N20, rfl⟩ := q20
    show Go p e below _ (T20.setTop (mkF m 210 #[.val (.int p0), .val (.int p1), .val (.int p2), .val (.int p3), .val (.int p4), .val (.int (4 : Int32)), .val (.int c0), .val (.int c1), .val (.int c2), .val (.int c3), .val (.ref ar), .val (.ref str), .val (.ref r), .val (.int (Int32.ofNat k))] [.int (1 : Int32)]))
    refine g_if_eq X20 B at_210 262 213 rfl (by decide) rfl (fun z => own_abs' (by decide) z) (fun _ => ?_)
    refine g_aload X20 B at_213 215 rfl rfl rfl ?_
    refine g_aload X20 B at_215 217 rfl rfl rfl ?_
    refine g_iconst X20 B (1) at_217 218 rfl rfl ?_
    refine g_iload X20 B at_218 220 rfl rfl ?_
    refine g_iload X20 B at_220 222 rfl rfl ?_
    refine g_callS X20 B [.ref str, .ref r, .int (1 : Int32), .int (4 : Int32), .int (Int32.ofNat k)] [] at_222 225 rfl rfl (hw _ (List.mem_of_getElem? (i := 57) rfl)) (hw _ (List.mem_of_getElem? (i := 58) rfl)) (hw _ (List.mem_of_getElem? (i := 3) rfl)) (hw _ (List.mem_of_getElem? (i := 59) rfl)) (by decide) (lenOf pd_11 rfl) (rm_at l Z ag hw str bb r b2 cx vs ws [c0, c1, c2, c3] g 1 k h12 n0 t19 t20 t21 t22 (by simp) hLv t12 hcx t2 t3 t4 t5 (by rw [hkn]; omega) hLr t18 hg (own_chs4 hx0 hx1 hx2 hx3) hO (by decide)) e20 rfl 0 (Nat.le_of_eq rfl) (by decide) (by decide) (by decide) (by decide) (fun v21 T21 h21 L21 X21 e21 q21 => ?_)
    obtain ⟨rfl, N21, rfl⟩ := q21
    show Go p e below _ (T21.setTop (mkF m 225 #[.val (.int p0), .val (.int p1), .val (.int p2), .val (.int p3), .val (.int p4), .val (.int (4 : Int32)), .val (.int c0), .val (.int c1), .val (.int c2), .val (.int c3), .val (.ref ar), .val (.ref str), .val (.ref r), .val (.int (Int32.ofNat k))] [.int (1 : Int32)]))
    refine g_if_eq X21 B at_225 262 228 rfl (by decide) rfl (fun z => own_abs' (by decide) z) (fun _ => ?_)
    refine g_aload X21 B at_228 230 rfl rfl rfl ?_
    refine g_aload X21 B at_230 232 rfl rfl rfl ?_
    refine g_iconst X21 B (2) at_232 233 rfl rfl ?_
    refine g_iload X21 B at_233 235 rfl rfl ?_
    refine g_iload X21 B at_235 237 rfl rfl ?_
    refine g_callS X21 B [.ref str, .ref r, .int (2 : Int32), .int (4 : Int32), .int (Int32.ofNat k)] [] at_237 240 rfl rfl (hw _ (List.mem_of_getElem? (i := 57) rfl)) (hw _ (List.mem_of_getElem? (i := 58) rfl)) (hw _ (List.mem_of_getElem? (i := 3) rfl)) (hw _ (List.mem_of_getElem? (i := 59) rfl)) (by decide) (lenOf pd_11 rfl) (rm_at l Z ag hw str bb r b2 cx vs ws [c0, c1, c2, c3] g 2 k h12 n0 t19 t20 t21 t22 (by simp) hLv t12 hcx t2 t3 t4 t5 (by rw [hkn]; omega) hLr t18 hg (own_chs4 hx0 hx1 hx2 hx3) hO (by decide)) e21 rfl 0 (Nat.le_of_eq rfl) (by decide) (by decide) (by decide) (by decide) (fun v22 T22 h22 L22 X22 e22 q22 => ?_)
    obtain ⟨rfl, N22, rfl⟩ := q22
    show Go p e below _ (T22.setTop (mkF m 240 #[.val (.int p0), .val (.int p1), .val (.int p2), .val (.int p3), .val (.int p4), .val (.int (4 : Int32)), .val (.int c0), .val (.int c1), .val (.int c2), .val (.int c3), .val (.ref ar), .val (.ref str), .val (.ref r), .val (.int (Int32.ofNat k))] [.int (1 : Int32)]))
    refine g_if_eq X22 B at_240 262 243 rfl (by decide) rfl (fun z => own_abs' (by decide) z) (fun _ => ?_)
    refine g_aload X22 B at_243 245 rfl rfl rfl ?_
    refine g_aload X22 B at_245 247 rfl rfl rfl ?_
    refine g_iconst X22 B (3) at_247 248 rfl rfl ?_
    refine g_iload X22 B at_248 250 rfl rfl ?_
    refine g_iload X22 B at_250 252 rfl rfl ?_
    refine g_callS X22 B [.ref str, .ref r, .int (3 : Int32), .int (4 : Int32), .int (Int32.ofNat k)] [] at_252 255 rfl rfl (hw _ (List.mem_of_getElem? (i := 57) rfl)) (hw _ (List.mem_of_getElem? (i := 58) rfl)) (hw _ (List.mem_of_getElem? (i := 3) rfl)) (hw _ (List.mem_of_getElem? (i := 59) rfl)) (by decide) (lenOf pd_11 rfl) (rm_at l Z ag hw str bb r b2 cx vs ws [c0, c1, c2, c3] g 3 k h12 n0 t19 t20 t21 t22 (by simp) hLv t12 hcx t2 t3 t4 t5 (by rw [hkn]; omega) hLr t18 hg (own_chs4 hx0 hx1 hx2 hx3) hO (by decide)) e22 rfl 0 (Nat.le_of_eq rfl) (by decide) (by decide) (by decide) (by decide) (fun v23 T23 h23 L23 X23 e23 q23 => ?_)
    obtain ⟨rfl, N23, rfl⟩ := q23
    show Go p e below _ (T23.setTop (mkF m 255 #[.val (.int p0), .val (.int p1), .val (.int p2), .val (.int p3), .val (.int p4), .val (.int (4 : Int32)), .val (.int c0), .val (.int c1), .val (.int c2), .val (.int c3), .val (.ref ar), .val (.ref str), .val (.ref r), .val (.int (Int32.ofNat k))] [.int (1 : Int32)]))
    refine g_if_eq X23 B at_255 262 258 rfl (by decide) rfl (fun z => own_abs' (by decide) z) (fun _ => ?_)
    refine g_iconst X23 B (1) at_258 259 rfl rfl ?_
    refine g_goto X23 B at_259 263 rfl (by decide) ?_
    exact g_retNW X23 B at_263 rfl rfl (by decide) (by decide) (by decide) e23 hS kk12 (fun vm hvm => ⟨rfl, (((((((((Fr.snoc X9 (Fr.snoc X8 (Fr.snoc X7 (Fr.snoc X6 (((((Fr.nil n0).app N1).app N2).app N3).app N4) g_ar) g_ar) g_ar) g_ar).app N11).app N12).app N13).app N19).app N20).app N21).app N22).app N23)⟩)
theorem own_staI {Z : State} {args : Array Value} {t : Term} {k : Int32} (q : (Jvm.Cond.eq t (.int k)).value args Z none Z [] = some true) : t.eval args Z none [] Z = some (.int k) := by
  obtain ⟨x, y, h1, h2, h3, -⟩ := cmp_v (Or.inl q)
  cases h2
  have h5 : ∃ z, x = .int z := by cases x <;> simp [Kin, Value.isRef] at h3 ⊢
  obtain ⟨z, rfl⟩ := h5
  have h7 : (Jvm.Cond.eq t (.int k)).value args Z none Z [] = some (decide (z = k)) := by simp only [Cond.value, h1, Term.int_eval]
  rw [h1, gotT h7 q]
theorem own_staN {Z : State} {args : Array Value} {t : Term} {z : Int32} (ev : t.eval args Z none [] Z = some (.int z)) (q : (Jvm.Cond.not (.eq t (.int 0))).value args Z none Z [] = some true) : ¬ z = 0 := by
  have h7 : (Jvm.Cond.eq t (.int 0)).value args Z none Z [] = some (decide (z = 0)) := by simp only [Cond.value, ev, Term.int_eval]
  have h8 := not_v q
  exact gotF h7 h8

set_option maxRecDepth 65536 in
set_option maxHeartbeats 40000000 in
theorem comes_1 {Post : Tables → Env → Array Value → State → Outcome → State → Prop} (hpost : ∀ tb e args s v u, (limb_1_1.after args s (.returned v) u = true ∧ limb_1_2.after args s (.returned v) u = true ∧ True) → ReturnedEndW s (.returned v) u (Jvm.fieldLocs frame_1_writes args s ++ Jvm.arrayLocs frame_1_arrays args s ++ Jvm.staticLocs frame_1_statics s) 24 2176 → Post tb e args s (.returned v) u) :
    ArmFor flags0 classFile x code maxLocals ret World_1 tables_1 room_1 Calls_1 rest_1 Pre_1 Post := by
  intro l hfl _ _ p e ha hc hk s m args below hf hA hF happ hP
  obtain ⟨hcalls, hrest, hpre⟩ := hP
  obtain ⟨-, -, -, hnamed, -, -, -, hat⟩ := (Spec.applies_iff hf).mp happ
  obtain ⟨hg, hn⟩ := and_e (Cond.before_iff.mp (show (Jvm.Cond.and given_1 narrow_1).before args s = true from hpre))
  obtain ⟨g0, hg⟩ := and_e hg
  obtain ⟨g1, hg⟩ := and_e hg
  obtain ⟨g2, hg⟩ := and_e hg
  obtain ⟨g3, hg⟩ := and_e hg
  obtain ⟨g4, hg⟩ := and_e hg
  have g5 := hg
  obtain ⟨w0, w1, w2, w3, w4, rfl⟩ : ∃ w0 w1 w2 w3 w4 : Value, args = #[w0, w1, w2, w3, w4] := by
    have hs : args.size = 5 := by simpa [Cond.value, given_1] using g0
    obtain ⟨L⟩ := args
    match L, hs with
    | [w0, w1, w2, w3, w4], _ => exact ⟨w0, w1, w2, w3, w4, rfl⟩
  have hw := fun d (hd : d ∈ tables_1) => atoms_spec (ws := Jvm.Cond.code x code maxLocals ret :: tables_1) hat d (List.mem_cons_of_mem _ hd)
  obtain ⟨i0, q0⟩ := is_v g1
  obtain rfl : w0 = (.int i0) := Option.some.inj q0
  obtain ⟨i1, q1⟩ := is_v g2
  obtain rfl : w1 = (.int i1) := Option.some.inj q1
  obtain ⟨i2, q2⟩ := is_v g3
  obtain rfl : w2 = (.int i2) := Option.some.inj q2
  obtain ⟨i3, q3⟩ := is_v g4
  obtain rfl : w3 = (.int i3) := Option.some.inj q3
  obtain ⟨i4, q4⟩ := is_v g5
  obtain rfl : w4 = (.int i4) := Option.some.inj q4
  obtain ⟨hsets, hown0⟩ := atoms_of _ (rest_1_c_eq ▸ (show rest_1_c.before _ s = true from hrest))
  have hH7 : Jvm.Lit.constHeld s "java/lang/String" 7 := hcalls.1 _ (List.mem_of_getElem? (i := 0) rfl)
  have hH : Jvm.Lit.constHeld s "java/lang/StringLatin1" 151 := hcalls.1 _ (List.mem_of_getElem? (i := 1) rfl)
  have hcw : Jvm.Lit.compactW.before _ s = true := (hsets _ (List.mem_of_getElem? (i := 2) rfl))
  obtain ⟨cx, ev0⟩ := is_v (Cond.before_iff.mp (hsets _ (List.mem_of_getElem? (i := 1) rfl)))
  have SC := Sta.start ev0 (Or.inl (hsets _ (List.mem_of_getElem? (i := 0) rfl)))
  have hcx := own_staN ev0 (Cond.before_iff.mp (hsets _ (List.mem_of_getElem? (i := 2) rfl)))
  obtain ⟨g, evg, hgr⟩ := isR_v (Cond.before_iff.mp (hsets _ (List.mem_of_getElem? (i := 8) rfl)))
  have SF := Sta.start evg (Or.inl (hsets _ (List.mem_of_getElem? (i := 7) rfl)))
  obtain ⟨ki, hki, kk5⟩ := own_m5 i0
  obtain rfl | rfl | rfl | rfl | rfl : ki = 0 ∨ ki = 1 ∨ ki = 2 ∨ ki = 3 ∨ ki = 4 := by omega
  · skip
    obtain ⟨n, o, r1, r2, r3, _, L, rfl, ⟨rfl, N⟩, hv⟩ := rm0_0 l s _ hw i0 i1 i2 i3 i4 cx g s.heap s.heap.size (Nat.le_refl _) SC hcx SF hgr kk5 (fun b cl q => q) hH7 hH hcw tables_1 p e ha hc hk s m _ below hf ((Spec.applies_iff_loose hf).mp happ).1 ⟨rfl, State.Warmed39.refl s, rfl, IB.start⟩ trivial
    exact ⟨n, _, r1, r2, r3, hpost _ _ _ _ _ _ ⟨Cond.after_iff.mpr rfl, Cond.after_iff.mpr (eq_i res_at (Term.int_eval (1)) rfl), trivial⟩ ⟨hv.1, hv.2.1, hv.2.2.1, (hv.2.2.2.sift fun y hy => Or.inr (N y hy)).mono (by decide) (by decide)⟩⟩
  · skip
    obtain ⟨n, o, r1, r2, r3, _, L, rfl, ⟨rfl, N⟩, hv⟩ := rm0_1 l s _ hw i0 i1 i2 i3 i4 cx g s.heap s.heap.size (Nat.le_refl _) SC hcx SF hgr kk5 (fun b cl q => q) hH7 hH hcw tables_1 p e ha hc hk s m _ below hf ((Spec.applies_iff_loose hf).mp happ).1 ⟨rfl, State.Warmed39.refl s, rfl, IB.start⟩ trivial
    exact ⟨n, _, r1, r2, r3, hpost _ _ _ _ _ _ ⟨Cond.after_iff.mpr rfl, Cond.after_iff.mpr (eq_i res_at (Term.int_eval (1)) rfl), trivial⟩ ⟨hv.1, hv.2.1, hv.2.2.1, (hv.2.2.2.sift fun y hy => Or.inr (N y hy)).mono (by decide) (by decide)⟩⟩
  · skip
    obtain ⟨n, o, r1, r2, r3, _, L, rfl, ⟨rfl, N⟩, hv⟩ := rm0_2 l s _ hw i0 i1 i2 i3 i4 cx g s.heap s.heap.size (Nat.le_refl _) SC hcx SF hgr kk5 (fun b cl q => q) hH7 hH hcw tables_1 p e ha hc hk s m _ below hf ((Spec.applies_iff_loose hf).mp happ).1 ⟨rfl, State.Warmed39.refl s, rfl, IB.start⟩ trivial
    exact ⟨n, _, r1, r2, r3, hpost _ _ _ _ _ _ ⟨Cond.after_iff.mpr rfl, Cond.after_iff.mpr (eq_i res_at (Term.int_eval (1)) rfl), trivial⟩ ⟨hv.1, hv.2.1, hv.2.2.1, (hv.2.2.2.sift fun y hy => Or.inr (N y hy)).mono (by decide) (by decide)⟩⟩
  · skip
    obtain ⟨n, o, r1, r2, r3, _, L, rfl, ⟨rfl, N⟩, hv⟩ := rm0_3 l s _ hw i0 i1 i2 i3 i4 cx g s.heap s.heap.size (Nat.le_refl _) SC hcx SF hgr kk5 (fun b cl q => q) hH7 hH hcw tables_1 p e ha hc hk s m _ below hf ((Spec.applies_iff_loose hf).mp happ).1 ⟨rfl, State.Warmed39.refl s, rfl, IB.start⟩ trivial
    exact ⟨n, _, r1, r2, r3, hpost _ _ _ _ _ _ ⟨Cond.after_iff.mpr rfl, Cond.after_iff.mpr (eq_i res_at (Term.int_eval (1)) rfl), trivial⟩ ⟨hv.1, hv.2.1, hv.2.2.1, (hv.2.2.2.sift fun y hy => Or.inr (N y hy)).mono (by decide) (by decide)⟩⟩
  · skip
    obtain ⟨n, o, r1, r2, r3, _, L, rfl, ⟨rfl, N⟩, hv⟩ := rm0_4 l s _ hw i0 i1 i2 i3 i4 cx g s.heap s.heap.size (Nat.le_refl _) SC hcx SF hgr kk5 (fun b cl q => q) hH7 hH hcw tables_1 p e ha hc hk s m _ below hf ((Spec.applies_iff_loose hf).mp happ).1 ⟨rfl, State.Warmed39.refl s, rfl, IB.start⟩ trivial
    exact ⟨n, _, r1, r2, r3, hpost _ _ _ _ _ _ ⟨Cond.after_iff.mpr rfl, Cond.after_iff.mpr (eq_i res_at (Term.int_eval (1)) rfl), trivial⟩ ⟨hv.1, hv.2.1, hv.2.2.1, (hv.2.2.2.sift fun y hy => Or.inr (N y hy)).mono (by decide) (by decide)⟩⟩
theorem main_1_1 : Claimed_1_1 := comes_1 fun _ _ _ _ _ _ h hF => ⟨h.1, hF⟩
theorem main_1_2 : Claimed_1_2 := comes_1 fun _ _ _ _ _ _ h hF => ⟨h.2.1, hF⟩
end Jvm.Pilot.@@N@@
namespace Jvm.Pilot.@@N@@
open Jvm Jvm.ClassFile Sem Op Lib Jvm.Free Jvm.Stand Jvm.Pilot.@@N@@.Jvm.D
/-! MADE BY PROGRAM (witnessworld.py) out of the Statement's table words and the real class files: 23 classes; the members and pool entries that the words name. The judged class is class 1, her method 3. -/
namespace start1
open Jvm.ClassFile
def u (s : String) : CpInfo := .utf8 (stringToUtf16 s)
/-- a pool by its gaps: so many unusable entries, then the entry; so many at the end -/
def gap : Nat → List CpInfo → List CpInfo
  | 0, r => r
  | n + 1, r => .unusable :: gap n r
def poolList (es : List (Nat × CpInfo)) (last : Nat) : List CpInfo := es.foldr (fun e r => gap e.1 (e.2 :: r)) (gap last [])
def pool (es : List (Nat × CpInfo)) (last : Nat) : Array CpInfo := ⟨poolList es last⟩
def fileOf (pool : Array CpInfo) (this : Nat) (attrs : Array Attribute := #[]) (ms : Array MethodInfo := #[]) (fl : Nat := 33) (sup : Nat := 0) (ifs : Array Nat := #[]) (fds : Array FieldInfo := #[]) : ClassFile where
  minorVersion := 0
  majorVersion := 65
  constantPool := pool
  accessFlags := fl
  thisClass := this
  superClass := sup
  interfaces := ifs
  fields := fds
  methods := ms
  attributes := attrs
def plain (name : String) (sup : Option ClassId) : Class where
  name := name
  kind := .ordinary
  loader := none
  accessFlags := 33
  super := sup
  interfaces := #[]
  cf := none
  fields := #[]
  methods := #[]
  instanceTypes := #[]
  staticTypes := #[]
  resolved := #[]
  callSites := []
  init := .initialized
  statics := none
  mirror := none

def pool0 : Array CpInfo := pool [(5, u "<init>"), (0, u "()V"), (1, .class_ 10), (1, u "java/lang/Object")] 113

def k0c0 : Code := { maxStack := 0, maxLocals := 1, code := object_method_1_code, exceptionTable := #[], attributes := #[] }
def k0m0 : Method := { name := "<init>", desc := "()V", sig := { parameters := [], returnType := none }, accessFlags := 1, code := some k0c0 }
/-- java/lang/Object -/
def k0 : Class := { plain "java/lang/Object" none with
  accessFlags := 33
  interfaces := #[]
  cf := some (fileOf pool0 8 #[] #[{ accessFlags := 1, nameIndex := 5, descriptorIndex := 6, attributes := #[] }] 33 0 #[] #[])
  fields := #[]
  methods := #[k0m0]
  instanceTypes := #[]
  staticTypes := #[]
  resolved := Array.replicate 124 none
  statics := none }

def pool1 : Array CpInfo := pool [(2, .class_ 4), (1, u "java/lang/Object"), (0, u "<init>"), (0, u "()V"), (0, .methodref 8 9), (0, .class_ 10), (0, .nameAndType 11 12), (0, u "java/lang/String"), (0, u "charAt"), (0, u "(I)C"), (0, .integer 2147483647), (0, .methodref 15 16), (0, .class_ 17), (0, .nameAndType 18 12), (0, u "com/example/contractlint/contractlint/model/BasePathOfPinLaw"), (0, u "ch"), (0, .methodref 8 20), (0, .nameAndType 5 21), (0, u "([C)V"), (0, .methodref 23 24), (0, .class_ 25), (0, .nameAndType 26 27), (0, u "com/example/contractlint/contractlint/model/BasePath"), (0, u "of"), (0, u "(Ljava/lang/String;)Ljava/lang/String;"), (0, .methodref 8 29), (0, .nameAndType 30 31), (0, u "length"), (0, u "()I"), (0, .methodref 15 33), (0, .nameAndType 34 35), (0, u "at"), (0, u "(Ljava/lang/String;Ljava/lang/String;III)Z"), (3, u "law"), (0, u "(IIIII)Z")] 4

def k1m0 : Method := { name := "<init>", desc := "()V", sig := { parameters := [], returnType := none }, accessFlags := 1, code := none }
def k1c1 : Code := { maxStack := 2, maxLocals := 1, code := method_2_code, exceptionTable := #[], attributes := #[] }
def k1m1 : Method := { name := "ch", desc := "(I)C", sig := { parameters := [.int], returnType := some .char }, accessFlags := 10, code := some k1c1 }
def k1c2 : Code := { maxStack := 3, maxLocals := 5, code := method_3_code, exceptionTable := #[], attributes := #[] }
def k1m2 : Method := { name := "at", desc := "(Ljava/lang/String;Ljava/lang/String;III)Z", sig := { parameters := [(.object "java/lang/String"), (.object "java/lang/String"), .int, .int, .int], returnType := some .boolean }, accessFlags := 10, code := some k1c2 }
def k1c3 : Code := { maxStack := 5, maxLocals := 14, code := code, exceptionTable := #[], attributes := #[] }
def k1m3 : Method := { name := "law", desc := "(IIIII)Z", sig := { parameters := [.int, .int, .int, .int, .int], returnType := some .boolean }, accessFlags := 9, code := some k1c3 }
/-- com/example/contractlint/contractlint/model/BasePathOfPinLaw -/
def k1 : Class := { plain "com/example/contractlint/contractlint/model/BasePathOfPinLaw" (some 0) with
  accessFlags := 49
  interfaces := #[]
  cf := some (fileOf pool1 15 #[] #[{ accessFlags := 1, nameIndex := 5, descriptorIndex := 6, attributes := #[] }, { accessFlags := 10, nameIndex := 18, descriptorIndex := 12, attributes := #[] }, { accessFlags := 10, nameIndex := 34, descriptorIndex := 35, attributes := #[] }, { accessFlags := 9, nameIndex := 39, descriptorIndex := 40, attributes := #[] }] 49 2 #[] #[])
  fields := #[]
  methods := #[k1m0, k1m1, k1m2, k1m3]
  instanceTypes := #[]
  staticTypes := #[]
  resolved := Array.replicate 45 none
  statics := none }

def pool2 : Array CpInfo := pool [(1, .class_ 2), (0, u "java/io/Serializable"), (0, .class_ 4), (0, u "java/lang/Object")] 2

/-- java/io/Serializable -/
def k2 : Class := { plain "java/io/Serializable" (some 0) with
  accessFlags := 1537
  interfaces := #[]
  cf := some (fileOf pool2 1 #[] #[] 1537 3 #[] #[])
  fields := #[]
  methods := #[]
  instanceTypes := #[]
  staticTypes := #[]
  resolved := Array.replicate 7 none
  statics := none }

def pool3 : Array CpInfo := pool [(1, .class_ 2), (0, u "java/lang/Comparable"), (0, .class_ 4), (0, u "java/lang/Object")] 7

/-- java/lang/Comparable -/
def k3 : Class := { plain "java/lang/Comparable" (some 0) with
  accessFlags := 1537
  interfaces := #[]
  cf := some (fileOf pool3 1 #[] #[] 1537 3 #[] #[])
  fields := #[]
  methods := #[]
  instanceTypes := #[]
  staticTypes := #[]
  resolved := Array.replicate 12 none
  statics := none }

def pool4 : Array CpInfo := pool [(2, .class_ 4), (1, u "java/lang/CharSequence"), (42, .class_ 48), (0, u "java/lang/CharSequence$1CodePointIterator"), (10, .class_ 60), (0, u "java/lang/CharSequence$1CharIterator"), (5, .class_ 67), (0, u "java/lang/Object")] 63

/-- java/lang/CharSequence -/
def k4 : Class := { plain "java/lang/CharSequence" (some 0) with
  accessFlags := 1537
  interfaces := #[]
  cf := some (fileOf pool4 2 #[.nestMembers #[47, 59]] #[] 1537 66 #[] #[])
  fields := #[]
  methods := #[]
  instanceTypes := #[]
  staticTypes := #[]
  resolved := Array.replicate 131 none
  statics := none }

def pool5 : Array CpInfo := pool [(1, .class_ 2), (0, u "java/lang/constant/Constable"), (0, .class_ 4), (0, u "java/lang/Object")] 6

/-- java/lang/constant/Constable -/
def k5 : Class := { plain "java/lang/constant/Constable" (some 0) with
  accessFlags := 1537
  interfaces := #[]
  cf := some (fileOf pool5 1 #[] #[] 1537 3 #[] #[])
  fields := #[]
  methods := #[]
  instanceTypes := #[]
  staticTypes := #[]
  resolved := Array.replicate 11 none
  statics := none }

def pool6 : Array CpInfo := pool [(1, .class_ 2), (0, u "java/lang/constant/ConstantDesc"), (0, .class_ 4), (0, u "java/lang/Object")] 32

/-- java/lang/constant/ConstantDesc -/
def k6 : Class := { plain "java/lang/constant/ConstantDesc" (some 0) with
  accessFlags := 1537
  interfaces := #[]
  cf := some (fileOf pool6 1 #[] #[] 1537 3 #[] #[])
  fields := #[]
  methods := #[]
  instanceTypes := #[]
  staticTypes := #[]
  resolved := Array.replicate 37 none
  statics := none }

def pool7 : Array CpInfo := pool [(1, .methodref 2 3), (0, .class_ 4), (0, .nameAndType 5 6), (0, u "java/lang/Object"), (0, u "<init>"), (0, u "()V"), (0, .string 8), (0, u ""), (0, .fieldref 10 11), (0, .class_ 12), (0, .nameAndType 13 14), (0, u "java/lang/String"), (0, u "value"), (0, u "[B"), (0, .fieldref 10 16), (0, .nameAndType 17 18), (0, u "coder"), (0, u "B"), (2, u "hash"), (0, u "I"), (2, u "hashIsZero"), (0, u "Z"), (0, .methodref 10 28), (0, .nameAndType 5 29), (0, u "([CIILjava/lang/Void;)V"), (8, .fieldref 10 39), (0, .nameAndType 40 26), (0, u "COMPACT_STRINGS"), (1, .class_ 44), (1, u "java/lang/StringUTF16"), (0, u "compress"), (1, .methodref 42 48), (0, .nameAndType 49 50), (0, u "coderFromArrayLen"), (0, u "([BI)B"), (56, .class_ 109), (1, u "java/lang/StringLatin1"), (32, u "()Z"), (34, .methodref 42 178), (0, .nameAndType 45 179), (0, u "([CII)[B"), (31, u "([BB)V"), (122, u "()I"), (0, .methodref 10 336), (0, .nameAndType 17 337), (0, u "()B"), (25, u "([BI)C"), (27, u "(II)V"), (35, u "(I)C"), (64, .methodref 10 493), (0, .nameAndType 494 142), (0, u "isLatin1"), (0, .methodref 107 496), (0, .nameAndType 497 363), (0, u "charAt"), (3, u "checkIndex"), (3, .methodref 10 506), (0, .nameAndType 507 334), (0, u "length"), (5, u "checkFromToIndex"), (7, .methodref 10 522), (0, .nameAndType 523 524), (0, u "checkBoundsBeginEnd"), (0, u "(III)V"), (50, .class_ 576), (0, u "java/lang/CharSequence"), (22, u "CASE_INSENSITIVE_ORDER"), (0, u "Ljava/util/Comparator;"), (82, u "substring"), (0, u "(II)Ljava/lang/String;"), (0, .methodref 107 686), (0, .nameAndType 687 688), (0, u "newString"), (0, u "([BII)Ljava/lang/String;"), (321, u "([C)V"), (42, .fieldref 1054 1055), (0, .class_ 1056), (0, .nameAndType 1057 1058), (0, u "jdk/internal/util/Preconditions"), (0, u "SIOOBE_FORMATTER"), (0, u "Ljava/util/function/BiFunction;"), (0, .methodref 1054 1060), (0, .nameAndType 501 1061), (0, u "(IILjava/util/function/BiFunction;)I"), (0, .methodref 1054 1063), (0, .nameAndType 513 1064), (0, u "(IIILjava/util/function/BiFunction;)I"), (36, u "serialPersistentFields"), (0, u "[Ljava/io/ObjectStreamField;"), (0, .class_ 1104), (0, u "java/lang/String$CaseInsensitiveComparator"), (1, .class_ 1107), (0, u "java/io/Serializable"), (0, .class_ 1109), (0, u "java/lang/Comparable"), (0, .class_ 1111), (0, u "java/lang/constant/Constable"), (0, .class_ 1113), (0, u "java/lang/constant/ConstantDesc"), (2, u "serialVersionUID"), (0, u "J"), (3, u "REPL"), (0, u "C"), (2, u "LATIN1"), (1, u "UTF16")] 323

def k7m0 : Method := { name := "<init>", desc := "()V", sig := { parameters := [], returnType := none }, accessFlags := 1, code := none }
def k7c1 : Code := { maxStack := 5, maxLocals := 2, code := jdk_42_method_3_code, exceptionTable := #[], attributes := #[] }
def k7m1 : Method := { name := "<init>", desc := "([C)V", sig := { parameters := [(.array .char)], returnType := none }, accessFlags := 1, code := some k7c1 }
def k7c2 : Code := { maxStack := 2, maxLocals := 1, code := jdk_42_method_54_code, exceptionTable := #[], attributes := #[] }
def k7m2 : Method := { name := "length", desc := "()I", sig := { parameters := [], returnType := some .int }, accessFlags := 1, code := some k7c2 }
def k7c3 : Code := { maxStack := 2, maxLocals := 2, code := jdk_42_method_56_code, exceptionTable := #[], attributes := #[] }
def k7m3 : Method := { name := "charAt", desc := "(I)C", sig := { parameters := [.int], returnType := some .char }, accessFlags := 1, code := some k7c3 }
def k7c4 : Code := { maxStack := 3, maxLocals := 5, code := jdk_42_method_92_code, exceptionTable := #[], attributes := #[] }
def k7m4 : Method := { name := "substring", desc := "(II)Ljava/lang/String;", sig := { parameters := [.int, .int], returnType := some (.object "java/lang/String") }, accessFlags := 1, code := some k7c4 }
def k7c5 : Code := { maxStack := 4, maxLocals := 6, code := jdk_42_method_149_code, exceptionTable := #[], attributes := #[] }
def k7m5 : Method := { name := "<init>", desc := "([CIILjava/lang/Void;)V", sig := { parameters := [(.array .char), .int, .int, (.object "java/lang/Void")], returnType := none }, accessFlags := 2, code := some k7c5 }
def k7c6 : Code := { maxStack := 2, maxLocals := 3, code := jdk_42_method_151_code, exceptionTable := #[], attributes := #[] }
def k7m6 : Method := { name := "<init>", desc := "([BB)V", sig := { parameters := [(.array .byte), .byte], returnType := none }, accessFlags := 0, code := some k7c6 }
def k7c7 : Code := { maxStack := 1, maxLocals := 1, code := jdk_42_method_152_code, exceptionTable := #[], attributes := #[] }
def k7m7 : Method := { name := "coder", desc := "()B", sig := { parameters := [], returnType := some .byte }, accessFlags := 0, code := some k7c7 }
def k7c8 : Code := { maxStack := 1, maxLocals := 1, code := jdk_42_method_154_code, exceptionTable := #[], attributes := #[] }
def k7m8 : Method := { name := "isLatin1", desc := "()Z", sig := { parameters := [], returnType := some .boolean }, accessFlags := 0, code := some k7c8 }
def k7c9 : Code := { maxStack := 3, maxLocals := 2, code := jdk_42_method_155_code, exceptionTable := #[], attributes := #[] }
def k7m9 : Method := { name := "checkIndex", desc := "(II)V", sig := { parameters := [.int, .int], returnType := none }, accessFlags := 8, code := some k7c9 }
def k7c10 : Code := { maxStack := 4, maxLocals := 3, code := jdk_42_method_158_code, exceptionTable := #[], attributes := #[] }
def k7m10 : Method := { name := "checkBoundsBeginEnd", desc := "(III)V", sig := { parameters := [.int, .int, .int], returnType := none }, accessFlags := 8, code := some k7c10 }
/-- java/lang/String -/
def k7 : Class := { plain "java/lang/String" (some 0) with
  accessFlags := 49
  interfaces := #[2, 3, 4, 5, 6]
  cf := some (fileOf pool7 10 #[.nestMembers #[1103]] #[{ accessFlags := 1, nameIndex := 5, descriptorIndex := 6, attributes := #[] }, { accessFlags := 1, nameIndex := 5, descriptorIndex := 1010, attributes := #[] }, { accessFlags := 1, nameIndex := 507, descriptorIndex := 334, attributes := #[] }, { accessFlags := 1, nameIndex := 497, descriptorIndex := 427, attributes := #[] }, { accessFlags := 1, nameIndex := 683, descriptorIndex := 684, attributes := #[] }, { accessFlags := 2, nameIndex := 5, descriptorIndex := 29, attributes := #[] }, { accessFlags := 0, nameIndex := 5, descriptorIndex := 211, attributes := #[] }, { accessFlags := 0, nameIndex := 17, descriptorIndex := 337, attributes := #[] }, { accessFlags := 0, nameIndex := 494, descriptorIndex := 142, attributes := #[] }, { accessFlags := 8, nameIndex := 501, descriptorIndex := 391, attributes := #[] }, { accessFlags := 8, nameIndex := 523, descriptorIndex := 524, attributes := #[] }] 49 2 #[1106, 1108, 575, 1110, 1112] #[{ accessFlags := 18, nameIndex := 13, descriptorIndex := 14, attributes := #[] }, { accessFlags := 18, nameIndex := 17, descriptorIndex := 18, attributes := #[] }, { accessFlags := 2, nameIndex := 21, descriptorIndex := 22, attributes := #[] }, { accessFlags := 2, nameIndex := 25, descriptorIndex := 26, attributes := #[] }, { accessFlags := 26, nameIndex := 1116, descriptorIndex := 1117, attributes := #[] }, { accessFlags := 24, nameIndex := 40, descriptorIndex := 26, attributes := #[] }, { accessFlags := 26, nameIndex := 1101, descriptorIndex := 1102, attributes := #[] }, { accessFlags := 26, nameIndex := 1121, descriptorIndex := 1122, attributes := #[] }, { accessFlags := 25, nameIndex := 599, descriptorIndex := 600, attributes := #[] }, { accessFlags := 24, nameIndex := 1125, descriptorIndex := 18, attributes := #[] }, { accessFlags := 24, nameIndex := 1127, descriptorIndex := 18, attributes := #[] }])
  fields := #[{ name := "value", type := (.array .byte), accessFlags := 18, slot := 0, constantValue := 0 }, { name := "coder", type := .byte, accessFlags := 18, slot := 1, constantValue := 0 }, { name := "hash", type := .int, accessFlags := 2, slot := 2, constantValue := 0 }, { name := "hashIsZero", type := .boolean, accessFlags := 2, slot := 3, constantValue := 0 }, { name := "serialVersionUID", type := .long, accessFlags := 26, slot := 0, constantValue := 0 }, { name := "COMPACT_STRINGS", type := .boolean, accessFlags := 24, slot := 1, constantValue := 0 }, { name := "serialPersistentFields", type := (.array (.object "java/io/ObjectStreamField")), accessFlags := 26, slot := 2, constantValue := 0 }, { name := "REPL", type := .char, accessFlags := 26, slot := 3, constantValue := 0 }, { name := "CASE_INSENSITIVE_ORDER", type := (.object "java/util/Comparator"), accessFlags := 25, slot := 4, constantValue := 0 }, { name := "LATIN1", type := .byte, accessFlags := 24, slot := 5, constantValue := 0 }, { name := "UTF16", type := .byte, accessFlags := 24, slot := 6, constantValue := 0 }]
  methods := #[k7m0, k7m1, k7m2, k7m3, k7m4, k7m5, k7m6, k7m7, k7m8, k7m9, k7m10]
  instanceTypes := #[(.array .byte), .byte, .int, .boolean]
  staticTypes := #[.long, .boolean, (.array (.object "java/io/ObjectStreamField")), .char, (.object "java/util/Comparator"), .byte, .byte]
  resolved := Array.replicate 1451 none
  statics := some 0 }

def pool8 : Array CpInfo := pool [(2, .class_ 4), (1, u "java/lang/Object"), (0, u "<init>"), (0, u "()V"), (0, .methodref 8 9), (0, .class_ 10), (0, .nameAndType 11 12), (0, u "java/lang/String"), (0, u "length"), (0, u "()I"), (0, .methodref 8 14), (0, .nameAndType 15 16), (0, u "charAt"), (0, u "(I)C"), (0, .methodref 8 18), (0, .nameAndType 19 20), (0, u "substring"), (0, u "(II)Ljava/lang/String;"), (0, .class_ 22), (0, u "com/example/contractlint/contractlint/model/BasePath"), (2, u "of"), (0, u "(Ljava/lang/String;)Ljava/lang/String;")] 3

def k8m0 : Method := { name := "<init>", desc := "()V", sig := { parameters := [], returnType := none }, accessFlags := 2, code := none }
def k8c1 : Code := { maxStack := 3, maxLocals := 2, code := prog_22_method_2_code, exceptionTable := #[], attributes := #[] }
def k8m1 : Method := { name := "of", desc := "(Ljava/lang/String;)Ljava/lang/String;", sig := { parameters := [(.object "java/lang/String")], returnType := some (.object "java/lang/String") }, accessFlags := 8, code := some k8c1 }
/-- com/example/contractlint/contractlint/model/BasePath -/
def k8 : Class := { plain "com/example/contractlint/contractlint/model/BasePath" (some 0) with
  accessFlags := 48
  interfaces := #[]
  cf := some (fileOf pool8 21 #[] #[{ accessFlags := 2, nameIndex := 5, descriptorIndex := 6, attributes := #[] }, { accessFlags := 8, nameIndex := 25, descriptorIndex := 26, attributes := #[] }] 48 2 #[] #[])
  fields := #[]
  methods := #[k8m0, k8m1]
  instanceTypes := #[]
  staticTypes := #[]
  resolved := Array.replicate 30 none
  statics := none }

def pool9 : Array CpInfo := pool [(2, .class_ 4), (1, u "java/lang/Object"), (0, u "<init>"), (0, u "()V"), (17, .class_ 26), (1, u "jdk/internal/util/Preconditions"), (6, u "checkIndex"), (13, u "checkFromToIndex"), (7, .class_ 56), (0, u "jdk/internal/util/Preconditions$4"), (57, .class_ 115), (0, u "jdk/internal/util/Preconditions$1"), (7, u "SIOOBE_FORMATTER"), (0, u "Ljava/util/function/BiFunction;"), (0, .class_ 126), (0, u "jdk/internal/util/Preconditions$2"), (3, u "AIOOBE_FORMATTER"), (0, .class_ 132), (0, u "jdk/internal/util/Preconditions$3"), (3, u "IOOBE_FORMATTER"), (41, u "(IILjava/util/function/BiFunction;)I"), (4, u "(IIILjava/util/function/BiFunction;)I")] 10

def k9m0 : Method := { name := "<init>", desc := "()V", sig := { parameters := [], returnType := none }, accessFlags := 1, code := none }
def k9c1 : Code := { maxStack := 3, maxLocals := 3, code := jdk_41_method_11_code, exceptionTable := #[], attributes := #[] }
def k9m1 : Method := { name := "checkIndex", desc := "(IILjava/util/function/BiFunction;)I", sig := { parameters := [.int, .int, (.object "java/util/function/BiFunction")], returnType := some .int }, accessFlags := 9, code := some k9c1 }
def k9c2 : Code := { maxStack := 4, maxLocals := 4, code := jdk_41_method_12_code, exceptionTable := #[], attributes := #[] }
def k9m2 : Method := { name := "checkFromToIndex", desc := "(IIILjava/util/function/BiFunction;)I", sig := { parameters := [.int, .int, .int, (.object "java/util/function/BiFunction")], returnType := some .int }, accessFlags := 9, code := some k9c2 }
/-- jdk/internal/util/Preconditions -/
def k9 : Class := { plain "jdk/internal/util/Preconditions" (some 0) with
  accessFlags := 33
  interfaces := #[]
  cf := some (fileOf pool9 24 #[.nestMembers #[55, 131, 125, 114]] #[{ accessFlags := 1, nameIndex := 5, descriptorIndex := 6, attributes := #[] }, { accessFlags := 9, nameIndex := 33, descriptorIndex := 178, attributes := #[] }, { accessFlags := 9, nameIndex := 47, descriptorIndex := 183, attributes := #[] }] 33 2 #[] #[{ accessFlags := 25, nameIndex := 123, descriptorIndex := 124, attributes := #[] }, { accessFlags := 25, nameIndex := 130, descriptorIndex := 124, attributes := #[] }, { accessFlags := 25, nameIndex := 136, descriptorIndex := 124, attributes := #[] }])
  fields := #[{ name := "SIOOBE_FORMATTER", type := (.object "java/util/function/BiFunction"), accessFlags := 25, slot := 0, constantValue := 0 }, { name := "AIOOBE_FORMATTER", type := (.object "java/util/function/BiFunction"), accessFlags := 25, slot := 1, constantValue := 0 }, { name := "IOOBE_FORMATTER", type := (.object "java/util/function/BiFunction"), accessFlags := 25, slot := 2, constantValue := 0 }]
  methods := #[k9m0, k9m1, k9m2]
  instanceTypes := #[]
  staticTypes := #[(.object "java/util/function/BiFunction"), (.object "java/util/function/BiFunction"), (.object "java/util/function/BiFunction")]
  resolved := Array.replicate 194 none
  statics := some 1 }

def pool10 : Array CpInfo := pool [(6, .class_ 8), (1, u "java/lang/Object"), (0, u "<init>"), (0, u "()V"), (1, .class_ 14), (1, u "java/lang/StringUTF16"), (31, u "$assertionsDisabled"), (0, u "Z"), (13, u "HI_BYTE_SHIFT"), (0, u "I"), (2, u "LO_BYTE_SHIFT"), (49, .methodref 12 116), (0, .nameAndType 117 118), (0, u "compress"), (0, u "([CI[BII)I"), (3, u "([CII)[B"), (138, u "coderFromArrayLen"), (0, u "([BI)B"), (106, .class_ 371), (1, u "java/lang/StringUTF16$LinesSpliterator"), (58, u "MAX_LENGTH"), (196, .class_ 628), (0, u "java/lang/StringUTF16$CodePointsSpliterator"), (0, .class_ 630), (0, u "java/lang/StringUTF16$CharsSpliterator")] 4

def k10m0 : Method := { name := "<init>", desc := "()V", sig := { parameters := [], returnType := none }, accessFlags := 0, code := none }
def k10c1 : Code := { maxStack := 2, maxLocals := 2, code := jdk_52_method_15_code, exceptionTable := #[], attributes := #[] }
def k10m1 : Method := { name := "coderFromArrayLen", desc := "([BI)B", sig := { parameters := [(.array .byte), .int], returnType := some .byte }, accessFlags := 8, code := some k10c1 }
def k10c2 : Code := { maxStack := 5, maxLocals := 6, code := jdk_52_method_16_code, exceptionTable := #[], attributes := #[] }
def k10m2 : Method := { name := "compress", desc := "([CII)[B", sig := { parameters := [(.array .char), .int, .int], returnType := some (.array .byte) }, accessFlags := 9, code := some k10c2 }
def k10c3 : Code := { maxStack := 3, maxLocals := 7, code := jdk_52_method_21_code, exceptionTable := #[], attributes := #[] }
def k10m3 : Method := { name := "compress", desc := "([CI[BII)I", sig := { parameters := [(.array .char), .int, (.array .byte), .int, .int], returnType := some .int }, accessFlags := 9, code := some k10c3 }
/-- java/lang/StringUTF16 -/
def k10 : Class := { plain "java/lang/StringUTF16" (some 0) with
  accessFlags := 48
  interfaces := #[]
  cf := some (fileOf pool10 12 #[.nestMembers #[627, 629, 369]] #[{ accessFlags := 0, nameIndex := 9, descriptorIndex := 10, attributes := #[] }, { accessFlags := 8, nameIndex := 261, descriptorIndex := 262, attributes := #[] }, { accessFlags := 9, nameIndex := 117, descriptorIndex := 122, attributes := #[] }, { accessFlags := 9, nameIndex := 117, descriptorIndex := 118, attributes := #[] }] 48 6 #[] #[{ accessFlags := 26, nameIndex := 61, descriptorIndex := 62, attributes := #[] }, { accessFlags := 26, nameIndex := 65, descriptorIndex := 62, attributes := #[] }, { accessFlags := 24, nameIndex := 430, descriptorIndex := 62, attributes := #[] }, { accessFlags := 4120, nameIndex := 46, descriptorIndex := 47, attributes := #[] }])
  fields := #[{ name := "HI_BYTE_SHIFT", type := .int, accessFlags := 26, slot := 0, constantValue := 0 }, { name := "LO_BYTE_SHIFT", type := .int, accessFlags := 26, slot := 1, constantValue := 0 }, { name := "MAX_LENGTH", type := .int, accessFlags := 24, slot := 2, constantValue := 0 }, { name := "$assertionsDisabled", type := .boolean, accessFlags := 4120, slot := 3, constantValue := 0 }]
  methods := #[k10m0, k10m1, k10m2, k10m3]
  instanceTypes := #[]
  staticTypes := #[.int, .int, .int, .boolean]
  resolved := Array.replicate 635 none
  statics := none }

def pool11 : Array CpInfo := pool [(1, .class_ 2), (0, u "java/lang/String"), (1, .class_ 6), (1, u "java/lang/Object"), (0, u "<init>"), (0, u "()V"), (0, .methodref 1 10), (0, .nameAndType 11 12), (0, u "checkIndex"), (0, u "(II)V"), (1, .class_ 16), (1, u "java/lang/StringLatin1"), (36, u "([BI)C"), (58, .methodref 1 113), (0, .nameAndType 7 114), (0, u "([BB)V"), (6, u "$assertionsDisabled"), (0, u "Z"), (8, .class_ 133), (1, u "java/util/Arrays"), (17, .string 152), (0, u ""), (43, u "newString"), (0, u "([BII)Ljava/lang/String;"), (23, .class_ 223), (1, u "java/lang/StringLatin1$LinesSpliterator"), (8, .methodref 131 233), (0, .nameAndType 234 235), (0, u "copyOfRange"), (0, u "([BII)[B"), (16, u "charAt"), (137, .class_ 391), (0, u "java/lang/StringLatin1$CharsSpliterator")] 3

def k11m0 : Method := { name := "<init>", desc := "()V", sig := { parameters := [], returnType := none }, accessFlags := 0, code := none }
def k11c1 : Code := { maxStack := 2, maxLocals := 2, code := jdk_43_method_2_code, exceptionTable := #[], attributes := #[] }
def k11m1 : Method := { name := "charAt", desc := "([BI)C", sig := { parameters := [(.array .byte), .int], returnType := some .char }, accessFlags := 9, code := some k11c1 }
def k11c2 : Code := { maxStack := 6, maxLocals := 3, code := jdk_43_method_47_code, exceptionTable := #[], attributes := #[] }
def k11m2 : Method := { name := "newString", desc := "([BII)Ljava/lang/String;", sig := { parameters := [(.array .byte), .int, .int], returnType := some (.object "java/lang/String") }, accessFlags := 9, code := some k11c2 }
/-- java/lang/StringLatin1 -/
def k11 : Class := { plain "java/lang/StringLatin1" (some 0) with
  accessFlags := 48
  interfaces := #[]
  cf := some (fileOf pool11 14 #[.nestMembers #[390, 221]] #[{ accessFlags := 0, nameIndex := 7, descriptorIndex := 8, attributes := #[] }, { accessFlags := 9, nameIndex := 252, descriptorIndex := 53, attributes := #[] }, { accessFlags := 9, nameIndex := 196, descriptorIndex := 197, attributes := #[] }] 48 4 #[] #[{ accessFlags := 4120, nameIndex := 121, descriptorIndex := 122, attributes := #[] }])
  fields := #[{ name := "$assertionsDisabled", type := .boolean, accessFlags := 4120, slot := 0, constantValue := 0 }]
  methods := #[k11m0, k11m1, k11m2]
  instanceTypes := #[]
  staticTypes := #[.boolean]
  resolved := Array.replicate 395 none
  statics := none }

def pool12 : Array CpInfo := pool [(2, .class_ 4), (1, u "java/lang/Object"), (0, u "<init>"), (0, u "()V"), (7, .class_ 16), (1, u "java/util/Arrays"), (57, .class_ 76), (1, u "java/util/Arrays$NaturalOrder"), (36, .class_ 115), (1, u "java/util/Arrays$LegacyMergeSort"), (1, u "Z"), (21, u "copyOfRange"), (10, .methodref 151 152), (0, .class_ 153), (0, .nameAndType 154 155), (0, u "java/lang/System"), (0, u "arraycopy"), (0, u "(Ljava/lang/Object;ILjava/lang/Object;II)V"), (148, .methodref 305 306), (0, .class_ 307), (0, .nameAndType 308 309), (0, u "java/lang/Math"), (0, u "min"), (0, u "(II)I"), (29, .methodref 14 340), (0, .nameAndType 341 342), (0, u "copyOfRangeByte"), (0, u "([BII)[B"), (0, .methodref 14 344), (0, .nameAndType 345 346), (0, u "checkLength"), (0, u "(II)V"), (28, .class_ 376), (0, u "java/util/Arrays$ArrayList"), (68, u "$assertionsDisabled"), (269, u "MIN_ARRAY_SORT_GRAN"), (0, u "I"), (2, u "INSERTIONSORT_THRESHOLD"), (255, .class_ 976), (0, u "java/util/Arrays$ArrayItr")] 52

def k12m0 : Method := { name := "<init>", desc := "()V", sig := { parameters := [], returnType := none }, accessFlags := 2, code := none }
def k12c1 : Code := { maxStack := 4, maxLocals := 2, code := jdk_65_method_131_code, exceptionTable := #[], attributes := #[] }
def k12m1 : Method := { name := "checkLength", desc := "(II)V", sig := { parameters := [.int, .int], returnType := none }, accessFlags := 10, code := some k12c1 }
def k12c2 : Code := { maxStack := 3, maxLocals := 3, code := jdk_65_method_132_code, exceptionTable := #[], attributes := #[] }
def k12m2 : Method := { name := "copyOfRange", desc := "([BII)[B", sig := { parameters := [(.array .byte), .int, .int], returnType := some (.array .byte) }, accessFlags := 9, code := some k12c2 }
def k12c3 : Code := { maxStack := 6, maxLocals := 5, code := jdk_65_method_133_code, exceptionTable := #[], attributes := #[] }
def k12m3 : Method := { name := "copyOfRangeByte", desc := "([BII)[B", sig := { parameters := [(.array .byte), .int, .int], returnType := some (.array .byte) }, accessFlags := 10, code := some k12c3 }
/-- java/util/Arrays -/
def k12 : Class := { plain "java/util/Arrays" (some 0) with
  accessFlags := 49
  interfaces := #[]
  cf := some (fileOf pool12 14 #[.nestMembers #[975, 375, 113, 74]] #[{ accessFlags := 2, nameIndex := 5, descriptorIndex := 6, attributes := #[] }, { accessFlags := 10, nameIndex := 345, descriptorIndex := 346, attributes := #[] }, { accessFlags := 9, nameIndex := 139, descriptorIndex := 342, attributes := #[] }, { accessFlags := 10, nameIndex := 341, descriptorIndex := 342, attributes := #[] }] 49 2 #[] #[{ accessFlags := 26, nameIndex := 715, descriptorIndex := 716, attributes := #[] }, { accessFlags := 26, nameIndex := 719, descriptorIndex := 716, attributes := #[] }, { accessFlags := 4120, nameIndex := 445, descriptorIndex := 117, attributes := #[] }])
  fields := #[{ name := "MIN_ARRAY_SORT_GRAN", type := .int, accessFlags := 26, slot := 0, constantValue := 0 }, { name := "INSERTIONSORT_THRESHOLD", type := .int, accessFlags := 26, slot := 1, constantValue := 0 }, { name := "$assertionsDisabled", type := .boolean, accessFlags := 4120, slot := 2, constantValue := 0 }]
  methods := #[k12m0, k12m1, k12m2, k12m3]
  instanceTypes := #[]
  staticTypes := #[.int, .int, .boolean]
  resolved := Array.replicate 1029 none
  statics := none }

def pool13 : Array CpInfo := pool [(1, .class_ 2), (0, u "java/lang/Math"), (1, .class_ 6), (1, u "java/lang/Object"), (0, u "<init>"), (0, u "()V"), (89, .class_ 100), (1, u "java/lang/Math$RandomNumberGeneratorHolder"), (71, u "negativeZeroFloatBits"), (0, u "J"), (2, u "negativeZeroDoubleBits"), (24, u "min"), (43, u "$assertionsDisabled"), (0, u "Z"), (88, u "(II)I"), (2, u "twoToTheDoubleScaleDown"), (0, u "D"), (4, u "twoToTheDoubleScaleUp"), (9, u "E"), (3, u "PI"), (2, u "TAU"), (2, u "DEGREES_TO_RADIANS"), (0, u "RADIANS_TO_DEGREES")] 94

def k13m0 : Method := { name := "<init>", desc := "()V", sig := { parameters := [], returnType := none }, accessFlags := 2, code := none }
def k13c1 : Code := { maxStack := 2, maxLocals := 2, code := jdk_29_method_69_code, exceptionTable := #[], attributes := #[] }
def k13m1 : Method := { name := "min", desc := "(II)I", sig := { parameters := [.int, .int], returnType := some .int }, accessFlags := 9, code := some k13c1 }
/-- java/lang/Math -/
def k13 : Class := { plain "java/lang/Math" (some 0) with
  accessFlags := 49
  interfaces := #[]
  cf := some (fileOf pool13 1 #[.nestMembers #[98]] #[{ accessFlags := 2, nameIndex := 7, descriptorIndex := 8, attributes := #[] }, { accessFlags := 9, nameIndex := 201, descriptorIndex := 335, attributes := #[] }] 49 4 #[] #[{ accessFlags := 25, nameIndex := 354, descriptorIndex := 339, attributes := #[] }, { accessFlags := 25, nameIndex := 358, descriptorIndex := 339, attributes := #[] }, { accessFlags := 25, nameIndex := 361, descriptorIndex := 339, attributes := #[] }, { accessFlags := 26, nameIndex := 364, descriptorIndex := 339, attributes := #[] }, { accessFlags := 26, nameIndex := 365, descriptorIndex := 339, attributes := #[] }, { accessFlags := 26, nameIndex := 172, descriptorIndex := 173, attributes := #[] }, { accessFlags := 26, nameIndex := 176, descriptorIndex := 173, attributes := #[] }, { accessFlags := 8, nameIndex := 344, descriptorIndex := 339, attributes := #[] }, { accessFlags := 8, nameIndex := 338, descriptorIndex := 339, attributes := #[] }, { accessFlags := 4120, nameIndex := 245, descriptorIndex := 246, attributes := #[] }])
  fields := #[{ name := "E", type := .double, accessFlags := 25, slot := 0, constantValue := 0 }, { name := "PI", type := .double, accessFlags := 25, slot := 1, constantValue := 0 }, { name := "TAU", type := .double, accessFlags := 25, slot := 2, constantValue := 0 }, { name := "DEGREES_TO_RADIANS", type := .double, accessFlags := 26, slot := 3, constantValue := 0 }, { name := "RADIANS_TO_DEGREES", type := .double, accessFlags := 26, slot := 4, constantValue := 0 }, { name := "negativeZeroFloatBits", type := .long, accessFlags := 26, slot := 5, constantValue := 0 }, { name := "negativeZeroDoubleBits", type := .long, accessFlags := 26, slot := 6, constantValue := 0 }, { name := "twoToTheDoubleScaleUp", type := .double, accessFlags := 8, slot := 7, constantValue := 0 }, { name := "twoToTheDoubleScaleDown", type := .double, accessFlags := 8, slot := 8, constantValue := 0 }, { name := "$assertionsDisabled", type := .boolean, accessFlags := 4120, slot := 9, constantValue := 0 }]
  methods := #[k13m0, k13m1]
  instanceTypes := #[]
  staticTypes := #[.double, .double, .double, .double, .double, .long, .long, .double, .double, .boolean]
  resolved := Array.replicate 460 none
  statics := none }

def pool14 : Array CpInfo := pool [(2, .class_ 4), (1, u "java/lang/Object"), (0, u "<init>"), (0, u "()V"), (1, .class_ 10), (1, u "java/lang/System"), (0, u "allowSecurityManager"), (0, u "I"), (16, u "cons"), (0, u "Ljava/io/Console;"), (77, .class_ 110), (1, u "java/lang/System$CallersHolder"), (43, u "initialErrStream"), (0, u "Ljava/io/PrintStream;"), (19, u "security"), (0, u "Ljava/lang/SecurityManager;"), (31, .class_ 209), (0, u "java/lang/System$1"), (7, u "props"), (0, u "Ljava/util/Properties;"), (2, u "lineSeparator"), (0, u "Ljava/lang/String;"), (96, .class_ 321), (1, u "java/lang/System$LoggerFinder"), (5, .class_ 328), (0, u "java/lang/System$Logger"), (67, u "err"), (2, u "out"), (91, u "notSupportedJnuEncoding"), (15, u "in"), (17, u "initialIn"), (0, u "Ljava/io/InputStream;"), (35, u "bootLayer"), (0, u "Ljava/lang/ModuleLayer;"), (99, .class_ 664), (0, u "java/lang/System$2"), (9, u "NEVER"), (2, u "MAYBE"), (49, u "arraycopy"), (0, u "(Ljava/lang/Object;ILjava/lang/Object;II)V"), (72, .class_ 802), (0, u "java/lang/System$Logger$Level")] 31

def k14m0 : Method := { name := "<init>", desc := "()V", sig := { parameters := [], returnType := none }, accessFlags := 2, code := none }
def k14m1 : Method := { name := "arraycopy", desc := "(Ljava/lang/Object;ILjava/lang/Object;II)V", sig := { parameters := [(.object "java/lang/Object"), .int, (.object "java/lang/Object"), .int, .int], returnType := none }, accessFlags := 265, code := none }
/-- java/lang/System -/
def k14 : Class := { plain "java/lang/System" (some 0) with
  accessFlags := 49
  interfaces := #[]
  cf := some (fileOf pool14 8 #[.nestMembers #[319, 327, 801, 108, 663, 208]] #[{ accessFlags := 2, nameIndex := 5, descriptorIndex := 6, attributes := #[] }, { accessFlags := 265, nameIndex := 727, descriptorIndex := 728, attributes := #[] }] 49 2 #[] #[{ accessFlags := 25, nameIndex := 507, descriptorIndex := 526, attributes := #[] }, { accessFlags := 25, nameIndex := 399, descriptorIndex := 155, attributes := #[] }, { accessFlags := 25, nameIndex := 396, descriptorIndex := 155, attributes := #[] }, { accessFlags := 10, nameIndex := 525, descriptorIndex := 526, attributes := #[] }, { accessFlags := 26, nameIndex := 674, descriptorIndex := 12, attributes := #[] }, { accessFlags := 26, nameIndex := 677, descriptorIndex := 12, attributes := #[] }, { accessFlags := 10, nameIndex := 11, descriptorIndex := 12, attributes := #[] }, { accessFlags := 74, nameIndex := 175, descriptorIndex := 176, attributes := #[] }, { accessFlags := 10, nameIndex := 491, descriptorIndex := 222, attributes := #[] }, { accessFlags := 74, nameIndex := 29, descriptorIndex := 30, attributes := #[] }, { accessFlags := 74, nameIndex := 154, descriptorIndex := 155, attributes := #[] }, { accessFlags := 10, nameIndex := 217, descriptorIndex := 218, attributes := #[] }, { accessFlags := 10, nameIndex := 221, descriptorIndex := 222, attributes := #[] }, { accessFlags := 8, nameIndex := 562, descriptorIndex := 563, attributes := #[] }])
  fields := #[{ name := "in", type := (.object "java/io/InputStream"), accessFlags := 25, slot := 0, constantValue := 0 }, { name := "out", type := (.object "java/io/PrintStream"), accessFlags := 25, slot := 1, constantValue := 0 }, { name := "err", type := (.object "java/io/PrintStream"), accessFlags := 25, slot := 2, constantValue := 0 }, { name := "initialIn", type := (.object "java/io/InputStream"), accessFlags := 10, slot := 3, constantValue := 0 }, { name := "NEVER", type := .int, accessFlags := 26, slot := 4, constantValue := 0 }, { name := "MAYBE", type := .int, accessFlags := 26, slot := 5, constantValue := 0 }, { name := "allowSecurityManager", type := .int, accessFlags := 10, slot := 6, constantValue := 0 }, { name := "security", type := (.object "java/lang/SecurityManager"), accessFlags := 74, slot := 7, constantValue := 0 }, { name := "notSupportedJnuEncoding", type := (.object "java/lang/String"), accessFlags := 10, slot := 8, constantValue := 0 }, { name := "cons", type := (.object "java/io/Console"), accessFlags := 74, slot := 9, constantValue := 0 }, { name := "initialErrStream", type := (.object "java/io/PrintStream"), accessFlags := 74, slot := 10, constantValue := 0 }, { name := "props", type := (.object "java/util/Properties"), accessFlags := 10, slot := 11, constantValue := 0 }, { name := "lineSeparator", type := (.object "java/lang/String"), accessFlags := 10, slot := 12, constantValue := 0 }, { name := "bootLayer", type := (.object "java/lang/ModuleLayer"), accessFlags := 8, slot := 13, constantValue := 0 }]
  methods := #[k14m0, k14m1]
  instanceTypes := #[]
  staticTypes := #[(.object "java/io/InputStream"), (.object "java/io/PrintStream"), (.object "java/io/PrintStream"), (.object "java/io/InputStream"), .int, .int, .int, (.object "java/lang/SecurityManager"), (.object "java/lang/String"), (.object "java/io/Console"), (.object "java/io/PrintStream"), (.object "java/util/Properties"), (.object "java/lang/String"), (.object "java/lang/ModuleLayer")]
  resolved := Array.replicate 834 none
  statics := none }

def pool15 : Array CpInfo := pool [(9, u "<init>"), (6, .class_ 18), (1, u "java/lang/Object"), (0, u "()V"), (1, .class_ 23), (1, u "jdk/internal/util/ArraysSupport"), (0, u "LOG2_ARRAY_LONG_INDEX_SCALE"), (0, u "I"), (2, u "U"), (0, u "Ljdk/internal/misc/Unsafe;"), (8, u "BIG_ENDIAN"), (0, u "Z"), (8, u "LOG2_BYTE_BIT_SIZE"), (4, u "LOG2_ARRAY_INT_INDEX_SCALE"), (54, u "JLA"), (0, u "Ljdk/internal/access/JavaLangAccess;"), (11, u "LOG2_ARRAY_BOOLEAN_INDEX_SCALE"), (9, u "LOG2_ARRAY_BYTE_INDEX_SCALE"), (5, u "LOG2_ARRAY_CHAR_INDEX_SCALE"), (5, u "LOG2_ARRAY_SHORT_INDEX_SCALE"), (18, u "LOG2_ARRAY_FLOAT_INDEX_SCALE"), (24, u "LOG2_ARRAY_DOUBLE_INDEX_SCALE"), (89, u "T_BOOLEAN"), (2, u "T_CHAR"), (1, u "T_FLOAT"), (1, u "T_DOUBLE"), (1, u "T_BYTE"), (1, u "T_SHORT"), (1, u "T_INT"), (1, u "T_LONG"), (1, u "SOFT_MAX_ARRAY_LENGTH")] 83

def k15m0 : Method := { name := "<init>", desc := "()V", sig := { parameters := [], returnType := none }, accessFlags := 2, code := none }
/-- jdk/internal/util/ArraysSupport -/
def k15 : Class := { plain "jdk/internal/util/ArraysSupport" (some 0) with
  accessFlags := 33
  interfaces := #[]
  cf := some (fileOf pool15 21 #[] #[{ accessFlags := 2, nameIndex := 9, descriptorIndex := 19, attributes := #[] }] 33 16 #[] #[{ accessFlags := 24, nameIndex := 28, descriptorIndex := 29, attributes := #[] }, { accessFlags := 26, nameIndex := 38, descriptorIndex := 39, attributes := #[] }, { accessFlags := 25, nameIndex := 121, descriptorIndex := 25, attributes := #[] }, { accessFlags := 25, nameIndex := 131, descriptorIndex := 25, attributes := #[] }, { accessFlags := 25, nameIndex := 137, descriptorIndex := 25, attributes := #[] }, { accessFlags := 25, nameIndex := 143, descriptorIndex := 25, attributes := #[] }, { accessFlags := 25, nameIndex := 53, descriptorIndex := 25, attributes := #[] }, { accessFlags := 25, nameIndex := 24, descriptorIndex := 25, attributes := #[] }, { accessFlags := 25, nameIndex := 162, descriptorIndex := 25, attributes := #[] }, { accessFlags := 25, nameIndex := 187, descriptorIndex := 25, attributes := #[] }, { accessFlags := 26, nameIndex := 48, descriptorIndex := 25, attributes := #[] }, { accessFlags := 25, nameIndex := 277, descriptorIndex := 25, attributes := #[] }, { accessFlags := 25, nameIndex := 280, descriptorIndex := 25, attributes := #[] }, { accessFlags := 25, nameIndex := 282, descriptorIndex := 25, attributes := #[] }, { accessFlags := 25, nameIndex := 284, descriptorIndex := 25, attributes := #[] }, { accessFlags := 25, nameIndex := 286, descriptorIndex := 25, attributes := #[] }, { accessFlags := 25, nameIndex := 288, descriptorIndex := 25, attributes := #[] }, { accessFlags := 25, nameIndex := 290, descriptorIndex := 25, attributes := #[] }, { accessFlags := 25, nameIndex := 292, descriptorIndex := 25, attributes := #[] }, { accessFlags := 26, nameIndex := 108, descriptorIndex := 109, attributes := #[] }, { accessFlags := 25, nameIndex := 294, descriptorIndex := 25, attributes := #[] }])
  fields := #[{ name := "U", type := (.object "jdk/internal/misc/Unsafe"), accessFlags := 24, slot := 0, constantValue := 0 }, { name := "BIG_ENDIAN", type := .boolean, accessFlags := 26, slot := 1, constantValue := 0 }, { name := "LOG2_ARRAY_BOOLEAN_INDEX_SCALE", type := .int, accessFlags := 25, slot := 2, constantValue := 0 }, { name := "LOG2_ARRAY_BYTE_INDEX_SCALE", type := .int, accessFlags := 25, slot := 3, constantValue := 0 }, { name := "LOG2_ARRAY_CHAR_INDEX_SCALE", type := .int, accessFlags := 25, slot := 4, constantValue := 0 }, { name := "LOG2_ARRAY_SHORT_INDEX_SCALE", type := .int, accessFlags := 25, slot := 5, constantValue := 0 }, { name := "LOG2_ARRAY_INT_INDEX_SCALE", type := .int, accessFlags := 25, slot := 6, constantValue := 0 }, { name := "LOG2_ARRAY_LONG_INDEX_SCALE", type := .int, accessFlags := 25, slot := 7, constantValue := 0 }, { name := "LOG2_ARRAY_FLOAT_INDEX_SCALE", type := .int, accessFlags := 25, slot := 8, constantValue := 0 }, { name := "LOG2_ARRAY_DOUBLE_INDEX_SCALE", type := .int, accessFlags := 25, slot := 9, constantValue := 0 }, { name := "LOG2_BYTE_BIT_SIZE", type := .int, accessFlags := 26, slot := 10, constantValue := 0 }, { name := "T_BOOLEAN", type := .int, accessFlags := 25, slot := 11, constantValue := 0 }, { name := "T_CHAR", type := .int, accessFlags := 25, slot := 12, constantValue := 0 }, { name := "T_FLOAT", type := .int, accessFlags := 25, slot := 13, constantValue := 0 }, { name := "T_DOUBLE", type := .int, accessFlags := 25, slot := 14, constantValue := 0 }, { name := "T_BYTE", type := .int, accessFlags := 25, slot := 15, constantValue := 0 }, { name := "T_SHORT", type := .int, accessFlags := 25, slot := 16, constantValue := 0 }, { name := "T_INT", type := .int, accessFlags := 25, slot := 17, constantValue := 0 }, { name := "T_LONG", type := .int, accessFlags := 25, slot := 18, constantValue := 0 }, { name := "JLA", type := (.object "jdk/internal/access/JavaLangAccess"), accessFlags := 26, slot := 19, constantValue := 0 }, { name := "SOFT_MAX_ARRAY_LENGTH", type := .int, accessFlags := 25, slot := 20, constantValue := 0 }]
  methods := #[k15m0]
  instanceTypes := #[]
  staticTypes := #[(.object "jdk/internal/misc/Unsafe"), .boolean, .int, .int, .int, .int, .int, .int, .int, .int, .int, .int, .int, .int, .int, .int, .int, .int, .int, (.object "jdk/internal/access/JavaLangAccess"), .int]
  resolved := Array.replicate 378 none
  statics := none }

def pool16 : Array CpInfo := pool [(1, u "java/lang/Cloneable"), (0, .class_ 1), (0, u "java/lang/Object"), (0, .class_ 3)] 3

/-- java/lang/Cloneable -/
def k16 : Class := { plain "java/lang/Cloneable" (some 0) with
  accessFlags := 1537
  interfaces := #[]
  cf := some (fileOf pool16 2 #[] #[] 1537 4 #[] #[])
  fields := #[]
  methods := #[]
  instanceTypes := #[]
  staticTypes := #[]
  resolved := Array.replicate 8 none
  statics := none }

/-- the primitive byte -/
def k17 : Class := { plain "byte" none with kind := .primitive 'B', accessFlags := 0x411 }
/-- [B -/
def k18 : Class := { plain "[B" (some 0) with kind := .array 17 .byte, interfaces := #[16, 2], accessFlags := 1041 }

/-- the primitive char -/
def k19 : Class := { plain "char" none with kind := .primitive 'C', accessFlags := 0x411 }
/-- [C -/
def k20 : Class := { plain "[C" (some 0) with kind := .array 19 .char, interfaces := #[16, 2], accessFlags := 1041 }

/-- the primitive int -/
def k21 : Class := { plain "int" none with kind := .primitive 'I', accessFlags := 0x411 }
/-- [I -/
def k22 : Class := { plain "[I" (some 0) with kind := .array 21 .int, interfaces := #[16, 2], accessFlags := 1041 }

def heap : Heap := #[{ cls := 7, slots := #[.long 0, .int 1, .null, .int 0, .null, .int 0, .int 0], vm := .statics 7 },
  { cls := 9, slots := #[.null, .null, .null], vm := .statics 9 }]
def classes : Array Class := #[k0, k1, k2, k3, k4, k5, k6, k7, k8, k9, k10, k11, k12, k13, k14, k15, k16, k17, k18, k19, k20, k21, k22]
def interned : List (Array UInt16 × Addr) := []
def slotsUsed : Nat := 10
def theMethod : MethodId := ⟨1, 3⟩
def args0 : Array Value := #[.int 5, .int 7, .int 9, .int 11, .int 13]
def aboutOver (below : List Frame) : State where
  vm := { classes := classes, interned := interned.toArray }
  heap := heap
  slotsUsed := slotsUsed
  threads := #[{ frames := .invoking theMethod args0 :: below }]
def below0 : List Frame := [.native { method := ⟨0, 0⟩, args := #[] }]
def about1 : State := aboutOver below0
def p0 : Program := .bare "" "" ""
def e0 : Env := launch0.env 0 0 0
theorem w_frames : about1.frames = Frame.invoking theMethod args0 :: below0 := rfl
set_option maxRecDepth 65536 in
theorem w_args : argsFit about1.vm theMethod args0 = true := by decide +kernel
set_option maxRecDepth 65536 in
theorem w_heap : heapFits about1 = true := by decide +kernel
set_option maxRecDepth 65536 in
theorem w_runnable : about1.curStatus? = some .runnable := by decide +kernel
set_option maxRecDepth 65536 in
theorem w_alone : about1.alone = true := by decide +kernel
set_option maxRecDepth 65536 in
theorem w_named : about1.methodNamed? x = some theMethod := by decide +kernel
set_option maxRecDepth 65536 in
theorem w_hears : about1.hears theMethod below0 = true := by decide +kernel
set_option maxRecDepth 65536 in
theorem w_ripe : about1.ripe theMethod args0 below0 = true := by decide +kernel
theorem w_running : about1.status = .running := rfl
set_option maxRecDepth 65536 in
theorem w_room : about1.hasRoom e0.platform room_1 = true :=
  launch0.hasRoom_least _ room_1 (by decide +kernel) (by decide +kernel) (by decide +kernel) (by decide +kernel) (by decide +kernel) (by decide +kernel)
theorem allAtoms_all (ts : List Jvm.Cond) (a : Array Jvm.Value) (st : Jvm.State) : (allAtoms ts).before a st = ts.all (fun c => c.before a st) := by
  induction ts with
  | nil => rfl
  | cons c t ih =>
    show (Jvm.Cond.and c (allAtoms t)).before a st = _
    rw [Jvm.Cond.before_and, ih, List.all_cons]
def words1 : List Jvm.Cond := Jvm.Cond.code x code maxLocals ret :: tables_1
/-- a 'code' word, met by the world's own term for the bytes: nothing is compared byte by byte -/
theorem code_word {y : MethodName} {bytes : ByteArray} {mx : Nat} {rt : Option FieldType} {a : Array Value} {s : State} {m : MethodId} {meth : Method} {c : Code} (h1 : s.methodNamed? y = some m) (h2 : s.vm.method? m = some meth) (h3 : meth.code = some c) (h4 : c.code = bytes)
    (h5 : (c.maxLocals == mx && c.exceptionTable.isEmpty && decide (c.maxStack ≤ mostOperands) && decide (meth.sig.returnType = rt) && !meth.locks && decide (parseMethodDescriptor y.desc = some meth.sig)) = true) : (Jvm.Cond.code y bytes mx rt).before a s = true := by
  simp only [Bool.and_eq_true, beq_iff_eq, Bool.not_eq_true', decide_eq_true_eq] at h5
  obtain ⟨⟨⟨⟨⟨g1, g2⟩, g3⟩, g4⟩, g5⟩, g6⟩ := h5
  simp [Cond.before, Cond.holds, Cond.value, h1, h2, h3, h4, g1, g2, g3, g4, g5, g6]
def isCode : Jvm.Cond → Bool
  | .code _ _ _ _ => true
  | _ => false
theorem all_split {L : List Jvm.Cond} {P : Jvm.Cond → Bool} (h1 : L.all (fun c => isCode c || P c) = true) (h2 : ∀ c ∈ L.filter isCode, P c = true) : L.all P = true := by
  refine List.all_eq_true.mpr fun c hc => ?_
  have h := List.all_eq_true.mp h1 c hc
  rcases Bool.eq_false_or_eq_true (isCode c) with hi | hi
  · exact h2 c (List.mem_filter.mpr ⟨hc, hi⟩)
  · simpa [hi] using h
set_option maxRecDepth 65536 in
theorem w_c0 : (Jvm.Cond.code x code maxLocals ret).before args0 about1 = true := code_word (m := ⟨1, 3⟩) (meth := k1m3) (c := k1c3) (by decide +kernel) rfl rfl rfl (by decide +kernel)
set_option maxRecDepth 65536 in
theorem w_c1 : (Jvm.Cond.code ({ cls := "com/example/contractlint/contractlint/model/BasePathOfPinLaw", name := "ch", desc := "(I)C" } : Jvm.MethodName) method_2_code (1 : Nat) (Option.some Jvm.ClassFile.FieldType.char)).before args0 about1 = true := code_word (m := ⟨1, 1⟩) (meth := k1m1) (c := k1c1) (by decide +kernel) rfl rfl rfl (by decide +kernel)
set_option maxRecDepth 65536 in
theorem w_c2 : (Jvm.Cond.code ({ cls := "java/lang/String", name := "<init>", desc := "([C)V" } : Jvm.MethodName) jdk_42_method_3_code (2 : Nat) (Option.none : Option Jvm.ClassFile.FieldType)).before args0 about1 = true := code_word (m := ⟨7, 1⟩) (meth := k7m1) (c := k7c1) (by decide +kernel) rfl rfl rfl (by decide +kernel)
set_option maxRecDepth 65536 in
theorem w_c3 : (Jvm.Cond.code ({ cls := "java/lang/String", name := "<init>", desc := "([CIILjava/lang/Void;)V" } : Jvm.MethodName) jdk_42_method_149_code (6 : Nat) (Option.none : Option Jvm.ClassFile.FieldType)).before args0 about1 = true := code_word (m := ⟨7, 5⟩) (meth := k7m5) (c := k7c5) (by decide +kernel) rfl rfl rfl (by decide +kernel)
set_option maxRecDepth 65536 in
theorem w_c4 : (Jvm.Cond.code ({ cls := "java/lang/Object", name := "<init>", desc := "()V" } : Jvm.MethodName) object_method_1_code (1 : Nat) (Option.none : Option Jvm.ClassFile.FieldType)).before args0 about1 = true := code_word (m := ⟨0, 0⟩) (meth := k0m0) (c := k0c0) (by decide +kernel) rfl rfl rfl (by decide +kernel)
set_option maxRecDepth 65536 in
theorem w_c5 : (Jvm.Cond.code ({ cls := "com/example/contractlint/contractlint/model/BasePath", name := "of", desc := "(Ljava/lang/String;)Ljava/lang/String;" } : Jvm.MethodName) prog_22_method_2_code (2 : Nat) (Option.some (Jvm.ClassFile.FieldType.object "java/lang/String"))).before args0 about1 = true := code_word (m := ⟨8, 1⟩) (meth := k8m1) (c := k8c1) (by decide +kernel) rfl rfl rfl (by decide +kernel)
set_option maxRecDepth 65536 in
theorem w_c6 : (Jvm.Cond.code ({ cls := "java/lang/String", name := "length", desc := "()I" } : Jvm.MethodName) jdk_42_method_54_code (1 : Nat) (Option.some Jvm.ClassFile.FieldType.int)).before args0 about1 = true := code_word (m := ⟨7, 2⟩) (meth := k7m2) (c := k7c2) (by decide +kernel) rfl rfl rfl (by decide +kernel)
set_option maxRecDepth 65536 in
theorem w_c7 : (Jvm.Cond.code ({ cls := "java/lang/String", name := "coder", desc := "()B" } : Jvm.MethodName) jdk_42_method_152_code (1 : Nat) (Option.some Jvm.ClassFile.FieldType.byte)).before args0 about1 = true := code_word (m := ⟨7, 7⟩) (meth := k7m7) (c := k7c7) (by decide +kernel) rfl rfl rfl (by decide +kernel)
set_option maxRecDepth 65536 in
theorem w_c8 : (Jvm.Cond.code ({ cls := "java/lang/String", name := "substring", desc := "(II)Ljava/lang/String;" } : Jvm.MethodName) jdk_42_method_92_code (5 : Nat) (Option.some (Jvm.ClassFile.FieldType.object "java/lang/String"))).before args0 about1 = true := code_word (m := ⟨7, 4⟩) (meth := k7m4) (c := k7c4) (by decide +kernel) rfl rfl rfl (by decide +kernel)
set_option maxRecDepth 65536 in
theorem w_c9 : (Jvm.Cond.code ({ cls := "java/lang/String", name := "checkBoundsBeginEnd", desc := "(III)V" } : Jvm.MethodName) jdk_42_method_158_code (3 : Nat) (Option.none : Option Jvm.ClassFile.FieldType)).before args0 about1 = true := code_word (m := ⟨7, 10⟩) (meth := k7m10) (c := k7c10) (by decide +kernel) rfl rfl rfl (by decide +kernel)
set_option maxRecDepth 65536 in
theorem w_c10 : (Jvm.Cond.code ({ cls := "jdk/internal/util/Preconditions", name := "checkFromToIndex", desc := "(IIILjava/util/function/BiFunction;)I" } : Jvm.MethodName) jdk_41_method_12_code (4 : Nat) (Option.some Jvm.ClassFile.FieldType.int)).before args0 about1 = true := code_word (m := ⟨9, 2⟩) (meth := k9m2) (c := k9c2) (by decide +kernel) rfl rfl rfl (by decide +kernel)
set_option maxRecDepth 65536 in
theorem w_c11 : (Jvm.Cond.code ({ cls := "com/example/contractlint/contractlint/model/BasePathOfPinLaw", name := "at", desc := "(Ljava/lang/String;Ljava/lang/String;III)Z" } : Jvm.MethodName) method_3_code (5 : Nat) (Option.some Jvm.ClassFile.FieldType.boolean)).before args0 about1 = true := code_word (m := ⟨1, 2⟩) (meth := k1m2) (c := k1c2) (by decide +kernel) rfl rfl rfl (by decide +kernel)
set_option maxRecDepth 65536 in
theorem w_c12 : (Jvm.Cond.code ({ cls := "java/lang/StringUTF16", name := "compress", desc := "([CII)[B" } : Jvm.MethodName) jdk_52_method_16_code (6 : Nat) (Option.some (Jvm.ClassFile.FieldType.array Jvm.ClassFile.FieldType.byte))).before args0 about1 = true := code_word (m := ⟨10, 2⟩) (meth := k10m2) (c := k10c2) (by decide +kernel) rfl rfl rfl (by decide +kernel)
set_option maxRecDepth 65536 in
theorem w_c13 : (Jvm.Cond.code ({ cls := "java/lang/StringUTF16", name := "compress", desc := "([CI[BII)I" } : Jvm.MethodName) jdk_52_method_21_code (7 : Nat) (Option.some Jvm.ClassFile.FieldType.int)).before args0 about1 = true := code_word (m := ⟨10, 3⟩) (meth := k10m3) (c := k10c3) (by decide +kernel) rfl rfl rfl (by decide +kernel)
set_option maxRecDepth 65536 in
theorem w_c14 : (Jvm.Cond.code ({ cls := "java/lang/StringUTF16", name := "coderFromArrayLen", desc := "([BI)B" } : Jvm.MethodName) jdk_52_method_15_code (2 : Nat) (Option.some Jvm.ClassFile.FieldType.byte)).before args0 about1 = true := code_word (m := ⟨10, 1⟩) (meth := k10m1) (c := k10c1) (by decide +kernel) rfl rfl rfl (by decide +kernel)
set_option maxRecDepth 65536 in
theorem w_c15 : (Jvm.Cond.code ({ cls := "java/lang/String", name := "charAt", desc := "(I)C" } : Jvm.MethodName) jdk_42_method_56_code (2 : Nat) (Option.some Jvm.ClassFile.FieldType.char)).before args0 about1 = true := code_word (m := ⟨7, 3⟩) (meth := k7m3) (c := k7c3) (by decide +kernel) rfl rfl rfl (by decide +kernel)
set_option maxRecDepth 65536 in
theorem w_c16 : (Jvm.Cond.code ({ cls := "java/lang/String", name := "isLatin1", desc := "()Z" } : Jvm.MethodName) jdk_42_method_154_code (1 : Nat) (Option.some Jvm.ClassFile.FieldType.boolean)).before args0 about1 = true := code_word (m := ⟨7, 8⟩) (meth := k7m8) (c := k7c8) (by decide +kernel) rfl rfl rfl (by decide +kernel)
set_option maxRecDepth 65536 in
theorem w_c17 : (Jvm.Cond.code ({ cls := "java/lang/StringLatin1", name := "charAt", desc := "([BI)C" } : Jvm.MethodName) jdk_43_method_2_code (2 : Nat) (Option.some Jvm.ClassFile.FieldType.char)).before args0 about1 = true := code_word (m := ⟨11, 1⟩) (meth := k11m1) (c := k11c1) (by decide +kernel) rfl rfl rfl (by decide +kernel)
set_option maxRecDepth 65536 in
theorem w_c18 : (Jvm.Cond.code ({ cls := "java/lang/String", name := "checkIndex", desc := "(II)V" } : Jvm.MethodName) jdk_42_method_155_code (2 : Nat) (Option.none : Option Jvm.ClassFile.FieldType)).before args0 about1 = true := code_word (m := ⟨7, 9⟩) (meth := k7m9) (c := k7c9) (by decide +kernel) rfl rfl rfl (by decide +kernel)
set_option maxRecDepth 65536 in
theorem w_c19 : (Jvm.Cond.code ({ cls := "jdk/internal/util/Preconditions", name := "checkIndex", desc := "(IILjava/util/function/BiFunction;)I" } : Jvm.MethodName) jdk_41_method_11_code (3 : Nat) (Option.some Jvm.ClassFile.FieldType.int)).before args0 about1 = true := code_word (m := ⟨9, 1⟩) (meth := k9m1) (c := k9c1) (by decide +kernel) rfl rfl rfl (by decide +kernel)
set_option maxRecDepth 65536 in
theorem w_c20 : (Jvm.Cond.code ({ cls := "java/lang/StringLatin1", name := "newString", desc := "([BII)Ljava/lang/String;" } : Jvm.MethodName) jdk_43_method_47_code (3 : Nat) (Option.some (Jvm.ClassFile.FieldType.object "java/lang/String"))).before args0 about1 = true := code_word (m := ⟨11, 2⟩) (meth := k11m2) (c := k11c2) (by decide +kernel) rfl rfl rfl (by decide +kernel)
set_option maxRecDepth 65536 in
theorem w_c21 : (Jvm.Cond.code ({ cls := "java/util/Arrays", name := "copyOfRange", desc := "([BII)[B" } : Jvm.MethodName) jdk_65_method_132_code (3 : Nat) (Option.some (Jvm.ClassFile.FieldType.array Jvm.ClassFile.FieldType.byte))).before args0 about1 = true := code_word (m := ⟨12, 2⟩) (meth := k12m2) (c := k12c2) (by decide +kernel) rfl rfl rfl (by decide +kernel)
set_option maxRecDepth 65536 in
theorem w_c22 : (Jvm.Cond.code ({ cls := "java/util/Arrays", name := "copyOfRangeByte", desc := "([BII)[B" } : Jvm.MethodName) jdk_65_method_133_code (5 : Nat) (Option.some (Jvm.ClassFile.FieldType.array Jvm.ClassFile.FieldType.byte))).before args0 about1 = true := code_word (m := ⟨12, 3⟩) (meth := k12m3) (c := k12c3) (by decide +kernel) rfl rfl rfl (by decide +kernel)
set_option maxRecDepth 65536 in
theorem w_c23 : (Jvm.Cond.code ({ cls := "java/util/Arrays", name := "checkLength", desc := "(II)V" } : Jvm.MethodName) jdk_65_method_131_code (2 : Nat) (Option.none : Option Jvm.ClassFile.FieldType)).before args0 about1 = true := code_word (m := ⟨12, 1⟩) (meth := k12m1) (c := k12c1) (by decide +kernel) rfl rfl rfl (by decide +kernel)
set_option maxRecDepth 65536 in
theorem w_c24 : (Jvm.Cond.code ({ cls := "java/lang/Math", name := "min", desc := "(II)I" } : Jvm.MethodName) jdk_29_method_69_code (2 : Nat) (Option.some Jvm.ClassFile.FieldType.int)).before args0 about1 = true := code_word (m := ⟨13, 1⟩) (meth := k13m1) (c := k13c1) (by decide +kernel) rfl rfl rfl (by decide +kernel)
set_option maxRecDepth 65536 in
theorem w_c25 : (Jvm.Cond.code ({ cls := "java/lang/String", name := "<init>", desc := "([BB)V" } : Jvm.MethodName) jdk_42_method_151_code (3 : Nat) (Option.none : Option Jvm.ClassFile.FieldType)).before args0 about1 = true := code_word (m := ⟨7, 6⟩) (meth := k7m6) (c := k7c6) (by decide +kernel) rfl rfl rfl (by decide +kernel)
def codes1 : List Jvm.Cond := [Jvm.Cond.code x code maxLocals ret, Jvm.Cond.code ({ cls := "com/example/contractlint/contractlint/model/BasePathOfPinLaw", name := "ch", desc := "(I)C" } : Jvm.MethodName) method_2_code (1 : Nat) (Option.some Jvm.ClassFile.FieldType.char), Jvm.Cond.code ({ cls := "java/lang/String", name := "<init>", desc := "([C)V" } : Jvm.MethodName) jdk_42_method_3_code (2 : Nat) (Option.none : Option Jvm.ClassFile.FieldType), Jvm.Cond.code ({ cls := "java/lang/String", name := "<init>", desc := "([CIILjava/lang/Void;)V" } : Jvm.MethodName) jdk_42_method_149_code (6 : Nat) (Option.none : Option Jvm.ClassFile.FieldType), Jvm.Cond.code ({ cls := "java/lang/Object", name := "<init>", desc := "()V" } : Jvm.MethodName) object_method_1_code (1 : Nat) (Option.none : Option Jvm.ClassFile.FieldType), Jvm.Cond.code ({ cls := "com/example/contractlint/contractlint/model/BasePath", name := "of", desc := "(Ljava/lang/String;)Ljava/lang/String;" } : Jvm.MethodName) prog_22_method_2_code (2 : Nat) (Option.some (Jvm.ClassFile.FieldType.object "java/lang/String")), Jvm.Cond.code ({ cls := "java/lang/String", name := "length", desc := "()I" } : Jvm.MethodName) jdk_42_method_54_code (1 : Nat) (Option.some Jvm.ClassFile.FieldType.int), Jvm.Cond.code ({ cls := "java/lang/String", name := "coder", desc := "()B" } : Jvm.MethodName) jdk_42_method_152_code (1 : Nat) (Option.some Jvm.ClassFile.FieldType.byte), Jvm.Cond.code ({ cls := "java/lang/String", name := "substring", desc := "(II)Ljava/lang/String;" } : Jvm.MethodName) jdk_42_method_92_code (5 : Nat) (Option.some (Jvm.ClassFile.FieldType.object "java/lang/String")), Jvm.Cond.code ({ cls := "java/lang/String", name := "checkBoundsBeginEnd", desc := "(III)V" } : Jvm.MethodName) jdk_42_method_158_code (3 : Nat) (Option.none : Option Jvm.ClassFile.FieldType), Jvm.Cond.code ({ cls := "jdk/internal/util/Preconditions", name := "checkFromToIndex", desc := "(IIILjava/util/function/BiFunction;)I" } : Jvm.MethodName) jdk_41_method_12_code (4 : Nat) (Option.some Jvm.ClassFile.FieldType.int), Jvm.Cond.code ({ cls := "com/example/contractlint/contractlint/model/BasePathOfPinLaw", name := "at", desc := "(Ljava/lang/String;Ljava/lang/String;III)Z" } : Jvm.MethodName) method_3_code (5 : Nat) (Option.some Jvm.ClassFile.FieldType.boolean), Jvm.Cond.code ({ cls := "java/lang/StringUTF16", name := "compress", desc := "([CII)[B" } : Jvm.MethodName) jdk_52_method_16_code (6 : Nat) (Option.some (Jvm.ClassFile.FieldType.array Jvm.ClassFile.FieldType.byte)), Jvm.Cond.code ({ cls := "java/lang/StringUTF16", name := "compress", desc := "([CI[BII)I" } : Jvm.MethodName) jdk_52_method_21_code (7 : Nat) (Option.some Jvm.ClassFile.FieldType.int), Jvm.Cond.code ({ cls := "java/lang/StringUTF16", name := "coderFromArrayLen", desc := "([BI)B" } : Jvm.MethodName) jdk_52_method_15_code (2 : Nat) (Option.some Jvm.ClassFile.FieldType.byte), Jvm.Cond.code ({ cls := "java/lang/String", name := "charAt", desc := "(I)C" } : Jvm.MethodName) jdk_42_method_56_code (2 : Nat) (Option.some Jvm.ClassFile.FieldType.char), Jvm.Cond.code ({ cls := "java/lang/String", name := "isLatin1", desc := "()Z" } : Jvm.MethodName) jdk_42_method_154_code (1 : Nat) (Option.some Jvm.ClassFile.FieldType.boolean), Jvm.Cond.code ({ cls := "java/lang/StringLatin1", name := "charAt", desc := "([BI)C" } : Jvm.MethodName) jdk_43_method_2_code (2 : Nat) (Option.some Jvm.ClassFile.FieldType.char), Jvm.Cond.code ({ cls := "java/lang/String", name := "checkIndex", desc := "(II)V" } : Jvm.MethodName) jdk_42_method_155_code (2 : Nat) (Option.none : Option Jvm.ClassFile.FieldType), Jvm.Cond.code ({ cls := "jdk/internal/util/Preconditions", name := "checkIndex", desc := "(IILjava/util/function/BiFunction;)I" } : Jvm.MethodName) jdk_41_method_11_code (3 : Nat) (Option.some Jvm.ClassFile.FieldType.int), Jvm.Cond.code ({ cls := "java/lang/StringLatin1", name := "newString", desc := "([BII)Ljava/lang/String;" } : Jvm.MethodName) jdk_43_method_47_code (3 : Nat) (Option.some (Jvm.ClassFile.FieldType.object "java/lang/String")), Jvm.Cond.code ({ cls := "java/util/Arrays", name := "copyOfRange", desc := "([BII)[B" } : Jvm.MethodName) jdk_65_method_132_code (3 : Nat) (Option.some (Jvm.ClassFile.FieldType.array Jvm.ClassFile.FieldType.byte)), Jvm.Cond.code ({ cls := "java/util/Arrays", name := "copyOfRangeByte", desc := "([BII)[B" } : Jvm.MethodName) jdk_65_method_133_code (5 : Nat) (Option.some (Jvm.ClassFile.FieldType.array Jvm.ClassFile.FieldType.byte)), Jvm.Cond.code ({ cls := "java/util/Arrays", name := "checkLength", desc := "(II)V" } : Jvm.MethodName) jdk_65_method_131_code (2 : Nat) (Option.none : Option Jvm.ClassFile.FieldType), Jvm.Cond.code ({ cls := "java/lang/Math", name := "min", desc := "(II)I" } : Jvm.MethodName) jdk_29_method_69_code (2 : Nat) (Option.some Jvm.ClassFile.FieldType.int), Jvm.Cond.code ({ cls := "java/lang/String", name := "<init>", desc := "([BB)V" } : Jvm.MethodName) jdk_42_method_151_code (3 : Nat) (Option.none : Option Jvm.ClassFile.FieldType)]
set_option maxRecDepth 65536 in
theorem codes_eq : words1.filter isCode = codes1 := rfl
theorem w_codes : ∀ c ∈ words1.filter isCode, c.before args0 about1 = true := by
  rw [codes_eq]
  intro c hc
  simp only [codes1, List.mem_cons, List.not_mem_nil, or_false] at hc
  rcases hc with rfl | rfl | rfl | rfl | rfl | rfl | rfl | rfl | rfl | rfl | rfl | rfl | rfl | rfl | rfl | rfl | rfl | rfl | rfl | rfl | rfl | rfl | rfl | rfl | rfl | rfl
  · exact w_c0
  · exact w_c1
  · exact w_c2
  · exact w_c3
  · exact w_c4
  · exact w_c5
  · exact w_c6
  · exact w_c7
  · exact w_c8
  · exact w_c9
  · exact w_c10
  · exact w_c11
  · exact w_c12
  · exact w_c13
  · exact w_c14
  · exact w_c15
  · exact w_c16
  · exact w_c17
  · exact w_c18
  · exact w_c19
  · exact w_c20
  · exact w_c21
  · exact w_c22
  · exact w_c23
  · exact w_c24
  · exact w_c25
set_option maxRecDepth 65536 in
theorem w_t1 : (words1.take 24).all (fun c => isCode c || c.before args0 about1) = true := by decide +kernel
set_option maxRecDepth 65536 in
theorem w_t2 : ((words1.drop 24).take 24).all (fun c => isCode c || c.before args0 about1) = true := by decide +kernel
set_option maxRecDepth 65536 in
theorem w_t3 : (((words1.drop 24).drop 24).take 24).all (fun c => isCode c || c.before args0 about1) = true := by decide +kernel
set_option maxRecDepth 65536 in
theorem w_t4 : ((((words1.drop 24).drop 24).drop 24).take 24).all (fun c => isCode c || c.before args0 about1) = true := by decide +kernel
set_option maxRecDepth 65536 in
theorem w_t5 : ((((words1.drop 24).drop 24).drop 24).drop 24).all (fun c => isCode c || c.before args0 about1) = true := by decide +kernel
theorem w_tables : (allAtoms (Jvm.Cond.code x code maxLocals ret :: tables_1)).before args0 about1 = true := by
  rw [allAtoms_all]
  show words1.all (fun c => c.before args0 about1) = true
  refine all_split ?_ w_codes
  rw [← List.take_append_drop 24 words1, List.all_append, w_t1, ← List.take_append_drop 24 (words1.drop 24), List.all_append, w_t2, ← List.take_append_drop 24 ((words1.drop 24).drop 24), List.all_append, w_t3, ← List.take_append_drop 24 (((words1.drop 24).drop 24).drop 24), List.all_append, w_t4, w_t5]
  rfl
set_option maxRecDepth 65536 in
theorem w_rest : rest_1_c.before args0 about1 = true := by decide +kernel
set_option maxRecDepth 65536 in
theorem w_case : (Jvm.Cond.and given_1 narrow_1).before args0 about1 = true := by decide +kernel
set_option maxRecDepth 65536 in
theorem w_consts : constsHeld consts_1 about1 := Jvm.Lit.constsHeldB_iff.mp (by decide +kernel)
theorem w_applies : (headSpec (Jvm.Cond.code x code maxLocals ret :: tables_1) room_1).applies x e0.platform about1 = true :=
  (Spec.applies_iff w_frames).mpr ⟨w_running, w_runnable, w_alone, w_named, w_hears, w_ripe, w_room, w_tables⟩
theorem atStart : AtStart classFile x code maxLocals ret World_1 tables_1 room_1 Calls_1 rest_1 Pre_1 launch0 p0 e0 about1 theMethod args0 below0 :=
  ⟨lists_1, trivial, launch0.admits_env _ _ _, launch0.least_env, fairChoices_fair.cas, fairChoices_fair.clock, w_frames, w_args, w_heap, w_applies, ⟨w_consts, trivial⟩, w_rest, w_case⟩
end start1
theorem witness_1 : WitnessClaimed_1 := ⟨start1.p0, start1.e0, start1.about1, start1.theMethod, start1.args0, start1.below0, start1.atStart⟩
end Jvm.Pilot.@@N@@
