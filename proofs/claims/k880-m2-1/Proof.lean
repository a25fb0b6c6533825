import JvmDerived
import JvmDerived.Pilot.@@N@@Statement
import JvmDerived.Pilot.@@N@@Code
set_option linter.unusedVariables false
set_option linter.unusedSimpArgs false
namespace Jvm.Pilot.@@N@@
open Jvm Jvm.ClassFile Sem Op Lib Jvm.Free Jvm.Stand Jvm.LawKit Jvm.RoadKit Bundle Jvm.Pilot.@@N@@.Jvm.D
/-! own kit: walks in continuation form -/
def Go (p : Program) (e : Env) (below : List Frame) (P : State → Outcome → Prop) (A : State) : Prop := ∃ t o, Steps p.tables e below A t ∧ t.status = .running ∧ Ended t below o ∧ P t o
/-- the facts on the body that is walked, which no step moves -/
def Bo (Z : State) (p : Program) (s : State) (m : MethodId) (meth : Method) (c : Code) (own nm : String) (bytes : ByteArray) (maxL : Nat) (ret : Option FieldType) : Prop :=
  p.tables.exec = Jvm.exec ∧ c.code = bytes ∧ c.maxLocals = maxL ∧ Z.Warmed39 s.vm ∧ s.vm.findClass own = some m.cls ∧ meth.name = nm ∧ meth.sig.returnType = ret ∧ meth.locks = false
/-- what an end must be -/
def EndsQ (s : State) (Q : Option Value → Heap → List Loc → Prop) (cc ss : Nat) : State → Outcome → Prop := fun t o => ∃ v L, o = .returned v ∧ Q v t.heap L ∧ FrameEnd s o t L cc ss
/-- a body's contract -/
def Ctr (l : Launch) (Z : State) (y : MethodName) (bytes : ByteArray) (maxL : Nat) (ret : Option FieldType) (rm : Room) (as : Array Value) (h0 : Heap) (Q : Option Value → Heap → List Loc → Prop) : Prop :=
  ∀ ws, MetFree l y (head1 (Jvm.Cond.code y bytes maxL ret :: ws) rm) (fun a U => a = as ∧ Z.Warmed39 U.vm ∧ U.heap = h0) (fun _ _ _ _ _ => True) (fun _ U o U' => ∃ v L, o = .returned v ∧ Q v U'.heap L ∧ FrameEnd U o U' L rm.cells rm.slots)
/-! own: an array whose whole contents are known -/
def Av (Z : State) (h : Heap) (a : Addr) (ty : FieldType) (vs : List Value) : Prop := ∃ c : Cell, Arr Z h a c ty ∧ c.slots.toList = vs
theorem Av.lt {Z : State} {h : Heap} {a : Addr} {ty : FieldType} {vs : List Value} (A : Av Z h a ty vs) : a < h.size := by obtain ⟨c, q, -⟩ := A; exact q.lt
theorem Av.ext {Z : State} {h h' : Heap} {a : Addr} {ty : FieldType} {vs : List Value} (A : Av Z h a ty vs) (E : Ext h h') : Av Z h' a ty vs := by obtain ⟨c, q, r⟩ := A; exact ⟨c, q.ext E, r⟩
theorem Av.other {Z : State} {h h' : Heap} {a b : Addr} {ty : FieldType} {vs : List Value} {sl : Nat} {v : Value} (A : Av Z h b ty vs) (W : Wr h h' a sl v) (q : b ≠ a) : Av Z h' b ty vs := by obtain ⟨c, q1, r⟩ := A; exact ⟨c, q1.other W q, r⟩
theorem Av.keep {Z : State} {h h' : Heap} {a : Addr} {ty : FieldType} {vs : List Value} {ws : List Addr} (A : Av Z h a ty vs) (K : Keep h h' ws) (q : a ∉ ws) : Av Z h' a ty vs := by obtain ⟨c, q1, r⟩ := A; exact ⟨c, ⟨K.2.1 a c q1.1 q, q1.2⟩, r⟩
theorem Av.set {Z : State} {h h' : Heap} {a : Addr} {ty : FieldType} {vs : List Value} {i : Nat} {v : Value} (A : Av Z h a ty vs) (W : Wr h h' a i v) : Av Z h' a ty (vs.set i v) := by
  obtain ⟨c, q, rfl⟩ := A
  exact ⟨_, q.same W, by simp [Cell.setSlot]⟩
theorem Av.inb {Z : State} {h : Heap} {a : Addr} {ty : FieldType} {vs : List Value} {c : Cell} (q : c.slots.toList = vs) {j : Int32} {i : Nat} (hi : j.toNatClampNeg = i) (h0 : ¬ j < 0) (hl : i < vs.length) : ¬ (j < 0 ∨ c.slots.size ≤ j.toNatClampNeg) := by
  subst q hi
  simp only [Array.length_toList] at hl
  exact fun z => z.elim h0 (fun w => absurd hl (Nat.not_lt.mpr w))
section OwnKit
variable {p : Program} {l : Launch} {e : Env} {R : Room} {s : State} {m : MethodId} {args : Array Value} {below : List Frame} {meth : Method} {c : Code} {T : State} {locs : List Loc} {cells slots : Nat} {Z : State} {a0 : Array Value} {h : Heap} {P : State → Outcome → Prop} {pc : Nat} {Ls : Array Slot} {st rest : List Value} {own nm : String} {bytes : ByteArray} {maxL : Nat} {ret : Option FieldType}
theorem Bo.x (B : Bo Z p s m meth c own nm bytes maxL ret) : p.tables.exec = Jvm.exec := B.1
theorem Bo.z (B : Bo Z p s m meth c own nm bytes maxL ret) : Z.Warmed39 s.vm := B.2.2.2.1
theorem Bo.o (B : Bo Z p s m meth c own nm bytes maxL ret) : s.vm.findClass own = some m.cls := B.2.2.2.2.1
theorem Bo.d (B : Bo Z p s m meth c own nm bytes maxL ret) {r : Except ClassFile.DecodeError (ClassFile.Instr × Nat)} (q : decode bytes pc = r) : decode c.code pc = r := hb B.2.1 q
theorem Bo.n (B : Bo Z p s m meth c own nm bytes maxL ret) : meth.name = nm := B.2.2.2.2.2.1
theorem Bo.r (B : Bo Z p s m meth c own nm bytes maxL ret) : meth.sig.returnType = ret := B.2.2.2.2.2.2.1
theorem Bo.lk (B : Bo Z p s m meth c own nm bytes maxL ret) : meth.locks = false := B.2.2.2.2.2.2.2
theorem Bo.mx (B : Bo Z p s m meth c own nm bytes maxL ret) (q : Ls.size = maxL) {pc : Nat} {st : List Value} : (mkF m pc Ls st).locals.size = c.maxLocals := by rw [B.2.2.1]; exact q
theorem Go.via {A A' : State} (q : ∀ t, Steps p.tables e below A' t → Steps p.tables e below A t) (g : Go p e below P A') : Go p e below P A := by
  obtain ⟨t, o, h1, h2⟩ := g
  exact ⟨t, o, q t h1, h2⟩
theorem Go.cast {f f' : JFrame} (q : f = f') (g : Go p e below P (T.setTop f')) : Go p e below P (T.setTop f) := q ▸ g
theorem Ctr.of {y : MethodName} {rm : Room} {as : Array Value} {h0 : Heap} {Q : Option Value → Heap → List Loc → Prop} (hn : plainFor y = true)
    (body : ∀ (p : Program) (e : Env) (s : State) (m : MethodId) (below : List Frame) (meth : Method) (c : Code) (T : State), Stand p l e rm s m as below meth c T [] 0 0 → Bo Z p s m meth c y.cls y.name bytes maxL ret → T.heap = h0 → Go p e below (EndsQ s Q rm.cells rm.slots) (T.setTop (entryFrame m as maxL))) :
    Ctr l Z y bytes maxL ret rm as h0 Q := by
  intro ws
  refine MetFree.of_bodySF hn hisR ?_
  intro p e s m args below meth c s₁ Bd hml0 hP hK
  obtain ⟨rfl, hZ, hh⟩ := hP
  exact body p e s m below meth c s₁ (Stand.of_body Bd) ⟨Bd.exec, Bd.bytes, hml0, hZ, findClass_of_methodNamed Bd.named, (name_of_methodNamed Bd.named Bd.method).1, Bd.returns, BodyLoose.notSynchronized Bd⟩ (by rw [← hh, Bd.state]; rfl)
theorem Ctr.back {y : MethodName} {rm : Room} {as : Array Value} {Q : Option Value → Heap → List Loc → Prop} {W len : Nat} (C : Ctr l Z y bytes maxL ret rm as h Q) (hZ : Z.Warmed39 s.vm) (wc : (Jvm.Cond.code y bytes maxL ret).before a0 Z = true) (wz : (Jvm.Cond.initialized y.cls).before a0 Z = true) (hf : rm.frames + 1 ≤ R.frames) (hl : W + (maxL + 11) + rm.locals ≤ R.locals) :
    Back l R p e below s args y len W (fun A a => a = as ∧ A.U.heap = h ∧ A.cells + rm.cells ≤ R.cells ∧ A.slots + rm.slots ≤ R.slots)
      (fun A _ v B => ∃ L, Q v B.U.heap L ∧ B.locs = A.locs ++ L ∧ B.cells = A.cells + rm.cells ∧ B.slots = A.slots + rm.slots) := backOf (C []) hZ wc wz hf hl
theorem g_iloadN (X : Stand p l e R s m args below meth c T locs cells slots) (B : Bo Z p s m meth c own nm bytes maxL ret) {k : Fin 4} {v : Int32} (q : decode bytes pc = .ok (.iload_n k, 1)) (pc' : Nat) (hp : pc + 1 = pc') (u : Ls[k.val]? = some (.val (.int v))) (g : Go p e below P (T.setTop (mkF m pc' Ls (.int v :: st)))) : Go p e below P (T.setTop (mkF m pc Ls st)) := by
  subst hp
  exact g.via fun _ => XS.iloadN X.here B.x rfl (B.d q) u
theorem g_iload (X : Stand p l e R s m args below meth c T locs cells slots) (B : Bo Z p s m meth c own nm bytes maxL ret) {k : Nat} {v : Int32} (q : decode bytes pc = .ok (.iload k, 2)) (pc' : Nat) (hp : pc + 2 = pc') (u : Ls[k]? = some (.val (.int v))) (g : Go p e below P (T.setTop (mkF m pc' Ls (.int v :: st)))) : Go p e below P (T.setTop (mkF m pc Ls st)) := by
  subst hp
  exact g.via fun _ => XS.iload X.here B.x rfl (B.d q) u
theorem g_aloadN (X : Stand p l e R s m args below meth c T locs cells slots) (B : Bo Z p s m meth c own nm bytes maxL ret) {k : Fin 4} {v : Value} (q : decode bytes pc = .ok (.aload_n k, 1)) (pc' : Nat) (hp : pc + 1 = pc') (u : Ls[k.val]? = some (.val v)) (i : v.isRef = true) (g : Go p e below P (T.setTop (mkF m pc' Ls (v :: st)))) : Go p e below P (T.setTop (mkF m pc Ls st)) := by
  subst hp
  exact g.via fun _ => XS.aloadN X.here B.x rfl (B.d q) u i
theorem g_aload (X : Stand p l e R s m args below meth c T locs cells slots) (B : Bo Z p s m meth c own nm bytes maxL ret) {k : Nat} {v : Value} (q : decode bytes pc = .ok (.aload k, 2)) (pc' : Nat) (hp : pc + 2 = pc') (u : Ls[k]? = some (.val v)) (i : v.isRef = true) (g : Go p e below P (T.setTop (mkF m pc' Ls (v :: st)))) : Go p e below P (T.setTop (mkF m pc Ls st)) := by
  subst hp
  exact g.via fun _ => XS.aload X.here B.x rfl (B.d q) u i
theorem g_lloadN (X : Stand p l e R s m args below meth c T locs cells slots) (B : Bo Z p s m meth c own nm bytes maxL ret) {k : Fin 4} {v : Int64} (q : decode bytes pc = .ok (.lload_n k, 1)) (pc' : Nat) (hp : pc + 1 = pc') (u : Ls[k.val]? = some (.val (.long v))) (g : Go p e below P (T.setTop (mkF m pc' Ls (.long v :: st)))) : Go p e below P (T.setTop (mkF m pc Ls st)) := by
  subst hp
  exact g.via fun _ => XT.lloadN X.here B.x rfl (B.d q) u
theorem g_lload (X : Stand p l e R s m args below meth c T locs cells slots) (B : Bo Z p s m meth c own nm bytes maxL ret) {k : Nat} {v : Int64} (q : decode bytes pc = .ok (.lload k, 2)) (pc' : Nat) (hp : pc + 2 = pc') (u : Ls[k]? = some (.val (.long v))) (g : Go p e below P (T.setTop (mkF m pc' Ls (.long v :: st)))) : Go p e below P (T.setTop (mkF m pc Ls st)) := by
  subst hp
  exact g.via fun _ => XT.lload X.here B.x rfl (B.d q) u
theorem g_istoreN (X : Stand p l e R s m args below meth c T locs cells slots) (B : Bo Z p s m meth c own nm bytes maxL ret) {k : Fin 4} {x : Int32} (l' : Array Slot) (q : decode bytes pc = .ok (.istore_n k, 1)) (pc' : Nat) (hp : pc + 1 = pc') (u : storeLocals Ls k.val (.int x) = some l') (g : Go p e below P (T.setTop (mkF m pc' l' st))) : Go p e below P (T.setTop (mkF m pc Ls (.int x :: st))) := by
  subst hp
  exact g.via fun _ => XS.istoreN X.here B.x rfl (B.d q) rfl u
theorem g_istore (X : Stand p l e R s m args below meth c T locs cells slots) (B : Bo Z p s m meth c own nm bytes maxL ret) {k : Nat} {x : Int32} (l' : Array Slot) (q : decode bytes pc = .ok (.istore k, 2)) (pc' : Nat) (hp : pc + 2 = pc') (u : storeLocals Ls k (.int x) = some l') (g : Go p e below P (T.setTop (mkF m pc' l' st))) : Go p e below P (T.setTop (mkF m pc Ls (.int x :: st))) := by
  subst hp
  exact g.via fun _ => XS.istore X.here B.x rfl (B.d q) rfl u
theorem g_astoreN (X : Stand p l e R s m args below meth c T locs cells slots) (B : Bo Z p s m meth c own nm bytes maxL ret) {k : Fin 4} {x : Value} (l' : Array Slot) (q : decode bytes pc = .ok (.astore_n k, 1)) (pc' : Nat) (hp : pc + 1 = pc') (i : x.isRef = true) (u : storeLocals Ls k.val x = some l') (g : Go p e below P (T.setTop (mkF m pc' l' st))) : Go p e below P (T.setTop (mkF m pc Ls (x :: st))) := by
  subst hp
  exact g.via fun _ => XS.astoreN X.here B.x rfl (B.d q) rfl i u
theorem g_astore (X : Stand p l e R s m args below meth c T locs cells slots) (B : Bo Z p s m meth c own nm bytes maxL ret) {k : Nat} {x : Value} (l' : Array Slot) (q : decode bytes pc = .ok (.astore k, 2)) (pc' : Nat) (hp : pc + 2 = pc') (i : x.isRef = true) (u : storeLocals Ls k x = some l') (g : Go p e below P (T.setTop (mkF m pc' l' st))) : Go p e below P (T.setTop (mkF m pc Ls (x :: st))) := by
  subst hp
  exact g.via fun _ => XS.astore X.here B.x rfl (B.d q) rfl i u
theorem g_lstoreN (X : Stand p l e R s m args below meth c T locs cells slots) (B : Bo Z p s m meth c own nm bytes maxL ret) {k : Fin 4} {x : Int64} (l' : Array Slot) (q : decode bytes pc = .ok (.lstore_n k, 1)) (pc' : Nat) (hp : pc + 1 = pc') (u : storeLocals Ls k.val (.long x) = some l') (g : Go p e below P (T.setTop (mkF m pc' l' st))) : Go p e below P (T.setTop (mkF m pc Ls (.long x :: st))) := by
  subst hp
  exact g.via fun _ => XT.lstoreN X.here B.x rfl (B.d q) rfl u
theorem g_lstore (X : Stand p l e R s m args below meth c T locs cells slots) (B : Bo Z p s m meth c own nm bytes maxL ret) {k : Nat} {x : Int64} (l' : Array Slot) (q : decode bytes pc = .ok (.lstore k, 2)) (pc' : Nat) (hp : pc + 2 = pc') (u : storeLocals Ls k (.long x) = some l') (g : Go p e below P (T.setTop (mkF m pc' l' st))) : Go p e below P (T.setTop (mkF m pc Ls (.long x :: st))) := by
  subst hp
  exact g.via fun _ => XT.lstore X.here B.x rfl (B.d q) rfl u
theorem g_iconst (X : Stand p l e R s m args below meth c T locs cells slots) (B : Bo Z p s m meth c own nm bytes maxL ret) {i : Int} (v : Int32) (q : decode bytes pc = .ok (.iconst i, 1)) (pc' : Nat) (hp : pc + 1 = pc') (u : Int32.ofInt i = v) (g : Go p e below P (T.setTop (mkF m pc' Ls (.int v :: st)))) : Go p e below P (T.setTop (mkF m pc Ls st)) := by
  subst hp
  exact g.via fun _ => XT.iconstV X.here B.x rfl v (B.d q) u
theorem g_bipush (X : Stand p l e R s m args below meth c T locs cells slots) (B : Bo Z p s m meth c own nm bytes maxL ret) {i : Int} (v : Int32) (q : decode bytes pc = .ok (.bipush i, 2)) (pc' : Nat) (hp : pc + 2 = pc') (u : (Int8.ofInt i).toInt32 = v) (g : Go p e below P (T.setTop (mkF m pc' Ls (.int v :: st)))) : Go p e below P (T.setTop (mkF m pc Ls st)) := by
  subst hp
  exact g.via fun _ => XT.bipushV X.here B.x rfl v (B.d q) u
theorem g_sipush (X : Stand p l e R s m args below meth c T locs cells slots) (B : Bo Z p s m meth c own nm bytes maxL ret) {i : Int} (v : Int32) (q : decode bytes pc = .ok (.sipush i, 3)) (pc' : Nat) (hp : pc + 3 = pc') (u : (Int16.ofInt i).toInt32 = v) (g : Go p e below P (T.setTop (mkF m pc' Ls (.int v :: st)))) : Go p e below P (T.setTop (mkF m pc Ls st)) := by
  subst hp
  exact g.via fun _ => XT.sipushV X.here B.x rfl v (B.d q) u
theorem g_lconst (X : Stand p l e R s m args below meth c T locs cells slots) (B : Bo Z p s m meth c own nm bytes maxL ret) {k : Fin 2} (v : Int64) (q : decode bytes pc = .ok (.lconst k, 1)) (pc' : Nat) (hp : pc + 1 = pc') (u : Int64.ofNat k = v) (g : Go p e below P (T.setTop (mkF m pc' Ls (.long v :: st)))) : Go p e below P (T.setTop (mkF m pc Ls st)) := by
  subst hp
  exact g.via fun _ => XT.lconstV X.here B.x rfl v (B.d q) u
theorem g_aconstNull (X : Stand p l e R s m args below meth c T locs cells slots) (B : Bo Z p s m meth c own nm bytes maxL ret)  (q : decode bytes pc = .ok (.aconst_null, 1)) (pc' : Nat) (hp : pc + 1 = pc')  (g : Go p e below P (T.setTop (mkF m pc' Ls (.null :: st)))) : Go p e below P (T.setTop (mkF m pc Ls st)) := by
  subst hp
  exact g.via fun _ => XS.aconstNull X.here B.x rfl (B.d q)
theorem g_iadd (X : Stand p l e R s m args below meth c T locs cells slots) (B : Bo Z p s m meth c own nm bytes maxL ret) {x y : Int32} (q : decode bytes pc = .ok (.iadd, 1)) (pc' : Nat) (hp : pc + 1 = pc')  (g : Go p e below P (T.setTop (mkF m pc' Ls (.int (x + y) :: st)))) : Go p e below P (T.setTop (mkF m pc Ls (.int y :: .int x :: st))) := by
  subst hp
  exact g.via fun _ => XS.iadd X.here B.x rfl (B.d q) rfl
theorem g_isub (X : Stand p l e R s m args below meth c T locs cells slots) (B : Bo Z p s m meth c own nm bytes maxL ret) {x y : Int32} (q : decode bytes pc = .ok (.isub, 1)) (pc' : Nat) (hp : pc + 1 = pc')  (g : Go p e below P (T.setTop (mkF m pc' Ls (.int (x - y) :: st)))) : Go p e below P (T.setTop (mkF m pc Ls (.int y :: .int x :: st))) := by
  subst hp
  exact g.via fun _ => XS.isub X.here B.x rfl (B.d q) rfl
theorem g_imul (X : Stand p l e R s m args below meth c T locs cells slots) (B : Bo Z p s m meth c own nm bytes maxL ret) {x y : Int32} (q : decode bytes pc = .ok (.imul, 1)) (pc' : Nat) (hp : pc + 1 = pc')  (g : Go p e below P (T.setTop (mkF m pc' Ls (.int (x * y) :: st)))) : Go p e below P (T.setTop (mkF m pc Ls (.int y :: .int x :: st))) := by
  subst hp
  exact g.via fun _ => XS.imul X.here B.x rfl (B.d q) rfl
theorem g_iand (X : Stand p l e R s m args below meth c T locs cells slots) (B : Bo Z p s m meth c own nm bytes maxL ret) {x y : Int32} (q : decode bytes pc = .ok (.iand, 1)) (pc' : Nat) (hp : pc + 1 = pc')  (g : Go p e below P (T.setTop (mkF m pc' Ls (.int (x &&& y) :: st)))) : Go p e below P (T.setTop (mkF m pc Ls (.int y :: .int x :: st))) := by
  subst hp
  exact g.via fun _ => XS.iand X.here B.x rfl (B.d q) rfl
theorem g_ixor (X : Stand p l e R s m args below meth c T locs cells slots) (B : Bo Z p s m meth c own nm bytes maxL ret) {x y : Int32} (q : decode bytes pc = .ok (.ixor, 1)) (pc' : Nat) (hp : pc + 1 = pc')  (g : Go p e below P (T.setTop (mkF m pc' Ls (.int (x ^^^ y) :: st)))) : Go p e below P (T.setTop (mkF m pc Ls (.int y :: .int x :: st))) := by
  subst hp
  exact g.via fun _ => XT.ixor X.here B.x rfl (B.d q) rfl
theorem g_ior (X : Stand p l e R s m args below meth c T locs cells slots) (B : Bo Z p s m meth c own nm bytes maxL ret) {x y : Int32} (q : decode bytes pc = .ok (.ior, 1)) (pc' : Nat) (hp : pc + 1 = pc')  (g : Go p e below P (T.setTop (mkF m pc' Ls (.int (x ||| y) :: st)))) : Go p e below P (T.setTop (mkF m pc Ls (.int y :: .int x :: st))) := by
  subst hp
  exact g.via fun _ => XT.ior X.here B.x rfl (B.d q) rfl
theorem g_ishl (X : Stand p l e R s m args below meth c T locs cells slots) (B : Bo Z p s m meth c own nm bytes maxL ret) {x y : Int32} (q : decode bytes pc = .ok (.ishl, 1)) (pc' : Nat) (hp : pc + 1 = pc')  (g : Go p e below P (T.setTop (mkF m pc' Ls (.int (x <<< (y &&& 31)) :: st)))) : Go p e below P (T.setTop (mkF m pc Ls (.int y :: .int x :: st))) := by
  subst hp
  exact g.via fun _ => XT.ishl X.here B.x rfl (B.d q) rfl
theorem g_ishr (X : Stand p l e R s m args below meth c T locs cells slots) (B : Bo Z p s m meth c own nm bytes maxL ret) {x y : Int32} (q : decode bytes pc = .ok (.ishr, 1)) (pc' : Nat) (hp : pc + 1 = pc')  (g : Go p e below P (T.setTop (mkF m pc' Ls (.int (x >>> (y &&& 31)) :: st)))) : Go p e below P (T.setTop (mkF m pc Ls (.int y :: .int x :: st))) := by
  subst hp
  exact g.via fun _ => XT.ishr X.here B.x rfl (B.d q) rfl
theorem g_iushr (X : Stand p l e R s m args below meth c T locs cells slots) (B : Bo Z p s m meth c own nm bytes maxL ret) {x y : Int32} (q : decode bytes pc = .ok (.iushr, 1)) (pc' : Nat) (hp : pc + 1 = pc')  (g : Go p e below P (T.setTop (mkF m pc' Ls (.int (XT.ushr x y) :: st)))) : Go p e below P (T.setTop (mkF m pc Ls (.int y :: .int x :: st))) := by
  subst hp
  exact g.via fun _ => XT.iushr X.here B.x rfl (B.d q) rfl
theorem g_idiv (X : Stand p l e R s m args below meth c T locs cells slots) (B : Bo Z p s m meth c own nm bytes maxL ret) {x y : Int32} (q : decode bytes pc = .ok (.idiv, 1)) (pc' : Nat) (hp : pc + 1 = pc') (u : y ≠ 0) (g : Go p e below P (T.setTop (mkF m pc' Ls (.int (x / y) :: st)))) : Go p e below P (T.setTop (mkF m pc Ls (.int y :: .int x :: st))) := by
  subst hp
  exact g.via fun _ => XS.idiv X.here B.x rfl (B.d q) rfl u
theorem g_irem (X : Stand p l e R s m args below meth c T locs cells slots) (B : Bo Z p s m meth c own nm bytes maxL ret) {x y : Int32} (q : decode bytes pc = .ok (.irem, 1)) (pc' : Nat) (hp : pc + 1 = pc') (u : y ≠ 0) (g : Go p e below P (T.setTop (mkF m pc' Ls (.int (x % y) :: st)))) : Go p e below P (T.setTop (mkF m pc Ls (.int y :: .int x :: st))) := by
  subst hp
  exact g.via fun _ => iremM X B.x rfl (B.d q) rfl u
theorem g_ineg (X : Stand p l e R s m args below meth c T locs cells slots) (B : Bo Z p s m meth c own nm bytes maxL ret) {x : Int32} (q : decode bytes pc = .ok (.ineg, 1)) (pc' : Nat) (hp : pc + 1 = pc')  (g : Go p e below P (T.setTop (mkF m pc' Ls (.int (-x) :: st)))) : Go p e below P (T.setTop (mkF m pc Ls (.int x :: st))) := by
  subst hp
  exact g.via fun _ => XS.ineg X.here B.x rfl (B.d q) rfl
theorem g_iinc (X : Stand p l e R s m args below meth c T locs cells slots) (B : Bo Z p s m meth c own nm bytes maxL ret) {k : Nat} {cst : Int} {x : Int32} (l' : Array Slot) (v : Int32) (q : decode bytes pc = .ok (.iinc k cst, 3)) (pc' : Nat) (hp : pc + 3 = pc') (w : Int32.ofInt cst = v) (u : Ls[k]? = some (.val (.int x))) (u2 : storeLocals Ls k (.int (x + v)) = some l') (g : Go p e below P (T.setTop (mkF m pc' l' st))) : Go p e below P (T.setTop (mkF m pc Ls st)) := by
  subst hp
  exact g.via fun _ => XT.iincV X.here B.x rfl v (B.d q) w u u2
theorem g_ladd (X : Stand p l e R s m args below meth c T locs cells slots) (B : Bo Z p s m meth c own nm bytes maxL ret) {x y : Int64} (q : decode bytes pc = .ok (.ladd, 1)) (pc' : Nat) (hp : pc + 1 = pc')  (g : Go p e below P (T.setTop (mkF m pc' Ls (.long (x + y) :: st)))) : Go p e below P (T.setTop (mkF m pc Ls (.long y :: .long x :: st))) := by
  subst hp
  exact g.via fun _ => XT.ladd X.here B.x rfl (B.d q) rfl
theorem g_lsub (X : Stand p l e R s m args below meth c T locs cells slots) (B : Bo Z p s m meth c own nm bytes maxL ret) {x y : Int64} (q : decode bytes pc = .ok (.lsub, 1)) (pc' : Nat) (hp : pc + 1 = pc')  (g : Go p e below P (T.setTop (mkF m pc' Ls (.long (x - y) :: st)))) : Go p e below P (T.setTop (mkF m pc Ls (.long y :: .long x :: st))) := by
  subst hp
  exact g.via fun _ => XT.lsub X.here B.x rfl (B.d q) rfl
theorem g_land (X : Stand p l e R s m args below meth c T locs cells slots) (B : Bo Z p s m meth c own nm bytes maxL ret) {x y : Int64} (q : decode bytes pc = .ok (.land, 1)) (pc' : Nat) (hp : pc + 1 = pc')  (g : Go p e below P (T.setTop (mkF m pc' Ls (.long (x &&& y) :: st)))) : Go p e below P (T.setTop (mkF m pc Ls (.long y :: .long x :: st))) := by
  subst hp
  exact g.via fun _ => XT.land X.here B.x rfl (B.d q) rfl
theorem g_lor (X : Stand p l e R s m args below meth c T locs cells slots) (B : Bo Z p s m meth c own nm bytes maxL ret) {x y : Int64} (q : decode bytes pc = .ok (.lor, 1)) (pc' : Nat) (hp : pc + 1 = pc')  (g : Go p e below P (T.setTop (mkF m pc' Ls (.long (x ||| y) :: st)))) : Go p e below P (T.setTop (mkF m pc Ls (.long y :: .long x :: st))) := by
  subst hp
  exact g.via fun _ => XT.lor X.here B.x rfl (B.d q) rfl
theorem g_lxor (X : Stand p l e R s m args below meth c T locs cells slots) (B : Bo Z p s m meth c own nm bytes maxL ret) {x y : Int64} (q : decode bytes pc = .ok (.lxor, 1)) (pc' : Nat) (hp : pc + 1 = pc')  (g : Go p e below P (T.setTop (mkF m pc' Ls (.long (x ^^^ y) :: st)))) : Go p e below P (T.setTop (mkF m pc Ls (.long y :: .long x :: st))) := by
  subst hp
  exact g.via fun _ => XT.lxor X.here B.x rfl (B.d q) rfl
theorem g_lmul (X : Stand p l e R s m args below meth c T locs cells slots) (B : Bo Z p s m meth c own nm bytes maxL ret) {x y : Int64} (q : decode bytes pc = .ok (.lmul, 1)) (pc' : Nat) (hp : pc + 1 = pc')  (g : Go p e below P (T.setTop (mkF m pc' Ls (.long (x * y) :: st)))) : Go p e below P (T.setTop (mkF m pc Ls (.long y :: .long x :: st))) := by
  subst hp
  exact g.via fun _ => XT.lmul X.here B.x rfl (B.d q) rfl
theorem g_dup (X : Stand p l e R s m args below meth c T locs cells slots) (B : Bo Z p s m meth c own nm bytes maxL ret) {x : Value} (q : decode bytes pc = .ok (.dup, 1)) (pc' : Nat) (hp : pc + 1 = pc') (u : x.category = 1) (g : Go p e below P (T.setTop (mkF m pc' Ls (x :: x :: st)))) : Go p e below P (T.setTop (mkF m pc Ls (x :: st))) := by
  subst hp
  exact g.via fun _ => XS.dup X.here B.x rfl (B.d q) rfl u
theorem g_pop (X : Stand p l e R s m args below meth c T locs cells slots) (B : Bo Z p s m meth c own nm bytes maxL ret) {x : Value} (q : decode bytes pc = .ok (.pop, 1)) (pc' : Nat) (hp : pc + 1 = pc') (u : x.category = 1) (g : Go p e below P (T.setTop (mkF m pc' Ls st))) : Go p e below P (T.setTop (mkF m pc Ls (x :: st))) := by
  subst hp
  exact g.via fun _ => XT.pop X.here B.x rfl (B.d q) rfl u
theorem g_goto (X : Stand p l e R s m args below meth c T locs cells slots) (B : Bo Z p s m meth c own nm bytes maxL ret) {o : Int} (q : decode bytes pc = .ok (.goto o, 3)) (pc' : Nat) (hp : ((pc : Int) + o).toNat = pc') (ho : 0 ≤ (pc : Int) + o) (g : Go p e below P (T.setTop (mkF m pc' Ls st))) : Go p e below P (T.setTop (mkF m pc Ls st)) := g.via fun _ => XS.goto X.here B.x rfl rfl (B.d q) ho hp
theorem g_icmp_eq (X : Stand p l e R s m args below meth c T locs cells slots) (B : Bo Z p s m meth c own nm bytes maxL ret) {o : Int} {x y : Int32} (q : decode bytes pc = .ok (.if_icmp .eq o, 3)) (pt pf : Nat) (hp : ((pc : Int) + o).toNat = pt) (ho : 0 ≤ (pc : Int) + o) (hf : pc + 3 = pf) (g1 : x = y → Go p e below P (T.setTop (mkF m pt Ls st))) (g2 : ¬ x = y → Go p e below P (T.setTop (mkF m pf Ls st))) : Go p e below P (T.setTop (mkF m pc Ls (.int y :: .int x :: st))) := by
  subst hf
  by_cases w : x = y
  · exact (g1 w).via fun _ => XS.icmpYes X.here B.x rfl rfl (B.d q) rfl (by simp [if_icmp.holds, w, Int32.not_lt, Int32.not_le]) ho hp
  · exact (g2 w).via fun _ => XS.icmpNo X.here B.x rfl (B.d q) rfl (by simp [if_icmp.holds, w, Int32.not_lt, Int32.not_le])
theorem g_icmp_ne (X : Stand p l e R s m args below meth c T locs cells slots) (B : Bo Z p s m meth c own nm bytes maxL ret) {o : Int} {x y : Int32} (q : decode bytes pc = .ok (.if_icmp .ne o, 3)) (pt pf : Nat) (hp : ((pc : Int) + o).toNat = pt) (ho : 0 ≤ (pc : Int) + o) (hf : pc + 3 = pf) (g1 : ¬ x = y → Go p e below P (T.setTop (mkF m pt Ls st))) (g2 : x = y → Go p e below P (T.setTop (mkF m pf Ls st))) : Go p e below P (T.setTop (mkF m pc Ls (.int y :: .int x :: st))) := by
  subst hf
  by_cases w : x = y
  · exact (g2 w).via fun _ => XS.icmpNo X.here B.x rfl (B.d q) rfl (by simp [if_icmp.holds, w, Int32.not_lt, Int32.not_le])
  · exact (g1 w).via fun _ => XS.icmpYes X.here B.x rfl rfl (B.d q) rfl (by simpa [if_icmp.holds, Int32.not_lt, Int32.not_le] using w) ho hp
theorem g_icmp_lt (X : Stand p l e R s m args below meth c T locs cells slots) (B : Bo Z p s m meth c own nm bytes maxL ret) {o : Int} {x y : Int32} (q : decode bytes pc = .ok (.if_icmp .lt o, 3)) (pt pf : Nat) (hp : ((pc : Int) + o).toNat = pt) (ho : 0 ≤ (pc : Int) + o) (hf : pc + 3 = pf) (g1 : x < y → Go p e below P (T.setTop (mkF m pt Ls st))) (g2 : ¬ x < y → Go p e below P (T.setTop (mkF m pf Ls st))) : Go p e below P (T.setTop (mkF m pc Ls (.int y :: .int x :: st))) := by
  subst hf
  by_cases w : x < y
  · exact (g1 w).via fun _ => XS.icmpYes X.here B.x rfl rfl (B.d q) rfl (by simp [if_icmp.holds, w, Int32.not_lt, Int32.not_le]) ho hp
  · exact (g2 w).via fun _ => XS.icmpNo X.here B.x rfl (B.d q) rfl (by simp [if_icmp.holds, w, Int32.not_lt, Int32.not_le])
theorem g_icmp_ge (X : Stand p l e R s m args below meth c T locs cells slots) (B : Bo Z p s m meth c own nm bytes maxL ret) {o : Int} {x y : Int32} (q : decode bytes pc = .ok (.if_icmp .ge o, 3)) (pt pf : Nat) (hp : ((pc : Int) + o).toNat = pt) (ho : 0 ≤ (pc : Int) + o) (hf : pc + 3 = pf) (g1 : ¬ x < y → Go p e below P (T.setTop (mkF m pt Ls st))) (g2 : x < y → Go p e below P (T.setTop (mkF m pf Ls st))) : Go p e below P (T.setTop (mkF m pc Ls (.int y :: .int x :: st))) := by
  subst hf
  by_cases w : x < y
  · exact (g2 w).via fun _ => XS.icmpNo X.here B.x rfl (B.d q) rfl (by simp [if_icmp.holds, w, Int32.not_lt, Int32.not_le])
  · exact (g1 w).via fun _ => XS.icmpYes X.here B.x rfl rfl (B.d q) rfl (by simpa [if_icmp.holds, Int32.not_lt, Int32.not_le] using w) ho hp
theorem g_icmp_gt (X : Stand p l e R s m args below meth c T locs cells slots) (B : Bo Z p s m meth c own nm bytes maxL ret) {o : Int} {x y : Int32} (q : decode bytes pc = .ok (.if_icmp .gt o, 3)) (pt pf : Nat) (hp : ((pc : Int) + o).toNat = pt) (ho : 0 ≤ (pc : Int) + o) (hf : pc + 3 = pf) (g1 : y < x → Go p e below P (T.setTop (mkF m pt Ls st))) (g2 : ¬ y < x → Go p e below P (T.setTop (mkF m pf Ls st))) : Go p e below P (T.setTop (mkF m pc Ls (.int y :: .int x :: st))) := by
  subst hf
  by_cases w : y < x
  · exact (g1 w).via fun _ => XS.icmpYes X.here B.x rfl rfl (B.d q) rfl (by simp [if_icmp.holds, w, Int32.not_lt, Int32.not_le]) ho hp
  · exact (g2 w).via fun _ => XS.icmpNo X.here B.x rfl (B.d q) rfl (by simp [if_icmp.holds, w, Int32.not_lt, Int32.not_le])
theorem g_icmp_le (X : Stand p l e R s m args below meth c T locs cells slots) (B : Bo Z p s m meth c own nm bytes maxL ret) {o : Int} {x y : Int32} (q : decode bytes pc = .ok (.if_icmp .le o, 3)) (pt pf : Nat) (hp : ((pc : Int) + o).toNat = pt) (ho : 0 ≤ (pc : Int) + o) (hf : pc + 3 = pf) (g1 : ¬ y < x → Go p e below P (T.setTop (mkF m pt Ls st))) (g2 : y < x → Go p e below P (T.setTop (mkF m pf Ls st))) : Go p e below P (T.setTop (mkF m pc Ls (.int y :: .int x :: st))) := by
  subst hf
  by_cases w : y < x
  · exact (g2 w).via fun _ => XS.icmpNo X.here B.x rfl (B.d q) rfl (by simp [if_icmp.holds, w, Int32.not_lt, Int32.not_le])
  · exact (g1 w).via fun _ => XS.icmpYes X.here B.x rfl rfl (B.d q) rfl (by simpa [if_icmp.holds, Int32.not_lt, Int32.not_le] using w) ho hp
theorem g_if_eq (X : Stand p l e R s m args below meth c T locs cells slots) (B : Bo Z p s m meth c own nm bytes maxL ret) {o : Int} {x : Int32} (q : decode bytes pc = .ok (.ifCond .eq o, 3)) (pt pf : Nat) (hp : ((pc : Int) + o).toNat = pt) (ho : 0 ≤ (pc : Int) + o) (hf : pc + 3 = pf) (g1 : x = 0 → Go p e below P (T.setTop (mkF m pt Ls st))) (g2 : ¬ x = 0 → Go p e below P (T.setTop (mkF m pf Ls st))) : Go p e below P (T.setTop (mkF m pc Ls (.int x :: st))) := by
  subst hf
  by_cases w : x = 0
  · exact (g1 w).via fun _ => XS.ifYes X.here B.x rfl rfl (B.d q) rfl (by simp [ifCond.holds, w, Int32.not_lt, Int32.not_le]) ho hp
  · exact (g2 w).via fun _ => XS.ifNo X.here B.x rfl (B.d q) rfl (by simp [ifCond.holds, w, Int32.not_lt, Int32.not_le])
theorem g_if_ne (X : Stand p l e R s m args below meth c T locs cells slots) (B : Bo Z p s m meth c own nm bytes maxL ret) {o : Int} {x : Int32} (q : decode bytes pc = .ok (.ifCond .ne o, 3)) (pt pf : Nat) (hp : ((pc : Int) + o).toNat = pt) (ho : 0 ≤ (pc : Int) + o) (hf : pc + 3 = pf) (g1 : ¬ x = 0 → Go p e below P (T.setTop (mkF m pt Ls st))) (g2 : x = 0 → Go p e below P (T.setTop (mkF m pf Ls st))) : Go p e below P (T.setTop (mkF m pc Ls (.int x :: st))) := by
  subst hf
  by_cases w : x = 0
  · exact (g2 w).via fun _ => XS.ifNo X.here B.x rfl (B.d q) rfl (by simp [ifCond.holds, w, Int32.not_lt, Int32.not_le])
  · exact (g1 w).via fun _ => XS.ifYes X.here B.x rfl rfl (B.d q) rfl (by simpa [ifCond.holds, Int32.not_lt, Int32.not_le] using w) ho hp
theorem g_if_lt (X : Stand p l e R s m args below meth c T locs cells slots) (B : Bo Z p s m meth c own nm bytes maxL ret) {o : Int} {x : Int32} (q : decode bytes pc = .ok (.ifCond .lt o, 3)) (pt pf : Nat) (hp : ((pc : Int) + o).toNat = pt) (ho : 0 ≤ (pc : Int) + o) (hf : pc + 3 = pf) (g1 : x < 0 → Go p e below P (T.setTop (mkF m pt Ls st))) (g2 : ¬ x < 0 → Go p e below P (T.setTop (mkF m pf Ls st))) : Go p e below P (T.setTop (mkF m pc Ls (.int x :: st))) := by
  subst hf
  by_cases w : x < 0
  · exact (g1 w).via fun _ => XS.ifYes X.here B.x rfl rfl (B.d q) rfl (by simp [ifCond.holds, w, Int32.not_lt, Int32.not_le]) ho hp
  · exact (g2 w).via fun _ => XS.ifNo X.here B.x rfl (B.d q) rfl (by simp [ifCond.holds, w, Int32.not_lt, Int32.not_le])
theorem g_if_ge (X : Stand p l e R s m args below meth c T locs cells slots) (B : Bo Z p s m meth c own nm bytes maxL ret) {o : Int} {x : Int32} (q : decode bytes pc = .ok (.ifCond .ge o, 3)) (pt pf : Nat) (hp : ((pc : Int) + o).toNat = pt) (ho : 0 ≤ (pc : Int) + o) (hf : pc + 3 = pf) (g1 : ¬ x < 0 → Go p e below P (T.setTop (mkF m pt Ls st))) (g2 : x < 0 → Go p e below P (T.setTop (mkF m pf Ls st))) : Go p e below P (T.setTop (mkF m pc Ls (.int x :: st))) := by
  subst hf
  by_cases w : x < 0
  · exact (g2 w).via fun _ => XS.ifNo X.here B.x rfl (B.d q) rfl (by simp [ifCond.holds, w, Int32.not_lt, Int32.not_le])
  · exact (g1 w).via fun _ => XS.ifYes X.here B.x rfl rfl (B.d q) rfl (by simpa [ifCond.holds, Int32.not_lt, Int32.not_le] using w) ho hp
theorem g_if_gt (X : Stand p l e R s m args below meth c T locs cells slots) (B : Bo Z p s m meth c own nm bytes maxL ret) {o : Int} {x : Int32} (q : decode bytes pc = .ok (.ifCond .gt o, 3)) (pt pf : Nat) (hp : ((pc : Int) + o).toNat = pt) (ho : 0 ≤ (pc : Int) + o) (hf : pc + 3 = pf) (g1 : 0 < x → Go p e below P (T.setTop (mkF m pt Ls st))) (g2 : ¬ 0 < x → Go p e below P (T.setTop (mkF m pf Ls st))) : Go p e below P (T.setTop (mkF m pc Ls (.int x :: st))) := by
  subst hf
  by_cases w : 0 < x
  · exact (g1 w).via fun _ => XS.ifYes X.here B.x rfl rfl (B.d q) rfl (by simp [ifCond.holds, w, Int32.not_lt, Int32.not_le]) ho hp
  · exact (g2 w).via fun _ => XS.ifNo X.here B.x rfl (B.d q) rfl (by simp [ifCond.holds, w, Int32.not_lt, Int32.not_le])
theorem g_if_le (X : Stand p l e R s m args below meth c T locs cells slots) (B : Bo Z p s m meth c own nm bytes maxL ret) {o : Int} {x : Int32} (q : decode bytes pc = .ok (.ifCond .le o, 3)) (pt pf : Nat) (hp : ((pc : Int) + o).toNat = pt) (ho : 0 ≤ (pc : Int) + o) (hf : pc + 3 = pf) (g1 : ¬ 0 < x → Go p e below P (T.setTop (mkF m pt Ls st))) (g2 : 0 < x → Go p e below P (T.setTop (mkF m pf Ls st))) : Go p e below P (T.setTop (mkF m pc Ls (.int x :: st))) := by
  subst hf
  by_cases w : 0 < x
  · exact (g2 w).via fun _ => XS.ifNo X.here B.x rfl (B.d q) rfl (by simp [ifCond.holds, w, Int32.not_lt, Int32.not_le])
  · exact (g1 w).via fun _ => XS.ifYes X.here B.x rfl rfl (B.d q) rfl (by simpa [ifCond.holds, Int32.not_lt, Int32.not_le] using w) ho hp
theorem g_acmp_eq (X : Stand p l e R s m args below meth c T locs cells slots) (B : Bo Z p s m meth c own nm bytes maxL ret) {o : Int} {x y : Value} (q : decode bytes pc = .ok (.if_acmp .eq o, 3)) (pt pf : Nat) (hp : ((pc : Int) + o).toNat = pt) (ho : 0 ≤ (pc : Int) + o) (hf : pc + 3 = pf) (i : x.isRef = true) (j : y.isRef = true) (g1 : x = y → Go p e below P (T.setTop (mkF m pt Ls st))) (g2 : ¬ x = y → Go p e below P (T.setTop (mkF m pf Ls st))) : Go p e below P (T.setTop (mkF m pc Ls (y :: x :: st))) := by
  subst hf
  by_cases w : x = y
  · exact (g1 w).via fun _ => XT.acmpYes X.here B.x rfl rfl (B.d q) rfl i j (by simp [XT.acmp, w]) ho hp
  · exact (g2 w).via fun _ => XT.acmpNo X.here B.x rfl (B.d q) rfl i j (by simp [XT.acmp, w])
theorem g_acmp_ne (X : Stand p l e R s m args below meth c T locs cells slots) (B : Bo Z p s m meth c own nm bytes maxL ret) {o : Int} {x y : Value} (q : decode bytes pc = .ok (.if_acmp .ne o, 3)) (pt pf : Nat) (hp : ((pc : Int) + o).toNat = pt) (ho : 0 ≤ (pc : Int) + o) (hf : pc + 3 = pf) (i : x.isRef = true) (j : y.isRef = true) (g1 : ¬ x = y → Go p e below P (T.setTop (mkF m pt Ls st))) (g2 : x = y → Go p e below P (T.setTop (mkF m pf Ls st))) : Go p e below P (T.setTop (mkF m pc Ls (y :: x :: st))) := by
  subst hf
  by_cases w : x = y
  · exact (g2 w).via fun _ => XT.acmpNo X.here B.x rfl (B.d q) rfl i j (by simp [XT.acmp, w])
  · exact (g1 w).via fun _ => XT.acmpYes X.here B.x rfl rfl (B.d q) rfl i j (by simp [XT.acmp, w]) ho hp
theorem g_ifnull (X : Stand p l e R s m args below meth c T locs cells slots) (B : Bo Z p s m meth c own nm bytes maxL ret) {o : Int} {v : Value} (q : decode bytes pc = .ok (.ifnull o, 3)) (pt pf : Nat) (hp : ((pc : Int) + o).toNat = pt) (ho : 0 ≤ (pc : Int) + o) (hf : pc + 3 = pf) (i : v.isRef = true) (g1 : v = .null → Go p e below P (T.setTop (mkF m pt Ls st))) (g2 : ¬ v = .null → Go p e below P (T.setTop (mkF m pf Ls st))) : Go p e below P (T.setTop (mkF m pc Ls (v :: st))) := by
  subst hf
  by_cases w : v = .null
  · exact (g1 w).via fun _ => XT.nullYes X.here B.x rfl rfl (B.d q) rfl w ho hp
  · exact (g2 w).via fun _ => XT.nullNo X.here B.x rfl (B.d q) rfl i w
theorem g_ifnonnull (X : Stand p l e R s m args below meth c T locs cells slots) (B : Bo Z p s m meth c own nm bytes maxL ret) {o : Int} {v : Value} (q : decode bytes pc = .ok (.ifnonnull o, 3)) (pt pf : Nat) (hp : ((pc : Int) + o).toNat = pt) (ho : 0 ≤ (pc : Int) + o) (hf : pc + 3 = pf) (i : v.isRef = true) (g1 : ¬ v = .null → Go p e below P (T.setTop (mkF m pt Ls st))) (g2 : v = .null → Go p e below P (T.setTop (mkF m pf Ls st))) : Go p e below P (T.setTop (mkF m pc Ls (v :: st))) := by
  subst hf
  by_cases w : v = .null
  · exact (g2 w).via fun _ => XT.nonnullNo X.here B.x rfl (B.d q) rfl w
  · exact (g1 w).via fun _ => XT.nonnullYes X.here B.x rfl rfl (B.d q) rfl i w ho hp
theorem g_tsw (X : Stand p l e R s m args below meth c T locs cells slots) (B : Bo Z p s m meth c own nm bytes maxL ret) {dflt low high : Int} {offs : Array Int} {len : Nat} {i : Int32} (o : Int) (q : decode bytes pc = .ok (.tableswitch dflt low high offs, len)) (pc' : Nat) (hin : ¬ (i.toInt < low ∨ i.toInt > high)) (hoff : offs[(i.toInt - low).toNat]? = some o) (ho : 0 ≤ (pc : Int) + o) (hp : ((pc : Int) + o).toNat = pc') (g : Go p e below P (T.setTop (mkF m pc' Ls st))) : Go p e below P (T.setTop (mkF m pc Ls (.int i :: st))) := g.via fun t => XS.tswIn (target := t) (g := mkF m pc Ls (.int i :: st)) (pc0 := pc) (pc' := pc') X.here B.x rfl rfl (B.d q) rfl hin hoff ho hp
theorem g_ldcI (X : Stand p l e R s m args below meth c T locs cells slots) (B : Bo Z p s m meth c own nm bytes maxL ret) {index : Nat} {v : Int32} (q : decode bytes pc = .ok (.ldc index, 2)) (pc' : Nat) (hp : pc + 2 = pc') (w : (Jvm.Cond.constant own index v).before a0 Z = true) (g : Go p e below P (T.setTop (mkF m pc' Ls (.int v :: st)))) : Go p e below P (T.setTop (mkF m pc Ls st)) := by
  subst hp
  exact g.via fun _ => X.ldcI B.x B.o (mvT B.z w) rfl (B.d q)
theorem g_getS (X : Stand p l e R s m args below meth c T locs cells slots) (B : Bo Z p s m meth c own nm bytes maxL ret) {R0 O n d : String} {index : Nat} {v : Value} (q : decode bytes pc = .ok (.getstatic index, 3)) (pc' : Nat) (hp : pc + 3 = pc') (w : (Jvm.Cond.fieldLink own index R0 n d).before a0 Z = true) (via : Via Z R0 O n d) (eT : T.heap = h) (F : Sta Z h O n d v) (k : ∀ T', Stand p l e R s m args below meth c T' locs cells slots → T'.heap = h → Go p e below P (T'.setTop (mkF m pc' Ls (v :: st)))) : Go p e below P (T.setTop (mkF m pc Ls st)) := by
  subst hp
  obtain ⟨T', X', e', q'⟩ := getS (host := "") X B.x B.z B.o w via eT F (g := mkF m pc Ls st) rfl (B.d q)
  exact (k T' X' e').via q'
theorem g_getF (X : Stand p l e R s m args below meth c T locs cells slots) (B : Bo Z p s m meth c own nm bytes maxL ret) {R0 O n d : String} {index : Nat} {a : Addr} {v : Value} (q : decode bytes pc = .ok (.getfield index, 3)) (pc' : Nat) (hp : pc + 3 = pc') (w : (Jvm.Cond.fieldLink own index R0 n d).before a0 Z = true) (via : Via Z R0 O n d) (eT : T.heap = h) (F : Fld Z h a O n d v) (k : ∀ T', Stand p l e R s m args below meth c T' locs cells slots → T'.heap = h → Go p e below P (T'.setTop (mkF m pc' Ls (v :: st)))) : Go p e below P (T.setTop (mkF m pc Ls (.ref a :: st))) := by
  subst hp
  obtain ⟨T', X', e', q'⟩ := getF (host := "") X B.x B.z B.o (Or.inl w) via eT F (g := mkF m pc Ls (.ref a :: st)) rfl rfl (B.d q)
  exact (k T' X' e').via q'
theorem g_putF (X : Stand p l e R s m args below meth c T locs cells slots) (B : Bo Z p s m meth c own nm bytes maxL ret) {R0 O n d C : String} {index kk : Nat} {ty : FieldType} {a : Addr} {v old : Value} (q : decode bytes pc = .ok (.putfield index, 3)) (pc' : Nat) (hp : pc + 3 = pc') (w : (Jvm.Cond.fieldLink own index R0 n d).before a0 Z = true) (via : Via Z R0 O n d) (eT : T.heap = h) (F : Fld Z h a O n d old) (E : Exa Z h a C) (L : (Jvm.Cond.lays C O n d).before a0 Z = true ∨ ((Jvm.Cond.laysFinal C O n d).before a0 Z = true ∧ own = O ∧ nm = "<init>")) (wi : (Jvm.Cond.instantiable C kk).before a0 Z = true) (hty : parseFieldDescriptor d = some ty) (hn : narrow ty v = v) (hf : fits ty v = true) (k : ∀ T' h', Stand p l e R s m args below meth c T' (locs ++ [⟨a, Jvm.RoadKit.slotOf Z O n d⟩]) cells slots → T'.heap = h' → Wr h h' a (Jvm.RoadKit.slotOf Z O n d) v → Go p e below P (T'.setTop (mkF m pc' Ls st))) : Go p e below P (T.setTop (mkF m pc Ls (v :: .ref a :: st))) := by
  subst hp
  obtain ⟨T', h', X', e', W', q'⟩ := putF (host := "") X B.x B.z B.o (Or.inl w) via eT F E (L.imp id fun y => ⟨y.1, y.2.1, B.n.trans y.2.2⟩) wi hty hn hf (g := mkF m pc Ls (v :: .ref a :: st)) rfl rfl (B.d q)
  exact (k T' h' X' e' W').via q'
theorem g_new (X : Stand p l e R s m args below meth c T locs cells slots) (B : Bo Z p s m meth c own nm bytes maxL ret) {C : String} {index n : Nat} (q : decode bytes pc = .ok (.new index, 3)) (pc' : Nat) (hp : pc + 3 = pc') (w : (Jvm.Cond.classLink own index C).before a0 Z = true) (wi : (Jvm.Cond.instantiable C n).before a0 Z = true) (wz : (Jvm.Cond.initialized C).before a0 Z = true) (eT : T.heap = h) (hc : cells + 1 ≤ R.cells) (hl : slots + n ≤ R.slots) (k : ∀ T' h' a, Stand p l e R s m args below meth c T' locs (cells + 1) (slots + n) → T'.heap = h' → a = h.size → Ext h h' → Exa Z h' a C → (∀ {O nm d : String} {ty : FieldType}, Laid Z a0 C O nm d → parseFieldDescriptor d = some ty → Fld Z h' a O nm d (defaultValue ty)) → Go p e below P (T'.setTop (mkF m pc' Ls (.ref a :: st)))) : Go p e below P (T.setTop (mkF m pc Ls st)) := by
  subst hp
  obtain ⟨T', h', X', e', E', A', D', -, q'⟩ := newO X B.x B.z B.o w wi wz eT (g := mkF m pc Ls st) rfl (B.d q) hc hl
  exact (k T' h' _ X' e' rfl E' A' D').via q'
theorem g_callS (X : Stand p l e R s m args below meth c T locs cells slots) (B : Bo Z p s m meth c own nm bytes maxL ret) {y : MethodName} {by' : ByteArray} {mx : Nat} {rt : Option FieldType} {rm : Room} {Q : Option Value → Heap → List Loc → Prop} {index : Nat} (argsL rest : List Value) (q : decode bytes pc = .ok (.invokestatic index, 3)) (pc' : Nat) (hp : pc + 3 = pc') (hst : st = argsL.reverse ++ rest) (w1 : (Jvm.Cond.methodLink own index y).before a0 Z = true) (w2 : (Jvm.Cond.static y).before a0 Z = true) (w3 : (Jvm.Cond.initialized y.cls).before a0 Z = true) (w4 : (Jvm.Cond.code y by' mx rt).before a0 Z = true) (hy : y.cls ≠ "java/lang/invoke/MethodHandle" ∧ y.cls ≠ "java/lang/invoke/VarHandle") (hlen : ∀ sig, parseMethodDescriptor y.desc = some sig → argsL.length = sig.parameters.length) (C : Ctr l Z y by' mx rt rm argsL.toArray h Q) (eT : T.heap = h) (hm : Ls.size = maxL) (W : Nat) (hW : (rest.map fun v => v.category).sum ≤ W) (hf : rm.frames + 1 ≤ R.frames) (hl : W + (mx + 11) + rm.locals ≤ R.locals) (hc : cells + rm.cells ≤ R.cells) (hs : slots + rm.slots ≤ R.slots) (k : ∀ v T' h' L', Stand p l e R s m args below meth c T' (locs ++ L') (cells + rm.cells) (slots + rm.slots) → T'.heap = h' → Q v h' L' → Go p e below P (T'.setTop (mkF m pc' Ls (v.toList ++ rest)))) : Go p e below P (T.setTop (mkF m pc Ls st)) := by
  subst hp hst
  obtain ⟨v, _, ⟨T', L', k', n'⟩, -, X', ⟨Lc, hQ, l1, l2, l3⟩, q'⟩ := Jvm.LawKit.callS X B.x (y := y) B.o (mvT B.z w1) (mvT B.z w2) (mvT B.z w3) (mvT B.z w4) hy (C.back (W := W) B.z w4 w3 hf hl) (g := mkF m pc Ls (argsL.reverse ++ rest)) rfl (B.mx hm) (argsL := argsL) (rest := rest) hlen rfl (by show 2 * 0 + _ ≤ _; omega) (B.d q) (fun _ _ => ⟨rfl, eT, hc, hs⟩)
  dsimp only [Pt.U, Pt.locs, Pt.cells, Pt.slots] at X' l1 l2 l3 q' hQ
  subst l1 l2 l3
  exact (k v T' _ Lc X' rfl hQ).via q'
theorem g_callV (X : Stand p l e R s m args below meth c T locs cells slots) (B : Bo Z p s m meth c own nm bytes maxL ret) {z : MethodName} {by' : ByteArray} {mx : Nat} {rt : Option FieldType} {rm : Room} {Q : Option Value → Heap → List Loc → Prop} {index : Nat} {K : String} {a : Addr} (argsL rest : List Value) (q : decode bytes pc = .ok (.invokevirtual index, 3)) (pc' : Nat) (hp : pc + 3 = pc') (hst : st = argsL.reverse ++ .ref a :: rest) (w1 : (Jvm.Cond.methodLink own index z).before a0 Z = true) (w2 : (Jvm.Cond.declares z).before a0 Z = true) (w3 : (Jvm.Cond.selects K z z).before a0 Z = true) (w4 : (Jvm.Cond.instanceMethod z).before a0 Z = true) (w5 : (Jvm.Cond.initialized z.cls).before a0 Z = true) (w6 : (Jvm.Cond.code z by' mx rt).before a0 Z = true) (hy : z.cls ≠ "java/lang/invoke/MethodHandle" ∧ z.cls ≠ "java/lang/invoke/VarHandle") (hlen : ∀ sig, parseMethodDescriptor z.desc = some sig → argsL.length = sig.parameters.length) (E : Exa Z h a K) (C : Ctr l Z z by' mx rt rm (.ref a :: argsL).toArray h Q) (eT : T.heap = h) (hm : Ls.size = maxL) (W : Nat) (hW : (rest.map fun v => v.category).sum ≤ W) (hf : rm.frames + 1 ≤ R.frames) (hl : W + (mx + 11) + rm.locals ≤ R.locals) (hc : cells + rm.cells ≤ R.cells) (hs : slots + rm.slots ≤ R.slots) (k : ∀ v T' h' L', Stand p l e R s m args below meth c T' (locs ++ L') (cells + rm.cells) (slots + rm.slots) → T'.heap = h' → Q v h' L' → Go p e below P (T'.setTop (mkF m pc' Ls (v.toList ++ rest)))) : Go p e below P (T.setTop (mkF m pc Ls st)) := by
  subst hp hst
  obtain ⟨cq, kq, qa, qb, qc⟩ := isOf B.z eT E
  obtain ⟨v, _, ⟨T', L', k', n'⟩, -, X', ⟨Lc, hQ, l1, l2, l3⟩, q'⟩ := X.virtualBack B.x (y := z) (z := z) B.o (mvT B.z w1) (mvT B.z w2) (notFace_of_selects (args := #[]) (mvT B.z w3)) (mvT B.z w3) (mvT B.z w4) hy (C.back (W := W) B.z w6 w5 hf hl) qa qc (g := mkF m pc Ls (argsL.reverse ++ .ref a :: rest)) rfl (B.mx hm) (Steps.refl _) (argsL := argsL) (rest := rest) hlen rfl (by show 2 * 0 + _ ≤ _; omega) (B.d q) (fun _ _ => ⟨rfl, eT, hc, hs⟩)
  dsimp only [Pt.U, Pt.locs, Pt.cells, Pt.slots] at X' l1 l2 l3 q' hQ
  subst l1 l2 l3
  exact (k v T' _ Lc X' rfl hQ).via fun _ => q'.trans
theorem g_callN (X : Stand p l e R s m args below meth c T locs cells slots) (B : Bo Z p s m meth c own nm bytes maxL ret) {y : MethodName} {by' : ByteArray} {mx : Nat} {rm : Room} {Q : Option Value → Heap → List Loc → Prop} {index : Nat} {a : Addr} (argsL rest : List Value) (q : decode bytes pc = .ok (.invokespecial index, 3)) (pc' : Nat) (hp : pc + 3 = pc') (hst : st = argsL.reverse ++ .ref a :: rest) (hn : y.name = "<init>") (w1 : (Jvm.Cond.methodLink own index y).before a0 Z = true) (w2 : (Jvm.Cond.instanceMethod y).before a0 Z = true) (w3 : (Jvm.Cond.code y by' mx none).before a0 Z = true) (w4 : (Jvm.Cond.initialized y.cls).before a0 Z = true) (hy : y.cls ≠ "java/lang/invoke/MethodHandle" ∧ y.cls ≠ "java/lang/invoke/VarHandle") (hlen : ∀ sig, parseMethodDescriptor y.desc = some sig → argsL.length = sig.parameters.length) (C : Ctr l Z y by' mx none rm (.ref a :: argsL).toArray h Q) (eT : T.heap = h) (hm : Ls.size = maxL) (W : Nat) (hW : (rest.map fun v => v.category).sum ≤ W) (hf : rm.frames + 1 ≤ R.frames) (hl : W + (mx + 11) + rm.locals ≤ R.locals) (hc : cells + rm.cells ≤ R.cells) (hs : slots + rm.slots ≤ R.slots) (k : ∀ v T' h' L', Stand p l e R s m args below meth c T' (locs ++ L') (cells + rm.cells) (slots + rm.slots) → T'.heap = h' → Q v h' L' → Go p e below P (T'.setTop (mkF m pc' Ls (v.toList ++ rest)))) : Go p e below P (T.setTop (mkF m pc Ls st)) := by
  subst hp hst
  obtain ⟨v, _, ⟨T', L', k', n'⟩, -, X', ⟨Lc, hQ, l1, l2, l3⟩, q'⟩ := X.specialBack B.x (y := y) hn B.o (mvT B.z w1) (mvT B.z w2) (mvT B.z w3) hy (C.back (W := W) B.z w3 w4 hf hl) (g := mkF m pc Ls (argsL.reverse ++ .ref a :: rest)) rfl (B.mx hm) (Steps.refl _) (a := a) (argsL := argsL) (rest := rest) hlen rfl (by show 2 * 0 + _ ≤ _; omega) (B.d q) (fun _ _ => ⟨rfl, eT, hc, hs⟩)
  dsimp only [Pt.U, Pt.locs, Pt.cells, Pt.slots] at X' l1 l2 l3 q' hQ
  subst l1 l2 l3
  exact (k v T' _ Lc X' rfl hQ).via fun _ => q'.trans
theorem g_newP (X : Stand p l e R s m args below meth c T locs cells slots) (B : Bo Z p s m meth c own nm bytes maxL ret) {aty : ArrayType} {n : Int32} (vs : List Value) (q : decode bytes pc = .ok (.newarray aty, 2)) (pc' : Nat) (hp : pc + 2 = pc') (w : (Jvm.Cond.arrayClass (newarray.typeOf aty)).before a0 Z = true) (eT : T.heap = h) (hn : ¬ n < 0) (hvs : List.replicate n.toNatClampNeg (defaultValue (newarray.typeOf aty)) = vs) (hb : vs.length * 8 ≤ 536870912) (hc : cells + 1 ≤ R.cells) (hl : slots + vs.length ≤ R.slots) (k : ∀ T' h' a, Stand p l e R s m args below meth c T' locs (cells + 1) (slots + vs.length) → T'.heap = h' → a = h.size → Ext h h' → Av Z h' a (newarray.typeOf aty) vs → Go p e below P (T'.setTop (mkF m pc' Ls (.ref a :: st)))) : Go p e below P (T.setTop (mkF m pc Ls (.int n :: st))) := by
  subst hp
  obtain ⟨T', h', cA, X', e', E', A', q'⟩ := newP X B.x B.z w eT (g := mkF m pc Ls (.int n :: st)) rfl (B.d q) rfl hn (cap := vs.length) (by rw [← hvs]; simp) hb hc hl
  exact (k T' h' _ X' e' rfl E' ⟨_, A', by rw [← hvs]; simp [newA]⟩).via q'
theorem g_castore (X : Stand p l e R s m args below meth c T locs cells slots) (B : Bo Z p s m meth c own nm bytes maxL ret) {a : Addr} {j x : Int32} {vs : List Value} (i : Nat) (q : decode bytes pc = .ok (.castore, 1)) (pc' : Nat) (hp : pc + 1 = pc') (eT : T.heap = h) (A : Av Z h a .char vs) (hi : j.toNatClampNeg = i) (h0 : ¬ j < 0) (hl : i < vs.length) (k : ∀ T' h', Stand p l e R s m args below meth c T' (locs ++ [⟨a, i⟩]) cells slots → T'.heap = h' → Wr h h' a i (.int (nar .char x)) → Av Z h' a .char (vs.set i (.int (nar .char x))) → Go p e below P (T'.setTop (mkF m pc' Ls st))) : Go p e below P (T.setTop (mkF m pc Ls (.int x :: .int j :: .ref a :: st))) := by
  subst hp
  have A' := A
  obtain ⟨cl, Ar, hv⟩ := A'
  obtain ⟨T', h', X', e', W', q'⟩ := stC X B.x B.z eT Ar (Av.inb (Z := Z) (h := h) (a := a) (ty := .char) hv hi h0 hl) (g := mkF m pc Ls (.int x :: .int j :: .ref a :: st)) rfl rfl (B.d q)
  subst hi
  exact (k T' h' X' e' W' (A.set W')).via q'
theorem g_bastoreB (X : Stand p l e R s m args below meth c T locs cells slots) (B : Bo Z p s m meth c own nm bytes maxL ret) {a : Addr} {j x : Int32} {vs : List Value} (i : Nat) (q : decode bytes pc = .ok (.bastore, 1)) (pc' : Nat) (hp : pc + 1 = pc') (eT : T.heap = h) (A : Av Z h a .byte vs) (hi : j.toNatClampNeg = i) (h0 : ¬ j < 0) (hl : i < vs.length) (k : ∀ T' h', Stand p l e R s m args below meth c T' (locs ++ [⟨a, i⟩]) cells slots → T'.heap = h' → Wr h h' a i (.int (nar .byte x)) → Av Z h' a .byte (vs.set i (.int (nar .byte x))) → Go p e below P (T'.setTop (mkF m pc' Ls st))) : Go p e below P (T.setTop (mkF m pc Ls (.int x :: .int j :: .ref a :: st))) := by
  subst hp
  have A' := A
  obtain ⟨cl, Ar, hv⟩ := A'
  obtain ⟨T', h', X', e', W', q'⟩ := stB X B.x B.z eT Ar (Av.inb (Z := Z) (h := h) (a := a) (ty := .byte) hv hi h0 hl) (g := mkF m pc Ls (.int x :: .int j :: .ref a :: st)) rfl rfl (B.d q)
  subst hi
  exact (k T' h' X' e' W' (A.set W')).via q'
theorem g_bastoreZ (X : Stand p l e R s m args below meth c T locs cells slots) (B : Bo Z p s m meth c own nm bytes maxL ret) {a : Addr} {j x : Int32} {vs : List Value} (i : Nat) (q : decode bytes pc = .ok (.bastore, 1)) (pc' : Nat) (hp : pc + 1 = pc') (eT : T.heap = h) (A : Av Z h a .boolean vs) (hi : j.toNatClampNeg = i) (h0 : ¬ j < 0) (hl : i < vs.length) (k : ∀ T' h', Stand p l e R s m args below meth c T' (locs ++ [⟨a, i⟩]) cells slots → T'.heap = h' → Wr h h' a i (.int (nar .boolean x)) → Av Z h' a .boolean (vs.set i (.int (nar .boolean x))) → Go p e below P (T'.setTop (mkF m pc' Ls st))) : Go p e below P (T.setTop (mkF m pc Ls (.int x :: .int j :: .ref a :: st))) := by
  subst hp
  have A' := A
  obtain ⟨cl, Ar, hv⟩ := A'
  obtain ⟨T', h', X', e', W', q'⟩ := stZ X B.x B.z eT Ar (Av.inb (Z := Z) (h := h) (a := a) (ty := .boolean) hv hi h0 hl) (g := mkF m pc Ls (.int x :: .int j :: .ref a :: st)) rfl rfl (B.d q)
  subst hi
  exact (k T' h' X' e' W' (A.set W')).via q'
theorem g_caload (X : Stand p l e R s m args below meth c T locs cells slots) (B : Bo Z p s m meth c own nm bytes maxL ret) {a : Addr} {j : Int32} {vs : List Value} {v : Value} (i : Nat) (q : decode bytes pc = .ok (.caload, 1)) (pc' : Nat) (hp : pc + 1 = pc') (eT : T.heap = h) (A : Av Z h a .char vs) (hi : j.toNatClampNeg = i) (h0 : ¬ j < 0) (hv : vs[i]? = some v) (g : Go p e below P (T.setTop (mkF m pc' Ls (v :: st)))) : Go p e below P (T.setTop (mkF m pc Ls (.int j :: .ref a :: st))) := by
  subst hp
  obtain ⟨cl, Ar, hc⟩ := A
  have hl : i < vs.length := (List.getElem?_eq_some_iff.mp hv).1
  have hin := Av.inb (Z := Z) (h := h) (a := a) (ty := .char) hc hi h0 hl
  have k1 : T.heap[a]? = some cl := by rw [eT]; exact Ar.1
  have k2 : s.isArrayOf cl .char := State.isArrayOf_alike B.z.alike Ar.2.1
  have k3 : cl.slots[j.toNatClampNeg]? = some v := by rw [hi, ← hv, ← hc]; simp
  exact g.via fun t => X.caload B.x k1 k2 Ar.2.2 hin k3 (g := mkF m pc Ls (.int j :: .ref a :: st)) rfl rfl (B.d q) t
theorem g_baloadB (X : Stand p l e R s m args below meth c T locs cells slots) (B : Bo Z p s m meth c own nm bytes maxL ret) {a : Addr} {j : Int32} {vs : List Value} {v : Value} (i : Nat) (q : decode bytes pc = .ok (.baload, 1)) (pc' : Nat) (hp : pc + 1 = pc') (eT : T.heap = h) (A : Av Z h a .byte vs) (hi : j.toNatClampNeg = i) (h0 : ¬ j < 0) (hv : vs[i]? = some v) (g : Go p e below P (T.setTop (mkF m pc' Ls (v :: st)))) : Go p e below P (T.setTop (mkF m pc Ls (.int j :: .ref a :: st))) := by
  subst hp
  obtain ⟨cl, Ar, hc⟩ := A
  have hl : i < vs.length := (List.getElem?_eq_some_iff.mp hv).1
  have hin := Av.inb (Z := Z) (h := h) (a := a) (ty := .byte) hc hi h0 hl
  have k1 : T.heap[a]? = some cl := by rw [eT]; exact Ar.1
  have k2 : s.isArrayOf cl .byte := State.isArrayOf_alike B.z.alike Ar.2.1
  have k3 : cl.slots[j.toNatClampNeg]? = some v := by rw [hi, ← hv, ← hc]; simp
  exact g.via fun t => X.baloadBytes B.x k1 k2 Ar.2.2 hin k3 (g := mkF m pc Ls (.int j :: .ref a :: st)) rfl rfl (B.d q) t
theorem g_baloadZ (X : Stand p l e R s m args below meth c T locs cells slots) (B : Bo Z p s m meth c own nm bytes maxL ret) {a : Addr} {j : Int32} {vs : List Value} {v : Value} (i : Nat) (q : decode bytes pc = .ok (.baload, 1)) (pc' : Nat) (hp : pc + 1 = pc') (eT : T.heap = h) (A : Av Z h a .boolean vs) (hi : j.toNatClampNeg = i) (h0 : ¬ j < 0) (hv : vs[i]? = some v) (g : Go p e below P (T.setTop (mkF m pc' Ls (v :: st)))) : Go p e below P (T.setTop (mkF m pc Ls (.int j :: .ref a :: st))) := by
  subst hp
  obtain ⟨cl, Ar, hc⟩ := A
  have hl : i < vs.length := (List.getElem?_eq_some_iff.mp hv).1
  have hin := Av.inb (Z := Z) (h := h) (a := a) (ty := .boolean) hc hi h0 hl
  have k1 : T.heap[a]? = some cl := by rw [eT]; exact Ar.1
  have k2 : s.isArrayOf cl .boolean := State.isArrayOf_alike B.z.alike Ar.2.1
  have k3 : cl.slots[j.toNatClampNeg]? = some v := by rw [hi, ← hv, ← hc]; simp
  exact g.via fun t => X.baloadBooleans B.x k1 k2 Ar.2.2 hin k3 (g := mkF m pc Ls (.int j :: .ref a :: st)) rfl rfl (B.d q) t
theorem g_aaload (X : Stand p l e R s m args below meth c T locs cells slots) (B : Bo Z p s m meth c own nm bytes maxL ret) {ty : FieldType} (hty : ty.isReference = true) {a : Addr} {j : Int32} {vs : List Value} {v : Value} (i : Nat) (q : decode bytes pc = .ok (.aaload, 1)) (pc' : Nat) (hp : pc + 1 = pc') (eT : T.heap = h) (A : Av Z h a ty vs) (hi : j.toNatClampNeg = i) (h0 : ¬ j < 0) (hv : vs[i]? = some v) (g : Go p e below P (T.setTop (mkF m pc' Ls (v :: st)))) : Go p e below P (T.setTop (mkF m pc Ls (.int j :: .ref a :: st))) := by
  subst hp
  obtain ⟨cl, Ar, hc⟩ := A
  have hl : i < vs.length := (List.getElem?_eq_some_iff.mp hv).1
  have hin := Av.inb (Z := Z) (h := h) (a := a) (ty := ty) hc hi h0 hl
  have k1 : T.heap[a]? = some cl := by rw [eT]; exact Ar.1
  have k2 : s.isArrayOf cl ty := State.isArrayOf_alike B.z.alike Ar.2.1
  have k3 : cl.slots[j.toNatClampNeg]? = some v := by rw [hi, ← hv, ← hc]; simp
  exact g.via fun t => X.aaload B.x k1 k2 hty Ar.2.2 hin k3 (g := mkF m pc Ls (.int j :: .ref a :: st)) rfl rfl (B.d q) t
theorem g_arrlen (X : Stand p l e R s m args below meth c T locs cells slots) (B : Bo Z p s m meth c own nm bytes maxL ret) {ty : FieldType} {a : Addr} {vs : List Value} (n : Int32) (q : decode bytes pc = .ok (.arraylength, 1)) (pc' : Nat) (hp : pc + 1 = pc') (eT : T.heap = h) (A : Av Z h a ty vs) (hn : vs.length.toInt32 = n) (g : Go p e below P (T.setTop (mkF m pc' Ls (.int n :: st)))) : Go p e below P (T.setTop (mkF m pc Ls (.ref a :: st))) := by
  subst hp hn
  obtain ⟨cl, Ar, hc⟩ := A
  have k1 : T.heap[a]? = some cl := by rw [eT]; exact Ar.1
  have k2 : s.isArrayOf cl ty := State.isArrayOf_alike B.z.alike Ar.2.1
  rw [← hc, Array.length_toList] at g
  exact g.via fun t => X.arraylength B.x k1 k2 (g := mkF m pc Ls (.ref a :: st)) rfl rfl (B.d q) t
theorem g_callUp (X : Stand p l e R s m args below meth c T locs cells slots) (B : Bo Z p s m meth c own nm bytes maxL ret) {y z : MethodName} {by' : ByteArray} {mx : Nat} {rt : Option FieldType} {rm : Room} {Q : Option Value → Heap → List Loc → Prop} {index : Nat} {K owner : String} {a : Addr} (argsL rest : List Value) (q : decode bytes pc = .ok (.invokevirtual index, 3)) (pc' : Nat) (hp : pc + 3 = pc') (hst : st = argsL.reverse ++ .ref a :: rest) (w1 : (Jvm.Cond.methodLink own index y).before a0 Z = true) (w2 : (Jvm.Cond.sameMethod y.cls owner y.name y.desc).before a0 Z = true) (w2' : (Jvm.Cond.declares ⟨owner, y.name, y.desc⟩).before a0 Z = true) (w3 : (Jvm.Cond.selects K y z).before a0 Z = true) (w4 : (Jvm.Cond.instanceMethod z).before a0 Z = true) (w5 : (Jvm.Cond.initialized z.cls).before a0 Z = true) (w6 : (Jvm.Cond.code z by' mx rt).before a0 Z = true) (hy : owner ≠ "java/lang/invoke/MethodHandle" ∧ owner ≠ "java/lang/invoke/VarHandle") (hlen : ∀ sig, parseMethodDescriptor y.desc = some sig → argsL.length = sig.parameters.length) (E : Exa Z h a K) (C : Ctr l Z z by' mx rt rm (.ref a :: argsL).toArray h Q) (eT : T.heap = h) (hm : Ls.size = maxL) (W : Nat) (hW : (rest.map fun v => v.category).sum ≤ W) (hf : rm.frames + 1 ≤ R.frames) (hl : W + (mx + 11) + rm.locals ≤ R.locals) (hc : cells + rm.cells ≤ R.cells) (hs : slots + rm.slots ≤ R.slots) (k : ∀ v T' h' L', Stand p l e R s m args below meth c T' (locs ++ L') (cells + rm.cells) (slots + rm.slots) → T'.heap = h' → Q v h' L' → Go p e below P (T'.setTop (mkF m pc' Ls (v.toList ++ rest)))) : Go p e below P (T.setTop (mkF m pc Ls st)) := by
  subst hp hst
  obtain ⟨cq, kq, qa, qb, qc⟩ := isOf B.z eT E
  obtain ⟨v, _, ⟨T', L', k', n'⟩, -, X', ⟨Lc, hQ, l1, l2, l3⟩, q'⟩ := X.virtualBackUp B.x (x := y) (y := z) B.o (mvT B.z w1) (mvT B.z w2) (mvT B.z w2') hy (mvT B.z w3) (mvT B.z w4) (C.back (W := W) B.z w6 w5 hf hl) qa qc (g := mkF m pc Ls (argsL.reverse ++ .ref a :: rest)) rfl (B.mx hm) (Steps.refl _) (argsL := argsL) (rest := rest) hlen rfl (by show 2 * 0 + _ ≤ _; omega) (B.d q) (fun _ _ => ⟨rfl, eT, hc, hs⟩)
  dsimp only [Pt.U, Pt.locs, Pt.cells, Pt.slots] at X' l1 l2 l3 q' hQ
  subst l1 l2 l3
  exact (k v T' _ Lc X' rfl hQ).via fun _ => q'.trans
theorem g_cast (X : Stand p l e R s m args below meth c T locs cells slots) (B : Bo Z p s m meth c own nm bytes maxL ret) {K : String} {index : Nat} {a : Addr} (q : decode bytes pc = .ok (.checkcast index, 3)) (pc' : Nat) (hp : pc + 3 = pc') (w : (Jvm.Cond.classLink own index K).before a0 Z = true) (eT : T.heap = h) (F : Ins Z h a K true) (k : ∀ T', Stand p l e R s m args below meth c T' locs cells slots → T'.heap = h → Go p e below P (T'.setTop (mkF m pc' Ls (.ref a :: st)))) : Go p e below P (T.setTop (mkF m pc Ls (.ref a :: st))) := by
  subst hp
  obtain ⟨T', X', e', q'⟩ := castY X B.x B.z B.o w eT F (g := mkF m pc Ls (.ref a :: st)) rfl rfl (B.d q)
  exact (k T' X' e').via q'
theorem g_dupX1 (X : Stand p l e R s m args below meth c T locs cells slots) (B : Bo Z p s m meth c own nm bytes maxL ret) {x y : Value} (q : decode bytes pc = .ok (.dup_x1, 1)) (pc' : Nat) (hp : pc + 1 = pc') (u : x.category = 1) (u' : y.category = 1) (g : Go p e below P (T.setTop (mkF m pc' Ls (x :: y :: x :: st)))) : Go p e below P (T.setTop (mkF m pc Ls (x :: y :: st))) := by
  subst hp
  exact g.via fun _ => XT.dupX1 X.here B.x rfl (B.d q) rfl u u'
theorem g_callI (X : Stand p l e R s m args below meth c T locs cells slots) (B : Bo Z p s m meth c own nm bytes maxL ret) {y z : MethodName} {by' : ByteArray} {mx : Nat} {rt : Option FieldType} {rm : Room} {Q : Option Value → Heap → List Loc → Prop} {index count : Nat} {K : String} {a : Addr} (argsL rest : List Value) (q : decode bytes pc = .ok (.invokeinterface index count, 5)) (pc' : Nat) (hp : pc + 5 = pc') (hst : st = argsL.reverse ++ .ref a :: rest) (w1 : (Jvm.Cond.methodLink own index y).before a0 Z = true) (w2 : (Jvm.Cond.declares y).before a0 Z = true) (hfa : ((Jvm.Cond.interfaceMethod y.cls y.cls y.name y.desc).onTables && (Jvm.Cond.interfaceMethod y.cls y.cls y.name y.desc).keepsFace) = true) (w2' : (Jvm.Cond.interfaceMethod y.cls y.cls y.name y.desc).before a0 Z = true) (w3 : (Jvm.Cond.selects K y z).before a0 Z = true) (w4 : (Jvm.Cond.instanceMethod z).before a0 Z = true) (w7 : (Jvm.Cond.publicMethod z).before a0 Z = true) (w8 : (Jvm.Cond.unhidden K y.name y.desc).before a0 Z = true) (w9 : (Jvm.Cond.castable K y.cls).before a0 Z = true) (w5 : (Jvm.Cond.initialized z.cls).before a0 Z = true) (w6 : (Jvm.Cond.code z by' mx rt).before a0 Z = true) (hy : y.cls ≠ "java/lang/invoke/MethodHandle" ∧ y.cls ≠ "java/lang/invoke/VarHandle") (hlen : ∀ sig, parseMethodDescriptor y.desc = some sig → argsL.length = sig.parameters.length) (E : Exa Z h a K) (C : Ctr l Z z by' mx rt rm (.ref a :: argsL).toArray h Q) (eT : T.heap = h) (hm : Ls.size = maxL) (W : Nat) (hW : (rest.map fun v => v.category).sum ≤ W) (hf : rm.frames + 1 ≤ R.frames) (hl : W + (mx + 11) + rm.locals ≤ R.locals) (hc : cells + rm.cells ≤ R.cells) (hs : slots + rm.slots ≤ R.slots) (k : ∀ v T' h' L', Stand p l e R s m args below meth c T' (locs ++ L') (cells + rm.cells) (slots + rm.slots) → T'.heap = h' → Q v h' L' → Go p e below P (T'.setTop (mkF m pc' Ls (v.toList ++ rest)))) : Go p e below P (T.setTop (mkF m pc Ls st)) := by
  subst hp hst
  obtain ⟨cq, kq, qa, qb, qc⟩ := isOf B.z eT E
  obtain ⟨v, _, ⟨T', L', k', n'⟩, -, X', ⟨Lc, hQ, l1, l2, l3⟩, q'⟩ := X.interfaceBack B.x (xi := y) (y := z) B.o (mvT B.z w1) (mvT B.z w2) (mvT B.z w2' hfa) (mvT B.z w3) (mvT B.z w4) (mvT B.z w7) (mvT B.z w8) (mvT B.z w9) hy (C.back (W := W) B.z w6 w5 hf hl) qa qb qc (g := mkF m pc Ls (argsL.reverse ++ .ref a :: rest)) rfl (B.mx hm) (Steps.refl _) (argsL := argsL) (rest := rest) hlen rfl (by show 2 * 0 + _ ≤ _; omega) (B.d q) (fun _ _ => ⟨rfl, eT, hc, hs⟩)
  dsimp only [Pt.U, Pt.locs, Pt.cells, Pt.slots] at X' l1 l2 l3 q' hQ
  subst l1 l2 l3
  exact (k v T' _ Lc X' rfl hQ).via fun _ => q'.trans
theorem g_callP (X : Stand p l e R s m args below meth c T locs cells slots) (B : Bo Z p s m meth c own nm bytes maxL ret) {y : MethodName} {by' : ByteArray} {mx : Nat} {rt : Option FieldType} {rm : Room} {Q : Option Value → Heap → List Loc → Prop} {index : Nat} {K : String} {a : Addr} (argsL rest : List Value) (q : decode bytes pc = .ok (.invokevirtual index, 3)) (pc' : Nat) (hp : pc + 3 = pc') (hst : st = argsL.reverse ++ .ref a :: rest) (w1 : (Jvm.Cond.methodLink own index y).before a0 Z = true) (w2 : (Jvm.Cond.instanceMethod y).before a0 Z = true) (w3 : (Jvm.Cond.selects y.cls y y).before a0 Z = true) (w4 : (Jvm.Cond.privateMethod y).before a0 Z = true) (w5 : (Jvm.Cond.initialized y.cls).before a0 Z = true) (w6 : (Jvm.Cond.code y by' mx rt).before a0 Z = true) (hy : y.cls ≠ "java/lang/invoke/MethodHandle" ∧ y.cls ≠ "java/lang/invoke/VarHandle") (hlen : ∀ sig, parseMethodDescriptor y.desc = some sig → argsL.length = sig.parameters.length) (E : Exa Z h a K) (C : Ctr l Z y by' mx rt rm (.ref a :: argsL).toArray h Q) (eT : T.heap = h) (hm : Ls.size = maxL) (W : Nat) (hW : (rest.map fun v => v.category).sum ≤ W) (hf : rm.frames + 1 ≤ R.frames) (hl : W + (mx + 11) + rm.locals ≤ R.locals) (hc : cells + rm.cells ≤ R.cells) (hs : slots + rm.slots ≤ R.slots) (k : ∀ v T' h' L', Stand p l e R s m args below meth c T' (locs ++ L') (cells + rm.cells) (slots + rm.slots) → T'.heap = h' → Q v h' L' → Go p e below P (T'.setTop (mkF m pc' Ls (v.toList ++ rest)))) : Go p e below P (T.setTop (mkF m pc Ls st)) := by
  subst hp hst
  obtain ⟨cl, hcl, hpl⟩ := E.cell
  obtain ⟨v, _, ⟨T', L', k', n'⟩, -, X', ⟨Lc, hQ, l1, l2, l3⟩, q'⟩ := X.privateBack B.x (y := y) B.o (mvT B.z w1) (mvT B.z w2) (mvT B.z w3) (Cond.privateMethod_at (args := #[]) (mvP B.z w4)) (mvT B.z w6) hy (C.back (W := W) B.z w6 w5 hf hl) (g := mkF m pc Ls (argsL.reverse ++ .ref a :: rest)) rfl (B.mx hm) (Steps.refl _) (by rw [eT]; exact hcl) hpl (argsL := argsL) (rest := rest) hlen rfl (by show 2 * 0 + _ ≤ _; omega) (B.d q) (fun _ _ => ⟨rfl, eT, hc, hs⟩)
  dsimp only [Pt.U, Pt.locs, Pt.cells, Pt.slots] at X' l1 l2 l3 q' hQ
  subst l1 l2 l3
  exact (k v T' _ Lc X' rfl hQ).via fun _ => q'.trans
theorem g_retOut (X : Stand p l e R s m args below meth c T locs cells slots) (B : Bo Z p s m meth c own nm bytes maxL ret) {Q : Option Value → Heap → List Loc → Prop} {cc ss : Nat} {w : Value} {t : FieldType} {i : Instr} (q : decode bytes pc = .ok (i, 1)) (ht : ret = some t) (hn : narrow t w = w)
    (hi : (i = .ireturn ∧ (t = .int ∨ t = .boolean ∨ t = .byte ∨ t = .char ∨ t = .short) ∧ ∃ z, w = .int z) ∨ (i = .lreturn ∧ t = .long ∧ ∃ z, w = .long z) ∨ (i = .dreturn ∧ t = .double ∧ ∃ z, w = .double z) ∨ (i = .freturn ∧ t = .float ∧ ∃ z, w = .float z) ∨ (i = .areturn ∧ t.isReference = true ∧ w.isRef = true))
    (hc : cells ≤ cc) (hs : slots ≤ ss) (eT : T.heap = h) (hQ : Q (some w) h locs) : Go p e below (EndsQ s Q cc ss) (T.setTop (mkF m pc Ls (w :: st))) := by
  have hl := B.lk
  obtain ⟨fs, hr, hrun, hended, hW, hsame⟩ := X.leave (v := some w) (fun z => by rw [B.r, ht] at z; cases z) hl
  subst eT
  exact ⟨_, _, retOut X B.x (B.r.trans ht) hn hi (B.d q) hr, hrun, hended, _, _, rfl, hQ, ⟨_, rfl⟩, hW, hsame.mono hc hs⟩
theorem g_retA (X : Stand p l e R s m args below meth c T locs cells slots) (B : Bo Z p s m meth c own nm bytes maxL ret) {Q : Option Value → Heap → List Loc → Prop} {cc ss : Nat} {w : Value} {t : FieldType} (q : decode bytes pc = .ok (.areturn, 1)) (ht : ret = some t) (hr : t.isReference = true) (hw : w.isRef = true) (hc : cells ≤ cc) (hs : slots ≤ ss) (eT : T.heap = h) (hQ : Q (some w) h locs) : Go p e below (EndsQ s Q cc ss) (T.setTop (mkF m pc Ls (w :: st))) :=
  g_retOut X B q ht (by cases t <;> first | (cases hr; done) | (cases w <;> first | rfl | (cases hw; done))) (Or.inr (Or.inr (Or.inr (Or.inr ⟨rfl, hr, hw⟩)))) hc hs eT hQ
theorem g_retI (X : Stand p l e R s m args below meth c T locs cells slots) (B : Bo Z p s m meth c own nm bytes maxL ret) {Q : Option Value → Heap → List Loc → Prop} {cc ss : Nat} {z : Int32} (q : decode bytes pc = .ok (.ireturn, 1)) (ht : ret = some .int) (hc : cells ≤ cc) (hs : slots ≤ ss) (eT : T.heap = h) (hQ : Q (some (.int z)) h locs) : Go p e below (EndsQ s Q cc ss) (T.setTop (mkF m pc Ls (.int z :: st))) :=
  g_retOut X B q ht rfl (Or.inl ⟨rfl, Or.inl rfl, _, rfl⟩) hc hs eT hQ
theorem g_retL (X : Stand p l e R s m args below meth c T locs cells slots) (B : Bo Z p s m meth c own nm bytes maxL ret) {Q : Option Value → Heap → List Loc → Prop} {cc ss : Nat} {z : Int64} (q : decode bytes pc = .ok (.lreturn, 1)) (ht : ret = some .long) (hc : cells ≤ cc) (hs : slots ≤ ss) (eT : T.heap = h) (hQ : Q (some (.long z)) h locs) : Go p e below (EndsQ s Q cc ss) (T.setTop (mkF m pc Ls (.long z :: st))) :=
  g_retOut X B q ht rfl (Or.inr (Or.inl ⟨rfl, rfl, _, rfl⟩)) hc hs eT hQ
theorem g_retN (X : Stand p l e R s m args below meth c T locs cells slots) (B : Bo Z p s m meth c own nm bytes maxL ret) {Q : Option Value → Heap → List Loc → Prop} {cc ss : Nat} {z : Int32} {t : FieldType} (q : decode bytes pc = .ok (.ireturn, 1)) (ht : ret = some t) (hn : narrow t (.int z) = .int z) (hk : t = .boolean ∨ t = .byte ∨ t = .char ∨ t = .short) (hc : cells ≤ cc) (hs : slots ≤ ss) (eT : T.heap = h) (hQ : Q (some (.int z)) h locs) : Go p e below (EndsQ s Q cc ss) (T.setTop (mkF m pc Ls (.int z :: st))) :=
  g_retOut X B q ht hn (Or.inl ⟨rfl, Or.inr hk, _, rfl⟩) hc hs eT hQ
theorem g_retV (X : Stand p l e R s m args below meth c T locs cells slots) (B : Bo Z p s m meth c own nm bytes maxL ret) {Q : Option Value → Heap → List Loc → Prop} {cc ss : Nat} (q : decode bytes pc = .ok (.return_, 1)) (ht : ret = none) (hc : cells ≤ cc) (hs : slots ≤ ss) (eT : T.heap = h) (hQ : Q none h locs) : Go p e below (EndsQ s Q cc ss) (T.setTop (mkF m pc Ls [])) := by
  have hl := B.lk
  obtain ⟨fs, hr, hrun, hended, hW, hsame⟩ := X.leave (v := none) (fun _ => rfl) hl
  subst eT
  exact ⟨_, _, X.returnOut B.x (B.r.trans ht) (B.d q) hr, hrun, hended, _, _, rfl, hQ, ⟨_, rfl⟩, hW, hsame.mono hc hs⟩
end OwnKit
theorem own_abs {P : Prop} {G : Prop} (q : P) (z : ¬ P) : G := absurd q z
theorem own_abs' {P : Prop} {G : Prop} (q : ¬ P) (z : P) : G := absurd z q
/-! own: from the words of a case to facts -/
theorem own_fldI {Z : State} {args : Array Value} {t : Term} {C n d : String} {a : Addr} {k : Int32} (ev : t.eval args Z none [] Z = some (.ref a)) (q : (Jvm.Cond.eq (.field t C n d) (.int k)).value args Z none Z [] = some true) : Fld Z Z.heap a C n d (.int k) := by
  obtain ⟨x, y, h1, h2, h3, -⟩ := cmp_v (Or.inl q)
  cases h2
  have h4 : Z.fieldOf? a C n d = some x := (fld_at ev).symm.trans h1
  have h5 : ∃ z, x = .int z := by cases x <;> simp [Kin, Value.isRef] at h3 ⊢
  obtain ⟨z, rfl⟩ := h5
  have h6 : z = k := by
    have h7 : (Jvm.Cond.eq (.field t C n d) (.int k)).value args Z none Z [] = some (decide (z = k)) := by simp only [Cond.value, h1, Term.int_eval]
    exact gotT h7 q
  exact h6 ▸ Fld.start h4
theorem own_fldN {Z : State} {args : Array Value} {t : Term} {C n d : String} {a : Addr} (ev : t.eval args Z none [] Z = some (.ref a)) (q : (Jvm.Cond.eq (.field t C n d) .null).value args Z none Z [] = some true) : Fld Z Z.heap a C n d .null := Fld.start ((fld_at ev).symm.trans (null_v q))
theorem own_stk {Z : State} {h h' : Heap} {C n d : String} {v : Value} (F : Sta Z h C n d v) (K : Keep h h' []) : Sta Z h' C n d v := by
  obtain ⟨cf, i, k, f, st, cell, h1, h2, h3, h4, h5, r⟩ := F
  exact ⟨cf, i, k, f, st, cell, h1, h2, h3, h4, K.2.1 _ _ h5 (fun q => nomatch q), r⟩
def own_Pl (h : Heap) (ws : List Addr) : Prop := ∀ a ∈ ws, ∀ c : Cell, h[a]? = some c → c.vm.isStatics = false
theorem own_pl0 {h : Heap} : own_Pl h [] := fun _ q => nomatch q
theorem own_plE {Z : State} {h : Heap} {a : Addr} {C : String} {ws : List Addr} (E : Exa Z h a C) (q : own_Pl h ws) : own_Pl h (a :: ws) := fun x hx c hc => by
  rcases List.mem_cons.mp hx with rfl | hx
  · obtain ⟨c', k, h1, -, -, h4, -⟩ := E
    cases h1.symm.trans hc; exact h4
  · exact q x hx c hc
theorem own_plA {Z : State} {h : Heap} {a : Addr} {ty : FieldType} {vs : List Value} {ws : List Addr} (E : Av Z h a ty vs) (q : own_Pl h ws) : own_Pl h (a :: ws) := fun x hx c hc => by
  rcases List.mem_cons.mp hx with rfl | hx
  · obtain ⟨c', A, -⟩ := E
    cases A.1.symm.trans hc; exact A.plain
  · exact q x hx c hc
theorem own_stkw {Z : State} {h h' : Heap} {C n d : String} {v : Value} {ws : List Addr} (F : Sta Z h C n d v) (K : Keep h h' ws) (q : own_Pl h ws) : Sta Z h' C n d v := by
  obtain ⟨cf, i, k, f, st, cell, h1, h2, h3, h4, h5, h6, r⟩ := F
  exact ⟨cf, i, k, f, st, cell, h1, h2, h3, h4, K.2.1 _ _ h5 (fun z => by rw [q _ z _ h5] at h6; cases h6), h6, r⟩
theorem own_neAv {Z : State} {h : Heap} {a b : Addr} {C : String} {ty : FieldType} {vs : List Value} {a0 : Array Value} {k : Nat} (F : Exa Z h a C) (wi : (Jvm.Cond.instantiable C k).before a0 Z = true) (G : Av Z h b ty vs) : a ≠ b := by
  obtain ⟨c, A, -⟩ := G
  exact ne_arr F wi A
/-- an array of references over C, its contents known -/
def AvR (Z : State) (h : Heap) (a : Addr) (C : String) (vs : List Value) : Prop := ∃ c : Cell, Arr Z h a c (.object C) ∧ c.slots.toList = vs ∧ Ovr Z c.cls C
theorem AvR.av {Z : State} {h : Heap} {a : Addr} {C : String} {vs : List Value} (A : AvR Z h a C vs) : Av Z h a (.object C) vs := by obtain ⟨c, q, r, -⟩ := A; exact ⟨c, q, r⟩
theorem own_AvR_ext {Z : State} {h h' : Heap} {a : Addr} {C : String} {vs : List Value} (A : AvR Z h a C vs) (E : Ext h h') : AvR Z h' a C vs := by obtain ⟨c, q, r⟩ := A; exact ⟨c, q.ext E, r⟩
theorem own_AvR_other {Z : State} {h h' : Heap} {a b : Addr} {C : String} {vs : List Value} {sl : Nat} {v : Value} (A : AvR Z h b C vs) (W : Wr h h' a sl v) (q : b ≠ a) : AvR Z h' b C vs := by obtain ⟨c, q1, r⟩ := A; exact ⟨c, q1.other W q, r⟩
theorem own_AvR_keep {Z : State} {h h' : Heap} {a : Addr} {C : String} {vs : List Value} {ws : List Addr} (A : AvR Z h a C vs) (K : Keep h h' ws) (q : a ∉ ws) : AvR Z h' a C vs := by obtain ⟨c, q1, r⟩ := A; exact ⟨c, ⟨K.2.1 a c q1.1 q, q1.2⟩, r⟩
theorem AvR.set {Z : State} {h h' : Heap} {a : Addr} {C : String} {vs : List Value} {i : Nat} {v : Value} (A : AvR Z h a C vs) (W : Wr h h' a i v) : AvR Z h' a C (vs.set i v) := by
  obtain ⟨c, q, rfl, r⟩ := A
  exact ⟨_, q.same W, by simp [Cell.setSlot], r⟩
theorem own_fldR {Z : State} {args : Array Value} {t u : Term} {C n d : String} {a b : Addr} (ev : t.eval args Z none [] Z = some (.ref a)) (ew : u.eval args Z none [] Z = some (.ref b)) (q : (Jvm.Cond.eq (.field t C n d) u).value args Z none Z [] = some true) : Fld Z Z.heap a C n d (.ref b) := by
  obtain ⟨x, y, h1, h2, h3, -⟩ := cmp_v (Or.inl q)
  cases ew.symm.trans h2
  have h4 : Z.fieldOf? a C n d = some x := (fld_at ev).symm.trans h1
  have h5 : x.isRef = true := by cases x <;> simp [Kin, Value.isRef] at h3 ⊢
  have h6 : x = .ref b := gotT (eq_R h1 ew h5 rfl) q
  exact h6 ▸ Fld.start h4
section OwnKit2
variable {p : Program} {l : Launch} {e : Env} {R : Room} {s : State} {m : MethodId} {args : Array Value} {below : List Frame} {meth : Method} {c : Code} {T : State} {locs : List Loc} {cells slots : Nat} {Z : State} {a0 : Array Value} {h : Heap} {P : State → Outcome → Prop} {pc : Nat} {Ls : Array Slot} {st rest : List Value} {own nm : String} {bytes : ByteArray} {maxL : Nat} {ret : Option FieldType}
theorem g_newR (X : Stand p l e R s m args below meth c T locs cells slots) (B : Bo Z p s m meth c own nm bytes maxL ret) {C : String} {index : Nat} {n : Int32} (vs : List Value) (q : decode bytes pc = .ok (.anewarray index, 3)) (pc' : Nat) (hp : pc + 3 = pc') (w1 : (Jvm.Cond.classLink own index C).before a0 Z = true) (w2 : (Jvm.Cond.arrayOver (.object C)).before a0 Z = true) (eT : T.heap = h) (hn : ¬ n < 0) (hvs : List.replicate n.toNatClampNeg (Value.null) = vs) (hb : vs.length * 8 ≤ 536870912) (hc : cells + 1 ≤ R.cells) (hl : slots + vs.length ≤ R.slots) (k : ∀ T' h' a, Stand p l e R s m args below meth c T' locs (cells + 1) (slots + vs.length) → T'.heap = h' → a = h.size → Ext h h' → AvR Z h' a C vs → Go p e below P (T'.setTop (mkF m pc' Ls (.ref a :: st)))) : Go p e below P (T.setTop (mkF m pc Ls (.int n :: st))) := by
  subst hp
  obtain ⟨T', h', cA, X', e', E', A', O', q'⟩ := newR X B.x B.z B.o w1 w2 eT (g := mkF m pc Ls (.int n :: st)) rfl (B.d q) rfl hn (cap := vs.length) (by rw [← hvs]; simp) hb hc hl
  exact (k T' h' _ X' e' rfl E' ⟨_, A', by rw [← hvs]; simp [newA, defaultValue], O'⟩).via q'
theorem g_aastore (X : Stand p l e R s m args below meth c T locs cells slots) (B : Bo Z p s m meth c own nm bytes maxL ret) {C : String} {a y : Addr} {j : Int32} {vs : List Value} (i : Nat) (q : decode bytes pc = .ok (.aastore, 1)) (pc' : Nat) (hp : pc + 1 = pc') (eT : T.heap = h) (A : AvR Z h a C vs) (I : Ins Z h y C true) (hi : j.toNatClampNeg = i) (h0 : ¬ j < 0) (hl : i < vs.length) (k : ∀ T' h', Stand p l e R s m args below meth c T' (locs ++ [⟨a, i⟩]) cells slots → T'.heap = h' → Wr h h' a i (.ref y) → AvR Z h' a C (vs.set i (.ref y)) → Go p e below P (T'.setTop (mkF m pc' Ls st))) : Go p e below P (T.setTop (mkF m pc Ls (.ref y :: .int j :: .ref a :: st))) := by
  subst hp
  have A' := A
  obtain ⟨cl, Ar, hv, O⟩ := A'
  obtain ⟨T', h', X', e', W', q'⟩ := stR X B.x B.z eT Ar (Av.inb (Z := Z) (h := h) (a := a) (ty := .object C) hv hi h0 hl) rfl (Sto.of Ar O I) (g := mkF m pc Ls (.ref y :: .int j :: .ref a :: st)) rfl rfl (B.d q)
  subst hi
  exact (k T' h' X' e' W' (A.set W')).via q'
end OwnKit2

theorem d5_0 : decode jdk_22_method_1_code 0 = .ok (.aload_n 0, 1) := by decide +kernel
theorem d5_1 : decode jdk_22_method_1_code 1 = .ok (.invokespecial 1, 3) := by decide +kernel
theorem d5_4 : decode jdk_22_method_1_code 4 = .ok (.return_, 1) := by decide +kernel

theorem d4_0 : decode jdk_39_method_1_code 0 = .ok (.aload_n 0, 1) := by decide +kernel
theorem d4_1 : decode jdk_39_method_1_code 1 = .ok (.invokespecial 1, 3) := by decide +kernel
theorem d4_4 : decode jdk_39_method_1_code 4 = .ok (.aload_n 0, 1) := by decide +kernel
theorem d4_5 : decode jdk_39_method_1_code 5 = .ok (.iconst 0, 1) := by decide +kernel
theorem d4_6 : decode jdk_39_method_1_code 6 = .ok (.putfield 7, 3) := by decide +kernel
theorem d4_9 : decode jdk_39_method_1_code 9 = .ok (.return_, 1) := by decide +kernel

theorem d3_0 : decode jdk_38_method_1_code 0 = .ok (.aload_n 0, 1) := by decide +kernel
theorem d3_1 : decode jdk_38_method_1_code 1 = .ok (.invokespecial 1, 3) := by decide +kernel
theorem d3_4 : decode jdk_38_method_1_code 4 = .ok (.iload_n 1, 1) := by decide +kernel
theorem d3_5 : decode jdk_38_method_1_code 5 = .ok (.ifCond .le 14, 3) := by decide +kernel
theorem d3_8 : decode jdk_38_method_1_code 8 = .ok (.aload_n 0, 1) := by decide +kernel
theorem d3_9 : decode jdk_38_method_1_code 9 = .ok (.iload_n 1, 1) := by decide +kernel
theorem d3_10 : decode jdk_38_method_1_code 10 = .ok (.anewarray 7, 3) := by decide +kernel
theorem d3_13 : decode jdk_38_method_1_code 13 = .ok (.putfield 9, 3) := by decide +kernel
theorem d3_16 : decode jdk_38_method_1_code 16 = .ok (.goto 44, 3) := by decide +kernel
theorem d3_19 : decode jdk_38_method_1_code 19 = .ok (.iload_n 1, 1) := by decide +kernel
theorem d3_20 : decode jdk_38_method_1_code 20 = .ok (.ifCond .ne 13, 3) := by decide +kernel
theorem d3_23 : decode jdk_38_method_1_code 23 = .ok (.aload_n 0, 1) := by decide +kernel
theorem d3_24 : decode jdk_38_method_1_code 24 = .ok (.getstatic 15, 3) := by decide +kernel
theorem d3_27 : decode jdk_38_method_1_code 27 = .ok (.putfield 9, 3) := by decide +kernel
theorem d3_30 : decode jdk_38_method_1_code 30 = .ok (.goto 30, 3) := by decide +kernel
theorem d3_33 : decode jdk_38_method_1_code 33 = .ok (.new 18, 3) := by decide +kernel
theorem d3_36 : decode jdk_38_method_1_code 36 = .ok (.dup, 1) := by decide +kernel
theorem d3_37 : decode jdk_38_method_1_code 37 = .ok (.new 20, 3) := by decide +kernel
theorem d3_40 : decode jdk_38_method_1_code 40 = .ok (.dup, 1) := by decide +kernel
theorem d3_41 : decode jdk_38_method_1_code 41 = .ok (.invokespecial 22, 3) := by decide +kernel
theorem d3_44 : decode jdk_38_method_1_code 44 = .ok (.ldc 23, 2) := by decide +kernel
theorem d3_46 : decode jdk_38_method_1_code 46 = .ok (.invokevirtual 25, 3) := by decide +kernel
theorem d3_49 : decode jdk_38_method_1_code 49 = .ok (.iload_n 1, 1) := by decide +kernel
theorem d3_50 : decode jdk_38_method_1_code 50 = .ok (.invokevirtual 29, 3) := by decide +kernel
theorem d3_53 : decode jdk_38_method_1_code 53 = .ok (.invokevirtual 32, 3) := by decide +kernel
theorem d3_56 : decode jdk_38_method_1_code 56 = .ok (.invokespecial 36, 3) := by decide +kernel
theorem d3_59 : decode jdk_38_method_1_code 59 = .ok (.athrow, 1) := by decide +kernel
theorem d3_60 : decode jdk_38_method_1_code 60 = .ok (.return_, 1) := by decide +kernel

theorem d11_0 : decode jdk_38_method_2_code 0 = .ok (.aload_n 0, 1) := by decide +kernel
theorem d11_1 : decode jdk_38_method_2_code 1 = .ok (.invokespecial 1, 3) := by decide +kernel
theorem d11_4 : decode jdk_38_method_2_code 4 = .ok (.aload_n 0, 1) := by decide +kernel
theorem d11_5 : decode jdk_38_method_2_code 5 = .ok (.getstatic 39, 3) := by decide +kernel
theorem d11_8 : decode jdk_38_method_2_code 8 = .ok (.putfield 9, 3) := by decide +kernel
theorem d11_11 : decode jdk_38_method_2_code 11 = .ok (.return_, 1) := by decide +kernel

theorem d6_0 : decode jdk_40_method_36_code 0 = .ok (.getstatic 90, 3) := by decide +kernel
theorem d6_3 : decode jdk_40_method_36_code 3 = .ok (.areturn, 1) := by decide +kernel

theorem d1_0 : decode prog_56_method_1_code 0 = .ok (.aload_n 0, 1) := by decide +kernel
theorem d1_1 : decode prog_56_method_1_code 1 = .ok (.invokespecial 1, 3) := by decide +kernel
theorem d1_4 : decode prog_56_method_1_code 4 = .ok (.aload_n 0, 1) := by decide +kernel
theorem d1_5 : decode prog_56_method_1_code 5 = .ok (.new 7, 3) := by decide +kernel
theorem d1_8 : decode prog_56_method_1_code 8 = .ok (.dup, 1) := by decide +kernel
theorem d1_9 : decode prog_56_method_1_code 9 = .ok (.bipush 16, 2) := by decide +kernel
theorem d1_11 : decode prog_56_method_1_code 11 = .ok (.invokespecial 11, 3) := by decide +kernel
theorem d1_14 : decode prog_56_method_1_code 14 = .ok (.putfield 14, 3) := by decide +kernel
theorem d1_17 : decode prog_56_method_1_code 17 = .ok (.aload_n 0, 1) := by decide +kernel
theorem d1_18 : decode prog_56_method_1_code 18 = .ok (.getstatic 18, 3) := by decide +kernel
theorem d1_21 : decode prog_56_method_1_code 21 = .ok (.putfield 24, 3) := by decide +kernel
theorem d1_24 : decode prog_56_method_1_code 24 = .ok (.aload_n 0, 1) := by decide +kernel
theorem d1_25 : decode prog_56_method_1_code 25 = .ok (.invokestatic 27, 3) := by decide +kernel
theorem d1_28 : decode prog_56_method_1_code 28 = .ok (.putfield 33, 3) := by decide +kernel
theorem d1_31 : decode prog_56_method_1_code 31 = .ok (.aload_n 0, 1) := by decide +kernel
theorem d1_32 : decode prog_56_method_1_code 32 = .ok (.iload_n 1, 1) := by decide +kernel
theorem d1_33 : decode prog_56_method_1_code 33 = .ok (.putfield 36, 3) := by decide +kernel
theorem d1_36 : decode prog_56_method_1_code 36 = .ok (.aload_n 0, 1) := by decide +kernel
theorem d1_37 : decode prog_56_method_1_code 37 = .ok (.lload_n 2, 1) := by decide +kernel
theorem d1_38 : decode prog_56_method_1_code 38 = .ok (.putfield 40, 3) := by decide +kernel
theorem d1_41 : decode prog_56_method_1_code 41 = .ok (.return_, 1) := by decide +kernel

theorem d8_0 : decode jdk_30_method_1_code 0 = .ok (.aload_n 0, 1) := by decide +kernel
theorem d8_1 : decode jdk_30_method_1_code 1 = .ok (.invokespecial 1, 3) := by decide +kernel
theorem d8_4 : decode jdk_30_method_1_code 4 = .ok (.return_, 1) := by decide +kernel

theorem d7_0 : decode prog_57_method_1_code 0 = .ok (.aload_n 0, 1) := by decide +kernel
theorem d7_1 : decode prog_57_method_1_code 1 = .ok (.invokespecial 1, 3) := by decide +kernel
theorem d7_4 : decode prog_57_method_1_code 4 = .ok (.aload_n 0, 1) := by decide +kernel
theorem d7_5 : decode prog_57_method_1_code 5 = .ok (.aload_n 1, 1) := by decide +kernel
theorem d7_6 : decode prog_57_method_1_code 6 = .ok (.putfield 7, 3) := by decide +kernel
theorem d7_9 : decode prog_57_method_1_code 9 = .ok (.aload_n 0, 1) := by decide +kernel
theorem d7_10 : decode prog_57_method_1_code 10 = .ok (.aload_n 2, 1) := by decide +kernel
theorem d7_11 : decode prog_57_method_1_code 11 = .ok (.putfield 13, 3) := by decide +kernel
theorem d7_14 : decode prog_57_method_1_code 14 = .ok (.return_, 1) := by decide +kernel

theorem d10_0 : decode jdk_45_method_2_code 0 = .ok (.aload_n 0, 1) := by decide +kernel
theorem d10_1 : decode jdk_45_method_2_code 1 = .ok (.getfield 7, 3) := by decide +kernel
theorem d10_4 : decode jdk_45_method_2_code 4 = .ok (.arraylength, 1) := by decide +kernel
theorem d10_5 : decode jdk_45_method_2_code 5 = .ok (.ifCond .ne 7, 3) := by decide +kernel
theorem d10_8 : decode jdk_45_method_2_code 8 = .ok (.iconst 1, 1) := by decide +kernel
theorem d10_9 : decode jdk_45_method_2_code 9 = .ok (.goto 4, 3) := by decide +kernel
theorem d10_12 : decode jdk_45_method_2_code 12 = .ok (.iconst 0, 1) := by decide +kernel
theorem d10_13 : decode jdk_45_method_2_code 13 = .ok (.ireturn, 1) := by decide +kernel

theorem d17_0 : decode jdk_38_method_9_code 0 = .ok (.aload_n 0, 1) := by decide +kernel
theorem d17_1 : decode jdk_38_method_9_code 1 = .ok (.getfield 48, 3) := by decide +kernel
theorem d17_4 : decode jdk_38_method_9_code 4 = .ok (.ifCond .ne 7, 3) := by decide +kernel
theorem d17_7 : decode jdk_38_method_9_code 7 = .ok (.iconst 1, 1) := by decide +kernel
theorem d17_8 : decode jdk_38_method_9_code 8 = .ok (.goto 4, 3) := by decide +kernel
theorem d17_11 : decode jdk_38_method_9_code 11 = .ok (.iconst 0, 1) := by decide +kernel
theorem d17_12 : decode jdk_38_method_9_code 12 = .ok (.ireturn, 1) := by decide +kernel

theorem d16_0 : decode jdk_29_method_65_code 0 = .ok (.iload_n 0, 1) := by decide +kernel
theorem d16_1 : decode jdk_29_method_65_code 1 = .ok (.iload_n 1, 1) := by decide +kernel
theorem d16_2 : decode jdk_29_method_65_code 2 = .ok (.if_icmp .lt 7, 3) := by decide +kernel
theorem d16_5 : decode jdk_29_method_65_code 5 = .ok (.iload_n 0, 1) := by decide +kernel
theorem d16_6 : decode jdk_29_method_65_code 6 = .ok (.goto 4, 3) := by decide +kernel
theorem d16_9 : decode jdk_29_method_65_code 9 = .ok (.iload_n 1, 1) := by decide +kernel
theorem d16_10 : decode jdk_29_method_65_code 10 = .ok (.ireturn, 1) := by decide +kernel

theorem d15_0 : decode jdk_38_method_6_code 0 = .ok (.aload_n 0, 1) := by decide +kernel
theorem d15_1 : decode jdk_38_method_6_code 1 = .ok (.getfield 9, 3) := by decide +kernel
theorem d15_4 : decode jdk_38_method_6_code 4 = .ok (.arraylength, 1) := by decide +kernel
theorem d15_5 : decode jdk_38_method_6_code 5 = .ok (.istore_n 2, 1) := by decide +kernel
theorem d15_6 : decode jdk_38_method_6_code 6 = .ok (.iload_n 2, 1) := by decide +kernel
theorem d15_7 : decode jdk_38_method_6_code 7 = .ok (.ifCond .gt 13, 3) := by decide +kernel
theorem d15_10 : decode jdk_38_method_6_code 10 = .ok (.aload_n 0, 1) := by decide +kernel
theorem d15_11 : decode jdk_38_method_6_code 11 = .ok (.getfield 9, 3) := by decide +kernel
theorem d15_14 : decode jdk_38_method_6_code 14 = .ok (.getstatic 39, 3) := by decide +kernel
theorem d15_17 : decode jdk_38_method_6_code 17 = .ok (.if_acmp .eq 28, 3) := by decide +kernel
theorem d15_20 : decode jdk_38_method_6_code 20 = .ok (.iload_n 2, 1) := by decide +kernel
theorem d15_21 : decode jdk_38_method_6_code 21 = .ok (.iload_n 1, 1) := by decide +kernel
theorem d15_22 : decode jdk_38_method_6_code 22 = .ok (.iload_n 2, 1) := by decide +kernel
theorem d15_23 : decode jdk_38_method_6_code 23 = .ok (.isub, 1) := by decide +kernel
theorem d15_24 : decode jdk_38_method_6_code 24 = .ok (.iload_n 2, 1) := by decide +kernel
theorem d15_25 : decode jdk_38_method_6_code 25 = .ok (.iconst 1, 1) := by decide +kernel
theorem d15_26 : decode jdk_38_method_6_code 26 = .ok (.ishr, 1) := by decide +kernel
theorem d15_27 : decode jdk_38_method_6_code 27 = .ok (.invokestatic 73, 3) := by decide +kernel
theorem d15_30 : decode jdk_38_method_6_code 30 = .ok (.istore_n 3, 1) := by decide +kernel
theorem d15_31 : decode jdk_38_method_6_code 31 = .ok (.aload_n 0, 1) := by decide +kernel
theorem d15_32 : decode jdk_38_method_6_code 32 = .ok (.aload_n 0, 1) := by decide +kernel
theorem d15_33 : decode jdk_38_method_6_code 33 = .ok (.getfield 9, 3) := by decide +kernel
theorem d15_36 : decode jdk_38_method_6_code 36 = .ok (.iload_n 3, 1) := by decide +kernel
theorem d15_37 : decode jdk_38_method_6_code 37 = .ok (.invokestatic 66, 3) := by decide +kernel
theorem d15_40 : decode jdk_38_method_6_code 40 = .ok (.dup_x1, 1) := by decide +kernel
theorem d15_41 : decode jdk_38_method_6_code 41 = .ok (.putfield 9, 3) := by decide +kernel
theorem d15_44 : decode jdk_38_method_6_code 44 = .ok (.areturn, 1) := by decide +kernel
theorem d15_45 : decode jdk_38_method_6_code 45 = .ok (.aload_n 0, 1) := by decide +kernel
theorem d15_46 : decode jdk_38_method_6_code 46 = .ok (.bipush 10, 2) := by decide +kernel
theorem d15_48 : decode jdk_38_method_6_code 48 = .ok (.iload_n 1, 1) := by decide +kernel
theorem d15_49 : decode jdk_38_method_6_code 49 = .ok (.invokestatic 79, 3) := by decide +kernel
theorem d15_52 : decode jdk_38_method_6_code 52 = .ok (.anewarray 7, 3) := by decide +kernel
theorem d15_55 : decode jdk_38_method_6_code 55 = .ok (.dup_x1, 1) := by decide +kernel
theorem d15_56 : decode jdk_38_method_6_code 56 = .ok (.putfield 9, 3) := by decide +kernel
theorem d15_59 : decode jdk_38_method_6_code 59 = .ok (.areturn, 1) := by decide +kernel

theorem d14_0 : decode jdk_38_method_7_code 0 = .ok (.aload_n 0, 1) := by decide +kernel
theorem d14_1 : decode jdk_38_method_7_code 1 = .ok (.aload_n 0, 1) := by decide +kernel
theorem d14_2 : decode jdk_38_method_7_code 2 = .ok (.getfield 48, 3) := by decide +kernel
theorem d14_5 : decode jdk_38_method_7_code 5 = .ok (.iconst 1, 1) := by decide +kernel
theorem d14_6 : decode jdk_38_method_7_code 6 = .ok (.iadd, 1) := by decide +kernel
theorem d14_7 : decode jdk_38_method_7_code 7 = .ok (.invokevirtual 69, 3) := by decide +kernel
theorem d14_10 : decode jdk_38_method_7_code 10 = .ok (.areturn, 1) := by decide +kernel

theorem d13_0 : decode jdk_38_method_24_code 0 = .ok (.iload_n 3, 1) := by decide +kernel
theorem d13_1 : decode jdk_38_method_24_code 1 = .ok (.aload_n 2, 1) := by decide +kernel
theorem d13_2 : decode jdk_38_method_24_code 2 = .ok (.arraylength, 1) := by decide +kernel
theorem d13_3 : decode jdk_38_method_24_code 3 = .ok (.if_icmp .ne 8, 3) := by decide +kernel
theorem d13_6 : decode jdk_38_method_24_code 6 = .ok (.aload_n 0, 1) := by decide +kernel
theorem d13_7 : decode jdk_38_method_24_code 7 = .ok (.invokevirtual 129, 3) := by decide +kernel
theorem d13_10 : decode jdk_38_method_24_code 10 = .ok (.astore_n 2, 1) := by decide +kernel
theorem d13_11 : decode jdk_38_method_24_code 11 = .ok (.aload_n 2, 1) := by decide +kernel
theorem d13_12 : decode jdk_38_method_24_code 12 = .ok (.iload_n 3, 1) := by decide +kernel
theorem d13_13 : decode jdk_38_method_24_code 13 = .ok (.aload_n 1, 1) := by decide +kernel
theorem d13_14 : decode jdk_38_method_24_code 14 = .ok (.aastore, 1) := by decide +kernel
theorem d13_15 : decode jdk_38_method_24_code 15 = .ok (.aload_n 0, 1) := by decide +kernel
theorem d13_16 : decode jdk_38_method_24_code 16 = .ok (.iload_n 3, 1) := by decide +kernel
theorem d13_17 : decode jdk_38_method_24_code 17 = .ok (.iconst 1, 1) := by decide +kernel
theorem d13_18 : decode jdk_38_method_24_code 18 = .ok (.iadd, 1) := by decide +kernel
theorem d13_19 : decode jdk_38_method_24_code 19 = .ok (.putfield 48, 3) := by decide +kernel
theorem d13_22 : decode jdk_38_method_24_code 22 = .ok (.return_, 1) := by decide +kernel

theorem d12_0 : decode jdk_38_method_25_code 0 = .ok (.aload_n 0, 1) := by decide +kernel
theorem d12_1 : decode jdk_38_method_25_code 1 = .ok (.dup, 1) := by decide +kernel
theorem d12_2 : decode jdk_38_method_25_code 2 = .ok (.getfield 63, 3) := by decide +kernel
theorem d12_5 : decode jdk_38_method_25_code 5 = .ok (.iconst 1, 1) := by decide +kernel
theorem d12_6 : decode jdk_38_method_25_code 6 = .ok (.iadd, 1) := by decide +kernel
theorem d12_7 : decode jdk_38_method_25_code 7 = .ok (.putfield 63, 3) := by decide +kernel
theorem d12_10 : decode jdk_38_method_25_code 10 = .ok (.aload_n 0, 1) := by decide +kernel
theorem d12_11 : decode jdk_38_method_25_code 11 = .ok (.aload_n 1, 1) := by decide +kernel
theorem d12_12 : decode jdk_38_method_25_code 12 = .ok (.aload_n 0, 1) := by decide +kernel
theorem d12_13 : decode jdk_38_method_25_code 13 = .ok (.getfield 9, 3) := by decide +kernel
theorem d12_16 : decode jdk_38_method_25_code 16 = .ok (.aload_n 0, 1) := by decide +kernel
theorem d12_17 : decode jdk_38_method_25_code 17 = .ok (.getfield 48, 3) := by decide +kernel
theorem d12_20 : decode jdk_38_method_25_code 20 = .ok (.invokevirtual 131, 3) := by decide +kernel
theorem d12_23 : decode jdk_38_method_25_code 23 = .ok (.iconst 1, 1) := by decide +kernel
theorem d12_24 : decode jdk_38_method_25_code 24 = .ok (.ireturn, 1) := by decide +kernel

theorem d9_0 : decode prog_56_method_14_code 0 = .ok (.aload_n 0, 1) := by decide +kernel
theorem d9_1 : decode prog_56_method_14_code 1 = .ok (.getfield 33, 3) := by decide +kernel
theorem d9_4 : decode prog_56_method_14_code 4 = .ok (.invokeinterface 83 1, 5) := by decide +kernel
theorem d9_9 : decode prog_56_method_14_code 9 = .ok (.ifCond .eq 14, 3) := by decide +kernel
theorem d9_12 : decode prog_56_method_14_code 12 = .ok (.aload_n 0, 1) := by decide +kernel
theorem d9_13 : decode prog_56_method_14_code 13 = .ok (.new 7, 3) := by decide +kernel
theorem d9_16 : decode prog_56_method_14_code 16 = .ok (.dup, 1) := by decide +kernel
theorem d9_17 : decode prog_56_method_14_code 17 = .ok (.invokespecial 87, 3) := by decide +kernel
theorem d9_20 : decode prog_56_method_14_code 20 = .ok (.putfield 33, 3) := by decide +kernel
theorem d9_23 : decode prog_56_method_14_code 23 = .ok (.aload_n 0, 1) := by decide +kernel
theorem d9_24 : decode prog_56_method_14_code 24 = .ok (.getfield 33, 3) := by decide +kernel
theorem d9_27 : decode prog_56_method_14_code 27 = .ok (.aload_n 1, 1) := by decide +kernel
theorem d9_28 : decode prog_56_method_14_code 28 = .ok (.invokeinterface 88 2, 5) := by decide +kernel
theorem d9_33 : decode prog_56_method_14_code 33 = .ok (.pop, 1) := by decide +kernel
theorem d9_34 : decode prog_56_method_14_code 34 = .ok (.aload_n 1, 1) := by decide +kernel
theorem d9_35 : decode prog_56_method_14_code 35 = .ok (.dup, 1) := by decide +kernel
theorem d9_36 : decode prog_56_method_14_code 36 = .ok (.getfield 92, 3) := by decide +kernel
theorem d9_39 : decode prog_56_method_14_code 39 = .ok (.iconst 1, 1) := by decide +kernel
theorem d9_40 : decode prog_56_method_14_code 40 = .ok (.iadd, 1) := by decide +kernel
theorem d9_41 : decode prog_56_method_14_code 41 = .ok (.putfield 92, 3) := by decide +kernel
theorem d9_44 : decode prog_56_method_14_code 44 = .ok (.return_, 1) := by decide +kernel

theorem d18_0 : decode prog_56_method_18_code 0 = .ok (.aload_n 0, 1) := by decide +kernel
theorem d18_1 : decode prog_56_method_18_code 1 = .ok (.dup, 1) := by decide +kernel
theorem d18_2 : decode prog_56_method_18_code 2 = .ok (.getfield 92, 3) := by decide +kernel
theorem d18_5 : decode prog_56_method_18_code 5 = .ok (.iconst 1, 1) := by decide +kernel
theorem d18_6 : decode prog_56_method_18_code 6 = .ok (.isub, 1) := by decide +kernel
theorem d18_7 : decode prog_56_method_18_code 7 = .ok (.putfield 92, 3) := by decide +kernel
theorem d18_10 : decode prog_56_method_18_code 10 = .ok (.aload_n 0, 1) := by decide +kernel
theorem d18_11 : decode prog_56_method_18_code 11 = .ok (.getfield 92, 3) := by decide +kernel
theorem d18_14 : decode prog_56_method_18_code 14 = .ok (.ifCond .ne 14, 3) := by decide +kernel
theorem d18_17 : decode prog_56_method_18_code 17 = .ok (.aload_n 0, 1) := by decide +kernel
theorem d18_18 : decode prog_56_method_18_code 18 = .ok (.getfield 58, 3) := by decide +kernel
theorem d18_21 : decode prog_56_method_18_code 21 = .ok (.ifnull 7, 3) := by decide +kernel
theorem d18_24 : decode prog_56_method_18_code 24 = .ok (.iconst 1, 1) := by decide +kernel
theorem d18_25 : decode prog_56_method_18_code 25 = .ok (.goto 4, 3) := by decide +kernel
theorem d18_28 : decode prog_56_method_18_code 28 = .ok (.iconst 0, 1) := by decide +kernel
theorem d18_29 : decode prog_56_method_18_code 29 = .ok (.ireturn, 1) := by decide +kernel

theorem d19_0 : decode prog_56_method_16_code 0 = .ok (.aload_n 0, 1) := by decide +kernel
theorem d19_1 : decode prog_56_method_16_code 1 = .ok (.getfield 92, 3) := by decide +kernel
theorem d19_4 : decode prog_56_method_16_code 4 = .ok (.ifCond .le 7, 3) := by decide +kernel
theorem d19_7 : decode prog_56_method_16_code 7 = .ok (.iconst 1, 1) := by decide +kernel
theorem d19_8 : decode prog_56_method_16_code 8 = .ok (.goto 4, 3) := by decide +kernel
theorem d19_11 : decode prog_56_method_16_code 11 = .ok (.iconst 0, 1) := by decide +kernel
theorem d19_12 : decode prog_56_method_16_code 12 = .ok (.ireturn, 1) := by decide +kernel

theorem d20_0 : decode prog_56_method_19_code 0 = .ok (.aload_n 0, 1) := by decide +kernel
theorem d20_1 : decode prog_56_method_19_code 1 = .ok (.getfield 58, 3) := by decide +kernel
theorem d20_4 : decode prog_56_method_19_code 4 = .ok (.astore_n 1, 1) := by decide +kernel
theorem d20_5 : decode prog_56_method_19_code 5 = .ok (.aload_n 0, 1) := by decide +kernel
theorem d20_6 : decode prog_56_method_19_code 6 = .ok (.aconst_null, 1) := by decide +kernel
theorem d20_7 : decode prog_56_method_19_code 7 = .ok (.putfield 58, 3) := by decide +kernel
theorem d20_10 : decode prog_56_method_19_code 10 = .ok (.aload_n 1, 1) := by decide +kernel
theorem d20_11 : decode prog_56_method_19_code 11 = .ok (.areturn, 1) := by decide +kernel

theorem d21_0 : decode prog_56_method_17_code 0 = .ok (.aload_n 0, 1) := by decide +kernel
theorem d21_1 : decode prog_56_method_17_code 1 = .ok (.aload_n 1, 1) := by decide +kernel
theorem d21_2 : decode prog_56_method_17_code 2 = .ok (.putfield 58, 3) := by decide +kernel
theorem d21_5 : decode prog_56_method_17_code 5 = .ok (.return_, 1) := by decide +kernel

theorem pn_0 : plainFor (⟨"com/example/growshrink/growshrink/engine/TransactionRecordElderEndedPinLaw", "law", "(IIJ)Z"⟩ : MethodName) = true := by first | (apply plainFor_of_name; simp [plainName, overriddenIn]; done) | (apply plainFor_of_name; decide +kernel) | decide +kernel

theorem pn_5 : plainFor (⟨"java/util/AbstractCollection", "<init>", "()V"⟩ : MethodName) = true := by first | (apply plainFor_of_name; simp [plainName, overriddenIn]; done) | (apply plainFor_of_name; decide +kernel) | decide +kernel

theorem pn_4 : plainFor (⟨"java/util/AbstractList", "<init>", "()V"⟩ : MethodName) = true := by first | (apply plainFor_of_name; simp [plainName, overriddenIn]; done) | (apply plainFor_of_name; decide +kernel) | decide +kernel

theorem pn_3 : plainFor (⟨"java/util/ArrayList", "<init>", "(I)V"⟩ : MethodName) = true := by first | (apply plainFor_of_name; simp [plainName, overriddenIn]; done) | (apply plainFor_of_name; decide +kernel) | decide +kernel

theorem pn_11 : plainFor (⟨"java/util/ArrayList", "<init>", "()V"⟩ : MethodName) = true := by first | (apply plainFor_of_name; simp [plainName, overriddenIn]; done) | (apply plainFor_of_name; decide +kernel) | decide +kernel

theorem pn_6 : plainFor (⟨"java/util/List", "of", "()Ljava/util/List;"⟩ : MethodName) = true := by first | (apply plainFor_of_name; simp [plainName, overriddenIn]; done) | (apply plainFor_of_name; decide +kernel) | decide +kernel

theorem pn_1 : plainFor (⟨"com/example/growshrink/growshrink/engine/TransactionRecord", "<init>", "(IJ)V"⟩ : MethodName) = true := by first | (apply plainFor_of_name; simp [plainName, overriddenIn]; done) | (apply plainFor_of_name; decide +kernel) | decide +kernel

theorem pn_8 : plainFor (⟨"java/lang/Record", "<init>", "()V"⟩ : MethodName) = true := by first | (apply plainFor_of_name; simp [plainName, overriddenIn]; done) | (apply plainFor_of_name; decide +kernel) | decide +kernel

theorem pn_7 : plainFor (⟨"com/example/growshrink/growshrink/engine/TransactionRecord$Request", "<init>", "(Ljava/lang/String;Lcom/example/growshrink/growshrink/model/LockMode;)V"⟩ : MethodName) = true := by first | (apply plainFor_of_name; simp [plainName, overriddenIn]; done) | (apply plainFor_of_name; decide +kernel) | decide +kernel

theorem pn_10 : plainFor (⟨"java/util/ImmutableCollections$ListN", "isEmpty", "()Z"⟩ : MethodName) = true := by first | (apply plainFor_of_name; simp [plainName, overriddenIn]; done) | (apply plainFor_of_name; decide +kernel) | decide +kernel

theorem pn_17 : plainFor (⟨"java/util/ArrayList", "isEmpty", "()Z"⟩ : MethodName) = true := by first | (apply plainFor_of_name; simp [plainName, overriddenIn]; done) | (apply plainFor_of_name; decide +kernel) | decide +kernel

theorem pn_16 : plainFor (⟨"java/lang/Math", "max", "(II)I"⟩ : MethodName) = true := by first | (apply plainFor_of_name; simp [plainName, overriddenIn]; done) | (apply plainFor_of_name; decide +kernel) | decide +kernel

theorem pn_15 : plainFor (⟨"java/util/ArrayList", "grow", "(I)[Ljava/lang/Object;"⟩ : MethodName) = true := by first | (apply plainFor_of_name; simp [plainName, overriddenIn]; done) | (apply plainFor_of_name; decide +kernel) | decide +kernel

theorem pn_14 : plainFor (⟨"java/util/ArrayList", "grow", "()[Ljava/lang/Object;"⟩ : MethodName) = true := by first | (apply plainFor_of_name; simp [plainName, overriddenIn]; done) | (apply plainFor_of_name; decide +kernel) | decide +kernel

theorem pn_13 : plainFor (⟨"java/util/ArrayList", "add", "(Ljava/lang/Object;[Ljava/lang/Object;I)V"⟩ : MethodName) = true := by first | (apply plainFor_of_name; simp [plainName, overriddenIn]; done) | (apply plainFor_of_name; decide +kernel) | decide +kernel

theorem pn_12 : plainFor (⟨"java/util/ArrayList", "add", "(Ljava/lang/Object;)Z"⟩ : MethodName) = true := by first | (apply plainFor_of_name; simp [plainName, overriddenIn]; done) | (apply plainFor_of_name; decide +kernel) | decide +kernel

theorem pn_9 : plainFor (⟨"com/example/growshrink/growshrink/engine/TransactionRecord", "holdBack", "(Lcom/example/growshrink/growshrink/engine/TransactionRecord;)V"⟩ : MethodName) = true := by first | (apply plainFor_of_name; simp [plainName, overriddenIn]; done) | (apply plainFor_of_name; decide +kernel) | decide +kernel

theorem pn_18 : plainFor (⟨"com/example/growshrink/growshrink/engine/TransactionRecord", "elderEnded", "()Z"⟩ : MethodName) = true := by first | (apply plainFor_of_name; simp [plainName, overriddenIn]; done) | (apply plainFor_of_name; decide +kernel) | decide +kernel

theorem pn_19 : plainFor (⟨"com/example/growshrink/growshrink/engine/TransactionRecord", "awaitsElders", "()Z"⟩ : MethodName) = true := by first | (apply plainFor_of_name; simp [plainName, overriddenIn]; done) | (apply plainFor_of_name; decide +kernel) | decide +kernel

theorem pn_20 : plainFor (⟨"com/example/growshrink/growshrink/engine/TransactionRecord", "unhold", "()Lcom/example/growshrink/growshrink/engine/TransactionRecord$Request;"⟩ : MethodName) = true := by first | (apply plainFor_of_name; simp [plainName, overriddenIn]; done) | (apply plainFor_of_name; decide +kernel) | decide +kernel

theorem pn_21 : plainFor (⟨"com/example/growshrink/growshrink/engine/TransactionRecord", "hold", "(Lcom/example/growshrink/growshrink/engine/TransactionRecord$Request;)V"⟩ : MethodName) = true := by first | (apply plainFor_of_name; simp [plainName, overriddenIn]; done) | (apply plainFor_of_name; decide +kernel) | decide +kernel

theorem pd_5 : parseMethodDescriptor "()V" = some ⟨[], none⟩ := by decide +kernel
theorem pd_4 : parseMethodDescriptor "()V" = some ⟨[], none⟩ := by decide +kernel
theorem pd_3 : parseMethodDescriptor "(I)V" = some ⟨[.int], none⟩ := by decide +kernel
theorem pd_11 : parseMethodDescriptor "()V" = some ⟨[], none⟩ := by decide +kernel
theorem pd_6 : parseMethodDescriptor "()Ljava/util/List;" = some ⟨[], (some (.object "java/util/List"))⟩ := by decide +kernel
theorem pd_1 : parseMethodDescriptor "(IJ)V" = some ⟨[.int, .long], none⟩ := by decide +kernel
theorem pd_8 : parseMethodDescriptor "()V" = some ⟨[], none⟩ := by decide +kernel
theorem pd_7 : parseMethodDescriptor "(Ljava/lang/String;Lcom/example/growshrink/growshrink/model/LockMode;)V" = some ⟨[(.object "java/lang/String"), (.object "com/example/growshrink/growshrink/model/LockMode")], none⟩ := by decide +kernel
theorem pd_10 : parseMethodDescriptor "()Z" = some ⟨[], (some .boolean)⟩ := by decide +kernel
theorem pd_17 : parseMethodDescriptor "()Z" = some ⟨[], (some .boolean)⟩ := by decide +kernel
theorem pd_16 : parseMethodDescriptor "(II)I" = some ⟨[.int, .int], (some .int)⟩ := by decide +kernel
theorem pd_15 : parseMethodDescriptor "(I)[Ljava/lang/Object;" = some ⟨[.int], (some (.array (.object "java/lang/Object")))⟩ := by decide +kernel
theorem pd_14 : parseMethodDescriptor "()[Ljava/lang/Object;" = some ⟨[], (some (.array (.object "java/lang/Object")))⟩ := by decide +kernel
theorem pd_13 : parseMethodDescriptor "(Ljava/lang/Object;[Ljava/lang/Object;I)V" = some ⟨[(.object "java/lang/Object"), (.array (.object "java/lang/Object")), .int], none⟩ := by decide +kernel
theorem pd_12 : parseMethodDescriptor "(Ljava/lang/Object;)Z" = some ⟨[(.object "java/lang/Object")], (some .boolean)⟩ := by decide +kernel
theorem pd_9 : parseMethodDescriptor "(Lcom/example/growshrink/growshrink/engine/TransactionRecord;)V" = some ⟨[(.object "com/example/growshrink/growshrink/engine/TransactionRecord")], none⟩ := by decide +kernel
theorem pd_18 : parseMethodDescriptor "()Z" = some ⟨[], (some .boolean)⟩ := by decide +kernel
theorem pd_19 : parseMethodDescriptor "()Z" = some ⟨[], (some .boolean)⟩ := by decide +kernel
theorem pd_20 : parseMethodDescriptor "()Lcom/example/growshrink/growshrink/engine/TransactionRecord$Request;" = some ⟨[], (some (.object "com/example/growshrink/growshrink/engine/TransactionRecord$Request"))⟩ := by decide +kernel
theorem pd_21 : parseMethodDescriptor "(Lcom/example/growshrink/growshrink/engine/TransactionRecord$Request;)V" = some ⟨[(.object "com/example/growshrink/growshrink/engine/TransactionRecord$Request")], none⟩ := by decide +kernel
set_option maxRecDepth 65536 in
set_option maxHeartbeats 40000000 in
theorem rm5 (l : Launch) (Z : State) (ag : Array Value) (hw : ∀ d ∈ tables_1, d.before ag Z = true) (a : Addr) (h0 : Heap) (n0 : Nat)  :
    Ctr l Z (⟨"java/util/AbstractCollection", "<init>", "()V"⟩ : MethodName) jdk_22_method_1_code 1 none ({ frames := 1, cells := 0, slots := 0, locals := 12 } : Room) #[.ref a] h0 (fun v h L => v = none ∧ Fr n0 L ∧ h0 = h) := by
  refine Ctr.of pn_5 ?_
  intro p e s m below meth c T0 X0 B e0
  refine Go.cast (f' := mkF m 0 #[.val (.ref a)] []) (by first | rfl | (simp [entryFrame, mkF, argsToLocals, Value.category, maxLocals]; done)) ?_

  refine g_aloadN X0 B d5_0 1 rfl rfl rfl ?_
  obtain ⟨T1, X1, e1, st1⟩ := initO X0 B.x B.z B.o (hw _ (List.mem_of_getElem? (i := 27) rfl)) (hw _ (List.mem_of_getElem? (i := 7) rfl)) (hw _ (List.mem_of_getElem? (i := 8) rfl)) e0 (g := mkF m 1 #[.val (.ref a)] [.ref a]) rfl (B.mx rfl) rfl (B.d d5_1) (by decide) (W := 0) (by show 2 * 0 + _ ≤ _; exact Nat.le_of_eq rfl) (by decide)
  refine Go.via st1 ?_
  show Go p e below _ (T1.setTop (mkF m 4 #[.val (.ref a)] []))
  exact g_retV X1 B d5_4 rfl (by decide) (by decide) e1 ⟨rfl, (Fr.nil n0), rfl⟩
set_option maxRecDepth 65536 in
set_option maxHeartbeats 40000000 in
theorem rm8 (l : Launch) (Z : State) (ag : Array Value) (hw : ∀ d ∈ tables_1, d.before ag Z = true) (a : Addr) (h0 : Heap) (n0 : Nat)  :
    Ctr l Z (⟨"java/lang/Record", "<init>", "()V"⟩ : MethodName) jdk_30_method_1_code 1 none ({ frames := 1, cells := 0, slots := 0, locals := 12 } : Room) #[.ref a] h0 (fun v h L => v = none ∧ Fr n0 L ∧ h0 = h) := by
  refine Ctr.of pn_8 ?_
  intro p e s m below meth c T0 X0 B e0
  refine Go.cast (f' := mkF m 0 #[.val (.ref a)] []) (by first | rfl | (simp [entryFrame, mkF, argsToLocals, Value.category, maxLocals]; done)) ?_

  refine g_aloadN X0 B d8_0 1 rfl rfl rfl ?_
  obtain ⟨T1, X1, e1, st1⟩ := initO X0 B.x B.z B.o (hw _ (List.mem_of_getElem? (i := 64) rfl)) (hw _ (List.mem_of_getElem? (i := 7) rfl)) (hw _ (List.mem_of_getElem? (i := 8) rfl)) e0 (g := mkF m 1 #[.val (.ref a)] [.ref a]) rfl (B.mx rfl) rfl (B.d d8_1) (by decide) (W := 0) (by show 2 * 0 + _ ≤ _; exact Nat.le_of_eq rfl) (by decide)
  refine Go.via st1 ?_
  show Go p e below _ (T1.setTop (mkF m 4 #[.val (.ref a)] []))
  exact g_retV X1 B d8_4 rfl (by decide) (by decide) e1 ⟨rfl, (Fr.nil n0), rfl⟩
set_option maxRecDepth 65536 in
set_option maxHeartbeats 40000000 in
theorem rm4 (l : Launch) (Z : State) (ag : Array Value) (hw : ∀ d ∈ tables_1, d.before ag Z = true) (a : Addr) (x : Int32) (h0 : Heap) (n0 : Nat) (Z0 : n0 ≤ h0.size) (ga : n0 ≤ a) (Ea : Exa Z h0 a "java/util/ArrayList") (FM : Fld Z h0 a "java/util/AbstractList" "modCount" "I" (.int x)) :
    Ctr l Z (⟨"java/util/AbstractList", "<init>", "()V"⟩ : MethodName) jdk_39_method_1_code 1 none ({ frames := 2, cells := 0, slots := 0, locals := 24 } : Room) #[.ref a] h0 (fun v h L => v = none ∧ Fr n0 L ∧ Wr h0 h a (Jvm.RoadKit.slotOf Z "java/util/AbstractList" "modCount" "I") (.int 0)) := by
  refine Ctr.of pn_4 ?_
  intro p e s m below meth c T0 X0 B e0
  refine Go.cast (f' := mkF m 0 #[.val (.ref a)] []) (by first | rfl | (simp [entryFrame, mkF, argsToLocals, Value.category, maxLocals]; done)) ?_

  refine g_aloadN X0 B d4_0 1 rfl rfl rfl ?_
  refine g_callN X0 B [] [] d4_1 4 rfl rfl rfl (hw _ (List.mem_of_getElem? (i := 21) rfl)) (hw _ (List.mem_of_getElem? (i := 22) rfl)) (hw _ (List.mem_of_getElem? (i := 26) rfl)) (hw _ (List.mem_of_getElem? (i := 25) rfl)) (by decide) (lenOf pd_5 rfl) (rm5 l Z ag hw a h0 n0) e0 rfl 0 (Nat.le_of_eq rfl) (by decide) (by decide) (by decide) (by decide) (fun v1 T1 h1 L1 X1 e1 q1 => ?_)
  obtain ⟨rfl, N1, rfl⟩ := q1
  show Go p e below _ (T1.setTop (mkF m 4 #[.val (.ref a)] []))
  refine g_aloadN X1 B d4_4 5 rfl rfl rfl ?_
  refine g_iconst X1 B (0) d4_5 6 rfl rfl ?_
  refine g_putF X1 B d4_6 9 rfl (hw _ (List.mem_of_getElem? (i := 28) rfl)) Via.refl e1 FM Ea (Or.inl (hw _ (List.mem_of_getElem? (i := 29) rfl))) (hw _ (List.mem_of_getElem? (i := 10) rfl)) (ty := .int) (by decide) rfl rfl (fun T2 h2 X2 e2 W2 => ?_)
  have F2 := FM.same W2
  exact g_retV X2 B d4_9 rfl (by decide) (by decide) e2 ⟨rfl, (Fr.snoc X2 ((Fr.nil n0).app N1) ga), W2⟩
set_option maxRecDepth 65536 in
set_option maxHeartbeats 40000000 in
theorem rm3 (l : Launch) (Z : State) (ag : Array Value) (hw : ∀ d ∈ tables_1, d.before ag Z = true) (a : Addr) (x : Int32) (h0 : Heap) (n0 : Nat) (Z0 : n0 ≤ h0.size) (ga : n0 ≤ a) (Ea : Exa Z h0 a "java/util/ArrayList") (FM : Fld Z h0 a "java/util/AbstractList" "modCount" "I" (.int x)) (FE : Fld Z h0 a "java/util/ArrayList" "elementData" "[Ljava/lang/Object;" (.null)) (FS : Fld Z h0 a "java/util/ArrayList" "size" "I" (.int 0)) :
    Ctr l Z (⟨"java/util/ArrayList", "<init>", "(I)V"⟩ : MethodName) jdk_38_method_1_code 2 none ({ frames := 3, cells := 1, slots := 16, locals := 36 } : Room) #[.ref a, .int (16 : Int32)] h0 (fun v h L => v = none ∧ Fr n0 L ∧ Keep h0 h [a]) := by
  refine Ctr.of pn_3 ?_
  intro p e s m below meth c T0 X0 B e0
  refine Go.cast (f' := mkF m 0 #[.val (.ref a), .val (.int (16 : Int32))] []) (by first | rfl | (simp [entryFrame, mkF, argsToLocals, Value.category, maxLocals]; done)) ?_

  refine g_aloadN X0 B d3_0 1 rfl rfl rfl ?_
  refine g_callN X0 B [] [] d3_1 4 rfl rfl rfl (hw _ (List.mem_of_getElem? (i := 15) rfl)) (hw _ (List.mem_of_getElem? (i := 16) rfl)) (hw _ (List.mem_of_getElem? (i := 20) rfl)) (hw _ (List.mem_of_getElem? (i := 19) rfl)) (by decide) (lenOf pd_4 rfl) (rm4 l Z ag hw a _ h0 n0 Z0 ga Ea FM) e0 rfl 0 (Nat.le_of_eq rfl) (by decide) (by decide) (by decide) (by decide) (fun v1 T1 h1 L1 X1 e1 q1 => ?_)
  obtain ⟨rfl, N1, W1⟩ := q1
  show Go p e below _ (T1.setTop (mkF m 4 #[.val (.ref a), .val (.int (16 : Int32))] []))
  have F1 := FM.same W1
  refine g_iloadN X1 B d3_4 5 rfl rfl ?_
  refine g_if_le X1 B d3_5 19 8 rfl (by decide) rfl (fun z => own_abs (by decide) z) (fun _ => ?_)
  refine g_aloadN X1 B d3_8 9 rfl rfl rfl ?_
  refine g_iloadN X1 B d3_9 10 rfl rfl ?_
  refine g_newR X1 B (C := "java/lang/Object") [.null, .null, .null, .null, .null, .null, .null, .null, .null, .null, .null, .null, .null, .null, .null, .null] d3_10 13 rfl (hw _ (List.mem_of_getElem? (i := 30) rfl)) (hw _ (List.mem_of_getElem? (i := 31) rfl)) e1 (by decide) rfl (by decide) (by decide) (by decide) (fun T2 h2 ar X2 e2 ea2 E2 R2 => ?_)
  have t1 := (Nat.le_trans Z0 (Nat.le_of_eq W1.size.symm))
  have t2 := (Keep.wr (Keep.refl h0 [a]) W1 (Or.inl (List.mem_of_getElem? (i := 0) rfl)))
  have t3 := (Exa.wr W1 Ea)
  have g_ar : n0 ≤ ar := ea2 ▸ t1
  have gg_ar : h0.size ≤ ar := ea2 ▸ t2.1
  have t4 : a ≠ ar := ea2 ▸ Nat.ne_of_lt (t3.lt)
  have A2 := R2.av
  have t5 := (Fld.ext E2 (Fld.other W1 FE (Or.inr (slot_ne (Or.inl (hw _ (List.mem_of_getElem? (i := 33) rfl))) (Or.inl (hw _ (List.mem_of_getElem? (i := 29) rfl))) (by decide) (t := (.array (.object "java/lang/Object"))) (by decide) (t' := .int) (by decide)))))
  have t6 := (Exa.ext E2 t3)
  refine g_putF X2 B d3_13 16 rfl (hw _ (List.mem_of_getElem? (i := 32) rfl)) Via.refl e2 t5 t6 (Or.inl (hw _ (List.mem_of_getElem? (i := 33) rfl))) (hw _ (List.mem_of_getElem? (i := 10) rfl)) (ty := (.array (.object "java/lang/Object"))) (by decide) rfl rfl (fun T3 h3 X3 e3 W3 => ?_)
  have F3 := t5.same W3
  refine g_goto X3 B d3_16 60 rfl (by decide) ?_
  have t7 := (Keep.wr (Keep.ext t2 E2) W3 (Or.inl (List.mem_of_getElem? (i := 0) rfl)))
  exact g_retV X3 B d3_60 rfl (by decide) (by decide) e3 ⟨rfl, (Fr.snoc X3 ((Fr.nil n0).app N1) ga), t7⟩
set_option maxRecDepth 65536 in
set_option maxHeartbeats 40000000 in
theorem rm11 (l : Launch) (Z : State) (ag : Array Value) (hw : ∀ d ∈ tables_1, d.before ag Z = true) (a aD : Addr) (x : Int32) (h0 : Heap) (n0 : Nat) (Z0 : n0 ≤ h0.size) (ga : n0 ≤ a) (Ea : Exa Z h0 a "java/util/ArrayList") (FM : Fld Z h0 a "java/util/AbstractList" "modCount" "I" (.int x)) (FE : Fld Z h0 a "java/util/ArrayList" "elementData" "[Ljava/lang/Object;" (.null)) (FS : Fld Z h0 a "java/util/ArrayList" "size" "I" (.int 0)) (SD : Sta Z h0 "java/util/ArrayList" "DEFAULTCAPACITY_EMPTY_ELEMENTDATA" "[Ljava/lang/Object;" (.ref aD)) :
    Ctr l Z (⟨"java/util/ArrayList", "<init>", "()V"⟩ : MethodName) jdk_38_method_2_code 1 none ({ frames := 3, cells := 0, slots := 0, locals := 36 } : Room) #[.ref a] h0 (fun v h L => v = none ∧ Fr n0 L ∧ Keep h0 h [a] ∧ Fld Z h a "java/util/ArrayList" "elementData" "[Ljava/lang/Object;" (.ref aD) ∧ Fld Z h a "java/util/ArrayList" "size" "I" (.int 0) ∧ Fld Z h a "java/util/AbstractList" "modCount" "I" (.int 0)) := by
  refine Ctr.of pn_11 ?_
  intro p e s m below meth c T0 X0 B e0
  refine Go.cast (f' := mkF m 0 #[.val (.ref a)] []) (by first | rfl | (simp [entryFrame, mkF, argsToLocals, Value.category, maxLocals]; done)) ?_

  refine g_aloadN X0 B d11_0 1 rfl rfl rfl ?_
  refine g_callN X0 B [] [] d11_1 4 rfl rfl rfl (hw _ (List.mem_of_getElem? (i := 15) rfl)) (hw _ (List.mem_of_getElem? (i := 16) rfl)) (hw _ (List.mem_of_getElem? (i := 20) rfl)) (hw _ (List.mem_of_getElem? (i := 19) rfl)) (by decide) (lenOf pd_4 rfl) (rm4 l Z ag hw a _ h0 n0 Z0 ga Ea FM) e0 rfl 0 (Nat.le_of_eq rfl) (by decide) (by decide) (by decide) (by decide) (fun v1 T1 h1 L1 X1 e1 q1 => ?_)
  obtain ⟨rfl, N1, W1⟩ := q1
  show Go p e below _ (T1.setTop (mkF m 4 #[.val (.ref a)] []))
  have F1 := FM.same W1
  refine g_aloadN X1 B d11_4 5 rfl rfl rfl ?_
  have t1 := (Sta.wr W1 SD)
  refine g_getS X1 B d11_5 8 rfl (hw _ (List.mem_of_getElem? (i := 89) rfl)) Via.refl e1 t1 (fun T2 X2 e2 => ?_)
  have t2 := (Fld.other W1 FE (Or.inr (slot_ne (Or.inl (hw _ (List.mem_of_getElem? (i := 33) rfl))) (Or.inl (hw _ (List.mem_of_getElem? (i := 29) rfl))) (by decide) (t := (.array (.object "java/lang/Object"))) (by decide) (t' := .int) (by decide))))
  have t3 := (Exa.wr W1 Ea)
  refine g_putF X2 B d11_8 11 rfl (hw _ (List.mem_of_getElem? (i := 32) rfl)) Via.refl e2 t2 t3 (Or.inl (hw _ (List.mem_of_getElem? (i := 33) rfl))) (hw _ (List.mem_of_getElem? (i := 10) rfl)) (ty := (.array (.object "java/lang/Object"))) (by decide) rfl rfl (fun T3 h3 X3 e3 W3 => ?_)
  have F3 := t2.same W3
  have t4 := (Keep.wr (Keep.wr (Keep.refl h0 [a]) W1 (Or.inl (List.mem_of_getElem? (i := 0) rfl))) W3 (Or.inl (List.mem_of_getElem? (i := 0) rfl)))
  have t5 := (Fld.other W3 (Fld.other W1 FS (Or.inr (slot_ne (Or.inl (hw _ (List.mem_of_getElem? (i := 102) rfl))) (Or.inl (hw _ (List.mem_of_getElem? (i := 29) rfl))) (by decide) (t := .int) (by decide) (t' := .int) (by decide)))) (Or.inr (slot_ne (Or.inl (hw _ (List.mem_of_getElem? (i := 102) rfl))) (Or.inl (hw _ (List.mem_of_getElem? (i := 33) rfl))) (by decide) (t := .int) (by decide) (t' := (.array (.object "java/lang/Object"))) (by decide))))
  have t6 := (Fld.other W3 F1 (Or.inr (slot_ne (Or.inl (hw _ (List.mem_of_getElem? (i := 29) rfl))) (Or.inl (hw _ (List.mem_of_getElem? (i := 33) rfl))) (by decide) (t := .int) (by decide) (t' := (.array (.object "java/lang/Object"))) (by decide))))
  exact g_retV X3 B d11_11 rfl (by decide) (by decide) e3 ⟨rfl, (Fr.snoc X3 ((Fr.nil n0).app N1) ga), t4, F3, t5, t6⟩
set_option maxRecDepth 65536 in
set_option maxHeartbeats 40000000 in
theorem rm6 (l : Launch) (Z : State) (ag : Array Value) (hw : ∀ d ∈ tables_1, d.before ag Z = true) (aL : Addr) (h0 : Heap) (n0 : Nat) (SL : Sta Z h0 "java/util/ImmutableCollections" "EMPTY_LIST" "Ljava/util/ImmutableCollections$ListN;" (.ref aL)) :
    Ctr l Z (⟨"java/util/List", "of", "()Ljava/util/List;"⟩ : MethodName) jdk_40_method_36_code 0 (some (.object "java/util/List")) ({ frames := 0, cells := 0, slots := 0, locals := 0 } : Room) #[] h0 (fun v h L => v = some (.ref aL) ∧ Fr n0 L ∧ h0 = h) := by
  refine Ctr.of pn_6 ?_
  intro p e s m below meth c T0 X0 B e0
  refine Go.cast (f' := mkF m 0 #[] []) (by first | rfl | (simp [entryFrame, mkF, argsToLocals, Value.category, maxLocals]; done)) ?_

  refine g_getS X0 B d6_0 3 rfl (hw _ (List.mem_of_getElem? (i := 45) rfl)) Via.refl e0 SL (fun T1 X1 e1 => ?_)
  exact g_retA X1 B d6_3 rfl rfl rfl (by decide) (by decide) e1 ⟨rfl, (Fr.nil n0), rfl⟩
set_option maxRecDepth 65536 in
set_option maxHeartbeats 40000000 in
theorem rm1 (l : Launch) (Z : State) (ag : Array Value) (hw : ∀ d ∈ tables_1, d.before ag Z = true) (a aA aL : Addr) (id : Int32) (ts : Int64) (h0 : Heap) (n0 : Nat) (Z0 : n0 ≤ h0.size) (ga : n0 ≤ a) (Ea : Exa Z h0 a "com/example/growshrink/growshrink/engine/TransactionRecord") (Flocked : Fld Z h0 a "com/example/growshrink/growshrink/engine/TransactionRecord" "locked" "Ljava/util/List;" (.null)) (Fstage : Fld Z h0 a "com/example/growshrink/growshrink/engine/TransactionRecord" "stage" "Lcom/example/growshrink/growshrink/model/TransactionState;" (.null)) (FheldBack : Fld Z h0 a "com/example/growshrink/growshrink/engine/TransactionRecord" "heldBack" "Ljava/util/List;" (.null)) (Fid : Fld Z h0 a "com/example/growshrink/growshrink/engine/TransactionRecord" "id" "I" (.int 0)) (Ftimestamp : Fld Z h0 a "com/example/growshrink/growshrink/engine/TransactionRecord" "timestamp" "J" (.long 0)) (FeldersLeft : Fld Z h0 a "com/example/growshrink/growshrink/engine/TransactionRecord" "eldersLeft" "I" (.int 0)) (Fheld : Fld Z h0 a "com/example/growshrink/growshrink/engine/TransactionRecord" "held" "Lcom/example/growshrink/growshrink/engine/TransactionRecord$Request;" (.null)) (SA : Sta Z h0 "com/example/growshrink/growshrink/model/TransactionState" "ACTIVE" "Lcom/example/growshrink/growshrink/model/TransactionState;" (.ref aA)) (SL : Sta Z h0 "java/util/ImmutableCollections" "EMPTY_LIST" "Ljava/util/ImmutableCollections$ListN;" (.ref aL)) :
    Ctr l Z (⟨"com/example/growshrink/growshrink/engine/TransactionRecord", "<init>", "(IJ)V"⟩ : MethodName) prog_56_method_1_code 4 none ({ frames := 4, cells := 2, slots := 19, locals := 51 } : Room) #[.ref a, .int id, .long ts] h0 (fun v h L => v = none ∧ Fr n0 L ∧ Keep h0 h [a] ∧ Fld Z h a "com/example/growshrink/growshrink/engine/TransactionRecord" "heldBack" "Ljava/util/List;" (.ref aL) ∧ Fld Z h a "com/example/growshrink/growshrink/engine/TransactionRecord" "eldersLeft" "I" (.int 0) ∧ Fld Z h a "com/example/growshrink/growshrink/engine/TransactionRecord" "held" "Lcom/example/growshrink/growshrink/engine/TransactionRecord$Request;" (.null)) := by
  refine Ctr.of pn_1 ?_
  intro p e s m below meth c T0 X0 B e0
  refine Go.cast (f' := mkF m 0 #[.val (.ref a), .val (.int id), .val (.long ts), .second] []) (by first | rfl | (simp [entryFrame, mkF, argsToLocals, Value.category, maxLocals]; done)) ?_

  refine g_aloadN X0 B d1_0 1 rfl rfl rfl ?_
  obtain ⟨T1, X1, e1, st1⟩ := initO X0 B.x B.z B.o (hw _ (List.mem_of_getElem? (i := 6) rfl)) (hw _ (List.mem_of_getElem? (i := 7) rfl)) (hw _ (List.mem_of_getElem? (i := 8) rfl)) e0 (g := mkF m 1 #[.val (.ref a), .val (.int id), .val (.long ts), .second] [.ref a]) rfl (B.mx rfl) rfl (B.d d1_1) (by decide) (W := 0) (by show 2 * 0 + _ ≤ _; exact Nat.le_of_eq rfl) (by decide)
  refine Go.via st1 ?_
  show Go p e below _ (T1.setTop (mkF m 4 #[.val (.ref a), .val (.int id), .val (.long ts), .second] []))
  refine g_aloadN X1 B d1_4 5 rfl rfl rfl ?_
  refine g_new X1 B d1_5 8 rfl (hw _ (List.mem_of_getElem? (i := 9) rfl)) (hw _ (List.mem_of_getElem? (i := 10) rfl)) (hw _ (List.mem_of_getElem? (i := 11) rfl)) e1 (by decide) (by decide) (fun T2 h2 ls X2 e2 ea2 E2 A2 D2 => ?_)
  have g_ls : n0 ≤ ls := ea2 ▸ Z0
  have gg_ls : h0.size ≤ ls := ea2 ▸ (Keep.refl h0 [a]).1
  have t1 : a ≠ ls := ea2 ▸ Nat.ne_of_lt (Ea.lt)
  have D2_0 : Fld Z h2 ls "java/util/AbstractList" "modCount" "I" (.int 0) := D2 (Or.inl (hw _ (List.mem_of_getElem? (i := 29) rfl))) (ty := .int) (by decide)
  have D2_1 : Fld Z h2 ls "java/util/ArrayList" "elementData" "[Ljava/lang/Object;" (.null) := D2 (Or.inl (hw _ (List.mem_of_getElem? (i := 33) rfl))) (ty := (.array (.object "java/lang/Object"))) (by decide)
  have D2_2 : Fld Z h2 ls "java/util/ArrayList" "size" "I" (.int 0) := D2 (Or.inl (hw _ (List.mem_of_getElem? (i := 102) rfl))) (ty := .int) (by decide)
  refine g_dup X2 B d1_8 9 rfl rfl ?_
  refine g_bipush X2 B (16) d1_9 11 rfl rfl ?_
  have t2 := (Nat.le_trans Z0 E2.1)
  refine g_callN X2 B [.int (16 : Int32)] [.ref ls, .ref a] d1_11 14 rfl rfl rfl (hw _ (List.mem_of_getElem? (i := 12) rfl)) (hw _ (List.mem_of_getElem? (i := 13) rfl)) (hw _ (List.mem_of_getElem? (i := 14) rfl)) (hw _ (List.mem_of_getElem? (i := 11) rfl)) (by decide) (lenOf pd_3 rfl) (rm3 l Z ag hw ls _ h2 n0 t2 g_ls A2 D2_0 D2_1 D2_2) e2 rfl 2 (Nat.le_of_eq rfl) (by decide) (by decide) (by decide) (by decide) (fun v3 T3 h3 L3 X3 e3 q3 => ?_)
  obtain ⟨rfl, N3, K3⟩ := q3
  show Go p e below _ (T3.setTop (mkF m 14 #[.val (.ref a), .val (.int id), .val (.long ts), .second] [.ref ls, .ref a]))
  have t3 := (Fld.keep (Fld.ext E2 Flocked) K3 (ninS t1 nin0))
  have t4 := (Exa.keep (Exa.ext E2 Ea) K3)
  refine g_putF X3 B d1_14 17 rfl (hw _ (List.mem_of_getElem? (i := 34) rfl)) Via.refl e3 t3 t4 (Or.inr ⟨(hw _ (List.mem_of_getElem? (i := 35) rfl)), rfl, rfl⟩) (hw _ (List.mem_of_getElem? (i := 1) rfl)) (ty := (.object "java/util/List")) (by decide) rfl rfl (fun T4 h4 X4 e4 W4 => ?_)
  have F4 := t3.same W4
  refine g_aloadN X4 B d1_17 18 rfl rfl rfl ?_
  have t5 := (Sta.wr W4 (own_stkw (Sta.ext E2 SA) K3 (own_plE A2 own_pl0)))
  refine g_getS X4 B d1_18 21 rfl (hw _ (List.mem_of_getElem? (i := 36) rfl)) Via.refl e4 t5 (fun T5 X5 e5 => ?_)
  have t6 := (Fld.other W4 (Fld.keep (Fld.ext E2 Fstage) K3 (ninS t1 nin0)) (Or.inr (slot_ne (Or.inl (hw _ (List.mem_of_getElem? (i := 40) rfl))) (Or.inr (hw _ (List.mem_of_getElem? (i := 35) rfl))) (by decide) (t := (.object "com/example/growshrink/growshrink/model/TransactionState")) (by decide) (t' := (.object "java/util/List")) (by decide))))
  have t7 := (Exa.wr W4 t4)
  refine g_putF X5 B d1_21 24 rfl (hw _ (List.mem_of_getElem? (i := 39) rfl)) Via.refl e5 t6 t7 (Or.inl (hw _ (List.mem_of_getElem? (i := 40) rfl))) (hw _ (List.mem_of_getElem? (i := 1) rfl)) (ty := (.object "com/example/growshrink/growshrink/model/TransactionState")) (by decide) rfl rfl (fun T6 h6 X6 e6 W6 => ?_)
  have F6 := t6.same W6
  refine g_aloadN X6 B d1_24 25 rfl rfl rfl ?_
  have t8 := (Sta.wr W6 (Sta.wr W4 (own_stkw (Sta.ext E2 SL) K3 (own_plE A2 own_pl0))))
  refine g_callS X6 B [] [.ref a] d1_25 28 rfl rfl (hw _ (List.mem_of_getElem? (i := 41) rfl)) (hw _ (List.mem_of_getElem? (i := 42) rfl)) (hw _ (List.mem_of_getElem? (i := 43) rfl)) (hw _ (List.mem_of_getElem? (i := 44) rfl)) (by decide) (lenOf pd_6 rfl) (rm6 l Z ag hw aL h6 n0 t8) e6 rfl 1 (Nat.le_of_eq rfl) (by decide) (by decide) (by decide) (by decide) (fun v7 T7 h7 L7 X7 e7 q7 => ?_)
  obtain ⟨rfl, N7, rfl⟩ := q7
  show Go p e below _ (T7.setTop (mkF m 28 #[.val (.ref a), .val (.int id), .val (.long ts), .second] [.ref aL, .ref a]))
  have t9 := (Fld.other W6 (Fld.other W4 (Fld.keep (Fld.ext E2 FheldBack) K3 (ninS t1 nin0)) (Or.inr (slot_ne (Or.inl (hw _ (List.mem_of_getElem? (i := 48) rfl))) (Or.inr (hw _ (List.mem_of_getElem? (i := 35) rfl))) (by decide) (t := (.object "java/util/List")) (by decide) (t' := (.object "java/util/List")) (by decide)))) (Or.inr (slot_ne (Or.inl (hw _ (List.mem_of_getElem? (i := 48) rfl))) (Or.inl (hw _ (List.mem_of_getElem? (i := 40) rfl))) (by decide) (t := (.object "java/util/List")) (by decide) (t' := (.object "com/example/growshrink/growshrink/model/TransactionState")) (by decide))))
  have t10 := (Exa.wr W6 t7)
  refine g_putF X7 B d1_28 31 rfl (hw _ (List.mem_of_getElem? (i := 47) rfl)) Via.refl e7 t9 t10 (Or.inl (hw _ (List.mem_of_getElem? (i := 48) rfl))) (hw _ (List.mem_of_getElem? (i := 1) rfl)) (ty := (.object "java/util/List")) (by decide) rfl rfl (fun T8 h8 X8 e8 W8 => ?_)
  have F8 := t9.same W8
  refine g_aloadN X8 B d1_31 32 rfl rfl rfl ?_
  refine g_iloadN X8 B d1_32 33 rfl rfl ?_
  have t11 := (Fld.other W8 (Fld.other W6 (Fld.other W4 (Fld.keep (Fld.ext E2 Fid) K3 (ninS t1 nin0)) (Or.inr (slot_ne (Or.inr (hw _ (List.mem_of_getElem? (i := 50) rfl))) (Or.inr (hw _ (List.mem_of_getElem? (i := 35) rfl))) (by decide) (t := .int) (by decide) (t' := (.object "java/util/List")) (by decide)))) (Or.inr (slot_ne (Or.inr (hw _ (List.mem_of_getElem? (i := 50) rfl))) (Or.inl (hw _ (List.mem_of_getElem? (i := 40) rfl))) (by decide) (t := .int) (by decide) (t' := (.object "com/example/growshrink/growshrink/model/TransactionState")) (by decide)))) (Or.inr (slot_ne (Or.inr (hw _ (List.mem_of_getElem? (i := 50) rfl))) (Or.inl (hw _ (List.mem_of_getElem? (i := 48) rfl))) (by decide) (t := .int) (by decide) (t' := (.object "java/util/List")) (by decide))))
  have t12 := (Exa.wr W8 t10)
  refine g_putF X8 B d1_33 36 rfl (hw _ (List.mem_of_getElem? (i := 49) rfl)) Via.refl e8 t11 t12 (Or.inr ⟨(hw _ (List.mem_of_getElem? (i := 50) rfl)), rfl, rfl⟩) (hw _ (List.mem_of_getElem? (i := 1) rfl)) (ty := .int) (by decide) rfl rfl (fun T9 h9 X9 e9 W9 => ?_)
  have F9 := t11.same W9
  refine g_aloadN X9 B d1_36 37 rfl rfl rfl ?_
  refine g_lloadN X9 B d1_37 38 rfl rfl ?_
  have t13 := (Fld.other W9 (Fld.other W8 (Fld.other W6 (Fld.other W4 (Fld.keep (Fld.ext E2 Ftimestamp) K3 (ninS t1 nin0)) (Or.inr (slot_ne (Or.inr (hw _ (List.mem_of_getElem? (i := 52) rfl))) (Or.inr (hw _ (List.mem_of_getElem? (i := 35) rfl))) (by decide) (t := .long) (by decide) (t' := (.object "java/util/List")) (by decide)))) (Or.inr (slot_ne (Or.inr (hw _ (List.mem_of_getElem? (i := 52) rfl))) (Or.inl (hw _ (List.mem_of_getElem? (i := 40) rfl))) (by decide) (t := .long) (by decide) (t' := (.object "com/example/growshrink/growshrink/model/TransactionState")) (by decide)))) (Or.inr (slot_ne (Or.inr (hw _ (List.mem_of_getElem? (i := 52) rfl))) (Or.inl (hw _ (List.mem_of_getElem? (i := 48) rfl))) (by decide) (t := .long) (by decide) (t' := (.object "java/util/List")) (by decide)))) (Or.inr (slot_ne (Or.inr (hw _ (List.mem_of_getElem? (i := 52) rfl))) (Or.inr (hw _ (List.mem_of_getElem? (i := 50) rfl))) (by decide) (t := .long) (by decide) (t' := .int) (by decide))))
  have t14 := (Exa.wr W9 t12)
  refine g_putF X9 B d1_38 41 rfl (hw _ (List.mem_of_getElem? (i := 51) rfl)) Via.refl e9 t13 t14 (Or.inr ⟨(hw _ (List.mem_of_getElem? (i := 52) rfl)), rfl, rfl⟩) (hw _ (List.mem_of_getElem? (i := 1) rfl)) (ty := .long) (by decide) rfl rfl (fun T10 h10 X10 e10 W10 => ?_)
  have F10 := t13.same W10
  have t15 := (Keep.wr (Keep.wr (Keep.wr (Keep.wr (Keep.wr (Keep.trans (Keep.ext (Keep.refl h0 [a]) E2) K3 (allS (Or.inr gg_ls) all0)) W4 (Or.inl (List.mem_of_getElem? (i := 0) rfl))) W6 (Or.inl (List.mem_of_getElem? (i := 0) rfl))) W8 (Or.inl (List.mem_of_getElem? (i := 0) rfl))) W9 (Or.inl (List.mem_of_getElem? (i := 0) rfl))) W10 (Or.inl (List.mem_of_getElem? (i := 0) rfl)))
  have t16 := (Fld.other W10 (Fld.other W9 F8 (Or.inr (slot_ne (Or.inl (hw _ (List.mem_of_getElem? (i := 48) rfl))) (Or.inr (hw _ (List.mem_of_getElem? (i := 50) rfl))) (by decide) (t := (.object "java/util/List")) (by decide) (t' := .int) (by decide)))) (Or.inr (slot_ne (Or.inl (hw _ (List.mem_of_getElem? (i := 48) rfl))) (Or.inr (hw _ (List.mem_of_getElem? (i := 52) rfl))) (by decide) (t := (.object "java/util/List")) (by decide) (t' := .long) (by decide))))
  have t17 := (Fld.other W10 (Fld.other W9 (Fld.other W8 (Fld.other W6 (Fld.other W4 (Fld.keep (Fld.ext E2 FeldersLeft) K3 (ninS t1 nin0)) (Or.inr (slot_ne (Or.inl (hw _ (List.mem_of_getElem? (i := 124) rfl))) (Or.inr (hw _ (List.mem_of_getElem? (i := 35) rfl))) (by decide) (t := .int) (by decide) (t' := (.object "java/util/List")) (by decide)))) (Or.inr (slot_ne (Or.inl (hw _ (List.mem_of_getElem? (i := 124) rfl))) (Or.inl (hw _ (List.mem_of_getElem? (i := 40) rfl))) (by decide) (t := .int) (by decide) (t' := (.object "com/example/growshrink/growshrink/model/TransactionState")) (by decide)))) (Or.inr (slot_ne (Or.inl (hw _ (List.mem_of_getElem? (i := 124) rfl))) (Or.inl (hw _ (List.mem_of_getElem? (i := 48) rfl))) (by decide) (t := .int) (by decide) (t' := (.object "java/util/List")) (by decide)))) (Or.inr (slot_ne (Or.inl (hw _ (List.mem_of_getElem? (i := 124) rfl))) (Or.inr (hw _ (List.mem_of_getElem? (i := 50) rfl))) (by decide) (t := .int) (by decide) (t' := .int) (by decide)))) (Or.inr (slot_ne (Or.inl (hw _ (List.mem_of_getElem? (i := 124) rfl))) (Or.inr (hw _ (List.mem_of_getElem? (i := 52) rfl))) (by decide) (t := .int) (by decide) (t' := .long) (by decide))))
  have t18 := (Fld.other W10 (Fld.other W9 (Fld.other W8 (Fld.other W6 (Fld.other W4 (Fld.keep (Fld.ext E2 Fheld) K3 (ninS t1 nin0)) (Or.inr (slot_ne (Or.inl (hw _ (List.mem_of_getElem? (i := 146) rfl))) (Or.inr (hw _ (List.mem_of_getElem? (i := 35) rfl))) (by decide) (t := (.object "com/example/growshrink/growshrink/engine/TransactionRecord$Request")) (by decide) (t' := (.object "java/util/List")) (by decide)))) (Or.inr (slot_ne (Or.inl (hw _ (List.mem_of_getElem? (i := 146) rfl))) (Or.inl (hw _ (List.mem_of_getElem? (i := 40) rfl))) (by decide) (t := (.object "com/example/growshrink/growshrink/engine/TransactionRecord$Request")) (by decide) (t' := (.object "com/example/growshrink/growshrink/model/TransactionState")) (by decide)))) (Or.inr (slot_ne (Or.inl (hw _ (List.mem_of_getElem? (i := 146) rfl))) (Or.inl (hw _ (List.mem_of_getElem? (i := 48) rfl))) (by decide) (t := (.object "com/example/growshrink/growshrink/engine/TransactionRecord$Request")) (by decide) (t' := (.object "java/util/List")) (by decide)))) (Or.inr (slot_ne (Or.inl (hw _ (List.mem_of_getElem? (i := 146) rfl))) (Or.inr (hw _ (List.mem_of_getElem? (i := 50) rfl))) (by decide) (t := (.object "com/example/growshrink/growshrink/engine/TransactionRecord$Request")) (by decide) (t' := .int) (by decide)))) (Or.inr (slot_ne (Or.inl (hw _ (List.mem_of_getElem? (i := 146) rfl))) (Or.inr (hw _ (List.mem_of_getElem? (i := 52) rfl))) (by decide) (t := (.object "com/example/growshrink/growshrink/engine/TransactionRecord$Request")) (by decide) (t' := .long) (by decide))))
  exact g_retV X10 B d1_41 rfl (by decide) (by decide) e10 ⟨rfl, (Fr.snoc X10 (Fr.snoc X9 (Fr.snoc X8 ((Fr.snoc X6 (Fr.snoc X4 ((Fr.nil n0).app N3) ga) ga).app N7) ga) ga) ga), t15, t16, t17, t18⟩
set_option maxRecDepth 65536 in
set_option maxHeartbeats 40000000 in
theorem rm7 (l : Launch) (Z : State) (ag : Array Value) (hw : ∀ d ∈ tables_1, d.before ag Z = true) (a : Addr) (h0 : Heap) (n0 : Nat) (Z0 : n0 ≤ h0.size) (ga : n0 ≤ a) (Ea : Exa Z h0 a "com/example/growshrink/growshrink/engine/TransactionRecord$Request") (G1 : Fld Z h0 a "com/example/growshrink/growshrink/engine/TransactionRecord$Request" "item" "Ljava/lang/String;" (.null)) (G2 : Fld Z h0 a "com/example/growshrink/growshrink/engine/TransactionRecord$Request" "mode" "Lcom/example/growshrink/growshrink/model/LockMode;" (.null)) :
    Ctr l Z (⟨"com/example/growshrink/growshrink/engine/TransactionRecord$Request", "<init>", "(Ljava/lang/String;Lcom/example/growshrink/growshrink/model/LockMode;)V"⟩ : MethodName) prog_57_method_1_code 3 none ({ frames := 2, cells := 0, slots := 0, locals := 24 } : Room) #[.ref a, .null, .null] h0 (fun v h L => v = none ∧ Fr n0 L ∧ Keep h0 h [a]) := by
  refine Ctr.of pn_7 ?_
  intro p e s m below meth c T0 X0 B e0
  refine Go.cast (f' := mkF m 0 #[.val (.ref a), .val (.null), .val (.null)] []) (by first | rfl | (simp [entryFrame, mkF, argsToLocals, Value.category, maxLocals]; done)) ?_

  refine g_aloadN X0 B d7_0 1 rfl rfl rfl ?_
  refine g_callN X0 B [] [] d7_1 4 rfl rfl rfl (hw _ (List.mem_of_getElem? (i := 59) rfl)) (hw _ (List.mem_of_getElem? (i := 60) rfl)) (hw _ (List.mem_of_getElem? (i := 63) rfl)) (hw _ (List.mem_of_getElem? (i := 62) rfl)) (by decide) (lenOf pd_8 rfl) (rm8 l Z ag hw a h0 n0) e0 rfl 0 (Nat.le_of_eq rfl) (by decide) (by decide) (by decide) (by decide) (fun v1 T1 h1 L1 X1 e1 q1 => ?_)
  obtain ⟨rfl, N1, rfl⟩ := q1
  show Go p e below _ (T1.setTop (mkF m 4 #[.val (.ref a), .val (.null), .val (.null)] []))
  refine g_aloadN X1 B d7_4 5 rfl rfl rfl ?_
  refine g_aloadN X1 B d7_5 6 rfl rfl rfl ?_
  refine g_putF X1 B d7_6 9 rfl (hw _ (List.mem_of_getElem? (i := 65) rfl)) Via.refl e1 G1 Ea (Or.inr ⟨(hw _ (List.mem_of_getElem? (i := 66) rfl)), rfl, rfl⟩) (hw _ (List.mem_of_getElem? (i := 54) rfl)) (ty := (.object "java/lang/String")) (by decide) rfl rfl (fun T2 h2 X2 e2 W2 => ?_)
  have F2 := G1.same W2
  refine g_aloadN X2 B d7_9 10 rfl rfl rfl ?_
  refine g_aloadN X2 B d7_10 11 rfl rfl rfl ?_
  have t1 := (Fld.other W2 G2 (Or.inr (slot_ne (Or.inr (hw _ (List.mem_of_getElem? (i := 68) rfl))) (Or.inr (hw _ (List.mem_of_getElem? (i := 66) rfl))) (by decide) (t := (.object "com/example/growshrink/growshrink/model/LockMode")) (by decide) (t' := (.object "java/lang/String")) (by decide))))
  have t2 := (Exa.wr W2 Ea)
  refine g_putF X2 B d7_11 14 rfl (hw _ (List.mem_of_getElem? (i := 67) rfl)) Via.refl e2 t1 t2 (Or.inr ⟨(hw _ (List.mem_of_getElem? (i := 68) rfl)), rfl, rfl⟩) (hw _ (List.mem_of_getElem? (i := 54) rfl)) (ty := (.object "com/example/growshrink/growshrink/model/LockMode")) (by decide) rfl rfl (fun T3 h3 X3 e3 W3 => ?_)
  have F3 := t1.same W3
  have t3 := (Keep.wr (Keep.wr (Keep.refl h0 [a]) W2 (Or.inl (List.mem_of_getElem? (i := 0) rfl))) W3 (Or.inl (List.mem_of_getElem? (i := 0) rfl)))
  exact g_retV X3 B d7_14 rfl (by decide) (by decide) e3 ⟨rfl, (Fr.snoc X3 (Fr.snoc X2 ((Fr.nil n0).app N1) ga) ga), t3⟩
set_option maxRecDepth 65536 in
set_option maxHeartbeats 40000000 in
theorem rm10 (l : Launch) (Z : State) (ag : Array Value) (hw : ∀ d ∈ tables_1, d.before ag Z = true) (a b : Addr) (h0 : Heap) (n0 : Nat) (FE : Fld Z h0 a "java/util/ImmutableCollections$ListN" "elements" "[Ljava/lang/Object;" (.ref b)) (Ab : Av Z h0 b (.object "java/lang/Object") []) :
    Ctr l Z (⟨"java/util/ImmutableCollections$ListN", "isEmpty", "()Z"⟩ : MethodName) jdk_45_method_2_code 1 (some .boolean) ({ frames := 0, cells := 0, slots := 0, locals := 0 } : Room) #[.ref a] h0 (fun v h L => v = some (.int 1) ∧ Fr n0 L ∧ h0 = h) := by
  refine Ctr.of pn_10 ?_
  intro p e s m below meth c T0 X0 B e0
  refine Go.cast (f' := mkF m 0 #[.val (.ref a)] []) (by first | rfl | (simp [entryFrame, mkF, argsToLocals, Value.category, maxLocals]; done)) ?_

  refine g_aloadN X0 B d10_0 1 rfl rfl rfl ?_
  refine g_getF X0 B d10_1 4 rfl (hw _ (List.mem_of_getElem? (i := 84) rfl)) Via.refl e0 FE (fun T1 X1 e1 => ?_)
  refine g_arrlen X1 B (0) d10_4 5 rfl e1 Ab rfl ?_
  refine g_if_ne X1 B d10_5 12 8 rfl (by decide) rfl (fun z => own_abs (rfl) z) (fun _ => ?_)
  refine g_iconst X1 B (1) d10_8 9 rfl rfl ?_
  refine g_goto X1 B d10_9 13 rfl (by decide) ?_
  exact g_retN X1 B d10_13 rfl rfl (by decide) (by decide) (by decide) e1 ⟨rfl, (Fr.nil n0), rfl⟩
set_option maxRecDepth 65536 in
set_option maxHeartbeats 40000000 in
theorem rm17 (l : Launch) (Z : State) (ag : Array Value) (hw : ∀ d ∈ tables_1, d.before ag Z = true) (a : Addr) (x : Int32) (h0 : Heap) (n0 : Nat) (FS : Fld Z h0 a "java/util/ArrayList" "size" "I" (.int x)) :
    Ctr l Z (⟨"java/util/ArrayList", "isEmpty", "()Z"⟩ : MethodName) jdk_38_method_9_code 1 (some .boolean) ({ frames := 0, cells := 0, slots := 0, locals := 0 } : Room) #[.ref a] h0 (fun v h L => v = some (.int (if x = 0 then 1 else 0)) ∧ Fr n0 L ∧ h0 = h) := by
  refine Ctr.of pn_17 ?_
  intro p e s m below meth c T0 X0 B e0
  refine Go.cast (f' := mkF m 0 #[.val (.ref a)] []) (by first | rfl | (simp [entryFrame, mkF, argsToLocals, Value.category, maxLocals]; done)) ?_

  refine g_aloadN X0 B d17_0 1 rfl rfl rfl ?_
  refine g_getF X0 B d17_1 4 rfl (hw _ (List.mem_of_getElem? (i := 101) rfl)) Via.refl e0 FS (fun T1 X1 e1 => ?_)
  refine g_if_ne X1 B d17_4 11 7 rfl (by decide) rfl (fun c2 => ?_) (fun c2 => ?_)
  · skip
    refine g_iconst X1 B (0) d17_11 12 rfl rfl ?_
    exact g_retN X1 B d17_12 rfl rfl (by decide) (by decide) (by decide) e1 ⟨by simp [c2], (Fr.nil n0), rfl⟩
  · skip
    refine g_iconst X1 B (1) d17_7 8 rfl rfl ?_
    refine g_goto X1 B d17_8 12 rfl (by decide) ?_
    exact g_retN X1 B d17_12 rfl rfl (by decide) (by decide) (by decide) e1 ⟨by simp [c2], (Fr.nil n0), rfl⟩
set_option maxRecDepth 65536 in
set_option maxHeartbeats 40000000 in
theorem rm16 (l : Launch) (Z : State) (ag : Array Value) (hw : ∀ d ∈ tables_1, d.before ag Z = true) (x y : Int32) (h0 : Heap) (n0 : Nat)  :
    Ctr l Z (⟨"java/lang/Math", "max", "(II)I"⟩ : MethodName) jdk_29_method_65_code 2 (some .int) ({ frames := 0, cells := 0, slots := 0, locals := 0 } : Room) #[.int x, .int y] h0 (fun v h L => v = some (.int (if x < y then y else x)) ∧ Fr n0 L ∧ h0 = h) := by
  refine Ctr.of pn_16 ?_
  intro p e s m below meth c T0 X0 B e0
  refine Go.cast (f' := mkF m 0 #[.val (.int x), .val (.int y)] []) (by first | rfl | (simp [entryFrame, mkF, argsToLocals, Value.category, maxLocals]; done)) ?_

  refine g_iloadN X0 B d16_0 1 rfl rfl ?_
  refine g_iloadN X0 B d16_1 2 rfl rfl ?_
  refine g_icmp_lt X0 B d16_2 9 5 rfl (by decide) rfl (fun c1 => ?_) (fun c1 => ?_)
  · skip
    refine g_iloadN X0 B d16_9 10 rfl rfl ?_
    exact g_retI X0 B d16_10 rfl (by decide) (by decide) e0 ⟨by simp [c1], (Fr.nil n0), rfl⟩
  · skip
    refine g_iloadN X0 B d16_5 6 rfl rfl ?_
    refine g_goto X0 B d16_6 10 rfl (by decide) ?_
    exact g_retI X0 B d16_10 rfl (by decide) (by decide) e0 ⟨by simp [c1], (Fr.nil n0), rfl⟩
set_option maxRecDepth 65536 in
set_option maxHeartbeats 40000000 in
theorem rm15 (l : Launch) (Z : State) (ag : Array Value) (hw : ∀ d ∈ tables_1, d.before ag Z = true) (a aD : Addr) (y : Int32) (h0 : Heap) (n0 : Nat) (Z0 : n0 ≤ h0.size) (ga : n0 ≤ a) (Ea : Exa Z h0 a "java/util/ArrayList") (FE : Fld Z h0 a "java/util/ArrayList" "elementData" "[Ljava/lang/Object;" (.ref aD)) (FS : Fld Z h0 a "java/util/ArrayList" "size" "I" (.int 0)) (FM : Fld Z h0 a "java/util/AbstractList" "modCount" "I" (.int y)) (AD : Av Z h0 aD (.object "java/lang/Object") []) (SD : Sta Z h0 "java/util/ArrayList" "DEFAULTCAPACITY_EMPTY_ELEMENTDATA" "[Ljava/lang/Object;" (.ref aD)) :
    Ctr l Z (⟨"java/util/ArrayList", "grow", "(I)[Ljava/lang/Object;"⟩ : MethodName) jdk_38_method_6_code 4 (some (.array (.object "java/lang/Object"))) ({ frames := 1, cells := 1, slots := 10, locals := 14 } : Room) #[.ref a, .int (1 : Int32)] h0 (fun v h L => ∃ ar, v = some (.ref ar) ∧ Fr n0 L ∧ Keep h0 h [a] ∧ Fld Z h a "java/util/ArrayList" "elementData" "[Ljava/lang/Object;" (.ref ar) ∧ AvR Z h ar "java/lang/Object" [.null, .null, .null, .null, .null, .null, .null, .null, .null, .null] ∧ h0.size ≤ ar ∧ n0 ≤ ar ∧ Fld Z h a "java/util/ArrayList" "size" "I" (.int 0) ∧ Fld Z h a "java/util/AbstractList" "modCount" "I" (.int y)) := by
  refine Ctr.of pn_15 ?_
  intro p e s m below meth c T0 X0 B e0
  refine Go.cast (f' := mkF m 0 #[.val (.ref a), .val (.int (1 : Int32)), .unset, .unset] []) (by first | rfl | (simp [entryFrame, mkF, argsToLocals, Value.category, maxLocals]; done)) ?_

  refine g_aloadN X0 B d15_0 1 rfl rfl rfl ?_
  refine g_getF X0 B d15_1 4 rfl (hw _ (List.mem_of_getElem? (i := 32) rfl)) Via.refl e0 FE (fun T1 X1 e1 => ?_)
  refine g_arrlen X1 B (0) d15_4 5 rfl e1 AD rfl ?_
  refine g_istoreN X1 B #[.val (.ref a), .val (.int (1 : Int32)), .val (.int (0 : Int32)), .unset] d15_5 6 rfl rfl ?_
  refine g_iloadN X1 B d15_6 7 rfl rfl ?_
  refine g_if_gt X1 B d15_7 20 10 rfl (by decide) rfl (fun z => own_abs' (by decide) z) (fun _ => ?_)
  refine g_aloadN X1 B d15_10 11 rfl rfl rfl ?_
  refine g_getF X1 B d15_11 14 rfl (hw _ (List.mem_of_getElem? (i := 32) rfl)) Via.refl e1 FE (fun T2 X2 e2 => ?_)
  refine g_getS X2 B d15_14 17 rfl (hw _ (List.mem_of_getElem? (i := 89) rfl)) Via.refl e2 SD (fun T3 X3 e3 => ?_)
  refine g_acmp_eq X3 B d15_17 45 20 rfl (by decide) rfl rfl rfl (fun _ => ?_) (fun z => own_abs (rfl) z)
  refine g_aloadN X3 B d15_45 46 rfl rfl rfl ?_
  refine g_bipush X3 B (10) d15_46 48 rfl rfl ?_
  refine g_iloadN X3 B d15_48 49 rfl rfl ?_
  refine g_callS X3 B [.int (10 : Int32), .int (1 : Int32)] [.ref a] d15_49 52 rfl rfl (hw _ (List.mem_of_getElem? (i := 118) rfl)) (hw _ (List.mem_of_getElem? (i := 119) rfl)) (hw _ (List.mem_of_getElem? (i := 120) rfl)) (hw _ (List.mem_of_getElem? (i := 121) rfl)) (by decide) (lenOf pd_16 rfl) (rm16 l Z ag hw 10 1 h0 n0) e3 rfl 1 (Nat.le_of_eq rfl) (by decide) (by decide) (by decide) (by decide) (fun v4 T4 h4 L4 X4 e4 q4 => ?_)
  obtain ⟨rfl, N4, rfl⟩ := q4
  show Go p e below _ (T4.setTop (mkF m 52 #[.val (.ref a), .val (.int (1 : Int32)), .val (.int (0 : Int32)), .unset] [.int (if (10 : Int32) < 1 then 1 else 10), .ref a]))
  rw [show (if (10 : Int32) < 1 then (1 : Int32) else 10) = 10 by decide]
  refine g_newR X4 B (C := "java/lang/Object") [.null, .null, .null, .null, .null, .null, .null, .null, .null, .null] d15_52 55 rfl (hw _ (List.mem_of_getElem? (i := 30) rfl)) (hw _ (List.mem_of_getElem? (i := 31) rfl)) e4 (by decide) rfl (by decide) (by decide) (by decide) (fun T5 h5 ar X5 e5 ea5 E5 R5 => ?_)
  have g_ar : n0 ≤ ar := ea5 ▸ Z0
  have gg_ar : h0.size ≤ ar := ea5 ▸ (Keep.refl h0 [a]).1
  have t1 : a ≠ ar := ea5 ▸ Nat.ne_of_lt (Ea.lt)
  have t2 : aD ≠ ar := ea5 ▸ Nat.ne_of_lt (AD.lt)
  have A5 := R5.av
  refine g_dupX1 X5 B d15_55 56 rfl rfl rfl ?_
  have t3 := (Fld.ext E5 FE)
  have t4 := (Exa.ext E5 Ea)
  refine g_putF X5 B d15_56 59 rfl (hw _ (List.mem_of_getElem? (i := 32) rfl)) Via.refl e5 t3 t4 (Or.inl (hw _ (List.mem_of_getElem? (i := 33) rfl))) (hw _ (List.mem_of_getElem? (i := 10) rfl)) (ty := (.array (.object "java/lang/Object"))) (by decide) rfl rfl (fun T6 h6 X6 e6 W6 => ?_)
  have F6 := t3.same W6
  have t5 := (Keep.wr (Keep.ext (Keep.refl h0 [a]) E5) W6 (Or.inl (List.mem_of_getElem? (i := 0) rfl)))
  have t6 := (own_AvR_other R5 W6 (Ne.symm t1))
  have t7 := (Fld.other W6 (Fld.ext E5 FS) (Or.inr (slot_ne (Or.inl (hw _ (List.mem_of_getElem? (i := 102) rfl))) (Or.inl (hw _ (List.mem_of_getElem? (i := 33) rfl))) (by decide) (t := .int) (by decide) (t' := (.array (.object "java/lang/Object"))) (by decide))))
  have t8 := (Fld.other W6 (Fld.ext E5 FM) (Or.inr (slot_ne (Or.inl (hw _ (List.mem_of_getElem? (i := 29) rfl))) (Or.inl (hw _ (List.mem_of_getElem? (i := 33) rfl))) (by decide) (t := .int) (by decide) (t' := (.array (.object "java/lang/Object"))) (by decide))))
  exact g_retA X6 B d15_59 rfl rfl rfl (by decide) (by decide) e6 ⟨ar, rfl, (Fr.snoc X6 ((Fr.nil n0).app N4) ga), t5, F6, t6, gg_ar, g_ar, t7, t8⟩
set_option maxRecDepth 65536 in
set_option maxHeartbeats 40000000 in
theorem rm14 (l : Launch) (Z : State) (ag : Array Value) (hw : ∀ d ∈ tables_1, d.before ag Z = true) (a aD : Addr) (y : Int32) (h0 : Heap) (n0 : Nat) (Z0 : n0 ≤ h0.size) (ga : n0 ≤ a) (Ea : Exa Z h0 a "java/util/ArrayList") (FE : Fld Z h0 a "java/util/ArrayList" "elementData" "[Ljava/lang/Object;" (.ref aD)) (FS : Fld Z h0 a "java/util/ArrayList" "size" "I" (.int 0)) (FM : Fld Z h0 a "java/util/AbstractList" "modCount" "I" (.int y)) (AD : Av Z h0 aD (.object "java/lang/Object") []) (SD : Sta Z h0 "java/util/ArrayList" "DEFAULTCAPACITY_EMPTY_ELEMENTDATA" "[Ljava/lang/Object;" (.ref aD)) :
    Ctr l Z (⟨"java/util/ArrayList", "grow", "()[Ljava/lang/Object;"⟩ : MethodName) jdk_38_method_7_code 1 (some (.array (.object "java/lang/Object"))) ({ frames := 2, cells := 1, slots := 10, locals := 29 } : Room) #[.ref a] h0 (fun v h L => ∃ ar, v = some (.ref ar) ∧ Fr n0 L ∧ Keep h0 h [a] ∧ Fld Z h a "java/util/ArrayList" "elementData" "[Ljava/lang/Object;" (.ref ar) ∧ AvR Z h ar "java/lang/Object" [.null, .null, .null, .null, .null, .null, .null, .null, .null, .null] ∧ h0.size ≤ ar ∧ n0 ≤ ar ∧ Fld Z h a "java/util/ArrayList" "size" "I" (.int 0) ∧ Fld Z h a "java/util/AbstractList" "modCount" "I" (.int y)) := by
  refine Ctr.of pn_14 ?_
  intro p e s m below meth c T0 X0 B e0
  refine Go.cast (f' := mkF m 0 #[.val (.ref a)] []) (by first | rfl | (simp [entryFrame, mkF, argsToLocals, Value.category, maxLocals]; done)) ?_

  refine g_aloadN X0 B d14_0 1 rfl rfl rfl ?_
  refine g_aloadN X0 B d14_1 2 rfl rfl rfl ?_
  refine g_getF X0 B d14_2 5 rfl (hw _ (List.mem_of_getElem? (i := 101) rfl)) Via.refl e0 FS (fun T1 X1 e1 => ?_)
  refine g_iconst X1 B (1) d14_5 6 rfl rfl ?_
  refine g_iadd X1 B d14_6 7 rfl ?_
  rw [show ((0 : Int32) + (1 : Int32)) = 1 by decide]
  refine g_callP X1 B [.int (1 : Int32)] [] d14_7 10 rfl rfl (hw _ (List.mem_of_getElem? (i := 113) rfl)) (hw _ (List.mem_of_getElem? (i := 114) rfl)) (hw _ (List.mem_of_getElem? (i := 116) rfl)) (hw _ (List.mem_of_getElem? (i := 115) rfl)) (hw _ (List.mem_of_getElem? (i := 11) rfl)) (hw _ (List.mem_of_getElem? (i := 117) rfl)) (by decide) (lenOf pd_15 rfl) Ea (rm15 l Z ag hw a aD y h0 n0 Z0 ga Ea FE FS FM AD SD) e1 rfl 0 (Nat.le_of_eq rfl) (by decide) (by decide) (by decide) (by decide) (fun v2 T2 h2 L2 X2 e2 q2 => ?_)
  obtain ⟨ar, rfl, N2, K2, f1, f2, f3, f4, f5, f6⟩ := q2
  show Go p e below _ (T2.setTop (mkF m 10 #[.val (.ref a)] [.ref ar]))
  exact g_retA X2 B d14_10 rfl rfl rfl (by decide) (by decide) e2 ⟨ar, rfl, ((Fr.nil n0).app N2), K2, f1, f2, f3, f4, f5, f6⟩
set_option maxRecDepth 65536 in
set_option maxHeartbeats 40000000 in
theorem rm13 (l : Launch) (Z : State) (ag : Array Value) (hw : ∀ d ∈ tables_1, d.before ag Z = true) (a aD x : Addr) (y : Int32) (h0 : Heap) (n0 : Nat) (Z0 : n0 ≤ h0.size) (ga : n0 ≤ a) (Ea : Exa Z h0 a "java/util/ArrayList") (FE : Fld Z h0 a "java/util/ArrayList" "elementData" "[Ljava/lang/Object;" (.ref aD)) (FS : Fld Z h0 a "java/util/ArrayList" "size" "I" (.int 0)) (FM : Fld Z h0 a "java/util/AbstractList" "modCount" "I" (.int y)) (AD : Av Z h0 aD (.object "java/lang/Object") []) (SD : Sta Z h0 "java/util/ArrayList" "DEFAULTCAPACITY_EMPTY_ELEMENTDATA" "[Ljava/lang/Object;" (.ref aD)) (Ex : Exa Z h0 x "com/example/growshrink/growshrink/engine/TransactionRecord") :
    Ctr l Z (⟨"java/util/ArrayList", "add", "(Ljava/lang/Object;[Ljava/lang/Object;I)V"⟩ : MethodName) jdk_38_method_24_code 4 none ({ frames := 3, cells := 1, slots := 10, locals := 41 } : Room) #[.ref a, .ref x, .ref aD, .int (0 : Int32)] h0 (fun v h L => ∃ ar, v = none ∧ Fr n0 L ∧ Keep h0 h [a] ∧ Fld Z h a "java/util/ArrayList" "elementData" "[Ljava/lang/Object;" (.ref ar) ∧ (∃ vs, AvR Z h ar "java/lang/Object" vs ∧ vs.length = 10) ∧ Fld Z h a "java/util/ArrayList" "size" "I" (.int 1) ∧ Fld Z h a "java/util/AbstractList" "modCount" "I" (.int y) ∧ h0.size ≤ ar ∧ n0 ≤ ar) := by
  refine Ctr.of pn_13 ?_
  intro p e s m below meth c T0 X0 B e0
  refine Go.cast (f' := mkF m 0 #[.val (.ref a), .val (.ref x), .val (.ref aD), .val (.int (0 : Int32))] []) (by first | rfl | (simp [entryFrame, mkF, argsToLocals, Value.category, maxLocals]; done)) ?_

  refine g_iloadN X0 B d13_0 1 rfl rfl ?_
  refine g_aloadN X0 B d13_1 2 rfl rfl rfl ?_
  refine g_arrlen X0 B (0) d13_2 3 rfl e0 AD rfl ?_
  refine g_icmp_ne X0 B d13_3 11 6 rfl (by decide) rfl (fun z => own_abs (rfl) z) (fun _ => ?_)
  refine g_aloadN X0 B d13_6 7 rfl rfl rfl ?_
  refine g_callP X0 B [] [] d13_7 10 rfl rfl (hw _ (List.mem_of_getElem? (i := 108) rfl)) (hw _ (List.mem_of_getElem? (i := 109) rfl)) (hw _ (List.mem_of_getElem? (i := 111) rfl)) (hw _ (List.mem_of_getElem? (i := 110) rfl)) (hw _ (List.mem_of_getElem? (i := 11) rfl)) (hw _ (List.mem_of_getElem? (i := 112) rfl)) (by decide) (lenOf pd_14 rfl) Ea (rm14 l Z ag hw a aD y h0 n0 Z0 ga Ea FE FS FM AD SD) e0 rfl 0 (Nat.le_of_eq rfl) (by decide) (by decide) (by decide) (by decide) (fun v1 T1 h1 L1 X1 e1 q1 => ?_)
  obtain ⟨ar, rfl, N1, K1, f1, f2, f3, f4, f5, f6⟩ := q1
  show Go p e below _ (T1.setTop (mkF m 10 #[.val (.ref a), .val (.ref x), .val (.ref aD), .val (.int (0 : Int32))] [.ref ar]))
  have f2a := f2.av
  refine g_astoreN X1 B #[.val (.ref a), .val (.ref x), .val (.ref ar), .val (.int (0 : Int32))] d13_10 11 rfl rfl rfl ?_
  refine g_aloadN X1 B d13_11 12 rfl rfl rfl ?_
  refine g_iloadN X1 B d13_12 13 rfl rfl ?_
  refine g_aloadN X1 B d13_13 14 rfl rfl rfl ?_
  have t1 := (Exa.keep Ex K1)
  refine g_aastore X1 B 0 d13_14 15 rfl e1 f2 (Ins.of_exa t1 (hw _ (List.mem_of_getElem? (i := 122) rfl))) (by decide) (by decide) (by decide) (fun T2 h2 X2 e2 W2 R2 => ?_)
  have A2 := R2.av
  refine g_aloadN X2 B d13_15 16 rfl rfl rfl ?_
  refine g_iloadN X2 B d13_16 17 rfl rfl ?_
  refine g_iconst X2 B (1) d13_17 18 rfl rfl ?_
  refine g_iadd X2 B d13_18 19 rfl ?_
  rw [show ((0 : Int32) + (1 : Int32)) = 1 by decide]
  have t2 : a ≠ ar := own_neAv (Exa.wr W2 (Exa.keep Ea K1)) (hw _ (List.mem_of_getElem? (i := 10) rfl)) A2
  have t3 := (Fld.other W2 f5 (Or.inl t2))
  have t4 := (Exa.wr W2 (Exa.keep Ea K1))
  refine g_putF X2 B d13_19 22 rfl (hw _ (List.mem_of_getElem? (i := 101) rfl)) Via.refl e2 t3 t4 (Or.inl (hw _ (List.mem_of_getElem? (i := 102) rfl))) (hw _ (List.mem_of_getElem? (i := 10) rfl)) (ty := .int) (by decide) rfl rfl (fun T3 h3 X3 e3 W3 => ?_)
  have F3 := t3.same W3
  have t5 := (Keep.wr (Keep.wr (Keep.trans (Keep.refl h0 [a]) K1 (allS (Or.inl (List.mem_of_getElem? (i := 0) rfl)) all0)) W2 (Or.inr f3)) W3 (Or.inl (List.mem_of_getElem? (i := 0) rfl)))
  have t6 := (Fld.other W3 (Fld.other W2 f1 (Or.inl t2)) (Or.inr (slot_ne (Or.inl (hw _ (List.mem_of_getElem? (i := 33) rfl))) (Or.inl (hw _ (List.mem_of_getElem? (i := 102) rfl))) (by decide) (t := (.array (.object "java/lang/Object"))) (by decide) (t' := .int) (by decide))))
  have t7 := (own_AvR_other R2 W3 (Ne.symm t2))
  have t8 := (Fld.other W3 (Fld.other W2 f6 (Or.inl t2)) (Or.inr (slot_ne (Or.inl (hw _ (List.mem_of_getElem? (i := 29) rfl))) (Or.inl (hw _ (List.mem_of_getElem? (i := 102) rfl))) (by decide) (t := .int) (by decide) (t' := .int) (by decide))))
  exact g_retV X3 B d13_22 rfl (by decide) (by decide) e3 ⟨ar, rfl, (Fr.snoc X3 (Fr.snoc X2 ((Fr.nil n0).app N1) f4) ga), t5, t6, ⟨_, t7, rfl⟩, F3, t8, f3, f4⟩
set_option maxRecDepth 65536 in
set_option maxHeartbeats 40000000 in
theorem rn13 (l : Launch) (Z : State) (ag : Array Value) (hw : ∀ d ∈ tables_1, d.before ag Z = true) (a ar x : Addr) (y n : Int32) (i : Nat) (vs : List Value) (h0 : Heap) (n0 : Nat) (Z0 : n0 ≤ h0.size) (ga : n0 ≤ a) (gr : n0 ≤ ar) (Ea : Exa Z h0 a "java/util/ArrayList") (FE : Fld Z h0 a "java/util/ArrayList" "elementData" "[Ljava/lang/Object;" (.ref ar)) (FS : Fld Z h0 a "java/util/ArrayList" "size" "I" (.int n)) (FM : Fld Z h0 a "java/util/AbstractList" "modCount" "I" (.int y)) (AR : AvR Z h0 ar "java/lang/Object" vs) (hv : vs.length = 10) (n1 : n.toNatClampNeg = i) (n2 : ¬ n < 0) (n3 : i < 10) (n4 : ¬ n = 10) (Ex : Exa Z h0 x "com/example/growshrink/growshrink/engine/TransactionRecord") :
    Ctr l Z (⟨"java/util/ArrayList", "add", "(Ljava/lang/Object;[Ljava/lang/Object;I)V"⟩ : MethodName) jdk_38_method_24_code 4 none ({ frames := 0, cells := 0, slots := 0, locals := 0 } : Room) #[.ref a, .ref x, .ref ar, .int n] h0 (fun v h L => v = none ∧ Fr n0 L ∧ Keep h0 h [a, ar] ∧ Fld Z h a "java/util/ArrayList" "elementData" "[Ljava/lang/Object;" (.ref ar) ∧ (∃ vs, AvR Z h ar "java/lang/Object" vs ∧ vs.length = 10) ∧ Fld Z h a "java/util/ArrayList" "size" "I" (.int (n + 1)) ∧ Fld Z h a "java/util/AbstractList" "modCount" "I" (.int y)) := by
  refine Ctr.of pn_13 ?_
  intro p e s m below meth c T0 X0 B e0
  refine Go.cast (f' := mkF m 0 #[.val (.ref a), .val (.ref x), .val (.ref ar), .val (.int n)] []) (by first | rfl | (simp [entryFrame, mkF, argsToLocals, Value.category, maxLocals]; done)) ?_

  have ARa := AR.av
  refine g_iloadN X0 B d13_0 1 rfl rfl ?_
  refine g_aloadN X0 B d13_1 2 rfl rfl rfl ?_
  refine g_arrlen X0 B (10) d13_2 3 rfl e0 ARa (by rw [hv]; rfl) ?_
  refine g_icmp_ne X0 B d13_3 11 6 rfl (by decide) rfl (fun _ => ?_) (fun z => own_abs' (n4) z)
  refine g_aloadN X0 B d13_11 12 rfl rfl rfl ?_
  refine g_iloadN X0 B d13_12 13 rfl rfl ?_
  refine g_aloadN X0 B d13_13 14 rfl rfl rfl ?_
  refine g_aastore X0 B i d13_14 15 rfl e0 AR (Ins.of_exa Ex (hw _ (List.mem_of_getElem? (i := 122) rfl))) n1 n2 (by rw [hv]; exact n3) (fun T1 h1 X1 e1 W1 R1 => ?_)
  have A1 := R1.av
  refine g_aloadN X1 B d13_15 16 rfl rfl rfl ?_
  refine g_iloadN X1 B d13_16 17 rfl rfl ?_
  refine g_iconst X1 B (1) d13_17 18 rfl rfl ?_
  refine g_iadd X1 B d13_18 19 rfl ?_
  have t1 : a ≠ ar := own_neAv (Exa.wr W1 Ea) (hw _ (List.mem_of_getElem? (i := 10) rfl)) A1
  have t2 := (Fld.other W1 FS (Or.inl t1))
  have t3 := (Exa.wr W1 Ea)
  refine g_putF X1 B d13_19 22 rfl (hw _ (List.mem_of_getElem? (i := 101) rfl)) Via.refl e1 t2 t3 (Or.inl (hw _ (List.mem_of_getElem? (i := 102) rfl))) (hw _ (List.mem_of_getElem? (i := 10) rfl)) (ty := .int) (by decide) rfl rfl (fun T2 h2 X2 e2 W2 => ?_)
  have F2 := t2.same W2
  have t4 := (Keep.wr (Keep.wr (Keep.refl h0 [a, ar]) W1 (Or.inl (List.mem_of_getElem? (i := 1) rfl))) W2 (Or.inl (List.mem_of_getElem? (i := 0) rfl)))
  have t5 := (Fld.other W2 (Fld.other W1 FE (Or.inl t1)) (Or.inr (slot_ne (Or.inl (hw _ (List.mem_of_getElem? (i := 33) rfl))) (Or.inl (hw _ (List.mem_of_getElem? (i := 102) rfl))) (by decide) (t := (.array (.object "java/lang/Object"))) (by decide) (t' := .int) (by decide))))
  have t6 := (own_AvR_other R1 W2 (Ne.symm t1))
  have t7 := (Fld.other W2 (Fld.other W1 FM (Or.inl t1)) (Or.inr (slot_ne (Or.inl (hw _ (List.mem_of_getElem? (i := 29) rfl))) (Or.inl (hw _ (List.mem_of_getElem? (i := 102) rfl))) (by decide) (t := .int) (by decide) (t' := .int) (by decide))))
  exact g_retV X2 B d13_22 rfl (by decide) (by decide) e2 ⟨rfl, (Fr.snoc X2 (Fr.snoc X1 (Fr.nil n0) gr) ga), t4, t5, ⟨_, t6, by simp [hv]⟩, F2, t7⟩
set_option maxRecDepth 65536 in
set_option maxHeartbeats 40000000 in
theorem rm12 (l : Launch) (Z : State) (ag : Array Value) (hw : ∀ d ∈ tables_1, d.before ag Z = true) (a aD x : Addr) (y : Int32) (h0 : Heap) (n0 : Nat) (Z0 : n0 ≤ h0.size) (ga : n0 ≤ a) (Ea : Exa Z h0 a "java/util/ArrayList") (FE : Fld Z h0 a "java/util/ArrayList" "elementData" "[Ljava/lang/Object;" (.ref aD)) (FS : Fld Z h0 a "java/util/ArrayList" "size" "I" (.int 0)) (FM : Fld Z h0 a "java/util/AbstractList" "modCount" "I" (.int y)) (AD : Av Z h0 aD (.object "java/lang/Object") []) (SD : Sta Z h0 "java/util/ArrayList" "DEFAULTCAPACITY_EMPTY_ELEMENTDATA" "[Ljava/lang/Object;" (.ref aD)) (Ex : Exa Z h0 x "com/example/growshrink/growshrink/engine/TransactionRecord") :
    Ctr l Z (⟨"java/util/ArrayList", "add", "(Ljava/lang/Object;)Z"⟩ : MethodName) jdk_38_method_25_code 2 (some .boolean) ({ frames := 4, cells := 1, slots := 10, locals := 56 } : Room) #[.ref a, .ref x] h0 (fun v h L => ∃ ar, v = some (.int 1) ∧ Fr n0 L ∧ Keep h0 h [a] ∧ Fld Z h a "java/util/ArrayList" "elementData" "[Ljava/lang/Object;" (.ref ar) ∧ (∃ vs, AvR Z h ar "java/lang/Object" vs ∧ vs.length = 10) ∧ Fld Z h a "java/util/ArrayList" "size" "I" (.int 1) ∧ Fld Z h a "java/util/AbstractList" "modCount" "I" (.int (y + 1)) ∧ h0.size ≤ ar ∧ n0 ≤ ar) := by
  refine Ctr.of pn_12 ?_
  intro p e s m below meth c T0 X0 B e0
  refine Go.cast (f' := mkF m 0 #[.val (.ref a), .val (.ref x)] []) (by first | rfl | (simp [entryFrame, mkF, argsToLocals, Value.category, maxLocals]; done)) ?_

  refine g_aloadN X0 B d12_0 1 rfl rfl rfl ?_
  refine g_dup X0 B d12_1 2 rfl rfl ?_
  refine g_getF X0 B d12_2 5 rfl (hw _ (List.mem_of_getElem? (i := 99) rfl)) (Via.of (hw _ (List.mem_of_getElem? (i := 100) rfl))) e0 FM (fun T1 X1 e1 => ?_)
  refine g_iconst X1 B (1) d12_5 6 rfl rfl ?_
  refine g_iadd X1 B d12_6 7 rfl ?_
  refine g_putF X1 B d12_7 10 rfl (hw _ (List.mem_of_getElem? (i := 99) rfl)) (Via.of (hw _ (List.mem_of_getElem? (i := 100) rfl))) e1 FM Ea (Or.inl (hw _ (List.mem_of_getElem? (i := 29) rfl))) (hw _ (List.mem_of_getElem? (i := 10) rfl)) (ty := .int) (by decide) rfl rfl (fun T2 h2 X2 e2 W2 => ?_)
  have F2 := FM.same W2
  refine g_aloadN X2 B d12_10 11 rfl rfl rfl ?_
  refine g_aloadN X2 B d12_11 12 rfl rfl rfl ?_
  refine g_aloadN X2 B d12_12 13 rfl rfl rfl ?_
  have t1 := (Fld.other W2 FE (Or.inr (slot_ne (Or.inl (hw _ (List.mem_of_getElem? (i := 33) rfl))) (Or.inl (hw _ (List.mem_of_getElem? (i := 29) rfl))) (by decide) (t := (.array (.object "java/lang/Object"))) (by decide) (t' := .int) (by decide))))
  refine g_getF X2 B d12_13 16 rfl (hw _ (List.mem_of_getElem? (i := 32) rfl)) Via.refl e2 t1 (fun T3 X3 e3 => ?_)
  refine g_aloadN X3 B d12_16 17 rfl rfl rfl ?_
  have t2 := (Fld.other W2 FS (Or.inr (slot_ne (Or.inl (hw _ (List.mem_of_getElem? (i := 102) rfl))) (Or.inl (hw _ (List.mem_of_getElem? (i := 29) rfl))) (by decide) (t := .int) (by decide) (t' := .int) (by decide))))
  refine g_getF X3 B d12_17 20 rfl (hw _ (List.mem_of_getElem? (i := 101) rfl)) Via.refl e3 t2 (fun T4 X4 e4 => ?_)
  have t3 := (Nat.le_trans Z0 (Nat.le_of_eq W2.size.symm))
  have t4 := (Exa.wr W2 Ea)
  have t5 : a ≠ aD := own_neAv Ea (hw _ (List.mem_of_getElem? (i := 10) rfl)) AD
  have t6 := (Av.other AD W2 (Ne.symm t5))
  have t7 := (Sta.wr W2 SD)
  have t8 := (Exa.wr W2 Ex)
  refine g_callP X4 B [.ref x, .ref aD, .int (0 : Int32)] [] d12_20 23 rfl rfl (hw _ (List.mem_of_getElem? (i := 103) rfl)) (hw _ (List.mem_of_getElem? (i := 104) rfl)) (hw _ (List.mem_of_getElem? (i := 106) rfl)) (hw _ (List.mem_of_getElem? (i := 105) rfl)) (hw _ (List.mem_of_getElem? (i := 11) rfl)) (hw _ (List.mem_of_getElem? (i := 107) rfl)) (by decide) (lenOf pd_13 rfl) t4 (rm13 l Z ag hw a aD x _ h2 n0 t3 ga t4 t1 t2 F2 t6 t7 t8) e4 rfl 0 (Nat.le_of_eq rfl) (by decide) (by decide) (by decide) (by decide) (fun v5 T5 h5 L5 X5 e5 q5 => ?_)
  obtain ⟨ar, rfl, N5, K5, f1, f2, f3, f4, f5, f6⟩ := q5
  show Go p e below _ (T5.setTop (mkF m 23 #[.val (.ref a), .val (.ref x)] []))
  refine g_iconst X5 B (1) d12_23 24 rfl rfl ?_
  have t9 := (Keep.trans (Keep.wr (Keep.refl h0 [a]) W2 (Or.inl (List.mem_of_getElem? (i := 0) rfl))) K5 (allS (Or.inl (List.mem_of_getElem? (i := 0) rfl)) all0))
  exact g_retN X5 B d12_24 rfl rfl (by decide) (by decide) (by decide) e5 ⟨ar, rfl, ((Fr.snoc X2 (Fr.nil n0) ga).app N5), t9, f1, f2, f3, f4, Nat.le_trans (Nat.le_of_eq (by rw [W2.size])) f5, f6⟩
set_option maxRecDepth 65536 in
set_option maxHeartbeats 40000000 in
theorem rn12 (l : Launch) (Z : State) (ag : Array Value) (hw : ∀ d ∈ tables_1, d.before ag Z = true) (a ar x : Addr) (y n : Int32) (i : Nat) (vs : List Value) (h0 : Heap) (n0 : Nat) (Z0 : n0 ≤ h0.size) (ga : n0 ≤ a) (gr : n0 ≤ ar) (Ea : Exa Z h0 a "java/util/ArrayList") (FE : Fld Z h0 a "java/util/ArrayList" "elementData" "[Ljava/lang/Object;" (.ref ar)) (FS : Fld Z h0 a "java/util/ArrayList" "size" "I" (.int n)) (FM : Fld Z h0 a "java/util/AbstractList" "modCount" "I" (.int y)) (AR : AvR Z h0 ar "java/lang/Object" vs) (hv : vs.length = 10) (n1 : n.toNatClampNeg = i) (n2 : ¬ n < 0) (n3 : i < 10) (n4 : ¬ n = 10) (Ex : Exa Z h0 x "com/example/growshrink/growshrink/engine/TransactionRecord") :
    Ctr l Z (⟨"java/util/ArrayList", "add", "(Ljava/lang/Object;)Z"⟩ : MethodName) jdk_38_method_25_code 2 (some .boolean) ({ frames := 1, cells := 0, slots := 0, locals := 15 } : Room) #[.ref a, .ref x] h0 (fun v h L => v = some (.int 1) ∧ Fr n0 L ∧ Keep h0 h [a, ar] ∧ Fld Z h a "java/util/ArrayList" "elementData" "[Ljava/lang/Object;" (.ref ar) ∧ (∃ vs, AvR Z h ar "java/lang/Object" vs ∧ vs.length = 10) ∧ Fld Z h a "java/util/ArrayList" "size" "I" (.int (n + 1)) ∧ Fld Z h a "java/util/AbstractList" "modCount" "I" (.int (y + 1))) := by
  refine Ctr.of pn_12 ?_
  intro p e s m below meth c T0 X0 B e0
  refine Go.cast (f' := mkF m 0 #[.val (.ref a), .val (.ref x)] []) (by first | rfl | (simp [entryFrame, mkF, argsToLocals, Value.category, maxLocals]; done)) ?_

  have ARa := AR.av
  refine g_aloadN X0 B d12_0 1 rfl rfl rfl ?_
  refine g_dup X0 B d12_1 2 rfl rfl ?_
  refine g_getF X0 B d12_2 5 rfl (hw _ (List.mem_of_getElem? (i := 99) rfl)) (Via.of (hw _ (List.mem_of_getElem? (i := 100) rfl))) e0 FM (fun T1 X1 e1 => ?_)
  refine g_iconst X1 B (1) d12_5 6 rfl rfl ?_
  refine g_iadd X1 B d12_6 7 rfl ?_
  refine g_putF X1 B d12_7 10 rfl (hw _ (List.mem_of_getElem? (i := 99) rfl)) (Via.of (hw _ (List.mem_of_getElem? (i := 100) rfl))) e1 FM Ea (Or.inl (hw _ (List.mem_of_getElem? (i := 29) rfl))) (hw _ (List.mem_of_getElem? (i := 10) rfl)) (ty := .int) (by decide) rfl rfl (fun T2 h2 X2 e2 W2 => ?_)
  have F2 := FM.same W2
  refine g_aloadN X2 B d12_10 11 rfl rfl rfl ?_
  refine g_aloadN X2 B d12_11 12 rfl rfl rfl ?_
  refine g_aloadN X2 B d12_12 13 rfl rfl rfl ?_
  have t1 := (Fld.other W2 FE (Or.inr (slot_ne (Or.inl (hw _ (List.mem_of_getElem? (i := 33) rfl))) (Or.inl (hw _ (List.mem_of_getElem? (i := 29) rfl))) (by decide) (t := (.array (.object "java/lang/Object"))) (by decide) (t' := .int) (by decide))))
  refine g_getF X2 B d12_13 16 rfl (hw _ (List.mem_of_getElem? (i := 32) rfl)) Via.refl e2 t1 (fun T3 X3 e3 => ?_)
  refine g_aloadN X3 B d12_16 17 rfl rfl rfl ?_
  have t2 := (Fld.other W2 FS (Or.inr (slot_ne (Or.inl (hw _ (List.mem_of_getElem? (i := 102) rfl))) (Or.inl (hw _ (List.mem_of_getElem? (i := 29) rfl))) (by decide) (t := .int) (by decide) (t' := .int) (by decide))))
  refine g_getF X3 B d12_17 20 rfl (hw _ (List.mem_of_getElem? (i := 101) rfl)) Via.refl e3 t2 (fun T4 X4 e4 => ?_)
  have t3 := (Nat.le_trans Z0 (Nat.le_of_eq W2.size.symm))
  have t4 := (Exa.wr W2 Ea)
  have t5 : a ≠ ar := own_neAv Ea (hw _ (List.mem_of_getElem? (i := 10) rfl)) ARa
  have t6 := (own_AvR_other AR W2 (Ne.symm t5))
  have t7 := (Exa.wr W2 Ex)
  refine g_callP X4 B [.ref x, .ref ar, .int n] [] d12_20 23 rfl rfl (hw _ (List.mem_of_getElem? (i := 103) rfl)) (hw _ (List.mem_of_getElem? (i := 104) rfl)) (hw _ (List.mem_of_getElem? (i := 106) rfl)) (hw _ (List.mem_of_getElem? (i := 105) rfl)) (hw _ (List.mem_of_getElem? (i := 11) rfl)) (hw _ (List.mem_of_getElem? (i := 107) rfl)) (by decide) (lenOf pd_13 rfl) t4 (rn13 l Z ag hw a ar x _ n i vs h2 n0 t3 ga gr t4 t1 t2 F2 t6 hv n1 n2 n3 n4 t7) e4 rfl 0 (Nat.le_of_eq rfl) (by decide) (by decide) (by decide) (by decide) (fun v5 T5 h5 L5 X5 e5 q5 => ?_)
  obtain ⟨rfl, N5, K5, f1, f2, f3, f4⟩ := q5
  show Go p e below _ (T5.setTop (mkF m 23 #[.val (.ref a), .val (.ref x)] []))
  have t8 := (Av.other ARa W2 (Ne.symm t5))
  refine g_iconst X5 B (1) d12_23 24 rfl rfl ?_
  have t9 := (Keep.trans (Keep.wr (Keep.refl h0 [a, ar]) W2 (Or.inl (List.mem_of_getElem? (i := 0) rfl))) K5 (allS (Or.inl (List.mem_of_getElem? (i := 0) rfl)) (allS (Or.inl (List.mem_of_getElem? (i := 1) rfl)) all0)))
  exact g_retN X5 B d12_24 rfl rfl (by decide) (by decide) (by decide) e5 ⟨rfl, ((Fr.snoc X2 (Fr.nil n0) ga).app N5), t9, f1, f2, f3, f4⟩
set_option maxRecDepth 65536 in
set_option maxHeartbeats 40000000 in
theorem rm9 (l : Launch) (Z : State) (ag : Array Value) (hw : ∀ d ∈ tables_1, d.before ag Z = true) (a b aL aD eL : Addr) (x : Int32) (hv : Value) (h0 : Heap) (n0 : Nat) (Z0 : n0 ≤ h0.size) (ga : n0 ≤ a) (gb : n0 ≤ b) (nab : a ≠ b) (Ea : Exa Z h0 a "com/example/growshrink/growshrink/engine/TransactionRecord") (Eb : Exa Z h0 b "com/example/growshrink/growshrink/engine/TransactionRecord") (FH : Fld Z h0 a "com/example/growshrink/growshrink/engine/TransactionRecord" "heldBack" "Ljava/util/List;" (.ref aL)) (FX : Fld Z h0 b "com/example/growshrink/growshrink/engine/TransactionRecord" "eldersLeft" "I" (.int x)) (FV : Fld Z h0 b "com/example/growshrink/growshrink/engine/TransactionRecord" "held" "Lcom/example/growshrink/growshrink/engine/TransactionRecord$Request;" (hv)) (EL : Exa Z h0 aL "java/util/ImmutableCollections$ListN") (FL : Fld Z h0 aL "java/util/ImmutableCollections$ListN" "elements" "[Ljava/lang/Object;" (.ref eL)) (AL0 : Av Z h0 eL (.object "java/lang/Object") []) (AD : Av Z h0 aD (.object "java/lang/Object") []) (SD : Sta Z h0 "java/util/ArrayList" "DEFAULTCAPACITY_EMPTY_ELEMENTDATA" "[Ljava/lang/Object;" (.ref aD)) :
    Ctr l Z (⟨"com/example/growshrink/growshrink/engine/TransactionRecord", "holdBack", "(Lcom/example/growshrink/growshrink/engine/TransactionRecord;)V"⟩ : MethodName) prog_56_method_14_code 2 none ({ frames := 5, cells := 2, slots := 13, locals := 69 } : Room) #[.ref a, .ref b] h0 (fun v h L => ∃ ls ar y, v = none ∧ Fr n0 L ∧ Keep h0 h [a, b] ∧ Fld Z h a "com/example/growshrink/growshrink/engine/TransactionRecord" "heldBack" "Ljava/util/List;" (.ref ls) ∧ Exa Z h ls "java/util/ArrayList" ∧ Fld Z h ls "java/util/ArrayList" "elementData" "[Ljava/lang/Object;" (.ref ar) ∧ (∃ vs, AvR Z h ar "java/lang/Object" vs ∧ vs.length = 10) ∧ Fld Z h ls "java/util/ArrayList" "size" "I" (.int 1) ∧ Fld Z h ls "java/util/AbstractList" "modCount" "I" (.int y) ∧ Fld Z h b "com/example/growshrink/growshrink/engine/TransactionRecord" "eldersLeft" "I" (.int (x + 1)) ∧ Fld Z h b "com/example/growshrink/growshrink/engine/TransactionRecord" "held" "Lcom/example/growshrink/growshrink/engine/TransactionRecord$Request;" (hv) ∧ n0 ≤ ls ∧ n0 ≤ ar) := by
  refine Ctr.of pn_9 ?_
  intro p e s m below meth c T0 X0 B e0
  refine Go.cast (f' := mkF m 0 #[.val (.ref a), .val (.ref b)] []) (by first | rfl | (simp [entryFrame, mkF, argsToLocals, Value.category, maxLocals]; done)) ?_

  refine g_aloadN X0 B d9_0 1 rfl rfl rfl ?_
  refine g_getF X0 B d9_1 4 rfl (hw _ (List.mem_of_getElem? (i := 47) rfl)) Via.refl e0 FH (fun T1 X1 e1 => ?_)
  refine g_callI X1 B (y := ⟨"java/util/List", "isEmpty", "()Z"⟩) [] [] d9_4 9 rfl rfl (hw _ (List.mem_of_getElem? (i := 74) rfl)) (hw _ (List.mem_of_getElem? (i := 75) rfl)) (by first | rfl | decide | simp [Cond.onTables, Cond.keepsFace, Cond.keeps, Cond.steady]) (hw _ (List.mem_of_getElem? (i := 76) rfl)) (hw _ (List.mem_of_getElem? (i := 77) rfl)) (hw _ (List.mem_of_getElem? (i := 78) rfl)) (hw _ (List.mem_of_getElem? (i := 79) rfl)) (hw _ (List.mem_of_getElem? (i := 80) rfl)) (hw _ (List.mem_of_getElem? (i := 81) rfl)) (hw _ (List.mem_of_getElem? (i := 82) rfl)) (hw _ (List.mem_of_getElem? (i := 83) rfl)) (by decide) (lenOf pd_10 rfl) EL (rm10 l Z ag hw aL eL h0 n0 FL AL0) e1 rfl 0 (Nat.le_of_eq rfl) (by decide) (by decide) (by decide) (by decide) (fun v2 T2 h2 L2 X2 e2 q2 => ?_)
  obtain ⟨rfl, N2, rfl⟩ := q2
  show Go p e below _ (T2.setTop (mkF m 9 #[.val (.ref a), .val (.ref b)] [.int (1 : Int32)]))
  refine g_if_eq X2 B d9_9 23 12 rfl (by decide) rfl (fun z => own_abs' (by decide) z) (fun _ => ?_)
  refine g_aloadN X2 B d9_12 13 rfl rfl rfl ?_
  refine g_new X2 B d9_13 16 rfl (hw _ (List.mem_of_getElem? (i := 9) rfl)) (hw _ (List.mem_of_getElem? (i := 10) rfl)) (hw _ (List.mem_of_getElem? (i := 11) rfl)) e2 (by decide) (by decide) (fun T3 h3 ls X3 e3 ea3 E3 A3 D3 => ?_)
  have g_ls : n0 ≤ ls := ea3 ▸ Z0
  have gg_ls : h0.size ≤ ls := ea3 ▸ (Keep.refl h0 [a, b]).1
  have t1 : a ≠ ls := ea3 ▸ Nat.ne_of_lt (Ea.lt)
  have t2 : aD ≠ ls := ea3 ▸ Nat.ne_of_lt (AD.lt)
  have t3 : aL ≠ ls := ea3 ▸ Nat.ne_of_lt (EL.lt)
  have t4 : b ≠ ls := ea3 ▸ Nat.ne_of_lt (Eb.lt)
  have t5 : eL ≠ ls := ea3 ▸ Nat.ne_of_lt (AL0.lt)
  have D3_0 : Fld Z h3 ls "java/util/AbstractList" "modCount" "I" (.int 0) := D3 (Or.inl (hw _ (List.mem_of_getElem? (i := 29) rfl))) (ty := .int) (by decide)
  have D3_1 : Fld Z h3 ls "java/util/ArrayList" "elementData" "[Ljava/lang/Object;" (.null) := D3 (Or.inl (hw _ (List.mem_of_getElem? (i := 33) rfl))) (ty := (.array (.object "java/lang/Object"))) (by decide)
  have D3_2 : Fld Z h3 ls "java/util/ArrayList" "size" "I" (.int 0) := D3 (Or.inl (hw _ (List.mem_of_getElem? (i := 102) rfl))) (ty := .int) (by decide)
  refine g_dup X3 B d9_16 17 rfl rfl ?_
  have t6 := (Nat.le_trans Z0 E3.1)
  have t7 := (Sta.ext E3 SD)
  refine g_callN X3 B [] [.ref ls, .ref a] d9_17 20 rfl rfl rfl (hw _ (List.mem_of_getElem? (i := 86) rfl)) (hw _ (List.mem_of_getElem? (i := 87) rfl)) (hw _ (List.mem_of_getElem? (i := 88) rfl)) (hw _ (List.mem_of_getElem? (i := 11) rfl)) (by decide) (lenOf pd_11 rfl) (rm11 l Z ag hw ls aD _ h3 n0 t6 g_ls A3 D3_0 D3_1 D3_2 t7) e3 rfl 2 (Nat.le_of_eq rfl) (by decide) (by decide) (by decide) (by decide) (fun v4 T4 h4 L4 X4 e4 q4 => ?_)
  obtain ⟨rfl, N4, K4, f1, f2, f3⟩ := q4
  show Go p e below _ (T4.setTop (mkF m 20 #[.val (.ref a), .val (.ref b)] [.ref ls, .ref a]))
  have t8 := (Fld.keep (Fld.ext E3 FH) K4 (ninS t1 nin0))
  have t9 := (Exa.keep (Exa.ext E3 Ea) K4)
  refine g_putF X4 B d9_20 23 rfl (hw _ (List.mem_of_getElem? (i := 47) rfl)) Via.refl e4 t8 t9 (Or.inl (hw _ (List.mem_of_getElem? (i := 48) rfl))) (hw _ (List.mem_of_getElem? (i := 1) rfl)) (ty := (.object "java/util/List")) (by decide) rfl rfl (fun T5 h5 X5 e5 W5 => ?_)
  have F5 := t8.same W5
  refine g_aloadN X5 B d9_23 24 rfl rfl rfl ?_
  refine g_getF X5 B d9_24 27 rfl (hw _ (List.mem_of_getElem? (i := 47) rfl)) Via.refl e5 F5 (fun T6 X6 e6 => ?_)
  refine g_aloadN X6 B d9_27 28 rfl rfl rfl ?_
  have t10 := (Nat.le_trans (Nat.le_trans t6 K4.1) (Nat.le_of_eq W5.size.symm))
  have t11 := (Exa.wr W5 (Exa.keep A3 K4))
  have t12 := (Fld.other W5 f1 (Or.inl (Ne.symm t1)))
  have t13 := (Fld.other W5 f2 (Or.inl (Ne.symm t1)))
  have t14 := (Fld.other W5 f3 (Or.inl (Ne.symm t1)))
  have t15 : a ≠ aD := own_neAv Ea (hw _ (List.mem_of_getElem? (i := 1) rfl)) AD
  have t16 := (Av.other (Av.keep (Av.ext AD E3) K4 (ninS t2 nin0)) W5 (Ne.symm t15))
  have t17 := (Sta.wr W5 (own_stkw t7 K4 (own_plE A3 own_pl0)))
  have t18 := (Exa.wr W5 (Exa.keep (Exa.ext E3 Eb) K4))
  have t19 := (Exa.wr W5 t9)
  have t20 := (Keep.wr (Keep.trans (Keep.ext (Keep.refl h0 [a, b]) E3) K4 (allS (Or.inr gg_ls) all0)) W5 (Or.inl (List.mem_of_getElem? (i := 0) rfl)))
  refine g_callI X6 B (y := ⟨"java/util/List", "add", "(Ljava/lang/Object;)Z"⟩) [.ref b] [] d9_28 33 rfl rfl (hw _ (List.mem_of_getElem? (i := 90) rfl)) (hw _ (List.mem_of_getElem? (i := 91) rfl)) (by first | rfl | decide | simp [Cond.onTables, Cond.keepsFace, Cond.keeps, Cond.steady]) (hw _ (List.mem_of_getElem? (i := 92) rfl)) (hw _ (List.mem_of_getElem? (i := 93) rfl)) (hw _ (List.mem_of_getElem? (i := 94) rfl)) (hw _ (List.mem_of_getElem? (i := 95) rfl)) (hw _ (List.mem_of_getElem? (i := 96) rfl)) (hw _ (List.mem_of_getElem? (i := 97) rfl)) (hw _ (List.mem_of_getElem? (i := 11) rfl)) (hw _ (List.mem_of_getElem? (i := 98) rfl)) (by decide) (lenOf pd_12 rfl) t11 (rm12 l Z ag hw ls aD b _ h5 n0 t10 g_ls t11 t12 t13 t14 t16 t17 t18) e6 rfl 0 (Nat.le_of_eq rfl) (by decide) (by decide) (by decide) (by decide) (fun v7 T7 h7 L7 X7 e7 q7 => ?_)
  obtain ⟨ar, rfl, N7, K7, f11, f12, f13, f14, f15, f16⟩ := q7
  show Go p e below _ (T7.setTop (mkF m 33 #[.val (.ref a), .val (.ref b)] [.int (1 : Int32)]))
  obtain ⟨vs, AR, hv10⟩ := f12
  have ARa := AR.av
  refine g_pop X7 B d9_33 34 rfl rfl ?_
  refine g_aloadN X7 B d9_34 35 rfl rfl rfl ?_
  refine g_dup X7 B d9_35 36 rfl rfl ?_
  have t21 := (Fld.keep (Fld.other W5 (Fld.keep (Fld.ext E3 FX) K4 (ninS t4 nin0)) (Or.inl (Ne.symm nab))) K7 (ninS t4 nin0))
  refine g_getF X7 B d9_36 39 rfl (hw _ (List.mem_of_getElem? (i := 123) rfl)) Via.refl e7 t21 (fun T8 X8 e8 => ?_)
  refine g_iconst X8 B (1) d9_39 40 rfl rfl ?_
  refine g_iadd X8 B d9_40 41 rfl ?_
  have t22 := (Exa.keep t18 K7)
  refine g_putF X8 B d9_41 44 rfl (hw _ (List.mem_of_getElem? (i := 123) rfl)) Via.refl e8 t21 t22 (Or.inl (hw _ (List.mem_of_getElem? (i := 124) rfl))) (hw _ (List.mem_of_getElem? (i := 1) rfl)) (ty := .int) (by decide) rfl rfl (fun T9 h9 X9 e9 W9 => ?_)
  have F9 := t21.same W9
  have t23 := (Keep.wr (Keep.trans t20 K7 (allS (Or.inr gg_ls) all0)) W9 (Or.inl (List.mem_of_getElem? (i := 1) rfl)))
  have t24 := (Fld.other W9 (Fld.keep F5 K7 (ninS t1 nin0)) (Or.inl nab))
  have t25 := (Exa.wr W9 (Exa.keep t11 K7))
  have t26 := (Fld.other W9 f11 (Or.inl (Ne.symm t4)))
  have t27 : b ≠ ar := own_neAv t22 (hw _ (List.mem_of_getElem? (i := 1) rfl)) ARa
  have t28 := (own_AvR_other AR W9 (Ne.symm t27))
  have t29 := (Fld.other W9 f13 (Or.inl (Ne.symm t4)))
  have t30 := (Fld.other W9 f14 (Or.inl (Ne.symm t4)))
  have t31 := (Fld.other W9 (Fld.keep (Fld.other W5 (Fld.keep (Fld.ext E3 FV) K4 (ninS t4 nin0)) (Or.inl (Ne.symm nab))) K7 (ninS t4 nin0)) (Or.inr (slot_ne (Or.inl (hw _ (List.mem_of_getElem? (i := 146) rfl))) (Or.inl (hw _ (List.mem_of_getElem? (i := 124) rfl))) (by decide) (t := (.object "com/example/growshrink/growshrink/engine/TransactionRecord$Request")) (by decide) (t' := .int) (by decide))))
  exact g_retV X9 B d9_44 rfl (by decide) (by decide) e9 ⟨ls, ar, _, rfl, (Fr.snoc X9 ((Fr.snoc X5 (((Fr.nil n0).app N2).app N4) ga).app N7) gb), t23, t24, t25, t26, ⟨_, t28, hv10⟩, t29, t30, F9, t31, g_ls, f16⟩
set_option maxRecDepth 65536 in
set_option maxHeartbeats 40000000 in
theorem rn9 (l : Launch) (Z : State) (ag : Array Value) (hw : ∀ d ∈ tables_1, d.before ag Z = true) (a b ls ar : Addr) (x y n : Int32) (i : Nat) (hv : Value) (h0 : Heap) (n0 : Nat) (Z0 : n0 ≤ h0.size) (ga : n0 ≤ a) (gb : n0 ≤ b) (gl : n0 ≤ ls) (gr : n0 ≤ ar) (nab : a ≠ b) (Ea : Exa Z h0 a "com/example/growshrink/growshrink/engine/TransactionRecord") (Eb : Exa Z h0 b "com/example/growshrink/growshrink/engine/TransactionRecord") (FH : Fld Z h0 a "com/example/growshrink/growshrink/engine/TransactionRecord" "heldBack" "Ljava/util/List;" (.ref ls)) (FX : Fld Z h0 b "com/example/growshrink/growshrink/engine/TransactionRecord" "eldersLeft" "I" (.int x)) (FV : Fld Z h0 b "com/example/growshrink/growshrink/engine/TransactionRecord" "held" "Lcom/example/growshrink/growshrink/engine/TransactionRecord$Request;" (hv)) (HL : Exa Z h0 ls "java/util/ArrayList" ∧ Fld Z h0 ls "java/util/ArrayList" "elementData" "[Ljava/lang/Object;" (.ref ar) ∧ (∃ vs, AvR Z h0 ar "java/lang/Object" vs ∧ vs.length = 10) ∧ Fld Z h0 ls "java/util/ArrayList" "size" "I" (.int n) ∧ Fld Z h0 ls "java/util/AbstractList" "modCount" "I" (.int y)) (nz : ¬ n = 0) (n1 : n.toNatClampNeg = i) (n2 : ¬ n < 0) (n3 : i < 10) (n4 : ¬ n = 10) :
    Ctr l Z (⟨"com/example/growshrink/growshrink/engine/TransactionRecord", "holdBack", "(Lcom/example/growshrink/growshrink/engine/TransactionRecord;)V"⟩ : MethodName) prog_56_method_14_code 2 none ({ frames := 2, cells := 0, slots := 0, locals := 28 } : Room) #[.ref a, .ref b] h0 (fun v h L => ∃ y, v = none ∧ Fr n0 L ∧ Keep h0 h [b, ls, ar] ∧ Exa Z h ls "java/util/ArrayList" ∧ Fld Z h ls "java/util/ArrayList" "elementData" "[Ljava/lang/Object;" (.ref ar) ∧ (∃ vs, AvR Z h ar "java/lang/Object" vs ∧ vs.length = 10) ∧ Fld Z h ls "java/util/ArrayList" "size" "I" (.int (n + 1)) ∧ Fld Z h ls "java/util/AbstractList" "modCount" "I" (.int y) ∧ Fld Z h b "com/example/growshrink/growshrink/engine/TransactionRecord" "eldersLeft" "I" (.int (x + 1)) ∧ Fld Z h b "com/example/growshrink/growshrink/engine/TransactionRecord" "held" "Lcom/example/growshrink/growshrink/engine/TransactionRecord$Request;" (hv)) := by
  refine Ctr.of pn_9 ?_
  intro p e s m below meth c T0 X0 B e0
  refine Go.cast (f' := mkF m 0 #[.val (.ref a), .val (.ref b)] []) (by first | rfl | (simp [entryFrame, mkF, argsToLocals, Value.category, maxLocals]; done)) ?_

  obtain ⟨EL, LE, ⟨vs, AR, hv10⟩, LS, LMo⟩ := HL
  have ARa := AR.av
  refine g_aloadN X0 B d9_0 1 rfl rfl rfl ?_
  refine g_getF X0 B d9_1 4 rfl (hw _ (List.mem_of_getElem? (i := 47) rfl)) Via.refl e0 FH (fun T1 X1 e1 => ?_)
  refine g_callI X1 B (y := ⟨"java/util/List", "isEmpty", "()Z"⟩) [] [] d9_4 9 rfl rfl (hw _ (List.mem_of_getElem? (i := 74) rfl)) (hw _ (List.mem_of_getElem? (i := 75) rfl)) (by first | rfl | decide | simp [Cond.onTables, Cond.keepsFace, Cond.keeps, Cond.steady]) (hw _ (List.mem_of_getElem? (i := 76) rfl)) (hw _ (List.mem_of_getElem? (i := 125) rfl)) (hw _ (List.mem_of_getElem? (i := 126) rfl)) (hw _ (List.mem_of_getElem? (i := 127) rfl)) (hw _ (List.mem_of_getElem? (i := 128) rfl)) (hw _ (List.mem_of_getElem? (i := 97) rfl)) (hw _ (List.mem_of_getElem? (i := 11) rfl)) (hw _ (List.mem_of_getElem? (i := 129) rfl)) (by decide) (lenOf pd_17 rfl) EL (rm17 l Z ag hw ls n h0 n0 LS) e1 rfl 0 (Nat.le_of_eq rfl) (by decide) (by decide) (by decide) (by decide) (fun v2 T2 h2 L2 X2 e2 q2 => ?_)
  obtain ⟨rfl, N2, rfl⟩ := q2
  show Go p e below _ (T2.setTop (mkF m 9 #[.val (.ref a), .val (.ref b)] [.int (if n = 0 then 1 else 0)]))
  refine g_if_eq X2 B d9_9 23 12 rfl (by decide) rfl (fun _ => ?_) (fun z => own_abs (if_neg nz) z)
  refine g_aloadN X2 B d9_23 24 rfl rfl rfl ?_
  refine g_getF X2 B d9_24 27 rfl (hw _ (List.mem_of_getElem? (i := 47) rfl)) Via.refl e2 FH (fun T3 X3 e3 => ?_)
  refine g_aloadN X3 B d9_27 28 rfl rfl rfl ?_
  refine g_callI X3 B (y := ⟨"java/util/List", "add", "(Ljava/lang/Object;)Z"⟩) [.ref b] [] d9_28 33 rfl rfl (hw _ (List.mem_of_getElem? (i := 90) rfl)) (hw _ (List.mem_of_getElem? (i := 91) rfl)) (by first | rfl | decide | simp [Cond.onTables, Cond.keepsFace, Cond.keeps, Cond.steady]) (hw _ (List.mem_of_getElem? (i := 92) rfl)) (hw _ (List.mem_of_getElem? (i := 93) rfl)) (hw _ (List.mem_of_getElem? (i := 94) rfl)) (hw _ (List.mem_of_getElem? (i := 95) rfl)) (hw _ (List.mem_of_getElem? (i := 96) rfl)) (hw _ (List.mem_of_getElem? (i := 97) rfl)) (hw _ (List.mem_of_getElem? (i := 11) rfl)) (hw _ (List.mem_of_getElem? (i := 98) rfl)) (by decide) (lenOf pd_12 rfl) EL (rn12 l Z ag hw ls ar b _ n i vs h0 n0 Z0 gl gr EL LE LS LMo AR hv10 n1 n2 n3 n4 Eb) e3 rfl 0 (Nat.le_of_eq rfl) (by decide) (by decide) (by decide) (by decide) (fun v4 T4 h4 L4 X4 e4 q4 => ?_)
  obtain ⟨rfl, N4, K4, f1, f2, f3, f4⟩ := q4
  show Go p e below _ (T4.setTop (mkF m 33 #[.val (.ref a), .val (.ref b)] [.int (1 : Int32)]))
  obtain ⟨vs2, AR2, hw10⟩ := f2
  have AR2a := AR2.av
  refine g_pop X4 B d9_33 34 rfl rfl ?_
  refine g_aloadN X4 B d9_34 35 rfl rfl rfl ?_
  refine g_dup X4 B d9_35 36 rfl rfl ?_
  have t1 : b ≠ ar := own_neAv (Exa.keep Eb K4) (hw _ (List.mem_of_getElem? (i := 1) rfl)) AR2a
  have t2 := (Exa.keep Eb K4)
  have t3 := (Exa.keep EL K4)
  have t4 : b ≠ ls := ne_exa t2 t3 (by decide)
  have t5 := (Fld.keep FX K4 (ninS t4 (ninS t1 nin0)))
  refine g_getF X4 B d9_36 39 rfl (hw _ (List.mem_of_getElem? (i := 123) rfl)) Via.refl e4 t5 (fun T5 X5 e5 => ?_)
  refine g_iconst X5 B (1) d9_39 40 rfl rfl ?_
  refine g_iadd X5 B d9_40 41 rfl ?_
  refine g_putF X5 B d9_41 44 rfl (hw _ (List.mem_of_getElem? (i := 123) rfl)) Via.refl e5 t5 t2 (Or.inl (hw _ (List.mem_of_getElem? (i := 124) rfl))) (hw _ (List.mem_of_getElem? (i := 1) rfl)) (ty := .int) (by decide) rfl rfl (fun T6 h6 X6 e6 W6 => ?_)
  have F6 := t5.same W6
  have t6 := (Keep.wr (Keep.trans (Keep.refl h0 [b, ls, ar]) K4 (allS (Or.inl (List.mem_of_getElem? (i := 1) rfl)) (allS (Or.inl (List.mem_of_getElem? (i := 2) rfl)) all0))) W6 (Or.inl (List.mem_of_getElem? (i := 0) rfl)))
  have t7 := (Exa.wr W6 t3)
  have t8 := (Fld.other W6 f1 (Or.inl (Ne.symm t4)))
  have t9 := (own_AvR_other AR2 W6 (Ne.symm t1))
  have t10 := (Fld.other W6 f3 (Or.inl (Ne.symm t4)))
  have t11 := (Fld.other W6 f4 (Or.inl (Ne.symm t4)))
  have t12 := (Fld.other W6 (Fld.keep FV K4 (ninS t4 (ninS t1 nin0))) (Or.inr (slot_ne (Or.inl (hw _ (List.mem_of_getElem? (i := 146) rfl))) (Or.inl (hw _ (List.mem_of_getElem? (i := 124) rfl))) (by decide) (t := (.object "com/example/growshrink/growshrink/engine/TransactionRecord$Request")) (by decide) (t' := .int) (by decide))))
  exact g_retV X6 B d9_44 rfl (by decide) (by decide) e6 ⟨_, rfl, (Fr.snoc X6 (((Fr.nil n0).app N2).app N4) gb), t6, t7, t8, ⟨_, t9, hw10⟩, t10, t11, F6, t12⟩
def own_ee (x : Int32) (v : Value) : Int32 := if x - 1 = 0 then (if v = .null then 0 else 1) else 0
set_option maxRecDepth 65536 in
set_option maxHeartbeats 40000000 in
theorem rm18 (l : Launch) (Z : State) (ag : Array Value) (hw : ∀ d ∈ tables_1, d.before ag Z = true) (a : Addr) (x : Int32) (hv : Value) (hr : hv.isRef = true) (h0 : Heap) (n0 : Nat) (Z0 : n0 ≤ h0.size) (ga : n0 ≤ a) (Ea : Exa Z h0 a "com/example/growshrink/growshrink/engine/TransactionRecord") (FX : Fld Z h0 a "com/example/growshrink/growshrink/engine/TransactionRecord" "eldersLeft" "I" (.int x)) (FV : Fld Z h0 a "com/example/growshrink/growshrink/engine/TransactionRecord" "held" "Lcom/example/growshrink/growshrink/engine/TransactionRecord$Request;" (hv)) :
    Ctr l Z (⟨"com/example/growshrink/growshrink/engine/TransactionRecord", "elderEnded", "()Z"⟩ : MethodName) prog_56_method_18_code 1 (some .boolean) ({ frames := 0, cells := 0, slots := 0, locals := 0 } : Room) #[.ref a] h0 (fun v h L => v = some (.int (own_ee x hv)) ∧ Fr n0 L ∧ Wr h0 h a (Jvm.RoadKit.slotOf Z "com/example/growshrink/growshrink/engine/TransactionRecord" "eldersLeft" "I") (.int (x - 1))) := by
  refine Ctr.of pn_18 ?_
  intro p e s m below meth c T0 X0 B e0
  refine Go.cast (f' := mkF m 0 #[.val (.ref a)] []) (by first | rfl | (simp [entryFrame, mkF, argsToLocals, Value.category, maxLocals]; done)) ?_

  refine g_aloadN X0 B d18_0 1 rfl rfl rfl ?_
  refine g_dup X0 B d18_1 2 rfl rfl ?_
  refine g_getF X0 B d18_2 5 rfl (hw _ (List.mem_of_getElem? (i := 123) rfl)) Via.refl e0 FX (fun T1 X1 e1 => ?_)
  refine g_iconst X1 B (1) d18_5 6 rfl rfl ?_
  refine g_isub X1 B d18_6 7 rfl ?_
  refine g_putF X1 B d18_7 10 rfl (hw _ (List.mem_of_getElem? (i := 123) rfl)) Via.refl e1 FX Ea (Or.inl (hw _ (List.mem_of_getElem? (i := 124) rfl))) (hw _ (List.mem_of_getElem? (i := 1) rfl)) (ty := .int) (by decide) rfl rfl (fun T2 h2 X2 e2 W2 => ?_)
  have F2 := FX.same W2
  refine g_aloadN X2 B d18_10 11 rfl rfl rfl ?_
  refine g_getF X2 B d18_11 14 rfl (hw _ (List.mem_of_getElem? (i := 123) rfl)) Via.refl e2 F2 (fun T3 X3 e3 => ?_)
  refine g_if_ne X3 B d18_14 28 17 rfl (by decide) rfl (fun c4 => ?_) (fun c4 => ?_)
  · skip
    refine g_iconst X3 B (0) d18_28 29 rfl rfl ?_
    exact g_retN X3 B d18_29 rfl rfl (by decide) (by decide) (by decide) e3 ⟨by simp [own_ee, c4], (Fr.snoc X2 (Fr.nil n0) ga), W2⟩
  · skip
    refine g_aloadN X3 B d18_17 18 rfl rfl rfl ?_
    have t1 := (Fld.other W2 FV (Or.inr (slot_ne (Or.inl (hw _ (List.mem_of_getElem? (i := 146) rfl))) (Or.inl (hw _ (List.mem_of_getElem? (i := 124) rfl))) (by decide) (t := (.object "com/example/growshrink/growshrink/engine/TransactionRecord$Request")) (by decide) (t' := .int) (by decide))))
    refine g_getF X3 B d18_18 21 rfl (hw _ (List.mem_of_getElem? (i := 145) rfl)) Via.refl e3 t1 (fun T5 X5 e5 => ?_)
    refine g_ifnull X5 B d18_21 28 24 rfl (by decide) rfl hr (fun c6 => ?_) (fun c6 => ?_)
    · skip
      refine g_iconst X5 B (0) d18_28 29 rfl rfl ?_
      exact g_retN X5 B d18_29 rfl rfl (by decide) (by decide) (by decide) e5 ⟨by simp [own_ee, c4, c6], (Fr.snoc X2 (Fr.nil n0) ga), W2⟩
    · skip
      refine g_iconst X5 B (1) d18_24 25 rfl rfl ?_
      refine g_goto X5 B d18_25 29 rfl (by decide) ?_
      exact g_retN X5 B d18_29 rfl rfl (by decide) (by decide) (by decide) e5 ⟨by simp [own_ee, c4, c6], (Fr.snoc X2 (Fr.nil n0) ga), W2⟩
set_option maxRecDepth 65536 in
set_option maxHeartbeats 40000000 in
theorem rm19 (l : Launch) (Z : State) (ag : Array Value) (hw : ∀ d ∈ tables_1, d.before ag Z = true) (a : Addr) (x : Int32) (h0 : Heap) (n0 : Nat) (FX : Fld Z h0 a "com/example/growshrink/growshrink/engine/TransactionRecord" "eldersLeft" "I" (.int x)) :
    Ctr l Z (⟨"com/example/growshrink/growshrink/engine/TransactionRecord", "awaitsElders", "()Z"⟩ : MethodName) prog_56_method_16_code 1 (some .boolean) ({ frames := 0, cells := 0, slots := 0, locals := 0 } : Room) #[.ref a] h0 (fun v h L => v = some (.int (if 0 < x then 1 else 0)) ∧ Fr n0 L ∧ h0 = h) := by
  refine Ctr.of pn_19 ?_
  intro p e s m below meth c T0 X0 B e0
  refine Go.cast (f' := mkF m 0 #[.val (.ref a)] []) (by first | rfl | (simp [entryFrame, mkF, argsToLocals, Value.category, maxLocals]; done)) ?_

  refine g_aloadN X0 B d19_0 1 rfl rfl rfl ?_
  refine g_getF X0 B d19_1 4 rfl (hw _ (List.mem_of_getElem? (i := 123) rfl)) Via.refl e0 FX (fun T1 X1 e1 => ?_)
  refine g_if_le X1 B d19_4 11 7 rfl (by decide) rfl (fun c2 => ?_) (fun c2 => ?_)
  · skip
    refine g_iconst X1 B (0) d19_11 12 rfl rfl ?_
    exact g_retN X1 B d19_12 rfl rfl (by decide) (by decide) (by decide) e1 ⟨by simp [c2], (Fr.nil n0), rfl⟩
  · skip
    refine g_iconst X1 B (1) d19_7 8 rfl rfl ?_
    refine g_goto X1 B d19_8 12 rfl (by decide) ?_
    exact g_retN X1 B d19_12 rfl rfl (by decide) (by decide) (by decide) e1 ⟨by simp [c2], (Fr.nil n0), rfl⟩
set_option maxRecDepth 65536 in
set_option maxHeartbeats 40000000 in
theorem rm20 (l : Launch) (Z : State) (ag : Array Value) (hw : ∀ d ∈ tables_1, d.before ag Z = true) (a : Addr) (hv : Value) (hr : hv.isRef = true) (h0 : Heap) (n0 : Nat) (Z0 : n0 ≤ h0.size) (ga : n0 ≤ a) (Ea : Exa Z h0 a "com/example/growshrink/growshrink/engine/TransactionRecord") (FV : Fld Z h0 a "com/example/growshrink/growshrink/engine/TransactionRecord" "held" "Lcom/example/growshrink/growshrink/engine/TransactionRecord$Request;" (hv)) :
    Ctr l Z (⟨"com/example/growshrink/growshrink/engine/TransactionRecord", "unhold", "()Lcom/example/growshrink/growshrink/engine/TransactionRecord$Request;"⟩ : MethodName) prog_56_method_19_code 2 (some (.object "com/example/growshrink/growshrink/engine/TransactionRecord$Request")) ({ frames := 0, cells := 0, slots := 0, locals := 0 } : Room) #[.ref a] h0 (fun v h L => v = some hv ∧ Fr n0 L ∧ Keep h0 h [a]) := by
  refine Ctr.of pn_20 ?_
  intro p e s m below meth c T0 X0 B e0
  refine Go.cast (f' := mkF m 0 #[.val (.ref a), .unset] []) (by first | rfl | (simp [entryFrame, mkF, argsToLocals, Value.category, maxLocals]; done)) ?_

  refine g_aloadN X0 B d20_0 1 rfl rfl rfl ?_
  refine g_getF X0 B d20_1 4 rfl (hw _ (List.mem_of_getElem? (i := 145) rfl)) Via.refl e0 FV (fun T1 X1 e1 => ?_)
  refine g_astoreN X1 B #[.val (.ref a), .val (hv)] d20_4 5 rfl hr (XS.store1 rfl (Or.inl rfl) (XT.cat1 hr)) ?_
  refine g_aloadN X1 B d20_5 6 rfl rfl rfl ?_
  refine g_aconstNull X1 B d20_6 7 rfl ?_
  refine g_putF X1 B d20_7 10 rfl (hw _ (List.mem_of_getElem? (i := 145) rfl)) Via.refl e1 FV Ea (Or.inl (hw _ (List.mem_of_getElem? (i := 146) rfl))) (hw _ (List.mem_of_getElem? (i := 1) rfl)) (ty := (.object "com/example/growshrink/growshrink/engine/TransactionRecord$Request")) (by decide) rfl rfl (fun T2 h2 X2 e2 W2 => ?_)
  have F2 := FV.same W2
  refine g_aloadN X2 B d20_10 11 rfl rfl hr ?_
  have t1 := (Keep.wr (Keep.refl h0 [a]) W2 (Or.inl (List.mem_of_getElem? (i := 0) rfl)))
  exact g_retA X2 B d20_11 rfl rfl hr (by decide) (by decide) e2 ⟨rfl, (Fr.snoc X2 (Fr.nil n0) ga), t1⟩
set_option maxRecDepth 65536 in
set_option maxHeartbeats 40000000 in
theorem rm21 (l : Launch) (Z : State) (ag : Array Value) (hw : ∀ d ∈ tables_1, d.before ag Z = true) (a r : Addr) (h0 : Heap) (n0 : Nat) (Z0 : n0 ≤ h0.size) (ga : n0 ≤ a) (Ea : Exa Z h0 a "com/example/growshrink/growshrink/engine/TransactionRecord") (FV : Fld Z h0 a "com/example/growshrink/growshrink/engine/TransactionRecord" "held" "Lcom/example/growshrink/growshrink/engine/TransactionRecord$Request;" (.null)) :
    Ctr l Z (⟨"com/example/growshrink/growshrink/engine/TransactionRecord", "hold", "(Lcom/example/growshrink/growshrink/engine/TransactionRecord$Request;)V"⟩ : MethodName) prog_56_method_17_code 2 none ({ frames := 0, cells := 0, slots := 0, locals := 0 } : Room) #[.ref a, .ref r] h0 (fun v h L => v = none ∧ Fr n0 L ∧ Wr h0 h a (Jvm.RoadKit.slotOf Z "com/example/growshrink/growshrink/engine/TransactionRecord" "held" "Lcom/example/growshrink/growshrink/engine/TransactionRecord$Request;") (.ref r)) := by
  refine Ctr.of pn_21 ?_
  intro p e s m below meth c T0 X0 B e0
  refine Go.cast (f' := mkF m 0 #[.val (.ref a), .val (.ref r)] []) (by first | rfl | (simp [entryFrame, mkF, argsToLocals, Value.category, maxLocals]; done)) ?_

  refine g_aloadN X0 B d21_0 1 rfl rfl rfl ?_
  refine g_aloadN X0 B d21_1 2 rfl rfl rfl ?_
  refine g_putF X0 B d21_2 5 rfl (hw _ (List.mem_of_getElem? (i := 145) rfl)) Via.refl e0 FV Ea (Or.inl (hw _ (List.mem_of_getElem? (i := 146) rfl))) (hw _ (List.mem_of_getElem? (i := 1) rfl)) (ty := (.object "com/example/growshrink/growshrink/engine/TransactionRecord$Request")) (by decide) rfl rfl (fun T1 h1 X1 e1 W1 => ?_)
  have F1 := FV.same W1
  exact g_retV X1 B d21_5 rfl (by decide) (by decide) e1 ⟨rfl, (Fr.snoc X1 (Fr.nil n0) ga), W1⟩
theorem own_and3 (x : Int32) : (x &&& (3 : Int32)) = 0 ∨ (x &&& (3 : Int32)) = 1 ∨ (x &&& (3 : Int32)) = 2 ∨ (x &&& (3 : Int32)) = 3 := by
  have h := c_mask x 3 2 (by decide) (by decide)
  have k0 : (0 : Int32).toInt = 0 := by decide
  have k1 : (1 : Int32).toInt = 1 := by decide
  have k2 : (2 : Int32).toInt = 2 := by decide
  have k3 : (3 : Int32).toInt = 3 := by decide
  simp only [← Int32.toInt_inj, k0, k1, k2, k3]
  omega
set_option maxRecDepth 65536 in
set_option maxHeartbeats 40000000 in
theorem rm0 (l : Launch) (Z : State) (ag : Array Value) (hw : ∀ d ∈ tables_1, d.before ag Z = true) (p0 p1 : Int32) (p2 : Int64) (aA aL aD eL : Addr) (h0 : Heap) (n0 : Nat) (Z0 : n0 ≤ h0.size) (SA : Sta Z h0 "com/example/growshrink/growshrink/model/TransactionState" "ACTIVE" "Lcom/example/growshrink/growshrink/model/TransactionState;" (.ref aA)) (SL : Sta Z h0 "java/util/ImmutableCollections" "EMPTY_LIST" "Ljava/util/ImmutableCollections$ListN;" (.ref aL)) (EL : Exa Z h0 aL "java/util/ImmutableCollections$ListN") (FL : Fld Z h0 aL "java/util/ImmutableCollections$ListN" "elements" "[Ljava/lang/Object;" (.ref eL)) (AL0 : Av Z h0 eL (.object "java/lang/Object") []) (AD : Av Z h0 aD (.object "java/lang/Object") []) (SD : Sta Z h0 "java/util/ArrayList" "DEFAULTCAPACITY_EMPTY_ELEMENTDATA" "[Ljava/lang/Object;" (.ref aD)) :
    Ctr l Z x code maxLocals ret room_1 #[.int p0, .int p1, .long p2] h0 (fun v h L => v = some (.int 1) ∧ Fr n0 L) := by
  refine Ctr.of pn_0 ?_
  intro p e s m below meth c T0 X0 B e0
  refine Go.cast (f' := mkF m 0 #[.val (.int p0), .val (.int p1), .val (.long p2), .second, .unset, .unset, .unset, .unset, .unset, .unset, .unset, .unset] []) (by first | rfl | (simp [entryFrame, mkF, argsToLocals, Value.category, maxLocals]; done)) ?_

  refine g_iloadN X0 B at_0 1 rfl rfl ?_
  refine g_iconst X0 B (3) at_1 2 rfl rfl ?_
  refine g_iand X0 B at_2 3 rfl ?_
  refine g_istore X0 B #[.val (.int p0), .val (.int p1), .val (.long p2), .second, .val (.int (p0 &&& (3 : Int32))), .unset, .unset, .unset, .unset, .unset, .unset, .unset] at_3 5 rfl rfl ?_
  rcases own_and3 p0 with kk | kk | kk | kk
  · skip
    rw [kk]
    refine g_iload X0 B at_5 7 rfl rfl ?_
    refine g_if_ne X0 B at_7 13 10 rfl (by decide) rfl (fun z => own_abs (by decide) z) (fun _ => ?_)
    refine g_iconst X0 B (3) at_10 11 rfl rfl ?_
    refine g_istore X0 B #[.val (.int p0), .val (.int p1), .val (.long p2), .second, .val (.int (3 : Int32)), .unset, .unset, .unset, .unset, .unset, .unset, .unset] at_11 13 rfl rfl ?_
    refine g_iloadN X0 B at_13 14 rfl rfl ?_
    refine g_iconst X0 B (2) at_14 15 rfl rfl ?_
    refine g_ishr X0 B at_15 16 rfl ?_
    refine g_iconst X0 B (1) at_16 17 rfl rfl ?_
    refine g_iand X0 B at_17 18 rfl ?_
    refine g_if_eq X0 B at_18 25 21 rfl (by decide) rfl (fun c1 => ?_) (fun c1 => ?_)
    · skip
      refine g_iconst X0 B (0) at_25 26 rfl rfl ?_
      refine g_istore X0 B #[.val (.int p0), .val (.int p1), .val (.long p2), .second, .val (.int (3 : Int32)), .val (.int (0 : Int32)), .unset, .unset, .unset, .unset, .unset, .unset] at_26 28 rfl rfl ?_
      refine g_new X0 B at_28 31 rfl (hw _ (List.mem_of_getElem? (i := 0) rfl)) (hw _ (List.mem_of_getElem? (i := 1) rfl)) (hw _ (List.mem_of_getElem? (i := 2) rfl)) e0 (by decide) (by decide) (fun T2 h2 el X2 e2 ea2 E2 A2 D2 => ?_)
      have g_el : n0 ≤ el := ea2 ▸ Z0
      have gg_el : h0.size ≤ el := ea2 ▸ (Keep.refl h0 []).1
      have t1 : aD ≠ el := ea2 ▸ Nat.ne_of_lt (AD.lt)
      have t2 : aL ≠ el := ea2 ▸ Nat.ne_of_lt (EL.lt)
      have t3 : eL ≠ el := ea2 ▸ Nat.ne_of_lt (AL0.lt)
      have D2_0 : Fld Z h2 el "com/example/growshrink/growshrink/engine/TransactionRecord" "locked" "Ljava/util/List;" (.null) := D2 (Or.inr (hw _ (List.mem_of_getElem? (i := 35) rfl))) (ty := (.object "java/util/List")) (by decide)
      have D2_1 : Fld Z h2 el "com/example/growshrink/growshrink/engine/TransactionRecord" "stage" "Lcom/example/growshrink/growshrink/model/TransactionState;" (.null) := D2 (Or.inl (hw _ (List.mem_of_getElem? (i := 40) rfl))) (ty := (.object "com/example/growshrink/growshrink/model/TransactionState")) (by decide)
      have D2_2 : Fld Z h2 el "com/example/growshrink/growshrink/engine/TransactionRecord" "heldBack" "Ljava/util/List;" (.null) := D2 (Or.inl (hw _ (List.mem_of_getElem? (i := 48) rfl))) (ty := (.object "java/util/List")) (by decide)
      have D2_3 : Fld Z h2 el "com/example/growshrink/growshrink/engine/TransactionRecord" "id" "I" (.int 0) := D2 (Or.inr (hw _ (List.mem_of_getElem? (i := 50) rfl))) (ty := .int) (by decide)
      have D2_4 : Fld Z h2 el "com/example/growshrink/growshrink/engine/TransactionRecord" "timestamp" "J" (.long 0) := D2 (Or.inr (hw _ (List.mem_of_getElem? (i := 52) rfl))) (ty := .long) (by decide)
      have D2_5 : Fld Z h2 el "com/example/growshrink/growshrink/engine/TransactionRecord" "eldersLeft" "I" (.int 0) := D2 (Or.inl (hw _ (List.mem_of_getElem? (i := 124) rfl))) (ty := .int) (by decide)
      have D2_6 : Fld Z h2 el "com/example/growshrink/growshrink/engine/TransactionRecord" "held" "Lcom/example/growshrink/growshrink/engine/TransactionRecord$Request;" (.null) := D2 (Or.inl (hw _ (List.mem_of_getElem? (i := 146) rfl))) (ty := (.object "com/example/growshrink/growshrink/engine/TransactionRecord$Request")) (by decide)
      refine g_dup X2 B at_31 32 rfl rfl ?_
      refine g_iloadN X2 B at_32 33 rfl rfl ?_
      refine g_iconst X2 B (1) at_33 34 rfl rfl ?_
      refine g_ixor X2 B at_34 35 rfl ?_
      refine g_lloadN X2 B at_35 36 rfl rfl ?_
      have t4 := (Nat.le_trans Z0 E2.1)
      have t5 := (Sta.ext E2 SA)
      have t6 := (Sta.ext E2 SL)
      refine g_callN X2 B [.int (p1 ^^^ (1 : Int32)), .long p2] [.ref el] at_36 39 rfl rfl rfl (hw _ (List.mem_of_getElem? (i := 3) rfl)) (hw _ (List.mem_of_getElem? (i := 4) rfl)) (hw _ (List.mem_of_getElem? (i := 5) rfl)) (hw _ (List.mem_of_getElem? (i := 2) rfl)) (by decide) (lenOf pd_1 rfl) (rm1 l Z ag hw el aA aL (p1 ^^^ (1 : Int32)) p2 h2 n0 t4 g_el A2 D2_0 D2_1 D2_2 D2_3 D2_4 D2_5 D2_6 t5 t6) e2 rfl 1 (Nat.le_of_eq rfl) (by decide) (by decide) (by decide) (by decide) (fun v3 T3 h3 L3 X3 e3 q3 => ?_)
      obtain ⟨rfl, N3, K3, f1_el, f2_el, f3_el⟩ := q3
      show Go p e below _ (T3.setTop (mkF m 39 #[.val (.int p0), .val (.int p1), .val (.long p2), .second, .val (.int (3 : Int32)), .val (.int (0 : Int32)), .unset, .unset, .unset, .unset, .unset, .unset] [.ref el]))
      refine g_astore X3 B #[.val (.int p0), .val (.int p1), .val (.long p2), .second, .val (.int (3 : Int32)), .val (.int (0 : Int32)), .val (.ref el), .unset, .unset, .unset, .unset, .unset] at_39 41 rfl rfl rfl ?_
      refine g_new X3 B at_41 44 rfl (hw _ (List.mem_of_getElem? (i := 0) rfl)) (hw _ (List.mem_of_getElem? (i := 1) rfl)) (hw _ (List.mem_of_getElem? (i := 2) rfl)) e3 (by decide) (by decide) (fun T4 h4 ag_ X4 e4 ea4 E4 A4 D4 => ?_)
      have t7 := (Nat.le_trans t4 K3.1)
      have t8 := (Keep.trans (Keep.ext (Keep.refl h0 []) E2) K3 (allS (Or.inr gg_el) all0))
      have t9 := (Av.keep (Av.ext AD E2) K3 (ninS t1 nin0))
      have t10 := (Exa.keep (Exa.ext E2 EL) K3)
      have t11 := (Av.keep (Av.ext AL0 E2) K3 (ninS t3 nin0))
      have t12 := (Exa.keep A2 K3)
      have g_ag_ : n0 ≤ ag_ := ea4 ▸ t7
      have gg_ag_ : h0.size ≤ ag_ := ea4 ▸ t8.1
      have t13 : aD ≠ ag_ := ea4 ▸ Nat.ne_of_lt (t9.lt)
      have t14 : aL ≠ ag_ := ea4 ▸ Nat.ne_of_lt (t10.lt)
      have t15 : eL ≠ ag_ := ea4 ▸ Nat.ne_of_lt (t11.lt)
      have t16 : el ≠ ag_ := ea4 ▸ Nat.ne_of_lt (t12.lt)
      have D4_0 : Fld Z h4 ag_ "com/example/growshrink/growshrink/engine/TransactionRecord" "locked" "Ljava/util/List;" (.null) := D4 (Or.inr (hw _ (List.mem_of_getElem? (i := 35) rfl))) (ty := (.object "java/util/List")) (by decide)
      have D4_1 : Fld Z h4 ag_ "com/example/growshrink/growshrink/engine/TransactionRecord" "stage" "Lcom/example/growshrink/growshrink/model/TransactionState;" (.null) := D4 (Or.inl (hw _ (List.mem_of_getElem? (i := 40) rfl))) (ty := (.object "com/example/growshrink/growshrink/model/TransactionState")) (by decide)
      have D4_2 : Fld Z h4 ag_ "com/example/growshrink/growshrink/engine/TransactionRecord" "heldBack" "Ljava/util/List;" (.null) := D4 (Or.inl (hw _ (List.mem_of_getElem? (i := 48) rfl))) (ty := (.object "java/util/List")) (by decide)
      have D4_3 : Fld Z h4 ag_ "com/example/growshrink/growshrink/engine/TransactionRecord" "id" "I" (.int 0) := D4 (Or.inr (hw _ (List.mem_of_getElem? (i := 50) rfl))) (ty := .int) (by decide)
      have D4_4 : Fld Z h4 ag_ "com/example/growshrink/growshrink/engine/TransactionRecord" "timestamp" "J" (.long 0) := D4 (Or.inr (hw _ (List.mem_of_getElem? (i := 52) rfl))) (ty := .long) (by decide)
      have D4_5 : Fld Z h4 ag_ "com/example/growshrink/growshrink/engine/TransactionRecord" "eldersLeft" "I" (.int 0) := D4 (Or.inl (hw _ (List.mem_of_getElem? (i := 124) rfl))) (ty := .int) (by decide)
      have D4_6 : Fld Z h4 ag_ "com/example/growshrink/growshrink/engine/TransactionRecord" "held" "Lcom/example/growshrink/growshrink/engine/TransactionRecord$Request;" (.null) := D4 (Or.inl (hw _ (List.mem_of_getElem? (i := 146) rfl))) (ty := (.object "com/example/growshrink/growshrink/engine/TransactionRecord$Request")) (by decide)
      refine g_dup X4 B at_44 45 rfl rfl ?_
      refine g_iloadN X4 B at_45 46 rfl rfl ?_
      refine g_lloadN X4 B at_46 47 rfl rfl ?_
      have t17 := (Nat.le_trans t7 E4.1)
      have t18 := (Sta.ext E4 (own_stkw t5 K3 (own_plE A2 own_pl0)))
      have t19 := (Sta.ext E4 (own_stkw t6 K3 (own_plE A2 own_pl0)))
      refine g_callN X4 B [.int p1, .long p2] [.ref ag_] at_47 50 rfl rfl rfl (hw _ (List.mem_of_getElem? (i := 3) rfl)) (hw _ (List.mem_of_getElem? (i := 4) rfl)) (hw _ (List.mem_of_getElem? (i := 5) rfl)) (hw _ (List.mem_of_getElem? (i := 2) rfl)) (by decide) (lenOf pd_1 rfl) (rm1 l Z ag hw ag_ aA aL p1 p2 h4 n0 t17 g_ag_ A4 D4_0 D4_1 D4_2 D4_3 D4_4 D4_5 D4_6 t18 t19) e4 rfl 1 (Nat.le_of_eq rfl) (by decide) (by decide) (by decide) (by decide) (fun v5 T5 h5 L5 X5 e5 q5 => ?_)
      obtain ⟨rfl, N5, K5, f1_ag_, f2_ag_, f3_ag_⟩ := q5
      show Go p e below _ (T5.setTop (mkF m 50 #[.val (.int p0), .val (.int p1), .val (.long p2), .second, .val (.int (3 : Int32)), .val (.int (0 : Int32)), .val (.ref el), .unset, .unset, .unset, .unset, .unset] [.ref ag_]))
      refine g_astore X5 B #[.val (.int p0), .val (.int p1), .val (.long p2), .second, .val (.int (3 : Int32)), .val (.int (0 : Int32)), .val (.ref el), .val (.ref ag_), .unset, .unset, .unset, .unset] at_50 52 rfl rfl rfl ?_
      refine g_new X5 B at_52 55 rfl (hw _ (List.mem_of_getElem? (i := 53) rfl)) (hw _ (List.mem_of_getElem? (i := 54) rfl)) (hw _ (List.mem_of_getElem? (i := 55) rfl)) e5 (by decide) (by decide) (fun T6 h6 rq X6 e6 ea6 E6 A6 D6 => ?_)
      have t20 := (Nat.le_trans t17 K5.1)
      have t21 := (Keep.trans (Keep.ext t8 E4) K5 (allS (Or.inr gg_ag_) all0))
      have t22 := (Av.keep (Av.ext t9 E4) K5 (ninS t13 nin0))
      have t23 := (Exa.keep (Exa.ext E4 t10) K5)
      have t24 := (Exa.keep A4 K5)
      have t25 := (Av.keep (Av.ext t11 E4) K5 (ninS t15 nin0))
      have t26 := (Exa.keep (Exa.ext E4 t12) K5)
      have g_rq : n0 ≤ rq := ea6 ▸ t20
      have gg_rq : h0.size ≤ rq := ea6 ▸ t21.1
      have t27 : aD ≠ rq := ea6 ▸ Nat.ne_of_lt (t22.lt)
      have t28 : aL ≠ rq := ea6 ▸ Nat.ne_of_lt (t23.lt)
      have t29 : ag_ ≠ rq := ea6 ▸ Nat.ne_of_lt (t24.lt)
      have t30 : eL ≠ rq := ea6 ▸ Nat.ne_of_lt (t25.lt)
      have t31 : el ≠ rq := ea6 ▸ Nat.ne_of_lt (t26.lt)
      have D6_0 : Fld Z h6 rq "com/example/growshrink/growshrink/engine/TransactionRecord$Request" "item" "Ljava/lang/String;" (.null) := D6 (Or.inr (hw _ (List.mem_of_getElem? (i := 66) rfl))) (ty := (.object "java/lang/String")) (by decide)
      have D6_1 : Fld Z h6 rq "com/example/growshrink/growshrink/engine/TransactionRecord$Request" "mode" "Lcom/example/growshrink/growshrink/model/LockMode;" (.null) := D6 (Or.inr (hw _ (List.mem_of_getElem? (i := 68) rfl))) (ty := (.object "com/example/growshrink/growshrink/model/LockMode")) (by decide)
      refine g_dup X6 B at_55 56 rfl rfl ?_
      refine g_aconstNull X6 B at_56 57 rfl ?_
      refine g_aconstNull X6 B at_57 58 rfl ?_
      have t32 := (Nat.le_trans t20 E6.1)
      refine g_callN X6 B [.null, .null] [.ref rq] at_58 61 rfl rfl rfl (hw _ (List.mem_of_getElem? (i := 56) rfl)) (hw _ (List.mem_of_getElem? (i := 57) rfl)) (hw _ (List.mem_of_getElem? (i := 58) rfl)) (hw _ (List.mem_of_getElem? (i := 55) rfl)) (by decide) (lenOf pd_7 rfl) (rm7 l Z ag hw rq h6 n0 t32 g_rq A6 D6_0 D6_1) e6 rfl 1 (Nat.le_of_eq rfl) (by decide) (by decide) (by decide) (by decide) (fun v7 T7 h7 L7 X7 e7 q7 => ?_)
      obtain ⟨rfl, N7, K7⟩ := q7
      show Go p e below _ (T7.setTop (mkF m 61 #[.val (.int p0), .val (.int p1), .val (.long p2), .second, .val (.int (3 : Int32)), .val (.int (0 : Int32)), .val (.ref el), .val (.ref ag_), .unset, .unset, .unset, .unset] [.ref rq]))
      refine g_astore X7 B #[.val (.int p0), .val (.int p1), .val (.long p2), .second, .val (.int (3 : Int32)), .val (.int (0 : Int32)), .val (.ref el), .val (.ref ag_), .val (.ref rq), .unset, .unset, .unset] at_61 63 rfl rfl rfl ?_
      refine g_aload X7 B at_63 65 rfl rfl rfl ?_
      refine g_aload X7 B at_65 67 rfl rfl rfl ?_
      have t33 := (Nat.le_trans t32 K7.1)
      have t34 := (Exa.keep (Exa.ext E6 t26) K7)
      have t35 := (Exa.keep (Exa.ext E6 t24) K7)
      have t36 := (Fld.keep (Fld.ext E6 (Fld.keep (Fld.ext E4 f1_el) K5 (ninS t16 nin0))) K7 (ninS t31 nin0))
      have t37 := (Fld.keep (Fld.ext E6 f2_ag_) K7 (ninS t29 nin0))
      have t38 := (Fld.keep (Fld.ext E6 f3_ag_) K7 (ninS t29 nin0))
      have t39 := (Exa.keep (Exa.ext E6 t23) K7)
      have t40 := (Fld.keep (Fld.ext E6 (Fld.keep (Fld.ext E4 (Fld.keep (Fld.ext E2 FL) K3 (ninS t2 nin0))) K5 (ninS t14 nin0))) K7 (ninS t28 nin0))
      have t41 := (Av.keep (Av.ext t25 E6) K7 (ninS t30 nin0))
      have t42 := (Av.keep (Av.ext t22 E6) K7 (ninS t27 nin0))
      have t43 := (own_stkw (Sta.ext E6 (own_stkw (Sta.ext E4 (own_stkw (Sta.ext E2 SD) K3 (own_plE A2 own_pl0))) K5 (own_plE A4 own_pl0))) K7 (own_plE A6 own_pl0))
      refine g_callV X7 B [.ref ag_] [] at_67 70 rfl rfl (hw _ (List.mem_of_getElem? (i := 69) rfl)) (hw _ (List.mem_of_getElem? (i := 70) rfl)) (hw _ (List.mem_of_getElem? (i := 72) rfl)) (hw _ (List.mem_of_getElem? (i := 71) rfl)) (hw _ (List.mem_of_getElem? (i := 2) rfl)) (hw _ (List.mem_of_getElem? (i := 73) rfl)) (by decide) (lenOf pd_9 rfl) t34 (rm9 l Z ag hw el ag_ aL aD eL 0 .null h7 n0 t33 g_el g_ag_ t16 t34 t35 t36 t37 t38 t39 t40 t41 t42 t43) e7 rfl 0 (Nat.le_of_eq rfl) (by decide) (by decide) (by decide) (by decide) (fun v8 T8 h8 L8 X8 e8 q8 => ?_)
      obtain ⟨ls, ar, y1, rfl, N8, K8, s1, EL1, s2, s3, s4, s5, s6, s7, gl, gr⟩ := q8
      show Go p e below _ (T8.setTop (mkF m 70 #[.val (.int p0), .val (.int p1), .val (.long p2), .second, .val (.int (3 : Int32)), .val (.int (0 : Int32)), .val (.ref el), .val (.ref ag_), .val (.ref rq), .unset, .unset, .unset] []))
      rw [show ((0 : Int32) + 1) = 1 by decide] at s6
      obtain ⟨vz1, Az1, -⟩ := id s3
      have Ay1 := Az1.av
      refine g_iload X8 B at_70 72 rfl rfl ?_
      refine g_iconst X8 B (2) at_72 73 rfl rfl ?_
      refine g_icmp_lt X8 B at_73 83 76 rfl (by decide) rfl (fun z => own_abs' (by decide) z) (fun _ => ?_)
      refine g_aload X8 B at_76 78 rfl rfl rfl ?_
      refine g_aload X8 B at_78 80 rfl rfl rfl ?_
      have t44 := (Nat.le_trans t33 K8.1)
      have t45 := (Exa.keep t34 K8)
      have t46 := (Exa.keep t35 K8)
      refine g_callV X8 B [.ref ag_] [] at_80 83 rfl rfl (hw _ (List.mem_of_getElem? (i := 69) rfl)) (hw _ (List.mem_of_getElem? (i := 70) rfl)) (hw _ (List.mem_of_getElem? (i := 72) rfl)) (hw _ (List.mem_of_getElem? (i := 71) rfl)) (hw _ (List.mem_of_getElem? (i := 2) rfl)) (hw _ (List.mem_of_getElem? (i := 73) rfl)) (by decide) (lenOf pd_9 rfl) t45 (rn9 l Z ag hw el ag_ ls ar 1 _ 1 1 .null h8 n0 t44 g_el g_ag_ gl gr t16 t45 t46 s1 s6 s7 ⟨EL1, s2, s3, s4, s5⟩ (by decide) (by decide) (by decide) (by decide) (by decide)) e8 rfl 0 (Nat.le_of_eq rfl) (by decide) (by decide) (by decide) (by decide) (fun v9 T9 h9 L9 X9 e9 q9 => ?_)
      obtain ⟨y2, rfl, N9, K9, EL2, u2_2, u3_2, u4_2, u5_2, u6_2, u7_2⟩ := q9
      show Go p e below _ (T9.setTop (mkF m 83 #[.val (.int p0), .val (.int p1), .val (.long p2), .second, .val (.int (3 : Int32)), .val (.int (0 : Int32)), .val (.ref el), .val (.ref ag_), .val (.ref rq), .unset, .unset, .unset] []))
      rw [show ((1 : Int32) + 1) = 2 by decide] at u4_2 u6_2
      obtain ⟨vz2, Az2, -⟩ := id u3_2
      have Ay2 := Az2.av
      refine g_iload X9 B at_83 85 rfl rfl ?_
      refine g_iconst X9 B (3) at_85 86 rfl rfl ?_
      refine g_icmp_lt X9 B at_86 96 89 rfl (by decide) rfl (fun z => own_abs' (by decide) z) (fun _ => ?_)
      refine g_aload X9 B at_89 91 rfl rfl rfl ?_
      refine g_aload X9 B at_91 93 rfl rfl rfl ?_
      have t47 := (Nat.le_trans t44 K9.1)
      have t48 := (Exa.keep t45 K9)
      have t49 := (Exa.keep t46 K9)
      have t50 : el ≠ ar := own_neAv t48 (hw _ (List.mem_of_getElem? (i := 1) rfl)) Ay2
      have t51 : el ≠ ls := ne_exa t48 EL2 (by decide)
      have t52 := (Fld.keep s1 K9 (ninS t16 (ninS t51 (ninS t50 nin0))))
      refine g_callV X9 B [.ref ag_] [] at_93 96 rfl rfl (hw _ (List.mem_of_getElem? (i := 69) rfl)) (hw _ (List.mem_of_getElem? (i := 70) rfl)) (hw _ (List.mem_of_getElem? (i := 72) rfl)) (hw _ (List.mem_of_getElem? (i := 71) rfl)) (hw _ (List.mem_of_getElem? (i := 2) rfl)) (hw _ (List.mem_of_getElem? (i := 73) rfl)) (by decide) (lenOf pd_9 rfl) t48 (rn9 l Z ag hw el ag_ ls ar 2 _ 2 2 .null h9 n0 t47 g_el g_ag_ gl gr t16 t48 t49 t52 u6_2 u7_2 ⟨EL2, u2_2, u3_2, u4_2, u5_2⟩ (by decide) (by decide) (by decide) (by decide) (by decide)) e9 rfl 0 (Nat.le_of_eq rfl) (by decide) (by decide) (by decide) (by decide) (fun v10 T10 h10 L10 X10 e10 q10 => ?_)
      obtain ⟨y3, rfl, N10, K10, EL3, u2_3, u3_3, u4_3, u5_3, u6_3, u7_3⟩ := q10
      show Go p e below _ (T10.setTop (mkF m 96 #[.val (.int p0), .val (.int p1), .val (.long p2), .second, .val (.int (3 : Int32)), .val (.int (0 : Int32)), .val (.ref el), .val (.ref ag_), .val (.ref rq), .unset, .unset, .unset] []))
      rw [show ((2 : Int32) + 1) = 3 by decide] at u4_3 u6_3
      obtain ⟨vz3, Az3, -⟩ := id u3_3
      have Ay3 := Az3.av
      refine g_iload X10 B at_96 98 rfl rfl ?_
      refine g_if_eq X10 B at_98 108 101 rfl (by decide) rfl (fun _ => ?_) (fun z => own_abs (by decide) z)
      refine g_iconst X10 B (1) at_108 109 rfl rfl ?_
      refine g_istore X10 B #[.val (.int p0), .val (.int p1), .val (.long p2), .second, .val (.int (3 : Int32)), .val (.int (0 : Int32)), .val (.ref el), .val (.ref ag_), .val (.ref rq), .val (.int (1 : Int32)), .unset, .unset] at_109 111 rfl rfl ?_
      refine g_aload X10 B at_111 113 rfl rfl rfl ?_
      have t53 := (Nat.le_trans t47 K10.1)
      have t54 := (Exa.keep t49 K10)
      refine g_callV X10 B [] [] at_113 116 rfl rfl (hw _ (List.mem_of_getElem? (i := 130) rfl)) (hw _ (List.mem_of_getElem? (i := 131) rfl)) (hw _ (List.mem_of_getElem? (i := 133) rfl)) (hw _ (List.mem_of_getElem? (i := 132) rfl)) (hw _ (List.mem_of_getElem? (i := 2) rfl)) (hw _ (List.mem_of_getElem? (i := 134) rfl)) (by decide) (lenOf pd_18 rfl) t54 (rm18 l Z ag hw ag_ 3 (.null) rfl h10 n0 t53 g_ag_ t54 u6_3 u7_3) e10 rfl 0 (Nat.le_of_eq rfl) (by decide) (by decide) (by decide) (by decide) (fun v11 T11 h11 L11 X11 e11 q11 => ?_)
      obtain ⟨rfl, N11, W11⟩ := q11
      show Go p e below _ (T11.setTop (mkF m 116 #[.val (.int p0), .val (.int p1), .val (.long p2), .second, .val (.int (3 : Int32)), .val (.int (0 : Int32)), .val (.ref el), .val (.ref ag_), .val (.ref rq), .val (.int (1 : Int32)), .unset, .unset] [.int (own_ee 3 (.null))]))
      rw [show own_ee 3 (.null) = 0 by simp [own_ee]]
      rw [show ((3 : Int32) - 1) = 2 by decide] at W11
      have F11 := u6_3.same W11
      refine g_istore X11 B #[.val (.int p0), .val (.int p1), .val (.long p2), .second, .val (.int (3 : Int32)), .val (.int (0 : Int32)), .val (.ref el), .val (.ref ag_), .val (.ref rq), .val (.int (1 : Int32)), .val (.int (0 : Int32)), .unset] at_116 118 rfl rfl ?_
      refine g_iload X11 B at_118 120 rfl rfl ?_
      refine g_iload X11 B at_120 122 rfl rfl ?_
      refine g_iload X11 B at_122 124 rfl rfl ?_
      refine g_iconst X11 B (1) at_124 125 rfl rfl ?_
      refine g_icmp_ne X11 B at_125 137 128 rfl (by decide) rfl (fun _ => ?_) (fun z => own_abs' (by decide) z)
      refine g_iconst X11 B (0) at_137 138 rfl rfl ?_
      refine g_icmp_ne X11 B at_138 145 141 rfl (by decide) rfl (fun z => own_abs (by decide) z) (fun _ => ?_)
      refine g_iconst X11 B (1) at_141 142 rfl rfl ?_
      refine g_goto X11 B at_142 146 rfl (by decide) ?_
      refine g_iand X11 B at_146 147 rfl ?_
      rw [show ((1 : Int32) &&& (1 : Int32)) = 1 by decide]
      refine g_istore X11 B #[.val (.int p0), .val (.int p1), .val (.long p2), .second, .val (.int (3 : Int32)), .val (.int (0 : Int32)), .val (.ref el), .val (.ref ag_), .val (.ref rq), .val (.int (1 : Int32)), .val (.int (0 : Int32)), .unset] at_147 149 rfl rfl ?_
      refine g_iload X11 B at_149 151 rfl rfl ?_
      refine g_aload X11 B at_151 153 rfl rfl rfl ?_
      have t55 := (Exa.wr W11 t54)
      refine g_callV X11 B [] [.int (1 : Int32)] at_153 156 rfl rfl (hw _ (List.mem_of_getElem? (i := 135) rfl)) (hw _ (List.mem_of_getElem? (i := 136) rfl)) (hw _ (List.mem_of_getElem? (i := 138) rfl)) (hw _ (List.mem_of_getElem? (i := 137) rfl)) (hw _ (List.mem_of_getElem? (i := 2) rfl)) (hw _ (List.mem_of_getElem? (i := 139) rfl)) (by decide) (lenOf pd_19 rfl) t55 (rm19 l Z ag hw ag_ 2 h11 n0 F11) e11 rfl 1 (Nat.le_of_eq rfl) (by decide) (by decide) (by decide) (by decide) (fun v12 T12 h12 L12 X12 e12 q12 => ?_)
      obtain ⟨rfl, N12, rfl⟩ := q12
      show Go p e below _ (T12.setTop (mkF m 156 #[.val (.int p0), .val (.int p1), .val (.long p2), .second, .val (.int (3 : Int32)), .val (.int (0 : Int32)), .val (.ref el), .val (.ref ag_), .val (.ref rq), .val (.int (1 : Int32)), .val (.int (0 : Int32)), .unset] [.int (if (0 : Int32) < 2 then 1 else 0), .int (1 : Int32)]))
      rw [show (if (0 : Int32) < 2 then (1 : Int32) else 0) = 1 by decide]
      refine g_iload X12 B at_156 158 rfl rfl ?_
      refine g_iconst X12 B (1) at_158 159 rfl rfl ?_
      refine g_icmp_le X12 B at_159 166 162 rfl (by decide) rfl (fun z => own_abs (by decide) z) (fun _ => ?_)
      refine g_iconst X12 B (1) at_162 163 rfl rfl ?_
      refine g_goto X12 B at_163 167 rfl (by decide) ?_
      refine g_icmp_ne X12 B at_167 174 170 rfl (by decide) rfl (fun z => own_abs (by decide) z) (fun _ => ?_)
      refine g_iconst X12 B (1) at_170 171 rfl rfl ?_
      refine g_goto X12 B at_171 175 rfl (by decide) ?_
      refine g_iand X12 B at_175 176 rfl ?_
      rw [show ((1 : Int32) &&& (1 : Int32)) = 1 by decide]
      refine g_istore X12 B #[.val (.int p0), .val (.int p1), .val (.long p2), .second, .val (.int (3 : Int32)), .val (.int (0 : Int32)), .val (.ref el), .val (.ref ag_), .val (.ref rq), .val (.int (1 : Int32)), .val (.int (0 : Int32)), .unset] at_176 178 rfl rfl ?_
      refine g_iload X12 B at_178 180 rfl rfl ?_
      refine g_iconst X12 B (2) at_180 181 rfl rfl ?_
      refine g_icmp_lt X12 B at_181 251 184 rfl (by decide) rfl (fun z => own_abs' (by decide) z) (fun _ => ?_)
      refine g_aload X12 B at_184 186 rfl rfl rfl ?_
      have t56 := (Nat.le_trans t53 (Nat.le_of_eq W11.size.symm))
      have t57 := (Fld.other W11 u7_3 (Or.inr (slot_ne (Or.inl (hw _ (List.mem_of_getElem? (i := 146) rfl))) (Or.inl (hw _ (List.mem_of_getElem? (i := 124) rfl))) (by decide) (t := (.object "com/example/growshrink/growshrink/engine/TransactionRecord$Request")) (by decide) (t' := .int) (by decide))))
      refine g_callV X12 B [] [] at_186 189 rfl rfl (hw _ (List.mem_of_getElem? (i := 130) rfl)) (hw _ (List.mem_of_getElem? (i := 131) rfl)) (hw _ (List.mem_of_getElem? (i := 133) rfl)) (hw _ (List.mem_of_getElem? (i := 132) rfl)) (hw _ (List.mem_of_getElem? (i := 2) rfl)) (hw _ (List.mem_of_getElem? (i := 134) rfl)) (by decide) (lenOf pd_18 rfl) t55 (rm18 l Z ag hw ag_ 2 (.null) rfl h11 n0 t56 g_ag_ t55 F11 t57) e12 rfl 0 (Nat.le_of_eq rfl) (by decide) (by decide) (by decide) (by decide) (fun v13 T13 h13 L13 X13 e13 q13 => ?_)
      obtain ⟨rfl, N13, W13⟩ := q13
      show Go p e below _ (T13.setTop (mkF m 189 #[.val (.int p0), .val (.int p1), .val (.long p2), .second, .val (.int (3 : Int32)), .val (.int (0 : Int32)), .val (.ref el), .val (.ref ag_), .val (.ref rq), .val (.int (1 : Int32)), .val (.int (0 : Int32)), .unset] [.int (own_ee 2 (.null))]))
      rw [show own_ee 2 (.null) = 0 by simp [own_ee]]
      rw [show ((2 : Int32) - 1) = 1 by decide] at W13
      have F13 := F11.same W13
      refine g_istore X13 B #[.val (.int p0), .val (.int p1), .val (.long p2), .second, .val (.int (3 : Int32)), .val (.int (0 : Int32)), .val (.ref el), .val (.ref ag_), .val (.ref rq), .val (.int (1 : Int32)), .val (.int (0 : Int32)), .val (.int (0 : Int32))] at_189 191 rfl rfl ?_
      refine g_iload X13 B at_191 193 rfl rfl ?_
      refine g_iload X13 B at_193 195 rfl rfl ?_
      refine g_iload X13 B at_195 197 rfl rfl ?_
      refine g_iconst X13 B (2) at_197 198 rfl rfl ?_
      refine g_icmp_ne X13 B at_198 210 201 rfl (by decide) rfl (fun _ => ?_) (fun z => own_abs' (by decide) z)
      refine g_iconst X13 B (0) at_210 211 rfl rfl ?_
      refine g_icmp_ne X13 B at_211 218 214 rfl (by decide) rfl (fun z => own_abs (by decide) z) (fun _ => ?_)
      refine g_iconst X13 B (1) at_214 215 rfl rfl ?_
      refine g_goto X13 B at_215 219 rfl (by decide) ?_
      refine g_iand X13 B at_219 220 rfl ?_
      rw [show ((1 : Int32) &&& (1 : Int32)) = 1 by decide]
      refine g_istore X13 B #[.val (.int p0), .val (.int p1), .val (.long p2), .second, .val (.int (3 : Int32)), .val (.int (0 : Int32)), .val (.ref el), .val (.ref ag_), .val (.ref rq), .val (.int (1 : Int32)), .val (.int (0 : Int32)), .val (.int (0 : Int32))] at_220 222 rfl rfl ?_
      refine g_iload X13 B at_222 224 rfl rfl ?_
      refine g_aload X13 B at_224 226 rfl rfl rfl ?_
      have t58 := (Exa.wr W13 t55)
      refine g_callV X13 B [] [.int (1 : Int32)] at_226 229 rfl rfl (hw _ (List.mem_of_getElem? (i := 135) rfl)) (hw _ (List.mem_of_getElem? (i := 136) rfl)) (hw _ (List.mem_of_getElem? (i := 138) rfl)) (hw _ (List.mem_of_getElem? (i := 137) rfl)) (hw _ (List.mem_of_getElem? (i := 2) rfl)) (hw _ (List.mem_of_getElem? (i := 139) rfl)) (by decide) (lenOf pd_19 rfl) t58 (rm19 l Z ag hw ag_ 1 h13 n0 F13) e13 rfl 1 (Nat.le_of_eq rfl) (by decide) (by decide) (by decide) (by decide) (fun v14 T14 h14 L14 X14 e14 q14 => ?_)
      obtain ⟨rfl, N14, rfl⟩ := q14
      show Go p e below _ (T14.setTop (mkF m 229 #[.val (.int p0), .val (.int p1), .val (.long p2), .second, .val (.int (3 : Int32)), .val (.int (0 : Int32)), .val (.ref el), .val (.ref ag_), .val (.ref rq), .val (.int (1 : Int32)), .val (.int (0 : Int32)), .val (.int (0 : Int32))] [.int (if (0 : Int32) < 1 then 1 else 0), .int (1 : Int32)]))
      rw [show (if (0 : Int32) < 1 then (1 : Int32) else 0) = 1 by decide]
      refine g_iload X14 B at_229 231 rfl rfl ?_
      refine g_iconst X14 B (2) at_231 232 rfl rfl ?_
      refine g_icmp_le X14 B at_232 239 235 rfl (by decide) rfl (fun z => own_abs (by decide) z) (fun _ => ?_)
      refine g_iconst X14 B (1) at_235 236 rfl rfl ?_
      refine g_goto X14 B at_236 240 rfl (by decide) ?_
      refine g_icmp_ne X14 B at_240 247 243 rfl (by decide) rfl (fun z => own_abs (by decide) z) (fun _ => ?_)
      refine g_iconst X14 B (1) at_243 244 rfl rfl ?_
      refine g_goto X14 B at_244 248 rfl (by decide) ?_
      refine g_iand X14 B at_248 249 rfl ?_
      rw [show ((1 : Int32) &&& (1 : Int32)) = 1 by decide]
      refine g_istore X14 B #[.val (.int p0), .val (.int p1), .val (.long p2), .second, .val (.int (3 : Int32)), .val (.int (0 : Int32)), .val (.ref el), .val (.ref ag_), .val (.ref rq), .val (.int (1 : Int32)), .val (.int (0 : Int32)), .val (.int (0 : Int32))] at_249 251 rfl rfl ?_
      refine g_iload X14 B at_251 253 rfl rfl ?_
      refine g_aload X14 B at_253 255 rfl rfl rfl ?_
      have t59 := (Nat.le_trans t56 (Nat.le_of_eq W13.size.symm))
      have t60 := (Fld.other W13 t57 (Or.inr (slot_ne (Or.inl (hw _ (List.mem_of_getElem? (i := 146) rfl))) (Or.inl (hw _ (List.mem_of_getElem? (i := 124) rfl))) (by decide) (t := (.object "com/example/growshrink/growshrink/engine/TransactionRecord$Request")) (by decide) (t' := .int) (by decide))))
      refine g_callV X14 B [] [.int (1 : Int32)] at_255 258 rfl rfl (hw _ (List.mem_of_getElem? (i := 140) rfl)) (hw _ (List.mem_of_getElem? (i := 141) rfl)) (hw _ (List.mem_of_getElem? (i := 143) rfl)) (hw _ (List.mem_of_getElem? (i := 142) rfl)) (hw _ (List.mem_of_getElem? (i := 2) rfl)) (hw _ (List.mem_of_getElem? (i := 144) rfl)) (by decide) (lenOf pd_20 rfl) t58 (rm20 l Z ag hw ag_ (.null) rfl h13 n0 t59 g_ag_ t58 t60) e14 rfl 1 (Nat.le_of_eq rfl) (by decide) (by decide) (by decide) (by decide) (fun v15 T15 h15 L15 X15 e15 q15 => ?_)
      obtain ⟨rfl, N15, K15⟩ := q15
      show Go p e below _ (T15.setTop (mkF m 258 #[.val (.int p0), .val (.int p1), .val (.long p2), .second, .val (.int (3 : Int32)), .val (.int (0 : Int32)), .val (.ref el), .val (.ref ag_), .val (.ref rq), .val (.int (1 : Int32)), .val (.int (0 : Int32)), .val (.int (0 : Int32))] [.null, .int (1 : Int32)]))
      refine g_iload X15 B at_258 260 rfl rfl ?_
      refine g_if_eq X15 B at_260 268 263 rfl (by decide) rfl (fun _ => ?_) (fun z => own_abs (by decide) z)
      refine g_aconstNull X15 B at_268 269 rfl ?_
      refine g_acmp_ne X15 B at_269 276 272 rfl (by decide) rfl rfl rfl (fun z => own_abs (rfl) z) (fun _ => ?_)
      refine g_iconst X15 B (1) at_272 273 rfl rfl ?_
      refine g_goto X15 B at_273 277 rfl (by decide) ?_
      refine g_iand X15 B at_277 278 rfl ?_
      rw [show ((1 : Int32) &&& (1 : Int32)) = 1 by decide]
      refine g_istore X15 B #[.val (.int p0), .val (.int p1), .val (.long p2), .second, .val (.int (3 : Int32)), .val (.int (0 : Int32)), .val (.ref el), .val (.ref ag_), .val (.ref rq), .val (.int (1 : Int32)), .val (.int (0 : Int32)), .val (.int (0 : Int32))] at_278 280 rfl rfl ?_
      refine g_iload X15 B at_280 282 rfl rfl ?_
      exact g_retN X15 B at_282 rfl rfl (by decide) (by decide) (by decide) e15 ⟨rfl, ((((((((((((Fr.nil n0).app N3).app N5).app N7).app N8).app N9).app N10).app N11).app N12).app N13).app N14).app N15)⟩
    · skip
      refine g_iconst X0 B (1) at_21 22 rfl rfl ?_
      refine g_goto X0 B at_22 26 rfl (by decide) ?_
      refine g_istore X0 B #[.val (.int p0), .val (.int p1), .val (.long p2), .second, .val (.int (3 : Int32)), .val (.int (1 : Int32)), .unset, .unset, .unset, .unset, .unset, .unset] at_26 28 rfl rfl ?_
      refine g_new X0 B at_28 31 rfl (hw _ (List.mem_of_getElem? (i := 0) rfl)) (hw _ (List.mem_of_getElem? (i := 1) rfl)) (hw _ (List.mem_of_getElem? (i := 2) rfl)) e0 (by decide) (by decide) (fun T16 h16 el X16 e16 ea16 E16 A16 D16 => ?_)
      have g_el : n0 ≤ el := ea16 ▸ Z0
      have gg_el : h0.size ≤ el := ea16 ▸ (Keep.refl h0 []).1
      have t61 : aD ≠ el := ea16 ▸ Nat.ne_of_lt (AD.lt)
      have t62 : aL ≠ el := ea16 ▸ Nat.ne_of_lt (EL.lt)
      have t63 : eL ≠ el := ea16 ▸ Nat.ne_of_lt (AL0.lt)
      have D16_0 : Fld Z h16 el "com/example/growshrink/growshrink/engine/TransactionRecord" "locked" "Ljava/util/List;" (.null) := D16 (Or.inr (hw _ (List.mem_of_getElem? (i := 35) rfl))) (ty := (.object "java/util/List")) (by decide)
      have D16_1 : Fld Z h16 el "com/example/growshrink/growshrink/engine/TransactionRecord" "stage" "Lcom/example/growshrink/growshrink/model/TransactionState;" (.null) := D16 (Or.inl (hw _ (List.mem_of_getElem? (i := 40) rfl))) (ty := (.object "com/example/growshrink/growshrink/model/TransactionState")) (by decide)
      have D16_2 : Fld Z h16 el "com/example/growshrink/growshrink/engine/TransactionRecord" "heldBack" "Ljava/util/List;" (.null) := D16 (Or.inl (hw _ (List.mem_of_getElem? (i := 48) rfl))) (ty := (.object "java/util/List")) (by decide)
      have D16_3 : Fld Z h16 el "com/example/growshrink/growshrink/engine/TransactionRecord" "id" "I" (.int 0) := D16 (Or.inr (hw _ (List.mem_of_getElem? (i := 50) rfl))) (ty := .int) (by decide)
      have D16_4 : Fld Z h16 el "com/example/growshrink/growshrink/engine/TransactionRecord" "timestamp" "J" (.long 0) := D16 (Or.inr (hw _ (List.mem_of_getElem? (i := 52) rfl))) (ty := .long) (by decide)
      have D16_5 : Fld Z h16 el "com/example/growshrink/growshrink/engine/TransactionRecord" "eldersLeft" "I" (.int 0) := D16 (Or.inl (hw _ (List.mem_of_getElem? (i := 124) rfl))) (ty := .int) (by decide)
      have D16_6 : Fld Z h16 el "com/example/growshrink/growshrink/engine/TransactionRecord" "held" "Lcom/example/growshrink/growshrink/engine/TransactionRecord$Request;" (.null) := D16 (Or.inl (hw _ (List.mem_of_getElem? (i := 146) rfl))) (ty := (.object "com/example/growshrink/growshrink/engine/TransactionRecord$Request")) (by decide)
      refine g_dup X16 B at_31 32 rfl rfl ?_
      refine g_iloadN X16 B at_32 33 rfl rfl ?_
      refine g_iconst X16 B (1) at_33 34 rfl rfl ?_
      refine g_ixor X16 B at_34 35 rfl ?_
      refine g_lloadN X16 B at_35 36 rfl rfl ?_
      have t64 := (Nat.le_trans Z0 E16.1)
      have t65 := (Sta.ext E16 SA)
      have t66 := (Sta.ext E16 SL)
      refine g_callN X16 B [.int (p1 ^^^ (1 : Int32)), .long p2] [.ref el] at_36 39 rfl rfl rfl (hw _ (List.mem_of_getElem? (i := 3) rfl)) (hw _ (List.mem_of_getElem? (i := 4) rfl)) (hw _ (List.mem_of_getElem? (i := 5) rfl)) (hw _ (List.mem_of_getElem? (i := 2) rfl)) (by decide) (lenOf pd_1 rfl) (rm1 l Z ag hw el aA aL (p1 ^^^ (1 : Int32)) p2 h16 n0 t64 g_el A16 D16_0 D16_1 D16_2 D16_3 D16_4 D16_5 D16_6 t65 t66) e16 rfl 1 (Nat.le_of_eq rfl) (by decide) (by decide) (by decide) (by decide) (fun v17 T17 h17 L17 X17 e17 q17 => ?_)
      obtain ⟨rfl, N17, K17, f1_el, f2_el, f3_el⟩ := q17
      show Go p e below _ (T17.setTop (mkF m 39 #[.val (.int p0), .val (.int p1), .val (.long p2), .second, .val (.int (3 : Int32)), .val (.int (1 : Int32)), .unset, .unset, .unset, .unset, .unset, .unset] [.ref el]))
      refine g_astore X17 B #[.val (.int p0), .val (.int p1), .val (.long p2), .second, .val (.int (3 : Int32)), .val (.int (1 : Int32)), .val (.ref el), .unset, .unset, .unset, .unset, .unset] at_39 41 rfl rfl rfl ?_
      refine g_new X17 B at_41 44 rfl (hw _ (List.mem_of_getElem? (i := 0) rfl)) (hw _ (List.mem_of_getElem? (i := 1) rfl)) (hw _ (List.mem_of_getElem? (i := 2) rfl)) e17 (by decide) (by decide) (fun T18 h18 ag_ X18 e18 ea18 E18 A18 D18 => ?_)
      have t67 := (Nat.le_trans t64 K17.1)
      have t68 := (Keep.trans (Keep.ext (Keep.refl h0 []) E16) K17 (allS (Or.inr gg_el) all0))
      have t69 := (Av.keep (Av.ext AD E16) K17 (ninS t61 nin0))
      have t70 := (Exa.keep (Exa.ext E16 EL) K17)
      have t71 := (Av.keep (Av.ext AL0 E16) K17 (ninS t63 nin0))
      have t72 := (Exa.keep A16 K17)
      have g_ag_ : n0 ≤ ag_ := ea18 ▸ t67
      have gg_ag_ : h0.size ≤ ag_ := ea18 ▸ t68.1
      have t73 : aD ≠ ag_ := ea18 ▸ Nat.ne_of_lt (t69.lt)
      have t74 : aL ≠ ag_ := ea18 ▸ Nat.ne_of_lt (t70.lt)
      have t75 : eL ≠ ag_ := ea18 ▸ Nat.ne_of_lt (t71.lt)
      have t76 : el ≠ ag_ := ea18 ▸ Nat.ne_of_lt (t72.lt)
      have D18_0 : Fld Z h18 ag_ "com/example/growshrink/growshrink/engine/TransactionRecord" "locked" "Ljava/util/List;" (.null) := D18 (Or.inr (hw _ (List.mem_of_getElem? (i := 35) rfl))) (ty := (.object "java/util/List")) (by decide)
      have D18_1 : Fld Z h18 ag_ "com/example/growshrink/growshrink/engine/TransactionRecord" "stage" "Lcom/example/growshrink/growshrink/model/TransactionState;" (.null) := D18 (Or.inl (hw _ (List.mem_of_getElem? (i := 40) rfl))) (ty := (.object "com/example/growshrink/growshrink/model/TransactionState")) (by decide)
      have D18_2 : Fld Z h18 ag_ "com/example/growshrink/growshrink/engine/TransactionRecord" "heldBack" "Ljava/util/List;" (.null) := D18 (Or.inl (hw _ (List.mem_of_getElem? (i := 48) rfl))) (ty := (.object "java/util/List")) (by decide)
      have D18_3 : Fld Z h18 ag_ "com/example/growshrink/growshrink/engine/TransactionRecord" "id" "I" (.int 0) := D18 (Or.inr (hw _ (List.mem_of_getElem? (i := 50) rfl))) (ty := .int) (by decide)
      have D18_4 : Fld Z h18 ag_ "com/example/growshrink/growshrink/engine/TransactionRecord" "timestamp" "J" (.long 0) := D18 (Or.inr (hw _ (List.mem_of_getElem? (i := 52) rfl))) (ty := .long) (by decide)
      have D18_5 : Fld Z h18 ag_ "com/example/growshrink/growshrink/engine/TransactionRecord" "eldersLeft" "I" (.int 0) := D18 (Or.inl (hw _ (List.mem_of_getElem? (i := 124) rfl))) (ty := .int) (by decide)
      have D18_6 : Fld Z h18 ag_ "com/example/growshrink/growshrink/engine/TransactionRecord" "held" "Lcom/example/growshrink/growshrink/engine/TransactionRecord$Request;" (.null) := D18 (Or.inl (hw _ (List.mem_of_getElem? (i := 146) rfl))) (ty := (.object "com/example/growshrink/growshrink/engine/TransactionRecord$Request")) (by decide)
      refine g_dup X18 B at_44 45 rfl rfl ?_
      refine g_iloadN X18 B at_45 46 rfl rfl ?_
      refine g_lloadN X18 B at_46 47 rfl rfl ?_
      have t77 := (Nat.le_trans t67 E18.1)
      have t78 := (Sta.ext E18 (own_stkw t65 K17 (own_plE A16 own_pl0)))
      have t79 := (Sta.ext E18 (own_stkw t66 K17 (own_plE A16 own_pl0)))
      refine g_callN X18 B [.int p1, .long p2] [.ref ag_] at_47 50 rfl rfl rfl (hw _ (List.mem_of_getElem? (i := 3) rfl)) (hw _ (List.mem_of_getElem? (i := 4) rfl)) (hw _ (List.mem_of_getElem? (i := 5) rfl)) (hw _ (List.mem_of_getElem? (i := 2) rfl)) (by decide) (lenOf pd_1 rfl) (rm1 l Z ag hw ag_ aA aL p1 p2 h18 n0 t77 g_ag_ A18 D18_0 D18_1 D18_2 D18_3 D18_4 D18_5 D18_6 t78 t79) e18 rfl 1 (Nat.le_of_eq rfl) (by decide) (by decide) (by decide) (by decide) (fun v19 T19 h19 L19 X19 e19 q19 => ?_)
      obtain ⟨rfl, N19, K19, f1_ag_, f2_ag_, f3_ag_⟩ := q19
      show Go p e below _ (T19.setTop (mkF m 50 #[.val (.int p0), .val (.int p1), .val (.long p2), .second, .val (.int (3 : Int32)), .val (.int (1 : Int32)), .val (.ref el), .unset, .unset, .unset, .unset, .unset] [.ref ag_]))
      refine g_astore X19 B #[.val (.int p0), .val (.int p1), .val (.long p2), .second, .val (.int (3 : Int32)), .val (.int (1 : Int32)), .val (.ref el), .val (.ref ag_), .unset, .unset, .unset, .unset] at_50 52 rfl rfl rfl ?_
      refine g_new X19 B at_52 55 rfl (hw _ (List.mem_of_getElem? (i := 53) rfl)) (hw _ (List.mem_of_getElem? (i := 54) rfl)) (hw _ (List.mem_of_getElem? (i := 55) rfl)) e19 (by decide) (by decide) (fun T20 h20 rq X20 e20 ea20 E20 A20 D20 => ?_)
      have t80 := (Nat.le_trans t77 K19.1)
      have t81 := (Keep.trans (Keep.ext t68 E18) K19 (allS (Or.inr gg_ag_) all0))
      have t82 := (Av.keep (Av.ext t69 E18) K19 (ninS t73 nin0))
      have t83 := (Exa.keep (Exa.ext E18 t70) K19)
      have t84 := (Exa.keep A18 K19)
      have t85 := (Av.keep (Av.ext t71 E18) K19 (ninS t75 nin0))
      have t86 := (Exa.keep (Exa.ext E18 t72) K19)
      have g_rq : n0 ≤ rq := ea20 ▸ t80
      have gg_rq : h0.size ≤ rq := ea20 ▸ t81.1
      have t87 : aD ≠ rq := ea20 ▸ Nat.ne_of_lt (t82.lt)
      have t88 : aL ≠ rq := ea20 ▸ Nat.ne_of_lt (t83.lt)
      have t89 : ag_ ≠ rq := ea20 ▸ Nat.ne_of_lt (t84.lt)
      have t90 : eL ≠ rq := ea20 ▸ Nat.ne_of_lt (t85.lt)
      have t91 : el ≠ rq := ea20 ▸ Nat.ne_of_lt (t86.lt)
      have D20_0 : Fld Z h20 rq "com/example/growshrink/growshrink/engine/TransactionRecord$Request" "item" "Ljava/lang/String;" (.null) := D20 (Or.inr (hw _ (List.mem_of_getElem? (i := 66) rfl))) (ty := (.object "java/lang/String")) (by decide)
      have D20_1 : Fld Z h20 rq "com/example/growshrink/growshrink/engine/TransactionRecord$Request" "mode" "Lcom/example/growshrink/growshrink/model/LockMode;" (.null) := D20 (Or.inr (hw _ (List.mem_of_getElem? (i := 68) rfl))) (ty := (.object "com/example/growshrink/growshrink/model/LockMode")) (by decide)
      refine g_dup X20 B at_55 56 rfl rfl ?_
      refine g_aconstNull X20 B at_56 57 rfl ?_
      refine g_aconstNull X20 B at_57 58 rfl ?_
      have t92 := (Nat.le_trans t80 E20.1)
      refine g_callN X20 B [.null, .null] [.ref rq] at_58 61 rfl rfl rfl (hw _ (List.mem_of_getElem? (i := 56) rfl)) (hw _ (List.mem_of_getElem? (i := 57) rfl)) (hw _ (List.mem_of_getElem? (i := 58) rfl)) (hw _ (List.mem_of_getElem? (i := 55) rfl)) (by decide) (lenOf pd_7 rfl) (rm7 l Z ag hw rq h20 n0 t92 g_rq A20 D20_0 D20_1) e20 rfl 1 (Nat.le_of_eq rfl) (by decide) (by decide) (by decide) (by decide) (fun v21 T21 h21 L21 X21 e21 q21 => ?_)
      obtain ⟨rfl, N21, K21⟩ := q21
      show Go p e below _ (T21.setTop (mkF m 61 #[.val (.int p0), .val (.int p1), .val (.long p2), .second, .val (.int (3 : Int32)), .val (.int (1 : Int32)), .val (.ref el), .val (.ref ag_), .unset, .unset, .unset, .unset] [.ref rq]))
      refine g_astore X21 B #[.val (.int p0), .val (.int p1), .val (.long p2), .second, .val (.int (3 : Int32)), .val (.int (1 : Int32)), .val (.ref el), .val (.ref ag_), .val (.ref rq), .unset, .unset, .unset] at_61 63 rfl rfl rfl ?_
      refine g_aload X21 B at_63 65 rfl rfl rfl ?_
      refine g_aload X21 B at_65 67 rfl rfl rfl ?_
      have t93 := (Nat.le_trans t92 K21.1)
      have t94 := (Exa.keep (Exa.ext E20 t86) K21)
      have t95 := (Exa.keep (Exa.ext E20 t84) K21)
      have t96 := (Fld.keep (Fld.ext E20 (Fld.keep (Fld.ext E18 f1_el) K19 (ninS t76 nin0))) K21 (ninS t91 nin0))
      have t97 := (Fld.keep (Fld.ext E20 f2_ag_) K21 (ninS t89 nin0))
      have t98 := (Fld.keep (Fld.ext E20 f3_ag_) K21 (ninS t89 nin0))
      have t99 := (Exa.keep (Exa.ext E20 t83) K21)
      have t100 := (Fld.keep (Fld.ext E20 (Fld.keep (Fld.ext E18 (Fld.keep (Fld.ext E16 FL) K17 (ninS t62 nin0))) K19 (ninS t74 nin0))) K21 (ninS t88 nin0))
      have t101 := (Av.keep (Av.ext t85 E20) K21 (ninS t90 nin0))
      have t102 := (Av.keep (Av.ext t82 E20) K21 (ninS t87 nin0))
      have t103 := (own_stkw (Sta.ext E20 (own_stkw (Sta.ext E18 (own_stkw (Sta.ext E16 SD) K17 (own_plE A16 own_pl0))) K19 (own_plE A18 own_pl0))) K21 (own_plE A20 own_pl0))
      refine g_callV X21 B [.ref ag_] [] at_67 70 rfl rfl (hw _ (List.mem_of_getElem? (i := 69) rfl)) (hw _ (List.mem_of_getElem? (i := 70) rfl)) (hw _ (List.mem_of_getElem? (i := 72) rfl)) (hw _ (List.mem_of_getElem? (i := 71) rfl)) (hw _ (List.mem_of_getElem? (i := 2) rfl)) (hw _ (List.mem_of_getElem? (i := 73) rfl)) (by decide) (lenOf pd_9 rfl) t94 (rm9 l Z ag hw el ag_ aL aD eL 0 .null h21 n0 t93 g_el g_ag_ t76 t94 t95 t96 t97 t98 t99 t100 t101 t102 t103) e21 rfl 0 (Nat.le_of_eq rfl) (by decide) (by decide) (by decide) (by decide) (fun v22 T22 h22 L22 X22 e22 q22 => ?_)
      obtain ⟨ls, ar, y1, rfl, N22, K22, s1, EL1, s2, s3, s4, s5, s6, s7, gl, gr⟩ := q22
      show Go p e below _ (T22.setTop (mkF m 70 #[.val (.int p0), .val (.int p1), .val (.long p2), .second, .val (.int (3 : Int32)), .val (.int (1 : Int32)), .val (.ref el), .val (.ref ag_), .val (.ref rq), .unset, .unset, .unset] []))
      rw [show ((0 : Int32) + 1) = 1 by decide] at s6
      obtain ⟨vz1, Az1, -⟩ := id s3
      have Ay1 := Az1.av
      refine g_iload X22 B at_70 72 rfl rfl ?_
      refine g_iconst X22 B (2) at_72 73 rfl rfl ?_
      refine g_icmp_lt X22 B at_73 83 76 rfl (by decide) rfl (fun z => own_abs' (by decide) z) (fun _ => ?_)
      refine g_aload X22 B at_76 78 rfl rfl rfl ?_
      refine g_aload X22 B at_78 80 rfl rfl rfl ?_
      have t104 := (Nat.le_trans t93 K22.1)
      have t105 := (Exa.keep t94 K22)
      have t106 := (Exa.keep t95 K22)
      refine g_callV X22 B [.ref ag_] [] at_80 83 rfl rfl (hw _ (List.mem_of_getElem? (i := 69) rfl)) (hw _ (List.mem_of_getElem? (i := 70) rfl)) (hw _ (List.mem_of_getElem? (i := 72) rfl)) (hw _ (List.mem_of_getElem? (i := 71) rfl)) (hw _ (List.mem_of_getElem? (i := 2) rfl)) (hw _ (List.mem_of_getElem? (i := 73) rfl)) (by decide) (lenOf pd_9 rfl) t105 (rn9 l Z ag hw el ag_ ls ar 1 _ 1 1 .null h22 n0 t104 g_el g_ag_ gl gr t76 t105 t106 s1 s6 s7 ⟨EL1, s2, s3, s4, s5⟩ (by decide) (by decide) (by decide) (by decide) (by decide)) e22 rfl 0 (Nat.le_of_eq rfl) (by decide) (by decide) (by decide) (by decide) (fun v23 T23 h23 L23 X23 e23 q23 => ?_)
      obtain ⟨y2, rfl, N23, K23, EL2, u2_2, u3_2, u4_2, u5_2, u6_2, u7_2⟩ := q23
      show Go p e below _ (T23.setTop (mkF m 83 #[.val (.int p0), .val (.int p1), .val (.long p2), .second, .val (.int (3 : Int32)), .val (.int (1 : Int32)), .val (.ref el), .val (.ref ag_), .val (.ref rq), .unset, .unset, .unset] []))
      rw [show ((1 : Int32) + 1) = 2 by decide] at u4_2 u6_2
      obtain ⟨vz2, Az2, -⟩ := id u3_2
      have Ay2 := Az2.av
      refine g_iload X23 B at_83 85 rfl rfl ?_
      refine g_iconst X23 B (3) at_85 86 rfl rfl ?_
      refine g_icmp_lt X23 B at_86 96 89 rfl (by decide) rfl (fun z => own_abs' (by decide) z) (fun _ => ?_)
      refine g_aload X23 B at_89 91 rfl rfl rfl ?_
      refine g_aload X23 B at_91 93 rfl rfl rfl ?_
      have t107 := (Nat.le_trans t104 K23.1)
      have t108 := (Exa.keep t105 K23)
      have t109 := (Exa.keep t106 K23)
      have t110 : el ≠ ar := own_neAv t108 (hw _ (List.mem_of_getElem? (i := 1) rfl)) Ay2
      have t111 : el ≠ ls := ne_exa t108 EL2 (by decide)
      have t112 := (Fld.keep s1 K23 (ninS t76 (ninS t111 (ninS t110 nin0))))
      refine g_callV X23 B [.ref ag_] [] at_93 96 rfl rfl (hw _ (List.mem_of_getElem? (i := 69) rfl)) (hw _ (List.mem_of_getElem? (i := 70) rfl)) (hw _ (List.mem_of_getElem? (i := 72) rfl)) (hw _ (List.mem_of_getElem? (i := 71) rfl)) (hw _ (List.mem_of_getElem? (i := 2) rfl)) (hw _ (List.mem_of_getElem? (i := 73) rfl)) (by decide) (lenOf pd_9 rfl) t108 (rn9 l Z ag hw el ag_ ls ar 2 _ 2 2 .null h23 n0 t107 g_el g_ag_ gl gr t76 t108 t109 t112 u6_2 u7_2 ⟨EL2, u2_2, u3_2, u4_2, u5_2⟩ (by decide) (by decide) (by decide) (by decide) (by decide)) e23 rfl 0 (Nat.le_of_eq rfl) (by decide) (by decide) (by decide) (by decide) (fun v24 T24 h24 L24 X24 e24 q24 => ?_)
      obtain ⟨y3, rfl, N24, K24, EL3, u2_3, u3_3, u4_3, u5_3, u6_3, u7_3⟩ := q24
      show Go p e below _ (T24.setTop (mkF m 96 #[.val (.int p0), .val (.int p1), .val (.long p2), .second, .val (.int (3 : Int32)), .val (.int (1 : Int32)), .val (.ref el), .val (.ref ag_), .val (.ref rq), .unset, .unset, .unset] []))
      rw [show ((2 : Int32) + 1) = 3 by decide] at u4_3 u6_3
      obtain ⟨vz3, Az3, -⟩ := id u3_3
      have Ay3 := Az3.av
      refine g_iload X24 B at_96 98 rfl rfl ?_
      refine g_if_eq X24 B at_98 108 101 rfl (by decide) rfl (fun z => own_abs' (by decide) z) (fun _ => ?_)
      refine g_aload X24 B at_101 103 rfl rfl rfl ?_
      refine g_aload X24 B at_103 105 rfl rfl rfl ?_
      have t113 := (Nat.le_trans t107 K24.1)
      have t114 := (Exa.keep t109 K24)
      refine g_callV X24 B [.ref rq] [] at_105 108 rfl rfl (hw _ (List.mem_of_getElem? (i := 147) rfl)) (hw _ (List.mem_of_getElem? (i := 148) rfl)) (hw _ (List.mem_of_getElem? (i := 150) rfl)) (hw _ (List.mem_of_getElem? (i := 149) rfl)) (hw _ (List.mem_of_getElem? (i := 2) rfl)) (hw _ (List.mem_of_getElem? (i := 151) rfl)) (by decide) (lenOf pd_21 rfl) t114 (rm21 l Z ag hw ag_ rq h24 n0 t113 g_ag_ t114 u7_3) e24 rfl 0 (Nat.le_of_eq rfl) (by decide) (by decide) (by decide) (by decide) (fun v25 T25 h25 L25 X25 e25 q25 => ?_)
      obtain ⟨rfl, N25, W25⟩ := q25
      show Go p e below _ (T25.setTop (mkF m 108 #[.val (.int p0), .val (.int p1), .val (.long p2), .second, .val (.int (3 : Int32)), .val (.int (1 : Int32)), .val (.ref el), .val (.ref ag_), .val (.ref rq), .unset, .unset, .unset] []))
      have F25 := u7_3.same W25
      refine g_iconst X25 B (1) at_108 109 rfl rfl ?_
      refine g_istore X25 B #[.val (.int p0), .val (.int p1), .val (.long p2), .second, .val (.int (3 : Int32)), .val (.int (1 : Int32)), .val (.ref el), .val (.ref ag_), .val (.ref rq), .val (.int (1 : Int32)), .unset, .unset] at_109 111 rfl rfl ?_
      refine g_aload X25 B at_111 113 rfl rfl rfl ?_
      have t115 := (Nat.le_trans t113 (Nat.le_of_eq W25.size.symm))
      have t116 := (Exa.wr W25 t114)
      have t117 := (Fld.other W25 u6_3 (Or.inr (slot_ne (Or.inl (hw _ (List.mem_of_getElem? (i := 124) rfl))) (Or.inl (hw _ (List.mem_of_getElem? (i := 146) rfl))) (by decide) (t := .int) (by decide) (t' := (.object "com/example/growshrink/growshrink/engine/TransactionRecord$Request")) (by decide))))
      refine g_callV X25 B [] [] at_113 116 rfl rfl (hw _ (List.mem_of_getElem? (i := 130) rfl)) (hw _ (List.mem_of_getElem? (i := 131) rfl)) (hw _ (List.mem_of_getElem? (i := 133) rfl)) (hw _ (List.mem_of_getElem? (i := 132) rfl)) (hw _ (List.mem_of_getElem? (i := 2) rfl)) (hw _ (List.mem_of_getElem? (i := 134) rfl)) (by decide) (lenOf pd_18 rfl) t116 (rm18 l Z ag hw ag_ 3 (.ref rq) rfl h25 n0 t115 g_ag_ t116 t117 F25) e25 rfl 0 (Nat.le_of_eq rfl) (by decide) (by decide) (by decide) (by decide) (fun v26 T26 h26 L26 X26 e26 q26 => ?_)
      obtain ⟨rfl, N26, W26⟩ := q26
      show Go p e below _ (T26.setTop (mkF m 116 #[.val (.int p0), .val (.int p1), .val (.long p2), .second, .val (.int (3 : Int32)), .val (.int (1 : Int32)), .val (.ref el), .val (.ref ag_), .val (.ref rq), .val (.int (1 : Int32)), .unset, .unset] [.int (own_ee 3 (.ref rq))]))
      rw [show own_ee 3 (.ref rq) = 0 by simp [own_ee]]
      rw [show ((3 : Int32) - 1) = 2 by decide] at W26
      have F26 := t117.same W26
      refine g_istore X26 B #[.val (.int p0), .val (.int p1), .val (.long p2), .second, .val (.int (3 : Int32)), .val (.int (1 : Int32)), .val (.ref el), .val (.ref ag_), .val (.ref rq), .val (.int (1 : Int32)), .val (.int (0 : Int32)), .unset] at_116 118 rfl rfl ?_
      refine g_iload X26 B at_118 120 rfl rfl ?_
      refine g_iload X26 B at_120 122 rfl rfl ?_
      refine g_iload X26 B at_122 124 rfl rfl ?_
      refine g_iconst X26 B (1) at_124 125 rfl rfl ?_
      refine g_icmp_ne X26 B at_125 137 128 rfl (by decide) rfl (fun _ => ?_) (fun z => own_abs' (by decide) z)
      refine g_iconst X26 B (0) at_137 138 rfl rfl ?_
      refine g_icmp_ne X26 B at_138 145 141 rfl (by decide) rfl (fun z => own_abs (by decide) z) (fun _ => ?_)
      refine g_iconst X26 B (1) at_141 142 rfl rfl ?_
      refine g_goto X26 B at_142 146 rfl (by decide) ?_
      refine g_iand X26 B at_146 147 rfl ?_
      rw [show ((1 : Int32) &&& (1 : Int32)) = 1 by decide]
      refine g_istore X26 B #[.val (.int p0), .val (.int p1), .val (.long p2), .second, .val (.int (3 : Int32)), .val (.int (1 : Int32)), .val (.ref el), .val (.ref ag_), .val (.ref rq), .val (.int (1 : Int32)), .val (.int (0 : Int32)), .unset] at_147 149 rfl rfl ?_
      refine g_iload X26 B at_149 151 rfl rfl ?_
      refine g_aload X26 B at_151 153 rfl rfl rfl ?_
      have t118 := (Exa.wr W26 t116)
      refine g_callV X26 B [] [.int (1 : Int32)] at_153 156 rfl rfl (hw _ (List.mem_of_getElem? (i := 135) rfl)) (hw _ (List.mem_of_getElem? (i := 136) rfl)) (hw _ (List.mem_of_getElem? (i := 138) rfl)) (hw _ (List.mem_of_getElem? (i := 137) rfl)) (hw _ (List.mem_of_getElem? (i := 2) rfl)) (hw _ (List.mem_of_getElem? (i := 139) rfl)) (by decide) (lenOf pd_19 rfl) t118 (rm19 l Z ag hw ag_ 2 h26 n0 F26) e26 rfl 1 (Nat.le_of_eq rfl) (by decide) (by decide) (by decide) (by decide) (fun v27 T27 h27 L27 X27 e27 q27 => ?_)
      obtain ⟨rfl, N27, rfl⟩ := q27
      show Go p e below _ (T27.setTop (mkF m 156 #[.val (.int p0), .val (.int p1), .val (.long p2), .second, .val (.int (3 : Int32)), .val (.int (1 : Int32)), .val (.ref el), .val (.ref ag_), .val (.ref rq), .val (.int (1 : Int32)), .val (.int (0 : Int32)), .unset] [.int (if (0 : Int32) < 2 then 1 else 0), .int (1 : Int32)]))
      rw [show (if (0 : Int32) < 2 then (1 : Int32) else 0) = 1 by decide]
      refine g_iload X27 B at_156 158 rfl rfl ?_
      refine g_iconst X27 B (1) at_158 159 rfl rfl ?_
      refine g_icmp_le X27 B at_159 166 162 rfl (by decide) rfl (fun z => own_abs (by decide) z) (fun _ => ?_)
      refine g_iconst X27 B (1) at_162 163 rfl rfl ?_
      refine g_goto X27 B at_163 167 rfl (by decide) ?_
      refine g_icmp_ne X27 B at_167 174 170 rfl (by decide) rfl (fun z => own_abs (by decide) z) (fun _ => ?_)
      refine g_iconst X27 B (1) at_170 171 rfl rfl ?_
      refine g_goto X27 B at_171 175 rfl (by decide) ?_
      refine g_iand X27 B at_175 176 rfl ?_
      rw [show ((1 : Int32) &&& (1 : Int32)) = 1 by decide]
      refine g_istore X27 B #[.val (.int p0), .val (.int p1), .val (.long p2), .second, .val (.int (3 : Int32)), .val (.int (1 : Int32)), .val (.ref el), .val (.ref ag_), .val (.ref rq), .val (.int (1 : Int32)), .val (.int (0 : Int32)), .unset] at_176 178 rfl rfl ?_
      refine g_iload X27 B at_178 180 rfl rfl ?_
      refine g_iconst X27 B (2) at_180 181 rfl rfl ?_
      refine g_icmp_lt X27 B at_181 251 184 rfl (by decide) rfl (fun z => own_abs' (by decide) z) (fun _ => ?_)
      refine g_aload X27 B at_184 186 rfl rfl rfl ?_
      have t119 := (Nat.le_trans t115 (Nat.le_of_eq W26.size.symm))
      have t120 := (Fld.other W26 F25 (Or.inr (slot_ne (Or.inl (hw _ (List.mem_of_getElem? (i := 146) rfl))) (Or.inl (hw _ (List.mem_of_getElem? (i := 124) rfl))) (by decide) (t := (.object "com/example/growshrink/growshrink/engine/TransactionRecord$Request")) (by decide) (t' := .int) (by decide))))
      refine g_callV X27 B [] [] at_186 189 rfl rfl (hw _ (List.mem_of_getElem? (i := 130) rfl)) (hw _ (List.mem_of_getElem? (i := 131) rfl)) (hw _ (List.mem_of_getElem? (i := 133) rfl)) (hw _ (List.mem_of_getElem? (i := 132) rfl)) (hw _ (List.mem_of_getElem? (i := 2) rfl)) (hw _ (List.mem_of_getElem? (i := 134) rfl)) (by decide) (lenOf pd_18 rfl) t118 (rm18 l Z ag hw ag_ 2 (.ref rq) rfl h26 n0 t119 g_ag_ t118 F26 t120) e27 rfl 0 (Nat.le_of_eq rfl) (by decide) (by decide) (by decide) (by decide) (fun v28 T28 h28 L28 X28 e28 q28 => ?_)
      obtain ⟨rfl, N28, W28⟩ := q28
      show Go p e below _ (T28.setTop (mkF m 189 #[.val (.int p0), .val (.int p1), .val (.long p2), .second, .val (.int (3 : Int32)), .val (.int (1 : Int32)), .val (.ref el), .val (.ref ag_), .val (.ref rq), .val (.int (1 : Int32)), .val (.int (0 : Int32)), .unset] [.int (own_ee 2 (.ref rq))]))
      rw [show own_ee 2 (.ref rq) = 0 by simp [own_ee]]
      rw [show ((2 : Int32) - 1) = 1 by decide] at W28
      have F28 := F26.same W28
      refine g_istore X28 B #[.val (.int p0), .val (.int p1), .val (.long p2), .second, .val (.int (3 : Int32)), .val (.int (1 : Int32)), .val (.ref el), .val (.ref ag_), .val (.ref rq), .val (.int (1 : Int32)), .val (.int (0 : Int32)), .val (.int (0 : Int32))] at_189 191 rfl rfl ?_
      refine g_iload X28 B at_191 193 rfl rfl ?_
      refine g_iload X28 B at_193 195 rfl rfl ?_
      refine g_iload X28 B at_195 197 rfl rfl ?_
      refine g_iconst X28 B (2) at_197 198 rfl rfl ?_
      refine g_icmp_ne X28 B at_198 210 201 rfl (by decide) rfl (fun _ => ?_) (fun z => own_abs' (by decide) z)
      refine g_iconst X28 B (0) at_210 211 rfl rfl ?_
      refine g_icmp_ne X28 B at_211 218 214 rfl (by decide) rfl (fun z => own_abs (by decide) z) (fun _ => ?_)
      refine g_iconst X28 B (1) at_214 215 rfl rfl ?_
      refine g_goto X28 B at_215 219 rfl (by decide) ?_
      refine g_iand X28 B at_219 220 rfl ?_
      rw [show ((1 : Int32) &&& (1 : Int32)) = 1 by decide]
      refine g_istore X28 B #[.val (.int p0), .val (.int p1), .val (.long p2), .second, .val (.int (3 : Int32)), .val (.int (1 : Int32)), .val (.ref el), .val (.ref ag_), .val (.ref rq), .val (.int (1 : Int32)), .val (.int (0 : Int32)), .val (.int (0 : Int32))] at_220 222 rfl rfl ?_
      refine g_iload X28 B at_222 224 rfl rfl ?_
      refine g_aload X28 B at_224 226 rfl rfl rfl ?_
      have t121 := (Exa.wr W28 t118)
      refine g_callV X28 B [] [.int (1 : Int32)] at_226 229 rfl rfl (hw _ (List.mem_of_getElem? (i := 135) rfl)) (hw _ (List.mem_of_getElem? (i := 136) rfl)) (hw _ (List.mem_of_getElem? (i := 138) rfl)) (hw _ (List.mem_of_getElem? (i := 137) rfl)) (hw _ (List.mem_of_getElem? (i := 2) rfl)) (hw _ (List.mem_of_getElem? (i := 139) rfl)) (by decide) (lenOf pd_19 rfl) t121 (rm19 l Z ag hw ag_ 1 h28 n0 F28) e28 rfl 1 (Nat.le_of_eq rfl) (by decide) (by decide) (by decide) (by decide) (fun v29 T29 h29 L29 X29 e29 q29 => ?_)
      obtain ⟨rfl, N29, rfl⟩ := q29
      show Go p e below _ (T29.setTop (mkF m 229 #[.val (.int p0), .val (.int p1), .val (.long p2), .second, .val (.int (3 : Int32)), .val (.int (1 : Int32)), .val (.ref el), .val (.ref ag_), .val (.ref rq), .val (.int (1 : Int32)), .val (.int (0 : Int32)), .val (.int (0 : Int32))] [.int (if (0 : Int32) < 1 then 1 else 0), .int (1 : Int32)]))
      rw [show (if (0 : Int32) < 1 then (1 : Int32) else 0) = 1 by decide]
      refine g_iload X29 B at_229 231 rfl rfl ?_
      refine g_iconst X29 B (2) at_231 232 rfl rfl ?_
      refine g_icmp_le X29 B at_232 239 235 rfl (by decide) rfl (fun z => own_abs (by decide) z) (fun _ => ?_)
      refine g_iconst X29 B (1) at_235 236 rfl rfl ?_
      refine g_goto X29 B at_236 240 rfl (by decide) ?_
      refine g_icmp_ne X29 B at_240 247 243 rfl (by decide) rfl (fun z => own_abs (by decide) z) (fun _ => ?_)
      refine g_iconst X29 B (1) at_243 244 rfl rfl ?_
      refine g_goto X29 B at_244 248 rfl (by decide) ?_
      refine g_iand X29 B at_248 249 rfl ?_
      rw [show ((1 : Int32) &&& (1 : Int32)) = 1 by decide]
      refine g_istore X29 B #[.val (.int p0), .val (.int p1), .val (.long p2), .second, .val (.int (3 : Int32)), .val (.int (1 : Int32)), .val (.ref el), .val (.ref ag_), .val (.ref rq), .val (.int (1 : Int32)), .val (.int (0 : Int32)), .val (.int (0 : Int32))] at_249 251 rfl rfl ?_
      refine g_iload X29 B at_251 253 rfl rfl ?_
      refine g_aload X29 B at_253 255 rfl rfl rfl ?_
      have t122 := (Nat.le_trans t119 (Nat.le_of_eq W28.size.symm))
      have t123 := (Fld.other W28 t120 (Or.inr (slot_ne (Or.inl (hw _ (List.mem_of_getElem? (i := 146) rfl))) (Or.inl (hw _ (List.mem_of_getElem? (i := 124) rfl))) (by decide) (t := (.object "com/example/growshrink/growshrink/engine/TransactionRecord$Request")) (by decide) (t' := .int) (by decide))))
      refine g_callV X29 B [] [.int (1 : Int32)] at_255 258 rfl rfl (hw _ (List.mem_of_getElem? (i := 140) rfl)) (hw _ (List.mem_of_getElem? (i := 141) rfl)) (hw _ (List.mem_of_getElem? (i := 143) rfl)) (hw _ (List.mem_of_getElem? (i := 142) rfl)) (hw _ (List.mem_of_getElem? (i := 2) rfl)) (hw _ (List.mem_of_getElem? (i := 144) rfl)) (by decide) (lenOf pd_20 rfl) t121 (rm20 l Z ag hw ag_ (.ref rq) rfl h28 n0 t122 g_ag_ t121 t123) e29 rfl 1 (Nat.le_of_eq rfl) (by decide) (by decide) (by decide) (by decide) (fun v30 T30 h30 L30 X30 e30 q30 => ?_)
      obtain ⟨rfl, N30, K30⟩ := q30
      show Go p e below _ (T30.setTop (mkF m 258 #[.val (.int p0), .val (.int p1), .val (.long p2), .second, .val (.int (3 : Int32)), .val (.int (1 : Int32)), .val (.ref el), .val (.ref ag_), .val (.ref rq), .val (.int (1 : Int32)), .val (.int (0 : Int32)), .val (.int (0 : Int32))] [.ref rq, .int (1 : Int32)]))
      refine g_iload X30 B at_258 260 rfl rfl ?_
      refine g_if_eq X30 B at_260 268 263 rfl (by decide) rfl (fun z => own_abs' (by decide) z) (fun _ => ?_)
      refine g_aload X30 B at_263 265 rfl rfl rfl ?_
      refine g_goto X30 B at_265 269 rfl (by decide) ?_
      refine g_acmp_ne X30 B at_269 276 272 rfl (by decide) rfl rfl rfl (fun z => own_abs (rfl) z) (fun _ => ?_)
      refine g_iconst X30 B (1) at_272 273 rfl rfl ?_
      refine g_goto X30 B at_273 277 rfl (by decide) ?_
      refine g_iand X30 B at_277 278 rfl ?_
      rw [show ((1 : Int32) &&& (1 : Int32)) = 1 by decide]
      refine g_istore X30 B #[.val (.int p0), .val (.int p1), .val (.long p2), .second, .val (.int (3 : Int32)), .val (.int (1 : Int32)), .val (.ref el), .val (.ref ag_), .val (.ref rq), .val (.int (1 : Int32)), .val (.int (0 : Int32)), .val (.int (0 : Int32))] at_278 280 rfl rfl ?_
      refine g_iload X30 B at_280 282 rfl rfl ?_
      exact g_retN X30 B at_282 rfl rfl (by decide) (by decide) (by decide) e30 ⟨rfl, (((((((((((((Fr.nil n0).app N17).app N19).app N21).app N22).app N23).app N24).app N25).app N26).app N27).app N28).app N29).app N30)⟩
  · skip
    rw [kk]
    refine g_iload X0 B at_5 7 rfl rfl ?_
    refine g_if_ne X0 B at_7 13 10 rfl (by decide) rfl (fun _ => ?_) (fun z => own_abs' (by decide) z)
    refine g_iloadN X0 B at_13 14 rfl rfl ?_
    refine g_iconst X0 B (2) at_14 15 rfl rfl ?_
    refine g_ishr X0 B at_15 16 rfl ?_
    refine g_iconst X0 B (1) at_16 17 rfl rfl ?_
    refine g_iand X0 B at_17 18 rfl ?_
    refine g_if_eq X0 B at_18 25 21 rfl (by decide) rfl (fun c31 => ?_) (fun c31 => ?_)
    · skip
      refine g_iconst X0 B (0) at_25 26 rfl rfl ?_
      refine g_istore X0 B #[.val (.int p0), .val (.int p1), .val (.long p2), .second, .val (.int (1 : Int32)), .val (.int (0 : Int32)), .unset, .unset, .unset, .unset, .unset, .unset] at_26 28 rfl rfl ?_
      refine g_new X0 B at_28 31 rfl (hw _ (List.mem_of_getElem? (i := 0) rfl)) (hw _ (List.mem_of_getElem? (i := 1) rfl)) (hw _ (List.mem_of_getElem? (i := 2) rfl)) e0 (by decide) (by decide) (fun T32 h32 el X32 e32 ea32 E32 A32 D32 => ?_)
      have g_el : n0 ≤ el := ea32 ▸ Z0
      have gg_el : h0.size ≤ el := ea32 ▸ (Keep.refl h0 []).1
      have t124 : aD ≠ el := ea32 ▸ Nat.ne_of_lt (AD.lt)
      have t125 : aL ≠ el := ea32 ▸ Nat.ne_of_lt (EL.lt)
      have t126 : eL ≠ el := ea32 ▸ Nat.ne_of_lt (AL0.lt)
      have D32_0 : Fld Z h32 el "com/example/growshrink/growshrink/engine/TransactionRecord" "locked" "Ljava/util/List;" (.null) := D32 (Or.inr (hw _ (List.mem_of_getElem? (i := 35) rfl))) (ty := (.object "java/util/List")) (by decide)
      have D32_1 : Fld Z h32 el "com/example/growshrink/growshrink/engine/TransactionRecord" "stage" "Lcom/example/growshrink/growshrink/model/TransactionState;" (.null) := D32 (Or.inl (hw _ (List.mem_of_getElem? (i := 40) rfl))) (ty := (.object "com/example/growshrink/growshrink/model/TransactionState")) (by decide)
      have D32_2 : Fld Z h32 el "com/example/growshrink/growshrink/engine/TransactionRecord" "heldBack" "Ljava/util/List;" (.null) := D32 (Or.inl (hw _ (List.mem_of_getElem? (i := 48) rfl))) (ty := (.object "java/util/List")) (by decide)
      have D32_3 : Fld Z h32 el "com/example/growshrink/growshrink/engine/TransactionRecord" "id" "I" (.int 0) := D32 (Or.inr (hw _ (List.mem_of_getElem? (i := 50) rfl))) (ty := .int) (by decide)
      have D32_4 : Fld Z h32 el "com/example/growshrink/growshrink/engine/TransactionRecord" "timestamp" "J" (.long 0) := D32 (Or.inr (hw _ (List.mem_of_getElem? (i := 52) rfl))) (ty := .long) (by decide)
      have D32_5 : Fld Z h32 el "com/example/growshrink/growshrink/engine/TransactionRecord" "eldersLeft" "I" (.int 0) := D32 (Or.inl (hw _ (List.mem_of_getElem? (i := 124) rfl))) (ty := .int) (by decide)
      have D32_6 : Fld Z h32 el "com/example/growshrink/growshrink/engine/TransactionRecord" "held" "Lcom/example/growshrink/growshrink/engine/TransactionRecord$Request;" (.null) := D32 (Or.inl (hw _ (List.mem_of_getElem? (i := 146) rfl))) (ty := (.object "com/example/growshrink/growshrink/engine/TransactionRecord$Request")) (by decide)
      refine g_dup X32 B at_31 32 rfl rfl ?_
      refine g_iloadN X32 B at_32 33 rfl rfl ?_
      refine g_iconst X32 B (1) at_33 34 rfl rfl ?_
      refine g_ixor X32 B at_34 35 rfl ?_
      refine g_lloadN X32 B at_35 36 rfl rfl ?_
      have t127 := (Nat.le_trans Z0 E32.1)
      have t128 := (Sta.ext E32 SA)
      have t129 := (Sta.ext E32 SL)
      refine g_callN X32 B [.int (p1 ^^^ (1 : Int32)), .long p2] [.ref el] at_36 39 rfl rfl rfl (hw _ (List.mem_of_getElem? (i := 3) rfl)) (hw _ (List.mem_of_getElem? (i := 4) rfl)) (hw _ (List.mem_of_getElem? (i := 5) rfl)) (hw _ (List.mem_of_getElem? (i := 2) rfl)) (by decide) (lenOf pd_1 rfl) (rm1 l Z ag hw el aA aL (p1 ^^^ (1 : Int32)) p2 h32 n0 t127 g_el A32 D32_0 D32_1 D32_2 D32_3 D32_4 D32_5 D32_6 t128 t129) e32 rfl 1 (Nat.le_of_eq rfl) (by decide) (by decide) (by decide) (by decide) (fun v33 T33 h33 L33 X33 e33 q33 => ?_)
      obtain ⟨rfl, N33, K33, f1_el, f2_el, f3_el⟩ := q33
      show Go p e below _ (T33.setTop (mkF m 39 #[.val (.int p0), .val (.int p1), .val (.long p2), .second, .val (.int (1 : Int32)), .val (.int (0 : Int32)), .unset, .unset, .unset, .unset, .unset, .unset] [.ref el]))
      refine g_astore X33 B #[.val (.int p0), .val (.int p1), .val (.long p2), .second, .val (.int (1 : Int32)), .val (.int (0 : Int32)), .val (.ref el), .unset, .unset, .unset, .unset, .unset] at_39 41 rfl rfl rfl ?_
      refine g_new X33 B at_41 44 rfl (hw _ (List.mem_of_getElem? (i := 0) rfl)) (hw _ (List.mem_of_getElem? (i := 1) rfl)) (hw _ (List.mem_of_getElem? (i := 2) rfl)) e33 (by decide) (by decide) (fun T34 h34 ag_ X34 e34 ea34 E34 A34 D34 => ?_)
      have t130 := (Nat.le_trans t127 K33.1)
      have t131 := (Keep.trans (Keep.ext (Keep.refl h0 []) E32) K33 (allS (Or.inr gg_el) all0))
      have t132 := (Av.keep (Av.ext AD E32) K33 (ninS t124 nin0))
      have t133 := (Exa.keep (Exa.ext E32 EL) K33)
      have t134 := (Av.keep (Av.ext AL0 E32) K33 (ninS t126 nin0))
      have t135 := (Exa.keep A32 K33)
      have g_ag_ : n0 ≤ ag_ := ea34 ▸ t130
      have gg_ag_ : h0.size ≤ ag_ := ea34 ▸ t131.1
      have t136 : aD ≠ ag_ := ea34 ▸ Nat.ne_of_lt (t132.lt)
      have t137 : aL ≠ ag_ := ea34 ▸ Nat.ne_of_lt (t133.lt)
      have t138 : eL ≠ ag_ := ea34 ▸ Nat.ne_of_lt (t134.lt)
      have t139 : el ≠ ag_ := ea34 ▸ Nat.ne_of_lt (t135.lt)
      have D34_0 : Fld Z h34 ag_ "com/example/growshrink/growshrink/engine/TransactionRecord" "locked" "Ljava/util/List;" (.null) := D34 (Or.inr (hw _ (List.mem_of_getElem? (i := 35) rfl))) (ty := (.object "java/util/List")) (by decide)
      have D34_1 : Fld Z h34 ag_ "com/example/growshrink/growshrink/engine/TransactionRecord" "stage" "Lcom/example/growshrink/growshrink/model/TransactionState;" (.null) := D34 (Or.inl (hw _ (List.mem_of_getElem? (i := 40) rfl))) (ty := (.object "com/example/growshrink/growshrink/model/TransactionState")) (by decide)
      have D34_2 : Fld Z h34 ag_ "com/example/growshrink/growshrink/engine/TransactionRecord" "heldBack" "Ljava/util/List;" (.null) := D34 (Or.inl (hw _ (List.mem_of_getElem? (i := 48) rfl))) (ty := (.object "java/util/List")) (by decide)
      have D34_3 : Fld Z h34 ag_ "com/example/growshrink/growshrink/engine/TransactionRecord" "id" "I" (.int 0) := D34 (Or.inr (hw _ (List.mem_of_getElem? (i := 50) rfl))) (ty := .int) (by decide)
      have D34_4 : Fld Z h34 ag_ "com/example/growshrink/growshrink/engine/TransactionRecord" "timestamp" "J" (.long 0) := D34 (Or.inr (hw _ (List.mem_of_getElem? (i := 52) rfl))) (ty := .long) (by decide)
      have D34_5 : Fld Z h34 ag_ "com/example/growshrink/growshrink/engine/TransactionRecord" "eldersLeft" "I" (.int 0) := D34 (Or.inl (hw _ (List.mem_of_getElem? (i := 124) rfl))) (ty := .int) (by decide)
      have D34_6 : Fld Z h34 ag_ "com/example/growshrink/growshrink/engine/TransactionRecord" "held" "Lcom/example/growshrink/growshrink/engine/TransactionRecord$Request;" (.null) := D34 (Or.inl (hw _ (List.mem_of_getElem? (i := 146) rfl))) (ty := (.object "com/example/growshrink/growshrink/engine/TransactionRecord$Request")) (by decide)
      refine g_dup X34 B at_44 45 rfl rfl ?_
      refine g_iloadN X34 B at_45 46 rfl rfl ?_
      refine g_lloadN X34 B at_46 47 rfl rfl ?_
      have t140 := (Nat.le_trans t130 E34.1)
      have t141 := (Sta.ext E34 (own_stkw t128 K33 (own_plE A32 own_pl0)))
      have t142 := (Sta.ext E34 (own_stkw t129 K33 (own_plE A32 own_pl0)))
      refine g_callN X34 B [.int p1, .long p2] [.ref ag_] at_47 50 rfl rfl rfl (hw _ (List.mem_of_getElem? (i := 3) rfl)) (hw _ (List.mem_of_getElem? (i := 4) rfl)) (hw _ (List.mem_of_getElem? (i := 5) rfl)) (hw _ (List.mem_of_getElem? (i := 2) rfl)) (by decide) (lenOf pd_1 rfl) (rm1 l Z ag hw ag_ aA aL p1 p2 h34 n0 t140 g_ag_ A34 D34_0 D34_1 D34_2 D34_3 D34_4 D34_5 D34_6 t141 t142) e34 rfl 1 (Nat.le_of_eq rfl) (by decide) (by decide) (by decide) (by decide) (fun v35 T35 h35 L35 X35 e35 q35 => ?_)
      obtain ⟨rfl, N35, K35, f1_ag_, f2_ag_, f3_ag_⟩ := q35
      show Go p e below _ (T35.setTop (mkF m 50 #[.val (.int p0), .val (.int p1), .val (.long p2), .second, .val (.int (1 : Int32)), .val (.int (0 : Int32)), .val (.ref el), .unset, .unset, .unset, .unset, .unset] [.ref ag_]))
      refine g_astore X35 B #[.val (.int p0), .val (.int p1), .val (.long p2), .second, .val (.int (1 : Int32)), .val (.int (0 : Int32)), .val (.ref el), .val (.ref ag_), .unset, .unset, .unset, .unset] at_50 52 rfl rfl rfl ?_
      refine g_new X35 B at_52 55 rfl (hw _ (List.mem_of_getElem? (i := 53) rfl)) (hw _ (List.mem_of_getElem? (i := 54) rfl)) (hw _ (List.mem_of_getElem? (i := 55) rfl)) e35 (by decide) (by decide) (fun T36 h36 rq X36 e36 ea36 E36 A36 D36 => ?_)
      have t143 := (Nat.le_trans t140 K35.1)
      have t144 := (Keep.trans (Keep.ext t131 E34) K35 (allS (Or.inr gg_ag_) all0))
      have t145 := (Av.keep (Av.ext t132 E34) K35 (ninS t136 nin0))
      have t146 := (Exa.keep (Exa.ext E34 t133) K35)
      have t147 := (Exa.keep A34 K35)
      have t148 := (Av.keep (Av.ext t134 E34) K35 (ninS t138 nin0))
      have t149 := (Exa.keep (Exa.ext E34 t135) K35)
      have g_rq : n0 ≤ rq := ea36 ▸ t143
      have gg_rq : h0.size ≤ rq := ea36 ▸ t144.1
      have t150 : aD ≠ rq := ea36 ▸ Nat.ne_of_lt (t145.lt)
      have t151 : aL ≠ rq := ea36 ▸ Nat.ne_of_lt (t146.lt)
      have t152 : ag_ ≠ rq := ea36 ▸ Nat.ne_of_lt (t147.lt)
      have t153 : eL ≠ rq := ea36 ▸ Nat.ne_of_lt (t148.lt)
      have t154 : el ≠ rq := ea36 ▸ Nat.ne_of_lt (t149.lt)
      have D36_0 : Fld Z h36 rq "com/example/growshrink/growshrink/engine/TransactionRecord$Request" "item" "Ljava/lang/String;" (.null) := D36 (Or.inr (hw _ (List.mem_of_getElem? (i := 66) rfl))) (ty := (.object "java/lang/String")) (by decide)
      have D36_1 : Fld Z h36 rq "com/example/growshrink/growshrink/engine/TransactionRecord$Request" "mode" "Lcom/example/growshrink/growshrink/model/LockMode;" (.null) := D36 (Or.inr (hw _ (List.mem_of_getElem? (i := 68) rfl))) (ty := (.object "com/example/growshrink/growshrink/model/LockMode")) (by decide)
      refine g_dup X36 B at_55 56 rfl rfl ?_
      refine g_aconstNull X36 B at_56 57 rfl ?_
      refine g_aconstNull X36 B at_57 58 rfl ?_
      have t155 := (Nat.le_trans t143 E36.1)
      refine g_callN X36 B [.null, .null] [.ref rq] at_58 61 rfl rfl rfl (hw _ (List.mem_of_getElem? (i := 56) rfl)) (hw _ (List.mem_of_getElem? (i := 57) rfl)) (hw _ (List.mem_of_getElem? (i := 58) rfl)) (hw _ (List.mem_of_getElem? (i := 55) rfl)) (by decide) (lenOf pd_7 rfl) (rm7 l Z ag hw rq h36 n0 t155 g_rq A36 D36_0 D36_1) e36 rfl 1 (Nat.le_of_eq rfl) (by decide) (by decide) (by decide) (by decide) (fun v37 T37 h37 L37 X37 e37 q37 => ?_)
      obtain ⟨rfl, N37, K37⟩ := q37
      show Go p e below _ (T37.setTop (mkF m 61 #[.val (.int p0), .val (.int p1), .val (.long p2), .second, .val (.int (1 : Int32)), .val (.int (0 : Int32)), .val (.ref el), .val (.ref ag_), .unset, .unset, .unset, .unset] [.ref rq]))
      refine g_astore X37 B #[.val (.int p0), .val (.int p1), .val (.long p2), .second, .val (.int (1 : Int32)), .val (.int (0 : Int32)), .val (.ref el), .val (.ref ag_), .val (.ref rq), .unset, .unset, .unset] at_61 63 rfl rfl rfl ?_
      refine g_aload X37 B at_63 65 rfl rfl rfl ?_
      refine g_aload X37 B at_65 67 rfl rfl rfl ?_
      have t156 := (Nat.le_trans t155 K37.1)
      have t157 := (Exa.keep (Exa.ext E36 t149) K37)
      have t158 := (Exa.keep (Exa.ext E36 t147) K37)
      have t159 := (Fld.keep (Fld.ext E36 (Fld.keep (Fld.ext E34 f1_el) K35 (ninS t139 nin0))) K37 (ninS t154 nin0))
      have t160 := (Fld.keep (Fld.ext E36 f2_ag_) K37 (ninS t152 nin0))
      have t161 := (Fld.keep (Fld.ext E36 f3_ag_) K37 (ninS t152 nin0))
      have t162 := (Exa.keep (Exa.ext E36 t146) K37)
      have t163 := (Fld.keep (Fld.ext E36 (Fld.keep (Fld.ext E34 (Fld.keep (Fld.ext E32 FL) K33 (ninS t125 nin0))) K35 (ninS t137 nin0))) K37 (ninS t151 nin0))
      have t164 := (Av.keep (Av.ext t148 E36) K37 (ninS t153 nin0))
      have t165 := (Av.keep (Av.ext t145 E36) K37 (ninS t150 nin0))
      have t166 := (own_stkw (Sta.ext E36 (own_stkw (Sta.ext E34 (own_stkw (Sta.ext E32 SD) K33 (own_plE A32 own_pl0))) K35 (own_plE A34 own_pl0))) K37 (own_plE A36 own_pl0))
      refine g_callV X37 B [.ref ag_] [] at_67 70 rfl rfl (hw _ (List.mem_of_getElem? (i := 69) rfl)) (hw _ (List.mem_of_getElem? (i := 70) rfl)) (hw _ (List.mem_of_getElem? (i := 72) rfl)) (hw _ (List.mem_of_getElem? (i := 71) rfl)) (hw _ (List.mem_of_getElem? (i := 2) rfl)) (hw _ (List.mem_of_getElem? (i := 73) rfl)) (by decide) (lenOf pd_9 rfl) t157 (rm9 l Z ag hw el ag_ aL aD eL 0 .null h37 n0 t156 g_el g_ag_ t139 t157 t158 t159 t160 t161 t162 t163 t164 t165 t166) e37 rfl 0 (Nat.le_of_eq rfl) (by decide) (by decide) (by decide) (by decide) (fun v38 T38 h38 L38 X38 e38 q38 => ?_)
      obtain ⟨ls, ar, y1, rfl, N38, K38, s1, EL1, s2, s3, s4, s5, s6, s7, gl, gr⟩ := q38
      show Go p e below _ (T38.setTop (mkF m 70 #[.val (.int p0), .val (.int p1), .val (.long p2), .second, .val (.int (1 : Int32)), .val (.int (0 : Int32)), .val (.ref el), .val (.ref ag_), .val (.ref rq), .unset, .unset, .unset] []))
      rw [show ((0 : Int32) + 1) = 1 by decide] at s6
      obtain ⟨vz1, Az1, -⟩ := id s3
      have Ay1 := Az1.av
      refine g_iload X38 B at_70 72 rfl rfl ?_
      refine g_iconst X38 B (2) at_72 73 rfl rfl ?_
      refine g_icmp_lt X38 B at_73 83 76 rfl (by decide) rfl (fun _ => ?_) (fun z => own_abs (by decide) z)
      refine g_iload X38 B at_83 85 rfl rfl ?_
      refine g_iconst X38 B (3) at_85 86 rfl rfl ?_
      refine g_icmp_lt X38 B at_86 96 89 rfl (by decide) rfl (fun _ => ?_) (fun z => own_abs (by decide) z)
      refine g_iload X38 B at_96 98 rfl rfl ?_
      refine g_if_eq X38 B at_98 108 101 rfl (by decide) rfl (fun _ => ?_) (fun z => own_abs (by decide) z)
      refine g_iconst X38 B (1) at_108 109 rfl rfl ?_
      refine g_istore X38 B #[.val (.int p0), .val (.int p1), .val (.long p2), .second, .val (.int (1 : Int32)), .val (.int (0 : Int32)), .val (.ref el), .val (.ref ag_), .val (.ref rq), .val (.int (1 : Int32)), .unset, .unset] at_109 111 rfl rfl ?_
      refine g_aload X38 B at_111 113 rfl rfl rfl ?_
      have t167 := (Nat.le_trans t156 K38.1)
      have t168 := (Exa.keep t158 K38)
      refine g_callV X38 B [] [] at_113 116 rfl rfl (hw _ (List.mem_of_getElem? (i := 130) rfl)) (hw _ (List.mem_of_getElem? (i := 131) rfl)) (hw _ (List.mem_of_getElem? (i := 133) rfl)) (hw _ (List.mem_of_getElem? (i := 132) rfl)) (hw _ (List.mem_of_getElem? (i := 2) rfl)) (hw _ (List.mem_of_getElem? (i := 134) rfl)) (by decide) (lenOf pd_18 rfl) t168 (rm18 l Z ag hw ag_ 1 (.null) rfl h38 n0 t167 g_ag_ t168 s6 s7) e38 rfl 0 (Nat.le_of_eq rfl) (by decide) (by decide) (by decide) (by decide) (fun v39 T39 h39 L39 X39 e39 q39 => ?_)
      obtain ⟨rfl, N39, W39⟩ := q39
      show Go p e below _ (T39.setTop (mkF m 116 #[.val (.int p0), .val (.int p1), .val (.long p2), .second, .val (.int (1 : Int32)), .val (.int (0 : Int32)), .val (.ref el), .val (.ref ag_), .val (.ref rq), .val (.int (1 : Int32)), .unset, .unset] [.int (own_ee 1 (.null))]))
      rw [show own_ee 1 (.null) = 0 by simp [own_ee]]
      rw [show ((1 : Int32) - 1) = 0 by decide] at W39
      have F39 := s6.same W39
      refine g_istore X39 B #[.val (.int p0), .val (.int p1), .val (.long p2), .second, .val (.int (1 : Int32)), .val (.int (0 : Int32)), .val (.ref el), .val (.ref ag_), .val (.ref rq), .val (.int (1 : Int32)), .val (.int (0 : Int32)), .unset] at_116 118 rfl rfl ?_
      refine g_iload X39 B at_118 120 rfl rfl ?_
      refine g_iload X39 B at_120 122 rfl rfl ?_
      refine g_iload X39 B at_122 124 rfl rfl ?_
      refine g_iconst X39 B (1) at_124 125 rfl rfl ?_
      refine g_icmp_ne X39 B at_125 137 128 rfl (by decide) rfl (fun z => own_abs (by decide) z) (fun _ => ?_)
      refine g_iload X39 B at_128 130 rfl rfl ?_
      refine g_if_eq X39 B at_130 137 133 rfl (by decide) rfl (fun _ => ?_) (fun z => own_abs (by decide) z)
      refine g_iconst X39 B (0) at_137 138 rfl rfl ?_
      refine g_icmp_ne X39 B at_138 145 141 rfl (by decide) rfl (fun z => own_abs (by decide) z) (fun _ => ?_)
      refine g_iconst X39 B (1) at_141 142 rfl rfl ?_
      refine g_goto X39 B at_142 146 rfl (by decide) ?_
      refine g_iand X39 B at_146 147 rfl ?_
      rw [show ((1 : Int32) &&& (1 : Int32)) = 1 by decide]
      refine g_istore X39 B #[.val (.int p0), .val (.int p1), .val (.long p2), .second, .val (.int (1 : Int32)), .val (.int (0 : Int32)), .val (.ref el), .val (.ref ag_), .val (.ref rq), .val (.int (1 : Int32)), .val (.int (0 : Int32)), .unset] at_147 149 rfl rfl ?_
      refine g_iload X39 B at_149 151 rfl rfl ?_
      refine g_aload X39 B at_151 153 rfl rfl rfl ?_
      have t169 := (Exa.wr W39 t168)
      refine g_callV X39 B [] [.int (1 : Int32)] at_153 156 rfl rfl (hw _ (List.mem_of_getElem? (i := 135) rfl)) (hw _ (List.mem_of_getElem? (i := 136) rfl)) (hw _ (List.mem_of_getElem? (i := 138) rfl)) (hw _ (List.mem_of_getElem? (i := 137) rfl)) (hw _ (List.mem_of_getElem? (i := 2) rfl)) (hw _ (List.mem_of_getElem? (i := 139) rfl)) (by decide) (lenOf pd_19 rfl) t169 (rm19 l Z ag hw ag_ 0 h39 n0 F39) e39 rfl 1 (Nat.le_of_eq rfl) (by decide) (by decide) (by decide) (by decide) (fun v40 T40 h40 L40 X40 e40 q40 => ?_)
      obtain ⟨rfl, N40, rfl⟩ := q40
      show Go p e below _ (T40.setTop (mkF m 156 #[.val (.int p0), .val (.int p1), .val (.long p2), .second, .val (.int (1 : Int32)), .val (.int (0 : Int32)), .val (.ref el), .val (.ref ag_), .val (.ref rq), .val (.int (1 : Int32)), .val (.int (0 : Int32)), .unset] [.int (if (0 : Int32) < 0 then 1 else 0), .int (1 : Int32)]))
      rw [show (if (0 : Int32) < 0 then (1 : Int32) else 0) = 0 by decide]
      refine g_iload X40 B at_156 158 rfl rfl ?_
      refine g_iconst X40 B (1) at_158 159 rfl rfl ?_
      refine g_icmp_le X40 B at_159 166 162 rfl (by decide) rfl (fun _ => ?_) (fun z => own_abs' (by decide) z)
      refine g_iconst X40 B (0) at_166 167 rfl rfl ?_
      refine g_icmp_ne X40 B at_167 174 170 rfl (by decide) rfl (fun z => own_abs (by decide) z) (fun _ => ?_)
      refine g_iconst X40 B (1) at_170 171 rfl rfl ?_
      refine g_goto X40 B at_171 175 rfl (by decide) ?_
      refine g_iand X40 B at_175 176 rfl ?_
      rw [show ((1 : Int32) &&& (1 : Int32)) = 1 by decide]
      refine g_istore X40 B #[.val (.int p0), .val (.int p1), .val (.long p2), .second, .val (.int (1 : Int32)), .val (.int (0 : Int32)), .val (.ref el), .val (.ref ag_), .val (.ref rq), .val (.int (1 : Int32)), .val (.int (0 : Int32)), .unset] at_176 178 rfl rfl ?_
      refine g_iload X40 B at_178 180 rfl rfl ?_
      refine g_iconst X40 B (2) at_180 181 rfl rfl ?_
      refine g_icmp_lt X40 B at_181 251 184 rfl (by decide) rfl (fun _ => ?_) (fun z => own_abs (by decide) z)
      refine g_iload X40 B at_251 253 rfl rfl ?_
      refine g_aload X40 B at_253 255 rfl rfl rfl ?_
      have t170 := (Nat.le_trans t167 (Nat.le_of_eq W39.size.symm))
      have t171 := (Fld.other W39 s7 (Or.inr (slot_ne (Or.inl (hw _ (List.mem_of_getElem? (i := 146) rfl))) (Or.inl (hw _ (List.mem_of_getElem? (i := 124) rfl))) (by decide) (t := (.object "com/example/growshrink/growshrink/engine/TransactionRecord$Request")) (by decide) (t' := .int) (by decide))))
      refine g_callV X40 B [] [.int (1 : Int32)] at_255 258 rfl rfl (hw _ (List.mem_of_getElem? (i := 140) rfl)) (hw _ (List.mem_of_getElem? (i := 141) rfl)) (hw _ (List.mem_of_getElem? (i := 143) rfl)) (hw _ (List.mem_of_getElem? (i := 142) rfl)) (hw _ (List.mem_of_getElem? (i := 2) rfl)) (hw _ (List.mem_of_getElem? (i := 144) rfl)) (by decide) (lenOf pd_20 rfl) t169 (rm20 l Z ag hw ag_ (.null) rfl h39 n0 t170 g_ag_ t169 t171) e40 rfl 1 (Nat.le_of_eq rfl) (by decide) (by decide) (by decide) (by decide) (fun v41 T41 h41 L41 X41 e41 q41 => ?_)
      obtain ⟨rfl, N41, K41⟩ := q41
      show Go p e below _ (T41.setTop (mkF m 258 #[.val (.int p0), .val (.int p1), .val (.long p2), .second, .val (.int (1 : Int32)), .val (.int (0 : Int32)), .val (.ref el), .val (.ref ag_), .val (.ref rq), .val (.int (1 : Int32)), .val (.int (0 : Int32)), .unset] [.null, .int (1 : Int32)]))
      refine g_iload X41 B at_258 260 rfl rfl ?_
      refine g_if_eq X41 B at_260 268 263 rfl (by decide) rfl (fun _ => ?_) (fun z => own_abs (by decide) z)
      refine g_aconstNull X41 B at_268 269 rfl ?_
      refine g_acmp_ne X41 B at_269 276 272 rfl (by decide) rfl rfl rfl (fun z => own_abs (rfl) z) (fun _ => ?_)
      refine g_iconst X41 B (1) at_272 273 rfl rfl ?_
      refine g_goto X41 B at_273 277 rfl (by decide) ?_
      refine g_iand X41 B at_277 278 rfl ?_
      rw [show ((1 : Int32) &&& (1 : Int32)) = 1 by decide]
      refine g_istore X41 B #[.val (.int p0), .val (.int p1), .val (.long p2), .second, .val (.int (1 : Int32)), .val (.int (0 : Int32)), .val (.ref el), .val (.ref ag_), .val (.ref rq), .val (.int (1 : Int32)), .val (.int (0 : Int32)), .unset] at_278 280 rfl rfl ?_
      refine g_iload X41 B at_280 282 rfl rfl ?_
      exact g_retN X41 B at_282 rfl rfl (by decide) (by decide) (by decide) e41 ⟨rfl, ((((((((Fr.nil n0).app N33).app N35).app N37).app N38).app N39).app N40).app N41)⟩
    · skip
      refine g_iconst X0 B (1) at_21 22 rfl rfl ?_
      refine g_goto X0 B at_22 26 rfl (by decide) ?_
      refine g_istore X0 B #[.val (.int p0), .val (.int p1), .val (.long p2), .second, .val (.int (1 : Int32)), .val (.int (1 : Int32)), .unset, .unset, .unset, .unset, .unset, .unset] at_26 28 rfl rfl ?_
      refine g_new X0 B at_28 31 rfl (hw _ (List.mem_of_getElem? (i := 0) rfl)) (hw _ (List.mem_of_getElem? (i := 1) rfl)) (hw _ (List.mem_of_getElem? (i := 2) rfl)) e0 (by decide) (by decide) (fun T42 h42 el X42 e42 ea42 E42 A42 D42 => ?_)
      have g_el : n0 ≤ el := ea42 ▸ Z0
      have gg_el : h0.size ≤ el := ea42 ▸ (Keep.refl h0 []).1
      have t172 : aD ≠ el := ea42 ▸ Nat.ne_of_lt (AD.lt)
      have t173 : aL ≠ el := ea42 ▸ Nat.ne_of_lt (EL.lt)
      have t174 : eL ≠ el := ea42 ▸ Nat.ne_of_lt (AL0.lt)
      have D42_0 : Fld Z h42 el "com/example/growshrink/growshrink/engine/TransactionRecord" "locked" "Ljava/util/List;" (.null) := D42 (Or.inr (hw _ (List.mem_of_getElem? (i := 35) rfl))) (ty := (.object "java/util/List")) (by decide)
      have D42_1 : Fld Z h42 el "com/example/growshrink/growshrink/engine/TransactionRecord" "stage" "Lcom/example/growshrink/growshrink/model/TransactionState;" (.null) := D42 (Or.inl (hw _ (List.mem_of_getElem? (i := 40) rfl))) (ty := (.object "com/example/growshrink/growshrink/model/TransactionState")) (by decide)
      have D42_2 : Fld Z h42 el "com/example/growshrink/growshrink/engine/TransactionRecord" "heldBack" "Ljava/util/List;" (.null) := D42 (Or.inl (hw _ (List.mem_of_getElem? (i := 48) rfl))) (ty := (.object "java/util/List")) (by decide)
      have D42_3 : Fld Z h42 el "com/example/growshrink/growshrink/engine/TransactionRecord" "id" "I" (.int 0) := D42 (Or.inr (hw _ (List.mem_of_getElem? (i := 50) rfl))) (ty := .int) (by decide)
      have D42_4 : Fld Z h42 el "com/example/growshrink/growshrink/engine/TransactionRecord" "timestamp" "J" (.long 0) := D42 (Or.inr (hw _ (List.mem_of_getElem? (i := 52) rfl))) (ty := .long) (by decide)
      have D42_5 : Fld Z h42 el "com/example/growshrink/growshrink/engine/TransactionRecord" "eldersLeft" "I" (.int 0) := D42 (Or.inl (hw _ (List.mem_of_getElem? (i := 124) rfl))) (ty := .int) (by decide)
      have D42_6 : Fld Z h42 el "com/example/growshrink/growshrink/engine/TransactionRecord" "held" "Lcom/example/growshrink/growshrink/engine/TransactionRecord$Request;" (.null) := D42 (Or.inl (hw _ (List.mem_of_getElem? (i := 146) rfl))) (ty := (.object "com/example/growshrink/growshrink/engine/TransactionRecord$Request")) (by decide)
      refine g_dup X42 B at_31 32 rfl rfl ?_
      refine g_iloadN X42 B at_32 33 rfl rfl ?_
      refine g_iconst X42 B (1) at_33 34 rfl rfl ?_
      refine g_ixor X42 B at_34 35 rfl ?_
      refine g_lloadN X42 B at_35 36 rfl rfl ?_
      have t175 := (Nat.le_trans Z0 E42.1)
      have t176 := (Sta.ext E42 SA)
      have t177 := (Sta.ext E42 SL)
      refine g_callN X42 B [.int (p1 ^^^ (1 : Int32)), .long p2] [.ref el] at_36 39 rfl rfl rfl (hw _ (List.mem_of_getElem? (i := 3) rfl)) (hw _ (List.mem_of_getElem? (i := 4) rfl)) (hw _ (List.mem_of_getElem? (i := 5) rfl)) (hw _ (List.mem_of_getElem? (i := 2) rfl)) (by decide) (lenOf pd_1 rfl) (rm1 l Z ag hw el aA aL (p1 ^^^ (1 : Int32)) p2 h42 n0 t175 g_el A42 D42_0 D42_1 D42_2 D42_3 D42_4 D42_5 D42_6 t176 t177) e42 rfl 1 (Nat.le_of_eq rfl) (by decide) (by decide) (by decide) (by decide) (fun v43 T43 h43 L43 X43 e43 q43 => ?_)
      obtain ⟨rfl, N43, K43, f1_el, f2_el, f3_el⟩ := q43
      show Go p e below _ (T43.setTop (mkF m 39 #[.val (.int p0), .val (.int p1), .val (.long p2), .second, .val (.int (1 : Int32)), .val (.int (1 : Int32)), .unset, .unset, .unset, .unset, .unset, .unset] [.ref el]))
      refine g_astore X43 B #[.val (.int p0), .val (.int p1), .val (.long p2), .second, .val (.int (1 : Int32)), .val (.int (1 : Int32)), .val (.ref el), .unset, .unset, .unset, .unset, .unset] at_39 41 rfl rfl rfl ?_
      refine g_new X43 B at_41 44 rfl (hw _ (List.mem_of_getElem? (i := 0) rfl)) (hw _ (List.mem_of_getElem? (i := 1) rfl)) (hw _ (List.mem_of_getElem? (i := 2) rfl)) e43 (by decide) (by decide) (fun T44 h44 ag_ X44 e44 ea44 E44 A44 D44 => ?_)
      have t178 := (Nat.le_trans t175 K43.1)
      have t179 := (Keep.trans (Keep.ext (Keep.refl h0 []) E42) K43 (allS (Or.inr gg_el) all0))
      have t180 := (Av.keep (Av.ext AD E42) K43 (ninS t172 nin0))
      have t181 := (Exa.keep (Exa.ext E42 EL) K43)
      have t182 := (Av.keep (Av.ext AL0 E42) K43 (ninS t174 nin0))
      have t183 := (Exa.keep A42 K43)
      have g_ag_ : n0 ≤ ag_ := ea44 ▸ t178
      have gg_ag_ : h0.size ≤ ag_ := ea44 ▸ t179.1
      have t184 : aD ≠ ag_ := ea44 ▸ Nat.ne_of_lt (t180.lt)
      have t185 : aL ≠ ag_ := ea44 ▸ Nat.ne_of_lt (t181.lt)
      have t186 : eL ≠ ag_ := ea44 ▸ Nat.ne_of_lt (t182.lt)
      have t187 : el ≠ ag_ := ea44 ▸ Nat.ne_of_lt (t183.lt)
      have D44_0 : Fld Z h44 ag_ "com/example/growshrink/growshrink/engine/TransactionRecord" "locked" "Ljava/util/List;" (.null) := D44 (Or.inr (hw _ (List.mem_of_getElem? (i := 35) rfl))) (ty := (.object "java/util/List")) (by decide)
      have D44_1 : Fld Z h44 ag_ "com/example/growshrink/growshrink/engine/TransactionRecord" "stage" "Lcom/example/growshrink/growshrink/model/TransactionState;" (.null) := D44 (Or.inl (hw _ (List.mem_of_getElem? (i := 40) rfl))) (ty := (.object "com/example/growshrink/growshrink/model/TransactionState")) (by decide)
      have D44_2 : Fld Z h44 ag_ "com/example/growshrink/growshrink/engine/TransactionRecord" "heldBack" "Ljava/util/List;" (.null) := D44 (Or.inl (hw _ (List.mem_of_getElem? (i := 48) rfl))) (ty := (.object "java/util/List")) (by decide)
      have D44_3 : Fld Z h44 ag_ "com/example/growshrink/growshrink/engine/TransactionRecord" "id" "I" (.int 0) := D44 (Or.inr (hw _ (List.mem_of_getElem? (i := 50) rfl))) (ty := .int) (by decide)
      have D44_4 : Fld Z h44 ag_ "com/example/growshrink/growshrink/engine/TransactionRecord" "timestamp" "J" (.long 0) := D44 (Or.inr (hw _ (List.mem_of_getElem? (i := 52) rfl))) (ty := .long) (by decide)
      have D44_5 : Fld Z h44 ag_ "com/example/growshrink/growshrink/engine/TransactionRecord" "eldersLeft" "I" (.int 0) := D44 (Or.inl (hw _ (List.mem_of_getElem? (i := 124) rfl))) (ty := .int) (by decide)
      have D44_6 : Fld Z h44 ag_ "com/example/growshrink/growshrink/engine/TransactionRecord" "held" "Lcom/example/growshrink/growshrink/engine/TransactionRecord$Request;" (.null) := D44 (Or.inl (hw _ (List.mem_of_getElem? (i := 146) rfl))) (ty := (.object "com/example/growshrink/growshrink/engine/TransactionRecord$Request")) (by decide)
      refine g_dup X44 B at_44 45 rfl rfl ?_
      refine g_iloadN X44 B at_45 46 rfl rfl ?_
      refine g_lloadN X44 B at_46 47 rfl rfl ?_
      have t188 := (Nat.le_trans t178 E44.1)
      have t189 := (Sta.ext E44 (own_stkw t176 K43 (own_plE A42 own_pl0)))
      have t190 := (Sta.ext E44 (own_stkw t177 K43 (own_plE A42 own_pl0)))
      refine g_callN X44 B [.int p1, .long p2] [.ref ag_] at_47 50 rfl rfl rfl (hw _ (List.mem_of_getElem? (i := 3) rfl)) (hw _ (List.mem_of_getElem? (i := 4) rfl)) (hw _ (List.mem_of_getElem? (i := 5) rfl)) (hw _ (List.mem_of_getElem? (i := 2) rfl)) (by decide) (lenOf pd_1 rfl) (rm1 l Z ag hw ag_ aA aL p1 p2 h44 n0 t188 g_ag_ A44 D44_0 D44_1 D44_2 D44_3 D44_4 D44_5 D44_6 t189 t190) e44 rfl 1 (Nat.le_of_eq rfl) (by decide) (by decide) (by decide) (by decide) (fun v45 T45 h45 L45 X45 e45 q45 => ?_)
      obtain ⟨rfl, N45, K45, f1_ag_, f2_ag_, f3_ag_⟩ := q45
      show Go p e below _ (T45.setTop (mkF m 50 #[.val (.int p0), .val (.int p1), .val (.long p2), .second, .val (.int (1 : Int32)), .val (.int (1 : Int32)), .val (.ref el), .unset, .unset, .unset, .unset, .unset] [.ref ag_]))
      refine g_astore X45 B #[.val (.int p0), .val (.int p1), .val (.long p2), .second, .val (.int (1 : Int32)), .val (.int (1 : Int32)), .val (.ref el), .val (.ref ag_), .unset, .unset, .unset, .unset] at_50 52 rfl rfl rfl ?_
      refine g_new X45 B at_52 55 rfl (hw _ (List.mem_of_getElem? (i := 53) rfl)) (hw _ (List.mem_of_getElem? (i := 54) rfl)) (hw _ (List.mem_of_getElem? (i := 55) rfl)) e45 (by decide) (by decide) (fun T46 h46 rq X46 e46 ea46 E46 A46 D46 => ?_)
      have t191 := (Nat.le_trans t188 K45.1)
      have t192 := (Keep.trans (Keep.ext t179 E44) K45 (allS (Or.inr gg_ag_) all0))
      have t193 := (Av.keep (Av.ext t180 E44) K45 (ninS t184 nin0))
      have t194 := (Exa.keep (Exa.ext E44 t181) K45)
      have t195 := (Exa.keep A44 K45)
      have t196 := (Av.keep (Av.ext t182 E44) K45 (ninS t186 nin0))
      have t197 := (Exa.keep (Exa.ext E44 t183) K45)
      have g_rq : n0 ≤ rq := ea46 ▸ t191
      have gg_rq : h0.size ≤ rq := ea46 ▸ t192.1
      have t198 : aD ≠ rq := ea46 ▸ Nat.ne_of_lt (t193.lt)
      have t199 : aL ≠ rq := ea46 ▸ Nat.ne_of_lt (t194.lt)
      have t200 : ag_ ≠ rq := ea46 ▸ Nat.ne_of_lt (t195.lt)
      have t201 : eL ≠ rq := ea46 ▸ Nat.ne_of_lt (t196.lt)
      have t202 : el ≠ rq := ea46 ▸ Nat.ne_of_lt (t197.lt)
      have D46_0 : Fld Z h46 rq "com/example/growshrink/growshrink/engine/TransactionRecord$Request" "item" "Ljava/lang/String;" (.null) := D46 (Or.inr (hw _ (List.mem_of_getElem? (i := 66) rfl))) (ty := (.object "java/lang/String")) (by decide)
      have D46_1 : Fld Z h46 rq "com/example/growshrink/growshrink/engine/TransactionRecord$Request" "mode" "Lcom/example/growshrink/growshrink/model/LockMode;" (.null) := D46 (Or.inr (hw _ (List.mem_of_getElem? (i := 68) rfl))) (ty := (.object "com/example/growshrink/growshrink/model/LockMode")) (by decide)
      refine g_dup X46 B at_55 56 rfl rfl ?_
      refine g_aconstNull X46 B at_56 57 rfl ?_
      refine g_aconstNull X46 B at_57 58 rfl ?_
      have t203 := (Nat.le_trans t191 E46.1)
      refine g_callN X46 B [.null, .null] [.ref rq] at_58 61 rfl rfl rfl (hw _ (List.mem_of_getElem? (i := 56) rfl)) (hw _ (List.mem_of_getElem? (i := 57) rfl)) (hw _ (List.mem_of_getElem? (i := 58) rfl)) (hw _ (List.mem_of_getElem? (i := 55) rfl)) (by decide) (lenOf pd_7 rfl) (rm7 l Z ag hw rq h46 n0 t203 g_rq A46 D46_0 D46_1) e46 rfl 1 (Nat.le_of_eq rfl) (by decide) (by decide) (by decide) (by decide) (fun v47 T47 h47 L47 X47 e47 q47 => ?_)
      obtain ⟨rfl, N47, K47⟩ := q47
      show Go p e below _ (T47.setTop (mkF m 61 #[.val (.int p0), .val (.int p1), .val (.long p2), .second, .val (.int (1 : Int32)), .val (.int (1 : Int32)), .val (.ref el), .val (.ref ag_), .unset, .unset, .unset, .unset] [.ref rq]))
      refine g_astore X47 B #[.val (.int p0), .val (.int p1), .val (.long p2), .second, .val (.int (1 : Int32)), .val (.int (1 : Int32)), .val (.ref el), .val (.ref ag_), .val (.ref rq), .unset, .unset, .unset] at_61 63 rfl rfl rfl ?_
      refine g_aload X47 B at_63 65 rfl rfl rfl ?_
      refine g_aload X47 B at_65 67 rfl rfl rfl ?_
      have t204 := (Nat.le_trans t203 K47.1)
      have t205 := (Exa.keep (Exa.ext E46 t197) K47)
      have t206 := (Exa.keep (Exa.ext E46 t195) K47)
      have t207 := (Fld.keep (Fld.ext E46 (Fld.keep (Fld.ext E44 f1_el) K45 (ninS t187 nin0))) K47 (ninS t202 nin0))
      have t208 := (Fld.keep (Fld.ext E46 f2_ag_) K47 (ninS t200 nin0))
      have t209 := (Fld.keep (Fld.ext E46 f3_ag_) K47 (ninS t200 nin0))
      have t210 := (Exa.keep (Exa.ext E46 t194) K47)
      have t211 := (Fld.keep (Fld.ext E46 (Fld.keep (Fld.ext E44 (Fld.keep (Fld.ext E42 FL) K43 (ninS t173 nin0))) K45 (ninS t185 nin0))) K47 (ninS t199 nin0))
      have t212 := (Av.keep (Av.ext t196 E46) K47 (ninS t201 nin0))
      have t213 := (Av.keep (Av.ext t193 E46) K47 (ninS t198 nin0))
      have t214 := (own_stkw (Sta.ext E46 (own_stkw (Sta.ext E44 (own_stkw (Sta.ext E42 SD) K43 (own_plE A42 own_pl0))) K45 (own_plE A44 own_pl0))) K47 (own_plE A46 own_pl0))
      refine g_callV X47 B [.ref ag_] [] at_67 70 rfl rfl (hw _ (List.mem_of_getElem? (i := 69) rfl)) (hw _ (List.mem_of_getElem? (i := 70) rfl)) (hw _ (List.mem_of_getElem? (i := 72) rfl)) (hw _ (List.mem_of_getElem? (i := 71) rfl)) (hw _ (List.mem_of_getElem? (i := 2) rfl)) (hw _ (List.mem_of_getElem? (i := 73) rfl)) (by decide) (lenOf pd_9 rfl) t205 (rm9 l Z ag hw el ag_ aL aD eL 0 .null h47 n0 t204 g_el g_ag_ t187 t205 t206 t207 t208 t209 t210 t211 t212 t213 t214) e47 rfl 0 (Nat.le_of_eq rfl) (by decide) (by decide) (by decide) (by decide) (fun v48 T48 h48 L48 X48 e48 q48 => ?_)
      obtain ⟨ls, ar, y1, rfl, N48, K48, s1, EL1, s2, s3, s4, s5, s6, s7, gl, gr⟩ := q48
      show Go p e below _ (T48.setTop (mkF m 70 #[.val (.int p0), .val (.int p1), .val (.long p2), .second, .val (.int (1 : Int32)), .val (.int (1 : Int32)), .val (.ref el), .val (.ref ag_), .val (.ref rq), .unset, .unset, .unset] []))
      rw [show ((0 : Int32) + 1) = 1 by decide] at s6
      obtain ⟨vz1, Az1, -⟩ := id s3
      have Ay1 := Az1.av
      refine g_iload X48 B at_70 72 rfl rfl ?_
      refine g_iconst X48 B (2) at_72 73 rfl rfl ?_
      refine g_icmp_lt X48 B at_73 83 76 rfl (by decide) rfl (fun _ => ?_) (fun z => own_abs (by decide) z)
      refine g_iload X48 B at_83 85 rfl rfl ?_
      refine g_iconst X48 B (3) at_85 86 rfl rfl ?_
      refine g_icmp_lt X48 B at_86 96 89 rfl (by decide) rfl (fun _ => ?_) (fun z => own_abs (by decide) z)
      refine g_iload X48 B at_96 98 rfl rfl ?_
      refine g_if_eq X48 B at_98 108 101 rfl (by decide) rfl (fun z => own_abs' (by decide) z) (fun _ => ?_)
      refine g_aload X48 B at_101 103 rfl rfl rfl ?_
      refine g_aload X48 B at_103 105 rfl rfl rfl ?_
      have t215 := (Nat.le_trans t204 K48.1)
      have t216 := (Exa.keep t206 K48)
      refine g_callV X48 B [.ref rq] [] at_105 108 rfl rfl (hw _ (List.mem_of_getElem? (i := 147) rfl)) (hw _ (List.mem_of_getElem? (i := 148) rfl)) (hw _ (List.mem_of_getElem? (i := 150) rfl)) (hw _ (List.mem_of_getElem? (i := 149) rfl)) (hw _ (List.mem_of_getElem? (i := 2) rfl)) (hw _ (List.mem_of_getElem? (i := 151) rfl)) (by decide) (lenOf pd_21 rfl) t216 (rm21 l Z ag hw ag_ rq h48 n0 t215 g_ag_ t216 s7) e48 rfl 0 (Nat.le_of_eq rfl) (by decide) (by decide) (by decide) (by decide) (fun v49 T49 h49 L49 X49 e49 q49 => ?_)
      obtain ⟨rfl, N49, W49⟩ := q49
      show Go p e below _ (T49.setTop (mkF m 108 #[.val (.int p0), .val (.int p1), .val (.long p2), .second, .val (.int (1 : Int32)), .val (.int (1 : Int32)), .val (.ref el), .val (.ref ag_), .val (.ref rq), .unset, .unset, .unset] []))
      have F49 := s7.same W49
      refine g_iconst X49 B (1) at_108 109 rfl rfl ?_
      refine g_istore X49 B #[.val (.int p0), .val (.int p1), .val (.long p2), .second, .val (.int (1 : Int32)), .val (.int (1 : Int32)), .val (.ref el), .val (.ref ag_), .val (.ref rq), .val (.int (1 : Int32)), .unset, .unset] at_109 111 rfl rfl ?_
      refine g_aload X49 B at_111 113 rfl rfl rfl ?_
      have t217 := (Nat.le_trans t215 (Nat.le_of_eq W49.size.symm))
      have t218 := (Exa.wr W49 t216)
      have t219 := (Fld.other W49 s6 (Or.inr (slot_ne (Or.inl (hw _ (List.mem_of_getElem? (i := 124) rfl))) (Or.inl (hw _ (List.mem_of_getElem? (i := 146) rfl))) (by decide) (t := .int) (by decide) (t' := (.object "com/example/growshrink/growshrink/engine/TransactionRecord$Request")) (by decide))))
      refine g_callV X49 B [] [] at_113 116 rfl rfl (hw _ (List.mem_of_getElem? (i := 130) rfl)) (hw _ (List.mem_of_getElem? (i := 131) rfl)) (hw _ (List.mem_of_getElem? (i := 133) rfl)) (hw _ (List.mem_of_getElem? (i := 132) rfl)) (hw _ (List.mem_of_getElem? (i := 2) rfl)) (hw _ (List.mem_of_getElem? (i := 134) rfl)) (by decide) (lenOf pd_18 rfl) t218 (rm18 l Z ag hw ag_ 1 (.ref rq) rfl h49 n0 t217 g_ag_ t218 t219 F49) e49 rfl 0 (Nat.le_of_eq rfl) (by decide) (by decide) (by decide) (by decide) (fun v50 T50 h50 L50 X50 e50 q50 => ?_)
      obtain ⟨rfl, N50, W50⟩ := q50
      show Go p e below _ (T50.setTop (mkF m 116 #[.val (.int p0), .val (.int p1), .val (.long p2), .second, .val (.int (1 : Int32)), .val (.int (1 : Int32)), .val (.ref el), .val (.ref ag_), .val (.ref rq), .val (.int (1 : Int32)), .unset, .unset] [.int (own_ee 1 (.ref rq))]))
      rw [show own_ee 1 (.ref rq) = 1 by simp [own_ee]]
      rw [show ((1 : Int32) - 1) = 0 by decide] at W50
      have F50 := t219.same W50
      refine g_istore X50 B #[.val (.int p0), .val (.int p1), .val (.long p2), .second, .val (.int (1 : Int32)), .val (.int (1 : Int32)), .val (.ref el), .val (.ref ag_), .val (.ref rq), .val (.int (1 : Int32)), .val (.int (1 : Int32)), .unset] at_116 118 rfl rfl ?_
      refine g_iload X50 B at_118 120 rfl rfl ?_
      refine g_iload X50 B at_120 122 rfl rfl ?_
      refine g_iload X50 B at_122 124 rfl rfl ?_
      refine g_iconst X50 B (1) at_124 125 rfl rfl ?_
      refine g_icmp_ne X50 B at_125 137 128 rfl (by decide) rfl (fun z => own_abs (by decide) z) (fun _ => ?_)
      refine g_iload X50 B at_128 130 rfl rfl ?_
      refine g_if_eq X50 B at_130 137 133 rfl (by decide) rfl (fun z => own_abs' (by decide) z) (fun _ => ?_)
      refine g_iconst X50 B (1) at_133 134 rfl rfl ?_
      refine g_goto X50 B at_134 138 rfl (by decide) ?_
      refine g_icmp_ne X50 B at_138 145 141 rfl (by decide) rfl (fun z => own_abs (by decide) z) (fun _ => ?_)
      refine g_iconst X50 B (1) at_141 142 rfl rfl ?_
      refine g_goto X50 B at_142 146 rfl (by decide) ?_
      refine g_iand X50 B at_146 147 rfl ?_
      rw [show ((1 : Int32) &&& (1 : Int32)) = 1 by decide]
      refine g_istore X50 B #[.val (.int p0), .val (.int p1), .val (.long p2), .second, .val (.int (1 : Int32)), .val (.int (1 : Int32)), .val (.ref el), .val (.ref ag_), .val (.ref rq), .val (.int (1 : Int32)), .val (.int (1 : Int32)), .unset] at_147 149 rfl rfl ?_
      refine g_iload X50 B at_149 151 rfl rfl ?_
      refine g_aload X50 B at_151 153 rfl rfl rfl ?_
      have t220 := (Exa.wr W50 t218)
      refine g_callV X50 B [] [.int (1 : Int32)] at_153 156 rfl rfl (hw _ (List.mem_of_getElem? (i := 135) rfl)) (hw _ (List.mem_of_getElem? (i := 136) rfl)) (hw _ (List.mem_of_getElem? (i := 138) rfl)) (hw _ (List.mem_of_getElem? (i := 137) rfl)) (hw _ (List.mem_of_getElem? (i := 2) rfl)) (hw _ (List.mem_of_getElem? (i := 139) rfl)) (by decide) (lenOf pd_19 rfl) t220 (rm19 l Z ag hw ag_ 0 h50 n0 F50) e50 rfl 1 (Nat.le_of_eq rfl) (by decide) (by decide) (by decide) (by decide) (fun v51 T51 h51 L51 X51 e51 q51 => ?_)
      obtain ⟨rfl, N51, rfl⟩ := q51
      show Go p e below _ (T51.setTop (mkF m 156 #[.val (.int p0), .val (.int p1), .val (.long p2), .second, .val (.int (1 : Int32)), .val (.int (1 : Int32)), .val (.ref el), .val (.ref ag_), .val (.ref rq), .val (.int (1 : Int32)), .val (.int (1 : Int32)), .unset] [.int (if (0 : Int32) < 0 then 1 else 0), .int (1 : Int32)]))
      rw [show (if (0 : Int32) < 0 then (1 : Int32) else 0) = 0 by decide]
      refine g_iload X51 B at_156 158 rfl rfl ?_
      refine g_iconst X51 B (1) at_158 159 rfl rfl ?_
      refine g_icmp_le X51 B at_159 166 162 rfl (by decide) rfl (fun _ => ?_) (fun z => own_abs' (by decide) z)
      refine g_iconst X51 B (0) at_166 167 rfl rfl ?_
      refine g_icmp_ne X51 B at_167 174 170 rfl (by decide) rfl (fun z => own_abs (by decide) z) (fun _ => ?_)
      refine g_iconst X51 B (1) at_170 171 rfl rfl ?_
      refine g_goto X51 B at_171 175 rfl (by decide) ?_
      refine g_iand X51 B at_175 176 rfl ?_
      rw [show ((1 : Int32) &&& (1 : Int32)) = 1 by decide]
      refine g_istore X51 B #[.val (.int p0), .val (.int p1), .val (.long p2), .second, .val (.int (1 : Int32)), .val (.int (1 : Int32)), .val (.ref el), .val (.ref ag_), .val (.ref rq), .val (.int (1 : Int32)), .val (.int (1 : Int32)), .unset] at_176 178 rfl rfl ?_
      refine g_iload X51 B at_178 180 rfl rfl ?_
      refine g_iconst X51 B (2) at_180 181 rfl rfl ?_
      refine g_icmp_lt X51 B at_181 251 184 rfl (by decide) rfl (fun _ => ?_) (fun z => own_abs (by decide) z)
      refine g_iload X51 B at_251 253 rfl rfl ?_
      refine g_aload X51 B at_253 255 rfl rfl rfl ?_
      have t221 := (Nat.le_trans t217 (Nat.le_of_eq W50.size.symm))
      have t222 := (Fld.other W50 F49 (Or.inr (slot_ne (Or.inl (hw _ (List.mem_of_getElem? (i := 146) rfl))) (Or.inl (hw _ (List.mem_of_getElem? (i := 124) rfl))) (by decide) (t := (.object "com/example/growshrink/growshrink/engine/TransactionRecord$Request")) (by decide) (t' := .int) (by decide))))
      refine g_callV X51 B [] [.int (1 : Int32)] at_255 258 rfl rfl (hw _ (List.mem_of_getElem? (i := 140) rfl)) (hw _ (List.mem_of_getElem? (i := 141) rfl)) (hw _ (List.mem_of_getElem? (i := 143) rfl)) (hw _ (List.mem_of_getElem? (i := 142) rfl)) (hw _ (List.mem_of_getElem? (i := 2) rfl)) (hw _ (List.mem_of_getElem? (i := 144) rfl)) (by decide) (lenOf pd_20 rfl) t220 (rm20 l Z ag hw ag_ (.ref rq) rfl h50 n0 t221 g_ag_ t220 t222) e51 rfl 1 (Nat.le_of_eq rfl) (by decide) (by decide) (by decide) (by decide) (fun v52 T52 h52 L52 X52 e52 q52 => ?_)
      obtain ⟨rfl, N52, K52⟩ := q52
      show Go p e below _ (T52.setTop (mkF m 258 #[.val (.int p0), .val (.int p1), .val (.long p2), .second, .val (.int (1 : Int32)), .val (.int (1 : Int32)), .val (.ref el), .val (.ref ag_), .val (.ref rq), .val (.int (1 : Int32)), .val (.int (1 : Int32)), .unset] [.ref rq, .int (1 : Int32)]))
      refine g_iload X52 B at_258 260 rfl rfl ?_
      refine g_if_eq X52 B at_260 268 263 rfl (by decide) rfl (fun z => own_abs' (by decide) z) (fun _ => ?_)
      refine g_aload X52 B at_263 265 rfl rfl rfl ?_
      refine g_goto X52 B at_265 269 rfl (by decide) ?_
      refine g_acmp_ne X52 B at_269 276 272 rfl (by decide) rfl rfl rfl (fun z => own_abs (rfl) z) (fun _ => ?_)
      refine g_iconst X52 B (1) at_272 273 rfl rfl ?_
      refine g_goto X52 B at_273 277 rfl (by decide) ?_
      refine g_iand X52 B at_277 278 rfl ?_
      rw [show ((1 : Int32) &&& (1 : Int32)) = 1 by decide]
      refine g_istore X52 B #[.val (.int p0), .val (.int p1), .val (.long p2), .second, .val (.int (1 : Int32)), .val (.int (1 : Int32)), .val (.ref el), .val (.ref ag_), .val (.ref rq), .val (.int (1 : Int32)), .val (.int (1 : Int32)), .unset] at_278 280 rfl rfl ?_
      refine g_iload X52 B at_280 282 rfl rfl ?_
      exact g_retN X52 B at_282 rfl rfl (by decide) (by decide) (by decide) e52 ⟨rfl, (((((((((Fr.nil n0).app N43).app N45).app N47).app N48).app N49).app N50).app N51).app N52)⟩
  · skip
    rw [kk]
    refine g_iload X0 B at_5 7 rfl rfl ?_
    refine g_if_ne X0 B at_7 13 10 rfl (by decide) rfl (fun _ => ?_) (fun z => own_abs' (by decide) z)
    refine g_iloadN X0 B at_13 14 rfl rfl ?_
    refine g_iconst X0 B (2) at_14 15 rfl rfl ?_
    refine g_ishr X0 B at_15 16 rfl ?_
    refine g_iconst X0 B (1) at_16 17 rfl rfl ?_
    refine g_iand X0 B at_17 18 rfl ?_
    refine g_if_eq X0 B at_18 25 21 rfl (by decide) rfl (fun c53 => ?_) (fun c53 => ?_)
    · skip
      refine g_iconst X0 B (0) at_25 26 rfl rfl ?_
      refine g_istore X0 B #[.val (.int p0), .val (.int p1), .val (.long p2), .second, .val (.int (2 : Int32)), .val (.int (0 : Int32)), .unset, .unset, .unset, .unset, .unset, .unset] at_26 28 rfl rfl ?_
      refine g_new X0 B at_28 31 rfl (hw _ (List.mem_of_getElem? (i := 0) rfl)) (hw _ (List.mem_of_getElem? (i := 1) rfl)) (hw _ (List.mem_of_getElem? (i := 2) rfl)) e0 (by decide) (by decide) (fun T54 h54 el X54 e54 ea54 E54 A54 D54 => ?_)
      have g_el : n0 ≤ el := ea54 ▸ Z0
      have gg_el : h0.size ≤ el := ea54 ▸ (Keep.refl h0 []).1
      have t223 : aD ≠ el := ea54 ▸ Nat.ne_of_lt (AD.lt)
      have t224 : aL ≠ el := ea54 ▸ Nat.ne_of_lt (EL.lt)
      have t225 : eL ≠ el := ea54 ▸ Nat.ne_of_lt (AL0.lt)
      have D54_0 : Fld Z h54 el "com/example/growshrink/growshrink/engine/TransactionRecord" "locked" "Ljava/util/List;" (.null) := D54 (Or.inr (hw _ (List.mem_of_getElem? (i := 35) rfl))) (ty := (.object "java/util/List")) (by decide)
      have D54_1 : Fld Z h54 el "com/example/growshrink/growshrink/engine/TransactionRecord" "stage" "Lcom/example/growshrink/growshrink/model/TransactionState;" (.null) := D54 (Or.inl (hw _ (List.mem_of_getElem? (i := 40) rfl))) (ty := (.object "com/example/growshrink/growshrink/model/TransactionState")) (by decide)
      have D54_2 : Fld Z h54 el "com/example/growshrink/growshrink/engine/TransactionRecord" "heldBack" "Ljava/util/List;" (.null) := D54 (Or.inl (hw _ (List.mem_of_getElem? (i := 48) rfl))) (ty := (.object "java/util/List")) (by decide)
      have D54_3 : Fld Z h54 el "com/example/growshrink/growshrink/engine/TransactionRecord" "id" "I" (.int 0) := D54 (Or.inr (hw _ (List.mem_of_getElem? (i := 50) rfl))) (ty := .int) (by decide)
      have D54_4 : Fld Z h54 el "com/example/growshrink/growshrink/engine/TransactionRecord" "timestamp" "J" (.long 0) := D54 (Or.inr (hw _ (List.mem_of_getElem? (i := 52) rfl))) (ty := .long) (by decide)
      have D54_5 : Fld Z h54 el "com/example/growshrink/growshrink/engine/TransactionRecord" "eldersLeft" "I" (.int 0) := D54 (Or.inl (hw _ (List.mem_of_getElem? (i := 124) rfl))) (ty := .int) (by decide)
      have D54_6 : Fld Z h54 el "com/example/growshrink/growshrink/engine/TransactionRecord" "held" "Lcom/example/growshrink/growshrink/engine/TransactionRecord$Request;" (.null) := D54 (Or.inl (hw _ (List.mem_of_getElem? (i := 146) rfl))) (ty := (.object "com/example/growshrink/growshrink/engine/TransactionRecord$Request")) (by decide)
      refine g_dup X54 B at_31 32 rfl rfl ?_
      refine g_iloadN X54 B at_32 33 rfl rfl ?_
      refine g_iconst X54 B (1) at_33 34 rfl rfl ?_
      refine g_ixor X54 B at_34 35 rfl ?_
      refine g_lloadN X54 B at_35 36 rfl rfl ?_
      have t226 := (Nat.le_trans Z0 E54.1)
      have t227 := (Sta.ext E54 SA)
      have t228 := (Sta.ext E54 SL)
      refine g_callN X54 B [.int (p1 ^^^ (1 : Int32)), .long p2] [.ref el] at_36 39 rfl rfl rfl (hw _ (List.mem_of_getElem? (i := 3) rfl)) (hw _ (List.mem_of_getElem? (i := 4) rfl)) (hw _ (List.mem_of_getElem? (i := 5) rfl)) (hw _ (List.mem_of_getElem? (i := 2) rfl)) (by decide) (lenOf pd_1 rfl) (rm1 l Z ag hw el aA aL (p1 ^^^ (1 : Int32)) p2 h54 n0 t226 g_el A54 D54_0 D54_1 D54_2 D54_3 D54_4 D54_5 D54_6 t227 t228) e54 rfl 1 (Nat.le_of_eq rfl) (by decide) (by decide) (by decide) (by decide) (fun v55 T55 h55 L55 X55 e55 q55 => ?_)
      obtain ⟨rfl, N55, K55, f1_el, f2_el, f3_el⟩ := q55
      show Go p e below _ (T55.setTop (mkF m 39 #[.val (.int p0), .val (.int p1), .val (.long p2), .second, .val (.int (2 : Int32)), .val (.int (0 : Int32)), .unset, .unset, .unset, .unset, .unset, .unset] [.ref el]))
      refine g_astore X55 B #[.val (.int p0), .val (.int p1), .val (.long p2), .second, .val (.int (2 : Int32)), .val (.int (0 : Int32)), .val (.ref el), .unset, .unset, .unset, .unset, .unset] at_39 41 rfl rfl rfl ?_
      refine g_new X55 B at_41 44 rfl (hw _ (List.mem_of_getElem? (i := 0) rfl)) (hw _ (List.mem_of_getElem? (i := 1) rfl)) (hw _ (List.mem_of_getElem? (i := 2) rfl)) e55 (by decide) (by decide) (fun T56 h56 ag_ X56 e56 ea56 E56 A56 D56 => ?_)
      have t229 := (Nat.le_trans t226 K55.1)
      have t230 := (Keep.trans (Keep.ext (Keep.refl h0 []) E54) K55 (allS (Or.inr gg_el) all0))
      have t231 := (Av.keep (Av.ext AD E54) K55 (ninS t223 nin0))
      have t232 := (Exa.keep (Exa.ext E54 EL) K55)
      have t233 := (Av.keep (Av.ext AL0 E54) K55 (ninS t225 nin0))
      have t234 := (Exa.keep A54 K55)
      have g_ag_ : n0 ≤ ag_ := ea56 ▸ t229
      have gg_ag_ : h0.size ≤ ag_ := ea56 ▸ t230.1
      have t235 : aD ≠ ag_ := ea56 ▸ Nat.ne_of_lt (t231.lt)
      have t236 : aL ≠ ag_ := ea56 ▸ Nat.ne_of_lt (t232.lt)
      have t237 : eL ≠ ag_ := ea56 ▸ Nat.ne_of_lt (t233.lt)
      have t238 : el ≠ ag_ := ea56 ▸ Nat.ne_of_lt (t234.lt)
      have D56_0 : Fld Z h56 ag_ "com/example/growshrink/growshrink/engine/TransactionRecord" "locked" "Ljava/util/List;" (.null) := D56 (Or.inr (hw _ (List.mem_of_getElem? (i := 35) rfl))) (ty := (.object "java/util/List")) (by decide)
      have D56_1 : Fld Z h56 ag_ "com/example/growshrink/growshrink/engine/TransactionRecord" "stage" "Lcom/example/growshrink/growshrink/model/TransactionState;" (.null) := D56 (Or.inl (hw _ (List.mem_of_getElem? (i := 40) rfl))) (ty := (.object "com/example/growshrink/growshrink/model/TransactionState")) (by decide)
      have D56_2 : Fld Z h56 ag_ "com/example/growshrink/growshrink/engine/TransactionRecord" "heldBack" "Ljava/util/List;" (.null) := D56 (Or.inl (hw _ (List.mem_of_getElem? (i := 48) rfl))) (ty := (.object "java/util/List")) (by decide)
      have D56_3 : Fld Z h56 ag_ "com/example/growshrink/growshrink/engine/TransactionRecord" "id" "I" (.int 0) := D56 (Or.inr (hw _ (List.mem_of_getElem? (i := 50) rfl))) (ty := .int) (by decide)
      have D56_4 : Fld Z h56 ag_ "com/example/growshrink/growshrink/engine/TransactionRecord" "timestamp" "J" (.long 0) := D56 (Or.inr (hw _ (List.mem_of_getElem? (i := 52) rfl))) (ty := .long) (by decide)
      have D56_5 : Fld Z h56 ag_ "com/example/growshrink/growshrink/engine/TransactionRecord" "eldersLeft" "I" (.int 0) := D56 (Or.inl (hw _ (List.mem_of_getElem? (i := 124) rfl))) (ty := .int) (by decide)
      have D56_6 : Fld Z h56 ag_ "com/example/growshrink/growshrink/engine/TransactionRecord" "held" "Lcom/example/growshrink/growshrink/engine/TransactionRecord$Request;" (.null) := D56 (Or.inl (hw _ (List.mem_of_getElem? (i := 146) rfl))) (ty := (.object "com/example/growshrink/growshrink/engine/TransactionRecord$Request")) (by decide)
      refine g_dup X56 B at_44 45 rfl rfl ?_
      refine g_iloadN X56 B at_45 46 rfl rfl ?_
      refine g_lloadN X56 B at_46 47 rfl rfl ?_
      have t239 := (Nat.le_trans t229 E56.1)
      have t240 := (Sta.ext E56 (own_stkw t227 K55 (own_plE A54 own_pl0)))
      have t241 := (Sta.ext E56 (own_stkw t228 K55 (own_plE A54 own_pl0)))
      refine g_callN X56 B [.int p1, .long p2] [.ref ag_] at_47 50 rfl rfl rfl (hw _ (List.mem_of_getElem? (i := 3) rfl)) (hw _ (List.mem_of_getElem? (i := 4) rfl)) (hw _ (List.mem_of_getElem? (i := 5) rfl)) (hw _ (List.mem_of_getElem? (i := 2) rfl)) (by decide) (lenOf pd_1 rfl) (rm1 l Z ag hw ag_ aA aL p1 p2 h56 n0 t239 g_ag_ A56 D56_0 D56_1 D56_2 D56_3 D56_4 D56_5 D56_6 t240 t241) e56 rfl 1 (Nat.le_of_eq rfl) (by decide) (by decide) (by decide) (by decide) (fun v57 T57 h57 L57 X57 e57 q57 => ?_)
      obtain ⟨rfl, N57, K57, f1_ag_, f2_ag_, f3_ag_⟩ := q57
      show Go p e below _ (T57.setTop (mkF m 50 #[.val (.int p0), .val (.int p1), .val (.long p2), .second, .val (.int (2 : Int32)), .val (.int (0 : Int32)), .val (.ref el), .unset, .unset, .unset, .unset, .unset] [.ref ag_]))
      refine g_astore X57 B #[.val (.int p0), .val (.int p1), .val (.long p2), .second, .val (.int (2 : Int32)), .val (.int (0 : Int32)), .val (.ref el), .val (.ref ag_), .unset, .unset, .unset, .unset] at_50 52 rfl rfl rfl ?_
      refine g_new X57 B at_52 55 rfl (hw _ (List.mem_of_getElem? (i := 53) rfl)) (hw _ (List.mem_of_getElem? (i := 54) rfl)) (hw _ (List.mem_of_getElem? (i := 55) rfl)) e57 (by decide) (by decide) (fun T58 h58 rq X58 e58 ea58 E58 A58 D58 => ?_)
      have t242 := (Nat.le_trans t239 K57.1)
      have t243 := (Keep.trans (Keep.ext t230 E56) K57 (allS (Or.inr gg_ag_) all0))
      have t244 := (Av.keep (Av.ext t231 E56) K57 (ninS t235 nin0))
      have t245 := (Exa.keep (Exa.ext E56 t232) K57)
      have t246 := (Exa.keep A56 K57)
      have t247 := (Av.keep (Av.ext t233 E56) K57 (ninS t237 nin0))
      have t248 := (Exa.keep (Exa.ext E56 t234) K57)
      have g_rq : n0 ≤ rq := ea58 ▸ t242
      have gg_rq : h0.size ≤ rq := ea58 ▸ t243.1
      have t249 : aD ≠ rq := ea58 ▸ Nat.ne_of_lt (t244.lt)
      have t250 : aL ≠ rq := ea58 ▸ Nat.ne_of_lt (t245.lt)
      have t251 : ag_ ≠ rq := ea58 ▸ Nat.ne_of_lt (t246.lt)
      have t252 : eL ≠ rq := ea58 ▸ Nat.ne_of_lt (t247.lt)
      have t253 : el ≠ rq := ea58 ▸ Nat.ne_of_lt (t248.lt)
      have D58_0 : Fld Z h58 rq "com/example/growshrink/growshrink/engine/TransactionRecord$Request" "item" "Ljava/lang/String;" (.null) := D58 (Or.inr (hw _ (List.mem_of_getElem? (i := 66) rfl))) (ty := (.object "java/lang/String")) (by decide)
      have D58_1 : Fld Z h58 rq "com/example/growshrink/growshrink/engine/TransactionRecord$Request" "mode" "Lcom/example/growshrink/growshrink/model/LockMode;" (.null) := D58 (Or.inr (hw _ (List.mem_of_getElem? (i := 68) rfl))) (ty := (.object "com/example/growshrink/growshrink/model/LockMode")) (by decide)
      refine g_dup X58 B at_55 56 rfl rfl ?_
      refine g_aconstNull X58 B at_56 57 rfl ?_
      refine g_aconstNull X58 B at_57 58 rfl ?_
      have t254 := (Nat.le_trans t242 E58.1)
      refine g_callN X58 B [.null, .null] [.ref rq] at_58 61 rfl rfl rfl (hw _ (List.mem_of_getElem? (i := 56) rfl)) (hw _ (List.mem_of_getElem? (i := 57) rfl)) (hw _ (List.mem_of_getElem? (i := 58) rfl)) (hw _ (List.mem_of_getElem? (i := 55) rfl)) (by decide) (lenOf pd_7 rfl) (rm7 l Z ag hw rq h58 n0 t254 g_rq A58 D58_0 D58_1) e58 rfl 1 (Nat.le_of_eq rfl) (by decide) (by decide) (by decide) (by decide) (fun v59 T59 h59 L59 X59 e59 q59 => ?_)
      obtain ⟨rfl, N59, K59⟩ := q59
      show Go p e below _ (T59.setTop (mkF m 61 #[.val (.int p0), .val (.int p1), .val (.long p2), .second, .val (.int (2 : Int32)), .val (.int (0 : Int32)), .val (.ref el), .val (.ref ag_), .unset, .unset, .unset, .unset] [.ref rq]))
      refine g_astore X59 B #[.val (.int p0), .val (.int p1), .val (.long p2), .second, .val (.int (2 : Int32)), .val (.int (0 : Int32)), .val (.ref el), .val (.ref ag_), .val (.ref rq), .unset, .unset, .unset] at_61 63 rfl rfl rfl ?_
      refine g_aload X59 B at_63 65 rfl rfl rfl ?_
      refine g_aload X59 B at_65 67 rfl rfl rfl ?_
      have t255 := (Nat.le_trans t254 K59.1)
      have t256 := (Exa.keep (Exa.ext E58 t248) K59)
      have t257 := (Exa.keep (Exa.ext E58 t246) K59)
      have t258 := (Fld.keep (Fld.ext E58 (Fld.keep (Fld.ext E56 f1_el) K57 (ninS t238 nin0))) K59 (ninS t253 nin0))
      have t259 := (Fld.keep (Fld.ext E58 f2_ag_) K59 (ninS t251 nin0))
      have t260 := (Fld.keep (Fld.ext E58 f3_ag_) K59 (ninS t251 nin0))
      have t261 := (Exa.keep (Exa.ext E58 t245) K59)
      have t262 := (Fld.keep (Fld.ext E58 (Fld.keep (Fld.ext E56 (Fld.keep (Fld.ext E54 FL) K55 (ninS t224 nin0))) K57 (ninS t236 nin0))) K59 (ninS t250 nin0))
      have t263 := (Av.keep (Av.ext t247 E58) K59 (ninS t252 nin0))
      have t264 := (Av.keep (Av.ext t244 E58) K59 (ninS t249 nin0))
      have t265 := (own_stkw (Sta.ext E58 (own_stkw (Sta.ext E56 (own_stkw (Sta.ext E54 SD) K55 (own_plE A54 own_pl0))) K57 (own_plE A56 own_pl0))) K59 (own_plE A58 own_pl0))
      refine g_callV X59 B [.ref ag_] [] at_67 70 rfl rfl (hw _ (List.mem_of_getElem? (i := 69) rfl)) (hw _ (List.mem_of_getElem? (i := 70) rfl)) (hw _ (List.mem_of_getElem? (i := 72) rfl)) (hw _ (List.mem_of_getElem? (i := 71) rfl)) (hw _ (List.mem_of_getElem? (i := 2) rfl)) (hw _ (List.mem_of_getElem? (i := 73) rfl)) (by decide) (lenOf pd_9 rfl) t256 (rm9 l Z ag hw el ag_ aL aD eL 0 .null h59 n0 t255 g_el g_ag_ t238 t256 t257 t258 t259 t260 t261 t262 t263 t264 t265) e59 rfl 0 (Nat.le_of_eq rfl) (by decide) (by decide) (by decide) (by decide) (fun v60 T60 h60 L60 X60 e60 q60 => ?_)
      obtain ⟨ls, ar, y1, rfl, N60, K60, s1, EL1, s2, s3, s4, s5, s6, s7, gl, gr⟩ := q60
      show Go p e below _ (T60.setTop (mkF m 70 #[.val (.int p0), .val (.int p1), .val (.long p2), .second, .val (.int (2 : Int32)), .val (.int (0 : Int32)), .val (.ref el), .val (.ref ag_), .val (.ref rq), .unset, .unset, .unset] []))
      rw [show ((0 : Int32) + 1) = 1 by decide] at s6
      obtain ⟨vz1, Az1, -⟩ := id s3
      have Ay1 := Az1.av
      refine g_iload X60 B at_70 72 rfl rfl ?_
      refine g_iconst X60 B (2) at_72 73 rfl rfl ?_
      refine g_icmp_lt X60 B at_73 83 76 rfl (by decide) rfl (fun z => own_abs' (by decide) z) (fun _ => ?_)
      refine g_aload X60 B at_76 78 rfl rfl rfl ?_
      refine g_aload X60 B at_78 80 rfl rfl rfl ?_
      have t266 := (Nat.le_trans t255 K60.1)
      have t267 := (Exa.keep t256 K60)
      have t268 := (Exa.keep t257 K60)
      refine g_callV X60 B [.ref ag_] [] at_80 83 rfl rfl (hw _ (List.mem_of_getElem? (i := 69) rfl)) (hw _ (List.mem_of_getElem? (i := 70) rfl)) (hw _ (List.mem_of_getElem? (i := 72) rfl)) (hw _ (List.mem_of_getElem? (i := 71) rfl)) (hw _ (List.mem_of_getElem? (i := 2) rfl)) (hw _ (List.mem_of_getElem? (i := 73) rfl)) (by decide) (lenOf pd_9 rfl) t267 (rn9 l Z ag hw el ag_ ls ar 1 _ 1 1 .null h60 n0 t266 g_el g_ag_ gl gr t238 t267 t268 s1 s6 s7 ⟨EL1, s2, s3, s4, s5⟩ (by decide) (by decide) (by decide) (by decide) (by decide)) e60 rfl 0 (Nat.le_of_eq rfl) (by decide) (by decide) (by decide) (by decide) (fun v61 T61 h61 L61 X61 e61 q61 => ?_)
      obtain ⟨y2, rfl, N61, K61, EL2, u2_2, u3_2, u4_2, u5_2, u6_2, u7_2⟩ := q61
      show Go p e below _ (T61.setTop (mkF m 83 #[.val (.int p0), .val (.int p1), .val (.long p2), .second, .val (.int (2 : Int32)), .val (.int (0 : Int32)), .val (.ref el), .val (.ref ag_), .val (.ref rq), .unset, .unset, .unset] []))
      rw [show ((1 : Int32) + 1) = 2 by decide] at u4_2 u6_2
      obtain ⟨vz2, Az2, -⟩ := id u3_2
      have Ay2 := Az2.av
      refine g_iload X61 B at_83 85 rfl rfl ?_
      refine g_iconst X61 B (3) at_85 86 rfl rfl ?_
      refine g_icmp_lt X61 B at_86 96 89 rfl (by decide) rfl (fun _ => ?_) (fun z => own_abs (by decide) z)
      refine g_iload X61 B at_96 98 rfl rfl ?_
      refine g_if_eq X61 B at_98 108 101 rfl (by decide) rfl (fun _ => ?_) (fun z => own_abs (by decide) z)
      refine g_iconst X61 B (1) at_108 109 rfl rfl ?_
      refine g_istore X61 B #[.val (.int p0), .val (.int p1), .val (.long p2), .second, .val (.int (2 : Int32)), .val (.int (0 : Int32)), .val (.ref el), .val (.ref ag_), .val (.ref rq), .val (.int (1 : Int32)), .unset, .unset] at_109 111 rfl rfl ?_
      refine g_aload X61 B at_111 113 rfl rfl rfl ?_
      have t269 := (Nat.le_trans t266 K61.1)
      have t270 := (Exa.keep t268 K61)
      refine g_callV X61 B [] [] at_113 116 rfl rfl (hw _ (List.mem_of_getElem? (i := 130) rfl)) (hw _ (List.mem_of_getElem? (i := 131) rfl)) (hw _ (List.mem_of_getElem? (i := 133) rfl)) (hw _ (List.mem_of_getElem? (i := 132) rfl)) (hw _ (List.mem_of_getElem? (i := 2) rfl)) (hw _ (List.mem_of_getElem? (i := 134) rfl)) (by decide) (lenOf pd_18 rfl) t270 (rm18 l Z ag hw ag_ 2 (.null) rfl h61 n0 t269 g_ag_ t270 u6_2 u7_2) e61 rfl 0 (Nat.le_of_eq rfl) (by decide) (by decide) (by decide) (by decide) (fun v62 T62 h62 L62 X62 e62 q62 => ?_)
      obtain ⟨rfl, N62, W62⟩ := q62
      show Go p e below _ (T62.setTop (mkF m 116 #[.val (.int p0), .val (.int p1), .val (.long p2), .second, .val (.int (2 : Int32)), .val (.int (0 : Int32)), .val (.ref el), .val (.ref ag_), .val (.ref rq), .val (.int (1 : Int32)), .unset, .unset] [.int (own_ee 2 (.null))]))
      rw [show own_ee 2 (.null) = 0 by simp [own_ee]]
      rw [show ((2 : Int32) - 1) = 1 by decide] at W62
      have F62 := u6_2.same W62
      refine g_istore X62 B #[.val (.int p0), .val (.int p1), .val (.long p2), .second, .val (.int (2 : Int32)), .val (.int (0 : Int32)), .val (.ref el), .val (.ref ag_), .val (.ref rq), .val (.int (1 : Int32)), .val (.int (0 : Int32)), .unset] at_116 118 rfl rfl ?_
      refine g_iload X62 B at_118 120 rfl rfl ?_
      refine g_iload X62 B at_120 122 rfl rfl ?_
      refine g_iload X62 B at_122 124 rfl rfl ?_
      refine g_iconst X62 B (1) at_124 125 rfl rfl ?_
      refine g_icmp_ne X62 B at_125 137 128 rfl (by decide) rfl (fun _ => ?_) (fun z => own_abs' (by decide) z)
      refine g_iconst X62 B (0) at_137 138 rfl rfl ?_
      refine g_icmp_ne X62 B at_138 145 141 rfl (by decide) rfl (fun z => own_abs (by decide) z) (fun _ => ?_)
      refine g_iconst X62 B (1) at_141 142 rfl rfl ?_
      refine g_goto X62 B at_142 146 rfl (by decide) ?_
      refine g_iand X62 B at_146 147 rfl ?_
      rw [show ((1 : Int32) &&& (1 : Int32)) = 1 by decide]
      refine g_istore X62 B #[.val (.int p0), .val (.int p1), .val (.long p2), .second, .val (.int (2 : Int32)), .val (.int (0 : Int32)), .val (.ref el), .val (.ref ag_), .val (.ref rq), .val (.int (1 : Int32)), .val (.int (0 : Int32)), .unset] at_147 149 rfl rfl ?_
      refine g_iload X62 B at_149 151 rfl rfl ?_
      refine g_aload X62 B at_151 153 rfl rfl rfl ?_
      have t271 := (Exa.wr W62 t270)
      refine g_callV X62 B [] [.int (1 : Int32)] at_153 156 rfl rfl (hw _ (List.mem_of_getElem? (i := 135) rfl)) (hw _ (List.mem_of_getElem? (i := 136) rfl)) (hw _ (List.mem_of_getElem? (i := 138) rfl)) (hw _ (List.mem_of_getElem? (i := 137) rfl)) (hw _ (List.mem_of_getElem? (i := 2) rfl)) (hw _ (List.mem_of_getElem? (i := 139) rfl)) (by decide) (lenOf pd_19 rfl) t271 (rm19 l Z ag hw ag_ 1 h62 n0 F62) e62 rfl 1 (Nat.le_of_eq rfl) (by decide) (by decide) (by decide) (by decide) (fun v63 T63 h63 L63 X63 e63 q63 => ?_)
      obtain ⟨rfl, N63, rfl⟩ := q63
      show Go p e below _ (T63.setTop (mkF m 156 #[.val (.int p0), .val (.int p1), .val (.long p2), .second, .val (.int (2 : Int32)), .val (.int (0 : Int32)), .val (.ref el), .val (.ref ag_), .val (.ref rq), .val (.int (1 : Int32)), .val (.int (0 : Int32)), .unset] [.int (if (0 : Int32) < 1 then 1 else 0), .int (1 : Int32)]))
      rw [show (if (0 : Int32) < 1 then (1 : Int32) else 0) = 1 by decide]
      refine g_iload X63 B at_156 158 rfl rfl ?_
      refine g_iconst X63 B (1) at_158 159 rfl rfl ?_
      refine g_icmp_le X63 B at_159 166 162 rfl (by decide) rfl (fun z => own_abs (by decide) z) (fun _ => ?_)
      refine g_iconst X63 B (1) at_162 163 rfl rfl ?_
      refine g_goto X63 B at_163 167 rfl (by decide) ?_
      refine g_icmp_ne X63 B at_167 174 170 rfl (by decide) rfl (fun z => own_abs (by decide) z) (fun _ => ?_)
      refine g_iconst X63 B (1) at_170 171 rfl rfl ?_
      refine g_goto X63 B at_171 175 rfl (by decide) ?_
      refine g_iand X63 B at_175 176 rfl ?_
      rw [show ((1 : Int32) &&& (1 : Int32)) = 1 by decide]
      refine g_istore X63 B #[.val (.int p0), .val (.int p1), .val (.long p2), .second, .val (.int (2 : Int32)), .val (.int (0 : Int32)), .val (.ref el), .val (.ref ag_), .val (.ref rq), .val (.int (1 : Int32)), .val (.int (0 : Int32)), .unset] at_176 178 rfl rfl ?_
      refine g_iload X63 B at_178 180 rfl rfl ?_
      refine g_iconst X63 B (2) at_180 181 rfl rfl ?_
      refine g_icmp_lt X63 B at_181 251 184 rfl (by decide) rfl (fun z => own_abs' (by decide) z) (fun _ => ?_)
      refine g_aload X63 B at_184 186 rfl rfl rfl ?_
      have t272 := (Nat.le_trans t269 (Nat.le_of_eq W62.size.symm))
      have t273 := (Fld.other W62 u7_2 (Or.inr (slot_ne (Or.inl (hw _ (List.mem_of_getElem? (i := 146) rfl))) (Or.inl (hw _ (List.mem_of_getElem? (i := 124) rfl))) (by decide) (t := (.object "com/example/growshrink/growshrink/engine/TransactionRecord$Request")) (by decide) (t' := .int) (by decide))))
      refine g_callV X63 B [] [] at_186 189 rfl rfl (hw _ (List.mem_of_getElem? (i := 130) rfl)) (hw _ (List.mem_of_getElem? (i := 131) rfl)) (hw _ (List.mem_of_getElem? (i := 133) rfl)) (hw _ (List.mem_of_getElem? (i := 132) rfl)) (hw _ (List.mem_of_getElem? (i := 2) rfl)) (hw _ (List.mem_of_getElem? (i := 134) rfl)) (by decide) (lenOf pd_18 rfl) t271 (rm18 l Z ag hw ag_ 1 (.null) rfl h62 n0 t272 g_ag_ t271 F62 t273) e63 rfl 0 (Nat.le_of_eq rfl) (by decide) (by decide) (by decide) (by decide) (fun v64 T64 h64 L64 X64 e64 q64 => ?_)
      obtain ⟨rfl, N64, W64⟩ := q64
      show Go p e below _ (T64.setTop (mkF m 189 #[.val (.int p0), .val (.int p1), .val (.long p2), .second, .val (.int (2 : Int32)), .val (.int (0 : Int32)), .val (.ref el), .val (.ref ag_), .val (.ref rq), .val (.int (1 : Int32)), .val (.int (0 : Int32)), .unset] [.int (own_ee 1 (.null))]))
      rw [show own_ee 1 (.null) = 0 by simp [own_ee]]
      rw [show ((1 : Int32) - 1) = 0 by decide] at W64
      have F64 := F62.same W64
      refine g_istore X64 B #[.val (.int p0), .val (.int p1), .val (.long p2), .second, .val (.int (2 : Int32)), .val (.int (0 : Int32)), .val (.ref el), .val (.ref ag_), .val (.ref rq), .val (.int (1 : Int32)), .val (.int (0 : Int32)), .val (.int (0 : Int32))] at_189 191 rfl rfl ?_
      refine g_iload X64 B at_191 193 rfl rfl ?_
      refine g_iload X64 B at_193 195 rfl rfl ?_
      refine g_iload X64 B at_195 197 rfl rfl ?_
      refine g_iconst X64 B (2) at_197 198 rfl rfl ?_
      refine g_icmp_ne X64 B at_198 210 201 rfl (by decide) rfl (fun z => own_abs (by decide) z) (fun _ => ?_)
      refine g_iload X64 B at_201 203 rfl rfl ?_
      refine g_if_eq X64 B at_203 210 206 rfl (by decide) rfl (fun _ => ?_) (fun z => own_abs (by decide) z)
      refine g_iconst X64 B (0) at_210 211 rfl rfl ?_
      refine g_icmp_ne X64 B at_211 218 214 rfl (by decide) rfl (fun z => own_abs (by decide) z) (fun _ => ?_)
      refine g_iconst X64 B (1) at_214 215 rfl rfl ?_
      refine g_goto X64 B at_215 219 rfl (by decide) ?_
      refine g_iand X64 B at_219 220 rfl ?_
      rw [show ((1 : Int32) &&& (1 : Int32)) = 1 by decide]
      refine g_istore X64 B #[.val (.int p0), .val (.int p1), .val (.long p2), .second, .val (.int (2 : Int32)), .val (.int (0 : Int32)), .val (.ref el), .val (.ref ag_), .val (.ref rq), .val (.int (1 : Int32)), .val (.int (0 : Int32)), .val (.int (0 : Int32))] at_220 222 rfl rfl ?_
      refine g_iload X64 B at_222 224 rfl rfl ?_
      refine g_aload X64 B at_224 226 rfl rfl rfl ?_
      have t274 := (Exa.wr W64 t271)
      refine g_callV X64 B [] [.int (1 : Int32)] at_226 229 rfl rfl (hw _ (List.mem_of_getElem? (i := 135) rfl)) (hw _ (List.mem_of_getElem? (i := 136) rfl)) (hw _ (List.mem_of_getElem? (i := 138) rfl)) (hw _ (List.mem_of_getElem? (i := 137) rfl)) (hw _ (List.mem_of_getElem? (i := 2) rfl)) (hw _ (List.mem_of_getElem? (i := 139) rfl)) (by decide) (lenOf pd_19 rfl) t274 (rm19 l Z ag hw ag_ 0 h64 n0 F64) e64 rfl 1 (Nat.le_of_eq rfl) (by decide) (by decide) (by decide) (by decide) (fun v65 T65 h65 L65 X65 e65 q65 => ?_)
      obtain ⟨rfl, N65, rfl⟩ := q65
      show Go p e below _ (T65.setTop (mkF m 229 #[.val (.int p0), .val (.int p1), .val (.long p2), .second, .val (.int (2 : Int32)), .val (.int (0 : Int32)), .val (.ref el), .val (.ref ag_), .val (.ref rq), .val (.int (1 : Int32)), .val (.int (0 : Int32)), .val (.int (0 : Int32))] [.int (if (0 : Int32) < 0 then 1 else 0), .int (1 : Int32)]))
      rw [show (if (0 : Int32) < 0 then (1 : Int32) else 0) = 0 by decide]
      refine g_iload X65 B at_229 231 rfl rfl ?_
      refine g_iconst X65 B (2) at_231 232 rfl rfl ?_
      refine g_icmp_le X65 B at_232 239 235 rfl (by decide) rfl (fun _ => ?_) (fun z => own_abs' (by decide) z)
      refine g_iconst X65 B (0) at_239 240 rfl rfl ?_
      refine g_icmp_ne X65 B at_240 247 243 rfl (by decide) rfl (fun z => own_abs (by decide) z) (fun _ => ?_)
      refine g_iconst X65 B (1) at_243 244 rfl rfl ?_
      refine g_goto X65 B at_244 248 rfl (by decide) ?_
      refine g_iand X65 B at_248 249 rfl ?_
      rw [show ((1 : Int32) &&& (1 : Int32)) = 1 by decide]
      refine g_istore X65 B #[.val (.int p0), .val (.int p1), .val (.long p2), .second, .val (.int (2 : Int32)), .val (.int (0 : Int32)), .val (.ref el), .val (.ref ag_), .val (.ref rq), .val (.int (1 : Int32)), .val (.int (0 : Int32)), .val (.int (0 : Int32))] at_249 251 rfl rfl ?_
      refine g_iload X65 B at_251 253 rfl rfl ?_
      refine g_aload X65 B at_253 255 rfl rfl rfl ?_
      have t275 := (Nat.le_trans t272 (Nat.le_of_eq W64.size.symm))
      have t276 := (Fld.other W64 t273 (Or.inr (slot_ne (Or.inl (hw _ (List.mem_of_getElem? (i := 146) rfl))) (Or.inl (hw _ (List.mem_of_getElem? (i := 124) rfl))) (by decide) (t := (.object "com/example/growshrink/growshrink/engine/TransactionRecord$Request")) (by decide) (t' := .int) (by decide))))
      refine g_callV X65 B [] [.int (1 : Int32)] at_255 258 rfl rfl (hw _ (List.mem_of_getElem? (i := 140) rfl)) (hw _ (List.mem_of_getElem? (i := 141) rfl)) (hw _ (List.mem_of_getElem? (i := 143) rfl)) (hw _ (List.mem_of_getElem? (i := 142) rfl)) (hw _ (List.mem_of_getElem? (i := 2) rfl)) (hw _ (List.mem_of_getElem? (i := 144) rfl)) (by decide) (lenOf pd_20 rfl) t274 (rm20 l Z ag hw ag_ (.null) rfl h64 n0 t275 g_ag_ t274 t276) e65 rfl 1 (Nat.le_of_eq rfl) (by decide) (by decide) (by decide) (by decide) (fun v66 T66 h66 L66 X66 e66 q66 => ?_)
      obtain ⟨rfl, N66, K66⟩ := q66
      show Go p e below _ (T66.setTop (mkF m 258 #[.val (.int p0), .val (.int p1), .val (.long p2), .second, .val (.int (2 : Int32)), .val (.int (0 : Int32)), .val (.ref el), .val (.ref ag_), .val (.ref rq), .val (.int (1 : Int32)), .val (.int (0 : Int32)), .val (.int (0 : Int32))] [.null, .int (1 : Int32)]))
      refine g_iload X66 B at_258 260 rfl rfl ?_
      refine g_if_eq X66 B at_260 268 263 rfl (by decide) rfl (fun _ => ?_) (fun z => own_abs (by decide) z)
      refine g_aconstNull X66 B at_268 269 rfl ?_
      refine g_acmp_ne X66 B at_269 276 272 rfl (by decide) rfl rfl rfl (fun z => own_abs (rfl) z) (fun _ => ?_)
      refine g_iconst X66 B (1) at_272 273 rfl rfl ?_
      refine g_goto X66 B at_273 277 rfl (by decide) ?_
      refine g_iand X66 B at_277 278 rfl ?_
      rw [show ((1 : Int32) &&& (1 : Int32)) = 1 by decide]
      refine g_istore X66 B #[.val (.int p0), .val (.int p1), .val (.long p2), .second, .val (.int (2 : Int32)), .val (.int (0 : Int32)), .val (.ref el), .val (.ref ag_), .val (.ref rq), .val (.int (1 : Int32)), .val (.int (0 : Int32)), .val (.int (0 : Int32))] at_278 280 rfl rfl ?_
      refine g_iload X66 B at_280 282 rfl rfl ?_
      exact g_retN X66 B at_282 rfl rfl (by decide) (by decide) (by decide) e66 ⟨rfl, (((((((((((Fr.nil n0).app N55).app N57).app N59).app N60).app N61).app N62).app N63).app N64).app N65).app N66)⟩
    · skip
      refine g_iconst X0 B (1) at_21 22 rfl rfl ?_
      refine g_goto X0 B at_22 26 rfl (by decide) ?_
      refine g_istore X0 B #[.val (.int p0), .val (.int p1), .val (.long p2), .second, .val (.int (2 : Int32)), .val (.int (1 : Int32)), .unset, .unset, .unset, .unset, .unset, .unset] at_26 28 rfl rfl ?_
      refine g_new X0 B at_28 31 rfl (hw _ (List.mem_of_getElem? (i := 0) rfl)) (hw _ (List.mem_of_getElem? (i := 1) rfl)) (hw _ (List.mem_of_getElem? (i := 2) rfl)) e0 (by decide) (by decide) (fun T67 h67 el X67 e67 ea67 E67 A67 D67 => ?_)
      have g_el : n0 ≤ el := ea67 ▸ Z0
      have gg_el : h0.size ≤ el := ea67 ▸ (Keep.refl h0 []).1
      have t277 : aD ≠ el := ea67 ▸ Nat.ne_of_lt (AD.lt)
      have t278 : aL ≠ el := ea67 ▸ Nat.ne_of_lt (EL.lt)
      have t279 : eL ≠ el := ea67 ▸ Nat.ne_of_lt (AL0.lt)
      have D67_0 : Fld Z h67 el "com/example/growshrink/growshrink/engine/TransactionRecord" "locked" "Ljava/util/List;" (.null) := D67 (Or.inr (hw _ (List.mem_of_getElem? (i := 35) rfl))) (ty := (.object "java/util/List")) (by decide)
      have D67_1 : Fld Z h67 el "com/example/growshrink/growshrink/engine/TransactionRecord" "stage" "Lcom/example/growshrink/growshrink/model/TransactionState;" (.null) := D67 (Or.inl (hw _ (List.mem_of_getElem? (i := 40) rfl))) (ty := (.object "com/example/growshrink/growshrink/model/TransactionState")) (by decide)
      have D67_2 : Fld Z h67 el "com/example/growshrink/growshrink/engine/TransactionRecord" "heldBack" "Ljava/util/List;" (.null) := D67 (Or.inl (hw _ (List.mem_of_getElem? (i := 48) rfl))) (ty := (.object "java/util/List")) (by decide)
      have D67_3 : Fld Z h67 el "com/example/growshrink/growshrink/engine/TransactionRecord" "id" "I" (.int 0) := D67 (Or.inr (hw _ (List.mem_of_getElem? (i := 50) rfl))) (ty := .int) (by decide)
      have D67_4 : Fld Z h67 el "com/example/growshrink/growshrink/engine/TransactionRecord" "timestamp" "J" (.long 0) := D67 (Or.inr (hw _ (List.mem_of_getElem? (i := 52) rfl))) (ty := .long) (by decide)
      have D67_5 : Fld Z h67 el "com/example/growshrink/growshrink/engine/TransactionRecord" "eldersLeft" "I" (.int 0) := D67 (Or.inl (hw _ (List.mem_of_getElem? (i := 124) rfl))) (ty := .int) (by decide)
      have D67_6 : Fld Z h67 el "com/example/growshrink/growshrink/engine/TransactionRecord" "held" "Lcom/example/growshrink/growshrink/engine/TransactionRecord$Request;" (.null) := D67 (Or.inl (hw _ (List.mem_of_getElem? (i := 146) rfl))) (ty := (.object "com/example/growshrink/growshrink/engine/TransactionRecord$Request")) (by decide)
      refine g_dup X67 B at_31 32 rfl rfl ?_
      refine g_iloadN X67 B at_32 33 rfl rfl ?_
      refine g_iconst X67 B (1) at_33 34 rfl rfl ?_
      refine g_ixor X67 B at_34 35 rfl ?_
      refine g_lloadN X67 B at_35 36 rfl rfl ?_
      have t280 := (Nat.le_trans Z0 E67.1)
      have t281 := (Sta.ext E67 SA)
      have t282 := (Sta.ext E67 SL)
      refine g_callN X67 B [.int (p1 ^^^ (1 : Int32)), .long p2] [.ref el] at_36 39 rfl rfl rfl (hw _ (List.mem_of_getElem? (i := 3) rfl)) (hw _ (List.mem_of_getElem? (i := 4) rfl)) (hw _ (List.mem_of_getElem? (i := 5) rfl)) (hw _ (List.mem_of_getElem? (i := 2) rfl)) (by decide) (lenOf pd_1 rfl) (rm1 l Z ag hw el aA aL (p1 ^^^ (1 : Int32)) p2 h67 n0 t280 g_el A67 D67_0 D67_1 D67_2 D67_3 D67_4 D67_5 D67_6 t281 t282) e67 rfl 1 (Nat.le_of_eq rfl) (by decide) (by decide) (by decide) (by decide) (fun v68 T68 h68 L68 X68 e68 q68 => ?_)
      obtain ⟨rfl, N68, K68, f1_el, f2_el, f3_el⟩ := q68
      show Go p e below _ (T68.setTop (mkF m 39 #[.val (.int p0), .val (.int p1), .val (.long p2), .second, .val (.int (2 : Int32)), .val (.int (1 : Int32)), .unset, .unset, .unset, .unset, .unset, .unset] [.ref el]))
      refine g_astore X68 B #[.val (.int p0), .val (.int p1), .val (.long p2), .second, .val (.int (2 : Int32)), .val (.int (1 : Int32)), .val (.ref el), .unset, .unset, .unset, .unset, .unset] at_39 41 rfl rfl rfl ?_
      refine g_new X68 B at_41 44 rfl (hw _ (List.mem_of_getElem? (i := 0) rfl)) (hw _ (List.mem_of_getElem? (i := 1) rfl)) (hw _ (List.mem_of_getElem? (i := 2) rfl)) e68 (by decide) (by decide) (fun T69 h69 ag_ X69 e69 ea69 E69 A69 D69 => ?_)
      have t283 := (Nat.le_trans t280 K68.1)
      have t284 := (Keep.trans (Keep.ext (Keep.refl h0 []) E67) K68 (allS (Or.inr gg_el) all0))
      have t285 := (Av.keep (Av.ext AD E67) K68 (ninS t277 nin0))
      have t286 := (Exa.keep (Exa.ext E67 EL) K68)
      have t287 := (Av.keep (Av.ext AL0 E67) K68 (ninS t279 nin0))
      have t288 := (Exa.keep A67 K68)
      have g_ag_ : n0 ≤ ag_ := ea69 ▸ t283
      have gg_ag_ : h0.size ≤ ag_ := ea69 ▸ t284.1
      have t289 : aD ≠ ag_ := ea69 ▸ Nat.ne_of_lt (t285.lt)
      have t290 : aL ≠ ag_ := ea69 ▸ Nat.ne_of_lt (t286.lt)
      have t291 : eL ≠ ag_ := ea69 ▸ Nat.ne_of_lt (t287.lt)
      have t292 : el ≠ ag_ := ea69 ▸ Nat.ne_of_lt (t288.lt)
      have D69_0 : Fld Z h69 ag_ "com/example/growshrink/growshrink/engine/TransactionRecord" "locked" "Ljava/util/List;" (.null) := D69 (Or.inr (hw _ (List.mem_of_getElem? (i := 35) rfl))) (ty := (.object "java/util/List")) (by decide)
      have D69_1 : Fld Z h69 ag_ "com/example/growshrink/growshrink/engine/TransactionRecord" "stage" "Lcom/example/growshrink/growshrink/model/TransactionState;" (.null) := D69 (Or.inl (hw _ (List.mem_of_getElem? (i := 40) rfl))) (ty := (.object "com/example/growshrink/growshrink/model/TransactionState")) (by decide)
      have D69_2 : Fld Z h69 ag_ "com/example/growshrink/growshrink/engine/TransactionRecord" "heldBack" "Ljava/util/List;" (.null) := D69 (Or.inl (hw _ (List.mem_of_getElem? (i := 48) rfl))) (ty := (.object "java/util/List")) (by decide)
      have D69_3 : Fld Z h69 ag_ "com/example/growshrink/growshrink/engine/TransactionRecord" "id" "I" (.int 0) := D69 (Or.inr (hw _ (List.mem_of_getElem? (i := 50) rfl))) (ty := .int) (by decide)
      have D69_4 : Fld Z h69 ag_ "com/example/growshrink/growshrink/engine/TransactionRecord" "timestamp" "J" (.long 0) := D69 (Or.inr (hw _ (List.mem_of_getElem? (i := 52) rfl))) (ty := .long) (by decide)
      have D69_5 : Fld Z h69 ag_ "com/example/growshrink/growshrink/engine/TransactionRecord" "eldersLeft" "I" (.int 0) := D69 (Or.inl (hw _ (List.mem_of_getElem? (i := 124) rfl))) (ty := .int) (by decide)
      have D69_6 : Fld Z h69 ag_ "com/example/growshrink/growshrink/engine/TransactionRecord" "held" "Lcom/example/growshrink/growshrink/engine/TransactionRecord$Request;" (.null) := D69 (Or.inl (hw _ (List.mem_of_getElem? (i := 146) rfl))) (ty := (.object "com/example/growshrink/growshrink/engine/TransactionRecord$Request")) (by decide)
      refine g_dup X69 B at_44 45 rfl rfl ?_
      refine g_iloadN X69 B at_45 46 rfl rfl ?_
      refine g_lloadN X69 B at_46 47 rfl rfl ?_
      have t293 := (Nat.le_trans t283 E69.1)
      have t294 := (Sta.ext E69 (own_stkw t281 K68 (own_plE A67 own_pl0)))
      have t295 := (Sta.ext E69 (own_stkw t282 K68 (own_plE A67 own_pl0)))
      refine g_callN X69 B [.int p1, .long p2] [.ref ag_] at_47 50 rfl rfl rfl (hw _ (List.mem_of_getElem? (i := 3) rfl)) (hw _ (List.mem_of_getElem? (i := 4) rfl)) (hw _ (List.mem_of_getElem? (i := 5) rfl)) (hw _ (List.mem_of_getElem? (i := 2) rfl)) (by decide) (lenOf pd_1 rfl) (rm1 l Z ag hw ag_ aA aL p1 p2 h69 n0 t293 g_ag_ A69 D69_0 D69_1 D69_2 D69_3 D69_4 D69_5 D69_6 t294 t295) e69 rfl 1 (Nat.le_of_eq rfl) (by decide) (by decide) (by decide) (by decide) (fun v70 T70 h70 L70 X70 e70 q70 => ?_)
      obtain ⟨rfl, N70, K70, f1_ag_, f2_ag_, f3_ag_⟩ := q70
      show Go p e below _ (T70.setTop (mkF m 50 #[.val (.int p0), .val (.int p1), .val (.long p2), .second, .val (.int (2 : Int32)), .val (.int (1 : Int32)), .val (.ref el), .unset, .unset, .unset, .unset, .unset] [.ref ag_]))
      refine g_astore X70 B #[.val (.int p0), .val (.int p1), .val (.long p2), .second, .val (.int (2 : Int32)), .val (.int (1 : Int32)), .val (.ref el), .val (.ref ag_), .unset, .unset, .unset, .unset] at_50 52 rfl rfl rfl ?_
      refine g_new X70 B at_52 55 rfl (hw _ (List.mem_of_getElem? (i := 53) rfl)) (hw _ (List.mem_of_getElem? (i := 54) rfl)) (hw _ (List.mem_of_getElem? (i := 55) rfl)) e70 (by decide) (by decide) (fun T71 h71 rq X71 e71 ea71 E71 A71 D71 => ?_)
      have t296 := (Nat.le_trans t293 K70.1)
      have t297 := (Keep.trans (Keep.ext t284 E69) K70 (allS (Or.inr gg_ag_) all0))
      have t298 := (Av.keep (Av.ext t285 E69) K70 (ninS t289 nin0))
      have t299 := (Exa.keep (Exa.ext E69 t286) K70)
      have t300 := (Exa.keep A69 K70)
      have t301 := (Av.keep (Av.ext t287 E69) K70 (ninS t291 nin0))
      have t302 := (Exa.keep (Exa.ext E69 t288) K70)
      have g_rq : n0 ≤ rq := ea71 ▸ t296
      have gg_rq : h0.size ≤ rq := ea71 ▸ t297.1
      have t303 : aD ≠ rq := ea71 ▸ Nat.ne_of_lt (t298.lt)
      have t304 : aL ≠ rq := ea71 ▸ Nat.ne_of_lt (t299.lt)
      have t305 : ag_ ≠ rq := ea71 ▸ Nat.ne_of_lt (t300.lt)
      have t306 : eL ≠ rq := ea71 ▸ Nat.ne_of_lt (t301.lt)
      have t307 : el ≠ rq := ea71 ▸ Nat.ne_of_lt (t302.lt)
      have D71_0 : Fld Z h71 rq "com/example/growshrink/growshrink/engine/TransactionRecord$Request" "item" "Ljava/lang/String;" (.null) := D71 (Or.inr (hw _ (List.mem_of_getElem? (i := 66) rfl))) (ty := (.object "java/lang/String")) (by decide)
      have D71_1 : Fld Z h71 rq "com/example/growshrink/growshrink/engine/TransactionRecord$Request" "mode" "Lcom/example/growshrink/growshrink/model/LockMode;" (.null) := D71 (Or.inr (hw _ (List.mem_of_getElem? (i := 68) rfl))) (ty := (.object "com/example/growshrink/growshrink/model/LockMode")) (by decide)
      refine g_dup X71 B at_55 56 rfl rfl ?_
      refine g_aconstNull X71 B at_56 57 rfl ?_
      refine g_aconstNull X71 B at_57 58 rfl ?_
      have t308 := (Nat.le_trans t296 E71.1)
      refine g_callN X71 B [.null, .null] [.ref rq] at_58 61 rfl rfl rfl (hw _ (List.mem_of_getElem? (i := 56) rfl)) (hw _ (List.mem_of_getElem? (i := 57) rfl)) (hw _ (List.mem_of_getElem? (i := 58) rfl)) (hw _ (List.mem_of_getElem? (i := 55) rfl)) (by decide) (lenOf pd_7 rfl) (rm7 l Z ag hw rq h71 n0 t308 g_rq A71 D71_0 D71_1) e71 rfl 1 (Nat.le_of_eq rfl) (by decide) (by decide) (by decide) (by decide) (fun v72 T72 h72 L72 X72 e72 q72 => ?_)
      obtain ⟨rfl, N72, K72⟩ := q72
      show Go p e below _ (T72.setTop (mkF m 61 #[.val (.int p0), .val (.int p1), .val (.long p2), .second, .val (.int (2 : Int32)), .val (.int (1 : Int32)), .val (.ref el), .val (.ref ag_), .unset, .unset, .unset, .unset] [.ref rq]))
      refine g_astore X72 B #[.val (.int p0), .val (.int p1), .val (.long p2), .second, .val (.int (2 : Int32)), .val (.int (1 : Int32)), .val (.ref el), .val (.ref ag_), .val (.ref rq), .unset, .unset, .unset] at_61 63 rfl rfl rfl ?_
      refine g_aload X72 B at_63 65 rfl rfl rfl ?_
      refine g_aload X72 B at_65 67 rfl rfl rfl ?_
      have t309 := (Nat.le_trans t308 K72.1)
      have t310 := (Exa.keep (Exa.ext E71 t302) K72)
      have t311 := (Exa.keep (Exa.ext E71 t300) K72)
      have t312 := (Fld.keep (Fld.ext E71 (Fld.keep (Fld.ext E69 f1_el) K70 (ninS t292 nin0))) K72 (ninS t307 nin0))
      have t313 := (Fld.keep (Fld.ext E71 f2_ag_) K72 (ninS t305 nin0))
      have t314 := (Fld.keep (Fld.ext E71 f3_ag_) K72 (ninS t305 nin0))
      have t315 := (Exa.keep (Exa.ext E71 t299) K72)
      have t316 := (Fld.keep (Fld.ext E71 (Fld.keep (Fld.ext E69 (Fld.keep (Fld.ext E67 FL) K68 (ninS t278 nin0))) K70 (ninS t290 nin0))) K72 (ninS t304 nin0))
      have t317 := (Av.keep (Av.ext t301 E71) K72 (ninS t306 nin0))
      have t318 := (Av.keep (Av.ext t298 E71) K72 (ninS t303 nin0))
      have t319 := (own_stkw (Sta.ext E71 (own_stkw (Sta.ext E69 (own_stkw (Sta.ext E67 SD) K68 (own_plE A67 own_pl0))) K70 (own_plE A69 own_pl0))) K72 (own_plE A71 own_pl0))
      refine g_callV X72 B [.ref ag_] [] at_67 70 rfl rfl (hw _ (List.mem_of_getElem? (i := 69) rfl)) (hw _ (List.mem_of_getElem? (i := 70) rfl)) (hw _ (List.mem_of_getElem? (i := 72) rfl)) (hw _ (List.mem_of_getElem? (i := 71) rfl)) (hw _ (List.mem_of_getElem? (i := 2) rfl)) (hw _ (List.mem_of_getElem? (i := 73) rfl)) (by decide) (lenOf pd_9 rfl) t310 (rm9 l Z ag hw el ag_ aL aD eL 0 .null h72 n0 t309 g_el g_ag_ t292 t310 t311 t312 t313 t314 t315 t316 t317 t318 t319) e72 rfl 0 (Nat.le_of_eq rfl) (by decide) (by decide) (by decide) (by decide) (fun v73 T73 h73 L73 X73 e73 q73 => ?_)
      obtain ⟨ls, ar, y1, rfl, N73, K73, s1, EL1, s2, s3, s4, s5, s6, s7, gl, gr⟩ := q73
      show Go p e below _ (T73.setTop (mkF m 70 #[.val (.int p0), .val (.int p1), .val (.long p2), .second, .val (.int (2 : Int32)), .val (.int (1 : Int32)), .val (.ref el), .val (.ref ag_), .val (.ref rq), .unset, .unset, .unset] []))
      rw [show ((0 : Int32) + 1) = 1 by decide] at s6
      obtain ⟨vz1, Az1, -⟩ := id s3
      have Ay1 := Az1.av
      refine g_iload X73 B at_70 72 rfl rfl ?_
      refine g_iconst X73 B (2) at_72 73 rfl rfl ?_
      refine g_icmp_lt X73 B at_73 83 76 rfl (by decide) rfl (fun z => own_abs' (by decide) z) (fun _ => ?_)
      refine g_aload X73 B at_76 78 rfl rfl rfl ?_
      refine g_aload X73 B at_78 80 rfl rfl rfl ?_
      have t320 := (Nat.le_trans t309 K73.1)
      have t321 := (Exa.keep t310 K73)
      have t322 := (Exa.keep t311 K73)
      refine g_callV X73 B [.ref ag_] [] at_80 83 rfl rfl (hw _ (List.mem_of_getElem? (i := 69) rfl)) (hw _ (List.mem_of_getElem? (i := 70) rfl)) (hw _ (List.mem_of_getElem? (i := 72) rfl)) (hw _ (List.mem_of_getElem? (i := 71) rfl)) (hw _ (List.mem_of_getElem? (i := 2) rfl)) (hw _ (List.mem_of_getElem? (i := 73) rfl)) (by decide) (lenOf pd_9 rfl) t321 (rn9 l Z ag hw el ag_ ls ar 1 _ 1 1 .null h73 n0 t320 g_el g_ag_ gl gr t292 t321 t322 s1 s6 s7 ⟨EL1, s2, s3, s4, s5⟩ (by decide) (by decide) (by decide) (by decide) (by decide)) e73 rfl 0 (Nat.le_of_eq rfl) (by decide) (by decide) (by decide) (by decide) (fun v74 T74 h74 L74 X74 e74 q74 => ?_)
      obtain ⟨y2, rfl, N74, K74, EL2, u2_2, u3_2, u4_2, u5_2, u6_2, u7_2⟩ := q74
      show Go p e below _ (T74.setTop (mkF m 83 #[.val (.int p0), .val (.int p1), .val (.long p2), .second, .val (.int (2 : Int32)), .val (.int (1 : Int32)), .val (.ref el), .val (.ref ag_), .val (.ref rq), .unset, .unset, .unset] []))
      rw [show ((1 : Int32) + 1) = 2 by decide] at u4_2 u6_2
      obtain ⟨vz2, Az2, -⟩ := id u3_2
      have Ay2 := Az2.av
      refine g_iload X74 B at_83 85 rfl rfl ?_
      refine g_iconst X74 B (3) at_85 86 rfl rfl ?_
      refine g_icmp_lt X74 B at_86 96 89 rfl (by decide) rfl (fun _ => ?_) (fun z => own_abs (by decide) z)
      refine g_iload X74 B at_96 98 rfl rfl ?_
      refine g_if_eq X74 B at_98 108 101 rfl (by decide) rfl (fun z => own_abs' (by decide) z) (fun _ => ?_)
      refine g_aload X74 B at_101 103 rfl rfl rfl ?_
      refine g_aload X74 B at_103 105 rfl rfl rfl ?_
      have t323 := (Nat.le_trans t320 K74.1)
      have t324 := (Exa.keep t322 K74)
      refine g_callV X74 B [.ref rq] [] at_105 108 rfl rfl (hw _ (List.mem_of_getElem? (i := 147) rfl)) (hw _ (List.mem_of_getElem? (i := 148) rfl)) (hw _ (List.mem_of_getElem? (i := 150) rfl)) (hw _ (List.mem_of_getElem? (i := 149) rfl)) (hw _ (List.mem_of_getElem? (i := 2) rfl)) (hw _ (List.mem_of_getElem? (i := 151) rfl)) (by decide) (lenOf pd_21 rfl) t324 (rm21 l Z ag hw ag_ rq h74 n0 t323 g_ag_ t324 u7_2) e74 rfl 0 (Nat.le_of_eq rfl) (by decide) (by decide) (by decide) (by decide) (fun v75 T75 h75 L75 X75 e75 q75 => ?_)
      obtain ⟨rfl, N75, W75⟩ := q75
      show Go p e below _ (T75.setTop (mkF m 108 #[.val (.int p0), .val (.int p1), .val (.long p2), .second, .val (.int (2 : Int32)), .val (.int (1 : Int32)), .val (.ref el), .val (.ref ag_), .val (.ref rq), .unset, .unset, .unset] []))
      have F75 := u7_2.same W75
      refine g_iconst X75 B (1) at_108 109 rfl rfl ?_
      refine g_istore X75 B #[.val (.int p0), .val (.int p1), .val (.long p2), .second, .val (.int (2 : Int32)), .val (.int (1 : Int32)), .val (.ref el), .val (.ref ag_), .val (.ref rq), .val (.int (1 : Int32)), .unset, .unset] at_109 111 rfl rfl ?_
      refine g_aload X75 B at_111 113 rfl rfl rfl ?_
      have t325 := (Nat.le_trans t323 (Nat.le_of_eq W75.size.symm))
      have t326 := (Exa.wr W75 t324)
      have t327 := (Fld.other W75 u6_2 (Or.inr (slot_ne (Or.inl (hw _ (List.mem_of_getElem? (i := 124) rfl))) (Or.inl (hw _ (List.mem_of_getElem? (i := 146) rfl))) (by decide) (t := .int) (by decide) (t' := (.object "com/example/growshrink/growshrink/engine/TransactionRecord$Request")) (by decide))))
      refine g_callV X75 B [] [] at_113 116 rfl rfl (hw _ (List.mem_of_getElem? (i := 130) rfl)) (hw _ (List.mem_of_getElem? (i := 131) rfl)) (hw _ (List.mem_of_getElem? (i := 133) rfl)) (hw _ (List.mem_of_getElem? (i := 132) rfl)) (hw _ (List.mem_of_getElem? (i := 2) rfl)) (hw _ (List.mem_of_getElem? (i := 134) rfl)) (by decide) (lenOf pd_18 rfl) t326 (rm18 l Z ag hw ag_ 2 (.ref rq) rfl h75 n0 t325 g_ag_ t326 t327 F75) e75 rfl 0 (Nat.le_of_eq rfl) (by decide) (by decide) (by decide) (by decide) (fun v76 T76 h76 L76 X76 e76 q76 => ?_)
      obtain ⟨rfl, N76, W76⟩ := q76
      show Go p e below _ (T76.setTop (mkF m 116 #[.val (.int p0), .val (.int p1), .val (.long p2), .second, .val (.int (2 : Int32)), .val (.int (1 : Int32)), .val (.ref el), .val (.ref ag_), .val (.ref rq), .val (.int (1 : Int32)), .unset, .unset] [.int (own_ee 2 (.ref rq))]))
      rw [show own_ee 2 (.ref rq) = 0 by simp [own_ee]]
      rw [show ((2 : Int32) - 1) = 1 by decide] at W76
      have F76 := t327.same W76
      refine g_istore X76 B #[.val (.int p0), .val (.int p1), .val (.long p2), .second, .val (.int (2 : Int32)), .val (.int (1 : Int32)), .val (.ref el), .val (.ref ag_), .val (.ref rq), .val (.int (1 : Int32)), .val (.int (0 : Int32)), .unset] at_116 118 rfl rfl ?_
      refine g_iload X76 B at_118 120 rfl rfl ?_
      refine g_iload X76 B at_120 122 rfl rfl ?_
      refine g_iload X76 B at_122 124 rfl rfl ?_
      refine g_iconst X76 B (1) at_124 125 rfl rfl ?_
      refine g_icmp_ne X76 B at_125 137 128 rfl (by decide) rfl (fun _ => ?_) (fun z => own_abs' (by decide) z)
      refine g_iconst X76 B (0) at_137 138 rfl rfl ?_
      refine g_icmp_ne X76 B at_138 145 141 rfl (by decide) rfl (fun z => own_abs (by decide) z) (fun _ => ?_)
      refine g_iconst X76 B (1) at_141 142 rfl rfl ?_
      refine g_goto X76 B at_142 146 rfl (by decide) ?_
      refine g_iand X76 B at_146 147 rfl ?_
      rw [show ((1 : Int32) &&& (1 : Int32)) = 1 by decide]
      refine g_istore X76 B #[.val (.int p0), .val (.int p1), .val (.long p2), .second, .val (.int (2 : Int32)), .val (.int (1 : Int32)), .val (.ref el), .val (.ref ag_), .val (.ref rq), .val (.int (1 : Int32)), .val (.int (0 : Int32)), .unset] at_147 149 rfl rfl ?_
      refine g_iload X76 B at_149 151 rfl rfl ?_
      refine g_aload X76 B at_151 153 rfl rfl rfl ?_
      have t328 := (Exa.wr W76 t326)
      refine g_callV X76 B [] [.int (1 : Int32)] at_153 156 rfl rfl (hw _ (List.mem_of_getElem? (i := 135) rfl)) (hw _ (List.mem_of_getElem? (i := 136) rfl)) (hw _ (List.mem_of_getElem? (i := 138) rfl)) (hw _ (List.mem_of_getElem? (i := 137) rfl)) (hw _ (List.mem_of_getElem? (i := 2) rfl)) (hw _ (List.mem_of_getElem? (i := 139) rfl)) (by decide) (lenOf pd_19 rfl) t328 (rm19 l Z ag hw ag_ 1 h76 n0 F76) e76 rfl 1 (Nat.le_of_eq rfl) (by decide) (by decide) (by decide) (by decide) (fun v77 T77 h77 L77 X77 e77 q77 => ?_)
      obtain ⟨rfl, N77, rfl⟩ := q77
      show Go p e below _ (T77.setTop (mkF m 156 #[.val (.int p0), .val (.int p1), .val (.long p2), .second, .val (.int (2 : Int32)), .val (.int (1 : Int32)), .val (.ref el), .val (.ref ag_), .val (.ref rq), .val (.int (1 : Int32)), .val (.int (0 : Int32)), .unset] [.int (if (0 : Int32) < 1 then 1 else 0), .int (1 : Int32)]))
      rw [show (if (0 : Int32) < 1 then (1 : Int32) else 0) = 1 by decide]
      refine g_iload X77 B at_156 158 rfl rfl ?_
      refine g_iconst X77 B (1) at_158 159 rfl rfl ?_
      refine g_icmp_le X77 B at_159 166 162 rfl (by decide) rfl (fun z => own_abs (by decide) z) (fun _ => ?_)
      refine g_iconst X77 B (1) at_162 163 rfl rfl ?_
      refine g_goto X77 B at_163 167 rfl (by decide) ?_
      refine g_icmp_ne X77 B at_167 174 170 rfl (by decide) rfl (fun z => own_abs (by decide) z) (fun _ => ?_)
      refine g_iconst X77 B (1) at_170 171 rfl rfl ?_
      refine g_goto X77 B at_171 175 rfl (by decide) ?_
      refine g_iand X77 B at_175 176 rfl ?_
      rw [show ((1 : Int32) &&& (1 : Int32)) = 1 by decide]
      refine g_istore X77 B #[.val (.int p0), .val (.int p1), .val (.long p2), .second, .val (.int (2 : Int32)), .val (.int (1 : Int32)), .val (.ref el), .val (.ref ag_), .val (.ref rq), .val (.int (1 : Int32)), .val (.int (0 : Int32)), .unset] at_176 178 rfl rfl ?_
      refine g_iload X77 B at_178 180 rfl rfl ?_
      refine g_iconst X77 B (2) at_180 181 rfl rfl ?_
      refine g_icmp_lt X77 B at_181 251 184 rfl (by decide) rfl (fun z => own_abs' (by decide) z) (fun _ => ?_)
      refine g_aload X77 B at_184 186 rfl rfl rfl ?_
      have t329 := (Nat.le_trans t325 (Nat.le_of_eq W76.size.symm))
      have t330 := (Fld.other W76 F75 (Or.inr (slot_ne (Or.inl (hw _ (List.mem_of_getElem? (i := 146) rfl))) (Or.inl (hw _ (List.mem_of_getElem? (i := 124) rfl))) (by decide) (t := (.object "com/example/growshrink/growshrink/engine/TransactionRecord$Request")) (by decide) (t' := .int) (by decide))))
      refine g_callV X77 B [] [] at_186 189 rfl rfl (hw _ (List.mem_of_getElem? (i := 130) rfl)) (hw _ (List.mem_of_getElem? (i := 131) rfl)) (hw _ (List.mem_of_getElem? (i := 133) rfl)) (hw _ (List.mem_of_getElem? (i := 132) rfl)) (hw _ (List.mem_of_getElem? (i := 2) rfl)) (hw _ (List.mem_of_getElem? (i := 134) rfl)) (by decide) (lenOf pd_18 rfl) t328 (rm18 l Z ag hw ag_ 1 (.ref rq) rfl h76 n0 t329 g_ag_ t328 F76 t330) e77 rfl 0 (Nat.le_of_eq rfl) (by decide) (by decide) (by decide) (by decide) (fun v78 T78 h78 L78 X78 e78 q78 => ?_)
      obtain ⟨rfl, N78, W78⟩ := q78
      show Go p e below _ (T78.setTop (mkF m 189 #[.val (.int p0), .val (.int p1), .val (.long p2), .second, .val (.int (2 : Int32)), .val (.int (1 : Int32)), .val (.ref el), .val (.ref ag_), .val (.ref rq), .val (.int (1 : Int32)), .val (.int (0 : Int32)), .unset] [.int (own_ee 1 (.ref rq))]))
      rw [show own_ee 1 (.ref rq) = 1 by simp [own_ee]]
      rw [show ((1 : Int32) - 1) = 0 by decide] at W78
      have F78 := F76.same W78
      refine g_istore X78 B #[.val (.int p0), .val (.int p1), .val (.long p2), .second, .val (.int (2 : Int32)), .val (.int (1 : Int32)), .val (.ref el), .val (.ref ag_), .val (.ref rq), .val (.int (1 : Int32)), .val (.int (0 : Int32)), .val (.int (1 : Int32))] at_189 191 rfl rfl ?_
      refine g_iload X78 B at_191 193 rfl rfl ?_
      refine g_iload X78 B at_193 195 rfl rfl ?_
      refine g_iload X78 B at_195 197 rfl rfl ?_
      refine g_iconst X78 B (2) at_197 198 rfl rfl ?_
      refine g_icmp_ne X78 B at_198 210 201 rfl (by decide) rfl (fun z => own_abs (by decide) z) (fun _ => ?_)
      refine g_iload X78 B at_201 203 rfl rfl ?_
      refine g_if_eq X78 B at_203 210 206 rfl (by decide) rfl (fun z => own_abs' (by decide) z) (fun _ => ?_)
      refine g_iconst X78 B (1) at_206 207 rfl rfl ?_
      refine g_goto X78 B at_207 211 rfl (by decide) ?_
      refine g_icmp_ne X78 B at_211 218 214 rfl (by decide) rfl (fun z => own_abs (by decide) z) (fun _ => ?_)
      refine g_iconst X78 B (1) at_214 215 rfl rfl ?_
      refine g_goto X78 B at_215 219 rfl (by decide) ?_
      refine g_iand X78 B at_219 220 rfl ?_
      rw [show ((1 : Int32) &&& (1 : Int32)) = 1 by decide]
      refine g_istore X78 B #[.val (.int p0), .val (.int p1), .val (.long p2), .second, .val (.int (2 : Int32)), .val (.int (1 : Int32)), .val (.ref el), .val (.ref ag_), .val (.ref rq), .val (.int (1 : Int32)), .val (.int (0 : Int32)), .val (.int (1 : Int32))] at_220 222 rfl rfl ?_
      refine g_iload X78 B at_222 224 rfl rfl ?_
      refine g_aload X78 B at_224 226 rfl rfl rfl ?_
      have t331 := (Exa.wr W78 t328)
      refine g_callV X78 B [] [.int (1 : Int32)] at_226 229 rfl rfl (hw _ (List.mem_of_getElem? (i := 135) rfl)) (hw _ (List.mem_of_getElem? (i := 136) rfl)) (hw _ (List.mem_of_getElem? (i := 138) rfl)) (hw _ (List.mem_of_getElem? (i := 137) rfl)) (hw _ (List.mem_of_getElem? (i := 2) rfl)) (hw _ (List.mem_of_getElem? (i := 139) rfl)) (by decide) (lenOf pd_19 rfl) t331 (rm19 l Z ag hw ag_ 0 h78 n0 F78) e78 rfl 1 (Nat.le_of_eq rfl) (by decide) (by decide) (by decide) (by decide) (fun v79 T79 h79 L79 X79 e79 q79 => ?_)
      obtain ⟨rfl, N79, rfl⟩ := q79
      show Go p e below _ (T79.setTop (mkF m 229 #[.val (.int p0), .val (.int p1), .val (.long p2), .second, .val (.int (2 : Int32)), .val (.int (1 : Int32)), .val (.ref el), .val (.ref ag_), .val (.ref rq), .val (.int (1 : Int32)), .val (.int (0 : Int32)), .val (.int (1 : Int32))] [.int (if (0 : Int32) < 0 then 1 else 0), .int (1 : Int32)]))
      rw [show (if (0 : Int32) < 0 then (1 : Int32) else 0) = 0 by decide]
      refine g_iload X79 B at_229 231 rfl rfl ?_
      refine g_iconst X79 B (2) at_231 232 rfl rfl ?_
      refine g_icmp_le X79 B at_232 239 235 rfl (by decide) rfl (fun _ => ?_) (fun z => own_abs' (by decide) z)
      refine g_iconst X79 B (0) at_239 240 rfl rfl ?_
      refine g_icmp_ne X79 B at_240 247 243 rfl (by decide) rfl (fun z => own_abs (by decide) z) (fun _ => ?_)
      refine g_iconst X79 B (1) at_243 244 rfl rfl ?_
      refine g_goto X79 B at_244 248 rfl (by decide) ?_
      refine g_iand X79 B at_248 249 rfl ?_
      rw [show ((1 : Int32) &&& (1 : Int32)) = 1 by decide]
      refine g_istore X79 B #[.val (.int p0), .val (.int p1), .val (.long p2), .second, .val (.int (2 : Int32)), .val (.int (1 : Int32)), .val (.ref el), .val (.ref ag_), .val (.ref rq), .val (.int (1 : Int32)), .val (.int (0 : Int32)), .val (.int (1 : Int32))] at_249 251 rfl rfl ?_
      refine g_iload X79 B at_251 253 rfl rfl ?_
      refine g_aload X79 B at_253 255 rfl rfl rfl ?_
      have t332 := (Nat.le_trans t329 (Nat.le_of_eq W78.size.symm))
      have t333 := (Fld.other W78 t330 (Or.inr (slot_ne (Or.inl (hw _ (List.mem_of_getElem? (i := 146) rfl))) (Or.inl (hw _ (List.mem_of_getElem? (i := 124) rfl))) (by decide) (t := (.object "com/example/growshrink/growshrink/engine/TransactionRecord$Request")) (by decide) (t' := .int) (by decide))))
      refine g_callV X79 B [] [.int (1 : Int32)] at_255 258 rfl rfl (hw _ (List.mem_of_getElem? (i := 140) rfl)) (hw _ (List.mem_of_getElem? (i := 141) rfl)) (hw _ (List.mem_of_getElem? (i := 143) rfl)) (hw _ (List.mem_of_getElem? (i := 142) rfl)) (hw _ (List.mem_of_getElem? (i := 2) rfl)) (hw _ (List.mem_of_getElem? (i := 144) rfl)) (by decide) (lenOf pd_20 rfl) t331 (rm20 l Z ag hw ag_ (.ref rq) rfl h78 n0 t332 g_ag_ t331 t333) e79 rfl 1 (Nat.le_of_eq rfl) (by decide) (by decide) (by decide) (by decide) (fun v80 T80 h80 L80 X80 e80 q80 => ?_)
      obtain ⟨rfl, N80, K80⟩ := q80
      show Go p e below _ (T80.setTop (mkF m 258 #[.val (.int p0), .val (.int p1), .val (.long p2), .second, .val (.int (2 : Int32)), .val (.int (1 : Int32)), .val (.ref el), .val (.ref ag_), .val (.ref rq), .val (.int (1 : Int32)), .val (.int (0 : Int32)), .val (.int (1 : Int32))] [.ref rq, .int (1 : Int32)]))
      refine g_iload X80 B at_258 260 rfl rfl ?_
      refine g_if_eq X80 B at_260 268 263 rfl (by decide) rfl (fun z => own_abs' (by decide) z) (fun _ => ?_)
      refine g_aload X80 B at_263 265 rfl rfl rfl ?_
      refine g_goto X80 B at_265 269 rfl (by decide) ?_
      refine g_acmp_ne X80 B at_269 276 272 rfl (by decide) rfl rfl rfl (fun z => own_abs (rfl) z) (fun _ => ?_)
      refine g_iconst X80 B (1) at_272 273 rfl rfl ?_
      refine g_goto X80 B at_273 277 rfl (by decide) ?_
      refine g_iand X80 B at_277 278 rfl ?_
      rw [show ((1 : Int32) &&& (1 : Int32)) = 1 by decide]
      refine g_istore X80 B #[.val (.int p0), .val (.int p1), .val (.long p2), .second, .val (.int (2 : Int32)), .val (.int (1 : Int32)), .val (.ref el), .val (.ref ag_), .val (.ref rq), .val (.int (1 : Int32)), .val (.int (0 : Int32)), .val (.int (1 : Int32))] at_278 280 rfl rfl ?_
      refine g_iload X80 B at_280 282 rfl rfl ?_
      exact g_retN X80 B at_282 rfl rfl (by decide) (by decide) (by decide) e80 ⟨rfl, ((((((((((((Fr.nil n0).app N68).app N70).app N72).app N73).app N74).app N75).app N76).app N77).app N78).app N79).app N80)⟩
  · skip
    rw [kk]
    refine g_iload X0 B at_5 7 rfl rfl ?_
    refine g_if_ne X0 B at_7 13 10 rfl (by decide) rfl (fun _ => ?_) (fun z => own_abs' (by decide) z)
    refine g_iloadN X0 B at_13 14 rfl rfl ?_
    refine g_iconst X0 B (2) at_14 15 rfl rfl ?_
    refine g_ishr X0 B at_15 16 rfl ?_
    refine g_iconst X0 B (1) at_16 17 rfl rfl ?_
    refine g_iand X0 B at_17 18 rfl ?_
    refine g_if_eq X0 B at_18 25 21 rfl (by decide) rfl (fun c81 => ?_) (fun c81 => ?_)
    · skip
      refine g_iconst X0 B (0) at_25 26 rfl rfl ?_
      refine g_istore X0 B #[.val (.int p0), .val (.int p1), .val (.long p2), .second, .val (.int (3 : Int32)), .val (.int (0 : Int32)), .unset, .unset, .unset, .unset, .unset, .unset] at_26 28 rfl rfl ?_
      refine g_new X0 B at_28 31 rfl (hw _ (List.mem_of_getElem? (i := 0) rfl)) (hw _ (List.mem_of_getElem? (i := 1) rfl)) (hw _ (List.mem_of_getElem? (i := 2) rfl)) e0 (by decide) (by decide) (fun T82 h82 el X82 e82 ea82 E82 A82 D82 => ?_)
      have g_el : n0 ≤ el := ea82 ▸ Z0
      have gg_el : h0.size ≤ el := ea82 ▸ (Keep.refl h0 []).1
      have t334 : aD ≠ el := ea82 ▸ Nat.ne_of_lt (AD.lt)
      have t335 : aL ≠ el := ea82 ▸ Nat.ne_of_lt (EL.lt)
      have t336 : eL ≠ el := ea82 ▸ Nat.ne_of_lt (AL0.lt)
      have D82_0 : Fld Z h82 el "com/example/growshrink/growshrink/engine/TransactionRecord" "locked" "Ljava/util/List;" (.null) := D82 (Or.inr (hw _ (List.mem_of_getElem? (i := 35) rfl))) (ty := (.object "java/util/List")) (by decide)
      have D82_1 : Fld Z h82 el "com/example/growshrink/growshrink/engine/TransactionRecord" "stage" "Lcom/example/growshrink/growshrink/model/TransactionState;" (.null) := D82 (Or.inl (hw _ (List.mem_of_getElem? (i := 40) rfl))) (ty := (.object "com/example/growshrink/growshrink/model/TransactionState")) (by decide)
      have D82_2 : Fld Z h82 el "com/example/growshrink/growshrink/engine/TransactionRecord" "heldBack" "Ljava/util/List;" (.null) := D82 (Or.inl (hw _ (List.mem_of_getElem? (i := 48) rfl))) (ty := (.object "java/util/List")) (by decide)
      have D82_3 : Fld Z h82 el "com/example/growshrink/growshrink/engine/TransactionRecord" "id" "I" (.int 0) := D82 (Or.inr (hw _ (List.mem_of_getElem? (i := 50) rfl))) (ty := .int) (by decide)
      have D82_4 : Fld Z h82 el "com/example/growshrink/growshrink/engine/TransactionRecord" "timestamp" "J" (.long 0) := D82 (Or.inr (hw _ (List.mem_of_getElem? (i := 52) rfl))) (ty := .long) (by decide)
      have D82_5 : Fld Z h82 el "com/example/growshrink/growshrink/engine/TransactionRecord" "eldersLeft" "I" (.int 0) := D82 (Or.inl (hw _ (List.mem_of_getElem? (i := 124) rfl))) (ty := .int) (by decide)
      have D82_6 : Fld Z h82 el "com/example/growshrink/growshrink/engine/TransactionRecord" "held" "Lcom/example/growshrink/growshrink/engine/TransactionRecord$Request;" (.null) := D82 (Or.inl (hw _ (List.mem_of_getElem? (i := 146) rfl))) (ty := (.object "com/example/growshrink/growshrink/engine/TransactionRecord$Request")) (by decide)
      refine g_dup X82 B at_31 32 rfl rfl ?_
      refine g_iloadN X82 B at_32 33 rfl rfl ?_
      refine g_iconst X82 B (1) at_33 34 rfl rfl ?_
      refine g_ixor X82 B at_34 35 rfl ?_
      refine g_lloadN X82 B at_35 36 rfl rfl ?_
      have t337 := (Nat.le_trans Z0 E82.1)
      have t338 := (Sta.ext E82 SA)
      have t339 := (Sta.ext E82 SL)
      refine g_callN X82 B [.int (p1 ^^^ (1 : Int32)), .long p2] [.ref el] at_36 39 rfl rfl rfl (hw _ (List.mem_of_getElem? (i := 3) rfl)) (hw _ (List.mem_of_getElem? (i := 4) rfl)) (hw _ (List.mem_of_getElem? (i := 5) rfl)) (hw _ (List.mem_of_getElem? (i := 2) rfl)) (by decide) (lenOf pd_1 rfl) (rm1 l Z ag hw el aA aL (p1 ^^^ (1 : Int32)) p2 h82 n0 t337 g_el A82 D82_0 D82_1 D82_2 D82_3 D82_4 D82_5 D82_6 t338 t339) e82 rfl 1 (Nat.le_of_eq rfl) (by decide) (by decide) (by decide) (by decide) (fun v83 T83 h83 L83 X83 e83 q83 => ?_)
      obtain ⟨rfl, N83, K83, f1_el, f2_el, f3_el⟩ := q83
      show Go p e below _ (T83.setTop (mkF m 39 #[.val (.int p0), .val (.int p1), .val (.long p2), .second, .val (.int (3 : Int32)), .val (.int (0 : Int32)), .unset, .unset, .unset, .unset, .unset, .unset] [.ref el]))
      refine g_astore X83 B #[.val (.int p0), .val (.int p1), .val (.long p2), .second, .val (.int (3 : Int32)), .val (.int (0 : Int32)), .val (.ref el), .unset, .unset, .unset, .unset, .unset] at_39 41 rfl rfl rfl ?_
      refine g_new X83 B at_41 44 rfl (hw _ (List.mem_of_getElem? (i := 0) rfl)) (hw _ (List.mem_of_getElem? (i := 1) rfl)) (hw _ (List.mem_of_getElem? (i := 2) rfl)) e83 (by decide) (by decide) (fun T84 h84 ag_ X84 e84 ea84 E84 A84 D84 => ?_)
      have t340 := (Nat.le_trans t337 K83.1)
      have t341 := (Keep.trans (Keep.ext (Keep.refl h0 []) E82) K83 (allS (Or.inr gg_el) all0))
      have t342 := (Av.keep (Av.ext AD E82) K83 (ninS t334 nin0))
      have t343 := (Exa.keep (Exa.ext E82 EL) K83)
      have t344 := (Av.keep (Av.ext AL0 E82) K83 (ninS t336 nin0))
      have t345 := (Exa.keep A82 K83)
      have g_ag_ : n0 ≤ ag_ := ea84 ▸ t340
      have gg_ag_ : h0.size ≤ ag_ := ea84 ▸ t341.1
      have t346 : aD ≠ ag_ := ea84 ▸ Nat.ne_of_lt (t342.lt)
      have t347 : aL ≠ ag_ := ea84 ▸ Nat.ne_of_lt (t343.lt)
      have t348 : eL ≠ ag_ := ea84 ▸ Nat.ne_of_lt (t344.lt)
      have t349 : el ≠ ag_ := ea84 ▸ Nat.ne_of_lt (t345.lt)
      have D84_0 : Fld Z h84 ag_ "com/example/growshrink/growshrink/engine/TransactionRecord" "locked" "Ljava/util/List;" (.null) := D84 (Or.inr (hw _ (List.mem_of_getElem? (i := 35) rfl))) (ty := (.object "java/util/List")) (by decide)
      have D84_1 : Fld Z h84 ag_ "com/example/growshrink/growshrink/engine/TransactionRecord" "stage" "Lcom/example/growshrink/growshrink/model/TransactionState;" (.null) := D84 (Or.inl (hw _ (List.mem_of_getElem? (i := 40) rfl))) (ty := (.object "com/example/growshrink/growshrink/model/TransactionState")) (by decide)
      have D84_2 : Fld Z h84 ag_ "com/example/growshrink/growshrink/engine/TransactionRecord" "heldBack" "Ljava/util/List;" (.null) := D84 (Or.inl (hw _ (List.mem_of_getElem? (i := 48) rfl))) (ty := (.object "java/util/List")) (by decide)
      have D84_3 : Fld Z h84 ag_ "com/example/growshrink/growshrink/engine/TransactionRecord" "id" "I" (.int 0) := D84 (Or.inr (hw _ (List.mem_of_getElem? (i := 50) rfl))) (ty := .int) (by decide)
      have D84_4 : Fld Z h84 ag_ "com/example/growshrink/growshrink/engine/TransactionRecord" "timestamp" "J" (.long 0) := D84 (Or.inr (hw _ (List.mem_of_getElem? (i := 52) rfl))) (ty := .long) (by decide)
      have D84_5 : Fld Z h84 ag_ "com/example/growshrink/growshrink/engine/TransactionRecord" "eldersLeft" "I" (.int 0) := D84 (Or.inl (hw _ (List.mem_of_getElem? (i := 124) rfl))) (ty := .int) (by decide)
      have D84_6 : Fld Z h84 ag_ "com/example/growshrink/growshrink/engine/TransactionRecord" "held" "Lcom/example/growshrink/growshrink/engine/TransactionRecord$Request;" (.null) := D84 (Or.inl (hw _ (List.mem_of_getElem? (i := 146) rfl))) (ty := (.object "com/example/growshrink/growshrink/engine/TransactionRecord$Request")) (by decide)
      refine g_dup X84 B at_44 45 rfl rfl ?_
      refine g_iloadN X84 B at_45 46 rfl rfl ?_
      refine g_lloadN X84 B at_46 47 rfl rfl ?_
      have t350 := (Nat.le_trans t340 E84.1)
      have t351 := (Sta.ext E84 (own_stkw t338 K83 (own_plE A82 own_pl0)))
      have t352 := (Sta.ext E84 (own_stkw t339 K83 (own_plE A82 own_pl0)))
      refine g_callN X84 B [.int p1, .long p2] [.ref ag_] at_47 50 rfl rfl rfl (hw _ (List.mem_of_getElem? (i := 3) rfl)) (hw _ (List.mem_of_getElem? (i := 4) rfl)) (hw _ (List.mem_of_getElem? (i := 5) rfl)) (hw _ (List.mem_of_getElem? (i := 2) rfl)) (by decide) (lenOf pd_1 rfl) (rm1 l Z ag hw ag_ aA aL p1 p2 h84 n0 t350 g_ag_ A84 D84_0 D84_1 D84_2 D84_3 D84_4 D84_5 D84_6 t351 t352) e84 rfl 1 (Nat.le_of_eq rfl) (by decide) (by decide) (by decide) (by decide) (fun v85 T85 h85 L85 X85 e85 q85 => ?_)
      obtain ⟨rfl, N85, K85, f1_ag_, f2_ag_, f3_ag_⟩ := q85
      show Go p e below _ (T85.setTop (mkF m 50 #[.val (.int p0), .val (.int p1), .val (.long p2), .second, .val (.int (3 : Int32)), .val (.int (0 : Int32)), .val (.ref el), .unset, .unset, .unset, .unset, .unset] [.ref ag_]))
      refine g_astore X85 B #[.val (.int p0), .val (.int p1), .val (.long p2), .second, .val (.int (3 : Int32)), .val (.int (0 : Int32)), .val (.ref el), .val (.ref ag_), .unset, .unset, .unset, .unset] at_50 52 rfl rfl rfl ?_
      refine g_new X85 B at_52 55 rfl (hw _ (List.mem_of_getElem? (i := 53) rfl)) (hw _ (List.mem_of_getElem? (i := 54) rfl)) (hw _ (List.mem_of_getElem? (i := 55) rfl)) e85 (by decide) (by decide) (fun T86 h86 rq X86 e86 ea86 E86 A86 D86 => ?_)
      have t353 := (Nat.le_trans t350 K85.1)
      have t354 := (Keep.trans (Keep.ext t341 E84) K85 (allS (Or.inr gg_ag_) all0))
      have t355 := (Av.keep (Av.ext t342 E84) K85 (ninS t346 nin0))
      have t356 := (Exa.keep (Exa.ext E84 t343) K85)
      have t357 := (Exa.keep A84 K85)
      have t358 := (Av.keep (Av.ext t344 E84) K85 (ninS t348 nin0))
      have t359 := (Exa.keep (Exa.ext E84 t345) K85)
      have g_rq : n0 ≤ rq := ea86 ▸ t353
      have gg_rq : h0.size ≤ rq := ea86 ▸ t354.1
      have t360 : aD ≠ rq := ea86 ▸ Nat.ne_of_lt (t355.lt)
      have t361 : aL ≠ rq := ea86 ▸ Nat.ne_of_lt (t356.lt)
      have t362 : ag_ ≠ rq := ea86 ▸ Nat.ne_of_lt (t357.lt)
      have t363 : eL ≠ rq := ea86 ▸ Nat.ne_of_lt (t358.lt)
      have t364 : el ≠ rq := ea86 ▸ Nat.ne_of_lt (t359.lt)
      have D86_0 : Fld Z h86 rq "com/example/growshrink/growshrink/engine/TransactionRecord$Request" "item" "Ljava/lang/String;" (.null) := D86 (Or.inr (hw _ (List.mem_of_getElem? (i := 66) rfl))) (ty := (.object "java/lang/String")) (by decide)
      have D86_1 : Fld Z h86 rq "com/example/growshrink/growshrink/engine/TransactionRecord$Request" "mode" "Lcom/example/growshrink/growshrink/model/LockMode;" (.null) := D86 (Or.inr (hw _ (List.mem_of_getElem? (i := 68) rfl))) (ty := (.object "com/example/growshrink/growshrink/model/LockMode")) (by decide)
      refine g_dup X86 B at_55 56 rfl rfl ?_
      refine g_aconstNull X86 B at_56 57 rfl ?_
      refine g_aconstNull X86 B at_57 58 rfl ?_
      have t365 := (Nat.le_trans t353 E86.1)
      refine g_callN X86 B [.null, .null] [.ref rq] at_58 61 rfl rfl rfl (hw _ (List.mem_of_getElem? (i := 56) rfl)) (hw _ (List.mem_of_getElem? (i := 57) rfl)) (hw _ (List.mem_of_getElem? (i := 58) rfl)) (hw _ (List.mem_of_getElem? (i := 55) rfl)) (by decide) (lenOf pd_7 rfl) (rm7 l Z ag hw rq h86 n0 t365 g_rq A86 D86_0 D86_1) e86 rfl 1 (Nat.le_of_eq rfl) (by decide) (by decide) (by decide) (by decide) (fun v87 T87 h87 L87 X87 e87 q87 => ?_)
      obtain ⟨rfl, N87, K87⟩ := q87
      show Go p e below _ (T87.setTop (mkF m 61 #[.val (.int p0), .val (.int p1), .val (.long p2), .second, .val (.int (3 : Int32)), .val (.int (0 : Int32)), .val (.ref el), .val (.ref ag_), .unset, .unset, .unset, .unset] [.ref rq]))
      refine g_astore X87 B #[.val (.int p0), .val (.int p1), .val (.long p2), .second, .val (.int (3 : Int32)), .val (.int (0 : Int32)), .val (.ref el), .val (.ref ag_), .val (.ref rq), .unset, .unset, .unset] at_61 63 rfl rfl rfl ?_
      refine g_aload X87 B at_63 65 rfl rfl rfl ?_
      refine g_aload X87 B at_65 67 rfl rfl rfl ?_
      have t366 := (Nat.le_trans t365 K87.1)
      have t367 := (Exa.keep (Exa.ext E86 t359) K87)
      have t368 := (Exa.keep (Exa.ext E86 t357) K87)
      have t369 := (Fld.keep (Fld.ext E86 (Fld.keep (Fld.ext E84 f1_el) K85 (ninS t349 nin0))) K87 (ninS t364 nin0))
      have t370 := (Fld.keep (Fld.ext E86 f2_ag_) K87 (ninS t362 nin0))
      have t371 := (Fld.keep (Fld.ext E86 f3_ag_) K87 (ninS t362 nin0))
      have t372 := (Exa.keep (Exa.ext E86 t356) K87)
      have t373 := (Fld.keep (Fld.ext E86 (Fld.keep (Fld.ext E84 (Fld.keep (Fld.ext E82 FL) K83 (ninS t335 nin0))) K85 (ninS t347 nin0))) K87 (ninS t361 nin0))
      have t374 := (Av.keep (Av.ext t358 E86) K87 (ninS t363 nin0))
      have t375 := (Av.keep (Av.ext t355 E86) K87 (ninS t360 nin0))
      have t376 := (own_stkw (Sta.ext E86 (own_stkw (Sta.ext E84 (own_stkw (Sta.ext E82 SD) K83 (own_plE A82 own_pl0))) K85 (own_plE A84 own_pl0))) K87 (own_plE A86 own_pl0))
      refine g_callV X87 B [.ref ag_] [] at_67 70 rfl rfl (hw _ (List.mem_of_getElem? (i := 69) rfl)) (hw _ (List.mem_of_getElem? (i := 70) rfl)) (hw _ (List.mem_of_getElem? (i := 72) rfl)) (hw _ (List.mem_of_getElem? (i := 71) rfl)) (hw _ (List.mem_of_getElem? (i := 2) rfl)) (hw _ (List.mem_of_getElem? (i := 73) rfl)) (by decide) (lenOf pd_9 rfl) t367 (rm9 l Z ag hw el ag_ aL aD eL 0 .null h87 n0 t366 g_el g_ag_ t349 t367 t368 t369 t370 t371 t372 t373 t374 t375 t376) e87 rfl 0 (Nat.le_of_eq rfl) (by decide) (by decide) (by decide) (by decide) (fun v88 T88 h88 L88 X88 e88 q88 => ?_)
      obtain ⟨ls, ar, y1, rfl, N88, K88, s1, EL1, s2, s3, s4, s5, s6, s7, gl, gr⟩ := q88
      show Go p e below _ (T88.setTop (mkF m 70 #[.val (.int p0), .val (.int p1), .val (.long p2), .second, .val (.int (3 : Int32)), .val (.int (0 : Int32)), .val (.ref el), .val (.ref ag_), .val (.ref rq), .unset, .unset, .unset] []))
      rw [show ((0 : Int32) + 1) = 1 by decide] at s6
      obtain ⟨vz1, Az1, -⟩ := id s3
      have Ay1 := Az1.av
      refine g_iload X88 B at_70 72 rfl rfl ?_
      refine g_iconst X88 B (2) at_72 73 rfl rfl ?_
      refine g_icmp_lt X88 B at_73 83 76 rfl (by decide) rfl (fun z => own_abs' (by decide) z) (fun _ => ?_)
      refine g_aload X88 B at_76 78 rfl rfl rfl ?_
      refine g_aload X88 B at_78 80 rfl rfl rfl ?_
      have t377 := (Nat.le_trans t366 K88.1)
      have t378 := (Exa.keep t367 K88)
      have t379 := (Exa.keep t368 K88)
      refine g_callV X88 B [.ref ag_] [] at_80 83 rfl rfl (hw _ (List.mem_of_getElem? (i := 69) rfl)) (hw _ (List.mem_of_getElem? (i := 70) rfl)) (hw _ (List.mem_of_getElem? (i := 72) rfl)) (hw _ (List.mem_of_getElem? (i := 71) rfl)) (hw _ (List.mem_of_getElem? (i := 2) rfl)) (hw _ (List.mem_of_getElem? (i := 73) rfl)) (by decide) (lenOf pd_9 rfl) t378 (rn9 l Z ag hw el ag_ ls ar 1 _ 1 1 .null h88 n0 t377 g_el g_ag_ gl gr t349 t378 t379 s1 s6 s7 ⟨EL1, s2, s3, s4, s5⟩ (by decide) (by decide) (by decide) (by decide) (by decide)) e88 rfl 0 (Nat.le_of_eq rfl) (by decide) (by decide) (by decide) (by decide) (fun v89 T89 h89 L89 X89 e89 q89 => ?_)
      obtain ⟨y2, rfl, N89, K89, EL2, u2_2, u3_2, u4_2, u5_2, u6_2, u7_2⟩ := q89
      show Go p e below _ (T89.setTop (mkF m 83 #[.val (.int p0), .val (.int p1), .val (.long p2), .second, .val (.int (3 : Int32)), .val (.int (0 : Int32)), .val (.ref el), .val (.ref ag_), .val (.ref rq), .unset, .unset, .unset] []))
      rw [show ((1 : Int32) + 1) = 2 by decide] at u4_2 u6_2
      obtain ⟨vz2, Az2, -⟩ := id u3_2
      have Ay2 := Az2.av
      refine g_iload X89 B at_83 85 rfl rfl ?_
      refine g_iconst X89 B (3) at_85 86 rfl rfl ?_
      refine g_icmp_lt X89 B at_86 96 89 rfl (by decide) rfl (fun z => own_abs' (by decide) z) (fun _ => ?_)
      refine g_aload X89 B at_89 91 rfl rfl rfl ?_
      refine g_aload X89 B at_91 93 rfl rfl rfl ?_
      have t380 := (Nat.le_trans t377 K89.1)
      have t381 := (Exa.keep t378 K89)
      have t382 := (Exa.keep t379 K89)
      have t383 : el ≠ ar := own_neAv t381 (hw _ (List.mem_of_getElem? (i := 1) rfl)) Ay2
      have t384 : el ≠ ls := ne_exa t381 EL2 (by decide)
      have t385 := (Fld.keep s1 K89 (ninS t349 (ninS t384 (ninS t383 nin0))))
      refine g_callV X89 B [.ref ag_] [] at_93 96 rfl rfl (hw _ (List.mem_of_getElem? (i := 69) rfl)) (hw _ (List.mem_of_getElem? (i := 70) rfl)) (hw _ (List.mem_of_getElem? (i := 72) rfl)) (hw _ (List.mem_of_getElem? (i := 71) rfl)) (hw _ (List.mem_of_getElem? (i := 2) rfl)) (hw _ (List.mem_of_getElem? (i := 73) rfl)) (by decide) (lenOf pd_9 rfl) t381 (rn9 l Z ag hw el ag_ ls ar 2 _ 2 2 .null h89 n0 t380 g_el g_ag_ gl gr t349 t381 t382 t385 u6_2 u7_2 ⟨EL2, u2_2, u3_2, u4_2, u5_2⟩ (by decide) (by decide) (by decide) (by decide) (by decide)) e89 rfl 0 (Nat.le_of_eq rfl) (by decide) (by decide) (by decide) (by decide) (fun v90 T90 h90 L90 X90 e90 q90 => ?_)
      obtain ⟨y3, rfl, N90, K90, EL3, u2_3, u3_3, u4_3, u5_3, u6_3, u7_3⟩ := q90
      show Go p e below _ (T90.setTop (mkF m 96 #[.val (.int p0), .val (.int p1), .val (.long p2), .second, .val (.int (3 : Int32)), .val (.int (0 : Int32)), .val (.ref el), .val (.ref ag_), .val (.ref rq), .unset, .unset, .unset] []))
      rw [show ((2 : Int32) + 1) = 3 by decide] at u4_3 u6_3
      obtain ⟨vz3, Az3, -⟩ := id u3_3
      have Ay3 := Az3.av
      refine g_iload X90 B at_96 98 rfl rfl ?_
      refine g_if_eq X90 B at_98 108 101 rfl (by decide) rfl (fun _ => ?_) (fun z => own_abs (by decide) z)
      refine g_iconst X90 B (1) at_108 109 rfl rfl ?_
      refine g_istore X90 B #[.val (.int p0), .val (.int p1), .val (.long p2), .second, .val (.int (3 : Int32)), .val (.int (0 : Int32)), .val (.ref el), .val (.ref ag_), .val (.ref rq), .val (.int (1 : Int32)), .unset, .unset] at_109 111 rfl rfl ?_
      refine g_aload X90 B at_111 113 rfl rfl rfl ?_
      have t386 := (Nat.le_trans t380 K90.1)
      have t387 := (Exa.keep t382 K90)
      refine g_callV X90 B [] [] at_113 116 rfl rfl (hw _ (List.mem_of_getElem? (i := 130) rfl)) (hw _ (List.mem_of_getElem? (i := 131) rfl)) (hw _ (List.mem_of_getElem? (i := 133) rfl)) (hw _ (List.mem_of_getElem? (i := 132) rfl)) (hw _ (List.mem_of_getElem? (i := 2) rfl)) (hw _ (List.mem_of_getElem? (i := 134) rfl)) (by decide) (lenOf pd_18 rfl) t387 (rm18 l Z ag hw ag_ 3 (.null) rfl h90 n0 t386 g_ag_ t387 u6_3 u7_3) e90 rfl 0 (Nat.le_of_eq rfl) (by decide) (by decide) (by decide) (by decide) (fun v91 T91 h91 L91 X91 e91 q91 => ?_)
      obtain ⟨rfl, N91, W91⟩ := q91
      show Go p e below _ (T91.setTop (mkF m 116 #[.val (.int p0), .val (.int p1), .val (.long p2), .second, .val (.int (3 : Int32)), .val (.int (0 : Int32)), .val (.ref el), .val (.ref ag_), .val (.ref rq), .val (.int (1 : Int32)), .unset, .unset] [.int (own_ee 3 (.null))]))
      rw [show own_ee 3 (.null) = 0 by simp [own_ee]]
      rw [show ((3 : Int32) - 1) = 2 by decide] at W91
      have F91 := u6_3.same W91
      refine g_istore X91 B #[.val (.int p0), .val (.int p1), .val (.long p2), .second, .val (.int (3 : Int32)), .val (.int (0 : Int32)), .val (.ref el), .val (.ref ag_), .val (.ref rq), .val (.int (1 : Int32)), .val (.int (0 : Int32)), .unset] at_116 118 rfl rfl ?_
      refine g_iload X91 B at_118 120 rfl rfl ?_
      refine g_iload X91 B at_120 122 rfl rfl ?_
      refine g_iload X91 B at_122 124 rfl rfl ?_
      refine g_iconst X91 B (1) at_124 125 rfl rfl ?_
      refine g_icmp_ne X91 B at_125 137 128 rfl (by decide) rfl (fun _ => ?_) (fun z => own_abs' (by decide) z)
      refine g_iconst X91 B (0) at_137 138 rfl rfl ?_
      refine g_icmp_ne X91 B at_138 145 141 rfl (by decide) rfl (fun z => own_abs (by decide) z) (fun _ => ?_)
      refine g_iconst X91 B (1) at_141 142 rfl rfl ?_
      refine g_goto X91 B at_142 146 rfl (by decide) ?_
      refine g_iand X91 B at_146 147 rfl ?_
      rw [show ((1 : Int32) &&& (1 : Int32)) = 1 by decide]
      refine g_istore X91 B #[.val (.int p0), .val (.int p1), .val (.long p2), .second, .val (.int (3 : Int32)), .val (.int (0 : Int32)), .val (.ref el), .val (.ref ag_), .val (.ref rq), .val (.int (1 : Int32)), .val (.int (0 : Int32)), .unset] at_147 149 rfl rfl ?_
      refine g_iload X91 B at_149 151 rfl rfl ?_
      refine g_aload X91 B at_151 153 rfl rfl rfl ?_
      have t388 := (Exa.wr W91 t387)
      refine g_callV X91 B [] [.int (1 : Int32)] at_153 156 rfl rfl (hw _ (List.mem_of_getElem? (i := 135) rfl)) (hw _ (List.mem_of_getElem? (i := 136) rfl)) (hw _ (List.mem_of_getElem? (i := 138) rfl)) (hw _ (List.mem_of_getElem? (i := 137) rfl)) (hw _ (List.mem_of_getElem? (i := 2) rfl)) (hw _ (List.mem_of_getElem? (i := 139) rfl)) (by decide) (lenOf pd_19 rfl) t388 (rm19 l Z ag hw ag_ 2 h91 n0 F91) e91 rfl 1 (Nat.le_of_eq rfl) (by decide) (by decide) (by decide) (by decide) (fun v92 T92 h92 L92 X92 e92 q92 => ?_)
      obtain ⟨rfl, N92, rfl⟩ := q92
      show Go p e below _ (T92.setTop (mkF m 156 #[.val (.int p0), .val (.int p1), .val (.long p2), .second, .val (.int (3 : Int32)), .val (.int (0 : Int32)), .val (.ref el), .val (.ref ag_), .val (.ref rq), .val (.int (1 : Int32)), .val (.int (0 : Int32)), .unset] [.int (if (0 : Int32) < 2 then 1 else 0), .int (1 : Int32)]))
      rw [show (if (0 : Int32) < 2 then (1 : Int32) else 0) = 1 by decide]
      refine g_iload X92 B at_156 158 rfl rfl ?_
      refine g_iconst X92 B (1) at_158 159 rfl rfl ?_
      refine g_icmp_le X92 B at_159 166 162 rfl (by decide) rfl (fun z => own_abs (by decide) z) (fun _ => ?_)
      refine g_iconst X92 B (1) at_162 163 rfl rfl ?_
      refine g_goto X92 B at_163 167 rfl (by decide) ?_
      refine g_icmp_ne X92 B at_167 174 170 rfl (by decide) rfl (fun z => own_abs (by decide) z) (fun _ => ?_)
      refine g_iconst X92 B (1) at_170 171 rfl rfl ?_
      refine g_goto X92 B at_171 175 rfl (by decide) ?_
      refine g_iand X92 B at_175 176 rfl ?_
      rw [show ((1 : Int32) &&& (1 : Int32)) = 1 by decide]
      refine g_istore X92 B #[.val (.int p0), .val (.int p1), .val (.long p2), .second, .val (.int (3 : Int32)), .val (.int (0 : Int32)), .val (.ref el), .val (.ref ag_), .val (.ref rq), .val (.int (1 : Int32)), .val (.int (0 : Int32)), .unset] at_176 178 rfl rfl ?_
      refine g_iload X92 B at_178 180 rfl rfl ?_
      refine g_iconst X92 B (2) at_180 181 rfl rfl ?_
      refine g_icmp_lt X92 B at_181 251 184 rfl (by decide) rfl (fun z => own_abs' (by decide) z) (fun _ => ?_)
      refine g_aload X92 B at_184 186 rfl rfl rfl ?_
      have t389 := (Nat.le_trans t386 (Nat.le_of_eq W91.size.symm))
      have t390 := (Fld.other W91 u7_3 (Or.inr (slot_ne (Or.inl (hw _ (List.mem_of_getElem? (i := 146) rfl))) (Or.inl (hw _ (List.mem_of_getElem? (i := 124) rfl))) (by decide) (t := (.object "com/example/growshrink/growshrink/engine/TransactionRecord$Request")) (by decide) (t' := .int) (by decide))))
      refine g_callV X92 B [] [] at_186 189 rfl rfl (hw _ (List.mem_of_getElem? (i := 130) rfl)) (hw _ (List.mem_of_getElem? (i := 131) rfl)) (hw _ (List.mem_of_getElem? (i := 133) rfl)) (hw _ (List.mem_of_getElem? (i := 132) rfl)) (hw _ (List.mem_of_getElem? (i := 2) rfl)) (hw _ (List.mem_of_getElem? (i := 134) rfl)) (by decide) (lenOf pd_18 rfl) t388 (rm18 l Z ag hw ag_ 2 (.null) rfl h91 n0 t389 g_ag_ t388 F91 t390) e92 rfl 0 (Nat.le_of_eq rfl) (by decide) (by decide) (by decide) (by decide) (fun v93 T93 h93 L93 X93 e93 q93 => ?_)
      obtain ⟨rfl, N93, W93⟩ := q93
      show Go p e below _ (T93.setTop (mkF m 189 #[.val (.int p0), .val (.int p1), .val (.long p2), .second, .val (.int (3 : Int32)), .val (.int (0 : Int32)), .val (.ref el), .val (.ref ag_), .val (.ref rq), .val (.int (1 : Int32)), .val (.int (0 : Int32)), .unset] [.int (own_ee 2 (.null))]))
      rw [show own_ee 2 (.null) = 0 by simp [own_ee]]
      rw [show ((2 : Int32) - 1) = 1 by decide] at W93
      have F93 := F91.same W93
      refine g_istore X93 B #[.val (.int p0), .val (.int p1), .val (.long p2), .second, .val (.int (3 : Int32)), .val (.int (0 : Int32)), .val (.ref el), .val (.ref ag_), .val (.ref rq), .val (.int (1 : Int32)), .val (.int (0 : Int32)), .val (.int (0 : Int32))] at_189 191 rfl rfl ?_
      refine g_iload X93 B at_191 193 rfl rfl ?_
      refine g_iload X93 B at_193 195 rfl rfl ?_
      refine g_iload X93 B at_195 197 rfl rfl ?_
      refine g_iconst X93 B (2) at_197 198 rfl rfl ?_
      refine g_icmp_ne X93 B at_198 210 201 rfl (by decide) rfl (fun _ => ?_) (fun z => own_abs' (by decide) z)
      refine g_iconst X93 B (0) at_210 211 rfl rfl ?_
      refine g_icmp_ne X93 B at_211 218 214 rfl (by decide) rfl (fun z => own_abs (by decide) z) (fun _ => ?_)
      refine g_iconst X93 B (1) at_214 215 rfl rfl ?_
      refine g_goto X93 B at_215 219 rfl (by decide) ?_
      refine g_iand X93 B at_219 220 rfl ?_
      rw [show ((1 : Int32) &&& (1 : Int32)) = 1 by decide]
      refine g_istore X93 B #[.val (.int p0), .val (.int p1), .val (.long p2), .second, .val (.int (3 : Int32)), .val (.int (0 : Int32)), .val (.ref el), .val (.ref ag_), .val (.ref rq), .val (.int (1 : Int32)), .val (.int (0 : Int32)), .val (.int (0 : Int32))] at_220 222 rfl rfl ?_
      refine g_iload X93 B at_222 224 rfl rfl ?_
      refine g_aload X93 B at_224 226 rfl rfl rfl ?_
      have t391 := (Exa.wr W93 t388)
      refine g_callV X93 B [] [.int (1 : Int32)] at_226 229 rfl rfl (hw _ (List.mem_of_getElem? (i := 135) rfl)) (hw _ (List.mem_of_getElem? (i := 136) rfl)) (hw _ (List.mem_of_getElem? (i := 138) rfl)) (hw _ (List.mem_of_getElem? (i := 137) rfl)) (hw _ (List.mem_of_getElem? (i := 2) rfl)) (hw _ (List.mem_of_getElem? (i := 139) rfl)) (by decide) (lenOf pd_19 rfl) t391 (rm19 l Z ag hw ag_ 1 h93 n0 F93) e93 rfl 1 (Nat.le_of_eq rfl) (by decide) (by decide) (by decide) (by decide) (fun v94 T94 h94 L94 X94 e94 q94 => ?_)
      obtain ⟨rfl, N94, rfl⟩ := q94
      show Go p e below _ (T94.setTop (mkF m 229 #[.val (.int p0), .val (.int p1), .val (.long p2), .second, .val (.int (3 : Int32)), .val (.int (0 : Int32)), .val (.ref el), .val (.ref ag_), .val (.ref rq), .val (.int (1 : Int32)), .val (.int (0 : Int32)), .val (.int (0 : Int32))] [.int (if (0 : Int32) < 1 then 1 else 0), .int (1 : Int32)]))
      rw [show (if (0 : Int32) < 1 then (1 : Int32) else 0) = 1 by decide]
      refine g_iload X94 B at_229 231 rfl rfl ?_
      refine g_iconst X94 B (2) at_231 232 rfl rfl ?_
      refine g_icmp_le X94 B at_232 239 235 rfl (by decide) rfl (fun z => own_abs (by decide) z) (fun _ => ?_)
      refine g_iconst X94 B (1) at_235 236 rfl rfl ?_
      refine g_goto X94 B at_236 240 rfl (by decide) ?_
      refine g_icmp_ne X94 B at_240 247 243 rfl (by decide) rfl (fun z => own_abs (by decide) z) (fun _ => ?_)
      refine g_iconst X94 B (1) at_243 244 rfl rfl ?_
      refine g_goto X94 B at_244 248 rfl (by decide) ?_
      refine g_iand X94 B at_248 249 rfl ?_
      rw [show ((1 : Int32) &&& (1 : Int32)) = 1 by decide]
      refine g_istore X94 B #[.val (.int p0), .val (.int p1), .val (.long p2), .second, .val (.int (3 : Int32)), .val (.int (0 : Int32)), .val (.ref el), .val (.ref ag_), .val (.ref rq), .val (.int (1 : Int32)), .val (.int (0 : Int32)), .val (.int (0 : Int32))] at_249 251 rfl rfl ?_
      refine g_iload X94 B at_251 253 rfl rfl ?_
      refine g_aload X94 B at_253 255 rfl rfl rfl ?_
      have t392 := (Nat.le_trans t389 (Nat.le_of_eq W93.size.symm))
      have t393 := (Fld.other W93 t390 (Or.inr (slot_ne (Or.inl (hw _ (List.mem_of_getElem? (i := 146) rfl))) (Or.inl (hw _ (List.mem_of_getElem? (i := 124) rfl))) (by decide) (t := (.object "com/example/growshrink/growshrink/engine/TransactionRecord$Request")) (by decide) (t' := .int) (by decide))))
      refine g_callV X94 B [] [.int (1 : Int32)] at_255 258 rfl rfl (hw _ (List.mem_of_getElem? (i := 140) rfl)) (hw _ (List.mem_of_getElem? (i := 141) rfl)) (hw _ (List.mem_of_getElem? (i := 143) rfl)) (hw _ (List.mem_of_getElem? (i := 142) rfl)) (hw _ (List.mem_of_getElem? (i := 2) rfl)) (hw _ (List.mem_of_getElem? (i := 144) rfl)) (by decide) (lenOf pd_20 rfl) t391 (rm20 l Z ag hw ag_ (.null) rfl h93 n0 t392 g_ag_ t391 t393) e94 rfl 1 (Nat.le_of_eq rfl) (by decide) (by decide) (by decide) (by decide) (fun v95 T95 h95 L95 X95 e95 q95 => ?_)
      obtain ⟨rfl, N95, K95⟩ := q95
      show Go p e below _ (T95.setTop (mkF m 258 #[.val (.int p0), .val (.int p1), .val (.long p2), .second, .val (.int (3 : Int32)), .val (.int (0 : Int32)), .val (.ref el), .val (.ref ag_), .val (.ref rq), .val (.int (1 : Int32)), .val (.int (0 : Int32)), .val (.int (0 : Int32))] [.null, .int (1 : Int32)]))
      refine g_iload X95 B at_258 260 rfl rfl ?_
      refine g_if_eq X95 B at_260 268 263 rfl (by decide) rfl (fun _ => ?_) (fun z => own_abs (by decide) z)
      refine g_aconstNull X95 B at_268 269 rfl ?_
      refine g_acmp_ne X95 B at_269 276 272 rfl (by decide) rfl rfl rfl (fun z => own_abs (rfl) z) (fun _ => ?_)
      refine g_iconst X95 B (1) at_272 273 rfl rfl ?_
      refine g_goto X95 B at_273 277 rfl (by decide) ?_
      refine g_iand X95 B at_277 278 rfl ?_
      rw [show ((1 : Int32) &&& (1 : Int32)) = 1 by decide]
      refine g_istore X95 B #[.val (.int p0), .val (.int p1), .val (.long p2), .second, .val (.int (3 : Int32)), .val (.int (0 : Int32)), .val (.ref el), .val (.ref ag_), .val (.ref rq), .val (.int (1 : Int32)), .val (.int (0 : Int32)), .val (.int (0 : Int32))] at_278 280 rfl rfl ?_
      refine g_iload X95 B at_280 282 rfl rfl ?_
      exact g_retN X95 B at_282 rfl rfl (by decide) (by decide) (by decide) e95 ⟨rfl, ((((((((((((Fr.nil n0).app N83).app N85).app N87).app N88).app N89).app N90).app N91).app N92).app N93).app N94).app N95)⟩
    · skip
      refine g_iconst X0 B (1) at_21 22 rfl rfl ?_
      refine g_goto X0 B at_22 26 rfl (by decide) ?_
      refine g_istore X0 B #[.val (.int p0), .val (.int p1), .val (.long p2), .second, .val (.int (3 : Int32)), .val (.int (1 : Int32)), .unset, .unset, .unset, .unset, .unset, .unset] at_26 28 rfl rfl ?_
      refine g_new X0 B at_28 31 rfl (hw _ (List.mem_of_getElem? (i := 0) rfl)) (hw _ (List.mem_of_getElem? (i := 1) rfl)) (hw _ (List.mem_of_getElem? (i := 2) rfl)) e0 (by decide) (by decide) (fun T96 h96 el X96 e96 ea96 E96 A96 D96 => ?_)
      have g_el : n0 ≤ el := ea96 ▸ Z0
      have gg_el : h0.size ≤ el := ea96 ▸ (Keep.refl h0 []).1
      have t394 : aD ≠ el := ea96 ▸ Nat.ne_of_lt (AD.lt)
      have t395 : aL ≠ el := ea96 ▸ Nat.ne_of_lt (EL.lt)
      have t396 : eL ≠ el := ea96 ▸ Nat.ne_of_lt (AL0.lt)
      have D96_0 : Fld Z h96 el "com/example/growshrink/growshrink/engine/TransactionRecord" "locked" "Ljava/util/List;" (.null) := D96 (Or.inr (hw _ (List.mem_of_getElem? (i := 35) rfl))) (ty := (.object "java/util/List")) (by decide)
      have D96_1 : Fld Z h96 el "com/example/growshrink/growshrink/engine/TransactionRecord" "stage" "Lcom/example/growshrink/growshrink/model/TransactionState;" (.null) := D96 (Or.inl (hw _ (List.mem_of_getElem? (i := 40) rfl))) (ty := (.object "com/example/growshrink/growshrink/model/TransactionState")) (by decide)
      have D96_2 : Fld Z h96 el "com/example/growshrink/growshrink/engine/TransactionRecord" "heldBack" "Ljava/util/List;" (.null) := D96 (Or.inl (hw _ (List.mem_of_getElem? (i := 48) rfl))) (ty := (.object "java/util/List")) (by decide)
      have D96_3 : Fld Z h96 el "com/example/growshrink/growshrink/engine/TransactionRecord" "id" "I" (.int 0) := D96 (Or.inr (hw _ (List.mem_of_getElem? (i := 50) rfl))) (ty := .int) (by decide)
      have D96_4 : Fld Z h96 el "com/example/growshrink/growshrink/engine/TransactionRecord" "timestamp" "J" (.long 0) := D96 (Or.inr (hw _ (List.mem_of_getElem? (i := 52) rfl))) (ty := .long) (by decide)
      have D96_5 : Fld Z h96 el "com/example/growshrink/growshrink/engine/TransactionRecord" "eldersLeft" "I" (.int 0) := D96 (Or.inl (hw _ (List.mem_of_getElem? (i := 124) rfl))) (ty := .int) (by decide)
      have D96_6 : Fld Z h96 el "com/example/growshrink/growshrink/engine/TransactionRecord" "held" "Lcom/example/growshrink/growshrink/engine/TransactionRecord$Request;" (.null) := D96 (Or.inl (hw _ (List.mem_of_getElem? (i := 146) rfl))) (ty := (.object "com/example/growshrink/growshrink/engine/TransactionRecord$Request")) (by decide)
      refine g_dup X96 B at_31 32 rfl rfl ?_
      refine g_iloadN X96 B at_32 33 rfl rfl ?_
      refine g_iconst X96 B (1) at_33 34 rfl rfl ?_
      refine g_ixor X96 B at_34 35 rfl ?_
      refine g_lloadN X96 B at_35 36 rfl rfl ?_
      have t397 := (Nat.le_trans Z0 E96.1)
      have t398 := (Sta.ext E96 SA)
      have t399 := (Sta.ext E96 SL)
      refine g_callN X96 B [.int (p1 ^^^ (1 : Int32)), .long p2] [.ref el] at_36 39 rfl rfl rfl (hw _ (List.mem_of_getElem? (i := 3) rfl)) (hw _ (List.mem_of_getElem? (i := 4) rfl)) (hw _ (List.mem_of_getElem? (i := 5) rfl)) (hw _ (List.mem_of_getElem? (i := 2) rfl)) (by decide) (lenOf pd_1 rfl) (rm1 l Z ag hw el aA aL (p1 ^^^ (1 : Int32)) p2 h96 n0 t397 g_el A96 D96_0 D96_1 D96_2 D96_3 D96_4 D96_5 D96_6 t398 t399) e96 rfl 1 (Nat.le_of_eq rfl) (by decide) (by decide) (by decide) (by decide) (fun v97 T97 h97 L97 X97 e97 q97 => ?_)
      obtain ⟨rfl, N97, K97, f1_el, f2_el, f3_el⟩ := q97
      show Go p e below _ (T97.setTop (mkF m 39 #[.val (.int p0), .val (.int p1), .val (.long p2), .second, .val (.int (3 : Int32)), .val (.int (1 : Int32)), .unset, .unset, .unset, .unset, .unset, .unset] [.ref el]))
      refine g_astore X97 B #[.val (.int p0), .val (.int p1), .val (.long p2), .second, .val (.int (3 : Int32)), .val (.int (1 : Int32)), .val (.ref el), .unset, .unset, .unset, .unset, .unset] at_39 41 rfl rfl rfl ?_
      refine g_new X97 B at_41 44 rfl (hw _ (List.mem_of_getElem? (i := 0) rfl)) (hw _ (List.mem_of_getElem? (i := 1) rfl)) (hw _ (List.mem_of_getElem? (i := 2) rfl)) e97 (by decide) (by decide) (fun T98 h98 ag_ X98 e98 ea98 E98 A98 D98 => ?_)
      have t400 := (Nat.le_trans t397 K97.1)
      have t401 := (Keep.trans (Keep.ext (Keep.refl h0 []) E96) K97 (allS (Or.inr gg_el) all0))
      have t402 := (Av.keep (Av.ext AD E96) K97 (ninS t394 nin0))
      have t403 := (Exa.keep (Exa.ext E96 EL) K97)
      have t404 := (Av.keep (Av.ext AL0 E96) K97 (ninS t396 nin0))
      have t405 := (Exa.keep A96 K97)
      have g_ag_ : n0 ≤ ag_ := ea98 ▸ t400
      have gg_ag_ : h0.size ≤ ag_ := ea98 ▸ t401.1
      have t406 : aD ≠ ag_ := ea98 ▸ Nat.ne_of_lt (t402.lt)
      have t407 : aL ≠ ag_ := ea98 ▸ Nat.ne_of_lt (t403.lt)
      have t408 : eL ≠ ag_ := ea98 ▸ Nat.ne_of_lt (t404.lt)
      have t409 : el ≠ ag_ := ea98 ▸ Nat.ne_of_lt (t405.lt)
      have D98_0 : Fld Z h98 ag_ "com/example/growshrink/growshrink/engine/TransactionRecord" "locked" "Ljava/util/List;" (.null) := D98 (Or.inr (hw _ (List.mem_of_getElem? (i := 35) rfl))) (ty := (.object "java/util/List")) (by decide)
      have D98_1 : Fld Z h98 ag_ "com/example/growshrink/growshrink/engine/TransactionRecord" "stage" "Lcom/example/growshrink/growshrink/model/TransactionState;" (.null) := D98 (Or.inl (hw _ (List.mem_of_getElem? (i := 40) rfl))) (ty := (.object "com/example/growshrink/growshrink/model/TransactionState")) (by decide)
      have D98_2 : Fld Z h98 ag_ "com/example/growshrink/growshrink/engine/TransactionRecord" "heldBack" "Ljava/util/List;" (.null) := D98 (Or.inl (hw _ (List.mem_of_getElem? (i := 48) rfl))) (ty := (.object "java/util/List")) (by decide)
      have D98_3 : Fld Z h98 ag_ "com/example/growshrink/growshrink/engine/TransactionRecord" "id" "I" (.int 0) := D98 (Or.inr (hw _ (List.mem_of_getElem? (i := 50) rfl))) (ty := .int) (by decide)
      have D98_4 : Fld Z h98 ag_ "com/example/growshrink/growshrink/engine/TransactionRecord" "timestamp" "J" (.long 0) := D98 (Or.inr (hw _ (List.mem_of_getElem? (i := 52) rfl))) (ty := .long) (by decide)
      have D98_5 : Fld Z h98 ag_ "com/example/growshrink/growshrink/engine/TransactionRecord" "eldersLeft" "I" (.int 0) := D98 (Or.inl (hw _ (List.mem_of_getElem? (i := 124) rfl))) (ty := .int) (by decide)
      have D98_6 : Fld Z h98 ag_ "com/example/growshrink/growshrink/engine/TransactionRecord" "held" "Lcom/example/growshrink/growshrink/engine/TransactionRecord$Request;" (.null) := D98 (Or.inl (hw _ (List.mem_of_getElem? (i := 146) rfl))) (ty := (.object "com/example/growshrink/growshrink/engine/TransactionRecord$Request")) (by decide)
      refine g_dup X98 B at_44 45 rfl rfl ?_
      refine g_iloadN X98 B at_45 46 rfl rfl ?_
      refine g_lloadN X98 B at_46 47 rfl rfl ?_
      have t410 := (Nat.le_trans t400 E98.1)
      have t411 := (Sta.ext E98 (own_stkw t398 K97 (own_plE A96 own_pl0)))
      have t412 := (Sta.ext E98 (own_stkw t399 K97 (own_plE A96 own_pl0)))
      refine g_callN X98 B [.int p1, .long p2] [.ref ag_] at_47 50 rfl rfl rfl (hw _ (List.mem_of_getElem? (i := 3) rfl)) (hw _ (List.mem_of_getElem? (i := 4) rfl)) (hw _ (List.mem_of_getElem? (i := 5) rfl)) (hw _ (List.mem_of_getElem? (i := 2) rfl)) (by decide) (lenOf pd_1 rfl) (rm1 l Z ag hw ag_ aA aL p1 p2 h98 n0 t410 g_ag_ A98 D98_0 D98_1 D98_2 D98_3 D98_4 D98_5 D98_6 t411 t412) e98 rfl 1 (Nat.le_of_eq rfl) (by decide) (by decide) (by decide) (by decide) (fun v99 T99 h99 L99 X99 e99 q99 => ?_)
      obtain ⟨rfl, N99, K99, f1_ag_, f2_ag_, f3_ag_⟩ := q99
      show Go p e below _ (T99.setTop (mkF m 50 #[.val (.int p0), .val (.int p1), .val (.long p2), .second, .val (.int (3 : Int32)), .val (.int (1 : Int32)), .val (.ref el), .unset, .unset, .unset, .unset, .unset] [.ref ag_]))
      refine g_astore X99 B #[.val (.int p0), .val (.int p1), .val (.long p2), .second, .val (.int (3 : Int32)), .val (.int (1 : Int32)), .val (.ref el), .val (.ref ag_), .unset, .unset, .unset, .unset] at_50 52 rfl rfl rfl ?_
      refine g_new X99 B at_52 55 rfl (hw _ (List.mem_of_getElem? (i := 53) rfl)) (hw _ (List.mem_of_getElem? (i := 54) rfl)) (hw _ (List.mem_of_getElem? (i := 55) rfl)) e99 (by decide) (by decide) (fun T100 h100 rq X100 e100 ea100 E100 A100 D100 => ?_)
      have t413 := (Nat.le_trans t410 K99.1)
      have t414 := (Keep.trans (Keep.ext t401 E98) K99 (allS (Or.inr gg_ag_) all0))
      have t415 := (Av.keep (Av.ext t402 E98) K99 (ninS t406 nin0))
      have t416 := (Exa.keep (Exa.ext E98 t403) K99)
      have t417 := (Exa.keep A98 K99)
      have t418 := (Av.keep (Av.ext t404 E98) K99 (ninS t408 nin0))
      have t419 := (Exa.keep (Exa.ext E98 t405) K99)
      have g_rq : n0 ≤ rq := ea100 ▸ t413
      have gg_rq : h0.size ≤ rq := ea100 ▸ t414.1
      have t420 : aD ≠ rq := ea100 ▸ Nat.ne_of_lt (t415.lt)
      have t421 : aL ≠ rq := ea100 ▸ Nat.ne_of_lt (t416.lt)
      have t422 : ag_ ≠ rq := ea100 ▸ Nat.ne_of_lt (t417.lt)
      have t423 : eL ≠ rq := ea100 ▸ Nat.ne_of_lt (t418.lt)
      have t424 : el ≠ rq := ea100 ▸ Nat.ne_of_lt (t419.lt)
      have D100_0 : Fld Z h100 rq "com/example/growshrink/growshrink/engine/TransactionRecord$Request" "item" "Ljava/lang/String;" (.null) := D100 (Or.inr (hw _ (List.mem_of_getElem? (i := 66) rfl))) (ty := (.object "java/lang/String")) (by decide)
      have D100_1 : Fld Z h100 rq "com/example/growshrink/growshrink/engine/TransactionRecord$Request" "mode" "Lcom/example/growshrink/growshrink/model/LockMode;" (.null) := D100 (Or.inr (hw _ (List.mem_of_getElem? (i := 68) rfl))) (ty := (.object "com/example/growshrink/growshrink/model/LockMode")) (by decide)
      refine g_dup X100 B at_55 56 rfl rfl ?_
      refine g_aconstNull X100 B at_56 57 rfl ?_
      refine g_aconstNull X100 B at_57 58 rfl ?_
      have t425 := (Nat.le_trans t413 E100.1)
      refine g_callN X100 B [.null, .null] [.ref rq] at_58 61 rfl rfl rfl (hw _ (List.mem_of_getElem? (i := 56) rfl)) (hw _ (List.mem_of_getElem? (i := 57) rfl)) (hw _ (List.mem_of_getElem? (i := 58) rfl)) (hw _ (List.mem_of_getElem? (i := 55) rfl)) (by decide) (lenOf pd_7 rfl) (rm7 l Z ag hw rq h100 n0 t425 g_rq A100 D100_0 D100_1) e100 rfl 1 (Nat.le_of_eq rfl) (by decide) (by decide) (by decide) (by decide) (fun v101 T101 h101 L101 X101 e101 q101 => ?_)
      obtain ⟨rfl, N101, K101⟩ := q101
      show Go p e below _ (T101.setTop (mkF m 61 #[.val (.int p0), .val (.int p1), .val (.long p2), .second, .val (.int (3 : Int32)), .val (.int (1 : Int32)), .val (.ref el), .val (.ref ag_), .unset, .unset, .unset, .unset] [.ref rq]))
      refine g_astore X101 B #[.val (.int p0), .val (.int p1), .val (.long p2), .second, .val (.int (3 : Int32)), .val (.int (1 : Int32)), .val (.ref el), .val (.ref ag_), .val (.ref rq), .unset, .unset, .unset] at_61 63 rfl rfl rfl ?_
      refine g_aload X101 B at_63 65 rfl rfl rfl ?_
      refine g_aload X101 B at_65 67 rfl rfl rfl ?_
      have t426 := (Nat.le_trans t425 K101.1)
      have t427 := (Exa.keep (Exa.ext E100 t419) K101)
      have t428 := (Exa.keep (Exa.ext E100 t417) K101)
      have t429 := (Fld.keep (Fld.ext E100 (Fld.keep (Fld.ext E98 f1_el) K99 (ninS t409 nin0))) K101 (ninS t424 nin0))
      have t430 := (Fld.keep (Fld.ext E100 f2_ag_) K101 (ninS t422 nin0))
      have t431 := (Fld.keep (Fld.ext E100 f3_ag_) K101 (ninS t422 nin0))
      have t432 := (Exa.keep (Exa.ext E100 t416) K101)
      have t433 := (Fld.keep (Fld.ext E100 (Fld.keep (Fld.ext E98 (Fld.keep (Fld.ext E96 FL) K97 (ninS t395 nin0))) K99 (ninS t407 nin0))) K101 (ninS t421 nin0))
      have t434 := (Av.keep (Av.ext t418 E100) K101 (ninS t423 nin0))
      have t435 := (Av.keep (Av.ext t415 E100) K101 (ninS t420 nin0))
      have t436 := (own_stkw (Sta.ext E100 (own_stkw (Sta.ext E98 (own_stkw (Sta.ext E96 SD) K97 (own_plE A96 own_pl0))) K99 (own_plE A98 own_pl0))) K101 (own_plE A100 own_pl0))
      refine g_callV X101 B [.ref ag_] [] at_67 70 rfl rfl (hw _ (List.mem_of_getElem? (i := 69) rfl)) (hw _ (List.mem_of_getElem? (i := 70) rfl)) (hw _ (List.mem_of_getElem? (i := 72) rfl)) (hw _ (List.mem_of_getElem? (i := 71) rfl)) (hw _ (List.mem_of_getElem? (i := 2) rfl)) (hw _ (List.mem_of_getElem? (i := 73) rfl)) (by decide) (lenOf pd_9 rfl) t427 (rm9 l Z ag hw el ag_ aL aD eL 0 .null h101 n0 t426 g_el g_ag_ t409 t427 t428 t429 t430 t431 t432 t433 t434 t435 t436) e101 rfl 0 (Nat.le_of_eq rfl) (by decide) (by decide) (by decide) (by decide) (fun v102 T102 h102 L102 X102 e102 q102 => ?_)
      obtain ⟨ls, ar, y1, rfl, N102, K102, s1, EL1, s2, s3, s4, s5, s6, s7, gl, gr⟩ := q102
      show Go p e below _ (T102.setTop (mkF m 70 #[.val (.int p0), .val (.int p1), .val (.long p2), .second, .val (.int (3 : Int32)), .val (.int (1 : Int32)), .val (.ref el), .val (.ref ag_), .val (.ref rq), .unset, .unset, .unset] []))
      rw [show ((0 : Int32) + 1) = 1 by decide] at s6
      obtain ⟨vz1, Az1, -⟩ := id s3
      have Ay1 := Az1.av
      refine g_iload X102 B at_70 72 rfl rfl ?_
      refine g_iconst X102 B (2) at_72 73 rfl rfl ?_
      refine g_icmp_lt X102 B at_73 83 76 rfl (by decide) rfl (fun z => own_abs' (by decide) z) (fun _ => ?_)
      refine g_aload X102 B at_76 78 rfl rfl rfl ?_
      refine g_aload X102 B at_78 80 rfl rfl rfl ?_
      have t437 := (Nat.le_trans t426 K102.1)
      have t438 := (Exa.keep t427 K102)
      have t439 := (Exa.keep t428 K102)
      refine g_callV X102 B [.ref ag_] [] at_80 83 rfl rfl (hw _ (List.mem_of_getElem? (i := 69) rfl)) (hw _ (List.mem_of_getElem? (i := 70) rfl)) (hw _ (List.mem_of_getElem? (i := 72) rfl)) (hw _ (List.mem_of_getElem? (i := 71) rfl)) (hw _ (List.mem_of_getElem? (i := 2) rfl)) (hw _ (List.mem_of_getElem? (i := 73) rfl)) (by decide) (lenOf pd_9 rfl) t438 (rn9 l Z ag hw el ag_ ls ar 1 _ 1 1 .null h102 n0 t437 g_el g_ag_ gl gr t409 t438 t439 s1 s6 s7 ⟨EL1, s2, s3, s4, s5⟩ (by decide) (by decide) (by decide) (by decide) (by decide)) e102 rfl 0 (Nat.le_of_eq rfl) (by decide) (by decide) (by decide) (by decide) (fun v103 T103 h103 L103 X103 e103 q103 => ?_)
      obtain ⟨y2, rfl, N103, K103, EL2, u2_2, u3_2, u4_2, u5_2, u6_2, u7_2⟩ := q103
      show Go p e below _ (T103.setTop (mkF m 83 #[.val (.int p0), .val (.int p1), .val (.long p2), .second, .val (.int (3 : Int32)), .val (.int (1 : Int32)), .val (.ref el), .val (.ref ag_), .val (.ref rq), .unset, .unset, .unset] []))
      rw [show ((1 : Int32) + 1) = 2 by decide] at u4_2 u6_2
      obtain ⟨vz2, Az2, -⟩ := id u3_2
      have Ay2 := Az2.av
      refine g_iload X103 B at_83 85 rfl rfl ?_
      refine g_iconst X103 B (3) at_85 86 rfl rfl ?_
      refine g_icmp_lt X103 B at_86 96 89 rfl (by decide) rfl (fun z => own_abs' (by decide) z) (fun _ => ?_)
      refine g_aload X103 B at_89 91 rfl rfl rfl ?_
      refine g_aload X103 B at_91 93 rfl rfl rfl ?_
      have t440 := (Nat.le_trans t437 K103.1)
      have t441 := (Exa.keep t438 K103)
      have t442 := (Exa.keep t439 K103)
      have t443 : el ≠ ar := own_neAv t441 (hw _ (List.mem_of_getElem? (i := 1) rfl)) Ay2
      have t444 : el ≠ ls := ne_exa t441 EL2 (by decide)
      have t445 := (Fld.keep s1 K103 (ninS t409 (ninS t444 (ninS t443 nin0))))
      refine g_callV X103 B [.ref ag_] [] at_93 96 rfl rfl (hw _ (List.mem_of_getElem? (i := 69) rfl)) (hw _ (List.mem_of_getElem? (i := 70) rfl)) (hw _ (List.mem_of_getElem? (i := 72) rfl)) (hw _ (List.mem_of_getElem? (i := 71) rfl)) (hw _ (List.mem_of_getElem? (i := 2) rfl)) (hw _ (List.mem_of_getElem? (i := 73) rfl)) (by decide) (lenOf pd_9 rfl) t441 (rn9 l Z ag hw el ag_ ls ar 2 _ 2 2 .null h103 n0 t440 g_el g_ag_ gl gr t409 t441 t442 t445 u6_2 u7_2 ⟨EL2, u2_2, u3_2, u4_2, u5_2⟩ (by decide) (by decide) (by decide) (by decide) (by decide)) e103 rfl 0 (Nat.le_of_eq rfl) (by decide) (by decide) (by decide) (by decide) (fun v104 T104 h104 L104 X104 e104 q104 => ?_)
      obtain ⟨y3, rfl, N104, K104, EL3, u2_3, u3_3, u4_3, u5_3, u6_3, u7_3⟩ := q104
      show Go p e below _ (T104.setTop (mkF m 96 #[.val (.int p0), .val (.int p1), .val (.long p2), .second, .val (.int (3 : Int32)), .val (.int (1 : Int32)), .val (.ref el), .val (.ref ag_), .val (.ref rq), .unset, .unset, .unset] []))
      rw [show ((2 : Int32) + 1) = 3 by decide] at u4_3 u6_3
      obtain ⟨vz3, Az3, -⟩ := id u3_3
      have Ay3 := Az3.av
      refine g_iload X104 B at_96 98 rfl rfl ?_
      refine g_if_eq X104 B at_98 108 101 rfl (by decide) rfl (fun z => own_abs' (by decide) z) (fun _ => ?_)
      refine g_aload X104 B at_101 103 rfl rfl rfl ?_
      refine g_aload X104 B at_103 105 rfl rfl rfl ?_
      have t446 := (Nat.le_trans t440 K104.1)
      have t447 := (Exa.keep t442 K104)
      refine g_callV X104 B [.ref rq] [] at_105 108 rfl rfl (hw _ (List.mem_of_getElem? (i := 147) rfl)) (hw _ (List.mem_of_getElem? (i := 148) rfl)) (hw _ (List.mem_of_getElem? (i := 150) rfl)) (hw _ (List.mem_of_getElem? (i := 149) rfl)) (hw _ (List.mem_of_getElem? (i := 2) rfl)) (hw _ (List.mem_of_getElem? (i := 151) rfl)) (by decide) (lenOf pd_21 rfl) t447 (rm21 l Z ag hw ag_ rq h104 n0 t446 g_ag_ t447 u7_3) e104 rfl 0 (Nat.le_of_eq rfl) (by decide) (by decide) (by decide) (by decide) (fun v105 T105 h105 L105 X105 e105 q105 => ?_)
      obtain ⟨rfl, N105, W105⟩ := q105
      show Go p e below _ (T105.setTop (mkF m 108 #[.val (.int p0), .val (.int p1), .val (.long p2), .second, .val (.int (3 : Int32)), .val (.int (1 : Int32)), .val (.ref el), .val (.ref ag_), .val (.ref rq), .unset, .unset, .unset] []))
      have F105 := u7_3.same W105
      refine g_iconst X105 B (1) at_108 109 rfl rfl ?_
      refine g_istore X105 B #[.val (.int p0), .val (.int p1), .val (.long p2), .second, .val (.int (3 : Int32)), .val (.int (1 : Int32)), .val (.ref el), .val (.ref ag_), .val (.ref rq), .val (.int (1 : Int32)), .unset, .unset] at_109 111 rfl rfl ?_
      refine g_aload X105 B at_111 113 rfl rfl rfl ?_
      have t448 := (Nat.le_trans t446 (Nat.le_of_eq W105.size.symm))
      have t449 := (Exa.wr W105 t447)
      have t450 := (Fld.other W105 u6_3 (Or.inr (slot_ne (Or.inl (hw _ (List.mem_of_getElem? (i := 124) rfl))) (Or.inl (hw _ (List.mem_of_getElem? (i := 146) rfl))) (by decide) (t := .int) (by decide) (t' := (.object "com/example/growshrink/growshrink/engine/TransactionRecord$Request")) (by decide))))
      refine g_callV X105 B [] [] at_113 116 rfl rfl (hw _ (List.mem_of_getElem? (i := 130) rfl)) (hw _ (List.mem_of_getElem? (i := 131) rfl)) (hw _ (List.mem_of_getElem? (i := 133) rfl)) (hw _ (List.mem_of_getElem? (i := 132) rfl)) (hw _ (List.mem_of_getElem? (i := 2) rfl)) (hw _ (List.mem_of_getElem? (i := 134) rfl)) (by decide) (lenOf pd_18 rfl) t449 (rm18 l Z ag hw ag_ 3 (.ref rq) rfl h105 n0 t448 g_ag_ t449 t450 F105) e105 rfl 0 (Nat.le_of_eq rfl) (by decide) (by decide) (by decide) (by decide) (fun v106 T106 h106 L106 X106 e106 q106 => ?_)
      obtain ⟨rfl, N106, W106⟩ := q106
      show Go p e below _ (T106.setTop (mkF m 116 #[.val (.int p0), .val (.int p1), .val (.long p2), .second, .val (.int (3 : Int32)), .val (.int (1 : Int32)), .val (.ref el), .val (.ref ag_), .val (.ref rq), .val (.int (1 : Int32)), .unset, .unset] [.int (own_ee 3 (.ref rq))]))
      rw [show own_ee 3 (.ref rq) = 0 by simp [own_ee]]
      rw [show ((3 : Int32) - 1) = 2 by decide] at W106
      have F106 := t450.same W106
      refine g_istore X106 B #[.val (.int p0), .val (.int p1), .val (.long p2), .second, .val (.int (3 : Int32)), .val (.int (1 : Int32)), .val (.ref el), .val (.ref ag_), .val (.ref rq), .val (.int (1 : Int32)), .val (.int (0 : Int32)), .unset] at_116 118 rfl rfl ?_
      refine g_iload X106 B at_118 120 rfl rfl ?_
      refine g_iload X106 B at_120 122 rfl rfl ?_
      refine g_iload X106 B at_122 124 rfl rfl ?_
      refine g_iconst X106 B (1) at_124 125 rfl rfl ?_
      refine g_icmp_ne X106 B at_125 137 128 rfl (by decide) rfl (fun _ => ?_) (fun z => own_abs' (by decide) z)
      refine g_iconst X106 B (0) at_137 138 rfl rfl ?_
      refine g_icmp_ne X106 B at_138 145 141 rfl (by decide) rfl (fun z => own_abs (by decide) z) (fun _ => ?_)
      refine g_iconst X106 B (1) at_141 142 rfl rfl ?_
      refine g_goto X106 B at_142 146 rfl (by decide) ?_
      refine g_iand X106 B at_146 147 rfl ?_
      rw [show ((1 : Int32) &&& (1 : Int32)) = 1 by decide]
      refine g_istore X106 B #[.val (.int p0), .val (.int p1), .val (.long p2), .second, .val (.int (3 : Int32)), .val (.int (1 : Int32)), .val (.ref el), .val (.ref ag_), .val (.ref rq), .val (.int (1 : Int32)), .val (.int (0 : Int32)), .unset] at_147 149 rfl rfl ?_
      refine g_iload X106 B at_149 151 rfl rfl ?_
      refine g_aload X106 B at_151 153 rfl rfl rfl ?_
      have t451 := (Exa.wr W106 t449)
      refine g_callV X106 B [] [.int (1 : Int32)] at_153 156 rfl rfl (hw _ (List.mem_of_getElem? (i := 135) rfl)) (hw _ (List.mem_of_getElem? (i := 136) rfl)) (hw _ (List.mem_of_getElem? (i := 138) rfl)) (hw _ (List.mem_of_getElem? (i := 137) rfl)) (hw _ (List.mem_of_getElem? (i := 2) rfl)) (hw _ (List.mem_of_getElem? (i := 139) rfl)) (by decide) (lenOf pd_19 rfl) t451 (rm19 l Z ag hw ag_ 2 h106 n0 F106) e106 rfl 1 (Nat.le_of_eq rfl) (by decide) (by decide) (by decide) (by decide) (fun v107 T107 h107 L107 X107 e107 q107 => ?_)
      obtain ⟨rfl, N107, rfl⟩ := q107
      show Go p e below _ (T107.setTop (mkF m 156 #[.val (.int p0), .val (.int p1), .val (.long p2), .second, .val (.int (3 : Int32)), .val (.int (1 : Int32)), .val (.ref el), .val (.ref ag_), .val (.ref rq), .val (.int (1 : Int32)), .val (.int (0 : Int32)), .unset] [.int (if (0 : Int32) < 2 then 1 else 0), .int (1 : Int32)]))
      rw [show (if (0 : Int32) < 2 then (1 : Int32) else 0) = 1 by decide]
      refine g_iload X107 B at_156 158 rfl rfl ?_
      refine g_iconst X107 B (1) at_158 159 rfl rfl ?_
      refine g_icmp_le X107 B at_159 166 162 rfl (by decide) rfl (fun z => own_abs (by decide) z) (fun _ => ?_)
      refine g_iconst X107 B (1) at_162 163 rfl rfl ?_
      refine g_goto X107 B at_163 167 rfl (by decide) ?_
      refine g_icmp_ne X107 B at_167 174 170 rfl (by decide) rfl (fun z => own_abs (by decide) z) (fun _ => ?_)
      refine g_iconst X107 B (1) at_170 171 rfl rfl ?_
      refine g_goto X107 B at_171 175 rfl (by decide) ?_
      refine g_iand X107 B at_175 176 rfl ?_
      rw [show ((1 : Int32) &&& (1 : Int32)) = 1 by decide]
      refine g_istore X107 B #[.val (.int p0), .val (.int p1), .val (.long p2), .second, .val (.int (3 : Int32)), .val (.int (1 : Int32)), .val (.ref el), .val (.ref ag_), .val (.ref rq), .val (.int (1 : Int32)), .val (.int (0 : Int32)), .unset] at_176 178 rfl rfl ?_
      refine g_iload X107 B at_178 180 rfl rfl ?_
      refine g_iconst X107 B (2) at_180 181 rfl rfl ?_
      refine g_icmp_lt X107 B at_181 251 184 rfl (by decide) rfl (fun z => own_abs' (by decide) z) (fun _ => ?_)
      refine g_aload X107 B at_184 186 rfl rfl rfl ?_
      have t452 := (Nat.le_trans t448 (Nat.le_of_eq W106.size.symm))
      have t453 := (Fld.other W106 F105 (Or.inr (slot_ne (Or.inl (hw _ (List.mem_of_getElem? (i := 146) rfl))) (Or.inl (hw _ (List.mem_of_getElem? (i := 124) rfl))) (by decide) (t := (.object "com/example/growshrink/growshrink/engine/TransactionRecord$Request")) (by decide) (t' := .int) (by decide))))
      refine g_callV X107 B [] [] at_186 189 rfl rfl (hw _ (List.mem_of_getElem? (i := 130) rfl)) (hw _ (List.mem_of_getElem? (i := 131) rfl)) (hw _ (List.mem_of_getElem? (i := 133) rfl)) (hw _ (List.mem_of_getElem? (i := 132) rfl)) (hw _ (List.mem_of_getElem? (i := 2) rfl)) (hw _ (List.mem_of_getElem? (i := 134) rfl)) (by decide) (lenOf pd_18 rfl) t451 (rm18 l Z ag hw ag_ 2 (.ref rq) rfl h106 n0 t452 g_ag_ t451 F106 t453) e107 rfl 0 (Nat.le_of_eq rfl) (by decide) (by decide) (by decide) (by decide) (fun v108 T108 h108 L108 X108 e108 q108 => ?_)
      obtain ⟨rfl, N108, W108⟩ := q108
      show Go p e below _ (T108.setTop (mkF m 189 #[.val (.int p0), .val (.int p1), .val (.long p2), .second, .val (.int (3 : Int32)), .val (.int (1 : Int32)), .val (.ref el), .val (.ref ag_), .val (.ref rq), .val (.int (1 : Int32)), .val (.int (0 : Int32)), .unset] [.int (own_ee 2 (.ref rq))]))
      rw [show own_ee 2 (.ref rq) = 0 by simp [own_ee]]
      rw [show ((2 : Int32) - 1) = 1 by decide] at W108
      have F108 := F106.same W108
      refine g_istore X108 B #[.val (.int p0), .val (.int p1), .val (.long p2), .second, .val (.int (3 : Int32)), .val (.int (1 : Int32)), .val (.ref el), .val (.ref ag_), .val (.ref rq), .val (.int (1 : Int32)), .val (.int (0 : Int32)), .val (.int (0 : Int32))] at_189 191 rfl rfl ?_
      refine g_iload X108 B at_191 193 rfl rfl ?_
      refine g_iload X108 B at_193 195 rfl rfl ?_
      refine g_iload X108 B at_195 197 rfl rfl ?_
      refine g_iconst X108 B (2) at_197 198 rfl rfl ?_
      refine g_icmp_ne X108 B at_198 210 201 rfl (by decide) rfl (fun _ => ?_) (fun z => own_abs' (by decide) z)
      refine g_iconst X108 B (0) at_210 211 rfl rfl ?_
      refine g_icmp_ne X108 B at_211 218 214 rfl (by decide) rfl (fun z => own_abs (by decide) z) (fun _ => ?_)
      refine g_iconst X108 B (1) at_214 215 rfl rfl ?_
      refine g_goto X108 B at_215 219 rfl (by decide) ?_
      refine g_iand X108 B at_219 220 rfl ?_
      rw [show ((1 : Int32) &&& (1 : Int32)) = 1 by decide]
      refine g_istore X108 B #[.val (.int p0), .val (.int p1), .val (.long p2), .second, .val (.int (3 : Int32)), .val (.int (1 : Int32)), .val (.ref el), .val (.ref ag_), .val (.ref rq), .val (.int (1 : Int32)), .val (.int (0 : Int32)), .val (.int (0 : Int32))] at_220 222 rfl rfl ?_
      refine g_iload X108 B at_222 224 rfl rfl ?_
      refine g_aload X108 B at_224 226 rfl rfl rfl ?_
      have t454 := (Exa.wr W108 t451)
      refine g_callV X108 B [] [.int (1 : Int32)] at_226 229 rfl rfl (hw _ (List.mem_of_getElem? (i := 135) rfl)) (hw _ (List.mem_of_getElem? (i := 136) rfl)) (hw _ (List.mem_of_getElem? (i := 138) rfl)) (hw _ (List.mem_of_getElem? (i := 137) rfl)) (hw _ (List.mem_of_getElem? (i := 2) rfl)) (hw _ (List.mem_of_getElem? (i := 139) rfl)) (by decide) (lenOf pd_19 rfl) t454 (rm19 l Z ag hw ag_ 1 h108 n0 F108) e108 rfl 1 (Nat.le_of_eq rfl) (by decide) (by decide) (by decide) (by decide) (fun v109 T109 h109 L109 X109 e109 q109 => ?_)
      obtain ⟨rfl, N109, rfl⟩ := q109
      show Go p e below _ (T109.setTop (mkF m 229 #[.val (.int p0), .val (.int p1), .val (.long p2), .second, .val (.int (3 : Int32)), .val (.int (1 : Int32)), .val (.ref el), .val (.ref ag_), .val (.ref rq), .val (.int (1 : Int32)), .val (.int (0 : Int32)), .val (.int (0 : Int32))] [.int (if (0 : Int32) < 1 then 1 else 0), .int (1 : Int32)]))
      rw [show (if (0 : Int32) < 1 then (1 : Int32) else 0) = 1 by decide]
      refine g_iload X109 B at_229 231 rfl rfl ?_
      refine g_iconst X109 B (2) at_231 232 rfl rfl ?_
      refine g_icmp_le X109 B at_232 239 235 rfl (by decide) rfl (fun z => own_abs (by decide) z) (fun _ => ?_)
      refine g_iconst X109 B (1) at_235 236 rfl rfl ?_
      refine g_goto X109 B at_236 240 rfl (by decide) ?_
      refine g_icmp_ne X109 B at_240 247 243 rfl (by decide) rfl (fun z => own_abs (by decide) z) (fun _ => ?_)
      refine g_iconst X109 B (1) at_243 244 rfl rfl ?_
      refine g_goto X109 B at_244 248 rfl (by decide) ?_
      refine g_iand X109 B at_248 249 rfl ?_
      rw [show ((1 : Int32) &&& (1 : Int32)) = 1 by decide]
      refine g_istore X109 B #[.val (.int p0), .val (.int p1), .val (.long p2), .second, .val (.int (3 : Int32)), .val (.int (1 : Int32)), .val (.ref el), .val (.ref ag_), .val (.ref rq), .val (.int (1 : Int32)), .val (.int (0 : Int32)), .val (.int (0 : Int32))] at_249 251 rfl rfl ?_
      refine g_iload X109 B at_251 253 rfl rfl ?_
      refine g_aload X109 B at_253 255 rfl rfl rfl ?_
      have t455 := (Nat.le_trans t452 (Nat.le_of_eq W108.size.symm))
      have t456 := (Fld.other W108 t453 (Or.inr (slot_ne (Or.inl (hw _ (List.mem_of_getElem? (i := 146) rfl))) (Or.inl (hw _ (List.mem_of_getElem? (i := 124) rfl))) (by decide) (t := (.object "com/example/growshrink/growshrink/engine/TransactionRecord$Request")) (by decide) (t' := .int) (by decide))))
      refine g_callV X109 B [] [.int (1 : Int32)] at_255 258 rfl rfl (hw _ (List.mem_of_getElem? (i := 140) rfl)) (hw _ (List.mem_of_getElem? (i := 141) rfl)) (hw _ (List.mem_of_getElem? (i := 143) rfl)) (hw _ (List.mem_of_getElem? (i := 142) rfl)) (hw _ (List.mem_of_getElem? (i := 2) rfl)) (hw _ (List.mem_of_getElem? (i := 144) rfl)) (by decide) (lenOf pd_20 rfl) t454 (rm20 l Z ag hw ag_ (.ref rq) rfl h108 n0 t455 g_ag_ t454 t456) e109 rfl 1 (Nat.le_of_eq rfl) (by decide) (by decide) (by decide) (by decide) (fun v110 T110 h110 L110 X110 e110 q110 => ?_)
      obtain ⟨rfl, N110, K110⟩ := q110
      show Go p e below _ (T110.setTop (mkF m 258 #[.val (.int p0), .val (.int p1), .val (.long p2), .second, .val (.int (3 : Int32)), .val (.int (1 : Int32)), .val (.ref el), .val (.ref ag_), .val (.ref rq), .val (.int (1 : Int32)), .val (.int (0 : Int32)), .val (.int (0 : Int32))] [.ref rq, .int (1 : Int32)]))
      refine g_iload X110 B at_258 260 rfl rfl ?_
      refine g_if_eq X110 B at_260 268 263 rfl (by decide) rfl (fun z => own_abs' (by decide) z) (fun _ => ?_)
      refine g_aload X110 B at_263 265 rfl rfl rfl ?_
      refine g_goto X110 B at_265 269 rfl (by decide) ?_
      refine g_acmp_ne X110 B at_269 276 272 rfl (by decide) rfl rfl rfl (fun z => own_abs (rfl) z) (fun _ => ?_)
      refine g_iconst X110 B (1) at_272 273 rfl rfl ?_
      refine g_goto X110 B at_273 277 rfl (by decide) ?_
      refine g_iand X110 B at_277 278 rfl ?_
      rw [show ((1 : Int32) &&& (1 : Int32)) = 1 by decide]
      refine g_istore X110 B #[.val (.int p0), .val (.int p1), .val (.long p2), .second, .val (.int (3 : Int32)), .val (.int (1 : Int32)), .val (.ref el), .val (.ref ag_), .val (.ref rq), .val (.int (1 : Int32)), .val (.int (0 : Int32)), .val (.int (0 : Int32))] at_278 280 rfl rfl ?_
      refine g_iload X110 B at_280 282 rfl rfl ?_
      exact g_retN X110 B at_282 rfl rfl (by decide) (by decide) (by decide) e110 ⟨rfl, (((((((((((((Fr.nil n0).app N97).app N99).app N101).app N102).app N103).app N104).app N105).app N106).app N107).app N108).app N109).app N110)⟩
theorem own_len {Z : State} {args : Array Value} {t : Term} {a : Addr} {cl : Cell} {ty : FieldType} {n : Int32} (ev : t.eval args Z none [] Z = some (.ref a)) (A : Arr Z Z.heap a cl ty) (q : (Jvm.Cond.eq (.length t) (.int n)).value args Z none Z [] = some true) (hn : 0 ≤ n.toInt := by decide) : cl.slots.size = n.toInt.toNat := by
  obtain ⟨x, y, h1, h2, h3, -⟩ := cmp_v (Or.inl q)
  cases h2
  obtain ⟨b, cell, e1, e2, e3, rfl⟩ := length_spec h1
  cases ev.symm.trans e1
  cases (A.fin (Vm.Alike.refl _)).symm.trans e2
  have h7 : (Jvm.Cond.eq (.length t) (.int n)).value args Z none Z [] = some (decide (cl.slots.size.toInt32 = n)) := by simp only [Cond.value, h1, Term.int_eval]
  have h8 := gotT h7 q
  have h9 := congrArg Int32.toInt h8
  rw [len_toInt e3] at h9
  omega
theorem own_fldE {Z : State} {args : Array Value} {t : Term} {C n d : String} {a b : Addr} (ev : t.eval args Z none [] Z = some (.ref a)) (ew : (Term.field t C n d).eval args Z none [] Z = some (.ref b)) : Fld Z Z.heap a C n d (.ref b) := Fld.start ((fld_at ev).symm.trans ew)
theorem own_nil {Z : State} {h : Heap} {a : Addr} {cl : Cell} {ty : FieldType} (A : Arr Z h a cl ty) (q : cl.slots.size = 0) : Av Z h a ty [] := ⟨cl, A, by simpa using q⟩

set_option maxRecDepth 65536 in
set_option maxHeartbeats 40000000 in
theorem comes_1 {Post : Tables → Env → Array Value → State → Outcome → State → Prop} (hpost : ∀ tb e args s v u, (limb_1_1.after args s (.returned v) u = true ∧ limb_1_2.after args s (.returned v) u = true ∧ True) → FrameEnd s (.returned v) u (Jvm.fieldLocs frame_1_writes args s ++ Jvm.arrayLocs frame_1_arrays args s ++ Jvm.staticLocs frame_1_statics s) 32 256 → Post tb e args s (.returned v) u) :
    ArmFor flags0 classFile x code maxLocals ret World_1 tables_1 room_1 Calls_1 rest_1 Pre_1 Post := by
  intro l hfl _ _ p e ha hc hk s m args below hf hA hF happ hP
  obtain ⟨hcalls, hrest, hpre⟩ := hP
  obtain ⟨-, -, -, hnamed, -, -, -, hat⟩ := (Spec.applies_iff hf).mp happ
  obtain ⟨hg, hn⟩ := and_e (Cond.before_iff.mp (show (Jvm.Cond.and given_1 narrow_1).before args s = true from hpre))
  obtain ⟨g0, hg⟩ := and_e hg
  obtain ⟨g1, hg⟩ := and_e hg
  obtain ⟨g2, hg⟩ := and_e hg
  have g3 := hg
  obtain ⟨w0, w1, w2, rfl⟩ : ∃ w0 w1 w2 : Value, args = #[w0, w1, w2] := by
    have hs : args.size = 3 := by simpa [Cond.value, given_1] using g0
    obtain ⟨L⟩ := args
    match L, hs with
    | [w0, w1, w2], _ => exact ⟨w0, w1, w2, rfl⟩
  have hw := fun d (hd : d ∈ tables_1) => atoms_spec (ws := Jvm.Cond.code x code maxLocals ret :: tables_1) hat d (List.mem_cons_of_mem _ hd)
  have hfit : Fit s := fun {y c} hc i hi => by
    obtain ⟨ha, rfl⟩ := Array.getElem?_eq_some_iff.mp hc
    have q := List.all_eq_true.mp ((Array.all_eq_true_iff_forall_mem.mp hF) _ (Array.getElem_mem ha)) i (List.mem_range.mpr hi)
    simpa [Array.getElem?_eq_getElem hi] using q
  obtain ⟨i0, q0⟩ := is_v g1
  obtain rfl : w0 = (.int i0) := Option.some.inj q0
  obtain ⟨i1, q1⟩ := is_v g2
  obtain rfl : w1 = (.int i1) := Option.some.inj q1
  obtain ⟨i2, q2⟩ := isL_v g3
  obtain rfl : w2 = (.long i2) := Option.some.inj q2
  have m0 := hn
  obtain ⟨b0, ev0⟩ := exa_v m0
  have S0 := Sta.start ev0 (Or.inr ⟨(hw _ (List.mem_of_getElem? (i := 37) rfl)), (hw _ (List.mem_of_getElem? (i := 38) rfl))⟩)
  have E0 := Exa.start ev0 m0
  obtain ⟨hsets, hown0⟩ := atoms_of _ (rest_1_c_eq ▸ (show rest_1_c.before _ s = true from hrest))
  obtain ⟨aL, evL⟩ := exa_v (Cond.before_iff.mp (hsets _ (List.mem_of_getElem? (i := 2) rfl)))
  have SL := Sta.start evL (Or.inl (hsets _ (List.mem_of_getElem? (i := 1) rfl)))
  have EL := Exa.start evL (Cond.before_iff.mp (hsets _ (List.mem_of_getElem? (i := 2) rfl)))
  obtain ⟨eL, evE⟩ := arr_v (Cond.before_iff.mp (hsets _ (List.mem_of_getElem? (i := 3) rfl)))
  have FL := own_fldE evL evE
  obtain ⟨clE, AE⟩ := Arr.start evE (Cond.before_iff.mp (hsets _ (List.mem_of_getElem? (i := 3) rfl)))
  have lE := own_len evE AE (Cond.before_iff.mp (hsets _ (List.mem_of_getElem? (i := 5) rfl)))
  obtain ⟨aD, evD⟩ := arr_v (Cond.before_iff.mp (hsets _ (List.mem_of_getElem? (i := 13) rfl)))
  have SD := Sta.start evD (Or.inr ⟨(hw _ (List.mem_of_getElem? (i := 11) rfl)), (hsets _ (List.mem_of_getElem? (i := 9) rfl))⟩)
  obtain ⟨clD, AD⟩ := Arr.start evD (Cond.before_iff.mp (hsets _ (List.mem_of_getElem? (i := 13) rfl)))
  have lD := own_len evD AD (Cond.before_iff.mp (hsets _ (List.mem_of_getElem? (i := 15) rfl)))
  obtain ⟨n, o, r1, r2, r3, _, L, rfl, ⟨rfl, N⟩, hq⟩ := rm0 l s _ hw i0 i1 i2 b0 aL aD eL s.heap s.heap.size (Nat.le_refl _) S0 SL EL FL (own_nil AE lE) (own_nil AD lD) SD tables_1 p e ha hc hk s m _ below hf ((Spec.applies_iff_loose hf).mp happ).1 ⟨rfl, State.Warmed39.refl s, rfl⟩ trivial
  refine ⟨n, _, r1, r2, r3, hpost _ _ _ _ _ _ ⟨Cond.after_iff.mpr rfl, Cond.after_iff.mpr (eq_i res_at (Term.int_eval (1)) rfl), trivial⟩ ⟨hq.1, hq.2.1, (hq.2.2.sift fun y hy => Or.inr (N y hy)).mono (by decide) (by decide)⟩⟩
theorem main_1_1 : Claimed_1_1 := comes_1 fun _ _ _ _ _ _ h hF => ⟨h.1, hF⟩
theorem main_1_2 : Claimed_1_2 := comes_1 fun _ _ _ _ _ _ h hF => ⟨h.2.1, hF⟩
end Jvm.Pilot.@@N@@
namespace Jvm.Pilot.@@N@@
open Jvm Jvm.ClassFile Sem Op Lib Jvm.Free Jvm.Stand Jvm.Pilot.@@N@@.Jvm.D
/-! MADE BY PROGRAM (witnessworld.py) out of the Statement's table words and the real class files: 29 classes; the members and pool entries that the words name. The judged class is class 1, her method 1. -/
namespace start1
open Jvm.ClassFile
def u (s : String) : CpInfo := .utf8 (stringToUtf16 s)
/-- a pool by its gaps: so many unusable entries, then the entry; so many at the end -/
def gap : Nat → List CpInfo → List CpInfo
  | 0, r => r
  | n + 1, r => .unusable :: gap n r
def poolList (es : List (Nat × CpInfo)) (last : Nat) : List CpInfo := es.foldr (fun e r => gap e.1 (e.2 :: r)) (gap last [])
def pool (es : List (Nat × CpInfo)) (last : Nat) : Array CpInfo := ⟨poolList es last⟩
def fileOf (pool : Array CpInfo) (this : Nat) (attrs : Array Attribute := #[]) (ms : Array MethodInfo := #[]) (fl : Nat := 33) (sup : Nat := 0) (ifs : Array Nat := #[]) (fds : Array FieldInfo := #[]) : ClassFile where
  minorVersion := 0
  majorVersion := 65
  constantPool := pool
  accessFlags := fl
  thisClass := this
  superClass := sup
  interfaces := ifs
  fields := fds
  methods := ms
  attributes := attrs
def plain (name : String) (sup : Option ClassId) : Class where
  name := name
  kind := .ordinary
  loader := none
  accessFlags := 33
  super := sup
  interfaces := #[]
  cf := none
  fields := #[]
  methods := #[]
  instanceTypes := #[]
  staticTypes := #[]
  resolved := #[]
  callSites := []
  init := .initialized
  statics := none
  mirror := none

def pool0 : Array CpInfo := pool [(5, u "<init>"), (0, u "()V"), (1, .class_ 10), (1, u "java/lang/Object")] 113

def k0c0 : Code := { maxStack := 0, maxLocals := 1, code := object_method_1_code, exceptionTable := #[], attributes := #[] }
def k0m0 : Method := { name := "<init>", desc := "()V", sig := { parameters := [], returnType := none }, accessFlags := 1, code := some k0c0 }
/-- java/lang/Object -/
def k0 : Class := { plain "java/lang/Object" none with
  accessFlags := 33
  interfaces := #[]
  cf := some (fileOf pool0 8 #[] #[{ accessFlags := 1, nameIndex := 5, descriptorIndex := 6, attributes := #[] }] 33 0 #[] #[])
  fields := #[]
  methods := #[k0m0]
  instanceTypes := #[]
  staticTypes := #[]
  resolved := Array.replicate 124 none
  statics := none }

def pool1 : Array CpInfo := pool [(2, .class_ 4), (1, u "java/lang/Object"), (0, u "<init>"), (0, u "()V"), (0, .class_ 8), (0, u "com/example/growshrink/growshrink/engine/TransactionRecord"), (0, .methodref 7 10), (0, .nameAndType 5 11), (0, u "(IJ)V"), (0, .class_ 13), (0, u "com/example/growshrink/growshrink/engine/TransactionRecord$Request"), (0, .methodref 12 15), (0, .nameAndType 5 16), (0, u "(Ljava/lang/String;Lcom/example/growshrink/growshrink/model/LockMode;)V"), (0, .methodref 7 18), (0, .nameAndType 19 20), (0, u "holdBack"), (0, u "(Lcom/example/growshrink/growshrink/engine/TransactionRecord;)V"), (0, .methodref 7 22), (0, .nameAndType 23 24), (0, u "hold"), (0, u "(Lcom/example/growshrink/growshrink/engine/TransactionRecord$Request;)V"), (0, .methodref 7 26), (0, .nameAndType 27 28), (0, u "elderEnded"), (0, u "()Z"), (0, .methodref 7 30), (0, .nameAndType 31 28), (0, u "awaitsElders"), (0, .methodref 7 33), (0, .nameAndType 34 35), (0, u "unhold"), (0, u "()Lcom/example/growshrink/growshrink/engine/TransactionRecord$Request;"), (0, .class_ 37), (0, u "com/example/growshrink/growshrink/engine/TransactionRecordElderEndedPinLaw"), (2, u "law"), (0, u "(IIJ)Z")] 5

def k1m0 : Method := { name := "<init>", desc := "()V", sig := { parameters := [], returnType := none }, accessFlags := 1, code := none }
def k1c1 : Code := { maxStack := 5, maxLocals := 12, code := code, exceptionTable := #[], attributes := #[] }
def k1m1 : Method := { name := "law", desc := "(IIJ)Z", sig := { parameters := [.int, .int, .long], returnType := some .boolean }, accessFlags := 9, code := some k1c1 }
/-- com/example/growshrink/growshrink/engine/TransactionRecordElderEndedPinLaw -/
def k1 : Class := { plain "com/example/growshrink/growshrink/engine/TransactionRecordElderEndedPinLaw" (some 0) with
  accessFlags := 49
  interfaces := #[]
  cf := some (fileOf pool1 36 #[] #[{ accessFlags := 1, nameIndex := 5, descriptorIndex := 6, attributes := #[] }, { accessFlags := 9, nameIndex := 40, descriptorIndex := 41, attributes := #[] }] 49 2 #[] #[])
  fields := #[]
  methods := #[k1m0, k1m1]
  instanceTypes := #[]
  staticTypes := #[]
  resolved := Array.replicate 47 none
  statics := none }

def pool2 : Array CpInfo := pool [(1, .methodref 2 3), (0, .class_ 4), (0, .nameAndType 5 6), (0, u "java/lang/Object"), (0, u "<init>"), (0, u "()V"), (0, .class_ 8), (0, u "java/util/ArrayList"), (0, .class_ 10), (0, u "com/example/growshrink/growshrink/engine/TransactionRecord"), (0, .methodref 7 12), (0, .nameAndType 5 13), (0, u "(I)V"), (0, .fieldref 9 15), (0, .nameAndType 16 17), (0, u "locked"), (0, u "Ljava/util/List;"), (0, .fieldref 19 20), (0, .class_ 21), (0, .nameAndType 22 23), (0, u "com/example/growshrink/growshrink/model/TransactionState"), (0, u "ACTIVE"), (0, u "Lcom/example/growshrink/growshrink/model/TransactionState;"), (0, .fieldref 9 25), (0, .nameAndType 26 23), (0, u "stage"), (0, .interfaceMethodref 28 29), (0, .class_ 30), (0, .nameAndType 31 32), (0, u "java/util/List"), (0, u "of"), (0, u "()Ljava/util/List;"), (0, .fieldref 9 34), (0, .nameAndType 35 17), (0, u "heldBack"), (0, .fieldref 9 37), (0, .nameAndType 38 39), (0, u "id"), (0, u "I"), (0, .fieldref 9 41), (0, .nameAndType 42 43), (0, u "timestamp"), (0, u "J"), (2, u "BY_AGE"), (0, u "Ljava/util/Comparator;"), (8, u "waiting"), (0, u "Lcom/example/growshrink/growshrink/engine/LockTable$Waiter;"), (0, .fieldref 9 59), (0, .nameAndType 60 61), (0, u "held"), (0, u "Lcom/example/growshrink/growshrink/engine/TransactionRecord$Request;"), (5, u "abortReason"), (0, u "Lcom/example/growshrink/growshrink/engine/AbortReason;"), (2, u "wounded"), (0, u "Z"), (9, u "fatal"), (0, .interfaceMethodref 28 84), (0, .nameAndType 85 86), (0, u "isEmpty"), (0, u "()Z"), (0, .methodref 7 3), (0, .interfaceMethodref 28 89), (0, .nameAndType 90 91), (0, u "add"), (0, u "(Ljava/lang/Object;)Z"), (0, .fieldref 9 93), (0, .nameAndType 94 39), (0, u "eldersLeft"), (19, u "restarted"), (19, u "LOCKS_ROOM"), (2, u "handle"), (0, u "Lcom/example/growshrink/growshrink/engine/Transaction;"), (2, u "(IJ)V"), (18, u "(Lcom/example/growshrink/growshrink/engine/TransactionRecord$Request;)V"), (0, u "()Lcom/example/growshrink/growshrink/engine/TransactionRecord$Request;"), (0, u "holdBack"), (0, u "(Lcom/example/growshrink/growshrink/engine/TransactionRecord;)V"), (1, u "awaitsElders"), (0, u "hold"), (0, u "elderEnded"), (0, u "unhold"), (5, .class_ 175), (0, u "com/example/growshrink/growshrink/engine/TransactionRecord$Request")] 49

def k2c0 : Code := { maxStack := 4, maxLocals := 4, code := prog_56_method_1_code, exceptionTable := #[], attributes := #[] }
def k2m0 : Method := { name := "<init>", desc := "(IJ)V", sig := { parameters := [.int, .long], returnType := none }, accessFlags := 0, code := some k2c0 }
def k2c1 : Code := { maxStack := 3, maxLocals := 2, code := prog_56_method_14_code, exceptionTable := #[], attributes := #[] }
def k2m1 : Method := { name := "holdBack", desc := "(Lcom/example/growshrink/growshrink/engine/TransactionRecord;)V", sig := { parameters := [(.object "com/example/growshrink/growshrink/engine/TransactionRecord")], returnType := none }, accessFlags := 0, code := some k2c1 }
def k2c2 : Code := { maxStack := 1, maxLocals := 1, code := prog_56_method_16_code, exceptionTable := #[], attributes := #[] }
def k2m2 : Method := { name := "awaitsElders", desc := "()Z", sig := { parameters := [], returnType := some .boolean }, accessFlags := 0, code := some k2c2 }
def k2c3 : Code := { maxStack := 2, maxLocals := 2, code := prog_56_method_17_code, exceptionTable := #[], attributes := #[] }
def k2m3 : Method := { name := "hold", desc := "(Lcom/example/growshrink/growshrink/engine/TransactionRecord$Request;)V", sig := { parameters := [(.object "com/example/growshrink/growshrink/engine/TransactionRecord$Request")], returnType := none }, accessFlags := 0, code := some k2c3 }
def k2c4 : Code := { maxStack := 3, maxLocals := 1, code := prog_56_method_18_code, exceptionTable := #[], attributes := #[] }
def k2m4 : Method := { name := "elderEnded", desc := "()Z", sig := { parameters := [], returnType := some .boolean }, accessFlags := 0, code := some k2c4 }
def k2c5 : Code := { maxStack := 2, maxLocals := 2, code := prog_56_method_19_code, exceptionTable := #[], attributes := #[] }
def k2m5 : Method := { name := "unhold", desc := "()Lcom/example/growshrink/growshrink/engine/TransactionRecord$Request;", sig := { parameters := [], returnType := some (.object "com/example/growshrink/growshrink/engine/TransactionRecord$Request") }, accessFlags := 0, code := some k2c5 }
/-- com/example/growshrink/growshrink/engine/TransactionRecord -/
def k2 : Class := { plain "com/example/growshrink/growshrink/engine/TransactionRecord" (some 0) with
  accessFlags := 49
  interfaces := #[]
  cf := some (fileOf pool2 9 #[.nestMembers #[174]] #[{ accessFlags := 0, nameIndex := 5, descriptorIndex := 141, attributes := #[] }, { accessFlags := 0, nameIndex := 162, descriptorIndex := 163, attributes := #[] }, { accessFlags := 0, nameIndex := 165, descriptorIndex := 86, attributes := #[] }, { accessFlags := 0, nameIndex := 166, descriptorIndex := 160, attributes := #[] }, { accessFlags := 0, nameIndex := 167, descriptorIndex := 86, attributes := #[] }, { accessFlags := 0, nameIndex := 168, descriptorIndex := 161, attributes := #[] }] 49 2 #[] #[{ accessFlags := 24, nameIndex := 46, descriptorIndex := 47, attributes := #[] }, { accessFlags := 26, nameIndex := 134, descriptorIndex := 39, attributes := #[] }, { accessFlags := 18, nameIndex := 38, descriptorIndex := 39, attributes := #[] }, { accessFlags := 18, nameIndex := 42, descriptorIndex := 43, attributes := #[] }, { accessFlags := 0, nameIndex := 137, descriptorIndex := 138, attributes := #[] }, { accessFlags := 16, nameIndex := 16, descriptorIndex := 17, attributes := #[] }, { accessFlags := 64, nameIndex := 56, descriptorIndex := 57, attributes := #[] }, { accessFlags := 66, nameIndex := 26, descriptorIndex := 23, attributes := #[] }, { accessFlags := 2, nameIndex := 67, descriptorIndex := 68, attributes := #[] }, { accessFlags := 2, nameIndex := 71, descriptorIndex := 72, attributes := #[] }, { accessFlags := 2, nameIndex := 114, descriptorIndex := 72, attributes := #[] }, { accessFlags := 2, nameIndex := 82, descriptorIndex := 61, attributes := #[] }, { accessFlags := 2, nameIndex := 94, descriptorIndex := 39, attributes := #[] }, { accessFlags := 2, nameIndex := 60, descriptorIndex := 61, attributes := #[] }, { accessFlags := 2, nameIndex := 35, descriptorIndex := 17, attributes := #[] }])
  fields := #[{ name := "BY_AGE", type := (.object "java/util/Comparator"), accessFlags := 24, slot := 0, constantValue := 0 }, { name := "LOCKS_ROOM", type := .int, accessFlags := 26, slot := 1, constantValue := 0 }, { name := "id", type := .int, accessFlags := 18, slot := 0, constantValue := 0 }, { name := "timestamp", type := .long, accessFlags := 18, slot := 1, constantValue := 0 }, { name := "handle", type := (.object "com/example/growshrink/growshrink/engine/Transaction"), accessFlags := 0, slot := 2, constantValue := 0 }, { name := "locked", type := (.object "java/util/List"), accessFlags := 16, slot := 3, constantValue := 0 }, { name := "waiting", type := (.object "com/example/growshrink/growshrink/engine/LockTable$Waiter"), accessFlags := 64, slot := 4, constantValue := 0 }, { name := "stage", type := (.object "com/example/growshrink/growshrink/model/TransactionState"), accessFlags := 66, slot := 5, constantValue := 0 }, { name := "abortReason", type := (.object "com/example/growshrink/growshrink/engine/AbortReason"), accessFlags := 2, slot := 6, constantValue := 0 }, { name := "wounded", type := .boolean, accessFlags := 2, slot := 7, constantValue := 0 }, { name := "restarted", type := .boolean, accessFlags := 2, slot := 8, constantValue := 0 }, { name := "fatal", type := (.object "com/example/growshrink/growshrink/engine/TransactionRecord$Request"), accessFlags := 2, slot := 9, constantValue := 0 }, { name := "eldersLeft", type := .int, accessFlags := 2, slot := 10, constantValue := 0 }, { name := "held", type := (.object "com/example/growshrink/growshrink/engine/TransactionRecord$Request"), accessFlags := 2, slot := 11, constantValue := 0 }, { name := "heldBack", type := (.object "java/util/List"), accessFlags := 2, slot := 12, constantValue := 0 }]
  methods := #[k2m0, k2m1, k2m2, k2m3, k2m4, k2m5]
  instanceTypes := #[.int, .long, (.object "com/example/growshrink/growshrink/engine/Transaction"), (.object "java/util/List"), (.object "com/example/growshrink/growshrink/engine/LockTable$Waiter"), (.object "com/example/growshrink/growshrink/model/TransactionState"), (.object "com/example/growshrink/growshrink/engine/AbortReason"), .boolean, .boolean, (.object "com/example/growshrink/growshrink/engine/TransactionRecord$Request"), .int, (.object "com/example/growshrink/growshrink/engine/TransactionRecord$Request"), (.object "java/util/List")]
  staticTypes := #[(.object "java/util/Comparator"), .int]
  resolved := Array.replicate 225 none
  statics := none }

def pool3 : Array CpInfo := pool [(8, .class_ 10), (1, u "java/lang/Iterable"), (24, .class_ 36), (0, u "java/lang/Object")] 25

/-- java/lang/Iterable -/
def k3 : Class := { plain "java/lang/Iterable" (some 0) with
  accessFlags := 1537
  interfaces := #[]
  cf := some (fileOf pool3 8 #[] #[] 1537 35 #[] #[])
  fields := #[]
  methods := #[]
  instanceTypes := #[]
  staticTypes := #[]
  resolved := Array.replicate 62 none
  statics := none }

def pool4 : Array CpInfo := pool [(10, .class_ 12), (1, u "java/util/Collection"), (47, .class_ 61), (0, u "java/lang/Object"), (0, .class_ 63), (0, u "java/lang/Iterable")] 51

/-- java/util/Collection -/
def k4 : Class := { plain "java/util/Collection" (some 0) with
  accessFlags := 1537
  interfaces := #[3]
  cf := some (fileOf pool4 10 #[] #[] 1537 60 #[62] #[])
  fields := #[]
  methods := #[]
  instanceTypes := #[]
  staticTypes := #[]
  resolved := Array.replicate 115 none
  statics := none }

def pool5 : Array CpInfo := pool [(1, .methodref 2 3), (0, .class_ 4), (0, .nameAndType 5 6), (0, u "java/lang/Object"), (0, u "<init>"), (0, u "()V"), (1, .class_ 10), (1, u "java/util/AbstractCollection"), (66, .class_ 78), (0, u "java/util/Collection")] 81

def k5c0 : Code := { maxStack := 1, maxLocals := 1, code := jdk_22_method_1_code, exceptionTable := #[], attributes := #[] }
def k5m0 : Method := { name := "<init>", desc := "()V", sig := { parameters := [], returnType := none }, accessFlags := 4, code := some k5c0 }
/-- java/util/AbstractCollection -/
def k5 : Class := { plain "java/util/AbstractCollection" (some 0) with
  accessFlags := 1057
  interfaces := #[4]
  cf := some (fileOf pool5 8 #[] #[{ accessFlags := 4, nameIndex := 5, descriptorIndex := 6, attributes := #[] }] 1057 2 #[77] #[])
  fields := #[]
  methods := #[k5m0]
  instanceTypes := #[]
  staticTypes := #[]
  resolved := Array.replicate 160 none
  statics := none }

def pool6 : Array CpInfo := pool [(8, .class_ 10), (1, u "java/util/SequencedCollection"), (15, .class_ 27), (0, u "java/lang/Object"), (0, .class_ 29), (0, u "java/util/Collection")] 27

/-- java/util/SequencedCollection -/
def k6 : Class := { plain "java/util/SequencedCollection" (some 0) with
  accessFlags := 1537
  interfaces := #[4]
  cf := some (fileOf pool6 8 #[] #[] 1537 26 #[28] #[])
  fields := #[]
  methods := #[]
  instanceTypes := #[]
  staticTypes := #[]
  resolved := Array.replicate 57 none
  statics := none }

def pool7 : Array CpInfo := pool [(8, .class_ 10), (1, u "java/util/List"), (7, u "()Z"), (41, u "add"), (3, u "(Ljava/lang/Object;)Z"), (2, u "isEmpty"), (20, u "of"), (1, .fieldref 91 92), (0, .class_ 93), (0, .nameAndType 94 95), (0, u "java/util/ImmutableCollections"), (0, u "EMPTY_LIST"), (0, u "Ljava/util/ImmutableCollections$ListN;"), (7, .class_ 104), (0, u "java/lang/Object"), (14, u "()Ljava/util/List;"), (0, .class_ 121), (0, u "java/util/SequencedCollection")] 129

def k7m0 : Method := { name := "isEmpty", desc := "()Z", sig := { parameters := [], returnType := some .boolean }, accessFlags := 1025, code := none }
def k7m1 : Method := { name := "add", desc := "(Ljava/lang/Object;)Z", sig := { parameters := [(.object "java/lang/Object")], returnType := some .boolean }, accessFlags := 1025, code := none }
def k7c2 : Code := { maxStack := 1, maxLocals := 0, code := jdk_40_method_36_code, exceptionTable := #[], attributes := #[] }
def k7m2 : Method := { name := "of", desc := "()Ljava/util/List;", sig := { parameters := [], returnType := some (.object "java/util/List") }, accessFlags := 9, code := some k7c2 }
/-- java/util/List -/
def k7 : Class := { plain "java/util/List" (some 0) with
  accessFlags := 1537
  interfaces := #[6]
  cf := some (fileOf pool7 8 #[] #[{ accessFlags := 1025, nameIndex := 67, descriptorIndex := 18, attributes := #[] }, { accessFlags := 1025, nameIndex := 60, descriptorIndex := 64, attributes := #[] }, { accessFlags := 9, nameIndex := 88, descriptorIndex := 119, attributes := #[] }] 1537 103 #[120] #[])
  fields := #[]
  methods := #[k7m0, k7m1, k7m2]
  instanceTypes := #[]
  staticTypes := #[]
  resolved := Array.replicate 251 none
  statics := none }

def pool8 : Array CpInfo := pool [(1, .methodref 2 3), (0, .class_ 4), (0, .nameAndType 5 6), (0, u "java/util/AbstractCollection"), (0, u "<init>"), (0, u "()V"), (0, .fieldref 8 9), (0, .class_ 10), (0, .nameAndType 11 12), (0, u "java/util/AbstractList"), (0, u "modCount"), (0, u "I"), (64, .class_ 78), (0, u "java/util/AbstractList$Itr"), (3, .class_ 83), (0, u "java/util/AbstractList$ListItr"), (9, .class_ 94), (0, u "java/util/AbstractList$RandomAccessSubList"), (3, .class_ 99), (0, u "java/util/AbstractList$SubList"), (33, .class_ 134), (0, u "java/util/List"), (73, .class_ 209), (0, u "java/util/AbstractList$SubList$1"), (0, .class_ 211), (0, u "java/util/AbstractList$RandomAccessSpliterator")] 6

def k8c0 : Code := { maxStack := 2, maxLocals := 1, code := jdk_39_method_1_code, exceptionTable := #[], attributes := #[] }
def k8m0 : Method := { name := "<init>", desc := "()V", sig := { parameters := [], returnType := none }, accessFlags := 4, code := some k8c0 }
/-- java/util/AbstractList -/
def k8 : Class := { plain "java/util/AbstractList" (some 5) with
  accessFlags := 1057
  interfaces := #[7]
  cf := some (fileOf pool8 8 #[.nestMembers #[93, 98, 208, 210, 82, 77]] #[{ accessFlags := 4, nameIndex := 5, descriptorIndex := 6, attributes := #[] }] 1057 2 #[133] #[{ accessFlags := 132, nameIndex := 11, descriptorIndex := 12, attributes := #[] }])
  fields := #[{ name := "modCount", type := .int, accessFlags := 132, slot := 0, constantValue := 0 }]
  methods := #[k8m0]
  instanceTypes := #[.int]
  staticTypes := #[]
  resolved := Array.replicate 218 none
  statics := none }

def pool9 : Array CpInfo := pool [(1, .class_ 2), (0, u "java/util/RandomAccess"), (0, .class_ 4), (0, u "java/lang/Object")] 2

/-- java/util/RandomAccess -/
def k9 : Class := { plain "java/util/RandomAccess" (some 0) with
  accessFlags := 1537
  interfaces := #[]
  cf := some (fileOf pool9 1 #[] #[] 1537 3 #[] #[])
  fields := #[]
  methods := #[]
  instanceTypes := #[]
  staticTypes := #[]
  resolved := Array.replicate 7 none
  statics := none }

def pool10 : Array CpInfo := pool [(1, .class_ 2), (0, u "java/lang/Cloneable"), (0, .class_ 4), (0, u "java/lang/Object")] 2

/-- java/lang/Cloneable -/
def k10 : Class := { plain "java/lang/Cloneable" (some 0) with
  accessFlags := 1537
  interfaces := #[]
  cf := some (fileOf pool10 1 #[] #[] 1537 3 #[] #[])
  fields := #[]
  methods := #[]
  instanceTypes := #[]
  staticTypes := #[]
  resolved := Array.replicate 7 none
  statics := none }

def pool11 : Array CpInfo := pool [(1, .class_ 2), (0, u "java/io/Serializable"), (0, .class_ 4), (0, u "java/lang/Object")] 2

/-- java/io/Serializable -/
def k11 : Class := { plain "java/io/Serializable" (some 0) with
  accessFlags := 1537
  interfaces := #[]
  cf := some (fileOf pool11 1 #[] #[] 1537 3 #[] #[])
  fields := #[]
  methods := #[]
  instanceTypes := #[]
  staticTypes := #[]
  resolved := Array.replicate 7 none
  statics := none }

def pool12 : Array CpInfo := pool [(1, .methodref 2 3), (0, .class_ 4), (0, .nameAndType 5 6), (0, u "java/util/AbstractList"), (0, u "<init>"), (0, u "()V"), (0, .class_ 8), (0, u "java/lang/Object"), (0, .fieldref 10 11), (0, .class_ 12), (0, .nameAndType 13 14), (0, u "java/util/ArrayList"), (0, u "elementData"), (0, u "[Ljava/lang/Object;"), (2, u "EMPTY_ELEMENTDATA"), (21, .fieldref 10 40), (0, .nameAndType 41 14), (0, u "DEFAULTCAPACITY_EMPTY_ELEMENTDATA"), (5, u "()[Ljava/lang/Object;"), (0, .fieldref 10 49), (0, .nameAndType 50 51), (0, u "size"), (0, u "I"), (11, .fieldref 10 64), (0, .nameAndType 65 51), (0, u "modCount"), (3, .methodref 10 70), (0, .nameAndType 71 72), (0, u "grow"), (0, u "(I)[Ljava/lang/Object;"), (6, .methodref 80 81), (0, .class_ 82), (0, .nameAndType 83 84), (0, u "java/lang/Math"), (0, u "max"), (0, u "(II)I"), (11, u "(Ljava/lang/Object;)Z"), (32, .methodref 10 130), (0, .nameAndType 71 47), (0, .methodref 10 132), (0, .nameAndType 133 134), (0, u "add"), (0, u "(Ljava/lang/Object;[Ljava/lang/Object;I)V"), (3, u "(I)V"), (9, .class_ 149), (0, u "java/util/List"), (23, u "()Z"), (88, .class_ 263), (0, u "java/util/ArrayList$ListItr"), (3, .class_ 268), (0, u "java/util/ArrayList$Itr"), (7, .class_ 277), (0, u "java/util/ArrayList$SubList"), (12, .class_ 291), (0, u "java/util/ArrayList$ArrayListSpliterator"), (37, .class_ 330), (0, u "java/util/RandomAccess"), (0, .class_ 332), (0, u "java/lang/Cloneable"), (0, .class_ 334), (0, u "java/io/Serializable"), (0, u "serialVersionUID"), (0, u "J"), (3, u "DEFAULT_CAPACITY"), (22, u "isEmpty"), (136, .class_ 501), (0, u "java/util/ArrayList$SubList$2"), (0, .class_ 503), (0, u "java/util/ArrayList$SubList$1")] 5

def k12c0 : Code := { maxStack := 4, maxLocals := 2, code := jdk_38_method_1_code, exceptionTable := #[], attributes := #[] }
def k12m0 : Method := { name := "<init>", desc := "(I)V", sig := { parameters := [.int], returnType := none }, accessFlags := 1, code := some k12c0 }
def k12c1 : Code := { maxStack := 2, maxLocals := 1, code := jdk_38_method_2_code, exceptionTable := #[], attributes := #[] }
def k12m1 : Method := { name := "<init>", desc := "()V", sig := { parameters := [], returnType := none }, accessFlags := 1, code := some k12c1 }
def k12c2 : Code := { maxStack := 4, maxLocals := 4, code := jdk_38_method_6_code, exceptionTable := #[], attributes := #[] }
def k12m2 : Method := { name := "grow", desc := "(I)[Ljava/lang/Object;", sig := { parameters := [.int], returnType := some (.array (.object "java/lang/Object")) }, accessFlags := 2, code := some k12c2 }
def k12c3 : Code := { maxStack := 3, maxLocals := 1, code := jdk_38_method_7_code, exceptionTable := #[], attributes := #[] }
def k12m3 : Method := { name := "grow", desc := "()[Ljava/lang/Object;", sig := { parameters := [], returnType := some (.array (.object "java/lang/Object")) }, accessFlags := 2, code := some k12c3 }
def k12c4 : Code := { maxStack := 1, maxLocals := 1, code := jdk_38_method_9_code, exceptionTable := #[], attributes := #[] }
def k12m4 : Method := { name := "isEmpty", desc := "()Z", sig := { parameters := [], returnType := some .boolean }, accessFlags := 1, code := some k12c4 }
def k12c5 : Code := { maxStack := 3, maxLocals := 4, code := jdk_38_method_24_code, exceptionTable := #[], attributes := #[] }
def k12m5 : Method := { name := "add", desc := "(Ljava/lang/Object;[Ljava/lang/Object;I)V", sig := { parameters := [(.object "java/lang/Object"), (.array (.object "java/lang/Object")), .int], returnType := none }, accessFlags := 2, code := some k12c5 }
def k12c6 : Code := { maxStack := 4, maxLocals := 2, code := jdk_38_method_25_code, exceptionTable := #[], attributes := #[] }
def k12m6 : Method := { name := "add", desc := "(Ljava/lang/Object;)Z", sig := { parameters := [(.object "java/lang/Object")], returnType := some .boolean }, accessFlags := 1, code := some k12c6 }
/-- java/util/ArrayList -/
def k12 : Class := { plain "java/util/ArrayList" (some 8) with
  accessFlags := 33
  interfaces := #[7, 9, 10, 11]
  cf := some (fileOf pool12 10 #[.nestMembers #[290, 276, 500, 502, 262, 267]] #[{ accessFlags := 1, nameIndex := 5, descriptorIndex := 138, attributes := #[] }, { accessFlags := 1, nameIndex := 5, descriptorIndex := 6, attributes := #[] }, { accessFlags := 2, nameIndex := 71, descriptorIndex := 72, attributes := #[] }, { accessFlags := 2, nameIndex := 71, descriptorIndex := 47, attributes := #[] }, { accessFlags := 1, nameIndex := 363, descriptorIndex := 173, attributes := #[] }, { accessFlags := 2, nameIndex := 133, descriptorIndex := 134, attributes := #[] }, { accessFlags := 1, nameIndex := 133, descriptorIndex := 96, attributes := #[] }] 33 2 #[148, 329, 331, 333] #[{ accessFlags := 26, nameIndex := 335, descriptorIndex := 336, attributes := #[] }, { accessFlags := 26, nameIndex := 340, descriptorIndex := 51, attributes := #[] }, { accessFlags := 26, nameIndex := 17, descriptorIndex := 14, attributes := #[] }, { accessFlags := 26, nameIndex := 41, descriptorIndex := 14, attributes := #[] }, { accessFlags := 128, nameIndex := 13, descriptorIndex := 14, attributes := #[] }, { accessFlags := 2, nameIndex := 50, descriptorIndex := 51, attributes := #[] }])
  fields := #[{ name := "serialVersionUID", type := .long, accessFlags := 26, slot := 0, constantValue := 0 }, { name := "DEFAULT_CAPACITY", type := .int, accessFlags := 26, slot := 1, constantValue := 0 }, { name := "EMPTY_ELEMENTDATA", type := (.array (.object "java/lang/Object")), accessFlags := 26, slot := 2, constantValue := 0 }, { name := "DEFAULTCAPACITY_EMPTY_ELEMENTDATA", type := (.array (.object "java/lang/Object")), accessFlags := 26, slot := 3, constantValue := 0 }, { name := "elementData", type := (.array (.object "java/lang/Object")), accessFlags := 128, slot := 1, constantValue := 0 }, { name := "size", type := .int, accessFlags := 2, slot := 2, constantValue := 0 }]
  methods := #[k12m0, k12m1, k12m2, k12m3, k12m4, k12m5, k12m6]
  instanceTypes := #[.int, (.array (.object "java/lang/Object")), .int]
  staticTypes := #[.long, .int, (.array (.object "java/lang/Object")), (.array (.object "java/lang/Object"))]
  resolved := Array.replicate 509 none
  statics := some 0 }

def pool13 : Array CpInfo := pool [(1, .class_ 2), (0, u "java/lang/constant/Constable"), (0, .class_ 4), (0, u "java/lang/Object")] 6

/-- java/lang/constant/Constable -/
def k13 : Class := { plain "java/lang/constant/Constable" (some 0) with
  accessFlags := 1537
  interfaces := #[]
  cf := some (fileOf pool13 1 #[] #[] 1537 3 #[] #[])
  fields := #[]
  methods := #[]
  instanceTypes := #[]
  staticTypes := #[]
  resolved := Array.replicate 11 none
  statics := none }

def pool14 : Array CpInfo := pool [(1, .class_ 2), (0, u "java/lang/Comparable"), (0, .class_ 4), (0, u "java/lang/Object")] 7

/-- java/lang/Comparable -/
def k14 : Class := { plain "java/lang/Comparable" (some 0) with
  accessFlags := 1537
  interfaces := #[]
  cf := some (fileOf pool14 1 #[] #[] 1537 3 #[] #[])
  fields := #[]
  methods := #[]
  instanceTypes := #[]
  staticTypes := #[]
  resolved := Array.replicate 12 none
  statics := none }

def pool15 : Array CpInfo := pool [(2, .class_ 4), (1, u "java/lang/Enum"), (0, u "name"), (0, u "Ljava/lang/String;"), (2, u "ordinal"), (0, u "I"), (1, .class_ 14), (1, u "java/lang/Object"), (4, u "hash"), (86, .class_ 108), (1, u "java/lang/Enum$EnumDesc"), (2, .class_ 112), (0, u "java/lang/constant/Constable"), (0, .class_ 114), (0, u "java/lang/Comparable"), (0, .class_ 116), (0, u "java/io/Serializable")] 87

/-- java/lang/Enum -/
def k15 : Class := { plain "java/lang/Enum" (some 0) with
  accessFlags := 1057
  interfaces := #[13, 14, 11]
  cf := some (fileOf pool15 2 #[.nestMembers #[106]] #[] 1057 12 #[111, 113, 115] #[{ accessFlags := 18, nameIndex := 5, descriptorIndex := 6, attributes := #[] }, { accessFlags := 18, nameIndex := 9, descriptorIndex := 10, attributes := #[] }, { accessFlags := 2, nameIndex := 19, descriptorIndex := 10, attributes := #[] }])
  fields := #[{ name := "name", type := (.object "java/lang/String"), accessFlags := 18, slot := 0, constantValue := 0 }, { name := "ordinal", type := .int, accessFlags := 18, slot := 1, constantValue := 0 }, { name := "hash", type := .int, accessFlags := 2, slot := 2, constantValue := 0 }]
  methods := #[]
  instanceTypes := #[(.object "java/lang/String"), .int, .int]
  staticTypes := #[]
  resolved := Array.replicate 204 none
  statics := none }

def pool16 : Array CpInfo := pool [(1, .class_ 2), (0, u "com/example/growshrink/growshrink/model/TransactionState"), (2, u "ACTIVE"), (0, u "Lcom/example/growshrink/growshrink/model/TransactionState;"), (2, u "BLOCKED"), (2, u "PREPARED"), (2, u "COMMITTED"), (2, u "ABORTED"), (2, u "$VALUES"), (0, u "[Lcom/example/growshrink/growshrink/model/TransactionState;"), (6, .class_ 31), (1, u "java/lang/Enum")] 44

/-- com/example/growshrink/growshrink/model/TransactionState -/
def k16 : Class := { plain "com/example/growshrink/growshrink/model/TransactionState" (some 15) with
  accessFlags := 16433
  interfaces := #[]
  cf := some (fileOf pool16 1 #[] #[] 16433 29 #[] #[{ accessFlags := 16409, nameIndex := 5, descriptorIndex := 6, attributes := #[] }, { accessFlags := 16409, nameIndex := 9, descriptorIndex := 6, attributes := #[] }, { accessFlags := 16409, nameIndex := 12, descriptorIndex := 6, attributes := #[] }, { accessFlags := 16409, nameIndex := 15, descriptorIndex := 6, attributes := #[] }, { accessFlags := 16409, nameIndex := 18, descriptorIndex := 6, attributes := #[] }, { accessFlags := 4122, nameIndex := 21, descriptorIndex := 22, attributes := #[] }])
  fields := #[{ name := "ACTIVE", type := (.object "com/example/growshrink/growshrink/model/TransactionState"), accessFlags := 16409, slot := 0, constantValue := 0 }, { name := "BLOCKED", type := (.object "com/example/growshrink/growshrink/model/TransactionState"), accessFlags := 16409, slot := 1, constantValue := 0 }, { name := "PREPARED", type := (.object "com/example/growshrink/growshrink/model/TransactionState"), accessFlags := 16409, slot := 2, constantValue := 0 }, { name := "COMMITTED", type := (.object "com/example/growshrink/growshrink/model/TransactionState"), accessFlags := 16409, slot := 3, constantValue := 0 }, { name := "ABORTED", type := (.object "com/example/growshrink/growshrink/model/TransactionState"), accessFlags := 16409, slot := 4, constantValue := 0 }, { name := "$VALUES", type := (.array (.object "com/example/growshrink/growshrink/model/TransactionState")), accessFlags := 4122, slot := 5, constantValue := 0 }]
  methods := #[]
  instanceTypes := #[(.object "java/lang/String"), .int, .int]
  staticTypes := #[(.object "com/example/growshrink/growshrink/model/TransactionState"), (.object "com/example/growshrink/growshrink/model/TransactionState"), (.object "com/example/growshrink/growshrink/model/TransactionState"), (.object "com/example/growshrink/growshrink/model/TransactionState"), (.object "com/example/growshrink/growshrink/model/TransactionState"), (.array (.object "com/example/growshrink/growshrink/model/TransactionState"))]
  resolved := Array.replicate 76 none
  statics := some 1 }

def pool17 : Array CpInfo := pool [(2, .class_ 4), (1, u "java/lang/Object"), (0, u "<init>"), (0, u "()V"), (3, .class_ 11), (0, u "java/util/ImmutableCollections$List12"), (0, .class_ 13), (0, u "java/util/ImmutableCollections$ListN"), (3, u "Z"), (29, .class_ 49), (1, u "java/util/ImmutableCollections"), (0, u "$assertionsDisabled"), (5, u "[Ljava/lang/Object;"), (5, u "EMPTY_LIST"), (0, u "Ljava/util/ImmutableCollections$ListN;"), (8, u "EMPTY_LIST_NULLS"), (22, u "SALT32L"), (0, u "J"), (2, u "REVERSE"), (6, u "archivedObjects"), (2, u "EMPTY"), (0, u "Ljava/lang/Object;"), (0, .class_ 112), (0, u "java/util/ImmutableCollections$SetN"), (5, u "EMPTY_SET"), (0, u "Ljava/util/ImmutableCollections$SetN;"), (0, .class_ 121), (0, u "java/util/ImmutableCollections$MapN"), (3, u "EMPTY_MAP"), (0, u "Ljava/util/ImmutableCollections$MapN;"), (4, u "EXPAND_FACTOR"), (0, u "I"), (36, .class_ 170), (0, u "java/util/ImmutableCollections$MapN$MapNIterator"), (0, .class_ 172), (0, u "java/util/ImmutableCollections$MapN$1"), (0, .class_ 174), (0, u "java/util/ImmutableCollections$Map1"), (0, .class_ 176), (0, u "java/util/ImmutableCollections$AbstractImmutableMap"), (0, .class_ 178), (0, u "java/util/ImmutableCollections$SetN$SetNIterator"), (0, .class_ 180), (0, u "java/util/ImmutableCollections$Set12"), (0, .class_ 182), (0, u "java/util/ImmutableCollections$Set12$1"), (0, .class_ 184), (0, u "java/util/ImmutableCollections$AbstractImmutableSet"), (0, .class_ 186), (0, u "java/util/ImmutableCollections$SubList"), (0, .class_ 188), (0, u "java/util/ImmutableCollections$ListItr"), (0, .class_ 190), (0, u "java/util/ImmutableCollections$AbstractImmutableList"), (0, .class_ 192), (0, u "java/util/ImmutableCollections$AbstractImmutableCollection"), (0, .class_ 194), (0, u "java/util/ImmutableCollections$Access"), (0, .class_ 196), (0, u "java/util/ImmutableCollections$Access$1")] 16

def k17m0 : Method := { name := "<init>", desc := "()V", sig := { parameters := [], returnType := none }, accessFlags := 2, code := none }
/-- java/util/ImmutableCollections -/
def k17 : Class := { plain "java/util/ImmutableCollections" (some 0) with
  accessFlags := 32
  interfaces := #[]
  cf := some (fileOf pool17 47 #[.nestMembers #[120, 169, 171, 173, 175, 111, 177, 179, 181, 183, 12, 10, 185, 187, 189, 191, 193, 195]] #[{ accessFlags := 2, nameIndex := 5, descriptorIndex := 6, attributes := #[] }] 32 2 #[] #[{ accessFlags := 26, nameIndex := 95, descriptorIndex := 96, attributes := #[] }, { accessFlags := 26, nameIndex := 99, descriptorIndex := 17, attributes := #[] }, { accessFlags := 10, nameIndex := 106, descriptorIndex := 56, attributes := #[] }, { accessFlags := 26, nameIndex := 109, descriptorIndex := 110, attributes := #[] }, { accessFlags := 24, nameIndex := 62, descriptorIndex := 63, attributes := #[] }, { accessFlags := 24, nameIndex := 72, descriptorIndex := 63, attributes := #[] }, { accessFlags := 24, nameIndex := 118, descriptorIndex := 119, attributes := #[] }, { accessFlags := 24, nameIndex := 125, descriptorIndex := 126, attributes := #[] }, { accessFlags := 24, nameIndex := 131, descriptorIndex := 132, attributes := #[] }, { accessFlags := 4120, nameIndex := 50, descriptorIndex := 17, attributes := #[] }])
  fields := #[{ name := "SALT32L", type := .long, accessFlags := 26, slot := 0, constantValue := 0 }, { name := "REVERSE", type := .boolean, accessFlags := 26, slot := 1, constantValue := 0 }, { name := "archivedObjects", type := (.array (.object "java/lang/Object")), accessFlags := 10, slot := 2, constantValue := 0 }, { name := "EMPTY", type := (.object "java/lang/Object"), accessFlags := 26, slot := 3, constantValue := 0 }, { name := "EMPTY_LIST", type := (.object "java/util/ImmutableCollections$ListN"), accessFlags := 24, slot := 4, constantValue := 0 }, { name := "EMPTY_LIST_NULLS", type := (.object "java/util/ImmutableCollections$ListN"), accessFlags := 24, slot := 5, constantValue := 0 }, { name := "EMPTY_SET", type := (.object "java/util/ImmutableCollections$SetN"), accessFlags := 24, slot := 6, constantValue := 0 }, { name := "EMPTY_MAP", type := (.object "java/util/ImmutableCollections$MapN"), accessFlags := 24, slot := 7, constantValue := 0 }, { name := "EXPAND_FACTOR", type := .int, accessFlags := 24, slot := 8, constantValue := 0 }, { name := "$assertionsDisabled", type := .boolean, accessFlags := 4120, slot := 9, constantValue := 0 }]
  methods := #[k17m0]
  instanceTypes := #[]
  staticTypes := #[.long, .boolean, (.array (.object "java/lang/Object")), (.object "java/lang/Object"), (.object "java/util/ImmutableCollections$ListN"), (.object "java/util/ImmutableCollections$ListN"), (.object "java/util/ImmutableCollections$SetN"), (.object "java/util/ImmutableCollections$MapN"), .int, .boolean]
  resolved := Array.replicate 213 none
  statics := some 2 }

def pool18 : Array CpInfo := pool [(1, .methodref 2 3), (0, .class_ 4), (0, .nameAndType 5 6), (0, u "java/lang/Object"), (0, u "<init>"), (0, u "()V"), (0, .class_ 8), (0, u "java/lang/Record")] 13

def k18c0 : Code := { maxStack := 1, maxLocals := 1, code := jdk_30_method_1_code, exceptionTable := #[], attributes := #[] }
def k18m0 : Method := { name := "<init>", desc := "()V", sig := { parameters := [], returnType := none }, accessFlags := 4, code := some k18c0 }
/-- java/lang/Record -/
def k18 : Class := { plain "java/lang/Record" (some 0) with
  accessFlags := 1057
  interfaces := #[]
  cf := some (fileOf pool18 7 #[] #[{ accessFlags := 4, nameIndex := 5, descriptorIndex := 6, attributes := #[] }] 1057 2 #[] #[])
  fields := #[]
  methods := #[k18m0]
  instanceTypes := #[]
  staticTypes := #[]
  resolved := Array.replicate 22 none
  statics := none }

def pool19 : Array CpInfo := pool [(1, .methodref 2 3), (0, .class_ 4), (0, .nameAndType 5 6), (0, u "java/lang/Record"), (0, u "<init>"), (0, u "()V"), (0, .fieldref 8 9), (0, .class_ 10), (0, .nameAndType 11 12), (0, u "com/example/growshrink/growshrink/engine/TransactionRecord$Request"), (0, u "item"), (0, u "Ljava/lang/String;"), (0, .fieldref 8 14), (0, .nameAndType 15 16), (0, u "mode"), (0, u "Lcom/example/growshrink/growshrink/model/LockMode;"), (12, u "(Ljava/lang/String;Lcom/example/growshrink/growshrink/model/LockMode;)V"), (10, .class_ 41), (0, u "com/example/growshrink/growshrink/engine/TransactionRecord")] 20

def k19c0 : Code := { maxStack := 2, maxLocals := 3, code := prog_57_method_1_code, exceptionTable := #[], attributes := #[] }
def k19m0 : Method := { name := "<init>", desc := "(Ljava/lang/String;Lcom/example/growshrink/growshrink/model/LockMode;)V", sig := { parameters := [(.object "java/lang/String"), (.object "com/example/growshrink/growshrink/model/LockMode")], returnType := none }, accessFlags := 0, code := some k19c0 }
/-- com/example/growshrink/growshrink/engine/TransactionRecord$Request -/
def k19 : Class := { plain "com/example/growshrink/growshrink/engine/TransactionRecord$Request" (some 18) with
  accessFlags := 48
  interfaces := #[]
  cf := some (fileOf pool19 8 #[.nestHost 40] #[{ accessFlags := 0, nameIndex := 5, descriptorIndex := 29, attributes := #[] }] 48 2 #[] #[{ accessFlags := 18, nameIndex := 11, descriptorIndex := 12, attributes := #[] }, { accessFlags := 18, nameIndex := 15, descriptorIndex := 16, attributes := #[] }])
  fields := #[{ name := "item", type := (.object "java/lang/String"), accessFlags := 18, slot := 0, constantValue := 0 }, { name := "mode", type := (.object "com/example/growshrink/growshrink/model/LockMode"), accessFlags := 18, slot := 1, constantValue := 0 }]
  methods := #[k19m0]
  instanceTypes := #[(.object "java/lang/String"), (.object "com/example/growshrink/growshrink/model/LockMode")]
  staticTypes := #[]
  resolved := Array.replicate 62 none
  statics := none }

def pool20 : Array CpInfo := pool [(2, .class_ 4), (1, u "java/util/AbstractCollection"), (0, u "<init>"), (0, u "()V"), (1, .class_ 10), (1, u "java/util/ImmutableCollections"), (2, .class_ 14), (0, u "java/util/ImmutableCollections$AbstractImmutableCollection")] 41

def k20m0 : Method := { name := "<init>", desc := "()V", sig := { parameters := [], returnType := none }, accessFlags := 0, code := none }
/-- java/util/ImmutableCollections$AbstractImmutableCollection -/
def k20 : Class := { plain "java/util/ImmutableCollections$AbstractImmutableCollection" (some 5) with
  accessFlags := 1056
  interfaces := #[]
  cf := some (fileOf pool20 13 #[.nestHost 8] #[{ accessFlags := 0, nameIndex := 5, descriptorIndex := 6, attributes := #[] }] 1056 2 #[] #[])
  fields := #[]
  methods := #[k20m0]
  instanceTypes := #[]
  staticTypes := #[]
  resolved := Array.replicate 56 none
  statics := none }

def pool21 : Array CpInfo := pool [(2, .class_ 4), (1, u "java/util/ImmutableCollections$AbstractImmutableCollection"), (0, u "<init>"), (0, u "()V"), (1, .class_ 10), (1, u "java/util/ImmutableCollections"), (3, .class_ 16), (1, u "java/util/ImmutableCollections$AbstractImmutableList"), (60, .class_ 78), (0, u "java/util/List"), (45, .class_ 125), (0, u "java/util/RandomAccess")] 70

def k21m0 : Method := { name := "<init>", desc := "()V", sig := { parameters := [], returnType := none }, accessFlags := 0, code := none }
/-- java/util/ImmutableCollections$AbstractImmutableList -/
def k21 : Class := { plain "java/util/ImmutableCollections$AbstractImmutableList" (some 20) with
  accessFlags := 1056
  interfaces := #[7, 9]
  cf := some (fileOf pool21 14 #[.nestHost 8] #[{ accessFlags := 0, nameIndex := 5, descriptorIndex := 6, attributes := #[] }] 1056 2 #[77, 124] #[])
  fields := #[]
  methods := #[k21m0]
  instanceTypes := #[]
  staticTypes := #[]
  resolved := Array.replicate 196 none
  statics := none }

def pool22 : Array CpInfo := pool [(2, .class_ 4), (1, u "java/util/ImmutableCollections$AbstractImmutableList"), (2, .fieldref 8 9), (0, .class_ 10), (0, .nameAndType 11 12), (0, u "java/util/ImmutableCollections$ListN"), (0, u "elements"), (0, u "[Ljava/lang/Object;"), (2, u "allowNulls"), (0, u "Z"), (42, .class_ 60), (0, u "java/io/Serializable"), (13, u "isEmpty"), (0, u "()Z"), (38, .class_ 115), (0, u "java/util/ImmutableCollections")] 3

def k22c0 : Code := { maxStack := 1, maxLocals := 1, code := jdk_45_method_2_code, exceptionTable := #[], attributes := #[] }
def k22m0 : Method := { name := "isEmpty", desc := "()Z", sig := { parameters := [], returnType := some .boolean }, accessFlags := 1, code := some k22c0 }
/-- java/util/ImmutableCollections$ListN -/
def k22 : Class := { plain "java/util/ImmutableCollections$ListN" (some 21) with
  accessFlags := 48
  interfaces := #[11]
  cf := some (fileOf pool22 8 #[.nestHost 114] #[{ accessFlags := 1, nameIndex := 74, descriptorIndex := 75, attributes := #[] }] 48 2 #[59] #[{ accessFlags := 18, nameIndex := 11, descriptorIndex := 12, attributes := #[] }, { accessFlags := 18, nameIndex := 15, descriptorIndex := 16, attributes := #[] }])
  fields := #[{ name := "elements", type := (.array (.object "java/lang/Object")), accessFlags := 18, slot := 0, constantValue := 0 }, { name := "allowNulls", type := .boolean, accessFlags := 18, slot := 1, constantValue := 0 }]
  methods := #[k22m0]
  instanceTypes := #[(.array (.object "java/lang/Object")), .boolean]
  staticTypes := #[]
  resolved := Array.replicate 119 none
  statics := none }

def pool23 : Array CpInfo := pool [(1, .class_ 2), (0, u "java/lang/Math"), (1, .class_ 6), (1, u "java/lang/Object"), (0, u "<init>"), (0, u "()V"), (89, .class_ 100), (1, u "java/lang/Math$RandomNumberGeneratorHolder"), (71, u "negativeZeroFloatBits"), (0, u "J"), (2, u "negativeZeroDoubleBits"), (21, u "max"), (46, u "$assertionsDisabled"), (0, u "Z"), (88, u "(II)I"), (2, u "twoToTheDoubleScaleDown"), (0, u "D"), (4, u "twoToTheDoubleScaleUp"), (9, u "E"), (3, u "PI"), (2, u "TAU"), (2, u "DEGREES_TO_RADIANS"), (0, u "RADIANS_TO_DEGREES")] 94

def k23m0 : Method := { name := "<init>", desc := "()V", sig := { parameters := [], returnType := none }, accessFlags := 2, code := none }
def k23c1 : Code := { maxStack := 2, maxLocals := 2, code := jdk_29_method_65_code, exceptionTable := #[], attributes := #[] }
def k23m1 : Method := { name := "max", desc := "(II)I", sig := { parameters := [.int, .int], returnType := some .int }, accessFlags := 9, code := some k23c1 }
/-- java/lang/Math -/
def k23 : Class := { plain "java/lang/Math" (some 0) with
  accessFlags := 49
  interfaces := #[]
  cf := some (fileOf pool23 1 #[.nestMembers #[98]] #[{ accessFlags := 2, nameIndex := 7, descriptorIndex := 8, attributes := #[] }, { accessFlags := 9, nameIndex := 198, descriptorIndex := 335, attributes := #[] }] 49 4 #[] #[{ accessFlags := 25, nameIndex := 354, descriptorIndex := 339, attributes := #[] }, { accessFlags := 25, nameIndex := 358, descriptorIndex := 339, attributes := #[] }, { accessFlags := 25, nameIndex := 361, descriptorIndex := 339, attributes := #[] }, { accessFlags := 26, nameIndex := 364, descriptorIndex := 339, attributes := #[] }, { accessFlags := 26, nameIndex := 365, descriptorIndex := 339, attributes := #[] }, { accessFlags := 26, nameIndex := 172, descriptorIndex := 173, attributes := #[] }, { accessFlags := 26, nameIndex := 176, descriptorIndex := 173, attributes := #[] }, { accessFlags := 8, nameIndex := 344, descriptorIndex := 339, attributes := #[] }, { accessFlags := 8, nameIndex := 338, descriptorIndex := 339, attributes := #[] }, { accessFlags := 4120, nameIndex := 245, descriptorIndex := 246, attributes := #[] }])
  fields := #[{ name := "E", type := .double, accessFlags := 25, slot := 0, constantValue := 0 }, { name := "PI", type := .double, accessFlags := 25, slot := 1, constantValue := 0 }, { name := "TAU", type := .double, accessFlags := 25, slot := 2, constantValue := 0 }, { name := "DEGREES_TO_RADIANS", type := .double, accessFlags := 26, slot := 3, constantValue := 0 }, { name := "RADIANS_TO_DEGREES", type := .double, accessFlags := 26, slot := 4, constantValue := 0 }, { name := "negativeZeroFloatBits", type := .long, accessFlags := 26, slot := 5, constantValue := 0 }, { name := "negativeZeroDoubleBits", type := .long, accessFlags := 26, slot := 6, constantValue := 0 }, { name := "twoToTheDoubleScaleUp", type := .double, accessFlags := 8, slot := 7, constantValue := 0 }, { name := "twoToTheDoubleScaleDown", type := .double, accessFlags := 8, slot := 8, constantValue := 0 }, { name := "$assertionsDisabled", type := .boolean, accessFlags := 4120, slot := 9, constantValue := 0 }]
  methods := #[k23m0, k23m1]
  instanceTypes := #[]
  staticTypes := #[.double, .double, .double, .double, .double, .long, .long, .double, .double, .boolean]
  resolved := Array.replicate 460 none
  statics := none }

/-- the primitive byte -/
def k24 : Class := { plain "byte" none with kind := .primitive 'B', accessFlags := 0x411 }
/-- [B -/
def k25 : Class := { plain "[B" (some 0) with kind := .array 24 .byte, interfaces := #[10, 11], accessFlags := 1041 }

/-- the primitive int -/
def k26 : Class := { plain "int" none with kind := .primitive 'I', accessFlags := 0x411 }
/-- [I -/
def k27 : Class := { plain "[I" (some 0) with kind := .array 26 .int, interfaces := #[10, 11], accessFlags := 1041 }

/-- [Ljava/lang/Object; -/
def k28 : Class := { plain "[Ljava/lang/Object;" (some 0) with kind := .array 0 (.object "java/lang/Object"), interfaces := #[10, 11], accessFlags := 1041 }

def heap : Heap := #[{ cls := 12, slots := #[.long 0, .int 0, .ref 6, .ref 7], vm := .statics 12 },
  { cls := 16, slots := #[.ref 4, .null, .null, .null, .null, .null], vm := .statics 16 },
  { cls := 17, slots := #[.long 0, .int 0, .null, .null, .ref 5, .null, .null, .null, .int 0, .int 0], vm := .statics 17 },
  { cls := 28, slots := #[], vm := .none },
  { cls := 16, slots := #[.null, .int 0, .int 0], vm := .none },
  { cls := 22, slots := #[.ref 3, .int 0], vm := .none },
  { cls := 28, slots := #[], vm := .none },
  { cls := 28, slots := #[], vm := .none }]
def classes : Array Class := #[k0, k1, k2, k3, k4, k5, k6, k7, k8, k9, k10, k11, k12, k13, k14, k15, k16, k17, k18, k19, k20, k21, k22, k23, k24, k25, k26, k27, k28]
def interned : List (Array UInt16 × Addr) := []
def slotsUsed : Nat := 25
def theMethod : MethodId := ⟨1, 1⟩
def args0 : Array Value := #[.int 5, .int 7, .long 9]
def aboutOver (below : List Frame) : State where
  vm := { classes := classes, interned := interned.toArray }
  heap := heap
  slotsUsed := slotsUsed
  threads := #[{ frames := .invoking theMethod args0 :: below }]
def below0 : List Frame := [.native { method := ⟨0, 0⟩, args := #[] }]
def about1 : State := aboutOver below0
def p0 : Program := .bare "" "" ""
def e0 : Env := launch0.env 0 0 0
theorem w_frames : about1.frames = Frame.invoking theMethod args0 :: below0 := rfl
set_option maxRecDepth 65536 in
theorem w_args : argsFit about1.vm theMethod args0 = true := by decide +kernel
set_option maxRecDepth 65536 in
theorem w_heap : heapFits about1 = true := by decide +kernel
set_option maxRecDepth 65536 in
theorem w_runnable : about1.curStatus? = some .runnable := by decide +kernel
set_option maxRecDepth 65536 in
theorem w_alone : about1.alone = true := by decide +kernel
set_option maxRecDepth 65536 in
theorem w_named : about1.methodNamed? x = some theMethod := by decide +kernel
set_option maxRecDepth 65536 in
theorem w_hears : about1.hears theMethod below0 = true := by decide +kernel
set_option maxRecDepth 65536 in
theorem w_ripe : about1.ripe theMethod args0 below0 = true := by decide +kernel
theorem w_running : about1.status = .running := rfl
set_option maxRecDepth 65536 in
theorem w_room : about1.hasRoom e0.platform room_1 = true :=
  launch0.hasRoom_least _ room_1 (by decide +kernel) (by decide +kernel) (by decide +kernel) (by decide +kernel) (by decide +kernel) (by decide +kernel)
theorem allAtoms_all (ts : List Jvm.Cond) (a : Array Jvm.Value) (st : Jvm.State) : (allAtoms ts).before a st = ts.all (fun c => c.before a st) := by
  induction ts with
  | nil => rfl
  | cons c t ih =>
    show (Jvm.Cond.and c (allAtoms t)).before a st = _
    rw [Jvm.Cond.before_and, ih, List.all_cons]
def words1 : List Jvm.Cond := Jvm.Cond.code x code maxLocals ret :: tables_1
/-- a 'code' word, met by the world's own term for the bytes: nothing is compared byte by byte -/
theorem code_word {y : MethodName} {bytes : ByteArray} {mx : Nat} {rt : Option FieldType} {a : Array Value} {s : State} {m : MethodId} {meth : Method} {c : Code} (h1 : s.methodNamed? y = some m) (h2 : s.vm.method? m = some meth) (h3 : meth.code = some c) (h4 : c.code = bytes)
    (h5 : (c.maxLocals == mx && c.exceptionTable.isEmpty && decide (c.maxStack ≤ mostOperands) && decide (meth.sig.returnType = rt) && !meth.locks && decide (parseMethodDescriptor y.desc = some meth.sig)) = true) : (Jvm.Cond.code y bytes mx rt).before a s = true := by
  simp only [Bool.and_eq_true, beq_iff_eq, Bool.not_eq_true', decide_eq_true_eq] at h5
  obtain ⟨⟨⟨⟨⟨g1, g2⟩, g3⟩, g4⟩, g5⟩, g6⟩ := h5
  simp [Cond.before, Cond.holds, Cond.value, h1, h2, h3, h4, g1, g2, g3, g4, g5, g6]
def isCode : Jvm.Cond → Bool
  | .code _ _ _ _ => true
  | _ => false
theorem all_split {L : List Jvm.Cond} {P : Jvm.Cond → Bool} (h1 : L.all (fun c => isCode c || P c) = true) (h2 : ∀ c ∈ L.filter isCode, P c = true) : L.all P = true := by
  refine List.all_eq_true.mpr fun c hc => ?_
  have h := List.all_eq_true.mp h1 c hc
  rcases Bool.eq_false_or_eq_true (isCode c) with hi | hi
  · exact h2 c (List.mem_filter.mpr ⟨hc, hi⟩)
  · simpa [hi] using h
set_option maxRecDepth 65536 in
theorem w_c0 : (Jvm.Cond.code x code maxLocals ret).before args0 about1 = true := code_word (m := ⟨1, 1⟩) (meth := k1m1) (c := k1c1) (by decide +kernel) rfl rfl rfl (by decide +kernel)
set_option maxRecDepth 65536 in
theorem w_c1 : (Jvm.Cond.code ({ cls := "com/example/growshrink/growshrink/engine/TransactionRecord", name := "<init>", desc := "(IJ)V" } : Jvm.MethodName) prog_56_method_1_code (4 : Nat) (Option.none : Option Jvm.ClassFile.FieldType)).before args0 about1 = true := code_word (m := ⟨2, 0⟩) (meth := k2m0) (c := k2c0) (by decide +kernel) rfl rfl rfl (by decide +kernel)
set_option maxRecDepth 65536 in
theorem w_c2 : (Jvm.Cond.code ({ cls := "java/lang/Object", name := "<init>", desc := "()V" } : Jvm.MethodName) object_method_1_code (1 : Nat) (Option.none : Option Jvm.ClassFile.FieldType)).before args0 about1 = true := code_word (m := ⟨0, 0⟩) (meth := k0m0) (c := k0c0) (by decide +kernel) rfl rfl rfl (by decide +kernel)
set_option maxRecDepth 65536 in
theorem w_c3 : (Jvm.Cond.code ({ cls := "java/util/ArrayList", name := "<init>", desc := "(I)V" } : Jvm.MethodName) jdk_38_method_1_code (2 : Nat) (Option.none : Option Jvm.ClassFile.FieldType)).before args0 about1 = true := code_word (m := ⟨12, 0⟩) (meth := k12m0) (c := k12c0) (by decide +kernel) rfl rfl rfl (by decide +kernel)
set_option maxRecDepth 65536 in
theorem w_c4 : (Jvm.Cond.code ({ cls := "java/util/AbstractList", name := "<init>", desc := "()V" } : Jvm.MethodName) jdk_39_method_1_code (1 : Nat) (Option.none : Option Jvm.ClassFile.FieldType)).before args0 about1 = true := code_word (m := ⟨8, 0⟩) (meth := k8m0) (c := k8c0) (by decide +kernel) rfl rfl rfl (by decide +kernel)
set_option maxRecDepth 65536 in
theorem w_c5 : (Jvm.Cond.code ({ cls := "java/util/AbstractCollection", name := "<init>", desc := "()V" } : Jvm.MethodName) jdk_22_method_1_code (1 : Nat) (Option.none : Option Jvm.ClassFile.FieldType)).before args0 about1 = true := code_word (m := ⟨5, 0⟩) (meth := k5m0) (c := k5c0) (by decide +kernel) rfl rfl rfl (by decide +kernel)
set_option maxRecDepth 65536 in
theorem w_c6 : (Jvm.Cond.code ({ cls := "java/util/List", name := "of", desc := "()Ljava/util/List;" } : Jvm.MethodName) jdk_40_method_36_code (0 : Nat) (Option.some (Jvm.ClassFile.FieldType.object "java/util/List"))).before args0 about1 = true := code_word (m := ⟨7, 2⟩) (meth := k7m2) (c := k7c2) (by decide +kernel) rfl rfl rfl (by decide +kernel)
set_option maxRecDepth 65536 in
theorem w_c7 : (Jvm.Cond.code ({ cls := "com/example/growshrink/growshrink/engine/TransactionRecord$Request", name := "<init>", desc := "(Ljava/lang/String;Lcom/example/growshrink/growshrink/model/LockMode;)V" } : Jvm.MethodName) prog_57_method_1_code (3 : Nat) (Option.none : Option Jvm.ClassFile.FieldType)).before args0 about1 = true := code_word (m := ⟨19, 0⟩) (meth := k19m0) (c := k19c0) (by decide +kernel) rfl rfl rfl (by decide +kernel)
set_option maxRecDepth 65536 in
theorem w_c8 : (Jvm.Cond.code ({ cls := "java/lang/Record", name := "<init>", desc := "()V" } : Jvm.MethodName) jdk_30_method_1_code (1 : Nat) (Option.none : Option Jvm.ClassFile.FieldType)).before args0 about1 = true := code_word (m := ⟨18, 0⟩) (meth := k18m0) (c := k18c0) (by decide +kernel) rfl rfl rfl (by decide +kernel)
set_option maxRecDepth 65536 in
theorem w_c9 : (Jvm.Cond.code ({ cls := "com/example/growshrink/growshrink/engine/TransactionRecord", name := "holdBack", desc := "(Lcom/example/growshrink/growshrink/engine/TransactionRecord;)V" } : Jvm.MethodName) prog_56_method_14_code (2 : Nat) (Option.none : Option Jvm.ClassFile.FieldType)).before args0 about1 = true := code_word (m := ⟨2, 1⟩) (meth := k2m1) (c := k2c1) (by decide +kernel) rfl rfl rfl (by decide +kernel)
set_option maxRecDepth 65536 in
theorem w_c10 : (Jvm.Cond.code ({ cls := "java/util/ImmutableCollections$ListN", name := "isEmpty", desc := "()Z" } : Jvm.MethodName) jdk_45_method_2_code (1 : Nat) (Option.some Jvm.ClassFile.FieldType.boolean)).before args0 about1 = true := code_word (m := ⟨22, 0⟩) (meth := k22m0) (c := k22c0) (by decide +kernel) rfl rfl rfl (by decide +kernel)
set_option maxRecDepth 65536 in
theorem w_c11 : (Jvm.Cond.code ({ cls := "java/util/ArrayList", name := "<init>", desc := "()V" } : Jvm.MethodName) jdk_38_method_2_code (1 : Nat) (Option.none : Option Jvm.ClassFile.FieldType)).before args0 about1 = true := code_word (m := ⟨12, 1⟩) (meth := k12m1) (c := k12c1) (by decide +kernel) rfl rfl rfl (by decide +kernel)
set_option maxRecDepth 65536 in
theorem w_c12 : (Jvm.Cond.code ({ cls := "java/util/ArrayList", name := "add", desc := "(Ljava/lang/Object;)Z" } : Jvm.MethodName) jdk_38_method_25_code (2 : Nat) (Option.some Jvm.ClassFile.FieldType.boolean)).before args0 about1 = true := code_word (m := ⟨12, 6⟩) (meth := k12m6) (c := k12c6) (by decide +kernel) rfl rfl rfl (by decide +kernel)
set_option maxRecDepth 65536 in
theorem w_c13 : (Jvm.Cond.code ({ cls := "java/util/ArrayList", name := "add", desc := "(Ljava/lang/Object;[Ljava/lang/Object;I)V" } : Jvm.MethodName) jdk_38_method_24_code (4 : Nat) (Option.none : Option Jvm.ClassFile.FieldType)).before args0 about1 = true := code_word (m := ⟨12, 5⟩) (meth := k12m5) (c := k12c5) (by decide +kernel) rfl rfl rfl (by decide +kernel)
set_option maxRecDepth 65536 in
theorem w_c14 : (Jvm.Cond.code ({ cls := "java/util/ArrayList", name := "grow", desc := "()[Ljava/lang/Object;" } : Jvm.MethodName) jdk_38_method_7_code (1 : Nat) (Option.some (Jvm.ClassFile.FieldType.array (Jvm.ClassFile.FieldType.object "java/lang/Object")))).before args0 about1 = true := code_word (m := ⟨12, 3⟩) (meth := k12m3) (c := k12c3) (by decide +kernel) rfl rfl rfl (by decide +kernel)
set_option maxRecDepth 65536 in
theorem w_c15 : (Jvm.Cond.code ({ cls := "java/util/ArrayList", name := "grow", desc := "(I)[Ljava/lang/Object;" } : Jvm.MethodName) jdk_38_method_6_code (4 : Nat) (Option.some (Jvm.ClassFile.FieldType.array (Jvm.ClassFile.FieldType.object "java/lang/Object")))).before args0 about1 = true := code_word (m := ⟨12, 2⟩) (meth := k12m2) (c := k12c2) (by decide +kernel) rfl rfl rfl (by decide +kernel)
set_option maxRecDepth 65536 in
theorem w_c16 : (Jvm.Cond.code ({ cls := "java/lang/Math", name := "max", desc := "(II)I" } : Jvm.MethodName) jdk_29_method_65_code (2 : Nat) (Option.some Jvm.ClassFile.FieldType.int)).before args0 about1 = true := code_word (m := ⟨23, 1⟩) (meth := k23m1) (c := k23c1) (by decide +kernel) rfl rfl rfl (by decide +kernel)
set_option maxRecDepth 65536 in
theorem w_c17 : (Jvm.Cond.code ({ cls := "java/util/ArrayList", name := "isEmpty", desc := "()Z" } : Jvm.MethodName) jdk_38_method_9_code (1 : Nat) (Option.some Jvm.ClassFile.FieldType.boolean)).before args0 about1 = true := code_word (m := ⟨12, 4⟩) (meth := k12m4) (c := k12c4) (by decide +kernel) rfl rfl rfl (by decide +kernel)
set_option maxRecDepth 65536 in
theorem w_c18 : (Jvm.Cond.code ({ cls := "com/example/growshrink/growshrink/engine/TransactionRecord", name := "elderEnded", desc := "()Z" } : Jvm.MethodName) prog_56_method_18_code (1 : Nat) (Option.some Jvm.ClassFile.FieldType.boolean)).before args0 about1 = true := code_word (m := ⟨2, 4⟩) (meth := k2m4) (c := k2c4) (by decide +kernel) rfl rfl rfl (by decide +kernel)
set_option maxRecDepth 65536 in
theorem w_c19 : (Jvm.Cond.code ({ cls := "com/example/growshrink/growshrink/engine/TransactionRecord", name := "awaitsElders", desc := "()Z" } : Jvm.MethodName) prog_56_method_16_code (1 : Nat) (Option.some Jvm.ClassFile.FieldType.boolean)).before args0 about1 = true := code_word (m := ⟨2, 2⟩) (meth := k2m2) (c := k2c2) (by decide +kernel) rfl rfl rfl (by decide +kernel)
set_option maxRecDepth 65536 in
theorem w_c20 : (Jvm.Cond.code ({ cls := "com/example/growshrink/growshrink/engine/TransactionRecord", name := "unhold", desc := "()Lcom/example/growshrink/growshrink/engine/TransactionRecord$Request;" } : Jvm.MethodName) prog_56_method_19_code (2 : Nat) (Option.some (Jvm.ClassFile.FieldType.object "com/example/growshrink/growshrink/engine/TransactionRecord$Request"))).before args0 about1 = true := code_word (m := ⟨2, 5⟩) (meth := k2m5) (c := k2c5) (by decide +kernel) rfl rfl rfl (by decide +kernel)
set_option maxRecDepth 65536 in
theorem w_c21 : (Jvm.Cond.code ({ cls := "com/example/growshrink/growshrink/engine/TransactionRecord", name := "hold", desc := "(Lcom/example/growshrink/growshrink/engine/TransactionRecord$Request;)V" } : Jvm.MethodName) prog_56_method_17_code (2 : Nat) (Option.none : Option Jvm.ClassFile.FieldType)).before args0 about1 = true := code_word (m := ⟨2, 3⟩) (meth := k2m3) (c := k2c3) (by decide +kernel) rfl rfl rfl (by decide +kernel)
def codes1 : List Jvm.Cond := [Jvm.Cond.code x code maxLocals ret, Jvm.Cond.code ({ cls := "com/example/growshrink/growshrink/engine/TransactionRecord", name := "<init>", desc := "(IJ)V" } : Jvm.MethodName) prog_56_method_1_code (4 : Nat) (Option.none : Option Jvm.ClassFile.FieldType), Jvm.Cond.code ({ cls := "java/lang/Object", name := "<init>", desc := "()V" } : Jvm.MethodName) object_method_1_code (1 : Nat) (Option.none : Option Jvm.ClassFile.FieldType), Jvm.Cond.code ({ cls := "java/util/ArrayList", name := "<init>", desc := "(I)V" } : Jvm.MethodName) jdk_38_method_1_code (2 : Nat) (Option.none : Option Jvm.ClassFile.FieldType), Jvm.Cond.code ({ cls := "java/util/AbstractList", name := "<init>", desc := "()V" } : Jvm.MethodName) jdk_39_method_1_code (1 : Nat) (Option.none : Option Jvm.ClassFile.FieldType), Jvm.Cond.code ({ cls := "java/util/AbstractCollection", name := "<init>", desc := "()V" } : Jvm.MethodName) jdk_22_method_1_code (1 : Nat) (Option.none : Option Jvm.ClassFile.FieldType), Jvm.Cond.code ({ cls := "java/util/List", name := "of", desc := "()Ljava/util/List;" } : Jvm.MethodName) jdk_40_method_36_code (0 : Nat) (Option.some (Jvm.ClassFile.FieldType.object "java/util/List")), Jvm.Cond.code ({ cls := "com/example/growshrink/growshrink/engine/TransactionRecord$Request", name := "<init>", desc := "(Ljava/lang/String;Lcom/example/growshrink/growshrink/model/LockMode;)V" } : Jvm.MethodName) prog_57_method_1_code (3 : Nat) (Option.none : Option Jvm.ClassFile.FieldType), Jvm.Cond.code ({ cls := "java/lang/Record", name := "<init>", desc := "()V" } : Jvm.MethodName) jdk_30_method_1_code (1 : Nat) (Option.none : Option Jvm.ClassFile.FieldType), Jvm.Cond.code ({ cls := "com/example/growshrink/growshrink/engine/TransactionRecord", name := "holdBack", desc := "(Lcom/example/growshrink/growshrink/engine/TransactionRecord;)V" } : Jvm.MethodName) prog_56_method_14_code (2 : Nat) (Option.none : Option Jvm.ClassFile.FieldType), Jvm.Cond.code ({ cls := "java/util/ImmutableCollections$ListN", name := "isEmpty", desc := "()Z" } : Jvm.MethodName) jdk_45_method_2_code (1 : Nat) (Option.some Jvm.ClassFile.FieldType.boolean), Jvm.Cond.code ({ cls := "java/util/ArrayList", name := "<init>", desc := "()V" } : Jvm.MethodName) jdk_38_method_2_code (1 : Nat) (Option.none : Option Jvm.ClassFile.FieldType), Jvm.Cond.code ({ cls := "java/util/ArrayList", name := "add", desc := "(Ljava/lang/Object;)Z" } : Jvm.MethodName) jdk_38_method_25_code (2 : Nat) (Option.some Jvm.ClassFile.FieldType.boolean), Jvm.Cond.code ({ cls := "java/util/ArrayList", name := "add", desc := "(Ljava/lang/Object;[Ljava/lang/Object;I)V" } : Jvm.MethodName) jdk_38_method_24_code (4 : Nat) (Option.none : Option Jvm.ClassFile.FieldType), Jvm.Cond.code ({ cls := "java/util/ArrayList", name := "grow", desc := "()[Ljava/lang/Object;" } : Jvm.MethodName) jdk_38_method_7_code (1 : Nat) (Option.some (Jvm.ClassFile.FieldType.array (Jvm.ClassFile.FieldType.object "java/lang/Object"))), Jvm.Cond.code ({ cls := "java/util/ArrayList", name := "grow", desc := "(I)[Ljava/lang/Object;" } : Jvm.MethodName) jdk_38_method_6_code (4 : Nat) (Option.some (Jvm.ClassFile.FieldType.array (Jvm.ClassFile.FieldType.object "java/lang/Object"))), Jvm.Cond.code ({ cls := "java/lang/Math", name := "max", desc := "(II)I" } : Jvm.MethodName) jdk_29_method_65_code (2 : Nat) (Option.some Jvm.ClassFile.FieldType.int), Jvm.Cond.code ({ cls := "java/util/ArrayList", name := "isEmpty", desc := "()Z" } : Jvm.MethodName) jdk_38_method_9_code (1 : Nat) (Option.some Jvm.ClassFile.FieldType.boolean), Jvm.Cond.code ({ cls := "com/example/growshrink/growshrink/engine/TransactionRecord", name := "elderEnded", desc := "()Z" } : Jvm.MethodName) prog_56_method_18_code (1 : Nat) (Option.some Jvm.ClassFile.FieldType.boolean), Jvm.Cond.code ({ cls := "com/example/growshrink/growshrink/engine/TransactionRecord", name := "awaitsElders", desc := "()Z" } : Jvm.MethodName) prog_56_method_16_code (1 : Nat) (Option.some Jvm.ClassFile.FieldType.boolean), Jvm.Cond.code ({ cls := "com/example/growshrink/growshrink/engine/TransactionRecord", name := "unhold", desc := "()Lcom/example/growshrink/growshrink/engine/TransactionRecord$Request;" } : Jvm.MethodName) prog_56_method_19_code (2 : Nat) (Option.some (Jvm.ClassFile.FieldType.object "com/example/growshrink/growshrink/engine/TransactionRecord$Request")), Jvm.Cond.code ({ cls := "com/example/growshrink/growshrink/engine/TransactionRecord", name := "hold", desc := "(Lcom/example/growshrink/growshrink/engine/TransactionRecord$Request;)V" } : Jvm.MethodName) prog_56_method_17_code (2 : Nat) (Option.none : Option Jvm.ClassFile.FieldType)]
set_option maxRecDepth 65536 in
theorem codes_eq : words1.filter isCode = codes1 := rfl
theorem w_codes : ∀ c ∈ words1.filter isCode, c.before args0 about1 = true := by
  rw [codes_eq]
  intro c hc
  simp only [codes1, List.mem_cons, List.not_mem_nil, or_false] at hc
  rcases hc with rfl | rfl | rfl | rfl | rfl | rfl | rfl | rfl | rfl | rfl | rfl | rfl | rfl | rfl | rfl | rfl | rfl | rfl | rfl | rfl | rfl | rfl
  · exact w_c0
  · exact w_c1
  · exact w_c2
  · exact w_c3
  · exact w_c4
  · exact w_c5
  · exact w_c6
  · exact w_c7
  · exact w_c8
  · exact w_c9
  · exact w_c10
  · exact w_c11
  · exact w_c12
  · exact w_c13
  · exact w_c14
  · exact w_c15
  · exact w_c16
  · exact w_c17
  · exact w_c18
  · exact w_c19
  · exact w_c20
  · exact w_c21
set_option maxRecDepth 65536 in
theorem w_t1 : (words1.take 24).all (fun c => isCode c || c.before args0 about1) = true := by decide +kernel
set_option maxRecDepth 65536 in
theorem w_t2 : ((words1.drop 24).take 24).all (fun c => isCode c || c.before args0 about1) = true := by decide +kernel
set_option maxRecDepth 65536 in
theorem w_t3 : (((words1.drop 24).drop 24).take 24).all (fun c => isCode c || c.before args0 about1) = true := by decide +kernel
set_option maxRecDepth 65536 in
theorem w_t4 : ((((words1.drop 24).drop 24).drop 24).take 24).all (fun c => isCode c || c.before args0 about1) = true := by decide +kernel
set_option maxRecDepth 65536 in
theorem w_t5 : (((((words1.drop 24).drop 24).drop 24).drop 24).take 24).all (fun c => isCode c || c.before args0 about1) = true := by decide +kernel
set_option maxRecDepth 65536 in
theorem w_t6 : ((((((words1.drop 24).drop 24).drop 24).drop 24).drop 24).take 24).all (fun c => isCode c || c.before args0 about1) = true := by decide +kernel
set_option maxRecDepth 65536 in
theorem w_t7 : ((((((words1.drop 24).drop 24).drop 24).drop 24).drop 24).drop 24).all (fun c => isCode c || c.before args0 about1) = true := by decide +kernel
theorem w_tables : (allAtoms (Jvm.Cond.code x code maxLocals ret :: tables_1)).before args0 about1 = true := by
  rw [allAtoms_all]
  show words1.all (fun c => c.before args0 about1) = true
  refine all_split ?_ w_codes
  rw [← List.take_append_drop 24 words1, List.all_append, w_t1, ← List.take_append_drop 24 (words1.drop 24), List.all_append, w_t2, ← List.take_append_drop 24 ((words1.drop 24).drop 24), List.all_append, w_t3, ← List.take_append_drop 24 (((words1.drop 24).drop 24).drop 24), List.all_append, w_t4, ← List.take_append_drop 24 ((((words1.drop 24).drop 24).drop 24).drop 24), List.all_append, w_t5, ← List.take_append_drop 24 (((((words1.drop 24).drop 24).drop 24).drop 24).drop 24), List.all_append, w_t6, w_t7]
  rfl
set_option maxRecDepth 65536 in
theorem w_rest : rest_1_c.before args0 about1 = true := by decide +kernel
set_option maxRecDepth 65536 in
theorem w_case : (Jvm.Cond.and given_1 narrow_1).before args0 about1 = true := by decide +kernel
theorem w_applies : (headSpec (Jvm.Cond.code x code maxLocals ret :: tables_1) room_1).applies x e0.platform about1 = true :=
  (Spec.applies_iff w_frames).mpr ⟨w_running, w_runnable, w_alone, w_named, w_hears, w_ripe, w_room, w_tables⟩
theorem atStart : AtStart classFile x code maxLocals ret World_1 tables_1 room_1 Calls_1 rest_1 Pre_1 launch0 p0 e0 about1 theMethod args0 below0 :=
  ⟨lists_1, trivial, launch0.admits_env _ _ _, launch0.least_env, fairChoices_fair.cas, fairChoices_fair.clock, w_frames, w_args, w_heap, w_applies, trivial, w_rest, w_case⟩
end start1
theorem witness_1 : WitnessClaimed_1 := ⟨start1.p0, start1.e0, start1.about1, start1.theMethod, start1.args0, start1.below0, start1.atStart⟩
end Jvm.Pilot.@@N@@
