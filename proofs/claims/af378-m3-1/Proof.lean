import JvmDerived
import JvmDerived.Pilot.@@N@@Statement
import JvmDerived.Pilot.@@N@@Code
set_option linter.unusedVariables false
set_option linter.unusedSimpArgs false
namespace Jvm.RoadKit
open Sem ClassFile Op Lib Jvm.Stand Jvm.Free Jvm.LawKit
section New
variable {p : Program} {l : Launch} {e : Env} {R : Room} {s : State} {m : MethodId} {args : Array Value} {below : List Frame} {meth : Method} {c : Code} {T : State} {locs : List Loc} {cells slots : Nat}
theorem retI (X : Stand p l e R s m args below meth c T locs cells slots) (hx : p.tables.exec = Jvm.exec) {pc : Nat} {Ls : Array Slot} {z : Int32} {rest : List Value} (hret : meth.sig.returnType = some .int) (hd : decode c.code pc = .ok (.ireturn, 1)) {fs : List Frame}
    (hl : ∀ (f : JFrame) (acts : List Action), f.method = m → f.locked = none → f.entered = [] → (doReturn e (T.setTop f) acts (some (.int z))).1 = T.setFrames fs) : Steps p.tables e below (T.setTop (mkF m pc Ls (.int z :: rest))) (T.setFrames fs) := by
  have hm' : T.vm.method? m = some meth := X.method'
  have hn : narrow .int (.int z) = .int z := rfl
  show Steps p.tables e below (T.setTop { method := m, pc := pc, locals := Ls, stack := _ :: rest, locked := none }) _
  jvm_step X.here [X.here.top, hx, hd, hm', hret, hn]
  first | (intro acts; rw [hl _ acts rfl rfl rfl]) | rw [hl _ _ rfl rfl rfl]
  exact Steps.refl _
end New
end Jvm.RoadKit
namespace Jvm.Pilot.@@N@@
open Jvm Jvm.ClassFile Sem Op Lib Jvm.Free Jvm.Stand Jvm.LawKit Jvm.RoadKit Bundle Jvm.Pilot.@@N@@.Jvm.D
section Kit
variable {p : Program} {l : Launch} {e : Env} {R : Room} {s : State} {m : MethodId} {args : Array Value} {below : List Frame} {meth : Method} {c : Code} {T : State} {locs : List Loc} {cells slots : Nat} {G : State → Prop} {L L' : Array Slot} {S : List Value} {pc q q1 : Nat}
/-- from this frame the run comes to a state of which G holds -/
def Go (p : Program) (e : Env) (below : List Frame) (G : State → Prop) (T : State) (m : MethodId) (pc : Nat) (L : Array Slot) (S : List Value) : Prop := ∃ t, Steps p.tables e below (T.setTop (mkF m pc L S)) t ∧ G t
theorem Go.st {T' : State} {m' : MethodId} {pc' : Nat} {S' : List Value} (h : ∀ t, Steps p.tables e below (T'.setTop (mkF m' pc' L' S')) t → Steps p.tables e below (T.setTop (mkF m pc L S)) t) (k : Go p e below G T' m' pc' L' S') : Go p e below G T m pc L S := by
  obtain ⟨t, h1, h2⟩ := k; exact ⟨t, h t h1, h2⟩
theorem jn {T2 : State} {pc2 : Nat} {L2 : Array Slot} {S2 : List Value} (k : Go p e below G T2 m pc2 L2 S2 → Go p e below G T m pc L S) (K : Go p e below G T2 m pc2 L2 S2) : Go p e below G T m pc L S := k K
/-- what a body that returns leaves -/
def Gl (s : State) (below : List Frame) (Q : Option Value → Heap → List Loc → Prop) (C N : Nat) (t : State) : Prop := ∃ o, t.status = .running ∧ Ended t below o ∧ ∃ v L, o = .returned v ∧ Q v t.heap L ∧ FrameEnd s o t L C N
/-- a contract -/
def Ctr (l : Launch) (y : MethodName) (code : ByteArray) (ml : Nat) (ret : Option FieldType) (ws : List Jvm.Cond) (rm : Room) (Z : State) (as' : Array Value) (h0 : Heap) (Q : Option Value → Heap → List Loc → Prop) (C N : Nat) : Prop :=
  MetFree l y (head1 (Jvm.Cond.code y code ml ret :: ws) rm) (fun a U => a = as' ∧ Z.Warmed39 U.vm ∧ U.heap = h0) (fun _ _ _ _ _ => True) (fun _ U o U' => ∃ v L, o = .returned v ∧ Q v U'.heap L ∧ FrameEnd U o U' L C N)
theorem Ctr.mk {y : MethodName} {code : ByteArray} {ml : Nat} {ret : Option FieldType} {ws : List Jvm.Cond} {rm : Room} {Z : State} {as' : Array Value} {h0 : Heap} {Q : Option Value → Heap → List Loc → Prop} {C N : Nat} (hp : plainFor y = true)
    (body : ∀ (p : Program) (e : Env) (s : State) (m : MethodId) (below : List Frame) (meth : Method) (c : Code) (T : State), p.tables.exec = Jvm.exec → c.code = code → c.maxLocals = ml → s.vm.findClass y.cls = some m.cls → meth.name = y.name → meth.locks = false → meth.sig.returnType = ret → Z.Warmed39 s.vm → Stand p l e rm s m as' below meth c T [] 0 0 → T.heap = h0 → ∃ t, Steps p.tables e below (T.setTop (entryFrame m as' ml)) t ∧ Gl s below Q C N t) : Ctr l y code ml ret ws rm Z as' h0 Q C N := by
  refine MetFree.of_bodySF hp hisR ?_
  intro p e s m args below meth c s₁ Bd hml0 hP hK
  obtain ⟨rfl, hZ, hh⟩ := hP
  obtain ⟨t, h1, o, h2, h3, h4⟩ := body p e s m below meth c s₁ Bd.exec Bd.bytes hml0 (findClass_of_methodNamed Bd.named) (name_of_methodNamed Bd.named Bd.method).1 Bd.notSynchronized Bd.returns hZ (Stand.of_body Bd) (by rw [← hh, Bd.state]; rfl)
  exact ⟨t, o, h1, h2, h3, h4⟩
theorem enter {as' : Array Value} {ml : Nat} (q : entryFrame m as' ml = mkF m 0 L []) (k : Go p e below G T m 0 L []) : ∃ t, Steps p.tables e below (T.setTop (entryFrame m as' ml)) t ∧ G t := by
  rw [q]; exact k
theorem s_iloadN (X : Stand p l e R s m args below meth c T locs cells slots) (hx : p.tables.exec = Jvm.exec) {k : Fin 4} {v : Int32} (hd : decode c.code pc = .ok (.iload_n k, 1)) (hl : L[k.val]? = some (.val (.int v))) (hq : pc + 1 = q) (K : Go p e below G T m q L (.int v :: S)) : Go p e below G T m pc L S := by
  subst hq; exact Go.st (fun t k => XS.iloadN X.here hx rfl hd hl k) K
theorem s_iload (X : Stand p l e R s m args below meth c T locs cells slots) (hx : p.tables.exec = Jvm.exec) {k : Nat} {v : Int32} (hd : decode c.code pc = .ok (.iload k, 2)) (hl : L[k]? = some (.val (.int v))) (hq : pc + 2 = q) (K : Go p e below G T m q L (.int v :: S)) : Go p e below G T m pc L S := by
  subst hq; exact Go.st (fun t k => XS.iload X.here hx rfl hd hl k) K
theorem s_lloadN (X : Stand p l e R s m args below meth c T locs cells slots) (hx : p.tables.exec = Jvm.exec) {k : Fin 4} {v : Int64} (hd : decode c.code pc = .ok (.lload_n k, 1)) (hl : L[k.val]? = some (.val (.long v))) (hq : pc + 1 = q) (K : Go p e below G T m q L (.long v :: S)) : Go p e below G T m pc L S := by
  subst hq; exact Go.st (fun t k => XS.lloadN X.here hx rfl hd hl k) K
theorem s_lload (X : Stand p l e R s m args below meth c T locs cells slots) (hx : p.tables.exec = Jvm.exec) {k : Nat} {v : Int64} (hd : decode c.code pc = .ok (.lload k, 2)) (hl : L[k]? = some (.val (.long v))) (hq : pc + 2 = q) (K : Go p e below G T m q L (.long v :: S)) : Go p e below G T m pc L S := by
  subst hq; exact Go.st (fun t k => XS.lload X.here hx rfl hd hl k) K
theorem s_aloadN (X : Stand p l e R s m args below meth c T locs cells slots) (hx : p.tables.exec = Jvm.exec) {k : Fin 4} {v : Value} (hd : decode c.code pc = .ok (.aload_n k, 1)) (hl : L[k.val]? = some (.val v)) (hv : v.isRef = true) (hq : pc + 1 = q) (K : Go p e below G T m q L (v :: S)) : Go p e below G T m pc L S := by
  subst hq; exact Go.st (fun t k => XS.aloadN X.here hx rfl hd hl hv k) K
theorem s_aload (X : Stand p l e R s m args below meth c T locs cells slots) (hx : p.tables.exec = Jvm.exec) {k : Nat} {v : Value} (hd : decode c.code pc = .ok (.aload k, 2)) (hl : L[k]? = some (.val v)) (hv : v.isRef = true) (hq : pc + 2 = q) (K : Go p e below G T m q L (v :: S)) : Go p e below G T m pc L S := by
  subst hq; exact Go.st (fun t k => XS.aload X.here hx rfl hd hl hv k) K
theorem s_istoreN (X : Stand p l e R s m args below meth c T locs cells slots) (hx : p.tables.exec = Jvm.exec) {k : Fin 4} {x : Int32} (hd : decode c.code pc = .ok (.istore_n k, 1)) (hl : storeLocals L k.val (.int x) = some L') (hq : pc + 1 = q) (K : Go p e below G T m q L' S) : Go p e below G T m pc L (.int x :: S) := by
  subst hq; exact Go.st (fun t k => XS.istoreN X.here hx rfl hd rfl hl k) K
theorem s_istore (X : Stand p l e R s m args below meth c T locs cells slots) (hx : p.tables.exec = Jvm.exec) {k : Nat} {x : Int32} (hd : decode c.code pc = .ok (.istore k, 2)) (hl : storeLocals L k (.int x) = some L') (hq : pc + 2 = q) (K : Go p e below G T m q L' S) : Go p e below G T m pc L (.int x :: S) := by
  subst hq; exact Go.st (fun t k => XS.istore X.here hx rfl hd rfl hl k) K
theorem s_lstoreN (X : Stand p l e R s m args below meth c T locs cells slots) (hx : p.tables.exec = Jvm.exec) {k : Fin 4} {x : Int64} (hd : decode c.code pc = .ok (.lstore_n k, 1)) (hl : storeLocals L k.val (.long x) = some L') (hq : pc + 1 = q) (K : Go p e below G T m q L' S) : Go p e below G T m pc L (.long x :: S) := by
  subst hq; exact Go.st (fun t k => XS.lstoreN X.here hx rfl hd rfl hl k) K
theorem s_lstore (X : Stand p l e R s m args below meth c T locs cells slots) (hx : p.tables.exec = Jvm.exec) {k : Nat} {x : Int64} (hd : decode c.code pc = .ok (.lstore k, 2)) (hl : storeLocals L k (.long x) = some L') (hq : pc + 2 = q) (K : Go p e below G T m q L' S) : Go p e below G T m pc L (.long x :: S) := by
  subst hq; exact Go.st (fun t k => XS.lstore X.here hx rfl hd rfl hl k) K
theorem s_astoreN (X : Stand p l e R s m args below meth c T locs cells slots) (hx : p.tables.exec = Jvm.exec) {k : Fin 4} {x : Value} (hd : decode c.code pc = .ok (.astore_n k, 1)) (hv : x.isRef = true) (hl : storeLocals L k.val x = some L') (hq : pc + 1 = q) (K : Go p e below G T m q L' S) : Go p e below G T m pc L (x :: S) := by
  subst hq; exact Go.st (fun t k => XS.astoreN X.here hx rfl hd rfl hv hl k) K
theorem s_astore (X : Stand p l e R s m args below meth c T locs cells slots) (hx : p.tables.exec = Jvm.exec) {k : Nat} {x : Value} (hd : decode c.code pc = .ok (.astore k, 2)) (hv : x.isRef = true) (hl : storeLocals L k x = some L') (hq : pc + 2 = q) (K : Go p e below G T m q L' S) : Go p e below G T m pc L (x :: S) := by
  subst hq; exact Go.st (fun t k => XS.astore X.here hx rfl hd rfl hv hl k) K
theorem s_iconst (X : Stand p l e R s m args below meth c T locs cells slots) (hx : p.tables.exec = Jvm.exec) {i : Int} {z : Int32} (hd : decode c.code pc = .ok (.iconst i, 1)) (hz : Int32.ofInt i = z) (hq : pc + 1 = q) (K : Go p e below G T m q L (.int z :: S)) : Go p e below G T m pc L S := by
  subst hq hz; exact Go.st (fun t k => XS.iconst X.here hx rfl hd k) K
theorem s_bipush (X : Stand p l e R s m args below meth c T locs cells slots) (hx : p.tables.exec = Jvm.exec) {i : Int} {z : Int32} (hd : decode c.code pc = .ok (.bipush i, 2)) (hz : (Int8.ofInt i).toInt32 = z) (hq : pc + 2 = q) (K : Go p e below G T m q L (.int z :: S)) : Go p e below G T m pc L S := by
  subst hq hz; exact Go.st (fun t k => XS.bipush X.here hx rfl hd k) K
theorem s_sipush (X : Stand p l e R s m args below meth c T locs cells slots) (hx : p.tables.exec = Jvm.exec) {i : Int} {z : Int32} (hd : decode c.code pc = .ok (.sipush i, 3)) (hz : (Int16.ofInt i).toInt32 = z) (hq : pc + 3 = q) (K : Go p e below G T m q L (.int z :: S)) : Go p e below G T m pc L S := by
  subst hq hz; exact Go.st (fun t k => XS.sipush X.here hx rfl hd k) K
theorem s_lconst (X : Stand p l e R s m args below meth c T locs cells slots) (hx : p.tables.exec = Jvm.exec) {i : Fin 2} {z : Int64} (hd : decode c.code pc = .ok (.lconst i, 1)) (hz : Int64.ofNat i.val = z) (hq : pc + 1 = q) (K : Go p e below G T m q L (.long z :: S)) : Go p e below G T m pc L S := by
  subst hq hz; exact Go.st (fun t k => XS.lconst X.here hx rfl hd k) K
theorem s_aconst_null (X : Stand p l e R s m args below meth c T locs cells slots) (hx : p.tables.exec = Jvm.exec)  (hd : decode c.code pc = .ok (.aconst_null, 1))  (hq : pc + 1 = q) (K : Go p e below G T m q L (.null :: S)) : Go p e below G T m pc L S := by
  subst hq; exact Go.st (fun t k => XS.aconstNull X.here hx rfl hd k) K
theorem s_iadd (X : Stand p l e R s m args below meth c T locs cells slots) (hx : p.tables.exec = Jvm.exec) {x y : Int32} (hd : decode c.code pc = .ok (.iadd, 1))  (hq : pc + 1 = q) (K : Go p e below G T m q L (.int (x + y) :: S)) : Go p e below G T m pc L (.int y :: .int x :: S) := by
  subst hq; exact Go.st (fun t k => XS.iadd X.here hx rfl hd rfl k) K
theorem s_isub (X : Stand p l e R s m args below meth c T locs cells slots) (hx : p.tables.exec = Jvm.exec) {x y : Int32} (hd : decode c.code pc = .ok (.isub, 1))  (hq : pc + 1 = q) (K : Go p e below G T m q L (.int (x - y) :: S)) : Go p e below G T m pc L (.int y :: .int x :: S) := by
  subst hq; exact Go.st (fun t k => XS.isub X.here hx rfl hd rfl k) K
theorem s_imul (X : Stand p l e R s m args below meth c T locs cells slots) (hx : p.tables.exec = Jvm.exec) {x y : Int32} (hd : decode c.code pc = .ok (.imul, 1))  (hq : pc + 1 = q) (K : Go p e below G T m q L (.int (x * y) :: S)) : Go p e below G T m pc L (.int y :: .int x :: S) := by
  subst hq; exact Go.st (fun t k => XS.imul X.here hx rfl hd rfl k) K
theorem s_iand (X : Stand p l e R s m args below meth c T locs cells slots) (hx : p.tables.exec = Jvm.exec) {x y : Int32} (hd : decode c.code pc = .ok (.iand, 1))  (hq : pc + 1 = q) (K : Go p e below G T m q L (.int (x &&& y) :: S)) : Go p e below G T m pc L (.int y :: .int x :: S) := by
  subst hq; exact Go.st (fun t k => XS.iand X.here hx rfl hd rfl k) K
theorem s_ior (X : Stand p l e R s m args below meth c T locs cells slots) (hx : p.tables.exec = Jvm.exec) {x y : Int32} (hd : decode c.code pc = .ok (.ior, 1))  (hq : pc + 1 = q) (K : Go p e below G T m q L (.int (x ||| y) :: S)) : Go p e below G T m pc L (.int y :: .int x :: S) := by
  subst hq; exact Go.st (fun t k => XS.ior X.here hx rfl hd rfl k) K
theorem s_ixor (X : Stand p l e R s m args below meth c T locs cells slots) (hx : p.tables.exec = Jvm.exec) {x y : Int32} (hd : decode c.code pc = .ok (.ixor, 1))  (hq : pc + 1 = q) (K : Go p e below G T m q L (.int (x ^^^ y) :: S)) : Go p e below G T m pc L (.int y :: .int x :: S) := by
  subst hq; exact Go.st (fun t k => XS.ixor X.here hx rfl hd rfl k) K
theorem s_ladd (X : Stand p l e R s m args below meth c T locs cells slots) (hx : p.tables.exec = Jvm.exec) {x y : Int64} (hd : decode c.code pc = .ok (.ladd, 1))  (hq : pc + 1 = q) (K : Go p e below G T m q L (.long (x + y) :: S)) : Go p e below G T m pc L (.long y :: .long x :: S) := by
  subst hq; exact Go.st (fun t k => XS.ladd X.here hx rfl hd rfl k) K
theorem s_lsub (X : Stand p l e R s m args below meth c T locs cells slots) (hx : p.tables.exec = Jvm.exec) {x y : Int64} (hd : decode c.code pc = .ok (.lsub, 1))  (hq : pc + 1 = q) (K : Go p e below G T m q L (.long (x - y) :: S)) : Go p e below G T m pc L (.long y :: .long x :: S) := by
  subst hq; exact Go.st (fun t k => XS.lsub X.here hx rfl hd rfl k) K
theorem s_lmul (X : Stand p l e R s m args below meth c T locs cells slots) (hx : p.tables.exec = Jvm.exec) {x y : Int64} (hd : decode c.code pc = .ok (.lmul, 1))  (hq : pc + 1 = q) (K : Go p e below G T m q L (.long (x * y) :: S)) : Go p e below G T m pc L (.long y :: .long x :: S) := by
  subst hq; exact Go.st (fun t k => XS.lmul X.here hx rfl hd rfl k) K
theorem s_land (X : Stand p l e R s m args below meth c T locs cells slots) (hx : p.tables.exec = Jvm.exec) {x y : Int64} (hd : decode c.code pc = .ok (.land, 1))  (hq : pc + 1 = q) (K : Go p e below G T m q L (.long (x &&& y) :: S)) : Go p e below G T m pc L (.long y :: .long x :: S) := by
  subst hq; exact Go.st (fun t k => XS.land X.here hx rfl hd rfl k) K
theorem s_lor (X : Stand p l e R s m args below meth c T locs cells slots) (hx : p.tables.exec = Jvm.exec) {x y : Int64} (hd : decode c.code pc = .ok (.lor, 1))  (hq : pc + 1 = q) (K : Go p e below G T m q L (.long (x ||| y) :: S)) : Go p e below G T m pc L (.long y :: .long x :: S) := by
  subst hq; exact Go.st (fun t k => XS.lor X.here hx rfl hd rfl k) K
theorem s_lxor (X : Stand p l e R s m args below meth c T locs cells slots) (hx : p.tables.exec = Jvm.exec) {x y : Int64} (hd : decode c.code pc = .ok (.lxor, 1))  (hq : pc + 1 = q) (K : Go p e below G T m q L (.long (x ^^^ y) :: S)) : Go p e below G T m pc L (.long y :: .long x :: S) := by
  subst hq; exact Go.st (fun t k => XS.lxor X.here hx rfl hd rfl k) K
theorem s_ishl (X : Stand p l e R s m args below meth c T locs cells slots) (hx : p.tables.exec = Jvm.exec) {x y : Int32} (hd : decode c.code pc = .ok (.ishl, 1))  (hq : pc + 1 = q) (K : Go p e below G T m q L (.int (x <<< (y &&& 31)) :: S)) : Go p e below G T m pc L (.int y :: .int x :: S) := by
  subst hq; exact Go.st (fun t k => XS.ishl X.here hx rfl hd rfl k) K
theorem s_ishr (X : Stand p l e R s m args below meth c T locs cells slots) (hx : p.tables.exec = Jvm.exec) {x y : Int32} (hd : decode c.code pc = .ok (.ishr, 1))  (hq : pc + 1 = q) (K : Go p e below G T m q L (.int (x >>> (y &&& 31)) :: S)) : Go p e below G T m pc L (.int y :: .int x :: S) := by
  subst hq; exact Go.st (fun t k => XS.ishr X.here hx rfl hd rfl k) K
theorem s_iushr (X : Stand p l e R s m args below meth c T locs cells slots) (hx : p.tables.exec = Jvm.exec) {x y : Int32} (hd : decode c.code pc = .ok (.iushr, 1))  (hq : pc + 1 = q) (K : Go p e below G T m q L (.int ((x.toUInt32 >>> (y &&& 31).toUInt32).toInt32) :: S)) : Go p e below G T m pc L (.int y :: .int x :: S) := by
  subst hq; exact Go.st (fun t k => XS.iushr X.here hx rfl hd rfl k) K
theorem s_lshl (X : Stand p l e R s m args below meth c T locs cells slots) (hx : p.tables.exec = Jvm.exec) {x : Int64} {y : Int32} (hd : decode c.code pc = .ok (.lshl, 1))  (hq : pc + 1 = q) (K : Go p e below G T m q L (.long (x <<< (y &&& 0x3f).toInt64) :: S)) : Go p e below G T m pc L (.int y :: .long x :: S) := by
  subst hq; exact Go.st (fun t k => XS.lshl X.here hx rfl hd rfl k) K
theorem s_lshr (X : Stand p l e R s m args below meth c T locs cells slots) (hx : p.tables.exec = Jvm.exec) {x : Int64} {y : Int32} (hd : decode c.code pc = .ok (.lshr, 1))  (hq : pc + 1 = q) (K : Go p e below G T m q L (.long (x >>> (y &&& 0x3f).toInt64) :: S)) : Go p e below G T m pc L (.int y :: .long x :: S) := by
  subst hq; exact Go.st (fun t k => XS.lshr X.here hx rfl hd rfl k) K
theorem s_lushr (X : Stand p l e R s m args below meth c T locs cells slots) (hx : p.tables.exec = Jvm.exec) {x : Int64} {y : Int32} (hd : decode c.code pc = .ok (.lushr, 1))  (hq : pc + 1 = q) (K : Go p e below G T m q L (.long ((x.toUInt64 >>> (y &&& 0x3f).toInt64.toUInt64).toInt64) :: S)) : Go p e below G T m pc L (.int y :: .long x :: S) := by
  subst hq; exact Go.st (fun t k => XS.lushr X.here hx rfl hd rfl k) K
theorem s_idiv (X : Stand p l e R s m args below meth c T locs cells slots) (hx : p.tables.exec = Jvm.exec) {x y : Int32} (hd : decode c.code pc = .ok (.idiv, 1)) (hy : y ≠ 0) (hq : pc + 1 = q) (K : Go p e below G T m q L (.int (x / y) :: S)) : Go p e below G T m pc L (.int y :: .int x :: S) := by
  subst hq; exact Go.st (fun t k => XS.idiv X.here hx rfl hd rfl hy k) K
theorem s_ldiv (X : Stand p l e R s m args below meth c T locs cells slots) (hx : p.tables.exec = Jvm.exec) {x y : Int64} (hd : decode c.code pc = .ok (.ldiv, 1)) (hy : y ≠ 0) (hq : pc + 1 = q) (K : Go p e below G T m q L (.long (x / y) :: S)) : Go p e below G T m pc L (.long y :: .long x :: S) := by
  subst hq; exact Go.st (fun t k => XS.ldiv X.here hx rfl hd rfl hy k) K
theorem s_ineg (X : Stand p l e R s m args below meth c T locs cells slots) (hx : p.tables.exec = Jvm.exec) {x : Int32} (hd : decode c.code pc = .ok (.ineg, 1))  (hq : pc + 1 = q) (K : Go p e below G T m q L (.int (-x) :: S)) : Go p e below G T m pc L (.int x :: S) := by
  subst hq; exact Go.st (fun t k => XS.ineg X.here hx rfl hd rfl k) K
theorem s_lneg (X : Stand p l e R s m args below meth c T locs cells slots) (hx : p.tables.exec = Jvm.exec) {x : Int64} (hd : decode c.code pc = .ok (.lneg, 1))  (hq : pc + 1 = q) (K : Go p e below G T m q L (.long (-x) :: S)) : Go p e below G T m pc L (.long x :: S) := by
  subst hq; exact Go.st (fun t k => XS.lneg X.here hx rfl hd rfl k) K
theorem s_i2l (X : Stand p l e R s m args below meth c T locs cells slots) (hx : p.tables.exec = Jvm.exec) {x : Int32} (hd : decode c.code pc = .ok (.i2l, 1))  (hq : pc + 1 = q) (K : Go p e below G T m q L (.long x.toInt64 :: S)) : Go p e below G T m pc L (.int x :: S) := by
  subst hq; exact Go.st (fun t k => XS.i2l X.here hx rfl hd rfl k) K
theorem s_l2i (X : Stand p l e R s m args below meth c T locs cells slots) (hx : p.tables.exec = Jvm.exec) {x : Int64} (hd : decode c.code pc = .ok (.l2i, 1))  (hq : pc + 1 = q) (K : Go p e below G T m q L (.int x.toInt32 :: S)) : Go p e below G T m pc L (.long x :: S) := by
  subst hq; exact Go.st (fun t k => XS.l2i X.here hx rfl hd rfl k) K
theorem s_i2b (X : Stand p l e R s m args below meth c T locs cells slots) (hx : p.tables.exec = Jvm.exec) {x : Int32} (hd : decode c.code pc = .ok (.i2b, 1))  (hq : pc + 1 = q) (K : Go p e below G T m q L (.int x.toInt8.toInt32 :: S)) : Go p e below G T m pc L (.int x :: S) := by
  subst hq; exact Go.st (fun t k => XS.i2b X.here hx rfl hd rfl k) K
theorem s_i2c (X : Stand p l e R s m args below meth c T locs cells slots) (hx : p.tables.exec = Jvm.exec) {x : Int32} (hd : decode c.code pc = .ok (.i2c, 1))  (hq : pc + 1 = q) (K : Go p e below G T m q L (.int x.toUInt32.toUInt16.toUInt32.toInt32 :: S)) : Go p e below G T m pc L (.int x :: S) := by
  subst hq; exact Go.st (fun t k => XS.i2c X.here hx rfl hd rfl k) K
theorem s_i2s (X : Stand p l e R s m args below meth c T locs cells slots) (hx : p.tables.exec = Jvm.exec) {x : Int32} (hd : decode c.code pc = .ok (.i2s, 1))  (hq : pc + 1 = q) (K : Go p e below G T m q L (.int x.toInt16.toInt32 :: S)) : Go p e below G T m pc L (.int x :: S) := by
  subst hq; exact Go.st (fun t k => XS.i2s X.here hx rfl hd rfl k) K
theorem s_lcmp (X : Stand p l e R s m args below meth c T locs cells slots) (hx : p.tables.exec = Jvm.exec) {x y : Int64} (hd : decode c.code pc = .ok (.lcmp, 1))  (hq : pc + 1 = q) (K : Go p e below G T m q L (.int (lcmpW x y) :: S)) : Go p e below G T m pc L (.long y :: .long x :: S) := by
  subst hq; exact Go.st (fun t k => XS.lcmp X.here hx rfl hd rfl k) K
theorem s_iinc (X : Stand p l e R s m args below meth c T locs cells slots) (hx : p.tables.exec = Jvm.exec) {k : Nat} {cst : Int} {x w : Int32} (hd : decode c.code pc = .ok (.iinc k cst, 3)) (hl : L[k]? = some (.val (.int x))) (hw : x + Int32.ofInt cst = w) (hl' : storeLocals L k (.int w) = some L') (hq : pc + 3 = q) (K : Go p e below G T m q L' S) : Go p e below G T m pc L S := by
  subst hq hw; exact Go.st (fun t k => XS.iinc X.here hx rfl hd hl hl' k) K
theorem s_dup (X : Stand p l e R s m args below meth c T locs cells slots) (hx : p.tables.exec = Jvm.exec) {x : Value} (hd : decode c.code pc = .ok (.dup, 1)) (hc : x.category = 1) (hq : pc + 1 = q) (K : Go p e below G T m q L (x :: x :: S)) : Go p e below G T m pc L (x :: S) := by
  subst hq; exact Go.st (fun t k => XS.dup X.here hx rfl hd rfl hc k) K
theorem s_dup_x1 (X : Stand p l e R s m args below meth c T locs cells slots) (hx : p.tables.exec = Jvm.exec) {x y : Value} (hd : decode c.code pc = .ok (.dup_x1, 1)) (hc : x.category = 1) (hc' : y.category = 1) (hq : pc + 1 = q) (K : Go p e below G T m q L (x :: y :: x :: S)) : Go p e below G T m pc L (x :: y :: S) := by
  subst hq; exact Go.st (fun t k => XS.dupX1 X.here hx rfl hd rfl hc hc' k) K
theorem s_dup2 (X : Stand p l e R s m args below meth c T locs cells slots) (hx : p.tables.exec = Jvm.exec) {x y : Value} (hd : decode c.code pc = .ok (.dup2, 1)) (hc : x.category = 1) (hc' : y.category = 1) (hq : pc + 1 = q) (K : Go p e below G T m q L (x :: y :: x :: y :: S)) : Go p e below G T m pc L (x :: y :: S) := by
  subst hq; exact Go.st (fun t k => Jvm.Free.XT.dup2 X.here hx rfl hd rfl hc hc' k) K
theorem s_dup2L (X : Stand p l e R s m args below meth c T locs cells slots) (hx : p.tables.exec = Jvm.exec) {x : Int64} (hd : decode c.code pc = .ok (.dup2, 1))  (hq : pc + 1 = q) (K : Go p e below G T m q L (.long x :: .long x :: S)) : Go p e below G T m pc L (.long x :: S) := by
  subst hq; exact Go.st (fun t k => Jvm.Free.XT.dup2L X.here hx rfl hd rfl k) K
theorem s_pop (X : Stand p l e R s m args below meth c T locs cells slots) (hx : p.tables.exec = Jvm.exec) {x : Value} (hd : decode c.code pc = .ok (.pop, 1)) (hc : x.category = 1) (hq : pc + 1 = q) (K : Go p e below G T m q L S) : Go p e below G T m pc L (x :: S) := by
  subst hq; exact Go.st (fun t k => XS.pop X.here hx rfl hd rfl hc k) K
theorem s_goto (X : Stand p l e R s m args below meth c T locs cells slots) (hx : p.tables.exec = Jvm.exec) {o : Int} (hd : decode c.code pc = .ok (.goto o, 3)) (ho : 0 ≤ (pc : Int) + o) (hp : ((pc : Int) + o).toNat = q1) (K : Go p e below G T m q1 L S) : Go p e below G T m pc L S := Go.st (fun t k => XS.goto X.here hx rfl rfl hd ho hp k) K
theorem f_icmp_lt (X : Stand p l e R s m args below meth c T locs cells slots) (hx : p.tables.exec = Jvm.exec) {x y : Int32} {o : Int} (hd : decode c.code pc = .ok (.if_icmp .lt o, 3)) (ho : 0 ≤ (pc : Int) + o) (hp : ((pc : Int) + o).toNat = q1) (hq : pc + 3 = q) (ky : x < y → Go p e below G T m q1 L S) (kn : ¬ x < y → Go p e below G T m q L S) : Go p e below G T m pc L (.int y :: .int x :: S) := by
  subst hq
  by_cases h : x < y
  · exact Go.st (fun t k => XS.icmpYes X.here hx rfl rfl hd rfl (tlt h).1 ho hp k) (ky h)
  · exact Go.st (fun t k => XS.icmpNo X.here hx rfl hd rfl (flt h).1 k) (kn h)
theorem f_if_lt (X : Stand p l e R s m args below meth c T locs cells slots) (hx : p.tables.exec = Jvm.exec) {x : Int32} {o : Int} (hd : decode c.code pc = .ok (.ifCond .lt o, 3)) (ho : 0 ≤ (pc : Int) + o) (hp : ((pc : Int) + o).toNat = q1) (hq : pc + 3 = q) (ky : x < 0 → Go p e below G T m q1 L S) (kn : ¬ x < 0 → Go p e below G T m q L S) : Go p e below G T m pc L (.int x :: S) := by
  subst hq
  by_cases h : x < 0
  · exact Go.st (fun t k => XS.ifYes X.here hx rfl rfl hd rfl ((if0 _ _).trans (tlt h).1) ho hp k) (ky h)
  · exact Go.st (fun t k => XS.ifNo X.here hx rfl hd rfl ((if0 _ _).trans (flt h).1) k) (kn h)
theorem f_lcmp_lt (X : Stand p l e R s m args below meth c T locs cells slots) (hx : p.tables.exec = Jvm.exec) {x y : Int64} {o : Int} (hd : decode c.code pc = .ok (.ifCond .lt o, 3)) (ho : 0 ≤ (pc : Int) + o) (hp : ((pc : Int) + o).toNat = q1) (hq : pc + 3 = q) (ky : x < y → Go p e below G T m q1 L S) (kn : ¬ x < y → Go p e below G T m q L S) : Go p e below G T m pc L (.int (lcmpW x y) :: S) :=
  f_if_lt X hx hd ho hp hq (fun h => ky ((lw_lt x y).mp h)) (fun h => kn (fun g => h ((lw_lt x y).mpr g)))
theorem f_icmp_ge (X : Stand p l e R s m args below meth c T locs cells slots) (hx : p.tables.exec = Jvm.exec) {x y : Int32} {o : Int} (hd : decode c.code pc = .ok (.if_icmp .ge o, 3)) (ho : 0 ≤ (pc : Int) + o) (hp : ((pc : Int) + o).toNat = q1) (hq : pc + 3 = q) (ky : ¬ x < y → Go p e below G T m q1 L S) (kn : x < y → Go p e below G T m q L S) : Go p e below G T m pc L (.int y :: .int x :: S) := by
  subst hq
  by_cases h : x < y
  · exact Go.st (fun t k => XS.icmpNo X.here hx rfl hd rfl (tlt h).2.1 k) (kn h)
  · exact Go.st (fun t k => XS.icmpYes X.here hx rfl rfl hd rfl (flt h).2.1 ho hp k) (ky h)
theorem f_if_ge (X : Stand p l e R s m args below meth c T locs cells slots) (hx : p.tables.exec = Jvm.exec) {x : Int32} {o : Int} (hd : decode c.code pc = .ok (.ifCond .ge o, 3)) (ho : 0 ≤ (pc : Int) + o) (hp : ((pc : Int) + o).toNat = q1) (hq : pc + 3 = q) (ky : ¬ x < 0 → Go p e below G T m q1 L S) (kn : x < 0 → Go p e below G T m q L S) : Go p e below G T m pc L (.int x :: S) := by
  subst hq
  by_cases h : x < 0
  · exact Go.st (fun t k => XS.ifNo X.here hx rfl hd rfl ((if0 _ _).trans (tlt h).2.1) k) (kn h)
  · exact Go.st (fun t k => XS.ifYes X.here hx rfl rfl hd rfl ((if0 _ _).trans (flt h).2.1) ho hp k) (ky h)
theorem f_lcmp_ge (X : Stand p l e R s m args below meth c T locs cells slots) (hx : p.tables.exec = Jvm.exec) {x y : Int64} {o : Int} (hd : decode c.code pc = .ok (.ifCond .ge o, 3)) (ho : 0 ≤ (pc : Int) + o) (hp : ((pc : Int) + o).toNat = q1) (hq : pc + 3 = q) (ky : ¬ x < y → Go p e below G T m q1 L S) (kn : x < y → Go p e below G T m q L S) : Go p e below G T m pc L (.int (lcmpW x y) :: S) :=
  f_if_ge X hx hd ho hp hq (fun h => ky (fun g => h ((lw_lt x y).mpr g))) (fun h => kn ((lw_lt x y).mp h))
theorem f_icmp_gt (X : Stand p l e R s m args below meth c T locs cells slots) (hx : p.tables.exec = Jvm.exec) {x y : Int32} {o : Int} (hd : decode c.code pc = .ok (.if_icmp .gt o, 3)) (ho : 0 ≤ (pc : Int) + o) (hp : ((pc : Int) + o).toNat = q1) (hq : pc + 3 = q) (ky : y < x → Go p e below G T m q1 L S) (kn : ¬ y < x → Go p e below G T m q L S) : Go p e below G T m pc L (.int y :: .int x :: S) := by
  subst hq
  by_cases h : y < x
  · exact Go.st (fun t k => XS.icmpYes X.here hx rfl rfl hd rfl (tlt h).2.2.1 ho hp k) (ky h)
  · exact Go.st (fun t k => XS.icmpNo X.here hx rfl hd rfl (flt h).2.2.1 k) (kn h)
theorem f_if_gt (X : Stand p l e R s m args below meth c T locs cells slots) (hx : p.tables.exec = Jvm.exec) {x : Int32} {o : Int} (hd : decode c.code pc = .ok (.ifCond .gt o, 3)) (ho : 0 ≤ (pc : Int) + o) (hp : ((pc : Int) + o).toNat = q1) (hq : pc + 3 = q) (ky : 0 < x → Go p e below G T m q1 L S) (kn : ¬ 0 < x → Go p e below G T m q L S) : Go p e below G T m pc L (.int x :: S) := by
  subst hq
  by_cases h : 0 < x
  · exact Go.st (fun t k => XS.ifYes X.here hx rfl rfl hd rfl ((if0 _ _).trans (tlt h).2.2.1) ho hp k) (ky h)
  · exact Go.st (fun t k => XS.ifNo X.here hx rfl hd rfl ((if0 _ _).trans (flt h).2.2.1) k) (kn h)
theorem f_lcmp_gt (X : Stand p l e R s m args below meth c T locs cells slots) (hx : p.tables.exec = Jvm.exec) {x y : Int64} {o : Int} (hd : decode c.code pc = .ok (.ifCond .gt o, 3)) (ho : 0 ≤ (pc : Int) + o) (hp : ((pc : Int) + o).toNat = q1) (hq : pc + 3 = q) (ky : y < x → Go p e below G T m q1 L S) (kn : ¬ y < x → Go p e below G T m q L S) : Go p e below G T m pc L (.int (lcmpW x y) :: S) :=
  f_if_gt X hx hd ho hp hq (fun h => ky ((lw_gt x y).mp h)) (fun h => kn (fun g => h ((lw_gt x y).mpr g)))
theorem f_icmp_le (X : Stand p l e R s m args below meth c T locs cells slots) (hx : p.tables.exec = Jvm.exec) {x y : Int32} {o : Int} (hd : decode c.code pc = .ok (.if_icmp .le o, 3)) (ho : 0 ≤ (pc : Int) + o) (hp : ((pc : Int) + o).toNat = q1) (hq : pc + 3 = q) (ky : ¬ y < x → Go p e below G T m q1 L S) (kn : y < x → Go p e below G T m q L S) : Go p e below G T m pc L (.int y :: .int x :: S) := by
  subst hq
  by_cases h : y < x
  · exact Go.st (fun t k => XS.icmpNo X.here hx rfl hd rfl (tlt h).2.2.2 k) (kn h)
  · exact Go.st (fun t k => XS.icmpYes X.here hx rfl rfl hd rfl (flt h).2.2.2 ho hp k) (ky h)
theorem f_if_le (X : Stand p l e R s m args below meth c T locs cells slots) (hx : p.tables.exec = Jvm.exec) {x : Int32} {o : Int} (hd : decode c.code pc = .ok (.ifCond .le o, 3)) (ho : 0 ≤ (pc : Int) + o) (hp : ((pc : Int) + o).toNat = q1) (hq : pc + 3 = q) (ky : ¬ 0 < x → Go p e below G T m q1 L S) (kn : 0 < x → Go p e below G T m q L S) : Go p e below G T m pc L (.int x :: S) := by
  subst hq
  by_cases h : 0 < x
  · exact Go.st (fun t k => XS.ifNo X.here hx rfl hd rfl ((if0 _ _).trans (tlt h).2.2.2) k) (kn h)
  · exact Go.st (fun t k => XS.ifYes X.here hx rfl rfl hd rfl ((if0 _ _).trans (flt h).2.2.2) ho hp k) (ky h)
theorem f_lcmp_le (X : Stand p l e R s m args below meth c T locs cells slots) (hx : p.tables.exec = Jvm.exec) {x y : Int64} {o : Int} (hd : decode c.code pc = .ok (.ifCond .le o, 3)) (ho : 0 ≤ (pc : Int) + o) (hp : ((pc : Int) + o).toNat = q1) (hq : pc + 3 = q) (ky : ¬ y < x → Go p e below G T m q1 L S) (kn : y < x → Go p e below G T m q L S) : Go p e below G T m pc L (.int (lcmpW x y) :: S) :=
  f_if_le X hx hd ho hp hq (fun h => ky (fun g => h ((lw_gt x y).mpr g))) (fun h => kn ((lw_gt x y).mp h))
theorem f_icmp_eq (X : Stand p l e R s m args below meth c T locs cells slots) (hx : p.tables.exec = Jvm.exec) {x y : Int32} {o : Int} (hd : decode c.code pc = .ok (.if_icmp .eq o, 3)) (ho : 0 ≤ (pc : Int) + o) (hp : ((pc : Int) + o).toNat = q1) (hq : pc + 3 = q) (ky : x = y → Go p e below G T m q1 L S) (kn : ¬ x = y → Go p e below G T m q L S) : Go p e below G T m pc L (.int y :: .int x :: S) := by
  subst hq
  by_cases h : x = y
  · exact Go.st (fun t k => XS.icmpYes X.here hx rfl rfl hd rfl (teq h).1 ho hp k) (ky h)
  · exact Go.st (fun t k => XS.icmpNo X.here hx rfl hd rfl (feq h).1 k) (kn h)
theorem f_if_eq (X : Stand p l e R s m args below meth c T locs cells slots) (hx : p.tables.exec = Jvm.exec) {x : Int32} {o : Int} (hd : decode c.code pc = .ok (.ifCond .eq o, 3)) (ho : 0 ≤ (pc : Int) + o) (hp : ((pc : Int) + o).toNat = q1) (hq : pc + 3 = q) (ky : x = 0 → Go p e below G T m q1 L S) (kn : ¬ x = 0 → Go p e below G T m q L S) : Go p e below G T m pc L (.int x :: S) := by
  subst hq
  by_cases h : x = 0
  · exact Go.st (fun t k => XS.ifYes X.here hx rfl rfl hd rfl ((if0 _ _).trans (teq h).1) ho hp k) (ky h)
  · exact Go.st (fun t k => XS.ifNo X.here hx rfl hd rfl ((if0 _ _).trans (feq h).1) k) (kn h)
theorem f_lcmp_eq (X : Stand p l e R s m args below meth c T locs cells slots) (hx : p.tables.exec = Jvm.exec) {x y : Int64} {o : Int} (hd : decode c.code pc = .ok (.ifCond .eq o, 3)) (ho : 0 ≤ (pc : Int) + o) (hp : ((pc : Int) + o).toNat = q1) (hq : pc + 3 = q) (ky : x = y → Go p e below G T m q1 L S) (kn : ¬ x = y → Go p e below G T m q L S) : Go p e below G T m pc L (.int (lcmpW x y) :: S) :=
  f_if_eq X hx hd ho hp hq (fun h => ky ((lw_eq x y).mp h)) (fun h => kn (fun g => h ((lw_eq x y).mpr g)))
theorem f_icmp_ne (X : Stand p l e R s m args below meth c T locs cells slots) (hx : p.tables.exec = Jvm.exec) {x y : Int32} {o : Int} (hd : decode c.code pc = .ok (.if_icmp .ne o, 3)) (ho : 0 ≤ (pc : Int) + o) (hp : ((pc : Int) + o).toNat = q1) (hq : pc + 3 = q) (ky : ¬ x = y → Go p e below G T m q1 L S) (kn : x = y → Go p e below G T m q L S) : Go p e below G T m pc L (.int y :: .int x :: S) := by
  subst hq
  by_cases h : x = y
  · exact Go.st (fun t k => XS.icmpNo X.here hx rfl hd rfl (teq h).2 k) (kn h)
  · exact Go.st (fun t k => XS.icmpYes X.here hx rfl rfl hd rfl (feq h).2 ho hp k) (ky h)
theorem f_if_ne (X : Stand p l e R s m args below meth c T locs cells slots) (hx : p.tables.exec = Jvm.exec) {x : Int32} {o : Int} (hd : decode c.code pc = .ok (.ifCond .ne o, 3)) (ho : 0 ≤ (pc : Int) + o) (hp : ((pc : Int) + o).toNat = q1) (hq : pc + 3 = q) (ky : ¬ x = 0 → Go p e below G T m q1 L S) (kn : x = 0 → Go p e below G T m q L S) : Go p e below G T m pc L (.int x :: S) := by
  subst hq
  by_cases h : x = 0
  · exact Go.st (fun t k => XS.ifNo X.here hx rfl hd rfl ((if0 _ _).trans (teq h).2) k) (kn h)
  · exact Go.st (fun t k => XS.ifYes X.here hx rfl rfl hd rfl ((if0 _ _).trans (feq h).2) ho hp k) (ky h)
theorem f_lcmp_ne (X : Stand p l e R s m args below meth c T locs cells slots) (hx : p.tables.exec = Jvm.exec) {x y : Int64} {o : Int} (hd : decode c.code pc = .ok (.ifCond .ne o, 3)) (ho : 0 ≤ (pc : Int) + o) (hp : ((pc : Int) + o).toNat = q1) (hq : pc + 3 = q) (ky : ¬ x = y → Go p e below G T m q1 L S) (kn : x = y → Go p e below G T m q L S) : Go p e below G T m pc L (.int (lcmpW x y) :: S) :=
  f_if_ne X hx hd ho hp hq (fun h => ky (fun g => h ((lw_eq x y).mpr g))) (fun h => kn ((lw_eq x y).mp h))
theorem s_ifnullYes (X : Stand p l e R s m args below meth c T locs cells slots) (hx : p.tables.exec = Jvm.exec) {o : Int} (hd : decode c.code pc = .ok (.ifnull o, 3)) (ho : 0 ≤ (pc : Int) + o) (hp : ((pc : Int) + o).toNat = q1) (K : Go p e below G T m q1 L S) : Go p e below G T m pc L (.null :: S) := Go.st (fun t k => XS.ifnullYes X.here hx rfl rfl hd rfl ho hp k) K
theorem s_ifnullNo (X : Stand p l e R s m args below meth c T locs cells slots) (hx : p.tables.exec = Jvm.exec) {o : Int} {b : Addr} (hd : decode c.code pc = .ok (.ifnull o, 3))  (hq : pc + 3 = q) (K : Go p e below G T m q L S) : Go p e below G T m pc L (.ref b :: S) := by
  subst hq; exact Go.st (fun t k => XS.ifnullNo X.here hx rfl hd rfl k) K
theorem s_ifnonnullYes (X : Stand p l e R s m args below meth c T locs cells slots) (hx : p.tables.exec = Jvm.exec) {o : Int} {b : Addr} (hd : decode c.code pc = .ok (.ifnonnull o, 3)) (ho : 0 ≤ (pc : Int) + o) (hp : ((pc : Int) + o).toNat = q1) (K : Go p e below G T m q1 L S) : Go p e below G T m pc L (.ref b :: S) := Go.st (fun t k => XS.ifnonnullYes X.here hx rfl rfl hd rfl ho hp k) K
theorem s_ifnonnullNo (X : Stand p l e R s m args below meth c T locs cells slots) (hx : p.tables.exec = Jvm.exec) {o : Int} (hd : decode c.code pc = .ok (.ifnonnull o, 3))  (hq : pc + 3 = q) (K : Go p e below G T m q L S) : Go p e below G T m pc L (.null :: S) := by
  subst hq; exact Go.st (fun t k => XS.ifnonnullNo X.here hx rfl hd rfl k) K
variable {Z : State} {a0 : Array Value} {h h' : Heap} {a b : Addr} {own C O n d : String} {v : Value} {n0 : Nat}
theorem s_ldc (X : Stand p l e R s m args below meth c T locs cells slots) (hx : p.tables.exec = Jvm.exec) (hZ : Z.Warmed39 s.vm) (hown : s.vm.findClass own = some m.cls) {index : Nat} {z : Int32} (w : (Jvm.Cond.constant own index z).before a0 Z = true) (hd : decode c.code pc = .ok (.ldc index, 2)) (hq : pc + 2 = q) (K : Go p e below G T m q L (.int z :: S)) : Go p e below G T m pc L S := by
  subst hq; exact Go.st (fun t k => X.ldcInt hx hown (mvT hZ w) (g := mkF m pc L S) rfl hd t k) K
theorem s_ldcw (X : Stand p l e R s m args below meth c T locs cells slots) (hx : p.tables.exec = Jvm.exec) (hZ : Z.Warmed39 s.vm) (hown : s.vm.findClass own = some m.cls) {index : Nat} {z : Int32} (w : (Jvm.Cond.constant own index z).before a0 Z = true) (hd : decode c.code pc = .ok (.ldc_w index, 3)) (hq : pc + 3 = q) (K : Go p e below G T m q L (.int z :: S)) : Go p e below G T m pc L S := by
  subst hq; exact Go.st (fun t k => X.ldcwInt hx hown (mvT hZ w) (g := mkF m pc L S) rfl hd t k) K
theorem s_ldc2 (X : Stand p l e R s m args below meth c T locs cells slots) (hx : p.tables.exec = Jvm.exec) (hZ : Z.Warmed39 s.vm) (hown : s.vm.findClass own = some m.cls) {index : Nat} {z : Int64} (w : (Jvm.Cond.constantLong own index z).before a0 Z = true) (hd : decode c.code pc = .ok (.ldc2_w index, 3)) (hq : pc + 3 = q) (K : Go p e below G T m q L (.long z :: S)) : Go p e below G T m pc L S := by
  subst hq; exact Go.st (fun t k => X.ldc2Long hx hown (mvT hZ w) (g := mkF m pc L S) rfl hd t k) K
theorem s_lrem (X : Stand p l e R s m args below meth c T locs cells slots) (hx : p.tables.exec = Jvm.exec) {x y : Int64} (hd : decode c.code pc = .ok (.lrem, 1)) (hy : y ≠ 0) (hq : pc + 1 = q) (K : Go p e below G T m q L (.long (x % y) :: S)) : Go p e below G T m pc L (.long y :: .long x :: S) := by
  subst hq; rw [← lrem_mod] at K; exact Go.st (fun t k => XS.lrem X.here hx rfl hd rfl hy k) K
theorem irem_mod (x y : Int32) : x - (x / y) * y = x % y := by
  apply Int32.toInt_inj.mp
  have h1 := Int32.le_toInt (x % y)
  have h2 := Int32.toInt_lt (x % y)
  rw [Int32.toInt_sub, Int32.toInt_mul, Int32.toInt_div, Int.bmod_mul_bmod, Int.sub_bmod_bmod, Int.mul_comm (x.toInt.tdiv y.toInt), ← Int.tmod_def, ← Int32.toInt_mod]
  exact Int.bmod_eq_of_le_mul_two (by omega) (by omega)
theorem s_irem (X : Stand p l e R s m args below meth c T locs cells slots) (hx : p.tables.exec = Jvm.exec) {x y : Int32} (hd : decode c.code pc = .ok (.irem, 1)) (hy : y ≠ 0) (hq : pc + 1 = q) (K : Go p e below G T m q L (.int (x % y) :: S)) : Go p e below G T m pc L (.int y :: .int x :: S) := by
  subst hq; rw [← irem_mod] at K; exact Go.st (fun t k => XS.irem X.here hx rfl hd rfl hy k) K
theorem leafI (X : Stand p l e R s m args below meth c T locs cells slots) (hx : p.tables.exec = Jvm.exec) {z : Int32} {Q : Option Value → Heap → List Loc → Prop} {C N : Nat} (hlk : meth.locks = false) (hret : meth.sig.returnType = some .int) (hd : decode c.code pc = .ok (.ireturn, 1)) (hc : cells ≤ C) (hn : slots ≤ N) (hQ : Q (some (.int z)) T.heap locs) : Go p e below (Gl s below Q C N) T m pc L (.int z :: S) := by
  obtain ⟨fs, hr, hrun, hended, hW, hsame⟩ := X.leave (v := some (.int z)) (fun h => by rw [hret] at h; cases h) hlk
  exact ⟨_, retI X hx hret hd hr, _, hrun, hended, _, _, rfl, hQ, ⟨_, rfl⟩, hW, hsame.mono hc hn⟩
theorem leafN (X : Stand p l e R s m args below meth c T locs cells slots) (hx : p.tables.exec = Jvm.exec) {t : FieldType} {z z' : Int32} {Q : Option Value → Heap → List Loc → Prop} {C N : Nat} (hlk : meth.locks = false) (hret : meth.sig.returnType = some t) (ht : t = .boolean ∨ t = .byte ∨ t = .char ∨ t = .short) (hd : decode c.code pc = .ok (.ireturn, 1)) (hc : cells ≤ C) (hn : slots ≤ N) (hz : nar t z = z') (hQ : Q (some (.int z')) T.heap locs) : Go p e below (Gl s below Q C N) T m pc L (.int z :: S) := by
  subst hz
  obtain ⟨fs, hr, hrun, hended, hW, hsame⟩ := X.leave (v := some (.int (nar t z))) (fun h => by rw [hret] at h; cases h) hlk
  exact ⟨_, retN X hx hret ht hd hr, _, hrun, hended, _, _, rfl, hQ, ⟨_, rfl⟩, hW, hsame.mono hc hn⟩
theorem leafJ (X : Stand p l e R s m args below meth c T locs cells slots) (hx : p.tables.exec = Jvm.exec) {z : Int64} {Q : Option Value → Heap → List Loc → Prop} {C N : Nat} (hlk : meth.locks = false) (hret : meth.sig.returnType = some .long) (hd : decode c.code pc = .ok (.lreturn, 1)) (hc : cells ≤ C) (hn : slots ≤ N) (hQ : Q (some (.long z)) T.heap locs) : Go p e below (Gl s below Q C N) T m pc L (.long z :: S) := by
  obtain ⟨fs, hr, hrun, hended, hW, hsame⟩ := X.leave (v := some (.long z)) (fun h => by rw [hret] at h; cases h) hlk
  refine ⟨_, ?_, _, hrun, hended, _, _, rfl, hQ, ⟨_, rfl⟩, hW, hsame.mono hc hn⟩
  show Steps p.tables e below (T.setTop { method := m, pc := pc, locals := L, stack := .long z :: S, locked := none }) _
  jvm_step X.here [X.here.top, hx, hd, X.method', hret, narrow]
  first | (intro acts; rw [hr _ acts rfl rfl rfl]) | rw [hr _ _ rfl rfl rfl]
  exact Steps.refl _
theorem leafA (X : Stand p l e R s m args below meth c T locs cells slots) (hx : p.tables.exec = Jvm.exec) {v : Value} {t : FieldType} {Q : Option Value → Heap → List Loc → Prop} {C N : Nat} (hlk : meth.locks = false) (hret : meth.sig.returnType = some t) (ht : t.isReference = true) (hv : v.isRef = true) (hd : decode c.code pc = .ok (.areturn, 1)) (hc : cells ≤ C) (hn : slots ≤ N) (hQ : Q (some v) T.heap locs) : Go p e below (Gl s below Q C N) T m pc L (v :: S) := by
  obtain ⟨fs, hr, hrun, hended, hW, hsame⟩ := X.leave (v := some v) (fun h => by rw [hret] at h; cases h) hlk
  refine ⟨_, ?_, _, hrun, hended, _, _, rfl, hQ, ⟨_, rfl⟩, hW, hsame.mono hc hn⟩
  show Steps p.tables e below (T.setTop { method := m, pc := pc, locals := L, stack := v :: S, locked := none }) _
  jvm_step X.here [X.here.top, hx, hd, X.method', hret, hv, ht]
  first | (intro acts; rw [hr _ acts rfl rfl rfl]) | rw [hr _ _ rfl rfl rfl]
  exact Steps.refl _
theorem leafV (X : Stand p l e R s m args below meth c T locs cells slots) (hx : p.tables.exec = Jvm.exec) {Q : Option Value → Heap → List Loc → Prop} {C N : Nat} (hlk : meth.locks = false) (hret : meth.sig.returnType = none) (hd : decode c.code pc = .ok (.return_, 1)) (hc : cells ≤ C) (hn : slots ≤ N) (hQ : Q none T.heap locs) : Go p e below (Gl s below Q C N) T m pc L [] := by
  obtain ⟨fs, hr, hrun, hended, hW, hsame⟩ := X.leave (v := none) (fun _ => rfl) hlk
  exact ⟨_, X.returnOut hx hret hd hr, _, hrun, hended, _, _, rfl, hQ, ⟨_, rfl⟩, hW, hsame.mono hc hn⟩
/-- a call by a contract -/
theorem callC (X : Stand p l e R s m args below meth c T locs cells slots) (hx : p.tables.exec = Jvm.exec) (hZ : Z.Warmed39 s.vm) (hown : s.vm.findClass own = some m.cls) {index : Nat} {y : MethodName} {bytes : ByteArray} {maxL : Nat} {ret : Option FieldType} {rm : Room} {Q : Option Value → Heap → List Loc → Prop} {W : Nat} {argsL rest : List Value}
    (w1 : (Jvm.Cond.methodLink own index y).before a0 Z = true) (w2 : (Jvm.Cond.static y).before a0 Z = true) (w3 : (Jvm.Cond.initialized y.cls).before a0 Z = true) (w4 : (Jvm.Cond.code y bytes maxL ret).before a0 Z = true) (hy : y.cls ≠ "java/lang/invoke/MethodHandle" ∧ y.cls ≠ "java/lang/invoke/VarHandle")
    (K : Ctr l y bytes maxL ret [] rm Z argsL.toArray h Q rm.cells rm.slots) (eT : T.heap = h) (hf : rm.frames + 1 ≤ R.frames) (hl : W + (maxL + 11) + rm.locals ≤ R.locals) (hc : cells + rm.cells ≤ R.cells) (hn : slots + rm.slots ≤ R.slots) (hsize : L.size = c.maxLocals)
    {ps : List FieldType} {r : Option FieldType} (hlen : parseMethodDescriptor y.desc = some ⟨ps, r⟩) (hl2 : argsL.length = ps.length) (hS : S = argsL.reverse ++ rest) (hW : (rest.map fun v => v.category).sum ≤ W) (hd : decode c.code pc = .ok (.invokestatic index, 3)) (hq : pc + 3 = q)
    (k : ∀ (v : Option Value) (T' : State) (Lc : List Loc), Q v T'.heap Lc → Stand p l e R s m args below meth c T' (locs ++ Lc) (cells + rm.cells) (slots + rm.slots) → Go p e below G T' m q L (v.toList ++ rest)) : Go p e below G T m pc L S := by
  subst hq hS
  obtain ⟨v, _, ⟨T', L', k', n'⟩, -, X', ⟨Lc, hQ, l1, y1, z1⟩, st⟩ := Jvm.LawKit.callS X hx (y := y) hown (mvT hZ w1) (mvT hZ w2) (mvT hZ w3) (mvT hZ w4) hy (backOf (W := W) K hZ w4 w3 hf hl) (g := mkF m pc L (argsL.reverse ++ rest)) rfl hsize (argsL := argsL) (rest := rest) (lenOf hlen hl2) rfl (by show 2 * 0 + _ ≤ _; omega) hd (fun _ _ => ⟨rfl, eT, hc, hn⟩)
  dsimp only [Pt.U, Pt.locs, Pt.cells, Pt.slots] at X' l1 y1 z1 st hQ
  subst l1 y1 z1
  exact Go.st st (k v T' Lc hQ X')
/-- what a pure body leaves -/
def PQ (w : Value) (h0 : Heap) (v : Option Value) (h : Heap) (L : List Loc) : Prop := v = some w ∧ h = h0 ∧ L = []
theorem callP (X : Stand p l e R s m args below meth c T locs cells slots) (hx : p.tables.exec = Jvm.exec) (hZ : Z.Warmed39 s.vm) (hown : s.vm.findClass own = some m.cls) {index : Nat} {y : MethodName} {bytes : ByteArray} {maxL : Nat} {ret : Option FieldType} {rm : Room} {w : Value} {W : Nat} {argsL rest : List Value}
    (w1 : (Jvm.Cond.methodLink own index y).before a0 Z = true) (w2 : (Jvm.Cond.static y).before a0 Z = true) (w3 : (Jvm.Cond.initialized y.cls).before a0 Z = true) (w4 : (Jvm.Cond.code y bytes maxL ret).before a0 Z = true) (hy : y.cls ≠ "java/lang/invoke/MethodHandle" ∧ y.cls ≠ "java/lang/invoke/VarHandle")
    (K : Ctr l y bytes maxL ret [] rm Z argsL.toArray h (PQ w h) 0 0) (hrc : rm.cells = 0) (hrs : rm.slots = 0) (eT : T.heap = h) (hf : rm.frames + 1 ≤ R.frames) (hl : W + (maxL + 11) + rm.locals ≤ R.locals) (hc : cells ≤ R.cells) (hn : slots ≤ R.slots) (hsize : L.size = c.maxLocals)
    {ps : List FieldType} {r : Option FieldType} (hlen : parseMethodDescriptor y.desc = some ⟨ps, r⟩) (hl2 : argsL.length = ps.length) (hS : S = argsL.reverse ++ rest) (hW : (rest.map fun v => v.category).sum ≤ W) (hd : decode c.code pc = .ok (.invokestatic index, 3)) (hq : pc + 3 = q)
    (k : ∀ (T' : State), Stand p l e R s m args below meth c T' locs cells slots → T'.heap = h → Go p e below G T' m q L (w :: rest)) : Go p e below G T m pc L S := by
  refine callC X hx hZ hown w1 w2 w3 w4 hy (rm := rm) (Q := PQ w h) (by rw [hrc, hrs]; exact K) eT hf hl (by rw [hrc]; exact hc) (by rw [hrs]; exact hn) hsize hlen hl2 hS hW hd hq ?_
  rintro v T' Lc ⟨rfl, e', rfl⟩ X'
  rw [List.append_nil, hrc, hrs] at X'
  exact k T' X' e'
theorem callV (X : Stand p l e R s m args below meth c T locs cells slots) (hx : p.tables.exec = Jvm.exec) (hZ : Z.Warmed39 s.vm) (hown : s.vm.findClass own = some m.cls) {index : Nat} {y : MethodName} {bytes : ByteArray} {maxL : Nat} {ret : Option FieldType} {rm : Room} {Q : Option Value → Heap → List Loc → Prop} {W : Nat} {argsL rest : List Value}
    (w1 : (Jvm.Cond.methodLink own index y).before a0 Z = true) (w2 : (Jvm.Cond.declares y).before a0 Z = true) (w3 : (Jvm.Cond.selects y.cls y y).before a0 Z = true) (w5 : (Jvm.Cond.instanceMethod y).before a0 Z = true) (w6 : (Jvm.Cond.initialized y.cls).before a0 Z = true) (w4 : (Jvm.Cond.code y bytes maxL ret).before a0 Z = true) (hy : y.cls ≠ "java/lang/invoke/MethodHandle" ∧ y.cls ≠ "java/lang/invoke/VarHandle")
    (A : Exa Z h a y.cls) (K : Ctr l y bytes maxL ret [] rm Z (.ref a :: argsL).toArray h Q rm.cells rm.slots) (eT : T.heap = h) (hf : rm.frames + 1 ≤ R.frames) (hl : W + (maxL + 11) + rm.locals ≤ R.locals) (hc : cells + rm.cells ≤ R.cells) (hn : slots + rm.slots ≤ R.slots) (hsize : L.size = c.maxLocals)
    {ps : List FieldType} {r : Option FieldType} (hlen : parseMethodDescriptor y.desc = some ⟨ps, r⟩) (hl2 : argsL.length = ps.length) (hS : S = argsL.reverse ++ .ref a :: rest) (hW : (rest.map fun v => v.category).sum ≤ W) (hd : decode c.code pc = .ok (.invokevirtual index, 3)) (hq : pc + 3 = q)
    (k : ∀ (v : Option Value) (T' : State) (Lc : List Loc), Q v T'.heap Lc → Stand p l e R s m args below meth c T' (locs ++ Lc) (cells + rm.cells) (slots + rm.slots) → Go p e below G T' m q L (v.toList ++ rest)) : Go p e below G T m pc L S := by
  subst hq hS
  obtain ⟨cq, kq, qa, qb, qc⟩ := isOf hZ eT A
  obtain ⟨v, _, ⟨T', L', k', n'⟩, -, X', ⟨Lc, hQ, l1, y1, z1⟩, st⟩ := X.virtualBack hx (y := y) (z := y) hown (mvT hZ w1) (mvT hZ w2) (notFace_of_selects (args := #[]) (mvT hZ w3)) (mvT hZ w3) (mvT hZ w5) hy (backOf (W := W) K hZ w4 w6 hf hl) qa qc (g := mkF m pc L (argsL.reverse ++ .ref a :: rest)) rfl hsize (Steps.refl _) (argsL := argsL) (rest := rest) (lenOf hlen hl2) rfl (by show 2 * 0 + _ ≤ _; omega) hd (fun _ _ => ⟨rfl, eT, hc, hn⟩)
  dsimp only [Pt.U, Pt.locs, Pt.cells, Pt.slots] at X' l1 y1 z1 st hQ
  subst l1 y1 z1
  exact Go.st (fun t h => st.trans h) (k v T' Lc hQ X')
theorem callI (X : Stand p l e R s m args below meth c T locs cells slots) (hx : p.tables.exec = Jvm.exec) (hZ : Z.Warmed39 s.vm) (hown : s.vm.findClass own = some m.cls) {index : Nat} {y : MethodName} {bytes : ByteArray} {maxL : Nat} {rm : Room} {Q : Option Value → Heap → List Loc → Prop} {W : Nat} {argsL rest : List Value} (hyn : y.name = "<init>")
    (w1 : (Jvm.Cond.methodLink own index y).before a0 Z = true) (w5 : (Jvm.Cond.instanceMethod y).before a0 Z = true) (w6 : (Jvm.Cond.initialized y.cls).before a0 Z = true) (w4 : (Jvm.Cond.code y bytes maxL none).before a0 Z = true) (hy : y.cls ≠ "java/lang/invoke/MethodHandle" ∧ y.cls ≠ "java/lang/invoke/VarHandle")
    (K : Ctr l y bytes maxL none [] rm Z (.ref a :: argsL).toArray h Q rm.cells rm.slots) (eT : T.heap = h) (hf : rm.frames + 1 ≤ R.frames) (hl : W + (maxL + 11) + rm.locals ≤ R.locals) (hc : cells + rm.cells ≤ R.cells) (hn : slots + rm.slots ≤ R.slots) (hsize : L.size = c.maxLocals)
    {ps : List FieldType} {r : Option FieldType} (hlen : parseMethodDescriptor y.desc = some ⟨ps, r⟩) (hl2 : argsL.length = ps.length) (hS : S = argsL.reverse ++ .ref a :: rest) (hW : (rest.map fun v => v.category).sum ≤ W) (hd : decode c.code pc = .ok (.invokespecial index, 3)) (hq : pc + 3 = q)
    (k : ∀ (v : Option Value) (T' : State) (Lc : List Loc), Q v T'.heap Lc → Stand p l e R s m args below meth c T' (locs ++ Lc) (cells + rm.cells) (slots + rm.slots) → Go p e below G T' m q L (v.toList ++ rest)) : Go p e below G T m pc L S := by
  subst hq hS
  obtain ⟨v, _, ⟨T', L', k', n'⟩, -, X', ⟨Lc, hQ, l1, y1, z1⟩, st⟩ := X.specialBack hx (y := y) hyn hown (mvT hZ w1) (mvT hZ w5) (mvT hZ w4) hy (backOf (W := W) K hZ w4 w6 hf hl) (g := mkF m pc L (argsL.reverse ++ .ref a :: rest)) rfl hsize (Steps.refl _) (a := a) (argsL := argsL) (rest := rest) (lenOf hlen hl2) rfl (by show 2 * 0 + _ ≤ _; omega) hd (fun _ _ => ⟨rfl, eT, hc, hn⟩)
  dsimp only [Pt.U, Pt.locs, Pt.cells, Pt.slots] at X' l1 y1 z1 st hQ
  subst l1 y1 z1
  exact Go.st (fun t h => st.trans h) (k v T' Lc hQ X')
theorem s_initO (X : Stand p l e R s m args below meth c T locs cells slots) (hx : p.tables.exec = Jvm.exec) (hZ : Z.Warmed39 s.vm) (hown : s.vm.findClass own = some m.cls) {index : Nat} {W : Nat} (w1 : (Jvm.Cond.methodLink own index Lib.objectInit).before a0 Z = true) (w2 : (Jvm.Cond.instanceMethod Lib.objectInit).before a0 Z = true)
    (w3 : (Jvm.Cond.code Lib.objectInit ⟨#[0xb1]⟩ 1 none).before a0 Z = true) (eT : T.heap = h) (hsize : L.size = c.maxLocals) (hf : 1 ≤ R.frames) (hW : (S.map fun v => v.category).sum ≤ W) (hl : W + 12 ≤ R.locals) (hd : decode c.code pc = .ok (.invokespecial index, 3)) (hq : pc + 3 = q)
    (k : ∀ T', Stand p l e R s m args below meth c T' locs cells slots → T'.heap = h → Go p e below G T' m q L S) : Go p e below G T m pc L (.ref a :: S) := by
  subst hq
  obtain ⟨T', X', e', st⟩ := initO X hx hZ hown w1 w2 w3 eT (g := mkF m pc L (.ref a :: S)) rfl hsize rfl hd hf (W := W) (by show 2 * 0 + _ ≤ _; omega) hl
  exact Go.st st (k T' X' e')
theorem s_getF (X : Stand p l e R s m args below meth c T locs cells slots) (hx : p.tables.exec = Jvm.exec) (hZ : Z.Warmed39 s.vm) (hown : s.vm.findClass own = some m.cls) {index : Nat} (w : (Jvm.Cond.fieldLink own index O n d).before a0 Z = true) (eT : T.heap = h) (F : Fld Z h a O n d v) (hd : decode c.code pc = .ok (.getfield index, 3)) (hq : pc + 3 = q)
    (k : ∀ T', Stand p l e R s m args below meth c T' locs cells slots → T'.heap = h → Go p e below G T' m q L (v :: S)) : Go p e below G T m pc L (.ref a :: S) := by
  subst hq
  obtain ⟨T', X', e', st⟩ := getF X hx hZ hown (host := "") (Or.inl w) Via.refl eT F (g := mkF m pc L (.ref a :: S)) rfl rfl hd
  exact Go.st st (k T' X' e')
theorem s_putF (X : Stand p l e R s m args below meth c T locs cells slots) (hx : p.tables.exec = Jvm.exec) (hZ : Z.Warmed39 s.vm) (hown : s.vm.findClass own = some m.cls) {index kk : Nat} {ty : FieldType} {v old : Value} (w : (Jvm.Cond.fieldLink own index O n d).before a0 Z = true) (eT : T.heap = h) (F : Fld Z h a O n d old) (E : Exa Z h a C)
    (Ly : (Jvm.Cond.lays C O n d).before a0 Z = true ∨ ((Jvm.Cond.laysFinal C O n d).before a0 Z = true ∧ own = O ∧ meth.name = "<init>")) (wi : (Jvm.Cond.instantiable C kk).before a0 Z = true) (hty : parseFieldDescriptor d = some ty) (hn : narrow ty v = v) (hfit : fits ty v = true) (N : Fr n0 locs) (hg : n0 ≤ a) (hd : decode c.code pc = .ok (.putfield index, 3)) (hq : pc + 3 = q)
    (k : ∀ (T' : State) (h' : Heap) (locs' : List Loc), Stand p l e R s m args below meth c T' locs' cells slots → Fr n0 locs' → T'.heap = h' → Wr h h' a (Jvm.RoadKit.slotOf Z O n d) v → Fld Z h' a O n d v → Go p e below G T' m q L S) : Go p e below G T m pc L (v :: .ref a :: S) := by
  subst hq
  obtain ⟨T', h', X', e', W, st⟩ := putF X hx hZ hown (host := "") (Or.inl w) Via.refl eT F E Ly wi hty hn hfit (g := mkF m pc L (v :: .ref a :: S)) rfl rfl hd
  exact Go.st st (k T' h' _ X' (Fr.snoc X' N hg) e' W (F.same W))
theorem s_new (X : Stand p l e R s m args below meth c T locs cells slots) (hx : p.tables.exec = Jvm.exec) (hZ : Z.Warmed39 s.vm) (hown : s.vm.findClass own = some m.cls) {index kk : Nat} (w : (Jvm.Cond.classLink own index C).before a0 Z = true) (wi : (Jvm.Cond.instantiable C kk).before a0 Z = true) (wz : (Jvm.Cond.initialized C).before a0 Z = true) (eT : T.heap = h)
    (hc : cells + 1 ≤ R.cells) (hl : slots + kk ≤ R.slots) (hd : decode c.code pc = .ok (.new index, 3)) (hq : pc + 3 = q)
    (k : ∀ (T' : State) (h' : Heap) (a : Addr), Stand p l e R s m args below meth c T' locs (cells + 1) (slots + kk) → T'.heap = h' → Ext h h' → a = h.size → Exa Z h' a C → (∀ (O nm d : String) (ty : FieldType), Laid Z a0 C O nm d → parseFieldDescriptor d = some ty → Fld Z h' a O nm d (defaultValue ty)) → Go p e below G T' m q L (.ref a :: S)) : Go p e below G T m pc L S := by
  subst hq
  obtain ⟨T', h', X', e', E, A, D, -, st⟩ := newO X hx hZ hown w wi wz eT (g := mkF m pc L S) rfl hd hc hl
  exact Go.st st (k T' h' _ X' e' E rfl A (fun _ _ _ _ L1 q1 => D L1 q1))
/-- an array of ints (bytes, chars ..) by its list -/
def AI (Z : State) (h : Heap) (a : Addr) (ty : FieldType) (xs : List Int32) : Prop := ∃ cl : Cell, Arr Z h a cl ty ∧ cl.slots.toList = xs.map Value.int ∧ xs.length < 2147483648
def AJ (Z : State) (h : Heap) (a : Addr) (xs : List Int64) : Prop := ∃ cl : Cell, Arr Z h a cl .long ∧ cl.slots.toList = xs.map Value.long ∧ xs.length < 2147483648
variable {ty : FieldType} {xs ys : List Int32} {us vs : List Int64} {w : Value} {sl : Nat} {ws : List Addr}
theorem AI.lt (A : AI Z h a ty xs) : a < h.size := by obtain ⟨c, A, -⟩ := A; exact A.lt
theorem AJ.lt (A : AJ Z h a us) : a < h.size := by obtain ⟨c, A, -⟩ := A; exact A.lt
theorem AI.ext (A : AI Z h a ty xs) (E : Ext h h') : AI Z h' a ty xs := by obtain ⟨c, A, r⟩ := A; exact ⟨c, A.ext E, r⟩
theorem AJ.ext (A : AJ Z h a us) (E : Ext h h') : AJ Z h' a us := by obtain ⟨c, A, r⟩ := A; exact ⟨c, A.ext E, r⟩
theorem AI.other (A : AI Z h a ty xs) (W : Wr h h' b sl w) (q : a ≠ b) : AI Z h' a ty xs := by obtain ⟨c, A, r⟩ := A; exact ⟨c, A.other W q, r⟩
theorem AJ.other (A : AJ Z h a us) (W : Wr h h' b sl w) (q : a ≠ b) : AJ Z h' a us := by obtain ⟨c, A, r⟩ := A; exact ⟨c, A.other W q, r⟩
theorem AI.keep (A : AI Z h a ty xs) (K : Keep h h' ws) (q : a ∉ ws) : AI Z h' a ty xs := by obtain ⟨c, A, r⟩ := A; exact ⟨c, ⟨K.2.1 a c A.1 q, A.2⟩, r⟩
theorem AJ.keep (A : AJ Z h a us) (K : Keep h h' ws) (q : a ∉ ws) : AJ Z h' a us := by obtain ⟨c, A, r⟩ := A; exact ⟨c, ⟨K.2.1 a c A.1 q, A.2⟩, r⟩
theorem set_list (cl : Cell) (i : Nat) (v : Value) : (cl.setSlot i v).slots.toList = cl.slots.toList.set i v := by
  show (cl.slots.setIfInBounds i v).toList = _
  exact Array.toList_setIfInBounds ..
theorem AI.same (A : AI Z h a ty xs) {i : Nat} {x : Int32} (W : Wr h h' a i (.int x)) : AI Z h' a ty (xs.set i x) := by
  obtain ⟨c, A, e, n⟩ := A
  exact ⟨_, A.same W, by rw [set_list, e, List.map_set], by rw [List.length_set]; exact n⟩
theorem AJ.same (A : AJ Z h a us) {i : Nat} {x : Int64} (W : Wr h h' a i (.long x)) : AJ Z h' a (us.set i x) := by
  obtain ⟨c, A, e, n⟩ := A
  exact ⟨_, A.same W, by rw [set_list, e, List.map_set], by rw [List.length_set]; exact n⟩
theorem own_size {cl : Cell} {α : Type} {zs : List α} {f : α → Value} (e : cl.slots.toList = zs.map f) : cl.slots.size = zs.length := by
  rw [← Array.length_toList, e, List.length_map]
theorem own_at {cl : Cell} {α : Type} {zs : List α} {f : α → Value} (e : cl.slots.toList = zs.map f) {i : Nat} {x : α} (q : zs[i]? = some x) : cl.slots[i]? = some (f x) := by
  rw [← Array.getElem?_toList, e, List.getElem?_map, q]; rfl
theorem own_in {cl : Cell} {α : Type} {zs : List α} {f : α → Value} (e : cl.slots.toList = zs.map f) {j : Int32} (hj : ¬ j < 0) (q : j.toNatClampNeg < zs.length) : ¬ (j < 0 ∨ cl.slots.size ≤ j.toNatClampNeg) := by
  rw [own_size e]; intro h; rcases h with h | h
  · exact hj h
  · omega
theorem own_inl {α : Type} {zs : List α} {i : Nat} {x : α} (q : zs[i]? = some x) : i < zs.length := (List.getElem?_eq_some_iff.mp q).1
theorem s_iaload (X : Stand p l e R s m args below meth c T locs cells slots) (hx : p.tables.exec = Jvm.exec) (hZ : Z.Warmed39 s.vm) (eT : T.heap = h) {j : Int32} {x : Int32} (A : AI Z h a .int xs) (hj : ¬ j < 0) {i : Nat} (hji : j.toNatClampNeg = i) (hv : xs[i]? = some x) (hd : decode c.code pc = .ok (.iaload, 1)) (hq : pc + 1 = q) (K : Go p e below G T m q L (.int x :: S)) : Go p e below G T m pc L (.int j :: .ref a :: S) := by
  subst hq hji; obtain ⟨cl, Ar, ex, -⟩ := A
  exact Go.st (fun t k => X.iaload hx (j := j) (v := .int x) (by rw [eT]; exact Ar.1) (State.isArrayOf_alike hZ.alike Ar.2.1) Ar.2.2 (own_in ex hj (own_inl hv)) (own_at ex hv) (g := mkF m pc L (.int j :: .ref a :: S)) rfl rfl hd t k) K
theorem s_caload (X : Stand p l e R s m args below meth c T locs cells slots) (hx : p.tables.exec = Jvm.exec) (hZ : Z.Warmed39 s.vm) (eT : T.heap = h) {j : Int32} {x : Int32} (A : AI Z h a .char xs) (hj : ¬ j < 0) {i : Nat} (hji : j.toNatClampNeg = i) (hv : xs[i]? = some x) (hd : decode c.code pc = .ok (.caload, 1)) (hq : pc + 1 = q) (K : Go p e below G T m q L (.int x :: S)) : Go p e below G T m pc L (.int j :: .ref a :: S) := by
  subst hq hji; obtain ⟨cl, Ar, ex, -⟩ := A
  exact Go.st (fun t k => X.caload hx (j := j) (v := .int x) (by rw [eT]; exact Ar.1) (State.isArrayOf_alike hZ.alike Ar.2.1) Ar.2.2 (own_in ex hj (own_inl hv)) (own_at ex hv) (g := mkF m pc L (.int j :: .ref a :: S)) rfl rfl hd t k) K
theorem s_baload (X : Stand p l e R s m args below meth c T locs cells slots) (hx : p.tables.exec = Jvm.exec) (hZ : Z.Warmed39 s.vm) (eT : T.heap = h) {j : Int32} {x : Int32} (A : AI Z h a .byte xs) (hj : ¬ j < 0) {i : Nat} (hji : j.toNatClampNeg = i) (hv : xs[i]? = some x) (hd : decode c.code pc = .ok (.baload, 1)) (hq : pc + 1 = q) (K : Go p e below G T m q L (.int x :: S)) : Go p e below G T m pc L (.int j :: .ref a :: S) := by
  subst hq hji; obtain ⟨cl, Ar, ex, -⟩ := A
  exact Go.st (fun t k => X.baloadBytes hx (j := j) (v := .int x) (by rw [eT]; exact Ar.1) (State.isArrayOf_alike hZ.alike Ar.2.1) Ar.2.2 (own_in ex hj (own_inl hv)) (own_at ex hv) (g := mkF m pc L (.int j :: .ref a :: S)) rfl rfl hd t k) K
theorem s_laload (X : Stand p l e R s m args below meth c T locs cells slots) (hx : p.tables.exec = Jvm.exec) (hZ : Z.Warmed39 s.vm) (eT : T.heap = h) {j : Int32} {x : Int64} (A : AJ Z h a us) (hj : ¬ j < 0) {i : Nat} (hji : j.toNatClampNeg = i) (hv : us[i]? = some x) (hd : decode c.code pc = .ok (.laload, 1)) (hq : pc + 1 = q) (K : Go p e below G T m q L (.long x :: S)) : Go p e below G T m pc L (.int j :: .ref a :: S) := by
  subst hq hji; obtain ⟨cl, Ar, ex, -⟩ := A
  exact Go.st (fun t k => X.laload hx (j := j) (v := .long x) (by rw [eT]; exact Ar.1) (State.isArrayOf_alike hZ.alike Ar.2.1) Ar.2.2 (own_in ex hj (own_inl hv)) (own_at ex hv) (g := mkF m pc L (.int j :: .ref a :: S)) rfl rfl hd t k) K
theorem s_iastore (X : Stand p l e R s m args below meth c T locs cells slots) (hx : p.tables.exec = Jvm.exec) (hZ : Z.Warmed39 s.vm) (eT : T.heap = h) {j : Int32} {x : Int32} (A : AI Z h a .int xs) (N : Fr n0 locs) (hg : n0 ≤ a) (hj : ¬ j < 0) {i : Nat} (hji : j.toNatClampNeg = i) (hi : i < xs.length) (hs : xs.set i x = ys) (hd : decode c.code pc = .ok (.iastore, 1)) (hq : pc + 1 = q)
    (k : ∀ (T' : State) (h' : Heap) (locs' : List Loc), Stand p l e R s m args below meth c T' locs' cells slots → Fr n0 locs' → T'.heap = h' → Wr h h' a i (.int x) → AI Z h' a .int ys → Go p e below G T' m q L S) : Go p e below G T m pc L (.int x :: .int j :: .ref a :: S) := by
  subst hq hs hji; have A0 := A; obtain ⟨cl, Ar, ex, -⟩ := A
  obtain ⟨T', h', X', e', W, st⟩ := Jvm.RoadKit.stI X hx hZ eT Ar (j := j) (own_in ex hj hi) (g := mkF m pc L (.int x :: .int j :: .ref a :: S)) rfl rfl hd
  exact Go.st st (k T' h' _ X' (Fr.snoc X' N hg) e' W (A0.same W))
theorem s_castore (X : Stand p l e R s m args below meth c T locs cells slots) (hx : p.tables.exec = Jvm.exec) (hZ : Z.Warmed39 s.vm) (eT : T.heap = h) {j : Int32} {x : Int32} (A : AI Z h a .char xs) (N : Fr n0 locs) (hg : n0 ≤ a) (hj : ¬ j < 0) {i : Nat} (hji : j.toNatClampNeg = i) (hi : i < xs.length) (hs : xs.set i (nar .char x) = ys) (hd : decode c.code pc = .ok (.castore, 1)) (hq : pc + 1 = q)
    (k : ∀ (T' : State) (h' : Heap) (locs' : List Loc), Stand p l e R s m args below meth c T' locs' cells slots → Fr n0 locs' → T'.heap = h' → Wr h h' a i (.int (nar .char x)) → AI Z h' a .char ys → Go p e below G T' m q L S) : Go p e below G T m pc L (.int x :: .int j :: .ref a :: S) := by
  subst hq hs hji; have A0 := A; obtain ⟨cl, Ar, ex, -⟩ := A
  obtain ⟨T', h', X', e', W, st⟩ := stC X hx hZ eT Ar (j := j) (own_in ex hj hi) (g := mkF m pc L (.int x :: .int j :: .ref a :: S)) rfl rfl hd
  exact Go.st st (k T' h' _ X' (Fr.snoc X' N hg) e' W (A0.same W))
theorem s_bastore (X : Stand p l e R s m args below meth c T locs cells slots) (hx : p.tables.exec = Jvm.exec) (hZ : Z.Warmed39 s.vm) (eT : T.heap = h) {j : Int32} {x : Int32} (A : AI Z h a .byte xs) (N : Fr n0 locs) (hg : n0 ≤ a) (hj : ¬ j < 0) {i : Nat} (hji : j.toNatClampNeg = i) (hi : i < xs.length) (hs : xs.set i (nar .byte x) = ys) (hd : decode c.code pc = .ok (.bastore, 1)) (hq : pc + 1 = q)
    (k : ∀ (T' : State) (h' : Heap) (locs' : List Loc), Stand p l e R s m args below meth c T' locs' cells slots → Fr n0 locs' → T'.heap = h' → Wr h h' a i (.int (nar .byte x)) → AI Z h' a .byte ys → Go p e below G T' m q L S) : Go p e below G T m pc L (.int x :: .int j :: .ref a :: S) := by
  subst hq hs hji; have A0 := A; obtain ⟨cl, Ar, ex, -⟩ := A
  obtain ⟨T', h', X', e', W, st⟩ := stB X hx hZ eT Ar (j := j) (own_in ex hj hi) (g := mkF m pc L (.int x :: .int j :: .ref a :: S)) rfl rfl hd
  exact Go.st st (k T' h' _ X' (Fr.snoc X' N hg) e' W (A0.same W))
theorem s_lastore (X : Stand p l e R s m args below meth c T locs cells slots) (hx : p.tables.exec = Jvm.exec) (hZ : Z.Warmed39 s.vm) (eT : T.heap = h) {j : Int32} {x : Int64} (A : AJ Z h a us) (N : Fr n0 locs) (hg : n0 ≤ a) (hj : ¬ j < 0) {i : Nat} (hji : j.toNatClampNeg = i) (hi : i < us.length) (hs : us.set i x = vs) (hd : decode c.code pc = .ok (.lastore, 1)) (hq : pc + 1 = q)
    (k : ∀ (T' : State) (h' : Heap) (locs' : List Loc), Stand p l e R s m args below meth c T' locs' cells slots → Fr n0 locs' → T'.heap = h' → Wr h h' a i (.long x) → AJ Z h' a vs → Go p e below G T' m q L S) : Go p e below G T m pc L (.long x :: .int j :: .ref a :: S) := by
  subst hq hs hji; have A0 := A; obtain ⟨cl, Ar, ex, -⟩ := A
  obtain ⟨T', h', X', e', W, st⟩ := Jvm.RoadKit.stJ X hx hZ eT Ar (j := j) (own_in ex hj hi) (g := mkF m pc L (.long x :: .int j :: .ref a :: S)) rfl rfl hd
  exact Go.st st (k T' h' _ X' (Fr.snoc X' N hg) e' W (A0.same W))
theorem s_newI (X : Stand p l e R s m args below meth c T locs cells slots) (hx : p.tables.exec = Jvm.exec) (hZ : Z.Warmed39 s.vm) (w : (Jvm.Cond.arrayClass .int).before a0 Z = true) (eT : T.heap = h) {z : Int32} (hz : ¬ z < 0) {cap : Nat} (hcap : z.toNatClampNeg ≤ cap) (hb8 : cap * 8 ≤ 536870912) (hc : cells + 1 ≤ R.cells) (hl : slots + cap ≤ R.slots) (hs : List.replicate z.toNatClampNeg 0 = ys) (hd : decode c.code pc = .ok (.newarray .int, 2)) (hq : pc + 2 = q)
    (k : ∀ (T' : State) (h' : Heap) (a : Addr), Stand p l e R s m args below meth c T' locs (cells + 1) (slots + cap) → T'.heap = h' → Ext h h' → a = h.size → AI Z h' a .int ys → Go p e below G T' m q L (.ref a :: S)) : Go p e below G T m pc L (.int z :: S) := by
  subst hq hs
  obtain ⟨T', h', cA, X', e', E, A, st⟩ := newP X hx hZ (aty := .int) w eT (g := mkF m pc L (.int z :: S)) rfl hd rfl hz (cap := cap) hcap hb8 hc hl
  refine Go.st st (k T' h' _ X' e' E rfl ⟨_, A, ?_, ?_⟩)
  · simp [newA, defaultValue, newarray.typeOf]
  · rw [List.length_replicate]; have := z.toInt_lt; simp only [Int32.toNatClampNeg]; omega
theorem s_newC (X : Stand p l e R s m args below meth c T locs cells slots) (hx : p.tables.exec = Jvm.exec) (hZ : Z.Warmed39 s.vm) (w : (Jvm.Cond.arrayClass .char).before a0 Z = true) (eT : T.heap = h) {z : Int32} (hz : ¬ z < 0) {cap : Nat} (hcap : z.toNatClampNeg ≤ cap) (hb8 : cap * 8 ≤ 536870912) (hc : cells + 1 ≤ R.cells) (hl : slots + cap ≤ R.slots) (hs : List.replicate z.toNatClampNeg 0 = ys) (hd : decode c.code pc = .ok (.newarray .char, 2)) (hq : pc + 2 = q)
    (k : ∀ (T' : State) (h' : Heap) (a : Addr), Stand p l e R s m args below meth c T' locs (cells + 1) (slots + cap) → T'.heap = h' → Ext h h' → a = h.size → AI Z h' a .char ys → Go p e below G T' m q L (.ref a :: S)) : Go p e below G T m pc L (.int z :: S) := by
  subst hq hs
  obtain ⟨T', h', cA, X', e', E, A, st⟩ := newP X hx hZ (aty := .char) w eT (g := mkF m pc L (.int z :: S)) rfl hd rfl hz (cap := cap) hcap hb8 hc hl
  refine Go.st st (k T' h' _ X' e' E rfl ⟨_, A, ?_, ?_⟩)
  · simp [newA, defaultValue, newarray.typeOf]
  · rw [List.length_replicate]; have := z.toInt_lt; simp only [Int32.toNatClampNeg]; omega
theorem s_newB (X : Stand p l e R s m args below meth c T locs cells slots) (hx : p.tables.exec = Jvm.exec) (hZ : Z.Warmed39 s.vm) (w : (Jvm.Cond.arrayClass .byte).before a0 Z = true) (eT : T.heap = h) {z : Int32} (hz : ¬ z < 0) {cap : Nat} (hcap : z.toNatClampNeg ≤ cap) (hb8 : cap * 8 ≤ 536870912) (hc : cells + 1 ≤ R.cells) (hl : slots + cap ≤ R.slots) (hs : List.replicate z.toNatClampNeg 0 = ys) (hd : decode c.code pc = .ok (.newarray .byte, 2)) (hq : pc + 2 = q)
    (k : ∀ (T' : State) (h' : Heap) (a : Addr), Stand p l e R s m args below meth c T' locs (cells + 1) (slots + cap) → T'.heap = h' → Ext h h' → a = h.size → AI Z h' a .byte ys → Go p e below G T' m q L (.ref a :: S)) : Go p e below G T m pc L (.int z :: S) := by
  subst hq hs
  obtain ⟨T', h', cA, X', e', E, A, st⟩ := newP X hx hZ (aty := .byte) w eT (g := mkF m pc L (.int z :: S)) rfl hd rfl hz (cap := cap) hcap hb8 hc hl
  refine Go.st st (k T' h' _ X' e' E rfl ⟨_, A, ?_, ?_⟩)
  · simp [newA, defaultValue, newarray.typeOf]
  · rw [List.length_replicate]; have := z.toInt_lt; simp only [Int32.toNatClampNeg]; omega
theorem s_newJ (X : Stand p l e R s m args below meth c T locs cells slots) (hx : p.tables.exec = Jvm.exec) (hZ : Z.Warmed39 s.vm) (w : (Jvm.Cond.arrayClass .long).before a0 Z = true) (eT : T.heap = h) {z : Int32} (hz : ¬ z < 0) {cap : Nat} (hcap : z.toNatClampNeg ≤ cap) (hb8 : cap * 8 ≤ 536870912) (hc : cells + 1 ≤ R.cells) (hl : slots + cap ≤ R.slots) (hs : List.replicate z.toNatClampNeg 0 = vs) (hd : decode c.code pc = .ok (.newarray .long, 2)) (hq : pc + 2 = q)
    (k : ∀ (T' : State) (h' : Heap) (a : Addr), Stand p l e R s m args below meth c T' locs (cells + 1) (slots + cap) → T'.heap = h' → Ext h h' → a = h.size → AJ Z h' a vs → Go p e below G T' m q L (.ref a :: S)) : Go p e below G T m pc L (.int z :: S) := by
  subst hq hs
  obtain ⟨T', h', cA, X', e', E, A, st⟩ := newP X hx hZ (aty := .long) w eT (g := mkF m pc L (.int z :: S)) rfl hd rfl hz (cap := cap) hcap hb8 hc hl
  refine Go.st st (k T' h' _ X' e' E rfl ⟨_, A, ?_, ?_⟩)
  · simp [newA, defaultValue, newarray.typeOf]
  · rw [List.length_replicate]; have := z.toInt_lt; simp only [Int32.toNatClampNeg]; omega
theorem s_lenI (X : Stand p l e R s m args below meth c T locs cells slots) (hx : p.tables.exec = Jvm.exec) (hZ : Z.Warmed39 s.vm) (eT : T.heap = h) {z : Int32} (A : AI Z h a ty xs) (hz : xs.length.toInt32 = z) (hd : decode c.code pc = .ok (.arraylength, 1)) (hq : pc + 1 = q) (K : Go p e below G T m q L (.int z :: S)) : Go p e below G T m pc L (.ref a :: S) := by
  subst hq hz; obtain ⟨cl, Ar, ex, -⟩ := A
  rw [← own_size ex] at K
  exact Go.st (fun t k => X.arraylength hx (by rw [eT]; exact Ar.1) (State.isArrayOf_alike hZ.alike Ar.2.1) (g := mkF m pc L (.ref a :: S)) rfl rfl hd t k) K
theorem s_lenJ (X : Stand p l e R s m args below meth c T locs cells slots) (hx : p.tables.exec = Jvm.exec) (hZ : Z.Warmed39 s.vm) (eT : T.heap = h) {z : Int32} (A : AJ Z h a us) (hz : us.length.toInt32 = z) (hd : decode c.code pc = .ok (.arraylength, 1)) (hq : pc + 1 = q) (K : Go p e below G T m q L (.int z :: S)) : Go p e below G T m pc L (.ref a :: S) := by
  subst hq hz; obtain ⟨cl, Ar, ex, -⟩ := A
  rw [← own_size ex] at K
  exact Go.st (fun t k => X.arraylength hx (by rw [eT]; exact Ar.1) (State.isArrayOf_alike hZ.alike Ar.2.1) (g := mkF m pc L (.ref a :: S)) rfl rfl hd t k) K
theorem own_mask_nn (x m : Int32) (h0 : 0 ≤ m.toInt) : ¬ (x &&& m) < 0 := by
  have := c_and x m h0; rw [Int32.lt_iff_toInt_lt]; show ¬ (x &&& m).toInt < 0; omega
theorem own_mask_ix (x m : Int32) {N : Nat} (h0 : 0 ≤ m.toInt) (h : m.toInt < N) : (x &&& m).toNatClampNeg < N := by
  have := c_and x m h0; simp only [Int32.toNatClampNeg]; omega
theorem own_idx {k n : Int32} {N : Nat} (h0 : ¬ k < 0) (h : k < n) (hn : n.toInt = N) : k.toNatClampNeg < N := by
  have e0 : (0 : Int32).toInt = 0 := rfl
  simp only [Int32.lt_iff_toInt_lt, Int32.toNatClampNeg] at *; omega
theorem own_cs {x : Int32} {k : Int} (b : Int32) (hb : b.toInt = k) (h : x.toInt = k) : x = b := Int32.toInt_inj.mp (h.trans hb.symm)
theorem own_lt {x b : Int32} {k : Int} (hb : b.toInt = k) (h : x.toInt < k) : x < b := by rw [Int32.lt_iff_toInt_lt, hb]; exact h
theorem own_nlt {x b : Int32} {k : Int} (hb : b.toInt = k) (h : k ≤ x.toInt) : ¬ x < b := by rw [Int32.lt_iff_toInt_lt, hb]; omega
theorem own_gt {x b : Int32} {k : Int} (hb : b.toInt = k) (h : k < x.toInt) : b < x := by rw [Int32.lt_iff_toInt_lt, hb]; exact h
theorem own_ngt {x b : Int32} {k : Int} (hb : b.toInt = k) (h : x.toInt ≤ k) : ¬ b < x := by rw [Int32.lt_iff_toInt_lt, hb]; omega
theorem own_eqi {x b : Int32} {k : Int} (hb : b.toInt = k) (h : x.toInt = k) : x = b := Int32.toInt_inj.mp (h.trans hb.symm)
theorem own_nei {x b : Int32} {k : Int} (hb : b.toInt = k) (h : x.toInt ≠ k) : ¬ x = b := fun q => h (by rw [q, hb])
end Kit
section Kit2
variable {p : Program} {l : Launch} {e : Env} {R : Room} {s : State} {m : MethodId} {args : Array Value} {below : List Frame} {meth : Method} {c : Code} {T : State} {locs : List Loc} {cells slots : Nat} {G : State → Prop} {L L' : Array Slot} {S : List Value} {pc q q1 : Nat}
variable {Z : State} {a0 : Array Value} {h h' : Heap} {a b : Addr} {own C O n d : String} {v : Value} {n0 : Nat} {ty : FieldType} {xs ys zs : List Int32}
theorem own_len32 {k : Nat} (h : k < 2147483648) : k.toInt32.toNatClampNeg = k ∧ ¬ k.toInt32 < 0 := by
  have e : k.toInt32.toInt = k := len_toInt h
  have e0 : (0 : Int32).toInt = 0 := rfl
  simp only [Int32.toNatClampNeg, Int32.lt_iff_toInt_lt, e]; omega
theorem own_getD (xs : List Int32) (i : Nat) : (xs.map Value.int).getD i (.int 0) = .int (xs.getD i 0) := by
  simp only [List.getD_eq_getElem?_getD, List.getElem?_map]; cases xs[i]? <;> rfl
theorem AI.toV (A : AI Z h a .int xs) : ∃ k, Arv Z h a k .int xs.length.toInt32 (xs.map Value.int) (.int 0) := by
  obtain ⟨cl, Ar, ex, hn⟩ := A
  obtain ⟨q1, q2⟩ := own_len32 hn
  refine ⟨cl.cls, cl, Ar, rfl, by rw [q1, own_size ex], q2, fun i hi => ?_, fun i _ => ?_⟩
  · rw [own_getD]
    rw [own_size ex] at hi
    exact own_at ex (f := Value.int) (by rw [List.getD_eq_getElem?_getD, List.getElem?_eq_getElem hi]; rfl)
  · rw [own_getD]; rfl
theorem AI.ofV {k : ClassId} {z : Int32} {vs : List Value} {d : Value} (A : Arv Z h a k ty z vs d) (hv : vs = xs.map Value.int) (hz : z.toNatClampNeg = xs.length) : AI Z h a ty xs := by
  obtain ⟨cl, Ar, -, S, -, H, -⟩ := A
  subst hv
  refine ⟨cl, Ar, ?_, ?_⟩
  · apply List.ext_getElem?
    intro i
    rw [Array.getElem?_toList]
    by_cases hi : i < cl.slots.size
    · rw [H i hi, List.getD_eq_getElem?_getD]
      rw [S, hz] at hi
      rw [List.getElem?_eq_getElem (by simpa using hi)]; rfl
    · rw [Array.getElem?_eq_none (by omega), List.getElem?_eq_none (by rw [S, hz] at hi; simpa using hi)]
  · rw [← hz]; have := z.toInt_lt; simp only [Int32.toNatClampNeg]; omega
theorem own_us (xs : List Int32) (sp nn : Nat) (h : sp + nn ≤ xs.length) : ((List.range nn).map fun i => (xs.map Value.int).getD (sp + i) (.int 0)) = ((xs.drop sp).take nn).map Value.int := by
  apply List.ext_getElem?
  intro i
  simp only [List.getElem?_map, own_getD, List.getElem?_take, List.getElem?_drop]
  by_cases hi : i < nn
  · rw [List.getElem?_range hi, if_pos hi, List.getElem?_eq_getElem (by omega)]
    simp [List.getD_eq_getElem?_getD, List.getElem?_eq_getElem (show sp + i < xs.length by omega)]
  · rw [if_neg hi, List.getElem?_eq_none (by simpa using hi)]; rfl
theorem s_copyI (X : Stand p l e R s m args below meth c T locs cells slots) (hx : p.tables.exec = Jvm.exec) (hZ : Z.Warmed39 s.vm) (hown : s.vm.findClass own = some m.cls) {index : Nat} {W : Nat} (w1 : (Jvm.Cond.methodLink own index Jvm.Stand.acN).before a0 Z = true) (w2 : (Jvm.Cond.native Jvm.Stand.acN).before a0 Z = true) (w3 : (Jvm.Cond.static Jvm.Stand.acN).before a0 Z = true) (w4 : (Jvm.Cond.initialized "java/lang/System").before a0 Z = true) (eT : T.heap = h)
    (A : AI Z h a .int xs) (B : AI Z h b .int ys) {sp dp nn : Int32} {i j k : Nat} (hi : sp.toNatClampNeg = i) (hj : dp.toNatClampNeg = j) (hk : nn.toNatClampNeg = k) (h1 : ¬ sp < 0) (h2 : ¬ dp < 0) (h3 : ¬ nn < 0) (h4 : i + k ≤ xs.length) (h5 : j + k ≤ ys.length) (hzs : ys.take j ++ (xs.drop i).take k ++ ys.drop (j + k) = zs) (N : Fr n0 locs) (ge : n0 ≤ b) (hsize : L.size = c.maxLocals)
    (hf : 1 ≤ R.frames) (hW : (S.map fun v => v.category).sum ≤ W) (hlo : W + (nativeFrameWords "java/lang/System" "arraycopy" 5 + 11) ≤ R.locals) (hd : decode c.code pc = .ok (.invokestatic index, 3)) (hq : pc + 3 = q)
    (kk : ∀ (T' : State) (h' : Heap) (locs' : List Loc), Stand p l e R s m args below meth c T' locs' cells slots → Fr n0 locs' → T'.heap = h' → Keep h h' [b] → AI Z h' b .int zs → Go p e below G T' m q L S) : Go p e below G T m pc L (.int nn :: .int dp :: .ref b :: .int sp :: .ref a :: S) := by
  subst hq hi hj hk hzs
  have hnx := A; have hny := B
  obtain ⟨-, -, -, lx⟩ := hnx
  obtain ⟨-, -, -, ly⟩ := hny
  obtain ⟨ka, Va⟩ := A.toV
  obtain ⟨kb, Vb⟩ := B.toV
  obtain ⟨px, -⟩ := own_len32 lx
  obtain ⟨py, -⟩ := own_len32 ly
  obtain ⟨T', h', L', X', e', N', K, V, st⟩ := cpA X hx hZ hown w1 w2 w3 w4 eT Va Vb (Or.inl ⟨rfl, rfl⟩) (sp := sp) (dp := dp) (nn := nn) h1 h2 h3 (by rw [px]; exact h4) (by rw [py]; exact h5) rfl (by rw [List.length_map]; exact h5) N ge (g := mkF m pc L (.int nn :: .int dp :: .ref b :: .int sp :: .ref a :: S)) rfl hsize rfl hd hf (W := W) (by show 2 * 0 + _ ≤ _; omega) hlo
  rw [own_us xs _ _ h4, ← List.map_take, ← List.map_drop, ← List.map_append, ← List.map_append] at V
  refine Go.st st (kk T' h' L' X' N' e' K (AI.ofV V rfl ?_))
  rw [py]; simp only [List.length_append, List.length_take, List.length_drop]; omega
theorem s_newIE (X : Stand p l e R s m args below meth c T locs cells slots) (hx : p.tables.exec = Jvm.exec) (hZ : Z.Warmed39 s.vm) (w : (Jvm.Cond.arrayClass .int).before a0 Z = true) (eT : T.heap = h) {z : Int32} (hz : ¬ z < 0) {cap : Nat} (hcap : z.toNatClampNeg ≤ cap) (hb8 : cap * 8 ≤ 536870912) (hc : cells + 1 ≤ R.cells) (hl : slots + cap ≤ R.slots) (hs : List.replicate z.toNatClampNeg 0 = ys) (hd : decode c.code pc = .ok (.newarray .int, 2)) (hq : pc + 2 = q)
    (k : ∀ (T' : State) (h' : Heap) (a : Addr), Stand p l e R s m args below meth c T' locs (cells + 1) (slots + cap) → T'.heap = h' → Ext h h' → a = h.size → AI Z h' a .int ys → Exa Z h' a "[I" → Go p e below G T' m q L (.ref a :: S)) : Go p e below G T m pc L (.int z :: S) := by
  subst hq hs
  obtain ⟨T', h', cA, X', e', E, A, Ea, st⟩ := newPE X hx hZ (aty := .int) w eT (g := mkF m pc L (.int z :: S)) rfl hd rfl hz (cap := cap) hcap hb8 hc hl (ad := "[I") (by decide)
  refine Go.st st (k T' h' _ X' e' E rfl ⟨_, A, ?_, ?_⟩ Ea)
  · simp [newA, defaultValue, newarray.typeOf]
  · rw [List.length_replicate]; have := z.toInt_lt; simp only [Int32.toNatClampNeg]; omega
theorem s_cloneI (X : Stand p l e R s m args below meth c T locs cells slots) (hx : p.tables.exec = Jvm.exec) (hZ : Z.Warmed39 s.vm) (hown : s.vm.findClass own = some m.cls) {index : Nat} {W cap : Nat}
    (w1 : (Jvm.Cond.methodLink own index ⟨"[I", "clone", "()Ljava/lang/Object;"⟩).before a0 Z = true) (w2 : (Jvm.Cond.sameMethod "[I" "java/lang/Object" "clone" "()Ljava/lang/Object;").before a0 Z = true) (w3 : (Jvm.Cond.native ⟨"java/lang/Object", "clone", "()Ljava/lang/Object;"⟩).before a0 Z = true)
    (w4 : (Jvm.Cond.instanceMethod ⟨"java/lang/Object", "clone", "()Ljava/lang/Object;"⟩).before a0 Z = true) (w5 : (Jvm.Cond.selects "[I" ⟨"[I", "clone", "()Ljava/lang/Object;"⟩ ⟨"java/lang/Object", "clone", "()Ljava/lang/Object;"⟩).before a0 Z = true) (w6 : (Jvm.Cond.castable "[I" "java/lang/Cloneable").before a0 Z = true)
    (eT : T.heap = h) (A : AI Z h a .int xs) (E : Exa Z h a "[I") (hsize : L.size = c.maxLocals) (hf : 1 ≤ R.frames) (hW : (S.map fun v => v.category).sum ≤ W) (hl : W + 14 ≤ R.locals) (hcap : xs.length ≤ cap) (hc : cells + 1 ≤ R.cells) (hsl : slots + cap ≤ R.slots) (hd : decode c.code pc = .ok (.invokevirtual index, 3)) (hq : pc + 3 = q)
    (k : ∀ (T' : State) (h' : Heap) (b : Addr), Stand p l e R s m args below meth c T' locs (cells + 1) (slots + cap) → T'.heap = h' → Ext h h' → b = h.size → AI Z h' b .int xs → Exa Z h' b "[I" → Go p e below G T' m q L (.ref b :: S)) : Go p e below G T m pc L (.ref a :: S) := by
  subst hq
  obtain ⟨cl, Ar, ex, hn⟩ := A
  have FC : FitC Z cl := fitC_of Ar fun i hi v hv => by
    rw [← Array.getElem?_toList, ex, List.getElem?_map] at hv
    cases hq : xs[i]? with
    | none => rw [hq] at hv; cases hv
    | some x => rw [hq] at hv; cases hv; rfl
  obtain ⟨T', h', X', e', Ee, A', E', st⟩ := cloneA X hx hZ hown w1 w2 w3 w4 w5 w6 eT Ar E FC (g := mkF m pc L (.ref a :: S)) rfl hsize rfl hd hf (W := W) (by show 2 * 0 + _ ≤ _; omega) hl (by rw [own_size ex]; exact hcap) hc hsl
  exact Go.st st (k T' h' _ X' e' Ee rfl ⟨_, A', ex, hn⟩ E')
theorem s_cast (X : Stand p l e R s m args below meth c T locs cells slots) (hx : p.tables.exec = Jvm.exec) (hZ : Z.Warmed39 s.vm) (hown : s.vm.findClass own = some m.cls) {index : Nat} (w : (Jvm.Cond.classLink own index C).before a0 Z = true) (eT : T.heap = h) (F : Ins Z h a C true) (hd : decode c.code pc = .ok (.checkcast index, 3)) (hq : pc + 3 = q)
    (k : ∀ T', Stand p l e R s m args below meth c T' locs cells slots → T'.heap = h → Go p e below G T' m q L (.ref a :: S)) : Go p e below G T m pc L (.ref a :: S) := by
  subst hq
  obtain ⟨T', X', e', st⟩ := castY X hx hZ hown w eT F (g := mkF m pc L (.ref a :: S)) rfl rfl hd
  exact Go.st st (k T' X' e')
end Kit2
theorem d3_0 : decode jdk_29_method_65_code 0 = .ok (.iload_n 0, 1) := by decide +kernel
theorem d3_1 : decode jdk_29_method_65_code 1 = .ok (.iload_n 1, 1) := by decide +kernel
theorem d3_2 : decode jdk_29_method_65_code 2 = .ok (.if_icmp .lt 7, 3) := by decide +kernel
theorem d3_5 : decode jdk_29_method_65_code 5 = .ok (.iload_n 0, 1) := by decide +kernel
theorem d3_6 : decode jdk_29_method_65_code 6 = .ok (.goto 4, 3) := by decide +kernel
theorem d3_9 : decode jdk_29_method_65_code 9 = .ok (.iload_n 1, 1) := by decide +kernel
theorem d3_10 : decode jdk_29_method_65_code 10 = .ok (.ireturn, 1) := by decide +kernel
theorem pn_3 : plainFor (⟨"java/lang/Math", "max", "(II)I"⟩ : MethodName) = true := Jvm.Free.JP.mathPlain rfl (by decide +kernel)
theorem ef_3 (m : MethodId) (x0 : Int32) (x1 : Int32) : entryFrame m #[(.int x0), (.int x1)] 2 = mkF m 0 #[.val (.int x0), .val (.int x1)] [] := by first | (simp [entryFrame, mkF, argsToLocals, Value.category]; done) | rfl
def F3 (x0 : Int32) (x1 : Int32) : Int32 := (if x0 < x1 then x1 else x0)
set_option maxRecDepth 65536 in
set_option maxHeartbeats 40000000 in
theorem rm3 (l : Launch) (Z : State) (a0 : Array Value) (hw : ∀ d ∈ tables_1, d.before a0 Z = true) (ws : List Jvm.Cond) (x0 : Int32) (x1 : Int32)  (h0 : Heap) :
    Ctr l (⟨"java/lang/Math", "max", "(II)I"⟩ : MethodName) jdk_29_method_65_code 2 (some .int) ws ({ frames := 0, cells := 0, slots := 0, locals := 0 } : Room) Z #[(.int x0), (.int x1)] h0 (PQ (.int (F3 x0 x1)) h0) 0 0 := by
  refine Ctr.mk pn_3 ?_
  intro p e s m below meth c T hx hby hml hown hnm hlk hret hZ X eT
  refine enter (ef_3 m x0 x1) ?_
  obtain ⟨res, hres⟩ : ∃ r, r = F3 x0 x1 := ⟨_, rfl⟩
  rw [← hres]
  refine s_iloadN X hx (hb hby d3_0) rfl (q := 1) rfl ?_
  refine s_iloadN X hx (hb hby d3_1) rfl (q := 2) rfl ?_
  refine f_icmp_lt X hx (hb hby d3_2) (q1 := 9) (by decide) (by decide) (q := 5) rfl (fun hc2 => ?_) (fun hc2 => ?_)
  · refine s_iloadN X hx (hb hby d3_9) rfl (q := 10) rfl ?_
    exact leafI X hx hlk hret (hb hby d3_10) (Nat.le_refl _) (Nat.le_refl _) ⟨congrArg (fun z => some (Value.int z)) (hres.trans (by unfold F3; rw [if_pos hc2])).symm, eT, rfl⟩
  refine s_iloadN X hx (hb hby d3_5) rfl (q := 6) rfl ?_
  refine s_goto X hx (hb hby d3_6) (q1 := 10) (by decide) (by decide) ?_
  exact leafI X hx hlk hret (hb hby d3_10) (Nat.le_refl _) (Nat.le_refl _) ⟨congrArg (fun z => some (Value.int z)) (hres.trans (by unfold F3; rw [if_neg hc2])).symm, eT, rfl⟩
theorem d6_0 : decode jdk_29_method_69_code 0 = .ok (.iload_n 0, 1) := by decide +kernel
theorem d6_1 : decode jdk_29_method_69_code 1 = .ok (.iload_n 1, 1) := by decide +kernel
theorem d6_2 : decode jdk_29_method_69_code 2 = .ok (.if_icmp .gt 7, 3) := by decide +kernel
theorem d6_5 : decode jdk_29_method_69_code 5 = .ok (.iload_n 0, 1) := by decide +kernel
theorem d6_6 : decode jdk_29_method_69_code 6 = .ok (.goto 4, 3) := by decide +kernel
theorem d6_9 : decode jdk_29_method_69_code 9 = .ok (.iload_n 1, 1) := by decide +kernel
theorem d6_10 : decode jdk_29_method_69_code 10 = .ok (.ireturn, 1) := by decide +kernel
theorem pn_6 : plainFor (⟨"java/lang/Math", "min", "(II)I"⟩ : MethodName) = true := Jvm.Free.JP.mathPlain rfl (by decide +kernel)
theorem ef_6 (m : MethodId) (x0 : Int32) (x1 : Int32) : entryFrame m #[(.int x0), (.int x1)] 2 = mkF m 0 #[.val (.int x0), .val (.int x1)] [] := by first | (simp [entryFrame, mkF, argsToLocals, Value.category]; done) | rfl
def F6 (x0 : Int32) (x1 : Int32) : Int32 := (if x1 < x0 then x1 else x0)
set_option maxRecDepth 65536 in
set_option maxHeartbeats 40000000 in
theorem rm6 (l : Launch) (Z : State) (a0 : Array Value) (hw : ∀ d ∈ tables_1, d.before a0 Z = true) (ws : List Jvm.Cond) (x0 : Int32) (x1 : Int32)  (h0 : Heap) :
    Ctr l (⟨"java/lang/Math", "min", "(II)I"⟩ : MethodName) jdk_29_method_69_code 2 (some .int) ws ({ frames := 0, cells := 0, slots := 0, locals := 0 } : Room) Z #[(.int x0), (.int x1)] h0 (PQ (.int (F6 x0 x1)) h0) 0 0 := by
  refine Ctr.mk pn_6 ?_
  intro p e s m below meth c T hx hby hml hown hnm hlk hret hZ X eT
  refine enter (ef_6 m x0 x1) ?_
  obtain ⟨res, hres⟩ : ∃ r, r = F6 x0 x1 := ⟨_, rfl⟩
  rw [← hres]
  refine s_iloadN X hx (hb hby d6_0) rfl (q := 1) rfl ?_
  refine s_iloadN X hx (hb hby d6_1) rfl (q := 2) rfl ?_
  refine f_icmp_gt X hx (hb hby d6_2) (q1 := 9) (by decide) (by decide) (q := 5) rfl (fun hc2 => ?_) (fun hc2 => ?_)
  · refine s_iloadN X hx (hb hby d6_9) rfl (q := 10) rfl ?_
    exact leafI X hx hlk hret (hb hby d6_10) (Nat.le_refl _) (Nat.le_refl _) ⟨congrArg (fun z => some (Value.int z)) (hres.trans (by unfold F6; rw [if_pos hc2])).symm, eT, rfl⟩
  refine s_iloadN X hx (hb hby d6_5) rfl (q := 6) rfl ?_
  refine s_goto X hx (hb hby d6_6) (q1 := 10) (by decide) (by decide) ?_
  exact leafI X hx hlk hret (hb hby d6_10) (Nat.le_refl _) (Nat.le_refl _) ⟨congrArg (fun z => some (Value.int z)) (hres.trans (by unfold F6; rw [if_neg hc2])).symm, eT, rfl⟩
theorem d1_0 : decode prog_21_method_1_code 0 = .ok (.aload_n 0, 1) := by decide +kernel
theorem d1_1 : decode prog_21_method_1_code 1 = .ok (.invokespecial 1, 3) := by decide +kernel
theorem d1_4 : decode prog_21_method_1_code 4 = .ok (.aload_n 0, 1) := by decide +kernel
theorem d1_5 : decode prog_21_method_1_code 5 = .ok (.iload_n 1, 1) := by decide +kernel
theorem d1_6 : decode prog_21_method_1_code 6 = .ok (.iconst 1, 1) := by decide +kernel
theorem d1_7 : decode prog_21_method_1_code 7 = .ok (.invokestatic 7, 3) := by decide +kernel
theorem d1_10 : decode prog_21_method_1_code 10 = .ok (.newarray .int, 2) := by decide +kernel
theorem d1_12 : decode prog_21_method_1_code 12 = .ok (.putfield 13, 3) := by decide +kernel
theorem d1_15 : decode prog_21_method_1_code 15 = .ok (.return_, 1) := by decide +kernel
theorem pn_1 : plainFor (⟨"com/example/akin/akin/engine/IntList", "<init>", "(I)V"⟩ : MethodName) = true := plainFor_of_name (by first | (simp [plainName, overriddenIn]; done) | decide +kernel)
theorem ef_1 (m : MethodId) (x0 : Addr) (x1 : Int32) : entryFrame m #[(.ref x0), (.int x1)] 2 = mkF m 0 #[.val (.ref x0), .val (.int x1)] [] := by first | (simp [entryFrame, mkF, argsToLocals, Value.category]; done) | rfl
theorem pd0 : parseMethodDescriptor "(II)I" = some ⟨[.int, .int], some .int⟩ := by decide +kernel
set_option maxRecDepth 65536 in
set_option maxHeartbeats 40000000 in
theorem rm1_1 (l : Launch) (Z : State) (a0 : Array Value) (hw : ∀ d ∈ tables_1, d.before a0 Z = true) (ws : List Jvm.Cond) (x0 : Addr) (x1 : Int32)  (h0 : Heap) (n0 : Nat) (sz : n0 ≤ h0.size) (F_x0_items : Fld Z h0 x0 "com/example/akin/akin/engine/IntList" "items" "[I" .null) (F_x0_size : Fld Z h0 x0 "com/example/akin/akin/engine/IntList" "size" "I" (.int (0 : Int32))) (E_x0 : Exa Z h0 x0 "com/example/akin/akin/engine/IntList") (g_x0 : n0 ≤ x0) (hmax : F3 x1 (1 : Int32) = (1 : Int32)) :
    Ctr l (⟨"com/example/akin/akin/engine/IntList", "<init>", "(I)V"⟩ : MethodName) prog_21_method_1_code 2 none ws ({ frames := 1, cells := 1, slots := 3, locals := 40 } : Room) Z #[(.ref x0), (.int x1)] h0 (fun v h L => v = none ∧ Fr n0 L ∧ Keep h0 h [x0] ∧ ∃ t, h0.size ≤ t ∧ Fld Z h x0 "com/example/akin/akin/engine/IntList" "items" "[I" (.ref t) ∧ Fld Z h x0 "com/example/akin/akin/engine/IntList" "size" "I" (.int (0 : Int32)) ∧ AI Z h t .int [0] ∧ Exa Z h t "[I") 1 3 := by
  refine Ctr.mk pn_1 ?_
  intro p e s m below meth c T hx hby hml hown hnm hlk hret hZ X eT
  have N := Fr.nil n0
  refine enter (ef_1 m x0 x1) ?_
  have K := Keep.refl h0 [x0]
  refine s_aloadN X hx (hb hby d1_0) rfl rfl (q := 1) rfl ?_
  refine s_initO X hx hZ hown (W := 0) (hw _ (List.mem_of_getElem? (i := 7) rfl)) (hw _ (List.mem_of_getElem? (i := 8) rfl)) (hw _ (List.mem_of_getElem? (i := 9) rfl)) eT (by rw [hml]; rfl) (by decide) (Nat.le_of_ble_eq_true rfl) (by decide) (hb hby d1_1) (q := 4) rfl ?_
  intro T X eT
  refine s_aloadN X hx (hb hby d1_4) rfl rfl (q := 5) rfl ?_
  refine s_iloadN X hx (hb hby d1_5) rfl (q := 6) rfl ?_
  refine s_iconst X hx (z := (1 : Int32)) (hb hby d1_6) rfl (q := 7) rfl ?_
  refine callP X hx hZ hown (W := 1) (argsL := [(.int x1), (.int (1 : Int32))]) (rest := [(.ref x0)]) (hw _ (List.mem_of_getElem? (i := 10) rfl)) (hw _ (List.mem_of_getElem? (i := 11) rfl)) (hw _ (List.mem_of_getElem? (i := 12) rfl)) (hw _ (List.mem_of_getElem? (i := 13) rfl)) (by decide) (rm3 l Z a0 hw [] x1 (1 : Int32) h0) rfl rfl eT (by decide) (by decide) (by decide) (by decide) (by rw [hml]; rfl) pd0 rfl rfl (Nat.le_of_ble_eq_true rfl) (hb hby d1_7) (q := 10) rfl ?_
  intro T X eT
  rw [hmax]
  refine s_newIE X hx hZ (hw _ (List.mem_of_getElem? (i := 14) rfl)) eT (by decide) (cap := 1) (by decide) (by decide) (by decide) (by decide) (ys := [0]) rfl (hb hby d1_10) (q := 12) rfl ?_
  intro T h2 a1 X eT E ea A_a1 E_a1
  have ne_x0_a1 : x0 ≠ a1 := by rw [ea]; exact Nat.ne_of_lt E_x0.lt
  have E_x0 := E_x0.ext E
  have F_x0_items := F_x0_items.ext E
  have F_x0_size := F_x0_size.ext E
  have g_a1 : n0 ≤ a1 := by rw [ea]; exact sz
  have sk_a1 : h0.size ≤ a1 := by rw [ea]; exact K.1
  have K := K.ext E
  have sz : n0 ≤ h2.size := Nat.le_trans sz E.1
  refine s_putF X hx hZ hown (hw _ (List.mem_of_getElem? (i := 15) rfl)) eT F_x0_items E_x0 (Or.inl (hw _ (List.mem_of_getElem? (i := 16) rfl))) (hw _ (List.mem_of_getElem? (i := 2) rfl)) (ty := (.array .int)) (by decide) rfl rfl N g_x0 (hb hby d1_12) (q := 15) rfl ?_
  intro T h3 _ X N eT W F_x0_items'
  have E_x0 := E_x0.wr W
  have F_x0_size := F_x0_size.other W (Or.inr (slot_ne (Or.inl (hw _ (List.mem_of_getElem? (i := 23) rfl))) (Or.inl (hw _ (List.mem_of_getElem? (i := 16) rfl))) (by decide) (t := .int) (t' := (.array .int)) (by decide) (by decide)))
  have A_a1 := A_a1.other W (Ne.symm ne_x0_a1)
  have E_a1 := E_a1.wr W
  have K := K.wr W (Or.inl (List.mem_of_getElem? (i := 0) rfl))
  have sz : n0 ≤ h3.size := by rw [W.size]; exact sz
  have F_x0_items := F_x0_items'
  exact leafV X hx hlk hret (hb hby d1_15) (by decide) (by decide) (by rw [eT]; exact ⟨rfl, N, K, _, sk_a1, F_x0_items, F_x0_size, A_a1, E_a1⟩)
set_option maxRecDepth 65536 in
set_option maxHeartbeats 40000000 in
theorem rm1_2 (l : Launch) (Z : State) (a0 : Array Value) (hw : ∀ d ∈ tables_1, d.before a0 Z = true) (ws : List Jvm.Cond) (x0 : Addr) (x1 : Int32)  (h0 : Heap) (n0 : Nat) (sz : n0 ≤ h0.size) (F_x0_items : Fld Z h0 x0 "com/example/akin/akin/engine/IntList" "items" "[I" .null) (F_x0_size : Fld Z h0 x0 "com/example/akin/akin/engine/IntList" "size" "I" (.int (0 : Int32))) (E_x0 : Exa Z h0 x0 "com/example/akin/akin/engine/IntList") (g_x0 : n0 ≤ x0) (hmax : F3 x1 (1 : Int32) = (2 : Int32)) :
    Ctr l (⟨"com/example/akin/akin/engine/IntList", "<init>", "(I)V"⟩ : MethodName) prog_21_method_1_code 2 none ws ({ frames := 1, cells := 1, slots := 3, locals := 40 } : Room) Z #[(.ref x0), (.int x1)] h0 (fun v h L => v = none ∧ Fr n0 L ∧ Keep h0 h [x0] ∧ ∃ t, h0.size ≤ t ∧ Fld Z h x0 "com/example/akin/akin/engine/IntList" "items" "[I" (.ref t) ∧ Fld Z h x0 "com/example/akin/akin/engine/IntList" "size" "I" (.int (0 : Int32)) ∧ AI Z h t .int [0, 0] ∧ Exa Z h t "[I") 1 3 := by
  refine Ctr.mk pn_1 ?_
  intro p e s m below meth c T hx hby hml hown hnm hlk hret hZ X eT
  have N := Fr.nil n0
  refine enter (ef_1 m x0 x1) ?_
  have K := Keep.refl h0 [x0]
  refine s_aloadN X hx (hb hby d1_0) rfl rfl (q := 1) rfl ?_
  refine s_initO X hx hZ hown (W := 0) (hw _ (List.mem_of_getElem? (i := 7) rfl)) (hw _ (List.mem_of_getElem? (i := 8) rfl)) (hw _ (List.mem_of_getElem? (i := 9) rfl)) eT (by rw [hml]; rfl) (by decide) (Nat.le_of_ble_eq_true rfl) (by decide) (hb hby d1_1) (q := 4) rfl ?_
  intro T X eT
  refine s_aloadN X hx (hb hby d1_4) rfl rfl (q := 5) rfl ?_
  refine s_iloadN X hx (hb hby d1_5) rfl (q := 6) rfl ?_
  refine s_iconst X hx (z := (1 : Int32)) (hb hby d1_6) rfl (q := 7) rfl ?_
  refine callP X hx hZ hown (W := 1) (argsL := [(.int x1), (.int (1 : Int32))]) (rest := [(.ref x0)]) (hw _ (List.mem_of_getElem? (i := 10) rfl)) (hw _ (List.mem_of_getElem? (i := 11) rfl)) (hw _ (List.mem_of_getElem? (i := 12) rfl)) (hw _ (List.mem_of_getElem? (i := 13) rfl)) (by decide) (rm3 l Z a0 hw [] x1 (1 : Int32) h0) rfl rfl eT (by decide) (by decide) (by decide) (by decide) (by rw [hml]; rfl) pd0 rfl rfl (Nat.le_of_ble_eq_true rfl) (hb hby d1_7) (q := 10) rfl ?_
  intro T X eT
  rw [hmax]
  refine s_newIE X hx hZ (hw _ (List.mem_of_getElem? (i := 14) rfl)) eT (by decide) (cap := 2) (by decide) (by decide) (by decide) (by decide) (ys := [0, 0]) rfl (hb hby d1_10) (q := 12) rfl ?_
  intro T h2 a1 X eT E ea A_a1 E_a1
  have ne_x0_a1 : x0 ≠ a1 := by rw [ea]; exact Nat.ne_of_lt E_x0.lt
  have E_x0 := E_x0.ext E
  have F_x0_items := F_x0_items.ext E
  have F_x0_size := F_x0_size.ext E
  have g_a1 : n0 ≤ a1 := by rw [ea]; exact sz
  have sk_a1 : h0.size ≤ a1 := by rw [ea]; exact K.1
  have K := K.ext E
  have sz : n0 ≤ h2.size := Nat.le_trans sz E.1
  refine s_putF X hx hZ hown (hw _ (List.mem_of_getElem? (i := 15) rfl)) eT F_x0_items E_x0 (Or.inl (hw _ (List.mem_of_getElem? (i := 16) rfl))) (hw _ (List.mem_of_getElem? (i := 2) rfl)) (ty := (.array .int)) (by decide) rfl rfl N g_x0 (hb hby d1_12) (q := 15) rfl ?_
  intro T h3 _ X N eT W F_x0_items'
  have E_x0 := E_x0.wr W
  have F_x0_size := F_x0_size.other W (Or.inr (slot_ne (Or.inl (hw _ (List.mem_of_getElem? (i := 23) rfl))) (Or.inl (hw _ (List.mem_of_getElem? (i := 16) rfl))) (by decide) (t := .int) (t' := (.array .int)) (by decide) (by decide)))
  have A_a1 := A_a1.other W (Ne.symm ne_x0_a1)
  have E_a1 := E_a1.wr W
  have K := K.wr W (Or.inl (List.mem_of_getElem? (i := 0) rfl))
  have sz : n0 ≤ h3.size := by rw [W.size]; exact sz
  have F_x0_items := F_x0_items'
  exact leafV X hx hlk hret (hb hby d1_15) (by decide) (by decide) (by rw [eT]; exact ⟨rfl, N, K, _, sk_a1, F_x0_items, F_x0_size, A_a1, E_a1⟩)
theorem d5_0 : decode jdk_65_method_123_code 0 = .ok (.iload_n 1, 1) := by decide +kernel
theorem d5_1 : decode jdk_65_method_123_code 1 = .ok (.aload_n 0, 1) := by decide +kernel
theorem d5_2 : decode jdk_65_method_123_code 2 = .ok (.arraylength, 1) := by decide +kernel
theorem d5_3 : decode jdk_65_method_123_code 3 = .ok (.if_icmp .ne 11, 3) := by decide +kernel
theorem d5_6 : decode jdk_65_method_123_code 6 = .ok (.aload_n 0, 1) := by decide +kernel
theorem d5_7 : decode jdk_65_method_123_code 7 = .ok (.invokevirtual 316, 3) := by decide +kernel
theorem d5_10 : decode jdk_65_method_123_code 10 = .ok (.checkcast 317, 3) := by decide +kernel
theorem d5_13 : decode jdk_65_method_123_code 13 = .ok (.areturn, 1) := by decide +kernel
theorem d5_14 : decode jdk_65_method_123_code 14 = .ok (.iload_n 1, 1) := by decide +kernel
theorem d5_15 : decode jdk_65_method_123_code 15 = .ok (.newarray .int, 2) := by decide +kernel
theorem d5_17 : decode jdk_65_method_123_code 17 = .ok (.astore_n 2, 1) := by decide +kernel
theorem d5_18 : decode jdk_65_method_123_code 18 = .ok (.aload_n 0, 1) := by decide +kernel
theorem d5_19 : decode jdk_65_method_123_code 19 = .ok (.iconst 0, 1) := by decide +kernel
theorem d5_20 : decode jdk_65_method_123_code 20 = .ok (.aload_n 2, 1) := by decide +kernel
theorem d5_21 : decode jdk_65_method_123_code 21 = .ok (.iconst 0, 1) := by decide +kernel
theorem d5_22 : decode jdk_65_method_123_code 22 = .ok (.aload_n 0, 1) := by decide +kernel
theorem d5_23 : decode jdk_65_method_123_code 23 = .ok (.arraylength, 1) := by decide +kernel
theorem d5_24 : decode jdk_65_method_123_code 24 = .ok (.iload_n 1, 1) := by decide +kernel
theorem d5_25 : decode jdk_65_method_123_code 25 = .ok (.invokestatic 304, 3) := by decide +kernel
theorem d5_28 : decode jdk_65_method_123_code 28 = .ok (.invokestatic 150, 3) := by decide +kernel
theorem d5_31 : decode jdk_65_method_123_code 31 = .ok (.aload_n 2, 1) := by decide +kernel
theorem d5_32 : decode jdk_65_method_123_code 32 = .ok (.areturn, 1) := by decide +kernel
theorem pn_5 : plainFor (⟨"java/util/Arrays", "copyOf", "([II)[I"⟩ : MethodName) = true := plainFor_of_name (by first | (simp [plainName, overriddenIn]; done) | decide +kernel)
theorem ef_5 (m : MethodId) (x0 : Addr) (x1 : Int32) : entryFrame m #[(.ref x0), (.int x1)] 3 = mkF m 0 #[.val (.ref x0), .val (.int x1), .unset] [] := by first | (simp [entryFrame, mkF, argsToLocals, Value.category]; done) | rfl
set_option maxRecDepth 65536 in
set_option maxHeartbeats 40000000 in
theorem rm5_1_0 (l : Launch) (Z : State) (a0 : Array Value) (hw : ∀ d ∈ tables_1, d.before a0 Z = true) (ws : List Jvm.Cond) (x0 : Addr) (y0 : Int32) (h0 : Heap) (n0 : Nat) (sz : n0 ≤ h0.size) (A_x0 : AI Z h0 x0 .int [y0]) (E_x0 : Exa Z h0 x0 "[I") :
    Ctr l (⟨"java/util/Arrays", "copyOf", "([II)[I"⟩ : MethodName) jdk_65_method_123_code 3 (some (.array .int)) ws ({ frames := 1, cells := 1, slots := 8, locals := 40 } : Room) Z #[(.ref x0), (.int (0 : Int32))] h0 (fun v h L => ∃ t, v = some (.ref t) ∧ Fr n0 L ∧ Keep h0 h [] ∧ h0.size ≤ t ∧ AI Z h t .int [] ∧ Exa Z h t "[I") 1 8 := by
  refine Ctr.mk pn_5 ?_
  intro p e s m below meth c T hx hby hml hown hnm hlk hret hZ X eT
  have N := Fr.nil n0
  refine enter (ef_5 m x0 (0 : Int32)) ?_
  have K := Keep.refl h0 []
  refine s_iloadN X hx (hb hby d5_0) rfl (q := 1) rfl ?_
  refine s_aloadN X hx (hb hby d5_1) rfl rfl (q := 2) rfl ?_
  refine s_lenI X hx hZ eT (z := (1 : Int32)) A_x0 rfl (hb hby d5_2) (q := 3) rfl ?_
  refine f_icmp_ne X hx (hb hby d5_3) (q1 := 14) (by decide) (by decide) (q := 6) rfl (fun _ => ?_) (fun hq => absurd hq (by decide : ¬ (0 : Int32) = (1 : Int32)))
  refine s_iloadN X hx (hb hby d5_14) rfl (q := 15) rfl ?_
  refine s_newIE X hx hZ (hw _ (List.mem_of_getElem? (i := 14) rfl)) eT (by decide) (cap := 0) (by decide) (by decide) (by decide) (by decide) (ys := []) rfl (hb hby d5_15) (q := 17) rfl ?_
  intro T h2 a1 X eT E ea A_a1 E_a1
  have ne_x0_a1 : x0 ≠ a1 := by rw [ea]; exact Nat.ne_of_lt A_x0.lt
  have A_x0 := A_x0.ext E
  have E_x0 := E_x0.ext E
  have g_a1 : n0 ≤ a1 := by rw [ea]; exact sz
  have sk_a1 : h0.size ≤ a1 := by rw [ea]; exact K.1
  have K := K.ext E
  have sz : n0 ≤ h2.size := Nat.le_trans sz E.1
  refine s_astoreN X hx (hb hby d5_17) rfl (L' := #[.val (.ref x0), .val (.int (0 : Int32)), .val (.ref a1)]) rfl (q := 18) rfl ?_
  refine s_aloadN X hx (hb hby d5_18) rfl rfl (q := 19) rfl ?_
  refine s_iconst X hx (z := (0 : Int32)) (hb hby d5_19) rfl (q := 20) rfl ?_
  refine s_aloadN X hx (hb hby d5_20) rfl rfl (q := 21) rfl ?_
  refine s_iconst X hx (z := (0 : Int32)) (hb hby d5_21) rfl (q := 22) rfl ?_
  refine s_aloadN X hx (hb hby d5_22) rfl rfl (q := 23) rfl ?_
  refine s_lenI X hx hZ eT (z := (1 : Int32)) A_x0 rfl (hb hby d5_23) (q := 24) rfl ?_
  refine s_iloadN X hx (hb hby d5_24) rfl (q := 25) rfl ?_
  refine callP X hx hZ hown (W := 4) (argsL := [(.int (1 : Int32)), (.int (0 : Int32))]) (rest := [(.int (0 : Int32)), (.ref a1), (.int (0 : Int32)), (.ref x0)]) (hw _ (List.mem_of_getElem? (i := 28) rfl)) (hw _ (List.mem_of_getElem? (i := 29) rfl)) (hw _ (List.mem_of_getElem? (i := 12) rfl)) (hw _ (List.mem_of_getElem? (i := 30) rfl)) (by decide) (rm6 l Z a0 hw [] (1 : Int32) (0 : Int32) h2) rfl rfl eT (by decide) (by decide) (by decide) (by decide) (by rw [hml]; rfl) pd0 rfl rfl (Nat.le_of_ble_eq_true rfl) (hb hby d5_25) (q := 28) rfl ?_
  intro T X eT
  show Go p e below _ T m 28 #[.val (.ref x0), .val (.int (0 : Int32)), .val (.ref a1)] [(.int (0 : Int32)), (.int (0 : Int32)), (.ref a1), (.int (0 : Int32)), (.ref x0)]
  refine s_copyI X hx hZ hown (W := 0) (hw _ (List.mem_of_getElem? (i := 31) rfl)) (hw _ (List.mem_of_getElem? (i := 34) rfl)) (hw _ (List.mem_of_getElem? (i := 32) rfl)) (hw _ (List.mem_of_getElem? (i := 33) rfl)) eT A_x0 A_a1 (i := 0) (j := 0) (k := 0) rfl rfl rfl (by decide) (by decide) (by decide) (Nat.le_of_ble_eq_true rfl) (Nat.le_of_ble_eq_true rfl) (zs := []) rfl N g_a1 (by rw [hml]; rfl) (by decide) (Nat.le_of_ble_eq_true rfl) (by decide) (hb hby d5_28) (q := 31) rfl ?_
  intro T h3 _ X N eT K' A_a1'
  have A_x0 := A_x0.keep K' (ninS ne_x0_a1 nin0)
  have E_x0 := E_x0.keep K'
  have E_a1 := E_a1.keep K'
  have sz : n0 ≤ h3.size := Nat.le_trans sz K'.1
  have K := K.trans K' (allS (Or.inr sk_a1) all0)
  have A_a1 := A_a1'
  refine s_aloadN X hx (hb hby d5_31) rfl rfl (q := 32) rfl ?_
  exact leafA X hx hlk hret rfl rfl (hb hby d5_32) (by decide) (by decide) (by rw [eT]; exact ⟨a1, rfl, N, K, sk_a1, A_a1, E_a1⟩)
set_option maxRecDepth 65536 in
set_option maxHeartbeats 40000000 in
theorem rm5_1_1 (l : Launch) (Z : State) (a0 : Array Value) (hw : ∀ d ∈ tables_1, d.before a0 Z = true) (ws : List Jvm.Cond) (x0 : Addr) (y0 : Int32) (h0 : Heap) (n0 : Nat) (sz : n0 ≤ h0.size) (A_x0 : AI Z h0 x0 .int [y0]) (E_x0 : Exa Z h0 x0 "[I") :
    Ctr l (⟨"java/util/Arrays", "copyOf", "([II)[I"⟩ : MethodName) jdk_65_method_123_code 3 (some (.array .int)) ws ({ frames := 1, cells := 1, slots := 8, locals := 40 } : Room) Z #[(.ref x0), (.int (1 : Int32))] h0 (fun v h L => ∃ t, v = some (.ref t) ∧ Fr n0 L ∧ Keep h0 h [] ∧ h0.size ≤ t ∧ AI Z h t .int [y0] ∧ Exa Z h t "[I") 1 8 := by
  refine Ctr.mk pn_5 ?_
  intro p e s m below meth c T hx hby hml hown hnm hlk hret hZ X eT
  have N := Fr.nil n0
  refine enter (ef_5 m x0 (1 : Int32)) ?_
  have K := Keep.refl h0 []
  refine s_iloadN X hx (hb hby d5_0) rfl (q := 1) rfl ?_
  refine s_aloadN X hx (hb hby d5_1) rfl rfl (q := 2) rfl ?_
  refine s_lenI X hx hZ eT (z := (1 : Int32)) A_x0 rfl (hb hby d5_2) (q := 3) rfl ?_
  refine f_icmp_ne X hx (hb hby d5_3) (q1 := 14) (by decide) (by decide) (q := 6) rfl (fun hq => absurd (by decide : (1 : Int32) = (1 : Int32)) hq) (fun _ => ?_)
  refine s_aloadN X hx (hb hby d5_6) rfl rfl (q := 7) rfl ?_
  refine s_cloneI X hx hZ hown (W := 0) (cap := 1) (hw _ (List.mem_of_getElem? (i := 40) rfl)) (hw _ (List.mem_of_getElem? (i := 41) rfl)) (hw _ (List.mem_of_getElem? (i := 45) rfl)) (hw _ (List.mem_of_getElem? (i := 43) rfl)) (hw _ (List.mem_of_getElem? (i := 44) rfl)) (hw _ (List.mem_of_getElem? (i := 46) rfl)) eT A_x0 E_x0 (by rw [hml]; rfl) (by decide) (Nat.le_of_ble_eq_true rfl) (by decide) (Nat.le_of_ble_eq_true rfl) (by decide) (by decide) (hb hby d5_7) (q := 10) rfl ?_
  intro T h2 a1 X eT E ea A_a1 E_a1
  have ne_x0_a1 : x0 ≠ a1 := by rw [ea]; exact Nat.ne_of_lt A_x0.lt
  have A_x0 := A_x0.ext E
  have E_x0 := E_x0.ext E
  have g_a1 : n0 ≤ a1 := by rw [ea]; exact sz
  have sk_a1 : h0.size ≤ a1 := by rw [ea]; exact K.1
  have K := K.ext E
  have sz : n0 ≤ h2.size := Nat.le_trans sz E.1
  refine s_cast X hx hZ hown (hw _ (List.mem_of_getElem? (i := 47) rfl)) eT (Ins.self E_a1) (hb hby d5_10) (q := 13) rfl ?_
  intro T X eT
  exact leafA X hx hlk hret rfl rfl (hb hby d5_13) (by decide) (by decide) (by rw [eT]; exact ⟨a1, rfl, N, K, sk_a1, A_a1, E_a1⟩)
set_option maxRecDepth 65536 in
set_option maxHeartbeats 40000000 in
theorem rm5_1_2 (l : Launch) (Z : State) (a0 : Array Value) (hw : ∀ d ∈ tables_1, d.before a0 Z = true) (ws : List Jvm.Cond) (x0 : Addr) (y0 : Int32) (h0 : Heap) (n0 : Nat) (sz : n0 ≤ h0.size) (A_x0 : AI Z h0 x0 .int [y0]) (E_x0 : Exa Z h0 x0 "[I") :
    Ctr l (⟨"java/util/Arrays", "copyOf", "([II)[I"⟩ : MethodName) jdk_65_method_123_code 3 (some (.array .int)) ws ({ frames := 1, cells := 1, slots := 8, locals := 40 } : Room) Z #[(.ref x0), (.int (2 : Int32))] h0 (fun v h L => ∃ t, v = some (.ref t) ∧ Fr n0 L ∧ Keep h0 h [] ∧ h0.size ≤ t ∧ AI Z h t .int [y0, 0] ∧ Exa Z h t "[I") 1 8 := by
  refine Ctr.mk pn_5 ?_
  intro p e s m below meth c T hx hby hml hown hnm hlk hret hZ X eT
  have N := Fr.nil n0
  refine enter (ef_5 m x0 (2 : Int32)) ?_
  have K := Keep.refl h0 []
  refine s_iloadN X hx (hb hby d5_0) rfl (q := 1) rfl ?_
  refine s_aloadN X hx (hb hby d5_1) rfl rfl (q := 2) rfl ?_
  refine s_lenI X hx hZ eT (z := (1 : Int32)) A_x0 rfl (hb hby d5_2) (q := 3) rfl ?_
  refine f_icmp_ne X hx (hb hby d5_3) (q1 := 14) (by decide) (by decide) (q := 6) rfl (fun _ => ?_) (fun hq => absurd hq (by decide : ¬ (2 : Int32) = (1 : Int32)))
  refine s_iloadN X hx (hb hby d5_14) rfl (q := 15) rfl ?_
  refine s_newIE X hx hZ (hw _ (List.mem_of_getElem? (i := 14) rfl)) eT (by decide) (cap := 2) (by decide) (by decide) (by decide) (by decide) (ys := [0, 0]) rfl (hb hby d5_15) (q := 17) rfl ?_
  intro T h2 a1 X eT E ea A_a1 E_a1
  have ne_x0_a1 : x0 ≠ a1 := by rw [ea]; exact Nat.ne_of_lt A_x0.lt
  have A_x0 := A_x0.ext E
  have E_x0 := E_x0.ext E
  have g_a1 : n0 ≤ a1 := by rw [ea]; exact sz
  have sk_a1 : h0.size ≤ a1 := by rw [ea]; exact K.1
  have K := K.ext E
  have sz : n0 ≤ h2.size := Nat.le_trans sz E.1
  refine s_astoreN X hx (hb hby d5_17) rfl (L' := #[.val (.ref x0), .val (.int (2 : Int32)), .val (.ref a1)]) rfl (q := 18) rfl ?_
  refine s_aloadN X hx (hb hby d5_18) rfl rfl (q := 19) rfl ?_
  refine s_iconst X hx (z := (0 : Int32)) (hb hby d5_19) rfl (q := 20) rfl ?_
  refine s_aloadN X hx (hb hby d5_20) rfl rfl (q := 21) rfl ?_
  refine s_iconst X hx (z := (0 : Int32)) (hb hby d5_21) rfl (q := 22) rfl ?_
  refine s_aloadN X hx (hb hby d5_22) rfl rfl (q := 23) rfl ?_
  refine s_lenI X hx hZ eT (z := (1 : Int32)) A_x0 rfl (hb hby d5_23) (q := 24) rfl ?_
  refine s_iloadN X hx (hb hby d5_24) rfl (q := 25) rfl ?_
  refine callP X hx hZ hown (W := 4) (argsL := [(.int (1 : Int32)), (.int (2 : Int32))]) (rest := [(.int (0 : Int32)), (.ref a1), (.int (0 : Int32)), (.ref x0)]) (hw _ (List.mem_of_getElem? (i := 28) rfl)) (hw _ (List.mem_of_getElem? (i := 29) rfl)) (hw _ (List.mem_of_getElem? (i := 12) rfl)) (hw _ (List.mem_of_getElem? (i := 30) rfl)) (by decide) (rm6 l Z a0 hw [] (1 : Int32) (2 : Int32) h2) rfl rfl eT (by decide) (by decide) (by decide) (by decide) (by rw [hml]; rfl) pd0 rfl rfl (Nat.le_of_ble_eq_true rfl) (hb hby d5_25) (q := 28) rfl ?_
  intro T X eT
  show Go p e below _ T m 28 #[.val (.ref x0), .val (.int (2 : Int32)), .val (.ref a1)] [(.int (1 : Int32)), (.int (0 : Int32)), (.ref a1), (.int (0 : Int32)), (.ref x0)]
  refine s_copyI X hx hZ hown (W := 0) (hw _ (List.mem_of_getElem? (i := 31) rfl)) (hw _ (List.mem_of_getElem? (i := 34) rfl)) (hw _ (List.mem_of_getElem? (i := 32) rfl)) (hw _ (List.mem_of_getElem? (i := 33) rfl)) eT A_x0 A_a1 (i := 0) (j := 0) (k := 1) rfl rfl rfl (by decide) (by decide) (by decide) (Nat.le_of_ble_eq_true rfl) (Nat.le_of_ble_eq_true rfl) (zs := [y0, 0]) rfl N g_a1 (by rw [hml]; rfl) (by decide) (Nat.le_of_ble_eq_true rfl) (by decide) (hb hby d5_28) (q := 31) rfl ?_
  intro T h3 _ X N eT K' A_a1'
  have A_x0 := A_x0.keep K' (ninS ne_x0_a1 nin0)
  have E_x0 := E_x0.keep K'
  have E_a1 := E_a1.keep K'
  have sz : n0 ≤ h3.size := Nat.le_trans sz K'.1
  have K := K.trans K' (allS (Or.inr sk_a1) all0)
  have A_a1 := A_a1'
  refine s_aloadN X hx (hb hby d5_31) rfl rfl (q := 32) rfl ?_
  exact leafA X hx hlk hret rfl rfl (hb hby d5_32) (by decide) (by decide) (by rw [eT]; exact ⟨a1, rfl, N, K, sk_a1, A_a1, E_a1⟩)
set_option maxRecDepth 65536 in
set_option maxHeartbeats 40000000 in
theorem rm5_2_0 (l : Launch) (Z : State) (a0 : Array Value) (hw : ∀ d ∈ tables_1, d.before a0 Z = true) (ws : List Jvm.Cond) (x0 : Addr) (y0 y1 : Int32) (h0 : Heap) (n0 : Nat) (sz : n0 ≤ h0.size) (A_x0 : AI Z h0 x0 .int [y0, y1]) (E_x0 : Exa Z h0 x0 "[I") :
    Ctr l (⟨"java/util/Arrays", "copyOf", "([II)[I"⟩ : MethodName) jdk_65_method_123_code 3 (some (.array .int)) ws ({ frames := 1, cells := 1, slots := 8, locals := 40 } : Room) Z #[(.ref x0), (.int (0 : Int32))] h0 (fun v h L => ∃ t, v = some (.ref t) ∧ Fr n0 L ∧ Keep h0 h [] ∧ h0.size ≤ t ∧ AI Z h t .int [] ∧ Exa Z h t "[I") 1 8 := by
  refine Ctr.mk pn_5 ?_
  intro p e s m below meth c T hx hby hml hown hnm hlk hret hZ X eT
  have N := Fr.nil n0
  refine enter (ef_5 m x0 (0 : Int32)) ?_
  have K := Keep.refl h0 []
  refine s_iloadN X hx (hb hby d5_0) rfl (q := 1) rfl ?_
  refine s_aloadN X hx (hb hby d5_1) rfl rfl (q := 2) rfl ?_
  refine s_lenI X hx hZ eT (z := (2 : Int32)) A_x0 rfl (hb hby d5_2) (q := 3) rfl ?_
  refine f_icmp_ne X hx (hb hby d5_3) (q1 := 14) (by decide) (by decide) (q := 6) rfl (fun _ => ?_) (fun hq => absurd hq (by decide : ¬ (0 : Int32) = (2 : Int32)))
  refine s_iloadN X hx (hb hby d5_14) rfl (q := 15) rfl ?_
  refine s_newIE X hx hZ (hw _ (List.mem_of_getElem? (i := 14) rfl)) eT (by decide) (cap := 0) (by decide) (by decide) (by decide) (by decide) (ys := []) rfl (hb hby d5_15) (q := 17) rfl ?_
  intro T h2 a1 X eT E ea A_a1 E_a1
  have ne_x0_a1 : x0 ≠ a1 := by rw [ea]; exact Nat.ne_of_lt A_x0.lt
  have A_x0 := A_x0.ext E
  have E_x0 := E_x0.ext E
  have g_a1 : n0 ≤ a1 := by rw [ea]; exact sz
  have sk_a1 : h0.size ≤ a1 := by rw [ea]; exact K.1
  have K := K.ext E
  have sz : n0 ≤ h2.size := Nat.le_trans sz E.1
  refine s_astoreN X hx (hb hby d5_17) rfl (L' := #[.val (.ref x0), .val (.int (0 : Int32)), .val (.ref a1)]) rfl (q := 18) rfl ?_
  refine s_aloadN X hx (hb hby d5_18) rfl rfl (q := 19) rfl ?_
  refine s_iconst X hx (z := (0 : Int32)) (hb hby d5_19) rfl (q := 20) rfl ?_
  refine s_aloadN X hx (hb hby d5_20) rfl rfl (q := 21) rfl ?_
  refine s_iconst X hx (z := (0 : Int32)) (hb hby d5_21) rfl (q := 22) rfl ?_
  refine s_aloadN X hx (hb hby d5_22) rfl rfl (q := 23) rfl ?_
  refine s_lenI X hx hZ eT (z := (2 : Int32)) A_x0 rfl (hb hby d5_23) (q := 24) rfl ?_
  refine s_iloadN X hx (hb hby d5_24) rfl (q := 25) rfl ?_
  refine callP X hx hZ hown (W := 4) (argsL := [(.int (2 : Int32)), (.int (0 : Int32))]) (rest := [(.int (0 : Int32)), (.ref a1), (.int (0 : Int32)), (.ref x0)]) (hw _ (List.mem_of_getElem? (i := 28) rfl)) (hw _ (List.mem_of_getElem? (i := 29) rfl)) (hw _ (List.mem_of_getElem? (i := 12) rfl)) (hw _ (List.mem_of_getElem? (i := 30) rfl)) (by decide) (rm6 l Z a0 hw [] (2 : Int32) (0 : Int32) h2) rfl rfl eT (by decide) (by decide) (by decide) (by decide) (by rw [hml]; rfl) pd0 rfl rfl (Nat.le_of_ble_eq_true rfl) (hb hby d5_25) (q := 28) rfl ?_
  intro T X eT
  show Go p e below _ T m 28 #[.val (.ref x0), .val (.int (0 : Int32)), .val (.ref a1)] [(.int (0 : Int32)), (.int (0 : Int32)), (.ref a1), (.int (0 : Int32)), (.ref x0)]
  refine s_copyI X hx hZ hown (W := 0) (hw _ (List.mem_of_getElem? (i := 31) rfl)) (hw _ (List.mem_of_getElem? (i := 34) rfl)) (hw _ (List.mem_of_getElem? (i := 32) rfl)) (hw _ (List.mem_of_getElem? (i := 33) rfl)) eT A_x0 A_a1 (i := 0) (j := 0) (k := 0) rfl rfl rfl (by decide) (by decide) (by decide) (Nat.le_of_ble_eq_true rfl) (Nat.le_of_ble_eq_true rfl) (zs := []) rfl N g_a1 (by rw [hml]; rfl) (by decide) (Nat.le_of_ble_eq_true rfl) (by decide) (hb hby d5_28) (q := 31) rfl ?_
  intro T h3 _ X N eT K' A_a1'
  have A_x0 := A_x0.keep K' (ninS ne_x0_a1 nin0)
  have E_x0 := E_x0.keep K'
  have E_a1 := E_a1.keep K'
  have sz : n0 ≤ h3.size := Nat.le_trans sz K'.1
  have K := K.trans K' (allS (Or.inr sk_a1) all0)
  have A_a1 := A_a1'
  refine s_aloadN X hx (hb hby d5_31) rfl rfl (q := 32) rfl ?_
  exact leafA X hx hlk hret rfl rfl (hb hby d5_32) (by decide) (by decide) (by rw [eT]; exact ⟨a1, rfl, N, K, sk_a1, A_a1, E_a1⟩)
set_option maxRecDepth 65536 in
set_option maxHeartbeats 40000000 in
theorem rm5_2_1 (l : Launch) (Z : State) (a0 : Array Value) (hw : ∀ d ∈ tables_1, d.before a0 Z = true) (ws : List Jvm.Cond) (x0 : Addr) (y0 y1 : Int32) (h0 : Heap) (n0 : Nat) (sz : n0 ≤ h0.size) (A_x0 : AI Z h0 x0 .int [y0, y1]) (E_x0 : Exa Z h0 x0 "[I") :
    Ctr l (⟨"java/util/Arrays", "copyOf", "([II)[I"⟩ : MethodName) jdk_65_method_123_code 3 (some (.array .int)) ws ({ frames := 1, cells := 1, slots := 8, locals := 40 } : Room) Z #[(.ref x0), (.int (1 : Int32))] h0 (fun v h L => ∃ t, v = some (.ref t) ∧ Fr n0 L ∧ Keep h0 h [] ∧ h0.size ≤ t ∧ AI Z h t .int [y0] ∧ Exa Z h t "[I") 1 8 := by
  refine Ctr.mk pn_5 ?_
  intro p e s m below meth c T hx hby hml hown hnm hlk hret hZ X eT
  have N := Fr.nil n0
  refine enter (ef_5 m x0 (1 : Int32)) ?_
  have K := Keep.refl h0 []
  refine s_iloadN X hx (hb hby d5_0) rfl (q := 1) rfl ?_
  refine s_aloadN X hx (hb hby d5_1) rfl rfl (q := 2) rfl ?_
  refine s_lenI X hx hZ eT (z := (2 : Int32)) A_x0 rfl (hb hby d5_2) (q := 3) rfl ?_
  refine f_icmp_ne X hx (hb hby d5_3) (q1 := 14) (by decide) (by decide) (q := 6) rfl (fun _ => ?_) (fun hq => absurd hq (by decide : ¬ (1 : Int32) = (2 : Int32)))
  refine s_iloadN X hx (hb hby d5_14) rfl (q := 15) rfl ?_
  refine s_newIE X hx hZ (hw _ (List.mem_of_getElem? (i := 14) rfl)) eT (by decide) (cap := 1) (by decide) (by decide) (by decide) (by decide) (ys := [0]) rfl (hb hby d5_15) (q := 17) rfl ?_
  intro T h2 a1 X eT E ea A_a1 E_a1
  have ne_x0_a1 : x0 ≠ a1 := by rw [ea]; exact Nat.ne_of_lt A_x0.lt
  have A_x0 := A_x0.ext E
  have E_x0 := E_x0.ext E
  have g_a1 : n0 ≤ a1 := by rw [ea]; exact sz
  have sk_a1 : h0.size ≤ a1 := by rw [ea]; exact K.1
  have K := K.ext E
  have sz : n0 ≤ h2.size := Nat.le_trans sz E.1
  refine s_astoreN X hx (hb hby d5_17) rfl (L' := #[.val (.ref x0), .val (.int (1 : Int32)), .val (.ref a1)]) rfl (q := 18) rfl ?_
  refine s_aloadN X hx (hb hby d5_18) rfl rfl (q := 19) rfl ?_
  refine s_iconst X hx (z := (0 : Int32)) (hb hby d5_19) rfl (q := 20) rfl ?_
  refine s_aloadN X hx (hb hby d5_20) rfl rfl (q := 21) rfl ?_
  refine s_iconst X hx (z := (0 : Int32)) (hb hby d5_21) rfl (q := 22) rfl ?_
  refine s_aloadN X hx (hb hby d5_22) rfl rfl (q := 23) rfl ?_
  refine s_lenI X hx hZ eT (z := (2 : Int32)) A_x0 rfl (hb hby d5_23) (q := 24) rfl ?_
  refine s_iloadN X hx (hb hby d5_24) rfl (q := 25) rfl ?_
  refine callP X hx hZ hown (W := 4) (argsL := [(.int (2 : Int32)), (.int (1 : Int32))]) (rest := [(.int (0 : Int32)), (.ref a1), (.int (0 : Int32)), (.ref x0)]) (hw _ (List.mem_of_getElem? (i := 28) rfl)) (hw _ (List.mem_of_getElem? (i := 29) rfl)) (hw _ (List.mem_of_getElem? (i := 12) rfl)) (hw _ (List.mem_of_getElem? (i := 30) rfl)) (by decide) (rm6 l Z a0 hw [] (2 : Int32) (1 : Int32) h2) rfl rfl eT (by decide) (by decide) (by decide) (by decide) (by rw [hml]; rfl) pd0 rfl rfl (Nat.le_of_ble_eq_true rfl) (hb hby d5_25) (q := 28) rfl ?_
  intro T X eT
  show Go p e below _ T m 28 #[.val (.ref x0), .val (.int (1 : Int32)), .val (.ref a1)] [(.int (1 : Int32)), (.int (0 : Int32)), (.ref a1), (.int (0 : Int32)), (.ref x0)]
  refine s_copyI X hx hZ hown (W := 0) (hw _ (List.mem_of_getElem? (i := 31) rfl)) (hw _ (List.mem_of_getElem? (i := 34) rfl)) (hw _ (List.mem_of_getElem? (i := 32) rfl)) (hw _ (List.mem_of_getElem? (i := 33) rfl)) eT A_x0 A_a1 (i := 0) (j := 0) (k := 1) rfl rfl rfl (by decide) (by decide) (by decide) (Nat.le_of_ble_eq_true rfl) (Nat.le_of_ble_eq_true rfl) (zs := [y0]) rfl N g_a1 (by rw [hml]; rfl) (by decide) (Nat.le_of_ble_eq_true rfl) (by decide) (hb hby d5_28) (q := 31) rfl ?_
  intro T h3 _ X N eT K' A_a1'
  have A_x0 := A_x0.keep K' (ninS ne_x0_a1 nin0)
  have E_x0 := E_x0.keep K'
  have E_a1 := E_a1.keep K'
  have sz : n0 ≤ h3.size := Nat.le_trans sz K'.1
  have K := K.trans K' (allS (Or.inr sk_a1) all0)
  have A_a1 := A_a1'
  refine s_aloadN X hx (hb hby d5_31) rfl rfl (q := 32) rfl ?_
  exact leafA X hx hlk hret rfl rfl (hb hby d5_32) (by decide) (by decide) (by rw [eT]; exact ⟨a1, rfl, N, K, sk_a1, A_a1, E_a1⟩)
set_option maxRecDepth 65536 in
set_option maxHeartbeats 40000000 in
theorem rm5_2_2 (l : Launch) (Z : State) (a0 : Array Value) (hw : ∀ d ∈ tables_1, d.before a0 Z = true) (ws : List Jvm.Cond) (x0 : Addr) (y0 y1 : Int32) (h0 : Heap) (n0 : Nat) (sz : n0 ≤ h0.size) (A_x0 : AI Z h0 x0 .int [y0, y1]) (E_x0 : Exa Z h0 x0 "[I") :
    Ctr l (⟨"java/util/Arrays", "copyOf", "([II)[I"⟩ : MethodName) jdk_65_method_123_code 3 (some (.array .int)) ws ({ frames := 1, cells := 1, slots := 8, locals := 40 } : Room) Z #[(.ref x0), (.int (2 : Int32))] h0 (fun v h L => ∃ t, v = some (.ref t) ∧ Fr n0 L ∧ Keep h0 h [] ∧ h0.size ≤ t ∧ AI Z h t .int [y0, y1] ∧ Exa Z h t "[I") 1 8 := by
  refine Ctr.mk pn_5 ?_
  intro p e s m below meth c T hx hby hml hown hnm hlk hret hZ X eT
  have N := Fr.nil n0
  refine enter (ef_5 m x0 (2 : Int32)) ?_
  have K := Keep.refl h0 []
  refine s_iloadN X hx (hb hby d5_0) rfl (q := 1) rfl ?_
  refine s_aloadN X hx (hb hby d5_1) rfl rfl (q := 2) rfl ?_
  refine s_lenI X hx hZ eT (z := (2 : Int32)) A_x0 rfl (hb hby d5_2) (q := 3) rfl ?_
  refine f_icmp_ne X hx (hb hby d5_3) (q1 := 14) (by decide) (by decide) (q := 6) rfl (fun hq => absurd (by decide : (2 : Int32) = (2 : Int32)) hq) (fun _ => ?_)
  refine s_aloadN X hx (hb hby d5_6) rfl rfl (q := 7) rfl ?_
  refine s_cloneI X hx hZ hown (W := 0) (cap := 2) (hw _ (List.mem_of_getElem? (i := 40) rfl)) (hw _ (List.mem_of_getElem? (i := 41) rfl)) (hw _ (List.mem_of_getElem? (i := 45) rfl)) (hw _ (List.mem_of_getElem? (i := 43) rfl)) (hw _ (List.mem_of_getElem? (i := 44) rfl)) (hw _ (List.mem_of_getElem? (i := 46) rfl)) eT A_x0 E_x0 (by rw [hml]; rfl) (by decide) (Nat.le_of_ble_eq_true rfl) (by decide) (Nat.le_of_ble_eq_true rfl) (by decide) (by decide) (hb hby d5_7) (q := 10) rfl ?_
  intro T h2 a1 X eT E ea A_a1 E_a1
  have ne_x0_a1 : x0 ≠ a1 := by rw [ea]; exact Nat.ne_of_lt A_x0.lt
  have A_x0 := A_x0.ext E
  have E_x0 := E_x0.ext E
  have g_a1 : n0 ≤ a1 := by rw [ea]; exact sz
  have sk_a1 : h0.size ≤ a1 := by rw [ea]; exact K.1
  have K := K.ext E
  have sz : n0 ≤ h2.size := Nat.le_trans sz E.1
  refine s_cast X hx hZ hown (hw _ (List.mem_of_getElem? (i := 47) rfl)) eT (Ins.self E_a1) (hb hby d5_10) (q := 13) rfl ?_
  intro T X eT
  exact leafA X hx hlk hret rfl rfl (hb hby d5_13) (by decide) (by decide) (by rw [eT]; exact ⟨a1, rfl, N, K, sk_a1, A_a1, E_a1⟩)
set_option maxRecDepth 65536 in
set_option maxHeartbeats 40000000 in
theorem rm5_2_3 (l : Launch) (Z : State) (a0 : Array Value) (hw : ∀ d ∈ tables_1, d.before a0 Z = true) (ws : List Jvm.Cond) (x0 : Addr) (y0 y1 : Int32) (h0 : Heap) (n0 : Nat) (sz : n0 ≤ h0.size) (A_x0 : AI Z h0 x0 .int [y0, y1]) (E_x0 : Exa Z h0 x0 "[I") :
    Ctr l (⟨"java/util/Arrays", "copyOf", "([II)[I"⟩ : MethodName) jdk_65_method_123_code 3 (some (.array .int)) ws ({ frames := 1, cells := 1, slots := 8, locals := 40 } : Room) Z #[(.ref x0), (.int (3 : Int32))] h0 (fun v h L => ∃ t, v = some (.ref t) ∧ Fr n0 L ∧ Keep h0 h [] ∧ h0.size ≤ t ∧ AI Z h t .int [y0, y1, 0] ∧ Exa Z h t "[I") 1 8 := by
  refine Ctr.mk pn_5 ?_
  intro p e s m below meth c T hx hby hml hown hnm hlk hret hZ X eT
  have N := Fr.nil n0
  refine enter (ef_5 m x0 (3 : Int32)) ?_
  have K := Keep.refl h0 []
  refine s_iloadN X hx (hb hby d5_0) rfl (q := 1) rfl ?_
  refine s_aloadN X hx (hb hby d5_1) rfl rfl (q := 2) rfl ?_
  refine s_lenI X hx hZ eT (z := (2 : Int32)) A_x0 rfl (hb hby d5_2) (q := 3) rfl ?_
  refine f_icmp_ne X hx (hb hby d5_3) (q1 := 14) (by decide) (by decide) (q := 6) rfl (fun _ => ?_) (fun hq => absurd hq (by decide : ¬ (3 : Int32) = (2 : Int32)))
  refine s_iloadN X hx (hb hby d5_14) rfl (q := 15) rfl ?_
  refine s_newIE X hx hZ (hw _ (List.mem_of_getElem? (i := 14) rfl)) eT (by decide) (cap := 3) (by decide) (by decide) (by decide) (by decide) (ys := [0, 0, 0]) rfl (hb hby d5_15) (q := 17) rfl ?_
  intro T h2 a1 X eT E ea A_a1 E_a1
  have ne_x0_a1 : x0 ≠ a1 := by rw [ea]; exact Nat.ne_of_lt A_x0.lt
  have A_x0 := A_x0.ext E
  have E_x0 := E_x0.ext E
  have g_a1 : n0 ≤ a1 := by rw [ea]; exact sz
  have sk_a1 : h0.size ≤ a1 := by rw [ea]; exact K.1
  have K := K.ext E
  have sz : n0 ≤ h2.size := Nat.le_trans sz E.1
  refine s_astoreN X hx (hb hby d5_17) rfl (L' := #[.val (.ref x0), .val (.int (3 : Int32)), .val (.ref a1)]) rfl (q := 18) rfl ?_
  refine s_aloadN X hx (hb hby d5_18) rfl rfl (q := 19) rfl ?_
  refine s_iconst X hx (z := (0 : Int32)) (hb hby d5_19) rfl (q := 20) rfl ?_
  refine s_aloadN X hx (hb hby d5_20) rfl rfl (q := 21) rfl ?_
  refine s_iconst X hx (z := (0 : Int32)) (hb hby d5_21) rfl (q := 22) rfl ?_
  refine s_aloadN X hx (hb hby d5_22) rfl rfl (q := 23) rfl ?_
  refine s_lenI X hx hZ eT (z := (2 : Int32)) A_x0 rfl (hb hby d5_23) (q := 24) rfl ?_
  refine s_iloadN X hx (hb hby d5_24) rfl (q := 25) rfl ?_
  refine callP X hx hZ hown (W := 4) (argsL := [(.int (2 : Int32)), (.int (3 : Int32))]) (rest := [(.int (0 : Int32)), (.ref a1), (.int (0 : Int32)), (.ref x0)]) (hw _ (List.mem_of_getElem? (i := 28) rfl)) (hw _ (List.mem_of_getElem? (i := 29) rfl)) (hw _ (List.mem_of_getElem? (i := 12) rfl)) (hw _ (List.mem_of_getElem? (i := 30) rfl)) (by decide) (rm6 l Z a0 hw [] (2 : Int32) (3 : Int32) h2) rfl rfl eT (by decide) (by decide) (by decide) (by decide) (by rw [hml]; rfl) pd0 rfl rfl (Nat.le_of_ble_eq_true rfl) (hb hby d5_25) (q := 28) rfl ?_
  intro T X eT
  show Go p e below _ T m 28 #[.val (.ref x0), .val (.int (3 : Int32)), .val (.ref a1)] [(.int (2 : Int32)), (.int (0 : Int32)), (.ref a1), (.int (0 : Int32)), (.ref x0)]
  refine s_copyI X hx hZ hown (W := 0) (hw _ (List.mem_of_getElem? (i := 31) rfl)) (hw _ (List.mem_of_getElem? (i := 34) rfl)) (hw _ (List.mem_of_getElem? (i := 32) rfl)) (hw _ (List.mem_of_getElem? (i := 33) rfl)) eT A_x0 A_a1 (i := 0) (j := 0) (k := 2) rfl rfl rfl (by decide) (by decide) (by decide) (Nat.le_of_ble_eq_true rfl) (Nat.le_of_ble_eq_true rfl) (zs := [y0, y1, 0]) rfl N g_a1 (by rw [hml]; rfl) (by decide) (Nat.le_of_ble_eq_true rfl) (by decide) (hb hby d5_28) (q := 31) rfl ?_
  intro T h3 _ X N eT K' A_a1'
  have A_x0 := A_x0.keep K' (ninS ne_x0_a1 nin0)
  have E_x0 := E_x0.keep K'
  have E_a1 := E_a1.keep K'
  have sz : n0 ≤ h3.size := Nat.le_trans sz K'.1
  have K := K.trans K' (allS (Or.inr sk_a1) all0)
  have A_a1 := A_a1'
  refine s_aloadN X hx (hb hby d5_31) rfl rfl (q := 32) rfl ?_
  exact leafA X hx hlk hret rfl rfl (hb hby d5_32) (by decide) (by decide) (by rw [eT]; exact ⟨a1, rfl, N, K, sk_a1, A_a1, E_a1⟩)
set_option maxRecDepth 65536 in
set_option maxHeartbeats 40000000 in
theorem rm5_3_3 (l : Launch) (Z : State) (a0 : Array Value) (hw : ∀ d ∈ tables_1, d.before a0 Z = true) (ws : List Jvm.Cond) (x0 : Addr) (y0 y1 y2 : Int32) (h0 : Heap) (n0 : Nat) (sz : n0 ≤ h0.size) (A_x0 : AI Z h0 x0 .int [y0, y1, y2]) (E_x0 : Exa Z h0 x0 "[I") :
    Ctr l (⟨"java/util/Arrays", "copyOf", "([II)[I"⟩ : MethodName) jdk_65_method_123_code 3 (some (.array .int)) ws ({ frames := 1, cells := 1, slots := 8, locals := 40 } : Room) Z #[(.ref x0), (.int (3 : Int32))] h0 (fun v h L => ∃ t, v = some (.ref t) ∧ Fr n0 L ∧ Keep h0 h [] ∧ h0.size ≤ t ∧ AI Z h t .int [y0, y1, y2] ∧ Exa Z h t "[I") 1 8 := by
  refine Ctr.mk pn_5 ?_
  intro p e s m below meth c T hx hby hml hown hnm hlk hret hZ X eT
  have N := Fr.nil n0
  refine enter (ef_5 m x0 (3 : Int32)) ?_
  have K := Keep.refl h0 []
  refine s_iloadN X hx (hb hby d5_0) rfl (q := 1) rfl ?_
  refine s_aloadN X hx (hb hby d5_1) rfl rfl (q := 2) rfl ?_
  refine s_lenI X hx hZ eT (z := (3 : Int32)) A_x0 rfl (hb hby d5_2) (q := 3) rfl ?_
  refine f_icmp_ne X hx (hb hby d5_3) (q1 := 14) (by decide) (by decide) (q := 6) rfl (fun hq => absurd (by decide : (3 : Int32) = (3 : Int32)) hq) (fun _ => ?_)
  refine s_aloadN X hx (hb hby d5_6) rfl rfl (q := 7) rfl ?_
  refine s_cloneI X hx hZ hown (W := 0) (cap := 3) (hw _ (List.mem_of_getElem? (i := 40) rfl)) (hw _ (List.mem_of_getElem? (i := 41) rfl)) (hw _ (List.mem_of_getElem? (i := 45) rfl)) (hw _ (List.mem_of_getElem? (i := 43) rfl)) (hw _ (List.mem_of_getElem? (i := 44) rfl)) (hw _ (List.mem_of_getElem? (i := 46) rfl)) eT A_x0 E_x0 (by rw [hml]; rfl) (by decide) (Nat.le_of_ble_eq_true rfl) (by decide) (Nat.le_of_ble_eq_true rfl) (by decide) (by decide) (hb hby d5_7) (q := 10) rfl ?_
  intro T h2 a1 X eT E ea A_a1 E_a1
  have ne_x0_a1 : x0 ≠ a1 := by rw [ea]; exact Nat.ne_of_lt A_x0.lt
  have A_x0 := A_x0.ext E
  have E_x0 := E_x0.ext E
  have g_a1 : n0 ≤ a1 := by rw [ea]; exact sz
  have sk_a1 : h0.size ≤ a1 := by rw [ea]; exact K.1
  have K := K.ext E
  have sz : n0 ≤ h2.size := Nat.le_trans sz E.1
  refine s_cast X hx hZ hown (hw _ (List.mem_of_getElem? (i := 47) rfl)) eT (Ins.self E_a1) (hb hby d5_10) (q := 13) rfl ?_
  intro T X eT
  exact leafA X hx hlk hret rfl rfl (hb hby d5_13) (by decide) (by decide) (by rw [eT]; exact ⟨a1, rfl, N, K, sk_a1, A_a1, E_a1⟩)
set_option maxRecDepth 65536 in
set_option maxHeartbeats 40000000 in
theorem rm5_3_4 (l : Launch) (Z : State) (a0 : Array Value) (hw : ∀ d ∈ tables_1, d.before a0 Z = true) (ws : List Jvm.Cond) (x0 : Addr) (y0 y1 y2 : Int32) (h0 : Heap) (n0 : Nat) (sz : n0 ≤ h0.size) (A_x0 : AI Z h0 x0 .int [y0, y1, y2]) (E_x0 : Exa Z h0 x0 "[I") :
    Ctr l (⟨"java/util/Arrays", "copyOf", "([II)[I"⟩ : MethodName) jdk_65_method_123_code 3 (some (.array .int)) ws ({ frames := 1, cells := 1, slots := 8, locals := 40 } : Room) Z #[(.ref x0), (.int (4 : Int32))] h0 (fun v h L => ∃ t, v = some (.ref t) ∧ Fr n0 L ∧ Keep h0 h [] ∧ h0.size ≤ t ∧ AI Z h t .int [y0, y1, y2, 0] ∧ Exa Z h t "[I") 1 8 := by
  refine Ctr.mk pn_5 ?_
  intro p e s m below meth c T hx hby hml hown hnm hlk hret hZ X eT
  have N := Fr.nil n0
  refine enter (ef_5 m x0 (4 : Int32)) ?_
  have K := Keep.refl h0 []
  refine s_iloadN X hx (hb hby d5_0) rfl (q := 1) rfl ?_
  refine s_aloadN X hx (hb hby d5_1) rfl rfl (q := 2) rfl ?_
  refine s_lenI X hx hZ eT (z := (3 : Int32)) A_x0 rfl (hb hby d5_2) (q := 3) rfl ?_
  refine f_icmp_ne X hx (hb hby d5_3) (q1 := 14) (by decide) (by decide) (q := 6) rfl (fun _ => ?_) (fun hq => absurd hq (by decide : ¬ (4 : Int32) = (3 : Int32)))
  refine s_iloadN X hx (hb hby d5_14) rfl (q := 15) rfl ?_
  refine s_newIE X hx hZ (hw _ (List.mem_of_getElem? (i := 14) rfl)) eT (by decide) (cap := 4) (by decide) (by decide) (by decide) (by decide) (ys := [0, 0, 0, 0]) rfl (hb hby d5_15) (q := 17) rfl ?_
  intro T h2 a1 X eT E ea A_a1 E_a1
  have ne_x0_a1 : x0 ≠ a1 := by rw [ea]; exact Nat.ne_of_lt A_x0.lt
  have A_x0 := A_x0.ext E
  have E_x0 := E_x0.ext E
  have g_a1 : n0 ≤ a1 := by rw [ea]; exact sz
  have sk_a1 : h0.size ≤ a1 := by rw [ea]; exact K.1
  have K := K.ext E
  have sz : n0 ≤ h2.size := Nat.le_trans sz E.1
  refine s_astoreN X hx (hb hby d5_17) rfl (L' := #[.val (.ref x0), .val (.int (4 : Int32)), .val (.ref a1)]) rfl (q := 18) rfl ?_
  refine s_aloadN X hx (hb hby d5_18) rfl rfl (q := 19) rfl ?_
  refine s_iconst X hx (z := (0 : Int32)) (hb hby d5_19) rfl (q := 20) rfl ?_
  refine s_aloadN X hx (hb hby d5_20) rfl rfl (q := 21) rfl ?_
  refine s_iconst X hx (z := (0 : Int32)) (hb hby d5_21) rfl (q := 22) rfl ?_
  refine s_aloadN X hx (hb hby d5_22) rfl rfl (q := 23) rfl ?_
  refine s_lenI X hx hZ eT (z := (3 : Int32)) A_x0 rfl (hb hby d5_23) (q := 24) rfl ?_
  refine s_iloadN X hx (hb hby d5_24) rfl (q := 25) rfl ?_
  refine callP X hx hZ hown (W := 4) (argsL := [(.int (3 : Int32)), (.int (4 : Int32))]) (rest := [(.int (0 : Int32)), (.ref a1), (.int (0 : Int32)), (.ref x0)]) (hw _ (List.mem_of_getElem? (i := 28) rfl)) (hw _ (List.mem_of_getElem? (i := 29) rfl)) (hw _ (List.mem_of_getElem? (i := 12) rfl)) (hw _ (List.mem_of_getElem? (i := 30) rfl)) (by decide) (rm6 l Z a0 hw [] (3 : Int32) (4 : Int32) h2) rfl rfl eT (by decide) (by decide) (by decide) (by decide) (by rw [hml]; rfl) pd0 rfl rfl (Nat.le_of_ble_eq_true rfl) (hb hby d5_25) (q := 28) rfl ?_
  intro T X eT
  show Go p e below _ T m 28 #[.val (.ref x0), .val (.int (4 : Int32)), .val (.ref a1)] [(.int (3 : Int32)), (.int (0 : Int32)), (.ref a1), (.int (0 : Int32)), (.ref x0)]
  refine s_copyI X hx hZ hown (W := 0) (hw _ (List.mem_of_getElem? (i := 31) rfl)) (hw _ (List.mem_of_getElem? (i := 34) rfl)) (hw _ (List.mem_of_getElem? (i := 32) rfl)) (hw _ (List.mem_of_getElem? (i := 33) rfl)) eT A_x0 A_a1 (i := 0) (j := 0) (k := 3) rfl rfl rfl (by decide) (by decide) (by decide) (Nat.le_of_ble_eq_true rfl) (Nat.le_of_ble_eq_true rfl) (zs := [y0, y1, y2, 0]) rfl N g_a1 (by rw [hml]; rfl) (by decide) (Nat.le_of_ble_eq_true rfl) (by decide) (hb hby d5_28) (q := 31) rfl ?_
  intro T h3 _ X N eT K' A_a1'
  have A_x0 := A_x0.keep K' (ninS ne_x0_a1 nin0)
  have E_x0 := E_x0.keep K'
  have E_a1 := E_a1.keep K'
  have sz : n0 ≤ h3.size := Nat.le_trans sz K'.1
  have K := K.trans K' (allS (Or.inr sk_a1) all0)
  have A_a1 := A_a1'
  refine s_aloadN X hx (hb hby d5_31) rfl rfl (q := 32) rfl ?_
  exact leafA X hx hlk hret rfl rfl (hb hby d5_32) (by decide) (by decide) (by rw [eT]; exact ⟨a1, rfl, N, K, sk_a1, A_a1, E_a1⟩)
set_option maxRecDepth 65536 in
set_option maxHeartbeats 40000000 in
theorem rm5_4_4 (l : Launch) (Z : State) (a0 : Array Value) (hw : ∀ d ∈ tables_1, d.before a0 Z = true) (ws : List Jvm.Cond) (x0 : Addr) (y0 y1 y2 y3 : Int32) (h0 : Heap) (n0 : Nat) (sz : n0 ≤ h0.size) (A_x0 : AI Z h0 x0 .int [y0, y1, y2, y3]) (E_x0 : Exa Z h0 x0 "[I") :
    Ctr l (⟨"java/util/Arrays", "copyOf", "([II)[I"⟩ : MethodName) jdk_65_method_123_code 3 (some (.array .int)) ws ({ frames := 1, cells := 1, slots := 8, locals := 40 } : Room) Z #[(.ref x0), (.int (4 : Int32))] h0 (fun v h L => ∃ t, v = some (.ref t) ∧ Fr n0 L ∧ Keep h0 h [] ∧ h0.size ≤ t ∧ AI Z h t .int [y0, y1, y2, y3] ∧ Exa Z h t "[I") 1 8 := by
  refine Ctr.mk pn_5 ?_
  intro p e s m below meth c T hx hby hml hown hnm hlk hret hZ X eT
  have N := Fr.nil n0
  refine enter (ef_5 m x0 (4 : Int32)) ?_
  have K := Keep.refl h0 []
  refine s_iloadN X hx (hb hby d5_0) rfl (q := 1) rfl ?_
  refine s_aloadN X hx (hb hby d5_1) rfl rfl (q := 2) rfl ?_
  refine s_lenI X hx hZ eT (z := (4 : Int32)) A_x0 rfl (hb hby d5_2) (q := 3) rfl ?_
  refine f_icmp_ne X hx (hb hby d5_3) (q1 := 14) (by decide) (by decide) (q := 6) rfl (fun hq => absurd (by decide : (4 : Int32) = (4 : Int32)) hq) (fun _ => ?_)
  refine s_aloadN X hx (hb hby d5_6) rfl rfl (q := 7) rfl ?_
  refine s_cloneI X hx hZ hown (W := 0) (cap := 4) (hw _ (List.mem_of_getElem? (i := 40) rfl)) (hw _ (List.mem_of_getElem? (i := 41) rfl)) (hw _ (List.mem_of_getElem? (i := 45) rfl)) (hw _ (List.mem_of_getElem? (i := 43) rfl)) (hw _ (List.mem_of_getElem? (i := 44) rfl)) (hw _ (List.mem_of_getElem? (i := 46) rfl)) eT A_x0 E_x0 (by rw [hml]; rfl) (by decide) (Nat.le_of_ble_eq_true rfl) (by decide) (Nat.le_of_ble_eq_true rfl) (by decide) (by decide) (hb hby d5_7) (q := 10) rfl ?_
  intro T h2 a1 X eT E ea A_a1 E_a1
  have ne_x0_a1 : x0 ≠ a1 := by rw [ea]; exact Nat.ne_of_lt A_x0.lt
  have A_x0 := A_x0.ext E
  have E_x0 := E_x0.ext E
  have g_a1 : n0 ≤ a1 := by rw [ea]; exact sz
  have sk_a1 : h0.size ≤ a1 := by rw [ea]; exact K.1
  have K := K.ext E
  have sz : n0 ≤ h2.size := Nat.le_trans sz E.1
  refine s_cast X hx hZ hown (hw _ (List.mem_of_getElem? (i := 47) rfl)) eT (Ins.self E_a1) (hb hby d5_10) (q := 13) rfl ?_
  intro T X eT
  exact leafA X hx hlk hret rfl rfl (hb hby d5_13) (by decide) (by decide) (by rw [eT]; exact ⟨a1, rfl, N, K, sk_a1, A_a1, E_a1⟩)
theorem d4_0 : decode prog_21_method_5_code 0 = .ok (.aload_n 0, 1) := by decide +kernel
theorem d4_1 : decode prog_21_method_5_code 1 = .ok (.getfield 19, 3) := by decide +kernel
theorem d4_4 : decode prog_21_method_5_code 4 = .ok (.aload_n 0, 1) := by decide +kernel
theorem d4_5 : decode prog_21_method_5_code 5 = .ok (.getfield 13, 3) := by decide +kernel
theorem d4_8 : decode prog_21_method_5_code 8 = .ok (.arraylength, 1) := by decide +kernel
theorem d4_9 : decode prog_21_method_5_code 9 = .ok (.if_icmp .ne 29, 3) := by decide +kernel
theorem d4_12 : decode prog_21_method_5_code 12 = .ok (.aload_n 0, 1) := by decide +kernel
theorem d4_13 : decode prog_21_method_5_code 13 = .ok (.aload_n 0, 1) := by decide +kernel
theorem d4_14 : decode prog_21_method_5_code 14 = .ok (.getfield 13, 3) := by decide +kernel
theorem d4_17 : decode prog_21_method_5_code 17 = .ok (.aload_n 0, 1) := by decide +kernel
theorem d4_18 : decode prog_21_method_5_code 18 = .ok (.getfield 19, 3) := by decide +kernel
theorem d4_21 : decode prog_21_method_5_code 21 = .ok (.aload_n 0, 1) := by decide +kernel
theorem d4_22 : decode prog_21_method_5_code 22 = .ok (.getfield 19, 3) := by decide +kernel
theorem d4_25 : decode prog_21_method_5_code 25 = .ok (.iconst 1, 1) := by decide +kernel
theorem d4_26 : decode prog_21_method_5_code 26 = .ok (.ishr, 1) := by decide +kernel
theorem d4_27 : decode prog_21_method_5_code 27 = .ok (.iconst 1, 1) := by decide +kernel
theorem d4_28 : decode prog_21_method_5_code 28 = .ok (.invokestatic 7, 3) := by decide +kernel
theorem d4_31 : decode prog_21_method_5_code 31 = .ok (.iadd, 1) := by decide +kernel
theorem d4_32 : decode prog_21_method_5_code 32 = .ok (.invokestatic 36, 3) := by decide +kernel
theorem d4_35 : decode prog_21_method_5_code 35 = .ok (.putfield 13, 3) := by decide +kernel
theorem d4_38 : decode prog_21_method_5_code 38 = .ok (.aload_n 0, 1) := by decide +kernel
theorem d4_39 : decode prog_21_method_5_code 39 = .ok (.getfield 13, 3) := by decide +kernel
theorem d4_42 : decode prog_21_method_5_code 42 = .ok (.aload_n 0, 1) := by decide +kernel
theorem d4_43 : decode prog_21_method_5_code 43 = .ok (.dup, 1) := by decide +kernel
theorem d4_44 : decode prog_21_method_5_code 44 = .ok (.getfield 19, 3) := by decide +kernel
theorem d4_47 : decode prog_21_method_5_code 47 = .ok (.dup_x1, 1) := by decide +kernel
theorem d4_48 : decode prog_21_method_5_code 48 = .ok (.iconst 1, 1) := by decide +kernel
theorem d4_49 : decode prog_21_method_5_code 49 = .ok (.iadd, 1) := by decide +kernel
theorem d4_50 : decode prog_21_method_5_code 50 = .ok (.putfield 19, 3) := by decide +kernel
theorem d4_53 : decode prog_21_method_5_code 53 = .ok (.iload_n 1, 1) := by decide +kernel
theorem d4_54 : decode prog_21_method_5_code 54 = .ok (.iastore, 1) := by decide +kernel
theorem d4_55 : decode prog_21_method_5_code 55 = .ok (.return_, 1) := by decide +kernel
theorem pn_4 : plainFor (⟨"com/example/akin/akin/engine/IntList", "add", "(I)V"⟩ : MethodName) = true := plainFor_of_name (by first | (simp [plainName, overriddenIn]; done) | decide +kernel)
theorem ef_4 (m : MethodId) (x0 : Addr) (x1 : Int32) : entryFrame m #[(.ref x0), (.int x1)] 2 = mkF m 0 #[.val (.ref x0), .val (.int x1)] [] := by first | (simp [entryFrame, mkF, argsToLocals, Value.category]; done) | rfl
set_option maxRecDepth 65536 in
set_option maxHeartbeats 40000000 in
theorem rm4_0_1 (l : Launch) (Z : State) (a0 : Array Value) (hw : ∀ d ∈ tables_1, d.before a0 Z = true) (ws : List Jvm.Cond) (x0 : Addr) (x1 : Int32) (t : Addr) (y0 : Int32) (h0 : Heap) (n0 : Nat) (sz : n0 ≤ h0.size) (F_x0_items : Fld Z h0 x0 "com/example/akin/akin/engine/IntList" "items" "[I" (.ref t)) (F_x0_size : Fld Z h0 x0 "com/example/akin/akin/engine/IntList" "size" "I" (.int (0 : Int32))) (E_x0 : Exa Z h0 x0 "com/example/akin/akin/engine/IntList") (A_t : AI Z h0 t .int [y0]) (E_t : Exa Z h0 t "[I") (g_x0 : n0 ≤ x0) (g_t : n0 ≤ t) (ne_x0_t : x0 ≠ t) :
    Ctr l (⟨"com/example/akin/akin/engine/IntList", "add", "(I)V"⟩ : MethodName) prog_21_method_5_code 2 none ws ({ frames := 2, cells := 1, slots := 8, locals := 80 } : Room) Z #[(.ref x0), (.int x1)] h0 (fun v h L => v = none ∧ Fr n0 L ∧ Keep h0 h [x0, t] ∧ ∃ t', (t' = t ∨ h0.size ≤ t') ∧ Fld Z h x0 "com/example/akin/akin/engine/IntList" "items" "[I" (.ref t') ∧ Fld Z h x0 "com/example/akin/akin/engine/IntList" "size" "I" (.int (1 : Int32)) ∧ AI Z h t' .int [x1] ∧ Exa Z h t' "[I") 1 8 := by
  refine Ctr.mk pn_4 ?_
  intro p e s m below meth c T hx hby hml hown hnm hlk hret hZ X eT
  have N := Fr.nil n0
  refine enter (ef_4 m x0 x1) ?_
  have K := Keep.refl h0 [x0, t]
  refine s_aloadN X hx (hb hby d4_0) rfl rfl (q := 1) rfl ?_
  refine s_getF X hx hZ hown (hw _ (List.mem_of_getElem? (i := 22) rfl)) eT F_x0_size (hb hby d4_1) (q := 4) rfl ?_
  intro T X eT
  refine s_aloadN X hx (hb hby d4_4) rfl rfl (q := 5) rfl ?_
  refine s_getF X hx hZ hown (hw _ (List.mem_of_getElem? (i := 15) rfl)) eT F_x0_items (hb hby d4_5) (q := 8) rfl ?_
  intro T X eT
  refine s_lenI X hx hZ eT (z := (1 : Int32)) A_t rfl (hb hby d4_8) (q := 9) rfl ?_
  refine f_icmp_ne X hx (hb hby d4_9) (q1 := 38) (by decide) (by decide) (q := 12) rfl (fun _ => ?_) (fun hq => absurd hq (by decide : ¬ (0 : Int32) = (1 : Int32)))
  refine s_aloadN X hx (hb hby d4_38) rfl rfl (q := 39) rfl ?_
  refine s_getF X hx hZ hown (hw _ (List.mem_of_getElem? (i := 15) rfl)) eT F_x0_items (hb hby d4_39) (q := 42) rfl ?_
  intro T X eT
  refine s_aloadN X hx (hb hby d4_42) rfl rfl (q := 43) rfl ?_
  refine s_dup X hx (hb hby d4_43) rfl (q := 44) rfl ?_
  refine s_getF X hx hZ hown (hw _ (List.mem_of_getElem? (i := 22) rfl)) eT F_x0_size (hb hby d4_44) (q := 47) rfl ?_
  intro T X eT
  refine s_dup_x1 X hx (hb hby d4_47) rfl rfl (q := 48) rfl ?_
  refine s_iconst X hx (z := (1 : Int32)) (hb hby d4_48) rfl (q := 49) rfl ?_
  refine s_iadd X hx (hb hby d4_49) (q := 50) rfl ?_
  show Go p e below _ T m 50 #[.val (.ref x0), .val (.int x1)] [(.int (1 : Int32)), (.ref x0), (.int (0 : Int32)), (.ref t)]
  refine s_putF X hx hZ hown (hw _ (List.mem_of_getElem? (i := 22) rfl)) eT F_x0_size E_x0 (Or.inl (hw _ (List.mem_of_getElem? (i := 23) rfl))) (hw _ (List.mem_of_getElem? (i := 2) rfl)) (ty := .int) (by decide) rfl rfl N g_x0 (hb hby d4_50) (q := 53) rfl ?_
  intro T h1 _ X N eT W F_x0_size'
  have E_x0 := E_x0.wr W
  have F_x0_items := F_x0_items.other W (Or.inr (slot_ne (Or.inl (hw _ (List.mem_of_getElem? (i := 16) rfl))) (Or.inl (hw _ (List.mem_of_getElem? (i := 23) rfl))) (by decide) (t := (.array .int)) (t' := .int) (by decide) (by decide)))
  have A_t := A_t.other W (Ne.symm ne_x0_t)
  have E_t := E_t.wr W
  have K := K.wr W (Or.inl (List.mem_of_getElem? (i := 0) rfl))
  have sz : n0 ≤ h1.size := by rw [W.size]; exact sz
  have F_x0_size := F_x0_size'
  refine s_iloadN X hx (hb hby d4_53) rfl (q := 54) rfl ?_
  refine s_iastore X hx hZ eT A_t N g_t (by decide) (i := 0) rfl (Nat.le_of_ble_eq_true rfl) (ys := [x1]) rfl (hb hby d4_54) (q := 55) rfl ?_
  intro T h2 _ X N eT W A_t'
  have E_x0 := E_x0.wr W
  have F_x0_items := F_x0_items.other W (Or.inl ne_x0_t)
  have F_x0_size := F_x0_size.other W (Or.inl ne_x0_t)
  have E_t := E_t.wr W
  have K := K.wr W (Or.inl (List.mem_of_getElem? (i := 1) rfl))
  have sz : n0 ≤ h2.size := by rw [W.size]; exact sz
  have A_t := A_t'
  exact leafV X hx hlk hret (hb hby d4_55) (by decide) (by decide) (by rw [eT]; exact ⟨rfl, N, K, t, Or.inl rfl, F_x0_items, F_x0_size, A_t, E_t⟩)
theorem pd1 : parseMethodDescriptor "([II)[I" = some ⟨[(.array .int), .int], some (.array .int)⟩ := by decide +kernel
set_option maxRecDepth 65536 in
set_option maxHeartbeats 40000000 in
theorem rm4_1_1 (l : Launch) (Z : State) (a0 : Array Value) (hw : ∀ d ∈ tables_1, d.before a0 Z = true) (ws : List Jvm.Cond) (x0 : Addr) (x1 : Int32) (t : Addr) (y0 : Int32) (h0 : Heap) (n0 : Nat) (sz : n0 ≤ h0.size) (F_x0_items : Fld Z h0 x0 "com/example/akin/akin/engine/IntList" "items" "[I" (.ref t)) (F_x0_size : Fld Z h0 x0 "com/example/akin/akin/engine/IntList" "size" "I" (.int (1 : Int32))) (E_x0 : Exa Z h0 x0 "com/example/akin/akin/engine/IntList") (A_t : AI Z h0 t .int [y0]) (E_t : Exa Z h0 t "[I") (g_x0 : n0 ≤ x0) (g_t : n0 ≤ t) (ne_x0_t : x0 ≠ t) :
    Ctr l (⟨"com/example/akin/akin/engine/IntList", "add", "(I)V"⟩ : MethodName) prog_21_method_5_code 2 none ws ({ frames := 2, cells := 1, slots := 8, locals := 80 } : Room) Z #[(.ref x0), (.int x1)] h0 (fun v h L => v = none ∧ Fr n0 L ∧ Keep h0 h [x0, t] ∧ ∃ t', (t' = t ∨ h0.size ≤ t') ∧ Fld Z h x0 "com/example/akin/akin/engine/IntList" "items" "[I" (.ref t') ∧ Fld Z h x0 "com/example/akin/akin/engine/IntList" "size" "I" (.int (2 : Int32)) ∧ AI Z h t' .int [y0, x1] ∧ Exa Z h t' "[I") 1 8 := by
  refine Ctr.mk pn_4 ?_
  intro p e s m below meth c T hx hby hml hown hnm hlk hret hZ X eT
  have N := Fr.nil n0
  refine enter (ef_4 m x0 x1) ?_
  have K := Keep.refl h0 [x0, t]
  refine s_aloadN X hx (hb hby d4_0) rfl rfl (q := 1) rfl ?_
  refine s_getF X hx hZ hown (hw _ (List.mem_of_getElem? (i := 22) rfl)) eT F_x0_size (hb hby d4_1) (q := 4) rfl ?_
  intro T X eT
  refine s_aloadN X hx (hb hby d4_4) rfl rfl (q := 5) rfl ?_
  refine s_getF X hx hZ hown (hw _ (List.mem_of_getElem? (i := 15) rfl)) eT F_x0_items (hb hby d4_5) (q := 8) rfl ?_
  intro T X eT
  refine s_lenI X hx hZ eT (z := (1 : Int32)) A_t rfl (hb hby d4_8) (q := 9) rfl ?_
  refine f_icmp_ne X hx (hb hby d4_9) (q1 := 38) (by decide) (by decide) (q := 12) rfl (fun hq => absurd (by decide : (1 : Int32) = (1 : Int32)) hq) (fun _ => ?_)
  refine s_aloadN X hx (hb hby d4_12) rfl rfl (q := 13) rfl ?_
  refine s_aloadN X hx (hb hby d4_13) rfl rfl (q := 14) rfl ?_
  refine s_getF X hx hZ hown (hw _ (List.mem_of_getElem? (i := 15) rfl)) eT F_x0_items (hb hby d4_14) (q := 17) rfl ?_
  intro T X eT
  refine s_aloadN X hx (hb hby d4_17) rfl rfl (q := 18) rfl ?_
  refine s_getF X hx hZ hown (hw _ (List.mem_of_getElem? (i := 22) rfl)) eT F_x0_size (hb hby d4_18) (q := 21) rfl ?_
  intro T X eT
  refine s_aloadN X hx (hb hby d4_21) rfl rfl (q := 22) rfl ?_
  refine s_getF X hx hZ hown (hw _ (List.mem_of_getElem? (i := 22) rfl)) eT F_x0_size (hb hby d4_22) (q := 25) rfl ?_
  intro T X eT
  refine s_iconst X hx (z := (1 : Int32)) (hb hby d4_25) rfl (q := 26) rfl ?_
  refine s_ishr X hx (hb hby d4_26) (q := 27) rfl ?_
  show Go p e below _ T m 27 #[.val (.ref x0), .val (.int x1)] [(.int (0 : Int32)), (.int (1 : Int32)), (.ref t), (.ref x0)]
  refine s_iconst X hx (z := (1 : Int32)) (hb hby d4_27) rfl (q := 28) rfl ?_
  refine callP X hx hZ hown (W := 3) (argsL := [(.int (0 : Int32)), (.int (1 : Int32))]) (rest := [(.int (1 : Int32)), (.ref t), (.ref x0)]) (hw _ (List.mem_of_getElem? (i := 10) rfl)) (hw _ (List.mem_of_getElem? (i := 11) rfl)) (hw _ (List.mem_of_getElem? (i := 12) rfl)) (hw _ (List.mem_of_getElem? (i := 13) rfl)) (by decide) (rm3 l Z a0 hw [] (0 : Int32) (1 : Int32) h0) rfl rfl eT (by decide) (by decide) (by decide) (by decide) (by rw [hml]; rfl) pd0 rfl rfl (Nat.le_of_ble_eq_true rfl) (hb hby d4_28) (q := 31) rfl ?_
  intro T X eT
  show Go p e below _ T m 31 #[.val (.ref x0), .val (.int x1)] [(.int (1 : Int32)), (.int (1 : Int32)), (.ref t), (.ref x0)]
  refine s_iadd X hx (hb hby d4_31) (q := 32) rfl ?_
  show Go p e below _ T m 32 #[.val (.ref x0), .val (.int x1)] [(.int (2 : Int32)), (.ref t), (.ref x0)]
  refine callC X hx hZ hown (W := 1) (argsL := [(.ref t), (.int (2 : Int32))]) (rest := [(.ref x0)]) (hw _ (List.mem_of_getElem? (i := 24) rfl)) (hw _ (List.mem_of_getElem? (i := 25) rfl)) (hw _ (List.mem_of_getElem? (i := 26) rfl)) (hw _ (List.mem_of_getElem? (i := 27) rfl)) (by decide) (rm5_1_2 l Z a0 hw [] t y0 h0 n0 sz A_t E_t) eT (by decide) (by decide) (by decide) (by decide) (by rw [hml]; rfl) pd1 rfl rfl (Nat.le_of_ble_eq_true rfl) (hb hby d4_32) (q := 35) rfl ?_
  intro v T Lc hQ X
  obtain ⟨h1, eT⟩ : ∃ z, T.heap = z := ⟨_, rfl⟩
  try rw [eT] at hQ
  obtain ⟨t2, rfl, N', K', st_t2, A_t2, E_t2⟩ := hQ
  have N := Fr.app N N'
  have sk_t2 : h0.size ≤ t2 := Nat.le_trans K.1 st_t2
  have g_t2 : n0 ≤ t2 := Nat.le_trans sz st_t2
  have ne_x0_t2 : x0 ≠ t2 := Nat.ne_of_lt (Nat.lt_of_lt_of_le E_x0.lt st_t2)
  have ne_t_t2 : t ≠ t2 := Nat.ne_of_lt (Nat.lt_of_lt_of_le A_t.lt st_t2)
  have E_x0 := E_x0.keep K'
  have F_x0_items := F_x0_items.keep K' nin0
  have F_x0_size := F_x0_size.keep K' nin0
  have A_t := A_t.keep K' nin0
  have E_t := E_t.keep K'
  have sz : n0 ≤ h1.size := Nat.le_trans sz K'.1
  have K := K.trans K' all0
  refine s_putF X hx hZ hown (hw _ (List.mem_of_getElem? (i := 15) rfl)) eT F_x0_items E_x0 (Or.inl (hw _ (List.mem_of_getElem? (i := 16) rfl))) (hw _ (List.mem_of_getElem? (i := 2) rfl)) (ty := (.array .int)) (by decide) rfl rfl N g_x0 (hb hby d4_35) (q := 38) rfl ?_
  intro T h3 _ X N eT W F_x0_items'
  have E_x0 := E_x0.wr W
  have F_x0_size := F_x0_size.other W (Or.inr (slot_ne (Or.inl (hw _ (List.mem_of_getElem? (i := 23) rfl))) (Or.inl (hw _ (List.mem_of_getElem? (i := 16) rfl))) (by decide) (t := .int) (t' := (.array .int)) (by decide) (by decide)))
  have A_t := A_t.other W (Ne.symm ne_x0_t)
  have E_t := E_t.wr W
  have A_t2 := A_t2.other W (Ne.symm ne_x0_t2)
  have E_t2 := E_t2.wr W
  have K := K.wr W (Or.inl (List.mem_of_getElem? (i := 0) rfl))
  have sz : n0 ≤ h3.size := by rw [W.size]; exact sz
  have F_x0_items := F_x0_items'
  refine s_aloadN X hx (hb hby d4_38) rfl rfl (q := 39) rfl ?_
  refine s_getF X hx hZ hown (hw _ (List.mem_of_getElem? (i := 15) rfl)) eT F_x0_items (hb hby d4_39) (q := 42) rfl ?_
  intro T X eT
  refine s_aloadN X hx (hb hby d4_42) rfl rfl (q := 43) rfl ?_
  refine s_dup X hx (hb hby d4_43) rfl (q := 44) rfl ?_
  refine s_getF X hx hZ hown (hw _ (List.mem_of_getElem? (i := 22) rfl)) eT F_x0_size (hb hby d4_44) (q := 47) rfl ?_
  intro T X eT
  refine s_dup_x1 X hx (hb hby d4_47) rfl rfl (q := 48) rfl ?_
  refine s_iconst X hx (z := (1 : Int32)) (hb hby d4_48) rfl (q := 49) rfl ?_
  refine s_iadd X hx (hb hby d4_49) (q := 50) rfl ?_
  show Go p e below _ T m 50 #[.val (.ref x0), .val (.int x1)] [(.int (2 : Int32)), (.ref x0), (.int (1 : Int32)), (.ref t2)]
  refine s_putF X hx hZ hown (hw _ (List.mem_of_getElem? (i := 22) rfl)) eT F_x0_size E_x0 (Or.inl (hw _ (List.mem_of_getElem? (i := 23) rfl))) (hw _ (List.mem_of_getElem? (i := 2) rfl)) (ty := .int) (by decide) rfl rfl N g_x0 (hb hby d4_50) (q := 53) rfl ?_
  intro T h4 _ X N eT W F_x0_size'
  have E_x0 := E_x0.wr W
  have F_x0_items := F_x0_items.other W (Or.inr (slot_ne (Or.inl (hw _ (List.mem_of_getElem? (i := 16) rfl))) (Or.inl (hw _ (List.mem_of_getElem? (i := 23) rfl))) (by decide) (t := (.array .int)) (t' := .int) (by decide) (by decide)))
  have A_t := A_t.other W (Ne.symm ne_x0_t)
  have E_t := E_t.wr W
  have A_t2 := A_t2.other W (Ne.symm ne_x0_t2)
  have E_t2 := E_t2.wr W
  have K := K.wr W (Or.inl (List.mem_of_getElem? (i := 0) rfl))
  have sz : n0 ≤ h4.size := by rw [W.size]; exact sz
  have F_x0_size := F_x0_size'
  refine s_iloadN X hx (hb hby d4_53) rfl (q := 54) rfl ?_
  refine s_iastore X hx hZ eT A_t2 N g_t2 (by decide) (i := 1) rfl (Nat.le_of_ble_eq_true rfl) (ys := [y0, x1]) rfl (hb hby d4_54) (q := 55) rfl ?_
  intro T h5 _ X N eT W A_t2'
  have E_x0 := E_x0.wr W
  have F_x0_items := F_x0_items.other W (Or.inl ne_x0_t2)
  have F_x0_size := F_x0_size.other W (Or.inl ne_x0_t2)
  have A_t := A_t.other W ne_t_t2
  have E_t := E_t.wr W
  have E_t2 := E_t2.wr W
  have K := K.wr W (Or.inr sk_t2)
  have sz : n0 ≤ h5.size := by rw [W.size]; exact sz
  have A_t2 := A_t2'
  exact leafV X hx hlk hret (hb hby d4_55) (by decide) (by decide) (by rw [eT]; exact ⟨rfl, N, K, t2, Or.inr sk_t2, F_x0_items, F_x0_size, A_t2, E_t2⟩)
set_option maxRecDepth 65536 in
set_option maxHeartbeats 40000000 in
theorem rm4_2_2 (l : Launch) (Z : State) (a0 : Array Value) (hw : ∀ d ∈ tables_1, d.before a0 Z = true) (ws : List Jvm.Cond) (x0 : Addr) (x1 : Int32) (t : Addr) (y0 y1 : Int32) (h0 : Heap) (n0 : Nat) (sz : n0 ≤ h0.size) (F_x0_items : Fld Z h0 x0 "com/example/akin/akin/engine/IntList" "items" "[I" (.ref t)) (F_x0_size : Fld Z h0 x0 "com/example/akin/akin/engine/IntList" "size" "I" (.int (2 : Int32))) (E_x0 : Exa Z h0 x0 "com/example/akin/akin/engine/IntList") (A_t : AI Z h0 t .int [y0, y1]) (E_t : Exa Z h0 t "[I") (g_x0 : n0 ≤ x0) (g_t : n0 ≤ t) (ne_x0_t : x0 ≠ t) :
    Ctr l (⟨"com/example/akin/akin/engine/IntList", "add", "(I)V"⟩ : MethodName) prog_21_method_5_code 2 none ws ({ frames := 2, cells := 1, slots := 8, locals := 80 } : Room) Z #[(.ref x0), (.int x1)] h0 (fun v h L => v = none ∧ Fr n0 L ∧ Keep h0 h [x0, t] ∧ ∃ t', (t' = t ∨ h0.size ≤ t') ∧ Fld Z h x0 "com/example/akin/akin/engine/IntList" "items" "[I" (.ref t') ∧ Fld Z h x0 "com/example/akin/akin/engine/IntList" "size" "I" (.int (3 : Int32)) ∧ AI Z h t' .int [y0, y1, x1] ∧ Exa Z h t' "[I") 1 8 := by
  refine Ctr.mk pn_4 ?_
  intro p e s m below meth c T hx hby hml hown hnm hlk hret hZ X eT
  have N := Fr.nil n0
  refine enter (ef_4 m x0 x1) ?_
  have K := Keep.refl h0 [x0, t]
  refine s_aloadN X hx (hb hby d4_0) rfl rfl (q := 1) rfl ?_
  refine s_getF X hx hZ hown (hw _ (List.mem_of_getElem? (i := 22) rfl)) eT F_x0_size (hb hby d4_1) (q := 4) rfl ?_
  intro T X eT
  refine s_aloadN X hx (hb hby d4_4) rfl rfl (q := 5) rfl ?_
  refine s_getF X hx hZ hown (hw _ (List.mem_of_getElem? (i := 15) rfl)) eT F_x0_items (hb hby d4_5) (q := 8) rfl ?_
  intro T X eT
  refine s_lenI X hx hZ eT (z := (2 : Int32)) A_t rfl (hb hby d4_8) (q := 9) rfl ?_
  refine f_icmp_ne X hx (hb hby d4_9) (q1 := 38) (by decide) (by decide) (q := 12) rfl (fun hq => absurd (by decide : (2 : Int32) = (2 : Int32)) hq) (fun _ => ?_)
  refine s_aloadN X hx (hb hby d4_12) rfl rfl (q := 13) rfl ?_
  refine s_aloadN X hx (hb hby d4_13) rfl rfl (q := 14) rfl ?_
  refine s_getF X hx hZ hown (hw _ (List.mem_of_getElem? (i := 15) rfl)) eT F_x0_items (hb hby d4_14) (q := 17) rfl ?_
  intro T X eT
  refine s_aloadN X hx (hb hby d4_17) rfl rfl (q := 18) rfl ?_
  refine s_getF X hx hZ hown (hw _ (List.mem_of_getElem? (i := 22) rfl)) eT F_x0_size (hb hby d4_18) (q := 21) rfl ?_
  intro T X eT
  refine s_aloadN X hx (hb hby d4_21) rfl rfl (q := 22) rfl ?_
  refine s_getF X hx hZ hown (hw _ (List.mem_of_getElem? (i := 22) rfl)) eT F_x0_size (hb hby d4_22) (q := 25) rfl ?_
  intro T X eT
  refine s_iconst X hx (z := (1 : Int32)) (hb hby d4_25) rfl (q := 26) rfl ?_
  refine s_ishr X hx (hb hby d4_26) (q := 27) rfl ?_
  show Go p e below _ T m 27 #[.val (.ref x0), .val (.int x1)] [(.int (1 : Int32)), (.int (2 : Int32)), (.ref t), (.ref x0)]
  refine s_iconst X hx (z := (1 : Int32)) (hb hby d4_27) rfl (q := 28) rfl ?_
  refine callP X hx hZ hown (W := 3) (argsL := [(.int (1 : Int32)), (.int (1 : Int32))]) (rest := [(.int (2 : Int32)), (.ref t), (.ref x0)]) (hw _ (List.mem_of_getElem? (i := 10) rfl)) (hw _ (List.mem_of_getElem? (i := 11) rfl)) (hw _ (List.mem_of_getElem? (i := 12) rfl)) (hw _ (List.mem_of_getElem? (i := 13) rfl)) (by decide) (rm3 l Z a0 hw [] (1 : Int32) (1 : Int32) h0) rfl rfl eT (by decide) (by decide) (by decide) (by decide) (by rw [hml]; rfl) pd0 rfl rfl (Nat.le_of_ble_eq_true rfl) (hb hby d4_28) (q := 31) rfl ?_
  intro T X eT
  show Go p e below _ T m 31 #[.val (.ref x0), .val (.int x1)] [(.int (1 : Int32)), (.int (2 : Int32)), (.ref t), (.ref x0)]
  refine s_iadd X hx (hb hby d4_31) (q := 32) rfl ?_
  show Go p e below _ T m 32 #[.val (.ref x0), .val (.int x1)] [(.int (3 : Int32)), (.ref t), (.ref x0)]
  refine callC X hx hZ hown (W := 1) (argsL := [(.ref t), (.int (3 : Int32))]) (rest := [(.ref x0)]) (hw _ (List.mem_of_getElem? (i := 24) rfl)) (hw _ (List.mem_of_getElem? (i := 25) rfl)) (hw _ (List.mem_of_getElem? (i := 26) rfl)) (hw _ (List.mem_of_getElem? (i := 27) rfl)) (by decide) (rm5_2_3 l Z a0 hw [] t y0 y1 h0 n0 sz A_t E_t) eT (by decide) (by decide) (by decide) (by decide) (by rw [hml]; rfl) pd1 rfl rfl (Nat.le_of_ble_eq_true rfl) (hb hby d4_32) (q := 35) rfl ?_
  intro v T Lc hQ X
  obtain ⟨h1, eT⟩ : ∃ z, T.heap = z := ⟨_, rfl⟩
  try rw [eT] at hQ
  obtain ⟨t2, rfl, N', K', st_t2, A_t2, E_t2⟩ := hQ
  have N := Fr.app N N'
  have sk_t2 : h0.size ≤ t2 := Nat.le_trans K.1 st_t2
  have g_t2 : n0 ≤ t2 := Nat.le_trans sz st_t2
  have ne_x0_t2 : x0 ≠ t2 := Nat.ne_of_lt (Nat.lt_of_lt_of_le E_x0.lt st_t2)
  have ne_t_t2 : t ≠ t2 := Nat.ne_of_lt (Nat.lt_of_lt_of_le A_t.lt st_t2)
  have E_x0 := E_x0.keep K'
  have F_x0_items := F_x0_items.keep K' nin0
  have F_x0_size := F_x0_size.keep K' nin0
  have A_t := A_t.keep K' nin0
  have E_t := E_t.keep K'
  have sz : n0 ≤ h1.size := Nat.le_trans sz K'.1
  have K := K.trans K' all0
  refine s_putF X hx hZ hown (hw _ (List.mem_of_getElem? (i := 15) rfl)) eT F_x0_items E_x0 (Or.inl (hw _ (List.mem_of_getElem? (i := 16) rfl))) (hw _ (List.mem_of_getElem? (i := 2) rfl)) (ty := (.array .int)) (by decide) rfl rfl N g_x0 (hb hby d4_35) (q := 38) rfl ?_
  intro T h3 _ X N eT W F_x0_items'
  have E_x0 := E_x0.wr W
  have F_x0_size := F_x0_size.other W (Or.inr (slot_ne (Or.inl (hw _ (List.mem_of_getElem? (i := 23) rfl))) (Or.inl (hw _ (List.mem_of_getElem? (i := 16) rfl))) (by decide) (t := .int) (t' := (.array .int)) (by decide) (by decide)))
  have A_t := A_t.other W (Ne.symm ne_x0_t)
  have E_t := E_t.wr W
  have A_t2 := A_t2.other W (Ne.symm ne_x0_t2)
  have E_t2 := E_t2.wr W
  have K := K.wr W (Or.inl (List.mem_of_getElem? (i := 0) rfl))
  have sz : n0 ≤ h3.size := by rw [W.size]; exact sz
  have F_x0_items := F_x0_items'
  refine s_aloadN X hx (hb hby d4_38) rfl rfl (q := 39) rfl ?_
  refine s_getF X hx hZ hown (hw _ (List.mem_of_getElem? (i := 15) rfl)) eT F_x0_items (hb hby d4_39) (q := 42) rfl ?_
  intro T X eT
  refine s_aloadN X hx (hb hby d4_42) rfl rfl (q := 43) rfl ?_
  refine s_dup X hx (hb hby d4_43) rfl (q := 44) rfl ?_
  refine s_getF X hx hZ hown (hw _ (List.mem_of_getElem? (i := 22) rfl)) eT F_x0_size (hb hby d4_44) (q := 47) rfl ?_
  intro T X eT
  refine s_dup_x1 X hx (hb hby d4_47) rfl rfl (q := 48) rfl ?_
  refine s_iconst X hx (z := (1 : Int32)) (hb hby d4_48) rfl (q := 49) rfl ?_
  refine s_iadd X hx (hb hby d4_49) (q := 50) rfl ?_
  show Go p e below _ T m 50 #[.val (.ref x0), .val (.int x1)] [(.int (3 : Int32)), (.ref x0), (.int (2 : Int32)), (.ref t2)]
  refine s_putF X hx hZ hown (hw _ (List.mem_of_getElem? (i := 22) rfl)) eT F_x0_size E_x0 (Or.inl (hw _ (List.mem_of_getElem? (i := 23) rfl))) (hw _ (List.mem_of_getElem? (i := 2) rfl)) (ty := .int) (by decide) rfl rfl N g_x0 (hb hby d4_50) (q := 53) rfl ?_
  intro T h4 _ X N eT W F_x0_size'
  have E_x0 := E_x0.wr W
  have F_x0_items := F_x0_items.other W (Or.inr (slot_ne (Or.inl (hw _ (List.mem_of_getElem? (i := 16) rfl))) (Or.inl (hw _ (List.mem_of_getElem? (i := 23) rfl))) (by decide) (t := (.array .int)) (t' := .int) (by decide) (by decide)))
  have A_t := A_t.other W (Ne.symm ne_x0_t)
  have E_t := E_t.wr W
  have A_t2 := A_t2.other W (Ne.symm ne_x0_t2)
  have E_t2 := E_t2.wr W
  have K := K.wr W (Or.inl (List.mem_of_getElem? (i := 0) rfl))
  have sz : n0 ≤ h4.size := by rw [W.size]; exact sz
  have F_x0_size := F_x0_size'
  refine s_iloadN X hx (hb hby d4_53) rfl (q := 54) rfl ?_
  refine s_iastore X hx hZ eT A_t2 N g_t2 (by decide) (i := 2) rfl (Nat.le_of_ble_eq_true rfl) (ys := [y0, y1, x1]) rfl (hb hby d4_54) (q := 55) rfl ?_
  intro T h5 _ X N eT W A_t2'
  have E_x0 := E_x0.wr W
  have F_x0_items := F_x0_items.other W (Or.inl ne_x0_t2)
  have F_x0_size := F_x0_size.other W (Or.inl ne_x0_t2)
  have A_t := A_t.other W ne_t_t2
  have E_t := E_t.wr W
  have E_t2 := E_t2.wr W
  have K := K.wr W (Or.inr sk_t2)
  have sz : n0 ≤ h5.size := by rw [W.size]; exact sz
  have A_t2 := A_t2'
  exact leafV X hx hlk hret (hb hby d4_55) (by decide) (by decide) (by rw [eT]; exact ⟨rfl, N, K, t2, Or.inr sk_t2, F_x0_items, F_x0_size, A_t2, E_t2⟩)
set_option maxRecDepth 65536 in
set_option maxHeartbeats 40000000 in
theorem rm4_0_2 (l : Launch) (Z : State) (a0 : Array Value) (hw : ∀ d ∈ tables_1, d.before a0 Z = true) (ws : List Jvm.Cond) (x0 : Addr) (x1 : Int32) (t : Addr) (y0 y1 : Int32) (h0 : Heap) (n0 : Nat) (sz : n0 ≤ h0.size) (F_x0_items : Fld Z h0 x0 "com/example/akin/akin/engine/IntList" "items" "[I" (.ref t)) (F_x0_size : Fld Z h0 x0 "com/example/akin/akin/engine/IntList" "size" "I" (.int (0 : Int32))) (E_x0 : Exa Z h0 x0 "com/example/akin/akin/engine/IntList") (A_t : AI Z h0 t .int [y0, y1]) (E_t : Exa Z h0 t "[I") (g_x0 : n0 ≤ x0) (g_t : n0 ≤ t) (ne_x0_t : x0 ≠ t) :
    Ctr l (⟨"com/example/akin/akin/engine/IntList", "add", "(I)V"⟩ : MethodName) prog_21_method_5_code 2 none ws ({ frames := 2, cells := 1, slots := 8, locals := 80 } : Room) Z #[(.ref x0), (.int x1)] h0 (fun v h L => v = none ∧ Fr n0 L ∧ Keep h0 h [x0, t] ∧ ∃ t', (t' = t ∨ h0.size ≤ t') ∧ Fld Z h x0 "com/example/akin/akin/engine/IntList" "items" "[I" (.ref t') ∧ Fld Z h x0 "com/example/akin/akin/engine/IntList" "size" "I" (.int (1 : Int32)) ∧ AI Z h t' .int [x1, y1] ∧ Exa Z h t' "[I") 1 8 := by
  refine Ctr.mk pn_4 ?_
  intro p e s m below meth c T hx hby hml hown hnm hlk hret hZ X eT
  have N := Fr.nil n0
  refine enter (ef_4 m x0 x1) ?_
  have K := Keep.refl h0 [x0, t]
  refine s_aloadN X hx (hb hby d4_0) rfl rfl (q := 1) rfl ?_
  refine s_getF X hx hZ hown (hw _ (List.mem_of_getElem? (i := 22) rfl)) eT F_x0_size (hb hby d4_1) (q := 4) rfl ?_
  intro T X eT
  refine s_aloadN X hx (hb hby d4_4) rfl rfl (q := 5) rfl ?_
  refine s_getF X hx hZ hown (hw _ (List.mem_of_getElem? (i := 15) rfl)) eT F_x0_items (hb hby d4_5) (q := 8) rfl ?_
  intro T X eT
  refine s_lenI X hx hZ eT (z := (2 : Int32)) A_t rfl (hb hby d4_8) (q := 9) rfl ?_
  refine f_icmp_ne X hx (hb hby d4_9) (q1 := 38) (by decide) (by decide) (q := 12) rfl (fun _ => ?_) (fun hq => absurd hq (by decide : ¬ (0 : Int32) = (2 : Int32)))
  refine s_aloadN X hx (hb hby d4_38) rfl rfl (q := 39) rfl ?_
  refine s_getF X hx hZ hown (hw _ (List.mem_of_getElem? (i := 15) rfl)) eT F_x0_items (hb hby d4_39) (q := 42) rfl ?_
  intro T X eT
  refine s_aloadN X hx (hb hby d4_42) rfl rfl (q := 43) rfl ?_
  refine s_dup X hx (hb hby d4_43) rfl (q := 44) rfl ?_
  refine s_getF X hx hZ hown (hw _ (List.mem_of_getElem? (i := 22) rfl)) eT F_x0_size (hb hby d4_44) (q := 47) rfl ?_
  intro T X eT
  refine s_dup_x1 X hx (hb hby d4_47) rfl rfl (q := 48) rfl ?_
  refine s_iconst X hx (z := (1 : Int32)) (hb hby d4_48) rfl (q := 49) rfl ?_
  refine s_iadd X hx (hb hby d4_49) (q := 50) rfl ?_
  show Go p e below _ T m 50 #[.val (.ref x0), .val (.int x1)] [(.int (1 : Int32)), (.ref x0), (.int (0 : Int32)), (.ref t)]
  refine s_putF X hx hZ hown (hw _ (List.mem_of_getElem? (i := 22) rfl)) eT F_x0_size E_x0 (Or.inl (hw _ (List.mem_of_getElem? (i := 23) rfl))) (hw _ (List.mem_of_getElem? (i := 2) rfl)) (ty := .int) (by decide) rfl rfl N g_x0 (hb hby d4_50) (q := 53) rfl ?_
  intro T h1 _ X N eT W F_x0_size'
  have E_x0 := E_x0.wr W
  have F_x0_items := F_x0_items.other W (Or.inr (slot_ne (Or.inl (hw _ (List.mem_of_getElem? (i := 16) rfl))) (Or.inl (hw _ (List.mem_of_getElem? (i := 23) rfl))) (by decide) (t := (.array .int)) (t' := .int) (by decide) (by decide)))
  have A_t := A_t.other W (Ne.symm ne_x0_t)
  have E_t := E_t.wr W
  have K := K.wr W (Or.inl (List.mem_of_getElem? (i := 0) rfl))
  have sz : n0 ≤ h1.size := by rw [W.size]; exact sz
  have F_x0_size := F_x0_size'
  refine s_iloadN X hx (hb hby d4_53) rfl (q := 54) rfl ?_
  refine s_iastore X hx hZ eT A_t N g_t (by decide) (i := 0) rfl (Nat.le_of_ble_eq_true rfl) (ys := [x1, y1]) rfl (hb hby d4_54) (q := 55) rfl ?_
  intro T h2 _ X N eT W A_t'
  have E_x0 := E_x0.wr W
  have F_x0_items := F_x0_items.other W (Or.inl ne_x0_t)
  have F_x0_size := F_x0_size.other W (Or.inl ne_x0_t)
  have E_t := E_t.wr W
  have K := K.wr W (Or.inl (List.mem_of_getElem? (i := 1) rfl))
  have sz : n0 ≤ h2.size := by rw [W.size]; exact sz
  have A_t := A_t'
  exact leafV X hx hlk hret (hb hby d4_55) (by decide) (by decide) (by rw [eT]; exact ⟨rfl, N, K, t, Or.inl rfl, F_x0_items, F_x0_size, A_t, E_t⟩)
set_option maxRecDepth 65536 in
set_option maxHeartbeats 40000000 in
theorem rm4_1_2 (l : Launch) (Z : State) (a0 : Array Value) (hw : ∀ d ∈ tables_1, d.before a0 Z = true) (ws : List Jvm.Cond) (x0 : Addr) (x1 : Int32) (t : Addr) (y0 y1 : Int32) (h0 : Heap) (n0 : Nat) (sz : n0 ≤ h0.size) (F_x0_items : Fld Z h0 x0 "com/example/akin/akin/engine/IntList" "items" "[I" (.ref t)) (F_x0_size : Fld Z h0 x0 "com/example/akin/akin/engine/IntList" "size" "I" (.int (1 : Int32))) (E_x0 : Exa Z h0 x0 "com/example/akin/akin/engine/IntList") (A_t : AI Z h0 t .int [y0, y1]) (E_t : Exa Z h0 t "[I") (g_x0 : n0 ≤ x0) (g_t : n0 ≤ t) (ne_x0_t : x0 ≠ t) :
    Ctr l (⟨"com/example/akin/akin/engine/IntList", "add", "(I)V"⟩ : MethodName) prog_21_method_5_code 2 none ws ({ frames := 2, cells := 1, slots := 8, locals := 80 } : Room) Z #[(.ref x0), (.int x1)] h0 (fun v h L => v = none ∧ Fr n0 L ∧ Keep h0 h [x0, t] ∧ ∃ t', (t' = t ∨ h0.size ≤ t') ∧ Fld Z h x0 "com/example/akin/akin/engine/IntList" "items" "[I" (.ref t') ∧ Fld Z h x0 "com/example/akin/akin/engine/IntList" "size" "I" (.int (2 : Int32)) ∧ AI Z h t' .int [y0, x1] ∧ Exa Z h t' "[I") 1 8 := by
  refine Ctr.mk pn_4 ?_
  intro p e s m below meth c T hx hby hml hown hnm hlk hret hZ X eT
  have N := Fr.nil n0
  refine enter (ef_4 m x0 x1) ?_
  have K := Keep.refl h0 [x0, t]
  refine s_aloadN X hx (hb hby d4_0) rfl rfl (q := 1) rfl ?_
  refine s_getF X hx hZ hown (hw _ (List.mem_of_getElem? (i := 22) rfl)) eT F_x0_size (hb hby d4_1) (q := 4) rfl ?_
  intro T X eT
  refine s_aloadN X hx (hb hby d4_4) rfl rfl (q := 5) rfl ?_
  refine s_getF X hx hZ hown (hw _ (List.mem_of_getElem? (i := 15) rfl)) eT F_x0_items (hb hby d4_5) (q := 8) rfl ?_
  intro T X eT
  refine s_lenI X hx hZ eT (z := (2 : Int32)) A_t rfl (hb hby d4_8) (q := 9) rfl ?_
  refine f_icmp_ne X hx (hb hby d4_9) (q1 := 38) (by decide) (by decide) (q := 12) rfl (fun _ => ?_) (fun hq => absurd hq (by decide : ¬ (1 : Int32) = (2 : Int32)))
  refine s_aloadN X hx (hb hby d4_38) rfl rfl (q := 39) rfl ?_
  refine s_getF X hx hZ hown (hw _ (List.mem_of_getElem? (i := 15) rfl)) eT F_x0_items (hb hby d4_39) (q := 42) rfl ?_
  intro T X eT
  refine s_aloadN X hx (hb hby d4_42) rfl rfl (q := 43) rfl ?_
  refine s_dup X hx (hb hby d4_43) rfl (q := 44) rfl ?_
  refine s_getF X hx hZ hown (hw _ (List.mem_of_getElem? (i := 22) rfl)) eT F_x0_size (hb hby d4_44) (q := 47) rfl ?_
  intro T X eT
  refine s_dup_x1 X hx (hb hby d4_47) rfl rfl (q := 48) rfl ?_
  refine s_iconst X hx (z := (1 : Int32)) (hb hby d4_48) rfl (q := 49) rfl ?_
  refine s_iadd X hx (hb hby d4_49) (q := 50) rfl ?_
  show Go p e below _ T m 50 #[.val (.ref x0), .val (.int x1)] [(.int (2 : Int32)), (.ref x0), (.int (1 : Int32)), (.ref t)]
  refine s_putF X hx hZ hown (hw _ (List.mem_of_getElem? (i := 22) rfl)) eT F_x0_size E_x0 (Or.inl (hw _ (List.mem_of_getElem? (i := 23) rfl))) (hw _ (List.mem_of_getElem? (i := 2) rfl)) (ty := .int) (by decide) rfl rfl N g_x0 (hb hby d4_50) (q := 53) rfl ?_
  intro T h1 _ X N eT W F_x0_size'
  have E_x0 := E_x0.wr W
  have F_x0_items := F_x0_items.other W (Or.inr (slot_ne (Or.inl (hw _ (List.mem_of_getElem? (i := 16) rfl))) (Or.inl (hw _ (List.mem_of_getElem? (i := 23) rfl))) (by decide) (t := (.array .int)) (t' := .int) (by decide) (by decide)))
  have A_t := A_t.other W (Ne.symm ne_x0_t)
  have E_t := E_t.wr W
  have K := K.wr W (Or.inl (List.mem_of_getElem? (i := 0) rfl))
  have sz : n0 ≤ h1.size := by rw [W.size]; exact sz
  have F_x0_size := F_x0_size'
  refine s_iloadN X hx (hb hby d4_53) rfl (q := 54) rfl ?_
  refine s_iastore X hx hZ eT A_t N g_t (by decide) (i := 1) rfl (Nat.le_of_ble_eq_true rfl) (ys := [y0, x1]) rfl (hb hby d4_54) (q := 55) rfl ?_
  intro T h2 _ X N eT W A_t'
  have E_x0 := E_x0.wr W
  have F_x0_items := F_x0_items.other W (Or.inl ne_x0_t)
  have F_x0_size := F_x0_size.other W (Or.inl ne_x0_t)
  have E_t := E_t.wr W
  have K := K.wr W (Or.inl (List.mem_of_getElem? (i := 1) rfl))
  have sz : n0 ≤ h2.size := by rw [W.size]; exact sz
  have A_t := A_t'
  exact leafV X hx hlk hret (hb hby d4_55) (by decide) (by decide) (by rw [eT]; exact ⟨rfl, N, K, t, Or.inl rfl, F_x0_items, F_x0_size, A_t, E_t⟩)
set_option maxRecDepth 65536 in
set_option maxHeartbeats 40000000 in
theorem rm4_3_3 (l : Launch) (Z : State) (a0 : Array Value) (hw : ∀ d ∈ tables_1, d.before a0 Z = true) (ws : List Jvm.Cond) (x0 : Addr) (x1 : Int32) (t : Addr) (y0 y1 y2 : Int32) (h0 : Heap) (n0 : Nat) (sz : n0 ≤ h0.size) (F_x0_items : Fld Z h0 x0 "com/example/akin/akin/engine/IntList" "items" "[I" (.ref t)) (F_x0_size : Fld Z h0 x0 "com/example/akin/akin/engine/IntList" "size" "I" (.int (3 : Int32))) (E_x0 : Exa Z h0 x0 "com/example/akin/akin/engine/IntList") (A_t : AI Z h0 t .int [y0, y1, y2]) (E_t : Exa Z h0 t "[I") (g_x0 : n0 ≤ x0) (g_t : n0 ≤ t) (ne_x0_t : x0 ≠ t) :
    Ctr l (⟨"com/example/akin/akin/engine/IntList", "add", "(I)V"⟩ : MethodName) prog_21_method_5_code 2 none ws ({ frames := 2, cells := 1, slots := 8, locals := 80 } : Room) Z #[(.ref x0), (.int x1)] h0 (fun v h L => v = none ∧ Fr n0 L ∧ Keep h0 h [x0, t] ∧ ∃ t', (t' = t ∨ h0.size ≤ t') ∧ Fld Z h x0 "com/example/akin/akin/engine/IntList" "items" "[I" (.ref t') ∧ Fld Z h x0 "com/example/akin/akin/engine/IntList" "size" "I" (.int (4 : Int32)) ∧ AI Z h t' .int [y0, y1, y2, x1] ∧ Exa Z h t' "[I") 1 8 := by
  refine Ctr.mk pn_4 ?_
  intro p e s m below meth c T hx hby hml hown hnm hlk hret hZ X eT
  have N := Fr.nil n0
  refine enter (ef_4 m x0 x1) ?_
  have K := Keep.refl h0 [x0, t]
  refine s_aloadN X hx (hb hby d4_0) rfl rfl (q := 1) rfl ?_
  refine s_getF X hx hZ hown (hw _ (List.mem_of_getElem? (i := 22) rfl)) eT F_x0_size (hb hby d4_1) (q := 4) rfl ?_
  intro T X eT
  refine s_aloadN X hx (hb hby d4_4) rfl rfl (q := 5) rfl ?_
  refine s_getF X hx hZ hown (hw _ (List.mem_of_getElem? (i := 15) rfl)) eT F_x0_items (hb hby d4_5) (q := 8) rfl ?_
  intro T X eT
  refine s_lenI X hx hZ eT (z := (3 : Int32)) A_t rfl (hb hby d4_8) (q := 9) rfl ?_
  refine f_icmp_ne X hx (hb hby d4_9) (q1 := 38) (by decide) (by decide) (q := 12) rfl (fun hq => absurd (by decide : (3 : Int32) = (3 : Int32)) hq) (fun _ => ?_)
  refine s_aloadN X hx (hb hby d4_12) rfl rfl (q := 13) rfl ?_
  refine s_aloadN X hx (hb hby d4_13) rfl rfl (q := 14) rfl ?_
  refine s_getF X hx hZ hown (hw _ (List.mem_of_getElem? (i := 15) rfl)) eT F_x0_items (hb hby d4_14) (q := 17) rfl ?_
  intro T X eT
  refine s_aloadN X hx (hb hby d4_17) rfl rfl (q := 18) rfl ?_
  refine s_getF X hx hZ hown (hw _ (List.mem_of_getElem? (i := 22) rfl)) eT F_x0_size (hb hby d4_18) (q := 21) rfl ?_
  intro T X eT
  refine s_aloadN X hx (hb hby d4_21) rfl rfl (q := 22) rfl ?_
  refine s_getF X hx hZ hown (hw _ (List.mem_of_getElem? (i := 22) rfl)) eT F_x0_size (hb hby d4_22) (q := 25) rfl ?_
  intro T X eT
  refine s_iconst X hx (z := (1 : Int32)) (hb hby d4_25) rfl (q := 26) rfl ?_
  refine s_ishr X hx (hb hby d4_26) (q := 27) rfl ?_
  show Go p e below _ T m 27 #[.val (.ref x0), .val (.int x1)] [(.int (1 : Int32)), (.int (3 : Int32)), (.ref t), (.ref x0)]
  refine s_iconst X hx (z := (1 : Int32)) (hb hby d4_27) rfl (q := 28) rfl ?_
  refine callP X hx hZ hown (W := 3) (argsL := [(.int (1 : Int32)), (.int (1 : Int32))]) (rest := [(.int (3 : Int32)), (.ref t), (.ref x0)]) (hw _ (List.mem_of_getElem? (i := 10) rfl)) (hw _ (List.mem_of_getElem? (i := 11) rfl)) (hw _ (List.mem_of_getElem? (i := 12) rfl)) (hw _ (List.mem_of_getElem? (i := 13) rfl)) (by decide) (rm3 l Z a0 hw [] (1 : Int32) (1 : Int32) h0) rfl rfl eT (by decide) (by decide) (by decide) (by decide) (by rw [hml]; rfl) pd0 rfl rfl (Nat.le_of_ble_eq_true rfl) (hb hby d4_28) (q := 31) rfl ?_
  intro T X eT
  show Go p e below _ T m 31 #[.val (.ref x0), .val (.int x1)] [(.int (1 : Int32)), (.int (3 : Int32)), (.ref t), (.ref x0)]
  refine s_iadd X hx (hb hby d4_31) (q := 32) rfl ?_
  show Go p e below _ T m 32 #[.val (.ref x0), .val (.int x1)] [(.int (4 : Int32)), (.ref t), (.ref x0)]
  refine callC X hx hZ hown (W := 1) (argsL := [(.ref t), (.int (4 : Int32))]) (rest := [(.ref x0)]) (hw _ (List.mem_of_getElem? (i := 24) rfl)) (hw _ (List.mem_of_getElem? (i := 25) rfl)) (hw _ (List.mem_of_getElem? (i := 26) rfl)) (hw _ (List.mem_of_getElem? (i := 27) rfl)) (by decide) (rm5_3_4 l Z a0 hw [] t y0 y1 y2 h0 n0 sz A_t E_t) eT (by decide) (by decide) (by decide) (by decide) (by rw [hml]; rfl) pd1 rfl rfl (Nat.le_of_ble_eq_true rfl) (hb hby d4_32) (q := 35) rfl ?_
  intro v T Lc hQ X
  obtain ⟨h1, eT⟩ : ∃ z, T.heap = z := ⟨_, rfl⟩
  try rw [eT] at hQ
  obtain ⟨t2, rfl, N', K', st_t2, A_t2, E_t2⟩ := hQ
  have N := Fr.app N N'
  have sk_t2 : h0.size ≤ t2 := Nat.le_trans K.1 st_t2
  have g_t2 : n0 ≤ t2 := Nat.le_trans sz st_t2
  have ne_x0_t2 : x0 ≠ t2 := Nat.ne_of_lt (Nat.lt_of_lt_of_le E_x0.lt st_t2)
  have ne_t_t2 : t ≠ t2 := Nat.ne_of_lt (Nat.lt_of_lt_of_le A_t.lt st_t2)
  have E_x0 := E_x0.keep K'
  have F_x0_items := F_x0_items.keep K' nin0
  have F_x0_size := F_x0_size.keep K' nin0
  have A_t := A_t.keep K' nin0
  have E_t := E_t.keep K'
  have sz : n0 ≤ h1.size := Nat.le_trans sz K'.1
  have K := K.trans K' all0
  refine s_putF X hx hZ hown (hw _ (List.mem_of_getElem? (i := 15) rfl)) eT F_x0_items E_x0 (Or.inl (hw _ (List.mem_of_getElem? (i := 16) rfl))) (hw _ (List.mem_of_getElem? (i := 2) rfl)) (ty := (.array .int)) (by decide) rfl rfl N g_x0 (hb hby d4_35) (q := 38) rfl ?_
  intro T h3 _ X N eT W F_x0_items'
  have E_x0 := E_x0.wr W
  have F_x0_size := F_x0_size.other W (Or.inr (slot_ne (Or.inl (hw _ (List.mem_of_getElem? (i := 23) rfl))) (Or.inl (hw _ (List.mem_of_getElem? (i := 16) rfl))) (by decide) (t := .int) (t' := (.array .int)) (by decide) (by decide)))
  have A_t := A_t.other W (Ne.symm ne_x0_t)
  have E_t := E_t.wr W
  have A_t2 := A_t2.other W (Ne.symm ne_x0_t2)
  have E_t2 := E_t2.wr W
  have K := K.wr W (Or.inl (List.mem_of_getElem? (i := 0) rfl))
  have sz : n0 ≤ h3.size := by rw [W.size]; exact sz
  have F_x0_items := F_x0_items'
  refine s_aloadN X hx (hb hby d4_38) rfl rfl (q := 39) rfl ?_
  refine s_getF X hx hZ hown (hw _ (List.mem_of_getElem? (i := 15) rfl)) eT F_x0_items (hb hby d4_39) (q := 42) rfl ?_
  intro T X eT
  refine s_aloadN X hx (hb hby d4_42) rfl rfl (q := 43) rfl ?_
  refine s_dup X hx (hb hby d4_43) rfl (q := 44) rfl ?_
  refine s_getF X hx hZ hown (hw _ (List.mem_of_getElem? (i := 22) rfl)) eT F_x0_size (hb hby d4_44) (q := 47) rfl ?_
  intro T X eT
  refine s_dup_x1 X hx (hb hby d4_47) rfl rfl (q := 48) rfl ?_
  refine s_iconst X hx (z := (1 : Int32)) (hb hby d4_48) rfl (q := 49) rfl ?_
  refine s_iadd X hx (hb hby d4_49) (q := 50) rfl ?_
  show Go p e below _ T m 50 #[.val (.ref x0), .val (.int x1)] [(.int (4 : Int32)), (.ref x0), (.int (3 : Int32)), (.ref t2)]
  refine s_putF X hx hZ hown (hw _ (List.mem_of_getElem? (i := 22) rfl)) eT F_x0_size E_x0 (Or.inl (hw _ (List.mem_of_getElem? (i := 23) rfl))) (hw _ (List.mem_of_getElem? (i := 2) rfl)) (ty := .int) (by decide) rfl rfl N g_x0 (hb hby d4_50) (q := 53) rfl ?_
  intro T h4 _ X N eT W F_x0_size'
  have E_x0 := E_x0.wr W
  have F_x0_items := F_x0_items.other W (Or.inr (slot_ne (Or.inl (hw _ (List.mem_of_getElem? (i := 16) rfl))) (Or.inl (hw _ (List.mem_of_getElem? (i := 23) rfl))) (by decide) (t := (.array .int)) (t' := .int) (by decide) (by decide)))
  have A_t := A_t.other W (Ne.symm ne_x0_t)
  have E_t := E_t.wr W
  have A_t2 := A_t2.other W (Ne.symm ne_x0_t2)
  have E_t2 := E_t2.wr W
  have K := K.wr W (Or.inl (List.mem_of_getElem? (i := 0) rfl))
  have sz : n0 ≤ h4.size := by rw [W.size]; exact sz
  have F_x0_size := F_x0_size'
  refine s_iloadN X hx (hb hby d4_53) rfl (q := 54) rfl ?_
  refine s_iastore X hx hZ eT A_t2 N g_t2 (by decide) (i := 3) rfl (Nat.le_of_ble_eq_true rfl) (ys := [y0, y1, y2, x1]) rfl (hb hby d4_54) (q := 55) rfl ?_
  intro T h5 _ X N eT W A_t2'
  have E_x0 := E_x0.wr W
  have F_x0_items := F_x0_items.other W (Or.inl ne_x0_t2)
  have F_x0_size := F_x0_size.other W (Or.inl ne_x0_t2)
  have A_t := A_t.other W ne_t_t2
  have E_t := E_t.wr W
  have E_t2 := E_t2.wr W
  have K := K.wr W (Or.inr sk_t2)
  have sz : n0 ≤ h5.size := by rw [W.size]; exact sz
  have A_t2 := A_t2'
  exact leafV X hx hlk hret (hb hby d4_55) (by decide) (by decide) (by rw [eT]; exact ⟨rfl, N, K, t2, Or.inr sk_t2, F_x0_items, F_x0_size, A_t2, E_t2⟩)
theorem d8_0 : decode prog_21_method_3_code 0 = .ok (.iload_n 1, 1) := by decide +kernel
theorem d8_1 : decode prog_21_method_3_code 1 = .ok (.ifCond .lt 11, 3) := by decide +kernel
theorem d8_4 : decode prog_21_method_3_code 4 = .ok (.iload_n 1, 1) := by decide +kernel
theorem d8_5 : decode prog_21_method_3_code 5 = .ok (.aload_n 0, 1) := by decide +kernel
theorem d8_6 : decode prog_21_method_3_code 6 = .ok (.getfield 19, 3) := by decide +kernel
theorem d8_9 : decode prog_21_method_3_code 9 = .ok (.if_icmp .lt 21, 3) := by decide +kernel
theorem d8_12 : decode prog_21_method_3_code 12 = .ok (.new 23, 3) := by decide +kernel
theorem d8_15 : decode prog_21_method_3_code 15 = .ok (.dup, 1) := by decide +kernel
theorem d8_16 : decode prog_21_method_3_code 16 = .ok (.iload_n 1, 1) := by decide +kernel
theorem d8_17 : decode prog_21_method_3_code 17 = .ok (.aload_n 0, 1) := by decide +kernel
theorem d8_18 : decode prog_21_method_3_code 18 = .ok (.getfield 19, 3) := by decide +kernel
theorem d8_26 : decode prog_21_method_3_code 26 = .ok (.invokespecial 29, 3) := by decide +kernel
theorem d8_29 : decode prog_21_method_3_code 29 = .ok (.athrow, 1) := by decide +kernel
theorem d8_30 : decode prog_21_method_3_code 30 = .ok (.aload_n 0, 1) := by decide +kernel
theorem d8_31 : decode prog_21_method_3_code 31 = .ok (.getfield 13, 3) := by decide +kernel
theorem d8_34 : decode prog_21_method_3_code 34 = .ok (.iload_n 1, 1) := by decide +kernel
theorem d8_35 : decode prog_21_method_3_code 35 = .ok (.iaload, 1) := by decide +kernel
theorem d8_36 : decode prog_21_method_3_code 36 = .ok (.ireturn, 1) := by decide +kernel
theorem pn_8 : plainFor (⟨"com/example/akin/akin/engine/IntList", "get", "(I)I"⟩ : MethodName) = true := plainFor_of_name (by first | (simp [plainName, overriddenIn]; done) | decide +kernel)
theorem ef_8 (m : MethodId) (x0 : Addr) (x1 : Int32) : entryFrame m #[(.ref x0), (.int x1)] 2 = mkF m 0 #[.val (.ref x0), .val (.int x1)] [] := by first | (simp [entryFrame, mkF, argsToLocals, Value.category]; done) | rfl
set_option maxRecDepth 65536 in
set_option maxHeartbeats 40000000 in
theorem rm8 (l : Launch) (Z : State) (a0 : Array Value) (hw : ∀ d ∈ tables_1, d.before a0 Z = true) (ws : List Jvm.Cond) (x0 : Addr) (x1 : Int32) (t : Addr) (n : Int32) (xs : List Int32) (y : Int32) (h0 : Heap) (n0 : Nat) (sz : n0 ≤ h0.size) (F_x0_items : Fld Z h0 x0 "com/example/akin/akin/engine/IntList" "items" "[I" (.ref t)) (F_x0_size : Fld Z h0 x0 "com/example/akin/akin/engine/IntList" "size" "I" (.int n)) (A_t : AI Z h0 t .int xs) (hn0 : ¬ x1 < 0) (hns : x1 < n) (hy : xs[x1.toNatClampNeg]? = some y) :
    Ctr l (⟨"com/example/akin/akin/engine/IntList", "get", "(I)I"⟩ : MethodName) prog_21_method_3_code 2 (some .int) ws ({ frames := 0, cells := 0, slots := 0, locals := 0 } : Room) Z #[(.ref x0), (.int x1)] h0 (fun v h L => v = some (.int y) ∧ h = h0 ∧ Fr n0 L) 0 0 := by
  refine Ctr.mk pn_8 ?_
  intro p e s m below meth c T hx hby hml hown hnm hlk hret hZ X eT
  have N := Fr.nil n0
  refine enter (ef_8 m x0 x1) ?_
  refine s_iloadN X hx (hb hby d8_0) rfl (q := 1) rfl ?_
  refine f_if_lt X hx (hb hby d8_1) (q1 := 12) (by decide) (by decide) (q := 4) rfl (fun hq => absurd hq (hn0 : ¬ x1 < 0)) (fun _ => ?_)
  refine s_iloadN X hx (hb hby d8_4) rfl (q := 5) rfl ?_
  refine s_aloadN X hx (hb hby d8_5) rfl rfl (q := 6) rfl ?_
  refine s_getF X hx hZ hown (hw _ (List.mem_of_getElem? (i := 22) rfl)) eT F_x0_size (hb hby d8_6) (q := 9) rfl ?_
  intro T X eT
  refine f_icmp_lt X hx (hb hby d8_9) (q1 := 30) (by decide) (by decide) (q := 12) rfl (fun _ => ?_) (fun hq => absurd (hns : x1 < n) hq)
  refine s_aloadN X hx (hb hby d8_30) rfl rfl (q := 31) rfl ?_
  refine s_getF X hx hZ hown (hw _ (List.mem_of_getElem? (i := 15) rfl)) eT F_x0_items (hb hby d8_31) (q := 34) rfl ?_
  intro T X eT
  refine s_iloadN X hx (hb hby d8_34) rfl (q := 35) rfl ?_
  refine s_iaload X hx hZ eT A_t hn0 (i := x1.toNatClampNeg) rfl (x := y) hy (hb hby d8_35) (q := 36) rfl ?_
  exact leafI X hx hlk hret (hb hby d8_36) (by decide) (by decide) ⟨rfl, eT, N⟩
theorem d7_0 : decode prog_21_method_9_code 0 = .ok (.aload_n 0, 1) := by decide +kernel
theorem d7_1 : decode prog_21_method_9_code 1 = .ok (.getfield 13, 3) := by decide +kernel
theorem d7_4 : decode prog_21_method_9_code 4 = .ok (.aload_n 0, 1) := by decide +kernel
theorem d7_5 : decode prog_21_method_9_code 5 = .ok (.getfield 19, 3) := by decide +kernel
theorem d7_8 : decode prog_21_method_9_code 8 = .ok (.invokestatic 36, 3) := by decide +kernel
theorem d7_11 : decode prog_21_method_9_code 11 = .ok (.areturn, 1) := by decide +kernel
theorem pn_7 : plainFor (⟨"com/example/akin/akin/engine/IntList", "toArray", "()[I"⟩ : MethodName) = true := plainFor_of_name (by first | (simp [plainName, overriddenIn]; done) | decide +kernel)
theorem ef_7 (m : MethodId) (x0 : Addr) : entryFrame m #[(.ref x0)] 1 = mkF m 0 #[.val (.ref x0)] [] := by first | (simp [entryFrame, mkF, argsToLocals, Value.category]; done) | rfl
set_option maxRecDepth 65536 in
set_option maxHeartbeats 40000000 in
theorem rm7_0_1 (l : Launch) (Z : State) (a0 : Array Value) (hw : ∀ d ∈ tables_1, d.before a0 Z = true) (ws : List Jvm.Cond) (x0 : Addr) (t : Addr) (y0 : Int32) (h0 : Heap) (n0 : Nat) (sz : n0 ≤ h0.size) (F_x0_items : Fld Z h0 x0 "com/example/akin/akin/engine/IntList" "items" "[I" (.ref t)) (F_x0_size : Fld Z h0 x0 "com/example/akin/akin/engine/IntList" "size" "I" (.int (0 : Int32))) (A_t : AI Z h0 t .int [y0]) (E_t : Exa Z h0 t "[I") :
    Ctr l (⟨"com/example/akin/akin/engine/IntList", "toArray", "()[I"⟩ : MethodName) prog_21_method_9_code 1 (some (.array .int)) ws ({ frames := 2, cells := 1, slots := 8, locals := 80 } : Room) Z #[(.ref x0)] h0 (fun v h L => ∃ t', v = some (.ref t') ∧ Fr n0 L ∧ Keep h0 h [] ∧ h0.size ≤ t' ∧ AI Z h t' .int []) 1 8 := by
  refine Ctr.mk pn_7 ?_
  intro p e s m below meth c T hx hby hml hown hnm hlk hret hZ X eT
  have N := Fr.nil n0
  refine enter (ef_7 m x0) ?_
  have K := Keep.refl h0 []
  refine s_aloadN X hx (hb hby d7_0) rfl rfl (q := 1) rfl ?_
  refine s_getF X hx hZ hown (hw _ (List.mem_of_getElem? (i := 15) rfl)) eT F_x0_items (hb hby d7_1) (q := 4) rfl ?_
  intro T X eT
  refine s_aloadN X hx (hb hby d7_4) rfl rfl (q := 5) rfl ?_
  refine s_getF X hx hZ hown (hw _ (List.mem_of_getElem? (i := 22) rfl)) eT F_x0_size (hb hby d7_5) (q := 8) rfl ?_
  intro T X eT
  refine callC X hx hZ hown (W := 0) (argsL := [(.ref t), (.int (0 : Int32))]) (rest := []) (hw _ (List.mem_of_getElem? (i := 24) rfl)) (hw _ (List.mem_of_getElem? (i := 25) rfl)) (hw _ (List.mem_of_getElem? (i := 26) rfl)) (hw _ (List.mem_of_getElem? (i := 27) rfl)) (by decide) (rm5_1_0 l Z a0 hw [] t y0 h0 n0 sz A_t E_t) eT (by decide) (by decide) (by decide) (by decide) (by rw [hml]; rfl) pd1 rfl rfl (Nat.le_of_ble_eq_true rfl) (hb hby d7_8) (q := 11) rfl ?_
  intro v T Lc hQ X
  obtain ⟨h1, eT⟩ : ∃ z, T.heap = z := ⟨_, rfl⟩
  try rw [eT] at hQ
  obtain ⟨t2, rfl, N', K', st_t2, A_t2, E_t2⟩ := hQ
  have N := Fr.app N N'
  have sk_t2 : h0.size ≤ t2 := Nat.le_trans K.1 st_t2
  have g_t2 : n0 ≤ t2 := Nat.le_trans sz st_t2
  have ne_x0_t2 : x0 ≠ t2 := Nat.ne_of_lt (Nat.lt_of_lt_of_le F_x0_items.lt st_t2)
  have ne_t_t2 : t ≠ t2 := Nat.ne_of_lt (Nat.lt_of_lt_of_le A_t.lt st_t2)
  have F_x0_items := F_x0_items.keep K' nin0
  have F_x0_size := F_x0_size.keep K' nin0
  have A_t := A_t.keep K' nin0
  have E_t := E_t.keep K'
  have sz : n0 ≤ h1.size := Nat.le_trans sz K'.1
  have K := K.trans K' all0
  exact leafA X hx hlk hret rfl rfl (hb hby d7_11) (by decide) (by decide) (by rw [eT]; exact ⟨t2, rfl, N, K, sk_t2, A_t2⟩)
set_option maxRecDepth 65536 in
set_option maxHeartbeats 40000000 in
theorem rm7_1_1 (l : Launch) (Z : State) (a0 : Array Value) (hw : ∀ d ∈ tables_1, d.before a0 Z = true) (ws : List Jvm.Cond) (x0 : Addr) (t : Addr) (y0 : Int32) (h0 : Heap) (n0 : Nat) (sz : n0 ≤ h0.size) (F_x0_items : Fld Z h0 x0 "com/example/akin/akin/engine/IntList" "items" "[I" (.ref t)) (F_x0_size : Fld Z h0 x0 "com/example/akin/akin/engine/IntList" "size" "I" (.int (1 : Int32))) (A_t : AI Z h0 t .int [y0]) (E_t : Exa Z h0 t "[I") :
    Ctr l (⟨"com/example/akin/akin/engine/IntList", "toArray", "()[I"⟩ : MethodName) prog_21_method_9_code 1 (some (.array .int)) ws ({ frames := 2, cells := 1, slots := 8, locals := 80 } : Room) Z #[(.ref x0)] h0 (fun v h L => ∃ t', v = some (.ref t') ∧ Fr n0 L ∧ Keep h0 h [] ∧ h0.size ≤ t' ∧ AI Z h t' .int [y0]) 1 8 := by
  refine Ctr.mk pn_7 ?_
  intro p e s m below meth c T hx hby hml hown hnm hlk hret hZ X eT
  have N := Fr.nil n0
  refine enter (ef_7 m x0) ?_
  have K := Keep.refl h0 []
  refine s_aloadN X hx (hb hby d7_0) rfl rfl (q := 1) rfl ?_
  refine s_getF X hx hZ hown (hw _ (List.mem_of_getElem? (i := 15) rfl)) eT F_x0_items (hb hby d7_1) (q := 4) rfl ?_
  intro T X eT
  refine s_aloadN X hx (hb hby d7_4) rfl rfl (q := 5) rfl ?_
  refine s_getF X hx hZ hown (hw _ (List.mem_of_getElem? (i := 22) rfl)) eT F_x0_size (hb hby d7_5) (q := 8) rfl ?_
  intro T X eT
  refine callC X hx hZ hown (W := 0) (argsL := [(.ref t), (.int (1 : Int32))]) (rest := []) (hw _ (List.mem_of_getElem? (i := 24) rfl)) (hw _ (List.mem_of_getElem? (i := 25) rfl)) (hw _ (List.mem_of_getElem? (i := 26) rfl)) (hw _ (List.mem_of_getElem? (i := 27) rfl)) (by decide) (rm5_1_1 l Z a0 hw [] t y0 h0 n0 sz A_t E_t) eT (by decide) (by decide) (by decide) (by decide) (by rw [hml]; rfl) pd1 rfl rfl (Nat.le_of_ble_eq_true rfl) (hb hby d7_8) (q := 11) rfl ?_
  intro v T Lc hQ X
  obtain ⟨h1, eT⟩ : ∃ z, T.heap = z := ⟨_, rfl⟩
  try rw [eT] at hQ
  obtain ⟨t2, rfl, N', K', st_t2, A_t2, E_t2⟩ := hQ
  have N := Fr.app N N'
  have sk_t2 : h0.size ≤ t2 := Nat.le_trans K.1 st_t2
  have g_t2 : n0 ≤ t2 := Nat.le_trans sz st_t2
  have ne_x0_t2 : x0 ≠ t2 := Nat.ne_of_lt (Nat.lt_of_lt_of_le F_x0_items.lt st_t2)
  have ne_t_t2 : t ≠ t2 := Nat.ne_of_lt (Nat.lt_of_lt_of_le A_t.lt st_t2)
  have F_x0_items := F_x0_items.keep K' nin0
  have F_x0_size := F_x0_size.keep K' nin0
  have A_t := A_t.keep K' nin0
  have E_t := E_t.keep K'
  have sz : n0 ≤ h1.size := Nat.le_trans sz K'.1
  have K := K.trans K' all0
  exact leafA X hx hlk hret rfl rfl (hb hby d7_11) (by decide) (by decide) (by rw [eT]; exact ⟨t2, rfl, N, K, sk_t2, A_t2⟩)
set_option maxRecDepth 65536 in
set_option maxHeartbeats 40000000 in
theorem rm7_2_2 (l : Launch) (Z : State) (a0 : Array Value) (hw : ∀ d ∈ tables_1, d.before a0 Z = true) (ws : List Jvm.Cond) (x0 : Addr) (t : Addr) (y0 y1 : Int32) (h0 : Heap) (n0 : Nat) (sz : n0 ≤ h0.size) (F_x0_items : Fld Z h0 x0 "com/example/akin/akin/engine/IntList" "items" "[I" (.ref t)) (F_x0_size : Fld Z h0 x0 "com/example/akin/akin/engine/IntList" "size" "I" (.int (2 : Int32))) (A_t : AI Z h0 t .int [y0, y1]) (E_t : Exa Z h0 t "[I") :
    Ctr l (⟨"com/example/akin/akin/engine/IntList", "toArray", "()[I"⟩ : MethodName) prog_21_method_9_code 1 (some (.array .int)) ws ({ frames := 2, cells := 1, slots := 8, locals := 80 } : Room) Z #[(.ref x0)] h0 (fun v h L => ∃ t', v = some (.ref t') ∧ Fr n0 L ∧ Keep h0 h [] ∧ h0.size ≤ t' ∧ AI Z h t' .int [y0, y1]) 1 8 := by
  refine Ctr.mk pn_7 ?_
  intro p e s m below meth c T hx hby hml hown hnm hlk hret hZ X eT
  have N := Fr.nil n0
  refine enter (ef_7 m x0) ?_
  have K := Keep.refl h0 []
  refine s_aloadN X hx (hb hby d7_0) rfl rfl (q := 1) rfl ?_
  refine s_getF X hx hZ hown (hw _ (List.mem_of_getElem? (i := 15) rfl)) eT F_x0_items (hb hby d7_1) (q := 4) rfl ?_
  intro T X eT
  refine s_aloadN X hx (hb hby d7_4) rfl rfl (q := 5) rfl ?_
  refine s_getF X hx hZ hown (hw _ (List.mem_of_getElem? (i := 22) rfl)) eT F_x0_size (hb hby d7_5) (q := 8) rfl ?_
  intro T X eT
  refine callC X hx hZ hown (W := 0) (argsL := [(.ref t), (.int (2 : Int32))]) (rest := []) (hw _ (List.mem_of_getElem? (i := 24) rfl)) (hw _ (List.mem_of_getElem? (i := 25) rfl)) (hw _ (List.mem_of_getElem? (i := 26) rfl)) (hw _ (List.mem_of_getElem? (i := 27) rfl)) (by decide) (rm5_2_2 l Z a0 hw [] t y0 y1 h0 n0 sz A_t E_t) eT (by decide) (by decide) (by decide) (by decide) (by rw [hml]; rfl) pd1 rfl rfl (Nat.le_of_ble_eq_true rfl) (hb hby d7_8) (q := 11) rfl ?_
  intro v T Lc hQ X
  obtain ⟨h1, eT⟩ : ∃ z, T.heap = z := ⟨_, rfl⟩
  try rw [eT] at hQ
  obtain ⟨t2, rfl, N', K', st_t2, A_t2, E_t2⟩ := hQ
  have N := Fr.app N N'
  have sk_t2 : h0.size ≤ t2 := Nat.le_trans K.1 st_t2
  have g_t2 : n0 ≤ t2 := Nat.le_trans sz st_t2
  have ne_x0_t2 : x0 ≠ t2 := Nat.ne_of_lt (Nat.lt_of_lt_of_le F_x0_items.lt st_t2)
  have ne_t_t2 : t ≠ t2 := Nat.ne_of_lt (Nat.lt_of_lt_of_le A_t.lt st_t2)
  have F_x0_items := F_x0_items.keep K' nin0
  have F_x0_size := F_x0_size.keep K' nin0
  have A_t := A_t.keep K' nin0
  have E_t := E_t.keep K'
  have sz : n0 ≤ h1.size := Nat.le_trans sz K'.1
  have K := K.trans K' all0
  exact leafA X hx hlk hret rfl rfl (hb hby d7_11) (by decide) (by decide) (by rw [eT]; exact ⟨t2, rfl, N, K, sk_t2, A_t2⟩)
set_option maxRecDepth 65536 in
set_option maxHeartbeats 40000000 in
theorem rm7_3_3 (l : Launch) (Z : State) (a0 : Array Value) (hw : ∀ d ∈ tables_1, d.before a0 Z = true) (ws : List Jvm.Cond) (x0 : Addr) (t : Addr) (y0 y1 y2 : Int32) (h0 : Heap) (n0 : Nat) (sz : n0 ≤ h0.size) (F_x0_items : Fld Z h0 x0 "com/example/akin/akin/engine/IntList" "items" "[I" (.ref t)) (F_x0_size : Fld Z h0 x0 "com/example/akin/akin/engine/IntList" "size" "I" (.int (3 : Int32))) (A_t : AI Z h0 t .int [y0, y1, y2]) (E_t : Exa Z h0 t "[I") :
    Ctr l (⟨"com/example/akin/akin/engine/IntList", "toArray", "()[I"⟩ : MethodName) prog_21_method_9_code 1 (some (.array .int)) ws ({ frames := 2, cells := 1, slots := 8, locals := 80 } : Room) Z #[(.ref x0)] h0 (fun v h L => ∃ t', v = some (.ref t') ∧ Fr n0 L ∧ Keep h0 h [] ∧ h0.size ≤ t' ∧ AI Z h t' .int [y0, y1, y2]) 1 8 := by
  refine Ctr.mk pn_7 ?_
  intro p e s m below meth c T hx hby hml hown hnm hlk hret hZ X eT
  have N := Fr.nil n0
  refine enter (ef_7 m x0) ?_
  have K := Keep.refl h0 []
  refine s_aloadN X hx (hb hby d7_0) rfl rfl (q := 1) rfl ?_
  refine s_getF X hx hZ hown (hw _ (List.mem_of_getElem? (i := 15) rfl)) eT F_x0_items (hb hby d7_1) (q := 4) rfl ?_
  intro T X eT
  refine s_aloadN X hx (hb hby d7_4) rfl rfl (q := 5) rfl ?_
  refine s_getF X hx hZ hown (hw _ (List.mem_of_getElem? (i := 22) rfl)) eT F_x0_size (hb hby d7_5) (q := 8) rfl ?_
  intro T X eT
  refine callC X hx hZ hown (W := 0) (argsL := [(.ref t), (.int (3 : Int32))]) (rest := []) (hw _ (List.mem_of_getElem? (i := 24) rfl)) (hw _ (List.mem_of_getElem? (i := 25) rfl)) (hw _ (List.mem_of_getElem? (i := 26) rfl)) (hw _ (List.mem_of_getElem? (i := 27) rfl)) (by decide) (rm5_3_3 l Z a0 hw [] t y0 y1 y2 h0 n0 sz A_t E_t) eT (by decide) (by decide) (by decide) (by decide) (by rw [hml]; rfl) pd1 rfl rfl (Nat.le_of_ble_eq_true rfl) (hb hby d7_8) (q := 11) rfl ?_
  intro v T Lc hQ X
  obtain ⟨h1, eT⟩ : ∃ z, T.heap = z := ⟨_, rfl⟩
  try rw [eT] at hQ
  obtain ⟨t2, rfl, N', K', st_t2, A_t2, E_t2⟩ := hQ
  have N := Fr.app N N'
  have sk_t2 : h0.size ≤ t2 := Nat.le_trans K.1 st_t2
  have g_t2 : n0 ≤ t2 := Nat.le_trans sz st_t2
  have ne_x0_t2 : x0 ≠ t2 := Nat.ne_of_lt (Nat.lt_of_lt_of_le F_x0_items.lt st_t2)
  have ne_t_t2 : t ≠ t2 := Nat.ne_of_lt (Nat.lt_of_lt_of_le A_t.lt st_t2)
  have F_x0_items := F_x0_items.keep K' nin0
  have F_x0_size := F_x0_size.keep K' nin0
  have A_t := A_t.keep K' nin0
  have E_t := E_t.keep K'
  have sz : n0 ≤ h1.size := Nat.le_trans sz K'.1
  have K := K.trans K' all0
  exact leafA X hx hlk hret rfl rfl (hb hby d7_11) (by decide) (by decide) (by rw [eT]; exact ⟨t2, rfl, N, K, sk_t2, A_t2⟩)
set_option maxRecDepth 65536 in
set_option maxHeartbeats 40000000 in
theorem rm7_4_4 (l : Launch) (Z : State) (a0 : Array Value) (hw : ∀ d ∈ tables_1, d.before a0 Z = true) (ws : List Jvm.Cond) (x0 : Addr) (t : Addr) (y0 y1 y2 y3 : Int32) (h0 : Heap) (n0 : Nat) (sz : n0 ≤ h0.size) (F_x0_items : Fld Z h0 x0 "com/example/akin/akin/engine/IntList" "items" "[I" (.ref t)) (F_x0_size : Fld Z h0 x0 "com/example/akin/akin/engine/IntList" "size" "I" (.int (4 : Int32))) (A_t : AI Z h0 t .int [y0, y1, y2, y3]) (E_t : Exa Z h0 t "[I") :
    Ctr l (⟨"com/example/akin/akin/engine/IntList", "toArray", "()[I"⟩ : MethodName) prog_21_method_9_code 1 (some (.array .int)) ws ({ frames := 2, cells := 1, slots := 8, locals := 80 } : Room) Z #[(.ref x0)] h0 (fun v h L => ∃ t', v = some (.ref t') ∧ Fr n0 L ∧ Keep h0 h [] ∧ h0.size ≤ t' ∧ AI Z h t' .int [y0, y1, y2, y3]) 1 8 := by
  refine Ctr.mk pn_7 ?_
  intro p e s m below meth c T hx hby hml hown hnm hlk hret hZ X eT
  have N := Fr.nil n0
  refine enter (ef_7 m x0) ?_
  have K := Keep.refl h0 []
  refine s_aloadN X hx (hb hby d7_0) rfl rfl (q := 1) rfl ?_
  refine s_getF X hx hZ hown (hw _ (List.mem_of_getElem? (i := 15) rfl)) eT F_x0_items (hb hby d7_1) (q := 4) rfl ?_
  intro T X eT
  refine s_aloadN X hx (hb hby d7_4) rfl rfl (q := 5) rfl ?_
  refine s_getF X hx hZ hown (hw _ (List.mem_of_getElem? (i := 22) rfl)) eT F_x0_size (hb hby d7_5) (q := 8) rfl ?_
  intro T X eT
  refine callC X hx hZ hown (W := 0) (argsL := [(.ref t), (.int (4 : Int32))]) (rest := []) (hw _ (List.mem_of_getElem? (i := 24) rfl)) (hw _ (List.mem_of_getElem? (i := 25) rfl)) (hw _ (List.mem_of_getElem? (i := 26) rfl)) (hw _ (List.mem_of_getElem? (i := 27) rfl)) (by decide) (rm5_4_4 l Z a0 hw [] t y0 y1 y2 y3 h0 n0 sz A_t E_t) eT (by decide) (by decide) (by decide) (by decide) (by rw [hml]; rfl) pd1 rfl rfl (Nat.le_of_ble_eq_true rfl) (hb hby d7_8) (q := 11) rfl ?_
  intro v T Lc hQ X
  obtain ⟨h1, eT⟩ : ∃ z, T.heap = z := ⟨_, rfl⟩
  try rw [eT] at hQ
  obtain ⟨t2, rfl, N', K', st_t2, A_t2, E_t2⟩ := hQ
  have N := Fr.app N N'
  have sk_t2 : h0.size ≤ t2 := Nat.le_trans K.1 st_t2
  have g_t2 : n0 ≤ t2 := Nat.le_trans sz st_t2
  have ne_x0_t2 : x0 ≠ t2 := Nat.ne_of_lt (Nat.lt_of_lt_of_le F_x0_items.lt st_t2)
  have ne_t_t2 : t ≠ t2 := Nat.ne_of_lt (Nat.lt_of_lt_of_le A_t.lt st_t2)
  have F_x0_items := F_x0_items.keep K' nin0
  have F_x0_size := F_x0_size.keep K' nin0
  have A_t := A_t.keep K' nin0
  have E_t := E_t.keep K'
  have sz : n0 ≤ h1.size := Nat.le_trans sz K'.1
  have K := K.trans K' all0
  exact leafA X hx hlk hret rfl rfl (hb hby d7_11) (by decide) (by decide) (by rw [eT]; exact ⟨t2, rfl, N, K, sk_t2, A_t2⟩)
set_option maxRecDepth 65536 in
set_option maxHeartbeats 40000000 in
theorem rm7_0_2 (l : Launch) (Z : State) (a0 : Array Value) (hw : ∀ d ∈ tables_1, d.before a0 Z = true) (ws : List Jvm.Cond) (x0 : Addr) (t : Addr) (y0 y1 : Int32) (h0 : Heap) (n0 : Nat) (sz : n0 ≤ h0.size) (F_x0_items : Fld Z h0 x0 "com/example/akin/akin/engine/IntList" "items" "[I" (.ref t)) (F_x0_size : Fld Z h0 x0 "com/example/akin/akin/engine/IntList" "size" "I" (.int (0 : Int32))) (A_t : AI Z h0 t .int [y0, y1]) (E_t : Exa Z h0 t "[I") :
    Ctr l (⟨"com/example/akin/akin/engine/IntList", "toArray", "()[I"⟩ : MethodName) prog_21_method_9_code 1 (some (.array .int)) ws ({ frames := 2, cells := 1, slots := 8, locals := 80 } : Room) Z #[(.ref x0)] h0 (fun v h L => ∃ t', v = some (.ref t') ∧ Fr n0 L ∧ Keep h0 h [] ∧ h0.size ≤ t' ∧ AI Z h t' .int []) 1 8 := by
  refine Ctr.mk pn_7 ?_
  intro p e s m below meth c T hx hby hml hown hnm hlk hret hZ X eT
  have N := Fr.nil n0
  refine enter (ef_7 m x0) ?_
  have K := Keep.refl h0 []
  refine s_aloadN X hx (hb hby d7_0) rfl rfl (q := 1) rfl ?_
  refine s_getF X hx hZ hown (hw _ (List.mem_of_getElem? (i := 15) rfl)) eT F_x0_items (hb hby d7_1) (q := 4) rfl ?_
  intro T X eT
  refine s_aloadN X hx (hb hby d7_4) rfl rfl (q := 5) rfl ?_
  refine s_getF X hx hZ hown (hw _ (List.mem_of_getElem? (i := 22) rfl)) eT F_x0_size (hb hby d7_5) (q := 8) rfl ?_
  intro T X eT
  refine callC X hx hZ hown (W := 0) (argsL := [(.ref t), (.int (0 : Int32))]) (rest := []) (hw _ (List.mem_of_getElem? (i := 24) rfl)) (hw _ (List.mem_of_getElem? (i := 25) rfl)) (hw _ (List.mem_of_getElem? (i := 26) rfl)) (hw _ (List.mem_of_getElem? (i := 27) rfl)) (by decide) (rm5_2_0 l Z a0 hw [] t y0 y1 h0 n0 sz A_t E_t) eT (by decide) (by decide) (by decide) (by decide) (by rw [hml]; rfl) pd1 rfl rfl (Nat.le_of_ble_eq_true rfl) (hb hby d7_8) (q := 11) rfl ?_
  intro v T Lc hQ X
  obtain ⟨h1, eT⟩ : ∃ z, T.heap = z := ⟨_, rfl⟩
  try rw [eT] at hQ
  obtain ⟨t2, rfl, N', K', st_t2, A_t2, E_t2⟩ := hQ
  have N := Fr.app N N'
  have sk_t2 : h0.size ≤ t2 := Nat.le_trans K.1 st_t2
  have g_t2 : n0 ≤ t2 := Nat.le_trans sz st_t2
  have ne_x0_t2 : x0 ≠ t2 := Nat.ne_of_lt (Nat.lt_of_lt_of_le F_x0_items.lt st_t2)
  have ne_t_t2 : t ≠ t2 := Nat.ne_of_lt (Nat.lt_of_lt_of_le A_t.lt st_t2)
  have F_x0_items := F_x0_items.keep K' nin0
  have F_x0_size := F_x0_size.keep K' nin0
  have A_t := A_t.keep K' nin0
  have E_t := E_t.keep K'
  have sz : n0 ≤ h1.size := Nat.le_trans sz K'.1
  have K := K.trans K' all0
  exact leafA X hx hlk hret rfl rfl (hb hby d7_11) (by decide) (by decide) (by rw [eT]; exact ⟨t2, rfl, N, K, sk_t2, A_t2⟩)
set_option maxRecDepth 65536 in
set_option maxHeartbeats 40000000 in
theorem rm7_1_2 (l : Launch) (Z : State) (a0 : Array Value) (hw : ∀ d ∈ tables_1, d.before a0 Z = true) (ws : List Jvm.Cond) (x0 : Addr) (t : Addr) (y0 y1 : Int32) (h0 : Heap) (n0 : Nat) (sz : n0 ≤ h0.size) (F_x0_items : Fld Z h0 x0 "com/example/akin/akin/engine/IntList" "items" "[I" (.ref t)) (F_x0_size : Fld Z h0 x0 "com/example/akin/akin/engine/IntList" "size" "I" (.int (1 : Int32))) (A_t : AI Z h0 t .int [y0, y1]) (E_t : Exa Z h0 t "[I") :
    Ctr l (⟨"com/example/akin/akin/engine/IntList", "toArray", "()[I"⟩ : MethodName) prog_21_method_9_code 1 (some (.array .int)) ws ({ frames := 2, cells := 1, slots := 8, locals := 80 } : Room) Z #[(.ref x0)] h0 (fun v h L => ∃ t', v = some (.ref t') ∧ Fr n0 L ∧ Keep h0 h [] ∧ h0.size ≤ t' ∧ AI Z h t' .int [y0]) 1 8 := by
  refine Ctr.mk pn_7 ?_
  intro p e s m below meth c T hx hby hml hown hnm hlk hret hZ X eT
  have N := Fr.nil n0
  refine enter (ef_7 m x0) ?_
  have K := Keep.refl h0 []
  refine s_aloadN X hx (hb hby d7_0) rfl rfl (q := 1) rfl ?_
  refine s_getF X hx hZ hown (hw _ (List.mem_of_getElem? (i := 15) rfl)) eT F_x0_items (hb hby d7_1) (q := 4) rfl ?_
  intro T X eT
  refine s_aloadN X hx (hb hby d7_4) rfl rfl (q := 5) rfl ?_
  refine s_getF X hx hZ hown (hw _ (List.mem_of_getElem? (i := 22) rfl)) eT F_x0_size (hb hby d7_5) (q := 8) rfl ?_
  intro T X eT
  refine callC X hx hZ hown (W := 0) (argsL := [(.ref t), (.int (1 : Int32))]) (rest := []) (hw _ (List.mem_of_getElem? (i := 24) rfl)) (hw _ (List.mem_of_getElem? (i := 25) rfl)) (hw _ (List.mem_of_getElem? (i := 26) rfl)) (hw _ (List.mem_of_getElem? (i := 27) rfl)) (by decide) (rm5_2_1 l Z a0 hw [] t y0 y1 h0 n0 sz A_t E_t) eT (by decide) (by decide) (by decide) (by decide) (by rw [hml]; rfl) pd1 rfl rfl (Nat.le_of_ble_eq_true rfl) (hb hby d7_8) (q := 11) rfl ?_
  intro v T Lc hQ X
  obtain ⟨h1, eT⟩ : ∃ z, T.heap = z := ⟨_, rfl⟩
  try rw [eT] at hQ
  obtain ⟨t2, rfl, N', K', st_t2, A_t2, E_t2⟩ := hQ
  have N := Fr.app N N'
  have sk_t2 : h0.size ≤ t2 := Nat.le_trans K.1 st_t2
  have g_t2 : n0 ≤ t2 := Nat.le_trans sz st_t2
  have ne_x0_t2 : x0 ≠ t2 := Nat.ne_of_lt (Nat.lt_of_lt_of_le F_x0_items.lt st_t2)
  have ne_t_t2 : t ≠ t2 := Nat.ne_of_lt (Nat.lt_of_lt_of_le A_t.lt st_t2)
  have F_x0_items := F_x0_items.keep K' nin0
  have F_x0_size := F_x0_size.keep K' nin0
  have A_t := A_t.keep K' nin0
  have E_t := E_t.keep K'
  have sz : n0 ≤ h1.size := Nat.le_trans sz K'.1
  have K := K.trans K' all0
  exact leafA X hx hlk hret rfl rfl (hb hby d7_11) (by decide) (by decide) (by rw [eT]; exact ⟨t2, rfl, N, K, sk_t2, A_t2⟩)
theorem own_m (x : Int32) : F3 ((x &&& (3 : Int32)) - (1 : Int32)) 1 = 1 ∨ F3 ((x &&& (3 : Int32)) - (1 : Int32)) 1 = 2 := by
  have h := c_and x 3 (by decide)
  have e1 : (1 : Int32).toInt = 1 := by decide
  have e2 : (2 : Int32).toInt = 2 := by decide
  have e3 : (3 : Int32).toInt = 3 := by decide
  have a := c_isub (x &&& (3 : Int32)) 1
  have b := rng32 ((x &&& (3 : Int32)) - 1)
  generalize (x &&& (3 : Int32)) - (1 : Int32) = y at *
  unfold F3
  by_cases q : y < 1
  · rw [if_pos q]; exact Or.inl rfl
  · rw [if_neg q]
    rw [Int32.lt_iff_toInt_lt] at q
    simp only [← Int32.toInt_inj]; omega
theorem own_k (x : Int32) : ((x &&& (2147483647 : Int32)) % (5 : Int32)) = 0 ∨ ((x &&& (2147483647 : Int32)) % (5 : Int32)) = 1 ∨ ((x &&& (2147483647 : Int32)) % (5 : Int32)) = 2 ∨ ((x &&& (2147483647 : Int32)) % (5 : Int32)) = 3 ∨ ((x &&& (2147483647 : Int32)) % (5 : Int32)) = 4 := by
  have h1 := c_and x 2147483647 (by decide)
  generalize x &&& (2147483647 : Int32) = y at *
  have h2 := (c_irem y 5 5 (by decide)).1 h1.1
  have hc : (y % (5 : Int32)).toInt = 0 ∨ (y % (5 : Int32)).toInt = 1 ∨ (y % (5 : Int32)).toInt = 2 ∨ (y % (5 : Int32)).toInt = 3 ∨ (y % (5 : Int32)).toInt = 4 := by omega
  rcases hc with h | h | h | h | h
  · have := own_cs (0 : Int32) (by decide) h; simp [this]
  · have := own_cs (1 : Int32) (by decide) h; simp [this]
  · have := own_cs (2 : Int32) (by decide) h; simp [this]
  · have := own_cs (3 : Int32) (by decide) h; simp [this]
  · have := own_cs (4 : Int32) (by decide) h; simp [this]
theorem pn_0 : plainFor x = true := plainFor_of_name (by first | (simp [plainName, overriddenIn]; done) | decide +kernel)
theorem ef_0 (m : MethodId) (x0 : Int32) (x1 : Int32) (x2 : Int32) (x3 : Int32) (x4 : Int32) (x5 : Int32) : entryFrame m #[(.int x0), (.int x1), (.int x2), (.int x3), (.int x4), (.int x5)] maxLocals = mkF m 0 #[.val (.int x0), .val (.int x1), .val (.int x2), .val (.int x3), .val (.int x4), .val (.int x5), .unset, .unset, .unset, .unset] [] := by first | (simp [entryFrame, mkF, argsToLocals, Value.category, maxLocals]; done) | rfl
theorem pd2 : parseMethodDescriptor "(I)V" = some ⟨[.int], none⟩ := by decide +kernel
theorem pd3 : parseMethodDescriptor "()[I" = some ⟨[], some (.array .int)⟩ := by decide +kernel
theorem pd4 : parseMethodDescriptor "(I)I" = some ⟨[.int], some .int⟩ := by decide +kernel
def Q0 (h0 : Heap) (n0 : Nat) (v : Option Value) (h : Heap) (L : List Loc) : Prop := v = some (.int 1) ∧ Fr n0 L
set_option maxRecDepth 65536 in
set_option maxHeartbeats 40000000 in
theorem rm0 (l : Launch) (Z : State) (a0 : Array Value) (hw : ∀ d ∈ tables_1, d.before a0 Z = true) (ws : List Jvm.Cond) (x0 : Int32) (x1 : Int32) (x2 : Int32) (x3 : Int32) (x4 : Int32) (x5 : Int32) (h0 : Heap) (n0 : Nat) (sz : n0 ≤ h0.size) :
    Ctr l x code maxLocals ret ws room_1 Z #[(.int x0), (.int x1), (.int x2), (.int x3), (.int x4), (.int x5)] h0 (Q0 h0 n0) 24 128 := by
  refine Ctr.mk pn_0 ?_
  intro p e s m below meth c T hx hby hml hown hnm hlk hret hZ X eT
  have N := Fr.nil n0
  refine enter (ef_0 m x0 x1 x2 x3 x4 x5) ?_
  refine s_iloadN X hx (hb hby at_0) rfl (q := 1) rfl ?_
  refine s_iconst X hx (z := (3 : Int32)) (hb hby at_1) rfl (q := 2) rfl ?_
  refine s_iand X hx (hb hby at_2) (q := 3) rfl ?_
  refine s_iconst X hx (z := (1 : Int32)) (hb hby at_3) rfl (q := 4) rfl ?_
  refine s_isub X hx (hb hby at_4) (q := 5) rfl ?_
  refine s_istore X hx (hb hby at_5) (L' := #[.val (.int x0), .val (.int x1), .val (.int x2), .val (.int x3), .val (.int x4), .val (.int x5), .val (.int ((x0 &&& (3 : Int32)) - (1 : Int32))), .unset, .unset, .unset]) rfl (q := 7) rfl ?_
  refine s_iloadN X hx (hb hby at_7) rfl (q := 8) rfl ?_
  refine s_ldc X hx hZ hown (hw _ (List.mem_of_getElem? (i := 0) rfl)) (hb hby at_8) (q := 10) rfl ?_
  refine s_iand X hx (hb hby at_10) (q := 11) rfl ?_
  refine s_iconst X hx (z := (5 : Int32)) (hb hby at_11) rfl (q := 12) rfl ?_
  refine s_irem X hx (hb hby at_12) (by decide) (q := 13) rfl ?_
  generalize hkk : ((x1 &&& (2147483647 : Int32)) % (5 : Int32)) = kk
  refine s_istore X hx (hb hby at_13) (L' := #[.val (.int x0), .val (.int x1), .val (.int x2), .val (.int x3), .val (.int x4), .val (.int x5), .val (.int ((x0 &&& (3 : Int32)) - (1 : Int32))), .val (.int kk), .unset, .unset]) rfl (q := 15) rfl ?_
  have hk5 := own_k x1
  rw [hkk] at hk5
  rcases hk5 with hcase | hcase | hcase | hcase | hcase
  · subst hcase
    refine s_new X hx hZ hown (hw _ (List.mem_of_getElem? (i := 1) rfl)) (hw _ (List.mem_of_getElem? (i := 2) rfl)) (hw _ (List.mem_of_getElem? (i := 3) rfl)) eT (by decide) (by decide) (hb hby at_15) (q := 18) rfl ?_
    intro T h2 a1 X eT E ea E_a1' Df
    have g_a1 : n0 ≤ a1 := by rw [ea]; exact sz
    have sz : n0 ≤ h2.size := Nat.le_trans sz E.1
    have E_a1 := E_a1'
    have F_a1_items : Fld Z h2 a1 "com/example/akin/akin/engine/IntList" "items" "[I" .null := Df _ _ _ (.array .int) (Or.inl (hw _ (List.mem_of_getElem? (i := 16) rfl))) (by decide)
    have F_a1_size : Fld Z h2 a1 "com/example/akin/akin/engine/IntList" "size" "I" (.int (0 : Int32)) := Df _ _ _ .int (Or.inl (hw _ (List.mem_of_getElem? (i := 23) rfl))) (by decide)
    refine s_dup X hx (hb hby at_18) rfl (q := 19) rfl ?_
    refine s_iload X hx (hb hby at_19) rfl (q := 21) rfl ?_
    rcases own_m x0 with hmax | hmax
    · refine callI X hx hZ hown (W := 1) (argsL := [(.int ((x0 &&& (3 : Int32)) - (1 : Int32)))]) (rest := [(.ref a1)]) rfl (hw _ (List.mem_of_getElem? (i := 4) rfl)) (hw _ (List.mem_of_getElem? (i := 5) rfl)) (hw _ (List.mem_of_getElem? (i := 3) rfl)) (hw _ (List.mem_of_getElem? (i := 6) rfl)) (by decide) (rm1_1 l Z a0 hw [] a1 ((x0 &&& (3 : Int32)) - (1 : Int32)) h2 n0 sz F_a1_items F_a1_size E_a1 g_a1 hmax) eT (by decide) (by decide) (by decide) (by decide) (by rw [hml]; rfl) pd2 rfl rfl (Nat.le_of_ble_eq_true rfl) (hb hby at_21) (q := 24) rfl ?_
      intro v T Lc hQ X
      obtain ⟨h3, eT⟩ : ∃ z, T.heap = z := ⟨_, rfl⟩
      try rw [eT] at hQ
      obtain ⟨rfl, N', K', t4, st_t4, F_a1_items', F_a1_size', A_t4, E_t4⟩ := hQ
      have N := Fr.app N N'
      have g_t4 : n0 ≤ t4 := Nat.le_trans sz st_t4
      have ne_a1_t4 : a1 ≠ t4 := Nat.ne_of_lt (Nat.lt_of_lt_of_le E_a1.lt st_t4)
      have E_a1 := E_a1.keep K'
      have sz : n0 ≤ h3.size := Nat.le_trans sz K'.1
      have F_a1_items := F_a1_items'
      have F_a1_size := F_a1_size'
      refine s_astore X hx (hb hby at_24) rfl (L' := #[.val (.int x0), .val (.int x1), .val (.int x2), .val (.int x3), .val (.int x4), .val (.int x5), .val (.int ((x0 &&& (3 : Int32)) - (1 : Int32))), .val (.int (0 : Int32)), .val (.ref a1), .unset]) rfl (q := 26) rfl ?_
      refine s_iload X hx (hb hby at_26) rfl (q := 28) rfl ?_
      refine f_if_le X hx (hb hby at_28) (q1 := 37) (by decide) (by decide) (q := 31) rfl (fun _ => ?_) (fun hq => absurd hq (by decide : ¬ 0 < (0 : Int32)))
      refine s_iload X hx (hb hby at_37) rfl (q := 39) rfl ?_
      refine s_iconst X hx (z := (1 : Int32)) (hb hby at_39) rfl (q := 40) rfl ?_
      refine f_icmp_le X hx (hb hby at_40) (q1 := 49) (by decide) (by decide) (q := 43) rfl (fun _ => ?_) (fun hq => absurd hq (by decide : ¬ (1 : Int32) < (0 : Int32)))
      refine s_iload X hx (hb hby at_49) rfl (q := 51) rfl ?_
      refine s_iconst X hx (z := (2 : Int32)) (hb hby at_51) rfl (q := 52) rfl ?_
      refine f_icmp_le X hx (hb hby at_52) (q1 := 62) (by decide) (by decide) (q := 55) rfl (fun _ => ?_) (fun hq => absurd hq (by decide : ¬ (2 : Int32) < (0 : Int32)))
      refine s_iload X hx (hb hby at_62) rfl (q := 64) rfl ?_
      refine s_iconst X hx (z := (3 : Int32)) (hb hby at_64) rfl (q := 65) rfl ?_
      refine f_icmp_le X hx (hb hby at_65) (q1 := 75) (by decide) (by decide) (q := 68) rfl (fun _ => ?_) (fun hq => absurd hq (by decide : ¬ (3 : Int32) < (0 : Int32)))
      refine s_aload X hx (hb hby at_75) rfl rfl (q := 77) rfl ?_
      refine callV X hx hZ hown (W := 0) (argsL := []) (rest := []) (hw _ (List.mem_of_getElem? (i := 35) rfl)) (hw _ (List.mem_of_getElem? (i := 36) rfl)) (hw _ (List.mem_of_getElem? (i := 38) rfl)) (hw _ (List.mem_of_getElem? (i := 37) rfl)) (hw _ (List.mem_of_getElem? (i := 3) rfl)) (hw _ (List.mem_of_getElem? (i := 39) rfl)) (by decide) E_a1 (rm7_0_1 l Z a0 hw [] a1 t4 0 h3 n0 sz F_a1_items F_a1_size A_t4 E_t4) eT (by decide) (by decide) (by decide) (by decide) (by rw [hml]; rfl) pd3 rfl rfl (Nat.le_of_ble_eq_true rfl) (hb hby at_77) (q := 80) rfl ?_
      intro v T Lc hQ X
      obtain ⟨h5, eT⟩ : ∃ z, T.heap = z := ⟨_, rfl⟩
      try rw [eT] at hQ
      obtain ⟨t6, rfl, N', K', st_t6, A_t6⟩ := hQ
      have N := Fr.app N N'
      have g_t6 : n0 ≤ t6 := Nat.le_trans sz st_t6
      have ne_a1_t6 : a1 ≠ t6 := Nat.ne_of_lt (Nat.lt_of_lt_of_le E_a1.lt st_t6)
      have ne_t4_t6 : t4 ≠ t6 := Nat.ne_of_lt (Nat.lt_of_lt_of_le A_t4.lt st_t6)
      have E_a1 := E_a1.keep K'
      have F_a1_items := F_a1_items.keep K' nin0
      have F_a1_size := F_a1_size.keep K' nin0
      have A_t4 := A_t4.keep K' nin0
      have E_t4 := E_t4.keep K'
      have sz : n0 ≤ h5.size := Nat.le_trans sz K'.1
      refine s_astore X hx (hb hby at_80) rfl (L' := #[.val (.int x0), .val (.int x1), .val (.int x2), .val (.int x3), .val (.int x4), .val (.int x5), .val (.int ((x0 &&& (3 : Int32)) - (1 : Int32))), .val (.int (0 : Int32)), .val (.ref a1), .val (.ref t6)]) rfl (q := 82) rfl ?_
      refine s_aload X hx (hb hby at_82) rfl rfl (q := 84) rfl ?_
      refine s_ifnullNo X hx (hb hby at_84) (q := 87) rfl ?_
      refine s_aload X hx (hb hby at_87) rfl rfl (q := 89) rfl ?_
      refine s_lenI X hx hZ eT (z := (0 : Int32)) A_t6 rfl (hb hby at_89) (q := 90) rfl ?_
      refine s_iload X hx (hb hby at_90) rfl (q := 92) rfl ?_
      refine f_icmp_eq X hx (hb hby at_92) (q1 := 97) (by decide) (by decide) (q := 95) rfl (fun _ => ?_) (fun hq => absurd (by decide : (0 : Int32) = (0 : Int32)) hq)
      refine s_iload X hx (hb hby at_97) rfl (q := 99) rfl ?_
      refine f_if_le X hx (hb hby at_99) (q1 := 112) (by decide) (by decide) (q := 102) rfl (fun _ => ?_) (fun hq => absurd hq (by decide : ¬ 0 < (0 : Int32)))
      refine s_iload X hx (hb hby at_112) rfl (q := 114) rfl ?_
      refine s_iconst X hx (z := (1 : Int32)) (hb hby at_114) rfl (q := 115) rfl ?_
      refine f_icmp_le X hx (hb hby at_115) (q1 := 128) (by decide) (by decide) (q := 118) rfl (fun _ => ?_) (fun hq => absurd hq (by decide : ¬ (1 : Int32) < (0 : Int32)))
      refine s_iload X hx (hb hby at_128) rfl (q := 130) rfl ?_
      refine s_iconst X hx (z := (2 : Int32)) (hb hby at_130) rfl (q := 131) rfl ?_
      refine f_icmp_le X hx (hb hby at_131) (q1 := 145) (by decide) (by decide) (q := 134) rfl (fun _ => ?_) (fun hq => absurd hq (by decide : ¬ (2 : Int32) < (0 : Int32)))
      refine s_iload X hx (hb hby at_145) rfl (q := 147) rfl ?_
      refine s_iconst X hx (z := (3 : Int32)) (hb hby at_147) rfl (q := 148) rfl ?_
      refine f_icmp_le X hx (hb hby at_148) (q1 := 162) (by decide) (by decide) (q := 151) rfl (fun _ => ?_) (fun hq => absurd hq (by decide : ¬ (3 : Int32) < (0 : Int32)))
      refine s_iload X hx (hb hby at_162) rfl (q := 164) rfl ?_
      refine f_if_le X hx (hb hby at_164) (q1 := 189) (by decide) (by decide) (q := 167) rfl (fun _ => ?_) (fun hq => absurd hq (by decide : ¬ 0 < (0 : Int32)))
      refine s_iconst X hx (z := (1 : Int32)) (hb hby at_189) rfl (q := 190) rfl ?_
      exact leafN X hx hlk hret (by simp) (hb hby at_190) (by decide) (by decide) (z' := 1) rfl ⟨rfl, N⟩
    · refine callI X hx hZ hown (W := 1) (argsL := [(.int ((x0 &&& (3 : Int32)) - (1 : Int32)))]) (rest := [(.ref a1)]) rfl (hw _ (List.mem_of_getElem? (i := 4) rfl)) (hw _ (List.mem_of_getElem? (i := 5) rfl)) (hw _ (List.mem_of_getElem? (i := 3) rfl)) (hw _ (List.mem_of_getElem? (i := 6) rfl)) (by decide) (rm1_2 l Z a0 hw [] a1 ((x0 &&& (3 : Int32)) - (1 : Int32)) h2 n0 sz F_a1_items F_a1_size E_a1 g_a1 hmax) eT (by decide) (by decide) (by decide) (by decide) (by rw [hml]; rfl) pd2 rfl rfl (Nat.le_of_ble_eq_true rfl) (hb hby at_21) (q := 24) rfl ?_
      intro v T Lc hQ X
      obtain ⟨h7, eT⟩ : ∃ z, T.heap = z := ⟨_, rfl⟩
      try rw [eT] at hQ
      obtain ⟨rfl, N', K', t8, st_t8, F_a1_items', F_a1_size', A_t8, E_t8⟩ := hQ
      have N := Fr.app N N'
      have g_t8 : n0 ≤ t8 := Nat.le_trans sz st_t8
      have ne_a1_t8 : a1 ≠ t8 := Nat.ne_of_lt (Nat.lt_of_lt_of_le E_a1.lt st_t8)
      have E_a1 := E_a1.keep K'
      have sz : n0 ≤ h7.size := Nat.le_trans sz K'.1
      have F_a1_items := F_a1_items'
      have F_a1_size := F_a1_size'
      refine s_astore X hx (hb hby at_24) rfl (L' := #[.val (.int x0), .val (.int x1), .val (.int x2), .val (.int x3), .val (.int x4), .val (.int x5), .val (.int ((x0 &&& (3 : Int32)) - (1 : Int32))), .val (.int (0 : Int32)), .val (.ref a1), .unset]) rfl (q := 26) rfl ?_
      refine s_iload X hx (hb hby at_26) rfl (q := 28) rfl ?_
      refine f_if_le X hx (hb hby at_28) (q1 := 37) (by decide) (by decide) (q := 31) rfl (fun _ => ?_) (fun hq => absurd hq (by decide : ¬ 0 < (0 : Int32)))
      refine s_iload X hx (hb hby at_37) rfl (q := 39) rfl ?_
      refine s_iconst X hx (z := (1 : Int32)) (hb hby at_39) rfl (q := 40) rfl ?_
      refine f_icmp_le X hx (hb hby at_40) (q1 := 49) (by decide) (by decide) (q := 43) rfl (fun _ => ?_) (fun hq => absurd hq (by decide : ¬ (1 : Int32) < (0 : Int32)))
      refine s_iload X hx (hb hby at_49) rfl (q := 51) rfl ?_
      refine s_iconst X hx (z := (2 : Int32)) (hb hby at_51) rfl (q := 52) rfl ?_
      refine f_icmp_le X hx (hb hby at_52) (q1 := 62) (by decide) (by decide) (q := 55) rfl (fun _ => ?_) (fun hq => absurd hq (by decide : ¬ (2 : Int32) < (0 : Int32)))
      refine s_iload X hx (hb hby at_62) rfl (q := 64) rfl ?_
      refine s_iconst X hx (z := (3 : Int32)) (hb hby at_64) rfl (q := 65) rfl ?_
      refine f_icmp_le X hx (hb hby at_65) (q1 := 75) (by decide) (by decide) (q := 68) rfl (fun _ => ?_) (fun hq => absurd hq (by decide : ¬ (3 : Int32) < (0 : Int32)))
      refine s_aload X hx (hb hby at_75) rfl rfl (q := 77) rfl ?_
      refine callV X hx hZ hown (W := 0) (argsL := []) (rest := []) (hw _ (List.mem_of_getElem? (i := 35) rfl)) (hw _ (List.mem_of_getElem? (i := 36) rfl)) (hw _ (List.mem_of_getElem? (i := 38) rfl)) (hw _ (List.mem_of_getElem? (i := 37) rfl)) (hw _ (List.mem_of_getElem? (i := 3) rfl)) (hw _ (List.mem_of_getElem? (i := 39) rfl)) (by decide) E_a1 (rm7_0_2 l Z a0 hw [] a1 t8 0 0 h7 n0 sz F_a1_items F_a1_size A_t8 E_t8) eT (by decide) (by decide) (by decide) (by decide) (by rw [hml]; rfl) pd3 rfl rfl (Nat.le_of_ble_eq_true rfl) (hb hby at_77) (q := 80) rfl ?_
      intro v T Lc hQ X
      obtain ⟨h9, eT⟩ : ∃ z, T.heap = z := ⟨_, rfl⟩
      try rw [eT] at hQ
      obtain ⟨t10, rfl, N', K', st_t10, A_t10⟩ := hQ
      have N := Fr.app N N'
      have g_t10 : n0 ≤ t10 := Nat.le_trans sz st_t10
      have ne_a1_t10 : a1 ≠ t10 := Nat.ne_of_lt (Nat.lt_of_lt_of_le E_a1.lt st_t10)
      have ne_t8_t10 : t8 ≠ t10 := Nat.ne_of_lt (Nat.lt_of_lt_of_le A_t8.lt st_t10)
      have E_a1 := E_a1.keep K'
      have F_a1_items := F_a1_items.keep K' nin0
      have F_a1_size := F_a1_size.keep K' nin0
      have A_t8 := A_t8.keep K' nin0
      have E_t8 := E_t8.keep K'
      have sz : n0 ≤ h9.size := Nat.le_trans sz K'.1
      refine s_astore X hx (hb hby at_80) rfl (L' := #[.val (.int x0), .val (.int x1), .val (.int x2), .val (.int x3), .val (.int x4), .val (.int x5), .val (.int ((x0 &&& (3 : Int32)) - (1 : Int32))), .val (.int (0 : Int32)), .val (.ref a1), .val (.ref t10)]) rfl (q := 82) rfl ?_
      refine s_aload X hx (hb hby at_82) rfl rfl (q := 84) rfl ?_
      refine s_ifnullNo X hx (hb hby at_84) (q := 87) rfl ?_
      refine s_aload X hx (hb hby at_87) rfl rfl (q := 89) rfl ?_
      refine s_lenI X hx hZ eT (z := (0 : Int32)) A_t10 rfl (hb hby at_89) (q := 90) rfl ?_
      refine s_iload X hx (hb hby at_90) rfl (q := 92) rfl ?_
      refine f_icmp_eq X hx (hb hby at_92) (q1 := 97) (by decide) (by decide) (q := 95) rfl (fun _ => ?_) (fun hq => absurd (by decide : (0 : Int32) = (0 : Int32)) hq)
      refine s_iload X hx (hb hby at_97) rfl (q := 99) rfl ?_
      refine f_if_le X hx (hb hby at_99) (q1 := 112) (by decide) (by decide) (q := 102) rfl (fun _ => ?_) (fun hq => absurd hq (by decide : ¬ 0 < (0 : Int32)))
      refine s_iload X hx (hb hby at_112) rfl (q := 114) rfl ?_
      refine s_iconst X hx (z := (1 : Int32)) (hb hby at_114) rfl (q := 115) rfl ?_
      refine f_icmp_le X hx (hb hby at_115) (q1 := 128) (by decide) (by decide) (q := 118) rfl (fun _ => ?_) (fun hq => absurd hq (by decide : ¬ (1 : Int32) < (0 : Int32)))
      refine s_iload X hx (hb hby at_128) rfl (q := 130) rfl ?_
      refine s_iconst X hx (z := (2 : Int32)) (hb hby at_130) rfl (q := 131) rfl ?_
      refine f_icmp_le X hx (hb hby at_131) (q1 := 145) (by decide) (by decide) (q := 134) rfl (fun _ => ?_) (fun hq => absurd hq (by decide : ¬ (2 : Int32) < (0 : Int32)))
      refine s_iload X hx (hb hby at_145) rfl (q := 147) rfl ?_
      refine s_iconst X hx (z := (3 : Int32)) (hb hby at_147) rfl (q := 148) rfl ?_
      refine f_icmp_le X hx (hb hby at_148) (q1 := 162) (by decide) (by decide) (q := 151) rfl (fun _ => ?_) (fun hq => absurd hq (by decide : ¬ (3 : Int32) < (0 : Int32)))
      refine s_iload X hx (hb hby at_162) rfl (q := 164) rfl ?_
      refine f_if_le X hx (hb hby at_164) (q1 := 189) (by decide) (by decide) (q := 167) rfl (fun _ => ?_) (fun hq => absurd hq (by decide : ¬ 0 < (0 : Int32)))
      refine s_iconst X hx (z := (1 : Int32)) (hb hby at_189) rfl (q := 190) rfl ?_
      exact leafN X hx hlk hret (by simp) (hb hby at_190) (by decide) (by decide) (z' := 1) rfl ⟨rfl, N⟩
  · subst hcase
    refine s_new X hx hZ hown (hw _ (List.mem_of_getElem? (i := 1) rfl)) (hw _ (List.mem_of_getElem? (i := 2) rfl)) (hw _ (List.mem_of_getElem? (i := 3) rfl)) eT (by decide) (by decide) (hb hby at_15) (q := 18) rfl ?_
    intro T h12 a11 X eT E ea E_a11' Df
    have g_a11 : n0 ≤ a11 := by rw [ea]; exact sz
    have sz : n0 ≤ h12.size := Nat.le_trans sz E.1
    have E_a11 := E_a11'
    have F_a11_items : Fld Z h12 a11 "com/example/akin/akin/engine/IntList" "items" "[I" .null := Df _ _ _ (.array .int) (Or.inl (hw _ (List.mem_of_getElem? (i := 16) rfl))) (by decide)
    have F_a11_size : Fld Z h12 a11 "com/example/akin/akin/engine/IntList" "size" "I" (.int (0 : Int32)) := Df _ _ _ .int (Or.inl (hw _ (List.mem_of_getElem? (i := 23) rfl))) (by decide)
    refine s_dup X hx (hb hby at_18) rfl (q := 19) rfl ?_
    refine s_iload X hx (hb hby at_19) rfl (q := 21) rfl ?_
    rcases own_m x0 with hmax | hmax
    · refine callI X hx hZ hown (W := 1) (argsL := [(.int ((x0 &&& (3 : Int32)) - (1 : Int32)))]) (rest := [(.ref a11)]) rfl (hw _ (List.mem_of_getElem? (i := 4) rfl)) (hw _ (List.mem_of_getElem? (i := 5) rfl)) (hw _ (List.mem_of_getElem? (i := 3) rfl)) (hw _ (List.mem_of_getElem? (i := 6) rfl)) (by decide) (rm1_1 l Z a0 hw [] a11 ((x0 &&& (3 : Int32)) - (1 : Int32)) h12 n0 sz F_a11_items F_a11_size E_a11 g_a11 hmax) eT (by decide) (by decide) (by decide) (by decide) (by rw [hml]; rfl) pd2 rfl rfl (Nat.le_of_ble_eq_true rfl) (hb hby at_21) (q := 24) rfl ?_
      intro v T Lc hQ X
      obtain ⟨h13, eT⟩ : ∃ z, T.heap = z := ⟨_, rfl⟩
      try rw [eT] at hQ
      obtain ⟨rfl, N', K', t14, st_t14, F_a11_items', F_a11_size', A_t14, E_t14⟩ := hQ
      have N := Fr.app N N'
      have g_t14 : n0 ≤ t14 := Nat.le_trans sz st_t14
      have ne_a11_t14 : a11 ≠ t14 := Nat.ne_of_lt (Nat.lt_of_lt_of_le E_a11.lt st_t14)
      have E_a11 := E_a11.keep K'
      have sz : n0 ≤ h13.size := Nat.le_trans sz K'.1
      have F_a11_items := F_a11_items'
      have F_a11_size := F_a11_size'
      refine s_astore X hx (hb hby at_24) rfl (L' := #[.val (.int x0), .val (.int x1), .val (.int x2), .val (.int x3), .val (.int x4), .val (.int x5), .val (.int ((x0 &&& (3 : Int32)) - (1 : Int32))), .val (.int (1 : Int32)), .val (.ref a11), .unset]) rfl (q := 26) rfl ?_
      refine s_iload X hx (hb hby at_26) rfl (q := 28) rfl ?_
      refine f_if_le X hx (hb hby at_28) (q1 := 37) (by decide) (by decide) (q := 31) rfl (fun hq => absurd (by decide : 0 < (1 : Int32)) hq) (fun _ => ?_)
      refine s_aload X hx (hb hby at_31) rfl rfl (q := 33) rfl ?_
      refine s_iloadN X hx (hb hby at_33) rfl (q := 34) rfl ?_
      refine callV X hx hZ hown (W := 0) (argsL := [(.int x2)]) (rest := []) (hw _ (List.mem_of_getElem? (i := 17) rfl)) (hw _ (List.mem_of_getElem? (i := 18) rfl)) (hw _ (List.mem_of_getElem? (i := 20) rfl)) (hw _ (List.mem_of_getElem? (i := 19) rfl)) (hw _ (List.mem_of_getElem? (i := 3) rfl)) (hw _ (List.mem_of_getElem? (i := 21) rfl)) (by decide) E_a11 (rm4_0_1 l Z a0 hw [] a11 x2 t14 0 h13 n0 sz F_a11_items F_a11_size E_a11 A_t14 E_t14 g_a11 g_t14 ne_a11_t14) eT (by decide) (by decide) (by decide) (by decide) (by rw [hml]; rfl) pd2 rfl rfl (Nat.le_of_ble_eq_true rfl) (hb hby at_34) (q := 37) rfl ?_
      intro v T Lc hQ X
      obtain ⟨h15, eT⟩ : ∃ z, T.heap = z := ⟨_, rfl⟩
      try rw [eT] at hQ
      obtain ⟨rfl, N', K', t16, st_t16, F_a11_items', F_a11_size', A_t16, E_t16⟩ := hQ
      have N := Fr.app N N'
      have g_t16 : n0 ≤ t16 := st_t16.elim (fun q => q ▸ g_t14) (fun q => Nat.le_trans sz q)
      have ne_a11_t16 : a11 ≠ t16 := st_t16.elim (fun q => q ▸ ne_a11_t14) (fun q => Nat.ne_of_lt (Nat.lt_of_lt_of_le E_a11.lt q))
      have E_a11 := E_a11.keep K'
      have sz : n0 ≤ h15.size := Nat.le_trans sz K'.1
      have F_a11_items := F_a11_items'
      have F_a11_size := F_a11_size'
      refine s_iload X hx (hb hby at_37) rfl (q := 39) rfl ?_
      refine s_iconst X hx (z := (1 : Int32)) (hb hby at_39) rfl (q := 40) rfl ?_
      refine f_icmp_le X hx (hb hby at_40) (q1 := 49) (by decide) (by decide) (q := 43) rfl (fun _ => ?_) (fun hq => absurd hq (by decide : ¬ (1 : Int32) < (1 : Int32)))
      refine s_iload X hx (hb hby at_49) rfl (q := 51) rfl ?_
      refine s_iconst X hx (z := (2 : Int32)) (hb hby at_51) rfl (q := 52) rfl ?_
      refine f_icmp_le X hx (hb hby at_52) (q1 := 62) (by decide) (by decide) (q := 55) rfl (fun _ => ?_) (fun hq => absurd hq (by decide : ¬ (2 : Int32) < (1 : Int32)))
      refine s_iload X hx (hb hby at_62) rfl (q := 64) rfl ?_
      refine s_iconst X hx (z := (3 : Int32)) (hb hby at_64) rfl (q := 65) rfl ?_
      refine f_icmp_le X hx (hb hby at_65) (q1 := 75) (by decide) (by decide) (q := 68) rfl (fun _ => ?_) (fun hq => absurd hq (by decide : ¬ (3 : Int32) < (1 : Int32)))
      refine s_aload X hx (hb hby at_75) rfl rfl (q := 77) rfl ?_
      refine callV X hx hZ hown (W := 0) (argsL := []) (rest := []) (hw _ (List.mem_of_getElem? (i := 35) rfl)) (hw _ (List.mem_of_getElem? (i := 36) rfl)) (hw _ (List.mem_of_getElem? (i := 38) rfl)) (hw _ (List.mem_of_getElem? (i := 37) rfl)) (hw _ (List.mem_of_getElem? (i := 3) rfl)) (hw _ (List.mem_of_getElem? (i := 39) rfl)) (by decide) E_a11 (rm7_1_1 l Z a0 hw [] a11 t16 x2 h15 n0 sz F_a11_items F_a11_size A_t16 E_t16) eT (by decide) (by decide) (by decide) (by decide) (by rw [hml]; rfl) pd3 rfl rfl (Nat.le_of_ble_eq_true rfl) (hb hby at_77) (q := 80) rfl ?_
      intro v T Lc hQ X
      obtain ⟨h17, eT⟩ : ∃ z, T.heap = z := ⟨_, rfl⟩
      try rw [eT] at hQ
      obtain ⟨t18, rfl, N', K', st_t18, A_t18⟩ := hQ
      have N := Fr.app N N'
      have g_t18 : n0 ≤ t18 := Nat.le_trans sz st_t18
      have ne_a11_t18 : a11 ≠ t18 := Nat.ne_of_lt (Nat.lt_of_lt_of_le E_a11.lt st_t18)
      have ne_t16_t18 : t16 ≠ t18 := Nat.ne_of_lt (Nat.lt_of_lt_of_le A_t16.lt st_t18)
      have E_a11 := E_a11.keep K'
      have F_a11_items := F_a11_items.keep K' nin0
      have F_a11_size := F_a11_size.keep K' nin0
      have A_t16 := A_t16.keep K' nin0
      have E_t16 := E_t16.keep K'
      have sz : n0 ≤ h17.size := Nat.le_trans sz K'.1
      refine s_astore X hx (hb hby at_80) rfl (L' := #[.val (.int x0), .val (.int x1), .val (.int x2), .val (.int x3), .val (.int x4), .val (.int x5), .val (.int ((x0 &&& (3 : Int32)) - (1 : Int32))), .val (.int (1 : Int32)), .val (.ref a11), .val (.ref t18)]) rfl (q := 82) rfl ?_
      refine s_aload X hx (hb hby at_82) rfl rfl (q := 84) rfl ?_
      refine s_ifnullNo X hx (hb hby at_84) (q := 87) rfl ?_
      refine s_aload X hx (hb hby at_87) rfl rfl (q := 89) rfl ?_
      refine s_lenI X hx hZ eT (z := (1 : Int32)) A_t18 rfl (hb hby at_89) (q := 90) rfl ?_
      refine s_iload X hx (hb hby at_90) rfl (q := 92) rfl ?_
      refine f_icmp_eq X hx (hb hby at_92) (q1 := 97) (by decide) (by decide) (q := 95) rfl (fun _ => ?_) (fun hq => absurd (by decide : (1 : Int32) = (1 : Int32)) hq)
      refine s_iload X hx (hb hby at_97) rfl (q := 99) rfl ?_
      refine f_if_le X hx (hb hby at_99) (q1 := 112) (by decide) (by decide) (q := 102) rfl (fun hq => absurd (by decide : 0 < (1 : Int32)) hq) (fun _ => ?_)
      refine s_aload X hx (hb hby at_102) rfl rfl (q := 104) rfl ?_
      refine s_iconst X hx (z := (0 : Int32)) (hb hby at_104) rfl (q := 105) rfl ?_
      refine s_iaload X hx hZ eT A_t18 (by decide) (i := 0) rfl (x := x2) rfl (hb hby at_105) (q := 106) rfl ?_
      refine s_iloadN X hx (hb hby at_106) rfl (q := 107) rfl ?_
      refine f_icmp_eq X hx (hb hby at_107) (q1 := 112) (by decide) (by decide) (q := 110) rfl (fun _ => ?_) (fun hq => absurd (rfl : x2 = x2) hq)
      refine s_iload X hx (hb hby at_112) rfl (q := 114) rfl ?_
      refine s_iconst X hx (z := (1 : Int32)) (hb hby at_114) rfl (q := 115) rfl ?_
      refine f_icmp_le X hx (hb hby at_115) (q1 := 128) (by decide) (by decide) (q := 118) rfl (fun _ => ?_) (fun hq => absurd hq (by decide : ¬ (1 : Int32) < (1 : Int32)))
      refine s_iload X hx (hb hby at_128) rfl (q := 130) rfl ?_
      refine s_iconst X hx (z := (2 : Int32)) (hb hby at_130) rfl (q := 131) rfl ?_
      refine f_icmp_le X hx (hb hby at_131) (q1 := 145) (by decide) (by decide) (q := 134) rfl (fun _ => ?_) (fun hq => absurd hq (by decide : ¬ (2 : Int32) < (1 : Int32)))
      refine s_iload X hx (hb hby at_145) rfl (q := 147) rfl ?_
      refine s_iconst X hx (z := (3 : Int32)) (hb hby at_147) rfl (q := 148) rfl ?_
      refine f_icmp_le X hx (hb hby at_148) (q1 := 162) (by decide) (by decide) (q := 151) rfl (fun _ => ?_) (fun hq => absurd hq (by decide : ¬ (3 : Int32) < (1 : Int32)))
      refine s_iload X hx (hb hby at_162) rfl (q := 164) rfl ?_
      refine f_if_le X hx (hb hby at_164) (q1 := 189) (by decide) (by decide) (q := 167) rfl (fun hq => absurd (by decide : 0 < (1 : Int32)) hq) (fun _ => ?_)
      refine s_aload X hx (hb hby at_167) rfl rfl (q := 169) rfl ?_
      refine s_iconst X hx (z := (0 : Int32)) (hb hby at_169) rfl (q := 170) rfl ?_
      refine s_aload X hx (hb hby at_170) rfl rfl (q := 172) rfl ?_
      refine s_iconst X hx (z := (0 : Int32)) (hb hby at_172) rfl (q := 173) rfl ?_
      refine s_iaload X hx hZ eT A_t18 (by decide) (i := 0) rfl (x := x2) rfl (hb hby at_173) (q := 174) rfl ?_
      refine s_iconst X hx (z := (-1 : Int32)) (hb hby at_174) rfl (q := 175) rfl ?_
      refine s_ixor X hx (hb hby at_175) (q := 176) rfl ?_
      refine s_iastore X hx hZ eT A_t18 N g_t18 (by decide) (i := 0) rfl (Nat.le_of_ble_eq_true rfl) (ys := [(x2 ^^^ (-1 : Int32))]) rfl (hb hby at_176) (q := 177) rfl ?_
      intro T h19 _ X N eT W A_t18'
      have E_a11 := E_a11.wr W
      have F_a11_items := F_a11_items.other W (Or.inl ne_a11_t18)
      have F_a11_size := F_a11_size.other W (Or.inl ne_a11_t18)
      have A_t16 := A_t16.other W ne_t16_t18
      have E_t16 := E_t16.wr W
      have sz : n0 ≤ h19.size := by rw [W.size]; exact sz
      have A_t18 := A_t18'
      refine s_aload X hx (hb hby at_177) rfl rfl (q := 179) rfl ?_
      refine s_iconst X hx (z := (0 : Int32)) (hb hby at_179) rfl (q := 180) rfl ?_
      refine callV X hx hZ hown (W := 0) (argsL := [(.int (0 : Int32))]) (rest := []) (hw _ (List.mem_of_getElem? (i := 49) rfl)) (hw _ (List.mem_of_getElem? (i := 50) rfl)) (hw _ (List.mem_of_getElem? (i := 52) rfl)) (hw _ (List.mem_of_getElem? (i := 51) rfl)) (hw _ (List.mem_of_getElem? (i := 3) rfl)) (hw _ (List.mem_of_getElem? (i := 53) rfl)) (by decide) E_a11 (rm8 l Z a0 hw [] a11 (0 : Int32) t16 (1 : Int32) ([x2]) x2 h19 n0 sz F_a11_items F_a11_size A_t16 (by decide) (by decide) rfl) eT (by decide) (by decide) (by decide) (by decide) (by rw [hml]; rfl) pd4 rfl rfl (Nat.le_of_ble_eq_true rfl) (hb hby at_180) (q := 183) rfl ?_
      intro v T Lc hQ X
      obtain ⟨rfl, eT, N'⟩ := hQ
      have N := Fr.app N N'
      refine s_iloadN X hx (hb hby at_183) rfl (q := 184) rfl ?_
      refine f_icmp_eq X hx (hb hby at_184) (q1 := 189) (by decide) (by decide) (q := 187) rfl (fun _ => ?_) (fun hq => absurd (rfl : x2 = x2) hq)
      refine s_iconst X hx (z := (1 : Int32)) (hb hby at_189) rfl (q := 190) rfl ?_
      exact leafN X hx hlk hret (by simp) (hb hby at_190) (by decide) (by decide) (z' := 1) rfl ⟨rfl, N⟩
    · refine callI X hx hZ hown (W := 1) (argsL := [(.int ((x0 &&& (3 : Int32)) - (1 : Int32)))]) (rest := [(.ref a11)]) rfl (hw _ (List.mem_of_getElem? (i := 4) rfl)) (hw _ (List.mem_of_getElem? (i := 5) rfl)) (hw _ (List.mem_of_getElem? (i := 3) rfl)) (hw _ (List.mem_of_getElem? (i := 6) rfl)) (by decide) (rm1_2 l Z a0 hw [] a11 ((x0 &&& (3 : Int32)) - (1 : Int32)) h12 n0 sz F_a11_items F_a11_size E_a11 g_a11 hmax) eT (by decide) (by decide) (by decide) (by decide) (by rw [hml]; rfl) pd2 rfl rfl (Nat.le_of_ble_eq_true rfl) (hb hby at_21) (q := 24) rfl ?_
      intro v T Lc hQ X
      obtain ⟨h20, eT⟩ : ∃ z, T.heap = z := ⟨_, rfl⟩
      try rw [eT] at hQ
      obtain ⟨rfl, N', K', t21, st_t21, F_a11_items', F_a11_size', A_t21, E_t21⟩ := hQ
      have N := Fr.app N N'
      have g_t21 : n0 ≤ t21 := Nat.le_trans sz st_t21
      have ne_a11_t21 : a11 ≠ t21 := Nat.ne_of_lt (Nat.lt_of_lt_of_le E_a11.lt st_t21)
      have E_a11 := E_a11.keep K'
      have sz : n0 ≤ h20.size := Nat.le_trans sz K'.1
      have F_a11_items := F_a11_items'
      have F_a11_size := F_a11_size'
      refine s_astore X hx (hb hby at_24) rfl (L' := #[.val (.int x0), .val (.int x1), .val (.int x2), .val (.int x3), .val (.int x4), .val (.int x5), .val (.int ((x0 &&& (3 : Int32)) - (1 : Int32))), .val (.int (1 : Int32)), .val (.ref a11), .unset]) rfl (q := 26) rfl ?_
      refine s_iload X hx (hb hby at_26) rfl (q := 28) rfl ?_
      refine f_if_le X hx (hb hby at_28) (q1 := 37) (by decide) (by decide) (q := 31) rfl (fun hq => absurd (by decide : 0 < (1 : Int32)) hq) (fun _ => ?_)
      refine s_aload X hx (hb hby at_31) rfl rfl (q := 33) rfl ?_
      refine s_iloadN X hx (hb hby at_33) rfl (q := 34) rfl ?_
      refine callV X hx hZ hown (W := 0) (argsL := [(.int x2)]) (rest := []) (hw _ (List.mem_of_getElem? (i := 17) rfl)) (hw _ (List.mem_of_getElem? (i := 18) rfl)) (hw _ (List.mem_of_getElem? (i := 20) rfl)) (hw _ (List.mem_of_getElem? (i := 19) rfl)) (hw _ (List.mem_of_getElem? (i := 3) rfl)) (hw _ (List.mem_of_getElem? (i := 21) rfl)) (by decide) E_a11 (rm4_0_2 l Z a0 hw [] a11 x2 t21 0 0 h20 n0 sz F_a11_items F_a11_size E_a11 A_t21 E_t21 g_a11 g_t21 ne_a11_t21) eT (by decide) (by decide) (by decide) (by decide) (by rw [hml]; rfl) pd2 rfl rfl (Nat.le_of_ble_eq_true rfl) (hb hby at_34) (q := 37) rfl ?_
      intro v T Lc hQ X
      obtain ⟨h22, eT⟩ : ∃ z, T.heap = z := ⟨_, rfl⟩
      try rw [eT] at hQ
      obtain ⟨rfl, N', K', t23, st_t23, F_a11_items', F_a11_size', A_t23, E_t23⟩ := hQ
      have N := Fr.app N N'
      have g_t23 : n0 ≤ t23 := st_t23.elim (fun q => q ▸ g_t21) (fun q => Nat.le_trans sz q)
      have ne_a11_t23 : a11 ≠ t23 := st_t23.elim (fun q => q ▸ ne_a11_t21) (fun q => Nat.ne_of_lt (Nat.lt_of_lt_of_le E_a11.lt q))
      have E_a11 := E_a11.keep K'
      have sz : n0 ≤ h22.size := Nat.le_trans sz K'.1
      have F_a11_items := F_a11_items'
      have F_a11_size := F_a11_size'
      refine s_iload X hx (hb hby at_37) rfl (q := 39) rfl ?_
      refine s_iconst X hx (z := (1 : Int32)) (hb hby at_39) rfl (q := 40) rfl ?_
      refine f_icmp_le X hx (hb hby at_40) (q1 := 49) (by decide) (by decide) (q := 43) rfl (fun _ => ?_) (fun hq => absurd hq (by decide : ¬ (1 : Int32) < (1 : Int32)))
      refine s_iload X hx (hb hby at_49) rfl (q := 51) rfl ?_
      refine s_iconst X hx (z := (2 : Int32)) (hb hby at_51) rfl (q := 52) rfl ?_
      refine f_icmp_le X hx (hb hby at_52) (q1 := 62) (by decide) (by decide) (q := 55) rfl (fun _ => ?_) (fun hq => absurd hq (by decide : ¬ (2 : Int32) < (1 : Int32)))
      refine s_iload X hx (hb hby at_62) rfl (q := 64) rfl ?_
      refine s_iconst X hx (z := (3 : Int32)) (hb hby at_64) rfl (q := 65) rfl ?_
      refine f_icmp_le X hx (hb hby at_65) (q1 := 75) (by decide) (by decide) (q := 68) rfl (fun _ => ?_) (fun hq => absurd hq (by decide : ¬ (3 : Int32) < (1 : Int32)))
      refine s_aload X hx (hb hby at_75) rfl rfl (q := 77) rfl ?_
      refine callV X hx hZ hown (W := 0) (argsL := []) (rest := []) (hw _ (List.mem_of_getElem? (i := 35) rfl)) (hw _ (List.mem_of_getElem? (i := 36) rfl)) (hw _ (List.mem_of_getElem? (i := 38) rfl)) (hw _ (List.mem_of_getElem? (i := 37) rfl)) (hw _ (List.mem_of_getElem? (i := 3) rfl)) (hw _ (List.mem_of_getElem? (i := 39) rfl)) (by decide) E_a11 (rm7_1_2 l Z a0 hw [] a11 t23 x2 0 h22 n0 sz F_a11_items F_a11_size A_t23 E_t23) eT (by decide) (by decide) (by decide) (by decide) (by rw [hml]; rfl) pd3 rfl rfl (Nat.le_of_ble_eq_true rfl) (hb hby at_77) (q := 80) rfl ?_
      intro v T Lc hQ X
      obtain ⟨h24, eT⟩ : ∃ z, T.heap = z := ⟨_, rfl⟩
      try rw [eT] at hQ
      obtain ⟨t25, rfl, N', K', st_t25, A_t25⟩ := hQ
      have N := Fr.app N N'
      have g_t25 : n0 ≤ t25 := Nat.le_trans sz st_t25
      have ne_a11_t25 : a11 ≠ t25 := Nat.ne_of_lt (Nat.lt_of_lt_of_le E_a11.lt st_t25)
      have ne_t23_t25 : t23 ≠ t25 := Nat.ne_of_lt (Nat.lt_of_lt_of_le A_t23.lt st_t25)
      have E_a11 := E_a11.keep K'
      have F_a11_items := F_a11_items.keep K' nin0
      have F_a11_size := F_a11_size.keep K' nin0
      have A_t23 := A_t23.keep K' nin0
      have E_t23 := E_t23.keep K'
      have sz : n0 ≤ h24.size := Nat.le_trans sz K'.1
      refine s_astore X hx (hb hby at_80) rfl (L' := #[.val (.int x0), .val (.int x1), .val (.int x2), .val (.int x3), .val (.int x4), .val (.int x5), .val (.int ((x0 &&& (3 : Int32)) - (1 : Int32))), .val (.int (1 : Int32)), .val (.ref a11), .val (.ref t25)]) rfl (q := 82) rfl ?_
      refine s_aload X hx (hb hby at_82) rfl rfl (q := 84) rfl ?_
      refine s_ifnullNo X hx (hb hby at_84) (q := 87) rfl ?_
      refine s_aload X hx (hb hby at_87) rfl rfl (q := 89) rfl ?_
      refine s_lenI X hx hZ eT (z := (1 : Int32)) A_t25 rfl (hb hby at_89) (q := 90) rfl ?_
      refine s_iload X hx (hb hby at_90) rfl (q := 92) rfl ?_
      refine f_icmp_eq X hx (hb hby at_92) (q1 := 97) (by decide) (by decide) (q := 95) rfl (fun _ => ?_) (fun hq => absurd (by decide : (1 : Int32) = (1 : Int32)) hq)
      refine s_iload X hx (hb hby at_97) rfl (q := 99) rfl ?_
      refine f_if_le X hx (hb hby at_99) (q1 := 112) (by decide) (by decide) (q := 102) rfl (fun hq => absurd (by decide : 0 < (1 : Int32)) hq) (fun _ => ?_)
      refine s_aload X hx (hb hby at_102) rfl rfl (q := 104) rfl ?_
      refine s_iconst X hx (z := (0 : Int32)) (hb hby at_104) rfl (q := 105) rfl ?_
      refine s_iaload X hx hZ eT A_t25 (by decide) (i := 0) rfl (x := x2) rfl (hb hby at_105) (q := 106) rfl ?_
      refine s_iloadN X hx (hb hby at_106) rfl (q := 107) rfl ?_
      refine f_icmp_eq X hx (hb hby at_107) (q1 := 112) (by decide) (by decide) (q := 110) rfl (fun _ => ?_) (fun hq => absurd (rfl : x2 = x2) hq)
      refine s_iload X hx (hb hby at_112) rfl (q := 114) rfl ?_
      refine s_iconst X hx (z := (1 : Int32)) (hb hby at_114) rfl (q := 115) rfl ?_
      refine f_icmp_le X hx (hb hby at_115) (q1 := 128) (by decide) (by decide) (q := 118) rfl (fun _ => ?_) (fun hq => absurd hq (by decide : ¬ (1 : Int32) < (1 : Int32)))
      refine s_iload X hx (hb hby at_128) rfl (q := 130) rfl ?_
      refine s_iconst X hx (z := (2 : Int32)) (hb hby at_130) rfl (q := 131) rfl ?_
      refine f_icmp_le X hx (hb hby at_131) (q1 := 145) (by decide) (by decide) (q := 134) rfl (fun _ => ?_) (fun hq => absurd hq (by decide : ¬ (2 : Int32) < (1 : Int32)))
      refine s_iload X hx (hb hby at_145) rfl (q := 147) rfl ?_
      refine s_iconst X hx (z := (3 : Int32)) (hb hby at_147) rfl (q := 148) rfl ?_
      refine f_icmp_le X hx (hb hby at_148) (q1 := 162) (by decide) (by decide) (q := 151) rfl (fun _ => ?_) (fun hq => absurd hq (by decide : ¬ (3 : Int32) < (1 : Int32)))
      refine s_iload X hx (hb hby at_162) rfl (q := 164) rfl ?_
      refine f_if_le X hx (hb hby at_164) (q1 := 189) (by decide) (by decide) (q := 167) rfl (fun hq => absurd (by decide : 0 < (1 : Int32)) hq) (fun _ => ?_)
      refine s_aload X hx (hb hby at_167) rfl rfl (q := 169) rfl ?_
      refine s_iconst X hx (z := (0 : Int32)) (hb hby at_169) rfl (q := 170) rfl ?_
      refine s_aload X hx (hb hby at_170) rfl rfl (q := 172) rfl ?_
      refine s_iconst X hx (z := (0 : Int32)) (hb hby at_172) rfl (q := 173) rfl ?_
      refine s_iaload X hx hZ eT A_t25 (by decide) (i := 0) rfl (x := x2) rfl (hb hby at_173) (q := 174) rfl ?_
      refine s_iconst X hx (z := (-1 : Int32)) (hb hby at_174) rfl (q := 175) rfl ?_
      refine s_ixor X hx (hb hby at_175) (q := 176) rfl ?_
      refine s_iastore X hx hZ eT A_t25 N g_t25 (by decide) (i := 0) rfl (Nat.le_of_ble_eq_true rfl) (ys := [(x2 ^^^ (-1 : Int32))]) rfl (hb hby at_176) (q := 177) rfl ?_
      intro T h26 _ X N eT W A_t25'
      have E_a11 := E_a11.wr W
      have F_a11_items := F_a11_items.other W (Or.inl ne_a11_t25)
      have F_a11_size := F_a11_size.other W (Or.inl ne_a11_t25)
      have A_t23 := A_t23.other W ne_t23_t25
      have E_t23 := E_t23.wr W
      have sz : n0 ≤ h26.size := by rw [W.size]; exact sz
      have A_t25 := A_t25'
      refine s_aload X hx (hb hby at_177) rfl rfl (q := 179) rfl ?_
      refine s_iconst X hx (z := (0 : Int32)) (hb hby at_179) rfl (q := 180) rfl ?_
      refine callV X hx hZ hown (W := 0) (argsL := [(.int (0 : Int32))]) (rest := []) (hw _ (List.mem_of_getElem? (i := 49) rfl)) (hw _ (List.mem_of_getElem? (i := 50) rfl)) (hw _ (List.mem_of_getElem? (i := 52) rfl)) (hw _ (List.mem_of_getElem? (i := 51) rfl)) (hw _ (List.mem_of_getElem? (i := 3) rfl)) (hw _ (List.mem_of_getElem? (i := 53) rfl)) (by decide) E_a11 (rm8 l Z a0 hw [] a11 (0 : Int32) t23 (1 : Int32) ([x2, 0]) x2 h26 n0 sz F_a11_items F_a11_size A_t23 (by decide) (by decide) rfl) eT (by decide) (by decide) (by decide) (by decide) (by rw [hml]; rfl) pd4 rfl rfl (Nat.le_of_ble_eq_true rfl) (hb hby at_180) (q := 183) rfl ?_
      intro v T Lc hQ X
      obtain ⟨rfl, eT, N'⟩ := hQ
      have N := Fr.app N N'
      refine s_iloadN X hx (hb hby at_183) rfl (q := 184) rfl ?_
      refine f_icmp_eq X hx (hb hby at_184) (q1 := 189) (by decide) (by decide) (q := 187) rfl (fun _ => ?_) (fun hq => absurd (rfl : x2 = x2) hq)
      refine s_iconst X hx (z := (1 : Int32)) (hb hby at_189) rfl (q := 190) rfl ?_
      exact leafN X hx hlk hret (by simp) (hb hby at_190) (by decide) (by decide) (z' := 1) rfl ⟨rfl, N⟩
  · subst hcase
    refine s_new X hx hZ hown (hw _ (List.mem_of_getElem? (i := 1) rfl)) (hw _ (List.mem_of_getElem? (i := 2) rfl)) (hw _ (List.mem_of_getElem? (i := 3) rfl)) eT (by decide) (by decide) (hb hby at_15) (q := 18) rfl ?_
    intro T h28 a27 X eT E ea E_a27' Df
    have g_a27 : n0 ≤ a27 := by rw [ea]; exact sz
    have sz : n0 ≤ h28.size := Nat.le_trans sz E.1
    have E_a27 := E_a27'
    have F_a27_items : Fld Z h28 a27 "com/example/akin/akin/engine/IntList" "items" "[I" .null := Df _ _ _ (.array .int) (Or.inl (hw _ (List.mem_of_getElem? (i := 16) rfl))) (by decide)
    have F_a27_size : Fld Z h28 a27 "com/example/akin/akin/engine/IntList" "size" "I" (.int (0 : Int32)) := Df _ _ _ .int (Or.inl (hw _ (List.mem_of_getElem? (i := 23) rfl))) (by decide)
    refine s_dup X hx (hb hby at_18) rfl (q := 19) rfl ?_
    refine s_iload X hx (hb hby at_19) rfl (q := 21) rfl ?_
    rcases own_m x0 with hmax | hmax
    · refine callI X hx hZ hown (W := 1) (argsL := [(.int ((x0 &&& (3 : Int32)) - (1 : Int32)))]) (rest := [(.ref a27)]) rfl (hw _ (List.mem_of_getElem? (i := 4) rfl)) (hw _ (List.mem_of_getElem? (i := 5) rfl)) (hw _ (List.mem_of_getElem? (i := 3) rfl)) (hw _ (List.mem_of_getElem? (i := 6) rfl)) (by decide) (rm1_1 l Z a0 hw [] a27 ((x0 &&& (3 : Int32)) - (1 : Int32)) h28 n0 sz F_a27_items F_a27_size E_a27 g_a27 hmax) eT (by decide) (by decide) (by decide) (by decide) (by rw [hml]; rfl) pd2 rfl rfl (Nat.le_of_ble_eq_true rfl) (hb hby at_21) (q := 24) rfl ?_
      intro v T Lc hQ X
      obtain ⟨h29, eT⟩ : ∃ z, T.heap = z := ⟨_, rfl⟩
      try rw [eT] at hQ
      obtain ⟨rfl, N', K', t30, st_t30, F_a27_items', F_a27_size', A_t30, E_t30⟩ := hQ
      have N := Fr.app N N'
      have g_t30 : n0 ≤ t30 := Nat.le_trans sz st_t30
      have ne_a27_t30 : a27 ≠ t30 := Nat.ne_of_lt (Nat.lt_of_lt_of_le E_a27.lt st_t30)
      have E_a27 := E_a27.keep K'
      have sz : n0 ≤ h29.size := Nat.le_trans sz K'.1
      have F_a27_items := F_a27_items'
      have F_a27_size := F_a27_size'
      refine s_astore X hx (hb hby at_24) rfl (L' := #[.val (.int x0), .val (.int x1), .val (.int x2), .val (.int x3), .val (.int x4), .val (.int x5), .val (.int ((x0 &&& (3 : Int32)) - (1 : Int32))), .val (.int (2 : Int32)), .val (.ref a27), .unset]) rfl (q := 26) rfl ?_
      refine s_iload X hx (hb hby at_26) rfl (q := 28) rfl ?_
      refine f_if_le X hx (hb hby at_28) (q1 := 37) (by decide) (by decide) (q := 31) rfl (fun hq => absurd (by decide : 0 < (2 : Int32)) hq) (fun _ => ?_)
      refine s_aload X hx (hb hby at_31) rfl rfl (q := 33) rfl ?_
      refine s_iloadN X hx (hb hby at_33) rfl (q := 34) rfl ?_
      refine callV X hx hZ hown (W := 0) (argsL := [(.int x2)]) (rest := []) (hw _ (List.mem_of_getElem? (i := 17) rfl)) (hw _ (List.mem_of_getElem? (i := 18) rfl)) (hw _ (List.mem_of_getElem? (i := 20) rfl)) (hw _ (List.mem_of_getElem? (i := 19) rfl)) (hw _ (List.mem_of_getElem? (i := 3) rfl)) (hw _ (List.mem_of_getElem? (i := 21) rfl)) (by decide) E_a27 (rm4_0_1 l Z a0 hw [] a27 x2 t30 0 h29 n0 sz F_a27_items F_a27_size E_a27 A_t30 E_t30 g_a27 g_t30 ne_a27_t30) eT (by decide) (by decide) (by decide) (by decide) (by rw [hml]; rfl) pd2 rfl rfl (Nat.le_of_ble_eq_true rfl) (hb hby at_34) (q := 37) rfl ?_
      intro v T Lc hQ X
      obtain ⟨h31, eT⟩ : ∃ z, T.heap = z := ⟨_, rfl⟩
      try rw [eT] at hQ
      obtain ⟨rfl, N', K', t32, st_t32, F_a27_items', F_a27_size', A_t32, E_t32⟩ := hQ
      have N := Fr.app N N'
      have g_t32 : n0 ≤ t32 := st_t32.elim (fun q => q ▸ g_t30) (fun q => Nat.le_trans sz q)
      have ne_a27_t32 : a27 ≠ t32 := st_t32.elim (fun q => q ▸ ne_a27_t30) (fun q => Nat.ne_of_lt (Nat.lt_of_lt_of_le E_a27.lt q))
      have E_a27 := E_a27.keep K'
      have sz : n0 ≤ h31.size := Nat.le_trans sz K'.1
      have F_a27_items := F_a27_items'
      have F_a27_size := F_a27_size'
      refine s_iload X hx (hb hby at_37) rfl (q := 39) rfl ?_
      refine s_iconst X hx (z := (1 : Int32)) (hb hby at_39) rfl (q := 40) rfl ?_
      refine f_icmp_le X hx (hb hby at_40) (q1 := 49) (by decide) (by decide) (q := 43) rfl (fun hq => absurd (by decide : (1 : Int32) < (2 : Int32)) hq) (fun _ => ?_)
      refine s_aload X hx (hb hby at_43) rfl rfl (q := 45) rfl ?_
      refine s_iloadN X hx (hb hby at_45) rfl (q := 46) rfl ?_
      refine callV X hx hZ hown (W := 0) (argsL := [(.int x3)]) (rest := []) (hw _ (List.mem_of_getElem? (i := 17) rfl)) (hw _ (List.mem_of_getElem? (i := 18) rfl)) (hw _ (List.mem_of_getElem? (i := 20) rfl)) (hw _ (List.mem_of_getElem? (i := 19) rfl)) (hw _ (List.mem_of_getElem? (i := 3) rfl)) (hw _ (List.mem_of_getElem? (i := 21) rfl)) (by decide) E_a27 (rm4_1_1 l Z a0 hw [] a27 x3 t32 x2 h31 n0 sz F_a27_items F_a27_size E_a27 A_t32 E_t32 g_a27 g_t32 ne_a27_t32) eT (by decide) (by decide) (by decide) (by decide) (by rw [hml]; rfl) pd2 rfl rfl (Nat.le_of_ble_eq_true rfl) (hb hby at_46) (q := 49) rfl ?_
      intro v T Lc hQ X
      obtain ⟨h33, eT⟩ : ∃ z, T.heap = z := ⟨_, rfl⟩
      try rw [eT] at hQ
      obtain ⟨rfl, N', K', t34, st_t34, F_a27_items', F_a27_size', A_t34, E_t34⟩ := hQ
      have N := Fr.app N N'
      have g_t34 : n0 ≤ t34 := st_t34.elim (fun q => q ▸ g_t32) (fun q => Nat.le_trans sz q)
      have ne_a27_t34 : a27 ≠ t34 := st_t34.elim (fun q => q ▸ ne_a27_t32) (fun q => Nat.ne_of_lt (Nat.lt_of_lt_of_le E_a27.lt q))
      have E_a27 := E_a27.keep K'
      have sz : n0 ≤ h33.size := Nat.le_trans sz K'.1
      have F_a27_items := F_a27_items'
      have F_a27_size := F_a27_size'
      refine s_iload X hx (hb hby at_49) rfl (q := 51) rfl ?_
      refine s_iconst X hx (z := (2 : Int32)) (hb hby at_51) rfl (q := 52) rfl ?_
      refine f_icmp_le X hx (hb hby at_52) (q1 := 62) (by decide) (by decide) (q := 55) rfl (fun _ => ?_) (fun hq => absurd hq (by decide : ¬ (2 : Int32) < (2 : Int32)))
      refine s_iload X hx (hb hby at_62) rfl (q := 64) rfl ?_
      refine s_iconst X hx (z := (3 : Int32)) (hb hby at_64) rfl (q := 65) rfl ?_
      refine f_icmp_le X hx (hb hby at_65) (q1 := 75) (by decide) (by decide) (q := 68) rfl (fun _ => ?_) (fun hq => absurd hq (by decide : ¬ (3 : Int32) < (2 : Int32)))
      refine s_aload X hx (hb hby at_75) rfl rfl (q := 77) rfl ?_
      refine callV X hx hZ hown (W := 0) (argsL := []) (rest := []) (hw _ (List.mem_of_getElem? (i := 35) rfl)) (hw _ (List.mem_of_getElem? (i := 36) rfl)) (hw _ (List.mem_of_getElem? (i := 38) rfl)) (hw _ (List.mem_of_getElem? (i := 37) rfl)) (hw _ (List.mem_of_getElem? (i := 3) rfl)) (hw _ (List.mem_of_getElem? (i := 39) rfl)) (by decide) E_a27 (rm7_2_2 l Z a0 hw [] a27 t34 x2 x3 h33 n0 sz F_a27_items F_a27_size A_t34 E_t34) eT (by decide) (by decide) (by decide) (by decide) (by rw [hml]; rfl) pd3 rfl rfl (Nat.le_of_ble_eq_true rfl) (hb hby at_77) (q := 80) rfl ?_
      intro v T Lc hQ X
      obtain ⟨h35, eT⟩ : ∃ z, T.heap = z := ⟨_, rfl⟩
      try rw [eT] at hQ
      obtain ⟨t36, rfl, N', K', st_t36, A_t36⟩ := hQ
      have N := Fr.app N N'
      have g_t36 : n0 ≤ t36 := Nat.le_trans sz st_t36
      have ne_a27_t36 : a27 ≠ t36 := Nat.ne_of_lt (Nat.lt_of_lt_of_le E_a27.lt st_t36)
      have ne_t34_t36 : t34 ≠ t36 := Nat.ne_of_lt (Nat.lt_of_lt_of_le A_t34.lt st_t36)
      have E_a27 := E_a27.keep K'
      have F_a27_items := F_a27_items.keep K' nin0
      have F_a27_size := F_a27_size.keep K' nin0
      have A_t34 := A_t34.keep K' nin0
      have E_t34 := E_t34.keep K'
      have sz : n0 ≤ h35.size := Nat.le_trans sz K'.1
      refine s_astore X hx (hb hby at_80) rfl (L' := #[.val (.int x0), .val (.int x1), .val (.int x2), .val (.int x3), .val (.int x4), .val (.int x5), .val (.int ((x0 &&& (3 : Int32)) - (1 : Int32))), .val (.int (2 : Int32)), .val (.ref a27), .val (.ref t36)]) rfl (q := 82) rfl ?_
      refine s_aload X hx (hb hby at_82) rfl rfl (q := 84) rfl ?_
      refine s_ifnullNo X hx (hb hby at_84) (q := 87) rfl ?_
      refine s_aload X hx (hb hby at_87) rfl rfl (q := 89) rfl ?_
      refine s_lenI X hx hZ eT (z := (2 : Int32)) A_t36 rfl (hb hby at_89) (q := 90) rfl ?_
      refine s_iload X hx (hb hby at_90) rfl (q := 92) rfl ?_
      refine f_icmp_eq X hx (hb hby at_92) (q1 := 97) (by decide) (by decide) (q := 95) rfl (fun _ => ?_) (fun hq => absurd (by decide : (2 : Int32) = (2 : Int32)) hq)
      refine s_iload X hx (hb hby at_97) rfl (q := 99) rfl ?_
      refine f_if_le X hx (hb hby at_99) (q1 := 112) (by decide) (by decide) (q := 102) rfl (fun hq => absurd (by decide : 0 < (2 : Int32)) hq) (fun _ => ?_)
      refine s_aload X hx (hb hby at_102) rfl rfl (q := 104) rfl ?_
      refine s_iconst X hx (z := (0 : Int32)) (hb hby at_104) rfl (q := 105) rfl ?_
      refine s_iaload X hx hZ eT A_t36 (by decide) (i := 0) rfl (x := x2) rfl (hb hby at_105) (q := 106) rfl ?_
      refine s_iloadN X hx (hb hby at_106) rfl (q := 107) rfl ?_
      refine f_icmp_eq X hx (hb hby at_107) (q1 := 112) (by decide) (by decide) (q := 110) rfl (fun _ => ?_) (fun hq => absurd (rfl : x2 = x2) hq)
      refine s_iload X hx (hb hby at_112) rfl (q := 114) rfl ?_
      refine s_iconst X hx (z := (1 : Int32)) (hb hby at_114) rfl (q := 115) rfl ?_
      refine f_icmp_le X hx (hb hby at_115) (q1 := 128) (by decide) (by decide) (q := 118) rfl (fun hq => absurd (by decide : (1 : Int32) < (2 : Int32)) hq) (fun _ => ?_)
      refine s_aload X hx (hb hby at_118) rfl rfl (q := 120) rfl ?_
      refine s_iconst X hx (z := (1 : Int32)) (hb hby at_120) rfl (q := 121) rfl ?_
      refine s_iaload X hx hZ eT A_t36 (by decide) (i := 1) rfl (x := x3) rfl (hb hby at_121) (q := 122) rfl ?_
      refine s_iloadN X hx (hb hby at_122) rfl (q := 123) rfl ?_
      refine f_icmp_eq X hx (hb hby at_123) (q1 := 128) (by decide) (by decide) (q := 126) rfl (fun _ => ?_) (fun hq => absurd (rfl : x3 = x3) hq)
      refine s_iload X hx (hb hby at_128) rfl (q := 130) rfl ?_
      refine s_iconst X hx (z := (2 : Int32)) (hb hby at_130) rfl (q := 131) rfl ?_
      refine f_icmp_le X hx (hb hby at_131) (q1 := 145) (by decide) (by decide) (q := 134) rfl (fun _ => ?_) (fun hq => absurd hq (by decide : ¬ (2 : Int32) < (2 : Int32)))
      refine s_iload X hx (hb hby at_145) rfl (q := 147) rfl ?_
      refine s_iconst X hx (z := (3 : Int32)) (hb hby at_147) rfl (q := 148) rfl ?_
      refine f_icmp_le X hx (hb hby at_148) (q1 := 162) (by decide) (by decide) (q := 151) rfl (fun _ => ?_) (fun hq => absurd hq (by decide : ¬ (3 : Int32) < (2 : Int32)))
      refine s_iload X hx (hb hby at_162) rfl (q := 164) rfl ?_
      refine f_if_le X hx (hb hby at_164) (q1 := 189) (by decide) (by decide) (q := 167) rfl (fun hq => absurd (by decide : 0 < (2 : Int32)) hq) (fun _ => ?_)
      refine s_aload X hx (hb hby at_167) rfl rfl (q := 169) rfl ?_
      refine s_iconst X hx (z := (0 : Int32)) (hb hby at_169) rfl (q := 170) rfl ?_
      refine s_aload X hx (hb hby at_170) rfl rfl (q := 172) rfl ?_
      refine s_iconst X hx (z := (0 : Int32)) (hb hby at_172) rfl (q := 173) rfl ?_
      refine s_iaload X hx hZ eT A_t36 (by decide) (i := 0) rfl (x := x2) rfl (hb hby at_173) (q := 174) rfl ?_
      refine s_iconst X hx (z := (-1 : Int32)) (hb hby at_174) rfl (q := 175) rfl ?_
      refine s_ixor X hx (hb hby at_175) (q := 176) rfl ?_
      refine s_iastore X hx hZ eT A_t36 N g_t36 (by decide) (i := 0) rfl (Nat.le_of_ble_eq_true rfl) (ys := [(x2 ^^^ (-1 : Int32)), x3]) rfl (hb hby at_176) (q := 177) rfl ?_
      intro T h37 _ X N eT W A_t36'
      have E_a27 := E_a27.wr W
      have F_a27_items := F_a27_items.other W (Or.inl ne_a27_t36)
      have F_a27_size := F_a27_size.other W (Or.inl ne_a27_t36)
      have A_t34 := A_t34.other W ne_t34_t36
      have E_t34 := E_t34.wr W
      have sz : n0 ≤ h37.size := by rw [W.size]; exact sz
      have A_t36 := A_t36'
      refine s_aload X hx (hb hby at_177) rfl rfl (q := 179) rfl ?_
      refine s_iconst X hx (z := (0 : Int32)) (hb hby at_179) rfl (q := 180) rfl ?_
      refine callV X hx hZ hown (W := 0) (argsL := [(.int (0 : Int32))]) (rest := []) (hw _ (List.mem_of_getElem? (i := 49) rfl)) (hw _ (List.mem_of_getElem? (i := 50) rfl)) (hw _ (List.mem_of_getElem? (i := 52) rfl)) (hw _ (List.mem_of_getElem? (i := 51) rfl)) (hw _ (List.mem_of_getElem? (i := 3) rfl)) (hw _ (List.mem_of_getElem? (i := 53) rfl)) (by decide) E_a27 (rm8 l Z a0 hw [] a27 (0 : Int32) t34 (2 : Int32) ([x2, x3]) x2 h37 n0 sz F_a27_items F_a27_size A_t34 (by decide) (by decide) rfl) eT (by decide) (by decide) (by decide) (by decide) (by rw [hml]; rfl) pd4 rfl rfl (Nat.le_of_ble_eq_true rfl) (hb hby at_180) (q := 183) rfl ?_
      intro v T Lc hQ X
      obtain ⟨rfl, eT, N'⟩ := hQ
      have N := Fr.app N N'
      refine s_iloadN X hx (hb hby at_183) rfl (q := 184) rfl ?_
      refine f_icmp_eq X hx (hb hby at_184) (q1 := 189) (by decide) (by decide) (q := 187) rfl (fun _ => ?_) (fun hq => absurd (rfl : x2 = x2) hq)
      refine s_iconst X hx (z := (1 : Int32)) (hb hby at_189) rfl (q := 190) rfl ?_
      exact leafN X hx hlk hret (by simp) (hb hby at_190) (by decide) (by decide) (z' := 1) rfl ⟨rfl, N⟩
    · refine callI X hx hZ hown (W := 1) (argsL := [(.int ((x0 &&& (3 : Int32)) - (1 : Int32)))]) (rest := [(.ref a27)]) rfl (hw _ (List.mem_of_getElem? (i := 4) rfl)) (hw _ (List.mem_of_getElem? (i := 5) rfl)) (hw _ (List.mem_of_getElem? (i := 3) rfl)) (hw _ (List.mem_of_getElem? (i := 6) rfl)) (by decide) (rm1_2 l Z a0 hw [] a27 ((x0 &&& (3 : Int32)) - (1 : Int32)) h28 n0 sz F_a27_items F_a27_size E_a27 g_a27 hmax) eT (by decide) (by decide) (by decide) (by decide) (by rw [hml]; rfl) pd2 rfl rfl (Nat.le_of_ble_eq_true rfl) (hb hby at_21) (q := 24) rfl ?_
      intro v T Lc hQ X
      obtain ⟨h38, eT⟩ : ∃ z, T.heap = z := ⟨_, rfl⟩
      try rw [eT] at hQ
      obtain ⟨rfl, N', K', t39, st_t39, F_a27_items', F_a27_size', A_t39, E_t39⟩ := hQ
      have N := Fr.app N N'
      have g_t39 : n0 ≤ t39 := Nat.le_trans sz st_t39
      have ne_a27_t39 : a27 ≠ t39 := Nat.ne_of_lt (Nat.lt_of_lt_of_le E_a27.lt st_t39)
      have E_a27 := E_a27.keep K'
      have sz : n0 ≤ h38.size := Nat.le_trans sz K'.1
      have F_a27_items := F_a27_items'
      have F_a27_size := F_a27_size'
      refine s_astore X hx (hb hby at_24) rfl (L' := #[.val (.int x0), .val (.int x1), .val (.int x2), .val (.int x3), .val (.int x4), .val (.int x5), .val (.int ((x0 &&& (3 : Int32)) - (1 : Int32))), .val (.int (2 : Int32)), .val (.ref a27), .unset]) rfl (q := 26) rfl ?_
      refine s_iload X hx (hb hby at_26) rfl (q := 28) rfl ?_
      refine f_if_le X hx (hb hby at_28) (q1 := 37) (by decide) (by decide) (q := 31) rfl (fun hq => absurd (by decide : 0 < (2 : Int32)) hq) (fun _ => ?_)
      refine s_aload X hx (hb hby at_31) rfl rfl (q := 33) rfl ?_
      refine s_iloadN X hx (hb hby at_33) rfl (q := 34) rfl ?_
      refine callV X hx hZ hown (W := 0) (argsL := [(.int x2)]) (rest := []) (hw _ (List.mem_of_getElem? (i := 17) rfl)) (hw _ (List.mem_of_getElem? (i := 18) rfl)) (hw _ (List.mem_of_getElem? (i := 20) rfl)) (hw _ (List.mem_of_getElem? (i := 19) rfl)) (hw _ (List.mem_of_getElem? (i := 3) rfl)) (hw _ (List.mem_of_getElem? (i := 21) rfl)) (by decide) E_a27 (rm4_0_2 l Z a0 hw [] a27 x2 t39 0 0 h38 n0 sz F_a27_items F_a27_size E_a27 A_t39 E_t39 g_a27 g_t39 ne_a27_t39) eT (by decide) (by decide) (by decide) (by decide) (by rw [hml]; rfl) pd2 rfl rfl (Nat.le_of_ble_eq_true rfl) (hb hby at_34) (q := 37) rfl ?_
      intro v T Lc hQ X
      obtain ⟨h40, eT⟩ : ∃ z, T.heap = z := ⟨_, rfl⟩
      try rw [eT] at hQ
      obtain ⟨rfl, N', K', t41, st_t41, F_a27_items', F_a27_size', A_t41, E_t41⟩ := hQ
      have N := Fr.app N N'
      have g_t41 : n0 ≤ t41 := st_t41.elim (fun q => q ▸ g_t39) (fun q => Nat.le_trans sz q)
      have ne_a27_t41 : a27 ≠ t41 := st_t41.elim (fun q => q ▸ ne_a27_t39) (fun q => Nat.ne_of_lt (Nat.lt_of_lt_of_le E_a27.lt q))
      have E_a27 := E_a27.keep K'
      have sz : n0 ≤ h40.size := Nat.le_trans sz K'.1
      have F_a27_items := F_a27_items'
      have F_a27_size := F_a27_size'
      refine s_iload X hx (hb hby at_37) rfl (q := 39) rfl ?_
      refine s_iconst X hx (z := (1 : Int32)) (hb hby at_39) rfl (q := 40) rfl ?_
      refine f_icmp_le X hx (hb hby at_40) (q1 := 49) (by decide) (by decide) (q := 43) rfl (fun hq => absurd (by decide : (1 : Int32) < (2 : Int32)) hq) (fun _ => ?_)
      refine s_aload X hx (hb hby at_43) rfl rfl (q := 45) rfl ?_
      refine s_iloadN X hx (hb hby at_45) rfl (q := 46) rfl ?_
      refine callV X hx hZ hown (W := 0) (argsL := [(.int x3)]) (rest := []) (hw _ (List.mem_of_getElem? (i := 17) rfl)) (hw _ (List.mem_of_getElem? (i := 18) rfl)) (hw _ (List.mem_of_getElem? (i := 20) rfl)) (hw _ (List.mem_of_getElem? (i := 19) rfl)) (hw _ (List.mem_of_getElem? (i := 3) rfl)) (hw _ (List.mem_of_getElem? (i := 21) rfl)) (by decide) E_a27 (rm4_1_2 l Z a0 hw [] a27 x3 t41 x2 0 h40 n0 sz F_a27_items F_a27_size E_a27 A_t41 E_t41 g_a27 g_t41 ne_a27_t41) eT (by decide) (by decide) (by decide) (by decide) (by rw [hml]; rfl) pd2 rfl rfl (Nat.le_of_ble_eq_true rfl) (hb hby at_46) (q := 49) rfl ?_
      intro v T Lc hQ X
      obtain ⟨h42, eT⟩ : ∃ z, T.heap = z := ⟨_, rfl⟩
      try rw [eT] at hQ
      obtain ⟨rfl, N', K', t43, st_t43, F_a27_items', F_a27_size', A_t43, E_t43⟩ := hQ
      have N := Fr.app N N'
      have g_t43 : n0 ≤ t43 := st_t43.elim (fun q => q ▸ g_t41) (fun q => Nat.le_trans sz q)
      have ne_a27_t43 : a27 ≠ t43 := st_t43.elim (fun q => q ▸ ne_a27_t41) (fun q => Nat.ne_of_lt (Nat.lt_of_lt_of_le E_a27.lt q))
      have E_a27 := E_a27.keep K'
      have sz : n0 ≤ h42.size := Nat.le_trans sz K'.1
      have F_a27_items := F_a27_items'
      have F_a27_size := F_a27_size'
      refine s_iload X hx (hb hby at_49) rfl (q := 51) rfl ?_
      refine s_iconst X hx (z := (2 : Int32)) (hb hby at_51) rfl (q := 52) rfl ?_
      refine f_icmp_le X hx (hb hby at_52) (q1 := 62) (by decide) (by decide) (q := 55) rfl (fun _ => ?_) (fun hq => absurd hq (by decide : ¬ (2 : Int32) < (2 : Int32)))
      refine s_iload X hx (hb hby at_62) rfl (q := 64) rfl ?_
      refine s_iconst X hx (z := (3 : Int32)) (hb hby at_64) rfl (q := 65) rfl ?_
      refine f_icmp_le X hx (hb hby at_65) (q1 := 75) (by decide) (by decide) (q := 68) rfl (fun _ => ?_) (fun hq => absurd hq (by decide : ¬ (3 : Int32) < (2 : Int32)))
      refine s_aload X hx (hb hby at_75) rfl rfl (q := 77) rfl ?_
      refine callV X hx hZ hown (W := 0) (argsL := []) (rest := []) (hw _ (List.mem_of_getElem? (i := 35) rfl)) (hw _ (List.mem_of_getElem? (i := 36) rfl)) (hw _ (List.mem_of_getElem? (i := 38) rfl)) (hw _ (List.mem_of_getElem? (i := 37) rfl)) (hw _ (List.mem_of_getElem? (i := 3) rfl)) (hw _ (List.mem_of_getElem? (i := 39) rfl)) (by decide) E_a27 (rm7_2_2 l Z a0 hw [] a27 t43 x2 x3 h42 n0 sz F_a27_items F_a27_size A_t43 E_t43) eT (by decide) (by decide) (by decide) (by decide) (by rw [hml]; rfl) pd3 rfl rfl (Nat.le_of_ble_eq_true rfl) (hb hby at_77) (q := 80) rfl ?_
      intro v T Lc hQ X
      obtain ⟨h44, eT⟩ : ∃ z, T.heap = z := ⟨_, rfl⟩
      try rw [eT] at hQ
      obtain ⟨t45, rfl, N', K', st_t45, A_t45⟩ := hQ
      have N := Fr.app N N'
      have g_t45 : n0 ≤ t45 := Nat.le_trans sz st_t45
      have ne_a27_t45 : a27 ≠ t45 := Nat.ne_of_lt (Nat.lt_of_lt_of_le E_a27.lt st_t45)
      have ne_t43_t45 : t43 ≠ t45 := Nat.ne_of_lt (Nat.lt_of_lt_of_le A_t43.lt st_t45)
      have E_a27 := E_a27.keep K'
      have F_a27_items := F_a27_items.keep K' nin0
      have F_a27_size := F_a27_size.keep K' nin0
      have A_t43 := A_t43.keep K' nin0
      have E_t43 := E_t43.keep K'
      have sz : n0 ≤ h44.size := Nat.le_trans sz K'.1
      refine s_astore X hx (hb hby at_80) rfl (L' := #[.val (.int x0), .val (.int x1), .val (.int x2), .val (.int x3), .val (.int x4), .val (.int x5), .val (.int ((x0 &&& (3 : Int32)) - (1 : Int32))), .val (.int (2 : Int32)), .val (.ref a27), .val (.ref t45)]) rfl (q := 82) rfl ?_
      refine s_aload X hx (hb hby at_82) rfl rfl (q := 84) rfl ?_
      refine s_ifnullNo X hx (hb hby at_84) (q := 87) rfl ?_
      refine s_aload X hx (hb hby at_87) rfl rfl (q := 89) rfl ?_
      refine s_lenI X hx hZ eT (z := (2 : Int32)) A_t45 rfl (hb hby at_89) (q := 90) rfl ?_
      refine s_iload X hx (hb hby at_90) rfl (q := 92) rfl ?_
      refine f_icmp_eq X hx (hb hby at_92) (q1 := 97) (by decide) (by decide) (q := 95) rfl (fun _ => ?_) (fun hq => absurd (by decide : (2 : Int32) = (2 : Int32)) hq)
      refine s_iload X hx (hb hby at_97) rfl (q := 99) rfl ?_
      refine f_if_le X hx (hb hby at_99) (q1 := 112) (by decide) (by decide) (q := 102) rfl (fun hq => absurd (by decide : 0 < (2 : Int32)) hq) (fun _ => ?_)
      refine s_aload X hx (hb hby at_102) rfl rfl (q := 104) rfl ?_
      refine s_iconst X hx (z := (0 : Int32)) (hb hby at_104) rfl (q := 105) rfl ?_
      refine s_iaload X hx hZ eT A_t45 (by decide) (i := 0) rfl (x := x2) rfl (hb hby at_105) (q := 106) rfl ?_
      refine s_iloadN X hx (hb hby at_106) rfl (q := 107) rfl ?_
      refine f_icmp_eq X hx (hb hby at_107) (q1 := 112) (by decide) (by decide) (q := 110) rfl (fun _ => ?_) (fun hq => absurd (rfl : x2 = x2) hq)
      refine s_iload X hx (hb hby at_112) rfl (q := 114) rfl ?_
      refine s_iconst X hx (z := (1 : Int32)) (hb hby at_114) rfl (q := 115) rfl ?_
      refine f_icmp_le X hx (hb hby at_115) (q1 := 128) (by decide) (by decide) (q := 118) rfl (fun hq => absurd (by decide : (1 : Int32) < (2 : Int32)) hq) (fun _ => ?_)
      refine s_aload X hx (hb hby at_118) rfl rfl (q := 120) rfl ?_
      refine s_iconst X hx (z := (1 : Int32)) (hb hby at_120) rfl (q := 121) rfl ?_
      refine s_iaload X hx hZ eT A_t45 (by decide) (i := 1) rfl (x := x3) rfl (hb hby at_121) (q := 122) rfl ?_
      refine s_iloadN X hx (hb hby at_122) rfl (q := 123) rfl ?_
      refine f_icmp_eq X hx (hb hby at_123) (q1 := 128) (by decide) (by decide) (q := 126) rfl (fun _ => ?_) (fun hq => absurd (rfl : x3 = x3) hq)
      refine s_iload X hx (hb hby at_128) rfl (q := 130) rfl ?_
      refine s_iconst X hx (z := (2 : Int32)) (hb hby at_130) rfl (q := 131) rfl ?_
      refine f_icmp_le X hx (hb hby at_131) (q1 := 145) (by decide) (by decide) (q := 134) rfl (fun _ => ?_) (fun hq => absurd hq (by decide : ¬ (2 : Int32) < (2 : Int32)))
      refine s_iload X hx (hb hby at_145) rfl (q := 147) rfl ?_
      refine s_iconst X hx (z := (3 : Int32)) (hb hby at_147) rfl (q := 148) rfl ?_
      refine f_icmp_le X hx (hb hby at_148) (q1 := 162) (by decide) (by decide) (q := 151) rfl (fun _ => ?_) (fun hq => absurd hq (by decide : ¬ (3 : Int32) < (2 : Int32)))
      refine s_iload X hx (hb hby at_162) rfl (q := 164) rfl ?_
      refine f_if_le X hx (hb hby at_164) (q1 := 189) (by decide) (by decide) (q := 167) rfl (fun hq => absurd (by decide : 0 < (2 : Int32)) hq) (fun _ => ?_)
      refine s_aload X hx (hb hby at_167) rfl rfl (q := 169) rfl ?_
      refine s_iconst X hx (z := (0 : Int32)) (hb hby at_169) rfl (q := 170) rfl ?_
      refine s_aload X hx (hb hby at_170) rfl rfl (q := 172) rfl ?_
      refine s_iconst X hx (z := (0 : Int32)) (hb hby at_172) rfl (q := 173) rfl ?_
      refine s_iaload X hx hZ eT A_t45 (by decide) (i := 0) rfl (x := x2) rfl (hb hby at_173) (q := 174) rfl ?_
      refine s_iconst X hx (z := (-1 : Int32)) (hb hby at_174) rfl (q := 175) rfl ?_
      refine s_ixor X hx (hb hby at_175) (q := 176) rfl ?_
      refine s_iastore X hx hZ eT A_t45 N g_t45 (by decide) (i := 0) rfl (Nat.le_of_ble_eq_true rfl) (ys := [(x2 ^^^ (-1 : Int32)), x3]) rfl (hb hby at_176) (q := 177) rfl ?_
      intro T h46 _ X N eT W A_t45'
      have E_a27 := E_a27.wr W
      have F_a27_items := F_a27_items.other W (Or.inl ne_a27_t45)
      have F_a27_size := F_a27_size.other W (Or.inl ne_a27_t45)
      have A_t43 := A_t43.other W ne_t43_t45
      have E_t43 := E_t43.wr W
      have sz : n0 ≤ h46.size := by rw [W.size]; exact sz
      have A_t45 := A_t45'
      refine s_aload X hx (hb hby at_177) rfl rfl (q := 179) rfl ?_
      refine s_iconst X hx (z := (0 : Int32)) (hb hby at_179) rfl (q := 180) rfl ?_
      refine callV X hx hZ hown (W := 0) (argsL := [(.int (0 : Int32))]) (rest := []) (hw _ (List.mem_of_getElem? (i := 49) rfl)) (hw _ (List.mem_of_getElem? (i := 50) rfl)) (hw _ (List.mem_of_getElem? (i := 52) rfl)) (hw _ (List.mem_of_getElem? (i := 51) rfl)) (hw _ (List.mem_of_getElem? (i := 3) rfl)) (hw _ (List.mem_of_getElem? (i := 53) rfl)) (by decide) E_a27 (rm8 l Z a0 hw [] a27 (0 : Int32) t43 (2 : Int32) ([x2, x3]) x2 h46 n0 sz F_a27_items F_a27_size A_t43 (by decide) (by decide) rfl) eT (by decide) (by decide) (by decide) (by decide) (by rw [hml]; rfl) pd4 rfl rfl (Nat.le_of_ble_eq_true rfl) (hb hby at_180) (q := 183) rfl ?_
      intro v T Lc hQ X
      obtain ⟨rfl, eT, N'⟩ := hQ
      have N := Fr.app N N'
      refine s_iloadN X hx (hb hby at_183) rfl (q := 184) rfl ?_
      refine f_icmp_eq X hx (hb hby at_184) (q1 := 189) (by decide) (by decide) (q := 187) rfl (fun _ => ?_) (fun hq => absurd (rfl : x2 = x2) hq)
      refine s_iconst X hx (z := (1 : Int32)) (hb hby at_189) rfl (q := 190) rfl ?_
      exact leafN X hx hlk hret (by simp) (hb hby at_190) (by decide) (by decide) (z' := 1) rfl ⟨rfl, N⟩
  · subst hcase
    refine s_new X hx hZ hown (hw _ (List.mem_of_getElem? (i := 1) rfl)) (hw _ (List.mem_of_getElem? (i := 2) rfl)) (hw _ (List.mem_of_getElem? (i := 3) rfl)) eT (by decide) (by decide) (hb hby at_15) (q := 18) rfl ?_
    intro T h48 a47 X eT E ea E_a47' Df
    have g_a47 : n0 ≤ a47 := by rw [ea]; exact sz
    have sz : n0 ≤ h48.size := Nat.le_trans sz E.1
    have E_a47 := E_a47'
    have F_a47_items : Fld Z h48 a47 "com/example/akin/akin/engine/IntList" "items" "[I" .null := Df _ _ _ (.array .int) (Or.inl (hw _ (List.mem_of_getElem? (i := 16) rfl))) (by decide)
    have F_a47_size : Fld Z h48 a47 "com/example/akin/akin/engine/IntList" "size" "I" (.int (0 : Int32)) := Df _ _ _ .int (Or.inl (hw _ (List.mem_of_getElem? (i := 23) rfl))) (by decide)
    refine s_dup X hx (hb hby at_18) rfl (q := 19) rfl ?_
    refine s_iload X hx (hb hby at_19) rfl (q := 21) rfl ?_
    rcases own_m x0 with hmax | hmax
    · refine callI X hx hZ hown (W := 1) (argsL := [(.int ((x0 &&& (3 : Int32)) - (1 : Int32)))]) (rest := [(.ref a47)]) rfl (hw _ (List.mem_of_getElem? (i := 4) rfl)) (hw _ (List.mem_of_getElem? (i := 5) rfl)) (hw _ (List.mem_of_getElem? (i := 3) rfl)) (hw _ (List.mem_of_getElem? (i := 6) rfl)) (by decide) (rm1_1 l Z a0 hw [] a47 ((x0 &&& (3 : Int32)) - (1 : Int32)) h48 n0 sz F_a47_items F_a47_size E_a47 g_a47 hmax) eT (by decide) (by decide) (by decide) (by decide) (by rw [hml]; rfl) pd2 rfl rfl (Nat.le_of_ble_eq_true rfl) (hb hby at_21) (q := 24) rfl ?_
      intro v T Lc hQ X
      obtain ⟨h49, eT⟩ : ∃ z, T.heap = z := ⟨_, rfl⟩
      try rw [eT] at hQ
      obtain ⟨rfl, N', K', t50, st_t50, F_a47_items', F_a47_size', A_t50, E_t50⟩ := hQ
      have N := Fr.app N N'
      have g_t50 : n0 ≤ t50 := Nat.le_trans sz st_t50
      have ne_a47_t50 : a47 ≠ t50 := Nat.ne_of_lt (Nat.lt_of_lt_of_le E_a47.lt st_t50)
      have E_a47 := E_a47.keep K'
      have sz : n0 ≤ h49.size := Nat.le_trans sz K'.1
      have F_a47_items := F_a47_items'
      have F_a47_size := F_a47_size'
      refine s_astore X hx (hb hby at_24) rfl (L' := #[.val (.int x0), .val (.int x1), .val (.int x2), .val (.int x3), .val (.int x4), .val (.int x5), .val (.int ((x0 &&& (3 : Int32)) - (1 : Int32))), .val (.int (3 : Int32)), .val (.ref a47), .unset]) rfl (q := 26) rfl ?_
      refine s_iload X hx (hb hby at_26) rfl (q := 28) rfl ?_
      refine f_if_le X hx (hb hby at_28) (q1 := 37) (by decide) (by decide) (q := 31) rfl (fun hq => absurd (by decide : 0 < (3 : Int32)) hq) (fun _ => ?_)
      refine s_aload X hx (hb hby at_31) rfl rfl (q := 33) rfl ?_
      refine s_iloadN X hx (hb hby at_33) rfl (q := 34) rfl ?_
      refine callV X hx hZ hown (W := 0) (argsL := [(.int x2)]) (rest := []) (hw _ (List.mem_of_getElem? (i := 17) rfl)) (hw _ (List.mem_of_getElem? (i := 18) rfl)) (hw _ (List.mem_of_getElem? (i := 20) rfl)) (hw _ (List.mem_of_getElem? (i := 19) rfl)) (hw _ (List.mem_of_getElem? (i := 3) rfl)) (hw _ (List.mem_of_getElem? (i := 21) rfl)) (by decide) E_a47 (rm4_0_1 l Z a0 hw [] a47 x2 t50 0 h49 n0 sz F_a47_items F_a47_size E_a47 A_t50 E_t50 g_a47 g_t50 ne_a47_t50) eT (by decide) (by decide) (by decide) (by decide) (by rw [hml]; rfl) pd2 rfl rfl (Nat.le_of_ble_eq_true rfl) (hb hby at_34) (q := 37) rfl ?_
      intro v T Lc hQ X
      obtain ⟨h51, eT⟩ : ∃ z, T.heap = z := ⟨_, rfl⟩
      try rw [eT] at hQ
      obtain ⟨rfl, N', K', t52, st_t52, F_a47_items', F_a47_size', A_t52, E_t52⟩ := hQ
      have N := Fr.app N N'
      have g_t52 : n0 ≤ t52 := st_t52.elim (fun q => q ▸ g_t50) (fun q => Nat.le_trans sz q)
      have ne_a47_t52 : a47 ≠ t52 := st_t52.elim (fun q => q ▸ ne_a47_t50) (fun q => Nat.ne_of_lt (Nat.lt_of_lt_of_le E_a47.lt q))
      have E_a47 := E_a47.keep K'
      have sz : n0 ≤ h51.size := Nat.le_trans sz K'.1
      have F_a47_items := F_a47_items'
      have F_a47_size := F_a47_size'
      refine s_iload X hx (hb hby at_37) rfl (q := 39) rfl ?_
      refine s_iconst X hx (z := (1 : Int32)) (hb hby at_39) rfl (q := 40) rfl ?_
      refine f_icmp_le X hx (hb hby at_40) (q1 := 49) (by decide) (by decide) (q := 43) rfl (fun hq => absurd (by decide : (1 : Int32) < (3 : Int32)) hq) (fun _ => ?_)
      refine s_aload X hx (hb hby at_43) rfl rfl (q := 45) rfl ?_
      refine s_iloadN X hx (hb hby at_45) rfl (q := 46) rfl ?_
      refine callV X hx hZ hown (W := 0) (argsL := [(.int x3)]) (rest := []) (hw _ (List.mem_of_getElem? (i := 17) rfl)) (hw _ (List.mem_of_getElem? (i := 18) rfl)) (hw _ (List.mem_of_getElem? (i := 20) rfl)) (hw _ (List.mem_of_getElem? (i := 19) rfl)) (hw _ (List.mem_of_getElem? (i := 3) rfl)) (hw _ (List.mem_of_getElem? (i := 21) rfl)) (by decide) E_a47 (rm4_1_1 l Z a0 hw [] a47 x3 t52 x2 h51 n0 sz F_a47_items F_a47_size E_a47 A_t52 E_t52 g_a47 g_t52 ne_a47_t52) eT (by decide) (by decide) (by decide) (by decide) (by rw [hml]; rfl) pd2 rfl rfl (Nat.le_of_ble_eq_true rfl) (hb hby at_46) (q := 49) rfl ?_
      intro v T Lc hQ X
      obtain ⟨h53, eT⟩ : ∃ z, T.heap = z := ⟨_, rfl⟩
      try rw [eT] at hQ
      obtain ⟨rfl, N', K', t54, st_t54, F_a47_items', F_a47_size', A_t54, E_t54⟩ := hQ
      have N := Fr.app N N'
      have g_t54 : n0 ≤ t54 := st_t54.elim (fun q => q ▸ g_t52) (fun q => Nat.le_trans sz q)
      have ne_a47_t54 : a47 ≠ t54 := st_t54.elim (fun q => q ▸ ne_a47_t52) (fun q => Nat.ne_of_lt (Nat.lt_of_lt_of_le E_a47.lt q))
      have E_a47 := E_a47.keep K'
      have sz : n0 ≤ h53.size := Nat.le_trans sz K'.1
      have F_a47_items := F_a47_items'
      have F_a47_size := F_a47_size'
      refine s_iload X hx (hb hby at_49) rfl (q := 51) rfl ?_
      refine s_iconst X hx (z := (2 : Int32)) (hb hby at_51) rfl (q := 52) rfl ?_
      refine f_icmp_le X hx (hb hby at_52) (q1 := 62) (by decide) (by decide) (q := 55) rfl (fun hq => absurd (by decide : (2 : Int32) < (3 : Int32)) hq) (fun _ => ?_)
      refine s_aload X hx (hb hby at_55) rfl rfl (q := 57) rfl ?_
      refine s_iload X hx (hb hby at_57) rfl (q := 59) rfl ?_
      refine callV X hx hZ hown (W := 0) (argsL := [(.int x4)]) (rest := []) (hw _ (List.mem_of_getElem? (i := 17) rfl)) (hw _ (List.mem_of_getElem? (i := 18) rfl)) (hw _ (List.mem_of_getElem? (i := 20) rfl)) (hw _ (List.mem_of_getElem? (i := 19) rfl)) (hw _ (List.mem_of_getElem? (i := 3) rfl)) (hw _ (List.mem_of_getElem? (i := 21) rfl)) (by decide) E_a47 (rm4_2_2 l Z a0 hw [] a47 x4 t54 x2 x3 h53 n0 sz F_a47_items F_a47_size E_a47 A_t54 E_t54 g_a47 g_t54 ne_a47_t54) eT (by decide) (by decide) (by decide) (by decide) (by rw [hml]; rfl) pd2 rfl rfl (Nat.le_of_ble_eq_true rfl) (hb hby at_59) (q := 62) rfl ?_
      intro v T Lc hQ X
      obtain ⟨h55, eT⟩ : ∃ z, T.heap = z := ⟨_, rfl⟩
      try rw [eT] at hQ
      obtain ⟨rfl, N', K', t56, st_t56, F_a47_items', F_a47_size', A_t56, E_t56⟩ := hQ
      have N := Fr.app N N'
      have g_t56 : n0 ≤ t56 := st_t56.elim (fun q => q ▸ g_t54) (fun q => Nat.le_trans sz q)
      have ne_a47_t56 : a47 ≠ t56 := st_t56.elim (fun q => q ▸ ne_a47_t54) (fun q => Nat.ne_of_lt (Nat.lt_of_lt_of_le E_a47.lt q))
      have E_a47 := E_a47.keep K'
      have sz : n0 ≤ h55.size := Nat.le_trans sz K'.1
      have F_a47_items := F_a47_items'
      have F_a47_size := F_a47_size'
      refine s_iload X hx (hb hby at_62) rfl (q := 64) rfl ?_
      refine s_iconst X hx (z := (3 : Int32)) (hb hby at_64) rfl (q := 65) rfl ?_
      refine f_icmp_le X hx (hb hby at_65) (q1 := 75) (by decide) (by decide) (q := 68) rfl (fun _ => ?_) (fun hq => absurd hq (by decide : ¬ (3 : Int32) < (3 : Int32)))
      refine s_aload X hx (hb hby at_75) rfl rfl (q := 77) rfl ?_
      refine callV X hx hZ hown (W := 0) (argsL := []) (rest := []) (hw _ (List.mem_of_getElem? (i := 35) rfl)) (hw _ (List.mem_of_getElem? (i := 36) rfl)) (hw _ (List.mem_of_getElem? (i := 38) rfl)) (hw _ (List.mem_of_getElem? (i := 37) rfl)) (hw _ (List.mem_of_getElem? (i := 3) rfl)) (hw _ (List.mem_of_getElem? (i := 39) rfl)) (by decide) E_a47 (rm7_3_3 l Z a0 hw [] a47 t56 x2 x3 x4 h55 n0 sz F_a47_items F_a47_size A_t56 E_t56) eT (by decide) (by decide) (by decide) (by decide) (by rw [hml]; rfl) pd3 rfl rfl (Nat.le_of_ble_eq_true rfl) (hb hby at_77) (q := 80) rfl ?_
      intro v T Lc hQ X
      obtain ⟨h57, eT⟩ : ∃ z, T.heap = z := ⟨_, rfl⟩
      try rw [eT] at hQ
      obtain ⟨t58, rfl, N', K', st_t58, A_t58⟩ := hQ
      have N := Fr.app N N'
      have g_t58 : n0 ≤ t58 := Nat.le_trans sz st_t58
      have ne_a47_t58 : a47 ≠ t58 := Nat.ne_of_lt (Nat.lt_of_lt_of_le E_a47.lt st_t58)
      have ne_t56_t58 : t56 ≠ t58 := Nat.ne_of_lt (Nat.lt_of_lt_of_le A_t56.lt st_t58)
      have E_a47 := E_a47.keep K'
      have F_a47_items := F_a47_items.keep K' nin0
      have F_a47_size := F_a47_size.keep K' nin0
      have A_t56 := A_t56.keep K' nin0
      have E_t56 := E_t56.keep K'
      have sz : n0 ≤ h57.size := Nat.le_trans sz K'.1
      refine s_astore X hx (hb hby at_80) rfl (L' := #[.val (.int x0), .val (.int x1), .val (.int x2), .val (.int x3), .val (.int x4), .val (.int x5), .val (.int ((x0 &&& (3 : Int32)) - (1 : Int32))), .val (.int (3 : Int32)), .val (.ref a47), .val (.ref t58)]) rfl (q := 82) rfl ?_
      refine s_aload X hx (hb hby at_82) rfl rfl (q := 84) rfl ?_
      refine s_ifnullNo X hx (hb hby at_84) (q := 87) rfl ?_
      refine s_aload X hx (hb hby at_87) rfl rfl (q := 89) rfl ?_
      refine s_lenI X hx hZ eT (z := (3 : Int32)) A_t58 rfl (hb hby at_89) (q := 90) rfl ?_
      refine s_iload X hx (hb hby at_90) rfl (q := 92) rfl ?_
      refine f_icmp_eq X hx (hb hby at_92) (q1 := 97) (by decide) (by decide) (q := 95) rfl (fun _ => ?_) (fun hq => absurd (by decide : (3 : Int32) = (3 : Int32)) hq)
      refine s_iload X hx (hb hby at_97) rfl (q := 99) rfl ?_
      refine f_if_le X hx (hb hby at_99) (q1 := 112) (by decide) (by decide) (q := 102) rfl (fun hq => absurd (by decide : 0 < (3 : Int32)) hq) (fun _ => ?_)
      refine s_aload X hx (hb hby at_102) rfl rfl (q := 104) rfl ?_
      refine s_iconst X hx (z := (0 : Int32)) (hb hby at_104) rfl (q := 105) rfl ?_
      refine s_iaload X hx hZ eT A_t58 (by decide) (i := 0) rfl (x := x2) rfl (hb hby at_105) (q := 106) rfl ?_
      refine s_iloadN X hx (hb hby at_106) rfl (q := 107) rfl ?_
      refine f_icmp_eq X hx (hb hby at_107) (q1 := 112) (by decide) (by decide) (q := 110) rfl (fun _ => ?_) (fun hq => absurd (rfl : x2 = x2) hq)
      refine s_iload X hx (hb hby at_112) rfl (q := 114) rfl ?_
      refine s_iconst X hx (z := (1 : Int32)) (hb hby at_114) rfl (q := 115) rfl ?_
      refine f_icmp_le X hx (hb hby at_115) (q1 := 128) (by decide) (by decide) (q := 118) rfl (fun hq => absurd (by decide : (1 : Int32) < (3 : Int32)) hq) (fun _ => ?_)
      refine s_aload X hx (hb hby at_118) rfl rfl (q := 120) rfl ?_
      refine s_iconst X hx (z := (1 : Int32)) (hb hby at_120) rfl (q := 121) rfl ?_
      refine s_iaload X hx hZ eT A_t58 (by decide) (i := 1) rfl (x := x3) rfl (hb hby at_121) (q := 122) rfl ?_
      refine s_iloadN X hx (hb hby at_122) rfl (q := 123) rfl ?_
      refine f_icmp_eq X hx (hb hby at_123) (q1 := 128) (by decide) (by decide) (q := 126) rfl (fun _ => ?_) (fun hq => absurd (rfl : x3 = x3) hq)
      refine s_iload X hx (hb hby at_128) rfl (q := 130) rfl ?_
      refine s_iconst X hx (z := (2 : Int32)) (hb hby at_130) rfl (q := 131) rfl ?_
      refine f_icmp_le X hx (hb hby at_131) (q1 := 145) (by decide) (by decide) (q := 134) rfl (fun hq => absurd (by decide : (2 : Int32) < (3 : Int32)) hq) (fun _ => ?_)
      refine s_aload X hx (hb hby at_134) rfl rfl (q := 136) rfl ?_
      refine s_iconst X hx (z := (2 : Int32)) (hb hby at_136) rfl (q := 137) rfl ?_
      refine s_iaload X hx hZ eT A_t58 (by decide) (i := 2) rfl (x := x4) rfl (hb hby at_137) (q := 138) rfl ?_
      refine s_iload X hx (hb hby at_138) rfl (q := 140) rfl ?_
      refine f_icmp_eq X hx (hb hby at_140) (q1 := 145) (by decide) (by decide) (q := 143) rfl (fun _ => ?_) (fun hq => absurd (rfl : x4 = x4) hq)
      refine s_iload X hx (hb hby at_145) rfl (q := 147) rfl ?_
      refine s_iconst X hx (z := (3 : Int32)) (hb hby at_147) rfl (q := 148) rfl ?_
      refine f_icmp_le X hx (hb hby at_148) (q1 := 162) (by decide) (by decide) (q := 151) rfl (fun _ => ?_) (fun hq => absurd hq (by decide : ¬ (3 : Int32) < (3 : Int32)))
      refine s_iload X hx (hb hby at_162) rfl (q := 164) rfl ?_
      refine f_if_le X hx (hb hby at_164) (q1 := 189) (by decide) (by decide) (q := 167) rfl (fun hq => absurd (by decide : 0 < (3 : Int32)) hq) (fun _ => ?_)
      refine s_aload X hx (hb hby at_167) rfl rfl (q := 169) rfl ?_
      refine s_iconst X hx (z := (0 : Int32)) (hb hby at_169) rfl (q := 170) rfl ?_
      refine s_aload X hx (hb hby at_170) rfl rfl (q := 172) rfl ?_
      refine s_iconst X hx (z := (0 : Int32)) (hb hby at_172) rfl (q := 173) rfl ?_
      refine s_iaload X hx hZ eT A_t58 (by decide) (i := 0) rfl (x := x2) rfl (hb hby at_173) (q := 174) rfl ?_
      refine s_iconst X hx (z := (-1 : Int32)) (hb hby at_174) rfl (q := 175) rfl ?_
      refine s_ixor X hx (hb hby at_175) (q := 176) rfl ?_
      refine s_iastore X hx hZ eT A_t58 N g_t58 (by decide) (i := 0) rfl (Nat.le_of_ble_eq_true rfl) (ys := [(x2 ^^^ (-1 : Int32)), x3, x4]) rfl (hb hby at_176) (q := 177) rfl ?_
      intro T h59 _ X N eT W A_t58'
      have E_a47 := E_a47.wr W
      have F_a47_items := F_a47_items.other W (Or.inl ne_a47_t58)
      have F_a47_size := F_a47_size.other W (Or.inl ne_a47_t58)
      have A_t56 := A_t56.other W ne_t56_t58
      have E_t56 := E_t56.wr W
      have sz : n0 ≤ h59.size := by rw [W.size]; exact sz
      have A_t58 := A_t58'
      refine s_aload X hx (hb hby at_177) rfl rfl (q := 179) rfl ?_
      refine s_iconst X hx (z := (0 : Int32)) (hb hby at_179) rfl (q := 180) rfl ?_
      refine callV X hx hZ hown (W := 0) (argsL := [(.int (0 : Int32))]) (rest := []) (hw _ (List.mem_of_getElem? (i := 49) rfl)) (hw _ (List.mem_of_getElem? (i := 50) rfl)) (hw _ (List.mem_of_getElem? (i := 52) rfl)) (hw _ (List.mem_of_getElem? (i := 51) rfl)) (hw _ (List.mem_of_getElem? (i := 3) rfl)) (hw _ (List.mem_of_getElem? (i := 53) rfl)) (by decide) E_a47 (rm8 l Z a0 hw [] a47 (0 : Int32) t56 (3 : Int32) ([x2, x3, x4]) x2 h59 n0 sz F_a47_items F_a47_size A_t56 (by decide) (by decide) rfl) eT (by decide) (by decide) (by decide) (by decide) (by rw [hml]; rfl) pd4 rfl rfl (Nat.le_of_ble_eq_true rfl) (hb hby at_180) (q := 183) rfl ?_
      intro v T Lc hQ X
      obtain ⟨rfl, eT, N'⟩ := hQ
      have N := Fr.app N N'
      refine s_iloadN X hx (hb hby at_183) rfl (q := 184) rfl ?_
      refine f_icmp_eq X hx (hb hby at_184) (q1 := 189) (by decide) (by decide) (q := 187) rfl (fun _ => ?_) (fun hq => absurd (rfl : x2 = x2) hq)
      refine s_iconst X hx (z := (1 : Int32)) (hb hby at_189) rfl (q := 190) rfl ?_
      exact leafN X hx hlk hret (by simp) (hb hby at_190) (by decide) (by decide) (z' := 1) rfl ⟨rfl, N⟩
    · refine callI X hx hZ hown (W := 1) (argsL := [(.int ((x0 &&& (3 : Int32)) - (1 : Int32)))]) (rest := [(.ref a47)]) rfl (hw _ (List.mem_of_getElem? (i := 4) rfl)) (hw _ (List.mem_of_getElem? (i := 5) rfl)) (hw _ (List.mem_of_getElem? (i := 3) rfl)) (hw _ (List.mem_of_getElem? (i := 6) rfl)) (by decide) (rm1_2 l Z a0 hw [] a47 ((x0 &&& (3 : Int32)) - (1 : Int32)) h48 n0 sz F_a47_items F_a47_size E_a47 g_a47 hmax) eT (by decide) (by decide) (by decide) (by decide) (by rw [hml]; rfl) pd2 rfl rfl (Nat.le_of_ble_eq_true rfl) (hb hby at_21) (q := 24) rfl ?_
      intro v T Lc hQ X
      obtain ⟨h60, eT⟩ : ∃ z, T.heap = z := ⟨_, rfl⟩
      try rw [eT] at hQ
      obtain ⟨rfl, N', K', t61, st_t61, F_a47_items', F_a47_size', A_t61, E_t61⟩ := hQ
      have N := Fr.app N N'
      have g_t61 : n0 ≤ t61 := Nat.le_trans sz st_t61
      have ne_a47_t61 : a47 ≠ t61 := Nat.ne_of_lt (Nat.lt_of_lt_of_le E_a47.lt st_t61)
      have E_a47 := E_a47.keep K'
      have sz : n0 ≤ h60.size := Nat.le_trans sz K'.1
      have F_a47_items := F_a47_items'
      have F_a47_size := F_a47_size'
      refine s_astore X hx (hb hby at_24) rfl (L' := #[.val (.int x0), .val (.int x1), .val (.int x2), .val (.int x3), .val (.int x4), .val (.int x5), .val (.int ((x0 &&& (3 : Int32)) - (1 : Int32))), .val (.int (3 : Int32)), .val (.ref a47), .unset]) rfl (q := 26) rfl ?_
      refine s_iload X hx (hb hby at_26) rfl (q := 28) rfl ?_
      refine f_if_le X hx (hb hby at_28) (q1 := 37) (by decide) (by decide) (q := 31) rfl (fun hq => absurd (by decide : 0 < (3 : Int32)) hq) (fun _ => ?_)
      refine s_aload X hx (hb hby at_31) rfl rfl (q := 33) rfl ?_
      refine s_iloadN X hx (hb hby at_33) rfl (q := 34) rfl ?_
      refine callV X hx hZ hown (W := 0) (argsL := [(.int x2)]) (rest := []) (hw _ (List.mem_of_getElem? (i := 17) rfl)) (hw _ (List.mem_of_getElem? (i := 18) rfl)) (hw _ (List.mem_of_getElem? (i := 20) rfl)) (hw _ (List.mem_of_getElem? (i := 19) rfl)) (hw _ (List.mem_of_getElem? (i := 3) rfl)) (hw _ (List.mem_of_getElem? (i := 21) rfl)) (by decide) E_a47 (rm4_0_2 l Z a0 hw [] a47 x2 t61 0 0 h60 n0 sz F_a47_items F_a47_size E_a47 A_t61 E_t61 g_a47 g_t61 ne_a47_t61) eT (by decide) (by decide) (by decide) (by decide) (by rw [hml]; rfl) pd2 rfl rfl (Nat.le_of_ble_eq_true rfl) (hb hby at_34) (q := 37) rfl ?_
      intro v T Lc hQ X
      obtain ⟨h62, eT⟩ : ∃ z, T.heap = z := ⟨_, rfl⟩
      try rw [eT] at hQ
      obtain ⟨rfl, N', K', t63, st_t63, F_a47_items', F_a47_size', A_t63, E_t63⟩ := hQ
      have N := Fr.app N N'
      have g_t63 : n0 ≤ t63 := st_t63.elim (fun q => q ▸ g_t61) (fun q => Nat.le_trans sz q)
      have ne_a47_t63 : a47 ≠ t63 := st_t63.elim (fun q => q ▸ ne_a47_t61) (fun q => Nat.ne_of_lt (Nat.lt_of_lt_of_le E_a47.lt q))
      have E_a47 := E_a47.keep K'
      have sz : n0 ≤ h62.size := Nat.le_trans sz K'.1
      have F_a47_items := F_a47_items'
      have F_a47_size := F_a47_size'
      refine s_iload X hx (hb hby at_37) rfl (q := 39) rfl ?_
      refine s_iconst X hx (z := (1 : Int32)) (hb hby at_39) rfl (q := 40) rfl ?_
      refine f_icmp_le X hx (hb hby at_40) (q1 := 49) (by decide) (by decide) (q := 43) rfl (fun hq => absurd (by decide : (1 : Int32) < (3 : Int32)) hq) (fun _ => ?_)
      refine s_aload X hx (hb hby at_43) rfl rfl (q := 45) rfl ?_
      refine s_iloadN X hx (hb hby at_45) rfl (q := 46) rfl ?_
      refine callV X hx hZ hown (W := 0) (argsL := [(.int x3)]) (rest := []) (hw _ (List.mem_of_getElem? (i := 17) rfl)) (hw _ (List.mem_of_getElem? (i := 18) rfl)) (hw _ (List.mem_of_getElem? (i := 20) rfl)) (hw _ (List.mem_of_getElem? (i := 19) rfl)) (hw _ (List.mem_of_getElem? (i := 3) rfl)) (hw _ (List.mem_of_getElem? (i := 21) rfl)) (by decide) E_a47 (rm4_1_2 l Z a0 hw [] a47 x3 t63 x2 0 h62 n0 sz F_a47_items F_a47_size E_a47 A_t63 E_t63 g_a47 g_t63 ne_a47_t63) eT (by decide) (by decide) (by decide) (by decide) (by rw [hml]; rfl) pd2 rfl rfl (Nat.le_of_ble_eq_true rfl) (hb hby at_46) (q := 49) rfl ?_
      intro v T Lc hQ X
      obtain ⟨h64, eT⟩ : ∃ z, T.heap = z := ⟨_, rfl⟩
      try rw [eT] at hQ
      obtain ⟨rfl, N', K', t65, st_t65, F_a47_items', F_a47_size', A_t65, E_t65⟩ := hQ
      have N := Fr.app N N'
      have g_t65 : n0 ≤ t65 := st_t65.elim (fun q => q ▸ g_t63) (fun q => Nat.le_trans sz q)
      have ne_a47_t65 : a47 ≠ t65 := st_t65.elim (fun q => q ▸ ne_a47_t63) (fun q => Nat.ne_of_lt (Nat.lt_of_lt_of_le E_a47.lt q))
      have E_a47 := E_a47.keep K'
      have sz : n0 ≤ h64.size := Nat.le_trans sz K'.1
      have F_a47_items := F_a47_items'
      have F_a47_size := F_a47_size'
      refine s_iload X hx (hb hby at_49) rfl (q := 51) rfl ?_
      refine s_iconst X hx (z := (2 : Int32)) (hb hby at_51) rfl (q := 52) rfl ?_
      refine f_icmp_le X hx (hb hby at_52) (q1 := 62) (by decide) (by decide) (q := 55) rfl (fun hq => absurd (by decide : (2 : Int32) < (3 : Int32)) hq) (fun _ => ?_)
      refine s_aload X hx (hb hby at_55) rfl rfl (q := 57) rfl ?_
      refine s_iload X hx (hb hby at_57) rfl (q := 59) rfl ?_
      refine callV X hx hZ hown (W := 0) (argsL := [(.int x4)]) (rest := []) (hw _ (List.mem_of_getElem? (i := 17) rfl)) (hw _ (List.mem_of_getElem? (i := 18) rfl)) (hw _ (List.mem_of_getElem? (i := 20) rfl)) (hw _ (List.mem_of_getElem? (i := 19) rfl)) (hw _ (List.mem_of_getElem? (i := 3) rfl)) (hw _ (List.mem_of_getElem? (i := 21) rfl)) (by decide) E_a47 (rm4_2_2 l Z a0 hw [] a47 x4 t65 x2 x3 h64 n0 sz F_a47_items F_a47_size E_a47 A_t65 E_t65 g_a47 g_t65 ne_a47_t65) eT (by decide) (by decide) (by decide) (by decide) (by rw [hml]; rfl) pd2 rfl rfl (Nat.le_of_ble_eq_true rfl) (hb hby at_59) (q := 62) rfl ?_
      intro v T Lc hQ X
      obtain ⟨h66, eT⟩ : ∃ z, T.heap = z := ⟨_, rfl⟩
      try rw [eT] at hQ
      obtain ⟨rfl, N', K', t67, st_t67, F_a47_items', F_a47_size', A_t67, E_t67⟩ := hQ
      have N := Fr.app N N'
      have g_t67 : n0 ≤ t67 := st_t67.elim (fun q => q ▸ g_t65) (fun q => Nat.le_trans sz q)
      have ne_a47_t67 : a47 ≠ t67 := st_t67.elim (fun q => q ▸ ne_a47_t65) (fun q => Nat.ne_of_lt (Nat.lt_of_lt_of_le E_a47.lt q))
      have E_a47 := E_a47.keep K'
      have sz : n0 ≤ h66.size := Nat.le_trans sz K'.1
      have F_a47_items := F_a47_items'
      have F_a47_size := F_a47_size'
      refine s_iload X hx (hb hby at_62) rfl (q := 64) rfl ?_
      refine s_iconst X hx (z := (3 : Int32)) (hb hby at_64) rfl (q := 65) rfl ?_
      refine f_icmp_le X hx (hb hby at_65) (q1 := 75) (by decide) (by decide) (q := 68) rfl (fun _ => ?_) (fun hq => absurd hq (by decide : ¬ (3 : Int32) < (3 : Int32)))
      refine s_aload X hx (hb hby at_75) rfl rfl (q := 77) rfl ?_
      refine callV X hx hZ hown (W := 0) (argsL := []) (rest := []) (hw _ (List.mem_of_getElem? (i := 35) rfl)) (hw _ (List.mem_of_getElem? (i := 36) rfl)) (hw _ (List.mem_of_getElem? (i := 38) rfl)) (hw _ (List.mem_of_getElem? (i := 37) rfl)) (hw _ (List.mem_of_getElem? (i := 3) rfl)) (hw _ (List.mem_of_getElem? (i := 39) rfl)) (by decide) E_a47 (rm7_3_3 l Z a0 hw [] a47 t67 x2 x3 x4 h66 n0 sz F_a47_items F_a47_size A_t67 E_t67) eT (by decide) (by decide) (by decide) (by decide) (by rw [hml]; rfl) pd3 rfl rfl (Nat.le_of_ble_eq_true rfl) (hb hby at_77) (q := 80) rfl ?_
      intro v T Lc hQ X
      obtain ⟨h68, eT⟩ : ∃ z, T.heap = z := ⟨_, rfl⟩
      try rw [eT] at hQ
      obtain ⟨t69, rfl, N', K', st_t69, A_t69⟩ := hQ
      have N := Fr.app N N'
      have g_t69 : n0 ≤ t69 := Nat.le_trans sz st_t69
      have ne_a47_t69 : a47 ≠ t69 := Nat.ne_of_lt (Nat.lt_of_lt_of_le E_a47.lt st_t69)
      have ne_t67_t69 : t67 ≠ t69 := Nat.ne_of_lt (Nat.lt_of_lt_of_le A_t67.lt st_t69)
      have E_a47 := E_a47.keep K'
      have F_a47_items := F_a47_items.keep K' nin0
      have F_a47_size := F_a47_size.keep K' nin0
      have A_t67 := A_t67.keep K' nin0
      have E_t67 := E_t67.keep K'
      have sz : n0 ≤ h68.size := Nat.le_trans sz K'.1
      refine s_astore X hx (hb hby at_80) rfl (L' := #[.val (.int x0), .val (.int x1), .val (.int x2), .val (.int x3), .val (.int x4), .val (.int x5), .val (.int ((x0 &&& (3 : Int32)) - (1 : Int32))), .val (.int (3 : Int32)), .val (.ref a47), .val (.ref t69)]) rfl (q := 82) rfl ?_
      refine s_aload X hx (hb hby at_82) rfl rfl (q := 84) rfl ?_
      refine s_ifnullNo X hx (hb hby at_84) (q := 87) rfl ?_
      refine s_aload X hx (hb hby at_87) rfl rfl (q := 89) rfl ?_
      refine s_lenI X hx hZ eT (z := (3 : Int32)) A_t69 rfl (hb hby at_89) (q := 90) rfl ?_
      refine s_iload X hx (hb hby at_90) rfl (q := 92) rfl ?_
      refine f_icmp_eq X hx (hb hby at_92) (q1 := 97) (by decide) (by decide) (q := 95) rfl (fun _ => ?_) (fun hq => absurd (by decide : (3 : Int32) = (3 : Int32)) hq)
      refine s_iload X hx (hb hby at_97) rfl (q := 99) rfl ?_
      refine f_if_le X hx (hb hby at_99) (q1 := 112) (by decide) (by decide) (q := 102) rfl (fun hq => absurd (by decide : 0 < (3 : Int32)) hq) (fun _ => ?_)
      refine s_aload X hx (hb hby at_102) rfl rfl (q := 104) rfl ?_
      refine s_iconst X hx (z := (0 : Int32)) (hb hby at_104) rfl (q := 105) rfl ?_
      refine s_iaload X hx hZ eT A_t69 (by decide) (i := 0) rfl (x := x2) rfl (hb hby at_105) (q := 106) rfl ?_
      refine s_iloadN X hx (hb hby at_106) rfl (q := 107) rfl ?_
      refine f_icmp_eq X hx (hb hby at_107) (q1 := 112) (by decide) (by decide) (q := 110) rfl (fun _ => ?_) (fun hq => absurd (rfl : x2 = x2) hq)
      refine s_iload X hx (hb hby at_112) rfl (q := 114) rfl ?_
      refine s_iconst X hx (z := (1 : Int32)) (hb hby at_114) rfl (q := 115) rfl ?_
      refine f_icmp_le X hx (hb hby at_115) (q1 := 128) (by decide) (by decide) (q := 118) rfl (fun hq => absurd (by decide : (1 : Int32) < (3 : Int32)) hq) (fun _ => ?_)
      refine s_aload X hx (hb hby at_118) rfl rfl (q := 120) rfl ?_
      refine s_iconst X hx (z := (1 : Int32)) (hb hby at_120) rfl (q := 121) rfl ?_
      refine s_iaload X hx hZ eT A_t69 (by decide) (i := 1) rfl (x := x3) rfl (hb hby at_121) (q := 122) rfl ?_
      refine s_iloadN X hx (hb hby at_122) rfl (q := 123) rfl ?_
      refine f_icmp_eq X hx (hb hby at_123) (q1 := 128) (by decide) (by decide) (q := 126) rfl (fun _ => ?_) (fun hq => absurd (rfl : x3 = x3) hq)
      refine s_iload X hx (hb hby at_128) rfl (q := 130) rfl ?_
      refine s_iconst X hx (z := (2 : Int32)) (hb hby at_130) rfl (q := 131) rfl ?_
      refine f_icmp_le X hx (hb hby at_131) (q1 := 145) (by decide) (by decide) (q := 134) rfl (fun hq => absurd (by decide : (2 : Int32) < (3 : Int32)) hq) (fun _ => ?_)
      refine s_aload X hx (hb hby at_134) rfl rfl (q := 136) rfl ?_
      refine s_iconst X hx (z := (2 : Int32)) (hb hby at_136) rfl (q := 137) rfl ?_
      refine s_iaload X hx hZ eT A_t69 (by decide) (i := 2) rfl (x := x4) rfl (hb hby at_137) (q := 138) rfl ?_
      refine s_iload X hx (hb hby at_138) rfl (q := 140) rfl ?_
      refine f_icmp_eq X hx (hb hby at_140) (q1 := 145) (by decide) (by decide) (q := 143) rfl (fun _ => ?_) (fun hq => absurd (rfl : x4 = x4) hq)
      refine s_iload X hx (hb hby at_145) rfl (q := 147) rfl ?_
      refine s_iconst X hx (z := (3 : Int32)) (hb hby at_147) rfl (q := 148) rfl ?_
      refine f_icmp_le X hx (hb hby at_148) (q1 := 162) (by decide) (by decide) (q := 151) rfl (fun _ => ?_) (fun hq => absurd hq (by decide : ¬ (3 : Int32) < (3 : Int32)))
      refine s_iload X hx (hb hby at_162) rfl (q := 164) rfl ?_
      refine f_if_le X hx (hb hby at_164) (q1 := 189) (by decide) (by decide) (q := 167) rfl (fun hq => absurd (by decide : 0 < (3 : Int32)) hq) (fun _ => ?_)
      refine s_aload X hx (hb hby at_167) rfl rfl (q := 169) rfl ?_
      refine s_iconst X hx (z := (0 : Int32)) (hb hby at_169) rfl (q := 170) rfl ?_
      refine s_aload X hx (hb hby at_170) rfl rfl (q := 172) rfl ?_
      refine s_iconst X hx (z := (0 : Int32)) (hb hby at_172) rfl (q := 173) rfl ?_
      refine s_iaload X hx hZ eT A_t69 (by decide) (i := 0) rfl (x := x2) rfl (hb hby at_173) (q := 174) rfl ?_
      refine s_iconst X hx (z := (-1 : Int32)) (hb hby at_174) rfl (q := 175) rfl ?_
      refine s_ixor X hx (hb hby at_175) (q := 176) rfl ?_
      refine s_iastore X hx hZ eT A_t69 N g_t69 (by decide) (i := 0) rfl (Nat.le_of_ble_eq_true rfl) (ys := [(x2 ^^^ (-1 : Int32)), x3, x4]) rfl (hb hby at_176) (q := 177) rfl ?_
      intro T h70 _ X N eT W A_t69'
      have E_a47 := E_a47.wr W
      have F_a47_items := F_a47_items.other W (Or.inl ne_a47_t69)
      have F_a47_size := F_a47_size.other W (Or.inl ne_a47_t69)
      have A_t67 := A_t67.other W ne_t67_t69
      have E_t67 := E_t67.wr W
      have sz : n0 ≤ h70.size := by rw [W.size]; exact sz
      have A_t69 := A_t69'
      refine s_aload X hx (hb hby at_177) rfl rfl (q := 179) rfl ?_
      refine s_iconst X hx (z := (0 : Int32)) (hb hby at_179) rfl (q := 180) rfl ?_
      refine callV X hx hZ hown (W := 0) (argsL := [(.int (0 : Int32))]) (rest := []) (hw _ (List.mem_of_getElem? (i := 49) rfl)) (hw _ (List.mem_of_getElem? (i := 50) rfl)) (hw _ (List.mem_of_getElem? (i := 52) rfl)) (hw _ (List.mem_of_getElem? (i := 51) rfl)) (hw _ (List.mem_of_getElem? (i := 3) rfl)) (hw _ (List.mem_of_getElem? (i := 53) rfl)) (by decide) E_a47 (rm8 l Z a0 hw [] a47 (0 : Int32) t67 (3 : Int32) ([x2, x3, x4]) x2 h70 n0 sz F_a47_items F_a47_size A_t67 (by decide) (by decide) rfl) eT (by decide) (by decide) (by decide) (by decide) (by rw [hml]; rfl) pd4 rfl rfl (Nat.le_of_ble_eq_true rfl) (hb hby at_180) (q := 183) rfl ?_
      intro v T Lc hQ X
      obtain ⟨rfl, eT, N'⟩ := hQ
      have N := Fr.app N N'
      refine s_iloadN X hx (hb hby at_183) rfl (q := 184) rfl ?_
      refine f_icmp_eq X hx (hb hby at_184) (q1 := 189) (by decide) (by decide) (q := 187) rfl (fun _ => ?_) (fun hq => absurd (rfl : x2 = x2) hq)
      refine s_iconst X hx (z := (1 : Int32)) (hb hby at_189) rfl (q := 190) rfl ?_
      exact leafN X hx hlk hret (by simp) (hb hby at_190) (by decide) (by decide) (z' := 1) rfl ⟨rfl, N⟩
  · subst hcase
    refine s_new X hx hZ hown (hw _ (List.mem_of_getElem? (i := 1) rfl)) (hw _ (List.mem_of_getElem? (i := 2) rfl)) (hw _ (List.mem_of_getElem? (i := 3) rfl)) eT (by decide) (by decide) (hb hby at_15) (q := 18) rfl ?_
    intro T h72 a71 X eT E ea E_a71' Df
    have g_a71 : n0 ≤ a71 := by rw [ea]; exact sz
    have sz : n0 ≤ h72.size := Nat.le_trans sz E.1
    have E_a71 := E_a71'
    have F_a71_items : Fld Z h72 a71 "com/example/akin/akin/engine/IntList" "items" "[I" .null := Df _ _ _ (.array .int) (Or.inl (hw _ (List.mem_of_getElem? (i := 16) rfl))) (by decide)
    have F_a71_size : Fld Z h72 a71 "com/example/akin/akin/engine/IntList" "size" "I" (.int (0 : Int32)) := Df _ _ _ .int (Or.inl (hw _ (List.mem_of_getElem? (i := 23) rfl))) (by decide)
    refine s_dup X hx (hb hby at_18) rfl (q := 19) rfl ?_
    refine s_iload X hx (hb hby at_19) rfl (q := 21) rfl ?_
    rcases own_m x0 with hmax | hmax
    · refine callI X hx hZ hown (W := 1) (argsL := [(.int ((x0 &&& (3 : Int32)) - (1 : Int32)))]) (rest := [(.ref a71)]) rfl (hw _ (List.mem_of_getElem? (i := 4) rfl)) (hw _ (List.mem_of_getElem? (i := 5) rfl)) (hw _ (List.mem_of_getElem? (i := 3) rfl)) (hw _ (List.mem_of_getElem? (i := 6) rfl)) (by decide) (rm1_1 l Z a0 hw [] a71 ((x0 &&& (3 : Int32)) - (1 : Int32)) h72 n0 sz F_a71_items F_a71_size E_a71 g_a71 hmax) eT (by decide) (by decide) (by decide) (by decide) (by rw [hml]; rfl) pd2 rfl rfl (Nat.le_of_ble_eq_true rfl) (hb hby at_21) (q := 24) rfl ?_
      intro v T Lc hQ X
      obtain ⟨h73, eT⟩ : ∃ z, T.heap = z := ⟨_, rfl⟩
      try rw [eT] at hQ
      obtain ⟨rfl, N', K', t74, st_t74, F_a71_items', F_a71_size', A_t74, E_t74⟩ := hQ
      have N := Fr.app N N'
      have g_t74 : n0 ≤ t74 := Nat.le_trans sz st_t74
      have ne_a71_t74 : a71 ≠ t74 := Nat.ne_of_lt (Nat.lt_of_lt_of_le E_a71.lt st_t74)
      have E_a71 := E_a71.keep K'
      have sz : n0 ≤ h73.size := Nat.le_trans sz K'.1
      have F_a71_items := F_a71_items'
      have F_a71_size := F_a71_size'
      refine s_astore X hx (hb hby at_24) rfl (L' := #[.val (.int x0), .val (.int x1), .val (.int x2), .val (.int x3), .val (.int x4), .val (.int x5), .val (.int ((x0 &&& (3 : Int32)) - (1 : Int32))), .val (.int (4 : Int32)), .val (.ref a71), .unset]) rfl (q := 26) rfl ?_
      refine s_iload X hx (hb hby at_26) rfl (q := 28) rfl ?_
      refine f_if_le X hx (hb hby at_28) (q1 := 37) (by decide) (by decide) (q := 31) rfl (fun hq => absurd (by decide : 0 < (4 : Int32)) hq) (fun _ => ?_)
      refine s_aload X hx (hb hby at_31) rfl rfl (q := 33) rfl ?_
      refine s_iloadN X hx (hb hby at_33) rfl (q := 34) rfl ?_
      refine callV X hx hZ hown (W := 0) (argsL := [(.int x2)]) (rest := []) (hw _ (List.mem_of_getElem? (i := 17) rfl)) (hw _ (List.mem_of_getElem? (i := 18) rfl)) (hw _ (List.mem_of_getElem? (i := 20) rfl)) (hw _ (List.mem_of_getElem? (i := 19) rfl)) (hw _ (List.mem_of_getElem? (i := 3) rfl)) (hw _ (List.mem_of_getElem? (i := 21) rfl)) (by decide) E_a71 (rm4_0_1 l Z a0 hw [] a71 x2 t74 0 h73 n0 sz F_a71_items F_a71_size E_a71 A_t74 E_t74 g_a71 g_t74 ne_a71_t74) eT (by decide) (by decide) (by decide) (by decide) (by rw [hml]; rfl) pd2 rfl rfl (Nat.le_of_ble_eq_true rfl) (hb hby at_34) (q := 37) rfl ?_
      intro v T Lc hQ X
      obtain ⟨h75, eT⟩ : ∃ z, T.heap = z := ⟨_, rfl⟩
      try rw [eT] at hQ
      obtain ⟨rfl, N', K', t76, st_t76, F_a71_items', F_a71_size', A_t76, E_t76⟩ := hQ
      have N := Fr.app N N'
      have g_t76 : n0 ≤ t76 := st_t76.elim (fun q => q ▸ g_t74) (fun q => Nat.le_trans sz q)
      have ne_a71_t76 : a71 ≠ t76 := st_t76.elim (fun q => q ▸ ne_a71_t74) (fun q => Nat.ne_of_lt (Nat.lt_of_lt_of_le E_a71.lt q))
      have E_a71 := E_a71.keep K'
      have sz : n0 ≤ h75.size := Nat.le_trans sz K'.1
      have F_a71_items := F_a71_items'
      have F_a71_size := F_a71_size'
      refine s_iload X hx (hb hby at_37) rfl (q := 39) rfl ?_
      refine s_iconst X hx (z := (1 : Int32)) (hb hby at_39) rfl (q := 40) rfl ?_
      refine f_icmp_le X hx (hb hby at_40) (q1 := 49) (by decide) (by decide) (q := 43) rfl (fun hq => absurd (by decide : (1 : Int32) < (4 : Int32)) hq) (fun _ => ?_)
      refine s_aload X hx (hb hby at_43) rfl rfl (q := 45) rfl ?_
      refine s_iloadN X hx (hb hby at_45) rfl (q := 46) rfl ?_
      refine callV X hx hZ hown (W := 0) (argsL := [(.int x3)]) (rest := []) (hw _ (List.mem_of_getElem? (i := 17) rfl)) (hw _ (List.mem_of_getElem? (i := 18) rfl)) (hw _ (List.mem_of_getElem? (i := 20) rfl)) (hw _ (List.mem_of_getElem? (i := 19) rfl)) (hw _ (List.mem_of_getElem? (i := 3) rfl)) (hw _ (List.mem_of_getElem? (i := 21) rfl)) (by decide) E_a71 (rm4_1_1 l Z a0 hw [] a71 x3 t76 x2 h75 n0 sz F_a71_items F_a71_size E_a71 A_t76 E_t76 g_a71 g_t76 ne_a71_t76) eT (by decide) (by decide) (by decide) (by decide) (by rw [hml]; rfl) pd2 rfl rfl (Nat.le_of_ble_eq_true rfl) (hb hby at_46) (q := 49) rfl ?_
      intro v T Lc hQ X
      obtain ⟨h77, eT⟩ : ∃ z, T.heap = z := ⟨_, rfl⟩
      try rw [eT] at hQ
      obtain ⟨rfl, N', K', t78, st_t78, F_a71_items', F_a71_size', A_t78, E_t78⟩ := hQ
      have N := Fr.app N N'
      have g_t78 : n0 ≤ t78 := st_t78.elim (fun q => q ▸ g_t76) (fun q => Nat.le_trans sz q)
      have ne_a71_t78 : a71 ≠ t78 := st_t78.elim (fun q => q ▸ ne_a71_t76) (fun q => Nat.ne_of_lt (Nat.lt_of_lt_of_le E_a71.lt q))
      have E_a71 := E_a71.keep K'
      have sz : n0 ≤ h77.size := Nat.le_trans sz K'.1
      have F_a71_items := F_a71_items'
      have F_a71_size := F_a71_size'
      refine s_iload X hx (hb hby at_49) rfl (q := 51) rfl ?_
      refine s_iconst X hx (z := (2 : Int32)) (hb hby at_51) rfl (q := 52) rfl ?_
      refine f_icmp_le X hx (hb hby at_52) (q1 := 62) (by decide) (by decide) (q := 55) rfl (fun hq => absurd (by decide : (2 : Int32) < (4 : Int32)) hq) (fun _ => ?_)
      refine s_aload X hx (hb hby at_55) rfl rfl (q := 57) rfl ?_
      refine s_iload X hx (hb hby at_57) rfl (q := 59) rfl ?_
      refine callV X hx hZ hown (W := 0) (argsL := [(.int x4)]) (rest := []) (hw _ (List.mem_of_getElem? (i := 17) rfl)) (hw _ (List.mem_of_getElem? (i := 18) rfl)) (hw _ (List.mem_of_getElem? (i := 20) rfl)) (hw _ (List.mem_of_getElem? (i := 19) rfl)) (hw _ (List.mem_of_getElem? (i := 3) rfl)) (hw _ (List.mem_of_getElem? (i := 21) rfl)) (by decide) E_a71 (rm4_2_2 l Z a0 hw [] a71 x4 t78 x2 x3 h77 n0 sz F_a71_items F_a71_size E_a71 A_t78 E_t78 g_a71 g_t78 ne_a71_t78) eT (by decide) (by decide) (by decide) (by decide) (by rw [hml]; rfl) pd2 rfl rfl (Nat.le_of_ble_eq_true rfl) (hb hby at_59) (q := 62) rfl ?_
      intro v T Lc hQ X
      obtain ⟨h79, eT⟩ : ∃ z, T.heap = z := ⟨_, rfl⟩
      try rw [eT] at hQ
      obtain ⟨rfl, N', K', t80, st_t80, F_a71_items', F_a71_size', A_t80, E_t80⟩ := hQ
      have N := Fr.app N N'
      have g_t80 : n0 ≤ t80 := st_t80.elim (fun q => q ▸ g_t78) (fun q => Nat.le_trans sz q)
      have ne_a71_t80 : a71 ≠ t80 := st_t80.elim (fun q => q ▸ ne_a71_t78) (fun q => Nat.ne_of_lt (Nat.lt_of_lt_of_le E_a71.lt q))
      have E_a71 := E_a71.keep K'
      have sz : n0 ≤ h79.size := Nat.le_trans sz K'.1
      have F_a71_items := F_a71_items'
      have F_a71_size := F_a71_size'
      refine s_iload X hx (hb hby at_62) rfl (q := 64) rfl ?_
      refine s_iconst X hx (z := (3 : Int32)) (hb hby at_64) rfl (q := 65) rfl ?_
      refine f_icmp_le X hx (hb hby at_65) (q1 := 75) (by decide) (by decide) (q := 68) rfl (fun hq => absurd (by decide : (3 : Int32) < (4 : Int32)) hq) (fun _ => ?_)
      refine s_aload X hx (hb hby at_68) rfl rfl (q := 70) rfl ?_
      refine s_iload X hx (hb hby at_70) rfl (q := 72) rfl ?_
      refine callV X hx hZ hown (W := 0) (argsL := [(.int x5)]) (rest := []) (hw _ (List.mem_of_getElem? (i := 17) rfl)) (hw _ (List.mem_of_getElem? (i := 18) rfl)) (hw _ (List.mem_of_getElem? (i := 20) rfl)) (hw _ (List.mem_of_getElem? (i := 19) rfl)) (hw _ (List.mem_of_getElem? (i := 3) rfl)) (hw _ (List.mem_of_getElem? (i := 21) rfl)) (by decide) E_a71 (rm4_3_3 l Z a0 hw [] a71 x5 t80 x2 x3 x4 h79 n0 sz F_a71_items F_a71_size E_a71 A_t80 E_t80 g_a71 g_t80 ne_a71_t80) eT (by decide) (by decide) (by decide) (by decide) (by rw [hml]; rfl) pd2 rfl rfl (Nat.le_of_ble_eq_true rfl) (hb hby at_72) (q := 75) rfl ?_
      intro v T Lc hQ X
      obtain ⟨h81, eT⟩ : ∃ z, T.heap = z := ⟨_, rfl⟩
      try rw [eT] at hQ
      obtain ⟨rfl, N', K', t82, st_t82, F_a71_items', F_a71_size', A_t82, E_t82⟩ := hQ
      have N := Fr.app N N'
      have g_t82 : n0 ≤ t82 := st_t82.elim (fun q => q ▸ g_t80) (fun q => Nat.le_trans sz q)
      have ne_a71_t82 : a71 ≠ t82 := st_t82.elim (fun q => q ▸ ne_a71_t80) (fun q => Nat.ne_of_lt (Nat.lt_of_lt_of_le E_a71.lt q))
      have E_a71 := E_a71.keep K'
      have sz : n0 ≤ h81.size := Nat.le_trans sz K'.1
      have F_a71_items := F_a71_items'
      have F_a71_size := F_a71_size'
      refine s_aload X hx (hb hby at_75) rfl rfl (q := 77) rfl ?_
      refine callV X hx hZ hown (W := 0) (argsL := []) (rest := []) (hw _ (List.mem_of_getElem? (i := 35) rfl)) (hw _ (List.mem_of_getElem? (i := 36) rfl)) (hw _ (List.mem_of_getElem? (i := 38) rfl)) (hw _ (List.mem_of_getElem? (i := 37) rfl)) (hw _ (List.mem_of_getElem? (i := 3) rfl)) (hw _ (List.mem_of_getElem? (i := 39) rfl)) (by decide) E_a71 (rm7_4_4 l Z a0 hw [] a71 t82 x2 x3 x4 x5 h81 n0 sz F_a71_items F_a71_size A_t82 E_t82) eT (by decide) (by decide) (by decide) (by decide) (by rw [hml]; rfl) pd3 rfl rfl (Nat.le_of_ble_eq_true rfl) (hb hby at_77) (q := 80) rfl ?_
      intro v T Lc hQ X
      obtain ⟨h83, eT⟩ : ∃ z, T.heap = z := ⟨_, rfl⟩
      try rw [eT] at hQ
      obtain ⟨t84, rfl, N', K', st_t84, A_t84⟩ := hQ
      have N := Fr.app N N'
      have g_t84 : n0 ≤ t84 := Nat.le_trans sz st_t84
      have ne_a71_t84 : a71 ≠ t84 := Nat.ne_of_lt (Nat.lt_of_lt_of_le E_a71.lt st_t84)
      have ne_t82_t84 : t82 ≠ t84 := Nat.ne_of_lt (Nat.lt_of_lt_of_le A_t82.lt st_t84)
      have E_a71 := E_a71.keep K'
      have F_a71_items := F_a71_items.keep K' nin0
      have F_a71_size := F_a71_size.keep K' nin0
      have A_t82 := A_t82.keep K' nin0
      have E_t82 := E_t82.keep K'
      have sz : n0 ≤ h83.size := Nat.le_trans sz K'.1
      refine s_astore X hx (hb hby at_80) rfl (L' := #[.val (.int x0), .val (.int x1), .val (.int x2), .val (.int x3), .val (.int x4), .val (.int x5), .val (.int ((x0 &&& (3 : Int32)) - (1 : Int32))), .val (.int (4 : Int32)), .val (.ref a71), .val (.ref t84)]) rfl (q := 82) rfl ?_
      refine s_aload X hx (hb hby at_82) rfl rfl (q := 84) rfl ?_
      refine s_ifnullNo X hx (hb hby at_84) (q := 87) rfl ?_
      refine s_aload X hx (hb hby at_87) rfl rfl (q := 89) rfl ?_
      refine s_lenI X hx hZ eT (z := (4 : Int32)) A_t84 rfl (hb hby at_89) (q := 90) rfl ?_
      refine s_iload X hx (hb hby at_90) rfl (q := 92) rfl ?_
      refine f_icmp_eq X hx (hb hby at_92) (q1 := 97) (by decide) (by decide) (q := 95) rfl (fun _ => ?_) (fun hq => absurd (by decide : (4 : Int32) = (4 : Int32)) hq)
      refine s_iload X hx (hb hby at_97) rfl (q := 99) rfl ?_
      refine f_if_le X hx (hb hby at_99) (q1 := 112) (by decide) (by decide) (q := 102) rfl (fun hq => absurd (by decide : 0 < (4 : Int32)) hq) (fun _ => ?_)
      refine s_aload X hx (hb hby at_102) rfl rfl (q := 104) rfl ?_
      refine s_iconst X hx (z := (0 : Int32)) (hb hby at_104) rfl (q := 105) rfl ?_
      refine s_iaload X hx hZ eT A_t84 (by decide) (i := 0) rfl (x := x2) rfl (hb hby at_105) (q := 106) rfl ?_
      refine s_iloadN X hx (hb hby at_106) rfl (q := 107) rfl ?_
      refine f_icmp_eq X hx (hb hby at_107) (q1 := 112) (by decide) (by decide) (q := 110) rfl (fun _ => ?_) (fun hq => absurd (rfl : x2 = x2) hq)
      refine s_iload X hx (hb hby at_112) rfl (q := 114) rfl ?_
      refine s_iconst X hx (z := (1 : Int32)) (hb hby at_114) rfl (q := 115) rfl ?_
      refine f_icmp_le X hx (hb hby at_115) (q1 := 128) (by decide) (by decide) (q := 118) rfl (fun hq => absurd (by decide : (1 : Int32) < (4 : Int32)) hq) (fun _ => ?_)
      refine s_aload X hx (hb hby at_118) rfl rfl (q := 120) rfl ?_
      refine s_iconst X hx (z := (1 : Int32)) (hb hby at_120) rfl (q := 121) rfl ?_
      refine s_iaload X hx hZ eT A_t84 (by decide) (i := 1) rfl (x := x3) rfl (hb hby at_121) (q := 122) rfl ?_
      refine s_iloadN X hx (hb hby at_122) rfl (q := 123) rfl ?_
      refine f_icmp_eq X hx (hb hby at_123) (q1 := 128) (by decide) (by decide) (q := 126) rfl (fun _ => ?_) (fun hq => absurd (rfl : x3 = x3) hq)
      refine s_iload X hx (hb hby at_128) rfl (q := 130) rfl ?_
      refine s_iconst X hx (z := (2 : Int32)) (hb hby at_130) rfl (q := 131) rfl ?_
      refine f_icmp_le X hx (hb hby at_131) (q1 := 145) (by decide) (by decide) (q := 134) rfl (fun hq => absurd (by decide : (2 : Int32) < (4 : Int32)) hq) (fun _ => ?_)
      refine s_aload X hx (hb hby at_134) rfl rfl (q := 136) rfl ?_
      refine s_iconst X hx (z := (2 : Int32)) (hb hby at_136) rfl (q := 137) rfl ?_
      refine s_iaload X hx hZ eT A_t84 (by decide) (i := 2) rfl (x := x4) rfl (hb hby at_137) (q := 138) rfl ?_
      refine s_iload X hx (hb hby at_138) rfl (q := 140) rfl ?_
      refine f_icmp_eq X hx (hb hby at_140) (q1 := 145) (by decide) (by decide) (q := 143) rfl (fun _ => ?_) (fun hq => absurd (rfl : x4 = x4) hq)
      refine s_iload X hx (hb hby at_145) rfl (q := 147) rfl ?_
      refine s_iconst X hx (z := (3 : Int32)) (hb hby at_147) rfl (q := 148) rfl ?_
      refine f_icmp_le X hx (hb hby at_148) (q1 := 162) (by decide) (by decide) (q := 151) rfl (fun hq => absurd (by decide : (3 : Int32) < (4 : Int32)) hq) (fun _ => ?_)
      refine s_aload X hx (hb hby at_151) rfl rfl (q := 153) rfl ?_
      refine s_iconst X hx (z := (3 : Int32)) (hb hby at_153) rfl (q := 154) rfl ?_
      refine s_iaload X hx hZ eT A_t84 (by decide) (i := 3) rfl (x := x5) rfl (hb hby at_154) (q := 155) rfl ?_
      refine s_iload X hx (hb hby at_155) rfl (q := 157) rfl ?_
      refine f_icmp_eq X hx (hb hby at_157) (q1 := 162) (by decide) (by decide) (q := 160) rfl (fun _ => ?_) (fun hq => absurd (rfl : x5 = x5) hq)
      refine s_iload X hx (hb hby at_162) rfl (q := 164) rfl ?_
      refine f_if_le X hx (hb hby at_164) (q1 := 189) (by decide) (by decide) (q := 167) rfl (fun hq => absurd (by decide : 0 < (4 : Int32)) hq) (fun _ => ?_)
      refine s_aload X hx (hb hby at_167) rfl rfl (q := 169) rfl ?_
      refine s_iconst X hx (z := (0 : Int32)) (hb hby at_169) rfl (q := 170) rfl ?_
      refine s_aload X hx (hb hby at_170) rfl rfl (q := 172) rfl ?_
      refine s_iconst X hx (z := (0 : Int32)) (hb hby at_172) rfl (q := 173) rfl ?_
      refine s_iaload X hx hZ eT A_t84 (by decide) (i := 0) rfl (x := x2) rfl (hb hby at_173) (q := 174) rfl ?_
      refine s_iconst X hx (z := (-1 : Int32)) (hb hby at_174) rfl (q := 175) rfl ?_
      refine s_ixor X hx (hb hby at_175) (q := 176) rfl ?_
      refine s_iastore X hx hZ eT A_t84 N g_t84 (by decide) (i := 0) rfl (Nat.le_of_ble_eq_true rfl) (ys := [(x2 ^^^ (-1 : Int32)), x3, x4, x5]) rfl (hb hby at_176) (q := 177) rfl ?_
      intro T h85 _ X N eT W A_t84'
      have E_a71 := E_a71.wr W
      have F_a71_items := F_a71_items.other W (Or.inl ne_a71_t84)
      have F_a71_size := F_a71_size.other W (Or.inl ne_a71_t84)
      have A_t82 := A_t82.other W ne_t82_t84
      have E_t82 := E_t82.wr W
      have sz : n0 ≤ h85.size := by rw [W.size]; exact sz
      have A_t84 := A_t84'
      refine s_aload X hx (hb hby at_177) rfl rfl (q := 179) rfl ?_
      refine s_iconst X hx (z := (0 : Int32)) (hb hby at_179) rfl (q := 180) rfl ?_
      refine callV X hx hZ hown (W := 0) (argsL := [(.int (0 : Int32))]) (rest := []) (hw _ (List.mem_of_getElem? (i := 49) rfl)) (hw _ (List.mem_of_getElem? (i := 50) rfl)) (hw _ (List.mem_of_getElem? (i := 52) rfl)) (hw _ (List.mem_of_getElem? (i := 51) rfl)) (hw _ (List.mem_of_getElem? (i := 3) rfl)) (hw _ (List.mem_of_getElem? (i := 53) rfl)) (by decide) E_a71 (rm8 l Z a0 hw [] a71 (0 : Int32) t82 (4 : Int32) ([x2, x3, x4, x5]) x2 h85 n0 sz F_a71_items F_a71_size A_t82 (by decide) (by decide) rfl) eT (by decide) (by decide) (by decide) (by decide) (by rw [hml]; rfl) pd4 rfl rfl (Nat.le_of_ble_eq_true rfl) (hb hby at_180) (q := 183) rfl ?_
      intro v T Lc hQ X
      obtain ⟨rfl, eT, N'⟩ := hQ
      have N := Fr.app N N'
      refine s_iloadN X hx (hb hby at_183) rfl (q := 184) rfl ?_
      refine f_icmp_eq X hx (hb hby at_184) (q1 := 189) (by decide) (by decide) (q := 187) rfl (fun _ => ?_) (fun hq => absurd (rfl : x2 = x2) hq)
      refine s_iconst X hx (z := (1 : Int32)) (hb hby at_189) rfl (q := 190) rfl ?_
      exact leafN X hx hlk hret (by simp) (hb hby at_190) (by decide) (by decide) (z' := 1) rfl ⟨rfl, N⟩
    · refine callI X hx hZ hown (W := 1) (argsL := [(.int ((x0 &&& (3 : Int32)) - (1 : Int32)))]) (rest := [(.ref a71)]) rfl (hw _ (List.mem_of_getElem? (i := 4) rfl)) (hw _ (List.mem_of_getElem? (i := 5) rfl)) (hw _ (List.mem_of_getElem? (i := 3) rfl)) (hw _ (List.mem_of_getElem? (i := 6) rfl)) (by decide) (rm1_2 l Z a0 hw [] a71 ((x0 &&& (3 : Int32)) - (1 : Int32)) h72 n0 sz F_a71_items F_a71_size E_a71 g_a71 hmax) eT (by decide) (by decide) (by decide) (by decide) (by rw [hml]; rfl) pd2 rfl rfl (Nat.le_of_ble_eq_true rfl) (hb hby at_21) (q := 24) rfl ?_
      intro v T Lc hQ X
      obtain ⟨h86, eT⟩ : ∃ z, T.heap = z := ⟨_, rfl⟩
      try rw [eT] at hQ
      obtain ⟨rfl, N', K', t87, st_t87, F_a71_items', F_a71_size', A_t87, E_t87⟩ := hQ
      have N := Fr.app N N'
      have g_t87 : n0 ≤ t87 := Nat.le_trans sz st_t87
      have ne_a71_t87 : a71 ≠ t87 := Nat.ne_of_lt (Nat.lt_of_lt_of_le E_a71.lt st_t87)
      have E_a71 := E_a71.keep K'
      have sz : n0 ≤ h86.size := Nat.le_trans sz K'.1
      have F_a71_items := F_a71_items'
      have F_a71_size := F_a71_size'
      refine s_astore X hx (hb hby at_24) rfl (L' := #[.val (.int x0), .val (.int x1), .val (.int x2), .val (.int x3), .val (.int x4), .val (.int x5), .val (.int ((x0 &&& (3 : Int32)) - (1 : Int32))), .val (.int (4 : Int32)), .val (.ref a71), .unset]) rfl (q := 26) rfl ?_
      refine s_iload X hx (hb hby at_26) rfl (q := 28) rfl ?_
      refine f_if_le X hx (hb hby at_28) (q1 := 37) (by decide) (by decide) (q := 31) rfl (fun hq => absurd (by decide : 0 < (4 : Int32)) hq) (fun _ => ?_)
      refine s_aload X hx (hb hby at_31) rfl rfl (q := 33) rfl ?_
      refine s_iloadN X hx (hb hby at_33) rfl (q := 34) rfl ?_
      refine callV X hx hZ hown (W := 0) (argsL := [(.int x2)]) (rest := []) (hw _ (List.mem_of_getElem? (i := 17) rfl)) (hw _ (List.mem_of_getElem? (i := 18) rfl)) (hw _ (List.mem_of_getElem? (i := 20) rfl)) (hw _ (List.mem_of_getElem? (i := 19) rfl)) (hw _ (List.mem_of_getElem? (i := 3) rfl)) (hw _ (List.mem_of_getElem? (i := 21) rfl)) (by decide) E_a71 (rm4_0_2 l Z a0 hw [] a71 x2 t87 0 0 h86 n0 sz F_a71_items F_a71_size E_a71 A_t87 E_t87 g_a71 g_t87 ne_a71_t87) eT (by decide) (by decide) (by decide) (by decide) (by rw [hml]; rfl) pd2 rfl rfl (Nat.le_of_ble_eq_true rfl) (hb hby at_34) (q := 37) rfl ?_
      intro v T Lc hQ X
      obtain ⟨h88, eT⟩ : ∃ z, T.heap = z := ⟨_, rfl⟩
      try rw [eT] at hQ
      obtain ⟨rfl, N', K', t89, st_t89, F_a71_items', F_a71_size', A_t89, E_t89⟩ := hQ
      have N := Fr.app N N'
      have g_t89 : n0 ≤ t89 := st_t89.elim (fun q => q ▸ g_t87) (fun q => Nat.le_trans sz q)
      have ne_a71_t89 : a71 ≠ t89 := st_t89.elim (fun q => q ▸ ne_a71_t87) (fun q => Nat.ne_of_lt (Nat.lt_of_lt_of_le E_a71.lt q))
      have E_a71 := E_a71.keep K'
      have sz : n0 ≤ h88.size := Nat.le_trans sz K'.1
      have F_a71_items := F_a71_items'
      have F_a71_size := F_a71_size'
      refine s_iload X hx (hb hby at_37) rfl (q := 39) rfl ?_
      refine s_iconst X hx (z := (1 : Int32)) (hb hby at_39) rfl (q := 40) rfl ?_
      refine f_icmp_le X hx (hb hby at_40) (q1 := 49) (by decide) (by decide) (q := 43) rfl (fun hq => absurd (by decide : (1 : Int32) < (4 : Int32)) hq) (fun _ => ?_)
      refine s_aload X hx (hb hby at_43) rfl rfl (q := 45) rfl ?_
      refine s_iloadN X hx (hb hby at_45) rfl (q := 46) rfl ?_
      refine callV X hx hZ hown (W := 0) (argsL := [(.int x3)]) (rest := []) (hw _ (List.mem_of_getElem? (i := 17) rfl)) (hw _ (List.mem_of_getElem? (i := 18) rfl)) (hw _ (List.mem_of_getElem? (i := 20) rfl)) (hw _ (List.mem_of_getElem? (i := 19) rfl)) (hw _ (List.mem_of_getElem? (i := 3) rfl)) (hw _ (List.mem_of_getElem? (i := 21) rfl)) (by decide) E_a71 (rm4_1_2 l Z a0 hw [] a71 x3 t89 x2 0 h88 n0 sz F_a71_items F_a71_size E_a71 A_t89 E_t89 g_a71 g_t89 ne_a71_t89) eT (by decide) (by decide) (by decide) (by decide) (by rw [hml]; rfl) pd2 rfl rfl (Nat.le_of_ble_eq_true rfl) (hb hby at_46) (q := 49) rfl ?_
      intro v T Lc hQ X
      obtain ⟨h90, eT⟩ : ∃ z, T.heap = z := ⟨_, rfl⟩
      try rw [eT] at hQ
      obtain ⟨rfl, N', K', t91, st_t91, F_a71_items', F_a71_size', A_t91, E_t91⟩ := hQ
      have N := Fr.app N N'
      have g_t91 : n0 ≤ t91 := st_t91.elim (fun q => q ▸ g_t89) (fun q => Nat.le_trans sz q)
      have ne_a71_t91 : a71 ≠ t91 := st_t91.elim (fun q => q ▸ ne_a71_t89) (fun q => Nat.ne_of_lt (Nat.lt_of_lt_of_le E_a71.lt q))
      have E_a71 := E_a71.keep K'
      have sz : n0 ≤ h90.size := Nat.le_trans sz K'.1
      have F_a71_items := F_a71_items'
      have F_a71_size := F_a71_size'
      refine s_iload X hx (hb hby at_49) rfl (q := 51) rfl ?_
      refine s_iconst X hx (z := (2 : Int32)) (hb hby at_51) rfl (q := 52) rfl ?_
      refine f_icmp_le X hx (hb hby at_52) (q1 := 62) (by decide) (by decide) (q := 55) rfl (fun hq => absurd (by decide : (2 : Int32) < (4 : Int32)) hq) (fun _ => ?_)
      refine s_aload X hx (hb hby at_55) rfl rfl (q := 57) rfl ?_
      refine s_iload X hx (hb hby at_57) rfl (q := 59) rfl ?_
      refine callV X hx hZ hown (W := 0) (argsL := [(.int x4)]) (rest := []) (hw _ (List.mem_of_getElem? (i := 17) rfl)) (hw _ (List.mem_of_getElem? (i := 18) rfl)) (hw _ (List.mem_of_getElem? (i := 20) rfl)) (hw _ (List.mem_of_getElem? (i := 19) rfl)) (hw _ (List.mem_of_getElem? (i := 3) rfl)) (hw _ (List.mem_of_getElem? (i := 21) rfl)) (by decide) E_a71 (rm4_2_2 l Z a0 hw [] a71 x4 t91 x2 x3 h90 n0 sz F_a71_items F_a71_size E_a71 A_t91 E_t91 g_a71 g_t91 ne_a71_t91) eT (by decide) (by decide) (by decide) (by decide) (by rw [hml]; rfl) pd2 rfl rfl (Nat.le_of_ble_eq_true rfl) (hb hby at_59) (q := 62) rfl ?_
      intro v T Lc hQ X
      obtain ⟨h92, eT⟩ : ∃ z, T.heap = z := ⟨_, rfl⟩
      try rw [eT] at hQ
      obtain ⟨rfl, N', K', t93, st_t93, F_a71_items', F_a71_size', A_t93, E_t93⟩ := hQ
      have N := Fr.app N N'
      have g_t93 : n0 ≤ t93 := st_t93.elim (fun q => q ▸ g_t91) (fun q => Nat.le_trans sz q)
      have ne_a71_t93 : a71 ≠ t93 := st_t93.elim (fun q => q ▸ ne_a71_t91) (fun q => Nat.ne_of_lt (Nat.lt_of_lt_of_le E_a71.lt q))
      have E_a71 := E_a71.keep K'
      have sz : n0 ≤ h92.size := Nat.le_trans sz K'.1
      have F_a71_items := F_a71_items'
      have F_a71_size := F_a71_size'
      refine s_iload X hx (hb hby at_62) rfl (q := 64) rfl ?_
      refine s_iconst X hx (z := (3 : Int32)) (hb hby at_64) rfl (q := 65) rfl ?_
      refine f_icmp_le X hx (hb hby at_65) (q1 := 75) (by decide) (by decide) (q := 68) rfl (fun hq => absurd (by decide : (3 : Int32) < (4 : Int32)) hq) (fun _ => ?_)
      refine s_aload X hx (hb hby at_68) rfl rfl (q := 70) rfl ?_
      refine s_iload X hx (hb hby at_70) rfl (q := 72) rfl ?_
      refine callV X hx hZ hown (W := 0) (argsL := [(.int x5)]) (rest := []) (hw _ (List.mem_of_getElem? (i := 17) rfl)) (hw _ (List.mem_of_getElem? (i := 18) rfl)) (hw _ (List.mem_of_getElem? (i := 20) rfl)) (hw _ (List.mem_of_getElem? (i := 19) rfl)) (hw _ (List.mem_of_getElem? (i := 3) rfl)) (hw _ (List.mem_of_getElem? (i := 21) rfl)) (by decide) E_a71 (rm4_3_3 l Z a0 hw [] a71 x5 t93 x2 x3 x4 h92 n0 sz F_a71_items F_a71_size E_a71 A_t93 E_t93 g_a71 g_t93 ne_a71_t93) eT (by decide) (by decide) (by decide) (by decide) (by rw [hml]; rfl) pd2 rfl rfl (Nat.le_of_ble_eq_true rfl) (hb hby at_72) (q := 75) rfl ?_
      intro v T Lc hQ X
      obtain ⟨h94, eT⟩ : ∃ z, T.heap = z := ⟨_, rfl⟩
      try rw [eT] at hQ
      obtain ⟨rfl, N', K', t95, st_t95, F_a71_items', F_a71_size', A_t95, E_t95⟩ := hQ
      have N := Fr.app N N'
      have g_t95 : n0 ≤ t95 := st_t95.elim (fun q => q ▸ g_t93) (fun q => Nat.le_trans sz q)
      have ne_a71_t95 : a71 ≠ t95 := st_t95.elim (fun q => q ▸ ne_a71_t93) (fun q => Nat.ne_of_lt (Nat.lt_of_lt_of_le E_a71.lt q))
      have E_a71 := E_a71.keep K'
      have sz : n0 ≤ h94.size := Nat.le_trans sz K'.1
      have F_a71_items := F_a71_items'
      have F_a71_size := F_a71_size'
      refine s_aload X hx (hb hby at_75) rfl rfl (q := 77) rfl ?_
      refine callV X hx hZ hown (W := 0) (argsL := []) (rest := []) (hw _ (List.mem_of_getElem? (i := 35) rfl)) (hw _ (List.mem_of_getElem? (i := 36) rfl)) (hw _ (List.mem_of_getElem? (i := 38) rfl)) (hw _ (List.mem_of_getElem? (i := 37) rfl)) (hw _ (List.mem_of_getElem? (i := 3) rfl)) (hw _ (List.mem_of_getElem? (i := 39) rfl)) (by decide) E_a71 (rm7_4_4 l Z a0 hw [] a71 t95 x2 x3 x4 x5 h94 n0 sz F_a71_items F_a71_size A_t95 E_t95) eT (by decide) (by decide) (by decide) (by decide) (by rw [hml]; rfl) pd3 rfl rfl (Nat.le_of_ble_eq_true rfl) (hb hby at_77) (q := 80) rfl ?_
      intro v T Lc hQ X
      obtain ⟨h96, eT⟩ : ∃ z, T.heap = z := ⟨_, rfl⟩
      try rw [eT] at hQ
      obtain ⟨t97, rfl, N', K', st_t97, A_t97⟩ := hQ
      have N := Fr.app N N'
      have g_t97 : n0 ≤ t97 := Nat.le_trans sz st_t97
      have ne_a71_t97 : a71 ≠ t97 := Nat.ne_of_lt (Nat.lt_of_lt_of_le E_a71.lt st_t97)
      have ne_t95_t97 : t95 ≠ t97 := Nat.ne_of_lt (Nat.lt_of_lt_of_le A_t95.lt st_t97)
      have E_a71 := E_a71.keep K'
      have F_a71_items := F_a71_items.keep K' nin0
      have F_a71_size := F_a71_size.keep K' nin0
      have A_t95 := A_t95.keep K' nin0
      have E_t95 := E_t95.keep K'
      have sz : n0 ≤ h96.size := Nat.le_trans sz K'.1
      refine s_astore X hx (hb hby at_80) rfl (L' := #[.val (.int x0), .val (.int x1), .val (.int x2), .val (.int x3), .val (.int x4), .val (.int x5), .val (.int ((x0 &&& (3 : Int32)) - (1 : Int32))), .val (.int (4 : Int32)), .val (.ref a71), .val (.ref t97)]) rfl (q := 82) rfl ?_
      refine s_aload X hx (hb hby at_82) rfl rfl (q := 84) rfl ?_
      refine s_ifnullNo X hx (hb hby at_84) (q := 87) rfl ?_
      refine s_aload X hx (hb hby at_87) rfl rfl (q := 89) rfl ?_
      refine s_lenI X hx hZ eT (z := (4 : Int32)) A_t97 rfl (hb hby at_89) (q := 90) rfl ?_
      refine s_iload X hx (hb hby at_90) rfl (q := 92) rfl ?_
      refine f_icmp_eq X hx (hb hby at_92) (q1 := 97) (by decide) (by decide) (q := 95) rfl (fun _ => ?_) (fun hq => absurd (by decide : (4 : Int32) = (4 : Int32)) hq)
      refine s_iload X hx (hb hby at_97) rfl (q := 99) rfl ?_
      refine f_if_le X hx (hb hby at_99) (q1 := 112) (by decide) (by decide) (q := 102) rfl (fun hq => absurd (by decide : 0 < (4 : Int32)) hq) (fun _ => ?_)
      refine s_aload X hx (hb hby at_102) rfl rfl (q := 104) rfl ?_
      refine s_iconst X hx (z := (0 : Int32)) (hb hby at_104) rfl (q := 105) rfl ?_
      refine s_iaload X hx hZ eT A_t97 (by decide) (i := 0) rfl (x := x2) rfl (hb hby at_105) (q := 106) rfl ?_
      refine s_iloadN X hx (hb hby at_106) rfl (q := 107) rfl ?_
      refine f_icmp_eq X hx (hb hby at_107) (q1 := 112) (by decide) (by decide) (q := 110) rfl (fun _ => ?_) (fun hq => absurd (rfl : x2 = x2) hq)
      refine s_iload X hx (hb hby at_112) rfl (q := 114) rfl ?_
      refine s_iconst X hx (z := (1 : Int32)) (hb hby at_114) rfl (q := 115) rfl ?_
      refine f_icmp_le X hx (hb hby at_115) (q1 := 128) (by decide) (by decide) (q := 118) rfl (fun hq => absurd (by decide : (1 : Int32) < (4 : Int32)) hq) (fun _ => ?_)
      refine s_aload X hx (hb hby at_118) rfl rfl (q := 120) rfl ?_
      refine s_iconst X hx (z := (1 : Int32)) (hb hby at_120) rfl (q := 121) rfl ?_
      refine s_iaload X hx hZ eT A_t97 (by decide) (i := 1) rfl (x := x3) rfl (hb hby at_121) (q := 122) rfl ?_
      refine s_iloadN X hx (hb hby at_122) rfl (q := 123) rfl ?_
      refine f_icmp_eq X hx (hb hby at_123) (q1 := 128) (by decide) (by decide) (q := 126) rfl (fun _ => ?_) (fun hq => absurd (rfl : x3 = x3) hq)
      refine s_iload X hx (hb hby at_128) rfl (q := 130) rfl ?_
      refine s_iconst X hx (z := (2 : Int32)) (hb hby at_130) rfl (q := 131) rfl ?_
      refine f_icmp_le X hx (hb hby at_131) (q1 := 145) (by decide) (by decide) (q := 134) rfl (fun hq => absurd (by decide : (2 : Int32) < (4 : Int32)) hq) (fun _ => ?_)
      refine s_aload X hx (hb hby at_134) rfl rfl (q := 136) rfl ?_
      refine s_iconst X hx (z := (2 : Int32)) (hb hby at_136) rfl (q := 137) rfl ?_
      refine s_iaload X hx hZ eT A_t97 (by decide) (i := 2) rfl (x := x4) rfl (hb hby at_137) (q := 138) rfl ?_
      refine s_iload X hx (hb hby at_138) rfl (q := 140) rfl ?_
      refine f_icmp_eq X hx (hb hby at_140) (q1 := 145) (by decide) (by decide) (q := 143) rfl (fun _ => ?_) (fun hq => absurd (rfl : x4 = x4) hq)
      refine s_iload X hx (hb hby at_145) rfl (q := 147) rfl ?_
      refine s_iconst X hx (z := (3 : Int32)) (hb hby at_147) rfl (q := 148) rfl ?_
      refine f_icmp_le X hx (hb hby at_148) (q1 := 162) (by decide) (by decide) (q := 151) rfl (fun hq => absurd (by decide : (3 : Int32) < (4 : Int32)) hq) (fun _ => ?_)
      refine s_aload X hx (hb hby at_151) rfl rfl (q := 153) rfl ?_
      refine s_iconst X hx (z := (3 : Int32)) (hb hby at_153) rfl (q := 154) rfl ?_
      refine s_iaload X hx hZ eT A_t97 (by decide) (i := 3) rfl (x := x5) rfl (hb hby at_154) (q := 155) rfl ?_
      refine s_iload X hx (hb hby at_155) rfl (q := 157) rfl ?_
      refine f_icmp_eq X hx (hb hby at_157) (q1 := 162) (by decide) (by decide) (q := 160) rfl (fun _ => ?_) (fun hq => absurd (rfl : x5 = x5) hq)
      refine s_iload X hx (hb hby at_162) rfl (q := 164) rfl ?_
      refine f_if_le X hx (hb hby at_164) (q1 := 189) (by decide) (by decide) (q := 167) rfl (fun hq => absurd (by decide : 0 < (4 : Int32)) hq) (fun _ => ?_)
      refine s_aload X hx (hb hby at_167) rfl rfl (q := 169) rfl ?_
      refine s_iconst X hx (z := (0 : Int32)) (hb hby at_169) rfl (q := 170) rfl ?_
      refine s_aload X hx (hb hby at_170) rfl rfl (q := 172) rfl ?_
      refine s_iconst X hx (z := (0 : Int32)) (hb hby at_172) rfl (q := 173) rfl ?_
      refine s_iaload X hx hZ eT A_t97 (by decide) (i := 0) rfl (x := x2) rfl (hb hby at_173) (q := 174) rfl ?_
      refine s_iconst X hx (z := (-1 : Int32)) (hb hby at_174) rfl (q := 175) rfl ?_
      refine s_ixor X hx (hb hby at_175) (q := 176) rfl ?_
      refine s_iastore X hx hZ eT A_t97 N g_t97 (by decide) (i := 0) rfl (Nat.le_of_ble_eq_true rfl) (ys := [(x2 ^^^ (-1 : Int32)), x3, x4, x5]) rfl (hb hby at_176) (q := 177) rfl ?_
      intro T h98 _ X N eT W A_t97'
      have E_a71 := E_a71.wr W
      have F_a71_items := F_a71_items.other W (Or.inl ne_a71_t97)
      have F_a71_size := F_a71_size.other W (Or.inl ne_a71_t97)
      have A_t95 := A_t95.other W ne_t95_t97
      have E_t95 := E_t95.wr W
      have sz : n0 ≤ h98.size := by rw [W.size]; exact sz
      have A_t97 := A_t97'
      refine s_aload X hx (hb hby at_177) rfl rfl (q := 179) rfl ?_
      refine s_iconst X hx (z := (0 : Int32)) (hb hby at_179) rfl (q := 180) rfl ?_
      refine callV X hx hZ hown (W := 0) (argsL := [(.int (0 : Int32))]) (rest := []) (hw _ (List.mem_of_getElem? (i := 49) rfl)) (hw _ (List.mem_of_getElem? (i := 50) rfl)) (hw _ (List.mem_of_getElem? (i := 52) rfl)) (hw _ (List.mem_of_getElem? (i := 51) rfl)) (hw _ (List.mem_of_getElem? (i := 3) rfl)) (hw _ (List.mem_of_getElem? (i := 53) rfl)) (by decide) E_a71 (rm8 l Z a0 hw [] a71 (0 : Int32) t95 (4 : Int32) ([x2, x3, x4, x5]) x2 h98 n0 sz F_a71_items F_a71_size A_t95 (by decide) (by decide) rfl) eT (by decide) (by decide) (by decide) (by decide) (by rw [hml]; rfl) pd4 rfl rfl (Nat.le_of_ble_eq_true rfl) (hb hby at_180) (q := 183) rfl ?_
      intro v T Lc hQ X
      obtain ⟨rfl, eT, N'⟩ := hQ
      have N := Fr.app N N'
      refine s_iloadN X hx (hb hby at_183) rfl (q := 184) rfl ?_
      refine f_icmp_eq X hx (hb hby at_184) (q1 := 189) (by decide) (by decide) (q := 187) rfl (fun _ => ?_) (fun hq => absurd (rfl : x2 = x2) hq)
      refine s_iconst X hx (z := (1 : Int32)) (hb hby at_189) rfl (q := 190) rfl ?_
      exact leafN X hx hlk hret (by simp) (hb hby at_190) (by decide) (by decide) (z' := 1) rfl ⟨rfl, N⟩
set_option maxRecDepth 65536 in
set_option maxHeartbeats 40000000 in
theorem comes_1 {Post : Tables → Env → Array Value → State → Outcome → State → Prop} (hpost : ∀ tb e args s v u, (limb_1_1.after args s (.returned v) u = true ∧ limb_1_2.after args s (.returned v) u = true ∧ True) → FrameEnd s (.returned v) u (Jvm.fieldLocs frame_1_writes args s ++ Jvm.arrayLocs frame_1_arrays args s ++ Jvm.staticLocs frame_1_statics s) 24 128 → Post tb e args s (.returned v) u) :
    ArmFor flags0 classFile x code maxLocals ret World_1 tables_1 room_1 Calls_1 rest_1 Pre_1 Post := by
  intro l hfl _ _ p e ha hc hk s m args below hf hA hF happ hP
  obtain ⟨hcalls, hrest, hpre⟩ := hP
  obtain ⟨-, -, -, hnamed, -, -, -, hat⟩ := (Spec.applies_iff hf).mp happ
  obtain ⟨hg, hn⟩ := and_e (Cond.before_iff.mp (show (Jvm.Cond.and given_1 narrow_1).before args s = true from hpre))
  obtain ⟨g1, g2⟩ := and_e hg
  obtain ⟨g3, g4⟩ := and_e g2
  obtain ⟨g5, g6⟩ := and_e g4
  obtain ⟨g7, g8⟩ := and_e g6
  obtain ⟨g9, g10⟩ := and_e g8
  obtain ⟨g11, g12⟩ := and_e g10
  obtain ⟨w0, w1, w2, w3, w4, w5, rfl⟩ : ∃ w0 w1 w2 w3 w4 w5 : Value, args = #[w0, w1, w2, w3, w4, w5] := by
    have hs : args.size = 6 := by simpa [Cond.value, given_1] using g1
    obtain ⟨L⟩ := args
    match L, hs with
    | [w0, w1, w2, w3, w4, w5], _ => exact ⟨w0, w1, w2, w3, w4, w5, rfl⟩
  have hw := fun d (hd : d ∈ tables_1) => atoms_spec (ws := Jvm.Cond.code x code maxLocals ret :: tables_1) hat d (List.mem_cons_of_mem _ hd)
  obtain ⟨i0, ei0⟩ := is_v g3
  obtain rfl : w0 = (.int i0) := Option.some.inj ei0
  obtain ⟨i1, ei1⟩ := is_v g5
  obtain rfl : w1 = (.int i1) := Option.some.inj ei1
  obtain ⟨i2, ei2⟩ := is_v g7
  obtain rfl : w2 = (.int i2) := Option.some.inj ei2
  obtain ⟨i3, ei3⟩ := is_v g9
  obtain rfl : w3 = (.int i3) := Option.some.inj ei3
  obtain ⟨i4, ei4⟩ := is_v g11
  obtain rfl : w4 = (.int i4) := Option.some.inj ei4
  obtain ⟨i5, ei5⟩ := is_v g12
  obtain rfl : w5 = (.int i5) := Option.some.inj ei5
  obtain ⟨n, o, h1, h2, h3, _, L, rfl, ⟨rfl, N⟩, hq⟩ := rm0 l s _ hw tables_1 i0 i1 i2 i3 i4 i5 s.heap s.heap.size (Nat.le_refl _) p e ha hc hk s m _ below hf ((Spec.applies_iff_loose hf).mp happ).1 ⟨rfl, State.Warmed39.refl s, rfl⟩ trivial
  refine ⟨n, _, h1, h2, h3, hpost _ _ _ _ _ _ ⟨Cond.after_iff.mpr rfl, Cond.after_iff.mpr (eq_i res_at (Term.int_eval (1)) rfl), trivial⟩ ⟨hq.1, hq.2.1, (hq.2.2.sift fun y hy => Or.inr (N y hy)).mono (by decide) (by decide)⟩⟩
theorem main_1_1 : Claimed_1_1 := comes_1 fun _ _ _ _ _ _ h hF => ⟨h.1, hF⟩
theorem main_1_2 : Claimed_1_2 := comes_1 fun _ _ _ _ _ _ h hF => ⟨h.2.1, hF⟩
end Jvm.Pilot.@@N@@
namespace Jvm.Pilot.@@N@@
open Jvm Jvm.ClassFile Sem Op Lib Jvm.Free Jvm.Stand Jvm.Pilot.@@N@@.Jvm.D
/-! MADE BY PROGRAM (witnessworld.py) out of the Statement's table words and the real class files: 12 classes; the members and pool entries that the words name. The judged class is class 1, her method 1. -/
namespace start1
open Jvm.ClassFile
def u (s : String) : CpInfo := .utf8 (stringToUtf16 s)
/-- a pool by its gaps: so many unusable entries, then the entry; so many at the end -/
def gap : Nat → List CpInfo → List CpInfo
  | 0, r => r
  | n + 1, r => .unusable :: gap n r
def poolList (es : List (Nat × CpInfo)) (last : Nat) : List CpInfo := es.foldr (fun e r => gap e.1 (e.2 :: r)) (gap last [])
def pool (es : List (Nat × CpInfo)) (last : Nat) : Array CpInfo := ⟨poolList es last⟩
def fileOf (pool : Array CpInfo) (this : Nat) (attrs : Array Attribute := #[]) (ms : Array MethodInfo := #[]) (fl : Nat := 33) (sup : Nat := 0) (ifs : Array Nat := #[]) (fds : Array FieldInfo := #[]) : ClassFile where
  minorVersion := 0
  majorVersion := 65
  constantPool := pool
  accessFlags := fl
  thisClass := this
  superClass := sup
  interfaces := ifs
  fields := fds
  methods := ms
  attributes := attrs
def plain (name : String) (sup : Option ClassId) : Class where
  name := name
  kind := .ordinary
  loader := none
  accessFlags := 33
  super := sup
  interfaces := #[]
  cf := none
  fields := #[]
  methods := #[]
  instanceTypes := #[]
  staticTypes := #[]
  resolved := #[]
  callSites := []
  init := .initialized
  statics := none
  mirror := none

def pool0 : Array CpInfo := pool [(5, u "<init>"), (0, u "()V"), (1, .class_ 10), (1, u "java/lang/Object"), (85, u "clone"), (0, u "()Ljava/lang/Object;")] 26

def k0c0 : Code := { maxStack := 0, maxLocals := 1, code := object_method_1_code, exceptionTable := #[], attributes := #[] }
def k0m0 : Method := { name := "<init>", desc := "()V", sig := { parameters := [], returnType := none }, accessFlags := 1, code := some k0c0 }
def k0m1 : Method := { name := "clone", desc := "()Ljava/lang/Object;", sig := { parameters := [], returnType := some (.object "java/lang/Object") }, accessFlags := 260, code := none }
/-- java/lang/Object -/
def k0 : Class := { plain "java/lang/Object" none with
  accessFlags := 33
  interfaces := #[]
  cf := some (fileOf pool0 8 #[] #[{ accessFlags := 1, nameIndex := 5, descriptorIndex := 6, attributes := #[] }, { accessFlags := 260, nameIndex := 96, descriptorIndex := 97, attributes := #[] }] 33 0 #[] #[])
  fields := #[]
  methods := #[k0m0, k0m1]
  instanceTypes := #[]
  staticTypes := #[]
  resolved := Array.replicate 124 none
  statics := none }

def pool1 : Array CpInfo := pool [(2, .class_ 4), (1, u "java/lang/Object"), (0, u "<init>"), (0, u "()V"), (0, .integer 2147483647), (0, .class_ 9), (0, u "com/example/akin/akin/engine/IntList"), (0, .methodref 8 11), (0, .nameAndType 5 12), (0, u "(I)V"), (0, .methodref 8 14), (0, .nameAndType 15 12), (0, u "add"), (0, .methodref 8 17), (0, .nameAndType 18 19), (0, u "toArray"), (0, u "()[I"), (0, .methodref 8 21), (0, .nameAndType 22 23), (0, u "get"), (0, u "(I)I"), (0, .class_ 25), (0, u "com/example/akin/akin/engine/IntListToArrayPinLaw"), (2, u "law"), (0, u "(IIIIII)Z")] 5

def k1m0 : Method := { name := "<init>", desc := "()V", sig := { parameters := [], returnType := none }, accessFlags := 1, code := none }
def k1c1 : Code := { maxStack := 4, maxLocals := 10, code := code, exceptionTable := #[], attributes := #[] }
def k1m1 : Method := { name := "law", desc := "(IIIIII)Z", sig := { parameters := [.int, .int, .int, .int, .int, .int], returnType := some .boolean }, accessFlags := 9, code := some k1c1 }
/-- com/example/akin/akin/engine/IntListToArrayPinLaw -/
def k1 : Class := { plain "com/example/akin/akin/engine/IntListToArrayPinLaw" (some 0) with
  accessFlags := 49
  interfaces := #[]
  cf := some (fileOf pool1 24 #[] #[{ accessFlags := 1, nameIndex := 5, descriptorIndex := 6, attributes := #[] }, { accessFlags := 9, nameIndex := 28, descriptorIndex := 29, attributes := #[] }] 49 2 #[] #[])
  fields := #[]
  methods := #[k1m0, k1m1]
  instanceTypes := #[]
  staticTypes := #[]
  resolved := Array.replicate 35 none
  statics := none }

def pool2 : Array CpInfo := pool [(1, .methodref 2 3), (0, .class_ 4), (0, .nameAndType 5 6), (0, u "java/lang/Object"), (0, u "<init>"), (0, u "()V"), (0, .methodref 8 9), (0, .class_ 10), (0, .nameAndType 11 12), (0, u "java/lang/Math"), (0, u "max"), (0, u "(II)I"), (0, .fieldref 14 15), (0, .class_ 16), (0, .nameAndType 17 18), (0, u "com/example/akin/akin/engine/IntList"), (0, u "items"), (0, u "[I"), (0, .fieldref 14 20), (0, .nameAndType 21 22), (0, u "size"), (0, u "I"), (11, u "get"), (0, u "(I)I"), (0, .methodref 37 38), (0, .class_ 39), (0, .nameAndType 40 41), (0, u "java/util/Arrays"), (0, u "copyOf"), (0, u "([II)[I"), (11, u "(I)V"), (6, u "add"), (5, u "toArray"), (0, u "()[I")] 17

def k2c0 : Code := { maxStack := 3, maxLocals := 2, code := prog_21_method_1_code, exceptionTable := #[], attributes := #[] }
def k2m0 : Method := { name := "<init>", desc := "(I)V", sig := { parameters := [.int], returnType := none }, accessFlags := 1, code := some k2c0 }
def k2c1 : Code := { maxStack := 4, maxLocals := 2, code := prog_21_method_3_code, exceptionTable := #[], attributes := #[] }
def k2m1 : Method := { name := "get", desc := "(I)I", sig := { parameters := [.int], returnType := some .int }, accessFlags := 1, code := some k2c1 }
def k2c2 : Code := { maxStack := 5, maxLocals := 2, code := prog_21_method_5_code, exceptionTable := #[], attributes := #[] }
def k2m2 : Method := { name := "add", desc := "(I)V", sig := { parameters := [.int], returnType := none }, accessFlags := 1, code := some k2c2 }
def k2c3 : Code := { maxStack := 2, maxLocals := 1, code := prog_21_method_9_code, exceptionTable := #[], attributes := #[] }
def k2m3 : Method := { name := "toArray", desc := "()[I", sig := { parameters := [], returnType := some (.array .int) }, accessFlags := 0, code := some k2c3 }
/-- com/example/akin/akin/engine/IntList -/
def k2 : Class := { plain "com/example/akin/akin/engine/IntList" (some 0) with
  accessFlags := 49
  interfaces := #[]
  cf := some (fileOf pool2 14 #[] #[{ accessFlags := 1, nameIndex := 5, descriptorIndex := 53, attributes := #[] }, { accessFlags := 1, nameIndex := 34, descriptorIndex := 35, attributes := #[] }, { accessFlags := 1, nameIndex := 60, descriptorIndex := 53, attributes := #[] }, { accessFlags := 0, nameIndex := 66, descriptorIndex := 67, attributes := #[] }] 49 2 #[] #[{ accessFlags := 2, nameIndex := 17, descriptorIndex := 18, attributes := #[] }, { accessFlags := 2, nameIndex := 21, descriptorIndex := 22, attributes := #[] }])
  fields := #[{ name := "items", type := (.array .int), accessFlags := 2, slot := 0, constantValue := 0 }, { name := "size", type := .int, accessFlags := 2, slot := 1, constantValue := 0 }]
  methods := #[k2m0, k2m1, k2m2, k2m3]
  instanceTypes := #[(.array .int), .int]
  staticTypes := #[]
  resolved := Array.replicate 85 none
  statics := none }

def pool3 : Array CpInfo := pool [(1, .class_ 2), (0, u "java/lang/Math"), (1, .class_ 6), (1, u "java/lang/Object"), (0, u "<init>"), (0, u "()V"), (89, .class_ 100), (1, u "java/lang/Math$RandomNumberGeneratorHolder"), (71, u "negativeZeroFloatBits"), (0, u "J"), (2, u "negativeZeroDoubleBits"), (21, u "max"), (2, u "min"), (43, u "$assertionsDisabled"), (0, u "Z"), (88, u "(II)I"), (2, u "twoToTheDoubleScaleDown"), (0, u "D"), (4, u "twoToTheDoubleScaleUp"), (9, u "E"), (3, u "PI"), (2, u "TAU"), (2, u "DEGREES_TO_RADIANS"), (0, u "RADIANS_TO_DEGREES")] 94

def k3m0 : Method := { name := "<init>", desc := "()V", sig := { parameters := [], returnType := none }, accessFlags := 2, code := none }
def k3c1 : Code := { maxStack := 2, maxLocals := 2, code := jdk_29_method_65_code, exceptionTable := #[], attributes := #[] }
def k3m1 : Method := { name := "max", desc := "(II)I", sig := { parameters := [.int, .int], returnType := some .int }, accessFlags := 9, code := some k3c1 }
def k3c2 : Code := { maxStack := 2, maxLocals := 2, code := jdk_29_method_69_code, exceptionTable := #[], attributes := #[] }
def k3m2 : Method := { name := "min", desc := "(II)I", sig := { parameters := [.int, .int], returnType := some .int }, accessFlags := 9, code := some k3c2 }
/-- java/lang/Math -/
def k3 : Class := { plain "java/lang/Math" (some 0) with
  accessFlags := 49
  interfaces := #[]
  cf := some (fileOf pool3 1 #[.nestMembers #[98]] #[{ accessFlags := 2, nameIndex := 7, descriptorIndex := 8, attributes := #[] }, { accessFlags := 9, nameIndex := 198, descriptorIndex := 335, attributes := #[] }, { accessFlags := 9, nameIndex := 201, descriptorIndex := 335, attributes := #[] }] 49 4 #[] #[{ accessFlags := 25, nameIndex := 354, descriptorIndex := 339, attributes := #[] }, { accessFlags := 25, nameIndex := 358, descriptorIndex := 339, attributes := #[] }, { accessFlags := 25, nameIndex := 361, descriptorIndex := 339, attributes := #[] }, { accessFlags := 26, nameIndex := 364, descriptorIndex := 339, attributes := #[] }, { accessFlags := 26, nameIndex := 365, descriptorIndex := 339, attributes := #[] }, { accessFlags := 26, nameIndex := 172, descriptorIndex := 173, attributes := #[] }, { accessFlags := 26, nameIndex := 176, descriptorIndex := 173, attributes := #[] }, { accessFlags := 8, nameIndex := 344, descriptorIndex := 339, attributes := #[] }, { accessFlags := 8, nameIndex := 338, descriptorIndex := 339, attributes := #[] }, { accessFlags := 4120, nameIndex := 245, descriptorIndex := 246, attributes := #[] }])
  fields := #[{ name := "E", type := .double, accessFlags := 25, slot := 0, constantValue := 0 }, { name := "PI", type := .double, accessFlags := 25, slot := 1, constantValue := 0 }, { name := "TAU", type := .double, accessFlags := 25, slot := 2, constantValue := 0 }, { name := "DEGREES_TO_RADIANS", type := .double, accessFlags := 26, slot := 3, constantValue := 0 }, { name := "RADIANS_TO_DEGREES", type := .double, accessFlags := 26, slot := 4, constantValue := 0 }, { name := "negativeZeroFloatBits", type := .long, accessFlags := 26, slot := 5, constantValue := 0 }, { name := "negativeZeroDoubleBits", type := .long, accessFlags := 26, slot := 6, constantValue := 0 }, { name := "twoToTheDoubleScaleUp", type := .double, accessFlags := 8, slot := 7, constantValue := 0 }, { name := "twoToTheDoubleScaleDown", type := .double, accessFlags := 8, slot := 8, constantValue := 0 }, { name := "$assertionsDisabled", type := .boolean, accessFlags := 4120, slot := 9, constantValue := 0 }]
  methods := #[k3m0, k3m1, k3m2]
  instanceTypes := #[]
  staticTypes := #[.double, .double, .double, .double, .double, .long, .long, .double, .double, .boolean]
  resolved := Array.replicate 460 none
  statics := none }

def pool4 : Array CpInfo := pool [(2, .class_ 4), (1, u "java/lang/Object"), (0, u "<init>"), (0, u "()V"), (7, .class_ 16), (1, u "java/util/Arrays"), (57, .class_ 76), (1, u "java/util/Arrays$NaturalOrder"), (32, u "()Ljava/lang/Object;"), (3, .class_ 115), (1, u "java/util/Arrays$LegacyMergeSort"), (1, u "Z"), (10, .nameAndType 129 109), (0, u "clone"), (20, .methodref 151 152), (0, .class_ 153), (0, .nameAndType 154 155), (0, u "java/lang/System"), (0, u "arraycopy"), (0, u "(Ljava/lang/Object;ILjava/lang/Object;II)V"), (146, u "copyOf"), (1, .methodref 305 306), (0, .class_ 307), (0, .nameAndType 308 309), (0, u "java/lang/Math"), (0, u "min"), (0, u "(II)I"), (6, .methodref 317 128), (0, .class_ 318), (0, u "[I"), (56, .class_ 376), (0, u "java/util/Arrays$ArrayList"), (68, u "$assertionsDisabled"), (269, u "MIN_ARRAY_SORT_GRAN"), (0, u "I"), (2, u "INSERTIONSORT_THRESHOLD"), (151, u "([II)[I"), (103, .class_ 976), (0, u "java/util/Arrays$ArrayItr")] 52

def k4m0 : Method := { name := "<init>", desc := "()V", sig := { parameters := [], returnType := none }, accessFlags := 2, code := none }
def k4c1 : Code := { maxStack := 6, maxLocals := 3, code := jdk_65_method_123_code, exceptionTable := #[], attributes := #[] }
def k4m1 : Method := { name := "copyOf", desc := "([II)[I", sig := { parameters := [(.array .int), .int], returnType := some (.array .int) }, accessFlags := 9, code := some k4c1 }
/-- java/util/Arrays -/
def k4 : Class := { plain "java/util/Arrays" (some 0) with
  accessFlags := 49
  interfaces := #[]
  cf := some (fileOf pool4 14 #[.nestMembers #[975, 375, 113, 74]] #[{ accessFlags := 2, nameIndex := 5, descriptorIndex := 6, attributes := #[] }, { accessFlags := 9, nameIndex := 302, descriptorIndex := 871, attributes := #[] }] 49 2 #[] #[{ accessFlags := 26, nameIndex := 715, descriptorIndex := 716, attributes := #[] }, { accessFlags := 26, nameIndex := 719, descriptorIndex := 716, attributes := #[] }, { accessFlags := 4120, nameIndex := 445, descriptorIndex := 117, attributes := #[] }])
  fields := #[{ name := "MIN_ARRAY_SORT_GRAN", type := .int, accessFlags := 26, slot := 0, constantValue := 0 }, { name := "INSERTIONSORT_THRESHOLD", type := .int, accessFlags := 26, slot := 1, constantValue := 0 }, { name := "$assertionsDisabled", type := .boolean, accessFlags := 4120, slot := 2, constantValue := 0 }]
  methods := #[k4m0, k4m1]
  instanceTypes := #[]
  staticTypes := #[.int, .int, .boolean]
  resolved := Array.replicate 1029 none
  statics := none }

def pool5 : Array CpInfo := pool [(2, .class_ 4), (1, u "java/lang/Object"), (0, u "<init>"), (0, u "()V"), (1, .class_ 10), (1, u "java/lang/System"), (0, u "allowSecurityManager"), (0, u "I"), (16, u "cons"), (0, u "Ljava/io/Console;"), (77, .class_ 110), (1, u "java/lang/System$CallersHolder"), (43, u "initialErrStream"), (0, u "Ljava/io/PrintStream;"), (19, u "security"), (0, u "Ljava/lang/SecurityManager;"), (31, .class_ 209), (0, u "java/lang/System$1"), (7, u "props"), (0, u "Ljava/util/Properties;"), (2, u "lineSeparator"), (0, u "Ljava/lang/String;"), (96, .class_ 321), (1, u "java/lang/System$LoggerFinder"), (5, .class_ 328), (0, u "java/lang/System$Logger"), (67, u "err"), (2, u "out"), (91, u "notSupportedJnuEncoding"), (15, u "in"), (17, u "initialIn"), (0, u "Ljava/io/InputStream;"), (35, u "bootLayer"), (0, u "Ljava/lang/ModuleLayer;"), (99, .class_ 664), (0, u "java/lang/System$2"), (9, u "NEVER"), (2, u "MAYBE"), (49, u "arraycopy"), (0, u "(Ljava/lang/Object;ILjava/lang/Object;II)V"), (72, .class_ 802), (0, u "java/lang/System$Logger$Level")] 31

def k5m0 : Method := { name := "<init>", desc := "()V", sig := { parameters := [], returnType := none }, accessFlags := 2, code := none }
def k5m1 : Method := { name := "arraycopy", desc := "(Ljava/lang/Object;ILjava/lang/Object;II)V", sig := { parameters := [(.object "java/lang/Object"), .int, (.object "java/lang/Object"), .int, .int], returnType := none }, accessFlags := 265, code := none }
/-- java/lang/System -/
def k5 : Class := { plain "java/lang/System" (some 0) with
  accessFlags := 49
  interfaces := #[]
  cf := some (fileOf pool5 8 #[.nestMembers #[319, 327, 801, 108, 663, 208]] #[{ accessFlags := 2, nameIndex := 5, descriptorIndex := 6, attributes := #[] }, { accessFlags := 265, nameIndex := 727, descriptorIndex := 728, attributes := #[] }] 49 2 #[] #[{ accessFlags := 25, nameIndex := 507, descriptorIndex := 526, attributes := #[] }, { accessFlags := 25, nameIndex := 399, descriptorIndex := 155, attributes := #[] }, { accessFlags := 25, nameIndex := 396, descriptorIndex := 155, attributes := #[] }, { accessFlags := 10, nameIndex := 525, descriptorIndex := 526, attributes := #[] }, { accessFlags := 26, nameIndex := 674, descriptorIndex := 12, attributes := #[] }, { accessFlags := 26, nameIndex := 677, descriptorIndex := 12, attributes := #[] }, { accessFlags := 10, nameIndex := 11, descriptorIndex := 12, attributes := #[] }, { accessFlags := 74, nameIndex := 175, descriptorIndex := 176, attributes := #[] }, { accessFlags := 10, nameIndex := 491, descriptorIndex := 222, attributes := #[] }, { accessFlags := 74, nameIndex := 29, descriptorIndex := 30, attributes := #[] }, { accessFlags := 74, nameIndex := 154, descriptorIndex := 155, attributes := #[] }, { accessFlags := 10, nameIndex := 217, descriptorIndex := 218, attributes := #[] }, { accessFlags := 10, nameIndex := 221, descriptorIndex := 222, attributes := #[] }, { accessFlags := 8, nameIndex := 562, descriptorIndex := 563, attributes := #[] }])
  fields := #[{ name := "in", type := (.object "java/io/InputStream"), accessFlags := 25, slot := 0, constantValue := 0 }, { name := "out", type := (.object "java/io/PrintStream"), accessFlags := 25, slot := 1, constantValue := 0 }, { name := "err", type := (.object "java/io/PrintStream"), accessFlags := 25, slot := 2, constantValue := 0 }, { name := "initialIn", type := (.object "java/io/InputStream"), accessFlags := 10, slot := 3, constantValue := 0 }, { name := "NEVER", type := .int, accessFlags := 26, slot := 4, constantValue := 0 }, { name := "MAYBE", type := .int, accessFlags := 26, slot := 5, constantValue := 0 }, { name := "allowSecurityManager", type := .int, accessFlags := 10, slot := 6, constantValue := 0 }, { name := "security", type := (.object "java/lang/SecurityManager"), accessFlags := 74, slot := 7, constantValue := 0 }, { name := "notSupportedJnuEncoding", type := (.object "java/lang/String"), accessFlags := 10, slot := 8, constantValue := 0 }, { name := "cons", type := (.object "java/io/Console"), accessFlags := 74, slot := 9, constantValue := 0 }, { name := "initialErrStream", type := (.object "java/io/PrintStream"), accessFlags := 74, slot := 10, constantValue := 0 }, { name := "props", type := (.object "java/util/Properties"), accessFlags := 10, slot := 11, constantValue := 0 }, { name := "lineSeparator", type := (.object "java/lang/String"), accessFlags := 10, slot := 12, constantValue := 0 }, { name := "bootLayer", type := (.object "java/lang/ModuleLayer"), accessFlags := 8, slot := 13, constantValue := 0 }]
  methods := #[k5m0, k5m1]
  instanceTypes := #[]
  staticTypes := #[(.object "java/io/InputStream"), (.object "java/io/PrintStream"), (.object "java/io/PrintStream"), (.object "java/io/InputStream"), .int, .int, .int, (.object "java/lang/SecurityManager"), (.object "java/lang/String"), (.object "java/io/Console"), (.object "java/io/PrintStream"), (.object "java/util/Properties"), (.object "java/lang/String"), (.object "java/lang/ModuleLayer")]
  resolved := Array.replicate 834 none
  statics := none }

def pool6 : Array CpInfo := pool [(1, .class_ 2), (0, u "java/lang/Cloneable"), (0, .class_ 4), (0, u "java/lang/Object")] 2

/-- java/lang/Cloneable -/
def k6 : Class := { plain "java/lang/Cloneable" (some 0) with
  accessFlags := 1537
  interfaces := #[]
  cf := some (fileOf pool6 1 #[] #[] 1537 3 #[] #[])
  fields := #[]
  methods := #[]
  instanceTypes := #[]
  staticTypes := #[]
  resolved := Array.replicate 7 none
  statics := none }

def pool7 : Array CpInfo := pool [(1, u "java/io/Serializable"), (0, .class_ 1), (0, u "java/lang/Object"), (0, .class_ 3)] 3

/-- java/io/Serializable -/
def k7 : Class := { plain "java/io/Serializable" (some 0) with
  accessFlags := 1537
  interfaces := #[]
  cf := some (fileOf pool7 2 #[] #[] 1537 4 #[] #[])
  fields := #[]
  methods := #[]
  instanceTypes := #[]
  staticTypes := #[]
  resolved := Array.replicate 8 none
  statics := none }

/-- the primitive byte -/
def k8 : Class := { plain "byte" none with kind := .primitive 'B', accessFlags := 0x411 }
/-- [B -/
def k9 : Class := { plain "[B" (some 0) with kind := .array 8 .byte, interfaces := #[6, 7], accessFlags := 1041 }

/-- the primitive int -/
def k10 : Class := { plain "int" none with kind := .primitive 'I', accessFlags := 0x411 }
/-- [I -/
def k11 : Class := { plain "[I" (some 0) with kind := .array 10 .int, interfaces := #[6, 7], accessFlags := 1041 }

def heap : Heap := #[]
def classes : Array Class := #[k0, k1, k2, k3, k4, k5, k6, k7, k8, k9, k10, k11]
def interned : List (Array UInt16 × Addr) := []
def slotsUsed : Nat := 0
def theMethod : MethodId := ⟨1, 1⟩
def args0 : Array Value := #[.int 5, .int 7, .int 20, .int 3, .int 2, .int 6]
def aboutOver (below : List Frame) : State where
  vm := { classes := classes, interned := interned.toArray }
  heap := heap
  slotsUsed := slotsUsed
  threads := #[{ frames := .invoking theMethod args0 :: below }]
def below0 : List Frame := [.native { method := ⟨0, 0⟩, args := #[] }]
def about1 : State := aboutOver below0
def p0 : Program := .bare "" "" ""
def e0 : Env := launch0.env 0 0 0
theorem w_frames : about1.frames = Frame.invoking theMethod args0 :: below0 := rfl
set_option maxRecDepth 65536 in
theorem w_args : argsFit about1.vm theMethod args0 = true := by decide +kernel
set_option maxRecDepth 65536 in
theorem w_heap : heapFits about1 = true := by decide +kernel
set_option maxRecDepth 65536 in
theorem w_runnable : about1.curStatus? = some .runnable := by decide +kernel
set_option maxRecDepth 65536 in
theorem w_alone : about1.alone = true := by decide +kernel
set_option maxRecDepth 65536 in
theorem w_named : about1.methodNamed? x = some theMethod := by decide +kernel
set_option maxRecDepth 65536 in
theorem w_hears : about1.hears theMethod below0 = true := by decide +kernel
set_option maxRecDepth 65536 in
theorem w_ripe : about1.ripe theMethod args0 below0 = true := by decide +kernel
theorem w_running : about1.status = .running := rfl
set_option maxRecDepth 65536 in
theorem w_room : about1.hasRoom e0.platform room_1 = true :=
  launch0.hasRoom_least _ room_1 (by decide +kernel) (by decide +kernel) (by decide +kernel) (by decide +kernel) (by decide +kernel) (by decide +kernel)
theorem allAtoms_all (ts : List Jvm.Cond) (a : Array Jvm.Value) (st : Jvm.State) : (allAtoms ts).before a st = ts.all (fun c => c.before a st) := by
  induction ts with
  | nil => rfl
  | cons c t ih =>
    show (Jvm.Cond.and c (allAtoms t)).before a st = _
    rw [Jvm.Cond.before_and, ih, List.all_cons]
def words1 : List Jvm.Cond := Jvm.Cond.code x code maxLocals ret :: tables_1
/-- a 'code' word, met by the world's own term for the bytes: nothing is compared byte by byte -/
theorem code_word {y : MethodName} {bytes : ByteArray} {mx : Nat} {rt : Option FieldType} {a : Array Value} {s : State} {m : MethodId} {meth : Method} {c : Code} (h1 : s.methodNamed? y = some m) (h2 : s.vm.method? m = some meth) (h3 : meth.code = some c) (h4 : c.code = bytes)
    (h5 : (c.maxLocals == mx && c.exceptionTable.isEmpty && decide (c.maxStack ≤ mostOperands) && decide (meth.sig.returnType = rt) && !meth.locks && decide (parseMethodDescriptor y.desc = some meth.sig)) = true) : (Jvm.Cond.code y bytes mx rt).before a s = true := by
  simp only [Bool.and_eq_true, beq_iff_eq, Bool.not_eq_true', decide_eq_true_eq] at h5
  obtain ⟨⟨⟨⟨⟨g1, g2⟩, g3⟩, g4⟩, g5⟩, g6⟩ := h5
  simp [Cond.before, Cond.holds, Cond.value, h1, h2, h3, h4, g1, g2, g3, g4, g5, g6]
def isCode : Jvm.Cond → Bool
  | .code _ _ _ _ => true
  | _ => false
theorem all_split {L : List Jvm.Cond} {P : Jvm.Cond → Bool} (h1 : L.all (fun c => isCode c || P c) = true) (h2 : ∀ c ∈ L.filter isCode, P c = true) : L.all P = true := by
  refine List.all_eq_true.mpr fun c hc => ?_
  have h := List.all_eq_true.mp h1 c hc
  rcases Bool.eq_false_or_eq_true (isCode c) with hi | hi
  · exact h2 c (List.mem_filter.mpr ⟨hc, hi⟩)
  · simpa [hi] using h
set_option maxRecDepth 65536 in
theorem w_c0 : (Jvm.Cond.code x code maxLocals ret).before args0 about1 = true := code_word (m := ⟨1, 1⟩) (meth := k1m1) (c := k1c1) (by decide +kernel) rfl rfl rfl (by decide +kernel)
set_option maxRecDepth 65536 in
theorem w_c1 : (Jvm.Cond.code ({ cls := "com/example/akin/akin/engine/IntList", name := "<init>", desc := "(I)V" } : Jvm.MethodName) prog_21_method_1_code (2 : Nat) (Option.none : Option Jvm.ClassFile.FieldType)).before args0 about1 = true := code_word (m := ⟨2, 0⟩) (meth := k2m0) (c := k2c0) (by decide +kernel) rfl rfl rfl (by decide +kernel)
set_option maxRecDepth 65536 in
theorem w_c2 : (Jvm.Cond.code ({ cls := "java/lang/Object", name := "<init>", desc := "()V" } : Jvm.MethodName) object_method_1_code (1 : Nat) (Option.none : Option Jvm.ClassFile.FieldType)).before args0 about1 = true := code_word (m := ⟨0, 0⟩) (meth := k0m0) (c := k0c0) (by decide +kernel) rfl rfl rfl (by decide +kernel)
set_option maxRecDepth 65536 in
theorem w_c3 : (Jvm.Cond.code ({ cls := "java/lang/Math", name := "max", desc := "(II)I" } : Jvm.MethodName) jdk_29_method_65_code (2 : Nat) (Option.some Jvm.ClassFile.FieldType.int)).before args0 about1 = true := code_word (m := ⟨3, 1⟩) (meth := k3m1) (c := k3c1) (by decide +kernel) rfl rfl rfl (by decide +kernel)
set_option maxRecDepth 65536 in
theorem w_c4 : (Jvm.Cond.code ({ cls := "com/example/akin/akin/engine/IntList", name := "add", desc := "(I)V" } : Jvm.MethodName) prog_21_method_5_code (2 : Nat) (Option.none : Option Jvm.ClassFile.FieldType)).before args0 about1 = true := code_word (m := ⟨2, 2⟩) (meth := k2m2) (c := k2c2) (by decide +kernel) rfl rfl rfl (by decide +kernel)
set_option maxRecDepth 65536 in
theorem w_c5 : (Jvm.Cond.code ({ cls := "java/util/Arrays", name := "copyOf", desc := "([II)[I" } : Jvm.MethodName) jdk_65_method_123_code (3 : Nat) (Option.some (Jvm.ClassFile.FieldType.array Jvm.ClassFile.FieldType.int))).before args0 about1 = true := code_word (m := ⟨4, 1⟩) (meth := k4m1) (c := k4c1) (by decide +kernel) rfl rfl rfl (by decide +kernel)
set_option maxRecDepth 65536 in
theorem w_c6 : (Jvm.Cond.code ({ cls := "java/lang/Math", name := "min", desc := "(II)I" } : Jvm.MethodName) jdk_29_method_69_code (2 : Nat) (Option.some Jvm.ClassFile.FieldType.int)).before args0 about1 = true := code_word (m := ⟨3, 2⟩) (meth := k3m2) (c := k3c2) (by decide +kernel) rfl rfl rfl (by decide +kernel)
set_option maxRecDepth 65536 in
theorem w_c7 : (Jvm.Cond.code ({ cls := "com/example/akin/akin/engine/IntList", name := "toArray", desc := "()[I" } : Jvm.MethodName) prog_21_method_9_code (1 : Nat) (Option.some (Jvm.ClassFile.FieldType.array Jvm.ClassFile.FieldType.int))).before args0 about1 = true := code_word (m := ⟨2, 3⟩) (meth := k2m3) (c := k2c3) (by decide +kernel) rfl rfl rfl (by decide +kernel)
set_option maxRecDepth 65536 in
theorem w_c8 : (Jvm.Cond.code ({ cls := "com/example/akin/akin/engine/IntList", name := "get", desc := "(I)I" } : Jvm.MethodName) prog_21_method_3_code (2 : Nat) (Option.some Jvm.ClassFile.FieldType.int)).before args0 about1 = true := code_word (m := ⟨2, 1⟩) (meth := k2m1) (c := k2c1) (by decide +kernel) rfl rfl rfl (by decide +kernel)
def codes1 : List Jvm.Cond := [Jvm.Cond.code x code maxLocals ret, Jvm.Cond.code ({ cls := "com/example/akin/akin/engine/IntList", name := "<init>", desc := "(I)V" } : Jvm.MethodName) prog_21_method_1_code (2 : Nat) (Option.none : Option Jvm.ClassFile.FieldType), Jvm.Cond.code ({ cls := "java/lang/Object", name := "<init>", desc := "()V" } : Jvm.MethodName) object_method_1_code (1 : Nat) (Option.none : Option Jvm.ClassFile.FieldType), Jvm.Cond.code ({ cls := "java/lang/Math", name := "max", desc := "(II)I" } : Jvm.MethodName) jdk_29_method_65_code (2 : Nat) (Option.some Jvm.ClassFile.FieldType.int), Jvm.Cond.code ({ cls := "com/example/akin/akin/engine/IntList", name := "add", desc := "(I)V" } : Jvm.MethodName) prog_21_method_5_code (2 : Nat) (Option.none : Option Jvm.ClassFile.FieldType), Jvm.Cond.code ({ cls := "java/util/Arrays", name := "copyOf", desc := "([II)[I" } : Jvm.MethodName) jdk_65_method_123_code (3 : Nat) (Option.some (Jvm.ClassFile.FieldType.array Jvm.ClassFile.FieldType.int)), Jvm.Cond.code ({ cls := "java/lang/Math", name := "min", desc := "(II)I" } : Jvm.MethodName) jdk_29_method_69_code (2 : Nat) (Option.some Jvm.ClassFile.FieldType.int), Jvm.Cond.code ({ cls := "com/example/akin/akin/engine/IntList", name := "toArray", desc := "()[I" } : Jvm.MethodName) prog_21_method_9_code (1 : Nat) (Option.some (Jvm.ClassFile.FieldType.array Jvm.ClassFile.FieldType.int)), Jvm.Cond.code ({ cls := "com/example/akin/akin/engine/IntList", name := "get", desc := "(I)I" } : Jvm.MethodName) prog_21_method_3_code (2 : Nat) (Option.some Jvm.ClassFile.FieldType.int)]
set_option maxRecDepth 65536 in
theorem codes_eq : words1.filter isCode = codes1 := rfl
theorem w_codes : ∀ c ∈ words1.filter isCode, c.before args0 about1 = true := by
  rw [codes_eq]
  intro c hc
  simp only [codes1, List.mem_cons, List.not_mem_nil, or_false] at hc
  rcases hc with rfl | rfl | rfl | rfl | rfl | rfl | rfl | rfl | rfl
  · exact w_c0
  · exact w_c1
  · exact w_c2
  · exact w_c3
  · exact w_c4
  · exact w_c5
  · exact w_c6
  · exact w_c7
  · exact w_c8
set_option maxRecDepth 65536 in
theorem w_t1 : (words1.take 24).all (fun c => isCode c || c.before args0 about1) = true := by decide +kernel
set_option maxRecDepth 65536 in
theorem w_t2 : ((words1.drop 24).take 24).all (fun c => isCode c || c.before args0 about1) = true := by decide +kernel
set_option maxRecDepth 65536 in
theorem w_t3 : ((words1.drop 24).drop 24).all (fun c => isCode c || c.before args0 about1) = true := by decide +kernel
theorem w_tables : (allAtoms (Jvm.Cond.code x code maxLocals ret :: tables_1)).before args0 about1 = true := by
  rw [allAtoms_all]
  show words1.all (fun c => c.before args0 about1) = true
  refine all_split ?_ w_codes
  rw [← List.take_append_drop 24 words1, List.all_append, w_t1, ← List.take_append_drop 24 (words1.drop 24), List.all_append, w_t2, w_t3]
  rfl
set_option maxRecDepth 65536 in
theorem w_case : (Jvm.Cond.and given_1 narrow_1).before args0 about1 = true := by decide +kernel
theorem w_applies : (headSpec (Jvm.Cond.code x code maxLocals ret :: tables_1) room_1).applies x e0.platform about1 = true :=
  (Spec.applies_iff w_frames).mpr ⟨w_running, w_runnable, w_alone, w_named, w_hears, w_ripe, w_room, w_tables⟩
theorem atStart : AtStart classFile x code maxLocals ret World_1 tables_1 room_1 Calls_1 rest_1 Pre_1 launch0 p0 e0 about1 theMethod args0 below0 :=
  ⟨lists_1, trivial, launch0.admits_env _ _ _, launch0.least_env, fairChoices_fair.cas, fairChoices_fair.clock, w_frames, w_args, w_heap, w_applies, trivial, trivial, w_case⟩
end start1
theorem witness_1 : WitnessClaimed_1 := ⟨start1.p0, start1.e0, start1.about1, start1.theMethod, start1.args0, start1.below0, start1.atStart⟩
end Jvm.Pilot.@@N@@
