import JvmDerived
import JvmDerived.Pilot.@@N@@Statement
import JvmDerived.Pilot.@@N@@Code
set_option linter.unusedVariables false
set_option linter.unusedSimpArgs false
namespace Jvm.RoadKit
open Sem ClassFile Op Lib Jvm.Stand Jvm.Free Jvm.LawKit
section New
variable {p : Program} {l : Launch} {e : Env} {R : Room} {s : State} {m : MethodId} {args : Array Value} {below : List Frame} {meth : Method} {c : Code} {T : State} {locs : List Loc} {cells slots : Nat}
theorem retI (X : Stand p l e R s m args below meth c T locs cells slots) (hx : p.tables.exec = Jvm.exec) {pc : Nat} {Ls : Array Slot} {z : Int32} {rest : List Value} (hret : meth.sig.returnType = some .int) (hd : decode c.code pc = .ok (.ireturn, 1)) {fs : List Frame}
    (hl : ∀ (f : JFrame) (acts : List Action), f.method = m → f.locked = none → f.entered = [] → (doReturn e (T.setTop f) acts (some (.int z))).1 = T.setFrames fs) : Steps p.tables e below (T.setTop (mkF m pc Ls (.int z :: rest))) (T.setFrames fs) := by
  have hm' : T.vm.method? m = some meth := X.method'
  have hn : narrow .int (.int z) = .int z := rfl
  show Steps p.tables e below (T.setTop { method := m, pc := pc, locals := Ls, stack := _ :: rest, locked := none }) _
  jvm_step X.here [X.here.top, hx, hd, hm', hret, hn]
  first | (intro acts; rw [hl _ acts rfl rfl rfl]) | rw [hl _ _ rfl rfl rfl]
  exact Steps.refl _
end New
end Jvm.RoadKit
namespace Jvm.Pilot.@@N@@
open Jvm Jvm.ClassFile Sem Op Lib Jvm.Free Jvm.Stand Jvm.LawKit Jvm.RoadKit Bundle Jvm.Pilot.@@N@@.Jvm.D
section Kit
variable {p : Program} {l : Launch} {e : Env} {R : Room} {s : State} {m : MethodId} {args : Array Value} {below : List Frame} {meth : Method} {c : Code} {T : State} {locs : List Loc} {cells slots : Nat} {G : State → Prop} {L L' : Array Slot} {S : List Value} {pc q q1 : Nat}
/-- from this frame the run comes to a state of which G holds -/
def Go (p : Program) (e : Env) (below : List Frame) (G : State → Prop) (T : State) (m : MethodId) (pc : Nat) (L : Array Slot) (S : List Value) : Prop := ∃ t, Steps p.tables e below (T.setTop (mkF m pc L S)) t ∧ G t
theorem Go.st {T' : State} {m' : MethodId} {pc' : Nat} {S' : List Value} (h : ∀ t, Steps p.tables e below (T'.setTop (mkF m' pc' L' S')) t → Steps p.tables e below (T.setTop (mkF m pc L S)) t) (k : Go p e below G T' m' pc' L' S') : Go p e below G T m pc L S := by
  obtain ⟨t, h1, h2⟩ := k; exact ⟨t, h t h1, h2⟩
theorem jn {T2 : State} {pc2 : Nat} {L2 : Array Slot} {S2 : List Value} (k : Go p e below G T2 m pc2 L2 S2 → Go p e below G T m pc L S) (K : Go p e below G T2 m pc2 L2 S2) : Go p e below G T m pc L S := k K
/-- what a body that returns leaves -/
def Gl (s : State) (below : List Frame) (Q : Option Value → Heap → List Loc → Prop) (C N : Nat) (t : State) : Prop := ∃ o, t.status = .running ∧ Ended t below o ∧ ∃ v L, o = .returned v ∧ Q v t.heap L ∧ FrameEnd s o t L C N
/-- a contract -/
def Ctr (l : Launch) (y : MethodName) (code : ByteArray) (ml : Nat) (ret : Option FieldType) (ws : List Jvm.Cond) (rm : Room) (Z : State) (as' : Array Value) (h0 : Heap) (Q : Option Value → Heap → List Loc → Prop) (C N : Nat) : Prop :=
  MetFree l y (head1 (Jvm.Cond.code y code ml ret :: ws) rm) (fun a U => a = as' ∧ Z.Warmed39 U.vm ∧ U.heap = h0) (fun _ _ _ _ _ => True) (fun _ U o U' => ∃ v L, o = .returned v ∧ Q v U'.heap L ∧ FrameEnd U o U' L C N)
theorem Ctr.mk {y : MethodName} {code : ByteArray} {ml : Nat} {ret : Option FieldType} {ws : List Jvm.Cond} {rm : Room} {Z : State} {as' : Array Value} {h0 : Heap} {Q : Option Value → Heap → List Loc → Prop} {C N : Nat} (hp : plainFor y = true)
    (body : ∀ (p : Program) (e : Env) (s : State) (m : MethodId) (below : List Frame) (meth : Method) (c : Code) (T : State), p.tables.exec = Jvm.exec → c.code = code → c.maxLocals = ml → s.vm.findClass y.cls = some m.cls → meth.name = y.name → meth.locks = false → meth.sig.returnType = ret → Z.Warmed39 s.vm → Stand p l e rm s m as' below meth c T [] 0 0 → T.heap = h0 → ∃ t, Steps p.tables e below (T.setTop (entryFrame m as' ml)) t ∧ Gl s below Q C N t) : Ctr l y code ml ret ws rm Z as' h0 Q C N := by
  refine MetFree.of_bodySF hp hisR ?_
  intro p e s m args below meth c s₁ Bd hml0 hP hK
  obtain ⟨rfl, hZ, hh⟩ := hP
  obtain ⟨t, h1, o, h2, h3, h4⟩ := body p e s m below meth c s₁ Bd.exec Bd.bytes hml0 (findClass_of_methodNamed Bd.named) (name_of_methodNamed Bd.named Bd.method).1 Bd.notSynchronized Bd.returns hZ (Stand.of_body Bd) (by rw [← hh, Bd.state]; rfl)
  exact ⟨t, o, h1, h2, h3, h4⟩
theorem enter {as' : Array Value} {ml : Nat} (q : entryFrame m as' ml = mkF m 0 L []) (k : Go p e below G T m 0 L []) : ∃ t, Steps p.tables e below (T.setTop (entryFrame m as' ml)) t ∧ G t := by
  rw [q]; exact k
theorem s_iloadN (X : Stand p l e R s m args below meth c T locs cells slots) (hx : p.tables.exec = Jvm.exec) {k : Fin 4} {v : Int32} (hd : decode c.code pc = .ok (.iload_n k, 1)) (hl : L[k.val]? = some (.val (.int v))) (hq : pc + 1 = q) (K : Go p e below G T m q L (.int v :: S)) : Go p e below G T m pc L S := by
  subst hq; exact Go.st (fun t k => XS.iloadN X.here hx rfl hd hl k) K
theorem s_iload (X : Stand p l e R s m args below meth c T locs cells slots) (hx : p.tables.exec = Jvm.exec) {k : Nat} {v : Int32} (hd : decode c.code pc = .ok (.iload k, 2)) (hl : L[k]? = some (.val (.int v))) (hq : pc + 2 = q) (K : Go p e below G T m q L (.int v :: S)) : Go p e below G T m pc L S := by
  subst hq; exact Go.st (fun t k => XS.iload X.here hx rfl hd hl k) K
theorem s_lloadN (X : Stand p l e R s m args below meth c T locs cells slots) (hx : p.tables.exec = Jvm.exec) {k : Fin 4} {v : Int64} (hd : decode c.code pc = .ok (.lload_n k, 1)) (hl : L[k.val]? = some (.val (.long v))) (hq : pc + 1 = q) (K : Go p e below G T m q L (.long v :: S)) : Go p e below G T m pc L S := by
  subst hq; exact Go.st (fun t k => XS.lloadN X.here hx rfl hd hl k) K
theorem s_lload (X : Stand p l e R s m args below meth c T locs cells slots) (hx : p.tables.exec = Jvm.exec) {k : Nat} {v : Int64} (hd : decode c.code pc = .ok (.lload k, 2)) (hl : L[k]? = some (.val (.long v))) (hq : pc + 2 = q) (K : Go p e below G T m q L (.long v :: S)) : Go p e below G T m pc L S := by
  subst hq; exact Go.st (fun t k => XS.lload X.here hx rfl hd hl k) K
theorem s_aloadN (X : Stand p l e R s m args below meth c T locs cells slots) (hx : p.tables.exec = Jvm.exec) {k : Fin 4} {v : Value} (hd : decode c.code pc = .ok (.aload_n k, 1)) (hl : L[k.val]? = some (.val v)) (hv : v.isRef = true) (hq : pc + 1 = q) (K : Go p e below G T m q L (v :: S)) : Go p e below G T m pc L S := by
  subst hq; exact Go.st (fun t k => XS.aloadN X.here hx rfl hd hl hv k) K
theorem s_aload (X : Stand p l e R s m args below meth c T locs cells slots) (hx : p.tables.exec = Jvm.exec) {k : Nat} {v : Value} (hd : decode c.code pc = .ok (.aload k, 2)) (hl : L[k]? = some (.val v)) (hv : v.isRef = true) (hq : pc + 2 = q) (K : Go p e below G T m q L (v :: S)) : Go p e below G T m pc L S := by
  subst hq; exact Go.st (fun t k => XS.aload X.here hx rfl hd hl hv k) K
theorem s_istoreN (X : Stand p l e R s m args below meth c T locs cells slots) (hx : p.tables.exec = Jvm.exec) {k : Fin 4} {x : Int32} (hd : decode c.code pc = .ok (.istore_n k, 1)) (hl : storeLocals L k.val (.int x) = some L') (hq : pc + 1 = q) (K : Go p e below G T m q L' S) : Go p e below G T m pc L (.int x :: S) := by
  subst hq; exact Go.st (fun t k => XS.istoreN X.here hx rfl hd rfl hl k) K
theorem s_istore (X : Stand p l e R s m args below meth c T locs cells slots) (hx : p.tables.exec = Jvm.exec) {k : Nat} {x : Int32} (hd : decode c.code pc = .ok (.istore k, 2)) (hl : storeLocals L k (.int x) = some L') (hq : pc + 2 = q) (K : Go p e below G T m q L' S) : Go p e below G T m pc L (.int x :: S) := by
  subst hq; exact Go.st (fun t k => XS.istore X.here hx rfl hd rfl hl k) K
theorem s_lstoreN (X : Stand p l e R s m args below meth c T locs cells slots) (hx : p.tables.exec = Jvm.exec) {k : Fin 4} {x : Int64} (hd : decode c.code pc = .ok (.lstore_n k, 1)) (hl : storeLocals L k.val (.long x) = some L') (hq : pc + 1 = q) (K : Go p e below G T m q L' S) : Go p e below G T m pc L (.long x :: S) := by
  subst hq; exact Go.st (fun t k => XS.lstoreN X.here hx rfl hd rfl hl k) K
theorem s_lstore (X : Stand p l e R s m args below meth c T locs cells slots) (hx : p.tables.exec = Jvm.exec) {k : Nat} {x : Int64} (hd : decode c.code pc = .ok (.lstore k, 2)) (hl : storeLocals L k (.long x) = some L') (hq : pc + 2 = q) (K : Go p e below G T m q L' S) : Go p e below G T m pc L (.long x :: S) := by
  subst hq; exact Go.st (fun t k => XS.lstore X.here hx rfl hd rfl hl k) K
theorem s_astoreN (X : Stand p l e R s m args below meth c T locs cells slots) (hx : p.tables.exec = Jvm.exec) {k : Fin 4} {x : Value} (hd : decode c.code pc = .ok (.astore_n k, 1)) (hv : x.isRef = true) (hl : storeLocals L k.val x = some L') (hq : pc + 1 = q) (K : Go p e below G T m q L' S) : Go p e below G T m pc L (x :: S) := by
  subst hq; exact Go.st (fun t k => XS.astoreN X.here hx rfl hd rfl hv hl k) K
theorem s_astore (X : Stand p l e R s m args below meth c T locs cells slots) (hx : p.tables.exec = Jvm.exec) {k : Nat} {x : Value} (hd : decode c.code pc = .ok (.astore k, 2)) (hv : x.isRef = true) (hl : storeLocals L k x = some L') (hq : pc + 2 = q) (K : Go p e below G T m q L' S) : Go p e below G T m pc L (x :: S) := by
  subst hq; exact Go.st (fun t k => XS.astore X.here hx rfl hd rfl hv hl k) K
theorem s_iconst (X : Stand p l e R s m args below meth c T locs cells slots) (hx : p.tables.exec = Jvm.exec) {i : Int} {z : Int32} (hd : decode c.code pc = .ok (.iconst i, 1)) (hz : Int32.ofInt i = z) (hq : pc + 1 = q) (K : Go p e below G T m q L (.int z :: S)) : Go p e below G T m pc L S := by
  subst hq hz; exact Go.st (fun t k => XS.iconst X.here hx rfl hd k) K
theorem s_bipush (X : Stand p l e R s m args below meth c T locs cells slots) (hx : p.tables.exec = Jvm.exec) {i : Int} {z : Int32} (hd : decode c.code pc = .ok (.bipush i, 2)) (hz : (Int8.ofInt i).toInt32 = z) (hq : pc + 2 = q) (K : Go p e below G T m q L (.int z :: S)) : Go p e below G T m pc L S := by
  subst hq hz; exact Go.st (fun t k => XS.bipush X.here hx rfl hd k) K
theorem s_sipush (X : Stand p l e R s m args below meth c T locs cells slots) (hx : p.tables.exec = Jvm.exec) {i : Int} {z : Int32} (hd : decode c.code pc = .ok (.sipush i, 3)) (hz : (Int16.ofInt i).toInt32 = z) (hq : pc + 3 = q) (K : Go p e below G T m q L (.int z :: S)) : Go p e below G T m pc L S := by
  subst hq hz; exact Go.st (fun t k => XS.sipush X.here hx rfl hd k) K
theorem s_lconst (X : Stand p l e R s m args below meth c T locs cells slots) (hx : p.tables.exec = Jvm.exec) {i : Fin 2} {z : Int64} (hd : decode c.code pc = .ok (.lconst i, 1)) (hz : Int64.ofNat i.val = z) (hq : pc + 1 = q) (K : Go p e below G T m q L (.long z :: S)) : Go p e below G T m pc L S := by
  subst hq hz; exact Go.st (fun t k => XS.lconst X.here hx rfl hd k) K
theorem s_aconst_null (X : Stand p l e R s m args below meth c T locs cells slots) (hx : p.tables.exec = Jvm.exec)  (hd : decode c.code pc = .ok (.aconst_null, 1))  (hq : pc + 1 = q) (K : Go p e below G T m q L (.null :: S)) : Go p e below G T m pc L S := by
  subst hq; exact Go.st (fun t k => XS.aconstNull X.here hx rfl hd k) K
theorem s_iadd (X : Stand p l e R s m args below meth c T locs cells slots) (hx : p.tables.exec = Jvm.exec) {x y : Int32} (hd : decode c.code pc = .ok (.iadd, 1))  (hq : pc + 1 = q) (K : Go p e below G T m q L (.int (x + y) :: S)) : Go p e below G T m pc L (.int y :: .int x :: S) := by
  subst hq; exact Go.st (fun t k => XS.iadd X.here hx rfl hd rfl k) K
theorem s_isub (X : Stand p l e R s m args below meth c T locs cells slots) (hx : p.tables.exec = Jvm.exec) {x y : Int32} (hd : decode c.code pc = .ok (.isub, 1))  (hq : pc + 1 = q) (K : Go p e below G T m q L (.int (x - y) :: S)) : Go p e below G T m pc L (.int y :: .int x :: S) := by
  subst hq; exact Go.st (fun t k => XS.isub X.here hx rfl hd rfl k) K
theorem s_imul (X : Stand p l e R s m args below meth c T locs cells slots) (hx : p.tables.exec = Jvm.exec) {x y : Int32} (hd : decode c.code pc = .ok (.imul, 1))  (hq : pc + 1 = q) (K : Go p e below G T m q L (.int (x * y) :: S)) : Go p e below G T m pc L (.int y :: .int x :: S) := by
  subst hq; exact Go.st (fun t k => XS.imul X.here hx rfl hd rfl k) K
theorem s_iand (X : Stand p l e R s m args below meth c T locs cells slots) (hx : p.tables.exec = Jvm.exec) {x y : Int32} (hd : decode c.code pc = .ok (.iand, 1))  (hq : pc + 1 = q) (K : Go p e below G T m q L (.int (x &&& y) :: S)) : Go p e below G T m pc L (.int y :: .int x :: S) := by
  subst hq; exact Go.st (fun t k => XS.iand X.here hx rfl hd rfl k) K
theorem s_ior (X : Stand p l e R s m args below meth c T locs cells slots) (hx : p.tables.exec = Jvm.exec) {x y : Int32} (hd : decode c.code pc = .ok (.ior, 1))  (hq : pc + 1 = q) (K : Go p e below G T m q L (.int (x ||| y) :: S)) : Go p e below G T m pc L (.int y :: .int x :: S) := by
  subst hq; exact Go.st (fun t k => XS.ior X.here hx rfl hd rfl k) K
theorem s_ixor (X : Stand p l e R s m args below meth c T locs cells slots) (hx : p.tables.exec = Jvm.exec) {x y : Int32} (hd : decode c.code pc = .ok (.ixor, 1))  (hq : pc + 1 = q) (K : Go p e below G T m q L (.int (x ^^^ y) :: S)) : Go p e below G T m pc L (.int y :: .int x :: S) := by
  subst hq; exact Go.st (fun t k => XS.ixor X.here hx rfl hd rfl k) K
theorem s_ladd (X : Stand p l e R s m args below meth c T locs cells slots) (hx : p.tables.exec = Jvm.exec) {x y : Int64} (hd : decode c.code pc = .ok (.ladd, 1))  (hq : pc + 1 = q) (K : Go p e below G T m q L (.long (x + y) :: S)) : Go p e below G T m pc L (.long y :: .long x :: S) := by
  subst hq; exact Go.st (fun t k => XS.ladd X.here hx rfl hd rfl k) K
theorem s_lsub (X : Stand p l e R s m args below meth c T locs cells slots) (hx : p.tables.exec = Jvm.exec) {x y : Int64} (hd : decode c.code pc = .ok (.lsub, 1))  (hq : pc + 1 = q) (K : Go p e below G T m q L (.long (x - y) :: S)) : Go p e below G T m pc L (.long y :: .long x :: S) := by
  subst hq; exact Go.st (fun t k => XS.lsub X.here hx rfl hd rfl k) K
theorem s_lmul (X : Stand p l e R s m args below meth c T locs cells slots) (hx : p.tables.exec = Jvm.exec) {x y : Int64} (hd : decode c.code pc = .ok (.lmul, 1))  (hq : pc + 1 = q) (K : Go p e below G T m q L (.long (x * y) :: S)) : Go p e below G T m pc L (.long y :: .long x :: S) := by
  subst hq; exact Go.st (fun t k => XS.lmul X.here hx rfl hd rfl k) K
theorem s_land (X : Stand p l e R s m args below meth c T locs cells slots) (hx : p.tables.exec = Jvm.exec) {x y : Int64} (hd : decode c.code pc = .ok (.land, 1))  (hq : pc + 1 = q) (K : Go p e below G T m q L (.long (x &&& y) :: S)) : Go p e below G T m pc L (.long y :: .long x :: S) := by
  subst hq; exact Go.st (fun t k => XS.land X.here hx rfl hd rfl k) K
theorem s_lor (X : Stand p l e R s m args below meth c T locs cells slots) (hx : p.tables.exec = Jvm.exec) {x y : Int64} (hd : decode c.code pc = .ok (.lor, 1))  (hq : pc + 1 = q) (K : Go p e below G T m q L (.long (x ||| y) :: S)) : Go p e below G T m pc L (.long y :: .long x :: S) := by
  subst hq; exact Go.st (fun t k => XS.lor X.here hx rfl hd rfl k) K
theorem s_lxor (X : Stand p l e R s m args below meth c T locs cells slots) (hx : p.tables.exec = Jvm.exec) {x y : Int64} (hd : decode c.code pc = .ok (.lxor, 1))  (hq : pc + 1 = q) (K : Go p e below G T m q L (.long (x ^^^ y) :: S)) : Go p e below G T m pc L (.long y :: .long x :: S) := by
  subst hq; exact Go.st (fun t k => XS.lxor X.here hx rfl hd rfl k) K
theorem s_ishl (X : Stand p l e R s m args below meth c T locs cells slots) (hx : p.tables.exec = Jvm.exec) {x y : Int32} (hd : decode c.code pc = .ok (.ishl, 1))  (hq : pc + 1 = q) (K : Go p e below G T m q L (.int (x <<< (y &&& 31)) :: S)) : Go p e below G T m pc L (.int y :: .int x :: S) := by
  subst hq; exact Go.st (fun t k => XS.ishl X.here hx rfl hd rfl k) K
theorem s_ishr (X : Stand p l e R s m args below meth c T locs cells slots) (hx : p.tables.exec = Jvm.exec) {x y : Int32} (hd : decode c.code pc = .ok (.ishr, 1))  (hq : pc + 1 = q) (K : Go p e below G T m q L (.int (x >>> (y &&& 31)) :: S)) : Go p e below G T m pc L (.int y :: .int x :: S) := by
  subst hq; exact Go.st (fun t k => XS.ishr X.here hx rfl hd rfl k) K
theorem s_iushr (X : Stand p l e R s m args below meth c T locs cells slots) (hx : p.tables.exec = Jvm.exec) {x y : Int32} (hd : decode c.code pc = .ok (.iushr, 1))  (hq : pc + 1 = q) (K : Go p e below G T m q L (.int ((x.toUInt32 >>> (y &&& 31).toUInt32).toInt32) :: S)) : Go p e below G T m pc L (.int y :: .int x :: S) := by
  subst hq; exact Go.st (fun t k => XS.iushr X.here hx rfl hd rfl k) K
theorem s_lshl (X : Stand p l e R s m args below meth c T locs cells slots) (hx : p.tables.exec = Jvm.exec) {x : Int64} {y : Int32} (hd : decode c.code pc = .ok (.lshl, 1))  (hq : pc + 1 = q) (K : Go p e below G T m q L (.long (x <<< (y &&& 0x3f).toInt64) :: S)) : Go p e below G T m pc L (.int y :: .long x :: S) := by
  subst hq; exact Go.st (fun t k => XS.lshl X.here hx rfl hd rfl k) K
theorem s_lshr (X : Stand p l e R s m args below meth c T locs cells slots) (hx : p.tables.exec = Jvm.exec) {x : Int64} {y : Int32} (hd : decode c.code pc = .ok (.lshr, 1))  (hq : pc + 1 = q) (K : Go p e below G T m q L (.long (x >>> (y &&& 0x3f).toInt64) :: S)) : Go p e below G T m pc L (.int y :: .long x :: S) := by
  subst hq; exact Go.st (fun t k => XS.lshr X.here hx rfl hd rfl k) K
theorem s_lushr (X : Stand p l e R s m args below meth c T locs cells slots) (hx : p.tables.exec = Jvm.exec) {x : Int64} {y : Int32} (hd : decode c.code pc = .ok (.lushr, 1))  (hq : pc + 1 = q) (K : Go p e below G T m q L (.long ((x.toUInt64 >>> (y &&& 0x3f).toInt64.toUInt64).toInt64) :: S)) : Go p e below G T m pc L (.int y :: .long x :: S) := by
  subst hq; exact Go.st (fun t k => XS.lushr X.here hx rfl hd rfl k) K
theorem s_idiv (X : Stand p l e R s m args below meth c T locs cells slots) (hx : p.tables.exec = Jvm.exec) {x y : Int32} (hd : decode c.code pc = .ok (.idiv, 1)) (hy : y ≠ 0) (hq : pc + 1 = q) (K : Go p e below G T m q L (.int (x / y) :: S)) : Go p e below G T m pc L (.int y :: .int x :: S) := by
  subst hq; exact Go.st (fun t k => XS.idiv X.here hx rfl hd rfl hy k) K
theorem s_ldiv (X : Stand p l e R s m args below meth c T locs cells slots) (hx : p.tables.exec = Jvm.exec) {x y : Int64} (hd : decode c.code pc = .ok (.ldiv, 1)) (hy : y ≠ 0) (hq : pc + 1 = q) (K : Go p e below G T m q L (.long (x / y) :: S)) : Go p e below G T m pc L (.long y :: .long x :: S) := by
  subst hq; exact Go.st (fun t k => XS.ldiv X.here hx rfl hd rfl hy k) K
theorem s_ineg (X : Stand p l e R s m args below meth c T locs cells slots) (hx : p.tables.exec = Jvm.exec) {x : Int32} (hd : decode c.code pc = .ok (.ineg, 1))  (hq : pc + 1 = q) (K : Go p e below G T m q L (.int (-x) :: S)) : Go p e below G T m pc L (.int x :: S) := by
  subst hq; exact Go.st (fun t k => XS.ineg X.here hx rfl hd rfl k) K
theorem s_lneg (X : Stand p l e R s m args below meth c T locs cells slots) (hx : p.tables.exec = Jvm.exec) {x : Int64} (hd : decode c.code pc = .ok (.lneg, 1))  (hq : pc + 1 = q) (K : Go p e below G T m q L (.long (-x) :: S)) : Go p e below G T m pc L (.long x :: S) := by
  subst hq; exact Go.st (fun t k => XS.lneg X.here hx rfl hd rfl k) K
theorem s_i2l (X : Stand p l e R s m args below meth c T locs cells slots) (hx : p.tables.exec = Jvm.exec) {x : Int32} (hd : decode c.code pc = .ok (.i2l, 1))  (hq : pc + 1 = q) (K : Go p e below G T m q L (.long x.toInt64 :: S)) : Go p e below G T m pc L (.int x :: S) := by
  subst hq; exact Go.st (fun t k => XS.i2l X.here hx rfl hd rfl k) K
theorem s_l2i (X : Stand p l e R s m args below meth c T locs cells slots) (hx : p.tables.exec = Jvm.exec) {x : Int64} (hd : decode c.code pc = .ok (.l2i, 1))  (hq : pc + 1 = q) (K : Go p e below G T m q L (.int x.toInt32 :: S)) : Go p e below G T m pc L (.long x :: S) := by
  subst hq; exact Go.st (fun t k => XS.l2i X.here hx rfl hd rfl k) K
theorem s_i2b (X : Stand p l e R s m args below meth c T locs cells slots) (hx : p.tables.exec = Jvm.exec) {x : Int32} (hd : decode c.code pc = .ok (.i2b, 1))  (hq : pc + 1 = q) (K : Go p e below G T m q L (.int x.toInt8.toInt32 :: S)) : Go p e below G T m pc L (.int x :: S) := by
  subst hq; exact Go.st (fun t k => XS.i2b X.here hx rfl hd rfl k) K
theorem s_i2c (X : Stand p l e R s m args below meth c T locs cells slots) (hx : p.tables.exec = Jvm.exec) {x : Int32} (hd : decode c.code pc = .ok (.i2c, 1))  (hq : pc + 1 = q) (K : Go p e below G T m q L (.int x.toUInt32.toUInt16.toUInt32.toInt32 :: S)) : Go p e below G T m pc L (.int x :: S) := by
  subst hq; exact Go.st (fun t k => XS.i2c X.here hx rfl hd rfl k) K
theorem s_i2s (X : Stand p l e R s m args below meth c T locs cells slots) (hx : p.tables.exec = Jvm.exec) {x : Int32} (hd : decode c.code pc = .ok (.i2s, 1))  (hq : pc + 1 = q) (K : Go p e below G T m q L (.int x.toInt16.toInt32 :: S)) : Go p e below G T m pc L (.int x :: S) := by
  subst hq; exact Go.st (fun t k => XS.i2s X.here hx rfl hd rfl k) K
theorem s_lcmp (X : Stand p l e R s m args below meth c T locs cells slots) (hx : p.tables.exec = Jvm.exec) {x y : Int64} (hd : decode c.code pc = .ok (.lcmp, 1))  (hq : pc + 1 = q) (K : Go p e below G T m q L (.int (lcmpW x y) :: S)) : Go p e below G T m pc L (.long y :: .long x :: S) := by
  subst hq; exact Go.st (fun t k => XS.lcmp X.here hx rfl hd rfl k) K
theorem s_iinc (X : Stand p l e R s m args below meth c T locs cells slots) (hx : p.tables.exec = Jvm.exec) {k : Nat} {cst : Int} {x w : Int32} (hd : decode c.code pc = .ok (.iinc k cst, 3)) (hl : L[k]? = some (.val (.int x))) (hw : x + Int32.ofInt cst = w) (hl' : storeLocals L k (.int w) = some L') (hq : pc + 3 = q) (K : Go p e below G T m q L' S) : Go p e below G T m pc L S := by
  subst hq hw; exact Go.st (fun t k => XS.iinc X.here hx rfl hd hl hl' k) K
theorem s_dup (X : Stand p l e R s m args below meth c T locs cells slots) (hx : p.tables.exec = Jvm.exec) {x : Value} (hd : decode c.code pc = .ok (.dup, 1)) (hc : x.category = 1) (hq : pc + 1 = q) (K : Go p e below G T m q L (x :: x :: S)) : Go p e below G T m pc L (x :: S) := by
  subst hq; exact Go.st (fun t k => XS.dup X.here hx rfl hd rfl hc k) K
theorem s_dup_x1 (X : Stand p l e R s m args below meth c T locs cells slots) (hx : p.tables.exec = Jvm.exec) {x y : Value} (hd : decode c.code pc = .ok (.dup_x1, 1)) (hc : x.category = 1) (hc' : y.category = 1) (hq : pc + 1 = q) (K : Go p e below G T m q L (x :: y :: x :: S)) : Go p e below G T m pc L (x :: y :: S) := by
  subst hq; exact Go.st (fun t k => XS.dupX1 X.here hx rfl hd rfl hc hc' k) K
theorem s_dup2 (X : Stand p l e R s m args below meth c T locs cells slots) (hx : p.tables.exec = Jvm.exec) {x y : Value} (hd : decode c.code pc = .ok (.dup2, 1)) (hc : x.category = 1) (hc' : y.category = 1) (hq : pc + 1 = q) (K : Go p e below G T m q L (x :: y :: x :: y :: S)) : Go p e below G T m pc L (x :: y :: S) := by
  subst hq; exact Go.st (fun t k => Jvm.Free.XT.dup2 X.here hx rfl hd rfl hc hc' k) K
theorem s_dup2L (X : Stand p l e R s m args below meth c T locs cells slots) (hx : p.tables.exec = Jvm.exec) {x : Int64} (hd : decode c.code pc = .ok (.dup2, 1))  (hq : pc + 1 = q) (K : Go p e below G T m q L (.long x :: .long x :: S)) : Go p e below G T m pc L (.long x :: S) := by
  subst hq; exact Go.st (fun t k => Jvm.Free.XT.dup2L X.here hx rfl hd rfl k) K
theorem s_pop (X : Stand p l e R s m args below meth c T locs cells slots) (hx : p.tables.exec = Jvm.exec) {x : Value} (hd : decode c.code pc = .ok (.pop, 1)) (hc : x.category = 1) (hq : pc + 1 = q) (K : Go p e below G T m q L S) : Go p e below G T m pc L (x :: S) := by
  subst hq; exact Go.st (fun t k => XS.pop X.here hx rfl hd rfl hc k) K
theorem s_goto (X : Stand p l e R s m args below meth c T locs cells slots) (hx : p.tables.exec = Jvm.exec) {o : Int} (hd : decode c.code pc = .ok (.goto o, 3)) (ho : 0 ≤ (pc : Int) + o) (hp : ((pc : Int) + o).toNat = q1) (K : Go p e below G T m q1 L S) : Go p e below G T m pc L S := Go.st (fun t k => XS.goto X.here hx rfl rfl hd ho hp k) K
theorem f_icmp_lt (X : Stand p l e R s m args below meth c T locs cells slots) (hx : p.tables.exec = Jvm.exec) {x y : Int32} {o : Int} (hd : decode c.code pc = .ok (.if_icmp .lt o, 3)) (ho : 0 ≤ (pc : Int) + o) (hp : ((pc : Int) + o).toNat = q1) (hq : pc + 3 = q) (ky : x < y → Go p e below G T m q1 L S) (kn : ¬ x < y → Go p e below G T m q L S) : Go p e below G T m pc L (.int y :: .int x :: S) := by
  subst hq
  by_cases h : x < y
  · exact Go.st (fun t k => XS.icmpYes X.here hx rfl rfl hd rfl (tlt h).1 ho hp k) (ky h)
  · exact Go.st (fun t k => XS.icmpNo X.here hx rfl hd rfl (flt h).1 k) (kn h)
theorem f_if_lt (X : Stand p l e R s m args below meth c T locs cells slots) (hx : p.tables.exec = Jvm.exec) {x : Int32} {o : Int} (hd : decode c.code pc = .ok (.ifCond .lt o, 3)) (ho : 0 ≤ (pc : Int) + o) (hp : ((pc : Int) + o).toNat = q1) (hq : pc + 3 = q) (ky : x < 0 → Go p e below G T m q1 L S) (kn : ¬ x < 0 → Go p e below G T m q L S) : Go p e below G T m pc L (.int x :: S) := by
  subst hq
  by_cases h : x < 0
  · exact Go.st (fun t k => XS.ifYes X.here hx rfl rfl hd rfl ((if0 _ _).trans (tlt h).1) ho hp k) (ky h)
  · exact Go.st (fun t k => XS.ifNo X.here hx rfl hd rfl ((if0 _ _).trans (flt h).1) k) (kn h)
theorem f_lcmp_lt (X : Stand p l e R s m args below meth c T locs cells slots) (hx : p.tables.exec = Jvm.exec) {x y : Int64} {o : Int} (hd : decode c.code pc = .ok (.ifCond .lt o, 3)) (ho : 0 ≤ (pc : Int) + o) (hp : ((pc : Int) + o).toNat = q1) (hq : pc + 3 = q) (ky : x < y → Go p e below G T m q1 L S) (kn : ¬ x < y → Go p e below G T m q L S) : Go p e below G T m pc L (.int (lcmpW x y) :: S) :=
  f_if_lt X hx hd ho hp hq (fun h => ky ((lw_lt x y).mp h)) (fun h => kn (fun g => h ((lw_lt x y).mpr g)))
theorem f_icmp_ge (X : Stand p l e R s m args below meth c T locs cells slots) (hx : p.tables.exec = Jvm.exec) {x y : Int32} {o : Int} (hd : decode c.code pc = .ok (.if_icmp .ge o, 3)) (ho : 0 ≤ (pc : Int) + o) (hp : ((pc : Int) + o).toNat = q1) (hq : pc + 3 = q) (ky : ¬ x < y → Go p e below G T m q1 L S) (kn : x < y → Go p e below G T m q L S) : Go p e below G T m pc L (.int y :: .int x :: S) := by
  subst hq
  by_cases h : x < y
  · exact Go.st (fun t k => XS.icmpNo X.here hx rfl hd rfl (tlt h).2.1 k) (kn h)
  · exact Go.st (fun t k => XS.icmpYes X.here hx rfl rfl hd rfl (flt h).2.1 ho hp k) (ky h)
theorem f_if_ge (X : Stand p l e R s m args below meth c T locs cells slots) (hx : p.tables.exec = Jvm.exec) {x : Int32} {o : Int} (hd : decode c.code pc = .ok (.ifCond .ge o, 3)) (ho : 0 ≤ (pc : Int) + o) (hp : ((pc : Int) + o).toNat = q1) (hq : pc + 3 = q) (ky : ¬ x < 0 → Go p e below G T m q1 L S) (kn : x < 0 → Go p e below G T m q L S) : Go p e below G T m pc L (.int x :: S) := by
  subst hq
  by_cases h : x < 0
  · exact Go.st (fun t k => XS.ifNo X.here hx rfl hd rfl ((if0 _ _).trans (tlt h).2.1) k) (kn h)
  · exact Go.st (fun t k => XS.ifYes X.here hx rfl rfl hd rfl ((if0 _ _).trans (flt h).2.1) ho hp k) (ky h)
theorem f_lcmp_ge (X : Stand p l e R s m args below meth c T locs cells slots) (hx : p.tables.exec = Jvm.exec) {x y : Int64} {o : Int} (hd : decode c.code pc = .ok (.ifCond .ge o, 3)) (ho : 0 ≤ (pc : Int) + o) (hp : ((pc : Int) + o).toNat = q1) (hq : pc + 3 = q) (ky : ¬ x < y → Go p e below G T m q1 L S) (kn : x < y → Go p e below G T m q L S) : Go p e below G T m pc L (.int (lcmpW x y) :: S) :=
  f_if_ge X hx hd ho hp hq (fun h => ky (fun g => h ((lw_lt x y).mpr g))) (fun h => kn ((lw_lt x y).mp h))
theorem f_icmp_gt (X : Stand p l e R s m args below meth c T locs cells slots) (hx : p.tables.exec = Jvm.exec) {x y : Int32} {o : Int} (hd : decode c.code pc = .ok (.if_icmp .gt o, 3)) (ho : 0 ≤ (pc : Int) + o) (hp : ((pc : Int) + o).toNat = q1) (hq : pc + 3 = q) (ky : y < x → Go p e below G T m q1 L S) (kn : ¬ y < x → Go p e below G T m q L S) : Go p e below G T m pc L (.int y :: .int x :: S) := by
  subst hq
  by_cases h : y < x
  · exact Go.st (fun t k => XS.icmpYes X.here hx rfl rfl hd rfl (tlt h).2.2.1 ho hp k) (ky h)
  · exact Go.st (fun t k => XS.icmpNo X.here hx rfl hd rfl (flt h).2.2.1 k) (kn h)
theorem f_if_gt (X : Stand p l e R s m args below meth c T locs cells slots) (hx : p.tables.exec = Jvm.exec) {x : Int32} {o : Int} (hd : decode c.code pc = .ok (.ifCond .gt o, 3)) (ho : 0 ≤ (pc : Int) + o) (hp : ((pc : Int) + o).toNat = q1) (hq : pc + 3 = q) (ky : 0 < x → Go p e below G T m q1 L S) (kn : ¬ 0 < x → Go p e below G T m q L S) : Go p e below G T m pc L (.int x :: S) := by
  subst hq
  by_cases h : 0 < x
  · exact Go.st (fun t k => XS.ifYes X.here hx rfl rfl hd rfl ((if0 _ _).trans (tlt h).2.2.1) ho hp k) (ky h)
  · exact Go.st (fun t k => XS.ifNo X.here hx rfl hd rfl ((if0 _ _).trans (flt h).2.2.1) k) (kn h)
theorem f_lcmp_gt (X : Stand p l e R s m args below meth c T locs cells slots) (hx : p.tables.exec = Jvm.exec) {x y : Int64} {o : Int} (hd : decode c.code pc = .ok (.ifCond .gt o, 3)) (ho : 0 ≤ (pc : Int) + o) (hp : ((pc : Int) + o).toNat = q1) (hq : pc + 3 = q) (ky : y < x → Go p e below G T m q1 L S) (kn : ¬ y < x → Go p e below G T m q L S) : Go p e below G T m pc L (.int (lcmpW x y) :: S) :=
  f_if_gt X hx hd ho hp hq (fun h => ky ((lw_gt x y).mp h)) (fun h => kn (fun g => h ((lw_gt x y).mpr g)))
theorem f_icmp_le (X : Stand p l e R s m args below meth c T locs cells slots) (hx : p.tables.exec = Jvm.exec) {x y : Int32} {o : Int} (hd : decode c.code pc = .ok (.if_icmp .le o, 3)) (ho : 0 ≤ (pc : Int) + o) (hp : ((pc : Int) + o).toNat = q1) (hq : pc + 3 = q) (ky : ¬ y < x → Go p e below G T m q1 L S) (kn : y < x → Go p e below G T m q L S) : Go p e below G T m pc L (.int y :: .int x :: S) := by
  subst hq
  by_cases h : y < x
  · exact Go.st (fun t k => XS.icmpNo X.here hx rfl hd rfl (tlt h).2.2.2 k) (kn h)
  · exact Go.st (fun t k => XS.icmpYes X.here hx rfl rfl hd rfl (flt h).2.2.2 ho hp k) (ky h)
theorem f_if_le (X : Stand p l e R s m args below meth c T locs cells slots) (hx : p.tables.exec = Jvm.exec) {x : Int32} {o : Int} (hd : decode c.code pc = .ok (.ifCond .le o, 3)) (ho : 0 ≤ (pc : Int) + o) (hp : ((pc : Int) + o).toNat = q1) (hq : pc + 3 = q) (ky : ¬ 0 < x → Go p e below G T m q1 L S) (kn : 0 < x → Go p e below G T m q L S) : Go p e below G T m pc L (.int x :: S) := by
  subst hq
  by_cases h : 0 < x
  · exact Go.st (fun t k => XS.ifNo X.here hx rfl hd rfl ((if0 _ _).trans (tlt h).2.2.2) k) (kn h)
  · exact Go.st (fun t k => XS.ifYes X.here hx rfl rfl hd rfl ((if0 _ _).trans (flt h).2.2.2) ho hp k) (ky h)
theorem f_lcmp_le (X : Stand p l e R s m args below meth c T locs cells slots) (hx : p.tables.exec = Jvm.exec) {x y : Int64} {o : Int} (hd : decode c.code pc = .ok (.ifCond .le o, 3)) (ho : 0 ≤ (pc : Int) + o) (hp : ((pc : Int) + o).toNat = q1) (hq : pc + 3 = q) (ky : ¬ y < x → Go p e below G T m q1 L S) (kn : y < x → Go p e below G T m q L S) : Go p e below G T m pc L (.int (lcmpW x y) :: S) :=
  f_if_le X hx hd ho hp hq (fun h => ky (fun g => h ((lw_gt x y).mpr g))) (fun h => kn ((lw_gt x y).mp h))
theorem f_icmp_eq (X : Stand p l e R s m args below meth c T locs cells slots) (hx : p.tables.exec = Jvm.exec) {x y : Int32} {o : Int} (hd : decode c.code pc = .ok (.if_icmp .eq o, 3)) (ho : 0 ≤ (pc : Int) + o) (hp : ((pc : Int) + o).toNat = q1) (hq : pc + 3 = q) (ky : x = y → Go p e below G T m q1 L S) (kn : ¬ x = y → Go p e below G T m q L S) : Go p e below G T m pc L (.int y :: .int x :: S) := by
  subst hq
  by_cases h : x = y
  · exact Go.st (fun t k => XS.icmpYes X.here hx rfl rfl hd rfl (teq h).1 ho hp k) (ky h)
  · exact Go.st (fun t k => XS.icmpNo X.here hx rfl hd rfl (feq h).1 k) (kn h)
theorem f_if_eq (X : Stand p l e R s m args below meth c T locs cells slots) (hx : p.tables.exec = Jvm.exec) {x : Int32} {o : Int} (hd : decode c.code pc = .ok (.ifCond .eq o, 3)) (ho : 0 ≤ (pc : Int) + o) (hp : ((pc : Int) + o).toNat = q1) (hq : pc + 3 = q) (ky : x = 0 → Go p e below G T m q1 L S) (kn : ¬ x = 0 → Go p e below G T m q L S) : Go p e below G T m pc L (.int x :: S) := by
  subst hq
  by_cases h : x = 0
  · exact Go.st (fun t k => XS.ifYes X.here hx rfl rfl hd rfl ((if0 _ _).trans (teq h).1) ho hp k) (ky h)
  · exact Go.st (fun t k => XS.ifNo X.here hx rfl hd rfl ((if0 _ _).trans (feq h).1) k) (kn h)
theorem f_lcmp_eq (X : Stand p l e R s m args below meth c T locs cells slots) (hx : p.tables.exec = Jvm.exec) {x y : Int64} {o : Int} (hd : decode c.code pc = .ok (.ifCond .eq o, 3)) (ho : 0 ≤ (pc : Int) + o) (hp : ((pc : Int) + o).toNat = q1) (hq : pc + 3 = q) (ky : x = y → Go p e below G T m q1 L S) (kn : ¬ x = y → Go p e below G T m q L S) : Go p e below G T m pc L (.int (lcmpW x y) :: S) :=
  f_if_eq X hx hd ho hp hq (fun h => ky ((lw_eq x y).mp h)) (fun h => kn (fun g => h ((lw_eq x y).mpr g)))
theorem f_icmp_ne (X : Stand p l e R s m args below meth c T locs cells slots) (hx : p.tables.exec = Jvm.exec) {x y : Int32} {o : Int} (hd : decode c.code pc = .ok (.if_icmp .ne o, 3)) (ho : 0 ≤ (pc : Int) + o) (hp : ((pc : Int) + o).toNat = q1) (hq : pc + 3 = q) (ky : ¬ x = y → Go p e below G T m q1 L S) (kn : x = y → Go p e below G T m q L S) : Go p e below G T m pc L (.int y :: .int x :: S) := by
  subst hq
  by_cases h : x = y
  · exact Go.st (fun t k => XS.icmpNo X.here hx rfl hd rfl (teq h).2 k) (kn h)
  · exact Go.st (fun t k => XS.icmpYes X.here hx rfl rfl hd rfl (feq h).2 ho hp k) (ky h)
theorem f_if_ne (X : Stand p l e R s m args below meth c T locs cells slots) (hx : p.tables.exec = Jvm.exec) {x : Int32} {o : Int} (hd : decode c.code pc = .ok (.ifCond .ne o, 3)) (ho : 0 ≤ (pc : Int) + o) (hp : ((pc : Int) + o).toNat = q1) (hq : pc + 3 = q) (ky : ¬ x = 0 → Go p e below G T m q1 L S) (kn : x = 0 → Go p e below G T m q L S) : Go p e below G T m pc L (.int x :: S) := by
  subst hq
  by_cases h : x = 0
  · exact Go.st (fun t k => XS.ifNo X.here hx rfl hd rfl ((if0 _ _).trans (teq h).2) k) (kn h)
  · exact Go.st (fun t k => XS.ifYes X.here hx rfl rfl hd rfl ((if0 _ _).trans (feq h).2) ho hp k) (ky h)
theorem f_lcmp_ne (X : Stand p l e R s m args below meth c T locs cells slots) (hx : p.tables.exec = Jvm.exec) {x y : Int64} {o : Int} (hd : decode c.code pc = .ok (.ifCond .ne o, 3)) (ho : 0 ≤ (pc : Int) + o) (hp : ((pc : Int) + o).toNat = q1) (hq : pc + 3 = q) (ky : ¬ x = y → Go p e below G T m q1 L S) (kn : x = y → Go p e below G T m q L S) : Go p e below G T m pc L (.int (lcmpW x y) :: S) :=
  f_if_ne X hx hd ho hp hq (fun h => ky (fun g => h ((lw_eq x y).mpr g))) (fun h => kn ((lw_eq x y).mp h))
theorem s_ifnullYes (X : Stand p l e R s m args below meth c T locs cells slots) (hx : p.tables.exec = Jvm.exec) {o : Int} (hd : decode c.code pc = .ok (.ifnull o, 3)) (ho : 0 ≤ (pc : Int) + o) (hp : ((pc : Int) + o).toNat = q1) (K : Go p e below G T m q1 L S) : Go p e below G T m pc L (.null :: S) := Go.st (fun t k => XS.ifnullYes X.here hx rfl rfl hd rfl ho hp k) K
theorem s_ifnullNo (X : Stand p l e R s m args below meth c T locs cells slots) (hx : p.tables.exec = Jvm.exec) {o : Int} {b : Addr} (hd : decode c.code pc = .ok (.ifnull o, 3))  (hq : pc + 3 = q) (K : Go p e below G T m q L S) : Go p e below G T m pc L (.ref b :: S) := by
  subst hq; exact Go.st (fun t k => XS.ifnullNo X.here hx rfl hd rfl k) K
theorem s_ifnonnullYes (X : Stand p l e R s m args below meth c T locs cells slots) (hx : p.tables.exec = Jvm.exec) {o : Int} {b : Addr} (hd : decode c.code pc = .ok (.ifnonnull o, 3)) (ho : 0 ≤ (pc : Int) + o) (hp : ((pc : Int) + o).toNat = q1) (K : Go p e below G T m q1 L S) : Go p e below G T m pc L (.ref b :: S) := Go.st (fun t k => XS.ifnonnullYes X.here hx rfl rfl hd rfl ho hp k) K
theorem s_ifnonnullNo (X : Stand p l e R s m args below meth c T locs cells slots) (hx : p.tables.exec = Jvm.exec) {o : Int} (hd : decode c.code pc = .ok (.ifnonnull o, 3))  (hq : pc + 3 = q) (K : Go p e below G T m q L S) : Go p e below G T m pc L (.null :: S) := by
  subst hq; exact Go.st (fun t k => XS.ifnonnullNo X.here hx rfl hd rfl k) K
variable {Z : State} {a0 : Array Value} {h h' : Heap} {a b : Addr} {own C O n d : String} {v : Value} {n0 : Nat}
theorem s_ldc (X : Stand p l e R s m args below meth c T locs cells slots) (hx : p.tables.exec = Jvm.exec) (hZ : Z.Warmed39 s.vm) (hown : s.vm.findClass own = some m.cls) {index : Nat} {z : Int32} (w : (Jvm.Cond.constant own index z).before a0 Z = true) (hd : decode c.code pc = .ok (.ldc index, 2)) (hq : pc + 2 = q) (K : Go p e below G T m q L (.int z :: S)) : Go p e below G T m pc L S := by
  subst hq; exact Go.st (fun t k => X.ldcInt hx hown (mvT hZ w) (g := mkF m pc L S) rfl hd t k) K
theorem s_ldcw (X : Stand p l e R s m args below meth c T locs cells slots) (hx : p.tables.exec = Jvm.exec) (hZ : Z.Warmed39 s.vm) (hown : s.vm.findClass own = some m.cls) {index : Nat} {z : Int32} (w : (Jvm.Cond.constant own index z).before a0 Z = true) (hd : decode c.code pc = .ok (.ldc_w index, 3)) (hq : pc + 3 = q) (K : Go p e below G T m q L (.int z :: S)) : Go p e below G T m pc L S := by
  subst hq; exact Go.st (fun t k => X.ldcwInt hx hown (mvT hZ w) (g := mkF m pc L S) rfl hd t k) K
theorem s_ldc2 (X : Stand p l e R s m args below meth c T locs cells slots) (hx : p.tables.exec = Jvm.exec) (hZ : Z.Warmed39 s.vm) (hown : s.vm.findClass own = some m.cls) {index : Nat} {z : Int64} (w : (Jvm.Cond.constantLong own index z).before a0 Z = true) (hd : decode c.code pc = .ok (.ldc2_w index, 3)) (hq : pc + 3 = q) (K : Go p e below G T m q L (.long z :: S)) : Go p e below G T m pc L S := by
  subst hq; exact Go.st (fun t k => X.ldc2Long hx hown (mvT hZ w) (g := mkF m pc L S) rfl hd t k) K
theorem s_lrem (X : Stand p l e R s m args below meth c T locs cells slots) (hx : p.tables.exec = Jvm.exec) {x y : Int64} (hd : decode c.code pc = .ok (.lrem, 1)) (hy : y ≠ 0) (hq : pc + 1 = q) (K : Go p e below G T m q L (.long (x % y) :: S)) : Go p e below G T m pc L (.long y :: .long x :: S) := by
  subst hq; rw [← lrem_mod] at K; exact Go.st (fun t k => XS.lrem X.here hx rfl hd rfl hy k) K
theorem irem_mod (x y : Int32) : x - (x / y) * y = x % y := by
  apply Int32.toInt_inj.mp
  have h1 := Int32.le_toInt (x % y)
  have h2 := Int32.toInt_lt (x % y)
  rw [Int32.toInt_sub, Int32.toInt_mul, Int32.toInt_div, Int.bmod_mul_bmod, Int.sub_bmod_bmod, Int.mul_comm (x.toInt.tdiv y.toInt), ← Int.tmod_def, ← Int32.toInt_mod]
  exact Int.bmod_eq_of_le_mul_two (by omega) (by omega)
theorem s_irem (X : Stand p l e R s m args below meth c T locs cells slots) (hx : p.tables.exec = Jvm.exec) {x y : Int32} (hd : decode c.code pc = .ok (.irem, 1)) (hy : y ≠ 0) (hq : pc + 1 = q) (K : Go p e below G T m q L (.int (x % y) :: S)) : Go p e below G T m pc L (.int y :: .int x :: S) := by
  subst hq; rw [← irem_mod] at K; exact Go.st (fun t k => XS.irem X.here hx rfl hd rfl hy k) K
theorem leafI (X : Stand p l e R s m args below meth c T locs cells slots) (hx : p.tables.exec = Jvm.exec) {z : Int32} {Q : Option Value → Heap → List Loc → Prop} {C N : Nat} (hlk : meth.locks = false) (hret : meth.sig.returnType = some .int) (hd : decode c.code pc = .ok (.ireturn, 1)) (hc : cells ≤ C) (hn : slots ≤ N) (hQ : Q (some (.int z)) T.heap locs) : Go p e below (Gl s below Q C N) T m pc L (.int z :: S) := by
  obtain ⟨fs, hr, hrun, hended, hW, hsame⟩ := X.leave (v := some (.int z)) (fun h => by rw [hret] at h; cases h) hlk
  exact ⟨_, retI X hx hret hd hr, _, hrun, hended, _, _, rfl, hQ, ⟨_, rfl⟩, hW, hsame.mono hc hn⟩
theorem leafN (X : Stand p l e R s m args below meth c T locs cells slots) (hx : p.tables.exec = Jvm.exec) {t : FieldType} {z z' : Int32} {Q : Option Value → Heap → List Loc → Prop} {C N : Nat} (hlk : meth.locks = false) (hret : meth.sig.returnType = some t) (ht : t = .boolean ∨ t = .byte ∨ t = .char ∨ t = .short) (hd : decode c.code pc = .ok (.ireturn, 1)) (hc : cells ≤ C) (hn : slots ≤ N) (hz : nar t z = z') (hQ : Q (some (.int z')) T.heap locs) : Go p e below (Gl s below Q C N) T m pc L (.int z :: S) := by
  subst hz
  obtain ⟨fs, hr, hrun, hended, hW, hsame⟩ := X.leave (v := some (.int (nar t z))) (fun h => by rw [hret] at h; cases h) hlk
  exact ⟨_, retN X hx hret ht hd hr, _, hrun, hended, _, _, rfl, hQ, ⟨_, rfl⟩, hW, hsame.mono hc hn⟩
theorem leafJ (X : Stand p l e R s m args below meth c T locs cells slots) (hx : p.tables.exec = Jvm.exec) {z : Int64} {Q : Option Value → Heap → List Loc → Prop} {C N : Nat} (hlk : meth.locks = false) (hret : meth.sig.returnType = some .long) (hd : decode c.code pc = .ok (.lreturn, 1)) (hc : cells ≤ C) (hn : slots ≤ N) (hQ : Q (some (.long z)) T.heap locs) : Go p e below (Gl s below Q C N) T m pc L (.long z :: S) := by
  obtain ⟨fs, hr, hrun, hended, hW, hsame⟩ := X.leave (v := some (.long z)) (fun h => by rw [hret] at h; cases h) hlk
  refine ⟨_, ?_, _, hrun, hended, _, _, rfl, hQ, ⟨_, rfl⟩, hW, hsame.mono hc hn⟩
  show Steps p.tables e below (T.setTop { method := m, pc := pc, locals := L, stack := .long z :: S, locked := none }) _
  jvm_step X.here [X.here.top, hx, hd, X.method', hret, narrow]
  first | (intro acts; rw [hr _ acts rfl rfl rfl]) | rw [hr _ _ rfl rfl rfl]
  exact Steps.refl _
theorem leafA (X : Stand p l e R s m args below meth c T locs cells slots) (hx : p.tables.exec = Jvm.exec) {v : Value} {t : FieldType} {Q : Option Value → Heap → List Loc → Prop} {C N : Nat} (hlk : meth.locks = false) (hret : meth.sig.returnType = some t) (ht : t.isReference = true) (hv : v.isRef = true) (hd : decode c.code pc = .ok (.areturn, 1)) (hc : cells ≤ C) (hn : slots ≤ N) (hQ : Q (some v) T.heap locs) : Go p e below (Gl s below Q C N) T m pc L (v :: S) := by
  obtain ⟨fs, hr, hrun, hended, hW, hsame⟩ := X.leave (v := some v) (fun h => by rw [hret] at h; cases h) hlk
  refine ⟨_, ?_, _, hrun, hended, _, _, rfl, hQ, ⟨_, rfl⟩, hW, hsame.mono hc hn⟩
  show Steps p.tables e below (T.setTop { method := m, pc := pc, locals := L, stack := v :: S, locked := none }) _
  jvm_step X.here [X.here.top, hx, hd, X.method', hret, hv, ht]
  first | (intro acts; rw [hr _ acts rfl rfl rfl]) | rw [hr _ _ rfl rfl rfl]
  exact Steps.refl _
theorem leafV (X : Stand p l e R s m args below meth c T locs cells slots) (hx : p.tables.exec = Jvm.exec) {Q : Option Value → Heap → List Loc → Prop} {C N : Nat} (hlk : meth.locks = false) (hret : meth.sig.returnType = none) (hd : decode c.code pc = .ok (.return_, 1)) (hc : cells ≤ C) (hn : slots ≤ N) (hQ : Q none T.heap locs) : Go p e below (Gl s below Q C N) T m pc L [] := by
  obtain ⟨fs, hr, hrun, hended, hW, hsame⟩ := X.leave (v := none) (fun _ => rfl) hlk
  exact ⟨_, X.returnOut hx hret hd hr, _, hrun, hended, _, _, rfl, hQ, ⟨_, rfl⟩, hW, hsame.mono hc hn⟩
/-- a call by a contract -/
theorem callC (X : Stand p l e R s m args below meth c T locs cells slots) (hx : p.tables.exec = Jvm.exec) (hZ : Z.Warmed39 s.vm) (hown : s.vm.findClass own = some m.cls) {index : Nat} {y : MethodName} {bytes : ByteArray} {maxL : Nat} {ret : Option FieldType} {rm : Room} {Q : Option Value → Heap → List Loc → Prop} {W : Nat} {argsL rest : List Value}
    (w1 : (Jvm.Cond.methodLink own index y).before a0 Z = true) (w2 : (Jvm.Cond.static y).before a0 Z = true) (w3 : (Jvm.Cond.initialized y.cls).before a0 Z = true) (w4 : (Jvm.Cond.code y bytes maxL ret).before a0 Z = true) (hy : y.cls ≠ "java/lang/invoke/MethodHandle" ∧ y.cls ≠ "java/lang/invoke/VarHandle")
    (K : Ctr l y bytes maxL ret [] rm Z argsL.toArray h Q rm.cells rm.slots) (eT : T.heap = h) (hf : rm.frames + 1 ≤ R.frames) (hl : W + (maxL + 11) + rm.locals ≤ R.locals) (hc : cells + rm.cells ≤ R.cells) (hn : slots + rm.slots ≤ R.slots) (hsize : L.size = c.maxLocals)
    {ps : List FieldType} {r : Option FieldType} (hlen : parseMethodDescriptor y.desc = some ⟨ps, r⟩) (hl2 : argsL.length = ps.length) (hS : S = argsL.reverse ++ rest) (hW : (rest.map fun v => v.category).sum ≤ W) (hd : decode c.code pc = .ok (.invokestatic index, 3)) (hq : pc + 3 = q)
    (k : ∀ (v : Option Value) (T' : State) (Lc : List Loc), Q v T'.heap Lc → Stand p l e R s m args below meth c T' (locs ++ Lc) (cells + rm.cells) (slots + rm.slots) → Go p e below G T' m q L (v.toList ++ rest)) : Go p e below G T m pc L S := by
  subst hq hS
  obtain ⟨v, _, ⟨T', L', k', n'⟩, -, X', ⟨Lc, hQ, l1, y1, z1⟩, st⟩ := Jvm.LawKit.callS X hx (y := y) hown (mvT hZ w1) (mvT hZ w2) (mvT hZ w3) (mvT hZ w4) hy (backOf (W := W) K hZ w4 w3 hf hl) (g := mkF m pc L (argsL.reverse ++ rest)) rfl hsize (argsL := argsL) (rest := rest) (lenOf hlen hl2) rfl (by show 2 * 0 + _ ≤ _; omega) hd (fun _ _ => ⟨rfl, eT, hc, hn⟩)
  dsimp only [Pt.U, Pt.locs, Pt.cells, Pt.slots] at X' l1 y1 z1 st hQ
  subst l1 y1 z1
  exact Go.st st (k v T' Lc hQ X')
/-- what a pure body leaves -/
def PQ (w : Value) (h0 : Heap) (v : Option Value) (h : Heap) (L : List Loc) : Prop := v = some w ∧ h = h0 ∧ L = []
theorem callP (X : Stand p l e R s m args below meth c T locs cells slots) (hx : p.tables.exec = Jvm.exec) (hZ : Z.Warmed39 s.vm) (hown : s.vm.findClass own = some m.cls) {index : Nat} {y : MethodName} {bytes : ByteArray} {maxL : Nat} {ret : Option FieldType} {rm : Room} {w : Value} {W : Nat} {argsL rest : List Value}
    (w1 : (Jvm.Cond.methodLink own index y).before a0 Z = true) (w2 : (Jvm.Cond.static y).before a0 Z = true) (w3 : (Jvm.Cond.initialized y.cls).before a0 Z = true) (w4 : (Jvm.Cond.code y bytes maxL ret).before a0 Z = true) (hy : y.cls ≠ "java/lang/invoke/MethodHandle" ∧ y.cls ≠ "java/lang/invoke/VarHandle")
    (K : Ctr l y bytes maxL ret [] rm Z argsL.toArray h (PQ w h) 0 0) (hrc : rm.cells = 0) (hrs : rm.slots = 0) (eT : T.heap = h) (hf : rm.frames + 1 ≤ R.frames) (hl : W + (maxL + 11) + rm.locals ≤ R.locals) (hc : cells ≤ R.cells) (hn : slots ≤ R.slots) (hsize : L.size = c.maxLocals)
    {ps : List FieldType} {r : Option FieldType} (hlen : parseMethodDescriptor y.desc = some ⟨ps, r⟩) (hl2 : argsL.length = ps.length) (hS : S = argsL.reverse ++ rest) (hW : (rest.map fun v => v.category).sum ≤ W) (hd : decode c.code pc = .ok (.invokestatic index, 3)) (hq : pc + 3 = q)
    (k : ∀ (T' : State), Stand p l e R s m args below meth c T' locs cells slots → T'.heap = h → Go p e below G T' m q L (w :: rest)) : Go p e below G T m pc L S := by
  refine callC X hx hZ hown w1 w2 w3 w4 hy (rm := rm) (Q := PQ w h) (by rw [hrc, hrs]; exact K) eT hf hl (by rw [hrc]; exact hc) (by rw [hrs]; exact hn) hsize hlen hl2 hS hW hd hq ?_
  rintro v T' Lc ⟨rfl, e', rfl⟩ X'
  rw [List.append_nil, hrc, hrs] at X'
  exact k T' X' e'
theorem callV (X : Stand p l e R s m args below meth c T locs cells slots) (hx : p.tables.exec = Jvm.exec) (hZ : Z.Warmed39 s.vm) (hown : s.vm.findClass own = some m.cls) {index : Nat} {y : MethodName} {bytes : ByteArray} {maxL : Nat} {ret : Option FieldType} {rm : Room} {Q : Option Value → Heap → List Loc → Prop} {W : Nat} {argsL rest : List Value}
    (w1 : (Jvm.Cond.methodLink own index y).before a0 Z = true) (w2 : (Jvm.Cond.declares y).before a0 Z = true) (w3 : (Jvm.Cond.selects y.cls y y).before a0 Z = true) (w5 : (Jvm.Cond.instanceMethod y).before a0 Z = true) (w6 : (Jvm.Cond.initialized y.cls).before a0 Z = true) (w4 : (Jvm.Cond.code y bytes maxL ret).before a0 Z = true) (hy : y.cls ≠ "java/lang/invoke/MethodHandle" ∧ y.cls ≠ "java/lang/invoke/VarHandle")
    (A : Exa Z h a y.cls) (K : Ctr l y bytes maxL ret [] rm Z (.ref a :: argsL).toArray h Q rm.cells rm.slots) (eT : T.heap = h) (hf : rm.frames + 1 ≤ R.frames) (hl : W + (maxL + 11) + rm.locals ≤ R.locals) (hc : cells + rm.cells ≤ R.cells) (hn : slots + rm.slots ≤ R.slots) (hsize : L.size = c.maxLocals)
    {ps : List FieldType} {r : Option FieldType} (hlen : parseMethodDescriptor y.desc = some ⟨ps, r⟩) (hl2 : argsL.length = ps.length) (hS : S = argsL.reverse ++ .ref a :: rest) (hW : (rest.map fun v => v.category).sum ≤ W) (hd : decode c.code pc = .ok (.invokevirtual index, 3)) (hq : pc + 3 = q)
    (k : ∀ (v : Option Value) (T' : State) (Lc : List Loc), Q v T'.heap Lc → Stand p l e R s m args below meth c T' (locs ++ Lc) (cells + rm.cells) (slots + rm.slots) → Go p e below G T' m q L (v.toList ++ rest)) : Go p e below G T m pc L S := by
  subst hq hS
  obtain ⟨cq, kq, qa, qb, qc⟩ := isOf hZ eT A
  obtain ⟨v, _, ⟨T', L', k', n'⟩, -, X', ⟨Lc, hQ, l1, y1, z1⟩, st⟩ := X.virtualBack hx (y := y) (z := y) hown (mvT hZ w1) (mvT hZ w2) (notFace_of_selects (args := #[]) (mvT hZ w3)) (mvT hZ w3) (mvT hZ w5) hy (backOf (W := W) K hZ w4 w6 hf hl) qa qc (g := mkF m pc L (argsL.reverse ++ .ref a :: rest)) rfl hsize (Steps.refl _) (argsL := argsL) (rest := rest) (lenOf hlen hl2) rfl (by show 2 * 0 + _ ≤ _; omega) hd (fun _ _ => ⟨rfl, eT, hc, hn⟩)
  dsimp only [Pt.U, Pt.locs, Pt.cells, Pt.slots] at X' l1 y1 z1 st hQ
  subst l1 y1 z1
  exact Go.st (fun t h => st.trans h) (k v T' Lc hQ X')
theorem callI (X : Stand p l e R s m args below meth c T locs cells slots) (hx : p.tables.exec = Jvm.exec) (hZ : Z.Warmed39 s.vm) (hown : s.vm.findClass own = some m.cls) {index : Nat} {y : MethodName} {bytes : ByteArray} {maxL : Nat} {rm : Room} {Q : Option Value → Heap → List Loc → Prop} {W : Nat} {argsL rest : List Value} (hyn : y.name = "<init>")
    (w1 : (Jvm.Cond.methodLink own index y).before a0 Z = true) (w5 : (Jvm.Cond.instanceMethod y).before a0 Z = true) (w6 : (Jvm.Cond.initialized y.cls).before a0 Z = true) (w4 : (Jvm.Cond.code y bytes maxL none).before a0 Z = true) (hy : y.cls ≠ "java/lang/invoke/MethodHandle" ∧ y.cls ≠ "java/lang/invoke/VarHandle")
    (K : Ctr l y bytes maxL none [] rm Z (.ref a :: argsL).toArray h Q rm.cells rm.slots) (eT : T.heap = h) (hf : rm.frames + 1 ≤ R.frames) (hl : W + (maxL + 11) + rm.locals ≤ R.locals) (hc : cells + rm.cells ≤ R.cells) (hn : slots + rm.slots ≤ R.slots) (hsize : L.size = c.maxLocals)
    {ps : List FieldType} {r : Option FieldType} (hlen : parseMethodDescriptor y.desc = some ⟨ps, r⟩) (hl2 : argsL.length = ps.length) (hS : S = argsL.reverse ++ .ref a :: rest) (hW : (rest.map fun v => v.category).sum ≤ W) (hd : decode c.code pc = .ok (.invokespecial index, 3)) (hq : pc + 3 = q)
    (k : ∀ (v : Option Value) (T' : State) (Lc : List Loc), Q v T'.heap Lc → Stand p l e R s m args below meth c T' (locs ++ Lc) (cells + rm.cells) (slots + rm.slots) → Go p e below G T' m q L (v.toList ++ rest)) : Go p e below G T m pc L S := by
  subst hq hS
  obtain ⟨v, _, ⟨T', L', k', n'⟩, -, X', ⟨Lc, hQ, l1, y1, z1⟩, st⟩ := X.specialBack hx (y := y) hyn hown (mvT hZ w1) (mvT hZ w5) (mvT hZ w4) hy (backOf (W := W) K hZ w4 w6 hf hl) (g := mkF m pc L (argsL.reverse ++ .ref a :: rest)) rfl hsize (Steps.refl _) (a := a) (argsL := argsL) (rest := rest) (lenOf hlen hl2) rfl (by show 2 * 0 + _ ≤ _; omega) hd (fun _ _ => ⟨rfl, eT, hc, hn⟩)
  dsimp only [Pt.U, Pt.locs, Pt.cells, Pt.slots] at X' l1 y1 z1 st hQ
  subst l1 y1 z1
  exact Go.st (fun t h => st.trans h) (k v T' Lc hQ X')
theorem s_initO (X : Stand p l e R s m args below meth c T locs cells slots) (hx : p.tables.exec = Jvm.exec) (hZ : Z.Warmed39 s.vm) (hown : s.vm.findClass own = some m.cls) {index : Nat} {W : Nat} (w1 : (Jvm.Cond.methodLink own index Lib.objectInit).before a0 Z = true) (w2 : (Jvm.Cond.instanceMethod Lib.objectInit).before a0 Z = true)
    (w3 : (Jvm.Cond.code Lib.objectInit ⟨#[0xb1]⟩ 1 none).before a0 Z = true) (eT : T.heap = h) (hsize : L.size = c.maxLocals) (hf : 1 ≤ R.frames) (hW : (S.map fun v => v.category).sum ≤ W) (hl : W + 12 ≤ R.locals) (hd : decode c.code pc = .ok (.invokespecial index, 3)) (hq : pc + 3 = q)
    (k : ∀ T', Stand p l e R s m args below meth c T' locs cells slots → T'.heap = h → Go p e below G T' m q L S) : Go p e below G T m pc L (.ref a :: S) := by
  subst hq
  obtain ⟨T', X', e', st⟩ := initO X hx hZ hown w1 w2 w3 eT (g := mkF m pc L (.ref a :: S)) rfl hsize rfl hd hf (W := W) (by show 2 * 0 + _ ≤ _; omega) hl
  exact Go.st st (k T' X' e')
theorem s_getF (X : Stand p l e R s m args below meth c T locs cells slots) (hx : p.tables.exec = Jvm.exec) (hZ : Z.Warmed39 s.vm) (hown : s.vm.findClass own = some m.cls) {index : Nat} (w : (Jvm.Cond.fieldLink own index O n d).before a0 Z = true) (eT : T.heap = h) (F : Fld Z h a O n d v) (hd : decode c.code pc = .ok (.getfield index, 3)) (hq : pc + 3 = q)
    (k : ∀ T', Stand p l e R s m args below meth c T' locs cells slots → T'.heap = h → Go p e below G T' m q L (v :: S)) : Go p e below G T m pc L (.ref a :: S) := by
  subst hq
  obtain ⟨T', X', e', st⟩ := getF X hx hZ hown (host := "") (Or.inl w) Via.refl eT F (g := mkF m pc L (.ref a :: S)) rfl rfl hd
  exact Go.st st (k T' X' e')
theorem s_putF (X : Stand p l e R s m args below meth c T locs cells slots) (hx : p.tables.exec = Jvm.exec) (hZ : Z.Warmed39 s.vm) (hown : s.vm.findClass own = some m.cls) {index kk : Nat} {ty : FieldType} {v old : Value} (w : (Jvm.Cond.fieldLink own index O n d).before a0 Z = true) (eT : T.heap = h) (F : Fld Z h a O n d old) (E : Exa Z h a C)
    (Ly : (Jvm.Cond.lays C O n d).before a0 Z = true ∨ ((Jvm.Cond.laysFinal C O n d).before a0 Z = true ∧ own = O ∧ meth.name = "<init>")) (wi : (Jvm.Cond.instantiable C kk).before a0 Z = true) (hty : parseFieldDescriptor d = some ty) (hn : narrow ty v = v) (hfit : fits ty v = true) (N : Fr n0 locs) (hg : n0 ≤ a) (hd : decode c.code pc = .ok (.putfield index, 3)) (hq : pc + 3 = q)
    (k : ∀ (T' : State) (h' : Heap) (locs' : List Loc), Stand p l e R s m args below meth c T' locs' cells slots → Fr n0 locs' → T'.heap = h' → Wr h h' a (Jvm.RoadKit.slotOf Z O n d) v → Fld Z h' a O n d v → Go p e below G T' m q L S) : Go p e below G T m pc L (v :: .ref a :: S) := by
  subst hq
  obtain ⟨T', h', X', e', W, st⟩ := putF X hx hZ hown (host := "") (Or.inl w) Via.refl eT F E Ly wi hty hn hfit (g := mkF m pc L (v :: .ref a :: S)) rfl rfl hd
  exact Go.st st (k T' h' _ X' (Fr.snoc X' N hg) e' W (F.same W))
theorem s_new (X : Stand p l e R s m args below meth c T locs cells slots) (hx : p.tables.exec = Jvm.exec) (hZ : Z.Warmed39 s.vm) (hown : s.vm.findClass own = some m.cls) {index kk : Nat} (w : (Jvm.Cond.classLink own index C).before a0 Z = true) (wi : (Jvm.Cond.instantiable C kk).before a0 Z = true) (wz : (Jvm.Cond.initialized C).before a0 Z = true) (eT : T.heap = h)
    (hc : cells + 1 ≤ R.cells) (hl : slots + kk ≤ R.slots) (hd : decode c.code pc = .ok (.new index, 3)) (hq : pc + 3 = q)
    (k : ∀ (T' : State) (h' : Heap) (a : Addr), Stand p l e R s m args below meth c T' locs (cells + 1) (slots + kk) → T'.heap = h' → Ext h h' → a = h.size → Exa Z h' a C → (∀ (O nm d : String) (ty : FieldType), Laid Z a0 C O nm d → parseFieldDescriptor d = some ty → Fld Z h' a O nm d (defaultValue ty)) → Go p e below G T' m q L (.ref a :: S)) : Go p e below G T m pc L S := by
  subst hq
  obtain ⟨T', h', X', e', E, A, D, -, st⟩ := newO X hx hZ hown w wi wz eT (g := mkF m pc L S) rfl hd hc hl
  exact Go.st st (k T' h' _ X' e' E rfl A (fun _ _ _ _ L1 q1 => D L1 q1))
/-- an array of ints (bytes, chars ..) by its list -/
def AI (Z : State) (h : Heap) (a : Addr) (ty : FieldType) (xs : List Int32) : Prop := ∃ cl : Cell, Arr Z h a cl ty ∧ cl.slots.toList = xs.map Value.int ∧ xs.length < 2147483648
def AJ (Z : State) (h : Heap) (a : Addr) (xs : List Int64) : Prop := ∃ cl : Cell, Arr Z h a cl .long ∧ cl.slots.toList = xs.map Value.long ∧ xs.length < 2147483648
variable {ty : FieldType} {xs ys : List Int32} {us vs : List Int64} {w : Value} {sl : Nat} {ws : List Addr}
theorem AI.lt (A : AI Z h a ty xs) : a < h.size := by obtain ⟨c, A, -⟩ := A; exact A.lt
theorem AJ.lt (A : AJ Z h a us) : a < h.size := by obtain ⟨c, A, -⟩ := A; exact A.lt
theorem AI.ext (A : AI Z h a ty xs) (E : Ext h h') : AI Z h' a ty xs := by obtain ⟨c, A, r⟩ := A; exact ⟨c, A.ext E, r⟩
theorem AJ.ext (A : AJ Z h a us) (E : Ext h h') : AJ Z h' a us := by obtain ⟨c, A, r⟩ := A; exact ⟨c, A.ext E, r⟩
theorem AI.other (A : AI Z h a ty xs) (W : Wr h h' b sl w) (q : a ≠ b) : AI Z h' a ty xs := by obtain ⟨c, A, r⟩ := A; exact ⟨c, A.other W q, r⟩
theorem AJ.other (A : AJ Z h a us) (W : Wr h h' b sl w) (q : a ≠ b) : AJ Z h' a us := by obtain ⟨c, A, r⟩ := A; exact ⟨c, A.other W q, r⟩
theorem AI.keep (A : AI Z h a ty xs) (K : Keep h h' ws) (q : a ∉ ws) : AI Z h' a ty xs := by obtain ⟨c, A, r⟩ := A; exact ⟨c, ⟨K.2.1 a c A.1 q, A.2⟩, r⟩
theorem AJ.keep (A : AJ Z h a us) (K : Keep h h' ws) (q : a ∉ ws) : AJ Z h' a us := by obtain ⟨c, A, r⟩ := A; exact ⟨c, ⟨K.2.1 a c A.1 q, A.2⟩, r⟩
theorem set_list (cl : Cell) (i : Nat) (v : Value) : (cl.setSlot i v).slots.toList = cl.slots.toList.set i v := by
  show (cl.slots.setIfInBounds i v).toList = _
  exact Array.toList_setIfInBounds ..
theorem AI.same (A : AI Z h a ty xs) {i : Nat} {x : Int32} (W : Wr h h' a i (.int x)) : AI Z h' a ty (xs.set i x) := by
  obtain ⟨c, A, e, n⟩ := A
  exact ⟨_, A.same W, by rw [set_list, e, List.map_set], by rw [List.length_set]; exact n⟩
theorem AJ.same (A : AJ Z h a us) {i : Nat} {x : Int64} (W : Wr h h' a i (.long x)) : AJ Z h' a (us.set i x) := by
  obtain ⟨c, A, e, n⟩ := A
  exact ⟨_, A.same W, by rw [set_list, e, List.map_set], by rw [List.length_set]; exact n⟩
theorem own_size {cl : Cell} {α : Type} {zs : List α} {f : α → Value} (e : cl.slots.toList = zs.map f) : cl.slots.size = zs.length := by
  rw [← Array.length_toList, e, List.length_map]
theorem own_at {cl : Cell} {α : Type} {zs : List α} {f : α → Value} (e : cl.slots.toList = zs.map f) {i : Nat} {x : α} (q : zs[i]? = some x) : cl.slots[i]? = some (f x) := by
  rw [← Array.getElem?_toList, e, List.getElem?_map, q]; rfl
theorem own_in {cl : Cell} {α : Type} {zs : List α} {f : α → Value} (e : cl.slots.toList = zs.map f) {j : Int32} (hj : ¬ j < 0) (q : j.toNatClampNeg < zs.length) : ¬ (j < 0 ∨ cl.slots.size ≤ j.toNatClampNeg) := by
  rw [own_size e]; intro h; rcases h with h | h
  · exact hj h
  · omega
theorem own_inl {α : Type} {zs : List α} {i : Nat} {x : α} (q : zs[i]? = some x) : i < zs.length := (List.getElem?_eq_some_iff.mp q).1
theorem s_iaload (X : Stand p l e R s m args below meth c T locs cells slots) (hx : p.tables.exec = Jvm.exec) (hZ : Z.Warmed39 s.vm) (eT : T.heap = h) {j : Int32} {x : Int32} (A : AI Z h a .int xs) (hj : ¬ j < 0) {i : Nat} (hji : j.toNatClampNeg = i) (hv : xs[i]? = some x) (hd : decode c.code pc = .ok (.iaload, 1)) (hq : pc + 1 = q) (K : Go p e below G T m q L (.int x :: S)) : Go p e below G T m pc L (.int j :: .ref a :: S) := by
  subst hq hji; obtain ⟨cl, Ar, ex, -⟩ := A
  exact Go.st (fun t k => X.iaload hx (j := j) (v := .int x) (by rw [eT]; exact Ar.1) (State.isArrayOf_alike hZ.alike Ar.2.1) Ar.2.2 (own_in ex hj (own_inl hv)) (own_at ex hv) (g := mkF m pc L (.int j :: .ref a :: S)) rfl rfl hd t k) K
theorem s_caload (X : Stand p l e R s m args below meth c T locs cells slots) (hx : p.tables.exec = Jvm.exec) (hZ : Z.Warmed39 s.vm) (eT : T.heap = h) {j : Int32} {x : Int32} (A : AI Z h a .char xs) (hj : ¬ j < 0) {i : Nat} (hji : j.toNatClampNeg = i) (hv : xs[i]? = some x) (hd : decode c.code pc = .ok (.caload, 1)) (hq : pc + 1 = q) (K : Go p e below G T m q L (.int x :: S)) : Go p e below G T m pc L (.int j :: .ref a :: S) := by
  subst hq hji; obtain ⟨cl, Ar, ex, -⟩ := A
  exact Go.st (fun t k => X.caload hx (j := j) (v := .int x) (by rw [eT]; exact Ar.1) (State.isArrayOf_alike hZ.alike Ar.2.1) Ar.2.2 (own_in ex hj (own_inl hv)) (own_at ex hv) (g := mkF m pc L (.int j :: .ref a :: S)) rfl rfl hd t k) K
theorem s_baload (X : Stand p l e R s m args below meth c T locs cells slots) (hx : p.tables.exec = Jvm.exec) (hZ : Z.Warmed39 s.vm) (eT : T.heap = h) {j : Int32} {x : Int32} (A : AI Z h a .byte xs) (hj : ¬ j < 0) {i : Nat} (hji : j.toNatClampNeg = i) (hv : xs[i]? = some x) (hd : decode c.code pc = .ok (.baload, 1)) (hq : pc + 1 = q) (K : Go p e below G T m q L (.int x :: S)) : Go p e below G T m pc L (.int j :: .ref a :: S) := by
  subst hq hji; obtain ⟨cl, Ar, ex, -⟩ := A
  exact Go.st (fun t k => X.baloadBytes hx (j := j) (v := .int x) (by rw [eT]; exact Ar.1) (State.isArrayOf_alike hZ.alike Ar.2.1) Ar.2.2 (own_in ex hj (own_inl hv)) (own_at ex hv) (g := mkF m pc L (.int j :: .ref a :: S)) rfl rfl hd t k) K
theorem s_laload (X : Stand p l e R s m args below meth c T locs cells slots) (hx : p.tables.exec = Jvm.exec) (hZ : Z.Warmed39 s.vm) (eT : T.heap = h) {j : Int32} {x : Int64} (A : AJ Z h a us) (hj : ¬ j < 0) {i : Nat} (hji : j.toNatClampNeg = i) (hv : us[i]? = some x) (hd : decode c.code pc = .ok (.laload, 1)) (hq : pc + 1 = q) (K : Go p e below G T m q L (.long x :: S)) : Go p e below G T m pc L (.int j :: .ref a :: S) := by
  subst hq hji; obtain ⟨cl, Ar, ex, -⟩ := A
  exact Go.st (fun t k => X.laload hx (j := j) (v := .long x) (by rw [eT]; exact Ar.1) (State.isArrayOf_alike hZ.alike Ar.2.1) Ar.2.2 (own_in ex hj (own_inl hv)) (own_at ex hv) (g := mkF m pc L (.int j :: .ref a :: S)) rfl rfl hd t k) K
theorem s_iastore (X : Stand p l e R s m args below meth c T locs cells slots) (hx : p.tables.exec = Jvm.exec) (hZ : Z.Warmed39 s.vm) (eT : T.heap = h) {j : Int32} {x : Int32} (A : AI Z h a .int xs) (N : Fr n0 locs) (hg : n0 ≤ a) (hj : ¬ j < 0) {i : Nat} (hji : j.toNatClampNeg = i) (hi : i < xs.length) (hs : xs.set i x = ys) (hd : decode c.code pc = .ok (.iastore, 1)) (hq : pc + 1 = q)
    (k : ∀ (T' : State) (h' : Heap) (locs' : List Loc), Stand p l e R s m args below meth c T' locs' cells slots → Fr n0 locs' → T'.heap = h' → Wr h h' a i (.int x) → AI Z h' a .int ys → Go p e below G T' m q L S) : Go p e below G T m pc L (.int x :: .int j :: .ref a :: S) := by
  subst hq hs hji; have A0 := A; obtain ⟨cl, Ar, ex, -⟩ := A
  obtain ⟨T', h', X', e', W, st⟩ := Jvm.RoadKit.stI X hx hZ eT Ar (j := j) (own_in ex hj hi) (g := mkF m pc L (.int x :: .int j :: .ref a :: S)) rfl rfl hd
  exact Go.st st (k T' h' _ X' (Fr.snoc X' N hg) e' W (A0.same W))
theorem s_castore (X : Stand p l e R s m args below meth c T locs cells slots) (hx : p.tables.exec = Jvm.exec) (hZ : Z.Warmed39 s.vm) (eT : T.heap = h) {j : Int32} {x : Int32} (A : AI Z h a .char xs) (N : Fr n0 locs) (hg : n0 ≤ a) (hj : ¬ j < 0) {i : Nat} (hji : j.toNatClampNeg = i) (hi : i < xs.length) (hs : xs.set i (nar .char x) = ys) (hd : decode c.code pc = .ok (.castore, 1)) (hq : pc + 1 = q)
    (k : ∀ (T' : State) (h' : Heap) (locs' : List Loc), Stand p l e R s m args below meth c T' locs' cells slots → Fr n0 locs' → T'.heap = h' → Wr h h' a i (.int (nar .char x)) → AI Z h' a .char ys → Go p e below G T' m q L S) : Go p e below G T m pc L (.int x :: .int j :: .ref a :: S) := by
  subst hq hs hji; have A0 := A; obtain ⟨cl, Ar, ex, -⟩ := A
  obtain ⟨T', h', X', e', W, st⟩ := stC X hx hZ eT Ar (j := j) (own_in ex hj hi) (g := mkF m pc L (.int x :: .int j :: .ref a :: S)) rfl rfl hd
  exact Go.st st (k T' h' _ X' (Fr.snoc X' N hg) e' W (A0.same W))
theorem s_bastore (X : Stand p l e R s m args below meth c T locs cells slots) (hx : p.tables.exec = Jvm.exec) (hZ : Z.Warmed39 s.vm) (eT : T.heap = h) {j : Int32} {x : Int32} (A : AI Z h a .byte xs) (N : Fr n0 locs) (hg : n0 ≤ a) (hj : ¬ j < 0) {i : Nat} (hji : j.toNatClampNeg = i) (hi : i < xs.length) (hs : xs.set i (nar .byte x) = ys) (hd : decode c.code pc = .ok (.bastore, 1)) (hq : pc + 1 = q)
    (k : ∀ (T' : State) (h' : Heap) (locs' : List Loc), Stand p l e R s m args below meth c T' locs' cells slots → Fr n0 locs' → T'.heap = h' → Wr h h' a i (.int (nar .byte x)) → AI Z h' a .byte ys → Go p e below G T' m q L S) : Go p e below G T m pc L (.int x :: .int j :: .ref a :: S) := by
  subst hq hs hji; have A0 := A; obtain ⟨cl, Ar, ex, -⟩ := A
  obtain ⟨T', h', X', e', W, st⟩ := stB X hx hZ eT Ar (j := j) (own_in ex hj hi) (g := mkF m pc L (.int x :: .int j :: .ref a :: S)) rfl rfl hd
  exact Go.st st (k T' h' _ X' (Fr.snoc X' N hg) e' W (A0.same W))
theorem s_lastore (X : Stand p l e R s m args below meth c T locs cells slots) (hx : p.tables.exec = Jvm.exec) (hZ : Z.Warmed39 s.vm) (eT : T.heap = h) {j : Int32} {x : Int64} (A : AJ Z h a us) (N : Fr n0 locs) (hg : n0 ≤ a) (hj : ¬ j < 0) {i : Nat} (hji : j.toNatClampNeg = i) (hi : i < us.length) (hs : us.set i x = vs) (hd : decode c.code pc = .ok (.lastore, 1)) (hq : pc + 1 = q)
    (k : ∀ (T' : State) (h' : Heap) (locs' : List Loc), Stand p l e R s m args below meth c T' locs' cells slots → Fr n0 locs' → T'.heap = h' → Wr h h' a i (.long x) → AJ Z h' a vs → Go p e below G T' m q L S) : Go p e below G T m pc L (.long x :: .int j :: .ref a :: S) := by
  subst hq hs hji; have A0 := A; obtain ⟨cl, Ar, ex, -⟩ := A
  obtain ⟨T', h', X', e', W, st⟩ := Jvm.RoadKit.stJ X hx hZ eT Ar (j := j) (own_in ex hj hi) (g := mkF m pc L (.long x :: .int j :: .ref a :: S)) rfl rfl hd
  exact Go.st st (k T' h' _ X' (Fr.snoc X' N hg) e' W (A0.same W))
theorem s_newI (X : Stand p l e R s m args below meth c T locs cells slots) (hx : p.tables.exec = Jvm.exec) (hZ : Z.Warmed39 s.vm) (w : (Jvm.Cond.arrayClass .int).before a0 Z = true) (eT : T.heap = h) {z : Int32} (hz : ¬ z < 0) {cap : Nat} (hcap : z.toNatClampNeg ≤ cap) (hb8 : cap * 8 ≤ 536870912) (hc : cells + 1 ≤ R.cells) (hl : slots + cap ≤ R.slots) (hs : List.replicate z.toNatClampNeg 0 = ys) (hd : decode c.code pc = .ok (.newarray .int, 2)) (hq : pc + 2 = q)
    (k : ∀ (T' : State) (h' : Heap) (a : Addr), Stand p l e R s m args below meth c T' locs (cells + 1) (slots + cap) → T'.heap = h' → Ext h h' → a = h.size → AI Z h' a .int ys → Go p e below G T' m q L (.ref a :: S)) : Go p e below G T m pc L (.int z :: S) := by
  subst hq hs
  obtain ⟨T', h', cA, X', e', E, A, st⟩ := newP X hx hZ (aty := .int) w eT (g := mkF m pc L (.int z :: S)) rfl hd rfl hz (cap := cap) hcap hb8 hc hl
  refine Go.st st (k T' h' _ X' e' E rfl ⟨_, A, ?_, ?_⟩)
  · simp [newA, defaultValue, newarray.typeOf]
  · rw [List.length_replicate]; have := z.toInt_lt; simp only [Int32.toNatClampNeg]; omega
theorem s_newC (X : Stand p l e R s m args below meth c T locs cells slots) (hx : p.tables.exec = Jvm.exec) (hZ : Z.Warmed39 s.vm) (w : (Jvm.Cond.arrayClass .char).before a0 Z = true) (eT : T.heap = h) {z : Int32} (hz : ¬ z < 0) {cap : Nat} (hcap : z.toNatClampNeg ≤ cap) (hb8 : cap * 8 ≤ 536870912) (hc : cells + 1 ≤ R.cells) (hl : slots + cap ≤ R.slots) (hs : List.replicate z.toNatClampNeg 0 = ys) (hd : decode c.code pc = .ok (.newarray .char, 2)) (hq : pc + 2 = q)
    (k : ∀ (T' : State) (h' : Heap) (a : Addr), Stand p l e R s m args below meth c T' locs (cells + 1) (slots + cap) → T'.heap = h' → Ext h h' → a = h.size → AI Z h' a .char ys → Go p e below G T' m q L (.ref a :: S)) : Go p e below G T m pc L (.int z :: S) := by
  subst hq hs
  obtain ⟨T', h', cA, X', e', E, A, st⟩ := newP X hx hZ (aty := .char) w eT (g := mkF m pc L (.int z :: S)) rfl hd rfl hz (cap := cap) hcap hb8 hc hl
  refine Go.st st (k T' h' _ X' e' E rfl ⟨_, A, ?_, ?_⟩)
  · simp [newA, defaultValue, newarray.typeOf]
  · rw [List.length_replicate]; have := z.toInt_lt; simp only [Int32.toNatClampNeg]; omega
theorem s_newB (X : Stand p l e R s m args below meth c T locs cells slots) (hx : p.tables.exec = Jvm.exec) (hZ : Z.Warmed39 s.vm) (w : (Jvm.Cond.arrayClass .byte).before a0 Z = true) (eT : T.heap = h) {z : Int32} (hz : ¬ z < 0) {cap : Nat} (hcap : z.toNatClampNeg ≤ cap) (hb8 : cap * 8 ≤ 536870912) (hc : cells + 1 ≤ R.cells) (hl : slots + cap ≤ R.slots) (hs : List.replicate z.toNatClampNeg 0 = ys) (hd : decode c.code pc = .ok (.newarray .byte, 2)) (hq : pc + 2 = q)
    (k : ∀ (T' : State) (h' : Heap) (a : Addr), Stand p l e R s m args below meth c T' locs (cells + 1) (slots + cap) → T'.heap = h' → Ext h h' → a = h.size → AI Z h' a .byte ys → Go p e below G T' m q L (.ref a :: S)) : Go p e below G T m pc L (.int z :: S) := by
  subst hq hs
  obtain ⟨T', h', cA, X', e', E, A, st⟩ := newP X hx hZ (aty := .byte) w eT (g := mkF m pc L (.int z :: S)) rfl hd rfl hz (cap := cap) hcap hb8 hc hl
  refine Go.st st (k T' h' _ X' e' E rfl ⟨_, A, ?_, ?_⟩)
  · simp [newA, defaultValue, newarray.typeOf]
  · rw [List.length_replicate]; have := z.toInt_lt; simp only [Int32.toNatClampNeg]; omega
theorem s_newJ (X : Stand p l e R s m args below meth c T locs cells slots) (hx : p.tables.exec = Jvm.exec) (hZ : Z.Warmed39 s.vm) (w : (Jvm.Cond.arrayClass .long).before a0 Z = true) (eT : T.heap = h) {z : Int32} (hz : ¬ z < 0) {cap : Nat} (hcap : z.toNatClampNeg ≤ cap) (hb8 : cap * 8 ≤ 536870912) (hc : cells + 1 ≤ R.cells) (hl : slots + cap ≤ R.slots) (hs : List.replicate z.toNatClampNeg 0 = vs) (hd : decode c.code pc = .ok (.newarray .long, 2)) (hq : pc + 2 = q)
    (k : ∀ (T' : State) (h' : Heap) (a : Addr), Stand p l e R s m args below meth c T' locs (cells + 1) (slots + cap) → T'.heap = h' → Ext h h' → a = h.size → AJ Z h' a vs → Go p e below G T' m q L (.ref a :: S)) : Go p e below G T m pc L (.int z :: S) := by
  subst hq hs
  obtain ⟨T', h', cA, X', e', E, A, st⟩ := newP X hx hZ (aty := .long) w eT (g := mkF m pc L (.int z :: S)) rfl hd rfl hz (cap := cap) hcap hb8 hc hl
  refine Go.st st (k T' h' _ X' e' E rfl ⟨_, A, ?_, ?_⟩)
  · simp [newA, defaultValue, newarray.typeOf]
  · rw [List.length_replicate]; have := z.toInt_lt; simp only [Int32.toNatClampNeg]; omega
theorem s_lenI (X : Stand p l e R s m args below meth c T locs cells slots) (hx : p.tables.exec = Jvm.exec) (hZ : Z.Warmed39 s.vm) (eT : T.heap = h) {z : Int32} (A : AI Z h a ty xs) (hz : xs.length.toInt32 = z) (hd : decode c.code pc = .ok (.arraylength, 1)) (hq : pc + 1 = q) (K : Go p e below G T m q L (.int z :: S)) : Go p e below G T m pc L (.ref a :: S) := by
  subst hq hz; obtain ⟨cl, Ar, ex, -⟩ := A
  rw [← own_size ex] at K
  exact Go.st (fun t k => X.arraylength hx (by rw [eT]; exact Ar.1) (State.isArrayOf_alike hZ.alike Ar.2.1) (g := mkF m pc L (.ref a :: S)) rfl rfl hd t k) K
theorem s_lenJ (X : Stand p l e R s m args below meth c T locs cells slots) (hx : p.tables.exec = Jvm.exec) (hZ : Z.Warmed39 s.vm) (eT : T.heap = h) {z : Int32} (A : AJ Z h a us) (hz : us.length.toInt32 = z) (hd : decode c.code pc = .ok (.arraylength, 1)) (hq : pc + 1 = q) (K : Go p e below G T m q L (.int z :: S)) : Go p e below G T m pc L (.ref a :: S) := by
  subst hq hz; obtain ⟨cl, Ar, ex, -⟩ := A
  rw [← own_size ex] at K
  exact Go.st (fun t k => X.arraylength hx (by rw [eT]; exact Ar.1) (State.isArrayOf_alike hZ.alike Ar.2.1) (g := mkF m pc L (.ref a :: S)) rfl rfl hd t k) K
theorem own_mask_nn (x m : Int32) (h0 : 0 ≤ m.toInt) : ¬ (x &&& m) < 0 := by
  have := c_and x m h0; rw [Int32.lt_iff_toInt_lt]; show ¬ (x &&& m).toInt < 0; omega
theorem own_mask_ix (x m : Int32) {N : Nat} (h0 : 0 ≤ m.toInt) (h : m.toInt < N) : (x &&& m).toNatClampNeg < N := by
  have := c_and x m h0; simp only [Int32.toNatClampNeg]; omega
theorem own_idx {k n : Int32} {N : Nat} (h0 : ¬ k < 0) (h : k < n) (hn : n.toInt = N) : k.toNatClampNeg < N := by
  have e0 : (0 : Int32).toInt = 0 := rfl
  simp only [Int32.lt_iff_toInt_lt, Int32.toNatClampNeg] at *; omega
theorem own_lt {x b : Int32} {k : Int} (hb : b.toInt = k) (h : x.toInt < k) : x < b := by rw [Int32.lt_iff_toInt_lt, hb]; exact h
theorem own_nlt {x b : Int32} {k : Int} (hb : b.toInt = k) (h : k ≤ x.toInt) : ¬ x < b := by rw [Int32.lt_iff_toInt_lt, hb]; omega
theorem own_gt {x b : Int32} {k : Int} (hb : b.toInt = k) (h : k < x.toInt) : b < x := by rw [Int32.lt_iff_toInt_lt, hb]; exact h
theorem own_ngt {x b : Int32} {k : Int} (hb : b.toInt = k) (h : x.toInt ≤ k) : ¬ b < x := by rw [Int32.lt_iff_toInt_lt, hb]; omega
theorem own_eqi {x b : Int32} {k : Int} (hb : b.toInt = k) (h : x.toInt = k) : x = b := Int32.toInt_inj.mp (h.trans hb.symm)
theorem own_nei {x b : Int32} {k : Int} (hb : b.toInt = k) (h : x.toInt ≠ k) : ¬ x = b := fun q => h (by rw [q, hb])
end Kit
theorem d1_0 : decode method_3_code 0 = .ok (.iload_n 0, 1) := by decide +kernel
theorem d1_1 : decode method_3_code 1 = .ok (.iconst 2, 1) := by decide +kernel
theorem d1_2 : decode method_3_code 2 = .ok (.iload_n 3, 1) := by decide +kernel
theorem d1_3 : decode method_3_code 3 = .ok (.imul, 1) := by decide +kernel
theorem d1_4 : decode method_3_code 4 = .ok (.iushr, 1) := by decide +kernel
theorem d1_5 : decode method_3_code 5 = .ok (.iconst 3, 1) := by decide +kernel
theorem d1_6 : decode method_3_code 6 = .ok (.iand, 1) := by decide +kernel
theorem d1_7 : decode method_3_code 7 = .ok (.istore 4, 2) := by decide +kernel
theorem d1_9 : decode method_3_code 9 = .ok (.iload 4, 2) := by decide +kernel
theorem d1_11 : decode method_3_code 11 = .ok (.ifCond .ne 6, 3) := by decide +kernel
theorem d1_14 : decode method_3_code 14 = .ok (.bipush 10, 2) := by decide +kernel
theorem d1_16 : decode method_3_code 16 = .ok (.ireturn, 1) := by decide +kernel
theorem d1_17 : decode method_3_code 17 = .ok (.iload 4, 2) := by decide +kernel
theorem d1_19 : decode method_3_code 19 = .ok (.iconst 1, 1) := by decide +kernel
theorem d1_20 : decode method_3_code 20 = .ok (.if_icmp .ne 6, 3) := by decide +kernel
theorem d1_23 : decode method_3_code 23 = .ok (.bipush 13, 2) := by decide +kernel
theorem d1_25 : decode method_3_code 25 = .ok (.ireturn, 1) := by decide +kernel
theorem d1_26 : decode method_3_code 26 = .ok (.lload_n 1, 1) := by decide +kernel
theorem d1_27 : decode method_3_code 27 = .ok (.bipush 8, 2) := by decide +kernel
theorem d1_29 : decode method_3_code 29 = .ok (.iload_n 3, 1) := by decide +kernel
theorem d1_30 : decode method_3_code 30 = .ok (.imul, 1) := by decide +kernel
theorem d1_31 : decode method_3_code 31 = .ok (.lushr, 1) := by decide +kernel
theorem d1_32 : decode method_3_code 32 = .ok (.l2i, 1) := by decide +kernel
theorem d1_33 : decode method_3_code 33 = .ok (.i2b, 1) := by decide +kernel
theorem d1_34 : decode method_3_code 34 = .ok (.ireturn, 1) := by decide +kernel
theorem pn_1 : plainFor (⟨"com/example/corla/corla/serve/RequestHeadLengthPinLaw", "pick", "(IJI)B"⟩ : MethodName) = true := plainFor_of_name (by first | (simp [plainName, overriddenIn]; done) | decide +kernel)
theorem ef_1 (m : MethodId) (x0 : Int32) (x1 : Int64) (x2 : Int32) : entryFrame m #[(.int x0), (.long x1), (.int x2)] 5 = mkF m 0 #[.val (.int x0), .val (.long x1), .second, .val (.int x2), .unset] [] := by first | (simp [entryFrame, mkF, argsToLocals, Value.category]; done) | rfl
def F1 (x0 : Int32) (x1 : Int64) (x2 : Int32) : Int32 := (if (((x0.toUInt32 >>> (((2 : Int32) * x2) &&& 31).toUInt32).toInt32) &&& (3 : Int32)) = 0 then (nar .byte (10 : Int32)) else (if (((x0.toUInt32 >>> (((2 : Int32) * x2) &&& 31).toUInt32).toInt32) &&& (3 : Int32)) = (1 : Int32) then (nar .byte (13 : Int32)) else (nar .byte ((x1.toUInt64 >>> (((8 : Int32) * x2) &&& 0x3f).toInt64.toUInt64).toInt64).toInt32.toInt8.toInt32)))
set_option maxRecDepth 65536 in
set_option maxHeartbeats 40000000 in
theorem rm1 (l : Launch) (Z : State) (a0 : Array Value) (hw : ∀ d ∈ tables_1, d.before a0 Z = true) (ws : List Jvm.Cond) (x0 : Int32) (x1 : Int64) (x2 : Int32)  (h0 : Heap) :
    Ctr l (⟨"com/example/corla/corla/serve/RequestHeadLengthPinLaw", "pick", "(IJI)B"⟩ : MethodName) method_3_code 5 (some .byte) ws ({ frames := 0, cells := 0, slots := 0, locals := 0 } : Room) Z #[(.int x0), (.long x1), (.int x2)] h0 (PQ (.int (F1 x0 x1 x2)) h0) 0 0 := by
  refine Ctr.mk pn_1 ?_
  intro p e s m below meth c T hx hby hml hown hnm hlk hret hZ X eT
  refine enter (ef_1 m x0 x1 x2) ?_
  obtain ⟨res, hres⟩ : ∃ r, r = F1 x0 x1 x2 := ⟨_, rfl⟩
  rw [← hres]
  refine s_iloadN X hx (hb hby d1_0) rfl (q := 1) rfl ?_
  refine s_iconst X hx (z := (2 : Int32)) (hb hby d1_1) rfl (q := 2) rfl ?_
  refine s_iloadN X hx (hb hby d1_2) rfl (q := 3) rfl ?_
  refine s_imul X hx (hb hby d1_3) (q := 4) rfl ?_
  refine s_iushr X hx (hb hby d1_4) (q := 5) rfl ?_
  refine s_iconst X hx (z := (3 : Int32)) (hb hby d1_5) rfl (q := 6) rfl ?_
  refine s_iand X hx (hb hby d1_6) (q := 7) rfl ?_
  refine s_istore X hx (hb hby d1_7) (L' := #[.val (.int x0), .val (.long x1), .second, .val (.int x2), .val (.int (((x0.toUInt32 >>> (((2 : Int32) * x2) &&& 31).toUInt32).toInt32) &&& (3 : Int32)))]) rfl (q := 9) rfl ?_
  refine s_iload X hx (hb hby d1_9) rfl (q := 11) rfl ?_
  refine f_if_ne X hx (hb hby d1_11) (q1 := 17) (by decide) (by decide) (q := 14) rfl (fun hc11 => ?_) (fun hc11 => ?_)
  · refine s_iload X hx (hb hby d1_17) rfl (q := 19) rfl ?_
    refine s_iconst X hx (z := (1 : Int32)) (hb hby d1_19) rfl (q := 20) rfl ?_
    refine f_icmp_ne X hx (hb hby d1_20) (q1 := 26) (by decide) (by decide) (q := 23) rfl (fun hc20 => ?_) (fun hc20 => ?_)
    · refine s_lloadN X hx (hb hby d1_26) rfl (q := 27) rfl ?_
      refine s_bipush X hx (z := (8 : Int32)) (hb hby d1_27) rfl (q := 29) rfl ?_
      refine s_iloadN X hx (hb hby d1_29) rfl (q := 30) rfl ?_
      refine s_imul X hx (hb hby d1_30) (q := 31) rfl ?_
      refine s_lushr X hx (hb hby d1_31) (q := 32) rfl ?_
      refine s_l2i X hx (hb hby d1_32) (q := 33) rfl ?_
      refine s_i2b X hx (hb hby d1_33) (q := 34) rfl ?_
      exact leafN X hx hlk hret (by simp) (hb hby d1_34) (Nat.le_refl _) (Nat.le_refl _) (z' := (nar .byte ((x1.toUInt64 >>> (((8 : Int32) * x2) &&& 0x3f).toInt64.toUInt64).toInt64).toInt32.toInt8.toInt32)) rfl ⟨congrArg (fun z => some (Value.int z)) (hres.trans (by unfold F1; rw [if_neg hc11, if_neg hc20])).symm, eT, rfl⟩
    refine s_bipush X hx (z := (13 : Int32)) (hb hby d1_23) rfl (q := 25) rfl ?_
    exact leafN X hx hlk hret (by simp) (hb hby d1_25) (Nat.le_refl _) (Nat.le_refl _) (z' := (nar .byte (13 : Int32))) rfl ⟨congrArg (fun z => some (Value.int z)) (hres.trans (by unfold F1; rw [if_neg hc11, if_pos hc20])).symm, eT, rfl⟩
  refine s_bipush X hx (z := (10 : Int32)) (hb hby d1_14) rfl (q := 16) rfl ?_
  exact leafN X hx hlk hret (by simp) (hb hby d1_16) (Nat.le_refl _) (Nat.le_refl _) (z' := (nar .byte (10 : Int32))) rfl ⟨congrArg (fun z => some (Value.int z)) (hres.trans (by unfold F1; rw [if_pos hc11])).symm, eT, rfl⟩
theorem d2_0 : decode jdk_29_method_69_code 0 = .ok (.iload_n 0, 1) := by decide +kernel
theorem d2_1 : decode jdk_29_method_69_code 1 = .ok (.iload_n 1, 1) := by decide +kernel
theorem d2_2 : decode jdk_29_method_69_code 2 = .ok (.if_icmp .gt 7, 3) := by decide +kernel
theorem d2_5 : decode jdk_29_method_69_code 5 = .ok (.iload_n 0, 1) := by decide +kernel
theorem d2_6 : decode jdk_29_method_69_code 6 = .ok (.goto 4, 3) := by decide +kernel
theorem d2_9 : decode jdk_29_method_69_code 9 = .ok (.iload_n 1, 1) := by decide +kernel
theorem d2_10 : decode jdk_29_method_69_code 10 = .ok (.ireturn, 1) := by decide +kernel
theorem pn_2 : plainFor (⟨"java/lang/Math", "min", "(II)I"⟩ : MethodName) = true := Jvm.Free.JP.mathPlain rfl (by decide +kernel)
theorem ef_2 (m : MethodId) (x0 : Int32) (x1 : Int32) : entryFrame m #[(.int x0), (.int x1)] 2 = mkF m 0 #[.val (.int x0), .val (.int x1)] [] := by first | (simp [entryFrame, mkF, argsToLocals, Value.category]; done) | rfl
def F2 (x0 : Int32) (x1 : Int32) : Int32 := (if x1 < x0 then x1 else x0)
set_option maxRecDepth 65536 in
set_option maxHeartbeats 40000000 in
theorem rm2 (l : Launch) (Z : State) (a0 : Array Value) (hw : ∀ d ∈ tables_1, d.before a0 Z = true) (ws : List Jvm.Cond) (x0 : Int32) (x1 : Int32)  (h0 : Heap) :
    Ctr l (⟨"java/lang/Math", "min", "(II)I"⟩ : MethodName) jdk_29_method_69_code 2 (some .int) ws ({ frames := 0, cells := 0, slots := 0, locals := 0 } : Room) Z #[(.int x0), (.int x1)] h0 (PQ (.int (F2 x0 x1)) h0) 0 0 := by
  refine Ctr.mk pn_2 ?_
  intro p e s m below meth c T hx hby hml hown hnm hlk hret hZ X eT
  refine enter (ef_2 m x0 x1) ?_
  obtain ⟨res, hres⟩ : ∃ r, r = F2 x0 x1 := ⟨_, rfl⟩
  rw [← hres]
  refine s_iloadN X hx (hb hby d2_0) rfl (q := 1) rfl ?_
  refine s_iloadN X hx (hb hby d2_1) rfl (q := 2) rfl ?_
  refine f_icmp_gt X hx (hb hby d2_2) (q1 := 9) (by decide) (by decide) (q := 5) rfl (fun hc2 => ?_) (fun hc2 => ?_)
  · refine s_iloadN X hx (hb hby d2_9) rfl (q := 10) rfl ?_
    exact leafI X hx hlk hret (hb hby d2_10) (Nat.le_refl _) (Nat.le_refl _) ⟨congrArg (fun z => some (Value.int z)) (hres.trans (by unfold F2; rw [if_pos hc2])).symm, eT, rfl⟩
  refine s_iloadN X hx (hb hby d2_5) rfl (q := 6) rfl ?_
  refine s_goto X hx (hb hby d2_6) (q1 := 10) (by decide) (by decide) ?_
  exact leafI X hx hlk hret (hb hby d2_10) (Nat.le_refl _) (Nat.le_refl _) ⟨congrArg (fun z => some (Value.int z)) (hres.trans (by unfold F2; rw [if_neg hc2])).symm, eT, rfl⟩
theorem d3_0 : decode jdk_29_method_65_code 0 = .ok (.iload_n 0, 1) := by decide +kernel
theorem d3_1 : decode jdk_29_method_65_code 1 = .ok (.iload_n 1, 1) := by decide +kernel
theorem d3_2 : decode jdk_29_method_65_code 2 = .ok (.if_icmp .lt 7, 3) := by decide +kernel
theorem d3_5 : decode jdk_29_method_65_code 5 = .ok (.iload_n 0, 1) := by decide +kernel
theorem d3_6 : decode jdk_29_method_65_code 6 = .ok (.goto 4, 3) := by decide +kernel
theorem d3_9 : decode jdk_29_method_65_code 9 = .ok (.iload_n 1, 1) := by decide +kernel
theorem d3_10 : decode jdk_29_method_65_code 10 = .ok (.ireturn, 1) := by decide +kernel
theorem pn_3 : plainFor (⟨"java/lang/Math", "max", "(II)I"⟩ : MethodName) = true := Jvm.Free.JP.mathPlain rfl (by decide +kernel)
theorem ef_3 (m : MethodId) (x0 : Int32) (x1 : Int32) : entryFrame m #[(.int x0), (.int x1)] 2 = mkF m 0 #[.val (.int x0), .val (.int x1)] [] := by first | (simp [entryFrame, mkF, argsToLocals, Value.category]; done) | rfl
def F3 (x0 : Int32) (x1 : Int32) : Int32 := (if x0 < x1 then x1 else x0)
set_option maxRecDepth 65536 in
set_option maxHeartbeats 40000000 in
theorem rm3 (l : Launch) (Z : State) (a0 : Array Value) (hw : ∀ d ∈ tables_1, d.before a0 Z = true) (ws : List Jvm.Cond) (x0 : Int32) (x1 : Int32)  (h0 : Heap) :
    Ctr l (⟨"java/lang/Math", "max", "(II)I"⟩ : MethodName) jdk_29_method_65_code 2 (some .int) ws ({ frames := 0, cells := 0, slots := 0, locals := 0 } : Room) Z #[(.int x0), (.int x1)] h0 (PQ (.int (F3 x0 x1)) h0) 0 0 := by
  refine Ctr.mk pn_3 ?_
  intro p e s m below meth c T hx hby hml hown hnm hlk hret hZ X eT
  refine enter (ef_3 m x0 x1) ?_
  obtain ⟨res, hres⟩ : ∃ r, r = F3 x0 x1 := ⟨_, rfl⟩
  rw [← hres]
  refine s_iloadN X hx (hb hby d3_0) rfl (q := 1) rfl ?_
  refine s_iloadN X hx (hb hby d3_1) rfl (q := 2) rfl ?_
  refine f_icmp_lt X hx (hb hby d3_2) (q1 := 9) (by decide) (by decide) (q := 5) rfl (fun hc2 => ?_) (fun hc2 => ?_)
  · refine s_iloadN X hx (hb hby d3_9) rfl (q := 10) rfl ?_
    exact leafI X hx hlk hret (hb hby d3_10) (Nat.le_refl _) (Nat.le_refl _) ⟨congrArg (fun z => some (Value.int z)) (hres.trans (by unfold F3; rw [if_pos hc2])).symm, eT, rfl⟩
  refine s_iloadN X hx (hb hby d3_5) rfl (q := 6) rfl ?_
  refine s_goto X hx (hb hby d3_6) (q1 := 10) (by decide) (by decide) ?_
  exact leafI X hx hlk hret (hb hby d3_10) (Nat.le_refl _) (Nat.le_refl _) ⟨congrArg (fun z => some (Value.int z)) (hres.trans (by unfold F3; rw [if_neg hc2])).symm, eT, rfl⟩
theorem d4_0 : decode method_4_code 0 = .ok (.iload_n 3, 1) := by decide +kernel
theorem d4_1 : decode method_4_code 1 = .ok (.iload_n 1, 1) := by decide +kernel
theorem d4_2 : decode method_4_code 2 = .ok (.if_icmp .lt 8, 3) := by decide +kernel
theorem d4_5 : decode method_4_code 5 = .ok (.iload_n 3, 1) := by decide +kernel
theorem d4_6 : decode method_4_code 6 = .ok (.iload_n 2, 1) := by decide +kernel
theorem d4_7 : decode method_4_code 7 = .ok (.if_icmp .lt 5, 3) := by decide +kernel
theorem d4_10 : decode method_4_code 10 = .ok (.iconst 0, 1) := by decide +kernel
theorem d4_11 : decode method_4_code 11 = .ok (.ireturn, 1) := by decide +kernel
theorem d4_12 : decode method_4_code 12 = .ok (.aload_n 0, 1) := by decide +kernel
theorem d4_13 : decode method_4_code 13 = .ok (.iload_n 3, 1) := by decide +kernel
theorem d4_14 : decode method_4_code 14 = .ok (.baload, 1) := by decide +kernel
theorem d4_15 : decode method_4_code 15 = .ok (.bipush 10, 2) := by decide +kernel
theorem d4_17 : decode method_4_code 17 = .ok (.if_icmp .eq 5, 3) := by decide +kernel
theorem d4_20 : decode method_4_code 20 = .ok (.iconst 0, 1) := by decide +kernel
theorem d4_21 : decode method_4_code 21 = .ok (.ireturn, 1) := by decide +kernel
theorem d4_22 : decode method_4_code 22 = .ok (.aload_n 0, 1) := by decide +kernel
theorem d4_23 : decode method_4_code 23 = .ok (.iload_n 3, 1) := by decide +kernel
theorem d4_24 : decode method_4_code 24 = .ok (.iconst 1, 1) := by decide +kernel
theorem d4_25 : decode method_4_code 25 = .ok (.isub, 1) := by decide +kernel
theorem d4_26 : decode method_4_code 26 = .ok (.baload, 1) := by decide +kernel
theorem d4_27 : decode method_4_code 27 = .ok (.bipush 10, 2) := by decide +kernel
theorem d4_29 : decode method_4_code 29 = .ok (.if_icmp .ne 5, 3) := by decide +kernel
theorem d4_32 : decode method_4_code 32 = .ok (.iconst 1, 1) := by decide +kernel
theorem d4_33 : decode method_4_code 33 = .ok (.ireturn, 1) := by decide +kernel
theorem d4_34 : decode method_4_code 34 = .ok (.iload_n 3, 1) := by decide +kernel
theorem d4_35 : decode method_4_code 35 = .ok (.iconst 2, 1) := by decide +kernel
theorem d4_36 : decode method_4_code 36 = .ok (.if_icmp .lt 25, 3) := by decide +kernel
theorem d4_39 : decode method_4_code 39 = .ok (.aload_n 0, 1) := by decide +kernel
theorem d4_40 : decode method_4_code 40 = .ok (.iload_n 3, 1) := by decide +kernel
theorem d4_41 : decode method_4_code 41 = .ok (.iconst 1, 1) := by decide +kernel
theorem d4_42 : decode method_4_code 42 = .ok (.isub, 1) := by decide +kernel
theorem d4_43 : decode method_4_code 43 = .ok (.baload, 1) := by decide +kernel
theorem d4_44 : decode method_4_code 44 = .ok (.bipush 13, 2) := by decide +kernel
theorem d4_46 : decode method_4_code 46 = .ok (.if_icmp .ne 15, 3) := by decide +kernel
theorem d4_49 : decode method_4_code 49 = .ok (.aload_n 0, 1) := by decide +kernel
theorem d4_50 : decode method_4_code 50 = .ok (.iload_n 3, 1) := by decide +kernel
theorem d4_51 : decode method_4_code 51 = .ok (.iconst 2, 1) := by decide +kernel
theorem d4_52 : decode method_4_code 52 = .ok (.isub, 1) := by decide +kernel
theorem d4_53 : decode method_4_code 53 = .ok (.baload, 1) := by decide +kernel
theorem d4_54 : decode method_4_code 54 = .ok (.bipush 10, 2) := by decide +kernel
theorem d4_56 : decode method_4_code 56 = .ok (.if_icmp .ne 5, 3) := by decide +kernel
theorem d4_59 : decode method_4_code 59 = .ok (.iconst 1, 1) := by decide +kernel
theorem d4_60 : decode method_4_code 60 = .ok (.ireturn, 1) := by decide +kernel
theorem d4_61 : decode method_4_code 61 = .ok (.iconst 0, 1) := by decide +kernel
theorem d4_62 : decode method_4_code 62 = .ok (.ireturn, 1) := by decide +kernel
theorem pn_4 : plainFor (⟨"com/example/corla/corla/serve/RequestHeadLengthPinLaw", "hit", "([BIII)Z"⟩ : MethodName) = true := plainFor_of_name (by first | (simp [plainName, overriddenIn]; done) | decide +kernel)
theorem ef_4 (m : MethodId) (x0 : Addr) (x1 : Int32) (x2 : Int32) (x3 : Int32) : entryFrame m #[(.ref x0), (.int x1), (.int x2), (.int x3)] 4 = mkF m 0 #[.val (.ref x0), .val (.int x1), .val (.int x2), .val (.int x3)] [] := by first | (simp [entryFrame, mkF, argsToLocals, Value.category]; done) | rfl
def F4_1 (x1 : Int32) (x2 : Int32) (c0 c1 c2 c3 c4 c5 : Int32) : Int32 := (if (1 : Int32) < x1 then (0 : Int32) else (if (1 : Int32) < x2 then (if c1 = (10 : Int32) then (if c0 = (10 : Int32) then (1 : Int32) else (0 : Int32)) else (0 : Int32)) else (0 : Int32)))
set_option maxRecDepth 65536 in
set_option maxHeartbeats 40000000 in
theorem rm4_1 (l : Launch) (Z : State) (a0 : Array Value) (hw : ∀ d ∈ tables_1, d.before a0 Z = true) (ws : List Jvm.Cond) (x0 : Addr) (x1 : Int32) (x2 : Int32) (c0 c1 c2 c3 c4 c5 : Int32) (h0 : Heap) (A_x0 : AI Z h0 x0 .byte [c0, c1, c2, c3, c4, c5]) :
    Ctr l (⟨"com/example/corla/corla/serve/RequestHeadLengthPinLaw", "hit", "([BIII)Z"⟩ : MethodName) method_4_code 4 (some .boolean) ws ({ frames := 0, cells := 0, slots := 0, locals := 0 } : Room) Z #[(.ref x0), (.int x1), (.int x2), (.int (1 : Int32))] h0 (PQ (.int (F4_1 x1 x2 c0 c1 c2 c3 c4 c5)) h0) 0 0 := by
  refine Ctr.mk pn_4 ?_
  intro p e s m below meth c T hx hby hml hown hnm hlk hret hZ X eT
  refine enter (ef_4 m x0 x1 x2 (1 : Int32)) ?_
  obtain ⟨res, hres⟩ : ∃ r, r = F4_1 x1 x2 c0 c1 c2 c3 c4 c5 := ⟨_, rfl⟩
  rw [← hres]
  refine s_iloadN X hx (hb hby d4_0) rfl (q := 1) rfl ?_
  refine s_iloadN X hx (hb hby d4_1) rfl (q := 2) rfl ?_
  refine f_icmp_lt X hx (hb hby d4_2) (q1 := 10) (by decide) (by decide) (q := 5) rfl (fun hc2 => ?_) (fun hc2 => ?_)
  · refine s_iconst X hx (z := (0 : Int32)) (hb hby d4_10) rfl (q := 11) rfl ?_
    exact leafN X hx hlk hret (by simp) (hb hby d4_11) (Nat.le_refl _) (Nat.le_refl _) (z' := (0 : Int32)) rfl ⟨congrArg (fun z => some (Value.int z)) (hres.trans (by unfold F4_1; rw [if_pos hc2])).symm, eT, rfl⟩
  refine s_iloadN X hx (hb hby d4_5) rfl (q := 6) rfl ?_
  refine s_iloadN X hx (hb hby d4_6) rfl (q := 7) rfl ?_
  refine f_icmp_lt X hx (hb hby d4_7) (q1 := 12) (by decide) (by decide) (q := 10) rfl (fun hc7 => ?_) (fun hc7 => ?_)
  · refine s_aloadN X hx (hb hby d4_12) rfl rfl (q := 13) rfl ?_
    refine s_iloadN X hx (hb hby d4_13) rfl (q := 14) rfl ?_
    refine s_baload X hx hZ eT A_x0 (by decide) (i := 1) rfl (x := c1) rfl (hb hby d4_14) (q := 15) rfl ?_
    refine s_bipush X hx (z := (10 : Int32)) (hb hby d4_15) rfl (q := 17) rfl ?_
    refine f_icmp_eq X hx (hb hby d4_17) (q1 := 22) (by decide) (by decide) (q := 20) rfl (fun hc17 => ?_) (fun hc17 => ?_)
    · refine s_aloadN X hx (hb hby d4_22) rfl rfl (q := 23) rfl ?_
      refine s_iloadN X hx (hb hby d4_23) rfl (q := 24) rfl ?_
      refine s_iconst X hx (z := (1 : Int32)) (hb hby d4_24) rfl (q := 25) rfl ?_
      refine s_isub X hx (hb hby d4_25) (q := 26) rfl ?_
      show Go p e below _ T m 26 #[.val (.ref x0), .val (.int x1), .val (.int x2), .val (.int (1 : Int32))] [(.int (0 : Int32)), (.ref x0)]
      refine s_baload X hx hZ eT A_x0 (by decide) (i := 0) rfl (x := c0) rfl (hb hby d4_26) (q := 27) rfl ?_
      refine s_bipush X hx (z := (10 : Int32)) (hb hby d4_27) rfl (q := 29) rfl ?_
      refine f_icmp_ne X hx (hb hby d4_29) (q1 := 34) (by decide) (by decide) (q := 32) rfl (fun hc29 => ?_) (fun hc29 => ?_)
      · refine s_iloadN X hx (hb hby d4_34) rfl (q := 35) rfl ?_
        refine s_iconst X hx (z := (2 : Int32)) (hb hby d4_35) rfl (q := 36) rfl ?_
        refine f_icmp_lt X hx (hb hby d4_36) (q1 := 61) (by decide) (by decide) (q := 39) rfl (fun _ => ?_) (fun hq => absurd (by decide : (1 : Int32) < (2 : Int32)) hq)
        refine s_iconst X hx (z := (0 : Int32)) (hb hby d4_61) rfl (q := 62) rfl ?_
        exact leafN X hx hlk hret (by simp) (hb hby d4_62) (Nat.le_refl _) (Nat.le_refl _) (z' := (0 : Int32)) rfl ⟨congrArg (fun z => some (Value.int z)) (hres.trans (by unfold F4_1; rw [if_neg hc2, if_pos hc7, if_pos hc17, if_neg hc29])).symm, eT, rfl⟩
      refine s_iconst X hx (z := (1 : Int32)) (hb hby d4_32) rfl (q := 33) rfl ?_
      exact leafN X hx hlk hret (by simp) (hb hby d4_33) (Nat.le_refl _) (Nat.le_refl _) (z' := (1 : Int32)) rfl ⟨congrArg (fun z => some (Value.int z)) (hres.trans (by unfold F4_1; rw [if_neg hc2, if_pos hc7, if_pos hc17, if_pos hc29])).symm, eT, rfl⟩
    refine s_iconst X hx (z := (0 : Int32)) (hb hby d4_20) rfl (q := 21) rfl ?_
    exact leafN X hx hlk hret (by simp) (hb hby d4_21) (Nat.le_refl _) (Nat.le_refl _) (z' := (0 : Int32)) rfl ⟨congrArg (fun z => some (Value.int z)) (hres.trans (by unfold F4_1; rw [if_neg hc2, if_pos hc7, if_neg hc17])).symm, eT, rfl⟩
  refine s_iconst X hx (z := (0 : Int32)) (hb hby d4_10) rfl (q := 11) rfl ?_
  exact leafN X hx hlk hret (by simp) (hb hby d4_11) (Nat.le_refl _) (Nat.le_refl _) (z' := (0 : Int32)) rfl ⟨congrArg (fun z => some (Value.int z)) (hres.trans (by unfold F4_1; rw [if_neg hc2, if_neg hc7])).symm, eT, rfl⟩
def F4_2 (x1 : Int32) (x2 : Int32) (c0 c1 c2 c3 c4 c5 : Int32) : Int32 := (if (2 : Int32) < x1 then (0 : Int32) else (if (2 : Int32) < x2 then (if c2 = (10 : Int32) then (if c1 = (10 : Int32) then (1 : Int32) else (if c1 = (13 : Int32) then (if c0 = (10 : Int32) then (1 : Int32) else (0 : Int32)) else (0 : Int32))) else (0 : Int32)) else (0 : Int32)))
set_option maxRecDepth 65536 in
set_option maxHeartbeats 40000000 in
theorem rm4_2 (l : Launch) (Z : State) (a0 : Array Value) (hw : ∀ d ∈ tables_1, d.before a0 Z = true) (ws : List Jvm.Cond) (x0 : Addr) (x1 : Int32) (x2 : Int32) (c0 c1 c2 c3 c4 c5 : Int32) (h0 : Heap) (A_x0 : AI Z h0 x0 .byte [c0, c1, c2, c3, c4, c5]) :
    Ctr l (⟨"com/example/corla/corla/serve/RequestHeadLengthPinLaw", "hit", "([BIII)Z"⟩ : MethodName) method_4_code 4 (some .boolean) ws ({ frames := 0, cells := 0, slots := 0, locals := 0 } : Room) Z #[(.ref x0), (.int x1), (.int x2), (.int (2 : Int32))] h0 (PQ (.int (F4_2 x1 x2 c0 c1 c2 c3 c4 c5)) h0) 0 0 := by
  refine Ctr.mk pn_4 ?_
  intro p e s m below meth c T hx hby hml hown hnm hlk hret hZ X eT
  refine enter (ef_4 m x0 x1 x2 (2 : Int32)) ?_
  obtain ⟨res, hres⟩ : ∃ r, r = F4_2 x1 x2 c0 c1 c2 c3 c4 c5 := ⟨_, rfl⟩
  rw [← hres]
  refine s_iloadN X hx (hb hby d4_0) rfl (q := 1) rfl ?_
  refine s_iloadN X hx (hb hby d4_1) rfl (q := 2) rfl ?_
  refine f_icmp_lt X hx (hb hby d4_2) (q1 := 10) (by decide) (by decide) (q := 5) rfl (fun hc2 => ?_) (fun hc2 => ?_)
  · refine s_iconst X hx (z := (0 : Int32)) (hb hby d4_10) rfl (q := 11) rfl ?_
    exact leafN X hx hlk hret (by simp) (hb hby d4_11) (Nat.le_refl _) (Nat.le_refl _) (z' := (0 : Int32)) rfl ⟨congrArg (fun z => some (Value.int z)) (hres.trans (by unfold F4_2; rw [if_pos hc2])).symm, eT, rfl⟩
  refine s_iloadN X hx (hb hby d4_5) rfl (q := 6) rfl ?_
  refine s_iloadN X hx (hb hby d4_6) rfl (q := 7) rfl ?_
  refine f_icmp_lt X hx (hb hby d4_7) (q1 := 12) (by decide) (by decide) (q := 10) rfl (fun hc7 => ?_) (fun hc7 => ?_)
  · refine s_aloadN X hx (hb hby d4_12) rfl rfl (q := 13) rfl ?_
    refine s_iloadN X hx (hb hby d4_13) rfl (q := 14) rfl ?_
    refine s_baload X hx hZ eT A_x0 (by decide) (i := 2) rfl (x := c2) rfl (hb hby d4_14) (q := 15) rfl ?_
    refine s_bipush X hx (z := (10 : Int32)) (hb hby d4_15) rfl (q := 17) rfl ?_
    refine f_icmp_eq X hx (hb hby d4_17) (q1 := 22) (by decide) (by decide) (q := 20) rfl (fun hc17 => ?_) (fun hc17 => ?_)
    · refine s_aloadN X hx (hb hby d4_22) rfl rfl (q := 23) rfl ?_
      refine s_iloadN X hx (hb hby d4_23) rfl (q := 24) rfl ?_
      refine s_iconst X hx (z := (1 : Int32)) (hb hby d4_24) rfl (q := 25) rfl ?_
      refine s_isub X hx (hb hby d4_25) (q := 26) rfl ?_
      show Go p e below _ T m 26 #[.val (.ref x0), .val (.int x1), .val (.int x2), .val (.int (2 : Int32))] [(.int (1 : Int32)), (.ref x0)]
      refine s_baload X hx hZ eT A_x0 (by decide) (i := 1) rfl (x := c1) rfl (hb hby d4_26) (q := 27) rfl ?_
      refine s_bipush X hx (z := (10 : Int32)) (hb hby d4_27) rfl (q := 29) rfl ?_
      refine f_icmp_ne X hx (hb hby d4_29) (q1 := 34) (by decide) (by decide) (q := 32) rfl (fun hc29 => ?_) (fun hc29 => ?_)
      · refine s_iloadN X hx (hb hby d4_34) rfl (q := 35) rfl ?_
        refine s_iconst X hx (z := (2 : Int32)) (hb hby d4_35) rfl (q := 36) rfl ?_
        refine f_icmp_lt X hx (hb hby d4_36) (q1 := 61) (by decide) (by decide) (q := 39) rfl (fun hq => absurd hq (by decide : ¬ (2 : Int32) < (2 : Int32))) (fun _ => ?_)
        refine s_aloadN X hx (hb hby d4_39) rfl rfl (q := 40) rfl ?_
        refine s_iloadN X hx (hb hby d4_40) rfl (q := 41) rfl ?_
        refine s_iconst X hx (z := (1 : Int32)) (hb hby d4_41) rfl (q := 42) rfl ?_
        refine s_isub X hx (hb hby d4_42) (q := 43) rfl ?_
        show Go p e below _ T m 43 #[.val (.ref x0), .val (.int x1), .val (.int x2), .val (.int (2 : Int32))] [(.int (1 : Int32)), (.ref x0)]
        refine s_baload X hx hZ eT A_x0 (by decide) (i := 1) rfl (x := c1) rfl (hb hby d4_43) (q := 44) rfl ?_
        refine s_bipush X hx (z := (13 : Int32)) (hb hby d4_44) rfl (q := 46) rfl ?_
        refine f_icmp_ne X hx (hb hby d4_46) (q1 := 61) (by decide) (by decide) (q := 49) rfl (fun hc46 => ?_) (fun hc46 => ?_)
        · refine s_iconst X hx (z := (0 : Int32)) (hb hby d4_61) rfl (q := 62) rfl ?_
          exact leafN X hx hlk hret (by simp) (hb hby d4_62) (Nat.le_refl _) (Nat.le_refl _) (z' := (0 : Int32)) rfl ⟨congrArg (fun z => some (Value.int z)) (hres.trans (by unfold F4_2; rw [if_neg hc2, if_pos hc7, if_pos hc17, if_neg hc29, if_neg hc46])).symm, eT, rfl⟩
        refine s_aloadN X hx (hb hby d4_49) rfl rfl (q := 50) rfl ?_
        refine s_iloadN X hx (hb hby d4_50) rfl (q := 51) rfl ?_
        refine s_iconst X hx (z := (2 : Int32)) (hb hby d4_51) rfl (q := 52) rfl ?_
        refine s_isub X hx (hb hby d4_52) (q := 53) rfl ?_
        show Go p e below _ T m 53 #[.val (.ref x0), .val (.int x1), .val (.int x2), .val (.int (2 : Int32))] [(.int (0 : Int32)), (.ref x0)]
        refine s_baload X hx hZ eT A_x0 (by decide) (i := 0) rfl (x := c0) rfl (hb hby d4_53) (q := 54) rfl ?_
        refine s_bipush X hx (z := (10 : Int32)) (hb hby d4_54) rfl (q := 56) rfl ?_
        refine f_icmp_ne X hx (hb hby d4_56) (q1 := 61) (by decide) (by decide) (q := 59) rfl (fun hc56 => ?_) (fun hc56 => ?_)
        · refine s_iconst X hx (z := (0 : Int32)) (hb hby d4_61) rfl (q := 62) rfl ?_
          exact leafN X hx hlk hret (by simp) (hb hby d4_62) (Nat.le_refl _) (Nat.le_refl _) (z' := (0 : Int32)) rfl ⟨congrArg (fun z => some (Value.int z)) (hres.trans (by unfold F4_2; rw [if_neg hc2, if_pos hc7, if_pos hc17, if_neg hc29, if_pos hc46, if_neg hc56])).symm, eT, rfl⟩
        refine s_iconst X hx (z := (1 : Int32)) (hb hby d4_59) rfl (q := 60) rfl ?_
        exact leafN X hx hlk hret (by simp) (hb hby d4_60) (Nat.le_refl _) (Nat.le_refl _) (z' := (1 : Int32)) rfl ⟨congrArg (fun z => some (Value.int z)) (hres.trans (by unfold F4_2; rw [if_neg hc2, if_pos hc7, if_pos hc17, if_neg hc29, if_pos hc46, if_pos hc56])).symm, eT, rfl⟩
      refine s_iconst X hx (z := (1 : Int32)) (hb hby d4_32) rfl (q := 33) rfl ?_
      exact leafN X hx hlk hret (by simp) (hb hby d4_33) (Nat.le_refl _) (Nat.le_refl _) (z' := (1 : Int32)) rfl ⟨congrArg (fun z => some (Value.int z)) (hres.trans (by unfold F4_2; rw [if_neg hc2, if_pos hc7, if_pos hc17, if_pos hc29])).symm, eT, rfl⟩
    refine s_iconst X hx (z := (0 : Int32)) (hb hby d4_20) rfl (q := 21) rfl ?_
    exact leafN X hx hlk hret (by simp) (hb hby d4_21) (Nat.le_refl _) (Nat.le_refl _) (z' := (0 : Int32)) rfl ⟨congrArg (fun z => some (Value.int z)) (hres.trans (by unfold F4_2; rw [if_neg hc2, if_pos hc7, if_neg hc17])).symm, eT, rfl⟩
  refine s_iconst X hx (z := (0 : Int32)) (hb hby d4_10) rfl (q := 11) rfl ?_
  exact leafN X hx hlk hret (by simp) (hb hby d4_11) (Nat.le_refl _) (Nat.le_refl _) (z' := (0 : Int32)) rfl ⟨congrArg (fun z => some (Value.int z)) (hres.trans (by unfold F4_2; rw [if_neg hc2, if_neg hc7])).symm, eT, rfl⟩
def F4_3 (x1 : Int32) (x2 : Int32) (c0 c1 c2 c3 c4 c5 : Int32) : Int32 := (if (3 : Int32) < x1 then (0 : Int32) else (if (3 : Int32) < x2 then (if c3 = (10 : Int32) then (if c2 = (10 : Int32) then (1 : Int32) else (if c2 = (13 : Int32) then (if c1 = (10 : Int32) then (1 : Int32) else (0 : Int32)) else (0 : Int32))) else (0 : Int32)) else (0 : Int32)))
set_option maxRecDepth 65536 in
set_option maxHeartbeats 40000000 in
theorem rm4_3 (l : Launch) (Z : State) (a0 : Array Value) (hw : ∀ d ∈ tables_1, d.before a0 Z = true) (ws : List Jvm.Cond) (x0 : Addr) (x1 : Int32) (x2 : Int32) (c0 c1 c2 c3 c4 c5 : Int32) (h0 : Heap) (A_x0 : AI Z h0 x0 .byte [c0, c1, c2, c3, c4, c5]) :
    Ctr l (⟨"com/example/corla/corla/serve/RequestHeadLengthPinLaw", "hit", "([BIII)Z"⟩ : MethodName) method_4_code 4 (some .boolean) ws ({ frames := 0, cells := 0, slots := 0, locals := 0 } : Room) Z #[(.ref x0), (.int x1), (.int x2), (.int (3 : Int32))] h0 (PQ (.int (F4_3 x1 x2 c0 c1 c2 c3 c4 c5)) h0) 0 0 := by
  refine Ctr.mk pn_4 ?_
  intro p e s m below meth c T hx hby hml hown hnm hlk hret hZ X eT
  refine enter (ef_4 m x0 x1 x2 (3 : Int32)) ?_
  obtain ⟨res, hres⟩ : ∃ r, r = F4_3 x1 x2 c0 c1 c2 c3 c4 c5 := ⟨_, rfl⟩
  rw [← hres]
  refine s_iloadN X hx (hb hby d4_0) rfl (q := 1) rfl ?_
  refine s_iloadN X hx (hb hby d4_1) rfl (q := 2) rfl ?_
  refine f_icmp_lt X hx (hb hby d4_2) (q1 := 10) (by decide) (by decide) (q := 5) rfl (fun hc2 => ?_) (fun hc2 => ?_)
  · refine s_iconst X hx (z := (0 : Int32)) (hb hby d4_10) rfl (q := 11) rfl ?_
    exact leafN X hx hlk hret (by simp) (hb hby d4_11) (Nat.le_refl _) (Nat.le_refl _) (z' := (0 : Int32)) rfl ⟨congrArg (fun z => some (Value.int z)) (hres.trans (by unfold F4_3; rw [if_pos hc2])).symm, eT, rfl⟩
  refine s_iloadN X hx (hb hby d4_5) rfl (q := 6) rfl ?_
  refine s_iloadN X hx (hb hby d4_6) rfl (q := 7) rfl ?_
  refine f_icmp_lt X hx (hb hby d4_7) (q1 := 12) (by decide) (by decide) (q := 10) rfl (fun hc7 => ?_) (fun hc7 => ?_)
  · refine s_aloadN X hx (hb hby d4_12) rfl rfl (q := 13) rfl ?_
    refine s_iloadN X hx (hb hby d4_13) rfl (q := 14) rfl ?_
    refine s_baload X hx hZ eT A_x0 (by decide) (i := 3) rfl (x := c3) rfl (hb hby d4_14) (q := 15) rfl ?_
    refine s_bipush X hx (z := (10 : Int32)) (hb hby d4_15) rfl (q := 17) rfl ?_
    refine f_icmp_eq X hx (hb hby d4_17) (q1 := 22) (by decide) (by decide) (q := 20) rfl (fun hc17 => ?_) (fun hc17 => ?_)
    · refine s_aloadN X hx (hb hby d4_22) rfl rfl (q := 23) rfl ?_
      refine s_iloadN X hx (hb hby d4_23) rfl (q := 24) rfl ?_
      refine s_iconst X hx (z := (1 : Int32)) (hb hby d4_24) rfl (q := 25) rfl ?_
      refine s_isub X hx (hb hby d4_25) (q := 26) rfl ?_
      show Go p e below _ T m 26 #[.val (.ref x0), .val (.int x1), .val (.int x2), .val (.int (3 : Int32))] [(.int (2 : Int32)), (.ref x0)]
      refine s_baload X hx hZ eT A_x0 (by decide) (i := 2) rfl (x := c2) rfl (hb hby d4_26) (q := 27) rfl ?_
      refine s_bipush X hx (z := (10 : Int32)) (hb hby d4_27) rfl (q := 29) rfl ?_
      refine f_icmp_ne X hx (hb hby d4_29) (q1 := 34) (by decide) (by decide) (q := 32) rfl (fun hc29 => ?_) (fun hc29 => ?_)
      · refine s_iloadN X hx (hb hby d4_34) rfl (q := 35) rfl ?_
        refine s_iconst X hx (z := (2 : Int32)) (hb hby d4_35) rfl (q := 36) rfl ?_
        refine f_icmp_lt X hx (hb hby d4_36) (q1 := 61) (by decide) (by decide) (q := 39) rfl (fun hq => absurd hq (by decide : ¬ (3 : Int32) < (2 : Int32))) (fun _ => ?_)
        refine s_aloadN X hx (hb hby d4_39) rfl rfl (q := 40) rfl ?_
        refine s_iloadN X hx (hb hby d4_40) rfl (q := 41) rfl ?_
        refine s_iconst X hx (z := (1 : Int32)) (hb hby d4_41) rfl (q := 42) rfl ?_
        refine s_isub X hx (hb hby d4_42) (q := 43) rfl ?_
        show Go p e below _ T m 43 #[.val (.ref x0), .val (.int x1), .val (.int x2), .val (.int (3 : Int32))] [(.int (2 : Int32)), (.ref x0)]
        refine s_baload X hx hZ eT A_x0 (by decide) (i := 2) rfl (x := c2) rfl (hb hby d4_43) (q := 44) rfl ?_
        refine s_bipush X hx (z := (13 : Int32)) (hb hby d4_44) rfl (q := 46) rfl ?_
        refine f_icmp_ne X hx (hb hby d4_46) (q1 := 61) (by decide) (by decide) (q := 49) rfl (fun hc46 => ?_) (fun hc46 => ?_)
        · refine s_iconst X hx (z := (0 : Int32)) (hb hby d4_61) rfl (q := 62) rfl ?_
          exact leafN X hx hlk hret (by simp) (hb hby d4_62) (Nat.le_refl _) (Nat.le_refl _) (z' := (0 : Int32)) rfl ⟨congrArg (fun z => some (Value.int z)) (hres.trans (by unfold F4_3; rw [if_neg hc2, if_pos hc7, if_pos hc17, if_neg hc29, if_neg hc46])).symm, eT, rfl⟩
        refine s_aloadN X hx (hb hby d4_49) rfl rfl (q := 50) rfl ?_
        refine s_iloadN X hx (hb hby d4_50) rfl (q := 51) rfl ?_
        refine s_iconst X hx (z := (2 : Int32)) (hb hby d4_51) rfl (q := 52) rfl ?_
        refine s_isub X hx (hb hby d4_52) (q := 53) rfl ?_
        show Go p e below _ T m 53 #[.val (.ref x0), .val (.int x1), .val (.int x2), .val (.int (3 : Int32))] [(.int (1 : Int32)), (.ref x0)]
        refine s_baload X hx hZ eT A_x0 (by decide) (i := 1) rfl (x := c1) rfl (hb hby d4_53) (q := 54) rfl ?_
        refine s_bipush X hx (z := (10 : Int32)) (hb hby d4_54) rfl (q := 56) rfl ?_
        refine f_icmp_ne X hx (hb hby d4_56) (q1 := 61) (by decide) (by decide) (q := 59) rfl (fun hc56 => ?_) (fun hc56 => ?_)
        · refine s_iconst X hx (z := (0 : Int32)) (hb hby d4_61) rfl (q := 62) rfl ?_
          exact leafN X hx hlk hret (by simp) (hb hby d4_62) (Nat.le_refl _) (Nat.le_refl _) (z' := (0 : Int32)) rfl ⟨congrArg (fun z => some (Value.int z)) (hres.trans (by unfold F4_3; rw [if_neg hc2, if_pos hc7, if_pos hc17, if_neg hc29, if_pos hc46, if_neg hc56])).symm, eT, rfl⟩
        refine s_iconst X hx (z := (1 : Int32)) (hb hby d4_59) rfl (q := 60) rfl ?_
        exact leafN X hx hlk hret (by simp) (hb hby d4_60) (Nat.le_refl _) (Nat.le_refl _) (z' := (1 : Int32)) rfl ⟨congrArg (fun z => some (Value.int z)) (hres.trans (by unfold F4_3; rw [if_neg hc2, if_pos hc7, if_pos hc17, if_neg hc29, if_pos hc46, if_pos hc56])).symm, eT, rfl⟩
      refine s_iconst X hx (z := (1 : Int32)) (hb hby d4_32) rfl (q := 33) rfl ?_
      exact leafN X hx hlk hret (by simp) (hb hby d4_33) (Nat.le_refl _) (Nat.le_refl _) (z' := (1 : Int32)) rfl ⟨congrArg (fun z => some (Value.int z)) (hres.trans (by unfold F4_3; rw [if_neg hc2, if_pos hc7, if_pos hc17, if_pos hc29])).symm, eT, rfl⟩
    refine s_iconst X hx (z := (0 : Int32)) (hb hby d4_20) rfl (q := 21) rfl ?_
    exact leafN X hx hlk hret (by simp) (hb hby d4_21) (Nat.le_refl _) (Nat.le_refl _) (z' := (0 : Int32)) rfl ⟨congrArg (fun z => some (Value.int z)) (hres.trans (by unfold F4_3; rw [if_neg hc2, if_pos hc7, if_neg hc17])).symm, eT, rfl⟩
  refine s_iconst X hx (z := (0 : Int32)) (hb hby d4_10) rfl (q := 11) rfl ?_
  exact leafN X hx hlk hret (by simp) (hb hby d4_11) (Nat.le_refl _) (Nat.le_refl _) (z' := (0 : Int32)) rfl ⟨congrArg (fun z => some (Value.int z)) (hres.trans (by unfold F4_3; rw [if_neg hc2, if_neg hc7])).symm, eT, rfl⟩
def F4_4 (x1 : Int32) (x2 : Int32) (c0 c1 c2 c3 c4 c5 : Int32) : Int32 := (if (4 : Int32) < x1 then (0 : Int32) else (if (4 : Int32) < x2 then (if c4 = (10 : Int32) then (if c3 = (10 : Int32) then (1 : Int32) else (if c3 = (13 : Int32) then (if c2 = (10 : Int32) then (1 : Int32) else (0 : Int32)) else (0 : Int32))) else (0 : Int32)) else (0 : Int32)))
set_option maxRecDepth 65536 in
set_option maxHeartbeats 40000000 in
theorem rm4_4 (l : Launch) (Z : State) (a0 : Array Value) (hw : ∀ d ∈ tables_1, d.before a0 Z = true) (ws : List Jvm.Cond) (x0 : Addr) (x1 : Int32) (x2 : Int32) (c0 c1 c2 c3 c4 c5 : Int32) (h0 : Heap) (A_x0 : AI Z h0 x0 .byte [c0, c1, c2, c3, c4, c5]) :
    Ctr l (⟨"com/example/corla/corla/serve/RequestHeadLengthPinLaw", "hit", "([BIII)Z"⟩ : MethodName) method_4_code 4 (some .boolean) ws ({ frames := 0, cells := 0, slots := 0, locals := 0 } : Room) Z #[(.ref x0), (.int x1), (.int x2), (.int (4 : Int32))] h0 (PQ (.int (F4_4 x1 x2 c0 c1 c2 c3 c4 c5)) h0) 0 0 := by
  refine Ctr.mk pn_4 ?_
  intro p e s m below meth c T hx hby hml hown hnm hlk hret hZ X eT
  refine enter (ef_4 m x0 x1 x2 (4 : Int32)) ?_
  obtain ⟨res, hres⟩ : ∃ r, r = F4_4 x1 x2 c0 c1 c2 c3 c4 c5 := ⟨_, rfl⟩
  rw [← hres]
  refine s_iloadN X hx (hb hby d4_0) rfl (q := 1) rfl ?_
  refine s_iloadN X hx (hb hby d4_1) rfl (q := 2) rfl ?_
  refine f_icmp_lt X hx (hb hby d4_2) (q1 := 10) (by decide) (by decide) (q := 5) rfl (fun hc2 => ?_) (fun hc2 => ?_)
  · refine s_iconst X hx (z := (0 : Int32)) (hb hby d4_10) rfl (q := 11) rfl ?_
    exact leafN X hx hlk hret (by simp) (hb hby d4_11) (Nat.le_refl _) (Nat.le_refl _) (z' := (0 : Int32)) rfl ⟨congrArg (fun z => some (Value.int z)) (hres.trans (by unfold F4_4; rw [if_pos hc2])).symm, eT, rfl⟩
  refine s_iloadN X hx (hb hby d4_5) rfl (q := 6) rfl ?_
  refine s_iloadN X hx (hb hby d4_6) rfl (q := 7) rfl ?_
  refine f_icmp_lt X hx (hb hby d4_7) (q1 := 12) (by decide) (by decide) (q := 10) rfl (fun hc7 => ?_) (fun hc7 => ?_)
  · refine s_aloadN X hx (hb hby d4_12) rfl rfl (q := 13) rfl ?_
    refine s_iloadN X hx (hb hby d4_13) rfl (q := 14) rfl ?_
    refine s_baload X hx hZ eT A_x0 (by decide) (i := 4) rfl (x := c4) rfl (hb hby d4_14) (q := 15) rfl ?_
    refine s_bipush X hx (z := (10 : Int32)) (hb hby d4_15) rfl (q := 17) rfl ?_
    refine f_icmp_eq X hx (hb hby d4_17) (q1 := 22) (by decide) (by decide) (q := 20) rfl (fun hc17 => ?_) (fun hc17 => ?_)
    · refine s_aloadN X hx (hb hby d4_22) rfl rfl (q := 23) rfl ?_
      refine s_iloadN X hx (hb hby d4_23) rfl (q := 24) rfl ?_
      refine s_iconst X hx (z := (1 : Int32)) (hb hby d4_24) rfl (q := 25) rfl ?_
      refine s_isub X hx (hb hby d4_25) (q := 26) rfl ?_
      show Go p e below _ T m 26 #[.val (.ref x0), .val (.int x1), .val (.int x2), .val (.int (4 : Int32))] [(.int (3 : Int32)), (.ref x0)]
      refine s_baload X hx hZ eT A_x0 (by decide) (i := 3) rfl (x := c3) rfl (hb hby d4_26) (q := 27) rfl ?_
      refine s_bipush X hx (z := (10 : Int32)) (hb hby d4_27) rfl (q := 29) rfl ?_
      refine f_icmp_ne X hx (hb hby d4_29) (q1 := 34) (by decide) (by decide) (q := 32) rfl (fun hc29 => ?_) (fun hc29 => ?_)
      · refine s_iloadN X hx (hb hby d4_34) rfl (q := 35) rfl ?_
        refine s_iconst X hx (z := (2 : Int32)) (hb hby d4_35) rfl (q := 36) rfl ?_
        refine f_icmp_lt X hx (hb hby d4_36) (q1 := 61) (by decide) (by decide) (q := 39) rfl (fun hq => absurd hq (by decide : ¬ (4 : Int32) < (2 : Int32))) (fun _ => ?_)
        refine s_aloadN X hx (hb hby d4_39) rfl rfl (q := 40) rfl ?_
        refine s_iloadN X hx (hb hby d4_40) rfl (q := 41) rfl ?_
        refine s_iconst X hx (z := (1 : Int32)) (hb hby d4_41) rfl (q := 42) rfl ?_
        refine s_isub X hx (hb hby d4_42) (q := 43) rfl ?_
        show Go p e below _ T m 43 #[.val (.ref x0), .val (.int x1), .val (.int x2), .val (.int (4 : Int32))] [(.int (3 : Int32)), (.ref x0)]
        refine s_baload X hx hZ eT A_x0 (by decide) (i := 3) rfl (x := c3) rfl (hb hby d4_43) (q := 44) rfl ?_
        refine s_bipush X hx (z := (13 : Int32)) (hb hby d4_44) rfl (q := 46) rfl ?_
        refine f_icmp_ne X hx (hb hby d4_46) (q1 := 61) (by decide) (by decide) (q := 49) rfl (fun hc46 => ?_) (fun hc46 => ?_)
        · refine s_iconst X hx (z := (0 : Int32)) (hb hby d4_61) rfl (q := 62) rfl ?_
          exact leafN X hx hlk hret (by simp) (hb hby d4_62) (Nat.le_refl _) (Nat.le_refl _) (z' := (0 : Int32)) rfl ⟨congrArg (fun z => some (Value.int z)) (hres.trans (by unfold F4_4; rw [if_neg hc2, if_pos hc7, if_pos hc17, if_neg hc29, if_neg hc46])).symm, eT, rfl⟩
        refine s_aloadN X hx (hb hby d4_49) rfl rfl (q := 50) rfl ?_
        refine s_iloadN X hx (hb hby d4_50) rfl (q := 51) rfl ?_
        refine s_iconst X hx (z := (2 : Int32)) (hb hby d4_51) rfl (q := 52) rfl ?_
        refine s_isub X hx (hb hby d4_52) (q := 53) rfl ?_
        show Go p e below _ T m 53 #[.val (.ref x0), .val (.int x1), .val (.int x2), .val (.int (4 : Int32))] [(.int (2 : Int32)), (.ref x0)]
        refine s_baload X hx hZ eT A_x0 (by decide) (i := 2) rfl (x := c2) rfl (hb hby d4_53) (q := 54) rfl ?_
        refine s_bipush X hx (z := (10 : Int32)) (hb hby d4_54) rfl (q := 56) rfl ?_
        refine f_icmp_ne X hx (hb hby d4_56) (q1 := 61) (by decide) (by decide) (q := 59) rfl (fun hc56 => ?_) (fun hc56 => ?_)
        · refine s_iconst X hx (z := (0 : Int32)) (hb hby d4_61) rfl (q := 62) rfl ?_
          exact leafN X hx hlk hret (by simp) (hb hby d4_62) (Nat.le_refl _) (Nat.le_refl _) (z' := (0 : Int32)) rfl ⟨congrArg (fun z => some (Value.int z)) (hres.trans (by unfold F4_4; rw [if_neg hc2, if_pos hc7, if_pos hc17, if_neg hc29, if_pos hc46, if_neg hc56])).symm, eT, rfl⟩
        refine s_iconst X hx (z := (1 : Int32)) (hb hby d4_59) rfl (q := 60) rfl ?_
        exact leafN X hx hlk hret (by simp) (hb hby d4_60) (Nat.le_refl _) (Nat.le_refl _) (z' := (1 : Int32)) rfl ⟨congrArg (fun z => some (Value.int z)) (hres.trans (by unfold F4_4; rw [if_neg hc2, if_pos hc7, if_pos hc17, if_neg hc29, if_pos hc46, if_pos hc56])).symm, eT, rfl⟩
      refine s_iconst X hx (z := (1 : Int32)) (hb hby d4_32) rfl (q := 33) rfl ?_
      exact leafN X hx hlk hret (by simp) (hb hby d4_33) (Nat.le_refl _) (Nat.le_refl _) (z' := (1 : Int32)) rfl ⟨congrArg (fun z => some (Value.int z)) (hres.trans (by unfold F4_4; rw [if_neg hc2, if_pos hc7, if_pos hc17, if_pos hc29])).symm, eT, rfl⟩
    refine s_iconst X hx (z := (0 : Int32)) (hb hby d4_20) rfl (q := 21) rfl ?_
    exact leafN X hx hlk hret (by simp) (hb hby d4_21) (Nat.le_refl _) (Nat.le_refl _) (z' := (0 : Int32)) rfl ⟨congrArg (fun z => some (Value.int z)) (hres.trans (by unfold F4_4; rw [if_neg hc2, if_pos hc7, if_neg hc17])).symm, eT, rfl⟩
  refine s_iconst X hx (z := (0 : Int32)) (hb hby d4_10) rfl (q := 11) rfl ?_
  exact leafN X hx hlk hret (by simp) (hb hby d4_11) (Nat.le_refl _) (Nat.le_refl _) (z' := (0 : Int32)) rfl ⟨congrArg (fun z => some (Value.int z)) (hres.trans (by unfold F4_4; rw [if_neg hc2, if_neg hc7])).symm, eT, rfl⟩
def F4_5 (x1 : Int32) (x2 : Int32) (c0 c1 c2 c3 c4 c5 : Int32) : Int32 := (if (5 : Int32) < x1 then (0 : Int32) else (if (5 : Int32) < x2 then (if c5 = (10 : Int32) then (if c4 = (10 : Int32) then (1 : Int32) else (if c4 = (13 : Int32) then (if c3 = (10 : Int32) then (1 : Int32) else (0 : Int32)) else (0 : Int32))) else (0 : Int32)) else (0 : Int32)))
set_option maxRecDepth 65536 in
set_option maxHeartbeats 40000000 in
theorem rm4_5 (l : Launch) (Z : State) (a0 : Array Value) (hw : ∀ d ∈ tables_1, d.before a0 Z = true) (ws : List Jvm.Cond) (x0 : Addr) (x1 : Int32) (x2 : Int32) (c0 c1 c2 c3 c4 c5 : Int32) (h0 : Heap) (A_x0 : AI Z h0 x0 .byte [c0, c1, c2, c3, c4, c5]) :
    Ctr l (⟨"com/example/corla/corla/serve/RequestHeadLengthPinLaw", "hit", "([BIII)Z"⟩ : MethodName) method_4_code 4 (some .boolean) ws ({ frames := 0, cells := 0, slots := 0, locals := 0 } : Room) Z #[(.ref x0), (.int x1), (.int x2), (.int (5 : Int32))] h0 (PQ (.int (F4_5 x1 x2 c0 c1 c2 c3 c4 c5)) h0) 0 0 := by
  refine Ctr.mk pn_4 ?_
  intro p e s m below meth c T hx hby hml hown hnm hlk hret hZ X eT
  refine enter (ef_4 m x0 x1 x2 (5 : Int32)) ?_
  obtain ⟨res, hres⟩ : ∃ r, r = F4_5 x1 x2 c0 c1 c2 c3 c4 c5 := ⟨_, rfl⟩
  rw [← hres]
  refine s_iloadN X hx (hb hby d4_0) rfl (q := 1) rfl ?_
  refine s_iloadN X hx (hb hby d4_1) rfl (q := 2) rfl ?_
  refine f_icmp_lt X hx (hb hby d4_2) (q1 := 10) (by decide) (by decide) (q := 5) rfl (fun hc2 => ?_) (fun hc2 => ?_)
  · refine s_iconst X hx (z := (0 : Int32)) (hb hby d4_10) rfl (q := 11) rfl ?_
    exact leafN X hx hlk hret (by simp) (hb hby d4_11) (Nat.le_refl _) (Nat.le_refl _) (z' := (0 : Int32)) rfl ⟨congrArg (fun z => some (Value.int z)) (hres.trans (by unfold F4_5; rw [if_pos hc2])).symm, eT, rfl⟩
  refine s_iloadN X hx (hb hby d4_5) rfl (q := 6) rfl ?_
  refine s_iloadN X hx (hb hby d4_6) rfl (q := 7) rfl ?_
  refine f_icmp_lt X hx (hb hby d4_7) (q1 := 12) (by decide) (by decide) (q := 10) rfl (fun hc7 => ?_) (fun hc7 => ?_)
  · refine s_aloadN X hx (hb hby d4_12) rfl rfl (q := 13) rfl ?_
    refine s_iloadN X hx (hb hby d4_13) rfl (q := 14) rfl ?_
    refine s_baload X hx hZ eT A_x0 (by decide) (i := 5) rfl (x := c5) rfl (hb hby d4_14) (q := 15) rfl ?_
    refine s_bipush X hx (z := (10 : Int32)) (hb hby d4_15) rfl (q := 17) rfl ?_
    refine f_icmp_eq X hx (hb hby d4_17) (q1 := 22) (by decide) (by decide) (q := 20) rfl (fun hc17 => ?_) (fun hc17 => ?_)
    · refine s_aloadN X hx (hb hby d4_22) rfl rfl (q := 23) rfl ?_
      refine s_iloadN X hx (hb hby d4_23) rfl (q := 24) rfl ?_
      refine s_iconst X hx (z := (1 : Int32)) (hb hby d4_24) rfl (q := 25) rfl ?_
      refine s_isub X hx (hb hby d4_25) (q := 26) rfl ?_
      show Go p e below _ T m 26 #[.val (.ref x0), .val (.int x1), .val (.int x2), .val (.int (5 : Int32))] [(.int (4 : Int32)), (.ref x0)]
      refine s_baload X hx hZ eT A_x0 (by decide) (i := 4) rfl (x := c4) rfl (hb hby d4_26) (q := 27) rfl ?_
      refine s_bipush X hx (z := (10 : Int32)) (hb hby d4_27) rfl (q := 29) rfl ?_
      refine f_icmp_ne X hx (hb hby d4_29) (q1 := 34) (by decide) (by decide) (q := 32) rfl (fun hc29 => ?_) (fun hc29 => ?_)
      · refine s_iloadN X hx (hb hby d4_34) rfl (q := 35) rfl ?_
        refine s_iconst X hx (z := (2 : Int32)) (hb hby d4_35) rfl (q := 36) rfl ?_
        refine f_icmp_lt X hx (hb hby d4_36) (q1 := 61) (by decide) (by decide) (q := 39) rfl (fun hq => absurd hq (by decide : ¬ (5 : Int32) < (2 : Int32))) (fun _ => ?_)
        refine s_aloadN X hx (hb hby d4_39) rfl rfl (q := 40) rfl ?_
        refine s_iloadN X hx (hb hby d4_40) rfl (q := 41) rfl ?_
        refine s_iconst X hx (z := (1 : Int32)) (hb hby d4_41) rfl (q := 42) rfl ?_
        refine s_isub X hx (hb hby d4_42) (q := 43) rfl ?_
        show Go p e below _ T m 43 #[.val (.ref x0), .val (.int x1), .val (.int x2), .val (.int (5 : Int32))] [(.int (4 : Int32)), (.ref x0)]
        refine s_baload X hx hZ eT A_x0 (by decide) (i := 4) rfl (x := c4) rfl (hb hby d4_43) (q := 44) rfl ?_
        refine s_bipush X hx (z := (13 : Int32)) (hb hby d4_44) rfl (q := 46) rfl ?_
        refine f_icmp_ne X hx (hb hby d4_46) (q1 := 61) (by decide) (by decide) (q := 49) rfl (fun hc46 => ?_) (fun hc46 => ?_)
        · refine s_iconst X hx (z := (0 : Int32)) (hb hby d4_61) rfl (q := 62) rfl ?_
          exact leafN X hx hlk hret (by simp) (hb hby d4_62) (Nat.le_refl _) (Nat.le_refl _) (z' := (0 : Int32)) rfl ⟨congrArg (fun z => some (Value.int z)) (hres.trans (by unfold F4_5; rw [if_neg hc2, if_pos hc7, if_pos hc17, if_neg hc29, if_neg hc46])).symm, eT, rfl⟩
        refine s_aloadN X hx (hb hby d4_49) rfl rfl (q := 50) rfl ?_
        refine s_iloadN X hx (hb hby d4_50) rfl (q := 51) rfl ?_
        refine s_iconst X hx (z := (2 : Int32)) (hb hby d4_51) rfl (q := 52) rfl ?_
        refine s_isub X hx (hb hby d4_52) (q := 53) rfl ?_
        show Go p e below _ T m 53 #[.val (.ref x0), .val (.int x1), .val (.int x2), .val (.int (5 : Int32))] [(.int (3 : Int32)), (.ref x0)]
        refine s_baload X hx hZ eT A_x0 (by decide) (i := 3) rfl (x := c3) rfl (hb hby d4_53) (q := 54) rfl ?_
        refine s_bipush X hx (z := (10 : Int32)) (hb hby d4_54) rfl (q := 56) rfl ?_
        refine f_icmp_ne X hx (hb hby d4_56) (q1 := 61) (by decide) (by decide) (q := 59) rfl (fun hc56 => ?_) (fun hc56 => ?_)
        · refine s_iconst X hx (z := (0 : Int32)) (hb hby d4_61) rfl (q := 62) rfl ?_
          exact leafN X hx hlk hret (by simp) (hb hby d4_62) (Nat.le_refl _) (Nat.le_refl _) (z' := (0 : Int32)) rfl ⟨congrArg (fun z => some (Value.int z)) (hres.trans (by unfold F4_5; rw [if_neg hc2, if_pos hc7, if_pos hc17, if_neg hc29, if_pos hc46, if_neg hc56])).symm, eT, rfl⟩
        refine s_iconst X hx (z := (1 : Int32)) (hb hby d4_59) rfl (q := 60) rfl ?_
        exact leafN X hx hlk hret (by simp) (hb hby d4_60) (Nat.le_refl _) (Nat.le_refl _) (z' := (1 : Int32)) rfl ⟨congrArg (fun z => some (Value.int z)) (hres.trans (by unfold F4_5; rw [if_neg hc2, if_pos hc7, if_pos hc17, if_neg hc29, if_pos hc46, if_pos hc56])).symm, eT, rfl⟩
      refine s_iconst X hx (z := (1 : Int32)) (hb hby d4_32) rfl (q := 33) rfl ?_
      exact leafN X hx hlk hret (by simp) (hb hby d4_33) (Nat.le_refl _) (Nat.le_refl _) (z' := (1 : Int32)) rfl ⟨congrArg (fun z => some (Value.int z)) (hres.trans (by unfold F4_5; rw [if_neg hc2, if_pos hc7, if_pos hc17, if_pos hc29])).symm, eT, rfl⟩
    refine s_iconst X hx (z := (0 : Int32)) (hb hby d4_20) rfl (q := 21) rfl ?_
    exact leafN X hx hlk hret (by simp) (hb hby d4_21) (Nat.le_refl _) (Nat.le_refl _) (z' := (0 : Int32)) rfl ⟨congrArg (fun z => some (Value.int z)) (hres.trans (by unfold F4_5; rw [if_neg hc2, if_pos hc7, if_neg hc17])).symm, eT, rfl⟩
  refine s_iconst X hx (z := (0 : Int32)) (hb hby d4_10) rfl (q := 11) rfl ?_
  exact leafN X hx hlk hret (by simp) (hb hby d4_11) (Nat.le_refl _) (Nat.le_refl _) (z' := (0 : Int32)) rfl ⟨congrArg (fun z => some (Value.int z)) (hres.trans (by unfold F4_5; rw [if_neg hc2, if_neg hc7])).symm, eT, rfl⟩
theorem d5_0 : decode prog_28_method_3_code 0 = .ok (.iload_n 1, 1) := by decide +kernel
theorem d5_1 : decode prog_28_method_3_code 1 = .ok (.iconst 1, 1) := by decide +kernel
theorem d5_2 : decode prog_28_method_3_code 2 = .ok (.invokestatic 202, 3) := by decide +kernel
theorem d5_5 : decode prog_28_method_3_code 5 = .ok (.istore_n 3, 1) := by decide +kernel
theorem d5_6 : decode prog_28_method_3_code 6 = .ok (.iload_n 3, 1) := by decide +kernel
theorem d5_7 : decode prog_28_method_3_code 7 = .ok (.iload_n 2, 1) := by decide +kernel
theorem d5_8 : decode prog_28_method_3_code 8 = .ok (.if_icmp .ge 56, 3) := by decide +kernel
theorem d5_11 : decode prog_28_method_3_code 11 = .ok (.aload_n 0, 1) := by decide +kernel
theorem d5_12 : decode prog_28_method_3_code 12 = .ok (.iload_n 3, 1) := by decide +kernel
theorem d5_13 : decode prog_28_method_3_code 13 = .ok (.baload, 1) := by decide +kernel
theorem d5_14 : decode prog_28_method_3_code 14 = .ok (.bipush 10, 2) := by decide +kernel
theorem d5_16 : decode prog_28_method_3_code 16 = .ok (.if_icmp .ne 42, 3) := by decide +kernel
theorem d5_19 : decode prog_28_method_3_code 19 = .ok (.aload_n 0, 1) := by decide +kernel
theorem d5_20 : decode prog_28_method_3_code 20 = .ok (.iload_n 3, 1) := by decide +kernel
theorem d5_21 : decode prog_28_method_3_code 21 = .ok (.iconst 1, 1) := by decide +kernel
theorem d5_22 : decode prog_28_method_3_code 22 = .ok (.isub, 1) := by decide +kernel
theorem d5_23 : decode prog_28_method_3_code 23 = .ok (.baload, 1) := by decide +kernel
theorem d5_24 : decode prog_28_method_3_code 24 = .ok (.bipush 10, 2) := by decide +kernel
theorem d5_26 : decode prog_28_method_3_code 26 = .ok (.if_icmp .eq 28, 3) := by decide +kernel
theorem d5_29 : decode prog_28_method_3_code 29 = .ok (.aload_n 0, 1) := by decide +kernel
theorem d5_30 : decode prog_28_method_3_code 30 = .ok (.iload_n 3, 1) := by decide +kernel
theorem d5_31 : decode prog_28_method_3_code 31 = .ok (.iconst 1, 1) := by decide +kernel
theorem d5_32 : decode prog_28_method_3_code 32 = .ok (.isub, 1) := by decide +kernel
theorem d5_33 : decode prog_28_method_3_code 33 = .ok (.baload, 1) := by decide +kernel
theorem d5_34 : decode prog_28_method_3_code 34 = .ok (.bipush 13, 2) := by decide +kernel
theorem d5_36 : decode prog_28_method_3_code 36 = .ok (.if_icmp .ne 22, 3) := by decide +kernel
theorem d5_39 : decode prog_28_method_3_code 39 = .ok (.iload_n 3, 1) := by decide +kernel
theorem d5_40 : decode prog_28_method_3_code 40 = .ok (.iconst 2, 1) := by decide +kernel
theorem d5_41 : decode prog_28_method_3_code 41 = .ok (.if_icmp .lt 17, 3) := by decide +kernel
theorem d5_44 : decode prog_28_method_3_code 44 = .ok (.aload_n 0, 1) := by decide +kernel
theorem d5_45 : decode prog_28_method_3_code 45 = .ok (.iload_n 3, 1) := by decide +kernel
theorem d5_46 : decode prog_28_method_3_code 46 = .ok (.iconst 2, 1) := by decide +kernel
theorem d5_47 : decode prog_28_method_3_code 47 = .ok (.isub, 1) := by decide +kernel
theorem d5_48 : decode prog_28_method_3_code 48 = .ok (.baload, 1) := by decide +kernel
theorem d5_49 : decode prog_28_method_3_code 49 = .ok (.bipush 10, 2) := by decide +kernel
theorem d5_51 : decode prog_28_method_3_code 51 = .ok (.if_icmp .ne 7, 3) := by decide +kernel
theorem d5_54 : decode prog_28_method_3_code 54 = .ok (.iload_n 3, 1) := by decide +kernel
theorem d5_55 : decode prog_28_method_3_code 55 = .ok (.iconst 1, 1) := by decide +kernel
theorem d5_56 : decode prog_28_method_3_code 56 = .ok (.iadd, 1) := by decide +kernel
theorem d5_57 : decode prog_28_method_3_code 57 = .ok (.ireturn, 1) := by decide +kernel
theorem d5_58 : decode prog_28_method_3_code 58 = .ok (.iinc 3 1, 3) := by decide +kernel
theorem d5_61 : decode prog_28_method_3_code 61 = .ok (.goto (-55), 3) := by decide +kernel
theorem d5_64 : decode prog_28_method_3_code 64 = .ok (.iconst (-1), 1) := by decide +kernel
theorem d5_65 : decode prog_28_method_3_code 65 = .ok (.ireturn, 1) := by decide +kernel
theorem pn_5 : plainFor (⟨"com/example/corla/corla/serve/Request", "headLength", "([BII)I"⟩ : MethodName) = true := plainFor_of_name (by first | (simp [plainName, overriddenIn]; done) | decide +kernel)
theorem ef_5 (m : MethodId) (x0 : Addr) (x1 : Int32) (x2 : Int32) : entryFrame m #[(.ref x0), (.int x1), (.int x2)] 4 = mkF m 0 #[.val (.ref x0), .val (.int x1), .val (.int x2), .unset] [] := by first | (simp [entryFrame, mkF, argsToLocals, Value.category]; done) | rfl
def H6 (x2 : Int32) (c0 c1 c2 c3 c4 c5 : Int32) : Int32 := (-1 : Int32)
def H5 (x2 : Int32) (c0 c1 c2 c3 c4 c5 : Int32) : Int32 := (if (5 : Int32) < x2 then (if c5 = (10 : Int32) then (if c4 = (10 : Int32) then (6 : Int32) else (if c4 = (13 : Int32) then (if c3 = (10 : Int32) then (6 : Int32) else (H6 x2 c0 c1 c2 c3 c4 c5)) else (H6 x2 c0 c1 c2 c3 c4 c5))) else (H6 x2 c0 c1 c2 c3 c4 c5)) else (-1 : Int32))
def H4 (x2 : Int32) (c0 c1 c2 c3 c4 c5 : Int32) : Int32 := (if (4 : Int32) < x2 then (if c4 = (10 : Int32) then (if c3 = (10 : Int32) then (5 : Int32) else (if c3 = (13 : Int32) then (if c2 = (10 : Int32) then (5 : Int32) else (H5 x2 c0 c1 c2 c3 c4 c5)) else (H5 x2 c0 c1 c2 c3 c4 c5))) else (H5 x2 c0 c1 c2 c3 c4 c5)) else (-1 : Int32))
def H3 (x2 : Int32) (c0 c1 c2 c3 c4 c5 : Int32) : Int32 := (if (3 : Int32) < x2 then (if c3 = (10 : Int32) then (if c2 = (10 : Int32) then (4 : Int32) else (if c2 = (13 : Int32) then (if c1 = (10 : Int32) then (4 : Int32) else (H4 x2 c0 c1 c2 c3 c4 c5)) else (H4 x2 c0 c1 c2 c3 c4 c5))) else (H4 x2 c0 c1 c2 c3 c4 c5)) else (-1 : Int32))
def H2 (x2 : Int32) (c0 c1 c2 c3 c4 c5 : Int32) : Int32 := (if (2 : Int32) < x2 then (if c2 = (10 : Int32) then (if c1 = (10 : Int32) then (3 : Int32) else (if c1 = (13 : Int32) then (if c0 = (10 : Int32) then (3 : Int32) else (H3 x2 c0 c1 c2 c3 c4 c5)) else (H3 x2 c0 c1 c2 c3 c4 c5))) else (H3 x2 c0 c1 c2 c3 c4 c5)) else (-1 : Int32))
def H1 (x2 : Int32) (c0 c1 c2 c3 c4 c5 : Int32) : Int32 := (if (1 : Int32) < x2 then (if c1 = (10 : Int32) then (if c0 = (10 : Int32) then (2 : Int32) else (if c0 = (13 : Int32) then (H2 x2 c0 c1 c2 c3 c4 c5) else (H2 x2 c0 c1 c2 c3 c4 c5))) else (H2 x2 c0 c1 c2 c3 c4 c5)) else (-1 : Int32))
def FH (x1 x2 : Int32) (c0 c1 c2 c3 c4 c5 : Int32) : Int32 := if (F3 x1 (1 : Int32)) < x2 then (if (F3 x1 (1 : Int32)) = 1 then H1 x2 c0 c1 c2 c3 c4 c5 else if (F3 x1 (1 : Int32)) = 2 then H2 x2 c0 c1 c2 c3 c4 c5 else if (F3 x1 (1 : Int32)) = 3 then H3 x2 c0 c1 c2 c3 c4 c5 else if (F3 x1 (1 : Int32)) = 4 then H4 x2 c0 c1 c2 c3 c4 c5 else H5 x2 c0 c1 c2 c3 c4 c5) else (-1 : Int32)
theorem own_max (x1 ii : Int32) (hii : (F3 x1 (1 : Int32)) = ii) : 1 ≤ ii.toInt := by
  have e1 : (1 : Int32).toInt = 1 := by decide
  rw [← hii]; unfold F3; split
  · rename_i h; rw [Int32.lt_iff_toInt_lt] at h; omega
  · rename_i h; rw [Int32.lt_iff_toInt_lt] at h; omega
theorem own_ii (x1 x2 ii : Int32) (hii : (F3 x1 (1 : Int32)) = ii) (hlt : ii < x2) (hx6 : ¬ (6 : Int32) < x2) : ii = 1 ∨ ii = 2 ∨ ii = 3 ∨ ii = 4 ∨ ii = 5 := by
  have h1 := own_max x1 ii hii
  have e1 : (1 : Int32).toInt = 1 := by decide
  have e2 : (2 : Int32).toInt = 2 := by decide
  have e3 : (3 : Int32).toInt = 3 := by decide
  have e4 : (4 : Int32).toInt = 4 := by decide
  have e5 : (5 : Int32).toInt = 5 := by decide
  have e6 : (6 : Int32).toInt = 6 := by decide
  simp only [← Int32.toInt_inj]
  rw [Int32.lt_iff_toInt_lt] at hlt hx6
  omega
theorem pd0 : parseMethodDescriptor "(II)I" = some ⟨[.int, .int], some .int⟩ := by decide +kernel
set_option maxRecDepth 65536 in
set_option maxHeartbeats 40000000 in
theorem rm5 (l : Launch) (Z : State) (a0 : Array Value) (hw : ∀ d ∈ tables_1, d.before a0 Z = true) (ws : List Jvm.Cond) (x0 : Addr) (x1 x2 : Int32) (c0 c1 c2 c3 c4 c5 : Int32) (h0 : Heap) (A_x0 : AI Z h0 x0 .byte [c0, c1, c2, c3, c4, c5]) (hx6 : ¬ (6 : Int32) < x2) :
    Ctr l (⟨"com/example/corla/corla/serve/Request", "headLength", "([BII)I"⟩ : MethodName) prog_28_method_3_code 4 (some .int) ws ({ frames := 1, cells := 0, slots := 0, locals := 13 } : Room) Z #[(.ref x0), (.int x1), (.int x2)] h0 (PQ (.int (FH x1 x2 c0 c1 c2 c3 c4 c5)) h0) 0 0 := by
  refine Ctr.mk pn_5 ?_
  intro p e s m below meth c T hx hby hml hown hnm hlk hret hZ X eT
  refine enter (ef_5 m x0 x1 x2) ?_
  obtain ⟨res, hres⟩ : ∃ r, r = FH x1 x2 c0 c1 c2 c3 c4 c5 := ⟨_, rfl⟩
  rw [← hres]
  refine s_iloadN X hx (hb hby d5_0) rfl (q := 1) rfl ?_
  refine s_iconst X hx (z := (1 : Int32)) (hb hby d5_1) rfl (q := 2) rfl ?_
  refine callP X hx hZ hown (W := 0) (argsL := [(.int x1), (.int (1 : Int32))]) (rest := []) (hw _ (List.mem_of_getElem? (i := 19) rfl)) (hw _ (List.mem_of_getElem? (i := 10) rfl)) (hw _ (List.mem_of_getElem? (i := 7) rfl)) (hw _ (List.mem_of_getElem? (i := 11) rfl)) (by decide) (rm3 l Z a0 hw [] x1 (1 : Int32) h0) rfl rfl eT (by decide) (by decide) (by decide) (by decide) (by rw [hml]; rfl) pd0 rfl rfl (Nat.le_of_ble_eq_true rfl) (hb hby d5_2) (q := 5) rfl ?_
  intro T X eT
  generalize hii : (F3 x1 (1 : Int32)) = ii
  refine s_istoreN X hx (hb hby d5_5) (L' := #[.val (.ref x0), .val (.int x1), .val (.int x2), .val (.int ii)]) rfl (q := 6) rfl ?_
  have cutH6 : res = H6 x2 c0 c1 c2 c3 c4 c5 → Go p e below (Gl s below (PQ (.int res) h0) 0 0) T m 6 #[.val (.ref x0), .val (.int x1), .val (.int x2), .val (.int (6 : Int32))] [] := by
    intro hres
    refine s_iloadN X hx (hb hby d5_6) rfl (q := 7) rfl ?_
    refine s_iloadN X hx (hb hby d5_7) rfl (q := 8) rfl ?_
    refine f_icmp_ge X hx (hb hby d5_8) (q1 := 64) (by decide) (by decide) (q := 11) rfl (fun _ => ?_) (fun hq => absurd hq (fun q => hx6 q : ¬ (6 : Int32) < x2))
    refine s_iconst X hx (z := (-1 : Int32)) (hb hby d5_64) rfl (q := 65) rfl ?_
    exact leafI X hx hlk hret (hb hby d5_65) (Nat.le_refl _) (Nat.le_refl _) ⟨congrArg (fun z => some (Value.int z)) (hres.trans (by unfold H6; rfl)).symm, eT, rfl⟩
  have cutH5 : res = H5 x2 c0 c1 c2 c3 c4 c5 → Go p e below (Gl s below (PQ (.int res) h0) 0 0) T m 6 #[.val (.ref x0), .val (.int x1), .val (.int x2), .val (.int (5 : Int32))] [] := by
    intro hres
    refine s_iloadN X hx (hb hby d5_6) rfl (q := 7) rfl ?_
    refine s_iloadN X hx (hb hby d5_7) rfl (q := 8) rfl ?_
    refine f_icmp_ge X hx (hb hby d5_8) (q1 := 64) (by decide) (by decide) (q := 11) rfl (fun hc8 => ?_) (fun hc8 => ?_)
    · refine s_iconst X hx (z := (-1 : Int32)) (hb hby d5_64) rfl (q := 65) rfl ?_
      exact leafI X hx hlk hret (hb hby d5_65) (Nat.le_refl _) (Nat.le_refl _) ⟨congrArg (fun z => some (Value.int z)) (hres.trans (by unfold H5; rw [if_neg hc8])).symm, eT, rfl⟩
    refine s_aloadN X hx (hb hby d5_11) rfl rfl (q := 12) rfl ?_
    refine s_iloadN X hx (hb hby d5_12) rfl (q := 13) rfl ?_
    refine s_baload X hx hZ eT A_x0 (by decide) (i := 5) rfl (x := c5) rfl (hb hby d5_13) (q := 14) rfl ?_
    refine s_bipush X hx (z := (10 : Int32)) (hb hby d5_14) rfl (q := 16) rfl ?_
    refine f_icmp_ne X hx (hb hby d5_16) (q1 := 58) (by decide) (by decide) (q := 19) rfl (fun hc16 => ?_) (fun hc16 => ?_)
    · refine s_iinc X hx (w := (6 : Int32)) (hb hby d5_58) rfl rfl (L' := #[.val (.ref x0), .val (.int x1), .val (.int x2), .val (.int (6 : Int32))]) rfl (q := 61) rfl ?_
      refine s_goto X hx (hb hby d5_61) (q1 := 6) (by decide) (by decide) ?_
      exact cutH6 (hres.trans (by unfold H5; rw [if_pos hc8, if_neg hc16]))
    refine s_aloadN X hx (hb hby d5_19) rfl rfl (q := 20) rfl ?_
    refine s_iloadN X hx (hb hby d5_20) rfl (q := 21) rfl ?_
    refine s_iconst X hx (z := (1 : Int32)) (hb hby d5_21) rfl (q := 22) rfl ?_
    refine s_isub X hx (hb hby d5_22) (q := 23) rfl ?_
    show Go p e below _ T m 23 #[.val (.ref x0), .val (.int x1), .val (.int x2), .val (.int (5 : Int32))] [(.int (4 : Int32)), (.ref x0)]
    refine s_baload X hx hZ eT A_x0 (by decide) (i := 4) rfl (x := c4) rfl (hb hby d5_23) (q := 24) rfl ?_
    refine s_bipush X hx (z := (10 : Int32)) (hb hby d5_24) rfl (q := 26) rfl ?_
    refine f_icmp_eq X hx (hb hby d5_26) (q1 := 54) (by decide) (by decide) (q := 29) rfl (fun hc26 => ?_) (fun hc26 => ?_)
    · refine s_iloadN X hx (hb hby d5_54) rfl (q := 55) rfl ?_
      refine s_iconst X hx (z := (1 : Int32)) (hb hby d5_55) rfl (q := 56) rfl ?_
      refine s_iadd X hx (hb hby d5_56) (q := 57) rfl ?_
      show Go p e below _ T m 57 #[.val (.ref x0), .val (.int x1), .val (.int x2), .val (.int (5 : Int32))] [(.int (6 : Int32))]
      exact leafI X hx hlk hret (hb hby d5_57) (Nat.le_refl _) (Nat.le_refl _) ⟨congrArg (fun z => some (Value.int z)) (hres.trans (by unfold H5; rw [if_pos hc8, if_pos hc16, if_pos hc26])).symm, eT, rfl⟩
    refine s_aloadN X hx (hb hby d5_29) rfl rfl (q := 30) rfl ?_
    refine s_iloadN X hx (hb hby d5_30) rfl (q := 31) rfl ?_
    refine s_iconst X hx (z := (1 : Int32)) (hb hby d5_31) rfl (q := 32) rfl ?_
    refine s_isub X hx (hb hby d5_32) (q := 33) rfl ?_
    show Go p e below _ T m 33 #[.val (.ref x0), .val (.int x1), .val (.int x2), .val (.int (5 : Int32))] [(.int (4 : Int32)), (.ref x0)]
    refine s_baload X hx hZ eT A_x0 (by decide) (i := 4) rfl (x := c4) rfl (hb hby d5_33) (q := 34) rfl ?_
    refine s_bipush X hx (z := (13 : Int32)) (hb hby d5_34) rfl (q := 36) rfl ?_
    refine f_icmp_ne X hx (hb hby d5_36) (q1 := 58) (by decide) (by decide) (q := 39) rfl (fun hc36 => ?_) (fun hc36 => ?_)
    · refine s_iinc X hx (w := (6 : Int32)) (hb hby d5_58) rfl rfl (L' := #[.val (.ref x0), .val (.int x1), .val (.int x2), .val (.int (6 : Int32))]) rfl (q := 61) rfl ?_
      refine s_goto X hx (hb hby d5_61) (q1 := 6) (by decide) (by decide) ?_
      exact cutH6 (hres.trans (by unfold H5; rw [if_pos hc8, if_pos hc16, if_neg hc26, if_neg hc36]))
    refine s_iloadN X hx (hb hby d5_39) rfl (q := 40) rfl ?_
    refine s_iconst X hx (z := (2 : Int32)) (hb hby d5_40) rfl (q := 41) rfl ?_
    refine f_icmp_lt X hx (hb hby d5_41) (q1 := 58) (by decide) (by decide) (q := 44) rfl (fun hq => absurd hq (by decide : ¬ (5 : Int32) < (2 : Int32))) (fun _ => ?_)
    refine s_aloadN X hx (hb hby d5_44) rfl rfl (q := 45) rfl ?_
    refine s_iloadN X hx (hb hby d5_45) rfl (q := 46) rfl ?_
    refine s_iconst X hx (z := (2 : Int32)) (hb hby d5_46) rfl (q := 47) rfl ?_
    refine s_isub X hx (hb hby d5_47) (q := 48) rfl ?_
    show Go p e below _ T m 48 #[.val (.ref x0), .val (.int x1), .val (.int x2), .val (.int (5 : Int32))] [(.int (3 : Int32)), (.ref x0)]
    refine s_baload X hx hZ eT A_x0 (by decide) (i := 3) rfl (x := c3) rfl (hb hby d5_48) (q := 49) rfl ?_
    refine s_bipush X hx (z := (10 : Int32)) (hb hby d5_49) rfl (q := 51) rfl ?_
    refine f_icmp_ne X hx (hb hby d5_51) (q1 := 58) (by decide) (by decide) (q := 54) rfl (fun hc51 => ?_) (fun hc51 => ?_)
    · refine s_iinc X hx (w := (6 : Int32)) (hb hby d5_58) rfl rfl (L' := #[.val (.ref x0), .val (.int x1), .val (.int x2), .val (.int (6 : Int32))]) rfl (q := 61) rfl ?_
      refine s_goto X hx (hb hby d5_61) (q1 := 6) (by decide) (by decide) ?_
      exact cutH6 (hres.trans (by unfold H5; rw [if_pos hc8, if_pos hc16, if_neg hc26, if_pos hc36, if_neg hc51]))
    refine s_iloadN X hx (hb hby d5_54) rfl (q := 55) rfl ?_
    refine s_iconst X hx (z := (1 : Int32)) (hb hby d5_55) rfl (q := 56) rfl ?_
    refine s_iadd X hx (hb hby d5_56) (q := 57) rfl ?_
    show Go p e below _ T m 57 #[.val (.ref x0), .val (.int x1), .val (.int x2), .val (.int (5 : Int32))] [(.int (6 : Int32))]
    exact leafI X hx hlk hret (hb hby d5_57) (Nat.le_refl _) (Nat.le_refl _) ⟨congrArg (fun z => some (Value.int z)) (hres.trans (by unfold H5; rw [if_pos hc8, if_pos hc16, if_neg hc26, if_pos hc36, if_pos hc51])).symm, eT, rfl⟩
  have cutH4 : res = H4 x2 c0 c1 c2 c3 c4 c5 → Go p e below (Gl s below (PQ (.int res) h0) 0 0) T m 6 #[.val (.ref x0), .val (.int x1), .val (.int x2), .val (.int (4 : Int32))] [] := by
    intro hres
    refine s_iloadN X hx (hb hby d5_6) rfl (q := 7) rfl ?_
    refine s_iloadN X hx (hb hby d5_7) rfl (q := 8) rfl ?_
    refine f_icmp_ge X hx (hb hby d5_8) (q1 := 64) (by decide) (by decide) (q := 11) rfl (fun hc8 => ?_) (fun hc8 => ?_)
    · refine s_iconst X hx (z := (-1 : Int32)) (hb hby d5_64) rfl (q := 65) rfl ?_
      exact leafI X hx hlk hret (hb hby d5_65) (Nat.le_refl _) (Nat.le_refl _) ⟨congrArg (fun z => some (Value.int z)) (hres.trans (by unfold H4; rw [if_neg hc8])).symm, eT, rfl⟩
    refine s_aloadN X hx (hb hby d5_11) rfl rfl (q := 12) rfl ?_
    refine s_iloadN X hx (hb hby d5_12) rfl (q := 13) rfl ?_
    refine s_baload X hx hZ eT A_x0 (by decide) (i := 4) rfl (x := c4) rfl (hb hby d5_13) (q := 14) rfl ?_
    refine s_bipush X hx (z := (10 : Int32)) (hb hby d5_14) rfl (q := 16) rfl ?_
    refine f_icmp_ne X hx (hb hby d5_16) (q1 := 58) (by decide) (by decide) (q := 19) rfl (fun hc16 => ?_) (fun hc16 => ?_)
    · refine s_iinc X hx (w := (5 : Int32)) (hb hby d5_58) rfl rfl (L' := #[.val (.ref x0), .val (.int x1), .val (.int x2), .val (.int (5 : Int32))]) rfl (q := 61) rfl ?_
      refine s_goto X hx (hb hby d5_61) (q1 := 6) (by decide) (by decide) ?_
      exact cutH5 (hres.trans (by unfold H4; rw [if_pos hc8, if_neg hc16]))
    refine s_aloadN X hx (hb hby d5_19) rfl rfl (q := 20) rfl ?_
    refine s_iloadN X hx (hb hby d5_20) rfl (q := 21) rfl ?_
    refine s_iconst X hx (z := (1 : Int32)) (hb hby d5_21) rfl (q := 22) rfl ?_
    refine s_isub X hx (hb hby d5_22) (q := 23) rfl ?_
    show Go p e below _ T m 23 #[.val (.ref x0), .val (.int x1), .val (.int x2), .val (.int (4 : Int32))] [(.int (3 : Int32)), (.ref x0)]
    refine s_baload X hx hZ eT A_x0 (by decide) (i := 3) rfl (x := c3) rfl (hb hby d5_23) (q := 24) rfl ?_
    refine s_bipush X hx (z := (10 : Int32)) (hb hby d5_24) rfl (q := 26) rfl ?_
    refine f_icmp_eq X hx (hb hby d5_26) (q1 := 54) (by decide) (by decide) (q := 29) rfl (fun hc26 => ?_) (fun hc26 => ?_)
    · refine s_iloadN X hx (hb hby d5_54) rfl (q := 55) rfl ?_
      refine s_iconst X hx (z := (1 : Int32)) (hb hby d5_55) rfl (q := 56) rfl ?_
      refine s_iadd X hx (hb hby d5_56) (q := 57) rfl ?_
      show Go p e below _ T m 57 #[.val (.ref x0), .val (.int x1), .val (.int x2), .val (.int (4 : Int32))] [(.int (5 : Int32))]
      exact leafI X hx hlk hret (hb hby d5_57) (Nat.le_refl _) (Nat.le_refl _) ⟨congrArg (fun z => some (Value.int z)) (hres.trans (by unfold H4; rw [if_pos hc8, if_pos hc16, if_pos hc26])).symm, eT, rfl⟩
    refine s_aloadN X hx (hb hby d5_29) rfl rfl (q := 30) rfl ?_
    refine s_iloadN X hx (hb hby d5_30) rfl (q := 31) rfl ?_
    refine s_iconst X hx (z := (1 : Int32)) (hb hby d5_31) rfl (q := 32) rfl ?_
    refine s_isub X hx (hb hby d5_32) (q := 33) rfl ?_
    show Go p e below _ T m 33 #[.val (.ref x0), .val (.int x1), .val (.int x2), .val (.int (4 : Int32))] [(.int (3 : Int32)), (.ref x0)]
    refine s_baload X hx hZ eT A_x0 (by decide) (i := 3) rfl (x := c3) rfl (hb hby d5_33) (q := 34) rfl ?_
    refine s_bipush X hx (z := (13 : Int32)) (hb hby d5_34) rfl (q := 36) rfl ?_
    refine f_icmp_ne X hx (hb hby d5_36) (q1 := 58) (by decide) (by decide) (q := 39) rfl (fun hc36 => ?_) (fun hc36 => ?_)
    · refine s_iinc X hx (w := (5 : Int32)) (hb hby d5_58) rfl rfl (L' := #[.val (.ref x0), .val (.int x1), .val (.int x2), .val (.int (5 : Int32))]) rfl (q := 61) rfl ?_
      refine s_goto X hx (hb hby d5_61) (q1 := 6) (by decide) (by decide) ?_
      exact cutH5 (hres.trans (by unfold H4; rw [if_pos hc8, if_pos hc16, if_neg hc26, if_neg hc36]))
    refine s_iloadN X hx (hb hby d5_39) rfl (q := 40) rfl ?_
    refine s_iconst X hx (z := (2 : Int32)) (hb hby d5_40) rfl (q := 41) rfl ?_
    refine f_icmp_lt X hx (hb hby d5_41) (q1 := 58) (by decide) (by decide) (q := 44) rfl (fun hq => absurd hq (by decide : ¬ (4 : Int32) < (2 : Int32))) (fun _ => ?_)
    refine s_aloadN X hx (hb hby d5_44) rfl rfl (q := 45) rfl ?_
    refine s_iloadN X hx (hb hby d5_45) rfl (q := 46) rfl ?_
    refine s_iconst X hx (z := (2 : Int32)) (hb hby d5_46) rfl (q := 47) rfl ?_
    refine s_isub X hx (hb hby d5_47) (q := 48) rfl ?_
    show Go p e below _ T m 48 #[.val (.ref x0), .val (.int x1), .val (.int x2), .val (.int (4 : Int32))] [(.int (2 : Int32)), (.ref x0)]
    refine s_baload X hx hZ eT A_x0 (by decide) (i := 2) rfl (x := c2) rfl (hb hby d5_48) (q := 49) rfl ?_
    refine s_bipush X hx (z := (10 : Int32)) (hb hby d5_49) rfl (q := 51) rfl ?_
    refine f_icmp_ne X hx (hb hby d5_51) (q1 := 58) (by decide) (by decide) (q := 54) rfl (fun hc51 => ?_) (fun hc51 => ?_)
    · refine s_iinc X hx (w := (5 : Int32)) (hb hby d5_58) rfl rfl (L' := #[.val (.ref x0), .val (.int x1), .val (.int x2), .val (.int (5 : Int32))]) rfl (q := 61) rfl ?_
      refine s_goto X hx (hb hby d5_61) (q1 := 6) (by decide) (by decide) ?_
      exact cutH5 (hres.trans (by unfold H4; rw [if_pos hc8, if_pos hc16, if_neg hc26, if_pos hc36, if_neg hc51]))
    refine s_iloadN X hx (hb hby d5_54) rfl (q := 55) rfl ?_
    refine s_iconst X hx (z := (1 : Int32)) (hb hby d5_55) rfl (q := 56) rfl ?_
    refine s_iadd X hx (hb hby d5_56) (q := 57) rfl ?_
    show Go p e below _ T m 57 #[.val (.ref x0), .val (.int x1), .val (.int x2), .val (.int (4 : Int32))] [(.int (5 : Int32))]
    exact leafI X hx hlk hret (hb hby d5_57) (Nat.le_refl _) (Nat.le_refl _) ⟨congrArg (fun z => some (Value.int z)) (hres.trans (by unfold H4; rw [if_pos hc8, if_pos hc16, if_neg hc26, if_pos hc36, if_pos hc51])).symm, eT, rfl⟩
  have cutH3 : res = H3 x2 c0 c1 c2 c3 c4 c5 → Go p e below (Gl s below (PQ (.int res) h0) 0 0) T m 6 #[.val (.ref x0), .val (.int x1), .val (.int x2), .val (.int (3 : Int32))] [] := by
    intro hres
    refine s_iloadN X hx (hb hby d5_6) rfl (q := 7) rfl ?_
    refine s_iloadN X hx (hb hby d5_7) rfl (q := 8) rfl ?_
    refine f_icmp_ge X hx (hb hby d5_8) (q1 := 64) (by decide) (by decide) (q := 11) rfl (fun hc8 => ?_) (fun hc8 => ?_)
    · refine s_iconst X hx (z := (-1 : Int32)) (hb hby d5_64) rfl (q := 65) rfl ?_
      exact leafI X hx hlk hret (hb hby d5_65) (Nat.le_refl _) (Nat.le_refl _) ⟨congrArg (fun z => some (Value.int z)) (hres.trans (by unfold H3; rw [if_neg hc8])).symm, eT, rfl⟩
    refine s_aloadN X hx (hb hby d5_11) rfl rfl (q := 12) rfl ?_
    refine s_iloadN X hx (hb hby d5_12) rfl (q := 13) rfl ?_
    refine s_baload X hx hZ eT A_x0 (by decide) (i := 3) rfl (x := c3) rfl (hb hby d5_13) (q := 14) rfl ?_
    refine s_bipush X hx (z := (10 : Int32)) (hb hby d5_14) rfl (q := 16) rfl ?_
    refine f_icmp_ne X hx (hb hby d5_16) (q1 := 58) (by decide) (by decide) (q := 19) rfl (fun hc16 => ?_) (fun hc16 => ?_)
    · refine s_iinc X hx (w := (4 : Int32)) (hb hby d5_58) rfl rfl (L' := #[.val (.ref x0), .val (.int x1), .val (.int x2), .val (.int (4 : Int32))]) rfl (q := 61) rfl ?_
      refine s_goto X hx (hb hby d5_61) (q1 := 6) (by decide) (by decide) ?_
      exact cutH4 (hres.trans (by unfold H3; rw [if_pos hc8, if_neg hc16]))
    refine s_aloadN X hx (hb hby d5_19) rfl rfl (q := 20) rfl ?_
    refine s_iloadN X hx (hb hby d5_20) rfl (q := 21) rfl ?_
    refine s_iconst X hx (z := (1 : Int32)) (hb hby d5_21) rfl (q := 22) rfl ?_
    refine s_isub X hx (hb hby d5_22) (q := 23) rfl ?_
    show Go p e below _ T m 23 #[.val (.ref x0), .val (.int x1), .val (.int x2), .val (.int (3 : Int32))] [(.int (2 : Int32)), (.ref x0)]
    refine s_baload X hx hZ eT A_x0 (by decide) (i := 2) rfl (x := c2) rfl (hb hby d5_23) (q := 24) rfl ?_
    refine s_bipush X hx (z := (10 : Int32)) (hb hby d5_24) rfl (q := 26) rfl ?_
    refine f_icmp_eq X hx (hb hby d5_26) (q1 := 54) (by decide) (by decide) (q := 29) rfl (fun hc26 => ?_) (fun hc26 => ?_)
    · refine s_iloadN X hx (hb hby d5_54) rfl (q := 55) rfl ?_
      refine s_iconst X hx (z := (1 : Int32)) (hb hby d5_55) rfl (q := 56) rfl ?_
      refine s_iadd X hx (hb hby d5_56) (q := 57) rfl ?_
      show Go p e below _ T m 57 #[.val (.ref x0), .val (.int x1), .val (.int x2), .val (.int (3 : Int32))] [(.int (4 : Int32))]
      exact leafI X hx hlk hret (hb hby d5_57) (Nat.le_refl _) (Nat.le_refl _) ⟨congrArg (fun z => some (Value.int z)) (hres.trans (by unfold H3; rw [if_pos hc8, if_pos hc16, if_pos hc26])).symm, eT, rfl⟩
    refine s_aloadN X hx (hb hby d5_29) rfl rfl (q := 30) rfl ?_
    refine s_iloadN X hx (hb hby d5_30) rfl (q := 31) rfl ?_
    refine s_iconst X hx (z := (1 : Int32)) (hb hby d5_31) rfl (q := 32) rfl ?_
    refine s_isub X hx (hb hby d5_32) (q := 33) rfl ?_
    show Go p e below _ T m 33 #[.val (.ref x0), .val (.int x1), .val (.int x2), .val (.int (3 : Int32))] [(.int (2 : Int32)), (.ref x0)]
    refine s_baload X hx hZ eT A_x0 (by decide) (i := 2) rfl (x := c2) rfl (hb hby d5_33) (q := 34) rfl ?_
    refine s_bipush X hx (z := (13 : Int32)) (hb hby d5_34) rfl (q := 36) rfl ?_
    refine f_icmp_ne X hx (hb hby d5_36) (q1 := 58) (by decide) (by decide) (q := 39) rfl (fun hc36 => ?_) (fun hc36 => ?_)
    · refine s_iinc X hx (w := (4 : Int32)) (hb hby d5_58) rfl rfl (L' := #[.val (.ref x0), .val (.int x1), .val (.int x2), .val (.int (4 : Int32))]) rfl (q := 61) rfl ?_
      refine s_goto X hx (hb hby d5_61) (q1 := 6) (by decide) (by decide) ?_
      exact cutH4 (hres.trans (by unfold H3; rw [if_pos hc8, if_pos hc16, if_neg hc26, if_neg hc36]))
    refine s_iloadN X hx (hb hby d5_39) rfl (q := 40) rfl ?_
    refine s_iconst X hx (z := (2 : Int32)) (hb hby d5_40) rfl (q := 41) rfl ?_
    refine f_icmp_lt X hx (hb hby d5_41) (q1 := 58) (by decide) (by decide) (q := 44) rfl (fun hq => absurd hq (by decide : ¬ (3 : Int32) < (2 : Int32))) (fun _ => ?_)
    refine s_aloadN X hx (hb hby d5_44) rfl rfl (q := 45) rfl ?_
    refine s_iloadN X hx (hb hby d5_45) rfl (q := 46) rfl ?_
    refine s_iconst X hx (z := (2 : Int32)) (hb hby d5_46) rfl (q := 47) rfl ?_
    refine s_isub X hx (hb hby d5_47) (q := 48) rfl ?_
    show Go p e below _ T m 48 #[.val (.ref x0), .val (.int x1), .val (.int x2), .val (.int (3 : Int32))] [(.int (1 : Int32)), (.ref x0)]
    refine s_baload X hx hZ eT A_x0 (by decide) (i := 1) rfl (x := c1) rfl (hb hby d5_48) (q := 49) rfl ?_
    refine s_bipush X hx (z := (10 : Int32)) (hb hby d5_49) rfl (q := 51) rfl ?_
    refine f_icmp_ne X hx (hb hby d5_51) (q1 := 58) (by decide) (by decide) (q := 54) rfl (fun hc51 => ?_) (fun hc51 => ?_)
    · refine s_iinc X hx (w := (4 : Int32)) (hb hby d5_58) rfl rfl (L' := #[.val (.ref x0), .val (.int x1), .val (.int x2), .val (.int (4 : Int32))]) rfl (q := 61) rfl ?_
      refine s_goto X hx (hb hby d5_61) (q1 := 6) (by decide) (by decide) ?_
      exact cutH4 (hres.trans (by unfold H3; rw [if_pos hc8, if_pos hc16, if_neg hc26, if_pos hc36, if_neg hc51]))
    refine s_iloadN X hx (hb hby d5_54) rfl (q := 55) rfl ?_
    refine s_iconst X hx (z := (1 : Int32)) (hb hby d5_55) rfl (q := 56) rfl ?_
    refine s_iadd X hx (hb hby d5_56) (q := 57) rfl ?_
    show Go p e below _ T m 57 #[.val (.ref x0), .val (.int x1), .val (.int x2), .val (.int (3 : Int32))] [(.int (4 : Int32))]
    exact leafI X hx hlk hret (hb hby d5_57) (Nat.le_refl _) (Nat.le_refl _) ⟨congrArg (fun z => some (Value.int z)) (hres.trans (by unfold H3; rw [if_pos hc8, if_pos hc16, if_neg hc26, if_pos hc36, if_pos hc51])).symm, eT, rfl⟩
  have cutH2 : res = H2 x2 c0 c1 c2 c3 c4 c5 → Go p e below (Gl s below (PQ (.int res) h0) 0 0) T m 6 #[.val (.ref x0), .val (.int x1), .val (.int x2), .val (.int (2 : Int32))] [] := by
    intro hres
    refine s_iloadN X hx (hb hby d5_6) rfl (q := 7) rfl ?_
    refine s_iloadN X hx (hb hby d5_7) rfl (q := 8) rfl ?_
    refine f_icmp_ge X hx (hb hby d5_8) (q1 := 64) (by decide) (by decide) (q := 11) rfl (fun hc8 => ?_) (fun hc8 => ?_)
    · refine s_iconst X hx (z := (-1 : Int32)) (hb hby d5_64) rfl (q := 65) rfl ?_
      exact leafI X hx hlk hret (hb hby d5_65) (Nat.le_refl _) (Nat.le_refl _) ⟨congrArg (fun z => some (Value.int z)) (hres.trans (by unfold H2; rw [if_neg hc8])).symm, eT, rfl⟩
    refine s_aloadN X hx (hb hby d5_11) rfl rfl (q := 12) rfl ?_
    refine s_iloadN X hx (hb hby d5_12) rfl (q := 13) rfl ?_
    refine s_baload X hx hZ eT A_x0 (by decide) (i := 2) rfl (x := c2) rfl (hb hby d5_13) (q := 14) rfl ?_
    refine s_bipush X hx (z := (10 : Int32)) (hb hby d5_14) rfl (q := 16) rfl ?_
    refine f_icmp_ne X hx (hb hby d5_16) (q1 := 58) (by decide) (by decide) (q := 19) rfl (fun hc16 => ?_) (fun hc16 => ?_)
    · refine s_iinc X hx (w := (3 : Int32)) (hb hby d5_58) rfl rfl (L' := #[.val (.ref x0), .val (.int x1), .val (.int x2), .val (.int (3 : Int32))]) rfl (q := 61) rfl ?_
      refine s_goto X hx (hb hby d5_61) (q1 := 6) (by decide) (by decide) ?_
      exact cutH3 (hres.trans (by unfold H2; rw [if_pos hc8, if_neg hc16]))
    refine s_aloadN X hx (hb hby d5_19) rfl rfl (q := 20) rfl ?_
    refine s_iloadN X hx (hb hby d5_20) rfl (q := 21) rfl ?_
    refine s_iconst X hx (z := (1 : Int32)) (hb hby d5_21) rfl (q := 22) rfl ?_
    refine s_isub X hx (hb hby d5_22) (q := 23) rfl ?_
    show Go p e below _ T m 23 #[.val (.ref x0), .val (.int x1), .val (.int x2), .val (.int (2 : Int32))] [(.int (1 : Int32)), (.ref x0)]
    refine s_baload X hx hZ eT A_x0 (by decide) (i := 1) rfl (x := c1) rfl (hb hby d5_23) (q := 24) rfl ?_
    refine s_bipush X hx (z := (10 : Int32)) (hb hby d5_24) rfl (q := 26) rfl ?_
    refine f_icmp_eq X hx (hb hby d5_26) (q1 := 54) (by decide) (by decide) (q := 29) rfl (fun hc26 => ?_) (fun hc26 => ?_)
    · refine s_iloadN X hx (hb hby d5_54) rfl (q := 55) rfl ?_
      refine s_iconst X hx (z := (1 : Int32)) (hb hby d5_55) rfl (q := 56) rfl ?_
      refine s_iadd X hx (hb hby d5_56) (q := 57) rfl ?_
      show Go p e below _ T m 57 #[.val (.ref x0), .val (.int x1), .val (.int x2), .val (.int (2 : Int32))] [(.int (3 : Int32))]
      exact leafI X hx hlk hret (hb hby d5_57) (Nat.le_refl _) (Nat.le_refl _) ⟨congrArg (fun z => some (Value.int z)) (hres.trans (by unfold H2; rw [if_pos hc8, if_pos hc16, if_pos hc26])).symm, eT, rfl⟩
    refine s_aloadN X hx (hb hby d5_29) rfl rfl (q := 30) rfl ?_
    refine s_iloadN X hx (hb hby d5_30) rfl (q := 31) rfl ?_
    refine s_iconst X hx (z := (1 : Int32)) (hb hby d5_31) rfl (q := 32) rfl ?_
    refine s_isub X hx (hb hby d5_32) (q := 33) rfl ?_
    show Go p e below _ T m 33 #[.val (.ref x0), .val (.int x1), .val (.int x2), .val (.int (2 : Int32))] [(.int (1 : Int32)), (.ref x0)]
    refine s_baload X hx hZ eT A_x0 (by decide) (i := 1) rfl (x := c1) rfl (hb hby d5_33) (q := 34) rfl ?_
    refine s_bipush X hx (z := (13 : Int32)) (hb hby d5_34) rfl (q := 36) rfl ?_
    refine f_icmp_ne X hx (hb hby d5_36) (q1 := 58) (by decide) (by decide) (q := 39) rfl (fun hc36 => ?_) (fun hc36 => ?_)
    · refine s_iinc X hx (w := (3 : Int32)) (hb hby d5_58) rfl rfl (L' := #[.val (.ref x0), .val (.int x1), .val (.int x2), .val (.int (3 : Int32))]) rfl (q := 61) rfl ?_
      refine s_goto X hx (hb hby d5_61) (q1 := 6) (by decide) (by decide) ?_
      exact cutH3 (hres.trans (by unfold H2; rw [if_pos hc8, if_pos hc16, if_neg hc26, if_neg hc36]))
    refine s_iloadN X hx (hb hby d5_39) rfl (q := 40) rfl ?_
    refine s_iconst X hx (z := (2 : Int32)) (hb hby d5_40) rfl (q := 41) rfl ?_
    refine f_icmp_lt X hx (hb hby d5_41) (q1 := 58) (by decide) (by decide) (q := 44) rfl (fun hq => absurd hq (by decide : ¬ (2 : Int32) < (2 : Int32))) (fun _ => ?_)
    refine s_aloadN X hx (hb hby d5_44) rfl rfl (q := 45) rfl ?_
    refine s_iloadN X hx (hb hby d5_45) rfl (q := 46) rfl ?_
    refine s_iconst X hx (z := (2 : Int32)) (hb hby d5_46) rfl (q := 47) rfl ?_
    refine s_isub X hx (hb hby d5_47) (q := 48) rfl ?_
    show Go p e below _ T m 48 #[.val (.ref x0), .val (.int x1), .val (.int x2), .val (.int (2 : Int32))] [(.int (0 : Int32)), (.ref x0)]
    refine s_baload X hx hZ eT A_x0 (by decide) (i := 0) rfl (x := c0) rfl (hb hby d5_48) (q := 49) rfl ?_
    refine s_bipush X hx (z := (10 : Int32)) (hb hby d5_49) rfl (q := 51) rfl ?_
    refine f_icmp_ne X hx (hb hby d5_51) (q1 := 58) (by decide) (by decide) (q := 54) rfl (fun hc51 => ?_) (fun hc51 => ?_)
    · refine s_iinc X hx (w := (3 : Int32)) (hb hby d5_58) rfl rfl (L' := #[.val (.ref x0), .val (.int x1), .val (.int x2), .val (.int (3 : Int32))]) rfl (q := 61) rfl ?_
      refine s_goto X hx (hb hby d5_61) (q1 := 6) (by decide) (by decide) ?_
      exact cutH3 (hres.trans (by unfold H2; rw [if_pos hc8, if_pos hc16, if_neg hc26, if_pos hc36, if_neg hc51]))
    refine s_iloadN X hx (hb hby d5_54) rfl (q := 55) rfl ?_
    refine s_iconst X hx (z := (1 : Int32)) (hb hby d5_55) rfl (q := 56) rfl ?_
    refine s_iadd X hx (hb hby d5_56) (q := 57) rfl ?_
    show Go p e below _ T m 57 #[.val (.ref x0), .val (.int x1), .val (.int x2), .val (.int (2 : Int32))] [(.int (3 : Int32))]
    exact leafI X hx hlk hret (hb hby d5_57) (Nat.le_refl _) (Nat.le_refl _) ⟨congrArg (fun z => some (Value.int z)) (hres.trans (by unfold H2; rw [if_pos hc8, if_pos hc16, if_neg hc26, if_pos hc36, if_pos hc51])).symm, eT, rfl⟩
  have cutH1 : res = H1 x2 c0 c1 c2 c3 c4 c5 → Go p e below (Gl s below (PQ (.int res) h0) 0 0) T m 6 #[.val (.ref x0), .val (.int x1), .val (.int x2), .val (.int (1 : Int32))] [] := by
    intro hres
    refine s_iloadN X hx (hb hby d5_6) rfl (q := 7) rfl ?_
    refine s_iloadN X hx (hb hby d5_7) rfl (q := 8) rfl ?_
    refine f_icmp_ge X hx (hb hby d5_8) (q1 := 64) (by decide) (by decide) (q := 11) rfl (fun hc8 => ?_) (fun hc8 => ?_)
    · refine s_iconst X hx (z := (-1 : Int32)) (hb hby d5_64) rfl (q := 65) rfl ?_
      exact leafI X hx hlk hret (hb hby d5_65) (Nat.le_refl _) (Nat.le_refl _) ⟨congrArg (fun z => some (Value.int z)) (hres.trans (by unfold H1; rw [if_neg hc8])).symm, eT, rfl⟩
    refine s_aloadN X hx (hb hby d5_11) rfl rfl (q := 12) rfl ?_
    refine s_iloadN X hx (hb hby d5_12) rfl (q := 13) rfl ?_
    refine s_baload X hx hZ eT A_x0 (by decide) (i := 1) rfl (x := c1) rfl (hb hby d5_13) (q := 14) rfl ?_
    refine s_bipush X hx (z := (10 : Int32)) (hb hby d5_14) rfl (q := 16) rfl ?_
    refine f_icmp_ne X hx (hb hby d5_16) (q1 := 58) (by decide) (by decide) (q := 19) rfl (fun hc16 => ?_) (fun hc16 => ?_)
    · refine s_iinc X hx (w := (2 : Int32)) (hb hby d5_58) rfl rfl (L' := #[.val (.ref x0), .val (.int x1), .val (.int x2), .val (.int (2 : Int32))]) rfl (q := 61) rfl ?_
      refine s_goto X hx (hb hby d5_61) (q1 := 6) (by decide) (by decide) ?_
      exact cutH2 (hres.trans (by unfold H1; rw [if_pos hc8, if_neg hc16]))
    refine s_aloadN X hx (hb hby d5_19) rfl rfl (q := 20) rfl ?_
    refine s_iloadN X hx (hb hby d5_20) rfl (q := 21) rfl ?_
    refine s_iconst X hx (z := (1 : Int32)) (hb hby d5_21) rfl (q := 22) rfl ?_
    refine s_isub X hx (hb hby d5_22) (q := 23) rfl ?_
    show Go p e below _ T m 23 #[.val (.ref x0), .val (.int x1), .val (.int x2), .val (.int (1 : Int32))] [(.int (0 : Int32)), (.ref x0)]
    refine s_baload X hx hZ eT A_x0 (by decide) (i := 0) rfl (x := c0) rfl (hb hby d5_23) (q := 24) rfl ?_
    refine s_bipush X hx (z := (10 : Int32)) (hb hby d5_24) rfl (q := 26) rfl ?_
    refine f_icmp_eq X hx (hb hby d5_26) (q1 := 54) (by decide) (by decide) (q := 29) rfl (fun hc26 => ?_) (fun hc26 => ?_)
    · refine s_iloadN X hx (hb hby d5_54) rfl (q := 55) rfl ?_
      refine s_iconst X hx (z := (1 : Int32)) (hb hby d5_55) rfl (q := 56) rfl ?_
      refine s_iadd X hx (hb hby d5_56) (q := 57) rfl ?_
      show Go p e below _ T m 57 #[.val (.ref x0), .val (.int x1), .val (.int x2), .val (.int (1 : Int32))] [(.int (2 : Int32))]
      exact leafI X hx hlk hret (hb hby d5_57) (Nat.le_refl _) (Nat.le_refl _) ⟨congrArg (fun z => some (Value.int z)) (hres.trans (by unfold H1; rw [if_pos hc8, if_pos hc16, if_pos hc26])).symm, eT, rfl⟩
    refine s_aloadN X hx (hb hby d5_29) rfl rfl (q := 30) rfl ?_
    refine s_iloadN X hx (hb hby d5_30) rfl (q := 31) rfl ?_
    refine s_iconst X hx (z := (1 : Int32)) (hb hby d5_31) rfl (q := 32) rfl ?_
    refine s_isub X hx (hb hby d5_32) (q := 33) rfl ?_
    show Go p e below _ T m 33 #[.val (.ref x0), .val (.int x1), .val (.int x2), .val (.int (1 : Int32))] [(.int (0 : Int32)), (.ref x0)]
    refine s_baload X hx hZ eT A_x0 (by decide) (i := 0) rfl (x := c0) rfl (hb hby d5_33) (q := 34) rfl ?_
    refine s_bipush X hx (z := (13 : Int32)) (hb hby d5_34) rfl (q := 36) rfl ?_
    refine f_icmp_ne X hx (hb hby d5_36) (q1 := 58) (by decide) (by decide) (q := 39) rfl (fun hc36 => ?_) (fun hc36 => ?_)
    · refine s_iinc X hx (w := (2 : Int32)) (hb hby d5_58) rfl rfl (L' := #[.val (.ref x0), .val (.int x1), .val (.int x2), .val (.int (2 : Int32))]) rfl (q := 61) rfl ?_
      refine s_goto X hx (hb hby d5_61) (q1 := 6) (by decide) (by decide) ?_
      exact cutH2 (hres.trans (by unfold H1; rw [if_pos hc8, if_pos hc16, if_neg hc26, if_neg hc36]))
    refine s_iloadN X hx (hb hby d5_39) rfl (q := 40) rfl ?_
    refine s_iconst X hx (z := (2 : Int32)) (hb hby d5_40) rfl (q := 41) rfl ?_
    refine f_icmp_lt X hx (hb hby d5_41) (q1 := 58) (by decide) (by decide) (q := 44) rfl (fun _ => ?_) (fun hq => absurd (by decide : (1 : Int32) < (2 : Int32)) hq)
    refine s_iinc X hx (w := (2 : Int32)) (hb hby d5_58) rfl rfl (L' := #[.val (.ref x0), .val (.int x1), .val (.int x2), .val (.int (2 : Int32))]) rfl (q := 61) rfl ?_
    refine s_goto X hx (hb hby d5_61) (q1 := 6) (by decide) (by decide) ?_
    exact cutH2 (hres.trans (by unfold H1; rw [if_pos hc8, if_pos hc16, if_neg hc26, if_pos hc36]))
  by_cases hlt : ii < x2
  · rcases own_ii x1 x2 ii hii hlt hx6 with hcase | hcase | hcase | hcase | hcase
    · rw [hcase]; exact cutH1 (hres.trans (by unfold FH; rw [hii, if_pos hlt, hcase]; rfl))
    · rw [hcase]; exact cutH2 (hres.trans (by unfold FH; rw [hii, if_pos hlt, hcase]; rfl))
    · rw [hcase]; exact cutH3 (hres.trans (by unfold FH; rw [hii, if_pos hlt, hcase]; rfl))
    · rw [hcase]; exact cutH4 (hres.trans (by unfold FH; rw [hii, if_pos hlt, hcase]; rfl))
    · rw [hcase]; exact cutH5 (hres.trans (by unfold FH; rw [hii, if_pos hlt, hcase]; rfl))
  · refine s_iloadN X hx (hb hby d5_6) rfl (q := 7) rfl ?_
    refine s_iloadN X hx (hb hby d5_7) rfl (q := 8) rfl ?_
    refine f_icmp_ge X hx (hb hby d5_8) (q1 := 64) (by decide) (by decide) (q := 11) rfl (fun _ => ?_) (fun hq => absurd hq (hlt : ¬ ii < x2))
    refine s_iconst X hx (z := (-1 : Int32)) (hb hby d5_64) rfl (q := 65) rfl ?_
    exact leafI X hx hlk hret (hb hby d5_65) (Nat.le_refl _) (Nat.le_refl _) ⟨congrArg (fun z => some (Value.int z)) (hres.trans (by unfold FH; rw [hii, if_neg hlt])).symm, eT, rfl⟩
theorem own_len (x ln : Int32) (h : (F2 x (6 : Int32)) = ln) : ¬ (6 : Int32) < ln := by
  have e6 : (6 : Int32).toInt = 6 := by decide
  rw [← h]; unfold F2; split
  · rename_i h; rw [Int32.lt_iff_toInt_lt] at h ⊢; omega
  · rename_i h; rw [Int32.lt_iff_toInt_lt] at h ⊢; omega
def HT (ci cj ck : Int32) : Int32 := if ci = 10 then (if cj = 10 then 1 else if cj = 13 then (if ck = 10 then 1 else 0) else 0) else 0
def HT1 (ci cj : Int32) : Int32 := if ci = 10 then (if cj = 10 then 1 else 0) else 0
theorem own_hit1 (a b : Int32) (c0 c1 c2 c3 c4 c5 : Int32) : (F4_1 a b c0 c1 c2 c3 c4 c5) = if a.toInt ≤ 1 ∧ 1 < b.toInt then HT1 c1 c0 else 0 := by
  have e : (1 : Int32).toInt = 1 := by decide
  unfold F4_1 HT1
  simp only [Int32.lt_iff_toInt_lt, e]
  by_cases h1 : a.toInt ≤ 1
  · have h3 : ¬ (1 : Int) < a.toInt := by omega
    by_cases h2 : (1 : Int) < b.toInt
    · simp only [if_pos (show a.toInt ≤ 1 ∧ (1 : Int) < b.toInt from ⟨h1, h2⟩), if_neg h3, if_pos h2]
    · simp only [if_neg (show ¬ (a.toInt ≤ 1 ∧ (1 : Int) < b.toInt) from fun q => h2 q.2), if_neg h3, if_neg h2]
  · simp only [if_neg (show ¬ (a.toInt ≤ 1 ∧ (1 : Int) < b.toInt) from fun q => h1 q.1), if_pos (show (1 : Int) < a.toInt by omega)]
theorem own_H1 (b : Int32) (c0 c1 c2 c3 c4 c5 : Int32) : H1 b c0 c1 c2 c3 c4 c5 = if 1 < b.toInt then (if HT1 c1 c0 = 0 then H2 b c0 c1 c2 c3 c4 c5 else 2) else -1 := by
  have e : (1 : Int32).toInt = 1 := by decide
  unfold H1 HT1
  simp only [Int32.lt_iff_toInt_lt, e]
  by_cases h : 1 < b.toInt
  · simp only [if_pos h]; (repeat' split) <;> simp_all
  · simp only [if_neg h]
theorem own_hit2 (a b : Int32) (c0 c1 c2 c3 c4 c5 : Int32) : (F4_2 a b c0 c1 c2 c3 c4 c5) = if a.toInt ≤ 2 ∧ 2 < b.toInt then HT c2 c1 c0 else 0 := by
  have e : (2 : Int32).toInt = 2 := by decide
  unfold F4_2 HT
  simp only [Int32.lt_iff_toInt_lt, e]
  by_cases h1 : a.toInt ≤ 2
  · have h3 : ¬ (2 : Int) < a.toInt := by omega
    by_cases h2 : (2 : Int) < b.toInt
    · simp only [if_pos (show a.toInt ≤ 2 ∧ (2 : Int) < b.toInt from ⟨h1, h2⟩), if_neg h3, if_pos h2]
    · simp only [if_neg (show ¬ (a.toInt ≤ 2 ∧ (2 : Int) < b.toInt) from fun q => h2 q.2), if_neg h3, if_neg h2]
  · simp only [if_neg (show ¬ (a.toInt ≤ 2 ∧ (2 : Int) < b.toInt) from fun q => h1 q.1), if_pos (show (2 : Int) < a.toInt by omega)]
theorem own_H2 (b : Int32) (c0 c1 c2 c3 c4 c5 : Int32) : H2 b c0 c1 c2 c3 c4 c5 = if 2 < b.toInt then (if HT c2 c1 c0 = 0 then H3 b c0 c1 c2 c3 c4 c5 else 3) else -1 := by
  have e : (2 : Int32).toInt = 2 := by decide
  unfold H2 HT
  simp only [Int32.lt_iff_toInt_lt, e]
  by_cases h : 2 < b.toInt
  · simp only [if_pos h]; (repeat' split) <;> simp_all
  · simp only [if_neg h]
theorem own_hit3 (a b : Int32) (c0 c1 c2 c3 c4 c5 : Int32) : (F4_3 a b c0 c1 c2 c3 c4 c5) = if a.toInt ≤ 3 ∧ 3 < b.toInt then HT c3 c2 c1 else 0 := by
  have e : (3 : Int32).toInt = 3 := by decide
  unfold F4_3 HT
  simp only [Int32.lt_iff_toInt_lt, e]
  by_cases h1 : a.toInt ≤ 3
  · have h3 : ¬ (3 : Int) < a.toInt := by omega
    by_cases h2 : (3 : Int) < b.toInt
    · simp only [if_pos (show a.toInt ≤ 3 ∧ (3 : Int) < b.toInt from ⟨h1, h2⟩), if_neg h3, if_pos h2]
    · simp only [if_neg (show ¬ (a.toInt ≤ 3 ∧ (3 : Int) < b.toInt) from fun q => h2 q.2), if_neg h3, if_neg h2]
  · simp only [if_neg (show ¬ (a.toInt ≤ 3 ∧ (3 : Int) < b.toInt) from fun q => h1 q.1), if_pos (show (3 : Int) < a.toInt by omega)]
theorem own_H3 (b : Int32) (c0 c1 c2 c3 c4 c5 : Int32) : H3 b c0 c1 c2 c3 c4 c5 = if 3 < b.toInt then (if HT c3 c2 c1 = 0 then H4 b c0 c1 c2 c3 c4 c5 else 4) else -1 := by
  have e : (3 : Int32).toInt = 3 := by decide
  unfold H3 HT
  simp only [Int32.lt_iff_toInt_lt, e]
  by_cases h : 3 < b.toInt
  · simp only [if_pos h]; (repeat' split) <;> simp_all
  · simp only [if_neg h]
theorem own_hit4 (a b : Int32) (c0 c1 c2 c3 c4 c5 : Int32) : (F4_4 a b c0 c1 c2 c3 c4 c5) = if a.toInt ≤ 4 ∧ 4 < b.toInt then HT c4 c3 c2 else 0 := by
  have e : (4 : Int32).toInt = 4 := by decide
  unfold F4_4 HT
  simp only [Int32.lt_iff_toInt_lt, e]
  by_cases h1 : a.toInt ≤ 4
  · have h3 : ¬ (4 : Int) < a.toInt := by omega
    by_cases h2 : (4 : Int) < b.toInt
    · simp only [if_pos (show a.toInt ≤ 4 ∧ (4 : Int) < b.toInt from ⟨h1, h2⟩), if_neg h3, if_pos h2]
    · simp only [if_neg (show ¬ (a.toInt ≤ 4 ∧ (4 : Int) < b.toInt) from fun q => h2 q.2), if_neg h3, if_neg h2]
  · simp only [if_neg (show ¬ (a.toInt ≤ 4 ∧ (4 : Int) < b.toInt) from fun q => h1 q.1), if_pos (show (4 : Int) < a.toInt by omega)]
theorem own_H4 (b : Int32) (c0 c1 c2 c3 c4 c5 : Int32) : H4 b c0 c1 c2 c3 c4 c5 = if 4 < b.toInt then (if HT c4 c3 c2 = 0 then H5 b c0 c1 c2 c3 c4 c5 else 5) else -1 := by
  have e : (4 : Int32).toInt = 4 := by decide
  unfold H4 HT
  simp only [Int32.lt_iff_toInt_lt, e]
  by_cases h : 4 < b.toInt
  · simp only [if_pos h]; (repeat' split) <;> simp_all
  · simp only [if_neg h]
theorem own_hit5 (a b : Int32) (c0 c1 c2 c3 c4 c5 : Int32) : (F4_5 a b c0 c1 c2 c3 c4 c5) = if a.toInt ≤ 5 ∧ 5 < b.toInt then HT c5 c4 c3 else 0 := by
  have e : (5 : Int32).toInt = 5 := by decide
  unfold F4_5 HT
  simp only [Int32.lt_iff_toInt_lt, e]
  by_cases h1 : a.toInt ≤ 5
  · have h3 : ¬ (5 : Int) < a.toInt := by omega
    by_cases h2 : (5 : Int) < b.toInt
    · simp only [if_pos (show a.toInt ≤ 5 ∧ (5 : Int) < b.toInt from ⟨h1, h2⟩), if_neg h3, if_pos h2]
    · simp only [if_neg (show ¬ (a.toInt ≤ 5 ∧ (5 : Int) < b.toInt) from fun q => h2 q.2), if_neg h3, if_neg h2]
  · simp only [if_neg (show ¬ (a.toInt ≤ 5 ∧ (5 : Int) < b.toInt) from fun q => h1 q.1), if_pos (show (5 : Int) < a.toInt by omega)]
theorem own_H5 (b : Int32) (c0 c1 c2 c3 c4 c5 : Int32) : H5 b c0 c1 c2 c3 c4 c5 = if 5 < b.toInt then (if HT c5 c4 c3 = 0 then H6 b c0 c1 c2 c3 c4 c5 else 6) else -1 := by
  have e : (5 : Int32).toInt = 5 := by decide
  unfold H5 HT
  simp only [Int32.lt_iff_toInt_lt, e]
  by_cases h : 5 < b.toInt
  · simp only [if_pos h]; (repeat' split) <;> simp_all
  · simp only [if_neg h]
theorem own_main (x1 b s : Int32) (c0 c1 c2 c3 c4 c5 : Int32) (hs : (F3 x1 (1 : Int32)) = s) (hb : ¬ (6 : Int32) < b) : FH x1 b c0 c1 c2 c3 c4 c5 = (if (F4_1 s b c0 c1 c2 c3 c4 c5) = 0 then (if (F4_2 s b c0 c1 c2 c3 c4 c5) = 0 then (if (F4_3 s b c0 c1 c2 c3 c4 c5) = 0 then (if (F4_4 s b c0 c1 c2 c3 c4 c5) = 0 then (if (F4_5 s b c0 c1 c2 c3 c4 c5) = 0 then (-1 : Int32) else (6 : Int32)) else (5 : Int32)) else (4 : Int32)) else (3 : Int32)) else (2 : Int32)) := by
  have h1 := own_max x1 s hs
  unfold FH
  rw [hs]
  by_cases hlt : s < b
  · rw [if_pos hlt]
    rw [own_hit1, own_hit2, own_hit3, own_hit4, own_hit5]
    rcases own_ii x1 b s hs hlt hb with rfl | rfl | rfl | rfl | rfl
    · rw [if_pos (rfl : (1 : Int32) = 1)]
      have es : (1 : Int32).toInt = 1 := by decide
      rw [Int32.lt_iff_toInt_lt, es] at hlt
      rw [es]
      simp only [own_H1, own_H2, own_H3, own_H4, own_H5, H6]
      by_cases q2 : 2 < b.toInt
      case neg => simp only [show (1 : Int) < b.toInt from hlt, show ¬ (2 : Int) < b.toInt from by omega, show ¬ (3 : Int) < b.toInt from by omega, show ¬ (4 : Int) < b.toInt from by omega, show ¬ (5 : Int) < b.toInt from by omega]; simp
      by_cases q3 : 3 < b.toInt
      case neg => simp only [show (1 : Int) < b.toInt from hlt, show (2 : Int) < b.toInt from by omega, show ¬ (3 : Int) < b.toInt from by omega, show ¬ (4 : Int) < b.toInt from by omega, show ¬ (5 : Int) < b.toInt from by omega]; simp
      by_cases q4 : 4 < b.toInt
      case neg => simp only [show (1 : Int) < b.toInt from hlt, show (2 : Int) < b.toInt from by omega, show (3 : Int) < b.toInt from by omega, show ¬ (4 : Int) < b.toInt from by omega, show ¬ (5 : Int) < b.toInt from by omega]; simp
      by_cases q5 : 5 < b.toInt
      case neg => simp only [show (1 : Int) < b.toInt from hlt, show (2 : Int) < b.toInt from by omega, show (3 : Int) < b.toInt from by omega, show (4 : Int) < b.toInt from by omega, show ¬ (5 : Int) < b.toInt from by omega]; simp
      simp only [show (1 : Int) < b.toInt from hlt, show (2 : Int) < b.toInt from q2, show (3 : Int) < b.toInt from q3, show (4 : Int) < b.toInt from q4, show (5 : Int) < b.toInt from q5]; simp
    · rw [if_neg (by decide : ¬ (2 : Int32) = 1), if_pos (rfl : (2 : Int32) = 2)]
      have es : (2 : Int32).toInt = 2 := by decide
      rw [Int32.lt_iff_toInt_lt, es] at hlt
      rw [es]
      simp only [own_H2, own_H3, own_H4, own_H5, H6]
      by_cases q3 : 3 < b.toInt
      case neg => simp only [show (2 : Int) < b.toInt from hlt, show ¬ (3 : Int) < b.toInt from by omega, show ¬ (4 : Int) < b.toInt from by omega, show ¬ (5 : Int) < b.toInt from by omega]; simp
      by_cases q4 : 4 < b.toInt
      case neg => simp only [show (2 : Int) < b.toInt from hlt, show (3 : Int) < b.toInt from by omega, show ¬ (4 : Int) < b.toInt from by omega, show ¬ (5 : Int) < b.toInt from by omega]; simp
      by_cases q5 : 5 < b.toInt
      case neg => simp only [show (2 : Int) < b.toInt from hlt, show (3 : Int) < b.toInt from by omega, show (4 : Int) < b.toInt from by omega, show ¬ (5 : Int) < b.toInt from by omega]; simp
      simp only [show (2 : Int) < b.toInt from hlt, show (3 : Int) < b.toInt from q3, show (4 : Int) < b.toInt from q4, show (5 : Int) < b.toInt from q5]; simp
    · rw [if_neg (by decide : ¬ (3 : Int32) = 1), if_neg (by decide : ¬ (3 : Int32) = 2), if_pos (rfl : (3 : Int32) = 3)]
      have es : (3 : Int32).toInt = 3 := by decide
      rw [Int32.lt_iff_toInt_lt, es] at hlt
      rw [es]
      simp only [own_H3, own_H4, own_H5, H6]
      by_cases q4 : 4 < b.toInt
      case neg => simp only [show (3 : Int) < b.toInt from hlt, show ¬ (4 : Int) < b.toInt from by omega, show ¬ (5 : Int) < b.toInt from by omega]; simp
      by_cases q5 : 5 < b.toInt
      case neg => simp only [show (3 : Int) < b.toInt from hlt, show (4 : Int) < b.toInt from by omega, show ¬ (5 : Int) < b.toInt from by omega]; simp
      simp only [show (3 : Int) < b.toInt from hlt, show (4 : Int) < b.toInt from q4, show (5 : Int) < b.toInt from q5]; simp
    · rw [if_neg (by decide : ¬ (4 : Int32) = 1), if_neg (by decide : ¬ (4 : Int32) = 2), if_neg (by decide : ¬ (4 : Int32) = 3), if_pos (rfl : (4 : Int32) = 4)]
      have es : (4 : Int32).toInt = 4 := by decide
      rw [Int32.lt_iff_toInt_lt, es] at hlt
      rw [es]
      simp only [own_H4, own_H5, H6]
      by_cases q5 : 5 < b.toInt
      case neg => simp only [show (4 : Int) < b.toInt from hlt, show ¬ (5 : Int) < b.toInt from by omega]; simp
      simp only [show (4 : Int) < b.toInt from hlt, show (5 : Int) < b.toInt from q5]; simp
    · rw [if_neg (by decide : ¬ (5 : Int32) = 1), if_neg (by decide : ¬ (5 : Int32) = 2), if_neg (by decide : ¬ (5 : Int32) = 3), if_neg (by decide : ¬ (5 : Int32) = 4)]
      have es : (5 : Int32).toInt = 5 := by decide
      rw [Int32.lt_iff_toInt_lt, es] at hlt
      rw [es]
      simp only [own_H5, H6]
      simp only [show (5 : Int) < b.toInt from hlt, hlt]; simp
  · rw [if_neg hlt, own_hit1, own_hit2, own_hit3, own_hit4, own_hit5]
    rw [Int32.lt_iff_toInt_lt] at hlt
    have z1 : ¬ (s.toInt ≤ 1 ∧ (1 : Int) < b.toInt) := by omega
    have z2 : ¬ (s.toInt ≤ 2 ∧ (2 : Int) < b.toInt) := by omega
    have z3 : ¬ (s.toInt ≤ 3 ∧ (3 : Int) < b.toInt) := by omega
    have z4 : ¬ (s.toInt ≤ 4 ∧ (4 : Int) < b.toInt) := by omega
    have z5 : ¬ (s.toInt ≤ 5 ∧ (5 : Int) < b.toInt) := by omega
    simp only [if_neg z1, if_neg z2, if_neg z3, if_neg z4, if_neg z5]
    rfl
theorem pn_0 : plainFor x = true := plainFor_of_name (by first | (simp [plainName, overriddenIn]; done) | decide +kernel)
theorem ef_0 (m : MethodId) (x0 : Int32) (x1 : Int64) (x2 : Int32) (x3 : Int32) : entryFrame m #[(.int x0), (.long x1), (.int x2), (.int x3)] maxLocals = mkF m 0 #[.val (.int x0), .val (.long x1), .second, .val (.int x2), .val (.int x3), .unset, .unset, .unset, .unset] [] := by first | (simp [entryFrame, mkF, argsToLocals, Value.category, maxLocals]; done) | rfl
theorem pd1 : parseMethodDescriptor "(IJI)B" = some ⟨[.int, .long, .int], some .byte⟩ := by decide +kernel
theorem pd2 : parseMethodDescriptor "([BIII)Z" = some ⟨[(.array .byte), .int, .int, .int], some .boolean⟩ := by decide +kernel
theorem pd3 : parseMethodDescriptor "([BII)I" = some ⟨[(.array .byte), .int, .int], some .int⟩ := by decide +kernel
def Q0 (h0 : Heap) (n0 : Nat) (v : Option Value) (h : Heap) (L : List Loc) : Prop := v = some (.int 1) ∧ Fr n0 L
set_option maxRecDepth 65536 in
set_option maxHeartbeats 40000000 in
theorem rm0 (l : Launch) (Z : State) (a0 : Array Value) (hw : ∀ d ∈ tables_1, d.before a0 Z = true) (ws : List Jvm.Cond) (x0 : Int32) (x1 : Int64) (x2 : Int32) (x3 : Int32) (h0 : Heap) (n0 : Nat) (sz : n0 ≤ h0.size) :
    Ctr l x code maxLocals ret ws room_1 Z #[(.int x0), (.long x1), (.int x2), (.int x3)] h0 (Q0 h0 n0) 16 128 := by
  refine Ctr.mk pn_0 ?_
  intro p e s m below meth c T hx hby hml hown hnm hlk hret hZ X eT
  have N := Fr.nil n0
  refine enter (ef_0 m x0 x1 x2 x3) ?_
  refine s_bipush X hx (z := (6 : Int32)) (hb hby at_0) rfl (q := 2) rfl ?_
  refine s_newB X hx hZ (hw _ (List.mem_of_getElem? (i := 0) rfl)) eT (by decide) (cap := 6) (by decide) (by decide) (by decide) (by decide) (ys := [0, 0, 0, 0, 0, 0]) rfl (hb hby at_2) (q := 4) rfl ?_
  intro T h2 a1 X eT E ea A_a1
  have g_a1 : n0 ≤ a1 := by rw [ea]; exact sz
  have sz : n0 ≤ h2.size := Nat.le_trans sz E.1
  refine s_astore X hx (hb hby at_4) rfl (L' := #[.val (.int x0), .val (.long x1), .second, .val (.int x2), .val (.int x3), .val (.ref a1), .unset, .unset, .unset]) rfl (q := 6) rfl ?_
  refine s_aload X hx (hb hby at_6) rfl rfl (q := 8) rfl ?_
  refine s_iconst X hx (z := (0 : Int32)) (hb hby at_8) rfl (q := 9) rfl ?_
  refine s_iloadN X hx (hb hby at_9) rfl (q := 10) rfl ?_
  refine s_lloadN X hx (hb hby at_10) rfl (q := 11) rfl ?_
  refine s_iconst X hx (z := (0 : Int32)) (hb hby at_11) rfl (q := 12) rfl ?_
  refine callP X hx hZ hown (W := 2) (argsL := [(.int x0), (.long x1), (.int (0 : Int32))]) (rest := [(.int (0 : Int32)), (.ref a1)]) (hw _ (List.mem_of_getElem? (i := 1) rfl)) (hw _ (List.mem_of_getElem? (i := 2) rfl)) (hw _ (List.mem_of_getElem? (i := 3) rfl)) (hw _ (List.mem_of_getElem? (i := 4) rfl)) (by decide) (rm1 l Z a0 hw [] x0 x1 (0 : Int32) h2) rfl rfl eT (by decide) (by decide) (by decide) (by decide) (by rw [hml]; rfl) pd1 rfl rfl (Nat.le_of_ble_eq_true rfl) (hb hby at_12) (q := 15) rfl ?_
  intro T X eT
  generalize hb0 : (F1 x0 x1 (0 : Int32)) = b0
  refine s_bastore X hx hZ eT A_a1 N g_a1 (by decide) (i := 0) rfl (Nat.le_of_ble_eq_true rfl) (ys := [(nar .byte b0), 0, 0, 0, 0, 0]) rfl (hb hby at_15) (q := 16) rfl ?_
  intro T h3 _ X N eT W A_a1'
  have sz : n0 ≤ h3.size := by rw [W.size]; exact sz
  have A_a1 := A_a1'
  refine s_aload X hx (hb hby at_16) rfl rfl (q := 18) rfl ?_
  refine s_iconst X hx (z := (1 : Int32)) (hb hby at_18) rfl (q := 19) rfl ?_
  refine s_iloadN X hx (hb hby at_19) rfl (q := 20) rfl ?_
  refine s_lloadN X hx (hb hby at_20) rfl (q := 21) rfl ?_
  refine s_iconst X hx (z := (1 : Int32)) (hb hby at_21) rfl (q := 22) rfl ?_
  refine callP X hx hZ hown (W := 2) (argsL := [(.int x0), (.long x1), (.int (1 : Int32))]) (rest := [(.int (1 : Int32)), (.ref a1)]) (hw _ (List.mem_of_getElem? (i := 1) rfl)) (hw _ (List.mem_of_getElem? (i := 2) rfl)) (hw _ (List.mem_of_getElem? (i := 3) rfl)) (hw _ (List.mem_of_getElem? (i := 4) rfl)) (by decide) (rm1 l Z a0 hw [] x0 x1 (1 : Int32) h3) rfl rfl eT (by decide) (by decide) (by decide) (by decide) (by rw [hml]; rfl) pd1 rfl rfl (Nat.le_of_ble_eq_true rfl) (hb hby at_22) (q := 25) rfl ?_
  intro T X eT
  generalize hb1 : (F1 x0 x1 (1 : Int32)) = b1
  refine s_bastore X hx hZ eT A_a1 N g_a1 (by decide) (i := 1) rfl (Nat.le_of_ble_eq_true rfl) (ys := [(nar .byte b0), (nar .byte b1), 0, 0, 0, 0]) rfl (hb hby at_25) (q := 26) rfl ?_
  intro T h4 _ X N eT W A_a1'
  have sz : n0 ≤ h4.size := by rw [W.size]; exact sz
  have A_a1 := A_a1'
  refine s_aload X hx (hb hby at_26) rfl rfl (q := 28) rfl ?_
  refine s_iconst X hx (z := (2 : Int32)) (hb hby at_28) rfl (q := 29) rfl ?_
  refine s_iloadN X hx (hb hby at_29) rfl (q := 30) rfl ?_
  refine s_lloadN X hx (hb hby at_30) rfl (q := 31) rfl ?_
  refine s_iconst X hx (z := (2 : Int32)) (hb hby at_31) rfl (q := 32) rfl ?_
  refine callP X hx hZ hown (W := 2) (argsL := [(.int x0), (.long x1), (.int (2 : Int32))]) (rest := [(.int (2 : Int32)), (.ref a1)]) (hw _ (List.mem_of_getElem? (i := 1) rfl)) (hw _ (List.mem_of_getElem? (i := 2) rfl)) (hw _ (List.mem_of_getElem? (i := 3) rfl)) (hw _ (List.mem_of_getElem? (i := 4) rfl)) (by decide) (rm1 l Z a0 hw [] x0 x1 (2 : Int32) h4) rfl rfl eT (by decide) (by decide) (by decide) (by decide) (by rw [hml]; rfl) pd1 rfl rfl (Nat.le_of_ble_eq_true rfl) (hb hby at_32) (q := 35) rfl ?_
  intro T X eT
  generalize hb2 : (F1 x0 x1 (2 : Int32)) = b2
  refine s_bastore X hx hZ eT A_a1 N g_a1 (by decide) (i := 2) rfl (Nat.le_of_ble_eq_true rfl) (ys := [(nar .byte b0), (nar .byte b1), (nar .byte b2), 0, 0, 0]) rfl (hb hby at_35) (q := 36) rfl ?_
  intro T h5 _ X N eT W A_a1'
  have sz : n0 ≤ h5.size := by rw [W.size]; exact sz
  have A_a1 := A_a1'
  refine s_aload X hx (hb hby at_36) rfl rfl (q := 38) rfl ?_
  refine s_iconst X hx (z := (3 : Int32)) (hb hby at_38) rfl (q := 39) rfl ?_
  refine s_iloadN X hx (hb hby at_39) rfl (q := 40) rfl ?_
  refine s_lloadN X hx (hb hby at_40) rfl (q := 41) rfl ?_
  refine s_iconst X hx (z := (3 : Int32)) (hb hby at_41) rfl (q := 42) rfl ?_
  refine callP X hx hZ hown (W := 2) (argsL := [(.int x0), (.long x1), (.int (3 : Int32))]) (rest := [(.int (3 : Int32)), (.ref a1)]) (hw _ (List.mem_of_getElem? (i := 1) rfl)) (hw _ (List.mem_of_getElem? (i := 2) rfl)) (hw _ (List.mem_of_getElem? (i := 3) rfl)) (hw _ (List.mem_of_getElem? (i := 4) rfl)) (by decide) (rm1 l Z a0 hw [] x0 x1 (3 : Int32) h5) rfl rfl eT (by decide) (by decide) (by decide) (by decide) (by rw [hml]; rfl) pd1 rfl rfl (Nat.le_of_ble_eq_true rfl) (hb hby at_42) (q := 45) rfl ?_
  intro T X eT
  generalize hb3 : (F1 x0 x1 (3 : Int32)) = b3
  refine s_bastore X hx hZ eT A_a1 N g_a1 (by decide) (i := 3) rfl (Nat.le_of_ble_eq_true rfl) (ys := [(nar .byte b0), (nar .byte b1), (nar .byte b2), (nar .byte b3), 0, 0]) rfl (hb hby at_45) (q := 46) rfl ?_
  intro T h6 _ X N eT W A_a1'
  have sz : n0 ≤ h6.size := by rw [W.size]; exact sz
  have A_a1 := A_a1'
  refine s_aload X hx (hb hby at_46) rfl rfl (q := 48) rfl ?_
  refine s_iconst X hx (z := (4 : Int32)) (hb hby at_48) rfl (q := 49) rfl ?_
  refine s_iloadN X hx (hb hby at_49) rfl (q := 50) rfl ?_
  refine s_lloadN X hx (hb hby at_50) rfl (q := 51) rfl ?_
  refine s_iconst X hx (z := (4 : Int32)) (hb hby at_51) rfl (q := 52) rfl ?_
  refine callP X hx hZ hown (W := 2) (argsL := [(.int x0), (.long x1), (.int (4 : Int32))]) (rest := [(.int (4 : Int32)), (.ref a1)]) (hw _ (List.mem_of_getElem? (i := 1) rfl)) (hw _ (List.mem_of_getElem? (i := 2) rfl)) (hw _ (List.mem_of_getElem? (i := 3) rfl)) (hw _ (List.mem_of_getElem? (i := 4) rfl)) (by decide) (rm1 l Z a0 hw [] x0 x1 (4 : Int32) h6) rfl rfl eT (by decide) (by decide) (by decide) (by decide) (by rw [hml]; rfl) pd1 rfl rfl (Nat.le_of_ble_eq_true rfl) (hb hby at_52) (q := 55) rfl ?_
  intro T X eT
  generalize hb4 : (F1 x0 x1 (4 : Int32)) = b4
  refine s_bastore X hx hZ eT A_a1 N g_a1 (by decide) (i := 4) rfl (Nat.le_of_ble_eq_true rfl) (ys := [(nar .byte b0), (nar .byte b1), (nar .byte b2), (nar .byte b3), (nar .byte b4), 0]) rfl (hb hby at_55) (q := 56) rfl ?_
  intro T h7 _ X N eT W A_a1'
  have sz : n0 ≤ h7.size := by rw [W.size]; exact sz
  have A_a1 := A_a1'
  refine s_aload X hx (hb hby at_56) rfl rfl (q := 58) rfl ?_
  refine s_iconst X hx (z := (5 : Int32)) (hb hby at_58) rfl (q := 59) rfl ?_
  refine s_iloadN X hx (hb hby at_59) rfl (q := 60) rfl ?_
  refine s_lloadN X hx (hb hby at_60) rfl (q := 61) rfl ?_
  refine s_iconst X hx (z := (5 : Int32)) (hb hby at_61) rfl (q := 62) rfl ?_
  refine callP X hx hZ hown (W := 2) (argsL := [(.int x0), (.long x1), (.int (5 : Int32))]) (rest := [(.int (5 : Int32)), (.ref a1)]) (hw _ (List.mem_of_getElem? (i := 1) rfl)) (hw _ (List.mem_of_getElem? (i := 2) rfl)) (hw _ (List.mem_of_getElem? (i := 3) rfl)) (hw _ (List.mem_of_getElem? (i := 4) rfl)) (by decide) (rm1 l Z a0 hw [] x0 x1 (5 : Int32) h7) rfl rfl eT (by decide) (by decide) (by decide) (by decide) (by rw [hml]; rfl) pd1 rfl rfl (Nat.le_of_ble_eq_true rfl) (hb hby at_62) (q := 65) rfl ?_
  intro T X eT
  generalize hb5 : (F1 x0 x1 (5 : Int32)) = b5
  refine s_bastore X hx hZ eT A_a1 N g_a1 (by decide) (i := 5) rfl (Nat.le_of_ble_eq_true rfl) (ys := [(nar .byte b0), (nar .byte b1), (nar .byte b2), (nar .byte b3), (nar .byte b4), (nar .byte b5)]) rfl (hb hby at_65) (q := 66) rfl ?_
  intro T h8 _ X N eT W A_a1'
  have sz : n0 ≤ h8.size := by rw [W.size]; exact sz
  have A_a1 := A_a1'
  generalize (nar .byte b0) = d0 at A_a1
  generalize (nar .byte b1) = d1 at A_a1
  generalize (nar .byte b2) = d2 at A_a1
  generalize (nar .byte b3) = d3 at A_a1
  generalize (nar .byte b4) = d4 at A_a1
  generalize (nar .byte b5) = d5 at A_a1
  -- the six bytes are any
  refine s_iload X hx (hb hby at_66) rfl (q := 68) rfl ?_
  refine s_bipush X hx (z := (6 : Int32)) (hb hby at_68) rfl (q := 70) rfl ?_
  refine callP X hx hZ hown (W := 0) (argsL := [(.int x3), (.int (6 : Int32))]) (rest := []) (hw _ (List.mem_of_getElem? (i := 5) rfl)) (hw _ (List.mem_of_getElem? (i := 6) rfl)) (hw _ (List.mem_of_getElem? (i := 7) rfl)) (hw _ (List.mem_of_getElem? (i := 8) rfl)) (by decide) (rm2 l Z a0 hw [] x3 (6 : Int32) h8) rfl rfl eT (by decide) (by decide) (by decide) (by decide) (by rw [hml]; rfl) pd0 rfl rfl (Nat.le_of_ble_eq_true rfl) (hb hby at_70) (q := 73) rfl ?_
  intro T X eT
  generalize hln : (F2 x3 (6 : Int32)) = ln
  refine s_istore X hx (hb hby at_73) (L' := #[.val (.int x0), .val (.long x1), .second, .val (.int x2), .val (.int x3), .val (.ref a1), .val (.int ln), .unset, .unset]) rfl (q := 75) rfl ?_
  have hl6 := own_len x3 ln hln
  refine s_iloadN X hx (hb hby at_75) rfl (q := 76) rfl ?_
  refine s_iconst X hx (z := (1 : Int32)) (hb hby at_76) rfl (q := 77) rfl ?_
  refine callP X hx hZ hown (W := 0) (argsL := [(.int x2), (.int (1 : Int32))]) (rest := []) (hw _ (List.mem_of_getElem? (i := 9) rfl)) (hw _ (List.mem_of_getElem? (i := 10) rfl)) (hw _ (List.mem_of_getElem? (i := 7) rfl)) (hw _ (List.mem_of_getElem? (i := 11) rfl)) (by decide) (rm3 l Z a0 hw [] x2 (1 : Int32) h8) rfl rfl eT (by decide) (by decide) (by decide) (by decide) (by rw [hml]; rfl) pd0 rfl rfl (Nat.le_of_ble_eq_true rfl) (hb hby at_77) (q := 80) rfl ?_
  intro T X eT
  generalize hsr : (F3 x2 (1 : Int32)) = sr
  refine s_istore X hx (hb hby at_80) (L' := #[.val (.int x0), .val (.long x1), .second, .val (.int x2), .val (.int x3), .val (.ref a1), .val (.int ln), .val (.int sr), .unset]) rfl (q := 82) rfl ?_
  refine s_aload X hx (hb hby at_82) rfl rfl (q := 84) rfl ?_
  refine s_iload X hx (hb hby at_84) rfl (q := 86) rfl ?_
  refine s_iload X hx (hb hby at_86) rfl (q := 88) rfl ?_
  refine s_iconst X hx (z := (1 : Int32)) (hb hby at_88) rfl (q := 89) rfl ?_
  refine callP X hx hZ hown (W := 0) (argsL := [(.ref a1), (.int sr), (.int ln), (.int (1 : Int32))]) (rest := []) (hw _ (List.mem_of_getElem? (i := 12) rfl)) (hw _ (List.mem_of_getElem? (i := 13) rfl)) (hw _ (List.mem_of_getElem? (i := 3) rfl)) (hw _ (List.mem_of_getElem? (i := 14) rfl)) (by decide) (rm4_1 l Z a0 hw [] a1 sr ln d0 d1 d2 d3 d4 d5 h8 A_a1) rfl rfl eT (by decide) (by decide) (by decide) (by decide) (by rw [hml]; rfl) pd2 rfl rfl (Nat.le_of_ble_eq_true rfl) (hb hby at_89) (q := 92) rfl ?_
  intro T X eT
  refine f_if_eq X hx (hb hby at_92) (q1 := 101) (by decide) (by decide) (q := 95) rfl (fun hc92 => ?_) (fun hc92 => ?_)
  · refine s_aload X hx (hb hby at_101) rfl rfl (q := 103) rfl ?_
    refine s_iload X hx (hb hby at_103) rfl (q := 105) rfl ?_
    refine s_iload X hx (hb hby at_105) rfl (q := 107) rfl ?_
    refine s_iconst X hx (z := (2 : Int32)) (hb hby at_107) rfl (q := 108) rfl ?_
    refine callP X hx hZ hown (W := 0) (argsL := [(.ref a1), (.int sr), (.int ln), (.int (2 : Int32))]) (rest := []) (hw _ (List.mem_of_getElem? (i := 12) rfl)) (hw _ (List.mem_of_getElem? (i := 13) rfl)) (hw _ (List.mem_of_getElem? (i := 3) rfl)) (hw _ (List.mem_of_getElem? (i := 14) rfl)) (by decide) (rm4_2 l Z a0 hw [] a1 sr ln d0 d1 d2 d3 d4 d5 h8 A_a1) rfl rfl eT (by decide) (by decide) (by decide) (by decide) (by rw [hml]; rfl) pd2 rfl rfl (Nat.le_of_ble_eq_true rfl) (hb hby at_108) (q := 111) rfl ?_
    intro T X eT
    refine f_if_eq X hx (hb hby at_111) (q1 := 120) (by decide) (by decide) (q := 114) rfl (fun hc111 => ?_) (fun hc111 => ?_)
    · refine s_aload X hx (hb hby at_120) rfl rfl (q := 122) rfl ?_
      refine s_iload X hx (hb hby at_122) rfl (q := 124) rfl ?_
      refine s_iload X hx (hb hby at_124) rfl (q := 126) rfl ?_
      refine s_iconst X hx (z := (3 : Int32)) (hb hby at_126) rfl (q := 127) rfl ?_
      refine callP X hx hZ hown (W := 0) (argsL := [(.ref a1), (.int sr), (.int ln), (.int (3 : Int32))]) (rest := []) (hw _ (List.mem_of_getElem? (i := 12) rfl)) (hw _ (List.mem_of_getElem? (i := 13) rfl)) (hw _ (List.mem_of_getElem? (i := 3) rfl)) (hw _ (List.mem_of_getElem? (i := 14) rfl)) (by decide) (rm4_3 l Z a0 hw [] a1 sr ln d0 d1 d2 d3 d4 d5 h8 A_a1) rfl rfl eT (by decide) (by decide) (by decide) (by decide) (by rw [hml]; rfl) pd2 rfl rfl (Nat.le_of_ble_eq_true rfl) (hb hby at_127) (q := 130) rfl ?_
      intro T X eT
      refine f_if_eq X hx (hb hby at_130) (q1 := 139) (by decide) (by decide) (q := 133) rfl (fun hc130 => ?_) (fun hc130 => ?_)
      · refine s_aload X hx (hb hby at_139) rfl rfl (q := 141) rfl ?_
        refine s_iload X hx (hb hby at_141) rfl (q := 143) rfl ?_
        refine s_iload X hx (hb hby at_143) rfl (q := 145) rfl ?_
        refine s_iconst X hx (z := (4 : Int32)) (hb hby at_145) rfl (q := 146) rfl ?_
        refine callP X hx hZ hown (W := 0) (argsL := [(.ref a1), (.int sr), (.int ln), (.int (4 : Int32))]) (rest := []) (hw _ (List.mem_of_getElem? (i := 12) rfl)) (hw _ (List.mem_of_getElem? (i := 13) rfl)) (hw _ (List.mem_of_getElem? (i := 3) rfl)) (hw _ (List.mem_of_getElem? (i := 14) rfl)) (by decide) (rm4_4 l Z a0 hw [] a1 sr ln d0 d1 d2 d3 d4 d5 h8 A_a1) rfl rfl eT (by decide) (by decide) (by decide) (by decide) (by rw [hml]; rfl) pd2 rfl rfl (Nat.le_of_ble_eq_true rfl) (hb hby at_146) (q := 149) rfl ?_
        intro T X eT
        refine f_if_eq X hx (hb hby at_149) (q1 := 158) (by decide) (by decide) (q := 152) rfl (fun hc149 => ?_) (fun hc149 => ?_)
        · refine s_aload X hx (hb hby at_158) rfl rfl (q := 160) rfl ?_
          refine s_iload X hx (hb hby at_160) rfl (q := 162) rfl ?_
          refine s_iload X hx (hb hby at_162) rfl (q := 164) rfl ?_
          refine s_iconst X hx (z := (5 : Int32)) (hb hby at_164) rfl (q := 165) rfl ?_
          refine callP X hx hZ hown (W := 0) (argsL := [(.ref a1), (.int sr), (.int ln), (.int (5 : Int32))]) (rest := []) (hw _ (List.mem_of_getElem? (i := 12) rfl)) (hw _ (List.mem_of_getElem? (i := 13) rfl)) (hw _ (List.mem_of_getElem? (i := 3) rfl)) (hw _ (List.mem_of_getElem? (i := 14) rfl)) (by decide) (rm4_5 l Z a0 hw [] a1 sr ln d0 d1 d2 d3 d4 d5 h8 A_a1) rfl rfl eT (by decide) (by decide) (by decide) (by decide) (by rw [hml]; rfl) pd2 rfl rfl (Nat.le_of_ble_eq_true rfl) (hb hby at_165) (q := 168) rfl ?_
          intro T X eT
          refine f_if_eq X hx (hb hby at_168) (q1 := 178) (by decide) (by decide) (q := 171) rfl (fun hc168 => ?_) (fun hc168 => ?_)
          · refine s_iconst X hx (z := (-1 : Int32)) (hb hby at_178) rfl (q := 179) rfl ?_
            refine s_istore X hx (hb hby at_179) (L' := #[.val (.int x0), .val (.long x1), .second, .val (.int x2), .val (.int x3), .val (.ref a1), .val (.int ln), .val (.int sr), .val (.int (-1 : Int32))]) rfl (q := 181) rfl ?_
            refine s_aload X hx (hb hby at_181) rfl rfl (q := 183) rfl ?_
            refine s_iloadN X hx (hb hby at_183) rfl (q := 184) rfl ?_
            refine s_iload X hx (hb hby at_184) rfl (q := 186) rfl ?_
            refine callP X hx hZ hown (W := 0) (argsL := [(.ref a1), (.int x2), (.int ln)]) (rest := []) (hw _ (List.mem_of_getElem? (i := 15) rfl)) (hw _ (List.mem_of_getElem? (i := 16) rfl)) (hw _ (List.mem_of_getElem? (i := 17) rfl)) (hw _ (List.mem_of_getElem? (i := 18) rfl)) (by decide) (rm5 l Z a0 hw [] a1 x2 ln d0 d1 d2 d3 d4 d5 h8 A_a1 hl6) rfl rfl eT (by decide) (by decide) (by decide) (by decide) (by rw [hml]; rfl) pd3 rfl rfl (Nat.le_of_ble_eq_true rfl) (hb hby at_186) (q := 189) rfl ?_
            intro T X eT
            refine s_iload X hx (hb hby at_189) rfl (q := 191) rfl ?_
            refine f_icmp_ne X hx (hb hby at_191) (q1 := 198) (by decide) (by decide) (q := 194) rfl (fun hq => absurd ((own_main x2 ln sr d0 d1 d2 d3 d4 d5 hsr hl6).trans (by rw [if_pos hc92, if_pos hc111, if_pos hc130, if_pos hc149, if_pos hc168]) : (FH x2 ln d0 d1 d2 d3 d4 d5) = (-1 : Int32)) hq) (fun _ => ?_)
            refine s_iconst X hx (z := (1 : Int32)) (hb hby at_194) rfl (q := 195) rfl ?_
            refine s_goto X hx (hb hby at_195) (q1 := 199) (by decide) (by decide) ?_
            exact leafN X hx hlk hret (by simp) (hb hby at_199) (by decide) (by decide) (z' := 1) rfl ⟨rfl, N⟩
          refine s_bipush X hx (z := (6 : Int32)) (hb hby at_171) rfl (q := 173) rfl ?_
          refine s_istore X hx (hb hby at_173) (L' := #[.val (.int x0), .val (.long x1), .second, .val (.int x2), .val (.int x3), .val (.ref a1), .val (.int ln), .val (.int sr), .val (.int (6 : Int32))]) rfl (q := 175) rfl ?_
          refine s_goto X hx (hb hby at_175) (q1 := 181) (by decide) (by decide) ?_
          refine s_aload X hx (hb hby at_181) rfl rfl (q := 183) rfl ?_
          refine s_iloadN X hx (hb hby at_183) rfl (q := 184) rfl ?_
          refine s_iload X hx (hb hby at_184) rfl (q := 186) rfl ?_
          refine callP X hx hZ hown (W := 0) (argsL := [(.ref a1), (.int x2), (.int ln)]) (rest := []) (hw _ (List.mem_of_getElem? (i := 15) rfl)) (hw _ (List.mem_of_getElem? (i := 16) rfl)) (hw _ (List.mem_of_getElem? (i := 17) rfl)) (hw _ (List.mem_of_getElem? (i := 18) rfl)) (by decide) (rm5 l Z a0 hw [] a1 x2 ln d0 d1 d2 d3 d4 d5 h8 A_a1 hl6) rfl rfl eT (by decide) (by decide) (by decide) (by decide) (by rw [hml]; rfl) pd3 rfl rfl (Nat.le_of_ble_eq_true rfl) (hb hby at_186) (q := 189) rfl ?_
          intro T X eT
          refine s_iload X hx (hb hby at_189) rfl (q := 191) rfl ?_
          refine f_icmp_ne X hx (hb hby at_191) (q1 := 198) (by decide) (by decide) (q := 194) rfl (fun hq => absurd ((own_main x2 ln sr d0 d1 d2 d3 d4 d5 hsr hl6).trans (by rw [if_pos hc92, if_pos hc111, if_pos hc130, if_pos hc149, if_neg hc168]) : (FH x2 ln d0 d1 d2 d3 d4 d5) = (6 : Int32)) hq) (fun _ => ?_)
          refine s_iconst X hx (z := (1 : Int32)) (hb hby at_194) rfl (q := 195) rfl ?_
          refine s_goto X hx (hb hby at_195) (q1 := 199) (by decide) (by decide) ?_
          exact leafN X hx hlk hret (by simp) (hb hby at_199) (by decide) (by decide) (z' := 1) rfl ⟨rfl, N⟩
        refine s_iconst X hx (z := (5 : Int32)) (hb hby at_152) rfl (q := 153) rfl ?_
        refine s_istore X hx (hb hby at_153) (L' := #[.val (.int x0), .val (.long x1), .second, .val (.int x2), .val (.int x3), .val (.ref a1), .val (.int ln), .val (.int sr), .val (.int (5 : Int32))]) rfl (q := 155) rfl ?_
        refine s_goto X hx (hb hby at_155) (q1 := 181) (by decide) (by decide) ?_
        refine s_aload X hx (hb hby at_181) rfl rfl (q := 183) rfl ?_
        refine s_iloadN X hx (hb hby at_183) rfl (q := 184) rfl ?_
        refine s_iload X hx (hb hby at_184) rfl (q := 186) rfl ?_
        refine callP X hx hZ hown (W := 0) (argsL := [(.ref a1), (.int x2), (.int ln)]) (rest := []) (hw _ (List.mem_of_getElem? (i := 15) rfl)) (hw _ (List.mem_of_getElem? (i := 16) rfl)) (hw _ (List.mem_of_getElem? (i := 17) rfl)) (hw _ (List.mem_of_getElem? (i := 18) rfl)) (by decide) (rm5 l Z a0 hw [] a1 x2 ln d0 d1 d2 d3 d4 d5 h8 A_a1 hl6) rfl rfl eT (by decide) (by decide) (by decide) (by decide) (by rw [hml]; rfl) pd3 rfl rfl (Nat.le_of_ble_eq_true rfl) (hb hby at_186) (q := 189) rfl ?_
        intro T X eT
        refine s_iload X hx (hb hby at_189) rfl (q := 191) rfl ?_
        refine f_icmp_ne X hx (hb hby at_191) (q1 := 198) (by decide) (by decide) (q := 194) rfl (fun hq => absurd ((own_main x2 ln sr d0 d1 d2 d3 d4 d5 hsr hl6).trans (by rw [if_pos hc92, if_pos hc111, if_pos hc130, if_neg hc149]) : (FH x2 ln d0 d1 d2 d3 d4 d5) = (5 : Int32)) hq) (fun _ => ?_)
        refine s_iconst X hx (z := (1 : Int32)) (hb hby at_194) rfl (q := 195) rfl ?_
        refine s_goto X hx (hb hby at_195) (q1 := 199) (by decide) (by decide) ?_
        exact leafN X hx hlk hret (by simp) (hb hby at_199) (by decide) (by decide) (z' := 1) rfl ⟨rfl, N⟩
      refine s_iconst X hx (z := (4 : Int32)) (hb hby at_133) rfl (q := 134) rfl ?_
      refine s_istore X hx (hb hby at_134) (L' := #[.val (.int x0), .val (.long x1), .second, .val (.int x2), .val (.int x3), .val (.ref a1), .val (.int ln), .val (.int sr), .val (.int (4 : Int32))]) rfl (q := 136) rfl ?_
      refine s_goto X hx (hb hby at_136) (q1 := 181) (by decide) (by decide) ?_
      refine s_aload X hx (hb hby at_181) rfl rfl (q := 183) rfl ?_
      refine s_iloadN X hx (hb hby at_183) rfl (q := 184) rfl ?_
      refine s_iload X hx (hb hby at_184) rfl (q := 186) rfl ?_
      refine callP X hx hZ hown (W := 0) (argsL := [(.ref a1), (.int x2), (.int ln)]) (rest := []) (hw _ (List.mem_of_getElem? (i := 15) rfl)) (hw _ (List.mem_of_getElem? (i := 16) rfl)) (hw _ (List.mem_of_getElem? (i := 17) rfl)) (hw _ (List.mem_of_getElem? (i := 18) rfl)) (by decide) (rm5 l Z a0 hw [] a1 x2 ln d0 d1 d2 d3 d4 d5 h8 A_a1 hl6) rfl rfl eT (by decide) (by decide) (by decide) (by decide) (by rw [hml]; rfl) pd3 rfl rfl (Nat.le_of_ble_eq_true rfl) (hb hby at_186) (q := 189) rfl ?_
      intro T X eT
      refine s_iload X hx (hb hby at_189) rfl (q := 191) rfl ?_
      refine f_icmp_ne X hx (hb hby at_191) (q1 := 198) (by decide) (by decide) (q := 194) rfl (fun hq => absurd ((own_main x2 ln sr d0 d1 d2 d3 d4 d5 hsr hl6).trans (by rw [if_pos hc92, if_pos hc111, if_neg hc130]) : (FH x2 ln d0 d1 d2 d3 d4 d5) = (4 : Int32)) hq) (fun _ => ?_)
      refine s_iconst X hx (z := (1 : Int32)) (hb hby at_194) rfl (q := 195) rfl ?_
      refine s_goto X hx (hb hby at_195) (q1 := 199) (by decide) (by decide) ?_
      exact leafN X hx hlk hret (by simp) (hb hby at_199) (by decide) (by decide) (z' := 1) rfl ⟨rfl, N⟩
    refine s_iconst X hx (z := (3 : Int32)) (hb hby at_114) rfl (q := 115) rfl ?_
    refine s_istore X hx (hb hby at_115) (L' := #[.val (.int x0), .val (.long x1), .second, .val (.int x2), .val (.int x3), .val (.ref a1), .val (.int ln), .val (.int sr), .val (.int (3 : Int32))]) rfl (q := 117) rfl ?_
    refine s_goto X hx (hb hby at_117) (q1 := 181) (by decide) (by decide) ?_
    refine s_aload X hx (hb hby at_181) rfl rfl (q := 183) rfl ?_
    refine s_iloadN X hx (hb hby at_183) rfl (q := 184) rfl ?_
    refine s_iload X hx (hb hby at_184) rfl (q := 186) rfl ?_
    refine callP X hx hZ hown (W := 0) (argsL := [(.ref a1), (.int x2), (.int ln)]) (rest := []) (hw _ (List.mem_of_getElem? (i := 15) rfl)) (hw _ (List.mem_of_getElem? (i := 16) rfl)) (hw _ (List.mem_of_getElem? (i := 17) rfl)) (hw _ (List.mem_of_getElem? (i := 18) rfl)) (by decide) (rm5 l Z a0 hw [] a1 x2 ln d0 d1 d2 d3 d4 d5 h8 A_a1 hl6) rfl rfl eT (by decide) (by decide) (by decide) (by decide) (by rw [hml]; rfl) pd3 rfl rfl (Nat.le_of_ble_eq_true rfl) (hb hby at_186) (q := 189) rfl ?_
    intro T X eT
    refine s_iload X hx (hb hby at_189) rfl (q := 191) rfl ?_
    refine f_icmp_ne X hx (hb hby at_191) (q1 := 198) (by decide) (by decide) (q := 194) rfl (fun hq => absurd ((own_main x2 ln sr d0 d1 d2 d3 d4 d5 hsr hl6).trans (by rw [if_pos hc92, if_neg hc111]) : (FH x2 ln d0 d1 d2 d3 d4 d5) = (3 : Int32)) hq) (fun _ => ?_)
    refine s_iconst X hx (z := (1 : Int32)) (hb hby at_194) rfl (q := 195) rfl ?_
    refine s_goto X hx (hb hby at_195) (q1 := 199) (by decide) (by decide) ?_
    exact leafN X hx hlk hret (by simp) (hb hby at_199) (by decide) (by decide) (z' := 1) rfl ⟨rfl, N⟩
  refine s_iconst X hx (z := (2 : Int32)) (hb hby at_95) rfl (q := 96) rfl ?_
  refine s_istore X hx (hb hby at_96) (L' := #[.val (.int x0), .val (.long x1), .second, .val (.int x2), .val (.int x3), .val (.ref a1), .val (.int ln), .val (.int sr), .val (.int (2 : Int32))]) rfl (q := 98) rfl ?_
  refine s_goto X hx (hb hby at_98) (q1 := 181) (by decide) (by decide) ?_
  refine s_aload X hx (hb hby at_181) rfl rfl (q := 183) rfl ?_
  refine s_iloadN X hx (hb hby at_183) rfl (q := 184) rfl ?_
  refine s_iload X hx (hb hby at_184) rfl (q := 186) rfl ?_
  refine callP X hx hZ hown (W := 0) (argsL := [(.ref a1), (.int x2), (.int ln)]) (rest := []) (hw _ (List.mem_of_getElem? (i := 15) rfl)) (hw _ (List.mem_of_getElem? (i := 16) rfl)) (hw _ (List.mem_of_getElem? (i := 17) rfl)) (hw _ (List.mem_of_getElem? (i := 18) rfl)) (by decide) (rm5 l Z a0 hw [] a1 x2 ln d0 d1 d2 d3 d4 d5 h8 A_a1 hl6) rfl rfl eT (by decide) (by decide) (by decide) (by decide) (by rw [hml]; rfl) pd3 rfl rfl (Nat.le_of_ble_eq_true rfl) (hb hby at_186) (q := 189) rfl ?_
  intro T X eT
  refine s_iload X hx (hb hby at_189) rfl (q := 191) rfl ?_
  refine f_icmp_ne X hx (hb hby at_191) (q1 := 198) (by decide) (by decide) (q := 194) rfl (fun hq => absurd ((own_main x2 ln sr d0 d1 d2 d3 d4 d5 hsr hl6).trans (by rw [if_neg hc92]) : (FH x2 ln d0 d1 d2 d3 d4 d5) = (2 : Int32)) hq) (fun _ => ?_)
  refine s_iconst X hx (z := (1 : Int32)) (hb hby at_194) rfl (q := 195) rfl ?_
  refine s_goto X hx (hb hby at_195) (q1 := 199) (by decide) (by decide) ?_
  exact leafN X hx hlk hret (by simp) (hb hby at_199) (by decide) (by decide) (z' := 1) rfl ⟨rfl, N⟩
set_option maxRecDepth 65536 in
set_option maxHeartbeats 40000000 in
theorem comes_1 {Post : Tables → Env → Array Value → State → Outcome → State → Prop} (hpost : ∀ tb e args s v u, (limb_1_1.after args s (.returned v) u = true ∧ limb_1_2.after args s (.returned v) u = true ∧ True) → FrameEnd s (.returned v) u (Jvm.fieldLocs frame_1_writes args s ++ Jvm.arrayLocs frame_1_arrays args s ++ Jvm.staticLocs frame_1_statics s) 16 128 → Post tb e args s (.returned v) u) :
    ArmFor flags0 classFile x code maxLocals ret World_1 tables_1 room_1 Calls_1 rest_1 Pre_1 Post := by
  intro l hfl _ _ p e ha hc hk s m args below hf hA hF happ hP
  obtain ⟨hcalls, hrest, hpre⟩ := hP
  obtain ⟨-, -, -, hnamed, -, -, -, hat⟩ := (Spec.applies_iff hf).mp happ
  obtain ⟨hg, hn⟩ := and_e (Cond.before_iff.mp (show (Jvm.Cond.and given_1 narrow_1).before args s = true from hpre))
  obtain ⟨g1, g2⟩ := and_e hg
  obtain ⟨g3, g4⟩ := and_e g2
  obtain ⟨g5, g6⟩ := and_e g4
  obtain ⟨g7, g8⟩ := and_e g6
  obtain ⟨w0, w1, w2, w3, rfl⟩ : ∃ w0 w1 w2 w3 : Value, args = #[w0, w1, w2, w3] := by
    have hs : args.size = 4 := by simpa [Cond.value, given_1] using g1
    obtain ⟨L⟩ := args
    match L, hs with
    | [w0, w1, w2, w3], _ => exact ⟨w0, w1, w2, w3, rfl⟩
  have hw := fun d (hd : d ∈ tables_1) => atoms_spec (ws := Jvm.Cond.code x code maxLocals ret :: tables_1) hat d (List.mem_cons_of_mem _ hd)
  obtain ⟨i0, ei0⟩ := is_v g3
  obtain rfl : w0 = (.int i0) := Option.some.inj ei0
  obtain ⟨i1, ei1⟩ := isL_v g5
  obtain rfl : w1 = (.long i1) := Option.some.inj ei1
  obtain ⟨i2, ei2⟩ := is_v g7
  obtain rfl : w2 = (.int i2) := Option.some.inj ei2
  obtain ⟨i3, ei3⟩ := is_v g8
  obtain rfl : w3 = (.int i3) := Option.some.inj ei3
  obtain ⟨n, o, h1, h2, h3, _, L, rfl, ⟨rfl, N⟩, hq⟩ := rm0 l s _ hw tables_1 i0 i1 i2 i3 s.heap s.heap.size (Nat.le_refl _) p e ha hc hk s m _ below hf ((Spec.applies_iff_loose hf).mp happ).1 ⟨rfl, State.Warmed39.refl s, rfl⟩ trivial
  refine ⟨n, _, h1, h2, h3, hpost _ _ _ _ _ _ ⟨Cond.after_iff.mpr rfl, Cond.after_iff.mpr (eq_i res_at (Term.int_eval (1)) rfl), trivial⟩ ⟨hq.1, hq.2.1, (hq.2.2.sift fun y hy => Or.inr (N y hy)).mono (by decide) (by decide)⟩⟩
theorem main_1_1 : Claimed_1_1 := comes_1 fun _ _ _ _ _ _ h hF => ⟨h.1, hF⟩
theorem main_1_2 : Claimed_1_2 := comes_1 fun _ _ _ _ _ _ h hF => ⟨h.2.1, hF⟩
end Jvm.Pilot.@@N@@
namespace Jvm.Pilot.@@N@@
open Jvm Jvm.ClassFile Sem Op Lib Jvm.Free Jvm.Stand Jvm.Pilot.@@N@@.Jvm.D
/-! MADE BY PROGRAM (witnessworld.py) out of the Statement's table words and the real class files: 11 classes; the members and pool entries that the words name. The judged class is class 1, her method 1. -/
namespace start1
open Jvm.ClassFile
def u (s : String) : CpInfo := .utf8 (stringToUtf16 s)
/-- a pool by its gaps: so many unusable entries, then the entry; so many at the end -/
def gap : Nat → List CpInfo → List CpInfo
  | 0, r => r
  | n + 1, r => .unusable :: gap n r
def poolList (es : List (Nat × CpInfo)) (last : Nat) : List CpInfo := es.foldr (fun e r => gap e.1 (e.2 :: r)) (gap last [])
def pool (es : List (Nat × CpInfo)) (last : Nat) : Array CpInfo := ⟨poolList es last⟩
def fileOf (pool : Array CpInfo) (this : Nat) (attrs : Array Attribute := #[]) (ms : Array MethodInfo := #[]) (fl : Nat := 33) (sup : Nat := 0) (ifs : Array Nat := #[]) (fds : Array FieldInfo := #[]) : ClassFile where
  minorVersion := 0
  majorVersion := 65
  constantPool := pool
  accessFlags := fl
  thisClass := this
  superClass := sup
  interfaces := ifs
  fields := fds
  methods := ms
  attributes := attrs
def plain (name : String) (sup : Option ClassId) : Class where
  name := name
  kind := .ordinary
  loader := none
  accessFlags := 33
  super := sup
  interfaces := #[]
  cf := none
  fields := #[]
  methods := #[]
  instanceTypes := #[]
  staticTypes := #[]
  resolved := #[]
  callSites := []
  init := .initialized
  statics := none
  mirror := none

def pool0 : Array CpInfo := pool [(5, u "<init>"), (0, u "()V"), (1, .class_ 10), (1, u "java/lang/Object")] 113

def k0m0 : Method := { name := "<init>", desc := "()V", sig := { parameters := [], returnType := none }, accessFlags := 1, code := none }
/-- java/lang/Object -/
def k0 : Class := { plain "java/lang/Object" none with
  accessFlags := 33
  interfaces := #[]
  cf := some (fileOf pool0 8 #[] #[{ accessFlags := 1, nameIndex := 5, descriptorIndex := 6, attributes := #[] }] 33 0 #[] #[])
  fields := #[]
  methods := #[k0m0]
  instanceTypes := #[]
  staticTypes := #[]
  resolved := Array.replicate 124 none
  statics := none }

def pool1 : Array CpInfo := pool [(2, .class_ 4), (1, u "java/lang/Object"), (0, u "<init>"), (0, u "()V"), (0, .methodref 8 9), (0, .class_ 10), (0, .nameAndType 11 12), (0, u "com/example/corla/corla/serve/RequestHeadLengthPinLaw"), (0, u "pick"), (0, u "(IJI)B"), (0, .methodref 14 15), (0, .class_ 16), (0, .nameAndType 17 18), (0, u "java/lang/Math"), (0, u "min"), (0, u "(II)I"), (0, .methodref 14 20), (0, .nameAndType 21 18), (0, u "max"), (0, .methodref 8 23), (0, .nameAndType 24 25), (0, u "hit"), (0, u "([BIII)Z"), (0, .methodref 27 28), (0, .class_ 29), (0, .nameAndType 30 31), (0, u "com/example/corla/corla/serve/Request"), (0, u "headLength"), (0, u "([BII)I"), (2, u "law"), (0, u "(IJII)Z")] 5

def k1m0 : Method := { name := "<init>", desc := "()V", sig := { parameters := [], returnType := none }, accessFlags := 1, code := none }
def k1c1 : Code := { maxStack := 6, maxLocals := 9, code := code, exceptionTable := #[], attributes := #[] }
def k1m1 : Method := { name := "law", desc := "(IJII)Z", sig := { parameters := [.int, .long, .int, .int], returnType := some .boolean }, accessFlags := 9, code := some k1c1 }
def k1c2 : Code := { maxStack := 4, maxLocals := 5, code := method_3_code, exceptionTable := #[], attributes := #[] }
def k1m2 : Method := { name := "pick", desc := "(IJI)B", sig := { parameters := [.int, .long, .int], returnType := some .byte }, accessFlags := 10, code := some k1c2 }
def k1c3 : Code := { maxStack := 3, maxLocals := 4, code := method_4_code, exceptionTable := #[], attributes := #[] }
def k1m3 : Method := { name := "hit", desc := "([BIII)Z", sig := { parameters := [(.array .byte), .int, .int, .int], returnType := some .boolean }, accessFlags := 10, code := some k1c3 }
/-- com/example/corla/corla/serve/RequestHeadLengthPinLaw -/
def k1 : Class := { plain "com/example/corla/corla/serve/RequestHeadLengthPinLaw" (some 0) with
  accessFlags := 49
  interfaces := #[]
  cf := some (fileOf pool1 8 #[] #[{ accessFlags := 1, nameIndex := 5, descriptorIndex := 6, attributes := #[] }, { accessFlags := 9, nameIndex := 34, descriptorIndex := 35, attributes := #[] }, { accessFlags := 10, nameIndex := 11, descriptorIndex := 12, attributes := #[] }, { accessFlags := 10, nameIndex := 24, descriptorIndex := 25, attributes := #[] }] 49 2 #[] #[])
  fields := #[]
  methods := #[k1m0, k1m1, k1m2, k1m3]
  instanceTypes := #[]
  staticTypes := #[]
  resolved := Array.replicate 41 none
  statics := none }

def pool2 : Array CpInfo := pool [(1, .class_ 2), (0, u "java/lang/Math"), (1, .class_ 6), (1, u "java/lang/Object"), (0, u "<init>"), (0, u "()V"), (89, .class_ 100), (1, u "java/lang/Math$RandomNumberGeneratorHolder"), (71, u "negativeZeroFloatBits"), (0, u "J"), (2, u "negativeZeroDoubleBits"), (21, u "max"), (2, u "min"), (43, u "$assertionsDisabled"), (0, u "Z"), (88, u "(II)I"), (2, u "twoToTheDoubleScaleDown"), (0, u "D"), (4, u "twoToTheDoubleScaleUp"), (9, u "E"), (3, u "PI"), (2, u "TAU"), (2, u "DEGREES_TO_RADIANS"), (0, u "RADIANS_TO_DEGREES")] 94

def k2m0 : Method := { name := "<init>", desc := "()V", sig := { parameters := [], returnType := none }, accessFlags := 2, code := none }
def k2c1 : Code := { maxStack := 2, maxLocals := 2, code := jdk_29_method_65_code, exceptionTable := #[], attributes := #[] }
def k2m1 : Method := { name := "max", desc := "(II)I", sig := { parameters := [.int, .int], returnType := some .int }, accessFlags := 9, code := some k2c1 }
def k2c2 : Code := { maxStack := 2, maxLocals := 2, code := jdk_29_method_69_code, exceptionTable := #[], attributes := #[] }
def k2m2 : Method := { name := "min", desc := "(II)I", sig := { parameters := [.int, .int], returnType := some .int }, accessFlags := 9, code := some k2c2 }
/-- java/lang/Math -/
def k2 : Class := { plain "java/lang/Math" (some 0) with
  accessFlags := 49
  interfaces := #[]
  cf := some (fileOf pool2 1 #[.nestMembers #[98]] #[{ accessFlags := 2, nameIndex := 7, descriptorIndex := 8, attributes := #[] }, { accessFlags := 9, nameIndex := 198, descriptorIndex := 335, attributes := #[] }, { accessFlags := 9, nameIndex := 201, descriptorIndex := 335, attributes := #[] }] 49 4 #[] #[{ accessFlags := 25, nameIndex := 354, descriptorIndex := 339, attributes := #[] }, { accessFlags := 25, nameIndex := 358, descriptorIndex := 339, attributes := #[] }, { accessFlags := 25, nameIndex := 361, descriptorIndex := 339, attributes := #[] }, { accessFlags := 26, nameIndex := 364, descriptorIndex := 339, attributes := #[] }, { accessFlags := 26, nameIndex := 365, descriptorIndex := 339, attributes := #[] }, { accessFlags := 26, nameIndex := 172, descriptorIndex := 173, attributes := #[] }, { accessFlags := 26, nameIndex := 176, descriptorIndex := 173, attributes := #[] }, { accessFlags := 8, nameIndex := 344, descriptorIndex := 339, attributes := #[] }, { accessFlags := 8, nameIndex := 338, descriptorIndex := 339, attributes := #[] }, { accessFlags := 4120, nameIndex := 245, descriptorIndex := 246, attributes := #[] }])
  fields := #[{ name := "E", type := .double, accessFlags := 25, slot := 0, constantValue := 0 }, { name := "PI", type := .double, accessFlags := 25, slot := 1, constantValue := 0 }, { name := "TAU", type := .double, accessFlags := 25, slot := 2, constantValue := 0 }, { name := "DEGREES_TO_RADIANS", type := .double, accessFlags := 26, slot := 3, constantValue := 0 }, { name := "RADIANS_TO_DEGREES", type := .double, accessFlags := 26, slot := 4, constantValue := 0 }, { name := "negativeZeroFloatBits", type := .long, accessFlags := 26, slot := 5, constantValue := 0 }, { name := "negativeZeroDoubleBits", type := .long, accessFlags := 26, slot := 6, constantValue := 0 }, { name := "twoToTheDoubleScaleUp", type := .double, accessFlags := 8, slot := 7, constantValue := 0 }, { name := "twoToTheDoubleScaleDown", type := .double, accessFlags := 8, slot := 8, constantValue := 0 }, { name := "$assertionsDisabled", type := .boolean, accessFlags := 4120, slot := 9, constantValue := 0 }]
  methods := #[k2m0, k2m1, k2m2]
  instanceTypes := #[]
  staticTypes := #[.double, .double, .double, .double, .double, .long, .long, .double, .double, .boolean]
  resolved := Array.replicate 460 none
  statics := none }

def pool3 : Array CpInfo := pool [(2, .class_ 4), (1, u "java/lang/Object"), (0, u "<init>"), (0, u "()V"), (0, .class_ 8), (0, u "java/lang/Record")] 13

def k3m0 : Method := { name := "<init>", desc := "()V", sig := { parameters := [], returnType := none }, accessFlags := 4, code := none }
/-- java/lang/Record -/
def k3 : Class := { plain "java/lang/Record" (some 0) with
  accessFlags := 1057
  interfaces := #[]
  cf := some (fileOf pool3 7 #[] #[{ accessFlags := 4, nameIndex := 5, descriptorIndex := 6, attributes := #[] }] 1057 2 #[] #[])
  fields := #[]
  methods := #[k3m0]
  instanceTypes := #[]
  staticTypes := #[]
  resolved := Array.replicate 22 none
  statics := none }

def pool4 : Array CpInfo := pool [(2, .class_ 4), (1, u "java/lang/Record"), (3, .class_ 10), (1, u "com/example/corla/corla/serve/Request"), (0, u "method"), (0, u "Ljava/lang/String;"), (2, u "target"), (2, u "minorVersion"), (0, u "I"), (2, u "fields"), (0, u "Ljava/util/Map;"), (20, u "TOKEN"), (0, u "Ljava/util/regex/Pattern;"), (12, .class_ 59), (0, u "com/example/corla/corla/serve/Request$MalformedException"), (7, u "VERSION"), (134, .methodref 203 204), (0, .class_ 205), (0, .nameAndType 206 207), (0, u "java/lang/Math"), (0, u "max"), (0, u "(II)I"), (36, u "ZERO"), (31, u "LENGTH"), (35, u "headLength"), (0, u "([BII)I")] 53

def k4c0 : Code := { maxStack := 3, maxLocals := 4, code := prog_28_method_3_code, exceptionTable := #[], attributes := #[] }
def k4m0 : Method := { name := "headLength", desc := "([BII)I", sig := { parameters := [(.array .byte), .int, .int], returnType := some .int }, accessFlags := 8, code := some k4c0 }
/-- com/example/corla/corla/serve/Request -/
def k4 : Class := { plain "com/example/corla/corla/serve/Request" (some 3) with
  accessFlags := 48
  interfaces := #[]
  cf := some (fileOf pool4 8 #[.nestMembers #[58]] #[{ accessFlags := 8, nameIndex := 312, descriptorIndex := 313, attributes := #[] }] 48 2 #[] #[{ accessFlags := 18, nameIndex := 11, descriptorIndex := 12, attributes := #[] }, { accessFlags := 18, nameIndex := 15, descriptorIndex := 12, attributes := #[] }, { accessFlags := 18, nameIndex := 18, descriptorIndex := 19, attributes := #[] }, { accessFlags := 18, nameIndex := 22, descriptorIndex := 23, attributes := #[] }, { accessFlags := 26, nameIndex := 44, descriptorIndex := 45, attributes := #[] }, { accessFlags := 26, nameIndex := 67, descriptorIndex := 45, attributes := #[] }, { accessFlags := 26, nameIndex := 276, descriptorIndex := 45, attributes := #[] }, { accessFlags := 26, nameIndex := 244, descriptorIndex := 45, attributes := #[] }])
  fields := #[{ name := "method", type := (.object "java/lang/String"), accessFlags := 18, slot := 0, constantValue := 0 }, { name := "target", type := (.object "java/lang/String"), accessFlags := 18, slot := 1, constantValue := 0 }, { name := "minorVersion", type := .int, accessFlags := 18, slot := 2, constantValue := 0 }, { name := "fields", type := (.object "java/util/Map"), accessFlags := 18, slot := 3, constantValue := 0 }, { name := "TOKEN", type := (.object "java/util/regex/Pattern"), accessFlags := 26, slot := 0, constantValue := 0 }, { name := "VERSION", type := (.object "java/util/regex/Pattern"), accessFlags := 26, slot := 1, constantValue := 0 }, { name := "LENGTH", type := (.object "java/util/regex/Pattern"), accessFlags := 26, slot := 2, constantValue := 0 }, { name := "ZERO", type := (.object "java/util/regex/Pattern"), accessFlags := 26, slot := 3, constantValue := 0 }]
  methods := #[k4m0]
  instanceTypes := #[(.object "java/lang/String"), (.object "java/lang/String"), .int, (.object "java/util/Map")]
  staticTypes := #[(.object "java/util/regex/Pattern"), (.object "java/util/regex/Pattern"), (.object "java/util/regex/Pattern"), (.object "java/util/regex/Pattern")]
  resolved := Array.replicate 367 none
  statics := none }

def pool5 : Array CpInfo := pool [(1, u "java/lang/Cloneable"), (0, .class_ 1), (0, u "java/lang/Object"), (0, .class_ 3)] 3

/-- java/lang/Cloneable -/
def k5 : Class := { plain "java/lang/Cloneable" (some 0) with
  accessFlags := 1537
  interfaces := #[]
  cf := some (fileOf pool5 2 #[] #[] 1537 4 #[] #[])
  fields := #[]
  methods := #[]
  instanceTypes := #[]
  staticTypes := #[]
  resolved := Array.replicate 8 none
  statics := none }

def pool6 : Array CpInfo := pool [(1, u "java/io/Serializable"), (0, .class_ 1), (0, u "java/lang/Object"), (0, .class_ 3)] 3

/-- java/io/Serializable -/
def k6 : Class := { plain "java/io/Serializable" (some 0) with
  accessFlags := 1537
  interfaces := #[]
  cf := some (fileOf pool6 2 #[] #[] 1537 4 #[] #[])
  fields := #[]
  methods := #[]
  instanceTypes := #[]
  staticTypes := #[]
  resolved := Array.replicate 8 none
  statics := none }

/-- the primitive byte -/
def k7 : Class := { plain "byte" none with kind := .primitive 'B', accessFlags := 0x411 }
/-- [B -/
def k8 : Class := { plain "[B" (some 0) with kind := .array 7 .byte, interfaces := #[5, 6], accessFlags := 1041 }

/-- the primitive int -/
def k9 : Class := { plain "int" none with kind := .primitive 'I', accessFlags := 0x411 }
/-- [I -/
def k10 : Class := { plain "[I" (some 0) with kind := .array 9 .int, interfaces := #[5, 6], accessFlags := 1041 }

def heap : Heap := #[]
def classes : Array Class := #[k0, k1, k2, k3, k4, k5, k6, k7, k8, k9, k10]
def interned : List (Array UInt16 × Addr) := []
def slotsUsed : Nat := 0
def theMethod : MethodId := ⟨1, 1⟩
def args0 : Array Value := #[.int 5, .long 7, .int 1, .int 6]
def aboutOver (below : List Frame) : State where
  vm := { classes := classes, interned := interned.toArray }
  heap := heap
  slotsUsed := slotsUsed
  threads := #[{ frames := .invoking theMethod args0 :: below }]
def below0 : List Frame := [.native { method := ⟨0, 0⟩, args := #[] }]
def about1 : State := aboutOver below0
def p0 : Program := .bare "" "" ""
def e0 : Env := launch0.env 0 0 0
theorem w_frames : about1.frames = Frame.invoking theMethod args0 :: below0 := rfl
set_option maxRecDepth 65536 in
theorem w_args : argsFit about1.vm theMethod args0 = true := by decide +kernel
set_option maxRecDepth 65536 in
theorem w_heap : heapFits about1 = true := by decide +kernel
set_option maxRecDepth 65536 in
theorem w_runnable : about1.curStatus? = some .runnable := by decide +kernel
set_option maxRecDepth 65536 in
theorem w_alone : about1.alone = true := by decide +kernel
set_option maxRecDepth 65536 in
theorem w_named : about1.methodNamed? x = some theMethod := by decide +kernel
set_option maxRecDepth 65536 in
theorem w_hears : about1.hears theMethod below0 = true := by decide +kernel
set_option maxRecDepth 65536 in
theorem w_ripe : about1.ripe theMethod args0 below0 = true := by decide +kernel
theorem w_running : about1.status = .running := rfl
set_option maxRecDepth 65536 in
theorem w_room : about1.hasRoom e0.platform room_1 = true :=
  launch0.hasRoom_least _ room_1 (by decide +kernel) (by decide +kernel) (by decide +kernel) (by decide +kernel) (by decide +kernel) (by decide +kernel)
theorem allAtoms_all (ts : List Jvm.Cond) (a : Array Jvm.Value) (st : Jvm.State) : (allAtoms ts).before a st = ts.all (fun c => c.before a st) := by
  induction ts with
  | nil => rfl
  | cons c t ih =>
    show (Jvm.Cond.and c (allAtoms t)).before a st = _
    rw [Jvm.Cond.before_and, ih, List.all_cons]
def words1 : List Jvm.Cond := Jvm.Cond.code x code maxLocals ret :: tables_1
/-- a 'code' word, met by the world's own term for the bytes: nothing is compared byte by byte -/
theorem code_word {y : MethodName} {bytes : ByteArray} {mx : Nat} {rt : Option FieldType} {a : Array Value} {s : State} {m : MethodId} {meth : Method} {c : Code} (h1 : s.methodNamed? y = some m) (h2 : s.vm.method? m = some meth) (h3 : meth.code = some c) (h4 : c.code = bytes)
    (h5 : (c.maxLocals == mx && c.exceptionTable.isEmpty && decide (c.maxStack ≤ mostOperands) && decide (meth.sig.returnType = rt) && !meth.locks && decide (parseMethodDescriptor y.desc = some meth.sig)) = true) : (Jvm.Cond.code y bytes mx rt).before a s = true := by
  simp only [Bool.and_eq_true, beq_iff_eq, Bool.not_eq_true', decide_eq_true_eq] at h5
  obtain ⟨⟨⟨⟨⟨g1, g2⟩, g3⟩, g4⟩, g5⟩, g6⟩ := h5
  simp [Cond.before, Cond.holds, Cond.value, h1, h2, h3, h4, g1, g2, g3, g4, g5, g6]
def isCode : Jvm.Cond → Bool
  | .code _ _ _ _ => true
  | _ => false
theorem all_split {L : List Jvm.Cond} {P : Jvm.Cond → Bool} (h1 : L.all (fun c => isCode c || P c) = true) (h2 : ∀ c ∈ L.filter isCode, P c = true) : L.all P = true := by
  refine List.all_eq_true.mpr fun c hc => ?_
  have h := List.all_eq_true.mp h1 c hc
  rcases Bool.eq_false_or_eq_true (isCode c) with hi | hi
  · exact h2 c (List.mem_filter.mpr ⟨hc, hi⟩)
  · simpa [hi] using h
set_option maxRecDepth 65536 in
theorem w_c0 : (Jvm.Cond.code x code maxLocals ret).before args0 about1 = true := code_word (m := ⟨1, 1⟩) (meth := k1m1) (c := k1c1) (by decide +kernel) rfl rfl rfl (by decide +kernel)
set_option maxRecDepth 65536 in
theorem w_c1 : (Jvm.Cond.code ({ cls := "com/example/corla/corla/serve/RequestHeadLengthPinLaw", name := "pick", desc := "(IJI)B" } : Jvm.MethodName) method_3_code (5 : Nat) (Option.some Jvm.ClassFile.FieldType.byte)).before args0 about1 = true := code_word (m := ⟨1, 2⟩) (meth := k1m2) (c := k1c2) (by decide +kernel) rfl rfl rfl (by decide +kernel)
set_option maxRecDepth 65536 in
theorem w_c2 : (Jvm.Cond.code ({ cls := "java/lang/Math", name := "min", desc := "(II)I" } : Jvm.MethodName) jdk_29_method_69_code (2 : Nat) (Option.some Jvm.ClassFile.FieldType.int)).before args0 about1 = true := code_word (m := ⟨2, 2⟩) (meth := k2m2) (c := k2c2) (by decide +kernel) rfl rfl rfl (by decide +kernel)
set_option maxRecDepth 65536 in
theorem w_c3 : (Jvm.Cond.code ({ cls := "java/lang/Math", name := "max", desc := "(II)I" } : Jvm.MethodName) jdk_29_method_65_code (2 : Nat) (Option.some Jvm.ClassFile.FieldType.int)).before args0 about1 = true := code_word (m := ⟨2, 1⟩) (meth := k2m1) (c := k2c1) (by decide +kernel) rfl rfl rfl (by decide +kernel)
set_option maxRecDepth 65536 in
theorem w_c4 : (Jvm.Cond.code ({ cls := "com/example/corla/corla/serve/RequestHeadLengthPinLaw", name := "hit", desc := "([BIII)Z" } : Jvm.MethodName) method_4_code (4 : Nat) (Option.some Jvm.ClassFile.FieldType.boolean)).before args0 about1 = true := code_word (m := ⟨1, 3⟩) (meth := k1m3) (c := k1c3) (by decide +kernel) rfl rfl rfl (by decide +kernel)
set_option maxRecDepth 65536 in
theorem w_c5 : (Jvm.Cond.code ({ cls := "com/example/corla/corla/serve/Request", name := "headLength", desc := "([BII)I" } : Jvm.MethodName) prog_28_method_3_code (4 : Nat) (Option.some Jvm.ClassFile.FieldType.int)).before args0 about1 = true := code_word (m := ⟨4, 0⟩) (meth := k4m0) (c := k4c0) (by decide +kernel) rfl rfl rfl (by decide +kernel)
def codes1 : List Jvm.Cond := [Jvm.Cond.code x code maxLocals ret, Jvm.Cond.code ({ cls := "com/example/corla/corla/serve/RequestHeadLengthPinLaw", name := "pick", desc := "(IJI)B" } : Jvm.MethodName) method_3_code (5 : Nat) (Option.some Jvm.ClassFile.FieldType.byte), Jvm.Cond.code ({ cls := "java/lang/Math", name := "min", desc := "(II)I" } : Jvm.MethodName) jdk_29_method_69_code (2 : Nat) (Option.some Jvm.ClassFile.FieldType.int), Jvm.Cond.code ({ cls := "java/lang/Math", name := "max", desc := "(II)I" } : Jvm.MethodName) jdk_29_method_65_code (2 : Nat) (Option.some Jvm.ClassFile.FieldType.int), Jvm.Cond.code ({ cls := "com/example/corla/corla/serve/RequestHeadLengthPinLaw", name := "hit", desc := "([BIII)Z" } : Jvm.MethodName) method_4_code (4 : Nat) (Option.some Jvm.ClassFile.FieldType.boolean), Jvm.Cond.code ({ cls := "com/example/corla/corla/serve/Request", name := "headLength", desc := "([BII)I" } : Jvm.MethodName) prog_28_method_3_code (4 : Nat) (Option.some Jvm.ClassFile.FieldType.int)]
set_option maxRecDepth 65536 in
theorem codes_eq : words1.filter isCode = codes1 := rfl
theorem w_codes : ∀ c ∈ words1.filter isCode, c.before args0 about1 = true := by
  rw [codes_eq]
  intro c hc
  simp only [codes1, List.mem_cons, List.not_mem_nil, or_false] at hc
  rcases hc with rfl | rfl | rfl | rfl | rfl | rfl
  · exact w_c0
  · exact w_c1
  · exact w_c2
  · exact w_c3
  · exact w_c4
  · exact w_c5
set_option maxRecDepth 65536 in
theorem w_t1 : words1.all (fun c => isCode c || c.before args0 about1) = true := by decide +kernel
theorem w_tables : (allAtoms (Jvm.Cond.code x code maxLocals ret :: tables_1)).before args0 about1 = true := by
  rw [allAtoms_all]
  show words1.all (fun c => c.before args0 about1) = true
  refine all_split ?_ w_codes
  rw [w_t1]
set_option maxRecDepth 65536 in
theorem w_case : (Jvm.Cond.and given_1 narrow_1).before args0 about1 = true := by decide +kernel
theorem w_applies : (headSpec (Jvm.Cond.code x code maxLocals ret :: tables_1) room_1).applies x e0.platform about1 = true :=
  (Spec.applies_iff w_frames).mpr ⟨w_running, w_runnable, w_alone, w_named, w_hears, w_ripe, w_room, w_tables⟩
theorem atStart : AtStart classFile x code maxLocals ret World_1 tables_1 room_1 Calls_1 rest_1 Pre_1 launch0 p0 e0 about1 theMethod args0 below0 :=
  ⟨lists_1, trivial, launch0.admits_env _ _ _, launch0.least_env, fairChoices_fair.cas, fairChoices_fair.clock, w_frames, w_args, w_heap, w_applies, trivial, trivial, w_case⟩
end start1
theorem witness_1 : WitnessClaimed_1 := ⟨start1.p0, start1.e0, start1.about1, start1.theMethod, start1.args0, start1.below0, start1.atStart⟩
end Jvm.Pilot.@@N@@
