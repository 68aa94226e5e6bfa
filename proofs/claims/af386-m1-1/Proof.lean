import JvmDerived
import JvmDerived.Pilot.@@N@@Statement
import JvmDerived.Pilot.@@N@@Code
set_option linter.unusedVariables false
set_option linter.unusedSimpArgs false
namespace Jvm.RoadKit
open Sem ClassFile Op Lib Jvm.Stand Jvm.Free Jvm.LawKit
section New
variable {p : Program} {l : Launch} {e : Env} {R : Room} {s : State} {m : MethodId} {args : Array Value} {below : List Frame} {meth : Method} {c : Code} {T : State} {locs : List Loc} {cells slots : Nat}
theorem retI (X : Stand p l e R s m args below meth c T locs cells slots) (hx : p.tables.exec = Jvm.exec) {pc : Nat} {Ls : Array Slot} {z : Int32} {rest : List Value} (hret : meth.sig.returnType = some .int) (hd : decode c.code pc = .ok (.ireturn, 1)) {fs : List Frame}
    (hl : ∀ (f : JFrame) (acts : List Action), f.method = m → f.locked = none → f.entered = [] → (doReturn e (T.setTop f) acts (some (.int z))).1 = T.setFrames fs) : Steps p.tables e below (T.setTop (mkF m pc Ls (.int z :: rest))) (T.setFrames fs) := by
  have hm' : T.vm.method? m = some meth := X.method'
  have hn : narrow .int (.int z) = .int z := rfl
  show Steps p.tables e below (T.setTop { method := m, pc := pc, locals := Ls, stack := _ :: rest, locked := none }) _
  jvm_step X.here [X.here.top, hx, hd, hm', hret, hn]
  first | (intro acts; rw [hl _ acts rfl rfl rfl]) | rw [hl _ _ rfl rfl rfl]
  exact Steps.refl _
end New
end Jvm.RoadKit
namespace Jvm.Pilot.@@N@@
open Jvm Jvm.ClassFile Sem Op Lib Jvm.Free Jvm.Stand Jvm.LawKit Jvm.RoadKit Bundle Jvm.Pilot.@@N@@.Jvm.D
section Kit
variable {p : Program} {l : Launch} {e : Env} {R : Room} {s : State} {m : MethodId} {args : Array Value} {below : List Frame} {meth : Method} {c : Code} {T : State} {locs : List Loc} {cells slots : Nat} {G : State → Prop} {L L' : Array Slot} {S : List Value} {pc q q1 : Nat}
/-- from this frame the run comes to a state of which G holds -/
def Go (p : Program) (e : Env) (below : List Frame) (G : State → Prop) (T : State) (m : MethodId) (pc : Nat) (L : Array Slot) (S : List Value) : Prop := ∃ t, Steps p.tables e below (T.setTop (mkF m pc L S)) t ∧ G t
theorem Go.st {T' : State} {m' : MethodId} {pc' : Nat} {S' : List Value} (h : ∀ t, Steps p.tables e below (T'.setTop (mkF m' pc' L' S')) t → Steps p.tables e below (T.setTop (mkF m pc L S)) t) (k : Go p e below G T' m' pc' L' S') : Go p e below G T m pc L S := by
  obtain ⟨t, h1, h2⟩ := k; exact ⟨t, h t h1, h2⟩
theorem jn {T2 : State} {pc2 : Nat} {L2 : Array Slot} {S2 : List Value} (k : Go p e below G T2 m pc2 L2 S2 → Go p e below G T m pc L S) (K : Go p e below G T2 m pc2 L2 S2) : Go p e below G T m pc L S := k K
/-- what a body that returns leaves -/
def Gl (s : State) (below : List Frame) (Q : Option Value → Heap → List Loc → Prop) (C N : Nat) (t : State) : Prop := ∃ o, t.status = .running ∧ Ended t below o ∧ ∃ v L, o = .returned v ∧ Q v t.heap L ∧ FrameEnd s o t L C N
/-- a contract -/
def Ctr (l : Launch) (y : MethodName) (code : ByteArray) (ml : Nat) (ret : Option FieldType) (ws : List Jvm.Cond) (rm : Room) (Z : State) (as' : Array Value) (h0 : Heap) (Q : Option Value → Heap → List Loc → Prop) (C N : Nat) : Prop :=
  MetFree l y (head1 (Jvm.Cond.code y code ml ret :: ws) rm) (fun a U => a = as' ∧ Z.Warmed39 U.vm ∧ U.heap = h0) (fun _ _ _ _ _ => True) (fun _ U o U' => ∃ v L, o = .returned v ∧ Q v U'.heap L ∧ FrameEnd U o U' L C N)
theorem Ctr.mk {y : MethodName} {code : ByteArray} {ml : Nat} {ret : Option FieldType} {ws : List Jvm.Cond} {rm : Room} {Z : State} {as' : Array Value} {h0 : Heap} {Q : Option Value → Heap → List Loc → Prop} {C N : Nat} (hp : plainFor y = true)
    (body : ∀ (p : Program) (e : Env) (s : State) (m : MethodId) (below : List Frame) (meth : Method) (c : Code) (T : State), p.tables.exec = Jvm.exec → c.code = code → c.maxLocals = ml → s.vm.findClass y.cls = some m.cls → meth.name = y.name → meth.locks = false → meth.sig.returnType = ret → Z.Warmed39 s.vm → Stand p l e rm s m as' below meth c T [] 0 0 → T.heap = h0 → ∃ t, Steps p.tables e below (T.setTop (entryFrame m as' ml)) t ∧ Gl s below Q C N t) : Ctr l y code ml ret ws rm Z as' h0 Q C N := by
  refine MetFree.of_bodySF hp hisR ?_
  intro p e s m args below meth c s₁ Bd hml0 hP hK
  obtain ⟨rfl, hZ, hh⟩ := hP
  obtain ⟨t, h1, o, h2, h3, h4⟩ := body p e s m below meth c s₁ Bd.exec Bd.bytes hml0 (findClass_of_methodNamed Bd.named) (name_of_methodNamed Bd.named Bd.method).1 Bd.notSynchronized Bd.returns hZ (Stand.of_body Bd) (by rw [← hh, Bd.state]; rfl)
  exact ⟨t, o, h1, h2, h3, h4⟩
theorem enter {as' : Array Value} {ml : Nat} (q : entryFrame m as' ml = mkF m 0 L []) (k : Go p e below G T m 0 L []) : ∃ t, Steps p.tables e below (T.setTop (entryFrame m as' ml)) t ∧ G t := by
  rw [q]; exact k
theorem s_iloadN (X : Stand p l e R s m args below meth c T locs cells slots) (hx : p.tables.exec = Jvm.exec) {k : Fin 4} {v : Int32} (hd : decode c.code pc = .ok (.iload_n k, 1)) (hl : L[k.val]? = some (.val (.int v))) (hq : pc + 1 = q) (K : Go p e below G T m q L (.int v :: S)) : Go p e below G T m pc L S := by
  subst hq; exact Go.st (fun t k => XS.iloadN X.here hx rfl hd hl k) K
theorem s_iload (X : Stand p l e R s m args below meth c T locs cells slots) (hx : p.tables.exec = Jvm.exec) {k : Nat} {v : Int32} (hd : decode c.code pc = .ok (.iload k, 2)) (hl : L[k]? = some (.val (.int v))) (hq : pc + 2 = q) (K : Go p e below G T m q L (.int v :: S)) : Go p e below G T m pc L S := by
  subst hq; exact Go.st (fun t k => XS.iload X.here hx rfl hd hl k) K
theorem s_lloadN (X : Stand p l e R s m args below meth c T locs cells slots) (hx : p.tables.exec = Jvm.exec) {k : Fin 4} {v : Int64} (hd : decode c.code pc = .ok (.lload_n k, 1)) (hl : L[k.val]? = some (.val (.long v))) (hq : pc + 1 = q) (K : Go p e below G T m q L (.long v :: S)) : Go p e below G T m pc L S := by
  subst hq; exact Go.st (fun t k => XS.lloadN X.here hx rfl hd hl k) K
theorem s_lload (X : Stand p l e R s m args below meth c T locs cells slots) (hx : p.tables.exec = Jvm.exec) {k : Nat} {v : Int64} (hd : decode c.code pc = .ok (.lload k, 2)) (hl : L[k]? = some (.val (.long v))) (hq : pc + 2 = q) (K : Go p e below G T m q L (.long v :: S)) : Go p e below G T m pc L S := by
  subst hq; exact Go.st (fun t k => XS.lload X.here hx rfl hd hl k) K
theorem s_aloadN (X : Stand p l e R s m args below meth c T locs cells slots) (hx : p.tables.exec = Jvm.exec) {k : Fin 4} {v : Value} (hd : decode c.code pc = .ok (.aload_n k, 1)) (hl : L[k.val]? = some (.val v)) (hv : v.isRef = true) (hq : pc + 1 = q) (K : Go p e below G T m q L (v :: S)) : Go p e below G T m pc L S := by
  subst hq; exact Go.st (fun t k => XS.aloadN X.here hx rfl hd hl hv k) K
theorem s_aload (X : Stand p l e R s m args below meth c T locs cells slots) (hx : p.tables.exec = Jvm.exec) {k : Nat} {v : Value} (hd : decode c.code pc = .ok (.aload k, 2)) (hl : L[k]? = some (.val v)) (hv : v.isRef = true) (hq : pc + 2 = q) (K : Go p e below G T m q L (v :: S)) : Go p e below G T m pc L S := by
  subst hq; exact Go.st (fun t k => XS.aload X.here hx rfl hd hl hv k) K
theorem s_istoreN (X : Stand p l e R s m args below meth c T locs cells slots) (hx : p.tables.exec = Jvm.exec) {k : Fin 4} {x : Int32} (hd : decode c.code pc = .ok (.istore_n k, 1)) (hl : storeLocals L k.val (.int x) = some L') (hq : pc + 1 = q) (K : Go p e below G T m q L' S) : Go p e below G T m pc L (.int x :: S) := by
  subst hq; exact Go.st (fun t k => XS.istoreN X.here hx rfl hd rfl hl k) K
theorem s_istore (X : Stand p l e R s m args below meth c T locs cells slots) (hx : p.tables.exec = Jvm.exec) {k : Nat} {x : Int32} (hd : decode c.code pc = .ok (.istore k, 2)) (hl : storeLocals L k (.int x) = some L') (hq : pc + 2 = q) (K : Go p e below G T m q L' S) : Go p e below G T m pc L (.int x :: S) := by
  subst hq; exact Go.st (fun t k => XS.istore X.here hx rfl hd rfl hl k) K
theorem s_lstoreN (X : Stand p l e R s m args below meth c T locs cells slots) (hx : p.tables.exec = Jvm.exec) {k : Fin 4} {x : Int64} (hd : decode c.code pc = .ok (.lstore_n k, 1)) (hl : storeLocals L k.val (.long x) = some L') (hq : pc + 1 = q) (K : Go p e below G T m q L' S) : Go p e below G T m pc L (.long x :: S) := by
  subst hq; exact Go.st (fun t k => XS.lstoreN X.here hx rfl hd rfl hl k) K
theorem s_lstore (X : Stand p l e R s m args below meth c T locs cells slots) (hx : p.tables.exec = Jvm.exec) {k : Nat} {x : Int64} (hd : decode c.code pc = .ok (.lstore k, 2)) (hl : storeLocals L k (.long x) = some L') (hq : pc + 2 = q) (K : Go p e below G T m q L' S) : Go p e below G T m pc L (.long x :: S) := by
  subst hq; exact Go.st (fun t k => XS.lstore X.here hx rfl hd rfl hl k) K
theorem s_astoreN (X : Stand p l e R s m args below meth c T locs cells slots) (hx : p.tables.exec = Jvm.exec) {k : Fin 4} {x : Value} (hd : decode c.code pc = .ok (.astore_n k, 1)) (hv : x.isRef = true) (hl : storeLocals L k.val x = some L') (hq : pc + 1 = q) (K : Go p e below G T m q L' S) : Go p e below G T m pc L (x :: S) := by
  subst hq; exact Go.st (fun t k => XS.astoreN X.here hx rfl hd rfl hv hl k) K
theorem s_astore (X : Stand p l e R s m args below meth c T locs cells slots) (hx : p.tables.exec = Jvm.exec) {k : Nat} {x : Value} (hd : decode c.code pc = .ok (.astore k, 2)) (hv : x.isRef = true) (hl : storeLocals L k x = some L') (hq : pc + 2 = q) (K : Go p e below G T m q L' S) : Go p e below G T m pc L (x :: S) := by
  subst hq; exact Go.st (fun t k => XS.astore X.here hx rfl hd rfl hv hl k) K
theorem s_iconst (X : Stand p l e R s m args below meth c T locs cells slots) (hx : p.tables.exec = Jvm.exec) {i : Int} {z : Int32} (hd : decode c.code pc = .ok (.iconst i, 1)) (hz : Int32.ofInt i = z) (hq : pc + 1 = q) (K : Go p e below G T m q L (.int z :: S)) : Go p e below G T m pc L S := by
  subst hq hz; exact Go.st (fun t k => XS.iconst X.here hx rfl hd k) K
theorem s_bipush (X : Stand p l e R s m args below meth c T locs cells slots) (hx : p.tables.exec = Jvm.exec) {i : Int} {z : Int32} (hd : decode c.code pc = .ok (.bipush i, 2)) (hz : (Int8.ofInt i).toInt32 = z) (hq : pc + 2 = q) (K : Go p e below G T m q L (.int z :: S)) : Go p e below G T m pc L S := by
  subst hq hz; exact Go.st (fun t k => XS.bipush X.here hx rfl hd k) K
theorem s_sipush (X : Stand p l e R s m args below meth c T locs cells slots) (hx : p.tables.exec = Jvm.exec) {i : Int} {z : Int32} (hd : decode c.code pc = .ok (.sipush i, 3)) (hz : (Int16.ofInt i).toInt32 = z) (hq : pc + 3 = q) (K : Go p e below G T m q L (.int z :: S)) : Go p e below G T m pc L S := by
  subst hq hz; exact Go.st (fun t k => XS.sipush X.here hx rfl hd k) K
theorem s_lconst (X : Stand p l e R s m args below meth c T locs cells slots) (hx : p.tables.exec = Jvm.exec) {i : Fin 2} {z : Int64} (hd : decode c.code pc = .ok (.lconst i, 1)) (hz : Int64.ofNat i.val = z) (hq : pc + 1 = q) (K : Go p e below G T m q L (.long z :: S)) : Go p e below G T m pc L S := by
  subst hq hz; exact Go.st (fun t k => XS.lconst X.here hx rfl hd k) K
theorem s_aconst_null (X : Stand p l e R s m args below meth c T locs cells slots) (hx : p.tables.exec = Jvm.exec)  (hd : decode c.code pc = .ok (.aconst_null, 1))  (hq : pc + 1 = q) (K : Go p e below G T m q L (.null :: S)) : Go p e below G T m pc L S := by
  subst hq; exact Go.st (fun t k => XS.aconstNull X.here hx rfl hd k) K
theorem s_iadd (X : Stand p l e R s m args below meth c T locs cells slots) (hx : p.tables.exec = Jvm.exec) {x y : Int32} (hd : decode c.code pc = .ok (.iadd, 1))  (hq : pc + 1 = q) (K : Go p e below G T m q L (.int (x + y) :: S)) : Go p e below G T m pc L (.int y :: .int x :: S) := by
  subst hq; exact Go.st (fun t k => XS.iadd X.here hx rfl hd rfl k) K
theorem s_isub (X : Stand p l e R s m args below meth c T locs cells slots) (hx : p.tables.exec = Jvm.exec) {x y : Int32} (hd : decode c.code pc = .ok (.isub, 1))  (hq : pc + 1 = q) (K : Go p e below G T m q L (.int (x - y) :: S)) : Go p e below G T m pc L (.int y :: .int x :: S) := by
  subst hq; exact Go.st (fun t k => XS.isub X.here hx rfl hd rfl k) K
theorem s_imul (X : Stand p l e R s m args below meth c T locs cells slots) (hx : p.tables.exec = Jvm.exec) {x y : Int32} (hd : decode c.code pc = .ok (.imul, 1))  (hq : pc + 1 = q) (K : Go p e below G T m q L (.int (x * y) :: S)) : Go p e below G T m pc L (.int y :: .int x :: S) := by
  subst hq; exact Go.st (fun t k => XS.imul X.here hx rfl hd rfl k) K
theorem s_iand (X : Stand p l e R s m args below meth c T locs cells slots) (hx : p.tables.exec = Jvm.exec) {x y : Int32} (hd : decode c.code pc = .ok (.iand, 1))  (hq : pc + 1 = q) (K : Go p e below G T m q L (.int (x &&& y) :: S)) : Go p e below G T m pc L (.int y :: .int x :: S) := by
  subst hq; exact Go.st (fun t k => XS.iand X.here hx rfl hd rfl k) K
theorem s_ior (X : Stand p l e R s m args below meth c T locs cells slots) (hx : p.tables.exec = Jvm.exec) {x y : Int32} (hd : decode c.code pc = .ok (.ior, 1))  (hq : pc + 1 = q) (K : Go p e below G T m q L (.int (x ||| y) :: S)) : Go p e below G T m pc L (.int y :: .int x :: S) := by
  subst hq; exact Go.st (fun t k => XS.ior X.here hx rfl hd rfl k) K
theorem s_ixor (X : Stand p l e R s m args below meth c T locs cells slots) (hx : p.tables.exec = Jvm.exec) {x y : Int32} (hd : decode c.code pc = .ok (.ixor, 1))  (hq : pc + 1 = q) (K : Go p e below G T m q L (.int (x ^^^ y) :: S)) : Go p e below G T m pc L (.int y :: .int x :: S) := by
  subst hq; exact Go.st (fun t k => XS.ixor X.here hx rfl hd rfl k) K
theorem s_ladd (X : Stand p l e R s m args below meth c T locs cells slots) (hx : p.tables.exec = Jvm.exec) {x y : Int64} (hd : decode c.code pc = .ok (.ladd, 1))  (hq : pc + 1 = q) (K : Go p e below G T m q L (.long (x + y) :: S)) : Go p e below G T m pc L (.long y :: .long x :: S) := by
  subst hq; exact Go.st (fun t k => XS.ladd X.here hx rfl hd rfl k) K
theorem s_lsub (X : Stand p l e R s m args below meth c T locs cells slots) (hx : p.tables.exec = Jvm.exec) {x y : Int64} (hd : decode c.code pc = .ok (.lsub, 1))  (hq : pc + 1 = q) (K : Go p e below G T m q L (.long (x - y) :: S)) : Go p e below G T m pc L (.long y :: .long x :: S) := by
  subst hq; exact Go.st (fun t k => XS.lsub X.here hx rfl hd rfl k) K
theorem s_lmul (X : Stand p l e R s m args below meth c T locs cells slots) (hx : p.tables.exec = Jvm.exec) {x y : Int64} (hd : decode c.code pc = .ok (.lmul, 1))  (hq : pc + 1 = q) (K : Go p e below G T m q L (.long (x * y) :: S)) : Go p e below G T m pc L (.long y :: .long x :: S) := by
  subst hq; exact Go.st (fun t k => XS.lmul X.here hx rfl hd rfl k) K
theorem s_land (X : Stand p l e R s m args below meth c T locs cells slots) (hx : p.tables.exec = Jvm.exec) {x y : Int64} (hd : decode c.code pc = .ok (.land, 1))  (hq : pc + 1 = q) (K : Go p e below G T m q L (.long (x &&& y) :: S)) : Go p e below G T m pc L (.long y :: .long x :: S) := by
  subst hq; exact Go.st (fun t k => XS.land X.here hx rfl hd rfl k) K
theorem s_lor (X : Stand p l e R s m args below meth c T locs cells slots) (hx : p.tables.exec = Jvm.exec) {x y : Int64} (hd : decode c.code pc = .ok (.lor, 1))  (hq : pc + 1 = q) (K : Go p e below G T m q L (.long (x ||| y) :: S)) : Go p e below G T m pc L (.long y :: .long x :: S) := by
  subst hq; exact Go.st (fun t k => XS.lor X.here hx rfl hd rfl k) K
theorem s_lxor (X : Stand p l e R s m args below meth c T locs cells slots) (hx : p.tables.exec = Jvm.exec) {x y : Int64} (hd : decode c.code pc = .ok (.lxor, 1))  (hq : pc + 1 = q) (K : Go p e below G T m q L (.long (x ^^^ y) :: S)) : Go p e below G T m pc L (.long y :: .long x :: S) := by
  subst hq; exact Go.st (fun t k => XS.lxor X.here hx rfl hd rfl k) K
theorem s_ishl (X : Stand p l e R s m args below meth c T locs cells slots) (hx : p.tables.exec = Jvm.exec) {x y : Int32} (hd : decode c.code pc = .ok (.ishl, 1))  (hq : pc + 1 = q) (K : Go p e below G T m q L (.int (x <<< (y &&& 31)) :: S)) : Go p e below G T m pc L (.int y :: .int x :: S) := by
  subst hq; exact Go.st (fun t k => XS.ishl X.here hx rfl hd rfl k) K
theorem s_ishr (X : Stand p l e R s m args below meth c T locs cells slots) (hx : p.tables.exec = Jvm.exec) {x y : Int32} (hd : decode c.code pc = .ok (.ishr, 1))  (hq : pc + 1 = q) (K : Go p e below G T m q L (.int (x >>> (y &&& 31)) :: S)) : Go p e below G T m pc L (.int y :: .int x :: S) := by
  subst hq; exact Go.st (fun t k => XS.ishr X.here hx rfl hd rfl k) K
theorem s_iushr (X : Stand p l e R s m args below meth c T locs cells slots) (hx : p.tables.exec = Jvm.exec) {x y : Int32} (hd : decode c.code pc = .ok (.iushr, 1))  (hq : pc + 1 = q) (K : Go p e below G T m q L (.int ((x.toUInt32 >>> (y &&& 31).toUInt32).toInt32) :: S)) : Go p e below G T m pc L (.int y :: .int x :: S) := by
  subst hq; exact Go.st (fun t k => XS.iushr X.here hx rfl hd rfl k) K
theorem s_lshl (X : Stand p l e R s m args below meth c T locs cells slots) (hx : p.tables.exec = Jvm.exec) {x : Int64} {y : Int32} (hd : decode c.code pc = .ok (.lshl, 1))  (hq : pc + 1 = q) (K : Go p e below G T m q L (.long (x <<< (y &&& 0x3f).toInt64) :: S)) : Go p e below G T m pc L (.int y :: .long x :: S) := by
  subst hq; exact Go.st (fun t k => XS.lshl X.here hx rfl hd rfl k) K
theorem s_lshr (X : Stand p l e R s m args below meth c T locs cells slots) (hx : p.tables.exec = Jvm.exec) {x : Int64} {y : Int32} (hd : decode c.code pc = .ok (.lshr, 1))  (hq : pc + 1 = q) (K : Go p e below G T m q L (.long (x >>> (y &&& 0x3f).toInt64) :: S)) : Go p e below G T m pc L (.int y :: .long x :: S) := by
  subst hq; exact Go.st (fun t k => XS.lshr X.here hx rfl hd rfl k) K
theorem s_lushr (X : Stand p l e R s m args below meth c T locs cells slots) (hx : p.tables.exec = Jvm.exec) {x : Int64} {y : Int32} (hd : decode c.code pc = .ok (.lushr, 1))  (hq : pc + 1 = q) (K : Go p e below G T m q L (.long ((x.toUInt64 >>> (y &&& 0x3f).toInt64.toUInt64).toInt64) :: S)) : Go p e below G T m pc L (.int y :: .long x :: S) := by
  subst hq; exact Go.st (fun t k => XS.lushr X.here hx rfl hd rfl k) K
theorem s_idiv (X : Stand p l e R s m args below meth c T locs cells slots) (hx : p.tables.exec = Jvm.exec) {x y : Int32} (hd : decode c.code pc = .ok (.idiv, 1)) (hy : y ≠ 0) (hq : pc + 1 = q) (K : Go p e below G T m q L (.int (x / y) :: S)) : Go p e below G T m pc L (.int y :: .int x :: S) := by
  subst hq; exact Go.st (fun t k => XS.idiv X.here hx rfl hd rfl hy k) K
theorem s_ldiv (X : Stand p l e R s m args below meth c T locs cells slots) (hx : p.tables.exec = Jvm.exec) {x y : Int64} (hd : decode c.code pc = .ok (.ldiv, 1)) (hy : y ≠ 0) (hq : pc + 1 = q) (K : Go p e below G T m q L (.long (x / y) :: S)) : Go p e below G T m pc L (.long y :: .long x :: S) := by
  subst hq; exact Go.st (fun t k => XS.ldiv X.here hx rfl hd rfl hy k) K
theorem s_ineg (X : Stand p l e R s m args below meth c T locs cells slots) (hx : p.tables.exec = Jvm.exec) {x : Int32} (hd : decode c.code pc = .ok (.ineg, 1))  (hq : pc + 1 = q) (K : Go p e below G T m q L (.int (-x) :: S)) : Go p e below G T m pc L (.int x :: S) := by
  subst hq; exact Go.st (fun t k => XS.ineg X.here hx rfl hd rfl k) K
theorem s_lneg (X : Stand p l e R s m args below meth c T locs cells slots) (hx : p.tables.exec = Jvm.exec) {x : Int64} (hd : decode c.code pc = .ok (.lneg, 1))  (hq : pc + 1 = q) (K : Go p e below G T m q L (.long (-x) :: S)) : Go p e below G T m pc L (.long x :: S) := by
  subst hq; exact Go.st (fun t k => XS.lneg X.here hx rfl hd rfl k) K
theorem s_i2l (X : Stand p l e R s m args below meth c T locs cells slots) (hx : p.tables.exec = Jvm.exec) {x : Int32} (hd : decode c.code pc = .ok (.i2l, 1))  (hq : pc + 1 = q) (K : Go p e below G T m q L (.long x.toInt64 :: S)) : Go p e below G T m pc L (.int x :: S) := by
  subst hq; exact Go.st (fun t k => XS.i2l X.here hx rfl hd rfl k) K
theorem s_l2i (X : Stand p l e R s m args below meth c T locs cells slots) (hx : p.tables.exec = Jvm.exec) {x : Int64} (hd : decode c.code pc = .ok (.l2i, 1))  (hq : pc + 1 = q) (K : Go p e below G T m q L (.int x.toInt32 :: S)) : Go p e below G T m pc L (.long x :: S) := by
  subst hq; exact Go.st (fun t k => XS.l2i X.here hx rfl hd rfl k) K
theorem s_i2b (X : Stand p l e R s m args below meth c T locs cells slots) (hx : p.tables.exec = Jvm.exec) {x : Int32} (hd : decode c.code pc = .ok (.i2b, 1))  (hq : pc + 1 = q) (K : Go p e below G T m q L (.int x.toInt8.toInt32 :: S)) : Go p e below G T m pc L (.int x :: S) := by
  subst hq; exact Go.st (fun t k => XS.i2b X.here hx rfl hd rfl k) K
theorem s_i2c (X : Stand p l e R s m args below meth c T locs cells slots) (hx : p.tables.exec = Jvm.exec) {x : Int32} (hd : decode c.code pc = .ok (.i2c, 1))  (hq : pc + 1 = q) (K : Go p e below G T m q L (.int x.toUInt32.toUInt16.toUInt32.toInt32 :: S)) : Go p e below G T m pc L (.int x :: S) := by
  subst hq; exact Go.st (fun t k => XS.i2c X.here hx rfl hd rfl k) K
theorem s_i2s (X : Stand p l e R s m args below meth c T locs cells slots) (hx : p.tables.exec = Jvm.exec) {x : Int32} (hd : decode c.code pc = .ok (.i2s, 1))  (hq : pc + 1 = q) (K : Go p e below G T m q L (.int x.toInt16.toInt32 :: S)) : Go p e below G T m pc L (.int x :: S) := by
  subst hq; exact Go.st (fun t k => XS.i2s X.here hx rfl hd rfl k) K
theorem s_lcmp (X : Stand p l e R s m args below meth c T locs cells slots) (hx : p.tables.exec = Jvm.exec) {x y : Int64} (hd : decode c.code pc = .ok (.lcmp, 1))  (hq : pc + 1 = q) (K : Go p e below G T m q L (.int (lcmpW x y) :: S)) : Go p e below G T m pc L (.long y :: .long x :: S) := by
  subst hq; exact Go.st (fun t k => XS.lcmp X.here hx rfl hd rfl k) K
theorem s_iinc (X : Stand p l e R s m args below meth c T locs cells slots) (hx : p.tables.exec = Jvm.exec) {k : Nat} {cst : Int} {x w : Int32} (hd : decode c.code pc = .ok (.iinc k cst, 3)) (hl : L[k]? = some (.val (.int x))) (hw : x + Int32.ofInt cst = w) (hl' : storeLocals L k (.int w) = some L') (hq : pc + 3 = q) (K : Go p e below G T m q L' S) : Go p e below G T m pc L S := by
  subst hq hw; exact Go.st (fun t k => XS.iinc X.here hx rfl hd hl hl' k) K
theorem s_dup (X : Stand p l e R s m args below meth c T locs cells slots) (hx : p.tables.exec = Jvm.exec) {x : Value} (hd : decode c.code pc = .ok (.dup, 1)) (hc : x.category = 1) (hq : pc + 1 = q) (K : Go p e below G T m q L (x :: x :: S)) : Go p e below G T m pc L (x :: S) := by
  subst hq; exact Go.st (fun t k => XS.dup X.here hx rfl hd rfl hc k) K
theorem s_dup_x1 (X : Stand p l e R s m args below meth c T locs cells slots) (hx : p.tables.exec = Jvm.exec) {x y : Value} (hd : decode c.code pc = .ok (.dup_x1, 1)) (hc : x.category = 1) (hc' : y.category = 1) (hq : pc + 1 = q) (K : Go p e below G T m q L (x :: y :: x :: S)) : Go p e below G T m pc L (x :: y :: S) := by
  subst hq; exact Go.st (fun t k => XS.dupX1 X.here hx rfl hd rfl hc hc' k) K
theorem s_dup2 (X : Stand p l e R s m args below meth c T locs cells slots) (hx : p.tables.exec = Jvm.exec) {x y : Value} (hd : decode c.code pc = .ok (.dup2, 1)) (hc : x.category = 1) (hc' : y.category = 1) (hq : pc + 1 = q) (K : Go p e below G T m q L (x :: y :: x :: y :: S)) : Go p e below G T m pc L (x :: y :: S) := by
  subst hq; exact Go.st (fun t k => Jvm.Free.XT.dup2 X.here hx rfl hd rfl hc hc' k) K
theorem s_dup2L (X : Stand p l e R s m args below meth c T locs cells slots) (hx : p.tables.exec = Jvm.exec) {x : Int64} (hd : decode c.code pc = .ok (.dup2, 1))  (hq : pc + 1 = q) (K : Go p e below G T m q L (.long x :: .long x :: S)) : Go p e below G T m pc L (.long x :: S) := by
  subst hq; exact Go.st (fun t k => Jvm.Free.XT.dup2L X.here hx rfl hd rfl k) K
theorem s_pop (X : Stand p l e R s m args below meth c T locs cells slots) (hx : p.tables.exec = Jvm.exec) {x : Value} (hd : decode c.code pc = .ok (.pop, 1)) (hc : x.category = 1) (hq : pc + 1 = q) (K : Go p e below G T m q L S) : Go p e below G T m pc L (x :: S) := by
  subst hq; exact Go.st (fun t k => XS.pop X.here hx rfl hd rfl hc k) K
theorem s_goto (X : Stand p l e R s m args below meth c T locs cells slots) (hx : p.tables.exec = Jvm.exec) {o : Int} (hd : decode c.code pc = .ok (.goto o, 3)) (ho : 0 ≤ (pc : Int) + o) (hp : ((pc : Int) + o).toNat = q1) (K : Go p e below G T m q1 L S) : Go p e below G T m pc L S := Go.st (fun t k => XS.goto X.here hx rfl rfl hd ho hp k) K
theorem f_icmp_lt (X : Stand p l e R s m args below meth c T locs cells slots) (hx : p.tables.exec = Jvm.exec) {x y : Int32} {o : Int} (hd : decode c.code pc = .ok (.if_icmp .lt o, 3)) (ho : 0 ≤ (pc : Int) + o) (hp : ((pc : Int) + o).toNat = q1) (hq : pc + 3 = q) (ky : x < y → Go p e below G T m q1 L S) (kn : ¬ x < y → Go p e below G T m q L S) : Go p e below G T m pc L (.int y :: .int x :: S) := by
  subst hq
  by_cases h : x < y
  · exact Go.st (fun t k => XS.icmpYes X.here hx rfl rfl hd rfl (tlt h).1 ho hp k) (ky h)
  · exact Go.st (fun t k => XS.icmpNo X.here hx rfl hd rfl (flt h).1 k) (kn h)
theorem f_if_lt (X : Stand p l e R s m args below meth c T locs cells slots) (hx : p.tables.exec = Jvm.exec) {x : Int32} {o : Int} (hd : decode c.code pc = .ok (.ifCond .lt o, 3)) (ho : 0 ≤ (pc : Int) + o) (hp : ((pc : Int) + o).toNat = q1) (hq : pc + 3 = q) (ky : x < 0 → Go p e below G T m q1 L S) (kn : ¬ x < 0 → Go p e below G T m q L S) : Go p e below G T m pc L (.int x :: S) := by
  subst hq
  by_cases h : x < 0
  · exact Go.st (fun t k => XS.ifYes X.here hx rfl rfl hd rfl ((if0 _ _).trans (tlt h).1) ho hp k) (ky h)
  · exact Go.st (fun t k => XS.ifNo X.here hx rfl hd rfl ((if0 _ _).trans (flt h).1) k) (kn h)
theorem f_lcmp_lt (X : Stand p l e R s m args below meth c T locs cells slots) (hx : p.tables.exec = Jvm.exec) {x y : Int64} {o : Int} (hd : decode c.code pc = .ok (.ifCond .lt o, 3)) (ho : 0 ≤ (pc : Int) + o) (hp : ((pc : Int) + o).toNat = q1) (hq : pc + 3 = q) (ky : x < y → Go p e below G T m q1 L S) (kn : ¬ x < y → Go p e below G T m q L S) : Go p e below G T m pc L (.int (lcmpW x y) :: S) :=
  f_if_lt X hx hd ho hp hq (fun h => ky ((lw_lt x y).mp h)) (fun h => kn (fun g => h ((lw_lt x y).mpr g)))
theorem f_icmp_ge (X : Stand p l e R s m args below meth c T locs cells slots) (hx : p.tables.exec = Jvm.exec) {x y : Int32} {o : Int} (hd : decode c.code pc = .ok (.if_icmp .ge o, 3)) (ho : 0 ≤ (pc : Int) + o) (hp : ((pc : Int) + o).toNat = q1) (hq : pc + 3 = q) (ky : ¬ x < y → Go p e below G T m q1 L S) (kn : x < y → Go p e below G T m q L S) : Go p e below G T m pc L (.int y :: .int x :: S) := by
  subst hq
  by_cases h : x < y
  · exact Go.st (fun t k => XS.icmpNo X.here hx rfl hd rfl (tlt h).2.1 k) (kn h)
  · exact Go.st (fun t k => XS.icmpYes X.here hx rfl rfl hd rfl (flt h).2.1 ho hp k) (ky h)
theorem f_if_ge (X : Stand p l e R s m args below meth c T locs cells slots) (hx : p.tables.exec = Jvm.exec) {x : Int32} {o : Int} (hd : decode c.code pc = .ok (.ifCond .ge o, 3)) (ho : 0 ≤ (pc : Int) + o) (hp : ((pc : Int) + o).toNat = q1) (hq : pc + 3 = q) (ky : ¬ x < 0 → Go p e below G T m q1 L S) (kn : x < 0 → Go p e below G T m q L S) : Go p e below G T m pc L (.int x :: S) := by
  subst hq
  by_cases h : x < 0
  · exact Go.st (fun t k => XS.ifNo X.here hx rfl hd rfl ((if0 _ _).trans (tlt h).2.1) k) (kn h)
  · exact Go.st (fun t k => XS.ifYes X.here hx rfl rfl hd rfl ((if0 _ _).trans (flt h).2.1) ho hp k) (ky h)
theorem f_lcmp_ge (X : Stand p l e R s m args below meth c T locs cells slots) (hx : p.tables.exec = Jvm.exec) {x y : Int64} {o : Int} (hd : decode c.code pc = .ok (.ifCond .ge o, 3)) (ho : 0 ≤ (pc : Int) + o) (hp : ((pc : Int) + o).toNat = q1) (hq : pc + 3 = q) (ky : ¬ x < y → Go p e below G T m q1 L S) (kn : x < y → Go p e below G T m q L S) : Go p e below G T m pc L (.int (lcmpW x y) :: S) :=
  f_if_ge X hx hd ho hp hq (fun h => ky (fun g => h ((lw_lt x y).mpr g))) (fun h => kn ((lw_lt x y).mp h))
theorem f_icmp_gt (X : Stand p l e R s m args below meth c T locs cells slots) (hx : p.tables.exec = Jvm.exec) {x y : Int32} {o : Int} (hd : decode c.code pc = .ok (.if_icmp .gt o, 3)) (ho : 0 ≤ (pc : Int) + o) (hp : ((pc : Int) + o).toNat = q1) (hq : pc + 3 = q) (ky : y < x → Go p e below G T m q1 L S) (kn : ¬ y < x → Go p e below G T m q L S) : Go p e below G T m pc L (.int y :: .int x :: S) := by
  subst hq
  by_cases h : y < x
  · exact Go.st (fun t k => XS.icmpYes X.here hx rfl rfl hd rfl (tlt h).2.2.1 ho hp k) (ky h)
  · exact Go.st (fun t k => XS.icmpNo X.here hx rfl hd rfl (flt h).2.2.1 k) (kn h)
theorem f_if_gt (X : Stand p l e R s m args below meth c T locs cells slots) (hx : p.tables.exec = Jvm.exec) {x : Int32} {o : Int} (hd : decode c.code pc = .ok (.ifCond .gt o, 3)) (ho : 0 ≤ (pc : Int) + o) (hp : ((pc : Int) + o).toNat = q1) (hq : pc + 3 = q) (ky : 0 < x → Go p e below G T m q1 L S) (kn : ¬ 0 < x → Go p e below G T m q L S) : Go p e below G T m pc L (.int x :: S) := by
  subst hq
  by_cases h : 0 < x
  · exact Go.st (fun t k => XS.ifYes X.here hx rfl rfl hd rfl ((if0 _ _).trans (tlt h).2.2.1) ho hp k) (ky h)
  · exact Go.st (fun t k => XS.ifNo X.here hx rfl hd rfl ((if0 _ _).trans (flt h).2.2.1) k) (kn h)
theorem f_lcmp_gt (X : Stand p l e R s m args below meth c T locs cells slots) (hx : p.tables.exec = Jvm.exec) {x y : Int64} {o : Int} (hd : decode c.code pc = .ok (.ifCond .gt o, 3)) (ho : 0 ≤ (pc : Int) + o) (hp : ((pc : Int) + o).toNat = q1) (hq : pc + 3 = q) (ky : y < x → Go p e below G T m q1 L S) (kn : ¬ y < x → Go p e below G T m q L S) : Go p e below G T m pc L (.int (lcmpW x y) :: S) :=
  f_if_gt X hx hd ho hp hq (fun h => ky ((lw_gt x y).mp h)) (fun h => kn (fun g => h ((lw_gt x y).mpr g)))
theorem f_icmp_le (X : Stand p l e R s m args below meth c T locs cells slots) (hx : p.tables.exec = Jvm.exec) {x y : Int32} {o : Int} (hd : decode c.code pc = .ok (.if_icmp .le o, 3)) (ho : 0 ≤ (pc : Int) + o) (hp : ((pc : Int) + o).toNat = q1) (hq : pc + 3 = q) (ky : ¬ y < x → Go p e below G T m q1 L S) (kn : y < x → Go p e below G T m q L S) : Go p e below G T m pc L (.int y :: .int x :: S) := by
  subst hq
  by_cases h : y < x
  · exact Go.st (fun t k => XS.icmpNo X.here hx rfl hd rfl (tlt h).2.2.2 k) (kn h)
  · exact Go.st (fun t k => XS.icmpYes X.here hx rfl rfl hd rfl (flt h).2.2.2 ho hp k) (ky h)
theorem f_if_le (X : Stand p l e R s m args below meth c T locs cells slots) (hx : p.tables.exec = Jvm.exec) {x : Int32} {o : Int} (hd : decode c.code pc = .ok (.ifCond .le o, 3)) (ho : 0 ≤ (pc : Int) + o) (hp : ((pc : Int) + o).toNat = q1) (hq : pc + 3 = q) (ky : ¬ 0 < x → Go p e below G T m q1 L S) (kn : 0 < x → Go p e below G T m q L S) : Go p e below G T m pc L (.int x :: S) := by
  subst hq
  by_cases h : 0 < x
  · exact Go.st (fun t k => XS.ifNo X.here hx rfl hd rfl ((if0 _ _).trans (tlt h).2.2.2) k) (kn h)
  · exact Go.st (fun t k => XS.ifYes X.here hx rfl rfl hd rfl ((if0 _ _).trans (flt h).2.2.2) ho hp k) (ky h)
theorem f_lcmp_le (X : Stand p l e R s m args below meth c T locs cells slots) (hx : p.tables.exec = Jvm.exec) {x y : Int64} {o : Int} (hd : decode c.code pc = .ok (.ifCond .le o, 3)) (ho : 0 ≤ (pc : Int) + o) (hp : ((pc : Int) + o).toNat = q1) (hq : pc + 3 = q) (ky : ¬ y < x → Go p e below G T m q1 L S) (kn : y < x → Go p e below G T m q L S) : Go p e below G T m pc L (.int (lcmpW x y) :: S) :=
  f_if_le X hx hd ho hp hq (fun h => ky (fun g => h ((lw_gt x y).mpr g))) (fun h => kn ((lw_gt x y).mp h))
theorem f_icmp_eq (X : Stand p l e R s m args below meth c T locs cells slots) (hx : p.tables.exec = Jvm.exec) {x y : Int32} {o : Int} (hd : decode c.code pc = .ok (.if_icmp .eq o, 3)) (ho : 0 ≤ (pc : Int) + o) (hp : ((pc : Int) + o).toNat = q1) (hq : pc + 3 = q) (ky : x = y → Go p e below G T m q1 L S) (kn : ¬ x = y → Go p e below G T m q L S) : Go p e below G T m pc L (.int y :: .int x :: S) := by
  subst hq
  by_cases h : x = y
  · exact Go.st (fun t k => XS.icmpYes X.here hx rfl rfl hd rfl (teq h).1 ho hp k) (ky h)
  · exact Go.st (fun t k => XS.icmpNo X.here hx rfl hd rfl (feq h).1 k) (kn h)
theorem f_if_eq (X : Stand p l e R s m args below meth c T locs cells slots) (hx : p.tables.exec = Jvm.exec) {x : Int32} {o : Int} (hd : decode c.code pc = .ok (.ifCond .eq o, 3)) (ho : 0 ≤ (pc : Int) + o) (hp : ((pc : Int) + o).toNat = q1) (hq : pc + 3 = q) (ky : x = 0 → Go p e below G T m q1 L S) (kn : ¬ x = 0 → Go p e below G T m q L S) : Go p e below G T m pc L (.int x :: S) := by
  subst hq
  by_cases h : x = 0
  · exact Go.st (fun t k => XS.ifYes X.here hx rfl rfl hd rfl ((if0 _ _).trans (teq h).1) ho hp k) (ky h)
  · exact Go.st (fun t k => XS.ifNo X.here hx rfl hd rfl ((if0 _ _).trans (feq h).1) k) (kn h)
theorem f_lcmp_eq (X : Stand p l e R s m args below meth c T locs cells slots) (hx : p.tables.exec = Jvm.exec) {x y : Int64} {o : Int} (hd : decode c.code pc = .ok (.ifCond .eq o, 3)) (ho : 0 ≤ (pc : Int) + o) (hp : ((pc : Int) + o).toNat = q1) (hq : pc + 3 = q) (ky : x = y → Go p e below G T m q1 L S) (kn : ¬ x = y → Go p e below G T m q L S) : Go p e below G T m pc L (.int (lcmpW x y) :: S) :=
  f_if_eq X hx hd ho hp hq (fun h => ky ((lw_eq x y).mp h)) (fun h => kn (fun g => h ((lw_eq x y).mpr g)))
theorem f_icmp_ne (X : Stand p l e R s m args below meth c T locs cells slots) (hx : p.tables.exec = Jvm.exec) {x y : Int32} {o : Int} (hd : decode c.code pc = .ok (.if_icmp .ne o, 3)) (ho : 0 ≤ (pc : Int) + o) (hp : ((pc : Int) + o).toNat = q1) (hq : pc + 3 = q) (ky : ¬ x = y → Go p e below G T m q1 L S) (kn : x = y → Go p e below G T m q L S) : Go p e below G T m pc L (.int y :: .int x :: S) := by
  subst hq
  by_cases h : x = y
  · exact Go.st (fun t k => XS.icmpNo X.here hx rfl hd rfl (teq h).2 k) (kn h)
  · exact Go.st (fun t k => XS.icmpYes X.here hx rfl rfl hd rfl (feq h).2 ho hp k) (ky h)
theorem f_if_ne (X : Stand p l e R s m args below meth c T locs cells slots) (hx : p.tables.exec = Jvm.exec) {x : Int32} {o : Int} (hd : decode c.code pc = .ok (.ifCond .ne o, 3)) (ho : 0 ≤ (pc : Int) + o) (hp : ((pc : Int) + o).toNat = q1) (hq : pc + 3 = q) (ky : ¬ x = 0 → Go p e below G T m q1 L S) (kn : x = 0 → Go p e below G T m q L S) : Go p e below G T m pc L (.int x :: S) := by
  subst hq
  by_cases h : x = 0
  · exact Go.st (fun t k => XS.ifNo X.here hx rfl hd rfl ((if0 _ _).trans (teq h).2) k) (kn h)
  · exact Go.st (fun t k => XS.ifYes X.here hx rfl rfl hd rfl ((if0 _ _).trans (feq h).2) ho hp k) (ky h)
theorem f_lcmp_ne (X : Stand p l e R s m args below meth c T locs cells slots) (hx : p.tables.exec = Jvm.exec) {x y : Int64} {o : Int} (hd : decode c.code pc = .ok (.ifCond .ne o, 3)) (ho : 0 ≤ (pc : Int) + o) (hp : ((pc : Int) + o).toNat = q1) (hq : pc + 3 = q) (ky : ¬ x = y → Go p e below G T m q1 L S) (kn : x = y → Go p e below G T m q L S) : Go p e below G T m pc L (.int (lcmpW x y) :: S) :=
  f_if_ne X hx hd ho hp hq (fun h => ky (fun g => h ((lw_eq x y).mpr g))) (fun h => kn ((lw_eq x y).mp h))
theorem s_ifnullYes (X : Stand p l e R s m args below meth c T locs cells slots) (hx : p.tables.exec = Jvm.exec) {o : Int} (hd : decode c.code pc = .ok (.ifnull o, 3)) (ho : 0 ≤ (pc : Int) + o) (hp : ((pc : Int) + o).toNat = q1) (K : Go p e below G T m q1 L S) : Go p e below G T m pc L (.null :: S) := Go.st (fun t k => XS.ifnullYes X.here hx rfl rfl hd rfl ho hp k) K
theorem s_ifnullNo (X : Stand p l e R s m args below meth c T locs cells slots) (hx : p.tables.exec = Jvm.exec) {o : Int} {b : Addr} (hd : decode c.code pc = .ok (.ifnull o, 3))  (hq : pc + 3 = q) (K : Go p e below G T m q L S) : Go p e below G T m pc L (.ref b :: S) := by
  subst hq; exact Go.st (fun t k => XS.ifnullNo X.here hx rfl hd rfl k) K
theorem s_ifnonnullYes (X : Stand p l e R s m args below meth c T locs cells slots) (hx : p.tables.exec = Jvm.exec) {o : Int} {b : Addr} (hd : decode c.code pc = .ok (.ifnonnull o, 3)) (ho : 0 ≤ (pc : Int) + o) (hp : ((pc : Int) + o).toNat = q1) (K : Go p e below G T m q1 L S) : Go p e below G T m pc L (.ref b :: S) := Go.st (fun t k => XS.ifnonnullYes X.here hx rfl rfl hd rfl ho hp k) K
theorem s_ifnonnullNo (X : Stand p l e R s m args below meth c T locs cells slots) (hx : p.tables.exec = Jvm.exec) {o : Int} (hd : decode c.code pc = .ok (.ifnonnull o, 3))  (hq : pc + 3 = q) (K : Go p e below G T m q L S) : Go p e below G T m pc L (.null :: S) := by
  subst hq; exact Go.st (fun t k => XS.ifnonnullNo X.here hx rfl hd rfl k) K
variable {Z : State} {a0 : Array Value} {h h' : Heap} {a b : Addr} {own C O n d : String} {v : Value} {n0 : Nat}
theorem s_ldc (X : Stand p l e R s m args below meth c T locs cells slots) (hx : p.tables.exec = Jvm.exec) (hZ : Z.Warmed39 s.vm) (hown : s.vm.findClass own = some m.cls) {index : Nat} {z : Int32} (w : (Jvm.Cond.constant own index z).before a0 Z = true) (hd : decode c.code pc = .ok (.ldc index, 2)) (hq : pc + 2 = q) (K : Go p e below G T m q L (.int z :: S)) : Go p e below G T m pc L S := by
  subst hq; exact Go.st (fun t k => X.ldcInt hx hown (mvT hZ w) (g := mkF m pc L S) rfl hd t k) K
theorem s_ldcw (X : Stand p l e R s m args below meth c T locs cells slots) (hx : p.tables.exec = Jvm.exec) (hZ : Z.Warmed39 s.vm) (hown : s.vm.findClass own = some m.cls) {index : Nat} {z : Int32} (w : (Jvm.Cond.constant own index z).before a0 Z = true) (hd : decode c.code pc = .ok (.ldc_w index, 3)) (hq : pc + 3 = q) (K : Go p e below G T m q L (.int z :: S)) : Go p e below G T m pc L S := by
  subst hq; exact Go.st (fun t k => X.ldcwInt hx hown (mvT hZ w) (g := mkF m pc L S) rfl hd t k) K
theorem s_ldc2 (X : Stand p l e R s m args below meth c T locs cells slots) (hx : p.tables.exec = Jvm.exec) (hZ : Z.Warmed39 s.vm) (hown : s.vm.findClass own = some m.cls) {index : Nat} {z : Int64} (w : (Jvm.Cond.constantLong own index z).before a0 Z = true) (hd : decode c.code pc = .ok (.ldc2_w index, 3)) (hq : pc + 3 = q) (K : Go p e below G T m q L (.long z :: S)) : Go p e below G T m pc L S := by
  subst hq; exact Go.st (fun t k => X.ldc2Long hx hown (mvT hZ w) (g := mkF m pc L S) rfl hd t k) K
theorem s_lrem (X : Stand p l e R s m args below meth c T locs cells slots) (hx : p.tables.exec = Jvm.exec) {x y : Int64} (hd : decode c.code pc = .ok (.lrem, 1)) (hy : y ≠ 0) (hq : pc + 1 = q) (K : Go p e below G T m q L (.long (x % y) :: S)) : Go p e below G T m pc L (.long y :: .long x :: S) := by
  subst hq; rw [← lrem_mod] at K; exact Go.st (fun t k => XS.lrem X.here hx rfl hd rfl hy k) K
theorem irem_mod (x y : Int32) : x - (x / y) * y = x % y := by
  apply Int32.toInt_inj.mp
  have h1 := Int32.le_toInt (x % y)
  have h2 := Int32.toInt_lt (x % y)
  rw [Int32.toInt_sub, Int32.toInt_mul, Int32.toInt_div, Int.bmod_mul_bmod, Int.sub_bmod_bmod, Int.mul_comm (x.toInt.tdiv y.toInt), ← Int.tmod_def, ← Int32.toInt_mod]
  exact Int.bmod_eq_of_le_mul_two (by omega) (by omega)
theorem s_irem (X : Stand p l e R s m args below meth c T locs cells slots) (hx : p.tables.exec = Jvm.exec) {x y : Int32} (hd : decode c.code pc = .ok (.irem, 1)) (hy : y ≠ 0) (hq : pc + 1 = q) (K : Go p e below G T m q L (.int (x % y) :: S)) : Go p e below G T m pc L (.int y :: .int x :: S) := by
  subst hq; rw [← irem_mod] at K; exact Go.st (fun t k => XS.irem X.here hx rfl hd rfl hy k) K
theorem leafI (X : Stand p l e R s m args below meth c T locs cells slots) (hx : p.tables.exec = Jvm.exec) {z : Int32} {Q : Option Value → Heap → List Loc → Prop} {C N : Nat} (hlk : meth.locks = false) (hret : meth.sig.returnType = some .int) (hd : decode c.code pc = .ok (.ireturn, 1)) (hc : cells ≤ C) (hn : slots ≤ N) (hQ : Q (some (.int z)) T.heap locs) : Go p e below (Gl s below Q C N) T m pc L (.int z :: S) := by
  obtain ⟨fs, hr, hrun, hended, hW, hsame⟩ := X.leave (v := some (.int z)) (fun h => by rw [hret] at h; cases h) hlk
  exact ⟨_, retI X hx hret hd hr, _, hrun, hended, _, _, rfl, hQ, ⟨_, rfl⟩, hW, hsame.mono hc hn⟩
theorem leafN (X : Stand p l e R s m args below meth c T locs cells slots) (hx : p.tables.exec = Jvm.exec) {t : FieldType} {z z' : Int32} {Q : Option Value → Heap → List Loc → Prop} {C N : Nat} (hlk : meth.locks = false) (hret : meth.sig.returnType = some t) (ht : t = .boolean ∨ t = .byte ∨ t = .char ∨ t = .short) (hd : decode c.code pc = .ok (.ireturn, 1)) (hc : cells ≤ C) (hn : slots ≤ N) (hz : nar t z = z') (hQ : Q (some (.int z')) T.heap locs) : Go p e below (Gl s below Q C N) T m pc L (.int z :: S) := by
  subst hz
  obtain ⟨fs, hr, hrun, hended, hW, hsame⟩ := X.leave (v := some (.int (nar t z))) (fun h => by rw [hret] at h; cases h) hlk
  exact ⟨_, retN X hx hret ht hd hr, _, hrun, hended, _, _, rfl, hQ, ⟨_, rfl⟩, hW, hsame.mono hc hn⟩
theorem leafJ (X : Stand p l e R s m args below meth c T locs cells slots) (hx : p.tables.exec = Jvm.exec) {z : Int64} {Q : Option Value → Heap → List Loc → Prop} {C N : Nat} (hlk : meth.locks = false) (hret : meth.sig.returnType = some .long) (hd : decode c.code pc = .ok (.lreturn, 1)) (hc : cells ≤ C) (hn : slots ≤ N) (hQ : Q (some (.long z)) T.heap locs) : Go p e below (Gl s below Q C N) T m pc L (.long z :: S) := by
  obtain ⟨fs, hr, hrun, hended, hW, hsame⟩ := X.leave (v := some (.long z)) (fun h => by rw [hret] at h; cases h) hlk
  refine ⟨_, ?_, _, hrun, hended, _, _, rfl, hQ, ⟨_, rfl⟩, hW, hsame.mono hc hn⟩
  show Steps p.tables e below (T.setTop { method := m, pc := pc, locals := L, stack := .long z :: S, locked := none }) _
  jvm_step X.here [X.here.top, hx, hd, X.method', hret, narrow]
  first | (intro acts; rw [hr _ acts rfl rfl rfl]) | rw [hr _ _ rfl rfl rfl]
  exact Steps.refl _
theorem leafA (X : Stand p l e R s m args below meth c T locs cells slots) (hx : p.tables.exec = Jvm.exec) {v : Value} {t : FieldType} {Q : Option Value → Heap → List Loc → Prop} {C N : Nat} (hlk : meth.locks = false) (hret : meth.sig.returnType = some t) (ht : t.isReference = true) (hv : v.isRef = true) (hd : decode c.code pc = .ok (.areturn, 1)) (hc : cells ≤ C) (hn : slots ≤ N) (hQ : Q (some v) T.heap locs) : Go p e below (Gl s below Q C N) T m pc L (v :: S) := by
  obtain ⟨fs, hr, hrun, hended, hW, hsame⟩ := X.leave (v := some v) (fun h => by rw [hret] at h; cases h) hlk
  refine ⟨_, ?_, _, hrun, hended, _, _, rfl, hQ, ⟨_, rfl⟩, hW, hsame.mono hc hn⟩
  show Steps p.tables e below (T.setTop { method := m, pc := pc, locals := L, stack := v :: S, locked := none }) _
  jvm_step X.here [X.here.top, hx, hd, X.method', hret, hv, ht]
  first | (intro acts; rw [hr _ acts rfl rfl rfl]) | rw [hr _ _ rfl rfl rfl]
  exact Steps.refl _
theorem leafV (X : Stand p l e R s m args below meth c T locs cells slots) (hx : p.tables.exec = Jvm.exec) {Q : Option Value → Heap → List Loc → Prop} {C N : Nat} (hlk : meth.locks = false) (hret : meth.sig.returnType = none) (hd : decode c.code pc = .ok (.return_, 1)) (hc : cells ≤ C) (hn : slots ≤ N) (hQ : Q none T.heap locs) : Go p e below (Gl s below Q C N) T m pc L [] := by
  obtain ⟨fs, hr, hrun, hended, hW, hsame⟩ := X.leave (v := none) (fun _ => rfl) hlk
  exact ⟨_, X.returnOut hx hret hd hr, _, hrun, hended, _, _, rfl, hQ, ⟨_, rfl⟩, hW, hsame.mono hc hn⟩
/-- a call by a contract -/
theorem callC (X : Stand p l e R s m args below meth c T locs cells slots) (hx : p.tables.exec = Jvm.exec) (hZ : Z.Warmed39 s.vm) (hown : s.vm.findClass own = some m.cls) {index : Nat} {y : MethodName} {bytes : ByteArray} {maxL : Nat} {ret : Option FieldType} {rm : Room} {Q : Option Value → Heap → List Loc → Prop} {W : Nat} {argsL rest : List Value}
    (w1 : (Jvm.Cond.methodLink own index y).before a0 Z = true) (w2 : (Jvm.Cond.static y).before a0 Z = true) (w3 : (Jvm.Cond.initialized y.cls).before a0 Z = true) (w4 : (Jvm.Cond.code y bytes maxL ret).before a0 Z = true) (hy : y.cls ≠ "java/lang/invoke/MethodHandle" ∧ y.cls ≠ "java/lang/invoke/VarHandle")
    (K : Ctr l y bytes maxL ret [] rm Z argsL.toArray h Q rm.cells rm.slots) (eT : T.heap = h) (hf : rm.frames + 1 ≤ R.frames) (hl : W + (maxL + 11) + rm.locals ≤ R.locals) (hc : cells + rm.cells ≤ R.cells) (hn : slots + rm.slots ≤ R.slots) (hsize : L.size = c.maxLocals)
    {ps : List FieldType} {r : Option FieldType} (hlen : parseMethodDescriptor y.desc = some ⟨ps, r⟩) (hl2 : argsL.length = ps.length) (hS : S = argsL.reverse ++ rest) (hW : (rest.map fun v => v.category).sum ≤ W) (hd : decode c.code pc = .ok (.invokestatic index, 3)) (hq : pc + 3 = q)
    (k : ∀ (v : Option Value) (T' : State) (Lc : List Loc), Q v T'.heap Lc → Stand p l e R s m args below meth c T' (locs ++ Lc) (cells + rm.cells) (slots + rm.slots) → Go p e below G T' m q L (v.toList ++ rest)) : Go p e below G T m pc L S := by
  subst hq hS
  obtain ⟨v, _, ⟨T', L', k', n'⟩, -, X', ⟨Lc, hQ, l1, y1, z1⟩, st⟩ := Jvm.LawKit.callS X hx (y := y) hown (mvT hZ w1) (mvT hZ w2) (mvT hZ w3) (mvT hZ w4) hy (backOf (W := W) K hZ w4 w3 hf hl) (g := mkF m pc L (argsL.reverse ++ rest)) rfl hsize (argsL := argsL) (rest := rest) (lenOf hlen hl2) rfl (by show 2 * 0 + _ ≤ _; omega) hd (fun _ _ => ⟨rfl, eT, hc, hn⟩)
  dsimp only [Pt.U, Pt.locs, Pt.cells, Pt.slots] at X' l1 y1 z1 st hQ
  subst l1 y1 z1
  exact Go.st st (k v T' Lc hQ X')
/-- what a pure body leaves -/
def PQ (w : Value) (h0 : Heap) (v : Option Value) (h : Heap) (L : List Loc) : Prop := v = some w ∧ h = h0 ∧ L = []
theorem callP (X : Stand p l e R s m args below meth c T locs cells slots) (hx : p.tables.exec = Jvm.exec) (hZ : Z.Warmed39 s.vm) (hown : s.vm.findClass own = some m.cls) {index : Nat} {y : MethodName} {bytes : ByteArray} {maxL : Nat} {ret : Option FieldType} {rm : Room} {w : Value} {W : Nat} {argsL rest : List Value}
    (w1 : (Jvm.Cond.methodLink own index y).before a0 Z = true) (w2 : (Jvm.Cond.static y).before a0 Z = true) (w3 : (Jvm.Cond.initialized y.cls).before a0 Z = true) (w4 : (Jvm.Cond.code y bytes maxL ret).before a0 Z = true) (hy : y.cls ≠ "java/lang/invoke/MethodHandle" ∧ y.cls ≠ "java/lang/invoke/VarHandle")
    (K : Ctr l y bytes maxL ret [] rm Z argsL.toArray h (PQ w h) 0 0) (hrc : rm.cells = 0) (hrs : rm.slots = 0) (eT : T.heap = h) (hf : rm.frames + 1 ≤ R.frames) (hl : W + (maxL + 11) + rm.locals ≤ R.locals) (hc : cells ≤ R.cells) (hn : slots ≤ R.slots) (hsize : L.size = c.maxLocals)
    {ps : List FieldType} {r : Option FieldType} (hlen : parseMethodDescriptor y.desc = some ⟨ps, r⟩) (hl2 : argsL.length = ps.length) (hS : S = argsL.reverse ++ rest) (hW : (rest.map fun v => v.category).sum ≤ W) (hd : decode c.code pc = .ok (.invokestatic index, 3)) (hq : pc + 3 = q)
    (k : ∀ (T' : State), Stand p l e R s m args below meth c T' locs cells slots → T'.heap = h → Go p e below G T' m q L (w :: rest)) : Go p e below G T m pc L S := by
  refine callC X hx hZ hown w1 w2 w3 w4 hy (rm := rm) (Q := PQ w h) (by rw [hrc, hrs]; exact K) eT hf hl (by rw [hrc]; exact hc) (by rw [hrs]; exact hn) hsize hlen hl2 hS hW hd hq ?_
  rintro v T' Lc ⟨rfl, e', rfl⟩ X'
  rw [List.append_nil, hrc, hrs] at X'
  exact k T' X' e'
theorem callV (X : Stand p l e R s m args below meth c T locs cells slots) (hx : p.tables.exec = Jvm.exec) (hZ : Z.Warmed39 s.vm) (hown : s.vm.findClass own = some m.cls) {index : Nat} {y : MethodName} {bytes : ByteArray} {maxL : Nat} {ret : Option FieldType} {rm : Room} {Q : Option Value → Heap → List Loc → Prop} {W : Nat} {argsL rest : List Value}
    (w1 : (Jvm.Cond.methodLink own index y).before a0 Z = true) (w2 : (Jvm.Cond.declares y).before a0 Z = true) (w3 : (Jvm.Cond.selects y.cls y y).before a0 Z = true) (w5 : (Jvm.Cond.instanceMethod y).before a0 Z = true) (w6 : (Jvm.Cond.initialized y.cls).before a0 Z = true) (w4 : (Jvm.Cond.code y bytes maxL ret).before a0 Z = true) (hy : y.cls ≠ "java/lang/invoke/MethodHandle" ∧ y.cls ≠ "java/lang/invoke/VarHandle")
    (A : Exa Z h a y.cls) (K : Ctr l y bytes maxL ret [] rm Z (.ref a :: argsL).toArray h Q rm.cells rm.slots) (eT : T.heap = h) (hf : rm.frames + 1 ≤ R.frames) (hl : W + (maxL + 11) + rm.locals ≤ R.locals) (hc : cells + rm.cells ≤ R.cells) (hn : slots + rm.slots ≤ R.slots) (hsize : L.size = c.maxLocals)
    {ps : List FieldType} {r : Option FieldType} (hlen : parseMethodDescriptor y.desc = some ⟨ps, r⟩) (hl2 : argsL.length = ps.length) (hS : S = argsL.reverse ++ .ref a :: rest) (hW : (rest.map fun v => v.category).sum ≤ W) (hd : decode c.code pc = .ok (.invokevirtual index, 3)) (hq : pc + 3 = q)
    (k : ∀ (v : Option Value) (T' : State) (Lc : List Loc), Q v T'.heap Lc → Stand p l e R s m args below meth c T' (locs ++ Lc) (cells + rm.cells) (slots + rm.slots) → Go p e below G T' m q L (v.toList ++ rest)) : Go p e below G T m pc L S := by
  subst hq hS
  obtain ⟨cq, kq, qa, qb, qc⟩ := isOf hZ eT A
  obtain ⟨v, _, ⟨T', L', k', n'⟩, -, X', ⟨Lc, hQ, l1, y1, z1⟩, st⟩ := X.virtualBack hx (y := y) (z := y) hown (mvT hZ w1) (mvT hZ w2) (notFace_of_selects (args := #[]) (mvT hZ w3)) (mvT hZ w3) (mvT hZ w5) hy (backOf (W := W) K hZ w4 w6 hf hl) qa qc (g := mkF m pc L (argsL.reverse ++ .ref a :: rest)) rfl hsize (Steps.refl _) (argsL := argsL) (rest := rest) (lenOf hlen hl2) rfl (by show 2 * 0 + _ ≤ _; omega) hd (fun _ _ => ⟨rfl, eT, hc, hn⟩)
  dsimp only [Pt.U, Pt.locs, Pt.cells, Pt.slots] at X' l1 y1 z1 st hQ
  subst l1 y1 z1
  exact Go.st (fun t h => st.trans h) (k v T' Lc hQ X')
theorem callI (X : Stand p l e R s m args below meth c T locs cells slots) (hx : p.tables.exec = Jvm.exec) (hZ : Z.Warmed39 s.vm) (hown : s.vm.findClass own = some m.cls) {index : Nat} {y : MethodName} {bytes : ByteArray} {maxL : Nat} {rm : Room} {Q : Option Value → Heap → List Loc → Prop} {W : Nat} {argsL rest : List Value} (hyn : y.name = "<init>")
    (w1 : (Jvm.Cond.methodLink own index y).before a0 Z = true) (w5 : (Jvm.Cond.instanceMethod y).before a0 Z = true) (w6 : (Jvm.Cond.initialized y.cls).before a0 Z = true) (w4 : (Jvm.Cond.code y bytes maxL none).before a0 Z = true) (hy : y.cls ≠ "java/lang/invoke/MethodHandle" ∧ y.cls ≠ "java/lang/invoke/VarHandle")
    (K : Ctr l y bytes maxL none [] rm Z (.ref a :: argsL).toArray h Q rm.cells rm.slots) (eT : T.heap = h) (hf : rm.frames + 1 ≤ R.frames) (hl : W + (maxL + 11) + rm.locals ≤ R.locals) (hc : cells + rm.cells ≤ R.cells) (hn : slots + rm.slots ≤ R.slots) (hsize : L.size = c.maxLocals)
    {ps : List FieldType} {r : Option FieldType} (hlen : parseMethodDescriptor y.desc = some ⟨ps, r⟩) (hl2 : argsL.length = ps.length) (hS : S = argsL.reverse ++ .ref a :: rest) (hW : (rest.map fun v => v.category).sum ≤ W) (hd : decode c.code pc = .ok (.invokespecial index, 3)) (hq : pc + 3 = q)
    (k : ∀ (v : Option Value) (T' : State) (Lc : List Loc), Q v T'.heap Lc → Stand p l e R s m args below meth c T' (locs ++ Lc) (cells + rm.cells) (slots + rm.slots) → Go p e below G T' m q L (v.toList ++ rest)) : Go p e below G T m pc L S := by
  subst hq hS
  obtain ⟨v, _, ⟨T', L', k', n'⟩, -, X', ⟨Lc, hQ, l1, y1, z1⟩, st⟩ := X.specialBack hx (y := y) hyn hown (mvT hZ w1) (mvT hZ w5) (mvT hZ w4) hy (backOf (W := W) K hZ w4 w6 hf hl) (g := mkF m pc L (argsL.reverse ++ .ref a :: rest)) rfl hsize (Steps.refl _) (a := a) (argsL := argsL) (rest := rest) (lenOf hlen hl2) rfl (by show 2 * 0 + _ ≤ _; omega) hd (fun _ _ => ⟨rfl, eT, hc, hn⟩)
  dsimp only [Pt.U, Pt.locs, Pt.cells, Pt.slots] at X' l1 y1 z1 st hQ
  subst l1 y1 z1
  exact Go.st (fun t h => st.trans h) (k v T' Lc hQ X')
theorem s_initO (X : Stand p l e R s m args below meth c T locs cells slots) (hx : p.tables.exec = Jvm.exec) (hZ : Z.Warmed39 s.vm) (hown : s.vm.findClass own = some m.cls) {index : Nat} {W : Nat} (w1 : (Jvm.Cond.methodLink own index Lib.objectInit).before a0 Z = true) (w2 : (Jvm.Cond.instanceMethod Lib.objectInit).before a0 Z = true)
    (w3 : (Jvm.Cond.code Lib.objectInit ⟨#[0xb1]⟩ 1 none).before a0 Z = true) (eT : T.heap = h) (hsize : L.size = c.maxLocals) (hf : 1 ≤ R.frames) (hW : (S.map fun v => v.category).sum ≤ W) (hl : W + 12 ≤ R.locals) (hd : decode c.code pc = .ok (.invokespecial index, 3)) (hq : pc + 3 = q)
    (k : ∀ T', Stand p l e R s m args below meth c T' locs cells slots → T'.heap = h → Go p e below G T' m q L S) : Go p e below G T m pc L (.ref a :: S) := by
  subst hq
  obtain ⟨T', X', e', st⟩ := initO X hx hZ hown w1 w2 w3 eT (g := mkF m pc L (.ref a :: S)) rfl hsize rfl hd hf (W := W) (by show 2 * 0 + _ ≤ _; omega) hl
  exact Go.st st (k T' X' e')
theorem s_getF (X : Stand p l e R s m args below meth c T locs cells slots) (hx : p.tables.exec = Jvm.exec) (hZ : Z.Warmed39 s.vm) (hown : s.vm.findClass own = some m.cls) {index : Nat} (w : (Jvm.Cond.fieldLink own index O n d).before a0 Z = true) (eT : T.heap = h) (F : Fld Z h a O n d v) (hd : decode c.code pc = .ok (.getfield index, 3)) (hq : pc + 3 = q)
    (k : ∀ T', Stand p l e R s m args below meth c T' locs cells slots → T'.heap = h → Go p e below G T' m q L (v :: S)) : Go p e below G T m pc L (.ref a :: S) := by
  subst hq
  obtain ⟨T', X', e', st⟩ := getF X hx hZ hown (host := "") (Or.inl w) Via.refl eT F (g := mkF m pc L (.ref a :: S)) rfl rfl hd
  exact Go.st st (k T' X' e')
theorem s_putF (X : Stand p l e R s m args below meth c T locs cells slots) (hx : p.tables.exec = Jvm.exec) (hZ : Z.Warmed39 s.vm) (hown : s.vm.findClass own = some m.cls) {index kk : Nat} {ty : FieldType} {v old : Value} (w : (Jvm.Cond.fieldLink own index O n d).before a0 Z = true) (eT : T.heap = h) (F : Fld Z h a O n d old) (E : Exa Z h a C)
    (Ly : (Jvm.Cond.lays C O n d).before a0 Z = true ∨ ((Jvm.Cond.laysFinal C O n d).before a0 Z = true ∧ own = O ∧ meth.name = "<init>")) (wi : (Jvm.Cond.instantiable C kk).before a0 Z = true) (hty : parseFieldDescriptor d = some ty) (hn : narrow ty v = v) (hfit : fits ty v = true) (N : Fr n0 locs) (hg : n0 ≤ a) (hd : decode c.code pc = .ok (.putfield index, 3)) (hq : pc + 3 = q)
    (k : ∀ (T' : State) (h' : Heap) (locs' : List Loc), Stand p l e R s m args below meth c T' locs' cells slots → Fr n0 locs' → T'.heap = h' → Wr h h' a (Jvm.RoadKit.slotOf Z O n d) v → Fld Z h' a O n d v → Go p e below G T' m q L S) : Go p e below G T m pc L (v :: .ref a :: S) := by
  subst hq
  obtain ⟨T', h', X', e', W, st⟩ := putF X hx hZ hown (host := "") (Or.inl w) Via.refl eT F E Ly wi hty hn hfit (g := mkF m pc L (v :: .ref a :: S)) rfl rfl hd
  exact Go.st st (k T' h' _ X' (Fr.snoc X' N hg) e' W (F.same W))
theorem s_new (X : Stand p l e R s m args below meth c T locs cells slots) (hx : p.tables.exec = Jvm.exec) (hZ : Z.Warmed39 s.vm) (hown : s.vm.findClass own = some m.cls) {index kk : Nat} (w : (Jvm.Cond.classLink own index C).before a0 Z = true) (wi : (Jvm.Cond.instantiable C kk).before a0 Z = true) (wz : (Jvm.Cond.initialized C).before a0 Z = true) (eT : T.heap = h)
    (hc : cells + 1 ≤ R.cells) (hl : slots + kk ≤ R.slots) (hd : decode c.code pc = .ok (.new index, 3)) (hq : pc + 3 = q)
    (k : ∀ (T' : State) (h' : Heap) (a : Addr), Stand p l e R s m args below meth c T' locs (cells + 1) (slots + kk) → T'.heap = h' → Ext h h' → a = h.size → Exa Z h' a C → (∀ (O nm d : String) (ty : FieldType), Laid Z a0 C O nm d → parseFieldDescriptor d = some ty → Fld Z h' a O nm d (defaultValue ty)) → Go p e below G T' m q L (.ref a :: S)) : Go p e below G T m pc L S := by
  subst hq
  obtain ⟨T', h', X', e', E, A, D, -, st⟩ := newO X hx hZ hown w wi wz eT (g := mkF m pc L S) rfl hd hc hl
  exact Go.st st (k T' h' _ X' e' E rfl A (fun _ _ _ _ L1 q1 => D L1 q1))
/-- an array of ints (bytes, chars ..) by its list -/
def AI (Z : State) (h : Heap) (a : Addr) (ty : FieldType) (xs : List Int32) : Prop := ∃ cl : Cell, Arr Z h a cl ty ∧ cl.slots.toList = xs.map Value.int ∧ xs.length < 2147483648
def AJ (Z : State) (h : Heap) (a : Addr) (xs : List Int64) : Prop := ∃ cl : Cell, Arr Z h a cl .long ∧ cl.slots.toList = xs.map Value.long ∧ xs.length < 2147483648
variable {ty : FieldType} {xs ys : List Int32} {us vs : List Int64} {w : Value} {sl : Nat} {ws : List Addr}
theorem AI.lt (A : AI Z h a ty xs) : a < h.size := by obtain ⟨c, A, -⟩ := A; exact A.lt
theorem AJ.lt (A : AJ Z h a us) : a < h.size := by obtain ⟨c, A, -⟩ := A; exact A.lt
theorem AI.ext (A : AI Z h a ty xs) (E : Ext h h') : AI Z h' a ty xs := by obtain ⟨c, A, r⟩ := A; exact ⟨c, A.ext E, r⟩
theorem AJ.ext (A : AJ Z h a us) (E : Ext h h') : AJ Z h' a us := by obtain ⟨c, A, r⟩ := A; exact ⟨c, A.ext E, r⟩
theorem AI.other (A : AI Z h a ty xs) (W : Wr h h' b sl w) (q : a ≠ b) : AI Z h' a ty xs := by obtain ⟨c, A, r⟩ := A; exact ⟨c, A.other W q, r⟩
theorem AJ.other (A : AJ Z h a us) (W : Wr h h' b sl w) (q : a ≠ b) : AJ Z h' a us := by obtain ⟨c, A, r⟩ := A; exact ⟨c, A.other W q, r⟩
theorem AI.keep (A : AI Z h a ty xs) (K : Keep h h' ws) (q : a ∉ ws) : AI Z h' a ty xs := by obtain ⟨c, A, r⟩ := A; exact ⟨c, ⟨K.2.1 a c A.1 q, A.2⟩, r⟩
theorem AJ.keep (A : AJ Z h a us) (K : Keep h h' ws) (q : a ∉ ws) : AJ Z h' a us := by obtain ⟨c, A, r⟩ := A; exact ⟨c, ⟨K.2.1 a c A.1 q, A.2⟩, r⟩
theorem set_list (cl : Cell) (i : Nat) (v : Value) : (cl.setSlot i v).slots.toList = cl.slots.toList.set i v := by
  show (cl.slots.setIfInBounds i v).toList = _
  exact Array.toList_setIfInBounds ..
theorem AI.same (A : AI Z h a ty xs) {i : Nat} {x : Int32} (W : Wr h h' a i (.int x)) : AI Z h' a ty (xs.set i x) := by
  obtain ⟨c, A, e, n⟩ := A
  exact ⟨_, A.same W, by rw [set_list, e, List.map_set], by rw [List.length_set]; exact n⟩
theorem AJ.same (A : AJ Z h a us) {i : Nat} {x : Int64} (W : Wr h h' a i (.long x)) : AJ Z h' a (us.set i x) := by
  obtain ⟨c, A, e, n⟩ := A
  exact ⟨_, A.same W, by rw [set_list, e, List.map_set], by rw [List.length_set]; exact n⟩
theorem own_size {cl : Cell} {α : Type} {zs : List α} {f : α → Value} (e : cl.slots.toList = zs.map f) : cl.slots.size = zs.length := by
  rw [← Array.length_toList, e, List.length_map]
theorem own_at {cl : Cell} {α : Type} {zs : List α} {f : α → Value} (e : cl.slots.toList = zs.map f) {i : Nat} {x : α} (q : zs[i]? = some x) : cl.slots[i]? = some (f x) := by
  rw [← Array.getElem?_toList, e, List.getElem?_map, q]; rfl
theorem own_in {cl : Cell} {α : Type} {zs : List α} {f : α → Value} (e : cl.slots.toList = zs.map f) {j : Int32} (hj : ¬ j < 0) (q : j.toNatClampNeg < zs.length) : ¬ (j < 0 ∨ cl.slots.size ≤ j.toNatClampNeg) := by
  rw [own_size e]; intro h; rcases h with h | h
  · exact hj h
  · omega
theorem own_inl {α : Type} {zs : List α} {i : Nat} {x : α} (q : zs[i]? = some x) : i < zs.length := (List.getElem?_eq_some_iff.mp q).1
theorem s_iaload (X : Stand p l e R s m args below meth c T locs cells slots) (hx : p.tables.exec = Jvm.exec) (hZ : Z.Warmed39 s.vm) (eT : T.heap = h) {j : Int32} {x : Int32} (A : AI Z h a .int xs) (hj : ¬ j < 0) {i : Nat} (hji : j.toNatClampNeg = i) (hv : xs[i]? = some x) (hd : decode c.code pc = .ok (.iaload, 1)) (hq : pc + 1 = q) (K : Go p e below G T m q L (.int x :: S)) : Go p e below G T m pc L (.int j :: .ref a :: S) := by
  subst hq hji; obtain ⟨cl, Ar, ex, -⟩ := A
  exact Go.st (fun t k => X.iaload hx (j := j) (v := .int x) (by rw [eT]; exact Ar.1) (State.isArrayOf_alike hZ.alike Ar.2.1) Ar.2.2 (own_in ex hj (own_inl hv)) (own_at ex hv) (g := mkF m pc L (.int j :: .ref a :: S)) rfl rfl hd t k) K
theorem s_caload (X : Stand p l e R s m args below meth c T locs cells slots) (hx : p.tables.exec = Jvm.exec) (hZ : Z.Warmed39 s.vm) (eT : T.heap = h) {j : Int32} {x : Int32} (A : AI Z h a .char xs) (hj : ¬ j < 0) {i : Nat} (hji : j.toNatClampNeg = i) (hv : xs[i]? = some x) (hd : decode c.code pc = .ok (.caload, 1)) (hq : pc + 1 = q) (K : Go p e below G T m q L (.int x :: S)) : Go p e below G T m pc L (.int j :: .ref a :: S) := by
  subst hq hji; obtain ⟨cl, Ar, ex, -⟩ := A
  exact Go.st (fun t k => X.caload hx (j := j) (v := .int x) (by rw [eT]; exact Ar.1) (State.isArrayOf_alike hZ.alike Ar.2.1) Ar.2.2 (own_in ex hj (own_inl hv)) (own_at ex hv) (g := mkF m pc L (.int j :: .ref a :: S)) rfl rfl hd t k) K
theorem s_baload (X : Stand p l e R s m args below meth c T locs cells slots) (hx : p.tables.exec = Jvm.exec) (hZ : Z.Warmed39 s.vm) (eT : T.heap = h) {j : Int32} {x : Int32} (A : AI Z h a .byte xs) (hj : ¬ j < 0) {i : Nat} (hji : j.toNatClampNeg = i) (hv : xs[i]? = some x) (hd : decode c.code pc = .ok (.baload, 1)) (hq : pc + 1 = q) (K : Go p e below G T m q L (.int x :: S)) : Go p e below G T m pc L (.int j :: .ref a :: S) := by
  subst hq hji; obtain ⟨cl, Ar, ex, -⟩ := A
  exact Go.st (fun t k => X.baloadBytes hx (j := j) (v := .int x) (by rw [eT]; exact Ar.1) (State.isArrayOf_alike hZ.alike Ar.2.1) Ar.2.2 (own_in ex hj (own_inl hv)) (own_at ex hv) (g := mkF m pc L (.int j :: .ref a :: S)) rfl rfl hd t k) K
theorem s_laload (X : Stand p l e R s m args below meth c T locs cells slots) (hx : p.tables.exec = Jvm.exec) (hZ : Z.Warmed39 s.vm) (eT : T.heap = h) {j : Int32} {x : Int64} (A : AJ Z h a us) (hj : ¬ j < 0) {i : Nat} (hji : j.toNatClampNeg = i) (hv : us[i]? = some x) (hd : decode c.code pc = .ok (.laload, 1)) (hq : pc + 1 = q) (K : Go p e below G T m q L (.long x :: S)) : Go p e below G T m pc L (.int j :: .ref a :: S) := by
  subst hq hji; obtain ⟨cl, Ar, ex, -⟩ := A
  exact Go.st (fun t k => X.laload hx (j := j) (v := .long x) (by rw [eT]; exact Ar.1) (State.isArrayOf_alike hZ.alike Ar.2.1) Ar.2.2 (own_in ex hj (own_inl hv)) (own_at ex hv) (g := mkF m pc L (.int j :: .ref a :: S)) rfl rfl hd t k) K
theorem s_iastore (X : Stand p l e R s m args below meth c T locs cells slots) (hx : p.tables.exec = Jvm.exec) (hZ : Z.Warmed39 s.vm) (eT : T.heap = h) {j : Int32} {x : Int32} (A : AI Z h a .int xs) (N : Fr n0 locs) (hg : n0 ≤ a) (hj : ¬ j < 0) {i : Nat} (hji : j.toNatClampNeg = i) (hi : i < xs.length) (hs : xs.set i x = ys) (hd : decode c.code pc = .ok (.iastore, 1)) (hq : pc + 1 = q)
    (k : ∀ (T' : State) (h' : Heap) (locs' : List Loc), Stand p l e R s m args below meth c T' locs' cells slots → Fr n0 locs' → T'.heap = h' → Wr h h' a i (.int x) → AI Z h' a .int ys → Go p e below G T' m q L S) : Go p e below G T m pc L (.int x :: .int j :: .ref a :: S) := by
  subst hq hs hji; have A0 := A; obtain ⟨cl, Ar, ex, -⟩ := A
  obtain ⟨T', h', X', e', W, st⟩ := Jvm.RoadKit.stI X hx hZ eT Ar (j := j) (own_in ex hj hi) (g := mkF m pc L (.int x :: .int j :: .ref a :: S)) rfl rfl hd
  exact Go.st st (k T' h' _ X' (Fr.snoc X' N hg) e' W (A0.same W))
theorem s_castore (X : Stand p l e R s m args below meth c T locs cells slots) (hx : p.tables.exec = Jvm.exec) (hZ : Z.Warmed39 s.vm) (eT : T.heap = h) {j : Int32} {x : Int32} (A : AI Z h a .char xs) (N : Fr n0 locs) (hg : n0 ≤ a) (hj : ¬ j < 0) {i : Nat} (hji : j.toNatClampNeg = i) (hi : i < xs.length) (hs : xs.set i (nar .char x) = ys) (hd : decode c.code pc = .ok (.castore, 1)) (hq : pc + 1 = q)
    (k : ∀ (T' : State) (h' : Heap) (locs' : List Loc), Stand p l e R s m args below meth c T' locs' cells slots → Fr n0 locs' → T'.heap = h' → Wr h h' a i (.int (nar .char x)) → AI Z h' a .char ys → Go p e below G T' m q L S) : Go p e below G T m pc L (.int x :: .int j :: .ref a :: S) := by
  subst hq hs hji; have A0 := A; obtain ⟨cl, Ar, ex, -⟩ := A
  obtain ⟨T', h', X', e', W, st⟩ := stC X hx hZ eT Ar (j := j) (own_in ex hj hi) (g := mkF m pc L (.int x :: .int j :: .ref a :: S)) rfl rfl hd
  exact Go.st st (k T' h' _ X' (Fr.snoc X' N hg) e' W (A0.same W))
theorem s_bastore (X : Stand p l e R s m args below meth c T locs cells slots) (hx : p.tables.exec = Jvm.exec) (hZ : Z.Warmed39 s.vm) (eT : T.heap = h) {j : Int32} {x : Int32} (A : AI Z h a .byte xs) (N : Fr n0 locs) (hg : n0 ≤ a) (hj : ¬ j < 0) {i : Nat} (hji : j.toNatClampNeg = i) (hi : i < xs.length) (hs : xs.set i (nar .byte x) = ys) (hd : decode c.code pc = .ok (.bastore, 1)) (hq : pc + 1 = q)
    (k : ∀ (T' : State) (h' : Heap) (locs' : List Loc), Stand p l e R s m args below meth c T' locs' cells slots → Fr n0 locs' → T'.heap = h' → Wr h h' a i (.int (nar .byte x)) → AI Z h' a .byte ys → Go p e below G T' m q L S) : Go p e below G T m pc L (.int x :: .int j :: .ref a :: S) := by
  subst hq hs hji; have A0 := A; obtain ⟨cl, Ar, ex, -⟩ := A
  obtain ⟨T', h', X', e', W, st⟩ := stB X hx hZ eT Ar (j := j) (own_in ex hj hi) (g := mkF m pc L (.int x :: .int j :: .ref a :: S)) rfl rfl hd
  exact Go.st st (k T' h' _ X' (Fr.snoc X' N hg) e' W (A0.same W))
theorem s_lastore (X : Stand p l e R s m args below meth c T locs cells slots) (hx : p.tables.exec = Jvm.exec) (hZ : Z.Warmed39 s.vm) (eT : T.heap = h) {j : Int32} {x : Int64} (A : AJ Z h a us) (N : Fr n0 locs) (hg : n0 ≤ a) (hj : ¬ j < 0) {i : Nat} (hji : j.toNatClampNeg = i) (hi : i < us.length) (hs : us.set i x = vs) (hd : decode c.code pc = .ok (.lastore, 1)) (hq : pc + 1 = q)
    (k : ∀ (T' : State) (h' : Heap) (locs' : List Loc), Stand p l e R s m args below meth c T' locs' cells slots → Fr n0 locs' → T'.heap = h' → Wr h h' a i (.long x) → AJ Z h' a vs → Go p e below G T' m q L S) : Go p e below G T m pc L (.long x :: .int j :: .ref a :: S) := by
  subst hq hs hji; have A0 := A; obtain ⟨cl, Ar, ex, -⟩ := A
  obtain ⟨T', h', X', e', W, st⟩ := Jvm.RoadKit.stJ X hx hZ eT Ar (j := j) (own_in ex hj hi) (g := mkF m pc L (.long x :: .int j :: .ref a :: S)) rfl rfl hd
  exact Go.st st (k T' h' _ X' (Fr.snoc X' N hg) e' W (A0.same W))
theorem s_newI (X : Stand p l e R s m args below meth c T locs cells slots) (hx : p.tables.exec = Jvm.exec) (hZ : Z.Warmed39 s.vm) (w : (Jvm.Cond.arrayClass .int).before a0 Z = true) (eT : T.heap = h) {z : Int32} (hz : ¬ z < 0) {cap : Nat} (hcap : z.toNatClampNeg ≤ cap) (hb8 : cap * 8 ≤ 536870912) (hc : cells + 1 ≤ R.cells) (hl : slots + cap ≤ R.slots) (hs : List.replicate z.toNatClampNeg 0 = ys) (hd : decode c.code pc = .ok (.newarray .int, 2)) (hq : pc + 2 = q)
    (k : ∀ (T' : State) (h' : Heap) (a : Addr), Stand p l e R s m args below meth c T' locs (cells + 1) (slots + cap) → T'.heap = h' → Ext h h' → a = h.size → AI Z h' a .int ys → Go p e below G T' m q L (.ref a :: S)) : Go p e below G T m pc L (.int z :: S) := by
  subst hq hs
  obtain ⟨T', h', cA, X', e', E, A, st⟩ := newP X hx hZ (aty := .int) w eT (g := mkF m pc L (.int z :: S)) rfl hd rfl hz (cap := cap) hcap hb8 hc hl
  refine Go.st st (k T' h' _ X' e' E rfl ⟨_, A, ?_, ?_⟩)
  · simp [newA, defaultValue, newarray.typeOf]
  · rw [List.length_replicate]; have := z.toInt_lt; simp only [Int32.toNatClampNeg]; omega
theorem s_newC (X : Stand p l e R s m args below meth c T locs cells slots) (hx : p.tables.exec = Jvm.exec) (hZ : Z.Warmed39 s.vm) (w : (Jvm.Cond.arrayClass .char).before a0 Z = true) (eT : T.heap = h) {z : Int32} (hz : ¬ z < 0) {cap : Nat} (hcap : z.toNatClampNeg ≤ cap) (hb8 : cap * 8 ≤ 536870912) (hc : cells + 1 ≤ R.cells) (hl : slots + cap ≤ R.slots) (hs : List.replicate z.toNatClampNeg 0 = ys) (hd : decode c.code pc = .ok (.newarray .char, 2)) (hq : pc + 2 = q)
    (k : ∀ (T' : State) (h' : Heap) (a : Addr), Stand p l e R s m args below meth c T' locs (cells + 1) (slots + cap) → T'.heap = h' → Ext h h' → a = h.size → AI Z h' a .char ys → Go p e below G T' m q L (.ref a :: S)) : Go p e below G T m pc L (.int z :: S) := by
  subst hq hs
  obtain ⟨T', h', cA, X', e', E, A, st⟩ := newP X hx hZ (aty := .char) w eT (g := mkF m pc L (.int z :: S)) rfl hd rfl hz (cap := cap) hcap hb8 hc hl
  refine Go.st st (k T' h' _ X' e' E rfl ⟨_, A, ?_, ?_⟩)
  · simp [newA, defaultValue, newarray.typeOf]
  · rw [List.length_replicate]; have := z.toInt_lt; simp only [Int32.toNatClampNeg]; omega
theorem s_newB (X : Stand p l e R s m args below meth c T locs cells slots) (hx : p.tables.exec = Jvm.exec) (hZ : Z.Warmed39 s.vm) (w : (Jvm.Cond.arrayClass .byte).before a0 Z = true) (eT : T.heap = h) {z : Int32} (hz : ¬ z < 0) {cap : Nat} (hcap : z.toNatClampNeg ≤ cap) (hb8 : cap * 8 ≤ 536870912) (hc : cells + 1 ≤ R.cells) (hl : slots + cap ≤ R.slots) (hs : List.replicate z.toNatClampNeg 0 = ys) (hd : decode c.code pc = .ok (.newarray .byte, 2)) (hq : pc + 2 = q)
    (k : ∀ (T' : State) (h' : Heap) (a : Addr), Stand p l e R s m args below meth c T' locs (cells + 1) (slots + cap) → T'.heap = h' → Ext h h' → a = h.size → AI Z h' a .byte ys → Go p e below G T' m q L (.ref a :: S)) : Go p e below G T m pc L (.int z :: S) := by
  subst hq hs
  obtain ⟨T', h', cA, X', e', E, A, st⟩ := newP X hx hZ (aty := .byte) w eT (g := mkF m pc L (.int z :: S)) rfl hd rfl hz (cap := cap) hcap hb8 hc hl
  refine Go.st st (k T' h' _ X' e' E rfl ⟨_, A, ?_, ?_⟩)
  · simp [newA, defaultValue, newarray.typeOf]
  · rw [List.length_replicate]; have := z.toInt_lt; simp only [Int32.toNatClampNeg]; omega
theorem s_newJ (X : Stand p l e R s m args below meth c T locs cells slots) (hx : p.tables.exec = Jvm.exec) (hZ : Z.Warmed39 s.vm) (w : (Jvm.Cond.arrayClass .long).before a0 Z = true) (eT : T.heap = h) {z : Int32} (hz : ¬ z < 0) {cap : Nat} (hcap : z.toNatClampNeg ≤ cap) (hb8 : cap * 8 ≤ 536870912) (hc : cells + 1 ≤ R.cells) (hl : slots + cap ≤ R.slots) (hs : List.replicate z.toNatClampNeg 0 = vs) (hd : decode c.code pc = .ok (.newarray .long, 2)) (hq : pc + 2 = q)
    (k : ∀ (T' : State) (h' : Heap) (a : Addr), Stand p l e R s m args below meth c T' locs (cells + 1) (slots + cap) → T'.heap = h' → Ext h h' → a = h.size → AJ Z h' a vs → Go p e below G T' m q L (.ref a :: S)) : Go p e below G T m pc L (.int z :: S) := by
  subst hq hs
  obtain ⟨T', h', cA, X', e', E, A, st⟩ := newP X hx hZ (aty := .long) w eT (g := mkF m pc L (.int z :: S)) rfl hd rfl hz (cap := cap) hcap hb8 hc hl
  refine Go.st st (k T' h' _ X' e' E rfl ⟨_, A, ?_, ?_⟩)
  · simp [newA, defaultValue, newarray.typeOf]
  · rw [List.length_replicate]; have := z.toInt_lt; simp only [Int32.toNatClampNeg]; omega
theorem s_lenI (X : Stand p l e R s m args below meth c T locs cells slots) (hx : p.tables.exec = Jvm.exec) (hZ : Z.Warmed39 s.vm) (eT : T.heap = h) {z : Int32} (A : AI Z h a ty xs) (hz : xs.length.toInt32 = z) (hd : decode c.code pc = .ok (.arraylength, 1)) (hq : pc + 1 = q) (K : Go p e below G T m q L (.int z :: S)) : Go p e below G T m pc L (.ref a :: S) := by
  subst hq hz; obtain ⟨cl, Ar, ex, -⟩ := A
  rw [← own_size ex] at K
  exact Go.st (fun t k => X.arraylength hx (by rw [eT]; exact Ar.1) (State.isArrayOf_alike hZ.alike Ar.2.1) (g := mkF m pc L (.ref a :: S)) rfl rfl hd t k) K
theorem s_lenJ (X : Stand p l e R s m args below meth c T locs cells slots) (hx : p.tables.exec = Jvm.exec) (hZ : Z.Warmed39 s.vm) (eT : T.heap = h) {z : Int32} (A : AJ Z h a us) (hz : us.length.toInt32 = z) (hd : decode c.code pc = .ok (.arraylength, 1)) (hq : pc + 1 = q) (K : Go p e below G T m q L (.int z :: S)) : Go p e below G T m pc L (.ref a :: S) := by
  subst hq hz; obtain ⟨cl, Ar, ex, -⟩ := A
  rw [← own_size ex] at K
  exact Go.st (fun t k => X.arraylength hx (by rw [eT]; exact Ar.1) (State.isArrayOf_alike hZ.alike Ar.2.1) (g := mkF m pc L (.ref a :: S)) rfl rfl hd t k) K
theorem own_mask_nn (x m : Int32) (h0 : 0 ≤ m.toInt) : ¬ (x &&& m) < 0 := by
  have := c_and x m h0; rw [Int32.lt_iff_toInt_lt]; show ¬ (x &&& m).toInt < 0; omega
theorem own_mask_ix (x m : Int32) {N : Nat} (h0 : 0 ≤ m.toInt) (h : m.toInt < N) : (x &&& m).toNatClampNeg < N := by
  have := c_and x m h0; simp only [Int32.toNatClampNeg]; omega
theorem own_idx {k n : Int32} {N : Nat} (h0 : ¬ k < 0) (h : k < n) (hn : n.toInt = N) : k.toNatClampNeg < N := by
  have e0 : (0 : Int32).toInt = 0 := rfl
  simp only [Int32.lt_iff_toInt_lt, Int32.toNatClampNeg] at *; omega
theorem own_lt {x b : Int32} {k : Int} (hb : b.toInt = k) (h : x.toInt < k) : x < b := by rw [Int32.lt_iff_toInt_lt, hb]; exact h
theorem own_nlt {x b : Int32} {k : Int} (hb : b.toInt = k) (h : k ≤ x.toInt) : ¬ x < b := by rw [Int32.lt_iff_toInt_lt, hb]; omega
theorem own_gt {x b : Int32} {k : Int} (hb : b.toInt = k) (h : k < x.toInt) : b < x := by rw [Int32.lt_iff_toInt_lt, hb]; exact h
theorem own_ngt {x b : Int32} {k : Int} (hb : b.toInt = k) (h : x.toInt ≤ k) : ¬ b < x := by rw [Int32.lt_iff_toInt_lt, hb]; omega
theorem own_eqi {x b : Int32} {k : Int} (hb : b.toInt = k) (h : x.toInt = k) : x = b := Int32.toInt_inj.mp (h.trans hb.symm)
theorem own_nei {x b : Int32} {k : Int} (hb : b.toInt = k) (h : x.toInt ≠ k) : ¬ x = b := fun q => h (by rw [q, hb])
end Kit
theorem d4_0 : decode method_3_code 0 = .ok (.iload_n 0, 1) := by decide +kernel
theorem d4_1 : decode method_3_code 1 = .ok (.iload_n 1, 1) := by decide +kernel
theorem d4_2 : decode method_3_code 2 = .ok (.if_icmp .lt 7, 3) := by decide +kernel
theorem d4_5 : decode method_3_code 5 = .ok (.iconst 1, 1) := by decide +kernel
theorem d4_6 : decode method_3_code 6 = .ok (.goto 4, 3) := by decide +kernel
theorem d4_9 : decode method_3_code 9 = .ok (.iconst 0, 1) := by decide +kernel
theorem d4_10 : decode method_3_code 10 = .ok (.ireturn, 1) := by decide +kernel
theorem pn_4 : plainFor (⟨"com/example/mass_terms/massterms/check/XmlNamesIsNameStartPinLaw", "ge", "(II)I"⟩ : MethodName) = true := plainFor_of_name (by first | (simp [plainName, overriddenIn]; done) | decide +kernel)
theorem ef_4 (m : MethodId) (x0 : Int32) (x1 : Int32) : entryFrame m #[(.int x0), (.int x1)] 2 = mkF m 0 #[.val (.int x0), .val (.int x1)] [] := by first | (simp [entryFrame, mkF, argsToLocals, Value.category]; done) | rfl
def F4 (x0 : Int32) (x1 : Int32) : Int32 := (if x0 < x1 then (0 : Int32) else (1 : Int32))
set_option maxRecDepth 65536 in
set_option maxHeartbeats 40000000 in
theorem rm4 (l : Launch) (Z : State) (a0 : Array Value) (hw : ∀ d ∈ tables_1, d.before a0 Z = true) (ws : List Jvm.Cond) (x0 : Int32) (x1 : Int32)  (h0 : Heap) :
    Ctr l (⟨"com/example/mass_terms/massterms/check/XmlNamesIsNameStartPinLaw", "ge", "(II)I"⟩ : MethodName) method_3_code 2 (some .int) ws ({ frames := 0, cells := 0, slots := 0, locals := 0 } : Room) Z #[(.int x0), (.int x1)] h0 (PQ (.int (F4 x0 x1)) h0) 0 0 := by
  refine Ctr.mk pn_4 ?_
  intro p e s m below meth c T hx hby hml hown hnm hlk hret hZ X eT
  refine enter (ef_4 m x0 x1) ?_
  obtain ⟨res, hres⟩ : ∃ r, r = F4 x0 x1 := ⟨_, rfl⟩
  rw [← hres]
  refine s_iloadN X hx (hb hby d4_0) rfl (q := 1) rfl ?_
  refine s_iloadN X hx (hb hby d4_1) rfl (q := 2) rfl ?_
  refine f_icmp_lt X hx (hb hby d4_2) (q1 := 9) (by decide) (by decide) (q := 5) rfl (fun hc2 => ?_) (fun hc2 => ?_)
  · refine s_iconst X hx (z := (0 : Int32)) (hb hby d4_9) rfl (q := 10) rfl ?_
    exact leafI X hx hlk hret (hb hby d4_10) (Nat.le_refl _) (Nat.le_refl _) ⟨congrArg (fun z => some (Value.int z)) (hres.trans (by unfold F4; rw [if_pos hc2])).symm, eT, rfl⟩
  refine s_iconst X hx (z := (1 : Int32)) (hb hby d4_5) rfl (q := 6) rfl ?_
  refine s_goto X hx (hb hby d4_6) (q1 := 10) (by decide) (by decide) ?_
  exact leafI X hx hlk hret (hb hby d4_10) (Nat.le_refl _) (Nat.le_refl _) ⟨congrArg (fun z => some (Value.int z)) (hres.trans (by unfold F4; rw [if_neg hc2])).symm, eT, rfl⟩
theorem d2_0 : decode prog_51_method_7_code 0 = .ok (.iload_n 0, 1) := by decide +kernel
theorem d2_1 : decode prog_51_method_7_code 1 = .ok (.bipush 58, 2) := by decide +kernel
theorem d2_3 : decode prog_51_method_7_code 3 = .ok (.if_icmp .eq 194, 3) := by decide +kernel
theorem d2_6 : decode prog_51_method_7_code 6 = .ok (.iload_n 0, 1) := by decide +kernel
theorem d2_7 : decode prog_51_method_7_code 7 = .ok (.bipush 65, 2) := by decide +kernel
theorem d2_9 : decode prog_51_method_7_code 9 = .ok (.if_icmp .lt 9, 3) := by decide +kernel
theorem d2_12 : decode prog_51_method_7_code 12 = .ok (.iload_n 0, 1) := by decide +kernel
theorem d2_13 : decode prog_51_method_7_code 13 = .ok (.bipush 90, 2) := by decide +kernel
theorem d2_15 : decode prog_51_method_7_code 15 = .ok (.if_icmp .le 182, 3) := by decide +kernel
theorem d2_18 : decode prog_51_method_7_code 18 = .ok (.iload_n 0, 1) := by decide +kernel
theorem d2_19 : decode prog_51_method_7_code 19 = .ok (.bipush 95, 2) := by decide +kernel
theorem d2_21 : decode prog_51_method_7_code 21 = .ok (.if_icmp .eq 176, 3) := by decide +kernel
theorem d2_24 : decode prog_51_method_7_code 24 = .ok (.iload_n 0, 1) := by decide +kernel
theorem d2_25 : decode prog_51_method_7_code 25 = .ok (.bipush 97, 2) := by decide +kernel
theorem d2_27 : decode prog_51_method_7_code 27 = .ok (.if_icmp .lt 9, 3) := by decide +kernel
theorem d2_30 : decode prog_51_method_7_code 30 = .ok (.iload_n 0, 1) := by decide +kernel
theorem d2_31 : decode prog_51_method_7_code 31 = .ok (.bipush 122, 2) := by decide +kernel
theorem d2_33 : decode prog_51_method_7_code 33 = .ok (.if_icmp .le 164, 3) := by decide +kernel
theorem d2_36 : decode prog_51_method_7_code 36 = .ok (.iload_n 0, 1) := by decide +kernel
theorem d2_37 : decode prog_51_method_7_code 37 = .ok (.sipush 192, 3) := by decide +kernel
theorem d2_40 : decode prog_51_method_7_code 40 = .ok (.if_icmp .lt 10, 3) := by decide +kernel
theorem d2_43 : decode prog_51_method_7_code 43 = .ok (.iload_n 0, 1) := by decide +kernel
theorem d2_44 : decode prog_51_method_7_code 44 = .ok (.sipush 214, 3) := by decide +kernel
theorem d2_47 : decode prog_51_method_7_code 47 = .ok (.if_icmp .le 150, 3) := by decide +kernel
theorem d2_50 : decode prog_51_method_7_code 50 = .ok (.iload_n 0, 1) := by decide +kernel
theorem d2_51 : decode prog_51_method_7_code 51 = .ok (.sipush 216, 3) := by decide +kernel
theorem d2_54 : decode prog_51_method_7_code 54 = .ok (.if_icmp .lt 10, 3) := by decide +kernel
theorem d2_57 : decode prog_51_method_7_code 57 = .ok (.iload_n 0, 1) := by decide +kernel
theorem d2_58 : decode prog_51_method_7_code 58 = .ok (.sipush 246, 3) := by decide +kernel
theorem d2_61 : decode prog_51_method_7_code 61 = .ok (.if_icmp .le 136, 3) := by decide +kernel
theorem d2_64 : decode prog_51_method_7_code 64 = .ok (.iload_n 0, 1) := by decide +kernel
theorem d2_65 : decode prog_51_method_7_code 65 = .ok (.sipush 248, 3) := by decide +kernel
theorem d2_68 : decode prog_51_method_7_code 68 = .ok (.if_icmp .lt 10, 3) := by decide +kernel
theorem d2_71 : decode prog_51_method_7_code 71 = .ok (.iload_n 0, 1) := by decide +kernel
theorem d2_72 : decode prog_51_method_7_code 72 = .ok (.sipush 767, 3) := by decide +kernel
theorem d2_75 : decode prog_51_method_7_code 75 = .ok (.if_icmp .le 122, 3) := by decide +kernel
theorem d2_78 : decode prog_51_method_7_code 78 = .ok (.iload_n 0, 1) := by decide +kernel
theorem d2_79 : decode prog_51_method_7_code 79 = .ok (.sipush 880, 3) := by decide +kernel
theorem d2_82 : decode prog_51_method_7_code 82 = .ok (.if_icmp .lt 10, 3) := by decide +kernel
theorem d2_85 : decode prog_51_method_7_code 85 = .ok (.iload_n 0, 1) := by decide +kernel
theorem d2_86 : decode prog_51_method_7_code 86 = .ok (.sipush 893, 3) := by decide +kernel
theorem d2_89 : decode prog_51_method_7_code 89 = .ok (.if_icmp .le 108, 3) := by decide +kernel
theorem d2_92 : decode prog_51_method_7_code 92 = .ok (.iload_n 0, 1) := by decide +kernel
theorem d2_93 : decode prog_51_method_7_code 93 = .ok (.sipush 895, 3) := by decide +kernel
theorem d2_96 : decode prog_51_method_7_code 96 = .ok (.if_icmp .lt 10, 3) := by decide +kernel
theorem d2_99 : decode prog_51_method_7_code 99 = .ok (.iload_n 0, 1) := by decide +kernel
theorem d2_100 : decode prog_51_method_7_code 100 = .ok (.sipush 8191, 3) := by decide +kernel
theorem d2_103 : decode prog_51_method_7_code 103 = .ok (.if_icmp .le 94, 3) := by decide +kernel
theorem d2_106 : decode prog_51_method_7_code 106 = .ok (.iload_n 0, 1) := by decide +kernel
theorem d2_107 : decode prog_51_method_7_code 107 = .ok (.sipush 8204, 3) := by decide +kernel
theorem d2_110 : decode prog_51_method_7_code 110 = .ok (.if_icmp .lt 10, 3) := by decide +kernel
theorem d2_113 : decode prog_51_method_7_code 113 = .ok (.iload_n 0, 1) := by decide +kernel
theorem d2_114 : decode prog_51_method_7_code 114 = .ok (.sipush 8205, 3) := by decide +kernel
theorem d2_117 : decode prog_51_method_7_code 117 = .ok (.if_icmp .le 80, 3) := by decide +kernel
theorem d2_120 : decode prog_51_method_7_code 120 = .ok (.iload_n 0, 1) := by decide +kernel
theorem d2_121 : decode prog_51_method_7_code 121 = .ok (.sipush 8304, 3) := by decide +kernel
theorem d2_124 : decode prog_51_method_7_code 124 = .ok (.if_icmp .lt 10, 3) := by decide +kernel
theorem d2_127 : decode prog_51_method_7_code 127 = .ok (.iload_n 0, 1) := by decide +kernel
theorem d2_128 : decode prog_51_method_7_code 128 = .ok (.sipush 8591, 3) := by decide +kernel
theorem d2_131 : decode prog_51_method_7_code 131 = .ok (.if_icmp .le 66, 3) := by decide +kernel
theorem d2_134 : decode prog_51_method_7_code 134 = .ok (.iload_n 0, 1) := by decide +kernel
theorem d2_135 : decode prog_51_method_7_code 135 = .ok (.sipush 11264, 3) := by decide +kernel
theorem d2_138 : decode prog_51_method_7_code 138 = .ok (.if_icmp .lt 10, 3) := by decide +kernel
theorem d2_141 : decode prog_51_method_7_code 141 = .ok (.iload_n 0, 1) := by decide +kernel
theorem d2_142 : decode prog_51_method_7_code 142 = .ok (.sipush 12271, 3) := by decide +kernel
theorem d2_145 : decode prog_51_method_7_code 145 = .ok (.if_icmp .le 52, 3) := by decide +kernel
theorem d2_148 : decode prog_51_method_7_code 148 = .ok (.iload_n 0, 1) := by decide +kernel
theorem d2_149 : decode prog_51_method_7_code 149 = .ok (.sipush 12289, 3) := by decide +kernel
theorem d2_152 : decode prog_51_method_7_code 152 = .ok (.if_icmp .lt 9, 3) := by decide +kernel
theorem d2_155 : decode prog_51_method_7_code 155 = .ok (.iload_n 0, 1) := by decide +kernel
theorem d2_156 : decode prog_51_method_7_code 156 = .ok (.ldc 57, 2) := by decide +kernel
theorem d2_158 : decode prog_51_method_7_code 158 = .ok (.if_icmp .le 39, 3) := by decide +kernel
theorem d2_161 : decode prog_51_method_7_code 161 = .ok (.iload_n 0, 1) := by decide +kernel
theorem d2_162 : decode prog_51_method_7_code 162 = .ok (.ldc 58, 2) := by decide +kernel
theorem d2_164 : decode prog_51_method_7_code 164 = .ok (.if_icmp .lt 9, 3) := by decide +kernel
theorem d2_167 : decode prog_51_method_7_code 167 = .ok (.iload_n 0, 1) := by decide +kernel
theorem d2_168 : decode prog_51_method_7_code 168 = .ok (.ldc 59, 2) := by decide +kernel
theorem d2_170 : decode prog_51_method_7_code 170 = .ok (.if_icmp .le 27, 3) := by decide +kernel
theorem d2_173 : decode prog_51_method_7_code 173 = .ok (.iload_n 0, 1) := by decide +kernel
theorem d2_174 : decode prog_51_method_7_code 174 = .ok (.ldc 60, 2) := by decide +kernel
theorem d2_176 : decode prog_51_method_7_code 176 = .ok (.if_icmp .lt 9, 3) := by decide +kernel
theorem d2_179 : decode prog_51_method_7_code 179 = .ok (.iload_n 0, 1) := by decide +kernel
theorem d2_180 : decode prog_51_method_7_code 180 = .ok (.ldc 61, 2) := by decide +kernel
theorem d2_182 : decode prog_51_method_7_code 182 = .ok (.if_icmp .le 15, 3) := by decide +kernel
theorem d2_185 : decode prog_51_method_7_code 185 = .ok (.iload_n 0, 1) := by decide +kernel
theorem d2_186 : decode prog_51_method_7_code 186 = .ok (.ldc 62, 2) := by decide +kernel
theorem d2_188 : decode prog_51_method_7_code 188 = .ok (.if_icmp .lt 13, 3) := by decide +kernel
theorem d2_191 : decode prog_51_method_7_code 191 = .ok (.iload_n 0, 1) := by decide +kernel
theorem d2_192 : decode prog_51_method_7_code 192 = .ok (.ldc 63, 2) := by decide +kernel
theorem d2_194 : decode prog_51_method_7_code 194 = .ok (.if_icmp .gt 7, 3) := by decide +kernel
theorem d2_197 : decode prog_51_method_7_code 197 = .ok (.iconst 1, 1) := by decide +kernel
theorem d2_198 : decode prog_51_method_7_code 198 = .ok (.goto 4, 3) := by decide +kernel
theorem d2_201 : decode prog_51_method_7_code 201 = .ok (.iconst 0, 1) := by decide +kernel
theorem d2_202 : decode prog_51_method_7_code 202 = .ok (.ireturn, 1) := by decide +kernel
theorem pn_2 : plainFor (⟨"com/example/mass_terms/massterms/check/XmlNames", "isNameStart", "(I)Z"⟩ : MethodName) = true := plainFor_of_name (by first | (simp [plainName, overriddenIn]; done) | decide +kernel)
theorem ef_2 (m : MethodId) (x0 : Int32) : entryFrame m #[(.int x0)] 1 = mkF m 0 #[.val (.int x0)] [] := by first | (simp [entryFrame, mkF, argsToLocals, Value.category]; done) | rfl
def F2_201 (x0 : Int32) : Int32 := (0 : Int32)
def F2_197 (x0 : Int32) : Int32 := (1 : Int32)
def F2_185 (x0 : Int32) : Int32 := (if x0 < (65536 : Int32) then (0 : Int32) else (if (983039 : Int32) < x0 then (0 : Int32) else (F2_197 x0)))
def F2_173 (x0 : Int32) : Int32 := (if x0 < (65008 : Int32) then (if x0 < (65536 : Int32) then (0 : Int32) else (if (983039 : Int32) < x0 then (0 : Int32) else (F2_197 x0))) else (if (65533 : Int32) < x0 then (F2_185 x0) else (1 : Int32)))
def F2_161 (x0 : Int32) : Int32 := (if x0 < (63744 : Int32) then (if x0 < (65008 : Int32) then (if x0 < (65536 : Int32) then (0 : Int32) else (if (983039 : Int32) < x0 then (0 : Int32) else (F2_197 x0))) else (if (65533 : Int32) < x0 then (F2_185 x0) else (1 : Int32))) else (if (64975 : Int32) < x0 then (F2_173 x0) else (1 : Int32)))
def F2_148 (x0 : Int32) : Int32 := (if x0 < (12289 : Int32) then (if x0 < (63744 : Int32) then (if x0 < (65008 : Int32) then (if x0 < (65536 : Int32) then (0 : Int32) else (if (983039 : Int32) < x0 then (0 : Int32) else (F2_197 x0))) else (if (65533 : Int32) < x0 then (F2_185 x0) else (1 : Int32))) else (if (64975 : Int32) < x0 then (F2_173 x0) else (1 : Int32))) else (if (55295 : Int32) < x0 then (F2_161 x0) else (1 : Int32)))
def F2_134 (x0 : Int32) : Int32 := (if x0 < (11264 : Int32) then (if x0 < (12289 : Int32) then (if x0 < (63744 : Int32) then (if x0 < (65008 : Int32) then (if x0 < (65536 : Int32) then (0 : Int32) else (if (983039 : Int32) < x0 then (0 : Int32) else (F2_197 x0))) else (if (65533 : Int32) < x0 then (F2_185 x0) else (1 : Int32))) else (if (64975 : Int32) < x0 then (F2_173 x0) else (1 : Int32))) else (if (55295 : Int32) < x0 then (F2_161 x0) else (1 : Int32))) else (if (12271 : Int32) < x0 then (F2_148 x0) else (1 : Int32)))
def F2_120 (x0 : Int32) : Int32 := (if x0 < (8304 : Int32) then (if x0 < (11264 : Int32) then (if x0 < (12289 : Int32) then (if x0 < (63744 : Int32) then (if x0 < (65008 : Int32) then (if x0 < (65536 : Int32) then (0 : Int32) else (if (983039 : Int32) < x0 then (0 : Int32) else (F2_197 x0))) else (if (65533 : Int32) < x0 then (F2_185 x0) else (1 : Int32))) else (if (64975 : Int32) < x0 then (F2_173 x0) else (1 : Int32))) else (if (55295 : Int32) < x0 then (F2_161 x0) else (1 : Int32))) else (if (12271 : Int32) < x0 then (F2_148 x0) else (1 : Int32))) else (if (8591 : Int32) < x0 then (F2_134 x0) else (1 : Int32)))
def F2_106 (x0 : Int32) : Int32 := (if x0 < (8204 : Int32) then (if x0 < (8304 : Int32) then (if x0 < (11264 : Int32) then (if x0 < (12289 : Int32) then (if x0 < (63744 : Int32) then (if x0 < (65008 : Int32) then (if x0 < (65536 : Int32) then (0 : Int32) else (if (983039 : Int32) < x0 then (0 : Int32) else (F2_197 x0))) else (if (65533 : Int32) < x0 then (F2_185 x0) else (1 : Int32))) else (if (64975 : Int32) < x0 then (F2_173 x0) else (1 : Int32))) else (if (55295 : Int32) < x0 then (F2_161 x0) else (1 : Int32))) else (if (12271 : Int32) < x0 then (F2_148 x0) else (1 : Int32))) else (if (8591 : Int32) < x0 then (F2_134 x0) else (1 : Int32))) else (if (8205 : Int32) < x0 then (F2_120 x0) else (1 : Int32)))
def F2_92 (x0 : Int32) : Int32 := (if x0 < (895 : Int32) then (if x0 < (8204 : Int32) then (if x0 < (8304 : Int32) then (if x0 < (11264 : Int32) then (if x0 < (12289 : Int32) then (if x0 < (63744 : Int32) then (if x0 < (65008 : Int32) then (if x0 < (65536 : Int32) then (0 : Int32) else (if (983039 : Int32) < x0 then (0 : Int32) else (F2_197 x0))) else (if (65533 : Int32) < x0 then (F2_185 x0) else (1 : Int32))) else (if (64975 : Int32) < x0 then (F2_173 x0) else (1 : Int32))) else (if (55295 : Int32) < x0 then (F2_161 x0) else (1 : Int32))) else (if (12271 : Int32) < x0 then (F2_148 x0) else (1 : Int32))) else (if (8591 : Int32) < x0 then (F2_134 x0) else (1 : Int32))) else (if (8205 : Int32) < x0 then (F2_120 x0) else (1 : Int32))) else (if (8191 : Int32) < x0 then (F2_106 x0) else (1 : Int32)))
def F2_78 (x0 : Int32) : Int32 := (if x0 < (880 : Int32) then (if x0 < (895 : Int32) then (if x0 < (8204 : Int32) then (if x0 < (8304 : Int32) then (if x0 < (11264 : Int32) then (if x0 < (12289 : Int32) then (if x0 < (63744 : Int32) then (if x0 < (65008 : Int32) then (if x0 < (65536 : Int32) then (0 : Int32) else (if (983039 : Int32) < x0 then (0 : Int32) else (F2_197 x0))) else (if (65533 : Int32) < x0 then (F2_185 x0) else (1 : Int32))) else (if (64975 : Int32) < x0 then (F2_173 x0) else (1 : Int32))) else (if (55295 : Int32) < x0 then (F2_161 x0) else (1 : Int32))) else (if (12271 : Int32) < x0 then (F2_148 x0) else (1 : Int32))) else (if (8591 : Int32) < x0 then (F2_134 x0) else (1 : Int32))) else (if (8205 : Int32) < x0 then (F2_120 x0) else (1 : Int32))) else (if (8191 : Int32) < x0 then (F2_106 x0) else (1 : Int32))) else (if (893 : Int32) < x0 then (F2_92 x0) else (1 : Int32)))
def F2_64 (x0 : Int32) : Int32 := (if x0 < (248 : Int32) then (if x0 < (880 : Int32) then (if x0 < (895 : Int32) then (if x0 < (8204 : Int32) then (if x0 < (8304 : Int32) then (if x0 < (11264 : Int32) then (if x0 < (12289 : Int32) then (if x0 < (63744 : Int32) then (if x0 < (65008 : Int32) then (if x0 < (65536 : Int32) then (0 : Int32) else (if (983039 : Int32) < x0 then (0 : Int32) else (F2_197 x0))) else (if (65533 : Int32) < x0 then (F2_185 x0) else (1 : Int32))) else (if (64975 : Int32) < x0 then (F2_173 x0) else (1 : Int32))) else (if (55295 : Int32) < x0 then (F2_161 x0) else (1 : Int32))) else (if (12271 : Int32) < x0 then (F2_148 x0) else (1 : Int32))) else (if (8591 : Int32) < x0 then (F2_134 x0) else (1 : Int32))) else (if (8205 : Int32) < x0 then (F2_120 x0) else (1 : Int32))) else (if (8191 : Int32) < x0 then (F2_106 x0) else (1 : Int32))) else (if (893 : Int32) < x0 then (F2_92 x0) else (1 : Int32))) else (if (767 : Int32) < x0 then (F2_78 x0) else (1 : Int32)))
def F2_50 (x0 : Int32) : Int32 := (if x0 < (216 : Int32) then (if x0 < (248 : Int32) then (if x0 < (880 : Int32) then (if x0 < (895 : Int32) then (if x0 < (8204 : Int32) then (if x0 < (8304 : Int32) then (if x0 < (11264 : Int32) then (if x0 < (12289 : Int32) then (if x0 < (63744 : Int32) then (if x0 < (65008 : Int32) then (if x0 < (65536 : Int32) then (0 : Int32) else (if (983039 : Int32) < x0 then (0 : Int32) else (F2_197 x0))) else (if (65533 : Int32) < x0 then (F2_185 x0) else (1 : Int32))) else (if (64975 : Int32) < x0 then (F2_173 x0) else (1 : Int32))) else (if (55295 : Int32) < x0 then (F2_161 x0) else (1 : Int32))) else (if (12271 : Int32) < x0 then (F2_148 x0) else (1 : Int32))) else (if (8591 : Int32) < x0 then (F2_134 x0) else (1 : Int32))) else (if (8205 : Int32) < x0 then (F2_120 x0) else (1 : Int32))) else (if (8191 : Int32) < x0 then (F2_106 x0) else (1 : Int32))) else (if (893 : Int32) < x0 then (F2_92 x0) else (1 : Int32))) else (if (767 : Int32) < x0 then (F2_78 x0) else (1 : Int32))) else (if (246 : Int32) < x0 then (F2_64 x0) else (1 : Int32)))
def F2_36 (x0 : Int32) : Int32 := (if x0 < (192 : Int32) then (if x0 < (216 : Int32) then (if x0 < (248 : Int32) then (if x0 < (880 : Int32) then (if x0 < (895 : Int32) then (if x0 < (8204 : Int32) then (if x0 < (8304 : Int32) then (if x0 < (11264 : Int32) then (if x0 < (12289 : Int32) then (if x0 < (63744 : Int32) then (if x0 < (65008 : Int32) then (if x0 < (65536 : Int32) then (0 : Int32) else (if (983039 : Int32) < x0 then (0 : Int32) else (F2_197 x0))) else (if (65533 : Int32) < x0 then (F2_185 x0) else (1 : Int32))) else (if (64975 : Int32) < x0 then (F2_173 x0) else (1 : Int32))) else (if (55295 : Int32) < x0 then (F2_161 x0) else (1 : Int32))) else (if (12271 : Int32) < x0 then (F2_148 x0) else (1 : Int32))) else (if (8591 : Int32) < x0 then (F2_134 x0) else (1 : Int32))) else (if (8205 : Int32) < x0 then (F2_120 x0) else (1 : Int32))) else (if (8191 : Int32) < x0 then (F2_106 x0) else (1 : Int32))) else (if (893 : Int32) < x0 then (F2_92 x0) else (1 : Int32))) else (if (767 : Int32) < x0 then (F2_78 x0) else (1 : Int32))) else (if (246 : Int32) < x0 then (F2_64 x0) else (1 : Int32))) else (if (214 : Int32) < x0 then (F2_50 x0) else (1 : Int32)))
def F2_18 (x0 : Int32) : Int32 := (if x0 = (95 : Int32) then (1 : Int32) else (if x0 < (97 : Int32) then (if x0 < (192 : Int32) then (if x0 < (216 : Int32) then (if x0 < (248 : Int32) then (if x0 < (880 : Int32) then (if x0 < (895 : Int32) then (if x0 < (8204 : Int32) then (if x0 < (8304 : Int32) then (if x0 < (11264 : Int32) then (if x0 < (12289 : Int32) then (if x0 < (63744 : Int32) then (if x0 < (65008 : Int32) then (if x0 < (65536 : Int32) then (0 : Int32) else (if (983039 : Int32) < x0 then (0 : Int32) else (F2_197 x0))) else (if (65533 : Int32) < x0 then (F2_185 x0) else (1 : Int32))) else (if (64975 : Int32) < x0 then (F2_173 x0) else (1 : Int32))) else (if (55295 : Int32) < x0 then (F2_161 x0) else (1 : Int32))) else (if (12271 : Int32) < x0 then (F2_148 x0) else (1 : Int32))) else (if (8591 : Int32) < x0 then (F2_134 x0) else (1 : Int32))) else (if (8205 : Int32) < x0 then (F2_120 x0) else (1 : Int32))) else (if (8191 : Int32) < x0 then (F2_106 x0) else (1 : Int32))) else (if (893 : Int32) < x0 then (F2_92 x0) else (1 : Int32))) else (if (767 : Int32) < x0 then (F2_78 x0) else (1 : Int32))) else (if (246 : Int32) < x0 then (F2_64 x0) else (1 : Int32))) else (if (214 : Int32) < x0 then (F2_50 x0) else (1 : Int32))) else (if (122 : Int32) < x0 then (F2_36 x0) else (1 : Int32))))
def F2 (x0 : Int32) : Int32 := (if x0 = (58 : Int32) then (1 : Int32) else (if x0 < (65 : Int32) then (if x0 = (95 : Int32) then (1 : Int32) else (if x0 < (97 : Int32) then (if x0 < (192 : Int32) then (if x0 < (216 : Int32) then (if x0 < (248 : Int32) then (if x0 < (880 : Int32) then (if x0 < (895 : Int32) then (if x0 < (8204 : Int32) then (if x0 < (8304 : Int32) then (if x0 < (11264 : Int32) then (if x0 < (12289 : Int32) then (if x0 < (63744 : Int32) then (if x0 < (65008 : Int32) then (if x0 < (65536 : Int32) then (0 : Int32) else (if (983039 : Int32) < x0 then (0 : Int32) else (F2_197 x0))) else (if (65533 : Int32) < x0 then (F2_185 x0) else (1 : Int32))) else (if (64975 : Int32) < x0 then (F2_173 x0) else (1 : Int32))) else (if (55295 : Int32) < x0 then (F2_161 x0) else (1 : Int32))) else (if (12271 : Int32) < x0 then (F2_148 x0) else (1 : Int32))) else (if (8591 : Int32) < x0 then (F2_134 x0) else (1 : Int32))) else (if (8205 : Int32) < x0 then (F2_120 x0) else (1 : Int32))) else (if (8191 : Int32) < x0 then (F2_106 x0) else (1 : Int32))) else (if (893 : Int32) < x0 then (F2_92 x0) else (1 : Int32))) else (if (767 : Int32) < x0 then (F2_78 x0) else (1 : Int32))) else (if (246 : Int32) < x0 then (F2_64 x0) else (1 : Int32))) else (if (214 : Int32) < x0 then (F2_50 x0) else (1 : Int32))) else (if (122 : Int32) < x0 then (F2_36 x0) else (1 : Int32)))) else (if (90 : Int32) < x0 then (F2_18 x0) else (1 : Int32))))
set_option maxRecDepth 65536 in
set_option maxHeartbeats 40000000 in
theorem rm2 (l : Launch) (Z : State) (a0 : Array Value) (hw : ∀ d ∈ tables_1, d.before a0 Z = true) (ws : List Jvm.Cond) (x0 : Int32)  (h0 : Heap) :
    Ctr l (⟨"com/example/mass_terms/massterms/check/XmlNames", "isNameStart", "(I)Z"⟩ : MethodName) prog_51_method_7_code 1 (some .boolean) ws ({ frames := 0, cells := 0, slots := 0, locals := 0 } : Room) Z #[(.int x0)] h0 (PQ (.int (F2 x0)) h0) 0 0 := by
  refine Ctr.mk pn_2 ?_
  intro p e s m below meth c T hx hby hml hown hnm hlk hret hZ X eT
  refine enter (ef_2 m x0) ?_
  obtain ⟨res, hres⟩ : ∃ r, r = F2 x0 := ⟨_, rfl⟩
  rw [← hres]
  have cut201 : res = F2_201 x0 → Go p e below (Gl s below (PQ (.int res) h0) 0 0) T m 201 #[.val (.int x0)] [] := by
    intro hres
    refine s_iconst X hx (z := (0 : Int32)) (hb hby d2_201) rfl (q := 202) rfl ?_
    exact leafN X hx hlk hret (by simp) (hb hby d2_202) (Nat.le_refl _) (Nat.le_refl _) (z' := (0 : Int32)) rfl ⟨congrArg (fun z => some (Value.int z)) (hres.trans (by unfold F2_201; rfl)).symm, eT, rfl⟩
  have cut197 : res = F2_197 x0 → Go p e below (Gl s below (PQ (.int res) h0) 0 0) T m 197 #[.val (.int x0)] [] := by
    intro hres
    refine s_iconst X hx (z := (1 : Int32)) (hb hby d2_197) rfl (q := 198) rfl ?_
    refine s_goto X hx (hb hby d2_198) (q1 := 202) (by decide) (by decide) ?_
    exact leafN X hx hlk hret (by simp) (hb hby d2_202) (Nat.le_refl _) (Nat.le_refl _) (z' := (1 : Int32)) rfl ⟨congrArg (fun z => some (Value.int z)) (hres.trans (by unfold F2_197; rfl)).symm, eT, rfl⟩
  have cut185 : res = F2_185 x0 → Go p e below (Gl s below (PQ (.int res) h0) 0 0) T m 185 #[.val (.int x0)] [] := by
    intro hres
    refine s_iloadN X hx (hb hby d2_185) rfl (q := 186) rfl ?_
    refine s_ldc X hx hZ hown (hw _ (List.mem_of_getElem? (i := 18) rfl)) (hb hby d2_186) (q := 188) rfl ?_
    refine f_icmp_lt X hx (hb hby d2_188) (q1 := 201) (by decide) (by decide) (q := 191) rfl (fun hc188 => ?_) (fun hc188 => ?_)
    · refine s_iconst X hx (z := (0 : Int32)) (hb hby d2_201) rfl (q := 202) rfl ?_
      exact leafN X hx hlk hret (by simp) (hb hby d2_202) (Nat.le_refl _) (Nat.le_refl _) (z' := (0 : Int32)) rfl ⟨congrArg (fun z => some (Value.int z)) (hres.trans (by unfold F2_185; rw [if_pos hc188])).symm, eT, rfl⟩
    refine s_iloadN X hx (hb hby d2_191) rfl (q := 192) rfl ?_
    refine s_ldc X hx hZ hown (hw _ (List.mem_of_getElem? (i := 28) rfl)) (hb hby d2_192) (q := 194) rfl ?_
    refine f_icmp_gt X hx (hb hby d2_194) (q1 := 201) (by decide) (by decide) (q := 197) rfl (fun hc194 => ?_) (fun hc194 => ?_)
    · refine s_iconst X hx (z := (0 : Int32)) (hb hby d2_201) rfl (q := 202) rfl ?_
      exact leafN X hx hlk hret (by simp) (hb hby d2_202) (Nat.le_refl _) (Nat.le_refl _) (z' := (0 : Int32)) rfl ⟨congrArg (fun z => some (Value.int z)) (hres.trans (by unfold F2_185; rw [if_neg hc188, if_pos hc194])).symm, eT, rfl⟩
    exact cut197 (hres.trans (by unfold F2_185; rw [if_neg hc188, if_neg hc194]))
  have cut173 : res = F2_173 x0 → Go p e below (Gl s below (PQ (.int res) h0) 0 0) T m 173 #[.val (.int x0)] [] := by
    intro hres
    refine s_iloadN X hx (hb hby d2_173) rfl (q := 174) rfl ?_
    refine s_ldc X hx hZ hown (hw _ (List.mem_of_getElem? (i := 17) rfl)) (hb hby d2_174) (q := 176) rfl ?_
    refine f_icmp_lt X hx (hb hby d2_176) (q1 := 185) (by decide) (by decide) (q := 179) rfl (fun hc176 => ?_) (fun hc176 => ?_)
    · refine s_iloadN X hx (hb hby d2_185) rfl (q := 186) rfl ?_
      refine s_ldc X hx hZ hown (hw _ (List.mem_of_getElem? (i := 18) rfl)) (hb hby d2_186) (q := 188) rfl ?_
      refine f_icmp_lt X hx (hb hby d2_188) (q1 := 201) (by decide) (by decide) (q := 191) rfl (fun hc188 => ?_) (fun hc188 => ?_)
      · refine s_iconst X hx (z := (0 : Int32)) (hb hby d2_201) rfl (q := 202) rfl ?_
        exact leafN X hx hlk hret (by simp) (hb hby d2_202) (Nat.le_refl _) (Nat.le_refl _) (z' := (0 : Int32)) rfl ⟨congrArg (fun z => some (Value.int z)) (hres.trans (by unfold F2_173; rw [if_pos hc176, if_pos hc188])).symm, eT, rfl⟩
      refine s_iloadN X hx (hb hby d2_191) rfl (q := 192) rfl ?_
      refine s_ldc X hx hZ hown (hw _ (List.mem_of_getElem? (i := 28) rfl)) (hb hby d2_192) (q := 194) rfl ?_
      refine f_icmp_gt X hx (hb hby d2_194) (q1 := 201) (by decide) (by decide) (q := 197) rfl (fun hc194 => ?_) (fun hc194 => ?_)
      · refine s_iconst X hx (z := (0 : Int32)) (hb hby d2_201) rfl (q := 202) rfl ?_
        exact leafN X hx hlk hret (by simp) (hb hby d2_202) (Nat.le_refl _) (Nat.le_refl _) (z' := (0 : Int32)) rfl ⟨congrArg (fun z => some (Value.int z)) (hres.trans (by unfold F2_173; rw [if_pos hc176, if_neg hc188, if_pos hc194])).symm, eT, rfl⟩
      exact cut197 (hres.trans (by unfold F2_173; rw [if_pos hc176, if_neg hc188, if_neg hc194]))
    refine s_iloadN X hx (hb hby d2_179) rfl (q := 180) rfl ?_
    refine s_ldc X hx hZ hown (hw _ (List.mem_of_getElem? (i := 27) rfl)) (hb hby d2_180) (q := 182) rfl ?_
    refine f_icmp_le X hx (hb hby d2_182) (q1 := 197) (by decide) (by decide) (q := 185) rfl (fun hc182 => ?_) (fun hc182 => ?_)
    · refine s_iconst X hx (z := (1 : Int32)) (hb hby d2_197) rfl (q := 198) rfl ?_
      refine s_goto X hx (hb hby d2_198) (q1 := 202) (by decide) (by decide) ?_
      exact leafN X hx hlk hret (by simp) (hb hby d2_202) (Nat.le_refl _) (Nat.le_refl _) (z' := (1 : Int32)) rfl ⟨congrArg (fun z => some (Value.int z)) (hres.trans (by unfold F2_173; rw [if_neg hc176, if_neg hc182])).symm, eT, rfl⟩
    exact cut185 (hres.trans (by unfold F2_173; rw [if_neg hc176, if_pos hc182]))
  have cut161 : res = F2_161 x0 → Go p e below (Gl s below (PQ (.int res) h0) 0 0) T m 161 #[.val (.int x0)] [] := by
    intro hres
    refine s_iloadN X hx (hb hby d2_161) rfl (q := 162) rfl ?_
    refine s_ldc X hx hZ hown (hw _ (List.mem_of_getElem? (i := 16) rfl)) (hb hby d2_162) (q := 164) rfl ?_
    refine f_icmp_lt X hx (hb hby d2_164) (q1 := 173) (by decide) (by decide) (q := 167) rfl (fun hc164 => ?_) (fun hc164 => ?_)
    · refine s_iloadN X hx (hb hby d2_173) rfl (q := 174) rfl ?_
      refine s_ldc X hx hZ hown (hw _ (List.mem_of_getElem? (i := 17) rfl)) (hb hby d2_174) (q := 176) rfl ?_
      refine f_icmp_lt X hx (hb hby d2_176) (q1 := 185) (by decide) (by decide) (q := 179) rfl (fun hc176 => ?_) (fun hc176 => ?_)
      · refine s_iloadN X hx (hb hby d2_185) rfl (q := 186) rfl ?_
        refine s_ldc X hx hZ hown (hw _ (List.mem_of_getElem? (i := 18) rfl)) (hb hby d2_186) (q := 188) rfl ?_
        refine f_icmp_lt X hx (hb hby d2_188) (q1 := 201) (by decide) (by decide) (q := 191) rfl (fun hc188 => ?_) (fun hc188 => ?_)
        · refine s_iconst X hx (z := (0 : Int32)) (hb hby d2_201) rfl (q := 202) rfl ?_
          exact leafN X hx hlk hret (by simp) (hb hby d2_202) (Nat.le_refl _) (Nat.le_refl _) (z' := (0 : Int32)) rfl ⟨congrArg (fun z => some (Value.int z)) (hres.trans (by unfold F2_161; rw [if_pos hc164, if_pos hc176, if_pos hc188])).symm, eT, rfl⟩
        refine s_iloadN X hx (hb hby d2_191) rfl (q := 192) rfl ?_
        refine s_ldc X hx hZ hown (hw _ (List.mem_of_getElem? (i := 28) rfl)) (hb hby d2_192) (q := 194) rfl ?_
        refine f_icmp_gt X hx (hb hby d2_194) (q1 := 201) (by decide) (by decide) (q := 197) rfl (fun hc194 => ?_) (fun hc194 => ?_)
        · refine s_iconst X hx (z := (0 : Int32)) (hb hby d2_201) rfl (q := 202) rfl ?_
          exact leafN X hx hlk hret (by simp) (hb hby d2_202) (Nat.le_refl _) (Nat.le_refl _) (z' := (0 : Int32)) rfl ⟨congrArg (fun z => some (Value.int z)) (hres.trans (by unfold F2_161; rw [if_pos hc164, if_pos hc176, if_neg hc188, if_pos hc194])).symm, eT, rfl⟩
        exact cut197 (hres.trans (by unfold F2_161; rw [if_pos hc164, if_pos hc176, if_neg hc188, if_neg hc194]))
      refine s_iloadN X hx (hb hby d2_179) rfl (q := 180) rfl ?_
      refine s_ldc X hx hZ hown (hw _ (List.mem_of_getElem? (i := 27) rfl)) (hb hby d2_180) (q := 182) rfl ?_
      refine f_icmp_le X hx (hb hby d2_182) (q1 := 197) (by decide) (by decide) (q := 185) rfl (fun hc182 => ?_) (fun hc182 => ?_)
      · refine s_iconst X hx (z := (1 : Int32)) (hb hby d2_197) rfl (q := 198) rfl ?_
        refine s_goto X hx (hb hby d2_198) (q1 := 202) (by decide) (by decide) ?_
        exact leafN X hx hlk hret (by simp) (hb hby d2_202) (Nat.le_refl _) (Nat.le_refl _) (z' := (1 : Int32)) rfl ⟨congrArg (fun z => some (Value.int z)) (hres.trans (by unfold F2_161; rw [if_pos hc164, if_neg hc176, if_neg hc182])).symm, eT, rfl⟩
      exact cut185 (hres.trans (by unfold F2_161; rw [if_pos hc164, if_neg hc176, if_pos hc182]))
    refine s_iloadN X hx (hb hby d2_167) rfl (q := 168) rfl ?_
    refine s_ldc X hx hZ hown (hw _ (List.mem_of_getElem? (i := 26) rfl)) (hb hby d2_168) (q := 170) rfl ?_
    refine f_icmp_le X hx (hb hby d2_170) (q1 := 197) (by decide) (by decide) (q := 173) rfl (fun hc170 => ?_) (fun hc170 => ?_)
    · refine s_iconst X hx (z := (1 : Int32)) (hb hby d2_197) rfl (q := 198) rfl ?_
      refine s_goto X hx (hb hby d2_198) (q1 := 202) (by decide) (by decide) ?_
      exact leafN X hx hlk hret (by simp) (hb hby d2_202) (Nat.le_refl _) (Nat.le_refl _) (z' := (1 : Int32)) rfl ⟨congrArg (fun z => some (Value.int z)) (hres.trans (by unfold F2_161; rw [if_neg hc164, if_neg hc170])).symm, eT, rfl⟩
    exact cut173 (hres.trans (by unfold F2_161; rw [if_neg hc164, if_pos hc170]))
  have cut148 : res = F2_148 x0 → Go p e below (Gl s below (PQ (.int res) h0) 0 0) T m 148 #[.val (.int x0)] [] := by
    intro hres
    refine s_iloadN X hx (hb hby d2_148) rfl (q := 149) rfl ?_
    refine s_sipush X hx (z := (12289 : Int32)) (hb hby d2_149) rfl (q := 152) rfl ?_
    refine f_icmp_lt X hx (hb hby d2_152) (q1 := 161) (by decide) (by decide) (q := 155) rfl (fun hc152 => ?_) (fun hc152 => ?_)
    · refine s_iloadN X hx (hb hby d2_161) rfl (q := 162) rfl ?_
      refine s_ldc X hx hZ hown (hw _ (List.mem_of_getElem? (i := 16) rfl)) (hb hby d2_162) (q := 164) rfl ?_
      refine f_icmp_lt X hx (hb hby d2_164) (q1 := 173) (by decide) (by decide) (q := 167) rfl (fun hc164 => ?_) (fun hc164 => ?_)
      · refine s_iloadN X hx (hb hby d2_173) rfl (q := 174) rfl ?_
        refine s_ldc X hx hZ hown (hw _ (List.mem_of_getElem? (i := 17) rfl)) (hb hby d2_174) (q := 176) rfl ?_
        refine f_icmp_lt X hx (hb hby d2_176) (q1 := 185) (by decide) (by decide) (q := 179) rfl (fun hc176 => ?_) (fun hc176 => ?_)
        · refine s_iloadN X hx (hb hby d2_185) rfl (q := 186) rfl ?_
          refine s_ldc X hx hZ hown (hw _ (List.mem_of_getElem? (i := 18) rfl)) (hb hby d2_186) (q := 188) rfl ?_
          refine f_icmp_lt X hx (hb hby d2_188) (q1 := 201) (by decide) (by decide) (q := 191) rfl (fun hc188 => ?_) (fun hc188 => ?_)
          · refine s_iconst X hx (z := (0 : Int32)) (hb hby d2_201) rfl (q := 202) rfl ?_
            exact leafN X hx hlk hret (by simp) (hb hby d2_202) (Nat.le_refl _) (Nat.le_refl _) (z' := (0 : Int32)) rfl ⟨congrArg (fun z => some (Value.int z)) (hres.trans (by unfold F2_148; rw [if_pos hc152, if_pos hc164, if_pos hc176, if_pos hc188])).symm, eT, rfl⟩
          refine s_iloadN X hx (hb hby d2_191) rfl (q := 192) rfl ?_
          refine s_ldc X hx hZ hown (hw _ (List.mem_of_getElem? (i := 28) rfl)) (hb hby d2_192) (q := 194) rfl ?_
          refine f_icmp_gt X hx (hb hby d2_194) (q1 := 201) (by decide) (by decide) (q := 197) rfl (fun hc194 => ?_) (fun hc194 => ?_)
          · refine s_iconst X hx (z := (0 : Int32)) (hb hby d2_201) rfl (q := 202) rfl ?_
            exact leafN X hx hlk hret (by simp) (hb hby d2_202) (Nat.le_refl _) (Nat.le_refl _) (z' := (0 : Int32)) rfl ⟨congrArg (fun z => some (Value.int z)) (hres.trans (by unfold F2_148; rw [if_pos hc152, if_pos hc164, if_pos hc176, if_neg hc188, if_pos hc194])).symm, eT, rfl⟩
          exact cut197 (hres.trans (by unfold F2_148; rw [if_pos hc152, if_pos hc164, if_pos hc176, if_neg hc188, if_neg hc194]))
        refine s_iloadN X hx (hb hby d2_179) rfl (q := 180) rfl ?_
        refine s_ldc X hx hZ hown (hw _ (List.mem_of_getElem? (i := 27) rfl)) (hb hby d2_180) (q := 182) rfl ?_
        refine f_icmp_le X hx (hb hby d2_182) (q1 := 197) (by decide) (by decide) (q := 185) rfl (fun hc182 => ?_) (fun hc182 => ?_)
        · refine s_iconst X hx (z := (1 : Int32)) (hb hby d2_197) rfl (q := 198) rfl ?_
          refine s_goto X hx (hb hby d2_198) (q1 := 202) (by decide) (by decide) ?_
          exact leafN X hx hlk hret (by simp) (hb hby d2_202) (Nat.le_refl _) (Nat.le_refl _) (z' := (1 : Int32)) rfl ⟨congrArg (fun z => some (Value.int z)) (hres.trans (by unfold F2_148; rw [if_pos hc152, if_pos hc164, if_neg hc176, if_neg hc182])).symm, eT, rfl⟩
        exact cut185 (hres.trans (by unfold F2_148; rw [if_pos hc152, if_pos hc164, if_neg hc176, if_pos hc182]))
      refine s_iloadN X hx (hb hby d2_167) rfl (q := 168) rfl ?_
      refine s_ldc X hx hZ hown (hw _ (List.mem_of_getElem? (i := 26) rfl)) (hb hby d2_168) (q := 170) rfl ?_
      refine f_icmp_le X hx (hb hby d2_170) (q1 := 197) (by decide) (by decide) (q := 173) rfl (fun hc170 => ?_) (fun hc170 => ?_)
      · refine s_iconst X hx (z := (1 : Int32)) (hb hby d2_197) rfl (q := 198) rfl ?_
        refine s_goto X hx (hb hby d2_198) (q1 := 202) (by decide) (by decide) ?_
        exact leafN X hx hlk hret (by simp) (hb hby d2_202) (Nat.le_refl _) (Nat.le_refl _) (z' := (1 : Int32)) rfl ⟨congrArg (fun z => some (Value.int z)) (hres.trans (by unfold F2_148; rw [if_pos hc152, if_neg hc164, if_neg hc170])).symm, eT, rfl⟩
      exact cut173 (hres.trans (by unfold F2_148; rw [if_pos hc152, if_neg hc164, if_pos hc170]))
    refine s_iloadN X hx (hb hby d2_155) rfl (q := 156) rfl ?_
    refine s_ldc X hx hZ hown (hw _ (List.mem_of_getElem? (i := 25) rfl)) (hb hby d2_156) (q := 158) rfl ?_
    refine f_icmp_le X hx (hb hby d2_158) (q1 := 197) (by decide) (by decide) (q := 161) rfl (fun hc158 => ?_) (fun hc158 => ?_)
    · refine s_iconst X hx (z := (1 : Int32)) (hb hby d2_197) rfl (q := 198) rfl ?_
      refine s_goto X hx (hb hby d2_198) (q1 := 202) (by decide) (by decide) ?_
      exact leafN X hx hlk hret (by simp) (hb hby d2_202) (Nat.le_refl _) (Nat.le_refl _) (z' := (1 : Int32)) rfl ⟨congrArg (fun z => some (Value.int z)) (hres.trans (by unfold F2_148; rw [if_neg hc152, if_neg hc158])).symm, eT, rfl⟩
    exact cut161 (hres.trans (by unfold F2_148; rw [if_neg hc152, if_pos hc158]))
  have cut134 : res = F2_134 x0 → Go p e below (Gl s below (PQ (.int res) h0) 0 0) T m 134 #[.val (.int x0)] [] := by
    intro hres
    refine s_iloadN X hx (hb hby d2_134) rfl (q := 135) rfl ?_
    refine s_sipush X hx (z := (11264 : Int32)) (hb hby d2_135) rfl (q := 138) rfl ?_
    refine f_icmp_lt X hx (hb hby d2_138) (q1 := 148) (by decide) (by decide) (q := 141) rfl (fun hc138 => ?_) (fun hc138 => ?_)
    · refine s_iloadN X hx (hb hby d2_148) rfl (q := 149) rfl ?_
      refine s_sipush X hx (z := (12289 : Int32)) (hb hby d2_149) rfl (q := 152) rfl ?_
      refine f_icmp_lt X hx (hb hby d2_152) (q1 := 161) (by decide) (by decide) (q := 155) rfl (fun hc152 => ?_) (fun hc152 => ?_)
      · refine s_iloadN X hx (hb hby d2_161) rfl (q := 162) rfl ?_
        refine s_ldc X hx hZ hown (hw _ (List.mem_of_getElem? (i := 16) rfl)) (hb hby d2_162) (q := 164) rfl ?_
        refine f_icmp_lt X hx (hb hby d2_164) (q1 := 173) (by decide) (by decide) (q := 167) rfl (fun hc164 => ?_) (fun hc164 => ?_)
        · refine s_iloadN X hx (hb hby d2_173) rfl (q := 174) rfl ?_
          refine s_ldc X hx hZ hown (hw _ (List.mem_of_getElem? (i := 17) rfl)) (hb hby d2_174) (q := 176) rfl ?_
          refine f_icmp_lt X hx (hb hby d2_176) (q1 := 185) (by decide) (by decide) (q := 179) rfl (fun hc176 => ?_) (fun hc176 => ?_)
          · refine s_iloadN X hx (hb hby d2_185) rfl (q := 186) rfl ?_
            refine s_ldc X hx hZ hown (hw _ (List.mem_of_getElem? (i := 18) rfl)) (hb hby d2_186) (q := 188) rfl ?_
            refine f_icmp_lt X hx (hb hby d2_188) (q1 := 201) (by decide) (by decide) (q := 191) rfl (fun hc188 => ?_) (fun hc188 => ?_)
            · refine s_iconst X hx (z := (0 : Int32)) (hb hby d2_201) rfl (q := 202) rfl ?_
              exact leafN X hx hlk hret (by simp) (hb hby d2_202) (Nat.le_refl _) (Nat.le_refl _) (z' := (0 : Int32)) rfl ⟨congrArg (fun z => some (Value.int z)) (hres.trans (by unfold F2_134; rw [if_pos hc138, if_pos hc152, if_pos hc164, if_pos hc176, if_pos hc188])).symm, eT, rfl⟩
            refine s_iloadN X hx (hb hby d2_191) rfl (q := 192) rfl ?_
            refine s_ldc X hx hZ hown (hw _ (List.mem_of_getElem? (i := 28) rfl)) (hb hby d2_192) (q := 194) rfl ?_
            refine f_icmp_gt X hx (hb hby d2_194) (q1 := 201) (by decide) (by decide) (q := 197) rfl (fun hc194 => ?_) (fun hc194 => ?_)
            · refine s_iconst X hx (z := (0 : Int32)) (hb hby d2_201) rfl (q := 202) rfl ?_
              exact leafN X hx hlk hret (by simp) (hb hby d2_202) (Nat.le_refl _) (Nat.le_refl _) (z' := (0 : Int32)) rfl ⟨congrArg (fun z => some (Value.int z)) (hres.trans (by unfold F2_134; rw [if_pos hc138, if_pos hc152, if_pos hc164, if_pos hc176, if_neg hc188, if_pos hc194])).symm, eT, rfl⟩
            exact cut197 (hres.trans (by unfold F2_134; rw [if_pos hc138, if_pos hc152, if_pos hc164, if_pos hc176, if_neg hc188, if_neg hc194]))
          refine s_iloadN X hx (hb hby d2_179) rfl (q := 180) rfl ?_
          refine s_ldc X hx hZ hown (hw _ (List.mem_of_getElem? (i := 27) rfl)) (hb hby d2_180) (q := 182) rfl ?_
          refine f_icmp_le X hx (hb hby d2_182) (q1 := 197) (by decide) (by decide) (q := 185) rfl (fun hc182 => ?_) (fun hc182 => ?_)
          · refine s_iconst X hx (z := (1 : Int32)) (hb hby d2_197) rfl (q := 198) rfl ?_
            refine s_goto X hx (hb hby d2_198) (q1 := 202) (by decide) (by decide) ?_
            exact leafN X hx hlk hret (by simp) (hb hby d2_202) (Nat.le_refl _) (Nat.le_refl _) (z' := (1 : Int32)) rfl ⟨congrArg (fun z => some (Value.int z)) (hres.trans (by unfold F2_134; rw [if_pos hc138, if_pos hc152, if_pos hc164, if_neg hc176, if_neg hc182])).symm, eT, rfl⟩
          exact cut185 (hres.trans (by unfold F2_134; rw [if_pos hc138, if_pos hc152, if_pos hc164, if_neg hc176, if_pos hc182]))
        refine s_iloadN X hx (hb hby d2_167) rfl (q := 168) rfl ?_
        refine s_ldc X hx hZ hown (hw _ (List.mem_of_getElem? (i := 26) rfl)) (hb hby d2_168) (q := 170) rfl ?_
        refine f_icmp_le X hx (hb hby d2_170) (q1 := 197) (by decide) (by decide) (q := 173) rfl (fun hc170 => ?_) (fun hc170 => ?_)
        · refine s_iconst X hx (z := (1 : Int32)) (hb hby d2_197) rfl (q := 198) rfl ?_
          refine s_goto X hx (hb hby d2_198) (q1 := 202) (by decide) (by decide) ?_
          exact leafN X hx hlk hret (by simp) (hb hby d2_202) (Nat.le_refl _) (Nat.le_refl _) (z' := (1 : Int32)) rfl ⟨congrArg (fun z => some (Value.int z)) (hres.trans (by unfold F2_134; rw [if_pos hc138, if_pos hc152, if_neg hc164, if_neg hc170])).symm, eT, rfl⟩
        exact cut173 (hres.trans (by unfold F2_134; rw [if_pos hc138, if_pos hc152, if_neg hc164, if_pos hc170]))
      refine s_iloadN X hx (hb hby d2_155) rfl (q := 156) rfl ?_
      refine s_ldc X hx hZ hown (hw _ (List.mem_of_getElem? (i := 25) rfl)) (hb hby d2_156) (q := 158) rfl ?_
      refine f_icmp_le X hx (hb hby d2_158) (q1 := 197) (by decide) (by decide) (q := 161) rfl (fun hc158 => ?_) (fun hc158 => ?_)
      · refine s_iconst X hx (z := (1 : Int32)) (hb hby d2_197) rfl (q := 198) rfl ?_
        refine s_goto X hx (hb hby d2_198) (q1 := 202) (by decide) (by decide) ?_
        exact leafN X hx hlk hret (by simp) (hb hby d2_202) (Nat.le_refl _) (Nat.le_refl _) (z' := (1 : Int32)) rfl ⟨congrArg (fun z => some (Value.int z)) (hres.trans (by unfold F2_134; rw [if_pos hc138, if_neg hc152, if_neg hc158])).symm, eT, rfl⟩
      exact cut161 (hres.trans (by unfold F2_134; rw [if_pos hc138, if_neg hc152, if_pos hc158]))
    refine s_iloadN X hx (hb hby d2_141) rfl (q := 142) rfl ?_
    refine s_sipush X hx (z := (12271 : Int32)) (hb hby d2_142) rfl (q := 145) rfl ?_
    refine f_icmp_le X hx (hb hby d2_145) (q1 := 197) (by decide) (by decide) (q := 148) rfl (fun hc145 => ?_) (fun hc145 => ?_)
    · refine s_iconst X hx (z := (1 : Int32)) (hb hby d2_197) rfl (q := 198) rfl ?_
      refine s_goto X hx (hb hby d2_198) (q1 := 202) (by decide) (by decide) ?_
      exact leafN X hx hlk hret (by simp) (hb hby d2_202) (Nat.le_refl _) (Nat.le_refl _) (z' := (1 : Int32)) rfl ⟨congrArg (fun z => some (Value.int z)) (hres.trans (by unfold F2_134; rw [if_neg hc138, if_neg hc145])).symm, eT, rfl⟩
    exact cut148 (hres.trans (by unfold F2_134; rw [if_neg hc138, if_pos hc145]))
  have cut120 : res = F2_120 x0 → Go p e below (Gl s below (PQ (.int res) h0) 0 0) T m 120 #[.val (.int x0)] [] := by
    intro hres
    refine s_iloadN X hx (hb hby d2_120) rfl (q := 121) rfl ?_
    refine s_sipush X hx (z := (8304 : Int32)) (hb hby d2_121) rfl (q := 124) rfl ?_
    refine f_icmp_lt X hx (hb hby d2_124) (q1 := 134) (by decide) (by decide) (q := 127) rfl (fun hc124 => ?_) (fun hc124 => ?_)
    · refine s_iloadN X hx (hb hby d2_134) rfl (q := 135) rfl ?_
      refine s_sipush X hx (z := (11264 : Int32)) (hb hby d2_135) rfl (q := 138) rfl ?_
      refine f_icmp_lt X hx (hb hby d2_138) (q1 := 148) (by decide) (by decide) (q := 141) rfl (fun hc138 => ?_) (fun hc138 => ?_)
      · refine s_iloadN X hx (hb hby d2_148) rfl (q := 149) rfl ?_
        refine s_sipush X hx (z := (12289 : Int32)) (hb hby d2_149) rfl (q := 152) rfl ?_
        refine f_icmp_lt X hx (hb hby d2_152) (q1 := 161) (by decide) (by decide) (q := 155) rfl (fun hc152 => ?_) (fun hc152 => ?_)
        · refine s_iloadN X hx (hb hby d2_161) rfl (q := 162) rfl ?_
          refine s_ldc X hx hZ hown (hw _ (List.mem_of_getElem? (i := 16) rfl)) (hb hby d2_162) (q := 164) rfl ?_
          refine f_icmp_lt X hx (hb hby d2_164) (q1 := 173) (by decide) (by decide) (q := 167) rfl (fun hc164 => ?_) (fun hc164 => ?_)
          · refine s_iloadN X hx (hb hby d2_173) rfl (q := 174) rfl ?_
            refine s_ldc X hx hZ hown (hw _ (List.mem_of_getElem? (i := 17) rfl)) (hb hby d2_174) (q := 176) rfl ?_
            refine f_icmp_lt X hx (hb hby d2_176) (q1 := 185) (by decide) (by decide) (q := 179) rfl (fun hc176 => ?_) (fun hc176 => ?_)
            · refine s_iloadN X hx (hb hby d2_185) rfl (q := 186) rfl ?_
              refine s_ldc X hx hZ hown (hw _ (List.mem_of_getElem? (i := 18) rfl)) (hb hby d2_186) (q := 188) rfl ?_
              refine f_icmp_lt X hx (hb hby d2_188) (q1 := 201) (by decide) (by decide) (q := 191) rfl (fun hc188 => ?_) (fun hc188 => ?_)
              · refine s_iconst X hx (z := (0 : Int32)) (hb hby d2_201) rfl (q := 202) rfl ?_
                exact leafN X hx hlk hret (by simp) (hb hby d2_202) (Nat.le_refl _) (Nat.le_refl _) (z' := (0 : Int32)) rfl ⟨congrArg (fun z => some (Value.int z)) (hres.trans (by unfold F2_120; rw [if_pos hc124, if_pos hc138, if_pos hc152, if_pos hc164, if_pos hc176, if_pos hc188])).symm, eT, rfl⟩
              refine s_iloadN X hx (hb hby d2_191) rfl (q := 192) rfl ?_
              refine s_ldc X hx hZ hown (hw _ (List.mem_of_getElem? (i := 28) rfl)) (hb hby d2_192) (q := 194) rfl ?_
              refine f_icmp_gt X hx (hb hby d2_194) (q1 := 201) (by decide) (by decide) (q := 197) rfl (fun hc194 => ?_) (fun hc194 => ?_)
              · refine s_iconst X hx (z := (0 : Int32)) (hb hby d2_201) rfl (q := 202) rfl ?_
                exact leafN X hx hlk hret (by simp) (hb hby d2_202) (Nat.le_refl _) (Nat.le_refl _) (z' := (0 : Int32)) rfl ⟨congrArg (fun z => some (Value.int z)) (hres.trans (by unfold F2_120; rw [if_pos hc124, if_pos hc138, if_pos hc152, if_pos hc164, if_pos hc176, if_neg hc188, if_pos hc194])).symm, eT, rfl⟩
              exact cut197 (hres.trans (by unfold F2_120; rw [if_pos hc124, if_pos hc138, if_pos hc152, if_pos hc164, if_pos hc176, if_neg hc188, if_neg hc194]))
            refine s_iloadN X hx (hb hby d2_179) rfl (q := 180) rfl ?_
            refine s_ldc X hx hZ hown (hw _ (List.mem_of_getElem? (i := 27) rfl)) (hb hby d2_180) (q := 182) rfl ?_
            refine f_icmp_le X hx (hb hby d2_182) (q1 := 197) (by decide) (by decide) (q := 185) rfl (fun hc182 => ?_) (fun hc182 => ?_)
            · refine s_iconst X hx (z := (1 : Int32)) (hb hby d2_197) rfl (q := 198) rfl ?_
              refine s_goto X hx (hb hby d2_198) (q1 := 202) (by decide) (by decide) ?_
              exact leafN X hx hlk hret (by simp) (hb hby d2_202) (Nat.le_refl _) (Nat.le_refl _) (z' := (1 : Int32)) rfl ⟨congrArg (fun z => some (Value.int z)) (hres.trans (by unfold F2_120; rw [if_pos hc124, if_pos hc138, if_pos hc152, if_pos hc164, if_neg hc176, if_neg hc182])).symm, eT, rfl⟩
            exact cut185 (hres.trans (by unfold F2_120; rw [if_pos hc124, if_pos hc138, if_pos hc152, if_pos hc164, if_neg hc176, if_pos hc182]))
          refine s_iloadN X hx (hb hby d2_167) rfl (q := 168) rfl ?_
          refine s_ldc X hx hZ hown (hw _ (List.mem_of_getElem? (i := 26) rfl)) (hb hby d2_168) (q := 170) rfl ?_
          refine f_icmp_le X hx (hb hby d2_170) (q1 := 197) (by decide) (by decide) (q := 173) rfl (fun hc170 => ?_) (fun hc170 => ?_)
          · refine s_iconst X hx (z := (1 : Int32)) (hb hby d2_197) rfl (q := 198) rfl ?_
            refine s_goto X hx (hb hby d2_198) (q1 := 202) (by decide) (by decide) ?_
            exact leafN X hx hlk hret (by simp) (hb hby d2_202) (Nat.le_refl _) (Nat.le_refl _) (z' := (1 : Int32)) rfl ⟨congrArg (fun z => some (Value.int z)) (hres.trans (by unfold F2_120; rw [if_pos hc124, if_pos hc138, if_pos hc152, if_neg hc164, if_neg hc170])).symm, eT, rfl⟩
          exact cut173 (hres.trans (by unfold F2_120; rw [if_pos hc124, if_pos hc138, if_pos hc152, if_neg hc164, if_pos hc170]))
        refine s_iloadN X hx (hb hby d2_155) rfl (q := 156) rfl ?_
        refine s_ldc X hx hZ hown (hw _ (List.mem_of_getElem? (i := 25) rfl)) (hb hby d2_156) (q := 158) rfl ?_
        refine f_icmp_le X hx (hb hby d2_158) (q1 := 197) (by decide) (by decide) (q := 161) rfl (fun hc158 => ?_) (fun hc158 => ?_)
        · refine s_iconst X hx (z := (1 : Int32)) (hb hby d2_197) rfl (q := 198) rfl ?_
          refine s_goto X hx (hb hby d2_198) (q1 := 202) (by decide) (by decide) ?_
          exact leafN X hx hlk hret (by simp) (hb hby d2_202) (Nat.le_refl _) (Nat.le_refl _) (z' := (1 : Int32)) rfl ⟨congrArg (fun z => some (Value.int z)) (hres.trans (by unfold F2_120; rw [if_pos hc124, if_pos hc138, if_neg hc152, if_neg hc158])).symm, eT, rfl⟩
        exact cut161 (hres.trans (by unfold F2_120; rw [if_pos hc124, if_pos hc138, if_neg hc152, if_pos hc158]))
      refine s_iloadN X hx (hb hby d2_141) rfl (q := 142) rfl ?_
      refine s_sipush X hx (z := (12271 : Int32)) (hb hby d2_142) rfl (q := 145) rfl ?_
      refine f_icmp_le X hx (hb hby d2_145) (q1 := 197) (by decide) (by decide) (q := 148) rfl (fun hc145 => ?_) (fun hc145 => ?_)
      · refine s_iconst X hx (z := (1 : Int32)) (hb hby d2_197) rfl (q := 198) rfl ?_
        refine s_goto X hx (hb hby d2_198) (q1 := 202) (by decide) (by decide) ?_
        exact leafN X hx hlk hret (by simp) (hb hby d2_202) (Nat.le_refl _) (Nat.le_refl _) (z' := (1 : Int32)) rfl ⟨congrArg (fun z => some (Value.int z)) (hres.trans (by unfold F2_120; rw [if_pos hc124, if_neg hc138, if_neg hc145])).symm, eT, rfl⟩
      exact cut148 (hres.trans (by unfold F2_120; rw [if_pos hc124, if_neg hc138, if_pos hc145]))
    refine s_iloadN X hx (hb hby d2_127) rfl (q := 128) rfl ?_
    refine s_sipush X hx (z := (8591 : Int32)) (hb hby d2_128) rfl (q := 131) rfl ?_
    refine f_icmp_le X hx (hb hby d2_131) (q1 := 197) (by decide) (by decide) (q := 134) rfl (fun hc131 => ?_) (fun hc131 => ?_)
    · refine s_iconst X hx (z := (1 : Int32)) (hb hby d2_197) rfl (q := 198) rfl ?_
      refine s_goto X hx (hb hby d2_198) (q1 := 202) (by decide) (by decide) ?_
      exact leafN X hx hlk hret (by simp) (hb hby d2_202) (Nat.le_refl _) (Nat.le_refl _) (z' := (1 : Int32)) rfl ⟨congrArg (fun z => some (Value.int z)) (hres.trans (by unfold F2_120; rw [if_neg hc124, if_neg hc131])).symm, eT, rfl⟩
    exact cut134 (hres.trans (by unfold F2_120; rw [if_neg hc124, if_pos hc131]))
  have cut106 : res = F2_106 x0 → Go p e below (Gl s below (PQ (.int res) h0) 0 0) T m 106 #[.val (.int x0)] [] := by
    intro hres
    refine s_iloadN X hx (hb hby d2_106) rfl (q := 107) rfl ?_
    refine s_sipush X hx (z := (8204 : Int32)) (hb hby d2_107) rfl (q := 110) rfl ?_
    refine f_icmp_lt X hx (hb hby d2_110) (q1 := 120) (by decide) (by decide) (q := 113) rfl (fun hc110 => ?_) (fun hc110 => ?_)
    · refine s_iloadN X hx (hb hby d2_120) rfl (q := 121) rfl ?_
      refine s_sipush X hx (z := (8304 : Int32)) (hb hby d2_121) rfl (q := 124) rfl ?_
      refine f_icmp_lt X hx (hb hby d2_124) (q1 := 134) (by decide) (by decide) (q := 127) rfl (fun hc124 => ?_) (fun hc124 => ?_)
      · refine s_iloadN X hx (hb hby d2_134) rfl (q := 135) rfl ?_
        refine s_sipush X hx (z := (11264 : Int32)) (hb hby d2_135) rfl (q := 138) rfl ?_
        refine f_icmp_lt X hx (hb hby d2_138) (q1 := 148) (by decide) (by decide) (q := 141) rfl (fun hc138 => ?_) (fun hc138 => ?_)
        · refine s_iloadN X hx (hb hby d2_148) rfl (q := 149) rfl ?_
          refine s_sipush X hx (z := (12289 : Int32)) (hb hby d2_149) rfl (q := 152) rfl ?_
          refine f_icmp_lt X hx (hb hby d2_152) (q1 := 161) (by decide) (by decide) (q := 155) rfl (fun hc152 => ?_) (fun hc152 => ?_)
          · refine s_iloadN X hx (hb hby d2_161) rfl (q := 162) rfl ?_
            refine s_ldc X hx hZ hown (hw _ (List.mem_of_getElem? (i := 16) rfl)) (hb hby d2_162) (q := 164) rfl ?_
            refine f_icmp_lt X hx (hb hby d2_164) (q1 := 173) (by decide) (by decide) (q := 167) rfl (fun hc164 => ?_) (fun hc164 => ?_)
            · refine s_iloadN X hx (hb hby d2_173) rfl (q := 174) rfl ?_
              refine s_ldc X hx hZ hown (hw _ (List.mem_of_getElem? (i := 17) rfl)) (hb hby d2_174) (q := 176) rfl ?_
              refine f_icmp_lt X hx (hb hby d2_176) (q1 := 185) (by decide) (by decide) (q := 179) rfl (fun hc176 => ?_) (fun hc176 => ?_)
              · refine s_iloadN X hx (hb hby d2_185) rfl (q := 186) rfl ?_
                refine s_ldc X hx hZ hown (hw _ (List.mem_of_getElem? (i := 18) rfl)) (hb hby d2_186) (q := 188) rfl ?_
                refine f_icmp_lt X hx (hb hby d2_188) (q1 := 201) (by decide) (by decide) (q := 191) rfl (fun hc188 => ?_) (fun hc188 => ?_)
                · refine s_iconst X hx (z := (0 : Int32)) (hb hby d2_201) rfl (q := 202) rfl ?_
                  exact leafN X hx hlk hret (by simp) (hb hby d2_202) (Nat.le_refl _) (Nat.le_refl _) (z' := (0 : Int32)) rfl ⟨congrArg (fun z => some (Value.int z)) (hres.trans (by unfold F2_106; rw [if_pos hc110, if_pos hc124, if_pos hc138, if_pos hc152, if_pos hc164, if_pos hc176, if_pos hc188])).symm, eT, rfl⟩
                refine s_iloadN X hx (hb hby d2_191) rfl (q := 192) rfl ?_
                refine s_ldc X hx hZ hown (hw _ (List.mem_of_getElem? (i := 28) rfl)) (hb hby d2_192) (q := 194) rfl ?_
                refine f_icmp_gt X hx (hb hby d2_194) (q1 := 201) (by decide) (by decide) (q := 197) rfl (fun hc194 => ?_) (fun hc194 => ?_)
                · refine s_iconst X hx (z := (0 : Int32)) (hb hby d2_201) rfl (q := 202) rfl ?_
                  exact leafN X hx hlk hret (by simp) (hb hby d2_202) (Nat.le_refl _) (Nat.le_refl _) (z' := (0 : Int32)) rfl ⟨congrArg (fun z => some (Value.int z)) (hres.trans (by unfold F2_106; rw [if_pos hc110, if_pos hc124, if_pos hc138, if_pos hc152, if_pos hc164, if_pos hc176, if_neg hc188, if_pos hc194])).symm, eT, rfl⟩
                exact cut197 (hres.trans (by unfold F2_106; rw [if_pos hc110, if_pos hc124, if_pos hc138, if_pos hc152, if_pos hc164, if_pos hc176, if_neg hc188, if_neg hc194]))
              refine s_iloadN X hx (hb hby d2_179) rfl (q := 180) rfl ?_
              refine s_ldc X hx hZ hown (hw _ (List.mem_of_getElem? (i := 27) rfl)) (hb hby d2_180) (q := 182) rfl ?_
              refine f_icmp_le X hx (hb hby d2_182) (q1 := 197) (by decide) (by decide) (q := 185) rfl (fun hc182 => ?_) (fun hc182 => ?_)
              · refine s_iconst X hx (z := (1 : Int32)) (hb hby d2_197) rfl (q := 198) rfl ?_
                refine s_goto X hx (hb hby d2_198) (q1 := 202) (by decide) (by decide) ?_
                exact leafN X hx hlk hret (by simp) (hb hby d2_202) (Nat.le_refl _) (Nat.le_refl _) (z' := (1 : Int32)) rfl ⟨congrArg (fun z => some (Value.int z)) (hres.trans (by unfold F2_106; rw [if_pos hc110, if_pos hc124, if_pos hc138, if_pos hc152, if_pos hc164, if_neg hc176, if_neg hc182])).symm, eT, rfl⟩
              exact cut185 (hres.trans (by unfold F2_106; rw [if_pos hc110, if_pos hc124, if_pos hc138, if_pos hc152, if_pos hc164, if_neg hc176, if_pos hc182]))
            refine s_iloadN X hx (hb hby d2_167) rfl (q := 168) rfl ?_
            refine s_ldc X hx hZ hown (hw _ (List.mem_of_getElem? (i := 26) rfl)) (hb hby d2_168) (q := 170) rfl ?_
            refine f_icmp_le X hx (hb hby d2_170) (q1 := 197) (by decide) (by decide) (q := 173) rfl (fun hc170 => ?_) (fun hc170 => ?_)
            · refine s_iconst X hx (z := (1 : Int32)) (hb hby d2_197) rfl (q := 198) rfl ?_
              refine s_goto X hx (hb hby d2_198) (q1 := 202) (by decide) (by decide) ?_
              exact leafN X hx hlk hret (by simp) (hb hby d2_202) (Nat.le_refl _) (Nat.le_refl _) (z' := (1 : Int32)) rfl ⟨congrArg (fun z => some (Value.int z)) (hres.trans (by unfold F2_106; rw [if_pos hc110, if_pos hc124, if_pos hc138, if_pos hc152, if_neg hc164, if_neg hc170])).symm, eT, rfl⟩
            exact cut173 (hres.trans (by unfold F2_106; rw [if_pos hc110, if_pos hc124, if_pos hc138, if_pos hc152, if_neg hc164, if_pos hc170]))
          refine s_iloadN X hx (hb hby d2_155) rfl (q := 156) rfl ?_
          refine s_ldc X hx hZ hown (hw _ (List.mem_of_getElem? (i := 25) rfl)) (hb hby d2_156) (q := 158) rfl ?_
          refine f_icmp_le X hx (hb hby d2_158) (q1 := 197) (by decide) (by decide) (q := 161) rfl (fun hc158 => ?_) (fun hc158 => ?_)
          · refine s_iconst X hx (z := (1 : Int32)) (hb hby d2_197) rfl (q := 198) rfl ?_
            refine s_goto X hx (hb hby d2_198) (q1 := 202) (by decide) (by decide) ?_
            exact leafN X hx hlk hret (by simp) (hb hby d2_202) (Nat.le_refl _) (Nat.le_refl _) (z' := (1 : Int32)) rfl ⟨congrArg (fun z => some (Value.int z)) (hres.trans (by unfold F2_106; rw [if_pos hc110, if_pos hc124, if_pos hc138, if_neg hc152, if_neg hc158])).symm, eT, rfl⟩
          exact cut161 (hres.trans (by unfold F2_106; rw [if_pos hc110, if_pos hc124, if_pos hc138, if_neg hc152, if_pos hc158]))
        refine s_iloadN X hx (hb hby d2_141) rfl (q := 142) rfl ?_
        refine s_sipush X hx (z := (12271 : Int32)) (hb hby d2_142) rfl (q := 145) rfl ?_
        refine f_icmp_le X hx (hb hby d2_145) (q1 := 197) (by decide) (by decide) (q := 148) rfl (fun hc145 => ?_) (fun hc145 => ?_)
        · refine s_iconst X hx (z := (1 : Int32)) (hb hby d2_197) rfl (q := 198) rfl ?_
          refine s_goto X hx (hb hby d2_198) (q1 := 202) (by decide) (by decide) ?_
          exact leafN X hx hlk hret (by simp) (hb hby d2_202) (Nat.le_refl _) (Nat.le_refl _) (z' := (1 : Int32)) rfl ⟨congrArg (fun z => some (Value.int z)) (hres.trans (by unfold F2_106; rw [if_pos hc110, if_pos hc124, if_neg hc138, if_neg hc145])).symm, eT, rfl⟩
        exact cut148 (hres.trans (by unfold F2_106; rw [if_pos hc110, if_pos hc124, if_neg hc138, if_pos hc145]))
      refine s_iloadN X hx (hb hby d2_127) rfl (q := 128) rfl ?_
      refine s_sipush X hx (z := (8591 : Int32)) (hb hby d2_128) rfl (q := 131) rfl ?_
      refine f_icmp_le X hx (hb hby d2_131) (q1 := 197) (by decide) (by decide) (q := 134) rfl (fun hc131 => ?_) (fun hc131 => ?_)
      · refine s_iconst X hx (z := (1 : Int32)) (hb hby d2_197) rfl (q := 198) rfl ?_
        refine s_goto X hx (hb hby d2_198) (q1 := 202) (by decide) (by decide) ?_
        exact leafN X hx hlk hret (by simp) (hb hby d2_202) (Nat.le_refl _) (Nat.le_refl _) (z' := (1 : Int32)) rfl ⟨congrArg (fun z => some (Value.int z)) (hres.trans (by unfold F2_106; rw [if_pos hc110, if_neg hc124, if_neg hc131])).symm, eT, rfl⟩
      exact cut134 (hres.trans (by unfold F2_106; rw [if_pos hc110, if_neg hc124, if_pos hc131]))
    refine s_iloadN X hx (hb hby d2_113) rfl (q := 114) rfl ?_
    refine s_sipush X hx (z := (8205 : Int32)) (hb hby d2_114) rfl (q := 117) rfl ?_
    refine f_icmp_le X hx (hb hby d2_117) (q1 := 197) (by decide) (by decide) (q := 120) rfl (fun hc117 => ?_) (fun hc117 => ?_)
    · refine s_iconst X hx (z := (1 : Int32)) (hb hby d2_197) rfl (q := 198) rfl ?_
      refine s_goto X hx (hb hby d2_198) (q1 := 202) (by decide) (by decide) ?_
      exact leafN X hx hlk hret (by simp) (hb hby d2_202) (Nat.le_refl _) (Nat.le_refl _) (z' := (1 : Int32)) rfl ⟨congrArg (fun z => some (Value.int z)) (hres.trans (by unfold F2_106; rw [if_neg hc110, if_neg hc117])).symm, eT, rfl⟩
    exact cut120 (hres.trans (by unfold F2_106; rw [if_neg hc110, if_pos hc117]))
  have cut92 : res = F2_92 x0 → Go p e below (Gl s below (PQ (.int res) h0) 0 0) T m 92 #[.val (.int x0)] [] := by
    intro hres
    refine s_iloadN X hx (hb hby d2_92) rfl (q := 93) rfl ?_
    refine s_sipush X hx (z := (895 : Int32)) (hb hby d2_93) rfl (q := 96) rfl ?_
    refine f_icmp_lt X hx (hb hby d2_96) (q1 := 106) (by decide) (by decide) (q := 99) rfl (fun hc96 => ?_) (fun hc96 => ?_)
    · refine s_iloadN X hx (hb hby d2_106) rfl (q := 107) rfl ?_
      refine s_sipush X hx (z := (8204 : Int32)) (hb hby d2_107) rfl (q := 110) rfl ?_
      refine f_icmp_lt X hx (hb hby d2_110) (q1 := 120) (by decide) (by decide) (q := 113) rfl (fun hc110 => ?_) (fun hc110 => ?_)
      · refine s_iloadN X hx (hb hby d2_120) rfl (q := 121) rfl ?_
        refine s_sipush X hx (z := (8304 : Int32)) (hb hby d2_121) rfl (q := 124) rfl ?_
        refine f_icmp_lt X hx (hb hby d2_124) (q1 := 134) (by decide) (by decide) (q := 127) rfl (fun hc124 => ?_) (fun hc124 => ?_)
        · refine s_iloadN X hx (hb hby d2_134) rfl (q := 135) rfl ?_
          refine s_sipush X hx (z := (11264 : Int32)) (hb hby d2_135) rfl (q := 138) rfl ?_
          refine f_icmp_lt X hx (hb hby d2_138) (q1 := 148) (by decide) (by decide) (q := 141) rfl (fun hc138 => ?_) (fun hc138 => ?_)
          · refine s_iloadN X hx (hb hby d2_148) rfl (q := 149) rfl ?_
            refine s_sipush X hx (z := (12289 : Int32)) (hb hby d2_149) rfl (q := 152) rfl ?_
            refine f_icmp_lt X hx (hb hby d2_152) (q1 := 161) (by decide) (by decide) (q := 155) rfl (fun hc152 => ?_) (fun hc152 => ?_)
            · refine s_iloadN X hx (hb hby d2_161) rfl (q := 162) rfl ?_
              refine s_ldc X hx hZ hown (hw _ (List.mem_of_getElem? (i := 16) rfl)) (hb hby d2_162) (q := 164) rfl ?_
              refine f_icmp_lt X hx (hb hby d2_164) (q1 := 173) (by decide) (by decide) (q := 167) rfl (fun hc164 => ?_) (fun hc164 => ?_)
              · refine s_iloadN X hx (hb hby d2_173) rfl (q := 174) rfl ?_
                refine s_ldc X hx hZ hown (hw _ (List.mem_of_getElem? (i := 17) rfl)) (hb hby d2_174) (q := 176) rfl ?_
                refine f_icmp_lt X hx (hb hby d2_176) (q1 := 185) (by decide) (by decide) (q := 179) rfl (fun hc176 => ?_) (fun hc176 => ?_)
                · refine s_iloadN X hx (hb hby d2_185) rfl (q := 186) rfl ?_
                  refine s_ldc X hx hZ hown (hw _ (List.mem_of_getElem? (i := 18) rfl)) (hb hby d2_186) (q := 188) rfl ?_
                  refine f_icmp_lt X hx (hb hby d2_188) (q1 := 201) (by decide) (by decide) (q := 191) rfl (fun hc188 => ?_) (fun hc188 => ?_)
                  · refine s_iconst X hx (z := (0 : Int32)) (hb hby d2_201) rfl (q := 202) rfl ?_
                    exact leafN X hx hlk hret (by simp) (hb hby d2_202) (Nat.le_refl _) (Nat.le_refl _) (z' := (0 : Int32)) rfl ⟨congrArg (fun z => some (Value.int z)) (hres.trans (by unfold F2_92; rw [if_pos hc96, if_pos hc110, if_pos hc124, if_pos hc138, if_pos hc152, if_pos hc164, if_pos hc176, if_pos hc188])).symm, eT, rfl⟩
                  refine s_iloadN X hx (hb hby d2_191) rfl (q := 192) rfl ?_
                  refine s_ldc X hx hZ hown (hw _ (List.mem_of_getElem? (i := 28) rfl)) (hb hby d2_192) (q := 194) rfl ?_
                  refine f_icmp_gt X hx (hb hby d2_194) (q1 := 201) (by decide) (by decide) (q := 197) rfl (fun hc194 => ?_) (fun hc194 => ?_)
                  · refine s_iconst X hx (z := (0 : Int32)) (hb hby d2_201) rfl (q := 202) rfl ?_
                    exact leafN X hx hlk hret (by simp) (hb hby d2_202) (Nat.le_refl _) (Nat.le_refl _) (z' := (0 : Int32)) rfl ⟨congrArg (fun z => some (Value.int z)) (hres.trans (by unfold F2_92; rw [if_pos hc96, if_pos hc110, if_pos hc124, if_pos hc138, if_pos hc152, if_pos hc164, if_pos hc176, if_neg hc188, if_pos hc194])).symm, eT, rfl⟩
                  exact cut197 (hres.trans (by unfold F2_92; rw [if_pos hc96, if_pos hc110, if_pos hc124, if_pos hc138, if_pos hc152, if_pos hc164, if_pos hc176, if_neg hc188, if_neg hc194]))
                refine s_iloadN X hx (hb hby d2_179) rfl (q := 180) rfl ?_
                refine s_ldc X hx hZ hown (hw _ (List.mem_of_getElem? (i := 27) rfl)) (hb hby d2_180) (q := 182) rfl ?_
                refine f_icmp_le X hx (hb hby d2_182) (q1 := 197) (by decide) (by decide) (q := 185) rfl (fun hc182 => ?_) (fun hc182 => ?_)
                · refine s_iconst X hx (z := (1 : Int32)) (hb hby d2_197) rfl (q := 198) rfl ?_
                  refine s_goto X hx (hb hby d2_198) (q1 := 202) (by decide) (by decide) ?_
                  exact leafN X hx hlk hret (by simp) (hb hby d2_202) (Nat.le_refl _) (Nat.le_refl _) (z' := (1 : Int32)) rfl ⟨congrArg (fun z => some (Value.int z)) (hres.trans (by unfold F2_92; rw [if_pos hc96, if_pos hc110, if_pos hc124, if_pos hc138, if_pos hc152, if_pos hc164, if_neg hc176, if_neg hc182])).symm, eT, rfl⟩
                exact cut185 (hres.trans (by unfold F2_92; rw [if_pos hc96, if_pos hc110, if_pos hc124, if_pos hc138, if_pos hc152, if_pos hc164, if_neg hc176, if_pos hc182]))
              refine s_iloadN X hx (hb hby d2_167) rfl (q := 168) rfl ?_
              refine s_ldc X hx hZ hown (hw _ (List.mem_of_getElem? (i := 26) rfl)) (hb hby d2_168) (q := 170) rfl ?_
              refine f_icmp_le X hx (hb hby d2_170) (q1 := 197) (by decide) (by decide) (q := 173) rfl (fun hc170 => ?_) (fun hc170 => ?_)
              · refine s_iconst X hx (z := (1 : Int32)) (hb hby d2_197) rfl (q := 198) rfl ?_
                refine s_goto X hx (hb hby d2_198) (q1 := 202) (by decide) (by decide) ?_
                exact leafN X hx hlk hret (by simp) (hb hby d2_202) (Nat.le_refl _) (Nat.le_refl _) (z' := (1 : Int32)) rfl ⟨congrArg (fun z => some (Value.int z)) (hres.trans (by unfold F2_92; rw [if_pos hc96, if_pos hc110, if_pos hc124, if_pos hc138, if_pos hc152, if_neg hc164, if_neg hc170])).symm, eT, rfl⟩
              exact cut173 (hres.trans (by unfold F2_92; rw [if_pos hc96, if_pos hc110, if_pos hc124, if_pos hc138, if_pos hc152, if_neg hc164, if_pos hc170]))
            refine s_iloadN X hx (hb hby d2_155) rfl (q := 156) rfl ?_
            refine s_ldc X hx hZ hown (hw _ (List.mem_of_getElem? (i := 25) rfl)) (hb hby d2_156) (q := 158) rfl ?_
            refine f_icmp_le X hx (hb hby d2_158) (q1 := 197) (by decide) (by decide) (q := 161) rfl (fun hc158 => ?_) (fun hc158 => ?_)
            · refine s_iconst X hx (z := (1 : Int32)) (hb hby d2_197) rfl (q := 198) rfl ?_
              refine s_goto X hx (hb hby d2_198) (q1 := 202) (by decide) (by decide) ?_
              exact leafN X hx hlk hret (by simp) (hb hby d2_202) (Nat.le_refl _) (Nat.le_refl _) (z' := (1 : Int32)) rfl ⟨congrArg (fun z => some (Value.int z)) (hres.trans (by unfold F2_92; rw [if_pos hc96, if_pos hc110, if_pos hc124, if_pos hc138, if_neg hc152, if_neg hc158])).symm, eT, rfl⟩
            exact cut161 (hres.trans (by unfold F2_92; rw [if_pos hc96, if_pos hc110, if_pos hc124, if_pos hc138, if_neg hc152, if_pos hc158]))
          refine s_iloadN X hx (hb hby d2_141) rfl (q := 142) rfl ?_
          refine s_sipush X hx (z := (12271 : Int32)) (hb hby d2_142) rfl (q := 145) rfl ?_
          refine f_icmp_le X hx (hb hby d2_145) (q1 := 197) (by decide) (by decide) (q := 148) rfl (fun hc145 => ?_) (fun hc145 => ?_)
          · refine s_iconst X hx (z := (1 : Int32)) (hb hby d2_197) rfl (q := 198) rfl ?_
            refine s_goto X hx (hb hby d2_198) (q1 := 202) (by decide) (by decide) ?_
            exact leafN X hx hlk hret (by simp) (hb hby d2_202) (Nat.le_refl _) (Nat.le_refl _) (z' := (1 : Int32)) rfl ⟨congrArg (fun z => some (Value.int z)) (hres.trans (by unfold F2_92; rw [if_pos hc96, if_pos hc110, if_pos hc124, if_neg hc138, if_neg hc145])).symm, eT, rfl⟩
          exact cut148 (hres.trans (by unfold F2_92; rw [if_pos hc96, if_pos hc110, if_pos hc124, if_neg hc138, if_pos hc145]))
        refine s_iloadN X hx (hb hby d2_127) rfl (q := 128) rfl ?_
        refine s_sipush X hx (z := (8591 : Int32)) (hb hby d2_128) rfl (q := 131) rfl ?_
        refine f_icmp_le X hx (hb hby d2_131) (q1 := 197) (by decide) (by decide) (q := 134) rfl (fun hc131 => ?_) (fun hc131 => ?_)
        · refine s_iconst X hx (z := (1 : Int32)) (hb hby d2_197) rfl (q := 198) rfl ?_
          refine s_goto X hx (hb hby d2_198) (q1 := 202) (by decide) (by decide) ?_
          exact leafN X hx hlk hret (by simp) (hb hby d2_202) (Nat.le_refl _) (Nat.le_refl _) (z' := (1 : Int32)) rfl ⟨congrArg (fun z => some (Value.int z)) (hres.trans (by unfold F2_92; rw [if_pos hc96, if_pos hc110, if_neg hc124, if_neg hc131])).symm, eT, rfl⟩
        exact cut134 (hres.trans (by unfold F2_92; rw [if_pos hc96, if_pos hc110, if_neg hc124, if_pos hc131]))
      refine s_iloadN X hx (hb hby d2_113) rfl (q := 114) rfl ?_
      refine s_sipush X hx (z := (8205 : Int32)) (hb hby d2_114) rfl (q := 117) rfl ?_
      refine f_icmp_le X hx (hb hby d2_117) (q1 := 197) (by decide) (by decide) (q := 120) rfl (fun hc117 => ?_) (fun hc117 => ?_)
      · refine s_iconst X hx (z := (1 : Int32)) (hb hby d2_197) rfl (q := 198) rfl ?_
        refine s_goto X hx (hb hby d2_198) (q1 := 202) (by decide) (by decide) ?_
        exact leafN X hx hlk hret (by simp) (hb hby d2_202) (Nat.le_refl _) (Nat.le_refl _) (z' := (1 : Int32)) rfl ⟨congrArg (fun z => some (Value.int z)) (hres.trans (by unfold F2_92; rw [if_pos hc96, if_neg hc110, if_neg hc117])).symm, eT, rfl⟩
      exact cut120 (hres.trans (by unfold F2_92; rw [if_pos hc96, if_neg hc110, if_pos hc117]))
    refine s_iloadN X hx (hb hby d2_99) rfl (q := 100) rfl ?_
    refine s_sipush X hx (z := (8191 : Int32)) (hb hby d2_100) rfl (q := 103) rfl ?_
    refine f_icmp_le X hx (hb hby d2_103) (q1 := 197) (by decide) (by decide) (q := 106) rfl (fun hc103 => ?_) (fun hc103 => ?_)
    · refine s_iconst X hx (z := (1 : Int32)) (hb hby d2_197) rfl (q := 198) rfl ?_
      refine s_goto X hx (hb hby d2_198) (q1 := 202) (by decide) (by decide) ?_
      exact leafN X hx hlk hret (by simp) (hb hby d2_202) (Nat.le_refl _) (Nat.le_refl _) (z' := (1 : Int32)) rfl ⟨congrArg (fun z => some (Value.int z)) (hres.trans (by unfold F2_92; rw [if_neg hc96, if_neg hc103])).symm, eT, rfl⟩
    exact cut106 (hres.trans (by unfold F2_92; rw [if_neg hc96, if_pos hc103]))
  have cut78 : res = F2_78 x0 → Go p e below (Gl s below (PQ (.int res) h0) 0 0) T m 78 #[.val (.int x0)] [] := by
    intro hres
    refine s_iloadN X hx (hb hby d2_78) rfl (q := 79) rfl ?_
    refine s_sipush X hx (z := (880 : Int32)) (hb hby d2_79) rfl (q := 82) rfl ?_
    refine f_icmp_lt X hx (hb hby d2_82) (q1 := 92) (by decide) (by decide) (q := 85) rfl (fun hc82 => ?_) (fun hc82 => ?_)
    · refine s_iloadN X hx (hb hby d2_92) rfl (q := 93) rfl ?_
      refine s_sipush X hx (z := (895 : Int32)) (hb hby d2_93) rfl (q := 96) rfl ?_
      refine f_icmp_lt X hx (hb hby d2_96) (q1 := 106) (by decide) (by decide) (q := 99) rfl (fun hc96 => ?_) (fun hc96 => ?_)
      · refine s_iloadN X hx (hb hby d2_106) rfl (q := 107) rfl ?_
        refine s_sipush X hx (z := (8204 : Int32)) (hb hby d2_107) rfl (q := 110) rfl ?_
        refine f_icmp_lt X hx (hb hby d2_110) (q1 := 120) (by decide) (by decide) (q := 113) rfl (fun hc110 => ?_) (fun hc110 => ?_)
        · refine s_iloadN X hx (hb hby d2_120) rfl (q := 121) rfl ?_
          refine s_sipush X hx (z := (8304 : Int32)) (hb hby d2_121) rfl (q := 124) rfl ?_
          refine f_icmp_lt X hx (hb hby d2_124) (q1 := 134) (by decide) (by decide) (q := 127) rfl (fun hc124 => ?_) (fun hc124 => ?_)
          · refine s_iloadN X hx (hb hby d2_134) rfl (q := 135) rfl ?_
            refine s_sipush X hx (z := (11264 : Int32)) (hb hby d2_135) rfl (q := 138) rfl ?_
            refine f_icmp_lt X hx (hb hby d2_138) (q1 := 148) (by decide) (by decide) (q := 141) rfl (fun hc138 => ?_) (fun hc138 => ?_)
            · refine s_iloadN X hx (hb hby d2_148) rfl (q := 149) rfl ?_
              refine s_sipush X hx (z := (12289 : Int32)) (hb hby d2_149) rfl (q := 152) rfl ?_
              refine f_icmp_lt X hx (hb hby d2_152) (q1 := 161) (by decide) (by decide) (q := 155) rfl (fun hc152 => ?_) (fun hc152 => ?_)
              · refine s_iloadN X hx (hb hby d2_161) rfl (q := 162) rfl ?_
                refine s_ldc X hx hZ hown (hw _ (List.mem_of_getElem? (i := 16) rfl)) (hb hby d2_162) (q := 164) rfl ?_
                refine f_icmp_lt X hx (hb hby d2_164) (q1 := 173) (by decide) (by decide) (q := 167) rfl (fun hc164 => ?_) (fun hc164 => ?_)
                · refine s_iloadN X hx (hb hby d2_173) rfl (q := 174) rfl ?_
                  refine s_ldc X hx hZ hown (hw _ (List.mem_of_getElem? (i := 17) rfl)) (hb hby d2_174) (q := 176) rfl ?_
                  refine f_icmp_lt X hx (hb hby d2_176) (q1 := 185) (by decide) (by decide) (q := 179) rfl (fun hc176 => ?_) (fun hc176 => ?_)
                  · refine s_iloadN X hx (hb hby d2_185) rfl (q := 186) rfl ?_
                    refine s_ldc X hx hZ hown (hw _ (List.mem_of_getElem? (i := 18) rfl)) (hb hby d2_186) (q := 188) rfl ?_
                    refine f_icmp_lt X hx (hb hby d2_188) (q1 := 201) (by decide) (by decide) (q := 191) rfl (fun hc188 => ?_) (fun hc188 => ?_)
                    · refine s_iconst X hx (z := (0 : Int32)) (hb hby d2_201) rfl (q := 202) rfl ?_
                      exact leafN X hx hlk hret (by simp) (hb hby d2_202) (Nat.le_refl _) (Nat.le_refl _) (z' := (0 : Int32)) rfl ⟨congrArg (fun z => some (Value.int z)) (hres.trans (by unfold F2_78; rw [if_pos hc82, if_pos hc96, if_pos hc110, if_pos hc124, if_pos hc138, if_pos hc152, if_pos hc164, if_pos hc176, if_pos hc188])).symm, eT, rfl⟩
                    refine s_iloadN X hx (hb hby d2_191) rfl (q := 192) rfl ?_
                    refine s_ldc X hx hZ hown (hw _ (List.mem_of_getElem? (i := 28) rfl)) (hb hby d2_192) (q := 194) rfl ?_
                    refine f_icmp_gt X hx (hb hby d2_194) (q1 := 201) (by decide) (by decide) (q := 197) rfl (fun hc194 => ?_) (fun hc194 => ?_)
                    · refine s_iconst X hx (z := (0 : Int32)) (hb hby d2_201) rfl (q := 202) rfl ?_
                      exact leafN X hx hlk hret (by simp) (hb hby d2_202) (Nat.le_refl _) (Nat.le_refl _) (z' := (0 : Int32)) rfl ⟨congrArg (fun z => some (Value.int z)) (hres.trans (by unfold F2_78; rw [if_pos hc82, if_pos hc96, if_pos hc110, if_pos hc124, if_pos hc138, if_pos hc152, if_pos hc164, if_pos hc176, if_neg hc188, if_pos hc194])).symm, eT, rfl⟩
                    exact cut197 (hres.trans (by unfold F2_78; rw [if_pos hc82, if_pos hc96, if_pos hc110, if_pos hc124, if_pos hc138, if_pos hc152, if_pos hc164, if_pos hc176, if_neg hc188, if_neg hc194]))
                  refine s_iloadN X hx (hb hby d2_179) rfl (q := 180) rfl ?_
                  refine s_ldc X hx hZ hown (hw _ (List.mem_of_getElem? (i := 27) rfl)) (hb hby d2_180) (q := 182) rfl ?_
                  refine f_icmp_le X hx (hb hby d2_182) (q1 := 197) (by decide) (by decide) (q := 185) rfl (fun hc182 => ?_) (fun hc182 => ?_)
                  · refine s_iconst X hx (z := (1 : Int32)) (hb hby d2_197) rfl (q := 198) rfl ?_
                    refine s_goto X hx (hb hby d2_198) (q1 := 202) (by decide) (by decide) ?_
                    exact leafN X hx hlk hret (by simp) (hb hby d2_202) (Nat.le_refl _) (Nat.le_refl _) (z' := (1 : Int32)) rfl ⟨congrArg (fun z => some (Value.int z)) (hres.trans (by unfold F2_78; rw [if_pos hc82, if_pos hc96, if_pos hc110, if_pos hc124, if_pos hc138, if_pos hc152, if_pos hc164, if_neg hc176, if_neg hc182])).symm, eT, rfl⟩
                  exact cut185 (hres.trans (by unfold F2_78; rw [if_pos hc82, if_pos hc96, if_pos hc110, if_pos hc124, if_pos hc138, if_pos hc152, if_pos hc164, if_neg hc176, if_pos hc182]))
                refine s_iloadN X hx (hb hby d2_167) rfl (q := 168) rfl ?_
                refine s_ldc X hx hZ hown (hw _ (List.mem_of_getElem? (i := 26) rfl)) (hb hby d2_168) (q := 170) rfl ?_
                refine f_icmp_le X hx (hb hby d2_170) (q1 := 197) (by decide) (by decide) (q := 173) rfl (fun hc170 => ?_) (fun hc170 => ?_)
                · refine s_iconst X hx (z := (1 : Int32)) (hb hby d2_197) rfl (q := 198) rfl ?_
                  refine s_goto X hx (hb hby d2_198) (q1 := 202) (by decide) (by decide) ?_
                  exact leafN X hx hlk hret (by simp) (hb hby d2_202) (Nat.le_refl _) (Nat.le_refl _) (z' := (1 : Int32)) rfl ⟨congrArg (fun z => some (Value.int z)) (hres.trans (by unfold F2_78; rw [if_pos hc82, if_pos hc96, if_pos hc110, if_pos hc124, if_pos hc138, if_pos hc152, if_neg hc164, if_neg hc170])).symm, eT, rfl⟩
                exact cut173 (hres.trans (by unfold F2_78; rw [if_pos hc82, if_pos hc96, if_pos hc110, if_pos hc124, if_pos hc138, if_pos hc152, if_neg hc164, if_pos hc170]))
              refine s_iloadN X hx (hb hby d2_155) rfl (q := 156) rfl ?_
              refine s_ldc X hx hZ hown (hw _ (List.mem_of_getElem? (i := 25) rfl)) (hb hby d2_156) (q := 158) rfl ?_
              refine f_icmp_le X hx (hb hby d2_158) (q1 := 197) (by decide) (by decide) (q := 161) rfl (fun hc158 => ?_) (fun hc158 => ?_)
              · refine s_iconst X hx (z := (1 : Int32)) (hb hby d2_197) rfl (q := 198) rfl ?_
                refine s_goto X hx (hb hby d2_198) (q1 := 202) (by decide) (by decide) ?_
                exact leafN X hx hlk hret (by simp) (hb hby d2_202) (Nat.le_refl _) (Nat.le_refl _) (z' := (1 : Int32)) rfl ⟨congrArg (fun z => some (Value.int z)) (hres.trans (by unfold F2_78; rw [if_pos hc82, if_pos hc96, if_pos hc110, if_pos hc124, if_pos hc138, if_neg hc152, if_neg hc158])).symm, eT, rfl⟩
              exact cut161 (hres.trans (by unfold F2_78; rw [if_pos hc82, if_pos hc96, if_pos hc110, if_pos hc124, if_pos hc138, if_neg hc152, if_pos hc158]))
            refine s_iloadN X hx (hb hby d2_141) rfl (q := 142) rfl ?_
            refine s_sipush X hx (z := (12271 : Int32)) (hb hby d2_142) rfl (q := 145) rfl ?_
            refine f_icmp_le X hx (hb hby d2_145) (q1 := 197) (by decide) (by decide) (q := 148) rfl (fun hc145 => ?_) (fun hc145 => ?_)
            · refine s_iconst X hx (z := (1 : Int32)) (hb hby d2_197) rfl (q := 198) rfl ?_
              refine s_goto X hx (hb hby d2_198) (q1 := 202) (by decide) (by decide) ?_
              exact leafN X hx hlk hret (by simp) (hb hby d2_202) (Nat.le_refl _) (Nat.le_refl _) (z' := (1 : Int32)) rfl ⟨congrArg (fun z => some (Value.int z)) (hres.trans (by unfold F2_78; rw [if_pos hc82, if_pos hc96, if_pos hc110, if_pos hc124, if_neg hc138, if_neg hc145])).symm, eT, rfl⟩
            exact cut148 (hres.trans (by unfold F2_78; rw [if_pos hc82, if_pos hc96, if_pos hc110, if_pos hc124, if_neg hc138, if_pos hc145]))
          refine s_iloadN X hx (hb hby d2_127) rfl (q := 128) rfl ?_
          refine s_sipush X hx (z := (8591 : Int32)) (hb hby d2_128) rfl (q := 131) rfl ?_
          refine f_icmp_le X hx (hb hby d2_131) (q1 := 197) (by decide) (by decide) (q := 134) rfl (fun hc131 => ?_) (fun hc131 => ?_)
          · refine s_iconst X hx (z := (1 : Int32)) (hb hby d2_197) rfl (q := 198) rfl ?_
            refine s_goto X hx (hb hby d2_198) (q1 := 202) (by decide) (by decide) ?_
            exact leafN X hx hlk hret (by simp) (hb hby d2_202) (Nat.le_refl _) (Nat.le_refl _) (z' := (1 : Int32)) rfl ⟨congrArg (fun z => some (Value.int z)) (hres.trans (by unfold F2_78; rw [if_pos hc82, if_pos hc96, if_pos hc110, if_neg hc124, if_neg hc131])).symm, eT, rfl⟩
          exact cut134 (hres.trans (by unfold F2_78; rw [if_pos hc82, if_pos hc96, if_pos hc110, if_neg hc124, if_pos hc131]))
        refine s_iloadN X hx (hb hby d2_113) rfl (q := 114) rfl ?_
        refine s_sipush X hx (z := (8205 : Int32)) (hb hby d2_114) rfl (q := 117) rfl ?_
        refine f_icmp_le X hx (hb hby d2_117) (q1 := 197) (by decide) (by decide) (q := 120) rfl (fun hc117 => ?_) (fun hc117 => ?_)
        · refine s_iconst X hx (z := (1 : Int32)) (hb hby d2_197) rfl (q := 198) rfl ?_
          refine s_goto X hx (hb hby d2_198) (q1 := 202) (by decide) (by decide) ?_
          exact leafN X hx hlk hret (by simp) (hb hby d2_202) (Nat.le_refl _) (Nat.le_refl _) (z' := (1 : Int32)) rfl ⟨congrArg (fun z => some (Value.int z)) (hres.trans (by unfold F2_78; rw [if_pos hc82, if_pos hc96, if_neg hc110, if_neg hc117])).symm, eT, rfl⟩
        exact cut120 (hres.trans (by unfold F2_78; rw [if_pos hc82, if_pos hc96, if_neg hc110, if_pos hc117]))
      refine s_iloadN X hx (hb hby d2_99) rfl (q := 100) rfl ?_
      refine s_sipush X hx (z := (8191 : Int32)) (hb hby d2_100) rfl (q := 103) rfl ?_
      refine f_icmp_le X hx (hb hby d2_103) (q1 := 197) (by decide) (by decide) (q := 106) rfl (fun hc103 => ?_) (fun hc103 => ?_)
      · refine s_iconst X hx (z := (1 : Int32)) (hb hby d2_197) rfl (q := 198) rfl ?_
        refine s_goto X hx (hb hby d2_198) (q1 := 202) (by decide) (by decide) ?_
        exact leafN X hx hlk hret (by simp) (hb hby d2_202) (Nat.le_refl _) (Nat.le_refl _) (z' := (1 : Int32)) rfl ⟨congrArg (fun z => some (Value.int z)) (hres.trans (by unfold F2_78; rw [if_pos hc82, if_neg hc96, if_neg hc103])).symm, eT, rfl⟩
      exact cut106 (hres.trans (by unfold F2_78; rw [if_pos hc82, if_neg hc96, if_pos hc103]))
    refine s_iloadN X hx (hb hby d2_85) rfl (q := 86) rfl ?_
    refine s_sipush X hx (z := (893 : Int32)) (hb hby d2_86) rfl (q := 89) rfl ?_
    refine f_icmp_le X hx (hb hby d2_89) (q1 := 197) (by decide) (by decide) (q := 92) rfl (fun hc89 => ?_) (fun hc89 => ?_)
    · refine s_iconst X hx (z := (1 : Int32)) (hb hby d2_197) rfl (q := 198) rfl ?_
      refine s_goto X hx (hb hby d2_198) (q1 := 202) (by decide) (by decide) ?_
      exact leafN X hx hlk hret (by simp) (hb hby d2_202) (Nat.le_refl _) (Nat.le_refl _) (z' := (1 : Int32)) rfl ⟨congrArg (fun z => some (Value.int z)) (hres.trans (by unfold F2_78; rw [if_neg hc82, if_neg hc89])).symm, eT, rfl⟩
    exact cut92 (hres.trans (by unfold F2_78; rw [if_neg hc82, if_pos hc89]))
  have cut64 : res = F2_64 x0 → Go p e below (Gl s below (PQ (.int res) h0) 0 0) T m 64 #[.val (.int x0)] [] := by
    intro hres
    refine s_iloadN X hx (hb hby d2_64) rfl (q := 65) rfl ?_
    refine s_sipush X hx (z := (248 : Int32)) (hb hby d2_65) rfl (q := 68) rfl ?_
    refine f_icmp_lt X hx (hb hby d2_68) (q1 := 78) (by decide) (by decide) (q := 71) rfl (fun hc68 => ?_) (fun hc68 => ?_)
    · refine s_iloadN X hx (hb hby d2_78) rfl (q := 79) rfl ?_
      refine s_sipush X hx (z := (880 : Int32)) (hb hby d2_79) rfl (q := 82) rfl ?_
      refine f_icmp_lt X hx (hb hby d2_82) (q1 := 92) (by decide) (by decide) (q := 85) rfl (fun hc82 => ?_) (fun hc82 => ?_)
      · refine s_iloadN X hx (hb hby d2_92) rfl (q := 93) rfl ?_
        refine s_sipush X hx (z := (895 : Int32)) (hb hby d2_93) rfl (q := 96) rfl ?_
        refine f_icmp_lt X hx (hb hby d2_96) (q1 := 106) (by decide) (by decide) (q := 99) rfl (fun hc96 => ?_) (fun hc96 => ?_)
        · refine s_iloadN X hx (hb hby d2_106) rfl (q := 107) rfl ?_
          refine s_sipush X hx (z := (8204 : Int32)) (hb hby d2_107) rfl (q := 110) rfl ?_
          refine f_icmp_lt X hx (hb hby d2_110) (q1 := 120) (by decide) (by decide) (q := 113) rfl (fun hc110 => ?_) (fun hc110 => ?_)
          · refine s_iloadN X hx (hb hby d2_120) rfl (q := 121) rfl ?_
            refine s_sipush X hx (z := (8304 : Int32)) (hb hby d2_121) rfl (q := 124) rfl ?_
            refine f_icmp_lt X hx (hb hby d2_124) (q1 := 134) (by decide) (by decide) (q := 127) rfl (fun hc124 => ?_) (fun hc124 => ?_)
            · refine s_iloadN X hx (hb hby d2_134) rfl (q := 135) rfl ?_
              refine s_sipush X hx (z := (11264 : Int32)) (hb hby d2_135) rfl (q := 138) rfl ?_
              refine f_icmp_lt X hx (hb hby d2_138) (q1 := 148) (by decide) (by decide) (q := 141) rfl (fun hc138 => ?_) (fun hc138 => ?_)
              · refine s_iloadN X hx (hb hby d2_148) rfl (q := 149) rfl ?_
                refine s_sipush X hx (z := (12289 : Int32)) (hb hby d2_149) rfl (q := 152) rfl ?_
                refine f_icmp_lt X hx (hb hby d2_152) (q1 := 161) (by decide) (by decide) (q := 155) rfl (fun hc152 => ?_) (fun hc152 => ?_)
                · refine s_iloadN X hx (hb hby d2_161) rfl (q := 162) rfl ?_
                  refine s_ldc X hx hZ hown (hw _ (List.mem_of_getElem? (i := 16) rfl)) (hb hby d2_162) (q := 164) rfl ?_
                  refine f_icmp_lt X hx (hb hby d2_164) (q1 := 173) (by decide) (by decide) (q := 167) rfl (fun hc164 => ?_) (fun hc164 => ?_)
                  · refine s_iloadN X hx (hb hby d2_173) rfl (q := 174) rfl ?_
                    refine s_ldc X hx hZ hown (hw _ (List.mem_of_getElem? (i := 17) rfl)) (hb hby d2_174) (q := 176) rfl ?_
                    refine f_icmp_lt X hx (hb hby d2_176) (q1 := 185) (by decide) (by decide) (q := 179) rfl (fun hc176 => ?_) (fun hc176 => ?_)
                    · refine s_iloadN X hx (hb hby d2_185) rfl (q := 186) rfl ?_
                      refine s_ldc X hx hZ hown (hw _ (List.mem_of_getElem? (i := 18) rfl)) (hb hby d2_186) (q := 188) rfl ?_
                      refine f_icmp_lt X hx (hb hby d2_188) (q1 := 201) (by decide) (by decide) (q := 191) rfl (fun hc188 => ?_) (fun hc188 => ?_)
                      · refine s_iconst X hx (z := (0 : Int32)) (hb hby d2_201) rfl (q := 202) rfl ?_
                        exact leafN X hx hlk hret (by simp) (hb hby d2_202) (Nat.le_refl _) (Nat.le_refl _) (z' := (0 : Int32)) rfl ⟨congrArg (fun z => some (Value.int z)) (hres.trans (by unfold F2_64; rw [if_pos hc68, if_pos hc82, if_pos hc96, if_pos hc110, if_pos hc124, if_pos hc138, if_pos hc152, if_pos hc164, if_pos hc176, if_pos hc188])).symm, eT, rfl⟩
                      refine s_iloadN X hx (hb hby d2_191) rfl (q := 192) rfl ?_
                      refine s_ldc X hx hZ hown (hw _ (List.mem_of_getElem? (i := 28) rfl)) (hb hby d2_192) (q := 194) rfl ?_
                      refine f_icmp_gt X hx (hb hby d2_194) (q1 := 201) (by decide) (by decide) (q := 197) rfl (fun hc194 => ?_) (fun hc194 => ?_)
                      · refine s_iconst X hx (z := (0 : Int32)) (hb hby d2_201) rfl (q := 202) rfl ?_
                        exact leafN X hx hlk hret (by simp) (hb hby d2_202) (Nat.le_refl _) (Nat.le_refl _) (z' := (0 : Int32)) rfl ⟨congrArg (fun z => some (Value.int z)) (hres.trans (by unfold F2_64; rw [if_pos hc68, if_pos hc82, if_pos hc96, if_pos hc110, if_pos hc124, if_pos hc138, if_pos hc152, if_pos hc164, if_pos hc176, if_neg hc188, if_pos hc194])).symm, eT, rfl⟩
                      exact cut197 (hres.trans (by unfold F2_64; rw [if_pos hc68, if_pos hc82, if_pos hc96, if_pos hc110, if_pos hc124, if_pos hc138, if_pos hc152, if_pos hc164, if_pos hc176, if_neg hc188, if_neg hc194]))
                    refine s_iloadN X hx (hb hby d2_179) rfl (q := 180) rfl ?_
                    refine s_ldc X hx hZ hown (hw _ (List.mem_of_getElem? (i := 27) rfl)) (hb hby d2_180) (q := 182) rfl ?_
                    refine f_icmp_le X hx (hb hby d2_182) (q1 := 197) (by decide) (by decide) (q := 185) rfl (fun hc182 => ?_) (fun hc182 => ?_)
                    · refine s_iconst X hx (z := (1 : Int32)) (hb hby d2_197) rfl (q := 198) rfl ?_
                      refine s_goto X hx (hb hby d2_198) (q1 := 202) (by decide) (by decide) ?_
                      exact leafN X hx hlk hret (by simp) (hb hby d2_202) (Nat.le_refl _) (Nat.le_refl _) (z' := (1 : Int32)) rfl ⟨congrArg (fun z => some (Value.int z)) (hres.trans (by unfold F2_64; rw [if_pos hc68, if_pos hc82, if_pos hc96, if_pos hc110, if_pos hc124, if_pos hc138, if_pos hc152, if_pos hc164, if_neg hc176, if_neg hc182])).symm, eT, rfl⟩
                    exact cut185 (hres.trans (by unfold F2_64; rw [if_pos hc68, if_pos hc82, if_pos hc96, if_pos hc110, if_pos hc124, if_pos hc138, if_pos hc152, if_pos hc164, if_neg hc176, if_pos hc182]))
                  refine s_iloadN X hx (hb hby d2_167) rfl (q := 168) rfl ?_
                  refine s_ldc X hx hZ hown (hw _ (List.mem_of_getElem? (i := 26) rfl)) (hb hby d2_168) (q := 170) rfl ?_
                  refine f_icmp_le X hx (hb hby d2_170) (q1 := 197) (by decide) (by decide) (q := 173) rfl (fun hc170 => ?_) (fun hc170 => ?_)
                  · refine s_iconst X hx (z := (1 : Int32)) (hb hby d2_197) rfl (q := 198) rfl ?_
                    refine s_goto X hx (hb hby d2_198) (q1 := 202) (by decide) (by decide) ?_
                    exact leafN X hx hlk hret (by simp) (hb hby d2_202) (Nat.le_refl _) (Nat.le_refl _) (z' := (1 : Int32)) rfl ⟨congrArg (fun z => some (Value.int z)) (hres.trans (by unfold F2_64; rw [if_pos hc68, if_pos hc82, if_pos hc96, if_pos hc110, if_pos hc124, if_pos hc138, if_pos hc152, if_neg hc164, if_neg hc170])).symm, eT, rfl⟩
                  exact cut173 (hres.trans (by unfold F2_64; rw [if_pos hc68, if_pos hc82, if_pos hc96, if_pos hc110, if_pos hc124, if_pos hc138, if_pos hc152, if_neg hc164, if_pos hc170]))
                refine s_iloadN X hx (hb hby d2_155) rfl (q := 156) rfl ?_
                refine s_ldc X hx hZ hown (hw _ (List.mem_of_getElem? (i := 25) rfl)) (hb hby d2_156) (q := 158) rfl ?_
                refine f_icmp_le X hx (hb hby d2_158) (q1 := 197) (by decide) (by decide) (q := 161) rfl (fun hc158 => ?_) (fun hc158 => ?_)
                · refine s_iconst X hx (z := (1 : Int32)) (hb hby d2_197) rfl (q := 198) rfl ?_
                  refine s_goto X hx (hb hby d2_198) (q1 := 202) (by decide) (by decide) ?_
                  exact leafN X hx hlk hret (by simp) (hb hby d2_202) (Nat.le_refl _) (Nat.le_refl _) (z' := (1 : Int32)) rfl ⟨congrArg (fun z => some (Value.int z)) (hres.trans (by unfold F2_64; rw [if_pos hc68, if_pos hc82, if_pos hc96, if_pos hc110, if_pos hc124, if_pos hc138, if_neg hc152, if_neg hc158])).symm, eT, rfl⟩
                exact cut161 (hres.trans (by unfold F2_64; rw [if_pos hc68, if_pos hc82, if_pos hc96, if_pos hc110, if_pos hc124, if_pos hc138, if_neg hc152, if_pos hc158]))
              refine s_iloadN X hx (hb hby d2_141) rfl (q := 142) rfl ?_
              refine s_sipush X hx (z := (12271 : Int32)) (hb hby d2_142) rfl (q := 145) rfl ?_
              refine f_icmp_le X hx (hb hby d2_145) (q1 := 197) (by decide) (by decide) (q := 148) rfl (fun hc145 => ?_) (fun hc145 => ?_)
              · refine s_iconst X hx (z := (1 : Int32)) (hb hby d2_197) rfl (q := 198) rfl ?_
                refine s_goto X hx (hb hby d2_198) (q1 := 202) (by decide) (by decide) ?_
                exact leafN X hx hlk hret (by simp) (hb hby d2_202) (Nat.le_refl _) (Nat.le_refl _) (z' := (1 : Int32)) rfl ⟨congrArg (fun z => some (Value.int z)) (hres.trans (by unfold F2_64; rw [if_pos hc68, if_pos hc82, if_pos hc96, if_pos hc110, if_pos hc124, if_neg hc138, if_neg hc145])).symm, eT, rfl⟩
              exact cut148 (hres.trans (by unfold F2_64; rw [if_pos hc68, if_pos hc82, if_pos hc96, if_pos hc110, if_pos hc124, if_neg hc138, if_pos hc145]))
            refine s_iloadN X hx (hb hby d2_127) rfl (q := 128) rfl ?_
            refine s_sipush X hx (z := (8591 : Int32)) (hb hby d2_128) rfl (q := 131) rfl ?_
            refine f_icmp_le X hx (hb hby d2_131) (q1 := 197) (by decide) (by decide) (q := 134) rfl (fun hc131 => ?_) (fun hc131 => ?_)
            · refine s_iconst X hx (z := (1 : Int32)) (hb hby d2_197) rfl (q := 198) rfl ?_
              refine s_goto X hx (hb hby d2_198) (q1 := 202) (by decide) (by decide) ?_
              exact leafN X hx hlk hret (by simp) (hb hby d2_202) (Nat.le_refl _) (Nat.le_refl _) (z' := (1 : Int32)) rfl ⟨congrArg (fun z => some (Value.int z)) (hres.trans (by unfold F2_64; rw [if_pos hc68, if_pos hc82, if_pos hc96, if_pos hc110, if_neg hc124, if_neg hc131])).symm, eT, rfl⟩
            exact cut134 (hres.trans (by unfold F2_64; rw [if_pos hc68, if_pos hc82, if_pos hc96, if_pos hc110, if_neg hc124, if_pos hc131]))
          refine s_iloadN X hx (hb hby d2_113) rfl (q := 114) rfl ?_
          refine s_sipush X hx (z := (8205 : Int32)) (hb hby d2_114) rfl (q := 117) rfl ?_
          refine f_icmp_le X hx (hb hby d2_117) (q1 := 197) (by decide) (by decide) (q := 120) rfl (fun hc117 => ?_) (fun hc117 => ?_)
          · refine s_iconst X hx (z := (1 : Int32)) (hb hby d2_197) rfl (q := 198) rfl ?_
            refine s_goto X hx (hb hby d2_198) (q1 := 202) (by decide) (by decide) ?_
            exact leafN X hx hlk hret (by simp) (hb hby d2_202) (Nat.le_refl _) (Nat.le_refl _) (z' := (1 : Int32)) rfl ⟨congrArg (fun z => some (Value.int z)) (hres.trans (by unfold F2_64; rw [if_pos hc68, if_pos hc82, if_pos hc96, if_neg hc110, if_neg hc117])).symm, eT, rfl⟩
          exact cut120 (hres.trans (by unfold F2_64; rw [if_pos hc68, if_pos hc82, if_pos hc96, if_neg hc110, if_pos hc117]))
        refine s_iloadN X hx (hb hby d2_99) rfl (q := 100) rfl ?_
        refine s_sipush X hx (z := (8191 : Int32)) (hb hby d2_100) rfl (q := 103) rfl ?_
        refine f_icmp_le X hx (hb hby d2_103) (q1 := 197) (by decide) (by decide) (q := 106) rfl (fun hc103 => ?_) (fun hc103 => ?_)
        · refine s_iconst X hx (z := (1 : Int32)) (hb hby d2_197) rfl (q := 198) rfl ?_
          refine s_goto X hx (hb hby d2_198) (q1 := 202) (by decide) (by decide) ?_
          exact leafN X hx hlk hret (by simp) (hb hby d2_202) (Nat.le_refl _) (Nat.le_refl _) (z' := (1 : Int32)) rfl ⟨congrArg (fun z => some (Value.int z)) (hres.trans (by unfold F2_64; rw [if_pos hc68, if_pos hc82, if_neg hc96, if_neg hc103])).symm, eT, rfl⟩
        exact cut106 (hres.trans (by unfold F2_64; rw [if_pos hc68, if_pos hc82, if_neg hc96, if_pos hc103]))
      refine s_iloadN X hx (hb hby d2_85) rfl (q := 86) rfl ?_
      refine s_sipush X hx (z := (893 : Int32)) (hb hby d2_86) rfl (q := 89) rfl ?_
      refine f_icmp_le X hx (hb hby d2_89) (q1 := 197) (by decide) (by decide) (q := 92) rfl (fun hc89 => ?_) (fun hc89 => ?_)
      · refine s_iconst X hx (z := (1 : Int32)) (hb hby d2_197) rfl (q := 198) rfl ?_
        refine s_goto X hx (hb hby d2_198) (q1 := 202) (by decide) (by decide) ?_
        exact leafN X hx hlk hret (by simp) (hb hby d2_202) (Nat.le_refl _) (Nat.le_refl _) (z' := (1 : Int32)) rfl ⟨congrArg (fun z => some (Value.int z)) (hres.trans (by unfold F2_64; rw [if_pos hc68, if_neg hc82, if_neg hc89])).symm, eT, rfl⟩
      exact cut92 (hres.trans (by unfold F2_64; rw [if_pos hc68, if_neg hc82, if_pos hc89]))
    refine s_iloadN X hx (hb hby d2_71) rfl (q := 72) rfl ?_
    refine s_sipush X hx (z := (767 : Int32)) (hb hby d2_72) rfl (q := 75) rfl ?_
    refine f_icmp_le X hx (hb hby d2_75) (q1 := 197) (by decide) (by decide) (q := 78) rfl (fun hc75 => ?_) (fun hc75 => ?_)
    · refine s_iconst X hx (z := (1 : Int32)) (hb hby d2_197) rfl (q := 198) rfl ?_
      refine s_goto X hx (hb hby d2_198) (q1 := 202) (by decide) (by decide) ?_
      exact leafN X hx hlk hret (by simp) (hb hby d2_202) (Nat.le_refl _) (Nat.le_refl _) (z' := (1 : Int32)) rfl ⟨congrArg (fun z => some (Value.int z)) (hres.trans (by unfold F2_64; rw [if_neg hc68, if_neg hc75])).symm, eT, rfl⟩
    exact cut78 (hres.trans (by unfold F2_64; rw [if_neg hc68, if_pos hc75]))
  have cut50 : res = F2_50 x0 → Go p e below (Gl s below (PQ (.int res) h0) 0 0) T m 50 #[.val (.int x0)] [] := by
    intro hres
    refine s_iloadN X hx (hb hby d2_50) rfl (q := 51) rfl ?_
    refine s_sipush X hx (z := (216 : Int32)) (hb hby d2_51) rfl (q := 54) rfl ?_
    refine f_icmp_lt X hx (hb hby d2_54) (q1 := 64) (by decide) (by decide) (q := 57) rfl (fun hc54 => ?_) (fun hc54 => ?_)
    · refine s_iloadN X hx (hb hby d2_64) rfl (q := 65) rfl ?_
      refine s_sipush X hx (z := (248 : Int32)) (hb hby d2_65) rfl (q := 68) rfl ?_
      refine f_icmp_lt X hx (hb hby d2_68) (q1 := 78) (by decide) (by decide) (q := 71) rfl (fun hc68 => ?_) (fun hc68 => ?_)
      · refine s_iloadN X hx (hb hby d2_78) rfl (q := 79) rfl ?_
        refine s_sipush X hx (z := (880 : Int32)) (hb hby d2_79) rfl (q := 82) rfl ?_
        refine f_icmp_lt X hx (hb hby d2_82) (q1 := 92) (by decide) (by decide) (q := 85) rfl (fun hc82 => ?_) (fun hc82 => ?_)
        · refine s_iloadN X hx (hb hby d2_92) rfl (q := 93) rfl ?_
          refine s_sipush X hx (z := (895 : Int32)) (hb hby d2_93) rfl (q := 96) rfl ?_
          refine f_icmp_lt X hx (hb hby d2_96) (q1 := 106) (by decide) (by decide) (q := 99) rfl (fun hc96 => ?_) (fun hc96 => ?_)
          · refine s_iloadN X hx (hb hby d2_106) rfl (q := 107) rfl ?_
            refine s_sipush X hx (z := (8204 : Int32)) (hb hby d2_107) rfl (q := 110) rfl ?_
            refine f_icmp_lt X hx (hb hby d2_110) (q1 := 120) (by decide) (by decide) (q := 113) rfl (fun hc110 => ?_) (fun hc110 => ?_)
            · refine s_iloadN X hx (hb hby d2_120) rfl (q := 121) rfl ?_
              refine s_sipush X hx (z := (8304 : Int32)) (hb hby d2_121) rfl (q := 124) rfl ?_
              refine f_icmp_lt X hx (hb hby d2_124) (q1 := 134) (by decide) (by decide) (q := 127) rfl (fun hc124 => ?_) (fun hc124 => ?_)
              · refine s_iloadN X hx (hb hby d2_134) rfl (q := 135) rfl ?_
                refine s_sipush X hx (z := (11264 : Int32)) (hb hby d2_135) rfl (q := 138) rfl ?_
                refine f_icmp_lt X hx (hb hby d2_138) (q1 := 148) (by decide) (by decide) (q := 141) rfl (fun hc138 => ?_) (fun hc138 => ?_)
                · refine s_iloadN X hx (hb hby d2_148) rfl (q := 149) rfl ?_
                  refine s_sipush X hx (z := (12289 : Int32)) (hb hby d2_149) rfl (q := 152) rfl ?_
                  refine f_icmp_lt X hx (hb hby d2_152) (q1 := 161) (by decide) (by decide) (q := 155) rfl (fun hc152 => ?_) (fun hc152 => ?_)
                  · refine s_iloadN X hx (hb hby d2_161) rfl (q := 162) rfl ?_
                    refine s_ldc X hx hZ hown (hw _ (List.mem_of_getElem? (i := 16) rfl)) (hb hby d2_162) (q := 164) rfl ?_
                    refine f_icmp_lt X hx (hb hby d2_164) (q1 := 173) (by decide) (by decide) (q := 167) rfl (fun hc164 => ?_) (fun hc164 => ?_)
                    · refine s_iloadN X hx (hb hby d2_173) rfl (q := 174) rfl ?_
                      refine s_ldc X hx hZ hown (hw _ (List.mem_of_getElem? (i := 17) rfl)) (hb hby d2_174) (q := 176) rfl ?_
                      refine f_icmp_lt X hx (hb hby d2_176) (q1 := 185) (by decide) (by decide) (q := 179) rfl (fun hc176 => ?_) (fun hc176 => ?_)
                      · refine s_iloadN X hx (hb hby d2_185) rfl (q := 186) rfl ?_
                        refine s_ldc X hx hZ hown (hw _ (List.mem_of_getElem? (i := 18) rfl)) (hb hby d2_186) (q := 188) rfl ?_
                        refine f_icmp_lt X hx (hb hby d2_188) (q1 := 201) (by decide) (by decide) (q := 191) rfl (fun hc188 => ?_) (fun hc188 => ?_)
                        · refine s_iconst X hx (z := (0 : Int32)) (hb hby d2_201) rfl (q := 202) rfl ?_
                          exact leafN X hx hlk hret (by simp) (hb hby d2_202) (Nat.le_refl _) (Nat.le_refl _) (z' := (0 : Int32)) rfl ⟨congrArg (fun z => some (Value.int z)) (hres.trans (by unfold F2_50; rw [if_pos hc54, if_pos hc68, if_pos hc82, if_pos hc96, if_pos hc110, if_pos hc124, if_pos hc138, if_pos hc152, if_pos hc164, if_pos hc176, if_pos hc188])).symm, eT, rfl⟩
                        refine s_iloadN X hx (hb hby d2_191) rfl (q := 192) rfl ?_
                        refine s_ldc X hx hZ hown (hw _ (List.mem_of_getElem? (i := 28) rfl)) (hb hby d2_192) (q := 194) rfl ?_
                        refine f_icmp_gt X hx (hb hby d2_194) (q1 := 201) (by decide) (by decide) (q := 197) rfl (fun hc194 => ?_) (fun hc194 => ?_)
                        · refine s_iconst X hx (z := (0 : Int32)) (hb hby d2_201) rfl (q := 202) rfl ?_
                          exact leafN X hx hlk hret (by simp) (hb hby d2_202) (Nat.le_refl _) (Nat.le_refl _) (z' := (0 : Int32)) rfl ⟨congrArg (fun z => some (Value.int z)) (hres.trans (by unfold F2_50; rw [if_pos hc54, if_pos hc68, if_pos hc82, if_pos hc96, if_pos hc110, if_pos hc124, if_pos hc138, if_pos hc152, if_pos hc164, if_pos hc176, if_neg hc188, if_pos hc194])).symm, eT, rfl⟩
                        exact cut197 (hres.trans (by unfold F2_50; rw [if_pos hc54, if_pos hc68, if_pos hc82, if_pos hc96, if_pos hc110, if_pos hc124, if_pos hc138, if_pos hc152, if_pos hc164, if_pos hc176, if_neg hc188, if_neg hc194]))
                      refine s_iloadN X hx (hb hby d2_179) rfl (q := 180) rfl ?_
                      refine s_ldc X hx hZ hown (hw _ (List.mem_of_getElem? (i := 27) rfl)) (hb hby d2_180) (q := 182) rfl ?_
                      refine f_icmp_le X hx (hb hby d2_182) (q1 := 197) (by decide) (by decide) (q := 185) rfl (fun hc182 => ?_) (fun hc182 => ?_)
                      · refine s_iconst X hx (z := (1 : Int32)) (hb hby d2_197) rfl (q := 198) rfl ?_
                        refine s_goto X hx (hb hby d2_198) (q1 := 202) (by decide) (by decide) ?_
                        exact leafN X hx hlk hret (by simp) (hb hby d2_202) (Nat.le_refl _) (Nat.le_refl _) (z' := (1 : Int32)) rfl ⟨congrArg (fun z => some (Value.int z)) (hres.trans (by unfold F2_50; rw [if_pos hc54, if_pos hc68, if_pos hc82, if_pos hc96, if_pos hc110, if_pos hc124, if_pos hc138, if_pos hc152, if_pos hc164, if_neg hc176, if_neg hc182])).symm, eT, rfl⟩
                      exact cut185 (hres.trans (by unfold F2_50; rw [if_pos hc54, if_pos hc68, if_pos hc82, if_pos hc96, if_pos hc110, if_pos hc124, if_pos hc138, if_pos hc152, if_pos hc164, if_neg hc176, if_pos hc182]))
                    refine s_iloadN X hx (hb hby d2_167) rfl (q := 168) rfl ?_
                    refine s_ldc X hx hZ hown (hw _ (List.mem_of_getElem? (i := 26) rfl)) (hb hby d2_168) (q := 170) rfl ?_
                    refine f_icmp_le X hx (hb hby d2_170) (q1 := 197) (by decide) (by decide) (q := 173) rfl (fun hc170 => ?_) (fun hc170 => ?_)
                    · refine s_iconst X hx (z := (1 : Int32)) (hb hby d2_197) rfl (q := 198) rfl ?_
                      refine s_goto X hx (hb hby d2_198) (q1 := 202) (by decide) (by decide) ?_
                      exact leafN X hx hlk hret (by simp) (hb hby d2_202) (Nat.le_refl _) (Nat.le_refl _) (z' := (1 : Int32)) rfl ⟨congrArg (fun z => some (Value.int z)) (hres.trans (by unfold F2_50; rw [if_pos hc54, if_pos hc68, if_pos hc82, if_pos hc96, if_pos hc110, if_pos hc124, if_pos hc138, if_pos hc152, if_neg hc164, if_neg hc170])).symm, eT, rfl⟩
                    exact cut173 (hres.trans (by unfold F2_50; rw [if_pos hc54, if_pos hc68, if_pos hc82, if_pos hc96, if_pos hc110, if_pos hc124, if_pos hc138, if_pos hc152, if_neg hc164, if_pos hc170]))
                  refine s_iloadN X hx (hb hby d2_155) rfl (q := 156) rfl ?_
                  refine s_ldc X hx hZ hown (hw _ (List.mem_of_getElem? (i := 25) rfl)) (hb hby d2_156) (q := 158) rfl ?_
                  refine f_icmp_le X hx (hb hby d2_158) (q1 := 197) (by decide) (by decide) (q := 161) rfl (fun hc158 => ?_) (fun hc158 => ?_)
                  · refine s_iconst X hx (z := (1 : Int32)) (hb hby d2_197) rfl (q := 198) rfl ?_
                    refine s_goto X hx (hb hby d2_198) (q1 := 202) (by decide) (by decide) ?_
                    exact leafN X hx hlk hret (by simp) (hb hby d2_202) (Nat.le_refl _) (Nat.le_refl _) (z' := (1 : Int32)) rfl ⟨congrArg (fun z => some (Value.int z)) (hres.trans (by unfold F2_50; rw [if_pos hc54, if_pos hc68, if_pos hc82, if_pos hc96, if_pos hc110, if_pos hc124, if_pos hc138, if_neg hc152, if_neg hc158])).symm, eT, rfl⟩
                  exact cut161 (hres.trans (by unfold F2_50; rw [if_pos hc54, if_pos hc68, if_pos hc82, if_pos hc96, if_pos hc110, if_pos hc124, if_pos hc138, if_neg hc152, if_pos hc158]))
                refine s_iloadN X hx (hb hby d2_141) rfl (q := 142) rfl ?_
                refine s_sipush X hx (z := (12271 : Int32)) (hb hby d2_142) rfl (q := 145) rfl ?_
                refine f_icmp_le X hx (hb hby d2_145) (q1 := 197) (by decide) (by decide) (q := 148) rfl (fun hc145 => ?_) (fun hc145 => ?_)
                · refine s_iconst X hx (z := (1 : Int32)) (hb hby d2_197) rfl (q := 198) rfl ?_
                  refine s_goto X hx (hb hby d2_198) (q1 := 202) (by decide) (by decide) ?_
                  exact leafN X hx hlk hret (by simp) (hb hby d2_202) (Nat.le_refl _) (Nat.le_refl _) (z' := (1 : Int32)) rfl ⟨congrArg (fun z => some (Value.int z)) (hres.trans (by unfold F2_50; rw [if_pos hc54, if_pos hc68, if_pos hc82, if_pos hc96, if_pos hc110, if_pos hc124, if_neg hc138, if_neg hc145])).symm, eT, rfl⟩
                exact cut148 (hres.trans (by unfold F2_50; rw [if_pos hc54, if_pos hc68, if_pos hc82, if_pos hc96, if_pos hc110, if_pos hc124, if_neg hc138, if_pos hc145]))
              refine s_iloadN X hx (hb hby d2_127) rfl (q := 128) rfl ?_
              refine s_sipush X hx (z := (8591 : Int32)) (hb hby d2_128) rfl (q := 131) rfl ?_
              refine f_icmp_le X hx (hb hby d2_131) (q1 := 197) (by decide) (by decide) (q := 134) rfl (fun hc131 => ?_) (fun hc131 => ?_)
              · refine s_iconst X hx (z := (1 : Int32)) (hb hby d2_197) rfl (q := 198) rfl ?_
                refine s_goto X hx (hb hby d2_198) (q1 := 202) (by decide) (by decide) ?_
                exact leafN X hx hlk hret (by simp) (hb hby d2_202) (Nat.le_refl _) (Nat.le_refl _) (z' := (1 : Int32)) rfl ⟨congrArg (fun z => some (Value.int z)) (hres.trans (by unfold F2_50; rw [if_pos hc54, if_pos hc68, if_pos hc82, if_pos hc96, if_pos hc110, if_neg hc124, if_neg hc131])).symm, eT, rfl⟩
              exact cut134 (hres.trans (by unfold F2_50; rw [if_pos hc54, if_pos hc68, if_pos hc82, if_pos hc96, if_pos hc110, if_neg hc124, if_pos hc131]))
            refine s_iloadN X hx (hb hby d2_113) rfl (q := 114) rfl ?_
            refine s_sipush X hx (z := (8205 : Int32)) (hb hby d2_114) rfl (q := 117) rfl ?_
            refine f_icmp_le X hx (hb hby d2_117) (q1 := 197) (by decide) (by decide) (q := 120) rfl (fun hc117 => ?_) (fun hc117 => ?_)
            · refine s_iconst X hx (z := (1 : Int32)) (hb hby d2_197) rfl (q := 198) rfl ?_
              refine s_goto X hx (hb hby d2_198) (q1 := 202) (by decide) (by decide) ?_
              exact leafN X hx hlk hret (by simp) (hb hby d2_202) (Nat.le_refl _) (Nat.le_refl _) (z' := (1 : Int32)) rfl ⟨congrArg (fun z => some (Value.int z)) (hres.trans (by unfold F2_50; rw [if_pos hc54, if_pos hc68, if_pos hc82, if_pos hc96, if_neg hc110, if_neg hc117])).symm, eT, rfl⟩
            exact cut120 (hres.trans (by unfold F2_50; rw [if_pos hc54, if_pos hc68, if_pos hc82, if_pos hc96, if_neg hc110, if_pos hc117]))
          refine s_iloadN X hx (hb hby d2_99) rfl (q := 100) rfl ?_
          refine s_sipush X hx (z := (8191 : Int32)) (hb hby d2_100) rfl (q := 103) rfl ?_
          refine f_icmp_le X hx (hb hby d2_103) (q1 := 197) (by decide) (by decide) (q := 106) rfl (fun hc103 => ?_) (fun hc103 => ?_)
          · refine s_iconst X hx (z := (1 : Int32)) (hb hby d2_197) rfl (q := 198) rfl ?_
            refine s_goto X hx (hb hby d2_198) (q1 := 202) (by decide) (by decide) ?_
            exact leafN X hx hlk hret (by simp) (hb hby d2_202) (Nat.le_refl _) (Nat.le_refl _) (z' := (1 : Int32)) rfl ⟨congrArg (fun z => some (Value.int z)) (hres.trans (by unfold F2_50; rw [if_pos hc54, if_pos hc68, if_pos hc82, if_neg hc96, if_neg hc103])).symm, eT, rfl⟩
          exact cut106 (hres.trans (by unfold F2_50; rw [if_pos hc54, if_pos hc68, if_pos hc82, if_neg hc96, if_pos hc103]))
        refine s_iloadN X hx (hb hby d2_85) rfl (q := 86) rfl ?_
        refine s_sipush X hx (z := (893 : Int32)) (hb hby d2_86) rfl (q := 89) rfl ?_
        refine f_icmp_le X hx (hb hby d2_89) (q1 := 197) (by decide) (by decide) (q := 92) rfl (fun hc89 => ?_) (fun hc89 => ?_)
        · refine s_iconst X hx (z := (1 : Int32)) (hb hby d2_197) rfl (q := 198) rfl ?_
          refine s_goto X hx (hb hby d2_198) (q1 := 202) (by decide) (by decide) ?_
          exact leafN X hx hlk hret (by simp) (hb hby d2_202) (Nat.le_refl _) (Nat.le_refl _) (z' := (1 : Int32)) rfl ⟨congrArg (fun z => some (Value.int z)) (hres.trans (by unfold F2_50; rw [if_pos hc54, if_pos hc68, if_neg hc82, if_neg hc89])).symm, eT, rfl⟩
        exact cut92 (hres.trans (by unfold F2_50; rw [if_pos hc54, if_pos hc68, if_neg hc82, if_pos hc89]))
      refine s_iloadN X hx (hb hby d2_71) rfl (q := 72) rfl ?_
      refine s_sipush X hx (z := (767 : Int32)) (hb hby d2_72) rfl (q := 75) rfl ?_
      refine f_icmp_le X hx (hb hby d2_75) (q1 := 197) (by decide) (by decide) (q := 78) rfl (fun hc75 => ?_) (fun hc75 => ?_)
      · refine s_iconst X hx (z := (1 : Int32)) (hb hby d2_197) rfl (q := 198) rfl ?_
        refine s_goto X hx (hb hby d2_198) (q1 := 202) (by decide) (by decide) ?_
        exact leafN X hx hlk hret (by simp) (hb hby d2_202) (Nat.le_refl _) (Nat.le_refl _) (z' := (1 : Int32)) rfl ⟨congrArg (fun z => some (Value.int z)) (hres.trans (by unfold F2_50; rw [if_pos hc54, if_neg hc68, if_neg hc75])).symm, eT, rfl⟩
      exact cut78 (hres.trans (by unfold F2_50; rw [if_pos hc54, if_neg hc68, if_pos hc75]))
    refine s_iloadN X hx (hb hby d2_57) rfl (q := 58) rfl ?_
    refine s_sipush X hx (z := (246 : Int32)) (hb hby d2_58) rfl (q := 61) rfl ?_
    refine f_icmp_le X hx (hb hby d2_61) (q1 := 197) (by decide) (by decide) (q := 64) rfl (fun hc61 => ?_) (fun hc61 => ?_)
    · refine s_iconst X hx (z := (1 : Int32)) (hb hby d2_197) rfl (q := 198) rfl ?_
      refine s_goto X hx (hb hby d2_198) (q1 := 202) (by decide) (by decide) ?_
      exact leafN X hx hlk hret (by simp) (hb hby d2_202) (Nat.le_refl _) (Nat.le_refl _) (z' := (1 : Int32)) rfl ⟨congrArg (fun z => some (Value.int z)) (hres.trans (by unfold F2_50; rw [if_neg hc54, if_neg hc61])).symm, eT, rfl⟩
    exact cut64 (hres.trans (by unfold F2_50; rw [if_neg hc54, if_pos hc61]))
  have cut36 : res = F2_36 x0 → Go p e below (Gl s below (PQ (.int res) h0) 0 0) T m 36 #[.val (.int x0)] [] := by
    intro hres
    refine s_iloadN X hx (hb hby d2_36) rfl (q := 37) rfl ?_
    refine s_sipush X hx (z := (192 : Int32)) (hb hby d2_37) rfl (q := 40) rfl ?_
    refine f_icmp_lt X hx (hb hby d2_40) (q1 := 50) (by decide) (by decide) (q := 43) rfl (fun hc40 => ?_) (fun hc40 => ?_)
    · refine s_iloadN X hx (hb hby d2_50) rfl (q := 51) rfl ?_
      refine s_sipush X hx (z := (216 : Int32)) (hb hby d2_51) rfl (q := 54) rfl ?_
      refine f_icmp_lt X hx (hb hby d2_54) (q1 := 64) (by decide) (by decide) (q := 57) rfl (fun hc54 => ?_) (fun hc54 => ?_)
      · refine s_iloadN X hx (hb hby d2_64) rfl (q := 65) rfl ?_
        refine s_sipush X hx (z := (248 : Int32)) (hb hby d2_65) rfl (q := 68) rfl ?_
        refine f_icmp_lt X hx (hb hby d2_68) (q1 := 78) (by decide) (by decide) (q := 71) rfl (fun hc68 => ?_) (fun hc68 => ?_)
        · refine s_iloadN X hx (hb hby d2_78) rfl (q := 79) rfl ?_
          refine s_sipush X hx (z := (880 : Int32)) (hb hby d2_79) rfl (q := 82) rfl ?_
          refine f_icmp_lt X hx (hb hby d2_82) (q1 := 92) (by decide) (by decide) (q := 85) rfl (fun hc82 => ?_) (fun hc82 => ?_)
          · refine s_iloadN X hx (hb hby d2_92) rfl (q := 93) rfl ?_
            refine s_sipush X hx (z := (895 : Int32)) (hb hby d2_93) rfl (q := 96) rfl ?_
            refine f_icmp_lt X hx (hb hby d2_96) (q1 := 106) (by decide) (by decide) (q := 99) rfl (fun hc96 => ?_) (fun hc96 => ?_)
            · refine s_iloadN X hx (hb hby d2_106) rfl (q := 107) rfl ?_
              refine s_sipush X hx (z := (8204 : Int32)) (hb hby d2_107) rfl (q := 110) rfl ?_
              refine f_icmp_lt X hx (hb hby d2_110) (q1 := 120) (by decide) (by decide) (q := 113) rfl (fun hc110 => ?_) (fun hc110 => ?_)
              · refine s_iloadN X hx (hb hby d2_120) rfl (q := 121) rfl ?_
                refine s_sipush X hx (z := (8304 : Int32)) (hb hby d2_121) rfl (q := 124) rfl ?_
                refine f_icmp_lt X hx (hb hby d2_124) (q1 := 134) (by decide) (by decide) (q := 127) rfl (fun hc124 => ?_) (fun hc124 => ?_)
                · refine s_iloadN X hx (hb hby d2_134) rfl (q := 135) rfl ?_
                  refine s_sipush X hx (z := (11264 : Int32)) (hb hby d2_135) rfl (q := 138) rfl ?_
                  refine f_icmp_lt X hx (hb hby d2_138) (q1 := 148) (by decide) (by decide) (q := 141) rfl (fun hc138 => ?_) (fun hc138 => ?_)
                  · refine s_iloadN X hx (hb hby d2_148) rfl (q := 149) rfl ?_
                    refine s_sipush X hx (z := (12289 : Int32)) (hb hby d2_149) rfl (q := 152) rfl ?_
                    refine f_icmp_lt X hx (hb hby d2_152) (q1 := 161) (by decide) (by decide) (q := 155) rfl (fun hc152 => ?_) (fun hc152 => ?_)
                    · refine s_iloadN X hx (hb hby d2_161) rfl (q := 162) rfl ?_
                      refine s_ldc X hx hZ hown (hw _ (List.mem_of_getElem? (i := 16) rfl)) (hb hby d2_162) (q := 164) rfl ?_
                      refine f_icmp_lt X hx (hb hby d2_164) (q1 := 173) (by decide) (by decide) (q := 167) rfl (fun hc164 => ?_) (fun hc164 => ?_)
                      · refine s_iloadN X hx (hb hby d2_173) rfl (q := 174) rfl ?_
                        refine s_ldc X hx hZ hown (hw _ (List.mem_of_getElem? (i := 17) rfl)) (hb hby d2_174) (q := 176) rfl ?_
                        refine f_icmp_lt X hx (hb hby d2_176) (q1 := 185) (by decide) (by decide) (q := 179) rfl (fun hc176 => ?_) (fun hc176 => ?_)
                        · refine s_iloadN X hx (hb hby d2_185) rfl (q := 186) rfl ?_
                          refine s_ldc X hx hZ hown (hw _ (List.mem_of_getElem? (i := 18) rfl)) (hb hby d2_186) (q := 188) rfl ?_
                          refine f_icmp_lt X hx (hb hby d2_188) (q1 := 201) (by decide) (by decide) (q := 191) rfl (fun hc188 => ?_) (fun hc188 => ?_)
                          · refine s_iconst X hx (z := (0 : Int32)) (hb hby d2_201) rfl (q := 202) rfl ?_
                            exact leafN X hx hlk hret (by simp) (hb hby d2_202) (Nat.le_refl _) (Nat.le_refl _) (z' := (0 : Int32)) rfl ⟨congrArg (fun z => some (Value.int z)) (hres.trans (by unfold F2_36; rw [if_pos hc40, if_pos hc54, if_pos hc68, if_pos hc82, if_pos hc96, if_pos hc110, if_pos hc124, if_pos hc138, if_pos hc152, if_pos hc164, if_pos hc176, if_pos hc188])).symm, eT, rfl⟩
                          refine s_iloadN X hx (hb hby d2_191) rfl (q := 192) rfl ?_
                          refine s_ldc X hx hZ hown (hw _ (List.mem_of_getElem? (i := 28) rfl)) (hb hby d2_192) (q := 194) rfl ?_
                          refine f_icmp_gt X hx (hb hby d2_194) (q1 := 201) (by decide) (by decide) (q := 197) rfl (fun hc194 => ?_) (fun hc194 => ?_)
                          · refine s_iconst X hx (z := (0 : Int32)) (hb hby d2_201) rfl (q := 202) rfl ?_
                            exact leafN X hx hlk hret (by simp) (hb hby d2_202) (Nat.le_refl _) (Nat.le_refl _) (z' := (0 : Int32)) rfl ⟨congrArg (fun z => some (Value.int z)) (hres.trans (by unfold F2_36; rw [if_pos hc40, if_pos hc54, if_pos hc68, if_pos hc82, if_pos hc96, if_pos hc110, if_pos hc124, if_pos hc138, if_pos hc152, if_pos hc164, if_pos hc176, if_neg hc188, if_pos hc194])).symm, eT, rfl⟩
                          exact cut197 (hres.trans (by unfold F2_36; rw [if_pos hc40, if_pos hc54, if_pos hc68, if_pos hc82, if_pos hc96, if_pos hc110, if_pos hc124, if_pos hc138, if_pos hc152, if_pos hc164, if_pos hc176, if_neg hc188, if_neg hc194]))
                        refine s_iloadN X hx (hb hby d2_179) rfl (q := 180) rfl ?_
                        refine s_ldc X hx hZ hown (hw _ (List.mem_of_getElem? (i := 27) rfl)) (hb hby d2_180) (q := 182) rfl ?_
                        refine f_icmp_le X hx (hb hby d2_182) (q1 := 197) (by decide) (by decide) (q := 185) rfl (fun hc182 => ?_) (fun hc182 => ?_)
                        · refine s_iconst X hx (z := (1 : Int32)) (hb hby d2_197) rfl (q := 198) rfl ?_
                          refine s_goto X hx (hb hby d2_198) (q1 := 202) (by decide) (by decide) ?_
                          exact leafN X hx hlk hret (by simp) (hb hby d2_202) (Nat.le_refl _) (Nat.le_refl _) (z' := (1 : Int32)) rfl ⟨congrArg (fun z => some (Value.int z)) (hres.trans (by unfold F2_36; rw [if_pos hc40, if_pos hc54, if_pos hc68, if_pos hc82, if_pos hc96, if_pos hc110, if_pos hc124, if_pos hc138, if_pos hc152, if_pos hc164, if_neg hc176, if_neg hc182])).symm, eT, rfl⟩
                        exact cut185 (hres.trans (by unfold F2_36; rw [if_pos hc40, if_pos hc54, if_pos hc68, if_pos hc82, if_pos hc96, if_pos hc110, if_pos hc124, if_pos hc138, if_pos hc152, if_pos hc164, if_neg hc176, if_pos hc182]))
                      refine s_iloadN X hx (hb hby d2_167) rfl (q := 168) rfl ?_
                      refine s_ldc X hx hZ hown (hw _ (List.mem_of_getElem? (i := 26) rfl)) (hb hby d2_168) (q := 170) rfl ?_
                      refine f_icmp_le X hx (hb hby d2_170) (q1 := 197) (by decide) (by decide) (q := 173) rfl (fun hc170 => ?_) (fun hc170 => ?_)
                      · refine s_iconst X hx (z := (1 : Int32)) (hb hby d2_197) rfl (q := 198) rfl ?_
                        refine s_goto X hx (hb hby d2_198) (q1 := 202) (by decide) (by decide) ?_
                        exact leafN X hx hlk hret (by simp) (hb hby d2_202) (Nat.le_refl _) (Nat.le_refl _) (z' := (1 : Int32)) rfl ⟨congrArg (fun z => some (Value.int z)) (hres.trans (by unfold F2_36; rw [if_pos hc40, if_pos hc54, if_pos hc68, if_pos hc82, if_pos hc96, if_pos hc110, if_pos hc124, if_pos hc138, if_pos hc152, if_neg hc164, if_neg hc170])).symm, eT, rfl⟩
                      exact cut173 (hres.trans (by unfold F2_36; rw [if_pos hc40, if_pos hc54, if_pos hc68, if_pos hc82, if_pos hc96, if_pos hc110, if_pos hc124, if_pos hc138, if_pos hc152, if_neg hc164, if_pos hc170]))
                    refine s_iloadN X hx (hb hby d2_155) rfl (q := 156) rfl ?_
                    refine s_ldc X hx hZ hown (hw _ (List.mem_of_getElem? (i := 25) rfl)) (hb hby d2_156) (q := 158) rfl ?_
                    refine f_icmp_le X hx (hb hby d2_158) (q1 := 197) (by decide) (by decide) (q := 161) rfl (fun hc158 => ?_) (fun hc158 => ?_)
                    · refine s_iconst X hx (z := (1 : Int32)) (hb hby d2_197) rfl (q := 198) rfl ?_
                      refine s_goto X hx (hb hby d2_198) (q1 := 202) (by decide) (by decide) ?_
                      exact leafN X hx hlk hret (by simp) (hb hby d2_202) (Nat.le_refl _) (Nat.le_refl _) (z' := (1 : Int32)) rfl ⟨congrArg (fun z => some (Value.int z)) (hres.trans (by unfold F2_36; rw [if_pos hc40, if_pos hc54, if_pos hc68, if_pos hc82, if_pos hc96, if_pos hc110, if_pos hc124, if_pos hc138, if_neg hc152, if_neg hc158])).symm, eT, rfl⟩
                    exact cut161 (hres.trans (by unfold F2_36; rw [if_pos hc40, if_pos hc54, if_pos hc68, if_pos hc82, if_pos hc96, if_pos hc110, if_pos hc124, if_pos hc138, if_neg hc152, if_pos hc158]))
                  refine s_iloadN X hx (hb hby d2_141) rfl (q := 142) rfl ?_
                  refine s_sipush X hx (z := (12271 : Int32)) (hb hby d2_142) rfl (q := 145) rfl ?_
                  refine f_icmp_le X hx (hb hby d2_145) (q1 := 197) (by decide) (by decide) (q := 148) rfl (fun hc145 => ?_) (fun hc145 => ?_)
                  · refine s_iconst X hx (z := (1 : Int32)) (hb hby d2_197) rfl (q := 198) rfl ?_
                    refine s_goto X hx (hb hby d2_198) (q1 := 202) (by decide) (by decide) ?_
                    exact leafN X hx hlk hret (by simp) (hb hby d2_202) (Nat.le_refl _) (Nat.le_refl _) (z' := (1 : Int32)) rfl ⟨congrArg (fun z => some (Value.int z)) (hres.trans (by unfold F2_36; rw [if_pos hc40, if_pos hc54, if_pos hc68, if_pos hc82, if_pos hc96, if_pos hc110, if_pos hc124, if_neg hc138, if_neg hc145])).symm, eT, rfl⟩
                  exact cut148 (hres.trans (by unfold F2_36; rw [if_pos hc40, if_pos hc54, if_pos hc68, if_pos hc82, if_pos hc96, if_pos hc110, if_pos hc124, if_neg hc138, if_pos hc145]))
                refine s_iloadN X hx (hb hby d2_127) rfl (q := 128) rfl ?_
                refine s_sipush X hx (z := (8591 : Int32)) (hb hby d2_128) rfl (q := 131) rfl ?_
                refine f_icmp_le X hx (hb hby d2_131) (q1 := 197) (by decide) (by decide) (q := 134) rfl (fun hc131 => ?_) (fun hc131 => ?_)
                · refine s_iconst X hx (z := (1 : Int32)) (hb hby d2_197) rfl (q := 198) rfl ?_
                  refine s_goto X hx (hb hby d2_198) (q1 := 202) (by decide) (by decide) ?_
                  exact leafN X hx hlk hret (by simp) (hb hby d2_202) (Nat.le_refl _) (Nat.le_refl _) (z' := (1 : Int32)) rfl ⟨congrArg (fun z => some (Value.int z)) (hres.trans (by unfold F2_36; rw [if_pos hc40, if_pos hc54, if_pos hc68, if_pos hc82, if_pos hc96, if_pos hc110, if_neg hc124, if_neg hc131])).symm, eT, rfl⟩
                exact cut134 (hres.trans (by unfold F2_36; rw [if_pos hc40, if_pos hc54, if_pos hc68, if_pos hc82, if_pos hc96, if_pos hc110, if_neg hc124, if_pos hc131]))
              refine s_iloadN X hx (hb hby d2_113) rfl (q := 114) rfl ?_
              refine s_sipush X hx (z := (8205 : Int32)) (hb hby d2_114) rfl (q := 117) rfl ?_
              refine f_icmp_le X hx (hb hby d2_117) (q1 := 197) (by decide) (by decide) (q := 120) rfl (fun hc117 => ?_) (fun hc117 => ?_)
              · refine s_iconst X hx (z := (1 : Int32)) (hb hby d2_197) rfl (q := 198) rfl ?_
                refine s_goto X hx (hb hby d2_198) (q1 := 202) (by decide) (by decide) ?_
                exact leafN X hx hlk hret (by simp) (hb hby d2_202) (Nat.le_refl _) (Nat.le_refl _) (z' := (1 : Int32)) rfl ⟨congrArg (fun z => some (Value.int z)) (hres.trans (by unfold F2_36; rw [if_pos hc40, if_pos hc54, if_pos hc68, if_pos hc82, if_pos hc96, if_neg hc110, if_neg hc117])).symm, eT, rfl⟩
              exact cut120 (hres.trans (by unfold F2_36; rw [if_pos hc40, if_pos hc54, if_pos hc68, if_pos hc82, if_pos hc96, if_neg hc110, if_pos hc117]))
            refine s_iloadN X hx (hb hby d2_99) rfl (q := 100) rfl ?_
            refine s_sipush X hx (z := (8191 : Int32)) (hb hby d2_100) rfl (q := 103) rfl ?_
            refine f_icmp_le X hx (hb hby d2_103) (q1 := 197) (by decide) (by decide) (q := 106) rfl (fun hc103 => ?_) (fun hc103 => ?_)
            · refine s_iconst X hx (z := (1 : Int32)) (hb hby d2_197) rfl (q := 198) rfl ?_
              refine s_goto X hx (hb hby d2_198) (q1 := 202) (by decide) (by decide) ?_
              exact leafN X hx hlk hret (by simp) (hb hby d2_202) (Nat.le_refl _) (Nat.le_refl _) (z' := (1 : Int32)) rfl ⟨congrArg (fun z => some (Value.int z)) (hres.trans (by unfold F2_36; rw [if_pos hc40, if_pos hc54, if_pos hc68, if_pos hc82, if_neg hc96, if_neg hc103])).symm, eT, rfl⟩
            exact cut106 (hres.trans (by unfold F2_36; rw [if_pos hc40, if_pos hc54, if_pos hc68, if_pos hc82, if_neg hc96, if_pos hc103]))
          refine s_iloadN X hx (hb hby d2_85) rfl (q := 86) rfl ?_
          refine s_sipush X hx (z := (893 : Int32)) (hb hby d2_86) rfl (q := 89) rfl ?_
          refine f_icmp_le X hx (hb hby d2_89) (q1 := 197) (by decide) (by decide) (q := 92) rfl (fun hc89 => ?_) (fun hc89 => ?_)
          · refine s_iconst X hx (z := (1 : Int32)) (hb hby d2_197) rfl (q := 198) rfl ?_
            refine s_goto X hx (hb hby d2_198) (q1 := 202) (by decide) (by decide) ?_
            exact leafN X hx hlk hret (by simp) (hb hby d2_202) (Nat.le_refl _) (Nat.le_refl _) (z' := (1 : Int32)) rfl ⟨congrArg (fun z => some (Value.int z)) (hres.trans (by unfold F2_36; rw [if_pos hc40, if_pos hc54, if_pos hc68, if_neg hc82, if_neg hc89])).symm, eT, rfl⟩
          exact cut92 (hres.trans (by unfold F2_36; rw [if_pos hc40, if_pos hc54, if_pos hc68, if_neg hc82, if_pos hc89]))
        refine s_iloadN X hx (hb hby d2_71) rfl (q := 72) rfl ?_
        refine s_sipush X hx (z := (767 : Int32)) (hb hby d2_72) rfl (q := 75) rfl ?_
        refine f_icmp_le X hx (hb hby d2_75) (q1 := 197) (by decide) (by decide) (q := 78) rfl (fun hc75 => ?_) (fun hc75 => ?_)
        · refine s_iconst X hx (z := (1 : Int32)) (hb hby d2_197) rfl (q := 198) rfl ?_
          refine s_goto X hx (hb hby d2_198) (q1 := 202) (by decide) (by decide) ?_
          exact leafN X hx hlk hret (by simp) (hb hby d2_202) (Nat.le_refl _) (Nat.le_refl _) (z' := (1 : Int32)) rfl ⟨congrArg (fun z => some (Value.int z)) (hres.trans (by unfold F2_36; rw [if_pos hc40, if_pos hc54, if_neg hc68, if_neg hc75])).symm, eT, rfl⟩
        exact cut78 (hres.trans (by unfold F2_36; rw [if_pos hc40, if_pos hc54, if_neg hc68, if_pos hc75]))
      refine s_iloadN X hx (hb hby d2_57) rfl (q := 58) rfl ?_
      refine s_sipush X hx (z := (246 : Int32)) (hb hby d2_58) rfl (q := 61) rfl ?_
      refine f_icmp_le X hx (hb hby d2_61) (q1 := 197) (by decide) (by decide) (q := 64) rfl (fun hc61 => ?_) (fun hc61 => ?_)
      · refine s_iconst X hx (z := (1 : Int32)) (hb hby d2_197) rfl (q := 198) rfl ?_
        refine s_goto X hx (hb hby d2_198) (q1 := 202) (by decide) (by decide) ?_
        exact leafN X hx hlk hret (by simp) (hb hby d2_202) (Nat.le_refl _) (Nat.le_refl _) (z' := (1 : Int32)) rfl ⟨congrArg (fun z => some (Value.int z)) (hres.trans (by unfold F2_36; rw [if_pos hc40, if_neg hc54, if_neg hc61])).symm, eT, rfl⟩
      exact cut64 (hres.trans (by unfold F2_36; rw [if_pos hc40, if_neg hc54, if_pos hc61]))
    refine s_iloadN X hx (hb hby d2_43) rfl (q := 44) rfl ?_
    refine s_sipush X hx (z := (214 : Int32)) (hb hby d2_44) rfl (q := 47) rfl ?_
    refine f_icmp_le X hx (hb hby d2_47) (q1 := 197) (by decide) (by decide) (q := 50) rfl (fun hc47 => ?_) (fun hc47 => ?_)
    · refine s_iconst X hx (z := (1 : Int32)) (hb hby d2_197) rfl (q := 198) rfl ?_
      refine s_goto X hx (hb hby d2_198) (q1 := 202) (by decide) (by decide) ?_
      exact leafN X hx hlk hret (by simp) (hb hby d2_202) (Nat.le_refl _) (Nat.le_refl _) (z' := (1 : Int32)) rfl ⟨congrArg (fun z => some (Value.int z)) (hres.trans (by unfold F2_36; rw [if_neg hc40, if_neg hc47])).symm, eT, rfl⟩
    exact cut50 (hres.trans (by unfold F2_36; rw [if_neg hc40, if_pos hc47]))
  have cut18 : res = F2_18 x0 → Go p e below (Gl s below (PQ (.int res) h0) 0 0) T m 18 #[.val (.int x0)] [] := by
    intro hres
    refine s_iloadN X hx (hb hby d2_18) rfl (q := 19) rfl ?_
    refine s_bipush X hx (z := (95 : Int32)) (hb hby d2_19) rfl (q := 21) rfl ?_
    refine f_icmp_eq X hx (hb hby d2_21) (q1 := 197) (by decide) (by decide) (q := 24) rfl (fun hc21 => ?_) (fun hc21 => ?_)
    · refine s_iconst X hx (z := (1 : Int32)) (hb hby d2_197) rfl (q := 198) rfl ?_
      refine s_goto X hx (hb hby d2_198) (q1 := 202) (by decide) (by decide) ?_
      exact leafN X hx hlk hret (by simp) (hb hby d2_202) (Nat.le_refl _) (Nat.le_refl _) (z' := (1 : Int32)) rfl ⟨congrArg (fun z => some (Value.int z)) (hres.trans (by unfold F2_18; rw [if_pos hc21])).symm, eT, rfl⟩
    refine s_iloadN X hx (hb hby d2_24) rfl (q := 25) rfl ?_
    refine s_bipush X hx (z := (97 : Int32)) (hb hby d2_25) rfl (q := 27) rfl ?_
    refine f_icmp_lt X hx (hb hby d2_27) (q1 := 36) (by decide) (by decide) (q := 30) rfl (fun hc27 => ?_) (fun hc27 => ?_)
    · refine s_iloadN X hx (hb hby d2_36) rfl (q := 37) rfl ?_
      refine s_sipush X hx (z := (192 : Int32)) (hb hby d2_37) rfl (q := 40) rfl ?_
      refine f_icmp_lt X hx (hb hby d2_40) (q1 := 50) (by decide) (by decide) (q := 43) rfl (fun hc40 => ?_) (fun hc40 => ?_)
      · refine s_iloadN X hx (hb hby d2_50) rfl (q := 51) rfl ?_
        refine s_sipush X hx (z := (216 : Int32)) (hb hby d2_51) rfl (q := 54) rfl ?_
        refine f_icmp_lt X hx (hb hby d2_54) (q1 := 64) (by decide) (by decide) (q := 57) rfl (fun hc54 => ?_) (fun hc54 => ?_)
        · refine s_iloadN X hx (hb hby d2_64) rfl (q := 65) rfl ?_
          refine s_sipush X hx (z := (248 : Int32)) (hb hby d2_65) rfl (q := 68) rfl ?_
          refine f_icmp_lt X hx (hb hby d2_68) (q1 := 78) (by decide) (by decide) (q := 71) rfl (fun hc68 => ?_) (fun hc68 => ?_)
          · refine s_iloadN X hx (hb hby d2_78) rfl (q := 79) rfl ?_
            refine s_sipush X hx (z := (880 : Int32)) (hb hby d2_79) rfl (q := 82) rfl ?_
            refine f_icmp_lt X hx (hb hby d2_82) (q1 := 92) (by decide) (by decide) (q := 85) rfl (fun hc82 => ?_) (fun hc82 => ?_)
            · refine s_iloadN X hx (hb hby d2_92) rfl (q := 93) rfl ?_
              refine s_sipush X hx (z := (895 : Int32)) (hb hby d2_93) rfl (q := 96) rfl ?_
              refine f_icmp_lt X hx (hb hby d2_96) (q1 := 106) (by decide) (by decide) (q := 99) rfl (fun hc96 => ?_) (fun hc96 => ?_)
              · refine s_iloadN X hx (hb hby d2_106) rfl (q := 107) rfl ?_
                refine s_sipush X hx (z := (8204 : Int32)) (hb hby d2_107) rfl (q := 110) rfl ?_
                refine f_icmp_lt X hx (hb hby d2_110) (q1 := 120) (by decide) (by decide) (q := 113) rfl (fun hc110 => ?_) (fun hc110 => ?_)
                · refine s_iloadN X hx (hb hby d2_120) rfl (q := 121) rfl ?_
                  refine s_sipush X hx (z := (8304 : Int32)) (hb hby d2_121) rfl (q := 124) rfl ?_
                  refine f_icmp_lt X hx (hb hby d2_124) (q1 := 134) (by decide) (by decide) (q := 127) rfl (fun hc124 => ?_) (fun hc124 => ?_)
                  · refine s_iloadN X hx (hb hby d2_134) rfl (q := 135) rfl ?_
                    refine s_sipush X hx (z := (11264 : Int32)) (hb hby d2_135) rfl (q := 138) rfl ?_
                    refine f_icmp_lt X hx (hb hby d2_138) (q1 := 148) (by decide) (by decide) (q := 141) rfl (fun hc138 => ?_) (fun hc138 => ?_)
                    · refine s_iloadN X hx (hb hby d2_148) rfl (q := 149) rfl ?_
                      refine s_sipush X hx (z := (12289 : Int32)) (hb hby d2_149) rfl (q := 152) rfl ?_
                      refine f_icmp_lt X hx (hb hby d2_152) (q1 := 161) (by decide) (by decide) (q := 155) rfl (fun hc152 => ?_) (fun hc152 => ?_)
                      · refine s_iloadN X hx (hb hby d2_161) rfl (q := 162) rfl ?_
                        refine s_ldc X hx hZ hown (hw _ (List.mem_of_getElem? (i := 16) rfl)) (hb hby d2_162) (q := 164) rfl ?_
                        refine f_icmp_lt X hx (hb hby d2_164) (q1 := 173) (by decide) (by decide) (q := 167) rfl (fun hc164 => ?_) (fun hc164 => ?_)
                        · refine s_iloadN X hx (hb hby d2_173) rfl (q := 174) rfl ?_
                          refine s_ldc X hx hZ hown (hw _ (List.mem_of_getElem? (i := 17) rfl)) (hb hby d2_174) (q := 176) rfl ?_
                          refine f_icmp_lt X hx (hb hby d2_176) (q1 := 185) (by decide) (by decide) (q := 179) rfl (fun hc176 => ?_) (fun hc176 => ?_)
                          · refine s_iloadN X hx (hb hby d2_185) rfl (q := 186) rfl ?_
                            refine s_ldc X hx hZ hown (hw _ (List.mem_of_getElem? (i := 18) rfl)) (hb hby d2_186) (q := 188) rfl ?_
                            refine f_icmp_lt X hx (hb hby d2_188) (q1 := 201) (by decide) (by decide) (q := 191) rfl (fun hc188 => ?_) (fun hc188 => ?_)
                            · refine s_iconst X hx (z := (0 : Int32)) (hb hby d2_201) rfl (q := 202) rfl ?_
                              exact leafN X hx hlk hret (by simp) (hb hby d2_202) (Nat.le_refl _) (Nat.le_refl _) (z' := (0 : Int32)) rfl ⟨congrArg (fun z => some (Value.int z)) (hres.trans (by unfold F2_18; rw [if_neg hc21, if_pos hc27, if_pos hc40, if_pos hc54, if_pos hc68, if_pos hc82, if_pos hc96, if_pos hc110, if_pos hc124, if_pos hc138, if_pos hc152, if_pos hc164, if_pos hc176, if_pos hc188])).symm, eT, rfl⟩
                            refine s_iloadN X hx (hb hby d2_191) rfl (q := 192) rfl ?_
                            refine s_ldc X hx hZ hown (hw _ (List.mem_of_getElem? (i := 28) rfl)) (hb hby d2_192) (q := 194) rfl ?_
                            refine f_icmp_gt X hx (hb hby d2_194) (q1 := 201) (by decide) (by decide) (q := 197) rfl (fun hc194 => ?_) (fun hc194 => ?_)
                            · refine s_iconst X hx (z := (0 : Int32)) (hb hby d2_201) rfl (q := 202) rfl ?_
                              exact leafN X hx hlk hret (by simp) (hb hby d2_202) (Nat.le_refl _) (Nat.le_refl _) (z' := (0 : Int32)) rfl ⟨congrArg (fun z => some (Value.int z)) (hres.trans (by unfold F2_18; rw [if_neg hc21, if_pos hc27, if_pos hc40, if_pos hc54, if_pos hc68, if_pos hc82, if_pos hc96, if_pos hc110, if_pos hc124, if_pos hc138, if_pos hc152, if_pos hc164, if_pos hc176, if_neg hc188, if_pos hc194])).symm, eT, rfl⟩
                            exact cut197 (hres.trans (by unfold F2_18; rw [if_neg hc21, if_pos hc27, if_pos hc40, if_pos hc54, if_pos hc68, if_pos hc82, if_pos hc96, if_pos hc110, if_pos hc124, if_pos hc138, if_pos hc152, if_pos hc164, if_pos hc176, if_neg hc188, if_neg hc194]))
                          refine s_iloadN X hx (hb hby d2_179) rfl (q := 180) rfl ?_
                          refine s_ldc X hx hZ hown (hw _ (List.mem_of_getElem? (i := 27) rfl)) (hb hby d2_180) (q := 182) rfl ?_
                          refine f_icmp_le X hx (hb hby d2_182) (q1 := 197) (by decide) (by decide) (q := 185) rfl (fun hc182 => ?_) (fun hc182 => ?_)
                          · refine s_iconst X hx (z := (1 : Int32)) (hb hby d2_197) rfl (q := 198) rfl ?_
                            refine s_goto X hx (hb hby d2_198) (q1 := 202) (by decide) (by decide) ?_
                            exact leafN X hx hlk hret (by simp) (hb hby d2_202) (Nat.le_refl _) (Nat.le_refl _) (z' := (1 : Int32)) rfl ⟨congrArg (fun z => some (Value.int z)) (hres.trans (by unfold F2_18; rw [if_neg hc21, if_pos hc27, if_pos hc40, if_pos hc54, if_pos hc68, if_pos hc82, if_pos hc96, if_pos hc110, if_pos hc124, if_pos hc138, if_pos hc152, if_pos hc164, if_neg hc176, if_neg hc182])).symm, eT, rfl⟩
                          exact cut185 (hres.trans (by unfold F2_18; rw [if_neg hc21, if_pos hc27, if_pos hc40, if_pos hc54, if_pos hc68, if_pos hc82, if_pos hc96, if_pos hc110, if_pos hc124, if_pos hc138, if_pos hc152, if_pos hc164, if_neg hc176, if_pos hc182]))
                        refine s_iloadN X hx (hb hby d2_167) rfl (q := 168) rfl ?_
                        refine s_ldc X hx hZ hown (hw _ (List.mem_of_getElem? (i := 26) rfl)) (hb hby d2_168) (q := 170) rfl ?_
                        refine f_icmp_le X hx (hb hby d2_170) (q1 := 197) (by decide) (by decide) (q := 173) rfl (fun hc170 => ?_) (fun hc170 => ?_)
                        · refine s_iconst X hx (z := (1 : Int32)) (hb hby d2_197) rfl (q := 198) rfl ?_
                          refine s_goto X hx (hb hby d2_198) (q1 := 202) (by decide) (by decide) ?_
                          exact leafN X hx hlk hret (by simp) (hb hby d2_202) (Nat.le_refl _) (Nat.le_refl _) (z' := (1 : Int32)) rfl ⟨congrArg (fun z => some (Value.int z)) (hres.trans (by unfold F2_18; rw [if_neg hc21, if_pos hc27, if_pos hc40, if_pos hc54, if_pos hc68, if_pos hc82, if_pos hc96, if_pos hc110, if_pos hc124, if_pos hc138, if_pos hc152, if_neg hc164, if_neg hc170])).symm, eT, rfl⟩
                        exact cut173 (hres.trans (by unfold F2_18; rw [if_neg hc21, if_pos hc27, if_pos hc40, if_pos hc54, if_pos hc68, if_pos hc82, if_pos hc96, if_pos hc110, if_pos hc124, if_pos hc138, if_pos hc152, if_neg hc164, if_pos hc170]))
                      refine s_iloadN X hx (hb hby d2_155) rfl (q := 156) rfl ?_
                      refine s_ldc X hx hZ hown (hw _ (List.mem_of_getElem? (i := 25) rfl)) (hb hby d2_156) (q := 158) rfl ?_
                      refine f_icmp_le X hx (hb hby d2_158) (q1 := 197) (by decide) (by decide) (q := 161) rfl (fun hc158 => ?_) (fun hc158 => ?_)
                      · refine s_iconst X hx (z := (1 : Int32)) (hb hby d2_197) rfl (q := 198) rfl ?_
                        refine s_goto X hx (hb hby d2_198) (q1 := 202) (by decide) (by decide) ?_
                        exact leafN X hx hlk hret (by simp) (hb hby d2_202) (Nat.le_refl _) (Nat.le_refl _) (z' := (1 : Int32)) rfl ⟨congrArg (fun z => some (Value.int z)) (hres.trans (by unfold F2_18; rw [if_neg hc21, if_pos hc27, if_pos hc40, if_pos hc54, if_pos hc68, if_pos hc82, if_pos hc96, if_pos hc110, if_pos hc124, if_pos hc138, if_neg hc152, if_neg hc158])).symm, eT, rfl⟩
                      exact cut161 (hres.trans (by unfold F2_18; rw [if_neg hc21, if_pos hc27, if_pos hc40, if_pos hc54, if_pos hc68, if_pos hc82, if_pos hc96, if_pos hc110, if_pos hc124, if_pos hc138, if_neg hc152, if_pos hc158]))
                    refine s_iloadN X hx (hb hby d2_141) rfl (q := 142) rfl ?_
                    refine s_sipush X hx (z := (12271 : Int32)) (hb hby d2_142) rfl (q := 145) rfl ?_
                    refine f_icmp_le X hx (hb hby d2_145) (q1 := 197) (by decide) (by decide) (q := 148) rfl (fun hc145 => ?_) (fun hc145 => ?_)
                    · refine s_iconst X hx (z := (1 : Int32)) (hb hby d2_197) rfl (q := 198) rfl ?_
                      refine s_goto X hx (hb hby d2_198) (q1 := 202) (by decide) (by decide) ?_
                      exact leafN X hx hlk hret (by simp) (hb hby d2_202) (Nat.le_refl _) (Nat.le_refl _) (z' := (1 : Int32)) rfl ⟨congrArg (fun z => some (Value.int z)) (hres.trans (by unfold F2_18; rw [if_neg hc21, if_pos hc27, if_pos hc40, if_pos hc54, if_pos hc68, if_pos hc82, if_pos hc96, if_pos hc110, if_pos hc124, if_neg hc138, if_neg hc145])).symm, eT, rfl⟩
                    exact cut148 (hres.trans (by unfold F2_18; rw [if_neg hc21, if_pos hc27, if_pos hc40, if_pos hc54, if_pos hc68, if_pos hc82, if_pos hc96, if_pos hc110, if_pos hc124, if_neg hc138, if_pos hc145]))
                  refine s_iloadN X hx (hb hby d2_127) rfl (q := 128) rfl ?_
                  refine s_sipush X hx (z := (8591 : Int32)) (hb hby d2_128) rfl (q := 131) rfl ?_
                  refine f_icmp_le X hx (hb hby d2_131) (q1 := 197) (by decide) (by decide) (q := 134) rfl (fun hc131 => ?_) (fun hc131 => ?_)
                  · refine s_iconst X hx (z := (1 : Int32)) (hb hby d2_197) rfl (q := 198) rfl ?_
                    refine s_goto X hx (hb hby d2_198) (q1 := 202) (by decide) (by decide) ?_
                    exact leafN X hx hlk hret (by simp) (hb hby d2_202) (Nat.le_refl _) (Nat.le_refl _) (z' := (1 : Int32)) rfl ⟨congrArg (fun z => some (Value.int z)) (hres.trans (by unfold F2_18; rw [if_neg hc21, if_pos hc27, if_pos hc40, if_pos hc54, if_pos hc68, if_pos hc82, if_pos hc96, if_pos hc110, if_neg hc124, if_neg hc131])).symm, eT, rfl⟩
                  exact cut134 (hres.trans (by unfold F2_18; rw [if_neg hc21, if_pos hc27, if_pos hc40, if_pos hc54, if_pos hc68, if_pos hc82, if_pos hc96, if_pos hc110, if_neg hc124, if_pos hc131]))
                refine s_iloadN X hx (hb hby d2_113) rfl (q := 114) rfl ?_
                refine s_sipush X hx (z := (8205 : Int32)) (hb hby d2_114) rfl (q := 117) rfl ?_
                refine f_icmp_le X hx (hb hby d2_117) (q1 := 197) (by decide) (by decide) (q := 120) rfl (fun hc117 => ?_) (fun hc117 => ?_)
                · refine s_iconst X hx (z := (1 : Int32)) (hb hby d2_197) rfl (q := 198) rfl ?_
                  refine s_goto X hx (hb hby d2_198) (q1 := 202) (by decide) (by decide) ?_
                  exact leafN X hx hlk hret (by simp) (hb hby d2_202) (Nat.le_refl _) (Nat.le_refl _) (z' := (1 : Int32)) rfl ⟨congrArg (fun z => some (Value.int z)) (hres.trans (by unfold F2_18; rw [if_neg hc21, if_pos hc27, if_pos hc40, if_pos hc54, if_pos hc68, if_pos hc82, if_pos hc96, if_neg hc110, if_neg hc117])).symm, eT, rfl⟩
                exact cut120 (hres.trans (by unfold F2_18; rw [if_neg hc21, if_pos hc27, if_pos hc40, if_pos hc54, if_pos hc68, if_pos hc82, if_pos hc96, if_neg hc110, if_pos hc117]))
              refine s_iloadN X hx (hb hby d2_99) rfl (q := 100) rfl ?_
              refine s_sipush X hx (z := (8191 : Int32)) (hb hby d2_100) rfl (q := 103) rfl ?_
              refine f_icmp_le X hx (hb hby d2_103) (q1 := 197) (by decide) (by decide) (q := 106) rfl (fun hc103 => ?_) (fun hc103 => ?_)
              · refine s_iconst X hx (z := (1 : Int32)) (hb hby d2_197) rfl (q := 198) rfl ?_
                refine s_goto X hx (hb hby d2_198) (q1 := 202) (by decide) (by decide) ?_
                exact leafN X hx hlk hret (by simp) (hb hby d2_202) (Nat.le_refl _) (Nat.le_refl _) (z' := (1 : Int32)) rfl ⟨congrArg (fun z => some (Value.int z)) (hres.trans (by unfold F2_18; rw [if_neg hc21, if_pos hc27, if_pos hc40, if_pos hc54, if_pos hc68, if_pos hc82, if_neg hc96, if_neg hc103])).symm, eT, rfl⟩
              exact cut106 (hres.trans (by unfold F2_18; rw [if_neg hc21, if_pos hc27, if_pos hc40, if_pos hc54, if_pos hc68, if_pos hc82, if_neg hc96, if_pos hc103]))
            refine s_iloadN X hx (hb hby d2_85) rfl (q := 86) rfl ?_
            refine s_sipush X hx (z := (893 : Int32)) (hb hby d2_86) rfl (q := 89) rfl ?_
            refine f_icmp_le X hx (hb hby d2_89) (q1 := 197) (by decide) (by decide) (q := 92) rfl (fun hc89 => ?_) (fun hc89 => ?_)
            · refine s_iconst X hx (z := (1 : Int32)) (hb hby d2_197) rfl (q := 198) rfl ?_
              refine s_goto X hx (hb hby d2_198) (q1 := 202) (by decide) (by decide) ?_
              exact leafN X hx hlk hret (by simp) (hb hby d2_202) (Nat.le_refl _) (Nat.le_refl _) (z' := (1 : Int32)) rfl ⟨congrArg (fun z => some (Value.int z)) (hres.trans (by unfold F2_18; rw [if_neg hc21, if_pos hc27, if_pos hc40, if_pos hc54, if_pos hc68, if_neg hc82, if_neg hc89])).symm, eT, rfl⟩
            exact cut92 (hres.trans (by unfold F2_18; rw [if_neg hc21, if_pos hc27, if_pos hc40, if_pos hc54, if_pos hc68, if_neg hc82, if_pos hc89]))
          refine s_iloadN X hx (hb hby d2_71) rfl (q := 72) rfl ?_
          refine s_sipush X hx (z := (767 : Int32)) (hb hby d2_72) rfl (q := 75) rfl ?_
          refine f_icmp_le X hx (hb hby d2_75) (q1 := 197) (by decide) (by decide) (q := 78) rfl (fun hc75 => ?_) (fun hc75 => ?_)
          · refine s_iconst X hx (z := (1 : Int32)) (hb hby d2_197) rfl (q := 198) rfl ?_
            refine s_goto X hx (hb hby d2_198) (q1 := 202) (by decide) (by decide) ?_
            exact leafN X hx hlk hret (by simp) (hb hby d2_202) (Nat.le_refl _) (Nat.le_refl _) (z' := (1 : Int32)) rfl ⟨congrArg (fun z => some (Value.int z)) (hres.trans (by unfold F2_18; rw [if_neg hc21, if_pos hc27, if_pos hc40, if_pos hc54, if_neg hc68, if_neg hc75])).symm, eT, rfl⟩
          exact cut78 (hres.trans (by unfold F2_18; rw [if_neg hc21, if_pos hc27, if_pos hc40, if_pos hc54, if_neg hc68, if_pos hc75]))
        refine s_iloadN X hx (hb hby d2_57) rfl (q := 58) rfl ?_
        refine s_sipush X hx (z := (246 : Int32)) (hb hby d2_58) rfl (q := 61) rfl ?_
        refine f_icmp_le X hx (hb hby d2_61) (q1 := 197) (by decide) (by decide) (q := 64) rfl (fun hc61 => ?_) (fun hc61 => ?_)
        · refine s_iconst X hx (z := (1 : Int32)) (hb hby d2_197) rfl (q := 198) rfl ?_
          refine s_goto X hx (hb hby d2_198) (q1 := 202) (by decide) (by decide) ?_
          exact leafN X hx hlk hret (by simp) (hb hby d2_202) (Nat.le_refl _) (Nat.le_refl _) (z' := (1 : Int32)) rfl ⟨congrArg (fun z => some (Value.int z)) (hres.trans (by unfold F2_18; rw [if_neg hc21, if_pos hc27, if_pos hc40, if_neg hc54, if_neg hc61])).symm, eT, rfl⟩
        exact cut64 (hres.trans (by unfold F2_18; rw [if_neg hc21, if_pos hc27, if_pos hc40, if_neg hc54, if_pos hc61]))
      refine s_iloadN X hx (hb hby d2_43) rfl (q := 44) rfl ?_
      refine s_sipush X hx (z := (214 : Int32)) (hb hby d2_44) rfl (q := 47) rfl ?_
      refine f_icmp_le X hx (hb hby d2_47) (q1 := 197) (by decide) (by decide) (q := 50) rfl (fun hc47 => ?_) (fun hc47 => ?_)
      · refine s_iconst X hx (z := (1 : Int32)) (hb hby d2_197) rfl (q := 198) rfl ?_
        refine s_goto X hx (hb hby d2_198) (q1 := 202) (by decide) (by decide) ?_
        exact leafN X hx hlk hret (by simp) (hb hby d2_202) (Nat.le_refl _) (Nat.le_refl _) (z' := (1 : Int32)) rfl ⟨congrArg (fun z => some (Value.int z)) (hres.trans (by unfold F2_18; rw [if_neg hc21, if_pos hc27, if_neg hc40, if_neg hc47])).symm, eT, rfl⟩
      exact cut50 (hres.trans (by unfold F2_18; rw [if_neg hc21, if_pos hc27, if_neg hc40, if_pos hc47]))
    refine s_iloadN X hx (hb hby d2_30) rfl (q := 31) rfl ?_
    refine s_bipush X hx (z := (122 : Int32)) (hb hby d2_31) rfl (q := 33) rfl ?_
    refine f_icmp_le X hx (hb hby d2_33) (q1 := 197) (by decide) (by decide) (q := 36) rfl (fun hc33 => ?_) (fun hc33 => ?_)
    · refine s_iconst X hx (z := (1 : Int32)) (hb hby d2_197) rfl (q := 198) rfl ?_
      refine s_goto X hx (hb hby d2_198) (q1 := 202) (by decide) (by decide) ?_
      exact leafN X hx hlk hret (by simp) (hb hby d2_202) (Nat.le_refl _) (Nat.le_refl _) (z' := (1 : Int32)) rfl ⟨congrArg (fun z => some (Value.int z)) (hres.trans (by unfold F2_18; rw [if_neg hc21, if_neg hc27, if_neg hc33])).symm, eT, rfl⟩
    exact cut36 (hres.trans (by unfold F2_18; rw [if_neg hc21, if_neg hc27, if_pos hc33]))
  refine s_iloadN X hx (hb hby d2_0) rfl (q := 1) rfl ?_
  refine s_bipush X hx (z := (58 : Int32)) (hb hby d2_1) rfl (q := 3) rfl ?_
  refine f_icmp_eq X hx (hb hby d2_3) (q1 := 197) (by decide) (by decide) (q := 6) rfl (fun hc3 => ?_) (fun hc3 => ?_)
  · refine s_iconst X hx (z := (1 : Int32)) (hb hby d2_197) rfl (q := 198) rfl ?_
    refine s_goto X hx (hb hby d2_198) (q1 := 202) (by decide) (by decide) ?_
    exact leafN X hx hlk hret (by simp) (hb hby d2_202) (Nat.le_refl _) (Nat.le_refl _) (z' := (1 : Int32)) rfl ⟨congrArg (fun z => some (Value.int z)) (hres.trans (by unfold F2; rw [if_pos hc3])).symm, eT, rfl⟩
  refine s_iloadN X hx (hb hby d2_6) rfl (q := 7) rfl ?_
  refine s_bipush X hx (z := (65 : Int32)) (hb hby d2_7) rfl (q := 9) rfl ?_
  refine f_icmp_lt X hx (hb hby d2_9) (q1 := 18) (by decide) (by decide) (q := 12) rfl (fun hc9 => ?_) (fun hc9 => ?_)
  · refine s_iloadN X hx (hb hby d2_18) rfl (q := 19) rfl ?_
    refine s_bipush X hx (z := (95 : Int32)) (hb hby d2_19) rfl (q := 21) rfl ?_
    refine f_icmp_eq X hx (hb hby d2_21) (q1 := 197) (by decide) (by decide) (q := 24) rfl (fun hc21 => ?_) (fun hc21 => ?_)
    · refine s_iconst X hx (z := (1 : Int32)) (hb hby d2_197) rfl (q := 198) rfl ?_
      refine s_goto X hx (hb hby d2_198) (q1 := 202) (by decide) (by decide) ?_
      exact leafN X hx hlk hret (by simp) (hb hby d2_202) (Nat.le_refl _) (Nat.le_refl _) (z' := (1 : Int32)) rfl ⟨congrArg (fun z => some (Value.int z)) (hres.trans (by unfold F2; rw [if_neg hc3, if_pos hc9, if_pos hc21])).symm, eT, rfl⟩
    refine s_iloadN X hx (hb hby d2_24) rfl (q := 25) rfl ?_
    refine s_bipush X hx (z := (97 : Int32)) (hb hby d2_25) rfl (q := 27) rfl ?_
    refine f_icmp_lt X hx (hb hby d2_27) (q1 := 36) (by decide) (by decide) (q := 30) rfl (fun hc27 => ?_) (fun hc27 => ?_)
    · refine s_iloadN X hx (hb hby d2_36) rfl (q := 37) rfl ?_
      refine s_sipush X hx (z := (192 : Int32)) (hb hby d2_37) rfl (q := 40) rfl ?_
      refine f_icmp_lt X hx (hb hby d2_40) (q1 := 50) (by decide) (by decide) (q := 43) rfl (fun hc40 => ?_) (fun hc40 => ?_)
      · refine s_iloadN X hx (hb hby d2_50) rfl (q := 51) rfl ?_
        refine s_sipush X hx (z := (216 : Int32)) (hb hby d2_51) rfl (q := 54) rfl ?_
        refine f_icmp_lt X hx (hb hby d2_54) (q1 := 64) (by decide) (by decide) (q := 57) rfl (fun hc54 => ?_) (fun hc54 => ?_)
        · refine s_iloadN X hx (hb hby d2_64) rfl (q := 65) rfl ?_
          refine s_sipush X hx (z := (248 : Int32)) (hb hby d2_65) rfl (q := 68) rfl ?_
          refine f_icmp_lt X hx (hb hby d2_68) (q1 := 78) (by decide) (by decide) (q := 71) rfl (fun hc68 => ?_) (fun hc68 => ?_)
          · refine s_iloadN X hx (hb hby d2_78) rfl (q := 79) rfl ?_
            refine s_sipush X hx (z := (880 : Int32)) (hb hby d2_79) rfl (q := 82) rfl ?_
            refine f_icmp_lt X hx (hb hby d2_82) (q1 := 92) (by decide) (by decide) (q := 85) rfl (fun hc82 => ?_) (fun hc82 => ?_)
            · refine s_iloadN X hx (hb hby d2_92) rfl (q := 93) rfl ?_
              refine s_sipush X hx (z := (895 : Int32)) (hb hby d2_93) rfl (q := 96) rfl ?_
              refine f_icmp_lt X hx (hb hby d2_96) (q1 := 106) (by decide) (by decide) (q := 99) rfl (fun hc96 => ?_) (fun hc96 => ?_)
              · refine s_iloadN X hx (hb hby d2_106) rfl (q := 107) rfl ?_
                refine s_sipush X hx (z := (8204 : Int32)) (hb hby d2_107) rfl (q := 110) rfl ?_
                refine f_icmp_lt X hx (hb hby d2_110) (q1 := 120) (by decide) (by decide) (q := 113) rfl (fun hc110 => ?_) (fun hc110 => ?_)
                · refine s_iloadN X hx (hb hby d2_120) rfl (q := 121) rfl ?_
                  refine s_sipush X hx (z := (8304 : Int32)) (hb hby d2_121) rfl (q := 124) rfl ?_
                  refine f_icmp_lt X hx (hb hby d2_124) (q1 := 134) (by decide) (by decide) (q := 127) rfl (fun hc124 => ?_) (fun hc124 => ?_)
                  · refine s_iloadN X hx (hb hby d2_134) rfl (q := 135) rfl ?_
                    refine s_sipush X hx (z := (11264 : Int32)) (hb hby d2_135) rfl (q := 138) rfl ?_
                    refine f_icmp_lt X hx (hb hby d2_138) (q1 := 148) (by decide) (by decide) (q := 141) rfl (fun hc138 => ?_) (fun hc138 => ?_)
                    · refine s_iloadN X hx (hb hby d2_148) rfl (q := 149) rfl ?_
                      refine s_sipush X hx (z := (12289 : Int32)) (hb hby d2_149) rfl (q := 152) rfl ?_
                      refine f_icmp_lt X hx (hb hby d2_152) (q1 := 161) (by decide) (by decide) (q := 155) rfl (fun hc152 => ?_) (fun hc152 => ?_)
                      · refine s_iloadN X hx (hb hby d2_161) rfl (q := 162) rfl ?_
                        refine s_ldc X hx hZ hown (hw _ (List.mem_of_getElem? (i := 16) rfl)) (hb hby d2_162) (q := 164) rfl ?_
                        refine f_icmp_lt X hx (hb hby d2_164) (q1 := 173) (by decide) (by decide) (q := 167) rfl (fun hc164 => ?_) (fun hc164 => ?_)
                        · refine s_iloadN X hx (hb hby d2_173) rfl (q := 174) rfl ?_
                          refine s_ldc X hx hZ hown (hw _ (List.mem_of_getElem? (i := 17) rfl)) (hb hby d2_174) (q := 176) rfl ?_
                          refine f_icmp_lt X hx (hb hby d2_176) (q1 := 185) (by decide) (by decide) (q := 179) rfl (fun hc176 => ?_) (fun hc176 => ?_)
                          · refine s_iloadN X hx (hb hby d2_185) rfl (q := 186) rfl ?_
                            refine s_ldc X hx hZ hown (hw _ (List.mem_of_getElem? (i := 18) rfl)) (hb hby d2_186) (q := 188) rfl ?_
                            refine f_icmp_lt X hx (hb hby d2_188) (q1 := 201) (by decide) (by decide) (q := 191) rfl (fun hc188 => ?_) (fun hc188 => ?_)
                            · refine s_iconst X hx (z := (0 : Int32)) (hb hby d2_201) rfl (q := 202) rfl ?_
                              exact leafN X hx hlk hret (by simp) (hb hby d2_202) (Nat.le_refl _) (Nat.le_refl _) (z' := (0 : Int32)) rfl ⟨congrArg (fun z => some (Value.int z)) (hres.trans (by unfold F2; rw [if_neg hc3, if_pos hc9, if_neg hc21, if_pos hc27, if_pos hc40, if_pos hc54, if_pos hc68, if_pos hc82, if_pos hc96, if_pos hc110, if_pos hc124, if_pos hc138, if_pos hc152, if_pos hc164, if_pos hc176, if_pos hc188])).symm, eT, rfl⟩
                            refine s_iloadN X hx (hb hby d2_191) rfl (q := 192) rfl ?_
                            refine s_ldc X hx hZ hown (hw _ (List.mem_of_getElem? (i := 28) rfl)) (hb hby d2_192) (q := 194) rfl ?_
                            refine f_icmp_gt X hx (hb hby d2_194) (q1 := 201) (by decide) (by decide) (q := 197) rfl (fun hc194 => ?_) (fun hc194 => ?_)
                            · refine s_iconst X hx (z := (0 : Int32)) (hb hby d2_201) rfl (q := 202) rfl ?_
                              exact leafN X hx hlk hret (by simp) (hb hby d2_202) (Nat.le_refl _) (Nat.le_refl _) (z' := (0 : Int32)) rfl ⟨congrArg (fun z => some (Value.int z)) (hres.trans (by unfold F2; rw [if_neg hc3, if_pos hc9, if_neg hc21, if_pos hc27, if_pos hc40, if_pos hc54, if_pos hc68, if_pos hc82, if_pos hc96, if_pos hc110, if_pos hc124, if_pos hc138, if_pos hc152, if_pos hc164, if_pos hc176, if_neg hc188, if_pos hc194])).symm, eT, rfl⟩
                            exact cut197 (hres.trans (by unfold F2; rw [if_neg hc3, if_pos hc9, if_neg hc21, if_pos hc27, if_pos hc40, if_pos hc54, if_pos hc68, if_pos hc82, if_pos hc96, if_pos hc110, if_pos hc124, if_pos hc138, if_pos hc152, if_pos hc164, if_pos hc176, if_neg hc188, if_neg hc194]))
                          refine s_iloadN X hx (hb hby d2_179) rfl (q := 180) rfl ?_
                          refine s_ldc X hx hZ hown (hw _ (List.mem_of_getElem? (i := 27) rfl)) (hb hby d2_180) (q := 182) rfl ?_
                          refine f_icmp_le X hx (hb hby d2_182) (q1 := 197) (by decide) (by decide) (q := 185) rfl (fun hc182 => ?_) (fun hc182 => ?_)
                          · refine s_iconst X hx (z := (1 : Int32)) (hb hby d2_197) rfl (q := 198) rfl ?_
                            refine s_goto X hx (hb hby d2_198) (q1 := 202) (by decide) (by decide) ?_
                            exact leafN X hx hlk hret (by simp) (hb hby d2_202) (Nat.le_refl _) (Nat.le_refl _) (z' := (1 : Int32)) rfl ⟨congrArg (fun z => some (Value.int z)) (hres.trans (by unfold F2; rw [if_neg hc3, if_pos hc9, if_neg hc21, if_pos hc27, if_pos hc40, if_pos hc54, if_pos hc68, if_pos hc82, if_pos hc96, if_pos hc110, if_pos hc124, if_pos hc138, if_pos hc152, if_pos hc164, if_neg hc176, if_neg hc182])).symm, eT, rfl⟩
                          exact cut185 (hres.trans (by unfold F2; rw [if_neg hc3, if_pos hc9, if_neg hc21, if_pos hc27, if_pos hc40, if_pos hc54, if_pos hc68, if_pos hc82, if_pos hc96, if_pos hc110, if_pos hc124, if_pos hc138, if_pos hc152, if_pos hc164, if_neg hc176, if_pos hc182]))
                        refine s_iloadN X hx (hb hby d2_167) rfl (q := 168) rfl ?_
                        refine s_ldc X hx hZ hown (hw _ (List.mem_of_getElem? (i := 26) rfl)) (hb hby d2_168) (q := 170) rfl ?_
                        refine f_icmp_le X hx (hb hby d2_170) (q1 := 197) (by decide) (by decide) (q := 173) rfl (fun hc170 => ?_) (fun hc170 => ?_)
                        · refine s_iconst X hx (z := (1 : Int32)) (hb hby d2_197) rfl (q := 198) rfl ?_
                          refine s_goto X hx (hb hby d2_198) (q1 := 202) (by decide) (by decide) ?_
                          exact leafN X hx hlk hret (by simp) (hb hby d2_202) (Nat.le_refl _) (Nat.le_refl _) (z' := (1 : Int32)) rfl ⟨congrArg (fun z => some (Value.int z)) (hres.trans (by unfold F2; rw [if_neg hc3, if_pos hc9, if_neg hc21, if_pos hc27, if_pos hc40, if_pos hc54, if_pos hc68, if_pos hc82, if_pos hc96, if_pos hc110, if_pos hc124, if_pos hc138, if_pos hc152, if_neg hc164, if_neg hc170])).symm, eT, rfl⟩
                        exact cut173 (hres.trans (by unfold F2; rw [if_neg hc3, if_pos hc9, if_neg hc21, if_pos hc27, if_pos hc40, if_pos hc54, if_pos hc68, if_pos hc82, if_pos hc96, if_pos hc110, if_pos hc124, if_pos hc138, if_pos hc152, if_neg hc164, if_pos hc170]))
                      refine s_iloadN X hx (hb hby d2_155) rfl (q := 156) rfl ?_
                      refine s_ldc X hx hZ hown (hw _ (List.mem_of_getElem? (i := 25) rfl)) (hb hby d2_156) (q := 158) rfl ?_
                      refine f_icmp_le X hx (hb hby d2_158) (q1 := 197) (by decide) (by decide) (q := 161) rfl (fun hc158 => ?_) (fun hc158 => ?_)
                      · refine s_iconst X hx (z := (1 : Int32)) (hb hby d2_197) rfl (q := 198) rfl ?_
                        refine s_goto X hx (hb hby d2_198) (q1 := 202) (by decide) (by decide) ?_
                        exact leafN X hx hlk hret (by simp) (hb hby d2_202) (Nat.le_refl _) (Nat.le_refl _) (z' := (1 : Int32)) rfl ⟨congrArg (fun z => some (Value.int z)) (hres.trans (by unfold F2; rw [if_neg hc3, if_pos hc9, if_neg hc21, if_pos hc27, if_pos hc40, if_pos hc54, if_pos hc68, if_pos hc82, if_pos hc96, if_pos hc110, if_pos hc124, if_pos hc138, if_neg hc152, if_neg hc158])).symm, eT, rfl⟩
                      exact cut161 (hres.trans (by unfold F2; rw [if_neg hc3, if_pos hc9, if_neg hc21, if_pos hc27, if_pos hc40, if_pos hc54, if_pos hc68, if_pos hc82, if_pos hc96, if_pos hc110, if_pos hc124, if_pos hc138, if_neg hc152, if_pos hc158]))
                    refine s_iloadN X hx (hb hby d2_141) rfl (q := 142) rfl ?_
                    refine s_sipush X hx (z := (12271 : Int32)) (hb hby d2_142) rfl (q := 145) rfl ?_
                    refine f_icmp_le X hx (hb hby d2_145) (q1 := 197) (by decide) (by decide) (q := 148) rfl (fun hc145 => ?_) (fun hc145 => ?_)
                    · refine s_iconst X hx (z := (1 : Int32)) (hb hby d2_197) rfl (q := 198) rfl ?_
                      refine s_goto X hx (hb hby d2_198) (q1 := 202) (by decide) (by decide) ?_
                      exact leafN X hx hlk hret (by simp) (hb hby d2_202) (Nat.le_refl _) (Nat.le_refl _) (z' := (1 : Int32)) rfl ⟨congrArg (fun z => some (Value.int z)) (hres.trans (by unfold F2; rw [if_neg hc3, if_pos hc9, if_neg hc21, if_pos hc27, if_pos hc40, if_pos hc54, if_pos hc68, if_pos hc82, if_pos hc96, if_pos hc110, if_pos hc124, if_neg hc138, if_neg hc145])).symm, eT, rfl⟩
                    exact cut148 (hres.trans (by unfold F2; rw [if_neg hc3, if_pos hc9, if_neg hc21, if_pos hc27, if_pos hc40, if_pos hc54, if_pos hc68, if_pos hc82, if_pos hc96, if_pos hc110, if_pos hc124, if_neg hc138, if_pos hc145]))
                  refine s_iloadN X hx (hb hby d2_127) rfl (q := 128) rfl ?_
                  refine s_sipush X hx (z := (8591 : Int32)) (hb hby d2_128) rfl (q := 131) rfl ?_
                  refine f_icmp_le X hx (hb hby d2_131) (q1 := 197) (by decide) (by decide) (q := 134) rfl (fun hc131 => ?_) (fun hc131 => ?_)
                  · refine s_iconst X hx (z := (1 : Int32)) (hb hby d2_197) rfl (q := 198) rfl ?_
                    refine s_goto X hx (hb hby d2_198) (q1 := 202) (by decide) (by decide) ?_
                    exact leafN X hx hlk hret (by simp) (hb hby d2_202) (Nat.le_refl _) (Nat.le_refl _) (z' := (1 : Int32)) rfl ⟨congrArg (fun z => some (Value.int z)) (hres.trans (by unfold F2; rw [if_neg hc3, if_pos hc9, if_neg hc21, if_pos hc27, if_pos hc40, if_pos hc54, if_pos hc68, if_pos hc82, if_pos hc96, if_pos hc110, if_neg hc124, if_neg hc131])).symm, eT, rfl⟩
                  exact cut134 (hres.trans (by unfold F2; rw [if_neg hc3, if_pos hc9, if_neg hc21, if_pos hc27, if_pos hc40, if_pos hc54, if_pos hc68, if_pos hc82, if_pos hc96, if_pos hc110, if_neg hc124, if_pos hc131]))
                refine s_iloadN X hx (hb hby d2_113) rfl (q := 114) rfl ?_
                refine s_sipush X hx (z := (8205 : Int32)) (hb hby d2_114) rfl (q := 117) rfl ?_
                refine f_icmp_le X hx (hb hby d2_117) (q1 := 197) (by decide) (by decide) (q := 120) rfl (fun hc117 => ?_) (fun hc117 => ?_)
                · refine s_iconst X hx (z := (1 : Int32)) (hb hby d2_197) rfl (q := 198) rfl ?_
                  refine s_goto X hx (hb hby d2_198) (q1 := 202) (by decide) (by decide) ?_
                  exact leafN X hx hlk hret (by simp) (hb hby d2_202) (Nat.le_refl _) (Nat.le_refl _) (z' := (1 : Int32)) rfl ⟨congrArg (fun z => some (Value.int z)) (hres.trans (by unfold F2; rw [if_neg hc3, if_pos hc9, if_neg hc21, if_pos hc27, if_pos hc40, if_pos hc54, if_pos hc68, if_pos hc82, if_pos hc96, if_neg hc110, if_neg hc117])).symm, eT, rfl⟩
                exact cut120 (hres.trans (by unfold F2; rw [if_neg hc3, if_pos hc9, if_neg hc21, if_pos hc27, if_pos hc40, if_pos hc54, if_pos hc68, if_pos hc82, if_pos hc96, if_neg hc110, if_pos hc117]))
              refine s_iloadN X hx (hb hby d2_99) rfl (q := 100) rfl ?_
              refine s_sipush X hx (z := (8191 : Int32)) (hb hby d2_100) rfl (q := 103) rfl ?_
              refine f_icmp_le X hx (hb hby d2_103) (q1 := 197) (by decide) (by decide) (q := 106) rfl (fun hc103 => ?_) (fun hc103 => ?_)
              · refine s_iconst X hx (z := (1 : Int32)) (hb hby d2_197) rfl (q := 198) rfl ?_
                refine s_goto X hx (hb hby d2_198) (q1 := 202) (by decide) (by decide) ?_
                exact leafN X hx hlk hret (by simp) (hb hby d2_202) (Nat.le_refl _) (Nat.le_refl _) (z' := (1 : Int32)) rfl ⟨congrArg (fun z => some (Value.int z)) (hres.trans (by unfold F2; rw [if_neg hc3, if_pos hc9, if_neg hc21, if_pos hc27, if_pos hc40, if_pos hc54, if_pos hc68, if_pos hc82, if_neg hc96, if_neg hc103])).symm, eT, rfl⟩
              exact cut106 (hres.trans (by unfold F2; rw [if_neg hc3, if_pos hc9, if_neg hc21, if_pos hc27, if_pos hc40, if_pos hc54, if_pos hc68, if_pos hc82, if_neg hc96, if_pos hc103]))
            refine s_iloadN X hx (hb hby d2_85) rfl (q := 86) rfl ?_
            refine s_sipush X hx (z := (893 : Int32)) (hb hby d2_86) rfl (q := 89) rfl ?_
            refine f_icmp_le X hx (hb hby d2_89) (q1 := 197) (by decide) (by decide) (q := 92) rfl (fun hc89 => ?_) (fun hc89 => ?_)
            · refine s_iconst X hx (z := (1 : Int32)) (hb hby d2_197) rfl (q := 198) rfl ?_
              refine s_goto X hx (hb hby d2_198) (q1 := 202) (by decide) (by decide) ?_
              exact leafN X hx hlk hret (by simp) (hb hby d2_202) (Nat.le_refl _) (Nat.le_refl _) (z' := (1 : Int32)) rfl ⟨congrArg (fun z => some (Value.int z)) (hres.trans (by unfold F2; rw [if_neg hc3, if_pos hc9, if_neg hc21, if_pos hc27, if_pos hc40, if_pos hc54, if_pos hc68, if_neg hc82, if_neg hc89])).symm, eT, rfl⟩
            exact cut92 (hres.trans (by unfold F2; rw [if_neg hc3, if_pos hc9, if_neg hc21, if_pos hc27, if_pos hc40, if_pos hc54, if_pos hc68, if_neg hc82, if_pos hc89]))
          refine s_iloadN X hx (hb hby d2_71) rfl (q := 72) rfl ?_
          refine s_sipush X hx (z := (767 : Int32)) (hb hby d2_72) rfl (q := 75) rfl ?_
          refine f_icmp_le X hx (hb hby d2_75) (q1 := 197) (by decide) (by decide) (q := 78) rfl (fun hc75 => ?_) (fun hc75 => ?_)
          · refine s_iconst X hx (z := (1 : Int32)) (hb hby d2_197) rfl (q := 198) rfl ?_
            refine s_goto X hx (hb hby d2_198) (q1 := 202) (by decide) (by decide) ?_
            exact leafN X hx hlk hret (by simp) (hb hby d2_202) (Nat.le_refl _) (Nat.le_refl _) (z' := (1 : Int32)) rfl ⟨congrArg (fun z => some (Value.int z)) (hres.trans (by unfold F2; rw [if_neg hc3, if_pos hc9, if_neg hc21, if_pos hc27, if_pos hc40, if_pos hc54, if_neg hc68, if_neg hc75])).symm, eT, rfl⟩
          exact cut78 (hres.trans (by unfold F2; rw [if_neg hc3, if_pos hc9, if_neg hc21, if_pos hc27, if_pos hc40, if_pos hc54, if_neg hc68, if_pos hc75]))
        refine s_iloadN X hx (hb hby d2_57) rfl (q := 58) rfl ?_
        refine s_sipush X hx (z := (246 : Int32)) (hb hby d2_58) rfl (q := 61) rfl ?_
        refine f_icmp_le X hx (hb hby d2_61) (q1 := 197) (by decide) (by decide) (q := 64) rfl (fun hc61 => ?_) (fun hc61 => ?_)
        · refine s_iconst X hx (z := (1 : Int32)) (hb hby d2_197) rfl (q := 198) rfl ?_
          refine s_goto X hx (hb hby d2_198) (q1 := 202) (by decide) (by decide) ?_
          exact leafN X hx hlk hret (by simp) (hb hby d2_202) (Nat.le_refl _) (Nat.le_refl _) (z' := (1 : Int32)) rfl ⟨congrArg (fun z => some (Value.int z)) (hres.trans (by unfold F2; rw [if_neg hc3, if_pos hc9, if_neg hc21, if_pos hc27, if_pos hc40, if_neg hc54, if_neg hc61])).symm, eT, rfl⟩
        exact cut64 (hres.trans (by unfold F2; rw [if_neg hc3, if_pos hc9, if_neg hc21, if_pos hc27, if_pos hc40, if_neg hc54, if_pos hc61]))
      refine s_iloadN X hx (hb hby d2_43) rfl (q := 44) rfl ?_
      refine s_sipush X hx (z := (214 : Int32)) (hb hby d2_44) rfl (q := 47) rfl ?_
      refine f_icmp_le X hx (hb hby d2_47) (q1 := 197) (by decide) (by decide) (q := 50) rfl (fun hc47 => ?_) (fun hc47 => ?_)
      · refine s_iconst X hx (z := (1 : Int32)) (hb hby d2_197) rfl (q := 198) rfl ?_
        refine s_goto X hx (hb hby d2_198) (q1 := 202) (by decide) (by decide) ?_
        exact leafN X hx hlk hret (by simp) (hb hby d2_202) (Nat.le_refl _) (Nat.le_refl _) (z' := (1 : Int32)) rfl ⟨congrArg (fun z => some (Value.int z)) (hres.trans (by unfold F2; rw [if_neg hc3, if_pos hc9, if_neg hc21, if_pos hc27, if_neg hc40, if_neg hc47])).symm, eT, rfl⟩
      exact cut50 (hres.trans (by unfold F2; rw [if_neg hc3, if_pos hc9, if_neg hc21, if_pos hc27, if_neg hc40, if_pos hc47]))
    refine s_iloadN X hx (hb hby d2_30) rfl (q := 31) rfl ?_
    refine s_bipush X hx (z := (122 : Int32)) (hb hby d2_31) rfl (q := 33) rfl ?_
    refine f_icmp_le X hx (hb hby d2_33) (q1 := 197) (by decide) (by decide) (q := 36) rfl (fun hc33 => ?_) (fun hc33 => ?_)
    · refine s_iconst X hx (z := (1 : Int32)) (hb hby d2_197) rfl (q := 198) rfl ?_
      refine s_goto X hx (hb hby d2_198) (q1 := 202) (by decide) (by decide) ?_
      exact leafN X hx hlk hret (by simp) (hb hby d2_202) (Nat.le_refl _) (Nat.le_refl _) (z' := (1 : Int32)) rfl ⟨congrArg (fun z => some (Value.int z)) (hres.trans (by unfold F2; rw [if_neg hc3, if_pos hc9, if_neg hc21, if_neg hc27, if_neg hc33])).symm, eT, rfl⟩
    exact cut36 (hres.trans (by unfold F2; rw [if_neg hc3, if_pos hc9, if_neg hc21, if_neg hc27, if_pos hc33]))
  refine s_iloadN X hx (hb hby d2_12) rfl (q := 13) rfl ?_
  refine s_bipush X hx (z := (90 : Int32)) (hb hby d2_13) rfl (q := 15) rfl ?_
  refine f_icmp_le X hx (hb hby d2_15) (q1 := 197) (by decide) (by decide) (q := 18) rfl (fun hc15 => ?_) (fun hc15 => ?_)
  · refine s_iconst X hx (z := (1 : Int32)) (hb hby d2_197) rfl (q := 198) rfl ?_
    refine s_goto X hx (hb hby d2_198) (q1 := 202) (by decide) (by decide) ?_
    exact leafN X hx hlk hret (by simp) (hb hby d2_202) (Nat.le_refl _) (Nat.le_refl _) (z' := (1 : Int32)) rfl ⟨congrArg (fun z => some (Value.int z)) (hres.trans (by unfold F2; rw [if_neg hc3, if_neg hc9, if_neg hc15])).symm, eT, rfl⟩
  exact cut18 (hres.trans (by unfold F2; rw [if_neg hc3, if_neg hc9, if_pos hc15]))
theorem d3_0 : decode method_4_code 0 = .ok (.iload_n 0, 1) := by decide +kernel
theorem d3_1 : decode method_4_code 1 = .ok (.aload_n 1, 1) := by decide +kernel
theorem d3_2 : decode method_4_code 2 = .ok (.iconst 0, 1) := by decide +kernel
theorem d3_3 : decode method_4_code 3 = .ok (.iaload, 1) := by decide +kernel
theorem d3_4 : decode method_4_code 4 = .ok (.invokestatic 14, 3) := by decide +kernel
theorem d3_7 : decode method_4_code 7 = .ok (.iload_n 0, 1) := by decide +kernel
theorem d3_8 : decode method_4_code 8 = .ok (.aload_n 1, 1) := by decide +kernel
theorem d3_9 : decode method_4_code 9 = .ok (.iconst 1, 1) := by decide +kernel
theorem d3_10 : decode method_4_code 10 = .ok (.iaload, 1) := by decide +kernel
theorem d3_11 : decode method_4_code 11 = .ok (.invokestatic 14, 3) := by decide +kernel
theorem d3_14 : decode method_4_code 14 = .ok (.iadd, 1) := by decide +kernel
theorem d3_15 : decode method_4_code 15 = .ok (.iload_n 0, 1) := by decide +kernel
theorem d3_16 : decode method_4_code 16 = .ok (.aload_n 1, 1) := by decide +kernel
theorem d3_17 : decode method_4_code 17 = .ok (.iconst 2, 1) := by decide +kernel
theorem d3_18 : decode method_4_code 18 = .ok (.iaload, 1) := by decide +kernel
theorem d3_19 : decode method_4_code 19 = .ok (.invokestatic 14, 3) := by decide +kernel
theorem d3_22 : decode method_4_code 22 = .ok (.iadd, 1) := by decide +kernel
theorem d3_23 : decode method_4_code 23 = .ok (.iload_n 0, 1) := by decide +kernel
theorem d3_24 : decode method_4_code 24 = .ok (.aload_n 1, 1) := by decide +kernel
theorem d3_25 : decode method_4_code 25 = .ok (.iconst 3, 1) := by decide +kernel
theorem d3_26 : decode method_4_code 26 = .ok (.iaload, 1) := by decide +kernel
theorem d3_27 : decode method_4_code 27 = .ok (.invokestatic 14, 3) := by decide +kernel
theorem d3_30 : decode method_4_code 30 = .ok (.iadd, 1) := by decide +kernel
theorem d3_31 : decode method_4_code 31 = .ok (.iload_n 0, 1) := by decide +kernel
theorem d3_32 : decode method_4_code 32 = .ok (.aload_n 1, 1) := by decide +kernel
theorem d3_33 : decode method_4_code 33 = .ok (.iconst 4, 1) := by decide +kernel
theorem d3_34 : decode method_4_code 34 = .ok (.iaload, 1) := by decide +kernel
theorem d3_35 : decode method_4_code 35 = .ok (.invokestatic 14, 3) := by decide +kernel
theorem d3_38 : decode method_4_code 38 = .ok (.iadd, 1) := by decide +kernel
theorem d3_39 : decode method_4_code 39 = .ok (.iload_n 0, 1) := by decide +kernel
theorem d3_40 : decode method_4_code 40 = .ok (.aload_n 1, 1) := by decide +kernel
theorem d3_41 : decode method_4_code 41 = .ok (.iconst 5, 1) := by decide +kernel
theorem d3_42 : decode method_4_code 42 = .ok (.iaload, 1) := by decide +kernel
theorem d3_43 : decode method_4_code 43 = .ok (.invokestatic 14, 3) := by decide +kernel
theorem d3_46 : decode method_4_code 46 = .ok (.iadd, 1) := by decide +kernel
theorem d3_47 : decode method_4_code 47 = .ok (.iload_n 0, 1) := by decide +kernel
theorem d3_48 : decode method_4_code 48 = .ok (.aload_n 1, 1) := by decide +kernel
theorem d3_49 : decode method_4_code 49 = .ok (.bipush 6, 2) := by decide +kernel
theorem d3_51 : decode method_4_code 51 = .ok (.iaload, 1) := by decide +kernel
theorem d3_52 : decode method_4_code 52 = .ok (.invokestatic 14, 3) := by decide +kernel
theorem d3_55 : decode method_4_code 55 = .ok (.iadd, 1) := by decide +kernel
theorem d3_56 : decode method_4_code 56 = .ok (.iload_n 0, 1) := by decide +kernel
theorem d3_57 : decode method_4_code 57 = .ok (.aload_n 1, 1) := by decide +kernel
theorem d3_58 : decode method_4_code 58 = .ok (.bipush 7, 2) := by decide +kernel
theorem d3_60 : decode method_4_code 60 = .ok (.iaload, 1) := by decide +kernel
theorem d3_61 : decode method_4_code 61 = .ok (.invokestatic 14, 3) := by decide +kernel
theorem d3_64 : decode method_4_code 64 = .ok (.iadd, 1) := by decide +kernel
theorem d3_65 : decode method_4_code 65 = .ok (.iload_n 0, 1) := by decide +kernel
theorem d3_66 : decode method_4_code 66 = .ok (.aload_n 1, 1) := by decide +kernel
theorem d3_67 : decode method_4_code 67 = .ok (.bipush 8, 2) := by decide +kernel
theorem d3_69 : decode method_4_code 69 = .ok (.iaload, 1) := by decide +kernel
theorem d3_70 : decode method_4_code 70 = .ok (.invokestatic 14, 3) := by decide +kernel
theorem d3_73 : decode method_4_code 73 = .ok (.iadd, 1) := by decide +kernel
theorem d3_74 : decode method_4_code 74 = .ok (.iload_n 0, 1) := by decide +kernel
theorem d3_75 : decode method_4_code 75 = .ok (.aload_n 1, 1) := by decide +kernel
theorem d3_76 : decode method_4_code 76 = .ok (.bipush 9, 2) := by decide +kernel
theorem d3_78 : decode method_4_code 78 = .ok (.iaload, 1) := by decide +kernel
theorem d3_79 : decode method_4_code 79 = .ok (.invokestatic 14, 3) := by decide +kernel
theorem d3_82 : decode method_4_code 82 = .ok (.iadd, 1) := by decide +kernel
theorem d3_83 : decode method_4_code 83 = .ok (.iload_n 0, 1) := by decide +kernel
theorem d3_84 : decode method_4_code 84 = .ok (.aload_n 1, 1) := by decide +kernel
theorem d3_85 : decode method_4_code 85 = .ok (.bipush 10, 2) := by decide +kernel
theorem d3_87 : decode method_4_code 87 = .ok (.iaload, 1) := by decide +kernel
theorem d3_88 : decode method_4_code 88 = .ok (.invokestatic 14, 3) := by decide +kernel
theorem d3_91 : decode method_4_code 91 = .ok (.iadd, 1) := by decide +kernel
theorem d3_92 : decode method_4_code 92 = .ok (.iload_n 0, 1) := by decide +kernel
theorem d3_93 : decode method_4_code 93 = .ok (.aload_n 1, 1) := by decide +kernel
theorem d3_94 : decode method_4_code 94 = .ok (.bipush 11, 2) := by decide +kernel
theorem d3_96 : decode method_4_code 96 = .ok (.iaload, 1) := by decide +kernel
theorem d3_97 : decode method_4_code 97 = .ok (.invokestatic 14, 3) := by decide +kernel
theorem d3_100 : decode method_4_code 100 = .ok (.iadd, 1) := by decide +kernel
theorem d3_101 : decode method_4_code 101 = .ok (.iload_n 0, 1) := by decide +kernel
theorem d3_102 : decode method_4_code 102 = .ok (.aload_n 1, 1) := by decide +kernel
theorem d3_103 : decode method_4_code 103 = .ok (.bipush 12, 2) := by decide +kernel
theorem d3_105 : decode method_4_code 105 = .ok (.iaload, 1) := by decide +kernel
theorem d3_106 : decode method_4_code 106 = .ok (.invokestatic 14, 3) := by decide +kernel
theorem d3_109 : decode method_4_code 109 = .ok (.iadd, 1) := by decide +kernel
theorem d3_110 : decode method_4_code 110 = .ok (.iload_n 0, 1) := by decide +kernel
theorem d3_111 : decode method_4_code 111 = .ok (.aload_n 1, 1) := by decide +kernel
theorem d3_112 : decode method_4_code 112 = .ok (.bipush 13, 2) := by decide +kernel
theorem d3_114 : decode method_4_code 114 = .ok (.iaload, 1) := by decide +kernel
theorem d3_115 : decode method_4_code 115 = .ok (.invokestatic 14, 3) := by decide +kernel
theorem d3_118 : decode method_4_code 118 = .ok (.iadd, 1) := by decide +kernel
theorem d3_119 : decode method_4_code 119 = .ok (.iload_n 0, 1) := by decide +kernel
theorem d3_120 : decode method_4_code 120 = .ok (.aload_n 1, 1) := by decide +kernel
theorem d3_121 : decode method_4_code 121 = .ok (.bipush 14, 2) := by decide +kernel
theorem d3_123 : decode method_4_code 123 = .ok (.iaload, 1) := by decide +kernel
theorem d3_124 : decode method_4_code 124 = .ok (.invokestatic 14, 3) := by decide +kernel
theorem d3_127 : decode method_4_code 127 = .ok (.iadd, 1) := by decide +kernel
theorem d3_128 : decode method_4_code 128 = .ok (.iload_n 0, 1) := by decide +kernel
theorem d3_129 : decode method_4_code 129 = .ok (.aload_n 1, 1) := by decide +kernel
theorem d3_130 : decode method_4_code 130 = .ok (.bipush 15, 2) := by decide +kernel
theorem d3_132 : decode method_4_code 132 = .ok (.iaload, 1) := by decide +kernel
theorem d3_133 : decode method_4_code 133 = .ok (.invokestatic 14, 3) := by decide +kernel
theorem d3_136 : decode method_4_code 136 = .ok (.iadd, 1) := by decide +kernel
theorem d3_137 : decode method_4_code 137 = .ok (.iload_n 0, 1) := by decide +kernel
theorem d3_138 : decode method_4_code 138 = .ok (.aload_n 1, 1) := by decide +kernel
theorem d3_139 : decode method_4_code 139 = .ok (.bipush 16, 2) := by decide +kernel
theorem d3_141 : decode method_4_code 141 = .ok (.iaload, 1) := by decide +kernel
theorem d3_142 : decode method_4_code 142 = .ok (.invokestatic 14, 3) := by decide +kernel
theorem d3_145 : decode method_4_code 145 = .ok (.iadd, 1) := by decide +kernel
theorem d3_146 : decode method_4_code 146 = .ok (.iload_n 0, 1) := by decide +kernel
theorem d3_147 : decode method_4_code 147 = .ok (.aload_n 1, 1) := by decide +kernel
theorem d3_148 : decode method_4_code 148 = .ok (.bipush 17, 2) := by decide +kernel
theorem d3_150 : decode method_4_code 150 = .ok (.iaload, 1) := by decide +kernel
theorem d3_151 : decode method_4_code 151 = .ok (.invokestatic 14, 3) := by decide +kernel
theorem d3_154 : decode method_4_code 154 = .ok (.iadd, 1) := by decide +kernel
theorem d3_155 : decode method_4_code 155 = .ok (.iload_n 0, 1) := by decide +kernel
theorem d3_156 : decode method_4_code 156 = .ok (.aload_n 1, 1) := by decide +kernel
theorem d3_157 : decode method_4_code 157 = .ok (.bipush 18, 2) := by decide +kernel
theorem d3_159 : decode method_4_code 159 = .ok (.iaload, 1) := by decide +kernel
theorem d3_160 : decode method_4_code 160 = .ok (.invokestatic 14, 3) := by decide +kernel
theorem d3_163 : decode method_4_code 163 = .ok (.iadd, 1) := by decide +kernel
theorem d3_164 : decode method_4_code 164 = .ok (.iload_n 0, 1) := by decide +kernel
theorem d3_165 : decode method_4_code 165 = .ok (.aload_n 1, 1) := by decide +kernel
theorem d3_166 : decode method_4_code 166 = .ok (.bipush 19, 2) := by decide +kernel
theorem d3_168 : decode method_4_code 168 = .ok (.iaload, 1) := by decide +kernel
theorem d3_169 : decode method_4_code 169 = .ok (.invokestatic 14, 3) := by decide +kernel
theorem d3_172 : decode method_4_code 172 = .ok (.iadd, 1) := by decide +kernel
theorem d3_173 : decode method_4_code 173 = .ok (.iload_n 0, 1) := by decide +kernel
theorem d3_174 : decode method_4_code 174 = .ok (.aload_n 1, 1) := by decide +kernel
theorem d3_175 : decode method_4_code 175 = .ok (.bipush 20, 2) := by decide +kernel
theorem d3_177 : decode method_4_code 177 = .ok (.iaload, 1) := by decide +kernel
theorem d3_178 : decode method_4_code 178 = .ok (.invokestatic 14, 3) := by decide +kernel
theorem d3_181 : decode method_4_code 181 = .ok (.iadd, 1) := by decide +kernel
theorem d3_182 : decode method_4_code 182 = .ok (.iload_n 0, 1) := by decide +kernel
theorem d3_183 : decode method_4_code 183 = .ok (.aload_n 1, 1) := by decide +kernel
theorem d3_184 : decode method_4_code 184 = .ok (.bipush 21, 2) := by decide +kernel
theorem d3_186 : decode method_4_code 186 = .ok (.iaload, 1) := by decide +kernel
theorem d3_187 : decode method_4_code 187 = .ok (.invokestatic 14, 3) := by decide +kernel
theorem d3_190 : decode method_4_code 190 = .ok (.iadd, 1) := by decide +kernel
theorem d3_191 : decode method_4_code 191 = .ok (.iload_n 0, 1) := by decide +kernel
theorem d3_192 : decode method_4_code 192 = .ok (.aload_n 1, 1) := by decide +kernel
theorem d3_193 : decode method_4_code 193 = .ok (.bipush 22, 2) := by decide +kernel
theorem d3_195 : decode method_4_code 195 = .ok (.iaload, 1) := by decide +kernel
theorem d3_196 : decode method_4_code 196 = .ok (.invokestatic 14, 3) := by decide +kernel
theorem d3_199 : decode method_4_code 199 = .ok (.iadd, 1) := by decide +kernel
theorem d3_200 : decode method_4_code 200 = .ok (.iload_n 0, 1) := by decide +kernel
theorem d3_201 : decode method_4_code 201 = .ok (.aload_n 1, 1) := by decide +kernel
theorem d3_202 : decode method_4_code 202 = .ok (.bipush 23, 2) := by decide +kernel
theorem d3_204 : decode method_4_code 204 = .ok (.iaload, 1) := by decide +kernel
theorem d3_205 : decode method_4_code 205 = .ok (.invokestatic 14, 3) := by decide +kernel
theorem d3_208 : decode method_4_code 208 = .ok (.iadd, 1) := by decide +kernel
theorem d3_209 : decode method_4_code 209 = .ok (.iload_n 0, 1) := by decide +kernel
theorem d3_210 : decode method_4_code 210 = .ok (.aload_n 1, 1) := by decide +kernel
theorem d3_211 : decode method_4_code 211 = .ok (.bipush 24, 2) := by decide +kernel
theorem d3_213 : decode method_4_code 213 = .ok (.iaload, 1) := by decide +kernel
theorem d3_214 : decode method_4_code 214 = .ok (.invokestatic 14, 3) := by decide +kernel
theorem d3_217 : decode method_4_code 217 = .ok (.iadd, 1) := by decide +kernel
theorem d3_218 : decode method_4_code 218 = .ok (.iload_n 0, 1) := by decide +kernel
theorem d3_219 : decode method_4_code 219 = .ok (.aload_n 1, 1) := by decide +kernel
theorem d3_220 : decode method_4_code 220 = .ok (.bipush 25, 2) := by decide +kernel
theorem d3_222 : decode method_4_code 222 = .ok (.iaload, 1) := by decide +kernel
theorem d3_223 : decode method_4_code 223 = .ok (.invokestatic 14, 3) := by decide +kernel
theorem d3_226 : decode method_4_code 226 = .ok (.iadd, 1) := by decide +kernel
theorem d3_227 : decode method_4_code 227 = .ok (.iload_n 0, 1) := by decide +kernel
theorem d3_228 : decode method_4_code 228 = .ok (.aload_n 1, 1) := by decide +kernel
theorem d3_229 : decode method_4_code 229 = .ok (.bipush 26, 2) := by decide +kernel
theorem d3_231 : decode method_4_code 231 = .ok (.iaload, 1) := by decide +kernel
theorem d3_232 : decode method_4_code 232 = .ok (.invokestatic 14, 3) := by decide +kernel
theorem d3_235 : decode method_4_code 235 = .ok (.iadd, 1) := by decide +kernel
theorem d3_236 : decode method_4_code 236 = .ok (.iload_n 0, 1) := by decide +kernel
theorem d3_237 : decode method_4_code 237 = .ok (.aload_n 1, 1) := by decide +kernel
theorem d3_238 : decode method_4_code 238 = .ok (.bipush 27, 2) := by decide +kernel
theorem d3_240 : decode method_4_code 240 = .ok (.iaload, 1) := by decide +kernel
theorem d3_241 : decode method_4_code 241 = .ok (.invokestatic 14, 3) := by decide +kernel
theorem d3_244 : decode method_4_code 244 = .ok (.iadd, 1) := by decide +kernel
theorem d3_245 : decode method_4_code 245 = .ok (.iload_n 0, 1) := by decide +kernel
theorem d3_246 : decode method_4_code 246 = .ok (.aload_n 1, 1) := by decide +kernel
theorem d3_247 : decode method_4_code 247 = .ok (.bipush 28, 2) := by decide +kernel
theorem d3_249 : decode method_4_code 249 = .ok (.iaload, 1) := by decide +kernel
theorem d3_250 : decode method_4_code 250 = .ok (.invokestatic 14, 3) := by decide +kernel
theorem d3_253 : decode method_4_code 253 = .ok (.iadd, 1) := by decide +kernel
theorem d3_254 : decode method_4_code 254 = .ok (.iload_n 0, 1) := by decide +kernel
theorem d3_255 : decode method_4_code 255 = .ok (.aload_n 1, 1) := by decide +kernel
theorem d3_256 : decode method_4_code 256 = .ok (.bipush 29, 2) := by decide +kernel
theorem d3_258 : decode method_4_code 258 = .ok (.iaload, 1) := by decide +kernel
theorem d3_259 : decode method_4_code 259 = .ok (.invokestatic 14, 3) := by decide +kernel
theorem d3_262 : decode method_4_code 262 = .ok (.iadd, 1) := by decide +kernel
theorem d3_263 : decode method_4_code 263 = .ok (.iload_n 0, 1) := by decide +kernel
theorem d3_264 : decode method_4_code 264 = .ok (.aload_n 1, 1) := by decide +kernel
theorem d3_265 : decode method_4_code 265 = .ok (.bipush 30, 2) := by decide +kernel
theorem d3_267 : decode method_4_code 267 = .ok (.iaload, 1) := by decide +kernel
theorem d3_268 : decode method_4_code 268 = .ok (.invokestatic 14, 3) := by decide +kernel
theorem d3_271 : decode method_4_code 271 = .ok (.iadd, 1) := by decide +kernel
theorem d3_272 : decode method_4_code 272 = .ok (.iload_n 0, 1) := by decide +kernel
theorem d3_273 : decode method_4_code 273 = .ok (.aload_n 1, 1) := by decide +kernel
theorem d3_274 : decode method_4_code 274 = .ok (.bipush 31, 2) := by decide +kernel
theorem d3_276 : decode method_4_code 276 = .ok (.iaload, 1) := by decide +kernel
theorem d3_277 : decode method_4_code 277 = .ok (.invokestatic 14, 3) := by decide +kernel
theorem d3_280 : decode method_4_code 280 = .ok (.iadd, 1) := by decide +kernel
theorem d3_281 : decode method_4_code 281 = .ok (.istore_n 2, 1) := by decide +kernel
theorem d3_282 : decode method_4_code 282 = .ok (.iload_n 2, 1) := by decide +kernel
theorem d3_283 : decode method_4_code 283 = .ok (.iconst 1, 1) := by decide +kernel
theorem d3_284 : decode method_4_code 284 = .ok (.iand, 1) := by decide +kernel
theorem d3_285 : decode method_4_code 285 = .ok (.iconst 1, 1) := by decide +kernel
theorem d3_286 : decode method_4_code 286 = .ok (.if_icmp .ne 7, 3) := by decide +kernel
theorem d3_289 : decode method_4_code 289 = .ok (.iconst 1, 1) := by decide +kernel
theorem d3_290 : decode method_4_code 290 = .ok (.goto 4, 3) := by decide +kernel
theorem d3_293 : decode method_4_code 293 = .ok (.iconst 0, 1) := by decide +kernel
theorem d3_294 : decode method_4_code 294 = .ok (.ireturn, 1) := by decide +kernel
theorem pn_3 : plainFor (⟨"com/example/mass_terms/massterms/check/XmlNamesIsNameStartPinLaw", "ref", "(I[I)Z"⟩ : MethodName) = true := plainFor_of_name (by first | (simp [plainName, overriddenIn]; done) | decide +kernel)
theorem ef_3 (m : MethodId) (x0 : Int32) (x1 : Addr) : entryFrame m #[(.int x0), (.ref x1)] 3 = mkF m 0 #[.val (.int x0), .val (.ref x1), .unset] [] := by first | (simp [entryFrame, mkF, argsToLocals, Value.category]; done) | rfl
theorem pd0 : parseMethodDescriptor "(II)I" = some ⟨[.int, .int], some .int⟩ := by decide +kernel
def F3 (x0 : Int32) : Int32 := (if (((((((((((((((((((((((((((((((((F4 x0 (58 : Int32)) + (F4 x0 (59 : Int32))) + (F4 x0 (65 : Int32))) + (F4 x0 (91 : Int32))) + (F4 x0 (95 : Int32))) + (F4 x0 (96 : Int32))) + (F4 x0 (97 : Int32))) + (F4 x0 (123 : Int32))) + (F4 x0 (192 : Int32))) + (F4 x0 (215 : Int32))) + (F4 x0 (216 : Int32))) + (F4 x0 (247 : Int32))) + (F4 x0 (248 : Int32))) + (F4 x0 (768 : Int32))) + (F4 x0 (880 : Int32))) + (F4 x0 (894 : Int32))) + (F4 x0 (895 : Int32))) + (F4 x0 (8192 : Int32))) + (F4 x0 (8204 : Int32))) + (F4 x0 (8206 : Int32))) + (F4 x0 (8304 : Int32))) + (F4 x0 (8592 : Int32))) + (F4 x0 (11264 : Int32))) + (F4 x0 (12272 : Int32))) + (F4 x0 (12289 : Int32))) + (F4 x0 (55296 : Int32))) + (F4 x0 (63744 : Int32))) + (F4 x0 (64976 : Int32))) + (F4 x0 (65008 : Int32))) + (F4 x0 (65534 : Int32))) + (F4 x0 (65536 : Int32))) + (F4 x0 (983040 : Int32))) &&& (1 : Int32)) = (1 : Int32) then (1 : Int32) else (0 : Int32))
set_option maxRecDepth 65536 in
set_option maxHeartbeats 40000000 in
theorem rm3 (l : Launch) (Z : State) (a0 : Array Value) (hw : ∀ d ∈ tables_1, d.before a0 Z = true) (ws : List Jvm.Cond) (x0 : Int32) (x1 : Addr)  (h0 : Heap) (A_x1 : AI Z h0 x1 .int [(58 : Int32), (59 : Int32), (65 : Int32), (91 : Int32), (95 : Int32), (96 : Int32), (97 : Int32), (123 : Int32), (192 : Int32), (215 : Int32), (216 : Int32), (247 : Int32), (248 : Int32), (768 : Int32), (880 : Int32), (894 : Int32), (895 : Int32), (8192 : Int32), (8204 : Int32), (8206 : Int32), (8304 : Int32), (8592 : Int32), (11264 : Int32), (12272 : Int32), (12289 : Int32), (55296 : Int32), (63744 : Int32), (64976 : Int32), (65008 : Int32), (65534 : Int32), (65536 : Int32), (983040 : Int32)]) :
    Ctr l (⟨"com/example/mass_terms/massterms/check/XmlNamesIsNameStartPinLaw", "ref", "(I[I)Z"⟩ : MethodName) method_4_code 3 (some .boolean) ws ({ frames := 1, cells := 0, slots := 0, locals := 14 } : Room) Z #[(.int x0), (.ref x1)] h0 (PQ (.int (F3 x0)) h0) 0 0 := by
  refine Ctr.mk pn_3 ?_
  intro p e s m below meth c T hx hby hml hown hnm hlk hret hZ X eT
  refine enter (ef_3 m x0 x1) ?_
  obtain ⟨res, hres⟩ : ∃ r, r = F3 x0 := ⟨_, rfl⟩
  rw [← hres]
  refine s_iloadN X hx (hb hby d3_0) rfl (q := 1) rfl ?_
  refine s_aloadN X hx (hb hby d3_1) rfl rfl (q := 2) rfl ?_
  refine s_iconst X hx (z := (0 : Int32)) (hb hby d3_2) rfl (q := 3) rfl ?_
  refine s_iaload X hx hZ eT A_x1 (by decide) (i := 0) rfl (x := (58 : Int32)) rfl (hb hby d3_3) (q := 4) rfl ?_
  refine callP X hx hZ hown (W := 0) (argsL := [(.int x0), (.int (58 : Int32))]) (rest := []) (hw _ (List.mem_of_getElem? (i := 22) rfl)) (hw _ (List.mem_of_getElem? (i := 23) rfl)) (hw _ (List.mem_of_getElem? (i := 2) rfl)) (hw _ (List.mem_of_getElem? (i := 24) rfl)) (by decide) (rm4 l Z a0 hw [] x0 (58 : Int32) h0) rfl rfl eT (by decide) (by decide) (by decide) (by decide) (by rw [hml]; rfl) pd0 rfl rfl (Nat.le_of_ble_eq_true rfl) (hb hby d3_4) (q := 7) rfl ?_
  intro T X eT
  refine s_iloadN X hx (hb hby d3_7) rfl (q := 8) rfl ?_
  refine s_aloadN X hx (hb hby d3_8) rfl rfl (q := 9) rfl ?_
  refine s_iconst X hx (z := (1 : Int32)) (hb hby d3_9) rfl (q := 10) rfl ?_
  refine s_iaload X hx hZ eT A_x1 (by decide) (i := 1) rfl (x := (59 : Int32)) rfl (hb hby d3_10) (q := 11) rfl ?_
  refine callP X hx hZ hown (W := 1) (argsL := [(.int x0), (.int (59 : Int32))]) (rest := [(.int (F4 x0 (58 : Int32)))]) (hw _ (List.mem_of_getElem? (i := 22) rfl)) (hw _ (List.mem_of_getElem? (i := 23) rfl)) (hw _ (List.mem_of_getElem? (i := 2) rfl)) (hw _ (List.mem_of_getElem? (i := 24) rfl)) (by decide) (rm4 l Z a0 hw [] x0 (59 : Int32) h0) rfl rfl eT (by decide) (by decide) (by decide) (by decide) (by rw [hml]; rfl) pd0 rfl rfl (Nat.le_of_ble_eq_true rfl) (hb hby d3_11) (q := 14) rfl ?_
  intro T X eT
  refine s_iadd X hx (hb hby d3_14) (q := 15) rfl ?_
  refine s_iloadN X hx (hb hby d3_15) rfl (q := 16) rfl ?_
  refine s_aloadN X hx (hb hby d3_16) rfl rfl (q := 17) rfl ?_
  refine s_iconst X hx (z := (2 : Int32)) (hb hby d3_17) rfl (q := 18) rfl ?_
  refine s_iaload X hx hZ eT A_x1 (by decide) (i := 2) rfl (x := (65 : Int32)) rfl (hb hby d3_18) (q := 19) rfl ?_
  refine callP X hx hZ hown (W := 1) (argsL := [(.int x0), (.int (65 : Int32))]) (rest := [(.int ((F4 x0 (58 : Int32)) + (F4 x0 (59 : Int32))))]) (hw _ (List.mem_of_getElem? (i := 22) rfl)) (hw _ (List.mem_of_getElem? (i := 23) rfl)) (hw _ (List.mem_of_getElem? (i := 2) rfl)) (hw _ (List.mem_of_getElem? (i := 24) rfl)) (by decide) (rm4 l Z a0 hw [] x0 (65 : Int32) h0) rfl rfl eT (by decide) (by decide) (by decide) (by decide) (by rw [hml]; rfl) pd0 rfl rfl (Nat.le_of_ble_eq_true rfl) (hb hby d3_19) (q := 22) rfl ?_
  intro T X eT
  refine s_iadd X hx (hb hby d3_22) (q := 23) rfl ?_
  refine s_iloadN X hx (hb hby d3_23) rfl (q := 24) rfl ?_
  refine s_aloadN X hx (hb hby d3_24) rfl rfl (q := 25) rfl ?_
  refine s_iconst X hx (z := (3 : Int32)) (hb hby d3_25) rfl (q := 26) rfl ?_
  refine s_iaload X hx hZ eT A_x1 (by decide) (i := 3) rfl (x := (91 : Int32)) rfl (hb hby d3_26) (q := 27) rfl ?_
  refine callP X hx hZ hown (W := 1) (argsL := [(.int x0), (.int (91 : Int32))]) (rest := [(.int (((F4 x0 (58 : Int32)) + (F4 x0 (59 : Int32))) + (F4 x0 (65 : Int32))))]) (hw _ (List.mem_of_getElem? (i := 22) rfl)) (hw _ (List.mem_of_getElem? (i := 23) rfl)) (hw _ (List.mem_of_getElem? (i := 2) rfl)) (hw _ (List.mem_of_getElem? (i := 24) rfl)) (by decide) (rm4 l Z a0 hw [] x0 (91 : Int32) h0) rfl rfl eT (by decide) (by decide) (by decide) (by decide) (by rw [hml]; rfl) pd0 rfl rfl (Nat.le_of_ble_eq_true rfl) (hb hby d3_27) (q := 30) rfl ?_
  intro T X eT
  refine s_iadd X hx (hb hby d3_30) (q := 31) rfl ?_
  refine s_iloadN X hx (hb hby d3_31) rfl (q := 32) rfl ?_
  refine s_aloadN X hx (hb hby d3_32) rfl rfl (q := 33) rfl ?_
  refine s_iconst X hx (z := (4 : Int32)) (hb hby d3_33) rfl (q := 34) rfl ?_
  refine s_iaload X hx hZ eT A_x1 (by decide) (i := 4) rfl (x := (95 : Int32)) rfl (hb hby d3_34) (q := 35) rfl ?_
  refine callP X hx hZ hown (W := 1) (argsL := [(.int x0), (.int (95 : Int32))]) (rest := [(.int ((((F4 x0 (58 : Int32)) + (F4 x0 (59 : Int32))) + (F4 x0 (65 : Int32))) + (F4 x0 (91 : Int32))))]) (hw _ (List.mem_of_getElem? (i := 22) rfl)) (hw _ (List.mem_of_getElem? (i := 23) rfl)) (hw _ (List.mem_of_getElem? (i := 2) rfl)) (hw _ (List.mem_of_getElem? (i := 24) rfl)) (by decide) (rm4 l Z a0 hw [] x0 (95 : Int32) h0) rfl rfl eT (by decide) (by decide) (by decide) (by decide) (by rw [hml]; rfl) pd0 rfl rfl (Nat.le_of_ble_eq_true rfl) (hb hby d3_35) (q := 38) rfl ?_
  intro T X eT
  refine s_iadd X hx (hb hby d3_38) (q := 39) rfl ?_
  refine s_iloadN X hx (hb hby d3_39) rfl (q := 40) rfl ?_
  refine s_aloadN X hx (hb hby d3_40) rfl rfl (q := 41) rfl ?_
  refine s_iconst X hx (z := (5 : Int32)) (hb hby d3_41) rfl (q := 42) rfl ?_
  refine s_iaload X hx hZ eT A_x1 (by decide) (i := 5) rfl (x := (96 : Int32)) rfl (hb hby d3_42) (q := 43) rfl ?_
  refine callP X hx hZ hown (W := 1) (argsL := [(.int x0), (.int (96 : Int32))]) (rest := [(.int (((((F4 x0 (58 : Int32)) + (F4 x0 (59 : Int32))) + (F4 x0 (65 : Int32))) + (F4 x0 (91 : Int32))) + (F4 x0 (95 : Int32))))]) (hw _ (List.mem_of_getElem? (i := 22) rfl)) (hw _ (List.mem_of_getElem? (i := 23) rfl)) (hw _ (List.mem_of_getElem? (i := 2) rfl)) (hw _ (List.mem_of_getElem? (i := 24) rfl)) (by decide) (rm4 l Z a0 hw [] x0 (96 : Int32) h0) rfl rfl eT (by decide) (by decide) (by decide) (by decide) (by rw [hml]; rfl) pd0 rfl rfl (Nat.le_of_ble_eq_true rfl) (hb hby d3_43) (q := 46) rfl ?_
  intro T X eT
  refine s_iadd X hx (hb hby d3_46) (q := 47) rfl ?_
  refine s_iloadN X hx (hb hby d3_47) rfl (q := 48) rfl ?_
  refine s_aloadN X hx (hb hby d3_48) rfl rfl (q := 49) rfl ?_
  refine s_bipush X hx (z := (6 : Int32)) (hb hby d3_49) rfl (q := 51) rfl ?_
  refine s_iaload X hx hZ eT A_x1 (by decide) (i := 6) rfl (x := (97 : Int32)) rfl (hb hby d3_51) (q := 52) rfl ?_
  refine callP X hx hZ hown (W := 1) (argsL := [(.int x0), (.int (97 : Int32))]) (rest := [(.int ((((((F4 x0 (58 : Int32)) + (F4 x0 (59 : Int32))) + (F4 x0 (65 : Int32))) + (F4 x0 (91 : Int32))) + (F4 x0 (95 : Int32))) + (F4 x0 (96 : Int32))))]) (hw _ (List.mem_of_getElem? (i := 22) rfl)) (hw _ (List.mem_of_getElem? (i := 23) rfl)) (hw _ (List.mem_of_getElem? (i := 2) rfl)) (hw _ (List.mem_of_getElem? (i := 24) rfl)) (by decide) (rm4 l Z a0 hw [] x0 (97 : Int32) h0) rfl rfl eT (by decide) (by decide) (by decide) (by decide) (by rw [hml]; rfl) pd0 rfl rfl (Nat.le_of_ble_eq_true rfl) (hb hby d3_52) (q := 55) rfl ?_
  intro T X eT
  refine s_iadd X hx (hb hby d3_55) (q := 56) rfl ?_
  refine s_iloadN X hx (hb hby d3_56) rfl (q := 57) rfl ?_
  refine s_aloadN X hx (hb hby d3_57) rfl rfl (q := 58) rfl ?_
  refine s_bipush X hx (z := (7 : Int32)) (hb hby d3_58) rfl (q := 60) rfl ?_
  refine s_iaload X hx hZ eT A_x1 (by decide) (i := 7) rfl (x := (123 : Int32)) rfl (hb hby d3_60) (q := 61) rfl ?_
  refine callP X hx hZ hown (W := 1) (argsL := [(.int x0), (.int (123 : Int32))]) (rest := [(.int (((((((F4 x0 (58 : Int32)) + (F4 x0 (59 : Int32))) + (F4 x0 (65 : Int32))) + (F4 x0 (91 : Int32))) + (F4 x0 (95 : Int32))) + (F4 x0 (96 : Int32))) + (F4 x0 (97 : Int32))))]) (hw _ (List.mem_of_getElem? (i := 22) rfl)) (hw _ (List.mem_of_getElem? (i := 23) rfl)) (hw _ (List.mem_of_getElem? (i := 2) rfl)) (hw _ (List.mem_of_getElem? (i := 24) rfl)) (by decide) (rm4 l Z a0 hw [] x0 (123 : Int32) h0) rfl rfl eT (by decide) (by decide) (by decide) (by decide) (by rw [hml]; rfl) pd0 rfl rfl (Nat.le_of_ble_eq_true rfl) (hb hby d3_61) (q := 64) rfl ?_
  intro T X eT
  refine s_iadd X hx (hb hby d3_64) (q := 65) rfl ?_
  refine s_iloadN X hx (hb hby d3_65) rfl (q := 66) rfl ?_
  refine s_aloadN X hx (hb hby d3_66) rfl rfl (q := 67) rfl ?_
  refine s_bipush X hx (z := (8 : Int32)) (hb hby d3_67) rfl (q := 69) rfl ?_
  refine s_iaload X hx hZ eT A_x1 (by decide) (i := 8) rfl (x := (192 : Int32)) rfl (hb hby d3_69) (q := 70) rfl ?_
  refine callP X hx hZ hown (W := 1) (argsL := [(.int x0), (.int (192 : Int32))]) (rest := [(.int ((((((((F4 x0 (58 : Int32)) + (F4 x0 (59 : Int32))) + (F4 x0 (65 : Int32))) + (F4 x0 (91 : Int32))) + (F4 x0 (95 : Int32))) + (F4 x0 (96 : Int32))) + (F4 x0 (97 : Int32))) + (F4 x0 (123 : Int32))))]) (hw _ (List.mem_of_getElem? (i := 22) rfl)) (hw _ (List.mem_of_getElem? (i := 23) rfl)) (hw _ (List.mem_of_getElem? (i := 2) rfl)) (hw _ (List.mem_of_getElem? (i := 24) rfl)) (by decide) (rm4 l Z a0 hw [] x0 (192 : Int32) h0) rfl rfl eT (by decide) (by decide) (by decide) (by decide) (by rw [hml]; rfl) pd0 rfl rfl (Nat.le_of_ble_eq_true rfl) (hb hby d3_70) (q := 73) rfl ?_
  intro T X eT
  refine s_iadd X hx (hb hby d3_73) (q := 74) rfl ?_
  refine s_iloadN X hx (hb hby d3_74) rfl (q := 75) rfl ?_
  refine s_aloadN X hx (hb hby d3_75) rfl rfl (q := 76) rfl ?_
  refine s_bipush X hx (z := (9 : Int32)) (hb hby d3_76) rfl (q := 78) rfl ?_
  refine s_iaload X hx hZ eT A_x1 (by decide) (i := 9) rfl (x := (215 : Int32)) rfl (hb hby d3_78) (q := 79) rfl ?_
  refine callP X hx hZ hown (W := 1) (argsL := [(.int x0), (.int (215 : Int32))]) (rest := [(.int (((((((((F4 x0 (58 : Int32)) + (F4 x0 (59 : Int32))) + (F4 x0 (65 : Int32))) + (F4 x0 (91 : Int32))) + (F4 x0 (95 : Int32))) + (F4 x0 (96 : Int32))) + (F4 x0 (97 : Int32))) + (F4 x0 (123 : Int32))) + (F4 x0 (192 : Int32))))]) (hw _ (List.mem_of_getElem? (i := 22) rfl)) (hw _ (List.mem_of_getElem? (i := 23) rfl)) (hw _ (List.mem_of_getElem? (i := 2) rfl)) (hw _ (List.mem_of_getElem? (i := 24) rfl)) (by decide) (rm4 l Z a0 hw [] x0 (215 : Int32) h0) rfl rfl eT (by decide) (by decide) (by decide) (by decide) (by rw [hml]; rfl) pd0 rfl rfl (Nat.le_of_ble_eq_true rfl) (hb hby d3_79) (q := 82) rfl ?_
  intro T X eT
  refine s_iadd X hx (hb hby d3_82) (q := 83) rfl ?_
  refine s_iloadN X hx (hb hby d3_83) rfl (q := 84) rfl ?_
  refine s_aloadN X hx (hb hby d3_84) rfl rfl (q := 85) rfl ?_
  refine s_bipush X hx (z := (10 : Int32)) (hb hby d3_85) rfl (q := 87) rfl ?_
  refine s_iaload X hx hZ eT A_x1 (by decide) (i := 10) rfl (x := (216 : Int32)) rfl (hb hby d3_87) (q := 88) rfl ?_
  refine callP X hx hZ hown (W := 1) (argsL := [(.int x0), (.int (216 : Int32))]) (rest := [(.int ((((((((((F4 x0 (58 : Int32)) + (F4 x0 (59 : Int32))) + (F4 x0 (65 : Int32))) + (F4 x0 (91 : Int32))) + (F4 x0 (95 : Int32))) + (F4 x0 (96 : Int32))) + (F4 x0 (97 : Int32))) + (F4 x0 (123 : Int32))) + (F4 x0 (192 : Int32))) + (F4 x0 (215 : Int32))))]) (hw _ (List.mem_of_getElem? (i := 22) rfl)) (hw _ (List.mem_of_getElem? (i := 23) rfl)) (hw _ (List.mem_of_getElem? (i := 2) rfl)) (hw _ (List.mem_of_getElem? (i := 24) rfl)) (by decide) (rm4 l Z a0 hw [] x0 (216 : Int32) h0) rfl rfl eT (by decide) (by decide) (by decide) (by decide) (by rw [hml]; rfl) pd0 rfl rfl (Nat.le_of_ble_eq_true rfl) (hb hby d3_88) (q := 91) rfl ?_
  intro T X eT
  refine s_iadd X hx (hb hby d3_91) (q := 92) rfl ?_
  refine s_iloadN X hx (hb hby d3_92) rfl (q := 93) rfl ?_
  refine s_aloadN X hx (hb hby d3_93) rfl rfl (q := 94) rfl ?_
  refine s_bipush X hx (z := (11 : Int32)) (hb hby d3_94) rfl (q := 96) rfl ?_
  refine s_iaload X hx hZ eT A_x1 (by decide) (i := 11) rfl (x := (247 : Int32)) rfl (hb hby d3_96) (q := 97) rfl ?_
  refine callP X hx hZ hown (W := 1) (argsL := [(.int x0), (.int (247 : Int32))]) (rest := [(.int (((((((((((F4 x0 (58 : Int32)) + (F4 x0 (59 : Int32))) + (F4 x0 (65 : Int32))) + (F4 x0 (91 : Int32))) + (F4 x0 (95 : Int32))) + (F4 x0 (96 : Int32))) + (F4 x0 (97 : Int32))) + (F4 x0 (123 : Int32))) + (F4 x0 (192 : Int32))) + (F4 x0 (215 : Int32))) + (F4 x0 (216 : Int32))))]) (hw _ (List.mem_of_getElem? (i := 22) rfl)) (hw _ (List.mem_of_getElem? (i := 23) rfl)) (hw _ (List.mem_of_getElem? (i := 2) rfl)) (hw _ (List.mem_of_getElem? (i := 24) rfl)) (by decide) (rm4 l Z a0 hw [] x0 (247 : Int32) h0) rfl rfl eT (by decide) (by decide) (by decide) (by decide) (by rw [hml]; rfl) pd0 rfl rfl (Nat.le_of_ble_eq_true rfl) (hb hby d3_97) (q := 100) rfl ?_
  intro T X eT
  refine s_iadd X hx (hb hby d3_100) (q := 101) rfl ?_
  refine s_iloadN X hx (hb hby d3_101) rfl (q := 102) rfl ?_
  refine s_aloadN X hx (hb hby d3_102) rfl rfl (q := 103) rfl ?_
  refine s_bipush X hx (z := (12 : Int32)) (hb hby d3_103) rfl (q := 105) rfl ?_
  refine s_iaload X hx hZ eT A_x1 (by decide) (i := 12) rfl (x := (248 : Int32)) rfl (hb hby d3_105) (q := 106) rfl ?_
  refine callP X hx hZ hown (W := 1) (argsL := [(.int x0), (.int (248 : Int32))]) (rest := [(.int ((((((((((((F4 x0 (58 : Int32)) + (F4 x0 (59 : Int32))) + (F4 x0 (65 : Int32))) + (F4 x0 (91 : Int32))) + (F4 x0 (95 : Int32))) + (F4 x0 (96 : Int32))) + (F4 x0 (97 : Int32))) + (F4 x0 (123 : Int32))) + (F4 x0 (192 : Int32))) + (F4 x0 (215 : Int32))) + (F4 x0 (216 : Int32))) + (F4 x0 (247 : Int32))))]) (hw _ (List.mem_of_getElem? (i := 22) rfl)) (hw _ (List.mem_of_getElem? (i := 23) rfl)) (hw _ (List.mem_of_getElem? (i := 2) rfl)) (hw _ (List.mem_of_getElem? (i := 24) rfl)) (by decide) (rm4 l Z a0 hw [] x0 (248 : Int32) h0) rfl rfl eT (by decide) (by decide) (by decide) (by decide) (by rw [hml]; rfl) pd0 rfl rfl (Nat.le_of_ble_eq_true rfl) (hb hby d3_106) (q := 109) rfl ?_
  intro T X eT
  refine s_iadd X hx (hb hby d3_109) (q := 110) rfl ?_
  refine s_iloadN X hx (hb hby d3_110) rfl (q := 111) rfl ?_
  refine s_aloadN X hx (hb hby d3_111) rfl rfl (q := 112) rfl ?_
  refine s_bipush X hx (z := (13 : Int32)) (hb hby d3_112) rfl (q := 114) rfl ?_
  refine s_iaload X hx hZ eT A_x1 (by decide) (i := 13) rfl (x := (768 : Int32)) rfl (hb hby d3_114) (q := 115) rfl ?_
  refine callP X hx hZ hown (W := 1) (argsL := [(.int x0), (.int (768 : Int32))]) (rest := [(.int (((((((((((((F4 x0 (58 : Int32)) + (F4 x0 (59 : Int32))) + (F4 x0 (65 : Int32))) + (F4 x0 (91 : Int32))) + (F4 x0 (95 : Int32))) + (F4 x0 (96 : Int32))) + (F4 x0 (97 : Int32))) + (F4 x0 (123 : Int32))) + (F4 x0 (192 : Int32))) + (F4 x0 (215 : Int32))) + (F4 x0 (216 : Int32))) + (F4 x0 (247 : Int32))) + (F4 x0 (248 : Int32))))]) (hw _ (List.mem_of_getElem? (i := 22) rfl)) (hw _ (List.mem_of_getElem? (i := 23) rfl)) (hw _ (List.mem_of_getElem? (i := 2) rfl)) (hw _ (List.mem_of_getElem? (i := 24) rfl)) (by decide) (rm4 l Z a0 hw [] x0 (768 : Int32) h0) rfl rfl eT (by decide) (by decide) (by decide) (by decide) (by rw [hml]; rfl) pd0 rfl rfl (Nat.le_of_ble_eq_true rfl) (hb hby d3_115) (q := 118) rfl ?_
  intro T X eT
  refine s_iadd X hx (hb hby d3_118) (q := 119) rfl ?_
  refine s_iloadN X hx (hb hby d3_119) rfl (q := 120) rfl ?_
  refine s_aloadN X hx (hb hby d3_120) rfl rfl (q := 121) rfl ?_
  refine s_bipush X hx (z := (14 : Int32)) (hb hby d3_121) rfl (q := 123) rfl ?_
  refine s_iaload X hx hZ eT A_x1 (by decide) (i := 14) rfl (x := (880 : Int32)) rfl (hb hby d3_123) (q := 124) rfl ?_
  refine callP X hx hZ hown (W := 1) (argsL := [(.int x0), (.int (880 : Int32))]) (rest := [(.int ((((((((((((((F4 x0 (58 : Int32)) + (F4 x0 (59 : Int32))) + (F4 x0 (65 : Int32))) + (F4 x0 (91 : Int32))) + (F4 x0 (95 : Int32))) + (F4 x0 (96 : Int32))) + (F4 x0 (97 : Int32))) + (F4 x0 (123 : Int32))) + (F4 x0 (192 : Int32))) + (F4 x0 (215 : Int32))) + (F4 x0 (216 : Int32))) + (F4 x0 (247 : Int32))) + (F4 x0 (248 : Int32))) + (F4 x0 (768 : Int32))))]) (hw _ (List.mem_of_getElem? (i := 22) rfl)) (hw _ (List.mem_of_getElem? (i := 23) rfl)) (hw _ (List.mem_of_getElem? (i := 2) rfl)) (hw _ (List.mem_of_getElem? (i := 24) rfl)) (by decide) (rm4 l Z a0 hw [] x0 (880 : Int32) h0) rfl rfl eT (by decide) (by decide) (by decide) (by decide) (by rw [hml]; rfl) pd0 rfl rfl (Nat.le_of_ble_eq_true rfl) (hb hby d3_124) (q := 127) rfl ?_
  intro T X eT
  refine s_iadd X hx (hb hby d3_127) (q := 128) rfl ?_
  refine s_iloadN X hx (hb hby d3_128) rfl (q := 129) rfl ?_
  refine s_aloadN X hx (hb hby d3_129) rfl rfl (q := 130) rfl ?_
  refine s_bipush X hx (z := (15 : Int32)) (hb hby d3_130) rfl (q := 132) rfl ?_
  refine s_iaload X hx hZ eT A_x1 (by decide) (i := 15) rfl (x := (894 : Int32)) rfl (hb hby d3_132) (q := 133) rfl ?_
  refine callP X hx hZ hown (W := 1) (argsL := [(.int x0), (.int (894 : Int32))]) (rest := [(.int (((((((((((((((F4 x0 (58 : Int32)) + (F4 x0 (59 : Int32))) + (F4 x0 (65 : Int32))) + (F4 x0 (91 : Int32))) + (F4 x0 (95 : Int32))) + (F4 x0 (96 : Int32))) + (F4 x0 (97 : Int32))) + (F4 x0 (123 : Int32))) + (F4 x0 (192 : Int32))) + (F4 x0 (215 : Int32))) + (F4 x0 (216 : Int32))) + (F4 x0 (247 : Int32))) + (F4 x0 (248 : Int32))) + (F4 x0 (768 : Int32))) + (F4 x0 (880 : Int32))))]) (hw _ (List.mem_of_getElem? (i := 22) rfl)) (hw _ (List.mem_of_getElem? (i := 23) rfl)) (hw _ (List.mem_of_getElem? (i := 2) rfl)) (hw _ (List.mem_of_getElem? (i := 24) rfl)) (by decide) (rm4 l Z a0 hw [] x0 (894 : Int32) h0) rfl rfl eT (by decide) (by decide) (by decide) (by decide) (by rw [hml]; rfl) pd0 rfl rfl (Nat.le_of_ble_eq_true rfl) (hb hby d3_133) (q := 136) rfl ?_
  intro T X eT
  refine s_iadd X hx (hb hby d3_136) (q := 137) rfl ?_
  refine s_iloadN X hx (hb hby d3_137) rfl (q := 138) rfl ?_
  refine s_aloadN X hx (hb hby d3_138) rfl rfl (q := 139) rfl ?_
  refine s_bipush X hx (z := (16 : Int32)) (hb hby d3_139) rfl (q := 141) rfl ?_
  refine s_iaload X hx hZ eT A_x1 (by decide) (i := 16) rfl (x := (895 : Int32)) rfl (hb hby d3_141) (q := 142) rfl ?_
  refine callP X hx hZ hown (W := 1) (argsL := [(.int x0), (.int (895 : Int32))]) (rest := [(.int ((((((((((((((((F4 x0 (58 : Int32)) + (F4 x0 (59 : Int32))) + (F4 x0 (65 : Int32))) + (F4 x0 (91 : Int32))) + (F4 x0 (95 : Int32))) + (F4 x0 (96 : Int32))) + (F4 x0 (97 : Int32))) + (F4 x0 (123 : Int32))) + (F4 x0 (192 : Int32))) + (F4 x0 (215 : Int32))) + (F4 x0 (216 : Int32))) + (F4 x0 (247 : Int32))) + (F4 x0 (248 : Int32))) + (F4 x0 (768 : Int32))) + (F4 x0 (880 : Int32))) + (F4 x0 (894 : Int32))))]) (hw _ (List.mem_of_getElem? (i := 22) rfl)) (hw _ (List.mem_of_getElem? (i := 23) rfl)) (hw _ (List.mem_of_getElem? (i := 2) rfl)) (hw _ (List.mem_of_getElem? (i := 24) rfl)) (by decide) (rm4 l Z a0 hw [] x0 (895 : Int32) h0) rfl rfl eT (by decide) (by decide) (by decide) (by decide) (by rw [hml]; rfl) pd0 rfl rfl (Nat.le_of_ble_eq_true rfl) (hb hby d3_142) (q := 145) rfl ?_
  intro T X eT
  refine s_iadd X hx (hb hby d3_145) (q := 146) rfl ?_
  refine s_iloadN X hx (hb hby d3_146) rfl (q := 147) rfl ?_
  refine s_aloadN X hx (hb hby d3_147) rfl rfl (q := 148) rfl ?_
  refine s_bipush X hx (z := (17 : Int32)) (hb hby d3_148) rfl (q := 150) rfl ?_
  refine s_iaload X hx hZ eT A_x1 (by decide) (i := 17) rfl (x := (8192 : Int32)) rfl (hb hby d3_150) (q := 151) rfl ?_
  refine callP X hx hZ hown (W := 1) (argsL := [(.int x0), (.int (8192 : Int32))]) (rest := [(.int (((((((((((((((((F4 x0 (58 : Int32)) + (F4 x0 (59 : Int32))) + (F4 x0 (65 : Int32))) + (F4 x0 (91 : Int32))) + (F4 x0 (95 : Int32))) + (F4 x0 (96 : Int32))) + (F4 x0 (97 : Int32))) + (F4 x0 (123 : Int32))) + (F4 x0 (192 : Int32))) + (F4 x0 (215 : Int32))) + (F4 x0 (216 : Int32))) + (F4 x0 (247 : Int32))) + (F4 x0 (248 : Int32))) + (F4 x0 (768 : Int32))) + (F4 x0 (880 : Int32))) + (F4 x0 (894 : Int32))) + (F4 x0 (895 : Int32))))]) (hw _ (List.mem_of_getElem? (i := 22) rfl)) (hw _ (List.mem_of_getElem? (i := 23) rfl)) (hw _ (List.mem_of_getElem? (i := 2) rfl)) (hw _ (List.mem_of_getElem? (i := 24) rfl)) (by decide) (rm4 l Z a0 hw [] x0 (8192 : Int32) h0) rfl rfl eT (by decide) (by decide) (by decide) (by decide) (by rw [hml]; rfl) pd0 rfl rfl (Nat.le_of_ble_eq_true rfl) (hb hby d3_151) (q := 154) rfl ?_
  intro T X eT
  refine s_iadd X hx (hb hby d3_154) (q := 155) rfl ?_
  refine s_iloadN X hx (hb hby d3_155) rfl (q := 156) rfl ?_
  refine s_aloadN X hx (hb hby d3_156) rfl rfl (q := 157) rfl ?_
  refine s_bipush X hx (z := (18 : Int32)) (hb hby d3_157) rfl (q := 159) rfl ?_
  refine s_iaload X hx hZ eT A_x1 (by decide) (i := 18) rfl (x := (8204 : Int32)) rfl (hb hby d3_159) (q := 160) rfl ?_
  refine callP X hx hZ hown (W := 1) (argsL := [(.int x0), (.int (8204 : Int32))]) (rest := [(.int ((((((((((((((((((F4 x0 (58 : Int32)) + (F4 x0 (59 : Int32))) + (F4 x0 (65 : Int32))) + (F4 x0 (91 : Int32))) + (F4 x0 (95 : Int32))) + (F4 x0 (96 : Int32))) + (F4 x0 (97 : Int32))) + (F4 x0 (123 : Int32))) + (F4 x0 (192 : Int32))) + (F4 x0 (215 : Int32))) + (F4 x0 (216 : Int32))) + (F4 x0 (247 : Int32))) + (F4 x0 (248 : Int32))) + (F4 x0 (768 : Int32))) + (F4 x0 (880 : Int32))) + (F4 x0 (894 : Int32))) + (F4 x0 (895 : Int32))) + (F4 x0 (8192 : Int32))))]) (hw _ (List.mem_of_getElem? (i := 22) rfl)) (hw _ (List.mem_of_getElem? (i := 23) rfl)) (hw _ (List.mem_of_getElem? (i := 2) rfl)) (hw _ (List.mem_of_getElem? (i := 24) rfl)) (by decide) (rm4 l Z a0 hw [] x0 (8204 : Int32) h0) rfl rfl eT (by decide) (by decide) (by decide) (by decide) (by rw [hml]; rfl) pd0 rfl rfl (Nat.le_of_ble_eq_true rfl) (hb hby d3_160) (q := 163) rfl ?_
  intro T X eT
  refine s_iadd X hx (hb hby d3_163) (q := 164) rfl ?_
  refine s_iloadN X hx (hb hby d3_164) rfl (q := 165) rfl ?_
  refine s_aloadN X hx (hb hby d3_165) rfl rfl (q := 166) rfl ?_
  refine s_bipush X hx (z := (19 : Int32)) (hb hby d3_166) rfl (q := 168) rfl ?_
  refine s_iaload X hx hZ eT A_x1 (by decide) (i := 19) rfl (x := (8206 : Int32)) rfl (hb hby d3_168) (q := 169) rfl ?_
  refine callP X hx hZ hown (W := 1) (argsL := [(.int x0), (.int (8206 : Int32))]) (rest := [(.int (((((((((((((((((((F4 x0 (58 : Int32)) + (F4 x0 (59 : Int32))) + (F4 x0 (65 : Int32))) + (F4 x0 (91 : Int32))) + (F4 x0 (95 : Int32))) + (F4 x0 (96 : Int32))) + (F4 x0 (97 : Int32))) + (F4 x0 (123 : Int32))) + (F4 x0 (192 : Int32))) + (F4 x0 (215 : Int32))) + (F4 x0 (216 : Int32))) + (F4 x0 (247 : Int32))) + (F4 x0 (248 : Int32))) + (F4 x0 (768 : Int32))) + (F4 x0 (880 : Int32))) + (F4 x0 (894 : Int32))) + (F4 x0 (895 : Int32))) + (F4 x0 (8192 : Int32))) + (F4 x0 (8204 : Int32))))]) (hw _ (List.mem_of_getElem? (i := 22) rfl)) (hw _ (List.mem_of_getElem? (i := 23) rfl)) (hw _ (List.mem_of_getElem? (i := 2) rfl)) (hw _ (List.mem_of_getElem? (i := 24) rfl)) (by decide) (rm4 l Z a0 hw [] x0 (8206 : Int32) h0) rfl rfl eT (by decide) (by decide) (by decide) (by decide) (by rw [hml]; rfl) pd0 rfl rfl (Nat.le_of_ble_eq_true rfl) (hb hby d3_169) (q := 172) rfl ?_
  intro T X eT
  refine s_iadd X hx (hb hby d3_172) (q := 173) rfl ?_
  refine s_iloadN X hx (hb hby d3_173) rfl (q := 174) rfl ?_
  refine s_aloadN X hx (hb hby d3_174) rfl rfl (q := 175) rfl ?_
  refine s_bipush X hx (z := (20 : Int32)) (hb hby d3_175) rfl (q := 177) rfl ?_
  refine s_iaload X hx hZ eT A_x1 (by decide) (i := 20) rfl (x := (8304 : Int32)) rfl (hb hby d3_177) (q := 178) rfl ?_
  refine callP X hx hZ hown (W := 1) (argsL := [(.int x0), (.int (8304 : Int32))]) (rest := [(.int ((((((((((((((((((((F4 x0 (58 : Int32)) + (F4 x0 (59 : Int32))) + (F4 x0 (65 : Int32))) + (F4 x0 (91 : Int32))) + (F4 x0 (95 : Int32))) + (F4 x0 (96 : Int32))) + (F4 x0 (97 : Int32))) + (F4 x0 (123 : Int32))) + (F4 x0 (192 : Int32))) + (F4 x0 (215 : Int32))) + (F4 x0 (216 : Int32))) + (F4 x0 (247 : Int32))) + (F4 x0 (248 : Int32))) + (F4 x0 (768 : Int32))) + (F4 x0 (880 : Int32))) + (F4 x0 (894 : Int32))) + (F4 x0 (895 : Int32))) + (F4 x0 (8192 : Int32))) + (F4 x0 (8204 : Int32))) + (F4 x0 (8206 : Int32))))]) (hw _ (List.mem_of_getElem? (i := 22) rfl)) (hw _ (List.mem_of_getElem? (i := 23) rfl)) (hw _ (List.mem_of_getElem? (i := 2) rfl)) (hw _ (List.mem_of_getElem? (i := 24) rfl)) (by decide) (rm4 l Z a0 hw [] x0 (8304 : Int32) h0) rfl rfl eT (by decide) (by decide) (by decide) (by decide) (by rw [hml]; rfl) pd0 rfl rfl (Nat.le_of_ble_eq_true rfl) (hb hby d3_178) (q := 181) rfl ?_
  intro T X eT
  refine s_iadd X hx (hb hby d3_181) (q := 182) rfl ?_
  refine s_iloadN X hx (hb hby d3_182) rfl (q := 183) rfl ?_
  refine s_aloadN X hx (hb hby d3_183) rfl rfl (q := 184) rfl ?_
  refine s_bipush X hx (z := (21 : Int32)) (hb hby d3_184) rfl (q := 186) rfl ?_
  refine s_iaload X hx hZ eT A_x1 (by decide) (i := 21) rfl (x := (8592 : Int32)) rfl (hb hby d3_186) (q := 187) rfl ?_
  refine callP X hx hZ hown (W := 1) (argsL := [(.int x0), (.int (8592 : Int32))]) (rest := [(.int (((((((((((((((((((((F4 x0 (58 : Int32)) + (F4 x0 (59 : Int32))) + (F4 x0 (65 : Int32))) + (F4 x0 (91 : Int32))) + (F4 x0 (95 : Int32))) + (F4 x0 (96 : Int32))) + (F4 x0 (97 : Int32))) + (F4 x0 (123 : Int32))) + (F4 x0 (192 : Int32))) + (F4 x0 (215 : Int32))) + (F4 x0 (216 : Int32))) + (F4 x0 (247 : Int32))) + (F4 x0 (248 : Int32))) + (F4 x0 (768 : Int32))) + (F4 x0 (880 : Int32))) + (F4 x0 (894 : Int32))) + (F4 x0 (895 : Int32))) + (F4 x0 (8192 : Int32))) + (F4 x0 (8204 : Int32))) + (F4 x0 (8206 : Int32))) + (F4 x0 (8304 : Int32))))]) (hw _ (List.mem_of_getElem? (i := 22) rfl)) (hw _ (List.mem_of_getElem? (i := 23) rfl)) (hw _ (List.mem_of_getElem? (i := 2) rfl)) (hw _ (List.mem_of_getElem? (i := 24) rfl)) (by decide) (rm4 l Z a0 hw [] x0 (8592 : Int32) h0) rfl rfl eT (by decide) (by decide) (by decide) (by decide) (by rw [hml]; rfl) pd0 rfl rfl (Nat.le_of_ble_eq_true rfl) (hb hby d3_187) (q := 190) rfl ?_
  intro T X eT
  refine s_iadd X hx (hb hby d3_190) (q := 191) rfl ?_
  refine s_iloadN X hx (hb hby d3_191) rfl (q := 192) rfl ?_
  refine s_aloadN X hx (hb hby d3_192) rfl rfl (q := 193) rfl ?_
  refine s_bipush X hx (z := (22 : Int32)) (hb hby d3_193) rfl (q := 195) rfl ?_
  refine s_iaload X hx hZ eT A_x1 (by decide) (i := 22) rfl (x := (11264 : Int32)) rfl (hb hby d3_195) (q := 196) rfl ?_
  refine callP X hx hZ hown (W := 1) (argsL := [(.int x0), (.int (11264 : Int32))]) (rest := [(.int ((((((((((((((((((((((F4 x0 (58 : Int32)) + (F4 x0 (59 : Int32))) + (F4 x0 (65 : Int32))) + (F4 x0 (91 : Int32))) + (F4 x0 (95 : Int32))) + (F4 x0 (96 : Int32))) + (F4 x0 (97 : Int32))) + (F4 x0 (123 : Int32))) + (F4 x0 (192 : Int32))) + (F4 x0 (215 : Int32))) + (F4 x0 (216 : Int32))) + (F4 x0 (247 : Int32))) + (F4 x0 (248 : Int32))) + (F4 x0 (768 : Int32))) + (F4 x0 (880 : Int32))) + (F4 x0 (894 : Int32))) + (F4 x0 (895 : Int32))) + (F4 x0 (8192 : Int32))) + (F4 x0 (8204 : Int32))) + (F4 x0 (8206 : Int32))) + (F4 x0 (8304 : Int32))) + (F4 x0 (8592 : Int32))))]) (hw _ (List.mem_of_getElem? (i := 22) rfl)) (hw _ (List.mem_of_getElem? (i := 23) rfl)) (hw _ (List.mem_of_getElem? (i := 2) rfl)) (hw _ (List.mem_of_getElem? (i := 24) rfl)) (by decide) (rm4 l Z a0 hw [] x0 (11264 : Int32) h0) rfl rfl eT (by decide) (by decide) (by decide) (by decide) (by rw [hml]; rfl) pd0 rfl rfl (Nat.le_of_ble_eq_true rfl) (hb hby d3_196) (q := 199) rfl ?_
  intro T X eT
  refine s_iadd X hx (hb hby d3_199) (q := 200) rfl ?_
  refine s_iloadN X hx (hb hby d3_200) rfl (q := 201) rfl ?_
  refine s_aloadN X hx (hb hby d3_201) rfl rfl (q := 202) rfl ?_
  refine s_bipush X hx (z := (23 : Int32)) (hb hby d3_202) rfl (q := 204) rfl ?_
  refine s_iaload X hx hZ eT A_x1 (by decide) (i := 23) rfl (x := (12272 : Int32)) rfl (hb hby d3_204) (q := 205) rfl ?_
  refine callP X hx hZ hown (W := 1) (argsL := [(.int x0), (.int (12272 : Int32))]) (rest := [(.int (((((((((((((((((((((((F4 x0 (58 : Int32)) + (F4 x0 (59 : Int32))) + (F4 x0 (65 : Int32))) + (F4 x0 (91 : Int32))) + (F4 x0 (95 : Int32))) + (F4 x0 (96 : Int32))) + (F4 x0 (97 : Int32))) + (F4 x0 (123 : Int32))) + (F4 x0 (192 : Int32))) + (F4 x0 (215 : Int32))) + (F4 x0 (216 : Int32))) + (F4 x0 (247 : Int32))) + (F4 x0 (248 : Int32))) + (F4 x0 (768 : Int32))) + (F4 x0 (880 : Int32))) + (F4 x0 (894 : Int32))) + (F4 x0 (895 : Int32))) + (F4 x0 (8192 : Int32))) + (F4 x0 (8204 : Int32))) + (F4 x0 (8206 : Int32))) + (F4 x0 (8304 : Int32))) + (F4 x0 (8592 : Int32))) + (F4 x0 (11264 : Int32))))]) (hw _ (List.mem_of_getElem? (i := 22) rfl)) (hw _ (List.mem_of_getElem? (i := 23) rfl)) (hw _ (List.mem_of_getElem? (i := 2) rfl)) (hw _ (List.mem_of_getElem? (i := 24) rfl)) (by decide) (rm4 l Z a0 hw [] x0 (12272 : Int32) h0) rfl rfl eT (by decide) (by decide) (by decide) (by decide) (by rw [hml]; rfl) pd0 rfl rfl (Nat.le_of_ble_eq_true rfl) (hb hby d3_205) (q := 208) rfl ?_
  intro T X eT
  refine s_iadd X hx (hb hby d3_208) (q := 209) rfl ?_
  refine s_iloadN X hx (hb hby d3_209) rfl (q := 210) rfl ?_
  refine s_aloadN X hx (hb hby d3_210) rfl rfl (q := 211) rfl ?_
  refine s_bipush X hx (z := (24 : Int32)) (hb hby d3_211) rfl (q := 213) rfl ?_
  refine s_iaload X hx hZ eT A_x1 (by decide) (i := 24) rfl (x := (12289 : Int32)) rfl (hb hby d3_213) (q := 214) rfl ?_
  refine callP X hx hZ hown (W := 1) (argsL := [(.int x0), (.int (12289 : Int32))]) (rest := [(.int ((((((((((((((((((((((((F4 x0 (58 : Int32)) + (F4 x0 (59 : Int32))) + (F4 x0 (65 : Int32))) + (F4 x0 (91 : Int32))) + (F4 x0 (95 : Int32))) + (F4 x0 (96 : Int32))) + (F4 x0 (97 : Int32))) + (F4 x0 (123 : Int32))) + (F4 x0 (192 : Int32))) + (F4 x0 (215 : Int32))) + (F4 x0 (216 : Int32))) + (F4 x0 (247 : Int32))) + (F4 x0 (248 : Int32))) + (F4 x0 (768 : Int32))) + (F4 x0 (880 : Int32))) + (F4 x0 (894 : Int32))) + (F4 x0 (895 : Int32))) + (F4 x0 (8192 : Int32))) + (F4 x0 (8204 : Int32))) + (F4 x0 (8206 : Int32))) + (F4 x0 (8304 : Int32))) + (F4 x0 (8592 : Int32))) + (F4 x0 (11264 : Int32))) + (F4 x0 (12272 : Int32))))]) (hw _ (List.mem_of_getElem? (i := 22) rfl)) (hw _ (List.mem_of_getElem? (i := 23) rfl)) (hw _ (List.mem_of_getElem? (i := 2) rfl)) (hw _ (List.mem_of_getElem? (i := 24) rfl)) (by decide) (rm4 l Z a0 hw [] x0 (12289 : Int32) h0) rfl rfl eT (by decide) (by decide) (by decide) (by decide) (by rw [hml]; rfl) pd0 rfl rfl (Nat.le_of_ble_eq_true rfl) (hb hby d3_214) (q := 217) rfl ?_
  intro T X eT
  refine s_iadd X hx (hb hby d3_217) (q := 218) rfl ?_
  refine s_iloadN X hx (hb hby d3_218) rfl (q := 219) rfl ?_
  refine s_aloadN X hx (hb hby d3_219) rfl rfl (q := 220) rfl ?_
  refine s_bipush X hx (z := (25 : Int32)) (hb hby d3_220) rfl (q := 222) rfl ?_
  refine s_iaload X hx hZ eT A_x1 (by decide) (i := 25) rfl (x := (55296 : Int32)) rfl (hb hby d3_222) (q := 223) rfl ?_
  refine callP X hx hZ hown (W := 1) (argsL := [(.int x0), (.int (55296 : Int32))]) (rest := [(.int (((((((((((((((((((((((((F4 x0 (58 : Int32)) + (F4 x0 (59 : Int32))) + (F4 x0 (65 : Int32))) + (F4 x0 (91 : Int32))) + (F4 x0 (95 : Int32))) + (F4 x0 (96 : Int32))) + (F4 x0 (97 : Int32))) + (F4 x0 (123 : Int32))) + (F4 x0 (192 : Int32))) + (F4 x0 (215 : Int32))) + (F4 x0 (216 : Int32))) + (F4 x0 (247 : Int32))) + (F4 x0 (248 : Int32))) + (F4 x0 (768 : Int32))) + (F4 x0 (880 : Int32))) + (F4 x0 (894 : Int32))) + (F4 x0 (895 : Int32))) + (F4 x0 (8192 : Int32))) + (F4 x0 (8204 : Int32))) + (F4 x0 (8206 : Int32))) + (F4 x0 (8304 : Int32))) + (F4 x0 (8592 : Int32))) + (F4 x0 (11264 : Int32))) + (F4 x0 (12272 : Int32))) + (F4 x0 (12289 : Int32))))]) (hw _ (List.mem_of_getElem? (i := 22) rfl)) (hw _ (List.mem_of_getElem? (i := 23) rfl)) (hw _ (List.mem_of_getElem? (i := 2) rfl)) (hw _ (List.mem_of_getElem? (i := 24) rfl)) (by decide) (rm4 l Z a0 hw [] x0 (55296 : Int32) h0) rfl rfl eT (by decide) (by decide) (by decide) (by decide) (by rw [hml]; rfl) pd0 rfl rfl (Nat.le_of_ble_eq_true rfl) (hb hby d3_223) (q := 226) rfl ?_
  intro T X eT
  refine s_iadd X hx (hb hby d3_226) (q := 227) rfl ?_
  refine s_iloadN X hx (hb hby d3_227) rfl (q := 228) rfl ?_
  refine s_aloadN X hx (hb hby d3_228) rfl rfl (q := 229) rfl ?_
  refine s_bipush X hx (z := (26 : Int32)) (hb hby d3_229) rfl (q := 231) rfl ?_
  refine s_iaload X hx hZ eT A_x1 (by decide) (i := 26) rfl (x := (63744 : Int32)) rfl (hb hby d3_231) (q := 232) rfl ?_
  refine callP X hx hZ hown (W := 1) (argsL := [(.int x0), (.int (63744 : Int32))]) (rest := [(.int ((((((((((((((((((((((((((F4 x0 (58 : Int32)) + (F4 x0 (59 : Int32))) + (F4 x0 (65 : Int32))) + (F4 x0 (91 : Int32))) + (F4 x0 (95 : Int32))) + (F4 x0 (96 : Int32))) + (F4 x0 (97 : Int32))) + (F4 x0 (123 : Int32))) + (F4 x0 (192 : Int32))) + (F4 x0 (215 : Int32))) + (F4 x0 (216 : Int32))) + (F4 x0 (247 : Int32))) + (F4 x0 (248 : Int32))) + (F4 x0 (768 : Int32))) + (F4 x0 (880 : Int32))) + (F4 x0 (894 : Int32))) + (F4 x0 (895 : Int32))) + (F4 x0 (8192 : Int32))) + (F4 x0 (8204 : Int32))) + (F4 x0 (8206 : Int32))) + (F4 x0 (8304 : Int32))) + (F4 x0 (8592 : Int32))) + (F4 x0 (11264 : Int32))) + (F4 x0 (12272 : Int32))) + (F4 x0 (12289 : Int32))) + (F4 x0 (55296 : Int32))))]) (hw _ (List.mem_of_getElem? (i := 22) rfl)) (hw _ (List.mem_of_getElem? (i := 23) rfl)) (hw _ (List.mem_of_getElem? (i := 2) rfl)) (hw _ (List.mem_of_getElem? (i := 24) rfl)) (by decide) (rm4 l Z a0 hw [] x0 (63744 : Int32) h0) rfl rfl eT (by decide) (by decide) (by decide) (by decide) (by rw [hml]; rfl) pd0 rfl rfl (Nat.le_of_ble_eq_true rfl) (hb hby d3_232) (q := 235) rfl ?_
  intro T X eT
  refine s_iadd X hx (hb hby d3_235) (q := 236) rfl ?_
  refine s_iloadN X hx (hb hby d3_236) rfl (q := 237) rfl ?_
  refine s_aloadN X hx (hb hby d3_237) rfl rfl (q := 238) rfl ?_
  refine s_bipush X hx (z := (27 : Int32)) (hb hby d3_238) rfl (q := 240) rfl ?_
  refine s_iaload X hx hZ eT A_x1 (by decide) (i := 27) rfl (x := (64976 : Int32)) rfl (hb hby d3_240) (q := 241) rfl ?_
  refine callP X hx hZ hown (W := 1) (argsL := [(.int x0), (.int (64976 : Int32))]) (rest := [(.int (((((((((((((((((((((((((((F4 x0 (58 : Int32)) + (F4 x0 (59 : Int32))) + (F4 x0 (65 : Int32))) + (F4 x0 (91 : Int32))) + (F4 x0 (95 : Int32))) + (F4 x0 (96 : Int32))) + (F4 x0 (97 : Int32))) + (F4 x0 (123 : Int32))) + (F4 x0 (192 : Int32))) + (F4 x0 (215 : Int32))) + (F4 x0 (216 : Int32))) + (F4 x0 (247 : Int32))) + (F4 x0 (248 : Int32))) + (F4 x0 (768 : Int32))) + (F4 x0 (880 : Int32))) + (F4 x0 (894 : Int32))) + (F4 x0 (895 : Int32))) + (F4 x0 (8192 : Int32))) + (F4 x0 (8204 : Int32))) + (F4 x0 (8206 : Int32))) + (F4 x0 (8304 : Int32))) + (F4 x0 (8592 : Int32))) + (F4 x0 (11264 : Int32))) + (F4 x0 (12272 : Int32))) + (F4 x0 (12289 : Int32))) + (F4 x0 (55296 : Int32))) + (F4 x0 (63744 : Int32))))]) (hw _ (List.mem_of_getElem? (i := 22) rfl)) (hw _ (List.mem_of_getElem? (i := 23) rfl)) (hw _ (List.mem_of_getElem? (i := 2) rfl)) (hw _ (List.mem_of_getElem? (i := 24) rfl)) (by decide) (rm4 l Z a0 hw [] x0 (64976 : Int32) h0) rfl rfl eT (by decide) (by decide) (by decide) (by decide) (by rw [hml]; rfl) pd0 rfl rfl (Nat.le_of_ble_eq_true rfl) (hb hby d3_241) (q := 244) rfl ?_
  intro T X eT
  refine s_iadd X hx (hb hby d3_244) (q := 245) rfl ?_
  refine s_iloadN X hx (hb hby d3_245) rfl (q := 246) rfl ?_
  refine s_aloadN X hx (hb hby d3_246) rfl rfl (q := 247) rfl ?_
  refine s_bipush X hx (z := (28 : Int32)) (hb hby d3_247) rfl (q := 249) rfl ?_
  refine s_iaload X hx hZ eT A_x1 (by decide) (i := 28) rfl (x := (65008 : Int32)) rfl (hb hby d3_249) (q := 250) rfl ?_
  refine callP X hx hZ hown (W := 1) (argsL := [(.int x0), (.int (65008 : Int32))]) (rest := [(.int ((((((((((((((((((((((((((((F4 x0 (58 : Int32)) + (F4 x0 (59 : Int32))) + (F4 x0 (65 : Int32))) + (F4 x0 (91 : Int32))) + (F4 x0 (95 : Int32))) + (F4 x0 (96 : Int32))) + (F4 x0 (97 : Int32))) + (F4 x0 (123 : Int32))) + (F4 x0 (192 : Int32))) + (F4 x0 (215 : Int32))) + (F4 x0 (216 : Int32))) + (F4 x0 (247 : Int32))) + (F4 x0 (248 : Int32))) + (F4 x0 (768 : Int32))) + (F4 x0 (880 : Int32))) + (F4 x0 (894 : Int32))) + (F4 x0 (895 : Int32))) + (F4 x0 (8192 : Int32))) + (F4 x0 (8204 : Int32))) + (F4 x0 (8206 : Int32))) + (F4 x0 (8304 : Int32))) + (F4 x0 (8592 : Int32))) + (F4 x0 (11264 : Int32))) + (F4 x0 (12272 : Int32))) + (F4 x0 (12289 : Int32))) + (F4 x0 (55296 : Int32))) + (F4 x0 (63744 : Int32))) + (F4 x0 (64976 : Int32))))]) (hw _ (List.mem_of_getElem? (i := 22) rfl)) (hw _ (List.mem_of_getElem? (i := 23) rfl)) (hw _ (List.mem_of_getElem? (i := 2) rfl)) (hw _ (List.mem_of_getElem? (i := 24) rfl)) (by decide) (rm4 l Z a0 hw [] x0 (65008 : Int32) h0) rfl rfl eT (by decide) (by decide) (by decide) (by decide) (by rw [hml]; rfl) pd0 rfl rfl (Nat.le_of_ble_eq_true rfl) (hb hby d3_250) (q := 253) rfl ?_
  intro T X eT
  refine s_iadd X hx (hb hby d3_253) (q := 254) rfl ?_
  refine s_iloadN X hx (hb hby d3_254) rfl (q := 255) rfl ?_
  refine s_aloadN X hx (hb hby d3_255) rfl rfl (q := 256) rfl ?_
  refine s_bipush X hx (z := (29 : Int32)) (hb hby d3_256) rfl (q := 258) rfl ?_
  refine s_iaload X hx hZ eT A_x1 (by decide) (i := 29) rfl (x := (65534 : Int32)) rfl (hb hby d3_258) (q := 259) rfl ?_
  refine callP X hx hZ hown (W := 1) (argsL := [(.int x0), (.int (65534 : Int32))]) (rest := [(.int (((((((((((((((((((((((((((((F4 x0 (58 : Int32)) + (F4 x0 (59 : Int32))) + (F4 x0 (65 : Int32))) + (F4 x0 (91 : Int32))) + (F4 x0 (95 : Int32))) + (F4 x0 (96 : Int32))) + (F4 x0 (97 : Int32))) + (F4 x0 (123 : Int32))) + (F4 x0 (192 : Int32))) + (F4 x0 (215 : Int32))) + (F4 x0 (216 : Int32))) + (F4 x0 (247 : Int32))) + (F4 x0 (248 : Int32))) + (F4 x0 (768 : Int32))) + (F4 x0 (880 : Int32))) + (F4 x0 (894 : Int32))) + (F4 x0 (895 : Int32))) + (F4 x0 (8192 : Int32))) + (F4 x0 (8204 : Int32))) + (F4 x0 (8206 : Int32))) + (F4 x0 (8304 : Int32))) + (F4 x0 (8592 : Int32))) + (F4 x0 (11264 : Int32))) + (F4 x0 (12272 : Int32))) + (F4 x0 (12289 : Int32))) + (F4 x0 (55296 : Int32))) + (F4 x0 (63744 : Int32))) + (F4 x0 (64976 : Int32))) + (F4 x0 (65008 : Int32))))]) (hw _ (List.mem_of_getElem? (i := 22) rfl)) (hw _ (List.mem_of_getElem? (i := 23) rfl)) (hw _ (List.mem_of_getElem? (i := 2) rfl)) (hw _ (List.mem_of_getElem? (i := 24) rfl)) (by decide) (rm4 l Z a0 hw [] x0 (65534 : Int32) h0) rfl rfl eT (by decide) (by decide) (by decide) (by decide) (by rw [hml]; rfl) pd0 rfl rfl (Nat.le_of_ble_eq_true rfl) (hb hby d3_259) (q := 262) rfl ?_
  intro T X eT
  refine s_iadd X hx (hb hby d3_262) (q := 263) rfl ?_
  refine s_iloadN X hx (hb hby d3_263) rfl (q := 264) rfl ?_
  refine s_aloadN X hx (hb hby d3_264) rfl rfl (q := 265) rfl ?_
  refine s_bipush X hx (z := (30 : Int32)) (hb hby d3_265) rfl (q := 267) rfl ?_
  refine s_iaload X hx hZ eT A_x1 (by decide) (i := 30) rfl (x := (65536 : Int32)) rfl (hb hby d3_267) (q := 268) rfl ?_
  refine callP X hx hZ hown (W := 1) (argsL := [(.int x0), (.int (65536 : Int32))]) (rest := [(.int ((((((((((((((((((((((((((((((F4 x0 (58 : Int32)) + (F4 x0 (59 : Int32))) + (F4 x0 (65 : Int32))) + (F4 x0 (91 : Int32))) + (F4 x0 (95 : Int32))) + (F4 x0 (96 : Int32))) + (F4 x0 (97 : Int32))) + (F4 x0 (123 : Int32))) + (F4 x0 (192 : Int32))) + (F4 x0 (215 : Int32))) + (F4 x0 (216 : Int32))) + (F4 x0 (247 : Int32))) + (F4 x0 (248 : Int32))) + (F4 x0 (768 : Int32))) + (F4 x0 (880 : Int32))) + (F4 x0 (894 : Int32))) + (F4 x0 (895 : Int32))) + (F4 x0 (8192 : Int32))) + (F4 x0 (8204 : Int32))) + (F4 x0 (8206 : Int32))) + (F4 x0 (8304 : Int32))) + (F4 x0 (8592 : Int32))) + (F4 x0 (11264 : Int32))) + (F4 x0 (12272 : Int32))) + (F4 x0 (12289 : Int32))) + (F4 x0 (55296 : Int32))) + (F4 x0 (63744 : Int32))) + (F4 x0 (64976 : Int32))) + (F4 x0 (65008 : Int32))) + (F4 x0 (65534 : Int32))))]) (hw _ (List.mem_of_getElem? (i := 22) rfl)) (hw _ (List.mem_of_getElem? (i := 23) rfl)) (hw _ (List.mem_of_getElem? (i := 2) rfl)) (hw _ (List.mem_of_getElem? (i := 24) rfl)) (by decide) (rm4 l Z a0 hw [] x0 (65536 : Int32) h0) rfl rfl eT (by decide) (by decide) (by decide) (by decide) (by rw [hml]; rfl) pd0 rfl rfl (Nat.le_of_ble_eq_true rfl) (hb hby d3_268) (q := 271) rfl ?_
  intro T X eT
  refine s_iadd X hx (hb hby d3_271) (q := 272) rfl ?_
  refine s_iloadN X hx (hb hby d3_272) rfl (q := 273) rfl ?_
  refine s_aloadN X hx (hb hby d3_273) rfl rfl (q := 274) rfl ?_
  refine s_bipush X hx (z := (31 : Int32)) (hb hby d3_274) rfl (q := 276) rfl ?_
  refine s_iaload X hx hZ eT A_x1 (by decide) (i := 31) rfl (x := (983040 : Int32)) rfl (hb hby d3_276) (q := 277) rfl ?_
  refine callP X hx hZ hown (W := 1) (argsL := [(.int x0), (.int (983040 : Int32))]) (rest := [(.int (((((((((((((((((((((((((((((((F4 x0 (58 : Int32)) + (F4 x0 (59 : Int32))) + (F4 x0 (65 : Int32))) + (F4 x0 (91 : Int32))) + (F4 x0 (95 : Int32))) + (F4 x0 (96 : Int32))) + (F4 x0 (97 : Int32))) + (F4 x0 (123 : Int32))) + (F4 x0 (192 : Int32))) + (F4 x0 (215 : Int32))) + (F4 x0 (216 : Int32))) + (F4 x0 (247 : Int32))) + (F4 x0 (248 : Int32))) + (F4 x0 (768 : Int32))) + (F4 x0 (880 : Int32))) + (F4 x0 (894 : Int32))) + (F4 x0 (895 : Int32))) + (F4 x0 (8192 : Int32))) + (F4 x0 (8204 : Int32))) + (F4 x0 (8206 : Int32))) + (F4 x0 (8304 : Int32))) + (F4 x0 (8592 : Int32))) + (F4 x0 (11264 : Int32))) + (F4 x0 (12272 : Int32))) + (F4 x0 (12289 : Int32))) + (F4 x0 (55296 : Int32))) + (F4 x0 (63744 : Int32))) + (F4 x0 (64976 : Int32))) + (F4 x0 (65008 : Int32))) + (F4 x0 (65534 : Int32))) + (F4 x0 (65536 : Int32))))]) (hw _ (List.mem_of_getElem? (i := 22) rfl)) (hw _ (List.mem_of_getElem? (i := 23) rfl)) (hw _ (List.mem_of_getElem? (i := 2) rfl)) (hw _ (List.mem_of_getElem? (i := 24) rfl)) (by decide) (rm4 l Z a0 hw [] x0 (983040 : Int32) h0) rfl rfl eT (by decide) (by decide) (by decide) (by decide) (by rw [hml]; rfl) pd0 rfl rfl (Nat.le_of_ble_eq_true rfl) (hb hby d3_277) (q := 280) rfl ?_
  intro T X eT
  refine s_iadd X hx (hb hby d3_280) (q := 281) rfl ?_
  refine s_istoreN X hx (hb hby d3_281) (L' := #[.val (.int x0), .val (.ref x1), .val (.int ((((((((((((((((((((((((((((((((F4 x0 (58 : Int32)) + (F4 x0 (59 : Int32))) + (F4 x0 (65 : Int32))) + (F4 x0 (91 : Int32))) + (F4 x0 (95 : Int32))) + (F4 x0 (96 : Int32))) + (F4 x0 (97 : Int32))) + (F4 x0 (123 : Int32))) + (F4 x0 (192 : Int32))) + (F4 x0 (215 : Int32))) + (F4 x0 (216 : Int32))) + (F4 x0 (247 : Int32))) + (F4 x0 (248 : Int32))) + (F4 x0 (768 : Int32))) + (F4 x0 (880 : Int32))) + (F4 x0 (894 : Int32))) + (F4 x0 (895 : Int32))) + (F4 x0 (8192 : Int32))) + (F4 x0 (8204 : Int32))) + (F4 x0 (8206 : Int32))) + (F4 x0 (8304 : Int32))) + (F4 x0 (8592 : Int32))) + (F4 x0 (11264 : Int32))) + (F4 x0 (12272 : Int32))) + (F4 x0 (12289 : Int32))) + (F4 x0 (55296 : Int32))) + (F4 x0 (63744 : Int32))) + (F4 x0 (64976 : Int32))) + (F4 x0 (65008 : Int32))) + (F4 x0 (65534 : Int32))) + (F4 x0 (65536 : Int32))) + (F4 x0 (983040 : Int32))))]) rfl (q := 282) rfl ?_
  refine s_iloadN X hx (hb hby d3_282) rfl (q := 283) rfl ?_
  refine s_iconst X hx (z := (1 : Int32)) (hb hby d3_283) rfl (q := 284) rfl ?_
  refine s_iand X hx (hb hby d3_284) (q := 285) rfl ?_
  refine s_iconst X hx (z := (1 : Int32)) (hb hby d3_285) rfl (q := 286) rfl ?_
  refine f_icmp_ne X hx (hb hby d3_286) (q1 := 293) (by decide) (by decide) (q := 289) rfl (fun hc286 => ?_) (fun hc286 => ?_)
  · refine s_iconst X hx (z := (0 : Int32)) (hb hby d3_293) rfl (q := 294) rfl ?_
    exact leafN X hx hlk hret (by simp) (hb hby d3_294) (Nat.le_refl _) (Nat.le_refl _) (z' := (0 : Int32)) rfl ⟨congrArg (fun z => some (Value.int z)) (hres.trans (by unfold F3; rw [if_neg hc286])).symm, eT, rfl⟩
  refine s_iconst X hx (z := (1 : Int32)) (hb hby d3_289) rfl (q := 290) rfl ?_
  refine s_goto X hx (hb hby d3_290) (q1 := 294) (by decide) (by decide) ?_
  exact leafN X hx hlk hret (by simp) (hb hby d3_294) (Nat.le_refl _) (Nat.le_refl _) (z' := (1 : Int32)) rfl ⟨congrArg (fun z => some (Value.int z)) (hres.trans (by unfold F3; rw [if_pos hc286])).symm, eT, rfl⟩
theorem d1_0 : decode method_2_code 0 = .ok (.bipush 32, 2) := by decide +kernel
theorem d1_2 : decode method_2_code 2 = .ok (.newarray .int, 2) := by decide +kernel
theorem d1_4 : decode method_2_code 4 = .ok (.dup, 1) := by decide +kernel
theorem d1_5 : decode method_2_code 5 = .ok (.iconst 0, 1) := by decide +kernel
theorem d1_6 : decode method_2_code 6 = .ok (.bipush 58, 2) := by decide +kernel
theorem d1_8 : decode method_2_code 8 = .ok (.iastore, 1) := by decide +kernel
theorem d1_9 : decode method_2_code 9 = .ok (.dup, 1) := by decide +kernel
theorem d1_10 : decode method_2_code 10 = .ok (.iconst 1, 1) := by decide +kernel
theorem d1_11 : decode method_2_code 11 = .ok (.bipush 59, 2) := by decide +kernel
theorem d1_13 : decode method_2_code 13 = .ok (.iastore, 1) := by decide +kernel
theorem d1_14 : decode method_2_code 14 = .ok (.dup, 1) := by decide +kernel
theorem d1_15 : decode method_2_code 15 = .ok (.iconst 2, 1) := by decide +kernel
theorem d1_16 : decode method_2_code 16 = .ok (.bipush 65, 2) := by decide +kernel
theorem d1_18 : decode method_2_code 18 = .ok (.iastore, 1) := by decide +kernel
theorem d1_19 : decode method_2_code 19 = .ok (.dup, 1) := by decide +kernel
theorem d1_20 : decode method_2_code 20 = .ok (.iconst 3, 1) := by decide +kernel
theorem d1_21 : decode method_2_code 21 = .ok (.bipush 91, 2) := by decide +kernel
theorem d1_23 : decode method_2_code 23 = .ok (.iastore, 1) := by decide +kernel
theorem d1_24 : decode method_2_code 24 = .ok (.dup, 1) := by decide +kernel
theorem d1_25 : decode method_2_code 25 = .ok (.iconst 4, 1) := by decide +kernel
theorem d1_26 : decode method_2_code 26 = .ok (.bipush 95, 2) := by decide +kernel
theorem d1_28 : decode method_2_code 28 = .ok (.iastore, 1) := by decide +kernel
theorem d1_29 : decode method_2_code 29 = .ok (.dup, 1) := by decide +kernel
theorem d1_30 : decode method_2_code 30 = .ok (.iconst 5, 1) := by decide +kernel
theorem d1_31 : decode method_2_code 31 = .ok (.bipush 96, 2) := by decide +kernel
theorem d1_33 : decode method_2_code 33 = .ok (.iastore, 1) := by decide +kernel
theorem d1_34 : decode method_2_code 34 = .ok (.dup, 1) := by decide +kernel
theorem d1_35 : decode method_2_code 35 = .ok (.bipush 6, 2) := by decide +kernel
theorem d1_37 : decode method_2_code 37 = .ok (.bipush 97, 2) := by decide +kernel
theorem d1_39 : decode method_2_code 39 = .ok (.iastore, 1) := by decide +kernel
theorem d1_40 : decode method_2_code 40 = .ok (.dup, 1) := by decide +kernel
theorem d1_41 : decode method_2_code 41 = .ok (.bipush 7, 2) := by decide +kernel
theorem d1_43 : decode method_2_code 43 = .ok (.bipush 123, 2) := by decide +kernel
theorem d1_45 : decode method_2_code 45 = .ok (.iastore, 1) := by decide +kernel
theorem d1_46 : decode method_2_code 46 = .ok (.dup, 1) := by decide +kernel
theorem d1_47 : decode method_2_code 47 = .ok (.bipush 8, 2) := by decide +kernel
theorem d1_49 : decode method_2_code 49 = .ok (.sipush 192, 3) := by decide +kernel
theorem d1_52 : decode method_2_code 52 = .ok (.iastore, 1) := by decide +kernel
theorem d1_53 : decode method_2_code 53 = .ok (.dup, 1) := by decide +kernel
theorem d1_54 : decode method_2_code 54 = .ok (.bipush 9, 2) := by decide +kernel
theorem d1_56 : decode method_2_code 56 = .ok (.sipush 215, 3) := by decide +kernel
theorem d1_59 : decode method_2_code 59 = .ok (.iastore, 1) := by decide +kernel
theorem d1_60 : decode method_2_code 60 = .ok (.dup, 1) := by decide +kernel
theorem d1_61 : decode method_2_code 61 = .ok (.bipush 10, 2) := by decide +kernel
theorem d1_63 : decode method_2_code 63 = .ok (.sipush 216, 3) := by decide +kernel
theorem d1_66 : decode method_2_code 66 = .ok (.iastore, 1) := by decide +kernel
theorem d1_67 : decode method_2_code 67 = .ok (.dup, 1) := by decide +kernel
theorem d1_68 : decode method_2_code 68 = .ok (.bipush 11, 2) := by decide +kernel
theorem d1_70 : decode method_2_code 70 = .ok (.sipush 247, 3) := by decide +kernel
theorem d1_73 : decode method_2_code 73 = .ok (.iastore, 1) := by decide +kernel
theorem d1_74 : decode method_2_code 74 = .ok (.dup, 1) := by decide +kernel
theorem d1_75 : decode method_2_code 75 = .ok (.bipush 12, 2) := by decide +kernel
theorem d1_77 : decode method_2_code 77 = .ok (.sipush 248, 3) := by decide +kernel
theorem d1_80 : decode method_2_code 80 = .ok (.iastore, 1) := by decide +kernel
theorem d1_81 : decode method_2_code 81 = .ok (.dup, 1) := by decide +kernel
theorem d1_82 : decode method_2_code 82 = .ok (.bipush 13, 2) := by decide +kernel
theorem d1_84 : decode method_2_code 84 = .ok (.sipush 768, 3) := by decide +kernel
theorem d1_87 : decode method_2_code 87 = .ok (.iastore, 1) := by decide +kernel
theorem d1_88 : decode method_2_code 88 = .ok (.dup, 1) := by decide +kernel
theorem d1_89 : decode method_2_code 89 = .ok (.bipush 14, 2) := by decide +kernel
theorem d1_91 : decode method_2_code 91 = .ok (.sipush 880, 3) := by decide +kernel
theorem d1_94 : decode method_2_code 94 = .ok (.iastore, 1) := by decide +kernel
theorem d1_95 : decode method_2_code 95 = .ok (.dup, 1) := by decide +kernel
theorem d1_96 : decode method_2_code 96 = .ok (.bipush 15, 2) := by decide +kernel
theorem d1_98 : decode method_2_code 98 = .ok (.sipush 894, 3) := by decide +kernel
theorem d1_101 : decode method_2_code 101 = .ok (.iastore, 1) := by decide +kernel
theorem d1_102 : decode method_2_code 102 = .ok (.dup, 1) := by decide +kernel
theorem d1_103 : decode method_2_code 103 = .ok (.bipush 16, 2) := by decide +kernel
theorem d1_105 : decode method_2_code 105 = .ok (.sipush 895, 3) := by decide +kernel
theorem d1_108 : decode method_2_code 108 = .ok (.iastore, 1) := by decide +kernel
theorem d1_109 : decode method_2_code 109 = .ok (.dup, 1) := by decide +kernel
theorem d1_110 : decode method_2_code 110 = .ok (.bipush 17, 2) := by decide +kernel
theorem d1_112 : decode method_2_code 112 = .ok (.sipush 8192, 3) := by decide +kernel
theorem d1_115 : decode method_2_code 115 = .ok (.iastore, 1) := by decide +kernel
theorem d1_116 : decode method_2_code 116 = .ok (.dup, 1) := by decide +kernel
theorem d1_117 : decode method_2_code 117 = .ok (.bipush 18, 2) := by decide +kernel
theorem d1_119 : decode method_2_code 119 = .ok (.sipush 8204, 3) := by decide +kernel
theorem d1_122 : decode method_2_code 122 = .ok (.iastore, 1) := by decide +kernel
theorem d1_123 : decode method_2_code 123 = .ok (.dup, 1) := by decide +kernel
theorem d1_124 : decode method_2_code 124 = .ok (.bipush 19, 2) := by decide +kernel
theorem d1_126 : decode method_2_code 126 = .ok (.sipush 8206, 3) := by decide +kernel
theorem d1_129 : decode method_2_code 129 = .ok (.iastore, 1) := by decide +kernel
theorem d1_130 : decode method_2_code 130 = .ok (.dup, 1) := by decide +kernel
theorem d1_131 : decode method_2_code 131 = .ok (.bipush 20, 2) := by decide +kernel
theorem d1_133 : decode method_2_code 133 = .ok (.sipush 8304, 3) := by decide +kernel
theorem d1_136 : decode method_2_code 136 = .ok (.iastore, 1) := by decide +kernel
theorem d1_137 : decode method_2_code 137 = .ok (.dup, 1) := by decide +kernel
theorem d1_138 : decode method_2_code 138 = .ok (.bipush 21, 2) := by decide +kernel
theorem d1_140 : decode method_2_code 140 = .ok (.sipush 8592, 3) := by decide +kernel
theorem d1_143 : decode method_2_code 143 = .ok (.iastore, 1) := by decide +kernel
theorem d1_144 : decode method_2_code 144 = .ok (.dup, 1) := by decide +kernel
theorem d1_145 : decode method_2_code 145 = .ok (.bipush 22, 2) := by decide +kernel
theorem d1_147 : decode method_2_code 147 = .ok (.sipush 11264, 3) := by decide +kernel
theorem d1_150 : decode method_2_code 150 = .ok (.iastore, 1) := by decide +kernel
theorem d1_151 : decode method_2_code 151 = .ok (.dup, 1) := by decide +kernel
theorem d1_152 : decode method_2_code 152 = .ok (.bipush 23, 2) := by decide +kernel
theorem d1_154 : decode method_2_code 154 = .ok (.sipush 12272, 3) := by decide +kernel
theorem d1_157 : decode method_2_code 157 = .ok (.iastore, 1) := by decide +kernel
theorem d1_158 : decode method_2_code 158 = .ok (.dup, 1) := by decide +kernel
theorem d1_159 : decode method_2_code 159 = .ok (.bipush 24, 2) := by decide +kernel
theorem d1_161 : decode method_2_code 161 = .ok (.sipush 12289, 3) := by decide +kernel
theorem d1_164 : decode method_2_code 164 = .ok (.iastore, 1) := by decide +kernel
theorem d1_165 : decode method_2_code 165 = .ok (.dup, 1) := by decide +kernel
theorem d1_166 : decode method_2_code 166 = .ok (.bipush 25, 2) := by decide +kernel
theorem d1_168 : decode method_2_code 168 = .ok (.ldc 7, 2) := by decide +kernel
theorem d1_170 : decode method_2_code 170 = .ok (.iastore, 1) := by decide +kernel
theorem d1_171 : decode method_2_code 171 = .ok (.dup, 1) := by decide +kernel
theorem d1_172 : decode method_2_code 172 = .ok (.bipush 26, 2) := by decide +kernel
theorem d1_174 : decode method_2_code 174 = .ok (.ldc 8, 2) := by decide +kernel
theorem d1_176 : decode method_2_code 176 = .ok (.iastore, 1) := by decide +kernel
theorem d1_177 : decode method_2_code 177 = .ok (.dup, 1) := by decide +kernel
theorem d1_178 : decode method_2_code 178 = .ok (.bipush 27, 2) := by decide +kernel
theorem d1_180 : decode method_2_code 180 = .ok (.ldc 9, 2) := by decide +kernel
theorem d1_182 : decode method_2_code 182 = .ok (.iastore, 1) := by decide +kernel
theorem d1_183 : decode method_2_code 183 = .ok (.dup, 1) := by decide +kernel
theorem d1_184 : decode method_2_code 184 = .ok (.bipush 28, 2) := by decide +kernel
theorem d1_186 : decode method_2_code 186 = .ok (.ldc 10, 2) := by decide +kernel
theorem d1_188 : decode method_2_code 188 = .ok (.iastore, 1) := by decide +kernel
theorem d1_189 : decode method_2_code 189 = .ok (.dup, 1) := by decide +kernel
theorem d1_190 : decode method_2_code 190 = .ok (.bipush 29, 2) := by decide +kernel
theorem d1_192 : decode method_2_code 192 = .ok (.ldc 11, 2) := by decide +kernel
theorem d1_194 : decode method_2_code 194 = .ok (.iastore, 1) := by decide +kernel
theorem d1_195 : decode method_2_code 195 = .ok (.dup, 1) := by decide +kernel
theorem d1_196 : decode method_2_code 196 = .ok (.bipush 30, 2) := by decide +kernel
theorem d1_198 : decode method_2_code 198 = .ok (.ldc 12, 2) := by decide +kernel
theorem d1_200 : decode method_2_code 200 = .ok (.iastore, 1) := by decide +kernel
theorem d1_201 : decode method_2_code 201 = .ok (.dup, 1) := by decide +kernel
theorem d1_202 : decode method_2_code 202 = .ok (.bipush 31, 2) := by decide +kernel
theorem d1_204 : decode method_2_code 204 = .ok (.ldc 13, 2) := by decide +kernel
theorem d1_206 : decode method_2_code 206 = .ok (.iastore, 1) := by decide +kernel
theorem d1_207 : decode method_2_code 207 = .ok (.areturn, 1) := by decide +kernel
theorem pn_1 : plainFor (⟨"com/example/mass_terms/massterms/check/XmlNamesIsNameStartPinLaw", "bounds", "()[I"⟩ : MethodName) = true := plainFor_of_name (by first | (simp [plainName, overriddenIn]; done) | decide +kernel)
theorem ef_1 (m : MethodId)  : entryFrame m #[] 0 = mkF m 0 #[] [] := by first | (simp [entryFrame, mkF, argsToLocals, Value.category]; done) | rfl
set_option maxRecDepth 65536 in
set_option maxHeartbeats 40000000 in
theorem rm1 (l : Launch) (Z : State) (a0 : Array Value) (hw : ∀ d ∈ tables_1, d.before a0 Z = true) (ws : List Jvm.Cond)   (h0 : Heap) (n0 : Nat) (sz : n0 ≤ h0.size) :
    Ctr l (⟨"com/example/mass_terms/massterms/check/XmlNamesIsNameStartPinLaw", "bounds", "()[I"⟩ : MethodName) method_2_code 0 (some (.array .int)) ws ({ frames := 0, cells := 1, slots := 32, locals := 0 } : Room) Z #[] h0 (fun v h L => ∃ a, v = some (.ref a) ∧ Fr n0 L ∧ AI Z h a .int [(58 : Int32), (59 : Int32), (65 : Int32), (91 : Int32), (95 : Int32), (96 : Int32), (97 : Int32), (123 : Int32), (192 : Int32), (215 : Int32), (216 : Int32), (247 : Int32), (248 : Int32), (768 : Int32), (880 : Int32), (894 : Int32), (895 : Int32), (8192 : Int32), (8204 : Int32), (8206 : Int32), (8304 : Int32), (8592 : Int32), (11264 : Int32), (12272 : Int32), (12289 : Int32), (55296 : Int32), (63744 : Int32), (64976 : Int32), (65008 : Int32), (65534 : Int32), (65536 : Int32), (983040 : Int32)]) 1 32 := by
  refine Ctr.mk pn_1 ?_
  intro p e s m below meth c T hx hby hml hown hnm hlk hret hZ X eT
  have N := Fr.nil n0
  refine enter (ef_1 m ) ?_
  refine s_bipush X hx (z := (32 : Int32)) (hb hby d1_0) rfl (q := 2) rfl ?_
  refine s_newI X hx hZ (hw _ (List.mem_of_getElem? (i := 4) rfl)) eT (by decide) (cap := 32) (by decide) (by decide) (by decide) (by decide) (ys := [0, 0, 0, 0, 0, 0, 0, 0, 0, 0, 0, 0, 0, 0, 0, 0, 0, 0, 0, 0, 0, 0, 0, 0, 0, 0, 0, 0, 0, 0, 0, 0]) rfl (hb hby d1_2) (q := 4) rfl ?_
  intro T h2 a1 X eT E ea A_a1
  have g_a1 : n0 ≤ a1 := by rw [ea]; exact sz
  have sz : n0 ≤ h2.size := Nat.le_trans sz E.1
  refine s_dup X hx (hb hby d1_4) rfl (q := 5) rfl ?_
  refine s_iconst X hx (z := (0 : Int32)) (hb hby d1_5) rfl (q := 6) rfl ?_
  refine s_bipush X hx (z := (58 : Int32)) (hb hby d1_6) rfl (q := 8) rfl ?_
  refine s_iastore X hx hZ eT A_a1 N g_a1 (by decide) (i := 0) rfl (Nat.le_of_ble_eq_true rfl) (ys := [(58 : Int32), 0, 0, 0, 0, 0, 0, 0, 0, 0, 0, 0, 0, 0, 0, 0, 0, 0, 0, 0, 0, 0, 0, 0, 0, 0, 0, 0, 0, 0, 0, 0]) rfl (hb hby d1_8) (q := 9) rfl ?_
  intro T h3 _ X N eT W A_a1'
  have sz : n0 ≤ h3.size := by rw [W.size]; exact sz
  have A_a1 := A_a1'
  refine s_dup X hx (hb hby d1_9) rfl (q := 10) rfl ?_
  refine s_iconst X hx (z := (1 : Int32)) (hb hby d1_10) rfl (q := 11) rfl ?_
  refine s_bipush X hx (z := (59 : Int32)) (hb hby d1_11) rfl (q := 13) rfl ?_
  refine s_iastore X hx hZ eT A_a1 N g_a1 (by decide) (i := 1) rfl (Nat.le_of_ble_eq_true rfl) (ys := [(58 : Int32), (59 : Int32), 0, 0, 0, 0, 0, 0, 0, 0, 0, 0, 0, 0, 0, 0, 0, 0, 0, 0, 0, 0, 0, 0, 0, 0, 0, 0, 0, 0, 0, 0]) rfl (hb hby d1_13) (q := 14) rfl ?_
  intro T h4 _ X N eT W A_a1'
  have sz : n0 ≤ h4.size := by rw [W.size]; exact sz
  have A_a1 := A_a1'
  refine s_dup X hx (hb hby d1_14) rfl (q := 15) rfl ?_
  refine s_iconst X hx (z := (2 : Int32)) (hb hby d1_15) rfl (q := 16) rfl ?_
  refine s_bipush X hx (z := (65 : Int32)) (hb hby d1_16) rfl (q := 18) rfl ?_
  refine s_iastore X hx hZ eT A_a1 N g_a1 (by decide) (i := 2) rfl (Nat.le_of_ble_eq_true rfl) (ys := [(58 : Int32), (59 : Int32), (65 : Int32), 0, 0, 0, 0, 0, 0, 0, 0, 0, 0, 0, 0, 0, 0, 0, 0, 0, 0, 0, 0, 0, 0, 0, 0, 0, 0, 0, 0, 0]) rfl (hb hby d1_18) (q := 19) rfl ?_
  intro T h5 _ X N eT W A_a1'
  have sz : n0 ≤ h5.size := by rw [W.size]; exact sz
  have A_a1 := A_a1'
  refine s_dup X hx (hb hby d1_19) rfl (q := 20) rfl ?_
  refine s_iconst X hx (z := (3 : Int32)) (hb hby d1_20) rfl (q := 21) rfl ?_
  refine s_bipush X hx (z := (91 : Int32)) (hb hby d1_21) rfl (q := 23) rfl ?_
  refine s_iastore X hx hZ eT A_a1 N g_a1 (by decide) (i := 3) rfl (Nat.le_of_ble_eq_true rfl) (ys := [(58 : Int32), (59 : Int32), (65 : Int32), (91 : Int32), 0, 0, 0, 0, 0, 0, 0, 0, 0, 0, 0, 0, 0, 0, 0, 0, 0, 0, 0, 0, 0, 0, 0, 0, 0, 0, 0, 0]) rfl (hb hby d1_23) (q := 24) rfl ?_
  intro T h6 _ X N eT W A_a1'
  have sz : n0 ≤ h6.size := by rw [W.size]; exact sz
  have A_a1 := A_a1'
  refine s_dup X hx (hb hby d1_24) rfl (q := 25) rfl ?_
  refine s_iconst X hx (z := (4 : Int32)) (hb hby d1_25) rfl (q := 26) rfl ?_
  refine s_bipush X hx (z := (95 : Int32)) (hb hby d1_26) rfl (q := 28) rfl ?_
  refine s_iastore X hx hZ eT A_a1 N g_a1 (by decide) (i := 4) rfl (Nat.le_of_ble_eq_true rfl) (ys := [(58 : Int32), (59 : Int32), (65 : Int32), (91 : Int32), (95 : Int32), 0, 0, 0, 0, 0, 0, 0, 0, 0, 0, 0, 0, 0, 0, 0, 0, 0, 0, 0, 0, 0, 0, 0, 0, 0, 0, 0]) rfl (hb hby d1_28) (q := 29) rfl ?_
  intro T h7 _ X N eT W A_a1'
  have sz : n0 ≤ h7.size := by rw [W.size]; exact sz
  have A_a1 := A_a1'
  refine s_dup X hx (hb hby d1_29) rfl (q := 30) rfl ?_
  refine s_iconst X hx (z := (5 : Int32)) (hb hby d1_30) rfl (q := 31) rfl ?_
  refine s_bipush X hx (z := (96 : Int32)) (hb hby d1_31) rfl (q := 33) rfl ?_
  refine s_iastore X hx hZ eT A_a1 N g_a1 (by decide) (i := 5) rfl (Nat.le_of_ble_eq_true rfl) (ys := [(58 : Int32), (59 : Int32), (65 : Int32), (91 : Int32), (95 : Int32), (96 : Int32), 0, 0, 0, 0, 0, 0, 0, 0, 0, 0, 0, 0, 0, 0, 0, 0, 0, 0, 0, 0, 0, 0, 0, 0, 0, 0]) rfl (hb hby d1_33) (q := 34) rfl ?_
  intro T h8 _ X N eT W A_a1'
  have sz : n0 ≤ h8.size := by rw [W.size]; exact sz
  have A_a1 := A_a1'
  refine s_dup X hx (hb hby d1_34) rfl (q := 35) rfl ?_
  refine s_bipush X hx (z := (6 : Int32)) (hb hby d1_35) rfl (q := 37) rfl ?_
  refine s_bipush X hx (z := (97 : Int32)) (hb hby d1_37) rfl (q := 39) rfl ?_
  refine s_iastore X hx hZ eT A_a1 N g_a1 (by decide) (i := 6) rfl (Nat.le_of_ble_eq_true rfl) (ys := [(58 : Int32), (59 : Int32), (65 : Int32), (91 : Int32), (95 : Int32), (96 : Int32), (97 : Int32), 0, 0, 0, 0, 0, 0, 0, 0, 0, 0, 0, 0, 0, 0, 0, 0, 0, 0, 0, 0, 0, 0, 0, 0, 0]) rfl (hb hby d1_39) (q := 40) rfl ?_
  intro T h9 _ X N eT W A_a1'
  have sz : n0 ≤ h9.size := by rw [W.size]; exact sz
  have A_a1 := A_a1'
  refine s_dup X hx (hb hby d1_40) rfl (q := 41) rfl ?_
  refine s_bipush X hx (z := (7 : Int32)) (hb hby d1_41) rfl (q := 43) rfl ?_
  refine s_bipush X hx (z := (123 : Int32)) (hb hby d1_43) rfl (q := 45) rfl ?_
  refine s_iastore X hx hZ eT A_a1 N g_a1 (by decide) (i := 7) rfl (Nat.le_of_ble_eq_true rfl) (ys := [(58 : Int32), (59 : Int32), (65 : Int32), (91 : Int32), (95 : Int32), (96 : Int32), (97 : Int32), (123 : Int32), 0, 0, 0, 0, 0, 0, 0, 0, 0, 0, 0, 0, 0, 0, 0, 0, 0, 0, 0, 0, 0, 0, 0, 0]) rfl (hb hby d1_45) (q := 46) rfl ?_
  intro T h10 _ X N eT W A_a1'
  have sz : n0 ≤ h10.size := by rw [W.size]; exact sz
  have A_a1 := A_a1'
  refine s_dup X hx (hb hby d1_46) rfl (q := 47) rfl ?_
  refine s_bipush X hx (z := (8 : Int32)) (hb hby d1_47) rfl (q := 49) rfl ?_
  refine s_sipush X hx (z := (192 : Int32)) (hb hby d1_49) rfl (q := 52) rfl ?_
  refine s_iastore X hx hZ eT A_a1 N g_a1 (by decide) (i := 8) rfl (Nat.le_of_ble_eq_true rfl) (ys := [(58 : Int32), (59 : Int32), (65 : Int32), (91 : Int32), (95 : Int32), (96 : Int32), (97 : Int32), (123 : Int32), (192 : Int32), 0, 0, 0, 0, 0, 0, 0, 0, 0, 0, 0, 0, 0, 0, 0, 0, 0, 0, 0, 0, 0, 0, 0]) rfl (hb hby d1_52) (q := 53) rfl ?_
  intro T h11 _ X N eT W A_a1'
  have sz : n0 ≤ h11.size := by rw [W.size]; exact sz
  have A_a1 := A_a1'
  refine s_dup X hx (hb hby d1_53) rfl (q := 54) rfl ?_
  refine s_bipush X hx (z := (9 : Int32)) (hb hby d1_54) rfl (q := 56) rfl ?_
  refine s_sipush X hx (z := (215 : Int32)) (hb hby d1_56) rfl (q := 59) rfl ?_
  refine s_iastore X hx hZ eT A_a1 N g_a1 (by decide) (i := 9) rfl (Nat.le_of_ble_eq_true rfl) (ys := [(58 : Int32), (59 : Int32), (65 : Int32), (91 : Int32), (95 : Int32), (96 : Int32), (97 : Int32), (123 : Int32), (192 : Int32), (215 : Int32), 0, 0, 0, 0, 0, 0, 0, 0, 0, 0, 0, 0, 0, 0, 0, 0, 0, 0, 0, 0, 0, 0]) rfl (hb hby d1_59) (q := 60) rfl ?_
  intro T h12 _ X N eT W A_a1'
  have sz : n0 ≤ h12.size := by rw [W.size]; exact sz
  have A_a1 := A_a1'
  refine s_dup X hx (hb hby d1_60) rfl (q := 61) rfl ?_
  refine s_bipush X hx (z := (10 : Int32)) (hb hby d1_61) rfl (q := 63) rfl ?_
  refine s_sipush X hx (z := (216 : Int32)) (hb hby d1_63) rfl (q := 66) rfl ?_
  refine s_iastore X hx hZ eT A_a1 N g_a1 (by decide) (i := 10) rfl (Nat.le_of_ble_eq_true rfl) (ys := [(58 : Int32), (59 : Int32), (65 : Int32), (91 : Int32), (95 : Int32), (96 : Int32), (97 : Int32), (123 : Int32), (192 : Int32), (215 : Int32), (216 : Int32), 0, 0, 0, 0, 0, 0, 0, 0, 0, 0, 0, 0, 0, 0, 0, 0, 0, 0, 0, 0, 0]) rfl (hb hby d1_66) (q := 67) rfl ?_
  intro T h13 _ X N eT W A_a1'
  have sz : n0 ≤ h13.size := by rw [W.size]; exact sz
  have A_a1 := A_a1'
  refine s_dup X hx (hb hby d1_67) rfl (q := 68) rfl ?_
  refine s_bipush X hx (z := (11 : Int32)) (hb hby d1_68) rfl (q := 70) rfl ?_
  refine s_sipush X hx (z := (247 : Int32)) (hb hby d1_70) rfl (q := 73) rfl ?_
  refine s_iastore X hx hZ eT A_a1 N g_a1 (by decide) (i := 11) rfl (Nat.le_of_ble_eq_true rfl) (ys := [(58 : Int32), (59 : Int32), (65 : Int32), (91 : Int32), (95 : Int32), (96 : Int32), (97 : Int32), (123 : Int32), (192 : Int32), (215 : Int32), (216 : Int32), (247 : Int32), 0, 0, 0, 0, 0, 0, 0, 0, 0, 0, 0, 0, 0, 0, 0, 0, 0, 0, 0, 0]) rfl (hb hby d1_73) (q := 74) rfl ?_
  intro T h14 _ X N eT W A_a1'
  have sz : n0 ≤ h14.size := by rw [W.size]; exact sz
  have A_a1 := A_a1'
  refine s_dup X hx (hb hby d1_74) rfl (q := 75) rfl ?_
  refine s_bipush X hx (z := (12 : Int32)) (hb hby d1_75) rfl (q := 77) rfl ?_
  refine s_sipush X hx (z := (248 : Int32)) (hb hby d1_77) rfl (q := 80) rfl ?_
  refine s_iastore X hx hZ eT A_a1 N g_a1 (by decide) (i := 12) rfl (Nat.le_of_ble_eq_true rfl) (ys := [(58 : Int32), (59 : Int32), (65 : Int32), (91 : Int32), (95 : Int32), (96 : Int32), (97 : Int32), (123 : Int32), (192 : Int32), (215 : Int32), (216 : Int32), (247 : Int32), (248 : Int32), 0, 0, 0, 0, 0, 0, 0, 0, 0, 0, 0, 0, 0, 0, 0, 0, 0, 0, 0]) rfl (hb hby d1_80) (q := 81) rfl ?_
  intro T h15 _ X N eT W A_a1'
  have sz : n0 ≤ h15.size := by rw [W.size]; exact sz
  have A_a1 := A_a1'
  refine s_dup X hx (hb hby d1_81) rfl (q := 82) rfl ?_
  refine s_bipush X hx (z := (13 : Int32)) (hb hby d1_82) rfl (q := 84) rfl ?_
  refine s_sipush X hx (z := (768 : Int32)) (hb hby d1_84) rfl (q := 87) rfl ?_
  refine s_iastore X hx hZ eT A_a1 N g_a1 (by decide) (i := 13) rfl (Nat.le_of_ble_eq_true rfl) (ys := [(58 : Int32), (59 : Int32), (65 : Int32), (91 : Int32), (95 : Int32), (96 : Int32), (97 : Int32), (123 : Int32), (192 : Int32), (215 : Int32), (216 : Int32), (247 : Int32), (248 : Int32), (768 : Int32), 0, 0, 0, 0, 0, 0, 0, 0, 0, 0, 0, 0, 0, 0, 0, 0, 0, 0]) rfl (hb hby d1_87) (q := 88) rfl ?_
  intro T h16 _ X N eT W A_a1'
  have sz : n0 ≤ h16.size := by rw [W.size]; exact sz
  have A_a1 := A_a1'
  refine s_dup X hx (hb hby d1_88) rfl (q := 89) rfl ?_
  refine s_bipush X hx (z := (14 : Int32)) (hb hby d1_89) rfl (q := 91) rfl ?_
  refine s_sipush X hx (z := (880 : Int32)) (hb hby d1_91) rfl (q := 94) rfl ?_
  refine s_iastore X hx hZ eT A_a1 N g_a1 (by decide) (i := 14) rfl (Nat.le_of_ble_eq_true rfl) (ys := [(58 : Int32), (59 : Int32), (65 : Int32), (91 : Int32), (95 : Int32), (96 : Int32), (97 : Int32), (123 : Int32), (192 : Int32), (215 : Int32), (216 : Int32), (247 : Int32), (248 : Int32), (768 : Int32), (880 : Int32), 0, 0, 0, 0, 0, 0, 0, 0, 0, 0, 0, 0, 0, 0, 0, 0, 0]) rfl (hb hby d1_94) (q := 95) rfl ?_
  intro T h17 _ X N eT W A_a1'
  have sz : n0 ≤ h17.size := by rw [W.size]; exact sz
  have A_a1 := A_a1'
  refine s_dup X hx (hb hby d1_95) rfl (q := 96) rfl ?_
  refine s_bipush X hx (z := (15 : Int32)) (hb hby d1_96) rfl (q := 98) rfl ?_
  refine s_sipush X hx (z := (894 : Int32)) (hb hby d1_98) rfl (q := 101) rfl ?_
  refine s_iastore X hx hZ eT A_a1 N g_a1 (by decide) (i := 15) rfl (Nat.le_of_ble_eq_true rfl) (ys := [(58 : Int32), (59 : Int32), (65 : Int32), (91 : Int32), (95 : Int32), (96 : Int32), (97 : Int32), (123 : Int32), (192 : Int32), (215 : Int32), (216 : Int32), (247 : Int32), (248 : Int32), (768 : Int32), (880 : Int32), (894 : Int32), 0, 0, 0, 0, 0, 0, 0, 0, 0, 0, 0, 0, 0, 0, 0, 0]) rfl (hb hby d1_101) (q := 102) rfl ?_
  intro T h18 _ X N eT W A_a1'
  have sz : n0 ≤ h18.size := by rw [W.size]; exact sz
  have A_a1 := A_a1'
  refine s_dup X hx (hb hby d1_102) rfl (q := 103) rfl ?_
  refine s_bipush X hx (z := (16 : Int32)) (hb hby d1_103) rfl (q := 105) rfl ?_
  refine s_sipush X hx (z := (895 : Int32)) (hb hby d1_105) rfl (q := 108) rfl ?_
  refine s_iastore X hx hZ eT A_a1 N g_a1 (by decide) (i := 16) rfl (Nat.le_of_ble_eq_true rfl) (ys := [(58 : Int32), (59 : Int32), (65 : Int32), (91 : Int32), (95 : Int32), (96 : Int32), (97 : Int32), (123 : Int32), (192 : Int32), (215 : Int32), (216 : Int32), (247 : Int32), (248 : Int32), (768 : Int32), (880 : Int32), (894 : Int32), (895 : Int32), 0, 0, 0, 0, 0, 0, 0, 0, 0, 0, 0, 0, 0, 0, 0]) rfl (hb hby d1_108) (q := 109) rfl ?_
  intro T h19 _ X N eT W A_a1'
  have sz : n0 ≤ h19.size := by rw [W.size]; exact sz
  have A_a1 := A_a1'
  refine s_dup X hx (hb hby d1_109) rfl (q := 110) rfl ?_
  refine s_bipush X hx (z := (17 : Int32)) (hb hby d1_110) rfl (q := 112) rfl ?_
  refine s_sipush X hx (z := (8192 : Int32)) (hb hby d1_112) rfl (q := 115) rfl ?_
  refine s_iastore X hx hZ eT A_a1 N g_a1 (by decide) (i := 17) rfl (Nat.le_of_ble_eq_true rfl) (ys := [(58 : Int32), (59 : Int32), (65 : Int32), (91 : Int32), (95 : Int32), (96 : Int32), (97 : Int32), (123 : Int32), (192 : Int32), (215 : Int32), (216 : Int32), (247 : Int32), (248 : Int32), (768 : Int32), (880 : Int32), (894 : Int32), (895 : Int32), (8192 : Int32), 0, 0, 0, 0, 0, 0, 0, 0, 0, 0, 0, 0, 0, 0]) rfl (hb hby d1_115) (q := 116) rfl ?_
  intro T h20 _ X N eT W A_a1'
  have sz : n0 ≤ h20.size := by rw [W.size]; exact sz
  have A_a1 := A_a1'
  refine s_dup X hx (hb hby d1_116) rfl (q := 117) rfl ?_
  refine s_bipush X hx (z := (18 : Int32)) (hb hby d1_117) rfl (q := 119) rfl ?_
  refine s_sipush X hx (z := (8204 : Int32)) (hb hby d1_119) rfl (q := 122) rfl ?_
  refine s_iastore X hx hZ eT A_a1 N g_a1 (by decide) (i := 18) rfl (Nat.le_of_ble_eq_true rfl) (ys := [(58 : Int32), (59 : Int32), (65 : Int32), (91 : Int32), (95 : Int32), (96 : Int32), (97 : Int32), (123 : Int32), (192 : Int32), (215 : Int32), (216 : Int32), (247 : Int32), (248 : Int32), (768 : Int32), (880 : Int32), (894 : Int32), (895 : Int32), (8192 : Int32), (8204 : Int32), 0, 0, 0, 0, 0, 0, 0, 0, 0, 0, 0, 0, 0]) rfl (hb hby d1_122) (q := 123) rfl ?_
  intro T h21 _ X N eT W A_a1'
  have sz : n0 ≤ h21.size := by rw [W.size]; exact sz
  have A_a1 := A_a1'
  refine s_dup X hx (hb hby d1_123) rfl (q := 124) rfl ?_
  refine s_bipush X hx (z := (19 : Int32)) (hb hby d1_124) rfl (q := 126) rfl ?_
  refine s_sipush X hx (z := (8206 : Int32)) (hb hby d1_126) rfl (q := 129) rfl ?_
  refine s_iastore X hx hZ eT A_a1 N g_a1 (by decide) (i := 19) rfl (Nat.le_of_ble_eq_true rfl) (ys := [(58 : Int32), (59 : Int32), (65 : Int32), (91 : Int32), (95 : Int32), (96 : Int32), (97 : Int32), (123 : Int32), (192 : Int32), (215 : Int32), (216 : Int32), (247 : Int32), (248 : Int32), (768 : Int32), (880 : Int32), (894 : Int32), (895 : Int32), (8192 : Int32), (8204 : Int32), (8206 : Int32), 0, 0, 0, 0, 0, 0, 0, 0, 0, 0, 0, 0]) rfl (hb hby d1_129) (q := 130) rfl ?_
  intro T h22 _ X N eT W A_a1'
  have sz : n0 ≤ h22.size := by rw [W.size]; exact sz
  have A_a1 := A_a1'
  refine s_dup X hx (hb hby d1_130) rfl (q := 131) rfl ?_
  refine s_bipush X hx (z := (20 : Int32)) (hb hby d1_131) rfl (q := 133) rfl ?_
  refine s_sipush X hx (z := (8304 : Int32)) (hb hby d1_133) rfl (q := 136) rfl ?_
  refine s_iastore X hx hZ eT A_a1 N g_a1 (by decide) (i := 20) rfl (Nat.le_of_ble_eq_true rfl) (ys := [(58 : Int32), (59 : Int32), (65 : Int32), (91 : Int32), (95 : Int32), (96 : Int32), (97 : Int32), (123 : Int32), (192 : Int32), (215 : Int32), (216 : Int32), (247 : Int32), (248 : Int32), (768 : Int32), (880 : Int32), (894 : Int32), (895 : Int32), (8192 : Int32), (8204 : Int32), (8206 : Int32), (8304 : Int32), 0, 0, 0, 0, 0, 0, 0, 0, 0, 0, 0]) rfl (hb hby d1_136) (q := 137) rfl ?_
  intro T h23 _ X N eT W A_a1'
  have sz : n0 ≤ h23.size := by rw [W.size]; exact sz
  have A_a1 := A_a1'
  refine s_dup X hx (hb hby d1_137) rfl (q := 138) rfl ?_
  refine s_bipush X hx (z := (21 : Int32)) (hb hby d1_138) rfl (q := 140) rfl ?_
  refine s_sipush X hx (z := (8592 : Int32)) (hb hby d1_140) rfl (q := 143) rfl ?_
  refine s_iastore X hx hZ eT A_a1 N g_a1 (by decide) (i := 21) rfl (Nat.le_of_ble_eq_true rfl) (ys := [(58 : Int32), (59 : Int32), (65 : Int32), (91 : Int32), (95 : Int32), (96 : Int32), (97 : Int32), (123 : Int32), (192 : Int32), (215 : Int32), (216 : Int32), (247 : Int32), (248 : Int32), (768 : Int32), (880 : Int32), (894 : Int32), (895 : Int32), (8192 : Int32), (8204 : Int32), (8206 : Int32), (8304 : Int32), (8592 : Int32), 0, 0, 0, 0, 0, 0, 0, 0, 0, 0]) rfl (hb hby d1_143) (q := 144) rfl ?_
  intro T h24 _ X N eT W A_a1'
  have sz : n0 ≤ h24.size := by rw [W.size]; exact sz
  have A_a1 := A_a1'
  refine s_dup X hx (hb hby d1_144) rfl (q := 145) rfl ?_
  refine s_bipush X hx (z := (22 : Int32)) (hb hby d1_145) rfl (q := 147) rfl ?_
  refine s_sipush X hx (z := (11264 : Int32)) (hb hby d1_147) rfl (q := 150) rfl ?_
  refine s_iastore X hx hZ eT A_a1 N g_a1 (by decide) (i := 22) rfl (Nat.le_of_ble_eq_true rfl) (ys := [(58 : Int32), (59 : Int32), (65 : Int32), (91 : Int32), (95 : Int32), (96 : Int32), (97 : Int32), (123 : Int32), (192 : Int32), (215 : Int32), (216 : Int32), (247 : Int32), (248 : Int32), (768 : Int32), (880 : Int32), (894 : Int32), (895 : Int32), (8192 : Int32), (8204 : Int32), (8206 : Int32), (8304 : Int32), (8592 : Int32), (11264 : Int32), 0, 0, 0, 0, 0, 0, 0, 0, 0]) rfl (hb hby d1_150) (q := 151) rfl ?_
  intro T h25 _ X N eT W A_a1'
  have sz : n0 ≤ h25.size := by rw [W.size]; exact sz
  have A_a1 := A_a1'
  refine s_dup X hx (hb hby d1_151) rfl (q := 152) rfl ?_
  refine s_bipush X hx (z := (23 : Int32)) (hb hby d1_152) rfl (q := 154) rfl ?_
  refine s_sipush X hx (z := (12272 : Int32)) (hb hby d1_154) rfl (q := 157) rfl ?_
  refine s_iastore X hx hZ eT A_a1 N g_a1 (by decide) (i := 23) rfl (Nat.le_of_ble_eq_true rfl) (ys := [(58 : Int32), (59 : Int32), (65 : Int32), (91 : Int32), (95 : Int32), (96 : Int32), (97 : Int32), (123 : Int32), (192 : Int32), (215 : Int32), (216 : Int32), (247 : Int32), (248 : Int32), (768 : Int32), (880 : Int32), (894 : Int32), (895 : Int32), (8192 : Int32), (8204 : Int32), (8206 : Int32), (8304 : Int32), (8592 : Int32), (11264 : Int32), (12272 : Int32), 0, 0, 0, 0, 0, 0, 0, 0]) rfl (hb hby d1_157) (q := 158) rfl ?_
  intro T h26 _ X N eT W A_a1'
  have sz : n0 ≤ h26.size := by rw [W.size]; exact sz
  have A_a1 := A_a1'
  refine s_dup X hx (hb hby d1_158) rfl (q := 159) rfl ?_
  refine s_bipush X hx (z := (24 : Int32)) (hb hby d1_159) rfl (q := 161) rfl ?_
  refine s_sipush X hx (z := (12289 : Int32)) (hb hby d1_161) rfl (q := 164) rfl ?_
  refine s_iastore X hx hZ eT A_a1 N g_a1 (by decide) (i := 24) rfl (Nat.le_of_ble_eq_true rfl) (ys := [(58 : Int32), (59 : Int32), (65 : Int32), (91 : Int32), (95 : Int32), (96 : Int32), (97 : Int32), (123 : Int32), (192 : Int32), (215 : Int32), (216 : Int32), (247 : Int32), (248 : Int32), (768 : Int32), (880 : Int32), (894 : Int32), (895 : Int32), (8192 : Int32), (8204 : Int32), (8206 : Int32), (8304 : Int32), (8592 : Int32), (11264 : Int32), (12272 : Int32), (12289 : Int32), 0, 0, 0, 0, 0, 0, 0]) rfl (hb hby d1_164) (q := 165) rfl ?_
  intro T h27 _ X N eT W A_a1'
  have sz : n0 ≤ h27.size := by rw [W.size]; exact sz
  have A_a1 := A_a1'
  refine s_dup X hx (hb hby d1_165) rfl (q := 166) rfl ?_
  refine s_bipush X hx (z := (25 : Int32)) (hb hby d1_166) rfl (q := 168) rfl ?_
  refine s_ldc X hx hZ hown (hw _ (List.mem_of_getElem? (i := 5) rfl)) (hb hby d1_168) (q := 170) rfl ?_
  refine s_iastore X hx hZ eT A_a1 N g_a1 (by decide) (i := 25) rfl (Nat.le_of_ble_eq_true rfl) (ys := [(58 : Int32), (59 : Int32), (65 : Int32), (91 : Int32), (95 : Int32), (96 : Int32), (97 : Int32), (123 : Int32), (192 : Int32), (215 : Int32), (216 : Int32), (247 : Int32), (248 : Int32), (768 : Int32), (880 : Int32), (894 : Int32), (895 : Int32), (8192 : Int32), (8204 : Int32), (8206 : Int32), (8304 : Int32), (8592 : Int32), (11264 : Int32), (12272 : Int32), (12289 : Int32), (55296 : Int32), 0, 0, 0, 0, 0, 0]) rfl (hb hby d1_170) (q := 171) rfl ?_
  intro T h28 _ X N eT W A_a1'
  have sz : n0 ≤ h28.size := by rw [W.size]; exact sz
  have A_a1 := A_a1'
  refine s_dup X hx (hb hby d1_171) rfl (q := 172) rfl ?_
  refine s_bipush X hx (z := (26 : Int32)) (hb hby d1_172) rfl (q := 174) rfl ?_
  refine s_ldc X hx hZ hown (hw _ (List.mem_of_getElem? (i := 6) rfl)) (hb hby d1_174) (q := 176) rfl ?_
  refine s_iastore X hx hZ eT A_a1 N g_a1 (by decide) (i := 26) rfl (Nat.le_of_ble_eq_true rfl) (ys := [(58 : Int32), (59 : Int32), (65 : Int32), (91 : Int32), (95 : Int32), (96 : Int32), (97 : Int32), (123 : Int32), (192 : Int32), (215 : Int32), (216 : Int32), (247 : Int32), (248 : Int32), (768 : Int32), (880 : Int32), (894 : Int32), (895 : Int32), (8192 : Int32), (8204 : Int32), (8206 : Int32), (8304 : Int32), (8592 : Int32), (11264 : Int32), (12272 : Int32), (12289 : Int32), (55296 : Int32), (63744 : Int32), 0, 0, 0, 0, 0]) rfl (hb hby d1_176) (q := 177) rfl ?_
  intro T h29 _ X N eT W A_a1'
  have sz : n0 ≤ h29.size := by rw [W.size]; exact sz
  have A_a1 := A_a1'
  refine s_dup X hx (hb hby d1_177) rfl (q := 178) rfl ?_
  refine s_bipush X hx (z := (27 : Int32)) (hb hby d1_178) rfl (q := 180) rfl ?_
  refine s_ldc X hx hZ hown (hw _ (List.mem_of_getElem? (i := 7) rfl)) (hb hby d1_180) (q := 182) rfl ?_
  refine s_iastore X hx hZ eT A_a1 N g_a1 (by decide) (i := 27) rfl (Nat.le_of_ble_eq_true rfl) (ys := [(58 : Int32), (59 : Int32), (65 : Int32), (91 : Int32), (95 : Int32), (96 : Int32), (97 : Int32), (123 : Int32), (192 : Int32), (215 : Int32), (216 : Int32), (247 : Int32), (248 : Int32), (768 : Int32), (880 : Int32), (894 : Int32), (895 : Int32), (8192 : Int32), (8204 : Int32), (8206 : Int32), (8304 : Int32), (8592 : Int32), (11264 : Int32), (12272 : Int32), (12289 : Int32), (55296 : Int32), (63744 : Int32), (64976 : Int32), 0, 0, 0, 0]) rfl (hb hby d1_182) (q := 183) rfl ?_
  intro T h30 _ X N eT W A_a1'
  have sz : n0 ≤ h30.size := by rw [W.size]; exact sz
  have A_a1 := A_a1'
  refine s_dup X hx (hb hby d1_183) rfl (q := 184) rfl ?_
  refine s_bipush X hx (z := (28 : Int32)) (hb hby d1_184) rfl (q := 186) rfl ?_
  refine s_ldc X hx hZ hown (hw _ (List.mem_of_getElem? (i := 8) rfl)) (hb hby d1_186) (q := 188) rfl ?_
  refine s_iastore X hx hZ eT A_a1 N g_a1 (by decide) (i := 28) rfl (Nat.le_of_ble_eq_true rfl) (ys := [(58 : Int32), (59 : Int32), (65 : Int32), (91 : Int32), (95 : Int32), (96 : Int32), (97 : Int32), (123 : Int32), (192 : Int32), (215 : Int32), (216 : Int32), (247 : Int32), (248 : Int32), (768 : Int32), (880 : Int32), (894 : Int32), (895 : Int32), (8192 : Int32), (8204 : Int32), (8206 : Int32), (8304 : Int32), (8592 : Int32), (11264 : Int32), (12272 : Int32), (12289 : Int32), (55296 : Int32), (63744 : Int32), (64976 : Int32), (65008 : Int32), 0, 0, 0]) rfl (hb hby d1_188) (q := 189) rfl ?_
  intro T h31 _ X N eT W A_a1'
  have sz : n0 ≤ h31.size := by rw [W.size]; exact sz
  have A_a1 := A_a1'
  refine s_dup X hx (hb hby d1_189) rfl (q := 190) rfl ?_
  refine s_bipush X hx (z := (29 : Int32)) (hb hby d1_190) rfl (q := 192) rfl ?_
  refine s_ldc X hx hZ hown (hw _ (List.mem_of_getElem? (i := 9) rfl)) (hb hby d1_192) (q := 194) rfl ?_
  refine s_iastore X hx hZ eT A_a1 N g_a1 (by decide) (i := 29) rfl (Nat.le_of_ble_eq_true rfl) (ys := [(58 : Int32), (59 : Int32), (65 : Int32), (91 : Int32), (95 : Int32), (96 : Int32), (97 : Int32), (123 : Int32), (192 : Int32), (215 : Int32), (216 : Int32), (247 : Int32), (248 : Int32), (768 : Int32), (880 : Int32), (894 : Int32), (895 : Int32), (8192 : Int32), (8204 : Int32), (8206 : Int32), (8304 : Int32), (8592 : Int32), (11264 : Int32), (12272 : Int32), (12289 : Int32), (55296 : Int32), (63744 : Int32), (64976 : Int32), (65008 : Int32), (65534 : Int32), 0, 0]) rfl (hb hby d1_194) (q := 195) rfl ?_
  intro T h32 _ X N eT W A_a1'
  have sz : n0 ≤ h32.size := by rw [W.size]; exact sz
  have A_a1 := A_a1'
  refine s_dup X hx (hb hby d1_195) rfl (q := 196) rfl ?_
  refine s_bipush X hx (z := (30 : Int32)) (hb hby d1_196) rfl (q := 198) rfl ?_
  refine s_ldc X hx hZ hown (hw _ (List.mem_of_getElem? (i := 10) rfl)) (hb hby d1_198) (q := 200) rfl ?_
  refine s_iastore X hx hZ eT A_a1 N g_a1 (by decide) (i := 30) rfl (Nat.le_of_ble_eq_true rfl) (ys := [(58 : Int32), (59 : Int32), (65 : Int32), (91 : Int32), (95 : Int32), (96 : Int32), (97 : Int32), (123 : Int32), (192 : Int32), (215 : Int32), (216 : Int32), (247 : Int32), (248 : Int32), (768 : Int32), (880 : Int32), (894 : Int32), (895 : Int32), (8192 : Int32), (8204 : Int32), (8206 : Int32), (8304 : Int32), (8592 : Int32), (11264 : Int32), (12272 : Int32), (12289 : Int32), (55296 : Int32), (63744 : Int32), (64976 : Int32), (65008 : Int32), (65534 : Int32), (65536 : Int32), 0]) rfl (hb hby d1_200) (q := 201) rfl ?_
  intro T h33 _ X N eT W A_a1'
  have sz : n0 ≤ h33.size := by rw [W.size]; exact sz
  have A_a1 := A_a1'
  refine s_dup X hx (hb hby d1_201) rfl (q := 202) rfl ?_
  refine s_bipush X hx (z := (31 : Int32)) (hb hby d1_202) rfl (q := 204) rfl ?_
  refine s_ldc X hx hZ hown (hw _ (List.mem_of_getElem? (i := 11) rfl)) (hb hby d1_204) (q := 206) rfl ?_
  refine s_iastore X hx hZ eT A_a1 N g_a1 (by decide) (i := 31) rfl (Nat.le_of_ble_eq_true rfl) (ys := [(58 : Int32), (59 : Int32), (65 : Int32), (91 : Int32), (95 : Int32), (96 : Int32), (97 : Int32), (123 : Int32), (192 : Int32), (215 : Int32), (216 : Int32), (247 : Int32), (248 : Int32), (768 : Int32), (880 : Int32), (894 : Int32), (895 : Int32), (8192 : Int32), (8204 : Int32), (8206 : Int32), (8304 : Int32), (8592 : Int32), (11264 : Int32), (12272 : Int32), (12289 : Int32), (55296 : Int32), (63744 : Int32), (64976 : Int32), (65008 : Int32), (65534 : Int32), (65536 : Int32), (983040 : Int32)]) rfl (hb hby d1_206) (q := 207) rfl ?_
  intro T h34 _ X N eT W A_a1'
  have sz : n0 ≤ h34.size := by rw [W.size]; exact sz
  have A_a1 := A_a1'
  exact leafA X hx hlk hret rfl rfl (hb hby d1_207) (by decide) (by decide) (by rw [eT]; exact ⟨_, rfl, N, A_a1⟩)
set_option maxRecDepth 65536 in
set_option maxHeartbeats 40000000 in
theorem own_eq (x : Int32) : F2 x = F3 x := by
  generalize hz : x.toInt = z
  have hsp : z < 58 ∨ (58 ≤ z ∧ z < 59) ∨ (59 ≤ z ∧ z < 65) ∨ (65 ≤ z ∧ z < 91) ∨ (91 ≤ z ∧ z < 95) ∨ (95 ≤ z ∧ z < 96) ∨ (96 ≤ z ∧ z < 97) ∨ (97 ≤ z ∧ z < 123) ∨ (123 ≤ z ∧ z < 192) ∨ (192 ≤ z ∧ z < 215) ∨ (215 ≤ z ∧ z < 216) ∨ (216 ≤ z ∧ z < 247) ∨ (247 ≤ z ∧ z < 248) ∨ (248 ≤ z ∧ z < 768) ∨ (768 ≤ z ∧ z < 880) ∨ (880 ≤ z ∧ z < 894) ∨ (894 ≤ z ∧ z < 895) ∨ (895 ≤ z ∧ z < 8192) ∨ (8192 ≤ z ∧ z < 8204) ∨ (8204 ≤ z ∧ z < 8206) ∨ (8206 ≤ z ∧ z < 8304) ∨ (8304 ≤ z ∧ z < 8592) ∨ (8592 ≤ z ∧ z < 11264) ∨ (11264 ≤ z ∧ z < 12272) ∨ (12272 ≤ z ∧ z < 12289) ∨ (12289 ≤ z ∧ z < 55296) ∨ (55296 ≤ z ∧ z < 63744) ∨ (63744 ≤ z ∧ z < 64976) ∨ (64976 ≤ z ∧ z < 65008) ∨ (65008 ≤ z ∧ z < 65534) ∨ (65534 ≤ z ∧ z < 65536) ∨ (65536 ≤ z ∧ z < 983040) ∨ 983040 ≤ z := by omega
  rcases hsp with h | h | h | h | h | h | h | h | h | h | h | h | h | h | h | h | h | h | h | h | h | h | h | h | h | h | h | h | h | h | h | h | h
  · have a0 := own_nei (x := x) (b := (58 : Int32)) (k := 58) (by decide) (by omega)
    have a1 := own_lt (x := x) (b := (58 : Int32)) (k := 58) (by decide) (by omega)
    have a2 := own_lt (x := x) (b := (59 : Int32)) (k := 59) (by decide) (by omega)
    have a3 := own_lt (x := x) (b := (65 : Int32)) (k := 65) (by decide) (by omega)
    have a4 := own_ngt (x := x) (b := (90 : Int32)) (k := 90) (by decide) (by omega)
    have a5 := own_lt (x := x) (b := (91 : Int32)) (k := 91) (by decide) (by omega)
    have a6 := own_nei (x := x) (b := (95 : Int32)) (k := 95) (by decide) (by omega)
    have a7 := own_lt (x := x) (b := (95 : Int32)) (k := 95) (by decide) (by omega)
    have a8 := own_lt (x := x) (b := (96 : Int32)) (k := 96) (by decide) (by omega)
    have a9 := own_lt (x := x) (b := (97 : Int32)) (k := 97) (by decide) (by omega)
    have a10 := own_ngt (x := x) (b := (122 : Int32)) (k := 122) (by decide) (by omega)
    have a11 := own_lt (x := x) (b := (123 : Int32)) (k := 123) (by decide) (by omega)
    have a12 := own_lt (x := x) (b := (192 : Int32)) (k := 192) (by decide) (by omega)
    have a13 := own_ngt (x := x) (b := (214 : Int32)) (k := 214) (by decide) (by omega)
    have a14 := own_lt (x := x) (b := (215 : Int32)) (k := 215) (by decide) (by omega)
    have a15 := own_lt (x := x) (b := (216 : Int32)) (k := 216) (by decide) (by omega)
    have a16 := own_ngt (x := x) (b := (246 : Int32)) (k := 246) (by decide) (by omega)
    have a17 := own_lt (x := x) (b := (247 : Int32)) (k := 247) (by decide) (by omega)
    have a18 := own_lt (x := x) (b := (248 : Int32)) (k := 248) (by decide) (by omega)
    have a19 := own_ngt (x := x) (b := (767 : Int32)) (k := 767) (by decide) (by omega)
    have a20 := own_lt (x := x) (b := (768 : Int32)) (k := 768) (by decide) (by omega)
    have a21 := own_lt (x := x) (b := (880 : Int32)) (k := 880) (by decide) (by omega)
    have a22 := own_ngt (x := x) (b := (893 : Int32)) (k := 893) (by decide) (by omega)
    have a23 := own_lt (x := x) (b := (894 : Int32)) (k := 894) (by decide) (by omega)
    have a24 := own_lt (x := x) (b := (895 : Int32)) (k := 895) (by decide) (by omega)
    have a25 := own_ngt (x := x) (b := (8191 : Int32)) (k := 8191) (by decide) (by omega)
    have a26 := own_lt (x := x) (b := (8192 : Int32)) (k := 8192) (by decide) (by omega)
    have a27 := own_lt (x := x) (b := (8204 : Int32)) (k := 8204) (by decide) (by omega)
    have a28 := own_ngt (x := x) (b := (8205 : Int32)) (k := 8205) (by decide) (by omega)
    have a29 := own_lt (x := x) (b := (8206 : Int32)) (k := 8206) (by decide) (by omega)
    have a30 := own_lt (x := x) (b := (8304 : Int32)) (k := 8304) (by decide) (by omega)
    have a31 := own_ngt (x := x) (b := (8591 : Int32)) (k := 8591) (by decide) (by omega)
    have a32 := own_lt (x := x) (b := (8592 : Int32)) (k := 8592) (by decide) (by omega)
    have a33 := own_lt (x := x) (b := (11264 : Int32)) (k := 11264) (by decide) (by omega)
    have a34 := own_ngt (x := x) (b := (12271 : Int32)) (k := 12271) (by decide) (by omega)
    have a35 := own_lt (x := x) (b := (12272 : Int32)) (k := 12272) (by decide) (by omega)
    have a36 := own_lt (x := x) (b := (12289 : Int32)) (k := 12289) (by decide) (by omega)
    have a37 := own_ngt (x := x) (b := (55295 : Int32)) (k := 55295) (by decide) (by omega)
    have a38 := own_lt (x := x) (b := (55296 : Int32)) (k := 55296) (by decide) (by omega)
    have a39 := own_lt (x := x) (b := (63744 : Int32)) (k := 63744) (by decide) (by omega)
    have a40 := own_ngt (x := x) (b := (64975 : Int32)) (k := 64975) (by decide) (by omega)
    have a41 := own_lt (x := x) (b := (64976 : Int32)) (k := 64976) (by decide) (by omega)
    have a42 := own_lt (x := x) (b := (65008 : Int32)) (k := 65008) (by decide) (by omega)
    have a43 := own_ngt (x := x) (b := (65533 : Int32)) (k := 65533) (by decide) (by omega)
    have a44 := own_lt (x := x) (b := (65534 : Int32)) (k := 65534) (by decide) (by omega)
    have a45 := own_lt (x := x) (b := (65536 : Int32)) (k := 65536) (by decide) (by omega)
    have a46 := own_ngt (x := x) (b := (983039 : Int32)) (k := 983039) (by decide) (by omega)
    have a47 := own_lt (x := x) (b := (983040 : Int32)) (k := 983040) (by decide) (by omega)
    simp only [F4, F2_201, F2_197, F2_185, F2_173, F2_161, F2_148, F2_134, F2_120, F2_106, F2_92, F2_78, F2_64, F2_50, F2_36, F2_18, F2, F3, if_neg a0, if_pos a1, if_pos a2, if_pos a3, if_neg a4, if_pos a5, if_neg a6, if_pos a7, if_pos a8, if_pos a9, if_neg a10, if_pos a11, if_pos a12, if_neg a13, if_pos a14, if_pos a15, if_neg a16, if_pos a17, if_pos a18, if_neg a19, if_pos a20, if_pos a21, if_neg a22, if_pos a23, if_pos a24, if_neg a25, if_pos a26, if_pos a27, if_neg a28, if_pos a29, if_pos a30, if_neg a31, if_pos a32, if_pos a33, if_neg a34, if_pos a35, if_pos a36, if_neg a37, if_pos a38, if_pos a39, if_neg a40, if_pos a41, if_pos a42, if_neg a43, if_pos a44, if_pos a45, if_neg a46, if_pos a47]
    try decide
  · have a0 := own_eqi (x := x) (b := (58 : Int32)) (k := 58) (by decide) (by omega)
    have a1 := own_nlt (x := x) (b := (58 : Int32)) (k := 58) (by decide) (by omega)
    have a2 := own_lt (x := x) (b := (59 : Int32)) (k := 59) (by decide) (by omega)
    have a3 := own_lt (x := x) (b := (65 : Int32)) (k := 65) (by decide) (by omega)
    have a4 := own_ngt (x := x) (b := (90 : Int32)) (k := 90) (by decide) (by omega)
    have a5 := own_lt (x := x) (b := (91 : Int32)) (k := 91) (by decide) (by omega)
    have a6 := own_nei (x := x) (b := (95 : Int32)) (k := 95) (by decide) (by omega)
    have a7 := own_lt (x := x) (b := (95 : Int32)) (k := 95) (by decide) (by omega)
    have a8 := own_lt (x := x) (b := (96 : Int32)) (k := 96) (by decide) (by omega)
    have a9 := own_lt (x := x) (b := (97 : Int32)) (k := 97) (by decide) (by omega)
    have a10 := own_ngt (x := x) (b := (122 : Int32)) (k := 122) (by decide) (by omega)
    have a11 := own_lt (x := x) (b := (123 : Int32)) (k := 123) (by decide) (by omega)
    have a12 := own_lt (x := x) (b := (192 : Int32)) (k := 192) (by decide) (by omega)
    have a13 := own_ngt (x := x) (b := (214 : Int32)) (k := 214) (by decide) (by omega)
    have a14 := own_lt (x := x) (b := (215 : Int32)) (k := 215) (by decide) (by omega)
    have a15 := own_lt (x := x) (b := (216 : Int32)) (k := 216) (by decide) (by omega)
    have a16 := own_ngt (x := x) (b := (246 : Int32)) (k := 246) (by decide) (by omega)
    have a17 := own_lt (x := x) (b := (247 : Int32)) (k := 247) (by decide) (by omega)
    have a18 := own_lt (x := x) (b := (248 : Int32)) (k := 248) (by decide) (by omega)
    have a19 := own_ngt (x := x) (b := (767 : Int32)) (k := 767) (by decide) (by omega)
    have a20 := own_lt (x := x) (b := (768 : Int32)) (k := 768) (by decide) (by omega)
    have a21 := own_lt (x := x) (b := (880 : Int32)) (k := 880) (by decide) (by omega)
    have a22 := own_ngt (x := x) (b := (893 : Int32)) (k := 893) (by decide) (by omega)
    have a23 := own_lt (x := x) (b := (894 : Int32)) (k := 894) (by decide) (by omega)
    have a24 := own_lt (x := x) (b := (895 : Int32)) (k := 895) (by decide) (by omega)
    have a25 := own_ngt (x := x) (b := (8191 : Int32)) (k := 8191) (by decide) (by omega)
    have a26 := own_lt (x := x) (b := (8192 : Int32)) (k := 8192) (by decide) (by omega)
    have a27 := own_lt (x := x) (b := (8204 : Int32)) (k := 8204) (by decide) (by omega)
    have a28 := own_ngt (x := x) (b := (8205 : Int32)) (k := 8205) (by decide) (by omega)
    have a29 := own_lt (x := x) (b := (8206 : Int32)) (k := 8206) (by decide) (by omega)
    have a30 := own_lt (x := x) (b := (8304 : Int32)) (k := 8304) (by decide) (by omega)
    have a31 := own_ngt (x := x) (b := (8591 : Int32)) (k := 8591) (by decide) (by omega)
    have a32 := own_lt (x := x) (b := (8592 : Int32)) (k := 8592) (by decide) (by omega)
    have a33 := own_lt (x := x) (b := (11264 : Int32)) (k := 11264) (by decide) (by omega)
    have a34 := own_ngt (x := x) (b := (12271 : Int32)) (k := 12271) (by decide) (by omega)
    have a35 := own_lt (x := x) (b := (12272 : Int32)) (k := 12272) (by decide) (by omega)
    have a36 := own_lt (x := x) (b := (12289 : Int32)) (k := 12289) (by decide) (by omega)
    have a37 := own_ngt (x := x) (b := (55295 : Int32)) (k := 55295) (by decide) (by omega)
    have a38 := own_lt (x := x) (b := (55296 : Int32)) (k := 55296) (by decide) (by omega)
    have a39 := own_lt (x := x) (b := (63744 : Int32)) (k := 63744) (by decide) (by omega)
    have a40 := own_ngt (x := x) (b := (64975 : Int32)) (k := 64975) (by decide) (by omega)
    have a41 := own_lt (x := x) (b := (64976 : Int32)) (k := 64976) (by decide) (by omega)
    have a42 := own_lt (x := x) (b := (65008 : Int32)) (k := 65008) (by decide) (by omega)
    have a43 := own_ngt (x := x) (b := (65533 : Int32)) (k := 65533) (by decide) (by omega)
    have a44 := own_lt (x := x) (b := (65534 : Int32)) (k := 65534) (by decide) (by omega)
    have a45 := own_lt (x := x) (b := (65536 : Int32)) (k := 65536) (by decide) (by omega)
    have a46 := own_ngt (x := x) (b := (983039 : Int32)) (k := 983039) (by decide) (by omega)
    have a47 := own_lt (x := x) (b := (983040 : Int32)) (k := 983040) (by decide) (by omega)
    simp only [F4, F2_201, F2_197, F2_185, F2_173, F2_161, F2_148, F2_134, F2_120, F2_106, F2_92, F2_78, F2_64, F2_50, F2_36, F2_18, F2, F3, if_pos a0, if_neg a1, if_pos a2, if_pos a3, if_neg a4, if_pos a5, if_neg a6, if_pos a7, if_pos a8, if_pos a9, if_neg a10, if_pos a11, if_pos a12, if_neg a13, if_pos a14, if_pos a15, if_neg a16, if_pos a17, if_pos a18, if_neg a19, if_pos a20, if_pos a21, if_neg a22, if_pos a23, if_pos a24, if_neg a25, if_pos a26, if_pos a27, if_neg a28, if_pos a29, if_pos a30, if_neg a31, if_pos a32, if_pos a33, if_neg a34, if_pos a35, if_pos a36, if_neg a37, if_pos a38, if_pos a39, if_neg a40, if_pos a41, if_pos a42, if_neg a43, if_pos a44, if_pos a45, if_neg a46, if_pos a47]
    try decide
  · have a0 := own_nei (x := x) (b := (58 : Int32)) (k := 58) (by decide) (by omega)
    have a1 := own_nlt (x := x) (b := (58 : Int32)) (k := 58) (by decide) (by omega)
    have a2 := own_nlt (x := x) (b := (59 : Int32)) (k := 59) (by decide) (by omega)
    have a3 := own_lt (x := x) (b := (65 : Int32)) (k := 65) (by decide) (by omega)
    have a4 := own_ngt (x := x) (b := (90 : Int32)) (k := 90) (by decide) (by omega)
    have a5 := own_lt (x := x) (b := (91 : Int32)) (k := 91) (by decide) (by omega)
    have a6 := own_nei (x := x) (b := (95 : Int32)) (k := 95) (by decide) (by omega)
    have a7 := own_lt (x := x) (b := (95 : Int32)) (k := 95) (by decide) (by omega)
    have a8 := own_lt (x := x) (b := (96 : Int32)) (k := 96) (by decide) (by omega)
    have a9 := own_lt (x := x) (b := (97 : Int32)) (k := 97) (by decide) (by omega)
    have a10 := own_ngt (x := x) (b := (122 : Int32)) (k := 122) (by decide) (by omega)
    have a11 := own_lt (x := x) (b := (123 : Int32)) (k := 123) (by decide) (by omega)
    have a12 := own_lt (x := x) (b := (192 : Int32)) (k := 192) (by decide) (by omega)
    have a13 := own_ngt (x := x) (b := (214 : Int32)) (k := 214) (by decide) (by omega)
    have a14 := own_lt (x := x) (b := (215 : Int32)) (k := 215) (by decide) (by omega)
    have a15 := own_lt (x := x) (b := (216 : Int32)) (k := 216) (by decide) (by omega)
    have a16 := own_ngt (x := x) (b := (246 : Int32)) (k := 246) (by decide) (by omega)
    have a17 := own_lt (x := x) (b := (247 : Int32)) (k := 247) (by decide) (by omega)
    have a18 := own_lt (x := x) (b := (248 : Int32)) (k := 248) (by decide) (by omega)
    have a19 := own_ngt (x := x) (b := (767 : Int32)) (k := 767) (by decide) (by omega)
    have a20 := own_lt (x := x) (b := (768 : Int32)) (k := 768) (by decide) (by omega)
    have a21 := own_lt (x := x) (b := (880 : Int32)) (k := 880) (by decide) (by omega)
    have a22 := own_ngt (x := x) (b := (893 : Int32)) (k := 893) (by decide) (by omega)
    have a23 := own_lt (x := x) (b := (894 : Int32)) (k := 894) (by decide) (by omega)
    have a24 := own_lt (x := x) (b := (895 : Int32)) (k := 895) (by decide) (by omega)
    have a25 := own_ngt (x := x) (b := (8191 : Int32)) (k := 8191) (by decide) (by omega)
    have a26 := own_lt (x := x) (b := (8192 : Int32)) (k := 8192) (by decide) (by omega)
    have a27 := own_lt (x := x) (b := (8204 : Int32)) (k := 8204) (by decide) (by omega)
    have a28 := own_ngt (x := x) (b := (8205 : Int32)) (k := 8205) (by decide) (by omega)
    have a29 := own_lt (x := x) (b := (8206 : Int32)) (k := 8206) (by decide) (by omega)
    have a30 := own_lt (x := x) (b := (8304 : Int32)) (k := 8304) (by decide) (by omega)
    have a31 := own_ngt (x := x) (b := (8591 : Int32)) (k := 8591) (by decide) (by omega)
    have a32 := own_lt (x := x) (b := (8592 : Int32)) (k := 8592) (by decide) (by omega)
    have a33 := own_lt (x := x) (b := (11264 : Int32)) (k := 11264) (by decide) (by omega)
    have a34 := own_ngt (x := x) (b := (12271 : Int32)) (k := 12271) (by decide) (by omega)
    have a35 := own_lt (x := x) (b := (12272 : Int32)) (k := 12272) (by decide) (by omega)
    have a36 := own_lt (x := x) (b := (12289 : Int32)) (k := 12289) (by decide) (by omega)
    have a37 := own_ngt (x := x) (b := (55295 : Int32)) (k := 55295) (by decide) (by omega)
    have a38 := own_lt (x := x) (b := (55296 : Int32)) (k := 55296) (by decide) (by omega)
    have a39 := own_lt (x := x) (b := (63744 : Int32)) (k := 63744) (by decide) (by omega)
    have a40 := own_ngt (x := x) (b := (64975 : Int32)) (k := 64975) (by decide) (by omega)
    have a41 := own_lt (x := x) (b := (64976 : Int32)) (k := 64976) (by decide) (by omega)
    have a42 := own_lt (x := x) (b := (65008 : Int32)) (k := 65008) (by decide) (by omega)
    have a43 := own_ngt (x := x) (b := (65533 : Int32)) (k := 65533) (by decide) (by omega)
    have a44 := own_lt (x := x) (b := (65534 : Int32)) (k := 65534) (by decide) (by omega)
    have a45 := own_lt (x := x) (b := (65536 : Int32)) (k := 65536) (by decide) (by omega)
    have a46 := own_ngt (x := x) (b := (983039 : Int32)) (k := 983039) (by decide) (by omega)
    have a47 := own_lt (x := x) (b := (983040 : Int32)) (k := 983040) (by decide) (by omega)
    simp only [F4, F2_201, F2_197, F2_185, F2_173, F2_161, F2_148, F2_134, F2_120, F2_106, F2_92, F2_78, F2_64, F2_50, F2_36, F2_18, F2, F3, if_neg a0, if_neg a1, if_neg a2, if_pos a3, if_neg a4, if_pos a5, if_neg a6, if_pos a7, if_pos a8, if_pos a9, if_neg a10, if_pos a11, if_pos a12, if_neg a13, if_pos a14, if_pos a15, if_neg a16, if_pos a17, if_pos a18, if_neg a19, if_pos a20, if_pos a21, if_neg a22, if_pos a23, if_pos a24, if_neg a25, if_pos a26, if_pos a27, if_neg a28, if_pos a29, if_pos a30, if_neg a31, if_pos a32, if_pos a33, if_neg a34, if_pos a35, if_pos a36, if_neg a37, if_pos a38, if_pos a39, if_neg a40, if_pos a41, if_pos a42, if_neg a43, if_pos a44, if_pos a45, if_neg a46, if_pos a47]
    try decide
  · have a0 := own_nei (x := x) (b := (58 : Int32)) (k := 58) (by decide) (by omega)
    have a1 := own_nlt (x := x) (b := (58 : Int32)) (k := 58) (by decide) (by omega)
    have a2 := own_nlt (x := x) (b := (59 : Int32)) (k := 59) (by decide) (by omega)
    have a3 := own_nlt (x := x) (b := (65 : Int32)) (k := 65) (by decide) (by omega)
    have a4 := own_ngt (x := x) (b := (90 : Int32)) (k := 90) (by decide) (by omega)
    have a5 := own_lt (x := x) (b := (91 : Int32)) (k := 91) (by decide) (by omega)
    have a6 := own_nei (x := x) (b := (95 : Int32)) (k := 95) (by decide) (by omega)
    have a7 := own_lt (x := x) (b := (95 : Int32)) (k := 95) (by decide) (by omega)
    have a8 := own_lt (x := x) (b := (96 : Int32)) (k := 96) (by decide) (by omega)
    have a9 := own_lt (x := x) (b := (97 : Int32)) (k := 97) (by decide) (by omega)
    have a10 := own_ngt (x := x) (b := (122 : Int32)) (k := 122) (by decide) (by omega)
    have a11 := own_lt (x := x) (b := (123 : Int32)) (k := 123) (by decide) (by omega)
    have a12 := own_lt (x := x) (b := (192 : Int32)) (k := 192) (by decide) (by omega)
    have a13 := own_ngt (x := x) (b := (214 : Int32)) (k := 214) (by decide) (by omega)
    have a14 := own_lt (x := x) (b := (215 : Int32)) (k := 215) (by decide) (by omega)
    have a15 := own_lt (x := x) (b := (216 : Int32)) (k := 216) (by decide) (by omega)
    have a16 := own_ngt (x := x) (b := (246 : Int32)) (k := 246) (by decide) (by omega)
    have a17 := own_lt (x := x) (b := (247 : Int32)) (k := 247) (by decide) (by omega)
    have a18 := own_lt (x := x) (b := (248 : Int32)) (k := 248) (by decide) (by omega)
    have a19 := own_ngt (x := x) (b := (767 : Int32)) (k := 767) (by decide) (by omega)
    have a20 := own_lt (x := x) (b := (768 : Int32)) (k := 768) (by decide) (by omega)
    have a21 := own_lt (x := x) (b := (880 : Int32)) (k := 880) (by decide) (by omega)
    have a22 := own_ngt (x := x) (b := (893 : Int32)) (k := 893) (by decide) (by omega)
    have a23 := own_lt (x := x) (b := (894 : Int32)) (k := 894) (by decide) (by omega)
    have a24 := own_lt (x := x) (b := (895 : Int32)) (k := 895) (by decide) (by omega)
    have a25 := own_ngt (x := x) (b := (8191 : Int32)) (k := 8191) (by decide) (by omega)
    have a26 := own_lt (x := x) (b := (8192 : Int32)) (k := 8192) (by decide) (by omega)
    have a27 := own_lt (x := x) (b := (8204 : Int32)) (k := 8204) (by decide) (by omega)
    have a28 := own_ngt (x := x) (b := (8205 : Int32)) (k := 8205) (by decide) (by omega)
    have a29 := own_lt (x := x) (b := (8206 : Int32)) (k := 8206) (by decide) (by omega)
    have a30 := own_lt (x := x) (b := (8304 : Int32)) (k := 8304) (by decide) (by omega)
    have a31 := own_ngt (x := x) (b := (8591 : Int32)) (k := 8591) (by decide) (by omega)
    have a32 := own_lt (x := x) (b := (8592 : Int32)) (k := 8592) (by decide) (by omega)
    have a33 := own_lt (x := x) (b := (11264 : Int32)) (k := 11264) (by decide) (by omega)
    have a34 := own_ngt (x := x) (b := (12271 : Int32)) (k := 12271) (by decide) (by omega)
    have a35 := own_lt (x := x) (b := (12272 : Int32)) (k := 12272) (by decide) (by omega)
    have a36 := own_lt (x := x) (b := (12289 : Int32)) (k := 12289) (by decide) (by omega)
    have a37 := own_ngt (x := x) (b := (55295 : Int32)) (k := 55295) (by decide) (by omega)
    have a38 := own_lt (x := x) (b := (55296 : Int32)) (k := 55296) (by decide) (by omega)
    have a39 := own_lt (x := x) (b := (63744 : Int32)) (k := 63744) (by decide) (by omega)
    have a40 := own_ngt (x := x) (b := (64975 : Int32)) (k := 64975) (by decide) (by omega)
    have a41 := own_lt (x := x) (b := (64976 : Int32)) (k := 64976) (by decide) (by omega)
    have a42 := own_lt (x := x) (b := (65008 : Int32)) (k := 65008) (by decide) (by omega)
    have a43 := own_ngt (x := x) (b := (65533 : Int32)) (k := 65533) (by decide) (by omega)
    have a44 := own_lt (x := x) (b := (65534 : Int32)) (k := 65534) (by decide) (by omega)
    have a45 := own_lt (x := x) (b := (65536 : Int32)) (k := 65536) (by decide) (by omega)
    have a46 := own_ngt (x := x) (b := (983039 : Int32)) (k := 983039) (by decide) (by omega)
    have a47 := own_lt (x := x) (b := (983040 : Int32)) (k := 983040) (by decide) (by omega)
    simp only [F4, F2_201, F2_197, F2_185, F2_173, F2_161, F2_148, F2_134, F2_120, F2_106, F2_92, F2_78, F2_64, F2_50, F2_36, F2_18, F2, F3, if_neg a0, if_neg a1, if_neg a2, if_neg a3, if_neg a4, if_pos a5, if_neg a6, if_pos a7, if_pos a8, if_pos a9, if_neg a10, if_pos a11, if_pos a12, if_neg a13, if_pos a14, if_pos a15, if_neg a16, if_pos a17, if_pos a18, if_neg a19, if_pos a20, if_pos a21, if_neg a22, if_pos a23, if_pos a24, if_neg a25, if_pos a26, if_pos a27, if_neg a28, if_pos a29, if_pos a30, if_neg a31, if_pos a32, if_pos a33, if_neg a34, if_pos a35, if_pos a36, if_neg a37, if_pos a38, if_pos a39, if_neg a40, if_pos a41, if_pos a42, if_neg a43, if_pos a44, if_pos a45, if_neg a46, if_pos a47]
    try decide
  · have a0 := own_nei (x := x) (b := (58 : Int32)) (k := 58) (by decide) (by omega)
    have a1 := own_nlt (x := x) (b := (58 : Int32)) (k := 58) (by decide) (by omega)
    have a2 := own_nlt (x := x) (b := (59 : Int32)) (k := 59) (by decide) (by omega)
    have a3 := own_nlt (x := x) (b := (65 : Int32)) (k := 65) (by decide) (by omega)
    have a4 := own_gt (x := x) (b := (90 : Int32)) (k := 90) (by decide) (by omega)
    have a5 := own_nlt (x := x) (b := (91 : Int32)) (k := 91) (by decide) (by omega)
    have a6 := own_nei (x := x) (b := (95 : Int32)) (k := 95) (by decide) (by omega)
    have a7 := own_lt (x := x) (b := (95 : Int32)) (k := 95) (by decide) (by omega)
    have a8 := own_lt (x := x) (b := (96 : Int32)) (k := 96) (by decide) (by omega)
    have a9 := own_lt (x := x) (b := (97 : Int32)) (k := 97) (by decide) (by omega)
    have a10 := own_ngt (x := x) (b := (122 : Int32)) (k := 122) (by decide) (by omega)
    have a11 := own_lt (x := x) (b := (123 : Int32)) (k := 123) (by decide) (by omega)
    have a12 := own_lt (x := x) (b := (192 : Int32)) (k := 192) (by decide) (by omega)
    have a13 := own_ngt (x := x) (b := (214 : Int32)) (k := 214) (by decide) (by omega)
    have a14 := own_lt (x := x) (b := (215 : Int32)) (k := 215) (by decide) (by omega)
    have a15 := own_lt (x := x) (b := (216 : Int32)) (k := 216) (by decide) (by omega)
    have a16 := own_ngt (x := x) (b := (246 : Int32)) (k := 246) (by decide) (by omega)
    have a17 := own_lt (x := x) (b := (247 : Int32)) (k := 247) (by decide) (by omega)
    have a18 := own_lt (x := x) (b := (248 : Int32)) (k := 248) (by decide) (by omega)
    have a19 := own_ngt (x := x) (b := (767 : Int32)) (k := 767) (by decide) (by omega)
    have a20 := own_lt (x := x) (b := (768 : Int32)) (k := 768) (by decide) (by omega)
    have a21 := own_lt (x := x) (b := (880 : Int32)) (k := 880) (by decide) (by omega)
    have a22 := own_ngt (x := x) (b := (893 : Int32)) (k := 893) (by decide) (by omega)
    have a23 := own_lt (x := x) (b := (894 : Int32)) (k := 894) (by decide) (by omega)
    have a24 := own_lt (x := x) (b := (895 : Int32)) (k := 895) (by decide) (by omega)
    have a25 := own_ngt (x := x) (b := (8191 : Int32)) (k := 8191) (by decide) (by omega)
    have a26 := own_lt (x := x) (b := (8192 : Int32)) (k := 8192) (by decide) (by omega)
    have a27 := own_lt (x := x) (b := (8204 : Int32)) (k := 8204) (by decide) (by omega)
    have a28 := own_ngt (x := x) (b := (8205 : Int32)) (k := 8205) (by decide) (by omega)
    have a29 := own_lt (x := x) (b := (8206 : Int32)) (k := 8206) (by decide) (by omega)
    have a30 := own_lt (x := x) (b := (8304 : Int32)) (k := 8304) (by decide) (by omega)
    have a31 := own_ngt (x := x) (b := (8591 : Int32)) (k := 8591) (by decide) (by omega)
    have a32 := own_lt (x := x) (b := (8592 : Int32)) (k := 8592) (by decide) (by omega)
    have a33 := own_lt (x := x) (b := (11264 : Int32)) (k := 11264) (by decide) (by omega)
    have a34 := own_ngt (x := x) (b := (12271 : Int32)) (k := 12271) (by decide) (by omega)
    have a35 := own_lt (x := x) (b := (12272 : Int32)) (k := 12272) (by decide) (by omega)
    have a36 := own_lt (x := x) (b := (12289 : Int32)) (k := 12289) (by decide) (by omega)
    have a37 := own_ngt (x := x) (b := (55295 : Int32)) (k := 55295) (by decide) (by omega)
    have a38 := own_lt (x := x) (b := (55296 : Int32)) (k := 55296) (by decide) (by omega)
    have a39 := own_lt (x := x) (b := (63744 : Int32)) (k := 63744) (by decide) (by omega)
    have a40 := own_ngt (x := x) (b := (64975 : Int32)) (k := 64975) (by decide) (by omega)
    have a41 := own_lt (x := x) (b := (64976 : Int32)) (k := 64976) (by decide) (by omega)
    have a42 := own_lt (x := x) (b := (65008 : Int32)) (k := 65008) (by decide) (by omega)
    have a43 := own_ngt (x := x) (b := (65533 : Int32)) (k := 65533) (by decide) (by omega)
    have a44 := own_lt (x := x) (b := (65534 : Int32)) (k := 65534) (by decide) (by omega)
    have a45 := own_lt (x := x) (b := (65536 : Int32)) (k := 65536) (by decide) (by omega)
    have a46 := own_ngt (x := x) (b := (983039 : Int32)) (k := 983039) (by decide) (by omega)
    have a47 := own_lt (x := x) (b := (983040 : Int32)) (k := 983040) (by decide) (by omega)
    simp only [F4, F2_201, F2_197, F2_185, F2_173, F2_161, F2_148, F2_134, F2_120, F2_106, F2_92, F2_78, F2_64, F2_50, F2_36, F2_18, F2, F3, if_neg a0, if_neg a1, if_neg a2, if_neg a3, if_pos a4, if_neg a5, if_neg a6, if_pos a7, if_pos a8, if_pos a9, if_neg a10, if_pos a11, if_pos a12, if_neg a13, if_pos a14, if_pos a15, if_neg a16, if_pos a17, if_pos a18, if_neg a19, if_pos a20, if_pos a21, if_neg a22, if_pos a23, if_pos a24, if_neg a25, if_pos a26, if_pos a27, if_neg a28, if_pos a29, if_pos a30, if_neg a31, if_pos a32, if_pos a33, if_neg a34, if_pos a35, if_pos a36, if_neg a37, if_pos a38, if_pos a39, if_neg a40, if_pos a41, if_pos a42, if_neg a43, if_pos a44, if_pos a45, if_neg a46, if_pos a47]
    try decide
  · have a0 := own_nei (x := x) (b := (58 : Int32)) (k := 58) (by decide) (by omega)
    have a1 := own_nlt (x := x) (b := (58 : Int32)) (k := 58) (by decide) (by omega)
    have a2 := own_nlt (x := x) (b := (59 : Int32)) (k := 59) (by decide) (by omega)
    have a3 := own_nlt (x := x) (b := (65 : Int32)) (k := 65) (by decide) (by omega)
    have a4 := own_gt (x := x) (b := (90 : Int32)) (k := 90) (by decide) (by omega)
    have a5 := own_nlt (x := x) (b := (91 : Int32)) (k := 91) (by decide) (by omega)
    have a6 := own_eqi (x := x) (b := (95 : Int32)) (k := 95) (by decide) (by omega)
    have a7 := own_nlt (x := x) (b := (95 : Int32)) (k := 95) (by decide) (by omega)
    have a8 := own_lt (x := x) (b := (96 : Int32)) (k := 96) (by decide) (by omega)
    have a9 := own_lt (x := x) (b := (97 : Int32)) (k := 97) (by decide) (by omega)
    have a10 := own_ngt (x := x) (b := (122 : Int32)) (k := 122) (by decide) (by omega)
    have a11 := own_lt (x := x) (b := (123 : Int32)) (k := 123) (by decide) (by omega)
    have a12 := own_lt (x := x) (b := (192 : Int32)) (k := 192) (by decide) (by omega)
    have a13 := own_ngt (x := x) (b := (214 : Int32)) (k := 214) (by decide) (by omega)
    have a14 := own_lt (x := x) (b := (215 : Int32)) (k := 215) (by decide) (by omega)
    have a15 := own_lt (x := x) (b := (216 : Int32)) (k := 216) (by decide) (by omega)
    have a16 := own_ngt (x := x) (b := (246 : Int32)) (k := 246) (by decide) (by omega)
    have a17 := own_lt (x := x) (b := (247 : Int32)) (k := 247) (by decide) (by omega)
    have a18 := own_lt (x := x) (b := (248 : Int32)) (k := 248) (by decide) (by omega)
    have a19 := own_ngt (x := x) (b := (767 : Int32)) (k := 767) (by decide) (by omega)
    have a20 := own_lt (x := x) (b := (768 : Int32)) (k := 768) (by decide) (by omega)
    have a21 := own_lt (x := x) (b := (880 : Int32)) (k := 880) (by decide) (by omega)
    have a22 := own_ngt (x := x) (b := (893 : Int32)) (k := 893) (by decide) (by omega)
    have a23 := own_lt (x := x) (b := (894 : Int32)) (k := 894) (by decide) (by omega)
    have a24 := own_lt (x := x) (b := (895 : Int32)) (k := 895) (by decide) (by omega)
    have a25 := own_ngt (x := x) (b := (8191 : Int32)) (k := 8191) (by decide) (by omega)
    have a26 := own_lt (x := x) (b := (8192 : Int32)) (k := 8192) (by decide) (by omega)
    have a27 := own_lt (x := x) (b := (8204 : Int32)) (k := 8204) (by decide) (by omega)
    have a28 := own_ngt (x := x) (b := (8205 : Int32)) (k := 8205) (by decide) (by omega)
    have a29 := own_lt (x := x) (b := (8206 : Int32)) (k := 8206) (by decide) (by omega)
    have a30 := own_lt (x := x) (b := (8304 : Int32)) (k := 8304) (by decide) (by omega)
    have a31 := own_ngt (x := x) (b := (8591 : Int32)) (k := 8591) (by decide) (by omega)
    have a32 := own_lt (x := x) (b := (8592 : Int32)) (k := 8592) (by decide) (by omega)
    have a33 := own_lt (x := x) (b := (11264 : Int32)) (k := 11264) (by decide) (by omega)
    have a34 := own_ngt (x := x) (b := (12271 : Int32)) (k := 12271) (by decide) (by omega)
    have a35 := own_lt (x := x) (b := (12272 : Int32)) (k := 12272) (by decide) (by omega)
    have a36 := own_lt (x := x) (b := (12289 : Int32)) (k := 12289) (by decide) (by omega)
    have a37 := own_ngt (x := x) (b := (55295 : Int32)) (k := 55295) (by decide) (by omega)
    have a38 := own_lt (x := x) (b := (55296 : Int32)) (k := 55296) (by decide) (by omega)
    have a39 := own_lt (x := x) (b := (63744 : Int32)) (k := 63744) (by decide) (by omega)
    have a40 := own_ngt (x := x) (b := (64975 : Int32)) (k := 64975) (by decide) (by omega)
    have a41 := own_lt (x := x) (b := (64976 : Int32)) (k := 64976) (by decide) (by omega)
    have a42 := own_lt (x := x) (b := (65008 : Int32)) (k := 65008) (by decide) (by omega)
    have a43 := own_ngt (x := x) (b := (65533 : Int32)) (k := 65533) (by decide) (by omega)
    have a44 := own_lt (x := x) (b := (65534 : Int32)) (k := 65534) (by decide) (by omega)
    have a45 := own_lt (x := x) (b := (65536 : Int32)) (k := 65536) (by decide) (by omega)
    have a46 := own_ngt (x := x) (b := (983039 : Int32)) (k := 983039) (by decide) (by omega)
    have a47 := own_lt (x := x) (b := (983040 : Int32)) (k := 983040) (by decide) (by omega)
    simp only [F4, F2_201, F2_197, F2_185, F2_173, F2_161, F2_148, F2_134, F2_120, F2_106, F2_92, F2_78, F2_64, F2_50, F2_36, F2_18, F2, F3, if_neg a0, if_neg a1, if_neg a2, if_neg a3, if_pos a4, if_neg a5, if_pos a6, if_neg a7, if_pos a8, if_pos a9, if_neg a10, if_pos a11, if_pos a12, if_neg a13, if_pos a14, if_pos a15, if_neg a16, if_pos a17, if_pos a18, if_neg a19, if_pos a20, if_pos a21, if_neg a22, if_pos a23, if_pos a24, if_neg a25, if_pos a26, if_pos a27, if_neg a28, if_pos a29, if_pos a30, if_neg a31, if_pos a32, if_pos a33, if_neg a34, if_pos a35, if_pos a36, if_neg a37, if_pos a38, if_pos a39, if_neg a40, if_pos a41, if_pos a42, if_neg a43, if_pos a44, if_pos a45, if_neg a46, if_pos a47]
    try decide
  · have a0 := own_nei (x := x) (b := (58 : Int32)) (k := 58) (by decide) (by omega)
    have a1 := own_nlt (x := x) (b := (58 : Int32)) (k := 58) (by decide) (by omega)
    have a2 := own_nlt (x := x) (b := (59 : Int32)) (k := 59) (by decide) (by omega)
    have a3 := own_nlt (x := x) (b := (65 : Int32)) (k := 65) (by decide) (by omega)
    have a4 := own_gt (x := x) (b := (90 : Int32)) (k := 90) (by decide) (by omega)
    have a5 := own_nlt (x := x) (b := (91 : Int32)) (k := 91) (by decide) (by omega)
    have a6 := own_nei (x := x) (b := (95 : Int32)) (k := 95) (by decide) (by omega)
    have a7 := own_nlt (x := x) (b := (95 : Int32)) (k := 95) (by decide) (by omega)
    have a8 := own_nlt (x := x) (b := (96 : Int32)) (k := 96) (by decide) (by omega)
    have a9 := own_lt (x := x) (b := (97 : Int32)) (k := 97) (by decide) (by omega)
    have a10 := own_ngt (x := x) (b := (122 : Int32)) (k := 122) (by decide) (by omega)
    have a11 := own_lt (x := x) (b := (123 : Int32)) (k := 123) (by decide) (by omega)
    have a12 := own_lt (x := x) (b := (192 : Int32)) (k := 192) (by decide) (by omega)
    have a13 := own_ngt (x := x) (b := (214 : Int32)) (k := 214) (by decide) (by omega)
    have a14 := own_lt (x := x) (b := (215 : Int32)) (k := 215) (by decide) (by omega)
    have a15 := own_lt (x := x) (b := (216 : Int32)) (k := 216) (by decide) (by omega)
    have a16 := own_ngt (x := x) (b := (246 : Int32)) (k := 246) (by decide) (by omega)
    have a17 := own_lt (x := x) (b := (247 : Int32)) (k := 247) (by decide) (by omega)
    have a18 := own_lt (x := x) (b := (248 : Int32)) (k := 248) (by decide) (by omega)
    have a19 := own_ngt (x := x) (b := (767 : Int32)) (k := 767) (by decide) (by omega)
    have a20 := own_lt (x := x) (b := (768 : Int32)) (k := 768) (by decide) (by omega)
    have a21 := own_lt (x := x) (b := (880 : Int32)) (k := 880) (by decide) (by omega)
    have a22 := own_ngt (x := x) (b := (893 : Int32)) (k := 893) (by decide) (by omega)
    have a23 := own_lt (x := x) (b := (894 : Int32)) (k := 894) (by decide) (by omega)
    have a24 := own_lt (x := x) (b := (895 : Int32)) (k := 895) (by decide) (by omega)
    have a25 := own_ngt (x := x) (b := (8191 : Int32)) (k := 8191) (by decide) (by omega)
    have a26 := own_lt (x := x) (b := (8192 : Int32)) (k := 8192) (by decide) (by omega)
    have a27 := own_lt (x := x) (b := (8204 : Int32)) (k := 8204) (by decide) (by omega)
    have a28 := own_ngt (x := x) (b := (8205 : Int32)) (k := 8205) (by decide) (by omega)
    have a29 := own_lt (x := x) (b := (8206 : Int32)) (k := 8206) (by decide) (by omega)
    have a30 := own_lt (x := x) (b := (8304 : Int32)) (k := 8304) (by decide) (by omega)
    have a31 := own_ngt (x := x) (b := (8591 : Int32)) (k := 8591) (by decide) (by omega)
    have a32 := own_lt (x := x) (b := (8592 : Int32)) (k := 8592) (by decide) (by omega)
    have a33 := own_lt (x := x) (b := (11264 : Int32)) (k := 11264) (by decide) (by omega)
    have a34 := own_ngt (x := x) (b := (12271 : Int32)) (k := 12271) (by decide) (by omega)
    have a35 := own_lt (x := x) (b := (12272 : Int32)) (k := 12272) (by decide) (by omega)
    have a36 := own_lt (x := x) (b := (12289 : Int32)) (k := 12289) (by decide) (by omega)
    have a37 := own_ngt (x := x) (b := (55295 : Int32)) (k := 55295) (by decide) (by omega)
    have a38 := own_lt (x := x) (b := (55296 : Int32)) (k := 55296) (by decide) (by omega)
    have a39 := own_lt (x := x) (b := (63744 : Int32)) (k := 63744) (by decide) (by omega)
    have a40 := own_ngt (x := x) (b := (64975 : Int32)) (k := 64975) (by decide) (by omega)
    have a41 := own_lt (x := x) (b := (64976 : Int32)) (k := 64976) (by decide) (by omega)
    have a42 := own_lt (x := x) (b := (65008 : Int32)) (k := 65008) (by decide) (by omega)
    have a43 := own_ngt (x := x) (b := (65533 : Int32)) (k := 65533) (by decide) (by omega)
    have a44 := own_lt (x := x) (b := (65534 : Int32)) (k := 65534) (by decide) (by omega)
    have a45 := own_lt (x := x) (b := (65536 : Int32)) (k := 65536) (by decide) (by omega)
    have a46 := own_ngt (x := x) (b := (983039 : Int32)) (k := 983039) (by decide) (by omega)
    have a47 := own_lt (x := x) (b := (983040 : Int32)) (k := 983040) (by decide) (by omega)
    simp only [F4, F2_201, F2_197, F2_185, F2_173, F2_161, F2_148, F2_134, F2_120, F2_106, F2_92, F2_78, F2_64, F2_50, F2_36, F2_18, F2, F3, if_neg a0, if_neg a1, if_neg a2, if_neg a3, if_pos a4, if_neg a5, if_neg a6, if_neg a7, if_neg a8, if_pos a9, if_neg a10, if_pos a11, if_pos a12, if_neg a13, if_pos a14, if_pos a15, if_neg a16, if_pos a17, if_pos a18, if_neg a19, if_pos a20, if_pos a21, if_neg a22, if_pos a23, if_pos a24, if_neg a25, if_pos a26, if_pos a27, if_neg a28, if_pos a29, if_pos a30, if_neg a31, if_pos a32, if_pos a33, if_neg a34, if_pos a35, if_pos a36, if_neg a37, if_pos a38, if_pos a39, if_neg a40, if_pos a41, if_pos a42, if_neg a43, if_pos a44, if_pos a45, if_neg a46, if_pos a47]
    try decide
  · have a0 := own_nei (x := x) (b := (58 : Int32)) (k := 58) (by decide) (by omega)
    have a1 := own_nlt (x := x) (b := (58 : Int32)) (k := 58) (by decide) (by omega)
    have a2 := own_nlt (x := x) (b := (59 : Int32)) (k := 59) (by decide) (by omega)
    have a3 := own_nlt (x := x) (b := (65 : Int32)) (k := 65) (by decide) (by omega)
    have a4 := own_gt (x := x) (b := (90 : Int32)) (k := 90) (by decide) (by omega)
    have a5 := own_nlt (x := x) (b := (91 : Int32)) (k := 91) (by decide) (by omega)
    have a6 := own_nei (x := x) (b := (95 : Int32)) (k := 95) (by decide) (by omega)
    have a7 := own_nlt (x := x) (b := (95 : Int32)) (k := 95) (by decide) (by omega)
    have a8 := own_nlt (x := x) (b := (96 : Int32)) (k := 96) (by decide) (by omega)
    have a9 := own_nlt (x := x) (b := (97 : Int32)) (k := 97) (by decide) (by omega)
    have a10 := own_ngt (x := x) (b := (122 : Int32)) (k := 122) (by decide) (by omega)
    have a11 := own_lt (x := x) (b := (123 : Int32)) (k := 123) (by decide) (by omega)
    have a12 := own_lt (x := x) (b := (192 : Int32)) (k := 192) (by decide) (by omega)
    have a13 := own_ngt (x := x) (b := (214 : Int32)) (k := 214) (by decide) (by omega)
    have a14 := own_lt (x := x) (b := (215 : Int32)) (k := 215) (by decide) (by omega)
    have a15 := own_lt (x := x) (b := (216 : Int32)) (k := 216) (by decide) (by omega)
    have a16 := own_ngt (x := x) (b := (246 : Int32)) (k := 246) (by decide) (by omega)
    have a17 := own_lt (x := x) (b := (247 : Int32)) (k := 247) (by decide) (by omega)
    have a18 := own_lt (x := x) (b := (248 : Int32)) (k := 248) (by decide) (by omega)
    have a19 := own_ngt (x := x) (b := (767 : Int32)) (k := 767) (by decide) (by omega)
    have a20 := own_lt (x := x) (b := (768 : Int32)) (k := 768) (by decide) (by omega)
    have a21 := own_lt (x := x) (b := (880 : Int32)) (k := 880) (by decide) (by omega)
    have a22 := own_ngt (x := x) (b := (893 : Int32)) (k := 893) (by decide) (by omega)
    have a23 := own_lt (x := x) (b := (894 : Int32)) (k := 894) (by decide) (by omega)
    have a24 := own_lt (x := x) (b := (895 : Int32)) (k := 895) (by decide) (by omega)
    have a25 := own_ngt (x := x) (b := (8191 : Int32)) (k := 8191) (by decide) (by omega)
    have a26 := own_lt (x := x) (b := (8192 : Int32)) (k := 8192) (by decide) (by omega)
    have a27 := own_lt (x := x) (b := (8204 : Int32)) (k := 8204) (by decide) (by omega)
    have a28 := own_ngt (x := x) (b := (8205 : Int32)) (k := 8205) (by decide) (by omega)
    have a29 := own_lt (x := x) (b := (8206 : Int32)) (k := 8206) (by decide) (by omega)
    have a30 := own_lt (x := x) (b := (8304 : Int32)) (k := 8304) (by decide) (by omega)
    have a31 := own_ngt (x := x) (b := (8591 : Int32)) (k := 8591) (by decide) (by omega)
    have a32 := own_lt (x := x) (b := (8592 : Int32)) (k := 8592) (by decide) (by omega)
    have a33 := own_lt (x := x) (b := (11264 : Int32)) (k := 11264) (by decide) (by omega)
    have a34 := own_ngt (x := x) (b := (12271 : Int32)) (k := 12271) (by decide) (by omega)
    have a35 := own_lt (x := x) (b := (12272 : Int32)) (k := 12272) (by decide) (by omega)
    have a36 := own_lt (x := x) (b := (12289 : Int32)) (k := 12289) (by decide) (by omega)
    have a37 := own_ngt (x := x) (b := (55295 : Int32)) (k := 55295) (by decide) (by omega)
    have a38 := own_lt (x := x) (b := (55296 : Int32)) (k := 55296) (by decide) (by omega)
    have a39 := own_lt (x := x) (b := (63744 : Int32)) (k := 63744) (by decide) (by omega)
    have a40 := own_ngt (x := x) (b := (64975 : Int32)) (k := 64975) (by decide) (by omega)
    have a41 := own_lt (x := x) (b := (64976 : Int32)) (k := 64976) (by decide) (by omega)
    have a42 := own_lt (x := x) (b := (65008 : Int32)) (k := 65008) (by decide) (by omega)
    have a43 := own_ngt (x := x) (b := (65533 : Int32)) (k := 65533) (by decide) (by omega)
    have a44 := own_lt (x := x) (b := (65534 : Int32)) (k := 65534) (by decide) (by omega)
    have a45 := own_lt (x := x) (b := (65536 : Int32)) (k := 65536) (by decide) (by omega)
    have a46 := own_ngt (x := x) (b := (983039 : Int32)) (k := 983039) (by decide) (by omega)
    have a47 := own_lt (x := x) (b := (983040 : Int32)) (k := 983040) (by decide) (by omega)
    simp only [F4, F2_201, F2_197, F2_185, F2_173, F2_161, F2_148, F2_134, F2_120, F2_106, F2_92, F2_78, F2_64, F2_50, F2_36, F2_18, F2, F3, if_neg a0, if_neg a1, if_neg a2, if_neg a3, if_pos a4, if_neg a5, if_neg a6, if_neg a7, if_neg a8, if_neg a9, if_neg a10, if_pos a11, if_pos a12, if_neg a13, if_pos a14, if_pos a15, if_neg a16, if_pos a17, if_pos a18, if_neg a19, if_pos a20, if_pos a21, if_neg a22, if_pos a23, if_pos a24, if_neg a25, if_pos a26, if_pos a27, if_neg a28, if_pos a29, if_pos a30, if_neg a31, if_pos a32, if_pos a33, if_neg a34, if_pos a35, if_pos a36, if_neg a37, if_pos a38, if_pos a39, if_neg a40, if_pos a41, if_pos a42, if_neg a43, if_pos a44, if_pos a45, if_neg a46, if_pos a47]
    try decide
  · have a0 := own_nei (x := x) (b := (58 : Int32)) (k := 58) (by decide) (by omega)
    have a1 := own_nlt (x := x) (b := (58 : Int32)) (k := 58) (by decide) (by omega)
    have a2 := own_nlt (x := x) (b := (59 : Int32)) (k := 59) (by decide) (by omega)
    have a3 := own_nlt (x := x) (b := (65 : Int32)) (k := 65) (by decide) (by omega)
    have a4 := own_gt (x := x) (b := (90 : Int32)) (k := 90) (by decide) (by omega)
    have a5 := own_nlt (x := x) (b := (91 : Int32)) (k := 91) (by decide) (by omega)
    have a6 := own_nei (x := x) (b := (95 : Int32)) (k := 95) (by decide) (by omega)
    have a7 := own_nlt (x := x) (b := (95 : Int32)) (k := 95) (by decide) (by omega)
    have a8 := own_nlt (x := x) (b := (96 : Int32)) (k := 96) (by decide) (by omega)
    have a9 := own_nlt (x := x) (b := (97 : Int32)) (k := 97) (by decide) (by omega)
    have a10 := own_gt (x := x) (b := (122 : Int32)) (k := 122) (by decide) (by omega)
    have a11 := own_nlt (x := x) (b := (123 : Int32)) (k := 123) (by decide) (by omega)
    have a12 := own_lt (x := x) (b := (192 : Int32)) (k := 192) (by decide) (by omega)
    have a13 := own_ngt (x := x) (b := (214 : Int32)) (k := 214) (by decide) (by omega)
    have a14 := own_lt (x := x) (b := (215 : Int32)) (k := 215) (by decide) (by omega)
    have a15 := own_lt (x := x) (b := (216 : Int32)) (k := 216) (by decide) (by omega)
    have a16 := own_ngt (x := x) (b := (246 : Int32)) (k := 246) (by decide) (by omega)
    have a17 := own_lt (x := x) (b := (247 : Int32)) (k := 247) (by decide) (by omega)
    have a18 := own_lt (x := x) (b := (248 : Int32)) (k := 248) (by decide) (by omega)
    have a19 := own_ngt (x := x) (b := (767 : Int32)) (k := 767) (by decide) (by omega)
    have a20 := own_lt (x := x) (b := (768 : Int32)) (k := 768) (by decide) (by omega)
    have a21 := own_lt (x := x) (b := (880 : Int32)) (k := 880) (by decide) (by omega)
    have a22 := own_ngt (x := x) (b := (893 : Int32)) (k := 893) (by decide) (by omega)
    have a23 := own_lt (x := x) (b := (894 : Int32)) (k := 894) (by decide) (by omega)
    have a24 := own_lt (x := x) (b := (895 : Int32)) (k := 895) (by decide) (by omega)
    have a25 := own_ngt (x := x) (b := (8191 : Int32)) (k := 8191) (by decide) (by omega)
    have a26 := own_lt (x := x) (b := (8192 : Int32)) (k := 8192) (by decide) (by omega)
    have a27 := own_lt (x := x) (b := (8204 : Int32)) (k := 8204) (by decide) (by omega)
    have a28 := own_ngt (x := x) (b := (8205 : Int32)) (k := 8205) (by decide) (by omega)
    have a29 := own_lt (x := x) (b := (8206 : Int32)) (k := 8206) (by decide) (by omega)
    have a30 := own_lt (x := x) (b := (8304 : Int32)) (k := 8304) (by decide) (by omega)
    have a31 := own_ngt (x := x) (b := (8591 : Int32)) (k := 8591) (by decide) (by omega)
    have a32 := own_lt (x := x) (b := (8592 : Int32)) (k := 8592) (by decide) (by omega)
    have a33 := own_lt (x := x) (b := (11264 : Int32)) (k := 11264) (by decide) (by omega)
    have a34 := own_ngt (x := x) (b := (12271 : Int32)) (k := 12271) (by decide) (by omega)
    have a35 := own_lt (x := x) (b := (12272 : Int32)) (k := 12272) (by decide) (by omega)
    have a36 := own_lt (x := x) (b := (12289 : Int32)) (k := 12289) (by decide) (by omega)
    have a37 := own_ngt (x := x) (b := (55295 : Int32)) (k := 55295) (by decide) (by omega)
    have a38 := own_lt (x := x) (b := (55296 : Int32)) (k := 55296) (by decide) (by omega)
    have a39 := own_lt (x := x) (b := (63744 : Int32)) (k := 63744) (by decide) (by omega)
    have a40 := own_ngt (x := x) (b := (64975 : Int32)) (k := 64975) (by decide) (by omega)
    have a41 := own_lt (x := x) (b := (64976 : Int32)) (k := 64976) (by decide) (by omega)
    have a42 := own_lt (x := x) (b := (65008 : Int32)) (k := 65008) (by decide) (by omega)
    have a43 := own_ngt (x := x) (b := (65533 : Int32)) (k := 65533) (by decide) (by omega)
    have a44 := own_lt (x := x) (b := (65534 : Int32)) (k := 65534) (by decide) (by omega)
    have a45 := own_lt (x := x) (b := (65536 : Int32)) (k := 65536) (by decide) (by omega)
    have a46 := own_ngt (x := x) (b := (983039 : Int32)) (k := 983039) (by decide) (by omega)
    have a47 := own_lt (x := x) (b := (983040 : Int32)) (k := 983040) (by decide) (by omega)
    simp only [F4, F2_201, F2_197, F2_185, F2_173, F2_161, F2_148, F2_134, F2_120, F2_106, F2_92, F2_78, F2_64, F2_50, F2_36, F2_18, F2, F3, if_neg a0, if_neg a1, if_neg a2, if_neg a3, if_pos a4, if_neg a5, if_neg a6, if_neg a7, if_neg a8, if_neg a9, if_pos a10, if_neg a11, if_pos a12, if_neg a13, if_pos a14, if_pos a15, if_neg a16, if_pos a17, if_pos a18, if_neg a19, if_pos a20, if_pos a21, if_neg a22, if_pos a23, if_pos a24, if_neg a25, if_pos a26, if_pos a27, if_neg a28, if_pos a29, if_pos a30, if_neg a31, if_pos a32, if_pos a33, if_neg a34, if_pos a35, if_pos a36, if_neg a37, if_pos a38, if_pos a39, if_neg a40, if_pos a41, if_pos a42, if_neg a43, if_pos a44, if_pos a45, if_neg a46, if_pos a47]
    try decide
  · have a0 := own_nei (x := x) (b := (58 : Int32)) (k := 58) (by decide) (by omega)
    have a1 := own_nlt (x := x) (b := (58 : Int32)) (k := 58) (by decide) (by omega)
    have a2 := own_nlt (x := x) (b := (59 : Int32)) (k := 59) (by decide) (by omega)
    have a3 := own_nlt (x := x) (b := (65 : Int32)) (k := 65) (by decide) (by omega)
    have a4 := own_gt (x := x) (b := (90 : Int32)) (k := 90) (by decide) (by omega)
    have a5 := own_nlt (x := x) (b := (91 : Int32)) (k := 91) (by decide) (by omega)
    have a6 := own_nei (x := x) (b := (95 : Int32)) (k := 95) (by decide) (by omega)
    have a7 := own_nlt (x := x) (b := (95 : Int32)) (k := 95) (by decide) (by omega)
    have a8 := own_nlt (x := x) (b := (96 : Int32)) (k := 96) (by decide) (by omega)
    have a9 := own_nlt (x := x) (b := (97 : Int32)) (k := 97) (by decide) (by omega)
    have a10 := own_gt (x := x) (b := (122 : Int32)) (k := 122) (by decide) (by omega)
    have a11 := own_nlt (x := x) (b := (123 : Int32)) (k := 123) (by decide) (by omega)
    have a12 := own_nlt (x := x) (b := (192 : Int32)) (k := 192) (by decide) (by omega)
    have a13 := own_ngt (x := x) (b := (214 : Int32)) (k := 214) (by decide) (by omega)
    have a14 := own_lt (x := x) (b := (215 : Int32)) (k := 215) (by decide) (by omega)
    have a15 := own_lt (x := x) (b := (216 : Int32)) (k := 216) (by decide) (by omega)
    have a16 := own_ngt (x := x) (b := (246 : Int32)) (k := 246) (by decide) (by omega)
    have a17 := own_lt (x := x) (b := (247 : Int32)) (k := 247) (by decide) (by omega)
    have a18 := own_lt (x := x) (b := (248 : Int32)) (k := 248) (by decide) (by omega)
    have a19 := own_ngt (x := x) (b := (767 : Int32)) (k := 767) (by decide) (by omega)
    have a20 := own_lt (x := x) (b := (768 : Int32)) (k := 768) (by decide) (by omega)
    have a21 := own_lt (x := x) (b := (880 : Int32)) (k := 880) (by decide) (by omega)
    have a22 := own_ngt (x := x) (b := (893 : Int32)) (k := 893) (by decide) (by omega)
    have a23 := own_lt (x := x) (b := (894 : Int32)) (k := 894) (by decide) (by omega)
    have a24 := own_lt (x := x) (b := (895 : Int32)) (k := 895) (by decide) (by omega)
    have a25 := own_ngt (x := x) (b := (8191 : Int32)) (k := 8191) (by decide) (by omega)
    have a26 := own_lt (x := x) (b := (8192 : Int32)) (k := 8192) (by decide) (by omega)
    have a27 := own_lt (x := x) (b := (8204 : Int32)) (k := 8204) (by decide) (by omega)
    have a28 := own_ngt (x := x) (b := (8205 : Int32)) (k := 8205) (by decide) (by omega)
    have a29 := own_lt (x := x) (b := (8206 : Int32)) (k := 8206) (by decide) (by omega)
    have a30 := own_lt (x := x) (b := (8304 : Int32)) (k := 8304) (by decide) (by omega)
    have a31 := own_ngt (x := x) (b := (8591 : Int32)) (k := 8591) (by decide) (by omega)
    have a32 := own_lt (x := x) (b := (8592 : Int32)) (k := 8592) (by decide) (by omega)
    have a33 := own_lt (x := x) (b := (11264 : Int32)) (k := 11264) (by decide) (by omega)
    have a34 := own_ngt (x := x) (b := (12271 : Int32)) (k := 12271) (by decide) (by omega)
    have a35 := own_lt (x := x) (b := (12272 : Int32)) (k := 12272) (by decide) (by omega)
    have a36 := own_lt (x := x) (b := (12289 : Int32)) (k := 12289) (by decide) (by omega)
    have a37 := own_ngt (x := x) (b := (55295 : Int32)) (k := 55295) (by decide) (by omega)
    have a38 := own_lt (x := x) (b := (55296 : Int32)) (k := 55296) (by decide) (by omega)
    have a39 := own_lt (x := x) (b := (63744 : Int32)) (k := 63744) (by decide) (by omega)
    have a40 := own_ngt (x := x) (b := (64975 : Int32)) (k := 64975) (by decide) (by omega)
    have a41 := own_lt (x := x) (b := (64976 : Int32)) (k := 64976) (by decide) (by omega)
    have a42 := own_lt (x := x) (b := (65008 : Int32)) (k := 65008) (by decide) (by omega)
    have a43 := own_ngt (x := x) (b := (65533 : Int32)) (k := 65533) (by decide) (by omega)
    have a44 := own_lt (x := x) (b := (65534 : Int32)) (k := 65534) (by decide) (by omega)
    have a45 := own_lt (x := x) (b := (65536 : Int32)) (k := 65536) (by decide) (by omega)
    have a46 := own_ngt (x := x) (b := (983039 : Int32)) (k := 983039) (by decide) (by omega)
    have a47 := own_lt (x := x) (b := (983040 : Int32)) (k := 983040) (by decide) (by omega)
    simp only [F4, F2_201, F2_197, F2_185, F2_173, F2_161, F2_148, F2_134, F2_120, F2_106, F2_92, F2_78, F2_64, F2_50, F2_36, F2_18, F2, F3, if_neg a0, if_neg a1, if_neg a2, if_neg a3, if_pos a4, if_neg a5, if_neg a6, if_neg a7, if_neg a8, if_neg a9, if_pos a10, if_neg a11, if_neg a12, if_neg a13, if_pos a14, if_pos a15, if_neg a16, if_pos a17, if_pos a18, if_neg a19, if_pos a20, if_pos a21, if_neg a22, if_pos a23, if_pos a24, if_neg a25, if_pos a26, if_pos a27, if_neg a28, if_pos a29, if_pos a30, if_neg a31, if_pos a32, if_pos a33, if_neg a34, if_pos a35, if_pos a36, if_neg a37, if_pos a38, if_pos a39, if_neg a40, if_pos a41, if_pos a42, if_neg a43, if_pos a44, if_pos a45, if_neg a46, if_pos a47]
    try decide
  · have a0 := own_nei (x := x) (b := (58 : Int32)) (k := 58) (by decide) (by omega)
    have a1 := own_nlt (x := x) (b := (58 : Int32)) (k := 58) (by decide) (by omega)
    have a2 := own_nlt (x := x) (b := (59 : Int32)) (k := 59) (by decide) (by omega)
    have a3 := own_nlt (x := x) (b := (65 : Int32)) (k := 65) (by decide) (by omega)
    have a4 := own_gt (x := x) (b := (90 : Int32)) (k := 90) (by decide) (by omega)
    have a5 := own_nlt (x := x) (b := (91 : Int32)) (k := 91) (by decide) (by omega)
    have a6 := own_nei (x := x) (b := (95 : Int32)) (k := 95) (by decide) (by omega)
    have a7 := own_nlt (x := x) (b := (95 : Int32)) (k := 95) (by decide) (by omega)
    have a8 := own_nlt (x := x) (b := (96 : Int32)) (k := 96) (by decide) (by omega)
    have a9 := own_nlt (x := x) (b := (97 : Int32)) (k := 97) (by decide) (by omega)
    have a10 := own_gt (x := x) (b := (122 : Int32)) (k := 122) (by decide) (by omega)
    have a11 := own_nlt (x := x) (b := (123 : Int32)) (k := 123) (by decide) (by omega)
    have a12 := own_nlt (x := x) (b := (192 : Int32)) (k := 192) (by decide) (by omega)
    have a13 := own_gt (x := x) (b := (214 : Int32)) (k := 214) (by decide) (by omega)
    have a14 := own_nlt (x := x) (b := (215 : Int32)) (k := 215) (by decide) (by omega)
    have a15 := own_lt (x := x) (b := (216 : Int32)) (k := 216) (by decide) (by omega)
    have a16 := own_ngt (x := x) (b := (246 : Int32)) (k := 246) (by decide) (by omega)
    have a17 := own_lt (x := x) (b := (247 : Int32)) (k := 247) (by decide) (by omega)
    have a18 := own_lt (x := x) (b := (248 : Int32)) (k := 248) (by decide) (by omega)
    have a19 := own_ngt (x := x) (b := (767 : Int32)) (k := 767) (by decide) (by omega)
    have a20 := own_lt (x := x) (b := (768 : Int32)) (k := 768) (by decide) (by omega)
    have a21 := own_lt (x := x) (b := (880 : Int32)) (k := 880) (by decide) (by omega)
    have a22 := own_ngt (x := x) (b := (893 : Int32)) (k := 893) (by decide) (by omega)
    have a23 := own_lt (x := x) (b := (894 : Int32)) (k := 894) (by decide) (by omega)
    have a24 := own_lt (x := x) (b := (895 : Int32)) (k := 895) (by decide) (by omega)
    have a25 := own_ngt (x := x) (b := (8191 : Int32)) (k := 8191) (by decide) (by omega)
    have a26 := own_lt (x := x) (b := (8192 : Int32)) (k := 8192) (by decide) (by omega)
    have a27 := own_lt (x := x) (b := (8204 : Int32)) (k := 8204) (by decide) (by omega)
    have a28 := own_ngt (x := x) (b := (8205 : Int32)) (k := 8205) (by decide) (by omega)
    have a29 := own_lt (x := x) (b := (8206 : Int32)) (k := 8206) (by decide) (by omega)
    have a30 := own_lt (x := x) (b := (8304 : Int32)) (k := 8304) (by decide) (by omega)
    have a31 := own_ngt (x := x) (b := (8591 : Int32)) (k := 8591) (by decide) (by omega)
    have a32 := own_lt (x := x) (b := (8592 : Int32)) (k := 8592) (by decide) (by omega)
    have a33 := own_lt (x := x) (b := (11264 : Int32)) (k := 11264) (by decide) (by omega)
    have a34 := own_ngt (x := x) (b := (12271 : Int32)) (k := 12271) (by decide) (by omega)
    have a35 := own_lt (x := x) (b := (12272 : Int32)) (k := 12272) (by decide) (by omega)
    have a36 := own_lt (x := x) (b := (12289 : Int32)) (k := 12289) (by decide) (by omega)
    have a37 := own_ngt (x := x) (b := (55295 : Int32)) (k := 55295) (by decide) (by omega)
    have a38 := own_lt (x := x) (b := (55296 : Int32)) (k := 55296) (by decide) (by omega)
    have a39 := own_lt (x := x) (b := (63744 : Int32)) (k := 63744) (by decide) (by omega)
    have a40 := own_ngt (x := x) (b := (64975 : Int32)) (k := 64975) (by decide) (by omega)
    have a41 := own_lt (x := x) (b := (64976 : Int32)) (k := 64976) (by decide) (by omega)
    have a42 := own_lt (x := x) (b := (65008 : Int32)) (k := 65008) (by decide) (by omega)
    have a43 := own_ngt (x := x) (b := (65533 : Int32)) (k := 65533) (by decide) (by omega)
    have a44 := own_lt (x := x) (b := (65534 : Int32)) (k := 65534) (by decide) (by omega)
    have a45 := own_lt (x := x) (b := (65536 : Int32)) (k := 65536) (by decide) (by omega)
    have a46 := own_ngt (x := x) (b := (983039 : Int32)) (k := 983039) (by decide) (by omega)
    have a47 := own_lt (x := x) (b := (983040 : Int32)) (k := 983040) (by decide) (by omega)
    simp only [F4, F2_201, F2_197, F2_185, F2_173, F2_161, F2_148, F2_134, F2_120, F2_106, F2_92, F2_78, F2_64, F2_50, F2_36, F2_18, F2, F3, if_neg a0, if_neg a1, if_neg a2, if_neg a3, if_pos a4, if_neg a5, if_neg a6, if_neg a7, if_neg a8, if_neg a9, if_pos a10, if_neg a11, if_neg a12, if_pos a13, if_neg a14, if_pos a15, if_neg a16, if_pos a17, if_pos a18, if_neg a19, if_pos a20, if_pos a21, if_neg a22, if_pos a23, if_pos a24, if_neg a25, if_pos a26, if_pos a27, if_neg a28, if_pos a29, if_pos a30, if_neg a31, if_pos a32, if_pos a33, if_neg a34, if_pos a35, if_pos a36, if_neg a37, if_pos a38, if_pos a39, if_neg a40, if_pos a41, if_pos a42, if_neg a43, if_pos a44, if_pos a45, if_neg a46, if_pos a47]
    try decide
  · have a0 := own_nei (x := x) (b := (58 : Int32)) (k := 58) (by decide) (by omega)
    have a1 := own_nlt (x := x) (b := (58 : Int32)) (k := 58) (by decide) (by omega)
    have a2 := own_nlt (x := x) (b := (59 : Int32)) (k := 59) (by decide) (by omega)
    have a3 := own_nlt (x := x) (b := (65 : Int32)) (k := 65) (by decide) (by omega)
    have a4 := own_gt (x := x) (b := (90 : Int32)) (k := 90) (by decide) (by omega)
    have a5 := own_nlt (x := x) (b := (91 : Int32)) (k := 91) (by decide) (by omega)
    have a6 := own_nei (x := x) (b := (95 : Int32)) (k := 95) (by decide) (by omega)
    have a7 := own_nlt (x := x) (b := (95 : Int32)) (k := 95) (by decide) (by omega)
    have a8 := own_nlt (x := x) (b := (96 : Int32)) (k := 96) (by decide) (by omega)
    have a9 := own_nlt (x := x) (b := (97 : Int32)) (k := 97) (by decide) (by omega)
    have a10 := own_gt (x := x) (b := (122 : Int32)) (k := 122) (by decide) (by omega)
    have a11 := own_nlt (x := x) (b := (123 : Int32)) (k := 123) (by decide) (by omega)
    have a12 := own_nlt (x := x) (b := (192 : Int32)) (k := 192) (by decide) (by omega)
    have a13 := own_gt (x := x) (b := (214 : Int32)) (k := 214) (by decide) (by omega)
    have a14 := own_nlt (x := x) (b := (215 : Int32)) (k := 215) (by decide) (by omega)
    have a15 := own_nlt (x := x) (b := (216 : Int32)) (k := 216) (by decide) (by omega)
    have a16 := own_ngt (x := x) (b := (246 : Int32)) (k := 246) (by decide) (by omega)
    have a17 := own_lt (x := x) (b := (247 : Int32)) (k := 247) (by decide) (by omega)
    have a18 := own_lt (x := x) (b := (248 : Int32)) (k := 248) (by decide) (by omega)
    have a19 := own_ngt (x := x) (b := (767 : Int32)) (k := 767) (by decide) (by omega)
    have a20 := own_lt (x := x) (b := (768 : Int32)) (k := 768) (by decide) (by omega)
    have a21 := own_lt (x := x) (b := (880 : Int32)) (k := 880) (by decide) (by omega)
    have a22 := own_ngt (x := x) (b := (893 : Int32)) (k := 893) (by decide) (by omega)
    have a23 := own_lt (x := x) (b := (894 : Int32)) (k := 894) (by decide) (by omega)
    have a24 := own_lt (x := x) (b := (895 : Int32)) (k := 895) (by decide) (by omega)
    have a25 := own_ngt (x := x) (b := (8191 : Int32)) (k := 8191) (by decide) (by omega)
    have a26 := own_lt (x := x) (b := (8192 : Int32)) (k := 8192) (by decide) (by omega)
    have a27 := own_lt (x := x) (b := (8204 : Int32)) (k := 8204) (by decide) (by omega)
    have a28 := own_ngt (x := x) (b := (8205 : Int32)) (k := 8205) (by decide) (by omega)
    have a29 := own_lt (x := x) (b := (8206 : Int32)) (k := 8206) (by decide) (by omega)
    have a30 := own_lt (x := x) (b := (8304 : Int32)) (k := 8304) (by decide) (by omega)
    have a31 := own_ngt (x := x) (b := (8591 : Int32)) (k := 8591) (by decide) (by omega)
    have a32 := own_lt (x := x) (b := (8592 : Int32)) (k := 8592) (by decide) (by omega)
    have a33 := own_lt (x := x) (b := (11264 : Int32)) (k := 11264) (by decide) (by omega)
    have a34 := own_ngt (x := x) (b := (12271 : Int32)) (k := 12271) (by decide) (by omega)
    have a35 := own_lt (x := x) (b := (12272 : Int32)) (k := 12272) (by decide) (by omega)
    have a36 := own_lt (x := x) (b := (12289 : Int32)) (k := 12289) (by decide) (by omega)
    have a37 := own_ngt (x := x) (b := (55295 : Int32)) (k := 55295) (by decide) (by omega)
    have a38 := own_lt (x := x) (b := (55296 : Int32)) (k := 55296) (by decide) (by omega)
    have a39 := own_lt (x := x) (b := (63744 : Int32)) (k := 63744) (by decide) (by omega)
    have a40 := own_ngt (x := x) (b := (64975 : Int32)) (k := 64975) (by decide) (by omega)
    have a41 := own_lt (x := x) (b := (64976 : Int32)) (k := 64976) (by decide) (by omega)
    have a42 := own_lt (x := x) (b := (65008 : Int32)) (k := 65008) (by decide) (by omega)
    have a43 := own_ngt (x := x) (b := (65533 : Int32)) (k := 65533) (by decide) (by omega)
    have a44 := own_lt (x := x) (b := (65534 : Int32)) (k := 65534) (by decide) (by omega)
    have a45 := own_lt (x := x) (b := (65536 : Int32)) (k := 65536) (by decide) (by omega)
    have a46 := own_ngt (x := x) (b := (983039 : Int32)) (k := 983039) (by decide) (by omega)
    have a47 := own_lt (x := x) (b := (983040 : Int32)) (k := 983040) (by decide) (by omega)
    simp only [F4, F2_201, F2_197, F2_185, F2_173, F2_161, F2_148, F2_134, F2_120, F2_106, F2_92, F2_78, F2_64, F2_50, F2_36, F2_18, F2, F3, if_neg a0, if_neg a1, if_neg a2, if_neg a3, if_pos a4, if_neg a5, if_neg a6, if_neg a7, if_neg a8, if_neg a9, if_pos a10, if_neg a11, if_neg a12, if_pos a13, if_neg a14, if_neg a15, if_neg a16, if_pos a17, if_pos a18, if_neg a19, if_pos a20, if_pos a21, if_neg a22, if_pos a23, if_pos a24, if_neg a25, if_pos a26, if_pos a27, if_neg a28, if_pos a29, if_pos a30, if_neg a31, if_pos a32, if_pos a33, if_neg a34, if_pos a35, if_pos a36, if_neg a37, if_pos a38, if_pos a39, if_neg a40, if_pos a41, if_pos a42, if_neg a43, if_pos a44, if_pos a45, if_neg a46, if_pos a47]
    try decide
  · have a0 := own_nei (x := x) (b := (58 : Int32)) (k := 58) (by decide) (by omega)
    have a1 := own_nlt (x := x) (b := (58 : Int32)) (k := 58) (by decide) (by omega)
    have a2 := own_nlt (x := x) (b := (59 : Int32)) (k := 59) (by decide) (by omega)
    have a3 := own_nlt (x := x) (b := (65 : Int32)) (k := 65) (by decide) (by omega)
    have a4 := own_gt (x := x) (b := (90 : Int32)) (k := 90) (by decide) (by omega)
    have a5 := own_nlt (x := x) (b := (91 : Int32)) (k := 91) (by decide) (by omega)
    have a6 := own_nei (x := x) (b := (95 : Int32)) (k := 95) (by decide) (by omega)
    have a7 := own_nlt (x := x) (b := (95 : Int32)) (k := 95) (by decide) (by omega)
    have a8 := own_nlt (x := x) (b := (96 : Int32)) (k := 96) (by decide) (by omega)
    have a9 := own_nlt (x := x) (b := (97 : Int32)) (k := 97) (by decide) (by omega)
    have a10 := own_gt (x := x) (b := (122 : Int32)) (k := 122) (by decide) (by omega)
    have a11 := own_nlt (x := x) (b := (123 : Int32)) (k := 123) (by decide) (by omega)
    have a12 := own_nlt (x := x) (b := (192 : Int32)) (k := 192) (by decide) (by omega)
    have a13 := own_gt (x := x) (b := (214 : Int32)) (k := 214) (by decide) (by omega)
    have a14 := own_nlt (x := x) (b := (215 : Int32)) (k := 215) (by decide) (by omega)
    have a15 := own_nlt (x := x) (b := (216 : Int32)) (k := 216) (by decide) (by omega)
    have a16 := own_gt (x := x) (b := (246 : Int32)) (k := 246) (by decide) (by omega)
    have a17 := own_nlt (x := x) (b := (247 : Int32)) (k := 247) (by decide) (by omega)
    have a18 := own_lt (x := x) (b := (248 : Int32)) (k := 248) (by decide) (by omega)
    have a19 := own_ngt (x := x) (b := (767 : Int32)) (k := 767) (by decide) (by omega)
    have a20 := own_lt (x := x) (b := (768 : Int32)) (k := 768) (by decide) (by omega)
    have a21 := own_lt (x := x) (b := (880 : Int32)) (k := 880) (by decide) (by omega)
    have a22 := own_ngt (x := x) (b := (893 : Int32)) (k := 893) (by decide) (by omega)
    have a23 := own_lt (x := x) (b := (894 : Int32)) (k := 894) (by decide) (by omega)
    have a24 := own_lt (x := x) (b := (895 : Int32)) (k := 895) (by decide) (by omega)
    have a25 := own_ngt (x := x) (b := (8191 : Int32)) (k := 8191) (by decide) (by omega)
    have a26 := own_lt (x := x) (b := (8192 : Int32)) (k := 8192) (by decide) (by omega)
    have a27 := own_lt (x := x) (b := (8204 : Int32)) (k := 8204) (by decide) (by omega)
    have a28 := own_ngt (x := x) (b := (8205 : Int32)) (k := 8205) (by decide) (by omega)
    have a29 := own_lt (x := x) (b := (8206 : Int32)) (k := 8206) (by decide) (by omega)
    have a30 := own_lt (x := x) (b := (8304 : Int32)) (k := 8304) (by decide) (by omega)
    have a31 := own_ngt (x := x) (b := (8591 : Int32)) (k := 8591) (by decide) (by omega)
    have a32 := own_lt (x := x) (b := (8592 : Int32)) (k := 8592) (by decide) (by omega)
    have a33 := own_lt (x := x) (b := (11264 : Int32)) (k := 11264) (by decide) (by omega)
    have a34 := own_ngt (x := x) (b := (12271 : Int32)) (k := 12271) (by decide) (by omega)
    have a35 := own_lt (x := x) (b := (12272 : Int32)) (k := 12272) (by decide) (by omega)
    have a36 := own_lt (x := x) (b := (12289 : Int32)) (k := 12289) (by decide) (by omega)
    have a37 := own_ngt (x := x) (b := (55295 : Int32)) (k := 55295) (by decide) (by omega)
    have a38 := own_lt (x := x) (b := (55296 : Int32)) (k := 55296) (by decide) (by omega)
    have a39 := own_lt (x := x) (b := (63744 : Int32)) (k := 63744) (by decide) (by omega)
    have a40 := own_ngt (x := x) (b := (64975 : Int32)) (k := 64975) (by decide) (by omega)
    have a41 := own_lt (x := x) (b := (64976 : Int32)) (k := 64976) (by decide) (by omega)
    have a42 := own_lt (x := x) (b := (65008 : Int32)) (k := 65008) (by decide) (by omega)
    have a43 := own_ngt (x := x) (b := (65533 : Int32)) (k := 65533) (by decide) (by omega)
    have a44 := own_lt (x := x) (b := (65534 : Int32)) (k := 65534) (by decide) (by omega)
    have a45 := own_lt (x := x) (b := (65536 : Int32)) (k := 65536) (by decide) (by omega)
    have a46 := own_ngt (x := x) (b := (983039 : Int32)) (k := 983039) (by decide) (by omega)
    have a47 := own_lt (x := x) (b := (983040 : Int32)) (k := 983040) (by decide) (by omega)
    simp only [F4, F2_201, F2_197, F2_185, F2_173, F2_161, F2_148, F2_134, F2_120, F2_106, F2_92, F2_78, F2_64, F2_50, F2_36, F2_18, F2, F3, if_neg a0, if_neg a1, if_neg a2, if_neg a3, if_pos a4, if_neg a5, if_neg a6, if_neg a7, if_neg a8, if_neg a9, if_pos a10, if_neg a11, if_neg a12, if_pos a13, if_neg a14, if_neg a15, if_pos a16, if_neg a17, if_pos a18, if_neg a19, if_pos a20, if_pos a21, if_neg a22, if_pos a23, if_pos a24, if_neg a25, if_pos a26, if_pos a27, if_neg a28, if_pos a29, if_pos a30, if_neg a31, if_pos a32, if_pos a33, if_neg a34, if_pos a35, if_pos a36, if_neg a37, if_pos a38, if_pos a39, if_neg a40, if_pos a41, if_pos a42, if_neg a43, if_pos a44, if_pos a45, if_neg a46, if_pos a47]
    try decide
  · have a0 := own_nei (x := x) (b := (58 : Int32)) (k := 58) (by decide) (by omega)
    have a1 := own_nlt (x := x) (b := (58 : Int32)) (k := 58) (by decide) (by omega)
    have a2 := own_nlt (x := x) (b := (59 : Int32)) (k := 59) (by decide) (by omega)
    have a3 := own_nlt (x := x) (b := (65 : Int32)) (k := 65) (by decide) (by omega)
    have a4 := own_gt (x := x) (b := (90 : Int32)) (k := 90) (by decide) (by omega)
    have a5 := own_nlt (x := x) (b := (91 : Int32)) (k := 91) (by decide) (by omega)
    have a6 := own_nei (x := x) (b := (95 : Int32)) (k := 95) (by decide) (by omega)
    have a7 := own_nlt (x := x) (b := (95 : Int32)) (k := 95) (by decide) (by omega)
    have a8 := own_nlt (x := x) (b := (96 : Int32)) (k := 96) (by decide) (by omega)
    have a9 := own_nlt (x := x) (b := (97 : Int32)) (k := 97) (by decide) (by omega)
    have a10 := own_gt (x := x) (b := (122 : Int32)) (k := 122) (by decide) (by omega)
    have a11 := own_nlt (x := x) (b := (123 : Int32)) (k := 123) (by decide) (by omega)
    have a12 := own_nlt (x := x) (b := (192 : Int32)) (k := 192) (by decide) (by omega)
    have a13 := own_gt (x := x) (b := (214 : Int32)) (k := 214) (by decide) (by omega)
    have a14 := own_nlt (x := x) (b := (215 : Int32)) (k := 215) (by decide) (by omega)
    have a15 := own_nlt (x := x) (b := (216 : Int32)) (k := 216) (by decide) (by omega)
    have a16 := own_gt (x := x) (b := (246 : Int32)) (k := 246) (by decide) (by omega)
    have a17 := own_nlt (x := x) (b := (247 : Int32)) (k := 247) (by decide) (by omega)
    have a18 := own_nlt (x := x) (b := (248 : Int32)) (k := 248) (by decide) (by omega)
    have a19 := own_ngt (x := x) (b := (767 : Int32)) (k := 767) (by decide) (by omega)
    have a20 := own_lt (x := x) (b := (768 : Int32)) (k := 768) (by decide) (by omega)
    have a21 := own_lt (x := x) (b := (880 : Int32)) (k := 880) (by decide) (by omega)
    have a22 := own_ngt (x := x) (b := (893 : Int32)) (k := 893) (by decide) (by omega)
    have a23 := own_lt (x := x) (b := (894 : Int32)) (k := 894) (by decide) (by omega)
    have a24 := own_lt (x := x) (b := (895 : Int32)) (k := 895) (by decide) (by omega)
    have a25 := own_ngt (x := x) (b := (8191 : Int32)) (k := 8191) (by decide) (by omega)
    have a26 := own_lt (x := x) (b := (8192 : Int32)) (k := 8192) (by decide) (by omega)
    have a27 := own_lt (x := x) (b := (8204 : Int32)) (k := 8204) (by decide) (by omega)
    have a28 := own_ngt (x := x) (b := (8205 : Int32)) (k := 8205) (by decide) (by omega)
    have a29 := own_lt (x := x) (b := (8206 : Int32)) (k := 8206) (by decide) (by omega)
    have a30 := own_lt (x := x) (b := (8304 : Int32)) (k := 8304) (by decide) (by omega)
    have a31 := own_ngt (x := x) (b := (8591 : Int32)) (k := 8591) (by decide) (by omega)
    have a32 := own_lt (x := x) (b := (8592 : Int32)) (k := 8592) (by decide) (by omega)
    have a33 := own_lt (x := x) (b := (11264 : Int32)) (k := 11264) (by decide) (by omega)
    have a34 := own_ngt (x := x) (b := (12271 : Int32)) (k := 12271) (by decide) (by omega)
    have a35 := own_lt (x := x) (b := (12272 : Int32)) (k := 12272) (by decide) (by omega)
    have a36 := own_lt (x := x) (b := (12289 : Int32)) (k := 12289) (by decide) (by omega)
    have a37 := own_ngt (x := x) (b := (55295 : Int32)) (k := 55295) (by decide) (by omega)
    have a38 := own_lt (x := x) (b := (55296 : Int32)) (k := 55296) (by decide) (by omega)
    have a39 := own_lt (x := x) (b := (63744 : Int32)) (k := 63744) (by decide) (by omega)
    have a40 := own_ngt (x := x) (b := (64975 : Int32)) (k := 64975) (by decide) (by omega)
    have a41 := own_lt (x := x) (b := (64976 : Int32)) (k := 64976) (by decide) (by omega)
    have a42 := own_lt (x := x) (b := (65008 : Int32)) (k := 65008) (by decide) (by omega)
    have a43 := own_ngt (x := x) (b := (65533 : Int32)) (k := 65533) (by decide) (by omega)
    have a44 := own_lt (x := x) (b := (65534 : Int32)) (k := 65534) (by decide) (by omega)
    have a45 := own_lt (x := x) (b := (65536 : Int32)) (k := 65536) (by decide) (by omega)
    have a46 := own_ngt (x := x) (b := (983039 : Int32)) (k := 983039) (by decide) (by omega)
    have a47 := own_lt (x := x) (b := (983040 : Int32)) (k := 983040) (by decide) (by omega)
    simp only [F4, F2_201, F2_197, F2_185, F2_173, F2_161, F2_148, F2_134, F2_120, F2_106, F2_92, F2_78, F2_64, F2_50, F2_36, F2_18, F2, F3, if_neg a0, if_neg a1, if_neg a2, if_neg a3, if_pos a4, if_neg a5, if_neg a6, if_neg a7, if_neg a8, if_neg a9, if_pos a10, if_neg a11, if_neg a12, if_pos a13, if_neg a14, if_neg a15, if_pos a16, if_neg a17, if_neg a18, if_neg a19, if_pos a20, if_pos a21, if_neg a22, if_pos a23, if_pos a24, if_neg a25, if_pos a26, if_pos a27, if_neg a28, if_pos a29, if_pos a30, if_neg a31, if_pos a32, if_pos a33, if_neg a34, if_pos a35, if_pos a36, if_neg a37, if_pos a38, if_pos a39, if_neg a40, if_pos a41, if_pos a42, if_neg a43, if_pos a44, if_pos a45, if_neg a46, if_pos a47]
    try decide
  · have a0 := own_nei (x := x) (b := (58 : Int32)) (k := 58) (by decide) (by omega)
    have a1 := own_nlt (x := x) (b := (58 : Int32)) (k := 58) (by decide) (by omega)
    have a2 := own_nlt (x := x) (b := (59 : Int32)) (k := 59) (by decide) (by omega)
    have a3 := own_nlt (x := x) (b := (65 : Int32)) (k := 65) (by decide) (by omega)
    have a4 := own_gt (x := x) (b := (90 : Int32)) (k := 90) (by decide) (by omega)
    have a5 := own_nlt (x := x) (b := (91 : Int32)) (k := 91) (by decide) (by omega)
    have a6 := own_nei (x := x) (b := (95 : Int32)) (k := 95) (by decide) (by omega)
    have a7 := own_nlt (x := x) (b := (95 : Int32)) (k := 95) (by decide) (by omega)
    have a8 := own_nlt (x := x) (b := (96 : Int32)) (k := 96) (by decide) (by omega)
    have a9 := own_nlt (x := x) (b := (97 : Int32)) (k := 97) (by decide) (by omega)
    have a10 := own_gt (x := x) (b := (122 : Int32)) (k := 122) (by decide) (by omega)
    have a11 := own_nlt (x := x) (b := (123 : Int32)) (k := 123) (by decide) (by omega)
    have a12 := own_nlt (x := x) (b := (192 : Int32)) (k := 192) (by decide) (by omega)
    have a13 := own_gt (x := x) (b := (214 : Int32)) (k := 214) (by decide) (by omega)
    have a14 := own_nlt (x := x) (b := (215 : Int32)) (k := 215) (by decide) (by omega)
    have a15 := own_nlt (x := x) (b := (216 : Int32)) (k := 216) (by decide) (by omega)
    have a16 := own_gt (x := x) (b := (246 : Int32)) (k := 246) (by decide) (by omega)
    have a17 := own_nlt (x := x) (b := (247 : Int32)) (k := 247) (by decide) (by omega)
    have a18 := own_nlt (x := x) (b := (248 : Int32)) (k := 248) (by decide) (by omega)
    have a19 := own_gt (x := x) (b := (767 : Int32)) (k := 767) (by decide) (by omega)
    have a20 := own_nlt (x := x) (b := (768 : Int32)) (k := 768) (by decide) (by omega)
    have a21 := own_lt (x := x) (b := (880 : Int32)) (k := 880) (by decide) (by omega)
    have a22 := own_ngt (x := x) (b := (893 : Int32)) (k := 893) (by decide) (by omega)
    have a23 := own_lt (x := x) (b := (894 : Int32)) (k := 894) (by decide) (by omega)
    have a24 := own_lt (x := x) (b := (895 : Int32)) (k := 895) (by decide) (by omega)
    have a25 := own_ngt (x := x) (b := (8191 : Int32)) (k := 8191) (by decide) (by omega)
    have a26 := own_lt (x := x) (b := (8192 : Int32)) (k := 8192) (by decide) (by omega)
    have a27 := own_lt (x := x) (b := (8204 : Int32)) (k := 8204) (by decide) (by omega)
    have a28 := own_ngt (x := x) (b := (8205 : Int32)) (k := 8205) (by decide) (by omega)
    have a29 := own_lt (x := x) (b := (8206 : Int32)) (k := 8206) (by decide) (by omega)
    have a30 := own_lt (x := x) (b := (8304 : Int32)) (k := 8304) (by decide) (by omega)
    have a31 := own_ngt (x := x) (b := (8591 : Int32)) (k := 8591) (by decide) (by omega)
    have a32 := own_lt (x := x) (b := (8592 : Int32)) (k := 8592) (by decide) (by omega)
    have a33 := own_lt (x := x) (b := (11264 : Int32)) (k := 11264) (by decide) (by omega)
    have a34 := own_ngt (x := x) (b := (12271 : Int32)) (k := 12271) (by decide) (by omega)
    have a35 := own_lt (x := x) (b := (12272 : Int32)) (k := 12272) (by decide) (by omega)
    have a36 := own_lt (x := x) (b := (12289 : Int32)) (k := 12289) (by decide) (by omega)
    have a37 := own_ngt (x := x) (b := (55295 : Int32)) (k := 55295) (by decide) (by omega)
    have a38 := own_lt (x := x) (b := (55296 : Int32)) (k := 55296) (by decide) (by omega)
    have a39 := own_lt (x := x) (b := (63744 : Int32)) (k := 63744) (by decide) (by omega)
    have a40 := own_ngt (x := x) (b := (64975 : Int32)) (k := 64975) (by decide) (by omega)
    have a41 := own_lt (x := x) (b := (64976 : Int32)) (k := 64976) (by decide) (by omega)
    have a42 := own_lt (x := x) (b := (65008 : Int32)) (k := 65008) (by decide) (by omega)
    have a43 := own_ngt (x := x) (b := (65533 : Int32)) (k := 65533) (by decide) (by omega)
    have a44 := own_lt (x := x) (b := (65534 : Int32)) (k := 65534) (by decide) (by omega)
    have a45 := own_lt (x := x) (b := (65536 : Int32)) (k := 65536) (by decide) (by omega)
    have a46 := own_ngt (x := x) (b := (983039 : Int32)) (k := 983039) (by decide) (by omega)
    have a47 := own_lt (x := x) (b := (983040 : Int32)) (k := 983040) (by decide) (by omega)
    simp only [F4, F2_201, F2_197, F2_185, F2_173, F2_161, F2_148, F2_134, F2_120, F2_106, F2_92, F2_78, F2_64, F2_50, F2_36, F2_18, F2, F3, if_neg a0, if_neg a1, if_neg a2, if_neg a3, if_pos a4, if_neg a5, if_neg a6, if_neg a7, if_neg a8, if_neg a9, if_pos a10, if_neg a11, if_neg a12, if_pos a13, if_neg a14, if_neg a15, if_pos a16, if_neg a17, if_neg a18, if_pos a19, if_neg a20, if_pos a21, if_neg a22, if_pos a23, if_pos a24, if_neg a25, if_pos a26, if_pos a27, if_neg a28, if_pos a29, if_pos a30, if_neg a31, if_pos a32, if_pos a33, if_neg a34, if_pos a35, if_pos a36, if_neg a37, if_pos a38, if_pos a39, if_neg a40, if_pos a41, if_pos a42, if_neg a43, if_pos a44, if_pos a45, if_neg a46, if_pos a47]
    try decide
  · have a0 := own_nei (x := x) (b := (58 : Int32)) (k := 58) (by decide) (by omega)
    have a1 := own_nlt (x := x) (b := (58 : Int32)) (k := 58) (by decide) (by omega)
    have a2 := own_nlt (x := x) (b := (59 : Int32)) (k := 59) (by decide) (by omega)
    have a3 := own_nlt (x := x) (b := (65 : Int32)) (k := 65) (by decide) (by omega)
    have a4 := own_gt (x := x) (b := (90 : Int32)) (k := 90) (by decide) (by omega)
    have a5 := own_nlt (x := x) (b := (91 : Int32)) (k := 91) (by decide) (by omega)
    have a6 := own_nei (x := x) (b := (95 : Int32)) (k := 95) (by decide) (by omega)
    have a7 := own_nlt (x := x) (b := (95 : Int32)) (k := 95) (by decide) (by omega)
    have a8 := own_nlt (x := x) (b := (96 : Int32)) (k := 96) (by decide) (by omega)
    have a9 := own_nlt (x := x) (b := (97 : Int32)) (k := 97) (by decide) (by omega)
    have a10 := own_gt (x := x) (b := (122 : Int32)) (k := 122) (by decide) (by omega)
    have a11 := own_nlt (x := x) (b := (123 : Int32)) (k := 123) (by decide) (by omega)
    have a12 := own_nlt (x := x) (b := (192 : Int32)) (k := 192) (by decide) (by omega)
    have a13 := own_gt (x := x) (b := (214 : Int32)) (k := 214) (by decide) (by omega)
    have a14 := own_nlt (x := x) (b := (215 : Int32)) (k := 215) (by decide) (by omega)
    have a15 := own_nlt (x := x) (b := (216 : Int32)) (k := 216) (by decide) (by omega)
    have a16 := own_gt (x := x) (b := (246 : Int32)) (k := 246) (by decide) (by omega)
    have a17 := own_nlt (x := x) (b := (247 : Int32)) (k := 247) (by decide) (by omega)
    have a18 := own_nlt (x := x) (b := (248 : Int32)) (k := 248) (by decide) (by omega)
    have a19 := own_gt (x := x) (b := (767 : Int32)) (k := 767) (by decide) (by omega)
    have a20 := own_nlt (x := x) (b := (768 : Int32)) (k := 768) (by decide) (by omega)
    have a21 := own_nlt (x := x) (b := (880 : Int32)) (k := 880) (by decide) (by omega)
    have a22 := own_ngt (x := x) (b := (893 : Int32)) (k := 893) (by decide) (by omega)
    have a23 := own_lt (x := x) (b := (894 : Int32)) (k := 894) (by decide) (by omega)
    have a24 := own_lt (x := x) (b := (895 : Int32)) (k := 895) (by decide) (by omega)
    have a25 := own_ngt (x := x) (b := (8191 : Int32)) (k := 8191) (by decide) (by omega)
    have a26 := own_lt (x := x) (b := (8192 : Int32)) (k := 8192) (by decide) (by omega)
    have a27 := own_lt (x := x) (b := (8204 : Int32)) (k := 8204) (by decide) (by omega)
    have a28 := own_ngt (x := x) (b := (8205 : Int32)) (k := 8205) (by decide) (by omega)
    have a29 := own_lt (x := x) (b := (8206 : Int32)) (k := 8206) (by decide) (by omega)
    have a30 := own_lt (x := x) (b := (8304 : Int32)) (k := 8304) (by decide) (by omega)
    have a31 := own_ngt (x := x) (b := (8591 : Int32)) (k := 8591) (by decide) (by omega)
    have a32 := own_lt (x := x) (b := (8592 : Int32)) (k := 8592) (by decide) (by omega)
    have a33 := own_lt (x := x) (b := (11264 : Int32)) (k := 11264) (by decide) (by omega)
    have a34 := own_ngt (x := x) (b := (12271 : Int32)) (k := 12271) (by decide) (by omega)
    have a35 := own_lt (x := x) (b := (12272 : Int32)) (k := 12272) (by decide) (by omega)
    have a36 := own_lt (x := x) (b := (12289 : Int32)) (k := 12289) (by decide) (by omega)
    have a37 := own_ngt (x := x) (b := (55295 : Int32)) (k := 55295) (by decide) (by omega)
    have a38 := own_lt (x := x) (b := (55296 : Int32)) (k := 55296) (by decide) (by omega)
    have a39 := own_lt (x := x) (b := (63744 : Int32)) (k := 63744) (by decide) (by omega)
    have a40 := own_ngt (x := x) (b := (64975 : Int32)) (k := 64975) (by decide) (by omega)
    have a41 := own_lt (x := x) (b := (64976 : Int32)) (k := 64976) (by decide) (by omega)
    have a42 := own_lt (x := x) (b := (65008 : Int32)) (k := 65008) (by decide) (by omega)
    have a43 := own_ngt (x := x) (b := (65533 : Int32)) (k := 65533) (by decide) (by omega)
    have a44 := own_lt (x := x) (b := (65534 : Int32)) (k := 65534) (by decide) (by omega)
    have a45 := own_lt (x := x) (b := (65536 : Int32)) (k := 65536) (by decide) (by omega)
    have a46 := own_ngt (x := x) (b := (983039 : Int32)) (k := 983039) (by decide) (by omega)
    have a47 := own_lt (x := x) (b := (983040 : Int32)) (k := 983040) (by decide) (by omega)
    simp only [F4, F2_201, F2_197, F2_185, F2_173, F2_161, F2_148, F2_134, F2_120, F2_106, F2_92, F2_78, F2_64, F2_50, F2_36, F2_18, F2, F3, if_neg a0, if_neg a1, if_neg a2, if_neg a3, if_pos a4, if_neg a5, if_neg a6, if_neg a7, if_neg a8, if_neg a9, if_pos a10, if_neg a11, if_neg a12, if_pos a13, if_neg a14, if_neg a15, if_pos a16, if_neg a17, if_neg a18, if_pos a19, if_neg a20, if_neg a21, if_neg a22, if_pos a23, if_pos a24, if_neg a25, if_pos a26, if_pos a27, if_neg a28, if_pos a29, if_pos a30, if_neg a31, if_pos a32, if_pos a33, if_neg a34, if_pos a35, if_pos a36, if_neg a37, if_pos a38, if_pos a39, if_neg a40, if_pos a41, if_pos a42, if_neg a43, if_pos a44, if_pos a45, if_neg a46, if_pos a47]
    try decide
  · have a0 := own_nei (x := x) (b := (58 : Int32)) (k := 58) (by decide) (by omega)
    have a1 := own_nlt (x := x) (b := (58 : Int32)) (k := 58) (by decide) (by omega)
    have a2 := own_nlt (x := x) (b := (59 : Int32)) (k := 59) (by decide) (by omega)
    have a3 := own_nlt (x := x) (b := (65 : Int32)) (k := 65) (by decide) (by omega)
    have a4 := own_gt (x := x) (b := (90 : Int32)) (k := 90) (by decide) (by omega)
    have a5 := own_nlt (x := x) (b := (91 : Int32)) (k := 91) (by decide) (by omega)
    have a6 := own_nei (x := x) (b := (95 : Int32)) (k := 95) (by decide) (by omega)
    have a7 := own_nlt (x := x) (b := (95 : Int32)) (k := 95) (by decide) (by omega)
    have a8 := own_nlt (x := x) (b := (96 : Int32)) (k := 96) (by decide) (by omega)
    have a9 := own_nlt (x := x) (b := (97 : Int32)) (k := 97) (by decide) (by omega)
    have a10 := own_gt (x := x) (b := (122 : Int32)) (k := 122) (by decide) (by omega)
    have a11 := own_nlt (x := x) (b := (123 : Int32)) (k := 123) (by decide) (by omega)
    have a12 := own_nlt (x := x) (b := (192 : Int32)) (k := 192) (by decide) (by omega)
    have a13 := own_gt (x := x) (b := (214 : Int32)) (k := 214) (by decide) (by omega)
    have a14 := own_nlt (x := x) (b := (215 : Int32)) (k := 215) (by decide) (by omega)
    have a15 := own_nlt (x := x) (b := (216 : Int32)) (k := 216) (by decide) (by omega)
    have a16 := own_gt (x := x) (b := (246 : Int32)) (k := 246) (by decide) (by omega)
    have a17 := own_nlt (x := x) (b := (247 : Int32)) (k := 247) (by decide) (by omega)
    have a18 := own_nlt (x := x) (b := (248 : Int32)) (k := 248) (by decide) (by omega)
    have a19 := own_gt (x := x) (b := (767 : Int32)) (k := 767) (by decide) (by omega)
    have a20 := own_nlt (x := x) (b := (768 : Int32)) (k := 768) (by decide) (by omega)
    have a21 := own_nlt (x := x) (b := (880 : Int32)) (k := 880) (by decide) (by omega)
    have a22 := own_gt (x := x) (b := (893 : Int32)) (k := 893) (by decide) (by omega)
    have a23 := own_nlt (x := x) (b := (894 : Int32)) (k := 894) (by decide) (by omega)
    have a24 := own_lt (x := x) (b := (895 : Int32)) (k := 895) (by decide) (by omega)
    have a25 := own_ngt (x := x) (b := (8191 : Int32)) (k := 8191) (by decide) (by omega)
    have a26 := own_lt (x := x) (b := (8192 : Int32)) (k := 8192) (by decide) (by omega)
    have a27 := own_lt (x := x) (b := (8204 : Int32)) (k := 8204) (by decide) (by omega)
    have a28 := own_ngt (x := x) (b := (8205 : Int32)) (k := 8205) (by decide) (by omega)
    have a29 := own_lt (x := x) (b := (8206 : Int32)) (k := 8206) (by decide) (by omega)
    have a30 := own_lt (x := x) (b := (8304 : Int32)) (k := 8304) (by decide) (by omega)
    have a31 := own_ngt (x := x) (b := (8591 : Int32)) (k := 8591) (by decide) (by omega)
    have a32 := own_lt (x := x) (b := (8592 : Int32)) (k := 8592) (by decide) (by omega)
    have a33 := own_lt (x := x) (b := (11264 : Int32)) (k := 11264) (by decide) (by omega)
    have a34 := own_ngt (x := x) (b := (12271 : Int32)) (k := 12271) (by decide) (by omega)
    have a35 := own_lt (x := x) (b := (12272 : Int32)) (k := 12272) (by decide) (by omega)
    have a36 := own_lt (x := x) (b := (12289 : Int32)) (k := 12289) (by decide) (by omega)
    have a37 := own_ngt (x := x) (b := (55295 : Int32)) (k := 55295) (by decide) (by omega)
    have a38 := own_lt (x := x) (b := (55296 : Int32)) (k := 55296) (by decide) (by omega)
    have a39 := own_lt (x := x) (b := (63744 : Int32)) (k := 63744) (by decide) (by omega)
    have a40 := own_ngt (x := x) (b := (64975 : Int32)) (k := 64975) (by decide) (by omega)
    have a41 := own_lt (x := x) (b := (64976 : Int32)) (k := 64976) (by decide) (by omega)
    have a42 := own_lt (x := x) (b := (65008 : Int32)) (k := 65008) (by decide) (by omega)
    have a43 := own_ngt (x := x) (b := (65533 : Int32)) (k := 65533) (by decide) (by omega)
    have a44 := own_lt (x := x) (b := (65534 : Int32)) (k := 65534) (by decide) (by omega)
    have a45 := own_lt (x := x) (b := (65536 : Int32)) (k := 65536) (by decide) (by omega)
    have a46 := own_ngt (x := x) (b := (983039 : Int32)) (k := 983039) (by decide) (by omega)
    have a47 := own_lt (x := x) (b := (983040 : Int32)) (k := 983040) (by decide) (by omega)
    simp only [F4, F2_201, F2_197, F2_185, F2_173, F2_161, F2_148, F2_134, F2_120, F2_106, F2_92, F2_78, F2_64, F2_50, F2_36, F2_18, F2, F3, if_neg a0, if_neg a1, if_neg a2, if_neg a3, if_pos a4, if_neg a5, if_neg a6, if_neg a7, if_neg a8, if_neg a9, if_pos a10, if_neg a11, if_neg a12, if_pos a13, if_neg a14, if_neg a15, if_pos a16, if_neg a17, if_neg a18, if_pos a19, if_neg a20, if_neg a21, if_pos a22, if_neg a23, if_pos a24, if_neg a25, if_pos a26, if_pos a27, if_neg a28, if_pos a29, if_pos a30, if_neg a31, if_pos a32, if_pos a33, if_neg a34, if_pos a35, if_pos a36, if_neg a37, if_pos a38, if_pos a39, if_neg a40, if_pos a41, if_pos a42, if_neg a43, if_pos a44, if_pos a45, if_neg a46, if_pos a47]
    try decide
  · have a0 := own_nei (x := x) (b := (58 : Int32)) (k := 58) (by decide) (by omega)
    have a1 := own_nlt (x := x) (b := (58 : Int32)) (k := 58) (by decide) (by omega)
    have a2 := own_nlt (x := x) (b := (59 : Int32)) (k := 59) (by decide) (by omega)
    have a3 := own_nlt (x := x) (b := (65 : Int32)) (k := 65) (by decide) (by omega)
    have a4 := own_gt (x := x) (b := (90 : Int32)) (k := 90) (by decide) (by omega)
    have a5 := own_nlt (x := x) (b := (91 : Int32)) (k := 91) (by decide) (by omega)
    have a6 := own_nei (x := x) (b := (95 : Int32)) (k := 95) (by decide) (by omega)
    have a7 := own_nlt (x := x) (b := (95 : Int32)) (k := 95) (by decide) (by omega)
    have a8 := own_nlt (x := x) (b := (96 : Int32)) (k := 96) (by decide) (by omega)
    have a9 := own_nlt (x := x) (b := (97 : Int32)) (k := 97) (by decide) (by omega)
    have a10 := own_gt (x := x) (b := (122 : Int32)) (k := 122) (by decide) (by omega)
    have a11 := own_nlt (x := x) (b := (123 : Int32)) (k := 123) (by decide) (by omega)
    have a12 := own_nlt (x := x) (b := (192 : Int32)) (k := 192) (by decide) (by omega)
    have a13 := own_gt (x := x) (b := (214 : Int32)) (k := 214) (by decide) (by omega)
    have a14 := own_nlt (x := x) (b := (215 : Int32)) (k := 215) (by decide) (by omega)
    have a15 := own_nlt (x := x) (b := (216 : Int32)) (k := 216) (by decide) (by omega)
    have a16 := own_gt (x := x) (b := (246 : Int32)) (k := 246) (by decide) (by omega)
    have a17 := own_nlt (x := x) (b := (247 : Int32)) (k := 247) (by decide) (by omega)
    have a18 := own_nlt (x := x) (b := (248 : Int32)) (k := 248) (by decide) (by omega)
    have a19 := own_gt (x := x) (b := (767 : Int32)) (k := 767) (by decide) (by omega)
    have a20 := own_nlt (x := x) (b := (768 : Int32)) (k := 768) (by decide) (by omega)
    have a21 := own_nlt (x := x) (b := (880 : Int32)) (k := 880) (by decide) (by omega)
    have a22 := own_gt (x := x) (b := (893 : Int32)) (k := 893) (by decide) (by omega)
    have a23 := own_nlt (x := x) (b := (894 : Int32)) (k := 894) (by decide) (by omega)
    have a24 := own_nlt (x := x) (b := (895 : Int32)) (k := 895) (by decide) (by omega)
    have a25 := own_ngt (x := x) (b := (8191 : Int32)) (k := 8191) (by decide) (by omega)
    have a26 := own_lt (x := x) (b := (8192 : Int32)) (k := 8192) (by decide) (by omega)
    have a27 := own_lt (x := x) (b := (8204 : Int32)) (k := 8204) (by decide) (by omega)
    have a28 := own_ngt (x := x) (b := (8205 : Int32)) (k := 8205) (by decide) (by omega)
    have a29 := own_lt (x := x) (b := (8206 : Int32)) (k := 8206) (by decide) (by omega)
    have a30 := own_lt (x := x) (b := (8304 : Int32)) (k := 8304) (by decide) (by omega)
    have a31 := own_ngt (x := x) (b := (8591 : Int32)) (k := 8591) (by decide) (by omega)
    have a32 := own_lt (x := x) (b := (8592 : Int32)) (k := 8592) (by decide) (by omega)
    have a33 := own_lt (x := x) (b := (11264 : Int32)) (k := 11264) (by decide) (by omega)
    have a34 := own_ngt (x := x) (b := (12271 : Int32)) (k := 12271) (by decide) (by omega)
    have a35 := own_lt (x := x) (b := (12272 : Int32)) (k := 12272) (by decide) (by omega)
    have a36 := own_lt (x := x) (b := (12289 : Int32)) (k := 12289) (by decide) (by omega)
    have a37 := own_ngt (x := x) (b := (55295 : Int32)) (k := 55295) (by decide) (by omega)
    have a38 := own_lt (x := x) (b := (55296 : Int32)) (k := 55296) (by decide) (by omega)
    have a39 := own_lt (x := x) (b := (63744 : Int32)) (k := 63744) (by decide) (by omega)
    have a40 := own_ngt (x := x) (b := (64975 : Int32)) (k := 64975) (by decide) (by omega)
    have a41 := own_lt (x := x) (b := (64976 : Int32)) (k := 64976) (by decide) (by omega)
    have a42 := own_lt (x := x) (b := (65008 : Int32)) (k := 65008) (by decide) (by omega)
    have a43 := own_ngt (x := x) (b := (65533 : Int32)) (k := 65533) (by decide) (by omega)
    have a44 := own_lt (x := x) (b := (65534 : Int32)) (k := 65534) (by decide) (by omega)
    have a45 := own_lt (x := x) (b := (65536 : Int32)) (k := 65536) (by decide) (by omega)
    have a46 := own_ngt (x := x) (b := (983039 : Int32)) (k := 983039) (by decide) (by omega)
    have a47 := own_lt (x := x) (b := (983040 : Int32)) (k := 983040) (by decide) (by omega)
    simp only [F4, F2_201, F2_197, F2_185, F2_173, F2_161, F2_148, F2_134, F2_120, F2_106, F2_92, F2_78, F2_64, F2_50, F2_36, F2_18, F2, F3, if_neg a0, if_neg a1, if_neg a2, if_neg a3, if_pos a4, if_neg a5, if_neg a6, if_neg a7, if_neg a8, if_neg a9, if_pos a10, if_neg a11, if_neg a12, if_pos a13, if_neg a14, if_neg a15, if_pos a16, if_neg a17, if_neg a18, if_pos a19, if_neg a20, if_neg a21, if_pos a22, if_neg a23, if_neg a24, if_neg a25, if_pos a26, if_pos a27, if_neg a28, if_pos a29, if_pos a30, if_neg a31, if_pos a32, if_pos a33, if_neg a34, if_pos a35, if_pos a36, if_neg a37, if_pos a38, if_pos a39, if_neg a40, if_pos a41, if_pos a42, if_neg a43, if_pos a44, if_pos a45, if_neg a46, if_pos a47]
    try decide
  · have a0 := own_nei (x := x) (b := (58 : Int32)) (k := 58) (by decide) (by omega)
    have a1 := own_nlt (x := x) (b := (58 : Int32)) (k := 58) (by decide) (by omega)
    have a2 := own_nlt (x := x) (b := (59 : Int32)) (k := 59) (by decide) (by omega)
    have a3 := own_nlt (x := x) (b := (65 : Int32)) (k := 65) (by decide) (by omega)
    have a4 := own_gt (x := x) (b := (90 : Int32)) (k := 90) (by decide) (by omega)
    have a5 := own_nlt (x := x) (b := (91 : Int32)) (k := 91) (by decide) (by omega)
    have a6 := own_nei (x := x) (b := (95 : Int32)) (k := 95) (by decide) (by omega)
    have a7 := own_nlt (x := x) (b := (95 : Int32)) (k := 95) (by decide) (by omega)
    have a8 := own_nlt (x := x) (b := (96 : Int32)) (k := 96) (by decide) (by omega)
    have a9 := own_nlt (x := x) (b := (97 : Int32)) (k := 97) (by decide) (by omega)
    have a10 := own_gt (x := x) (b := (122 : Int32)) (k := 122) (by decide) (by omega)
    have a11 := own_nlt (x := x) (b := (123 : Int32)) (k := 123) (by decide) (by omega)
    have a12 := own_nlt (x := x) (b := (192 : Int32)) (k := 192) (by decide) (by omega)
    have a13 := own_gt (x := x) (b := (214 : Int32)) (k := 214) (by decide) (by omega)
    have a14 := own_nlt (x := x) (b := (215 : Int32)) (k := 215) (by decide) (by omega)
    have a15 := own_nlt (x := x) (b := (216 : Int32)) (k := 216) (by decide) (by omega)
    have a16 := own_gt (x := x) (b := (246 : Int32)) (k := 246) (by decide) (by omega)
    have a17 := own_nlt (x := x) (b := (247 : Int32)) (k := 247) (by decide) (by omega)
    have a18 := own_nlt (x := x) (b := (248 : Int32)) (k := 248) (by decide) (by omega)
    have a19 := own_gt (x := x) (b := (767 : Int32)) (k := 767) (by decide) (by omega)
    have a20 := own_nlt (x := x) (b := (768 : Int32)) (k := 768) (by decide) (by omega)
    have a21 := own_nlt (x := x) (b := (880 : Int32)) (k := 880) (by decide) (by omega)
    have a22 := own_gt (x := x) (b := (893 : Int32)) (k := 893) (by decide) (by omega)
    have a23 := own_nlt (x := x) (b := (894 : Int32)) (k := 894) (by decide) (by omega)
    have a24 := own_nlt (x := x) (b := (895 : Int32)) (k := 895) (by decide) (by omega)
    have a25 := own_gt (x := x) (b := (8191 : Int32)) (k := 8191) (by decide) (by omega)
    have a26 := own_nlt (x := x) (b := (8192 : Int32)) (k := 8192) (by decide) (by omega)
    have a27 := own_lt (x := x) (b := (8204 : Int32)) (k := 8204) (by decide) (by omega)
    have a28 := own_ngt (x := x) (b := (8205 : Int32)) (k := 8205) (by decide) (by omega)
    have a29 := own_lt (x := x) (b := (8206 : Int32)) (k := 8206) (by decide) (by omega)
    have a30 := own_lt (x := x) (b := (8304 : Int32)) (k := 8304) (by decide) (by omega)
    have a31 := own_ngt (x := x) (b := (8591 : Int32)) (k := 8591) (by decide) (by omega)
    have a32 := own_lt (x := x) (b := (8592 : Int32)) (k := 8592) (by decide) (by omega)
    have a33 := own_lt (x := x) (b := (11264 : Int32)) (k := 11264) (by decide) (by omega)
    have a34 := own_ngt (x := x) (b := (12271 : Int32)) (k := 12271) (by decide) (by omega)
    have a35 := own_lt (x := x) (b := (12272 : Int32)) (k := 12272) (by decide) (by omega)
    have a36 := own_lt (x := x) (b := (12289 : Int32)) (k := 12289) (by decide) (by omega)
    have a37 := own_ngt (x := x) (b := (55295 : Int32)) (k := 55295) (by decide) (by omega)
    have a38 := own_lt (x := x) (b := (55296 : Int32)) (k := 55296) (by decide) (by omega)
    have a39 := own_lt (x := x) (b := (63744 : Int32)) (k := 63744) (by decide) (by omega)
    have a40 := own_ngt (x := x) (b := (64975 : Int32)) (k := 64975) (by decide) (by omega)
    have a41 := own_lt (x := x) (b := (64976 : Int32)) (k := 64976) (by decide) (by omega)
    have a42 := own_lt (x := x) (b := (65008 : Int32)) (k := 65008) (by decide) (by omega)
    have a43 := own_ngt (x := x) (b := (65533 : Int32)) (k := 65533) (by decide) (by omega)
    have a44 := own_lt (x := x) (b := (65534 : Int32)) (k := 65534) (by decide) (by omega)
    have a45 := own_lt (x := x) (b := (65536 : Int32)) (k := 65536) (by decide) (by omega)
    have a46 := own_ngt (x := x) (b := (983039 : Int32)) (k := 983039) (by decide) (by omega)
    have a47 := own_lt (x := x) (b := (983040 : Int32)) (k := 983040) (by decide) (by omega)
    simp only [F4, F2_201, F2_197, F2_185, F2_173, F2_161, F2_148, F2_134, F2_120, F2_106, F2_92, F2_78, F2_64, F2_50, F2_36, F2_18, F2, F3, if_neg a0, if_neg a1, if_neg a2, if_neg a3, if_pos a4, if_neg a5, if_neg a6, if_neg a7, if_neg a8, if_neg a9, if_pos a10, if_neg a11, if_neg a12, if_pos a13, if_neg a14, if_neg a15, if_pos a16, if_neg a17, if_neg a18, if_pos a19, if_neg a20, if_neg a21, if_pos a22, if_neg a23, if_neg a24, if_pos a25, if_neg a26, if_pos a27, if_neg a28, if_pos a29, if_pos a30, if_neg a31, if_pos a32, if_pos a33, if_neg a34, if_pos a35, if_pos a36, if_neg a37, if_pos a38, if_pos a39, if_neg a40, if_pos a41, if_pos a42, if_neg a43, if_pos a44, if_pos a45, if_neg a46, if_pos a47]
    try decide
  · have a0 := own_nei (x := x) (b := (58 : Int32)) (k := 58) (by decide) (by omega)
    have a1 := own_nlt (x := x) (b := (58 : Int32)) (k := 58) (by decide) (by omega)
    have a2 := own_nlt (x := x) (b := (59 : Int32)) (k := 59) (by decide) (by omega)
    have a3 := own_nlt (x := x) (b := (65 : Int32)) (k := 65) (by decide) (by omega)
    have a4 := own_gt (x := x) (b := (90 : Int32)) (k := 90) (by decide) (by omega)
    have a5 := own_nlt (x := x) (b := (91 : Int32)) (k := 91) (by decide) (by omega)
    have a6 := own_nei (x := x) (b := (95 : Int32)) (k := 95) (by decide) (by omega)
    have a7 := own_nlt (x := x) (b := (95 : Int32)) (k := 95) (by decide) (by omega)
    have a8 := own_nlt (x := x) (b := (96 : Int32)) (k := 96) (by decide) (by omega)
    have a9 := own_nlt (x := x) (b := (97 : Int32)) (k := 97) (by decide) (by omega)
    have a10 := own_gt (x := x) (b := (122 : Int32)) (k := 122) (by decide) (by omega)
    have a11 := own_nlt (x := x) (b := (123 : Int32)) (k := 123) (by decide) (by omega)
    have a12 := own_nlt (x := x) (b := (192 : Int32)) (k := 192) (by decide) (by omega)
    have a13 := own_gt (x := x) (b := (214 : Int32)) (k := 214) (by decide) (by omega)
    have a14 := own_nlt (x := x) (b := (215 : Int32)) (k := 215) (by decide) (by omega)
    have a15 := own_nlt (x := x) (b := (216 : Int32)) (k := 216) (by decide) (by omega)
    have a16 := own_gt (x := x) (b := (246 : Int32)) (k := 246) (by decide) (by omega)
    have a17 := own_nlt (x := x) (b := (247 : Int32)) (k := 247) (by decide) (by omega)
    have a18 := own_nlt (x := x) (b := (248 : Int32)) (k := 248) (by decide) (by omega)
    have a19 := own_gt (x := x) (b := (767 : Int32)) (k := 767) (by decide) (by omega)
    have a20 := own_nlt (x := x) (b := (768 : Int32)) (k := 768) (by decide) (by omega)
    have a21 := own_nlt (x := x) (b := (880 : Int32)) (k := 880) (by decide) (by omega)
    have a22 := own_gt (x := x) (b := (893 : Int32)) (k := 893) (by decide) (by omega)
    have a23 := own_nlt (x := x) (b := (894 : Int32)) (k := 894) (by decide) (by omega)
    have a24 := own_nlt (x := x) (b := (895 : Int32)) (k := 895) (by decide) (by omega)
    have a25 := own_gt (x := x) (b := (8191 : Int32)) (k := 8191) (by decide) (by omega)
    have a26 := own_nlt (x := x) (b := (8192 : Int32)) (k := 8192) (by decide) (by omega)
    have a27 := own_nlt (x := x) (b := (8204 : Int32)) (k := 8204) (by decide) (by omega)
    have a28 := own_ngt (x := x) (b := (8205 : Int32)) (k := 8205) (by decide) (by omega)
    have a29 := own_lt (x := x) (b := (8206 : Int32)) (k := 8206) (by decide) (by omega)
    have a30 := own_lt (x := x) (b := (8304 : Int32)) (k := 8304) (by decide) (by omega)
    have a31 := own_ngt (x := x) (b := (8591 : Int32)) (k := 8591) (by decide) (by omega)
    have a32 := own_lt (x := x) (b := (8592 : Int32)) (k := 8592) (by decide) (by omega)
    have a33 := own_lt (x := x) (b := (11264 : Int32)) (k := 11264) (by decide) (by omega)
    have a34 := own_ngt (x := x) (b := (12271 : Int32)) (k := 12271) (by decide) (by omega)
    have a35 := own_lt (x := x) (b := (12272 : Int32)) (k := 12272) (by decide) (by omega)
    have a36 := own_lt (x := x) (b := (12289 : Int32)) (k := 12289) (by decide) (by omega)
    have a37 := own_ngt (x := x) (b := (55295 : Int32)) (k := 55295) (by decide) (by omega)
    have a38 := own_lt (x := x) (b := (55296 : Int32)) (k := 55296) (by decide) (by omega)
    have a39 := own_lt (x := x) (b := (63744 : Int32)) (k := 63744) (by decide) (by omega)
    have a40 := own_ngt (x := x) (b := (64975 : Int32)) (k := 64975) (by decide) (by omega)
    have a41 := own_lt (x := x) (b := (64976 : Int32)) (k := 64976) (by decide) (by omega)
    have a42 := own_lt (x := x) (b := (65008 : Int32)) (k := 65008) (by decide) (by omega)
    have a43 := own_ngt (x := x) (b := (65533 : Int32)) (k := 65533) (by decide) (by omega)
    have a44 := own_lt (x := x) (b := (65534 : Int32)) (k := 65534) (by decide) (by omega)
    have a45 := own_lt (x := x) (b := (65536 : Int32)) (k := 65536) (by decide) (by omega)
    have a46 := own_ngt (x := x) (b := (983039 : Int32)) (k := 983039) (by decide) (by omega)
    have a47 := own_lt (x := x) (b := (983040 : Int32)) (k := 983040) (by decide) (by omega)
    simp only [F4, F2_201, F2_197, F2_185, F2_173, F2_161, F2_148, F2_134, F2_120, F2_106, F2_92, F2_78, F2_64, F2_50, F2_36, F2_18, F2, F3, if_neg a0, if_neg a1, if_neg a2, if_neg a3, if_pos a4, if_neg a5, if_neg a6, if_neg a7, if_neg a8, if_neg a9, if_pos a10, if_neg a11, if_neg a12, if_pos a13, if_neg a14, if_neg a15, if_pos a16, if_neg a17, if_neg a18, if_pos a19, if_neg a20, if_neg a21, if_pos a22, if_neg a23, if_neg a24, if_pos a25, if_neg a26, if_neg a27, if_neg a28, if_pos a29, if_pos a30, if_neg a31, if_pos a32, if_pos a33, if_neg a34, if_pos a35, if_pos a36, if_neg a37, if_pos a38, if_pos a39, if_neg a40, if_pos a41, if_pos a42, if_neg a43, if_pos a44, if_pos a45, if_neg a46, if_pos a47]
    try decide
  · have a0 := own_nei (x := x) (b := (58 : Int32)) (k := 58) (by decide) (by omega)
    have a1 := own_nlt (x := x) (b := (58 : Int32)) (k := 58) (by decide) (by omega)
    have a2 := own_nlt (x := x) (b := (59 : Int32)) (k := 59) (by decide) (by omega)
    have a3 := own_nlt (x := x) (b := (65 : Int32)) (k := 65) (by decide) (by omega)
    have a4 := own_gt (x := x) (b := (90 : Int32)) (k := 90) (by decide) (by omega)
    have a5 := own_nlt (x := x) (b := (91 : Int32)) (k := 91) (by decide) (by omega)
    have a6 := own_nei (x := x) (b := (95 : Int32)) (k := 95) (by decide) (by omega)
    have a7 := own_nlt (x := x) (b := (95 : Int32)) (k := 95) (by decide) (by omega)
    have a8 := own_nlt (x := x) (b := (96 : Int32)) (k := 96) (by decide) (by omega)
    have a9 := own_nlt (x := x) (b := (97 : Int32)) (k := 97) (by decide) (by omega)
    have a10 := own_gt (x := x) (b := (122 : Int32)) (k := 122) (by decide) (by omega)
    have a11 := own_nlt (x := x) (b := (123 : Int32)) (k := 123) (by decide) (by omega)
    have a12 := own_nlt (x := x) (b := (192 : Int32)) (k := 192) (by decide) (by omega)
    have a13 := own_gt (x := x) (b := (214 : Int32)) (k := 214) (by decide) (by omega)
    have a14 := own_nlt (x := x) (b := (215 : Int32)) (k := 215) (by decide) (by omega)
    have a15 := own_nlt (x := x) (b := (216 : Int32)) (k := 216) (by decide) (by omega)
    have a16 := own_gt (x := x) (b := (246 : Int32)) (k := 246) (by decide) (by omega)
    have a17 := own_nlt (x := x) (b := (247 : Int32)) (k := 247) (by decide) (by omega)
    have a18 := own_nlt (x := x) (b := (248 : Int32)) (k := 248) (by decide) (by omega)
    have a19 := own_gt (x := x) (b := (767 : Int32)) (k := 767) (by decide) (by omega)
    have a20 := own_nlt (x := x) (b := (768 : Int32)) (k := 768) (by decide) (by omega)
    have a21 := own_nlt (x := x) (b := (880 : Int32)) (k := 880) (by decide) (by omega)
    have a22 := own_gt (x := x) (b := (893 : Int32)) (k := 893) (by decide) (by omega)
    have a23 := own_nlt (x := x) (b := (894 : Int32)) (k := 894) (by decide) (by omega)
    have a24 := own_nlt (x := x) (b := (895 : Int32)) (k := 895) (by decide) (by omega)
    have a25 := own_gt (x := x) (b := (8191 : Int32)) (k := 8191) (by decide) (by omega)
    have a26 := own_nlt (x := x) (b := (8192 : Int32)) (k := 8192) (by decide) (by omega)
    have a27 := own_nlt (x := x) (b := (8204 : Int32)) (k := 8204) (by decide) (by omega)
    have a28 := own_gt (x := x) (b := (8205 : Int32)) (k := 8205) (by decide) (by omega)
    have a29 := own_nlt (x := x) (b := (8206 : Int32)) (k := 8206) (by decide) (by omega)
    have a30 := own_lt (x := x) (b := (8304 : Int32)) (k := 8304) (by decide) (by omega)
    have a31 := own_ngt (x := x) (b := (8591 : Int32)) (k := 8591) (by decide) (by omega)
    have a32 := own_lt (x := x) (b := (8592 : Int32)) (k := 8592) (by decide) (by omega)
    have a33 := own_lt (x := x) (b := (11264 : Int32)) (k := 11264) (by decide) (by omega)
    have a34 := own_ngt (x := x) (b := (12271 : Int32)) (k := 12271) (by decide) (by omega)
    have a35 := own_lt (x := x) (b := (12272 : Int32)) (k := 12272) (by decide) (by omega)
    have a36 := own_lt (x := x) (b := (12289 : Int32)) (k := 12289) (by decide) (by omega)
    have a37 := own_ngt (x := x) (b := (55295 : Int32)) (k := 55295) (by decide) (by omega)
    have a38 := own_lt (x := x) (b := (55296 : Int32)) (k := 55296) (by decide) (by omega)
    have a39 := own_lt (x := x) (b := (63744 : Int32)) (k := 63744) (by decide) (by omega)
    have a40 := own_ngt (x := x) (b := (64975 : Int32)) (k := 64975) (by decide) (by omega)
    have a41 := own_lt (x := x) (b := (64976 : Int32)) (k := 64976) (by decide) (by omega)
    have a42 := own_lt (x := x) (b := (65008 : Int32)) (k := 65008) (by decide) (by omega)
    have a43 := own_ngt (x := x) (b := (65533 : Int32)) (k := 65533) (by decide) (by omega)
    have a44 := own_lt (x := x) (b := (65534 : Int32)) (k := 65534) (by decide) (by omega)
    have a45 := own_lt (x := x) (b := (65536 : Int32)) (k := 65536) (by decide) (by omega)
    have a46 := own_ngt (x := x) (b := (983039 : Int32)) (k := 983039) (by decide) (by omega)
    have a47 := own_lt (x := x) (b := (983040 : Int32)) (k := 983040) (by decide) (by omega)
    simp only [F4, F2_201, F2_197, F2_185, F2_173, F2_161, F2_148, F2_134, F2_120, F2_106, F2_92, F2_78, F2_64, F2_50, F2_36, F2_18, F2, F3, if_neg a0, if_neg a1, if_neg a2, if_neg a3, if_pos a4, if_neg a5, if_neg a6, if_neg a7, if_neg a8, if_neg a9, if_pos a10, if_neg a11, if_neg a12, if_pos a13, if_neg a14, if_neg a15, if_pos a16, if_neg a17, if_neg a18, if_pos a19, if_neg a20, if_neg a21, if_pos a22, if_neg a23, if_neg a24, if_pos a25, if_neg a26, if_neg a27, if_pos a28, if_neg a29, if_pos a30, if_neg a31, if_pos a32, if_pos a33, if_neg a34, if_pos a35, if_pos a36, if_neg a37, if_pos a38, if_pos a39, if_neg a40, if_pos a41, if_pos a42, if_neg a43, if_pos a44, if_pos a45, if_neg a46, if_pos a47]
    try decide
  · have a0 := own_nei (x := x) (b := (58 : Int32)) (k := 58) (by decide) (by omega)
    have a1 := own_nlt (x := x) (b := (58 : Int32)) (k := 58) (by decide) (by omega)
    have a2 := own_nlt (x := x) (b := (59 : Int32)) (k := 59) (by decide) (by omega)
    have a3 := own_nlt (x := x) (b := (65 : Int32)) (k := 65) (by decide) (by omega)
    have a4 := own_gt (x := x) (b := (90 : Int32)) (k := 90) (by decide) (by omega)
    have a5 := own_nlt (x := x) (b := (91 : Int32)) (k := 91) (by decide) (by omega)
    have a6 := own_nei (x := x) (b := (95 : Int32)) (k := 95) (by decide) (by omega)
    have a7 := own_nlt (x := x) (b := (95 : Int32)) (k := 95) (by decide) (by omega)
    have a8 := own_nlt (x := x) (b := (96 : Int32)) (k := 96) (by decide) (by omega)
    have a9 := own_nlt (x := x) (b := (97 : Int32)) (k := 97) (by decide) (by omega)
    have a10 := own_gt (x := x) (b := (122 : Int32)) (k := 122) (by decide) (by omega)
    have a11 := own_nlt (x := x) (b := (123 : Int32)) (k := 123) (by decide) (by omega)
    have a12 := own_nlt (x := x) (b := (192 : Int32)) (k := 192) (by decide) (by omega)
    have a13 := own_gt (x := x) (b := (214 : Int32)) (k := 214) (by decide) (by omega)
    have a14 := own_nlt (x := x) (b := (215 : Int32)) (k := 215) (by decide) (by omega)
    have a15 := own_nlt (x := x) (b := (216 : Int32)) (k := 216) (by decide) (by omega)
    have a16 := own_gt (x := x) (b := (246 : Int32)) (k := 246) (by decide) (by omega)
    have a17 := own_nlt (x := x) (b := (247 : Int32)) (k := 247) (by decide) (by omega)
    have a18 := own_nlt (x := x) (b := (248 : Int32)) (k := 248) (by decide) (by omega)
    have a19 := own_gt (x := x) (b := (767 : Int32)) (k := 767) (by decide) (by omega)
    have a20 := own_nlt (x := x) (b := (768 : Int32)) (k := 768) (by decide) (by omega)
    have a21 := own_nlt (x := x) (b := (880 : Int32)) (k := 880) (by decide) (by omega)
    have a22 := own_gt (x := x) (b := (893 : Int32)) (k := 893) (by decide) (by omega)
    have a23 := own_nlt (x := x) (b := (894 : Int32)) (k := 894) (by decide) (by omega)
    have a24 := own_nlt (x := x) (b := (895 : Int32)) (k := 895) (by decide) (by omega)
    have a25 := own_gt (x := x) (b := (8191 : Int32)) (k := 8191) (by decide) (by omega)
    have a26 := own_nlt (x := x) (b := (8192 : Int32)) (k := 8192) (by decide) (by omega)
    have a27 := own_nlt (x := x) (b := (8204 : Int32)) (k := 8204) (by decide) (by omega)
    have a28 := own_gt (x := x) (b := (8205 : Int32)) (k := 8205) (by decide) (by omega)
    have a29 := own_nlt (x := x) (b := (8206 : Int32)) (k := 8206) (by decide) (by omega)
    have a30 := own_nlt (x := x) (b := (8304 : Int32)) (k := 8304) (by decide) (by omega)
    have a31 := own_ngt (x := x) (b := (8591 : Int32)) (k := 8591) (by decide) (by omega)
    have a32 := own_lt (x := x) (b := (8592 : Int32)) (k := 8592) (by decide) (by omega)
    have a33 := own_lt (x := x) (b := (11264 : Int32)) (k := 11264) (by decide) (by omega)
    have a34 := own_ngt (x := x) (b := (12271 : Int32)) (k := 12271) (by decide) (by omega)
    have a35 := own_lt (x := x) (b := (12272 : Int32)) (k := 12272) (by decide) (by omega)
    have a36 := own_lt (x := x) (b := (12289 : Int32)) (k := 12289) (by decide) (by omega)
    have a37 := own_ngt (x := x) (b := (55295 : Int32)) (k := 55295) (by decide) (by omega)
    have a38 := own_lt (x := x) (b := (55296 : Int32)) (k := 55296) (by decide) (by omega)
    have a39 := own_lt (x := x) (b := (63744 : Int32)) (k := 63744) (by decide) (by omega)
    have a40 := own_ngt (x := x) (b := (64975 : Int32)) (k := 64975) (by decide) (by omega)
    have a41 := own_lt (x := x) (b := (64976 : Int32)) (k := 64976) (by decide) (by omega)
    have a42 := own_lt (x := x) (b := (65008 : Int32)) (k := 65008) (by decide) (by omega)
    have a43 := own_ngt (x := x) (b := (65533 : Int32)) (k := 65533) (by decide) (by omega)
    have a44 := own_lt (x := x) (b := (65534 : Int32)) (k := 65534) (by decide) (by omega)
    have a45 := own_lt (x := x) (b := (65536 : Int32)) (k := 65536) (by decide) (by omega)
    have a46 := own_ngt (x := x) (b := (983039 : Int32)) (k := 983039) (by decide) (by omega)
    have a47 := own_lt (x := x) (b := (983040 : Int32)) (k := 983040) (by decide) (by omega)
    simp only [F4, F2_201, F2_197, F2_185, F2_173, F2_161, F2_148, F2_134, F2_120, F2_106, F2_92, F2_78, F2_64, F2_50, F2_36, F2_18, F2, F3, if_neg a0, if_neg a1, if_neg a2, if_neg a3, if_pos a4, if_neg a5, if_neg a6, if_neg a7, if_neg a8, if_neg a9, if_pos a10, if_neg a11, if_neg a12, if_pos a13, if_neg a14, if_neg a15, if_pos a16, if_neg a17, if_neg a18, if_pos a19, if_neg a20, if_neg a21, if_pos a22, if_neg a23, if_neg a24, if_pos a25, if_neg a26, if_neg a27, if_pos a28, if_neg a29, if_neg a30, if_neg a31, if_pos a32, if_pos a33, if_neg a34, if_pos a35, if_pos a36, if_neg a37, if_pos a38, if_pos a39, if_neg a40, if_pos a41, if_pos a42, if_neg a43, if_pos a44, if_pos a45, if_neg a46, if_pos a47]
    try decide
  · have a0 := own_nei (x := x) (b := (58 : Int32)) (k := 58) (by decide) (by omega)
    have a1 := own_nlt (x := x) (b := (58 : Int32)) (k := 58) (by decide) (by omega)
    have a2 := own_nlt (x := x) (b := (59 : Int32)) (k := 59) (by decide) (by omega)
    have a3 := own_nlt (x := x) (b := (65 : Int32)) (k := 65) (by decide) (by omega)
    have a4 := own_gt (x := x) (b := (90 : Int32)) (k := 90) (by decide) (by omega)
    have a5 := own_nlt (x := x) (b := (91 : Int32)) (k := 91) (by decide) (by omega)
    have a6 := own_nei (x := x) (b := (95 : Int32)) (k := 95) (by decide) (by omega)
    have a7 := own_nlt (x := x) (b := (95 : Int32)) (k := 95) (by decide) (by omega)
    have a8 := own_nlt (x := x) (b := (96 : Int32)) (k := 96) (by decide) (by omega)
    have a9 := own_nlt (x := x) (b := (97 : Int32)) (k := 97) (by decide) (by omega)
    have a10 := own_gt (x := x) (b := (122 : Int32)) (k := 122) (by decide) (by omega)
    have a11 := own_nlt (x := x) (b := (123 : Int32)) (k := 123) (by decide) (by omega)
    have a12 := own_nlt (x := x) (b := (192 : Int32)) (k := 192) (by decide) (by omega)
    have a13 := own_gt (x := x) (b := (214 : Int32)) (k := 214) (by decide) (by omega)
    have a14 := own_nlt (x := x) (b := (215 : Int32)) (k := 215) (by decide) (by omega)
    have a15 := own_nlt (x := x) (b := (216 : Int32)) (k := 216) (by decide) (by omega)
    have a16 := own_gt (x := x) (b := (246 : Int32)) (k := 246) (by decide) (by omega)
    have a17 := own_nlt (x := x) (b := (247 : Int32)) (k := 247) (by decide) (by omega)
    have a18 := own_nlt (x := x) (b := (248 : Int32)) (k := 248) (by decide) (by omega)
    have a19 := own_gt (x := x) (b := (767 : Int32)) (k := 767) (by decide) (by omega)
    have a20 := own_nlt (x := x) (b := (768 : Int32)) (k := 768) (by decide) (by omega)
    have a21 := own_nlt (x := x) (b := (880 : Int32)) (k := 880) (by decide) (by omega)
    have a22 := own_gt (x := x) (b := (893 : Int32)) (k := 893) (by decide) (by omega)
    have a23 := own_nlt (x := x) (b := (894 : Int32)) (k := 894) (by decide) (by omega)
    have a24 := own_nlt (x := x) (b := (895 : Int32)) (k := 895) (by decide) (by omega)
    have a25 := own_gt (x := x) (b := (8191 : Int32)) (k := 8191) (by decide) (by omega)
    have a26 := own_nlt (x := x) (b := (8192 : Int32)) (k := 8192) (by decide) (by omega)
    have a27 := own_nlt (x := x) (b := (8204 : Int32)) (k := 8204) (by decide) (by omega)
    have a28 := own_gt (x := x) (b := (8205 : Int32)) (k := 8205) (by decide) (by omega)
    have a29 := own_nlt (x := x) (b := (8206 : Int32)) (k := 8206) (by decide) (by omega)
    have a30 := own_nlt (x := x) (b := (8304 : Int32)) (k := 8304) (by decide) (by omega)
    have a31 := own_gt (x := x) (b := (8591 : Int32)) (k := 8591) (by decide) (by omega)
    have a32 := own_nlt (x := x) (b := (8592 : Int32)) (k := 8592) (by decide) (by omega)
    have a33 := own_lt (x := x) (b := (11264 : Int32)) (k := 11264) (by decide) (by omega)
    have a34 := own_ngt (x := x) (b := (12271 : Int32)) (k := 12271) (by decide) (by omega)
    have a35 := own_lt (x := x) (b := (12272 : Int32)) (k := 12272) (by decide) (by omega)
    have a36 := own_lt (x := x) (b := (12289 : Int32)) (k := 12289) (by decide) (by omega)
    have a37 := own_ngt (x := x) (b := (55295 : Int32)) (k := 55295) (by decide) (by omega)
    have a38 := own_lt (x := x) (b := (55296 : Int32)) (k := 55296) (by decide) (by omega)
    have a39 := own_lt (x := x) (b := (63744 : Int32)) (k := 63744) (by decide) (by omega)
    have a40 := own_ngt (x := x) (b := (64975 : Int32)) (k := 64975) (by decide) (by omega)
    have a41 := own_lt (x := x) (b := (64976 : Int32)) (k := 64976) (by decide) (by omega)
    have a42 := own_lt (x := x) (b := (65008 : Int32)) (k := 65008) (by decide) (by omega)
    have a43 := own_ngt (x := x) (b := (65533 : Int32)) (k := 65533) (by decide) (by omega)
    have a44 := own_lt (x := x) (b := (65534 : Int32)) (k := 65534) (by decide) (by omega)
    have a45 := own_lt (x := x) (b := (65536 : Int32)) (k := 65536) (by decide) (by omega)
    have a46 := own_ngt (x := x) (b := (983039 : Int32)) (k := 983039) (by decide) (by omega)
    have a47 := own_lt (x := x) (b := (983040 : Int32)) (k := 983040) (by decide) (by omega)
    simp only [F4, F2_201, F2_197, F2_185, F2_173, F2_161, F2_148, F2_134, F2_120, F2_106, F2_92, F2_78, F2_64, F2_50, F2_36, F2_18, F2, F3, if_neg a0, if_neg a1, if_neg a2, if_neg a3, if_pos a4, if_neg a5, if_neg a6, if_neg a7, if_neg a8, if_neg a9, if_pos a10, if_neg a11, if_neg a12, if_pos a13, if_neg a14, if_neg a15, if_pos a16, if_neg a17, if_neg a18, if_pos a19, if_neg a20, if_neg a21, if_pos a22, if_neg a23, if_neg a24, if_pos a25, if_neg a26, if_neg a27, if_pos a28, if_neg a29, if_neg a30, if_pos a31, if_neg a32, if_pos a33, if_neg a34, if_pos a35, if_pos a36, if_neg a37, if_pos a38, if_pos a39, if_neg a40, if_pos a41, if_pos a42, if_neg a43, if_pos a44, if_pos a45, if_neg a46, if_pos a47]
    try decide
  · have a0 := own_nei (x := x) (b := (58 : Int32)) (k := 58) (by decide) (by omega)
    have a1 := own_nlt (x := x) (b := (58 : Int32)) (k := 58) (by decide) (by omega)
    have a2 := own_nlt (x := x) (b := (59 : Int32)) (k := 59) (by decide) (by omega)
    have a3 := own_nlt (x := x) (b := (65 : Int32)) (k := 65) (by decide) (by omega)
    have a4 := own_gt (x := x) (b := (90 : Int32)) (k := 90) (by decide) (by omega)
    have a5 := own_nlt (x := x) (b := (91 : Int32)) (k := 91) (by decide) (by omega)
    have a6 := own_nei (x := x) (b := (95 : Int32)) (k := 95) (by decide) (by omega)
    have a7 := own_nlt (x := x) (b := (95 : Int32)) (k := 95) (by decide) (by omega)
    have a8 := own_nlt (x := x) (b := (96 : Int32)) (k := 96) (by decide) (by omega)
    have a9 := own_nlt (x := x) (b := (97 : Int32)) (k := 97) (by decide) (by omega)
    have a10 := own_gt (x := x) (b := (122 : Int32)) (k := 122) (by decide) (by omega)
    have a11 := own_nlt (x := x) (b := (123 : Int32)) (k := 123) (by decide) (by omega)
    have a12 := own_nlt (x := x) (b := (192 : Int32)) (k := 192) (by decide) (by omega)
    have a13 := own_gt (x := x) (b := (214 : Int32)) (k := 214) (by decide) (by omega)
    have a14 := own_nlt (x := x) (b := (215 : Int32)) (k := 215) (by decide) (by omega)
    have a15 := own_nlt (x := x) (b := (216 : Int32)) (k := 216) (by decide) (by omega)
    have a16 := own_gt (x := x) (b := (246 : Int32)) (k := 246) (by decide) (by omega)
    have a17 := own_nlt (x := x) (b := (247 : Int32)) (k := 247) (by decide) (by omega)
    have a18 := own_nlt (x := x) (b := (248 : Int32)) (k := 248) (by decide) (by omega)
    have a19 := own_gt (x := x) (b := (767 : Int32)) (k := 767) (by decide) (by omega)
    have a20 := own_nlt (x := x) (b := (768 : Int32)) (k := 768) (by decide) (by omega)
    have a21 := own_nlt (x := x) (b := (880 : Int32)) (k := 880) (by decide) (by omega)
    have a22 := own_gt (x := x) (b := (893 : Int32)) (k := 893) (by decide) (by omega)
    have a23 := own_nlt (x := x) (b := (894 : Int32)) (k := 894) (by decide) (by omega)
    have a24 := own_nlt (x := x) (b := (895 : Int32)) (k := 895) (by decide) (by omega)
    have a25 := own_gt (x := x) (b := (8191 : Int32)) (k := 8191) (by decide) (by omega)
    have a26 := own_nlt (x := x) (b := (8192 : Int32)) (k := 8192) (by decide) (by omega)
    have a27 := own_nlt (x := x) (b := (8204 : Int32)) (k := 8204) (by decide) (by omega)
    have a28 := own_gt (x := x) (b := (8205 : Int32)) (k := 8205) (by decide) (by omega)
    have a29 := own_nlt (x := x) (b := (8206 : Int32)) (k := 8206) (by decide) (by omega)
    have a30 := own_nlt (x := x) (b := (8304 : Int32)) (k := 8304) (by decide) (by omega)
    have a31 := own_gt (x := x) (b := (8591 : Int32)) (k := 8591) (by decide) (by omega)
    have a32 := own_nlt (x := x) (b := (8592 : Int32)) (k := 8592) (by decide) (by omega)
    have a33 := own_nlt (x := x) (b := (11264 : Int32)) (k := 11264) (by decide) (by omega)
    have a34 := own_ngt (x := x) (b := (12271 : Int32)) (k := 12271) (by decide) (by omega)
    have a35 := own_lt (x := x) (b := (12272 : Int32)) (k := 12272) (by decide) (by omega)
    have a36 := own_lt (x := x) (b := (12289 : Int32)) (k := 12289) (by decide) (by omega)
    have a37 := own_ngt (x := x) (b := (55295 : Int32)) (k := 55295) (by decide) (by omega)
    have a38 := own_lt (x := x) (b := (55296 : Int32)) (k := 55296) (by decide) (by omega)
    have a39 := own_lt (x := x) (b := (63744 : Int32)) (k := 63744) (by decide) (by omega)
    have a40 := own_ngt (x := x) (b := (64975 : Int32)) (k := 64975) (by decide) (by omega)
    have a41 := own_lt (x := x) (b := (64976 : Int32)) (k := 64976) (by decide) (by omega)
    have a42 := own_lt (x := x) (b := (65008 : Int32)) (k := 65008) (by decide) (by omega)
    have a43 := own_ngt (x := x) (b := (65533 : Int32)) (k := 65533) (by decide) (by omega)
    have a44 := own_lt (x := x) (b := (65534 : Int32)) (k := 65534) (by decide) (by omega)
    have a45 := own_lt (x := x) (b := (65536 : Int32)) (k := 65536) (by decide) (by omega)
    have a46 := own_ngt (x := x) (b := (983039 : Int32)) (k := 983039) (by decide) (by omega)
    have a47 := own_lt (x := x) (b := (983040 : Int32)) (k := 983040) (by decide) (by omega)
    simp only [F4, F2_201, F2_197, F2_185, F2_173, F2_161, F2_148, F2_134, F2_120, F2_106, F2_92, F2_78, F2_64, F2_50, F2_36, F2_18, F2, F3, if_neg a0, if_neg a1, if_neg a2, if_neg a3, if_pos a4, if_neg a5, if_neg a6, if_neg a7, if_neg a8, if_neg a9, if_pos a10, if_neg a11, if_neg a12, if_pos a13, if_neg a14, if_neg a15, if_pos a16, if_neg a17, if_neg a18, if_pos a19, if_neg a20, if_neg a21, if_pos a22, if_neg a23, if_neg a24, if_pos a25, if_neg a26, if_neg a27, if_pos a28, if_neg a29, if_neg a30, if_pos a31, if_neg a32, if_neg a33, if_neg a34, if_pos a35, if_pos a36, if_neg a37, if_pos a38, if_pos a39, if_neg a40, if_pos a41, if_pos a42, if_neg a43, if_pos a44, if_pos a45, if_neg a46, if_pos a47]
    try decide
  · have a0 := own_nei (x := x) (b := (58 : Int32)) (k := 58) (by decide) (by omega)
    have a1 := own_nlt (x := x) (b := (58 : Int32)) (k := 58) (by decide) (by omega)
    have a2 := own_nlt (x := x) (b := (59 : Int32)) (k := 59) (by decide) (by omega)
    have a3 := own_nlt (x := x) (b := (65 : Int32)) (k := 65) (by decide) (by omega)
    have a4 := own_gt (x := x) (b := (90 : Int32)) (k := 90) (by decide) (by omega)
    have a5 := own_nlt (x := x) (b := (91 : Int32)) (k := 91) (by decide) (by omega)
    have a6 := own_nei (x := x) (b := (95 : Int32)) (k := 95) (by decide) (by omega)
    have a7 := own_nlt (x := x) (b := (95 : Int32)) (k := 95) (by decide) (by omega)
    have a8 := own_nlt (x := x) (b := (96 : Int32)) (k := 96) (by decide) (by omega)
    have a9 := own_nlt (x := x) (b := (97 : Int32)) (k := 97) (by decide) (by omega)
    have a10 := own_gt (x := x) (b := (122 : Int32)) (k := 122) (by decide) (by omega)
    have a11 := own_nlt (x := x) (b := (123 : Int32)) (k := 123) (by decide) (by omega)
    have a12 := own_nlt (x := x) (b := (192 : Int32)) (k := 192) (by decide) (by omega)
    have a13 := own_gt (x := x) (b := (214 : Int32)) (k := 214) (by decide) (by omega)
    have a14 := own_nlt (x := x) (b := (215 : Int32)) (k := 215) (by decide) (by omega)
    have a15 := own_nlt (x := x) (b := (216 : Int32)) (k := 216) (by decide) (by omega)
    have a16 := own_gt (x := x) (b := (246 : Int32)) (k := 246) (by decide) (by omega)
    have a17 := own_nlt (x := x) (b := (247 : Int32)) (k := 247) (by decide) (by omega)
    have a18 := own_nlt (x := x) (b := (248 : Int32)) (k := 248) (by decide) (by omega)
    have a19 := own_gt (x := x) (b := (767 : Int32)) (k := 767) (by decide) (by omega)
    have a20 := own_nlt (x := x) (b := (768 : Int32)) (k := 768) (by decide) (by omega)
    have a21 := own_nlt (x := x) (b := (880 : Int32)) (k := 880) (by decide) (by omega)
    have a22 := own_gt (x := x) (b := (893 : Int32)) (k := 893) (by decide) (by omega)
    have a23 := own_nlt (x := x) (b := (894 : Int32)) (k := 894) (by decide) (by omega)
    have a24 := own_nlt (x := x) (b := (895 : Int32)) (k := 895) (by decide) (by omega)
    have a25 := own_gt (x := x) (b := (8191 : Int32)) (k := 8191) (by decide) (by omega)
    have a26 := own_nlt (x := x) (b := (8192 : Int32)) (k := 8192) (by decide) (by omega)
    have a27 := own_nlt (x := x) (b := (8204 : Int32)) (k := 8204) (by decide) (by omega)
    have a28 := own_gt (x := x) (b := (8205 : Int32)) (k := 8205) (by decide) (by omega)
    have a29 := own_nlt (x := x) (b := (8206 : Int32)) (k := 8206) (by decide) (by omega)
    have a30 := own_nlt (x := x) (b := (8304 : Int32)) (k := 8304) (by decide) (by omega)
    have a31 := own_gt (x := x) (b := (8591 : Int32)) (k := 8591) (by decide) (by omega)
    have a32 := own_nlt (x := x) (b := (8592 : Int32)) (k := 8592) (by decide) (by omega)
    have a33 := own_nlt (x := x) (b := (11264 : Int32)) (k := 11264) (by decide) (by omega)
    have a34 := own_gt (x := x) (b := (12271 : Int32)) (k := 12271) (by decide) (by omega)
    have a35 := own_nlt (x := x) (b := (12272 : Int32)) (k := 12272) (by decide) (by omega)
    have a36 := own_lt (x := x) (b := (12289 : Int32)) (k := 12289) (by decide) (by omega)
    have a37 := own_ngt (x := x) (b := (55295 : Int32)) (k := 55295) (by decide) (by omega)
    have a38 := own_lt (x := x) (b := (55296 : Int32)) (k := 55296) (by decide) (by omega)
    have a39 := own_lt (x := x) (b := (63744 : Int32)) (k := 63744) (by decide) (by omega)
    have a40 := own_ngt (x := x) (b := (64975 : Int32)) (k := 64975) (by decide) (by omega)
    have a41 := own_lt (x := x) (b := (64976 : Int32)) (k := 64976) (by decide) (by omega)
    have a42 := own_lt (x := x) (b := (65008 : Int32)) (k := 65008) (by decide) (by omega)
    have a43 := own_ngt (x := x) (b := (65533 : Int32)) (k := 65533) (by decide) (by omega)
    have a44 := own_lt (x := x) (b := (65534 : Int32)) (k := 65534) (by decide) (by omega)
    have a45 := own_lt (x := x) (b := (65536 : Int32)) (k := 65536) (by decide) (by omega)
    have a46 := own_ngt (x := x) (b := (983039 : Int32)) (k := 983039) (by decide) (by omega)
    have a47 := own_lt (x := x) (b := (983040 : Int32)) (k := 983040) (by decide) (by omega)
    simp only [F4, F2_201, F2_197, F2_185, F2_173, F2_161, F2_148, F2_134, F2_120, F2_106, F2_92, F2_78, F2_64, F2_50, F2_36, F2_18, F2, F3, if_neg a0, if_neg a1, if_neg a2, if_neg a3, if_pos a4, if_neg a5, if_neg a6, if_neg a7, if_neg a8, if_neg a9, if_pos a10, if_neg a11, if_neg a12, if_pos a13, if_neg a14, if_neg a15, if_pos a16, if_neg a17, if_neg a18, if_pos a19, if_neg a20, if_neg a21, if_pos a22, if_neg a23, if_neg a24, if_pos a25, if_neg a26, if_neg a27, if_pos a28, if_neg a29, if_neg a30, if_pos a31, if_neg a32, if_neg a33, if_pos a34, if_neg a35, if_pos a36, if_neg a37, if_pos a38, if_pos a39, if_neg a40, if_pos a41, if_pos a42, if_neg a43, if_pos a44, if_pos a45, if_neg a46, if_pos a47]
    try decide
  · have a0 := own_nei (x := x) (b := (58 : Int32)) (k := 58) (by decide) (by omega)
    have a1 := own_nlt (x := x) (b := (58 : Int32)) (k := 58) (by decide) (by omega)
    have a2 := own_nlt (x := x) (b := (59 : Int32)) (k := 59) (by decide) (by omega)
    have a3 := own_nlt (x := x) (b := (65 : Int32)) (k := 65) (by decide) (by omega)
    have a4 := own_gt (x := x) (b := (90 : Int32)) (k := 90) (by decide) (by omega)
    have a5 := own_nlt (x := x) (b := (91 : Int32)) (k := 91) (by decide) (by omega)
    have a6 := own_nei (x := x) (b := (95 : Int32)) (k := 95) (by decide) (by omega)
    have a7 := own_nlt (x := x) (b := (95 : Int32)) (k := 95) (by decide) (by omega)
    have a8 := own_nlt (x := x) (b := (96 : Int32)) (k := 96) (by decide) (by omega)
    have a9 := own_nlt (x := x) (b := (97 : Int32)) (k := 97) (by decide) (by omega)
    have a10 := own_gt (x := x) (b := (122 : Int32)) (k := 122) (by decide) (by omega)
    have a11 := own_nlt (x := x) (b := (123 : Int32)) (k := 123) (by decide) (by omega)
    have a12 := own_nlt (x := x) (b := (192 : Int32)) (k := 192) (by decide) (by omega)
    have a13 := own_gt (x := x) (b := (214 : Int32)) (k := 214) (by decide) (by omega)
    have a14 := own_nlt (x := x) (b := (215 : Int32)) (k := 215) (by decide) (by omega)
    have a15 := own_nlt (x := x) (b := (216 : Int32)) (k := 216) (by decide) (by omega)
    have a16 := own_gt (x := x) (b := (246 : Int32)) (k := 246) (by decide) (by omega)
    have a17 := own_nlt (x := x) (b := (247 : Int32)) (k := 247) (by decide) (by omega)
    have a18 := own_nlt (x := x) (b := (248 : Int32)) (k := 248) (by decide) (by omega)
    have a19 := own_gt (x := x) (b := (767 : Int32)) (k := 767) (by decide) (by omega)
    have a20 := own_nlt (x := x) (b := (768 : Int32)) (k := 768) (by decide) (by omega)
    have a21 := own_nlt (x := x) (b := (880 : Int32)) (k := 880) (by decide) (by omega)
    have a22 := own_gt (x := x) (b := (893 : Int32)) (k := 893) (by decide) (by omega)
    have a23 := own_nlt (x := x) (b := (894 : Int32)) (k := 894) (by decide) (by omega)
    have a24 := own_nlt (x := x) (b := (895 : Int32)) (k := 895) (by decide) (by omega)
    have a25 := own_gt (x := x) (b := (8191 : Int32)) (k := 8191) (by decide) (by omega)
    have a26 := own_nlt (x := x) (b := (8192 : Int32)) (k := 8192) (by decide) (by omega)
    have a27 := own_nlt (x := x) (b := (8204 : Int32)) (k := 8204) (by decide) (by omega)
    have a28 := own_gt (x := x) (b := (8205 : Int32)) (k := 8205) (by decide) (by omega)
    have a29 := own_nlt (x := x) (b := (8206 : Int32)) (k := 8206) (by decide) (by omega)
    have a30 := own_nlt (x := x) (b := (8304 : Int32)) (k := 8304) (by decide) (by omega)
    have a31 := own_gt (x := x) (b := (8591 : Int32)) (k := 8591) (by decide) (by omega)
    have a32 := own_nlt (x := x) (b := (8592 : Int32)) (k := 8592) (by decide) (by omega)
    have a33 := own_nlt (x := x) (b := (11264 : Int32)) (k := 11264) (by decide) (by omega)
    have a34 := own_gt (x := x) (b := (12271 : Int32)) (k := 12271) (by decide) (by omega)
    have a35 := own_nlt (x := x) (b := (12272 : Int32)) (k := 12272) (by decide) (by omega)
    have a36 := own_nlt (x := x) (b := (12289 : Int32)) (k := 12289) (by decide) (by omega)
    have a37 := own_ngt (x := x) (b := (55295 : Int32)) (k := 55295) (by decide) (by omega)
    have a38 := own_lt (x := x) (b := (55296 : Int32)) (k := 55296) (by decide) (by omega)
    have a39 := own_lt (x := x) (b := (63744 : Int32)) (k := 63744) (by decide) (by omega)
    have a40 := own_ngt (x := x) (b := (64975 : Int32)) (k := 64975) (by decide) (by omega)
    have a41 := own_lt (x := x) (b := (64976 : Int32)) (k := 64976) (by decide) (by omega)
    have a42 := own_lt (x := x) (b := (65008 : Int32)) (k := 65008) (by decide) (by omega)
    have a43 := own_ngt (x := x) (b := (65533 : Int32)) (k := 65533) (by decide) (by omega)
    have a44 := own_lt (x := x) (b := (65534 : Int32)) (k := 65534) (by decide) (by omega)
    have a45 := own_lt (x := x) (b := (65536 : Int32)) (k := 65536) (by decide) (by omega)
    have a46 := own_ngt (x := x) (b := (983039 : Int32)) (k := 983039) (by decide) (by omega)
    have a47 := own_lt (x := x) (b := (983040 : Int32)) (k := 983040) (by decide) (by omega)
    simp only [F4, F2_201, F2_197, F2_185, F2_173, F2_161, F2_148, F2_134, F2_120, F2_106, F2_92, F2_78, F2_64, F2_50, F2_36, F2_18, F2, F3, if_neg a0, if_neg a1, if_neg a2, if_neg a3, if_pos a4, if_neg a5, if_neg a6, if_neg a7, if_neg a8, if_neg a9, if_pos a10, if_neg a11, if_neg a12, if_pos a13, if_neg a14, if_neg a15, if_pos a16, if_neg a17, if_neg a18, if_pos a19, if_neg a20, if_neg a21, if_pos a22, if_neg a23, if_neg a24, if_pos a25, if_neg a26, if_neg a27, if_pos a28, if_neg a29, if_neg a30, if_pos a31, if_neg a32, if_neg a33, if_pos a34, if_neg a35, if_neg a36, if_neg a37, if_pos a38, if_pos a39, if_neg a40, if_pos a41, if_pos a42, if_neg a43, if_pos a44, if_pos a45, if_neg a46, if_pos a47]
    try decide
  · have a0 := own_nei (x := x) (b := (58 : Int32)) (k := 58) (by decide) (by omega)
    have a1 := own_nlt (x := x) (b := (58 : Int32)) (k := 58) (by decide) (by omega)
    have a2 := own_nlt (x := x) (b := (59 : Int32)) (k := 59) (by decide) (by omega)
    have a3 := own_nlt (x := x) (b := (65 : Int32)) (k := 65) (by decide) (by omega)
    have a4 := own_gt (x := x) (b := (90 : Int32)) (k := 90) (by decide) (by omega)
    have a5 := own_nlt (x := x) (b := (91 : Int32)) (k := 91) (by decide) (by omega)
    have a6 := own_nei (x := x) (b := (95 : Int32)) (k := 95) (by decide) (by omega)
    have a7 := own_nlt (x := x) (b := (95 : Int32)) (k := 95) (by decide) (by omega)
    have a8 := own_nlt (x := x) (b := (96 : Int32)) (k := 96) (by decide) (by omega)
    have a9 := own_nlt (x := x) (b := (97 : Int32)) (k := 97) (by decide) (by omega)
    have a10 := own_gt (x := x) (b := (122 : Int32)) (k := 122) (by decide) (by omega)
    have a11 := own_nlt (x := x) (b := (123 : Int32)) (k := 123) (by decide) (by omega)
    have a12 := own_nlt (x := x) (b := (192 : Int32)) (k := 192) (by decide) (by omega)
    have a13 := own_gt (x := x) (b := (214 : Int32)) (k := 214) (by decide) (by omega)
    have a14 := own_nlt (x := x) (b := (215 : Int32)) (k := 215) (by decide) (by omega)
    have a15 := own_nlt (x := x) (b := (216 : Int32)) (k := 216) (by decide) (by omega)
    have a16 := own_gt (x := x) (b := (246 : Int32)) (k := 246) (by decide) (by omega)
    have a17 := own_nlt (x := x) (b := (247 : Int32)) (k := 247) (by decide) (by omega)
    have a18 := own_nlt (x := x) (b := (248 : Int32)) (k := 248) (by decide) (by omega)
    have a19 := own_gt (x := x) (b := (767 : Int32)) (k := 767) (by decide) (by omega)
    have a20 := own_nlt (x := x) (b := (768 : Int32)) (k := 768) (by decide) (by omega)
    have a21 := own_nlt (x := x) (b := (880 : Int32)) (k := 880) (by decide) (by omega)
    have a22 := own_gt (x := x) (b := (893 : Int32)) (k := 893) (by decide) (by omega)
    have a23 := own_nlt (x := x) (b := (894 : Int32)) (k := 894) (by decide) (by omega)
    have a24 := own_nlt (x := x) (b := (895 : Int32)) (k := 895) (by decide) (by omega)
    have a25 := own_gt (x := x) (b := (8191 : Int32)) (k := 8191) (by decide) (by omega)
    have a26 := own_nlt (x := x) (b := (8192 : Int32)) (k := 8192) (by decide) (by omega)
    have a27 := own_nlt (x := x) (b := (8204 : Int32)) (k := 8204) (by decide) (by omega)
    have a28 := own_gt (x := x) (b := (8205 : Int32)) (k := 8205) (by decide) (by omega)
    have a29 := own_nlt (x := x) (b := (8206 : Int32)) (k := 8206) (by decide) (by omega)
    have a30 := own_nlt (x := x) (b := (8304 : Int32)) (k := 8304) (by decide) (by omega)
    have a31 := own_gt (x := x) (b := (8591 : Int32)) (k := 8591) (by decide) (by omega)
    have a32 := own_nlt (x := x) (b := (8592 : Int32)) (k := 8592) (by decide) (by omega)
    have a33 := own_nlt (x := x) (b := (11264 : Int32)) (k := 11264) (by decide) (by omega)
    have a34 := own_gt (x := x) (b := (12271 : Int32)) (k := 12271) (by decide) (by omega)
    have a35 := own_nlt (x := x) (b := (12272 : Int32)) (k := 12272) (by decide) (by omega)
    have a36 := own_nlt (x := x) (b := (12289 : Int32)) (k := 12289) (by decide) (by omega)
    have a37 := own_gt (x := x) (b := (55295 : Int32)) (k := 55295) (by decide) (by omega)
    have a38 := own_nlt (x := x) (b := (55296 : Int32)) (k := 55296) (by decide) (by omega)
    have a39 := own_lt (x := x) (b := (63744 : Int32)) (k := 63744) (by decide) (by omega)
    have a40 := own_ngt (x := x) (b := (64975 : Int32)) (k := 64975) (by decide) (by omega)
    have a41 := own_lt (x := x) (b := (64976 : Int32)) (k := 64976) (by decide) (by omega)
    have a42 := own_lt (x := x) (b := (65008 : Int32)) (k := 65008) (by decide) (by omega)
    have a43 := own_ngt (x := x) (b := (65533 : Int32)) (k := 65533) (by decide) (by omega)
    have a44 := own_lt (x := x) (b := (65534 : Int32)) (k := 65534) (by decide) (by omega)
    have a45 := own_lt (x := x) (b := (65536 : Int32)) (k := 65536) (by decide) (by omega)
    have a46 := own_ngt (x := x) (b := (983039 : Int32)) (k := 983039) (by decide) (by omega)
    have a47 := own_lt (x := x) (b := (983040 : Int32)) (k := 983040) (by decide) (by omega)
    simp only [F4, F2_201, F2_197, F2_185, F2_173, F2_161, F2_148, F2_134, F2_120, F2_106, F2_92, F2_78, F2_64, F2_50, F2_36, F2_18, F2, F3, if_neg a0, if_neg a1, if_neg a2, if_neg a3, if_pos a4, if_neg a5, if_neg a6, if_neg a7, if_neg a8, if_neg a9, if_pos a10, if_neg a11, if_neg a12, if_pos a13, if_neg a14, if_neg a15, if_pos a16, if_neg a17, if_neg a18, if_pos a19, if_neg a20, if_neg a21, if_pos a22, if_neg a23, if_neg a24, if_pos a25, if_neg a26, if_neg a27, if_pos a28, if_neg a29, if_neg a30, if_pos a31, if_neg a32, if_neg a33, if_pos a34, if_neg a35, if_neg a36, if_pos a37, if_neg a38, if_pos a39, if_neg a40, if_pos a41, if_pos a42, if_neg a43, if_pos a44, if_pos a45, if_neg a46, if_pos a47]
    try decide
  · have a0 := own_nei (x := x) (b := (58 : Int32)) (k := 58) (by decide) (by omega)
    have a1 := own_nlt (x := x) (b := (58 : Int32)) (k := 58) (by decide) (by omega)
    have a2 := own_nlt (x := x) (b := (59 : Int32)) (k := 59) (by decide) (by omega)
    have a3 := own_nlt (x := x) (b := (65 : Int32)) (k := 65) (by decide) (by omega)
    have a4 := own_gt (x := x) (b := (90 : Int32)) (k := 90) (by decide) (by omega)
    have a5 := own_nlt (x := x) (b := (91 : Int32)) (k := 91) (by decide) (by omega)
    have a6 := own_nei (x := x) (b := (95 : Int32)) (k := 95) (by decide) (by omega)
    have a7 := own_nlt (x := x) (b := (95 : Int32)) (k := 95) (by decide) (by omega)
    have a8 := own_nlt (x := x) (b := (96 : Int32)) (k := 96) (by decide) (by omega)
    have a9 := own_nlt (x := x) (b := (97 : Int32)) (k := 97) (by decide) (by omega)
    have a10 := own_gt (x := x) (b := (122 : Int32)) (k := 122) (by decide) (by omega)
    have a11 := own_nlt (x := x) (b := (123 : Int32)) (k := 123) (by decide) (by omega)
    have a12 := own_nlt (x := x) (b := (192 : Int32)) (k := 192) (by decide) (by omega)
    have a13 := own_gt (x := x) (b := (214 : Int32)) (k := 214) (by decide) (by omega)
    have a14 := own_nlt (x := x) (b := (215 : Int32)) (k := 215) (by decide) (by omega)
    have a15 := own_nlt (x := x) (b := (216 : Int32)) (k := 216) (by decide) (by omega)
    have a16 := own_gt (x := x) (b := (246 : Int32)) (k := 246) (by decide) (by omega)
    have a17 := own_nlt (x := x) (b := (247 : Int32)) (k := 247) (by decide) (by omega)
    have a18 := own_nlt (x := x) (b := (248 : Int32)) (k := 248) (by decide) (by omega)
    have a19 := own_gt (x := x) (b := (767 : Int32)) (k := 767) (by decide) (by omega)
    have a20 := own_nlt (x := x) (b := (768 : Int32)) (k := 768) (by decide) (by omega)
    have a21 := own_nlt (x := x) (b := (880 : Int32)) (k := 880) (by decide) (by omega)
    have a22 := own_gt (x := x) (b := (893 : Int32)) (k := 893) (by decide) (by omega)
    have a23 := own_nlt (x := x) (b := (894 : Int32)) (k := 894) (by decide) (by omega)
    have a24 := own_nlt (x := x) (b := (895 : Int32)) (k := 895) (by decide) (by omega)
    have a25 := own_gt (x := x) (b := (8191 : Int32)) (k := 8191) (by decide) (by omega)
    have a26 := own_nlt (x := x) (b := (8192 : Int32)) (k := 8192) (by decide) (by omega)
    have a27 := own_nlt (x := x) (b := (8204 : Int32)) (k := 8204) (by decide) (by omega)
    have a28 := own_gt (x := x) (b := (8205 : Int32)) (k := 8205) (by decide) (by omega)
    have a29 := own_nlt (x := x) (b := (8206 : Int32)) (k := 8206) (by decide) (by omega)
    have a30 := own_nlt (x := x) (b := (8304 : Int32)) (k := 8304) (by decide) (by omega)
    have a31 := own_gt (x := x) (b := (8591 : Int32)) (k := 8591) (by decide) (by omega)
    have a32 := own_nlt (x := x) (b := (8592 : Int32)) (k := 8592) (by decide) (by omega)
    have a33 := own_nlt (x := x) (b := (11264 : Int32)) (k := 11264) (by decide) (by omega)
    have a34 := own_gt (x := x) (b := (12271 : Int32)) (k := 12271) (by decide) (by omega)
    have a35 := own_nlt (x := x) (b := (12272 : Int32)) (k := 12272) (by decide) (by omega)
    have a36 := own_nlt (x := x) (b := (12289 : Int32)) (k := 12289) (by decide) (by omega)
    have a37 := own_gt (x := x) (b := (55295 : Int32)) (k := 55295) (by decide) (by omega)
    have a38 := own_nlt (x := x) (b := (55296 : Int32)) (k := 55296) (by decide) (by omega)
    have a39 := own_nlt (x := x) (b := (63744 : Int32)) (k := 63744) (by decide) (by omega)
    have a40 := own_ngt (x := x) (b := (64975 : Int32)) (k := 64975) (by decide) (by omega)
    have a41 := own_lt (x := x) (b := (64976 : Int32)) (k := 64976) (by decide) (by omega)
    have a42 := own_lt (x := x) (b := (65008 : Int32)) (k := 65008) (by decide) (by omega)
    have a43 := own_ngt (x := x) (b := (65533 : Int32)) (k := 65533) (by decide) (by omega)
    have a44 := own_lt (x := x) (b := (65534 : Int32)) (k := 65534) (by decide) (by omega)
    have a45 := own_lt (x := x) (b := (65536 : Int32)) (k := 65536) (by decide) (by omega)
    have a46 := own_ngt (x := x) (b := (983039 : Int32)) (k := 983039) (by decide) (by omega)
    have a47 := own_lt (x := x) (b := (983040 : Int32)) (k := 983040) (by decide) (by omega)
    simp only [F4, F2_201, F2_197, F2_185, F2_173, F2_161, F2_148, F2_134, F2_120, F2_106, F2_92, F2_78, F2_64, F2_50, F2_36, F2_18, F2, F3, if_neg a0, if_neg a1, if_neg a2, if_neg a3, if_pos a4, if_neg a5, if_neg a6, if_neg a7, if_neg a8, if_neg a9, if_pos a10, if_neg a11, if_neg a12, if_pos a13, if_neg a14, if_neg a15, if_pos a16, if_neg a17, if_neg a18, if_pos a19, if_neg a20, if_neg a21, if_pos a22, if_neg a23, if_neg a24, if_pos a25, if_neg a26, if_neg a27, if_pos a28, if_neg a29, if_neg a30, if_pos a31, if_neg a32, if_neg a33, if_pos a34, if_neg a35, if_neg a36, if_pos a37, if_neg a38, if_neg a39, if_neg a40, if_pos a41, if_pos a42, if_neg a43, if_pos a44, if_pos a45, if_neg a46, if_pos a47]
    try decide
  · have a0 := own_nei (x := x) (b := (58 : Int32)) (k := 58) (by decide) (by omega)
    have a1 := own_nlt (x := x) (b := (58 : Int32)) (k := 58) (by decide) (by omega)
    have a2 := own_nlt (x := x) (b := (59 : Int32)) (k := 59) (by decide) (by omega)
    have a3 := own_nlt (x := x) (b := (65 : Int32)) (k := 65) (by decide) (by omega)
    have a4 := own_gt (x := x) (b := (90 : Int32)) (k := 90) (by decide) (by omega)
    have a5 := own_nlt (x := x) (b := (91 : Int32)) (k := 91) (by decide) (by omega)
    have a6 := own_nei (x := x) (b := (95 : Int32)) (k := 95) (by decide) (by omega)
    have a7 := own_nlt (x := x) (b := (95 : Int32)) (k := 95) (by decide) (by omega)
    have a8 := own_nlt (x := x) (b := (96 : Int32)) (k := 96) (by decide) (by omega)
    have a9 := own_nlt (x := x) (b := (97 : Int32)) (k := 97) (by decide) (by omega)
    have a10 := own_gt (x := x) (b := (122 : Int32)) (k := 122) (by decide) (by omega)
    have a11 := own_nlt (x := x) (b := (123 : Int32)) (k := 123) (by decide) (by omega)
    have a12 := own_nlt (x := x) (b := (192 : Int32)) (k := 192) (by decide) (by omega)
    have a13 := own_gt (x := x) (b := (214 : Int32)) (k := 214) (by decide) (by omega)
    have a14 := own_nlt (x := x) (b := (215 : Int32)) (k := 215) (by decide) (by omega)
    have a15 := own_nlt (x := x) (b := (216 : Int32)) (k := 216) (by decide) (by omega)
    have a16 := own_gt (x := x) (b := (246 : Int32)) (k := 246) (by decide) (by omega)
    have a17 := own_nlt (x := x) (b := (247 : Int32)) (k := 247) (by decide) (by omega)
    have a18 := own_nlt (x := x) (b := (248 : Int32)) (k := 248) (by decide) (by omega)
    have a19 := own_gt (x := x) (b := (767 : Int32)) (k := 767) (by decide) (by omega)
    have a20 := own_nlt (x := x) (b := (768 : Int32)) (k := 768) (by decide) (by omega)
    have a21 := own_nlt (x := x) (b := (880 : Int32)) (k := 880) (by decide) (by omega)
    have a22 := own_gt (x := x) (b := (893 : Int32)) (k := 893) (by decide) (by omega)
    have a23 := own_nlt (x := x) (b := (894 : Int32)) (k := 894) (by decide) (by omega)
    have a24 := own_nlt (x := x) (b := (895 : Int32)) (k := 895) (by decide) (by omega)
    have a25 := own_gt (x := x) (b := (8191 : Int32)) (k := 8191) (by decide) (by omega)
    have a26 := own_nlt (x := x) (b := (8192 : Int32)) (k := 8192) (by decide) (by omega)
    have a27 := own_nlt (x := x) (b := (8204 : Int32)) (k := 8204) (by decide) (by omega)
    have a28 := own_gt (x := x) (b := (8205 : Int32)) (k := 8205) (by decide) (by omega)
    have a29 := own_nlt (x := x) (b := (8206 : Int32)) (k := 8206) (by decide) (by omega)
    have a30 := own_nlt (x := x) (b := (8304 : Int32)) (k := 8304) (by decide) (by omega)
    have a31 := own_gt (x := x) (b := (8591 : Int32)) (k := 8591) (by decide) (by omega)
    have a32 := own_nlt (x := x) (b := (8592 : Int32)) (k := 8592) (by decide) (by omega)
    have a33 := own_nlt (x := x) (b := (11264 : Int32)) (k := 11264) (by decide) (by omega)
    have a34 := own_gt (x := x) (b := (12271 : Int32)) (k := 12271) (by decide) (by omega)
    have a35 := own_nlt (x := x) (b := (12272 : Int32)) (k := 12272) (by decide) (by omega)
    have a36 := own_nlt (x := x) (b := (12289 : Int32)) (k := 12289) (by decide) (by omega)
    have a37 := own_gt (x := x) (b := (55295 : Int32)) (k := 55295) (by decide) (by omega)
    have a38 := own_nlt (x := x) (b := (55296 : Int32)) (k := 55296) (by decide) (by omega)
    have a39 := own_nlt (x := x) (b := (63744 : Int32)) (k := 63744) (by decide) (by omega)
    have a40 := own_gt (x := x) (b := (64975 : Int32)) (k := 64975) (by decide) (by omega)
    have a41 := own_nlt (x := x) (b := (64976 : Int32)) (k := 64976) (by decide) (by omega)
    have a42 := own_lt (x := x) (b := (65008 : Int32)) (k := 65008) (by decide) (by omega)
    have a43 := own_ngt (x := x) (b := (65533 : Int32)) (k := 65533) (by decide) (by omega)
    have a44 := own_lt (x := x) (b := (65534 : Int32)) (k := 65534) (by decide) (by omega)
    have a45 := own_lt (x := x) (b := (65536 : Int32)) (k := 65536) (by decide) (by omega)
    have a46 := own_ngt (x := x) (b := (983039 : Int32)) (k := 983039) (by decide) (by omega)
    have a47 := own_lt (x := x) (b := (983040 : Int32)) (k := 983040) (by decide) (by omega)
    simp only [F4, F2_201, F2_197, F2_185, F2_173, F2_161, F2_148, F2_134, F2_120, F2_106, F2_92, F2_78, F2_64, F2_50, F2_36, F2_18, F2, F3, if_neg a0, if_neg a1, if_neg a2, if_neg a3, if_pos a4, if_neg a5, if_neg a6, if_neg a7, if_neg a8, if_neg a9, if_pos a10, if_neg a11, if_neg a12, if_pos a13, if_neg a14, if_neg a15, if_pos a16, if_neg a17, if_neg a18, if_pos a19, if_neg a20, if_neg a21, if_pos a22, if_neg a23, if_neg a24, if_pos a25, if_neg a26, if_neg a27, if_pos a28, if_neg a29, if_neg a30, if_pos a31, if_neg a32, if_neg a33, if_pos a34, if_neg a35, if_neg a36, if_pos a37, if_neg a38, if_neg a39, if_pos a40, if_neg a41, if_pos a42, if_neg a43, if_pos a44, if_pos a45, if_neg a46, if_pos a47]
    try decide
  · have a0 := own_nei (x := x) (b := (58 : Int32)) (k := 58) (by decide) (by omega)
    have a1 := own_nlt (x := x) (b := (58 : Int32)) (k := 58) (by decide) (by omega)
    have a2 := own_nlt (x := x) (b := (59 : Int32)) (k := 59) (by decide) (by omega)
    have a3 := own_nlt (x := x) (b := (65 : Int32)) (k := 65) (by decide) (by omega)
    have a4 := own_gt (x := x) (b := (90 : Int32)) (k := 90) (by decide) (by omega)
    have a5 := own_nlt (x := x) (b := (91 : Int32)) (k := 91) (by decide) (by omega)
    have a6 := own_nei (x := x) (b := (95 : Int32)) (k := 95) (by decide) (by omega)
    have a7 := own_nlt (x := x) (b := (95 : Int32)) (k := 95) (by decide) (by omega)
    have a8 := own_nlt (x := x) (b := (96 : Int32)) (k := 96) (by decide) (by omega)
    have a9 := own_nlt (x := x) (b := (97 : Int32)) (k := 97) (by decide) (by omega)
    have a10 := own_gt (x := x) (b := (122 : Int32)) (k := 122) (by decide) (by omega)
    have a11 := own_nlt (x := x) (b := (123 : Int32)) (k := 123) (by decide) (by omega)
    have a12 := own_nlt (x := x) (b := (192 : Int32)) (k := 192) (by decide) (by omega)
    have a13 := own_gt (x := x) (b := (214 : Int32)) (k := 214) (by decide) (by omega)
    have a14 := own_nlt (x := x) (b := (215 : Int32)) (k := 215) (by decide) (by omega)
    have a15 := own_nlt (x := x) (b := (216 : Int32)) (k := 216) (by decide) (by omega)
    have a16 := own_gt (x := x) (b := (246 : Int32)) (k := 246) (by decide) (by omega)
    have a17 := own_nlt (x := x) (b := (247 : Int32)) (k := 247) (by decide) (by omega)
    have a18 := own_nlt (x := x) (b := (248 : Int32)) (k := 248) (by decide) (by omega)
    have a19 := own_gt (x := x) (b := (767 : Int32)) (k := 767) (by decide) (by omega)
    have a20 := own_nlt (x := x) (b := (768 : Int32)) (k := 768) (by decide) (by omega)
    have a21 := own_nlt (x := x) (b := (880 : Int32)) (k := 880) (by decide) (by omega)
    have a22 := own_gt (x := x) (b := (893 : Int32)) (k := 893) (by decide) (by omega)
    have a23 := own_nlt (x := x) (b := (894 : Int32)) (k := 894) (by decide) (by omega)
    have a24 := own_nlt (x := x) (b := (895 : Int32)) (k := 895) (by decide) (by omega)
    have a25 := own_gt (x := x) (b := (8191 : Int32)) (k := 8191) (by decide) (by omega)
    have a26 := own_nlt (x := x) (b := (8192 : Int32)) (k := 8192) (by decide) (by omega)
    have a27 := own_nlt (x := x) (b := (8204 : Int32)) (k := 8204) (by decide) (by omega)
    have a28 := own_gt (x := x) (b := (8205 : Int32)) (k := 8205) (by decide) (by omega)
    have a29 := own_nlt (x := x) (b := (8206 : Int32)) (k := 8206) (by decide) (by omega)
    have a30 := own_nlt (x := x) (b := (8304 : Int32)) (k := 8304) (by decide) (by omega)
    have a31 := own_gt (x := x) (b := (8591 : Int32)) (k := 8591) (by decide) (by omega)
    have a32 := own_nlt (x := x) (b := (8592 : Int32)) (k := 8592) (by decide) (by omega)
    have a33 := own_nlt (x := x) (b := (11264 : Int32)) (k := 11264) (by decide) (by omega)
    have a34 := own_gt (x := x) (b := (12271 : Int32)) (k := 12271) (by decide) (by omega)
    have a35 := own_nlt (x := x) (b := (12272 : Int32)) (k := 12272) (by decide) (by omega)
    have a36 := own_nlt (x := x) (b := (12289 : Int32)) (k := 12289) (by decide) (by omega)
    have a37 := own_gt (x := x) (b := (55295 : Int32)) (k := 55295) (by decide) (by omega)
    have a38 := own_nlt (x := x) (b := (55296 : Int32)) (k := 55296) (by decide) (by omega)
    have a39 := own_nlt (x := x) (b := (63744 : Int32)) (k := 63744) (by decide) (by omega)
    have a40 := own_gt (x := x) (b := (64975 : Int32)) (k := 64975) (by decide) (by omega)
    have a41 := own_nlt (x := x) (b := (64976 : Int32)) (k := 64976) (by decide) (by omega)
    have a42 := own_nlt (x := x) (b := (65008 : Int32)) (k := 65008) (by decide) (by omega)
    have a43 := own_ngt (x := x) (b := (65533 : Int32)) (k := 65533) (by decide) (by omega)
    have a44 := own_lt (x := x) (b := (65534 : Int32)) (k := 65534) (by decide) (by omega)
    have a45 := own_lt (x := x) (b := (65536 : Int32)) (k := 65536) (by decide) (by omega)
    have a46 := own_ngt (x := x) (b := (983039 : Int32)) (k := 983039) (by decide) (by omega)
    have a47 := own_lt (x := x) (b := (983040 : Int32)) (k := 983040) (by decide) (by omega)
    simp only [F4, F2_201, F2_197, F2_185, F2_173, F2_161, F2_148, F2_134, F2_120, F2_106, F2_92, F2_78, F2_64, F2_50, F2_36, F2_18, F2, F3, if_neg a0, if_neg a1, if_neg a2, if_neg a3, if_pos a4, if_neg a5, if_neg a6, if_neg a7, if_neg a8, if_neg a9, if_pos a10, if_neg a11, if_neg a12, if_pos a13, if_neg a14, if_neg a15, if_pos a16, if_neg a17, if_neg a18, if_pos a19, if_neg a20, if_neg a21, if_pos a22, if_neg a23, if_neg a24, if_pos a25, if_neg a26, if_neg a27, if_pos a28, if_neg a29, if_neg a30, if_pos a31, if_neg a32, if_neg a33, if_pos a34, if_neg a35, if_neg a36, if_pos a37, if_neg a38, if_neg a39, if_pos a40, if_neg a41, if_neg a42, if_neg a43, if_pos a44, if_pos a45, if_neg a46, if_pos a47]
    try decide
  · have a0 := own_nei (x := x) (b := (58 : Int32)) (k := 58) (by decide) (by omega)
    have a1 := own_nlt (x := x) (b := (58 : Int32)) (k := 58) (by decide) (by omega)
    have a2 := own_nlt (x := x) (b := (59 : Int32)) (k := 59) (by decide) (by omega)
    have a3 := own_nlt (x := x) (b := (65 : Int32)) (k := 65) (by decide) (by omega)
    have a4 := own_gt (x := x) (b := (90 : Int32)) (k := 90) (by decide) (by omega)
    have a5 := own_nlt (x := x) (b := (91 : Int32)) (k := 91) (by decide) (by omega)
    have a6 := own_nei (x := x) (b := (95 : Int32)) (k := 95) (by decide) (by omega)
    have a7 := own_nlt (x := x) (b := (95 : Int32)) (k := 95) (by decide) (by omega)
    have a8 := own_nlt (x := x) (b := (96 : Int32)) (k := 96) (by decide) (by omega)
    have a9 := own_nlt (x := x) (b := (97 : Int32)) (k := 97) (by decide) (by omega)
    have a10 := own_gt (x := x) (b := (122 : Int32)) (k := 122) (by decide) (by omega)
    have a11 := own_nlt (x := x) (b := (123 : Int32)) (k := 123) (by decide) (by omega)
    have a12 := own_nlt (x := x) (b := (192 : Int32)) (k := 192) (by decide) (by omega)
    have a13 := own_gt (x := x) (b := (214 : Int32)) (k := 214) (by decide) (by omega)
    have a14 := own_nlt (x := x) (b := (215 : Int32)) (k := 215) (by decide) (by omega)
    have a15 := own_nlt (x := x) (b := (216 : Int32)) (k := 216) (by decide) (by omega)
    have a16 := own_gt (x := x) (b := (246 : Int32)) (k := 246) (by decide) (by omega)
    have a17 := own_nlt (x := x) (b := (247 : Int32)) (k := 247) (by decide) (by omega)
    have a18 := own_nlt (x := x) (b := (248 : Int32)) (k := 248) (by decide) (by omega)
    have a19 := own_gt (x := x) (b := (767 : Int32)) (k := 767) (by decide) (by omega)
    have a20 := own_nlt (x := x) (b := (768 : Int32)) (k := 768) (by decide) (by omega)
    have a21 := own_nlt (x := x) (b := (880 : Int32)) (k := 880) (by decide) (by omega)
    have a22 := own_gt (x := x) (b := (893 : Int32)) (k := 893) (by decide) (by omega)
    have a23 := own_nlt (x := x) (b := (894 : Int32)) (k := 894) (by decide) (by omega)
    have a24 := own_nlt (x := x) (b := (895 : Int32)) (k := 895) (by decide) (by omega)
    have a25 := own_gt (x := x) (b := (8191 : Int32)) (k := 8191) (by decide) (by omega)
    have a26 := own_nlt (x := x) (b := (8192 : Int32)) (k := 8192) (by decide) (by omega)
    have a27 := own_nlt (x := x) (b := (8204 : Int32)) (k := 8204) (by decide) (by omega)
    have a28 := own_gt (x := x) (b := (8205 : Int32)) (k := 8205) (by decide) (by omega)
    have a29 := own_nlt (x := x) (b := (8206 : Int32)) (k := 8206) (by decide) (by omega)
    have a30 := own_nlt (x := x) (b := (8304 : Int32)) (k := 8304) (by decide) (by omega)
    have a31 := own_gt (x := x) (b := (8591 : Int32)) (k := 8591) (by decide) (by omega)
    have a32 := own_nlt (x := x) (b := (8592 : Int32)) (k := 8592) (by decide) (by omega)
    have a33 := own_nlt (x := x) (b := (11264 : Int32)) (k := 11264) (by decide) (by omega)
    have a34 := own_gt (x := x) (b := (12271 : Int32)) (k := 12271) (by decide) (by omega)
    have a35 := own_nlt (x := x) (b := (12272 : Int32)) (k := 12272) (by decide) (by omega)
    have a36 := own_nlt (x := x) (b := (12289 : Int32)) (k := 12289) (by decide) (by omega)
    have a37 := own_gt (x := x) (b := (55295 : Int32)) (k := 55295) (by decide) (by omega)
    have a38 := own_nlt (x := x) (b := (55296 : Int32)) (k := 55296) (by decide) (by omega)
    have a39 := own_nlt (x := x) (b := (63744 : Int32)) (k := 63744) (by decide) (by omega)
    have a40 := own_gt (x := x) (b := (64975 : Int32)) (k := 64975) (by decide) (by omega)
    have a41 := own_nlt (x := x) (b := (64976 : Int32)) (k := 64976) (by decide) (by omega)
    have a42 := own_nlt (x := x) (b := (65008 : Int32)) (k := 65008) (by decide) (by omega)
    have a43 := own_gt (x := x) (b := (65533 : Int32)) (k := 65533) (by decide) (by omega)
    have a44 := own_nlt (x := x) (b := (65534 : Int32)) (k := 65534) (by decide) (by omega)
    have a45 := own_lt (x := x) (b := (65536 : Int32)) (k := 65536) (by decide) (by omega)
    have a46 := own_ngt (x := x) (b := (983039 : Int32)) (k := 983039) (by decide) (by omega)
    have a47 := own_lt (x := x) (b := (983040 : Int32)) (k := 983040) (by decide) (by omega)
    simp only [F4, F2_201, F2_197, F2_185, F2_173, F2_161, F2_148, F2_134, F2_120, F2_106, F2_92, F2_78, F2_64, F2_50, F2_36, F2_18, F2, F3, if_neg a0, if_neg a1, if_neg a2, if_neg a3, if_pos a4, if_neg a5, if_neg a6, if_neg a7, if_neg a8, if_neg a9, if_pos a10, if_neg a11, if_neg a12, if_pos a13, if_neg a14, if_neg a15, if_pos a16, if_neg a17, if_neg a18, if_pos a19, if_neg a20, if_neg a21, if_pos a22, if_neg a23, if_neg a24, if_pos a25, if_neg a26, if_neg a27, if_pos a28, if_neg a29, if_neg a30, if_pos a31, if_neg a32, if_neg a33, if_pos a34, if_neg a35, if_neg a36, if_pos a37, if_neg a38, if_neg a39, if_pos a40, if_neg a41, if_neg a42, if_pos a43, if_neg a44, if_pos a45, if_neg a46, if_pos a47]
    try decide
  · have a0 := own_nei (x := x) (b := (58 : Int32)) (k := 58) (by decide) (by omega)
    have a1 := own_nlt (x := x) (b := (58 : Int32)) (k := 58) (by decide) (by omega)
    have a2 := own_nlt (x := x) (b := (59 : Int32)) (k := 59) (by decide) (by omega)
    have a3 := own_nlt (x := x) (b := (65 : Int32)) (k := 65) (by decide) (by omega)
    have a4 := own_gt (x := x) (b := (90 : Int32)) (k := 90) (by decide) (by omega)
    have a5 := own_nlt (x := x) (b := (91 : Int32)) (k := 91) (by decide) (by omega)
    have a6 := own_nei (x := x) (b := (95 : Int32)) (k := 95) (by decide) (by omega)
    have a7 := own_nlt (x := x) (b := (95 : Int32)) (k := 95) (by decide) (by omega)
    have a8 := own_nlt (x := x) (b := (96 : Int32)) (k := 96) (by decide) (by omega)
    have a9 := own_nlt (x := x) (b := (97 : Int32)) (k := 97) (by decide) (by omega)
    have a10 := own_gt (x := x) (b := (122 : Int32)) (k := 122) (by decide) (by omega)
    have a11 := own_nlt (x := x) (b := (123 : Int32)) (k := 123) (by decide) (by omega)
    have a12 := own_nlt (x := x) (b := (192 : Int32)) (k := 192) (by decide) (by omega)
    have a13 := own_gt (x := x) (b := (214 : Int32)) (k := 214) (by decide) (by omega)
    have a14 := own_nlt (x := x) (b := (215 : Int32)) (k := 215) (by decide) (by omega)
    have a15 := own_nlt (x := x) (b := (216 : Int32)) (k := 216) (by decide) (by omega)
    have a16 := own_gt (x := x) (b := (246 : Int32)) (k := 246) (by decide) (by omega)
    have a17 := own_nlt (x := x) (b := (247 : Int32)) (k := 247) (by decide) (by omega)
    have a18 := own_nlt (x := x) (b := (248 : Int32)) (k := 248) (by decide) (by omega)
    have a19 := own_gt (x := x) (b := (767 : Int32)) (k := 767) (by decide) (by omega)
    have a20 := own_nlt (x := x) (b := (768 : Int32)) (k := 768) (by decide) (by omega)
    have a21 := own_nlt (x := x) (b := (880 : Int32)) (k := 880) (by decide) (by omega)
    have a22 := own_gt (x := x) (b := (893 : Int32)) (k := 893) (by decide) (by omega)
    have a23 := own_nlt (x := x) (b := (894 : Int32)) (k := 894) (by decide) (by omega)
    have a24 := own_nlt (x := x) (b := (895 : Int32)) (k := 895) (by decide) (by omega)
    have a25 := own_gt (x := x) (b := (8191 : Int32)) (k := 8191) (by decide) (by omega)
    have a26 := own_nlt (x := x) (b := (8192 : Int32)) (k := 8192) (by decide) (by omega)
    have a27 := own_nlt (x := x) (b := (8204 : Int32)) (k := 8204) (by decide) (by omega)
    have a28 := own_gt (x := x) (b := (8205 : Int32)) (k := 8205) (by decide) (by omega)
    have a29 := own_nlt (x := x) (b := (8206 : Int32)) (k := 8206) (by decide) (by omega)
    have a30 := own_nlt (x := x) (b := (8304 : Int32)) (k := 8304) (by decide) (by omega)
    have a31 := own_gt (x := x) (b := (8591 : Int32)) (k := 8591) (by decide) (by omega)
    have a32 := own_nlt (x := x) (b := (8592 : Int32)) (k := 8592) (by decide) (by omega)
    have a33 := own_nlt (x := x) (b := (11264 : Int32)) (k := 11264) (by decide) (by omega)
    have a34 := own_gt (x := x) (b := (12271 : Int32)) (k := 12271) (by decide) (by omega)
    have a35 := own_nlt (x := x) (b := (12272 : Int32)) (k := 12272) (by decide) (by omega)
    have a36 := own_nlt (x := x) (b := (12289 : Int32)) (k := 12289) (by decide) (by omega)
    have a37 := own_gt (x := x) (b := (55295 : Int32)) (k := 55295) (by decide) (by omega)
    have a38 := own_nlt (x := x) (b := (55296 : Int32)) (k := 55296) (by decide) (by omega)
    have a39 := own_nlt (x := x) (b := (63744 : Int32)) (k := 63744) (by decide) (by omega)
    have a40 := own_gt (x := x) (b := (64975 : Int32)) (k := 64975) (by decide) (by omega)
    have a41 := own_nlt (x := x) (b := (64976 : Int32)) (k := 64976) (by decide) (by omega)
    have a42 := own_nlt (x := x) (b := (65008 : Int32)) (k := 65008) (by decide) (by omega)
    have a43 := own_gt (x := x) (b := (65533 : Int32)) (k := 65533) (by decide) (by omega)
    have a44 := own_nlt (x := x) (b := (65534 : Int32)) (k := 65534) (by decide) (by omega)
    have a45 := own_nlt (x := x) (b := (65536 : Int32)) (k := 65536) (by decide) (by omega)
    have a46 := own_ngt (x := x) (b := (983039 : Int32)) (k := 983039) (by decide) (by omega)
    have a47 := own_lt (x := x) (b := (983040 : Int32)) (k := 983040) (by decide) (by omega)
    simp only [F4, F2_201, F2_197, F2_185, F2_173, F2_161, F2_148, F2_134, F2_120, F2_106, F2_92, F2_78, F2_64, F2_50, F2_36, F2_18, F2, F3, if_neg a0, if_neg a1, if_neg a2, if_neg a3, if_pos a4, if_neg a5, if_neg a6, if_neg a7, if_neg a8, if_neg a9, if_pos a10, if_neg a11, if_neg a12, if_pos a13, if_neg a14, if_neg a15, if_pos a16, if_neg a17, if_neg a18, if_pos a19, if_neg a20, if_neg a21, if_pos a22, if_neg a23, if_neg a24, if_pos a25, if_neg a26, if_neg a27, if_pos a28, if_neg a29, if_neg a30, if_pos a31, if_neg a32, if_neg a33, if_pos a34, if_neg a35, if_neg a36, if_pos a37, if_neg a38, if_neg a39, if_pos a40, if_neg a41, if_neg a42, if_pos a43, if_neg a44, if_neg a45, if_neg a46, if_pos a47]
    try decide
  · have a0 := own_nei (x := x) (b := (58 : Int32)) (k := 58) (by decide) (by omega)
    have a1 := own_nlt (x := x) (b := (58 : Int32)) (k := 58) (by decide) (by omega)
    have a2 := own_nlt (x := x) (b := (59 : Int32)) (k := 59) (by decide) (by omega)
    have a3 := own_nlt (x := x) (b := (65 : Int32)) (k := 65) (by decide) (by omega)
    have a4 := own_gt (x := x) (b := (90 : Int32)) (k := 90) (by decide) (by omega)
    have a5 := own_nlt (x := x) (b := (91 : Int32)) (k := 91) (by decide) (by omega)
    have a6 := own_nei (x := x) (b := (95 : Int32)) (k := 95) (by decide) (by omega)
    have a7 := own_nlt (x := x) (b := (95 : Int32)) (k := 95) (by decide) (by omega)
    have a8 := own_nlt (x := x) (b := (96 : Int32)) (k := 96) (by decide) (by omega)
    have a9 := own_nlt (x := x) (b := (97 : Int32)) (k := 97) (by decide) (by omega)
    have a10 := own_gt (x := x) (b := (122 : Int32)) (k := 122) (by decide) (by omega)
    have a11 := own_nlt (x := x) (b := (123 : Int32)) (k := 123) (by decide) (by omega)
    have a12 := own_nlt (x := x) (b := (192 : Int32)) (k := 192) (by decide) (by omega)
    have a13 := own_gt (x := x) (b := (214 : Int32)) (k := 214) (by decide) (by omega)
    have a14 := own_nlt (x := x) (b := (215 : Int32)) (k := 215) (by decide) (by omega)
    have a15 := own_nlt (x := x) (b := (216 : Int32)) (k := 216) (by decide) (by omega)
    have a16 := own_gt (x := x) (b := (246 : Int32)) (k := 246) (by decide) (by omega)
    have a17 := own_nlt (x := x) (b := (247 : Int32)) (k := 247) (by decide) (by omega)
    have a18 := own_nlt (x := x) (b := (248 : Int32)) (k := 248) (by decide) (by omega)
    have a19 := own_gt (x := x) (b := (767 : Int32)) (k := 767) (by decide) (by omega)
    have a20 := own_nlt (x := x) (b := (768 : Int32)) (k := 768) (by decide) (by omega)
    have a21 := own_nlt (x := x) (b := (880 : Int32)) (k := 880) (by decide) (by omega)
    have a22 := own_gt (x := x) (b := (893 : Int32)) (k := 893) (by decide) (by omega)
    have a23 := own_nlt (x := x) (b := (894 : Int32)) (k := 894) (by decide) (by omega)
    have a24 := own_nlt (x := x) (b := (895 : Int32)) (k := 895) (by decide) (by omega)
    have a25 := own_gt (x := x) (b := (8191 : Int32)) (k := 8191) (by decide) (by omega)
    have a26 := own_nlt (x := x) (b := (8192 : Int32)) (k := 8192) (by decide) (by omega)
    have a27 := own_nlt (x := x) (b := (8204 : Int32)) (k := 8204) (by decide) (by omega)
    have a28 := own_gt (x := x) (b := (8205 : Int32)) (k := 8205) (by decide) (by omega)
    have a29 := own_nlt (x := x) (b := (8206 : Int32)) (k := 8206) (by decide) (by omega)
    have a30 := own_nlt (x := x) (b := (8304 : Int32)) (k := 8304) (by decide) (by omega)
    have a31 := own_gt (x := x) (b := (8591 : Int32)) (k := 8591) (by decide) (by omega)
    have a32 := own_nlt (x := x) (b := (8592 : Int32)) (k := 8592) (by decide) (by omega)
    have a33 := own_nlt (x := x) (b := (11264 : Int32)) (k := 11264) (by decide) (by omega)
    have a34 := own_gt (x := x) (b := (12271 : Int32)) (k := 12271) (by decide) (by omega)
    have a35 := own_nlt (x := x) (b := (12272 : Int32)) (k := 12272) (by decide) (by omega)
    have a36 := own_nlt (x := x) (b := (12289 : Int32)) (k := 12289) (by decide) (by omega)
    have a37 := own_gt (x := x) (b := (55295 : Int32)) (k := 55295) (by decide) (by omega)
    have a38 := own_nlt (x := x) (b := (55296 : Int32)) (k := 55296) (by decide) (by omega)
    have a39 := own_nlt (x := x) (b := (63744 : Int32)) (k := 63744) (by decide) (by omega)
    have a40 := own_gt (x := x) (b := (64975 : Int32)) (k := 64975) (by decide) (by omega)
    have a41 := own_nlt (x := x) (b := (64976 : Int32)) (k := 64976) (by decide) (by omega)
    have a42 := own_nlt (x := x) (b := (65008 : Int32)) (k := 65008) (by decide) (by omega)
    have a43 := own_gt (x := x) (b := (65533 : Int32)) (k := 65533) (by decide) (by omega)
    have a44 := own_nlt (x := x) (b := (65534 : Int32)) (k := 65534) (by decide) (by omega)
    have a45 := own_nlt (x := x) (b := (65536 : Int32)) (k := 65536) (by decide) (by omega)
    have a46 := own_gt (x := x) (b := (983039 : Int32)) (k := 983039) (by decide) (by omega)
    have a47 := own_nlt (x := x) (b := (983040 : Int32)) (k := 983040) (by decide) (by omega)
    simp only [F4, F2_201, F2_197, F2_185, F2_173, F2_161, F2_148, F2_134, F2_120, F2_106, F2_92, F2_78, F2_64, F2_50, F2_36, F2_18, F2, F3, if_neg a0, if_neg a1, if_neg a2, if_neg a3, if_pos a4, if_neg a5, if_neg a6, if_neg a7, if_neg a8, if_neg a9, if_pos a10, if_neg a11, if_neg a12, if_pos a13, if_neg a14, if_neg a15, if_pos a16, if_neg a17, if_neg a18, if_pos a19, if_neg a20, if_neg a21, if_pos a22, if_neg a23, if_neg a24, if_pos a25, if_neg a26, if_neg a27, if_pos a28, if_neg a29, if_neg a30, if_pos a31, if_neg a32, if_neg a33, if_pos a34, if_neg a35, if_neg a36, if_pos a37, if_neg a38, if_neg a39, if_pos a40, if_neg a41, if_neg a42, if_pos a43, if_neg a44, if_neg a45, if_pos a46, if_neg a47]
    try decide
theorem pn_0 : plainFor x = true := plainFor_of_name (by first | (simp [plainName, overriddenIn]; done) | decide +kernel)
theorem ef_0 (m : MethodId) (x0 : Int32) (x1 : Int32) (x2 : Int32) : entryFrame m #[(.int x0), (.int x1), (.int x2)] maxLocals = mkF m 0 #[.val (.int x0), .val (.int x1), .val (.int x2), .unset, .unset, .unset, .unset, .unset, .unset, .unset] [] := by first | (simp [entryFrame, mkF, argsToLocals, Value.category, maxLocals]; done) | rfl
theorem pd1 : parseMethodDescriptor "()[I" = some ⟨[], some (.array .int)⟩ := by decide +kernel
theorem pd2 : parseMethodDescriptor "(I)Z" = some ⟨[.int], some .boolean⟩ := by decide +kernel
theorem pd3 : parseMethodDescriptor "(I[I)Z" = some ⟨[.int, (.array .int)], some .boolean⟩ := by decide +kernel
def Q0 (h0 : Heap) (n0 : Nat) (v : Option Value) (h : Heap) (L : List Loc) : Prop := v = some (.int 1) ∧ Fr n0 L
set_option maxRecDepth 65536 in
set_option maxHeartbeats 40000000 in
theorem rm0 (l : Launch) (Z : State) (a0 : Array Value) (hw : ∀ d ∈ tables_1, d.before a0 Z = true) (ws : List Jvm.Cond) (x0 : Int32) (x1 : Int32) (x2 : Int32) (h0 : Heap) (n0 : Nat) (sz : n0 ≤ h0.size) :
    Ctr l x code maxLocals ret ws room_1 Z #[(.int x0), (.int x1), (.int x2)] h0 (Q0 h0 n0) 16 128 := by
  refine Ctr.mk pn_0 ?_
  intro p e s m below meth c T hx hby hml hown hnm hlk hret hZ X eT
  have N := Fr.nil n0
  refine enter (ef_0 m x0 x1 x2) ?_
  refine callC X hx hZ hown (W := 0) (argsL := []) (rest := []) (hw _ (List.mem_of_getElem? (i := 0) rfl)) (hw _ (List.mem_of_getElem? (i := 1) rfl)) (hw _ (List.mem_of_getElem? (i := 2) rfl)) (hw _ (List.mem_of_getElem? (i := 3) rfl)) (by decide) (rm1 l Z a0 hw [] h0 n0 sz) eT (by decide) (by decide) (by decide) (by decide) (by rw [hml]; rfl) pd1 rfl rfl (Nat.le_of_ble_eq_true rfl) (hb hby at_0) (q := 3) rfl ?_
  intro v T Lc hQ X
  obtain ⟨h1, eT⟩ : ∃ z, T.heap = z := ⟨_, rfl⟩
  try rw [eT] at hQ
  obtain ⟨b, rfl, N', A_b⟩ := hQ
  have N := Fr.app N N'
  refine s_astoreN X hx (hb hby at_3) rfl (L' := #[.val (.int x0), .val (.int x1), .val (.int x2), .val (.ref b), .unset, .unset, .unset, .unset, .unset, .unset]) rfl (q := 4) rfl ?_
  refine s_aloadN X hx (hb hby at_4) rfl rfl (q := 5) rfl ?_
  refine s_iloadN X hx (hb hby at_5) rfl (q := 6) rfl ?_
  refine s_bipush X hx (z := (31 : Int32)) (hb hby at_6) rfl (q := 8) rfl ?_
  refine s_iand X hx (hb hby at_8) (q := 9) rfl ?_
  obtain ⟨xv, hxv⟩ : ∃ z, ([(58 : Int32), (59 : Int32), (65 : Int32), (91 : Int32), (95 : Int32), (96 : Int32), (97 : Int32), (123 : Int32), (192 : Int32), (215 : Int32), (216 : Int32), (247 : Int32), (248 : Int32), (768 : Int32), (880 : Int32), (894 : Int32), (895 : Int32), (8192 : Int32), (8204 : Int32), (8206 : Int32), (8304 : Int32), (8592 : Int32), (11264 : Int32), (12272 : Int32), (12289 : Int32), (55296 : Int32), (63744 : Int32), (64976 : Int32), (65008 : Int32), (65534 : Int32), (65536 : Int32), (983040 : Int32)] : List Int32)[((x1 &&& (31 : Int32))).toNatClampNeg]? = some z := ⟨_, List.getElem?_eq_getElem (own_mask_ix _ _ (by decide) (by decide))⟩
  refine s_iaload X hx hZ eT A_b (own_mask_nn _ _ (by decide)) (i := _) rfl (x := xv) hxv (hb hby at_9) (q := 10) rfl ?_
  generalize hed : xv = ed
  refine s_istore X hx (hb hby at_10) (L' := #[.val (.int x0), .val (.int x1), .val (.int x2), .val (.ref b), .val (.int ed), .unset, .unset, .unset, .unset, .unset]) rfl (q := 12) rfl ?_
  refine s_iload X hx (hb hby at_12) rfl (q := 14) rfl ?_
  refine s_iloadN X hx (hb hby at_14) rfl (q := 15) rfl ?_
  refine s_iconst X hx (z := (4 : Int32)) (hb hby at_15) rfl (q := 16) rfl ?_
  refine s_irem X hx (hb hby at_16) (by decide) (q := 17) rfl ?_
  refine s_iadd X hx (hb hby at_17) (q := 18) rfl ?_
  generalize hnr : (ed + (x2 % (4 : Int32))) = nr
  refine s_istore X hx (hb hby at_18) (L' := #[.val (.int x0), .val (.int x1), .val (.int x2), .val (.ref b), .val (.int ed), .val (.int nr), .unset, .unset, .unset, .unset]) rfl (q := 20) rfl ?_
  refine s_iloadN X hx (hb hby at_20) rfl (q := 21) rfl ?_
  refine callP X hx hZ hown (W := 0) (argsL := [(.int x0)]) (rest := []) (hw _ (List.mem_of_getElem? (i := 12) rfl)) (hw _ (List.mem_of_getElem? (i := 13) rfl)) (hw _ (List.mem_of_getElem? (i := 14) rfl)) (hw _ (List.mem_of_getElem? (i := 15) rfl)) (by decide) (rm2 l Z a0 hw [] x0 h1) rfl rfl eT (by decide) (by decide) (by decide) (by decide) (by rw [hml]; rfl) pd2 rfl rfl (Nat.le_of_ble_eq_true rfl) (hb hby at_21) (q := 24) rfl ?_
  intro T X eT
  refine s_iloadN X hx (hb hby at_24) rfl (q := 25) rfl ?_
  refine s_aloadN X hx (hb hby at_25) rfl rfl (q := 26) rfl ?_
  refine callP X hx hZ hown (W := 1) (argsL := [(.int x0), (.ref b)]) (rest := [(.int (F2 x0))]) (hw _ (List.mem_of_getElem? (i := 19) rfl)) (hw _ (List.mem_of_getElem? (i := 20) rfl)) (hw _ (List.mem_of_getElem? (i := 2) rfl)) (hw _ (List.mem_of_getElem? (i := 21) rfl)) (by decide) (rm3 l Z a0 hw [] x0 b h1 A_b) rfl rfl eT (by decide) (by decide) (by decide) (by decide) (by rw [hml]; rfl) pd3 rfl rfl (Nat.le_of_ble_eq_true rfl) (hb hby at_26) (q := 29) rfl ?_
  intro T X eT
  refine f_icmp_ne X hx (hb hby at_29) (q1 := 36) (by decide) (by decide) (q := 32) rfl (fun hq => absurd (own_eq _ : (F2 x0) = (F3 x0)) hq) (fun _ => ?_)
  refine s_iconst X hx (z := (1 : Int32)) (hb hby at_32) rfl (q := 33) rfl ?_
  refine s_goto X hx (hb hby at_33) (q1 := 37) (by decide) (by decide) ?_
  refine s_istore X hx (hb hby at_37) (L' := #[.val (.int x0), .val (.int x1), .val (.int x2), .val (.ref b), .val (.int ed), .val (.int nr), .val (.int (1 : Int32)), .unset, .unset, .unset]) rfl (q := 39) rfl ?_
  refine s_iload X hx (hb hby at_39) rfl (q := 41) rfl ?_
  refine callP X hx hZ hown (W := 0) (argsL := [(.int nr)]) (rest := []) (hw _ (List.mem_of_getElem? (i := 12) rfl)) (hw _ (List.mem_of_getElem? (i := 13) rfl)) (hw _ (List.mem_of_getElem? (i := 14) rfl)) (hw _ (List.mem_of_getElem? (i := 15) rfl)) (by decide) (rm2 l Z a0 hw [] nr h1) rfl rfl eT (by decide) (by decide) (by decide) (by decide) (by rw [hml]; rfl) pd2 rfl rfl (Nat.le_of_ble_eq_true rfl) (hb hby at_41) (q := 44) rfl ?_
  intro T X eT
  refine s_iload X hx (hb hby at_44) rfl (q := 46) rfl ?_
  refine s_aloadN X hx (hb hby at_46) rfl rfl (q := 47) rfl ?_
  refine callP X hx hZ hown (W := 1) (argsL := [(.int nr), (.ref b)]) (rest := [(.int (F2 nr))]) (hw _ (List.mem_of_getElem? (i := 19) rfl)) (hw _ (List.mem_of_getElem? (i := 20) rfl)) (hw _ (List.mem_of_getElem? (i := 2) rfl)) (hw _ (List.mem_of_getElem? (i := 21) rfl)) (by decide) (rm3 l Z a0 hw [] nr b h1 A_b) rfl rfl eT (by decide) (by decide) (by decide) (by decide) (by rw [hml]; rfl) pd3 rfl rfl (Nat.le_of_ble_eq_true rfl) (hb hby at_47) (q := 50) rfl ?_
  intro T X eT
  refine f_icmp_ne X hx (hb hby at_50) (q1 := 57) (by decide) (by decide) (q := 53) rfl (fun hq => absurd (own_eq _ : (F2 nr) = (F3 nr)) hq) (fun _ => ?_)
  refine s_iconst X hx (z := (1 : Int32)) (hb hby at_53) rfl (q := 54) rfl ?_
  refine s_goto X hx (hb hby at_54) (q1 := 58) (by decide) (by decide) ?_
  refine s_istore X hx (hb hby at_58) (L' := #[.val (.int x0), .val (.int x1), .val (.int x2), .val (.ref b), .val (.int ed), .val (.int nr), .val (.int (1 : Int32)), .val (.int (1 : Int32)), .unset, .unset]) rfl (q := 60) rfl ?_
  refine s_iload X hx (hb hby at_60) rfl (q := 62) rfl ?_
  refine callP X hx hZ hown (W := 0) (argsL := [(.int ed)]) (rest := []) (hw _ (List.mem_of_getElem? (i := 12) rfl)) (hw _ (List.mem_of_getElem? (i := 13) rfl)) (hw _ (List.mem_of_getElem? (i := 14) rfl)) (hw _ (List.mem_of_getElem? (i := 15) rfl)) (by decide) (rm2 l Z a0 hw [] ed h1) rfl rfl eT (by decide) (by decide) (by decide) (by decide) (by rw [hml]; rfl) pd2 rfl rfl (Nat.le_of_ble_eq_true rfl) (hb hby at_62) (q := 65) rfl ?_
  intro T X eT
  refine s_iload X hx (hb hby at_65) rfl (q := 67) rfl ?_
  refine s_aloadN X hx (hb hby at_67) rfl rfl (q := 68) rfl ?_
  refine callP X hx hZ hown (W := 1) (argsL := [(.int ed), (.ref b)]) (rest := [(.int (F2 ed))]) (hw _ (List.mem_of_getElem? (i := 19) rfl)) (hw _ (List.mem_of_getElem? (i := 20) rfl)) (hw _ (List.mem_of_getElem? (i := 2) rfl)) (hw _ (List.mem_of_getElem? (i := 21) rfl)) (by decide) (rm3 l Z a0 hw [] ed b h1 A_b) rfl rfl eT (by decide) (by decide) (by decide) (by decide) (by rw [hml]; rfl) pd3 rfl rfl (Nat.le_of_ble_eq_true rfl) (hb hby at_68) (q := 71) rfl ?_
  intro T X eT
  refine f_icmp_ne X hx (hb hby at_71) (q1 := 78) (by decide) (by decide) (q := 74) rfl (fun hq => absurd (own_eq _ : (F2 ed) = (F3 ed)) hq) (fun _ => ?_)
  refine s_iconst X hx (z := (1 : Int32)) (hb hby at_74) rfl (q := 75) rfl ?_
  refine s_goto X hx (hb hby at_75) (q1 := 79) (by decide) (by decide) ?_
  refine s_istore X hx (hb hby at_79) (L' := #[.val (.int x0), .val (.int x1), .val (.int x2), .val (.ref b), .val (.int ed), .val (.int nr), .val (.int (1 : Int32)), .val (.int (1 : Int32)), .val (.int (1 : Int32)), .unset]) rfl (q := 81) rfl ?_
  refine s_iload X hx (hb hby at_81) rfl (q := 83) rfl ?_
  refine s_iconst X hx (z := (1 : Int32)) (hb hby at_83) rfl (q := 84) rfl ?_
  refine s_isub X hx (hb hby at_84) (q := 85) rfl ?_
  refine callP X hx hZ hown (W := 0) (argsL := [(.int (ed - (1 : Int32)))]) (rest := []) (hw _ (List.mem_of_getElem? (i := 12) rfl)) (hw _ (List.mem_of_getElem? (i := 13) rfl)) (hw _ (List.mem_of_getElem? (i := 14) rfl)) (hw _ (List.mem_of_getElem? (i := 15) rfl)) (by decide) (rm2 l Z a0 hw [] (ed - (1 : Int32)) h1) rfl rfl eT (by decide) (by decide) (by decide) (by decide) (by rw [hml]; rfl) pd2 rfl rfl (Nat.le_of_ble_eq_true rfl) (hb hby at_85) (q := 88) rfl ?_
  intro T X eT
  refine s_iload X hx (hb hby at_88) rfl (q := 90) rfl ?_
  refine s_iconst X hx (z := (1 : Int32)) (hb hby at_90) rfl (q := 91) rfl ?_
  refine s_isub X hx (hb hby at_91) (q := 92) rfl ?_
  refine s_aloadN X hx (hb hby at_92) rfl rfl (q := 93) rfl ?_
  refine callP X hx hZ hown (W := 1) (argsL := [(.int (ed - (1 : Int32))), (.ref b)]) (rest := [(.int (F2 (ed - (1 : Int32))))]) (hw _ (List.mem_of_getElem? (i := 19) rfl)) (hw _ (List.mem_of_getElem? (i := 20) rfl)) (hw _ (List.mem_of_getElem? (i := 2) rfl)) (hw _ (List.mem_of_getElem? (i := 21) rfl)) (by decide) (rm3 l Z a0 hw [] (ed - (1 : Int32)) b h1 A_b) rfl rfl eT (by decide) (by decide) (by decide) (by decide) (by rw [hml]; rfl) pd3 rfl rfl (Nat.le_of_ble_eq_true rfl) (hb hby at_93) (q := 96) rfl ?_
  intro T X eT
  refine f_icmp_ne X hx (hb hby at_96) (q1 := 103) (by decide) (by decide) (q := 99) rfl (fun hq => absurd (own_eq _ : (F2 (ed - (1 : Int32))) = (F3 (ed - (1 : Int32)))) hq) (fun _ => ?_)
  refine s_iconst X hx (z := (1 : Int32)) (hb hby at_99) rfl (q := 100) rfl ?_
  refine s_goto X hx (hb hby at_100) (q1 := 104) (by decide) (by decide) ?_
  refine s_istore X hx (hb hby at_104) (L' := #[.val (.int x0), .val (.int x1), .val (.int x2), .val (.ref b), .val (.int ed), .val (.int nr), .val (.int (1 : Int32)), .val (.int (1 : Int32)), .val (.int (1 : Int32)), .val (.int (1 : Int32))]) rfl (q := 106) rfl ?_
  refine s_iload X hx (hb hby at_106) rfl (q := 108) rfl ?_
  refine f_if_eq X hx (hb hby at_108) (q1 := 130) (by decide) (by decide) (q := 111) rfl (fun hq => absurd hq (by decide : ¬ (1 : Int32) = 0)) (fun _ => ?_)
  refine s_iload X hx (hb hby at_111) rfl (q := 113) rfl ?_
  refine f_if_eq X hx (hb hby at_113) (q1 := 130) (by decide) (by decide) (q := 116) rfl (fun hq => absurd hq (by decide : ¬ (1 : Int32) = 0)) (fun _ => ?_)
  refine s_iload X hx (hb hby at_116) rfl (q := 118) rfl ?_
  refine f_if_eq X hx (hb hby at_118) (q1 := 130) (by decide) (by decide) (q := 121) rfl (fun hq => absurd hq (by decide : ¬ (1 : Int32) = 0)) (fun _ => ?_)
  refine s_iload X hx (hb hby at_121) rfl (q := 123) rfl ?_
  refine f_if_eq X hx (hb hby at_123) (q1 := 130) (by decide) (by decide) (q := 126) rfl (fun hq => absurd hq (by decide : ¬ (1 : Int32) = 0)) (fun _ => ?_)
  refine s_iconst X hx (z := (1 : Int32)) (hb hby at_126) rfl (q := 127) rfl ?_
  refine s_goto X hx (hb hby at_127) (q1 := 131) (by decide) (by decide) ?_
  exact leafN X hx hlk hret (by simp) (hb hby at_131) (by decide) (by decide) (z' := 1) rfl ⟨rfl, N⟩
set_option maxRecDepth 65536 in
set_option maxHeartbeats 40000000 in
theorem comes_1 {Post : Tables → Env → Array Value → State → Outcome → State → Prop} (hpost : ∀ tb e args s v u, (limb_1_1.after args s (.returned v) u = true ∧ limb_1_2.after args s (.returned v) u = true ∧ True) → FrameEnd s (.returned v) u (Jvm.fieldLocs frame_1_writes args s ++ Jvm.arrayLocs frame_1_arrays args s ++ Jvm.staticLocs frame_1_statics s) 16 128 → Post tb e args s (.returned v) u) :
    ArmFor flags0 classFile x code maxLocals ret World_1 tables_1 room_1 Calls_1 rest_1 Pre_1 Post := by
  intro l hfl _ _ p e ha hc hk s m args below hf hA hF happ hP
  obtain ⟨hcalls, hrest, hpre⟩ := hP
  obtain ⟨-, -, -, hnamed, -, -, -, hat⟩ := (Spec.applies_iff hf).mp happ
  obtain ⟨hg, hn⟩ := and_e (Cond.before_iff.mp (show (Jvm.Cond.and given_1 narrow_1).before args s = true from hpre))
  obtain ⟨g1, g2⟩ := and_e hg
  obtain ⟨g3, g4⟩ := and_e g2
  obtain ⟨g5, g6⟩ := and_e g4
  obtain ⟨w0, w1, w2, rfl⟩ : ∃ w0 w1 w2 : Value, args = #[w0, w1, w2] := by
    have hs : args.size = 3 := by simpa [Cond.value, given_1] using g1
    obtain ⟨L⟩ := args
    match L, hs with
    | [w0, w1, w2], _ => exact ⟨w0, w1, w2, rfl⟩
  have hw := fun d (hd : d ∈ tables_1) => atoms_spec (ws := Jvm.Cond.code x code maxLocals ret :: tables_1) hat d (List.mem_cons_of_mem _ hd)
  obtain ⟨i0, ei0⟩ := is_v g3
  obtain rfl : w0 = (.int i0) := Option.some.inj ei0
  obtain ⟨i1, ei1⟩ := is_v g5
  obtain rfl : w1 = (.int i1) := Option.some.inj ei1
  obtain ⟨i2, ei2⟩ := is_v g6
  obtain rfl : w2 = (.int i2) := Option.some.inj ei2
  obtain ⟨n, o, h1, h2, h3, _, L, rfl, ⟨rfl, N⟩, hq⟩ := rm0 l s _ hw tables_1 i0 i1 i2 s.heap s.heap.size (Nat.le_refl _) p e ha hc hk s m _ below hf ((Spec.applies_iff_loose hf).mp happ).1 ⟨rfl, State.Warmed39.refl s, rfl⟩ trivial
  refine ⟨n, _, h1, h2, h3, hpost _ _ _ _ _ _ ⟨Cond.after_iff.mpr rfl, Cond.after_iff.mpr (eq_i res_at (Term.int_eval (1)) rfl), trivial⟩ ⟨hq.1, hq.2.1, (hq.2.2.sift fun y hy => Or.inr (N y hy)).mono (by decide) (by decide)⟩⟩
theorem main_1_1 : Claimed_1_1 := comes_1 fun _ _ _ _ _ _ h hF => ⟨h.1, hF⟩
theorem main_1_2 : Claimed_1_2 := comes_1 fun _ _ _ _ _ _ h hF => ⟨h.2.1, hF⟩
end Jvm.Pilot.@@N@@
namespace Jvm.Pilot.@@N@@
open Jvm Jvm.ClassFile Sem Op Lib Jvm.Free Jvm.Stand Jvm.Pilot.@@N@@.Jvm.D
/-! MADE BY PROGRAM (witnessworld.py) out of the Statement's table words and the real class files: 9 classes; the members and pool entries that the words name. The judged class is class 1, her method 4. -/
namespace start1
open Jvm.ClassFile
def u (s : String) : CpInfo := .utf8 (stringToUtf16 s)
/-- a pool by its gaps: so many unusable entries, then the entry; so many at the end -/
def gap : Nat → List CpInfo → List CpInfo
  | 0, r => r
  | n + 1, r => .unusable :: gap n r
def poolList (es : List (Nat × CpInfo)) (last : Nat) : List CpInfo := es.foldr (fun e r => gap e.1 (e.2 :: r)) (gap last [])
def pool (es : List (Nat × CpInfo)) (last : Nat) : Array CpInfo := ⟨poolList es last⟩
def fileOf (pool : Array CpInfo) (this : Nat) (attrs : Array Attribute := #[]) (ms : Array MethodInfo := #[]) (fl : Nat := 33) (sup : Nat := 0) (ifs : Array Nat := #[]) (fds : Array FieldInfo := #[]) : ClassFile where
  minorVersion := 0
  majorVersion := 65
  constantPool := pool
  accessFlags := fl
  thisClass := this
  superClass := sup
  interfaces := ifs
  fields := fds
  methods := ms
  attributes := attrs
def plain (name : String) (sup : Option ClassId) : Class where
  name := name
  kind := .ordinary
  loader := none
  accessFlags := 33
  super := sup
  interfaces := #[]
  cf := none
  fields := #[]
  methods := #[]
  instanceTypes := #[]
  staticTypes := #[]
  resolved := #[]
  callSites := []
  init := .initialized
  statics := none
  mirror := none

def pool0 : Array CpInfo := pool [(5, u "<init>"), (0, u "()V"), (1, .class_ 10), (1, u "java/lang/Object")] 113

def k0m0 : Method := { name := "<init>", desc := "()V", sig := { parameters := [], returnType := none }, accessFlags := 1, code := none }
/-- java/lang/Object -/
def k0 : Class := { plain "java/lang/Object" none with
  accessFlags := 33
  interfaces := #[]
  cf := some (fileOf pool0 8 #[] #[{ accessFlags := 1, nameIndex := 5, descriptorIndex := 6, attributes := #[] }] 33 0 #[] #[])
  fields := #[]
  methods := #[k0m0]
  instanceTypes := #[]
  staticTypes := #[]
  resolved := Array.replicate 124 none
  statics := none }

def pool1 : Array CpInfo := pool [(2, .class_ 4), (1, u "java/lang/Object"), (0, u "<init>"), (0, u "()V"), (0, .integer 55296), (0, .integer 63744), (0, .integer 64976), (0, .integer 65008), (0, .integer 65534), (0, .integer 65536), (0, .integer 983040), (0, .methodref 15 16), (0, .class_ 17), (0, .nameAndType 18 19), (0, u "com/example/mass_terms/massterms/check/XmlNamesIsNameStartPinLaw"), (0, u "ge"), (0, u "(II)I"), (0, .methodref 15 21), (0, .nameAndType 22 23), (0, u "bounds"), (0, u "()[I"), (0, .methodref 25 26), (0, .class_ 27), (0, .nameAndType 28 29), (0, u "com/example/mass_terms/massterms/check/XmlNames"), (0, u "isNameStart"), (0, u "(I)Z"), (0, .methodref 15 31), (0, .nameAndType 32 33), (0, u "ref"), (0, u "(I[I)Z"), (3, u "law"), (0, u "(III)Z")] 4

def k1m0 : Method := { name := "<init>", desc := "()V", sig := { parameters := [], returnType := none }, accessFlags := 1, code := none }
def k1c1 : Code := { maxStack := 4, maxLocals := 0, code := method_2_code, exceptionTable := #[], attributes := #[] }
def k1m1 : Method := { name := "bounds", desc := "()[I", sig := { parameters := [], returnType := some (.array .int) }, accessFlags := 10, code := some k1c1 }
def k1c2 : Code := { maxStack := 2, maxLocals := 2, code := method_3_code, exceptionTable := #[], attributes := #[] }
def k1m2 : Method := { name := "ge", desc := "(II)I", sig := { parameters := [.int, .int], returnType := some .int }, accessFlags := 10, code := some k1c2 }
def k1c3 : Code := { maxStack := 4, maxLocals := 3, code := method_4_code, exceptionTable := #[], attributes := #[] }
def k1m3 : Method := { name := "ref", desc := "(I[I)Z", sig := { parameters := [.int, (.array .int)], returnType := some .boolean }, accessFlags := 10, code := some k1c3 }
def k1c4 : Code := { maxStack := 3, maxLocals := 10, code := code, exceptionTable := #[], attributes := #[] }
def k1m4 : Method := { name := "law", desc := "(III)Z", sig := { parameters := [.int, .int, .int], returnType := some .boolean }, accessFlags := 9, code := some k1c4 }
/-- com/example/mass_terms/massterms/check/XmlNamesIsNameStartPinLaw -/
def k1 : Class := { plain "com/example/mass_terms/massterms/check/XmlNamesIsNameStartPinLaw" (some 0) with
  accessFlags := 49
  interfaces := #[]
  cf := some (fileOf pool1 15 #[] #[{ accessFlags := 1, nameIndex := 5, descriptorIndex := 6, attributes := #[] }, { accessFlags := 10, nameIndex := 22, descriptorIndex := 23, attributes := #[] }, { accessFlags := 10, nameIndex := 18, descriptorIndex := 19, attributes := #[] }, { accessFlags := 10, nameIndex := 32, descriptorIndex := 33, attributes := #[] }, { accessFlags := 9, nameIndex := 37, descriptorIndex := 38, attributes := #[] }] 49 2 #[] #[])
  fields := #[]
  methods := #[k1m0, k1m1, k1m2, k1m3, k1m4]
  instanceTypes := #[]
  staticTypes := #[]
  resolved := Array.replicate 43 none
  statics := none }

def pool2 : Array CpInfo := pool [(2, .class_ 4), (1, u "java/lang/Object"), (0, u "<init>"), (0, u "()V"), (0, .class_ 8), (0, u "com/example/mass_terms/massterms/check/XmlNames"), (4, u "keys"), (0, u "[[B"), (4, u "strings"), (0, u "[Ljava/lang/String;"), (2, u "stamps"), (0, u "[I"), (2, u "slot"), (0, u "I"), (19, u "used"), (8, .integer 55295), (0, .integer 63744), (0, .integer 64975), (0, .integer 65008), (0, .integer 65533), (0, .integer 65536), (0, .integer 983039), (2, u "isNameStart"), (0, u "(I)Z"), (20, u "SLOTS")] 12

def k2m0 : Method := { name := "<init>", desc := "()V", sig := { parameters := [], returnType := none }, accessFlags := 0, code := none }
def k2c1 : Code := { maxStack := 2, maxLocals := 1, code := prog_51_method_7_code, exceptionTable := #[], attributes := #[] }
def k2m1 : Method := { name := "isNameStart", desc := "(I)Z", sig := { parameters := [.int], returnType := some .boolean }, accessFlags := 8, code := some k2c1 }
/-- com/example/mass_terms/massterms/check/XmlNames -/
def k2 : Class := { plain "com/example/mass_terms/massterms/check/XmlNames" (some 0) with
  accessFlags := 32
  interfaces := #[]
  cf := some (fileOf pool2 7 #[] #[{ accessFlags := 0, nameIndex := 5, descriptorIndex := 6, attributes := #[] }, { accessFlags := 8, nameIndex := 66, descriptorIndex := 67, attributes := #[] }] 32 2 #[] #[{ accessFlags := 26, nameIndex := 88, descriptorIndex := 28, attributes := #[] }, { accessFlags := 18, nameIndex := 13, descriptorIndex := 14, attributes := #[] }, { accessFlags := 18, nameIndex := 19, descriptorIndex := 20, attributes := #[] }, { accessFlags := 18, nameIndex := 23, descriptorIndex := 24, attributes := #[] }, { accessFlags := 2, nameIndex := 48, descriptorIndex := 28, attributes := #[] }, { accessFlags := 2, nameIndex := 27, descriptorIndex := 28, attributes := #[] }])
  fields := #[{ name := "SLOTS", type := .int, accessFlags := 26, slot := 0, constantValue := 0 }, { name := "keys", type := (.array (.array .byte)), accessFlags := 18, slot := 0, constantValue := 0 }, { name := "strings", type := (.array (.object "java/lang/String")), accessFlags := 18, slot := 1, constantValue := 0 }, { name := "stamps", type := (.array .int), accessFlags := 18, slot := 2, constantValue := 0 }, { name := "used", type := .int, accessFlags := 2, slot := 3, constantValue := 0 }, { name := "slot", type := .int, accessFlags := 2, slot := 4, constantValue := 0 }]
  methods := #[k2m0, k2m1]
  instanceTypes := #[(.array (.array .byte)), (.array (.object "java/lang/String")), (.array .int), .int, .int]
  staticTypes := #[.int]
  resolved := Array.replicate 101 none
  statics := none }

def pool3 : Array CpInfo := pool [(1, u "java/lang/Cloneable"), (0, .class_ 1), (0, u "java/lang/Object"), (0, .class_ 3)] 3

/-- java/lang/Cloneable -/
def k3 : Class := { plain "java/lang/Cloneable" (some 0) with
  accessFlags := 1537
  interfaces := #[]
  cf := some (fileOf pool3 2 #[] #[] 1537 4 #[] #[])
  fields := #[]
  methods := #[]
  instanceTypes := #[]
  staticTypes := #[]
  resolved := Array.replicate 8 none
  statics := none }

def pool4 : Array CpInfo := pool [(1, u "java/io/Serializable"), (0, .class_ 1), (0, u "java/lang/Object"), (0, .class_ 3)] 3

/-- java/io/Serializable -/
def k4 : Class := { plain "java/io/Serializable" (some 0) with
  accessFlags := 1537
  interfaces := #[]
  cf := some (fileOf pool4 2 #[] #[] 1537 4 #[] #[])
  fields := #[]
  methods := #[]
  instanceTypes := #[]
  staticTypes := #[]
  resolved := Array.replicate 8 none
  statics := none }

/-- the primitive byte -/
def k5 : Class := { plain "byte" none with kind := .primitive 'B', accessFlags := 0x411 }
/-- [B -/
def k6 : Class := { plain "[B" (some 0) with kind := .array 5 .byte, interfaces := #[3, 4], accessFlags := 1041 }

/-- the primitive int -/
def k7 : Class := { plain "int" none with kind := .primitive 'I', accessFlags := 0x411 }
/-- [I -/
def k8 : Class := { plain "[I" (some 0) with kind := .array 7 .int, interfaces := #[3, 4], accessFlags := 1041 }

def heap : Heap := #[]
def classes : Array Class := #[k0, k1, k2, k3, k4, k5, k6, k7, k8]
def interned : List (Array UInt16 × Addr) := []
def slotsUsed : Nat := 0
def theMethod : MethodId := ⟨1, 4⟩
def args0 : Array Value := #[.int 5, .int 7, .int 3]
def aboutOver (below : List Frame) : State where
  vm := { classes := classes, interned := interned.toArray }
  heap := heap
  slotsUsed := slotsUsed
  threads := #[{ frames := .invoking theMethod args0 :: below }]
def below0 : List Frame := [.native { method := ⟨0, 0⟩, args := #[] }]
def about1 : State := aboutOver below0
def p0 : Program := .bare "" "" ""
def e0 : Env := launch0.env 0 0 0
theorem w_frames : about1.frames = Frame.invoking theMethod args0 :: below0 := rfl
set_option maxRecDepth 65536 in
theorem w_args : argsFit about1.vm theMethod args0 = true := by decide +kernel
set_option maxRecDepth 65536 in
theorem w_heap : heapFits about1 = true := by decide +kernel
set_option maxRecDepth 65536 in
theorem w_runnable : about1.curStatus? = some .runnable := by decide +kernel
set_option maxRecDepth 65536 in
theorem w_alone : about1.alone = true := by decide +kernel
set_option maxRecDepth 65536 in
theorem w_named : about1.methodNamed? x = some theMethod := by decide +kernel
set_option maxRecDepth 65536 in
theorem w_hears : about1.hears theMethod below0 = true := by decide +kernel
set_option maxRecDepth 65536 in
theorem w_ripe : about1.ripe theMethod args0 below0 = true := by decide +kernel
theorem w_running : about1.status = .running := rfl
set_option maxRecDepth 65536 in
theorem w_room : about1.hasRoom e0.platform room_1 = true :=
  launch0.hasRoom_least _ room_1 (by decide +kernel) (by decide +kernel) (by decide +kernel) (by decide +kernel) (by decide +kernel) (by decide +kernel)
theorem allAtoms_all (ts : List Jvm.Cond) (a : Array Jvm.Value) (st : Jvm.State) : (allAtoms ts).before a st = ts.all (fun c => c.before a st) := by
  induction ts with
  | nil => rfl
  | cons c t ih =>
    show (Jvm.Cond.and c (allAtoms t)).before a st = _
    rw [Jvm.Cond.before_and, ih, List.all_cons]
def words1 : List Jvm.Cond := Jvm.Cond.code x code maxLocals ret :: tables_1
/-- a 'code' word, met by the world's own term for the bytes: nothing is compared byte by byte -/
theorem code_word {y : MethodName} {bytes : ByteArray} {mx : Nat} {rt : Option FieldType} {a : Array Value} {s : State} {m : MethodId} {meth : Method} {c : Code} (h1 : s.methodNamed? y = some m) (h2 : s.vm.method? m = some meth) (h3 : meth.code = some c) (h4 : c.code = bytes)
    (h5 : (c.maxLocals == mx && c.exceptionTable.isEmpty && decide (c.maxStack ≤ mostOperands) && decide (meth.sig.returnType = rt) && !meth.locks && decide (parseMethodDescriptor y.desc = some meth.sig)) = true) : (Jvm.Cond.code y bytes mx rt).before a s = true := by
  simp only [Bool.and_eq_true, beq_iff_eq, Bool.not_eq_true', decide_eq_true_eq] at h5
  obtain ⟨⟨⟨⟨⟨g1, g2⟩, g3⟩, g4⟩, g5⟩, g6⟩ := h5
  simp [Cond.before, Cond.holds, Cond.value, h1, h2, h3, h4, g1, g2, g3, g4, g5, g6]
def isCode : Jvm.Cond → Bool
  | .code _ _ _ _ => true
  | _ => false
theorem all_split {L : List Jvm.Cond} {P : Jvm.Cond → Bool} (h1 : L.all (fun c => isCode c || P c) = true) (h2 : ∀ c ∈ L.filter isCode, P c = true) : L.all P = true := by
  refine List.all_eq_true.mpr fun c hc => ?_
  have h := List.all_eq_true.mp h1 c hc
  rcases Bool.eq_false_or_eq_true (isCode c) with hi | hi
  · exact h2 c (List.mem_filter.mpr ⟨hc, hi⟩)
  · simpa [hi] using h
set_option maxRecDepth 65536 in
theorem w_c0 : (Jvm.Cond.code x code maxLocals ret).before args0 about1 = true := code_word (m := ⟨1, 4⟩) (meth := k1m4) (c := k1c4) (by decide +kernel) rfl rfl rfl (by decide +kernel)
set_option maxRecDepth 65536 in
theorem w_c1 : (Jvm.Cond.code ({ cls := "com/example/mass_terms/massterms/check/XmlNamesIsNameStartPinLaw", name := "bounds", desc := "()[I" } : Jvm.MethodName) method_2_code (0 : Nat) (Option.some (Jvm.ClassFile.FieldType.array Jvm.ClassFile.FieldType.int))).before args0 about1 = true := code_word (m := ⟨1, 1⟩) (meth := k1m1) (c := k1c1) (by decide +kernel) rfl rfl rfl (by decide +kernel)
set_option maxRecDepth 65536 in
theorem w_c2 : (Jvm.Cond.code ({ cls := "com/example/mass_terms/massterms/check/XmlNames", name := "isNameStart", desc := "(I)Z" } : Jvm.MethodName) prog_51_method_7_code (1 : Nat) (Option.some Jvm.ClassFile.FieldType.boolean)).before args0 about1 = true := code_word (m := ⟨2, 1⟩) (meth := k2m1) (c := k2c1) (by decide +kernel) rfl rfl rfl (by decide +kernel)
set_option maxRecDepth 65536 in
theorem w_c3 : (Jvm.Cond.code ({ cls := "com/example/mass_terms/massterms/check/XmlNamesIsNameStartPinLaw", name := "ref", desc := "(I[I)Z" } : Jvm.MethodName) method_4_code (3 : Nat) (Option.some Jvm.ClassFile.FieldType.boolean)).before args0 about1 = true := code_word (m := ⟨1, 3⟩) (meth := k1m3) (c := k1c3) (by decide +kernel) rfl rfl rfl (by decide +kernel)
set_option maxRecDepth 65536 in
theorem w_c4 : (Jvm.Cond.code ({ cls := "com/example/mass_terms/massterms/check/XmlNamesIsNameStartPinLaw", name := "ge", desc := "(II)I" } : Jvm.MethodName) method_3_code (2 : Nat) (Option.some Jvm.ClassFile.FieldType.int)).before args0 about1 = true := code_word (m := ⟨1, 2⟩) (meth := k1m2) (c := k1c2) (by decide +kernel) rfl rfl rfl (by decide +kernel)
def codes1 : List Jvm.Cond := [Jvm.Cond.code x code maxLocals ret, Jvm.Cond.code ({ cls := "com/example/mass_terms/massterms/check/XmlNamesIsNameStartPinLaw", name := "bounds", desc := "()[I" } : Jvm.MethodName) method_2_code (0 : Nat) (Option.some (Jvm.ClassFile.FieldType.array Jvm.ClassFile.FieldType.int)), Jvm.Cond.code ({ cls := "com/example/mass_terms/massterms/check/XmlNames", name := "isNameStart", desc := "(I)Z" } : Jvm.MethodName) prog_51_method_7_code (1 : Nat) (Option.some Jvm.ClassFile.FieldType.boolean), Jvm.Cond.code ({ cls := "com/example/mass_terms/massterms/check/XmlNamesIsNameStartPinLaw", name := "ref", desc := "(I[I)Z" } : Jvm.MethodName) method_4_code (3 : Nat) (Option.some Jvm.ClassFile.FieldType.boolean), Jvm.Cond.code ({ cls := "com/example/mass_terms/massterms/check/XmlNamesIsNameStartPinLaw", name := "ge", desc := "(II)I" } : Jvm.MethodName) method_3_code (2 : Nat) (Option.some Jvm.ClassFile.FieldType.int)]
set_option maxRecDepth 65536 in
theorem codes_eq : words1.filter isCode = codes1 := rfl
theorem w_codes : ∀ c ∈ words1.filter isCode, c.before args0 about1 = true := by
  rw [codes_eq]
  intro c hc
  simp only [codes1, List.mem_cons, List.not_mem_nil, or_false] at hc
  rcases hc with rfl | rfl | rfl | rfl | rfl
  · exact w_c0
  · exact w_c1
  · exact w_c2
  · exact w_c3
  · exact w_c4
set_option maxRecDepth 65536 in
theorem w_t1 : (words1.take 24).all (fun c => isCode c || c.before args0 about1) = true := by decide +kernel
set_option maxRecDepth 65536 in
theorem w_t2 : (words1.drop 24).all (fun c => isCode c || c.before args0 about1) = true := by decide +kernel
theorem w_tables : (allAtoms (Jvm.Cond.code x code maxLocals ret :: tables_1)).before args0 about1 = true := by
  rw [allAtoms_all]
  show words1.all (fun c => c.before args0 about1) = true
  refine all_split ?_ w_codes
  rw [← List.take_append_drop 24 words1, List.all_append, w_t1, w_t2]
  rfl
set_option maxRecDepth 65536 in
theorem w_case : (Jvm.Cond.and given_1 narrow_1).before args0 about1 = true := by decide +kernel
theorem w_applies : (headSpec (Jvm.Cond.code x code maxLocals ret :: tables_1) room_1).applies x e0.platform about1 = true :=
  (Spec.applies_iff w_frames).mpr ⟨w_running, w_runnable, w_alone, w_named, w_hears, w_ripe, w_room, w_tables⟩
theorem atStart : AtStart classFile x code maxLocals ret World_1 tables_1 room_1 Calls_1 rest_1 Pre_1 launch0 p0 e0 about1 theMethod args0 below0 :=
  ⟨lists_1, trivial, launch0.admits_env _ _ _, launch0.least_env, fairChoices_fair.cas, fairChoices_fair.clock, w_frames, w_args, w_heap, w_applies, trivial, trivial, w_case⟩
end start1
theorem witness_1 : WitnessClaimed_1 := ⟨start1.p0, start1.e0, start1.about1, start1.theMethod, start1.args0, start1.below0, start1.atStart⟩
end Jvm.Pilot.@@N@@
