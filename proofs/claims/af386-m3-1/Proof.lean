import JvmDerived
import JvmDerived.Pilot.@@N@@Statement
import JvmDerived.Pilot.@@N@@Code
set_option linter.unusedVariables false
set_option linter.unusedSimpArgs false
namespace Jvm.RoadKit
open Sem ClassFile Op Lib Jvm.Stand Jvm.Free Jvm.LawKit
section New
variable {p : Program} {l : Launch} {e : Env} {R : Room} {s : State} {m : MethodId} {args : Array Value} {below : List Frame} {meth : Method} {c : Code} {T : State} {locs : List Loc} {cells slots : Nat}
theorem retI (X : Stand p l e R s m args below meth c T locs cells slots) (hx : p.tables.exec = Jvm.exec) {pc : Nat} {Ls : Array Slot} {z : Int32} {rest : List Value} (hret : meth.sig.returnType = some .int) (hd : decode c.code pc = .ok (.ireturn, 1)) {fs : List Frame}
    (hl : ∀ (f : JFrame) (acts : List Action), f.method = m → f.locked = none → f.entered = [] → (doReturn e (T.setTop f) acts (some (.int z))).1 = T.setFrames fs) : Steps p.tables e below (T.setTop (mkF m pc Ls (.int z :: rest))) (T.setFrames fs) := by
  have hm' : T.vm.method? m = some meth := X.method'
  have hn : narrow .int (.int z) = .int z := rfl
  show Steps p.tables e below (T.setTop { method := m, pc := pc, locals := Ls, stack := _ :: rest, locked := none }) _
  jvm_step X.here [X.here.top, hx, hd, hm', hret, hn]
  first | (intro acts; rw [hl _ acts rfl rfl rfl]) | rw [hl _ _ rfl rfl rfl]
  exact Steps.refl _
end New
end Jvm.RoadKit
namespace Jvm.Pilot.@@N@@
open Jvm Jvm.ClassFile Sem Op Lib Jvm.Free Jvm.Stand Jvm.LawKit Jvm.RoadKit Bundle Jvm.Pilot.@@N@@.Jvm.D
section Kit
variable {p : Program} {l : Launch} {e : Env} {R : Room} {s : State} {m : MethodId} {args : Array Value} {below : List Frame} {meth : Method} {c : Code} {T : State} {locs : List Loc} {cells slots : Nat} {G : State → Prop} {L L' : Array Slot} {S : List Value} {pc q q1 : Nat}
/-- from this frame the run comes to a state of which G holds -/
def Go (p : Program) (e : Env) (below : List Frame) (G : State → Prop) (T : State) (m : MethodId) (pc : Nat) (L : Array Slot) (S : List Value) : Prop := ∃ t, Steps p.tables e below (T.setTop (mkF m pc L S)) t ∧ G t
theorem Go.st {T' : State} {m' : MethodId} {pc' : Nat} {S' : List Value} (h : ∀ t, Steps p.tables e below (T'.setTop (mkF m' pc' L' S')) t → Steps p.tables e below (T.setTop (mkF m pc L S)) t) (k : Go p e below G T' m' pc' L' S') : Go p e below G T m pc L S := by
  obtain ⟨t, h1, h2⟩ := k; exact ⟨t, h t h1, h2⟩
theorem jn {T2 : State} {pc2 : Nat} {L2 : Array Slot} {S2 : List Value} (k : Go p e below G T2 m pc2 L2 S2 → Go p e below G T m pc L S) (K : Go p e below G T2 m pc2 L2 S2) : Go p e below G T m pc L S := k K
/-- what a body that returns leaves -/
def Gl (s : State) (below : List Frame) (Q : Option Value → Heap → List Loc → Prop) (C N : Nat) (t : State) : Prop := ∃ o, t.status = .running ∧ Ended t below o ∧ ∃ v L, o = .returned v ∧ Q v t.heap L ∧ FrameEnd s o t L C N
/-- a contract -/
def Ctr (l : Launch) (y : MethodName) (code : ByteArray) (ml : Nat) (ret : Option FieldType) (ws : List Jvm.Cond) (rm : Room) (Z : State) (as' : Array Value) (h0 : Heap) (Q : Option Value → Heap → List Loc → Prop) (C N : Nat) : Prop :=
  MetFree l y (head1 (Jvm.Cond.code y code ml ret :: ws) rm) (fun a U => a = as' ∧ Z.Warmed39 U.vm ∧ U.heap = h0) (fun _ _ _ _ _ => True) (fun _ U o U' => ∃ v L, o = .returned v ∧ Q v U'.heap L ∧ FrameEnd U o U' L C N)
theorem Ctr.mk {y : MethodName} {code : ByteArray} {ml : Nat} {ret : Option FieldType} {ws : List Jvm.Cond} {rm : Room} {Z : State} {as' : Array Value} {h0 : Heap} {Q : Option Value → Heap → List Loc → Prop} {C N : Nat} (hp : plainFor y = true)
    (body : ∀ (p : Program) (e : Env) (s : State) (m : MethodId) (below : List Frame) (meth : Method) (c : Code) (T : State), p.tables.exec = Jvm.exec → c.code = code → c.maxLocals = ml → s.vm.findClass y.cls = some m.cls → meth.name = y.name → meth.locks = false → meth.sig.returnType = ret → Z.Warmed39 s.vm → Stand p l e rm s m as' below meth c T [] 0 0 → T.heap = h0 → ∃ t, Steps p.tables e below (T.setTop (entryFrame m as' ml)) t ∧ Gl s below Q C N t) : Ctr l y code ml ret ws rm Z as' h0 Q C N := by
  refine MetFree.of_bodySF hp hisR ?_
  intro p e s m args below meth c s₁ Bd hml0 hP hK
  obtain ⟨rfl, hZ, hh⟩ := hP
  obtain ⟨t, h1, o, h2, h3, h4⟩ := body p e s m below meth c s₁ Bd.exec Bd.bytes hml0 (findClass_of_methodNamed Bd.named) (name_of_methodNamed Bd.named Bd.method).1 Bd.notSynchronized Bd.returns hZ (Stand.of_body Bd) (by rw [← hh, Bd.state]; rfl)
  exact ⟨t, o, h1, h2, h3, h4⟩
theorem enter {as' : Array Value} {ml : Nat} (q : entryFrame m as' ml = mkF m 0 L []) (k : Go p e below G T m 0 L []) : ∃ t, Steps p.tables e below (T.setTop (entryFrame m as' ml)) t ∧ G t := by
  rw [q]; exact k
theorem s_iloadN (X : Stand p l e R s m args below meth c T locs cells slots) (hx : p.tables.exec = Jvm.exec) {k : Fin 4} {v : Int32} (hd : decode c.code pc = .ok (.iload_n k, 1)) (hl : L[k.val]? = some (.val (.int v))) (hq : pc + 1 = q) (K : Go p e below G T m q L (.int v :: S)) : Go p e below G T m pc L S := by
  subst hq; exact Go.st (fun t k => XS.iloadN X.here hx rfl hd hl k) K
theorem s_iload (X : Stand p l e R s m args below meth c T locs cells slots) (hx : p.tables.exec = Jvm.exec) {k : Nat} {v : Int32} (hd : decode c.code pc = .ok (.iload k, 2)) (hl : L[k]? = some (.val (.int v))) (hq : pc + 2 = q) (K : Go p e below G T m q L (.int v :: S)) : Go p e below G T m pc L S := by
  subst hq; exact Go.st (fun t k => XS.iload X.here hx rfl hd hl k) K
theorem s_lloadN (X : Stand p l e R s m args below meth c T locs cells slots) (hx : p.tables.exec = Jvm.exec) {k : Fin 4} {v : Int64} (hd : decode c.code pc = .ok (.lload_n k, 1)) (hl : L[k.val]? = some (.val (.long v))) (hq : pc + 1 = q) (K : Go p e below G T m q L (.long v :: S)) : Go p e below G T m pc L S := by
  subst hq; exact Go.st (fun t k => XS.lloadN X.here hx rfl hd hl k) K
theorem s_lload (X : Stand p l e R s m args below meth c T locs cells slots) (hx : p.tables.exec = Jvm.exec) {k : Nat} {v : Int64} (hd : decode c.code pc = .ok (.lload k, 2)) (hl : L[k]? = some (.val (.long v))) (hq : pc + 2 = q) (K : Go p e below G T m q L (.long v :: S)) : Go p e below G T m pc L S := by
  subst hq; exact Go.st (fun t k => XS.lload X.here hx rfl hd hl k) K
theorem s_aloadN (X : Stand p l e R s m args below meth c T locs cells slots) (hx : p.tables.exec = Jvm.exec) {k : Fin 4} {v : Value} (hd : decode c.code pc = .ok (.aload_n k, 1)) (hl : L[k.val]? = some (.val v)) (hv : v.isRef = true) (hq : pc + 1 = q) (K : Go p e below G T m q L (v :: S)) : Go p e below G T m pc L S := by
  subst hq; exact Go.st (fun t k => XS.aloadN X.here hx rfl hd hl hv k) K
theorem s_aload (X : Stand p l e R s m args below meth c T locs cells slots) (hx : p.tables.exec = Jvm.exec) {k : Nat} {v : Value} (hd : decode c.code pc = .ok (.aload k, 2)) (hl : L[k]? = some (.val v)) (hv : v.isRef = true) (hq : pc + 2 = q) (K : Go p e below G T m q L (v :: S)) : Go p e below G T m pc L S := by
  subst hq; exact Go.st (fun t k => XS.aload X.here hx rfl hd hl hv k) K
theorem s_istoreN (X : Stand p l e R s m args below meth c T locs cells slots) (hx : p.tables.exec = Jvm.exec) {k : Fin 4} {x : Int32} (hd : decode c.code pc = .ok (.istore_n k, 1)) (hl : storeLocals L k.val (.int x) = some L') (hq : pc + 1 = q) (K : Go p e below G T m q L' S) : Go p e below G T m pc L (.int x :: S) := by
  subst hq; exact Go.st (fun t k => XS.istoreN X.here hx rfl hd rfl hl k) K
theorem s_istore (X : Stand p l e R s m args below meth c T locs cells slots) (hx : p.tables.exec = Jvm.exec) {k : Nat} {x : Int32} (hd : decode c.code pc = .ok (.istore k, 2)) (hl : storeLocals L k (.int x) = some L') (hq : pc + 2 = q) (K : Go p e below G T m q L' S) : Go p e below G T m pc L (.int x :: S) := by
  subst hq; exact Go.st (fun t k => XS.istore X.here hx rfl hd rfl hl k) K
theorem s_lstoreN (X : Stand p l e R s m args below meth c T locs cells slots) (hx : p.tables.exec = Jvm.exec) {k : Fin 4} {x : Int64} (hd : decode c.code pc = .ok (.lstore_n k, 1)) (hl : storeLocals L k.val (.long x) = some L') (hq : pc + 1 = q) (K : Go p e below G T m q L' S) : Go p e below G T m pc L (.long x :: S) := by
  subst hq; exact Go.st (fun t k => XS.lstoreN X.here hx rfl hd rfl hl k) K
theorem s_lstore (X : Stand p l e R s m args below meth c T locs cells slots) (hx : p.tables.exec = Jvm.exec) {k : Nat} {x : Int64} (hd : decode c.code pc = .ok (.lstore k, 2)) (hl : storeLocals L k (.long x) = some L') (hq : pc + 2 = q) (K : Go p e below G T m q L' S) : Go p e below G T m pc L (.long x :: S) := by
  subst hq; exact Go.st (fun t k => XS.lstore X.here hx rfl hd rfl hl k) K
theorem s_astoreN (X : Stand p l e R s m args below meth c T locs cells slots) (hx : p.tables.exec = Jvm.exec) {k : Fin 4} {x : Value} (hd : decode c.code pc = .ok (.astore_n k, 1)) (hv : x.isRef = true) (hl : storeLocals L k.val x = some L') (hq : pc + 1 = q) (K : Go p e below G T m q L' S) : Go p e below G T m pc L (x :: S) := by
  subst hq; exact Go.st (fun t k => XS.astoreN X.here hx rfl hd rfl hv hl k) K
theorem s_astore (X : Stand p l e R s m args below meth c T locs cells slots) (hx : p.tables.exec = Jvm.exec) {k : Nat} {x : Value} (hd : decode c.code pc = .ok (.astore k, 2)) (hv : x.isRef = true) (hl : storeLocals L k x = some L') (hq : pc + 2 = q) (K : Go p e below G T m q L' S) : Go p e below G T m pc L (x :: S) := by
  subst hq; exact Go.st (fun t k => XS.astore X.here hx rfl hd rfl hv hl k) K
theorem s_iconst (X : Stand p l e R s m args below meth c T locs cells slots) (hx : p.tables.exec = Jvm.exec) {i : Int} {z : Int32} (hd : decode c.code pc = .ok (.iconst i, 1)) (hz : Int32.ofInt i = z) (hq : pc + 1 = q) (K : Go p e below G T m q L (.int z :: S)) : Go p e below G T m pc L S := by
  subst hq hz; exact Go.st (fun t k => XS.iconst X.here hx rfl hd k) K
theorem s_bipush (X : Stand p l e R s m args below meth c T locs cells slots) (hx : p.tables.exec = Jvm.exec) {i : Int} {z : Int32} (hd : decode c.code pc = .ok (.bipush i, 2)) (hz : (Int8.ofInt i).toInt32 = z) (hq : pc + 2 = q) (K : Go p e below G T m q L (.int z :: S)) : Go p e below G T m pc L S := by
  subst hq hz; exact Go.st (fun t k => XS.bipush X.here hx rfl hd k) K
theorem s_sipush (X : Stand p l e R s m args below meth c T locs cells slots) (hx : p.tables.exec = Jvm.exec) {i : Int} {z : Int32} (hd : decode c.code pc = .ok (.sipush i, 3)) (hz : (Int16.ofInt i).toInt32 = z) (hq : pc + 3 = q) (K : Go p e below G T m q L (.int z :: S)) : Go p e below G T m pc L S := by
  subst hq hz; exact Go.st (fun t k => XS.sipush X.here hx rfl hd k) K
theorem s_lconst (X : Stand p l e R s m args below meth c T locs cells slots) (hx : p.tables.exec = Jvm.exec) {i : Fin 2} {z : Int64} (hd : decode c.code pc = .ok (.lconst i, 1)) (hz : Int64.ofNat i.val = z) (hq : pc + 1 = q) (K : Go p e below G T m q L (.long z :: S)) : Go p e below G T m pc L S := by
  subst hq hz; exact Go.st (fun t k => XS.lconst X.here hx rfl hd k) K
theorem s_aconst_null (X : Stand p l e R s m args below meth c T locs cells slots) (hx : p.tables.exec = Jvm.exec)  (hd : decode c.code pc = .ok (.aconst_null, 1))  (hq : pc + 1 = q) (K : Go p e below G T m q L (.null :: S)) : Go p e below G T m pc L S := by
  subst hq; exact Go.st (fun t k => XS.aconstNull X.here hx rfl hd k) K
theorem s_iadd (X : Stand p l e R s m args below meth c T locs cells slots) (hx : p.tables.exec = Jvm.exec) {x y : Int32} (hd : decode c.code pc = .ok (.iadd, 1))  (hq : pc + 1 = q) (K : Go p e below G T m q L (.int (x + y) :: S)) : Go p e below G T m pc L (.int y :: .int x :: S) := by
  subst hq; exact Go.st (fun t k => XS.iadd X.here hx rfl hd rfl k) K
theorem s_isub (X : Stand p l e R s m args below meth c T locs cells slots) (hx : p.tables.exec = Jvm.exec) {x y : Int32} (hd : decode c.code pc = .ok (.isub, 1))  (hq : pc + 1 = q) (K : Go p e below G T m q L (.int (x - y) :: S)) : Go p e below G T m pc L (.int y :: .int x :: S) := by
  subst hq; exact Go.st (fun t k => XS.isub X.here hx rfl hd rfl k) K
theorem s_imul (X : Stand p l e R s m args below meth c T locs cells slots) (hx : p.tables.exec = Jvm.exec) {x y : Int32} (hd : decode c.code pc = .ok (.imul, 1))  (hq : pc + 1 = q) (K : Go p e below G T m q L (.int (x * y) :: S)) : Go p e below G T m pc L (.int y :: .int x :: S) := by
  subst hq; exact Go.st (fun t k => XS.imul X.here hx rfl hd rfl k) K
theorem s_iand (X : Stand p l e R s m args below meth c T locs cells slots) (hx : p.tables.exec = Jvm.exec) {x y : Int32} (hd : decode c.code pc = .ok (.iand, 1))  (hq : pc + 1 = q) (K : Go p e below G T m q L (.int (x &&& y) :: S)) : Go p e below G T m pc L (.int y :: .int x :: S) := by
  subst hq; exact Go.st (fun t k => XS.iand X.here hx rfl hd rfl k) K
theorem s_ior (X : Stand p l e R s m args below meth c T locs cells slots) (hx : p.tables.exec = Jvm.exec) {x y : Int32} (hd : decode c.code pc = .ok (.ior, 1))  (hq : pc + 1 = q) (K : Go p e below G T m q L (.int (x ||| y) :: S)) : Go p e below G T m pc L (.int y :: .int x :: S) := by
  subst hq; exact Go.st (fun t k => XS.ior X.here hx rfl hd rfl k) K
theorem s_ixor (X : Stand p l e R s m args below meth c T locs cells slots) (hx : p.tables.exec = Jvm.exec) {x y : Int32} (hd : decode c.code pc = .ok (.ixor, 1))  (hq : pc + 1 = q) (K : Go p e below G T m q L (.int (x ^^^ y) :: S)) : Go p e below G T m pc L (.int y :: .int x :: S) := by
  subst hq; exact Go.st (fun t k => XS.ixor X.here hx rfl hd rfl k) K
theorem s_ladd (X : Stand p l e R s m args below meth c T locs cells slots) (hx : p.tables.exec = Jvm.exec) {x y : Int64} (hd : decode c.code pc = .ok (.ladd, 1))  (hq : pc + 1 = q) (K : Go p e below G T m q L (.long (x + y) :: S)) : Go p e below G T m pc L (.long y :: .long x :: S) := by
  subst hq; exact Go.st (fun t k => XS.ladd X.here hx rfl hd rfl k) K
theorem s_lsub (X : Stand p l e R s m args below meth c T locs cells slots) (hx : p.tables.exec = Jvm.exec) {x y : Int64} (hd : decode c.code pc = .ok (.lsub, 1))  (hq : pc + 1 = q) (K : Go p e below G T m q L (.long (x - y) :: S)) : Go p e below G T m pc L (.long y :: .long x :: S) := by
  subst hq; exact Go.st (fun t k => XS.lsub X.here hx rfl hd rfl k) K
theorem s_lmul (X : Stand p l e R s m args below meth c T locs cells slots) (hx : p.tables.exec = Jvm.exec) {x y : Int64} (hd : decode c.code pc = .ok (.lmul, 1))  (hq : pc + 1 = q) (K : Go p e below G T m q L (.long (x * y) :: S)) : Go p e below G T m pc L (.long y :: .long x :: S) := by
  subst hq; exact Go.st (fun t k => XS.lmul X.here hx rfl hd rfl k) K
theorem s_land (X : Stand p l e R s m args below meth c T locs cells slots) (hx : p.tables.exec = Jvm.exec) {x y : Int64} (hd : decode c.code pc = .ok (.land, 1))  (hq : pc + 1 = q) (K : Go p e below G T m q L (.long (x &&& y) :: S)) : Go p e below G T m pc L (.long y :: .long x :: S) := by
  subst hq; exact Go.st (fun t k => XS.land X.here hx rfl hd rfl k) K
theorem s_lor (X : Stand p l e R s m args below meth c T locs cells slots) (hx : p.tables.exec = Jvm.exec) {x y : Int64} (hd : decode c.code pc = .ok (.lor, 1))  (hq : pc + 1 = q) (K : Go p e below G T m q L (.long (x ||| y) :: S)) : Go p e below G T m pc L (.long y :: .long x :: S) := by
  subst hq; exact Go.st (fun t k => XS.lor X.here hx rfl hd rfl k) K
theorem s_lxor (X : Stand p l e R s m args below meth c T locs cells slots) (hx : p.tables.exec = Jvm.exec) {x y : Int64} (hd : decode c.code pc = .ok (.lxor, 1))  (hq : pc + 1 = q) (K : Go p e below G T m q L (.long (x ^^^ y) :: S)) : Go p e below G T m pc L (.long y :: .long x :: S) := by
  subst hq; exact Go.st (fun t k => XS.lxor X.here hx rfl hd rfl k) K
theorem s_ishl (X : Stand p l e R s m args below meth c T locs cells slots) (hx : p.tables.exec = Jvm.exec) {x y : Int32} (hd : decode c.code pc = .ok (.ishl, 1))  (hq : pc + 1 = q) (K : Go p e below G T m q L (.int (x <<< (y &&& 31)) :: S)) : Go p e below G T m pc L (.int y :: .int x :: S) := by
  subst hq; exact Go.st (fun t k => XS.ishl X.here hx rfl hd rfl k) K
theorem s_ishr (X : Stand p l e R s m args below meth c T locs cells slots) (hx : p.tables.exec = Jvm.exec) {x y : Int32} (hd : decode c.code pc = .ok (.ishr, 1))  (hq : pc + 1 = q) (K : Go p e below G T m q L (.int (x >>> (y &&& 31)) :: S)) : Go p e below G T m pc L (.int y :: .int x :: S) := by
  subst hq; exact Go.st (fun t k => XS.ishr X.here hx rfl hd rfl k) K
theorem s_iushr (X : Stand p l e R s m args below meth c T locs cells slots) (hx : p.tables.exec = Jvm.exec) {x y : Int32} (hd : decode c.code pc = .ok (.iushr, 1))  (hq : pc + 1 = q) (K : Go p e below G T m q L (.int ((x.toUInt32 >>> (y &&& 31).toUInt32).toInt32) :: S)) : Go p e below G T m pc L (.int y :: .int x :: S) := by
  subst hq; exact Go.st (fun t k => XS.iushr X.here hx rfl hd rfl k) K
theorem s_lshl (X : Stand p l e R s m args below meth c T locs cells slots) (hx : p.tables.exec = Jvm.exec) {x : Int64} {y : Int32} (hd : decode c.code pc = .ok (.lshl, 1))  (hq : pc + 1 = q) (K : Go p e below G T m q L (.long (x <<< (y &&& 0x3f).toInt64) :: S)) : Go p e below G T m pc L (.int y :: .long x :: S) := by
  subst hq; exact Go.st (fun t k => XS.lshl X.here hx rfl hd rfl k) K
theorem s_lshr (X : Stand p l e R s m args below meth c T locs cells slots) (hx : p.tables.exec = Jvm.exec) {x : Int64} {y : Int32} (hd : decode c.code pc = .ok (.lshr, 1))  (hq : pc + 1 = q) (K : Go p e below G T m q L (.long (x >>> (y &&& 0x3f).toInt64) :: S)) : Go p e below G T m pc L (.int y :: .long x :: S) := by
  subst hq; exact Go.st (fun t k => XS.lshr X.here hx rfl hd rfl k) K
theorem s_lushr (X : Stand p l e R s m args below meth c T locs cells slots) (hx : p.tables.exec = Jvm.exec) {x : Int64} {y : Int32} (hd : decode c.code pc = .ok (.lushr, 1))  (hq : pc + 1 = q) (K : Go p e below G T m q L (.long ((x.toUInt64 >>> (y &&& 0x3f).toInt64.toUInt64).toInt64) :: S)) : Go p e below G T m pc L (.int y :: .long x :: S) := by
  subst hq; exact Go.st (fun t k => XS.lushr X.here hx rfl hd rfl k) K
theorem s_idiv (X : Stand p l e R s m args below meth c T locs cells slots) (hx : p.tables.exec = Jvm.exec) {x y : Int32} (hd : decode c.code pc = .ok (.idiv, 1)) (hy : y ≠ 0) (hq : pc + 1 = q) (K : Go p e below G T m q L (.int (x / y) :: S)) : Go p e below G T m pc L (.int y :: .int x :: S) := by
  subst hq; exact Go.st (fun t k => XS.idiv X.here hx rfl hd rfl hy k) K
theorem s_ldiv (X : Stand p l e R s m args below meth c T locs cells slots) (hx : p.tables.exec = Jvm.exec) {x y : Int64} (hd : decode c.code pc = .ok (.ldiv, 1)) (hy : y ≠ 0) (hq : pc + 1 = q) (K : Go p e below G T m q L (.long (x / y) :: S)) : Go p e below G T m pc L (.long y :: .long x :: S) := by
  subst hq; exact Go.st (fun t k => XS.ldiv X.here hx rfl hd rfl hy k) K
theorem s_ineg (X : Stand p l e R s m args below meth c T locs cells slots) (hx : p.tables.exec = Jvm.exec) {x : Int32} (hd : decode c.code pc = .ok (.ineg, 1))  (hq : pc + 1 = q) (K : Go p e below G T m q L (.int (-x) :: S)) : Go p e below G T m pc L (.int x :: S) := by
  subst hq; exact Go.st (fun t k => XS.ineg X.here hx rfl hd rfl k) K
theorem s_lneg (X : Stand p l e R s m args below meth c T locs cells slots) (hx : p.tables.exec = Jvm.exec) {x : Int64} (hd : decode c.code pc = .ok (.lneg, 1))  (hq : pc + 1 = q) (K : Go p e below G T m q L (.long (-x) :: S)) : Go p e below G T m pc L (.long x :: S) := by
  subst hq; exact Go.st (fun t k => XS.lneg X.here hx rfl hd rfl k) K
theorem s_i2l (X : Stand p l e R s m args below meth c T locs cells slots) (hx : p.tables.exec = Jvm.exec) {x : Int32} (hd : decode c.code pc = .ok (.i2l, 1))  (hq : pc + 1 = q) (K : Go p e below G T m q L (.long x.toInt64 :: S)) : Go p e below G T m pc L (.int x :: S) := by
  subst hq; exact Go.st (fun t k => XS.i2l X.here hx rfl hd rfl k) K
theorem s_l2i (X : Stand p l e R s m args below meth c T locs cells slots) (hx : p.tables.exec = Jvm.exec) {x : Int64} (hd : decode c.code pc = .ok (.l2i, 1))  (hq : pc + 1 = q) (K : Go p e below G T m q L (.int x.toInt32 :: S)) : Go p e below G T m pc L (.long x :: S) := by
  subst hq; exact Go.st (fun t k => XS.l2i X.here hx rfl hd rfl k) K
theorem s_i2b (X : Stand p l e R s m args below meth c T locs cells slots) (hx : p.tables.exec = Jvm.exec) {x : Int32} (hd : decode c.code pc = .ok (.i2b, 1))  (hq : pc + 1 = q) (K : Go p e below G T m q L (.int x.toInt8.toInt32 :: S)) : Go p e below G T m pc L (.int x :: S) := by
  subst hq; exact Go.st (fun t k => XS.i2b X.here hx rfl hd rfl k) K
theorem s_i2c (X : Stand p l e R s m args below meth c T locs cells slots) (hx : p.tables.exec = Jvm.exec) {x : Int32} (hd : decode c.code pc = .ok (.i2c, 1))  (hq : pc + 1 = q) (K : Go p e below G T m q L (.int x.toUInt32.toUInt16.toUInt32.toInt32 :: S)) : Go p e below G T m pc L (.int x :: S) := by
  subst hq; exact Go.st (fun t k => XS.i2c X.here hx rfl hd rfl k) K
theorem s_i2s (X : Stand p l e R s m args below meth c T locs cells slots) (hx : p.tables.exec = Jvm.exec) {x : Int32} (hd : decode c.code pc = .ok (.i2s, 1))  (hq : pc + 1 = q) (K : Go p e below G T m q L (.int x.toInt16.toInt32 :: S)) : Go p e below G T m pc L (.int x :: S) := by
  subst hq; exact Go.st (fun t k => XS.i2s X.here hx rfl hd rfl k) K
theorem s_lcmp (X : Stand p l e R s m args below meth c T locs cells slots) (hx : p.tables.exec = Jvm.exec) {x y : Int64} (hd : decode c.code pc = .ok (.lcmp, 1))  (hq : pc + 1 = q) (K : Go p e below G T m q L (.int (lcmpW x y) :: S)) : Go p e below G T m pc L (.long y :: .long x :: S) := by
  subst hq; exact Go.st (fun t k => XS.lcmp X.here hx rfl hd rfl k) K
theorem s_iinc (X : Stand p l e R s m args below meth c T locs cells slots) (hx : p.tables.exec = Jvm.exec) {k : Nat} {cst : Int} {x w : Int32} (hd : decode c.code pc = .ok (.iinc k cst, 3)) (hl : L[k]? = some (.val (.int x))) (hw : x + Int32.ofInt cst = w) (hl' : storeLocals L k (.int w) = some L') (hq : pc + 3 = q) (K : Go p e below G T m q L' S) : Go p e below G T m pc L S := by
  subst hq hw; exact Go.st (fun t k => XS.iinc X.here hx rfl hd hl hl' k) K
theorem s_dup (X : Stand p l e R s m args below meth c T locs cells slots) (hx : p.tables.exec = Jvm.exec) {x : Value} (hd : decode c.code pc = .ok (.dup, 1)) (hc : x.category = 1) (hq : pc + 1 = q) (K : Go p e below G T m q L (x :: x :: S)) : Go p e below G T m pc L (x :: S) := by
  subst hq; exact Go.st (fun t k => XS.dup X.here hx rfl hd rfl hc k) K
theorem s_dup_x1 (X : Stand p l e R s m args below meth c T locs cells slots) (hx : p.tables.exec = Jvm.exec) {x y : Value} (hd : decode c.code pc = .ok (.dup_x1, 1)) (hc : x.category = 1) (hc' : y.category = 1) (hq : pc + 1 = q) (K : Go p e below G T m q L (x :: y :: x :: S)) : Go p e below G T m pc L (x :: y :: S) := by
  subst hq; exact Go.st (fun t k => XS.dupX1 X.here hx rfl hd rfl hc hc' k) K
theorem s_dup2 (X : Stand p l e R s m args below meth c T locs cells slots) (hx : p.tables.exec = Jvm.exec) {x y : Value} (hd : decode c.code pc = .ok (.dup2, 1)) (hc : x.category = 1) (hc' : y.category = 1) (hq : pc + 1 = q) (K : Go p e below G T m q L (x :: y :: x :: y :: S)) : Go p e below G T m pc L (x :: y :: S) := by
  subst hq; exact Go.st (fun t k => Jvm.Free.XT.dup2 X.here hx rfl hd rfl hc hc' k) K
theorem s_dup2L (X : Stand p l e R s m args below meth c T locs cells slots) (hx : p.tables.exec = Jvm.exec) {x : Int64} (hd : decode c.code pc = .ok (.dup2, 1))  (hq : pc + 1 = q) (K : Go p e below G T m q L (.long x :: .long x :: S)) : Go p e below G T m pc L (.long x :: S) := by
  subst hq; exact Go.st (fun t k => Jvm.Free.XT.dup2L X.here hx rfl hd rfl k) K
theorem s_pop (X : Stand p l e R s m args below meth c T locs cells slots) (hx : p.tables.exec = Jvm.exec) {x : Value} (hd : decode c.code pc = .ok (.pop, 1)) (hc : x.category = 1) (hq : pc + 1 = q) (K : Go p e below G T m q L S) : Go p e below G T m pc L (x :: S) := by
  subst hq; exact Go.st (fun t k => XS.pop X.here hx rfl hd rfl hc k) K
theorem s_goto (X : Stand p l e R s m args below meth c T locs cells slots) (hx : p.tables.exec = Jvm.exec) {o : Int} (hd : decode c.code pc = .ok (.goto o, 3)) (ho : 0 ≤ (pc : Int) + o) (hp : ((pc : Int) + o).toNat = q1) (K : Go p e below G T m q1 L S) : Go p e below G T m pc L S := Go.st (fun t k => XS.goto X.here hx rfl rfl hd ho hp k) K
theorem f_icmp_lt (X : Stand p l e R s m args below meth c T locs cells slots) (hx : p.tables.exec = Jvm.exec) {x y : Int32} {o : Int} (hd : decode c.code pc = .ok (.if_icmp .lt o, 3)) (ho : 0 ≤ (pc : Int) + o) (hp : ((pc : Int) + o).toNat = q1) (hq : pc + 3 = q) (ky : x < y → Go p e below G T m q1 L S) (kn : ¬ x < y → Go p e below G T m q L S) : Go p e below G T m pc L (.int y :: .int x :: S) := by
  subst hq
  by_cases h : x < y
  · exact Go.st (fun t k => XS.icmpYes X.here hx rfl rfl hd rfl (tlt h).1 ho hp k) (ky h)
  · exact Go.st (fun t k => XS.icmpNo X.here hx rfl hd rfl (flt h).1 k) (kn h)
theorem f_if_lt (X : Stand p l e R s m args below meth c T locs cells slots) (hx : p.tables.exec = Jvm.exec) {x : Int32} {o : Int} (hd : decode c.code pc = .ok (.ifCond .lt o, 3)) (ho : 0 ≤ (pc : Int) + o) (hp : ((pc : Int) + o).toNat = q1) (hq : pc + 3 = q) (ky : x < 0 → Go p e below G T m q1 L S) (kn : ¬ x < 0 → Go p e below G T m q L S) : Go p e below G T m pc L (.int x :: S) := by
  subst hq
  by_cases h : x < 0
  · exact Go.st (fun t k => XS.ifYes X.here hx rfl rfl hd rfl ((if0 _ _).trans (tlt h).1) ho hp k) (ky h)
  · exact Go.st (fun t k => XS.ifNo X.here hx rfl hd rfl ((if0 _ _).trans (flt h).1) k) (kn h)
theorem f_lcmp_lt (X : Stand p l e R s m args below meth c T locs cells slots) (hx : p.tables.exec = Jvm.exec) {x y : Int64} {o : Int} (hd : decode c.code pc = .ok (.ifCond .lt o, 3)) (ho : 0 ≤ (pc : Int) + o) (hp : ((pc : Int) + o).toNat = q1) (hq : pc + 3 = q) (ky : x < y → Go p e below G T m q1 L S) (kn : ¬ x < y → Go p e below G T m q L S) : Go p e below G T m pc L (.int (lcmpW x y) :: S) :=
  f_if_lt X hx hd ho hp hq (fun h => ky ((lw_lt x y).mp h)) (fun h => kn (fun g => h ((lw_lt x y).mpr g)))
theorem f_icmp_ge (X : Stand p l e R s m args below meth c T locs cells slots) (hx : p.tables.exec = Jvm.exec) {x y : Int32} {o : Int} (hd : decode c.code pc = .ok (.if_icmp .ge o, 3)) (ho : 0 ≤ (pc : Int) + o) (hp : ((pc : Int) + o).toNat = q1) (hq : pc + 3 = q) (ky : ¬ x < y → Go p e below G T m q1 L S) (kn : x < y → Go p e below G T m q L S) : Go p e below G T m pc L (.int y :: .int x :: S) := by
  subst hq
  by_cases h : x < y
  · exact Go.st (fun t k => XS.icmpNo X.here hx rfl hd rfl (tlt h).2.1 k) (kn h)
  · exact Go.st (fun t k => XS.icmpYes X.here hx rfl rfl hd rfl (flt h).2.1 ho hp k) (ky h)
theorem f_if_ge (X : Stand p l e R s m args below meth c T locs cells slots) (hx : p.tables.exec = Jvm.exec) {x : Int32} {o : Int} (hd : decode c.code pc = .ok (.ifCond .ge o, 3)) (ho : 0 ≤ (pc : Int) + o) (hp : ((pc : Int) + o).toNat = q1) (hq : pc + 3 = q) (ky : ¬ x < 0 → Go p e below G T m q1 L S) (kn : x < 0 → Go p e below G T m q L S) : Go p e below G T m pc L (.int x :: S) := by
  subst hq
  by_cases h : x < 0
  · exact Go.st (fun t k => XS.ifNo X.here hx rfl hd rfl ((if0 _ _).trans (tlt h).2.1) k) (kn h)
  · exact Go.st (fun t k => XS.ifYes X.here hx rfl rfl hd rfl ((if0 _ _).trans (flt h).2.1) ho hp k) (ky h)
theorem f_lcmp_ge (X : Stand p l e R s m args below meth c T locs cells slots) (hx : p.tables.exec = Jvm.exec) {x y : Int64} {o : Int} (hd : decode c.code pc = .ok (.ifCond .ge o, 3)) (ho : 0 ≤ (pc : Int) + o) (hp : ((pc : Int) + o).toNat = q1) (hq : pc + 3 = q) (ky : ¬ x < y → Go p e below G T m q1 L S) (kn : x < y → Go p e below G T m q L S) : Go p e below G T m pc L (.int (lcmpW x y) :: S) :=
  f_if_ge X hx hd ho hp hq (fun h => ky (fun g => h ((lw_lt x y).mpr g))) (fun h => kn ((lw_lt x y).mp h))
theorem f_icmp_gt (X : Stand p l e R s m args below meth c T locs cells slots) (hx : p.tables.exec = Jvm.exec) {x y : Int32} {o : Int} (hd : decode c.code pc = .ok (.if_icmp .gt o, 3)) (ho : 0 ≤ (pc : Int) + o) (hp : ((pc : Int) + o).toNat = q1) (hq : pc + 3 = q) (ky : y < x → Go p e below G T m q1 L S) (kn : ¬ y < x → Go p e below G T m q L S) : Go p e below G T m pc L (.int y :: .int x :: S) := by
  subst hq
  by_cases h : y < x
  · exact Go.st (fun t k => XS.icmpYes X.here hx rfl rfl hd rfl (tlt h).2.2.1 ho hp k) (ky h)
  · exact Go.st (fun t k => XS.icmpNo X.here hx rfl hd rfl (flt h).2.2.1 k) (kn h)
theorem f_if_gt (X : Stand p l e R s m args below meth c T locs cells slots) (hx : p.tables.exec = Jvm.exec) {x : Int32} {o : Int} (hd : decode c.code pc = .ok (.ifCond .gt o, 3)) (ho : 0 ≤ (pc : Int) + o) (hp : ((pc : Int) + o).toNat = q1) (hq : pc + 3 = q) (ky : 0 < x → Go p e below G T m q1 L S) (kn : ¬ 0 < x → Go p e below G T m q L S) : Go p e below G T m pc L (.int x :: S) := by
  subst hq
  by_cases h : 0 < x
  · exact Go.st (fun t k => XS.ifYes X.here hx rfl rfl hd rfl ((if0 _ _).trans (tlt h).2.2.1) ho hp k) (ky h)
  · exact Go.st (fun t k => XS.ifNo X.here hx rfl hd rfl ((if0 _ _).trans (flt h).2.2.1) k) (kn h)
theorem f_lcmp_gt (X : Stand p l e R s m args below meth c T locs cells slots) (hx : p.tables.exec = Jvm.exec) {x y : Int64} {o : Int} (hd : decode c.code pc = .ok (.ifCond .gt o, 3)) (ho : 0 ≤ (pc : Int) + o) (hp : ((pc : Int) + o).toNat = q1) (hq : pc + 3 = q) (ky : y < x → Go p e below G T m q1 L S) (kn : ¬ y < x → Go p e below G T m q L S) : Go p e below G T m pc L (.int (lcmpW x y) :: S) :=
  f_if_gt X hx hd ho hp hq (fun h => ky ((lw_gt x y).mp h)) (fun h => kn (fun g => h ((lw_gt x y).mpr g)))
theorem f_icmp_le (X : Stand p l e R s m args below meth c T locs cells slots) (hx : p.tables.exec = Jvm.exec) {x y : Int32} {o : Int} (hd : decode c.code pc = .ok (.if_icmp .le o, 3)) (ho : 0 ≤ (pc : Int) + o) (hp : ((pc : Int) + o).toNat = q1) (hq : pc + 3 = q) (ky : ¬ y < x → Go p e below G T m q1 L S) (kn : y < x → Go p e below G T m q L S) : Go p e below G T m pc L (.int y :: .int x :: S) := by
  subst hq
  by_cases h : y < x
  · exact Go.st (fun t k => XS.icmpNo X.here hx rfl hd rfl (tlt h).2.2.2 k) (kn h)
  · exact Go.st (fun t k => XS.icmpYes X.here hx rfl rfl hd rfl (flt h).2.2.2 ho hp k) (ky h)
theorem f_if_le (X : Stand p l e R s m args below meth c T locs cells slots) (hx : p.tables.exec = Jvm.exec) {x : Int32} {o : Int} (hd : decode c.code pc = .ok (.ifCond .le o, 3)) (ho : 0 ≤ (pc : Int) + o) (hp : ((pc : Int) + o).toNat = q1) (hq : pc + 3 = q) (ky : ¬ 0 < x → Go p e below G T m q1 L S) (kn : 0 < x → Go p e below G T m q L S) : Go p e below G T m pc L (.int x :: S) := by
  subst hq
  by_cases h : 0 < x
  · exact Go.st (fun t k => XS.ifNo X.here hx rfl hd rfl ((if0 _ _).trans (tlt h).2.2.2) k) (kn h)
  · exact Go.st (fun t k => XS.ifYes X.here hx rfl rfl hd rfl ((if0 _ _).trans (flt h).2.2.2) ho hp k) (ky h)
theorem f_lcmp_le (X : Stand p l e R s m args below meth c T locs cells slots) (hx : p.tables.exec = Jvm.exec) {x y : Int64} {o : Int} (hd : decode c.code pc = .ok (.ifCond .le o, 3)) (ho : 0 ≤ (pc : Int) + o) (hp : ((pc : Int) + o).toNat = q1) (hq : pc + 3 = q) (ky : ¬ y < x → Go p e below G T m q1 L S) (kn : y < x → Go p e below G T m q L S) : Go p e below G T m pc L (.int (lcmpW x y) :: S) :=
  f_if_le X hx hd ho hp hq (fun h => ky (fun g => h ((lw_gt x y).mpr g))) (fun h => kn ((lw_gt x y).mp h))
theorem f_icmp_eq (X : Stand p l e R s m args below meth c T locs cells slots) (hx : p.tables.exec = Jvm.exec) {x y : Int32} {o : Int} (hd : decode c.code pc = .ok (.if_icmp .eq o, 3)) (ho : 0 ≤ (pc : Int) + o) (hp : ((pc : Int) + o).toNat = q1) (hq : pc + 3 = q) (ky : x = y → Go p e below G T m q1 L S) (kn : ¬ x = y → Go p e below G T m q L S) : Go p e below G T m pc L (.int y :: .int x :: S) := by
  subst hq
  by_cases h : x = y
  · exact Go.st (fun t k => XS.icmpYes X.here hx rfl rfl hd rfl (teq h).1 ho hp k) (ky h)
  · exact Go.st (fun t k => XS.icmpNo X.here hx rfl hd rfl (feq h).1 k) (kn h)
theorem f_if_eq (X : Stand p l e R s m args below meth c T locs cells slots) (hx : p.tables.exec = Jvm.exec) {x : Int32} {o : Int} (hd : decode c.code pc = .ok (.ifCond .eq o, 3)) (ho : 0 ≤ (pc : Int) + o) (hp : ((pc : Int) + o).toNat = q1) (hq : pc + 3 = q) (ky : x = 0 → Go p e below G T m q1 L S) (kn : ¬ x = 0 → Go p e below G T m q L S) : Go p e below G T m pc L (.int x :: S) := by
  subst hq
  by_cases h : x = 0
  · exact Go.st (fun t k => XS.ifYes X.here hx rfl rfl hd rfl ((if0 _ _).trans (teq h).1) ho hp k) (ky h)
  · exact Go.st (fun t k => XS.ifNo X.here hx rfl hd rfl ((if0 _ _).trans (feq h).1) k) (kn h)
theorem f_lcmp_eq (X : Stand p l e R s m args below meth c T locs cells slots) (hx : p.tables.exec = Jvm.exec) {x y : Int64} {o : Int} (hd : decode c.code pc = .ok (.ifCond .eq o, 3)) (ho : 0 ≤ (pc : Int) + o) (hp : ((pc : Int) + o).toNat = q1) (hq : pc + 3 = q) (ky : x = y → Go p e below G T m q1 L S) (kn : ¬ x = y → Go p e below G T m q L S) : Go p e below G T m pc L (.int (lcmpW x y) :: S) :=
  f_if_eq X hx hd ho hp hq (fun h => ky ((lw_eq x y).mp h)) (fun h => kn (fun g => h ((lw_eq x y).mpr g)))
theorem f_icmp_ne (X : Stand p l e R s m args below meth c T locs cells slots) (hx : p.tables.exec = Jvm.exec) {x y : Int32} {o : Int} (hd : decode c.code pc = .ok (.if_icmp .ne o, 3)) (ho : 0 ≤ (pc : Int) + o) (hp : ((pc : Int) + o).toNat = q1) (hq : pc + 3 = q) (ky : ¬ x = y → Go p e below G T m q1 L S) (kn : x = y → Go p e below G T m q L S) : Go p e below G T m pc L (.int y :: .int x :: S) := by
  subst hq
  by_cases h : x = y
  · exact Go.st (fun t k => XS.icmpNo X.here hx rfl hd rfl (teq h).2 k) (kn h)
  · exact Go.st (fun t k => XS.icmpYes X.here hx rfl rfl hd rfl (feq h).2 ho hp k) (ky h)
theorem f_if_ne (X : Stand p l e R s m args below meth c T locs cells slots) (hx : p.tables.exec = Jvm.exec) {x : Int32} {o : Int} (hd : decode c.code pc = .ok (.ifCond .ne o, 3)) (ho : 0 ≤ (pc : Int) + o) (hp : ((pc : Int) + o).toNat = q1) (hq : pc + 3 = q) (ky : ¬ x = 0 → Go p e below G T m q1 L S) (kn : x = 0 → Go p e below G T m q L S) : Go p e below G T m pc L (.int x :: S) := by
  subst hq
  by_cases h : x = 0
  · exact Go.st (fun t k => XS.ifNo X.here hx rfl hd rfl ((if0 _ _).trans (teq h).2) k) (kn h)
  · exact Go.st (fun t k => XS.ifYes X.here hx rfl rfl hd rfl ((if0 _ _).trans (feq h).2) ho hp k) (ky h)
theorem f_lcmp_ne (X : Stand p l e R s m args below meth c T locs cells slots) (hx : p.tables.exec = Jvm.exec) {x y : Int64} {o : Int} (hd : decode c.code pc = .ok (.ifCond .ne o, 3)) (ho : 0 ≤ (pc : Int) + o) (hp : ((pc : Int) + o).toNat = q1) (hq : pc + 3 = q) (ky : ¬ x = y → Go p e below G T m q1 L S) (kn : x = y → Go p e below G T m q L S) : Go p e below G T m pc L (.int (lcmpW x y) :: S) :=
  f_if_ne X hx hd ho hp hq (fun h => ky (fun g => h ((lw_eq x y).mpr g))) (fun h => kn ((lw_eq x y).mp h))
theorem s_ifnullYes (X : Stand p l e R s m args below meth c T locs cells slots) (hx : p.tables.exec = Jvm.exec) {o : Int} (hd : decode c.code pc = .ok (.ifnull o, 3)) (ho : 0 ≤ (pc : Int) + o) (hp : ((pc : Int) + o).toNat = q1) (K : Go p e below G T m q1 L S) : Go p e below G T m pc L (.null :: S) := Go.st (fun t k => XS.ifnullYes X.here hx rfl rfl hd rfl ho hp k) K
theorem s_ifnullNo (X : Stand p l e R s m args below meth c T locs cells slots) (hx : p.tables.exec = Jvm.exec) {o : Int} {b : Addr} (hd : decode c.code pc = .ok (.ifnull o, 3))  (hq : pc + 3 = q) (K : Go p e below G T m q L S) : Go p e below G T m pc L (.ref b :: S) := by
  subst hq; exact Go.st (fun t k => XS.ifnullNo X.here hx rfl hd rfl k) K
theorem s_ifnonnullYes (X : Stand p l e R s m args below meth c T locs cells slots) (hx : p.tables.exec = Jvm.exec) {o : Int} {b : Addr} (hd : decode c.code pc = .ok (.ifnonnull o, 3)) (ho : 0 ≤ (pc : Int) + o) (hp : ((pc : Int) + o).toNat = q1) (K : Go p e below G T m q1 L S) : Go p e below G T m pc L (.ref b :: S) := Go.st (fun t k => XS.ifnonnullYes X.here hx rfl rfl hd rfl ho hp k) K
theorem s_ifnonnullNo (X : Stand p l e R s m args below meth c T locs cells slots) (hx : p.tables.exec = Jvm.exec) {o : Int} (hd : decode c.code pc = .ok (.ifnonnull o, 3))  (hq : pc + 3 = q) (K : Go p e below G T m q L S) : Go p e below G T m pc L (.null :: S) := by
  subst hq; exact Go.st (fun t k => XS.ifnonnullNo X.here hx rfl hd rfl k) K
variable {Z : State} {a0 : Array Value} {h h' : Heap} {a b : Addr} {own C O n d : String} {v : Value} {n0 : Nat}
theorem s_ldc (X : Stand p l e R s m args below meth c T locs cells slots) (hx : p.tables.exec = Jvm.exec) (hZ : Z.Warmed39 s.vm) (hown : s.vm.findClass own = some m.cls) {index : Nat} {z : Int32} (w : (Jvm.Cond.constant own index z).before a0 Z = true) (hd : decode c.code pc = .ok (.ldc index, 2)) (hq : pc + 2 = q) (K : Go p e below G T m q L (.int z :: S)) : Go p e below G T m pc L S := by
  subst hq; exact Go.st (fun t k => X.ldcInt hx hown (mvT hZ w) (g := mkF m pc L S) rfl hd t k) K
theorem s_ldcw (X : Stand p l e R s m args below meth c T locs cells slots) (hx : p.tables.exec = Jvm.exec) (hZ : Z.Warmed39 s.vm) (hown : s.vm.findClass own = some m.cls) {index : Nat} {z : Int32} (w : (Jvm.Cond.constant own index z).before a0 Z = true) (hd : decode c.code pc = .ok (.ldc_w index, 3)) (hq : pc + 3 = q) (K : Go p e below G T m q L (.int z :: S)) : Go p e below G T m pc L S := by
  subst hq; exact Go.st (fun t k => X.ldcwInt hx hown (mvT hZ w) (g := mkF m pc L S) rfl hd t k) K
theorem s_ldc2 (X : Stand p l e R s m args below meth c T locs cells slots) (hx : p.tables.exec = Jvm.exec) (hZ : Z.Warmed39 s.vm) (hown : s.vm.findClass own = some m.cls) {index : Nat} {z : Int64} (w : (Jvm.Cond.constantLong own index z).before a0 Z = true) (hd : decode c.code pc = .ok (.ldc2_w index, 3)) (hq : pc + 3 = q) (K : Go p e below G T m q L (.long z :: S)) : Go p e below G T m pc L S := by
  subst hq; exact Go.st (fun t k => X.ldc2Long hx hown (mvT hZ w) (g := mkF m pc L S) rfl hd t k) K
theorem s_lrem (X : Stand p l e R s m args below meth c T locs cells slots) (hx : p.tables.exec = Jvm.exec) {x y : Int64} (hd : decode c.code pc = .ok (.lrem, 1)) (hy : y ≠ 0) (hq : pc + 1 = q) (K : Go p e below G T m q L (.long (x % y) :: S)) : Go p e below G T m pc L (.long y :: .long x :: S) := by
  subst hq; rw [← lrem_mod] at K; exact Go.st (fun t k => XS.lrem X.here hx rfl hd rfl hy k) K
theorem irem_mod (x y : Int32) : x - (x / y) * y = x % y := by
  apply Int32.toInt_inj.mp
  have h1 := Int32.le_toInt (x % y)
  have h2 := Int32.toInt_lt (x % y)
  rw [Int32.toInt_sub, Int32.toInt_mul, Int32.toInt_div, Int.bmod_mul_bmod, Int.sub_bmod_bmod, Int.mul_comm (x.toInt.tdiv y.toInt), ← Int.tmod_def, ← Int32.toInt_mod]
  exact Int.bmod_eq_of_le_mul_two (by omega) (by omega)
theorem s_irem (X : Stand p l e R s m args below meth c T locs cells slots) (hx : p.tables.exec = Jvm.exec) {x y : Int32} (hd : decode c.code pc = .ok (.irem, 1)) (hy : y ≠ 0) (hq : pc + 1 = q) (K : Go p e below G T m q L (.int (x % y) :: S)) : Go p e below G T m pc L (.int y :: .int x :: S) := by
  subst hq; rw [← irem_mod] at K; exact Go.st (fun t k => XS.irem X.here hx rfl hd rfl hy k) K
theorem leafI (X : Stand p l e R s m args below meth c T locs cells slots) (hx : p.tables.exec = Jvm.exec) {z : Int32} {Q : Option Value → Heap → List Loc → Prop} {C N : Nat} (hlk : meth.locks = false) (hret : meth.sig.returnType = some .int) (hd : decode c.code pc = .ok (.ireturn, 1)) (hc : cells ≤ C) (hn : slots ≤ N) (hQ : Q (some (.int z)) T.heap locs) : Go p e below (Gl s below Q C N) T m pc L (.int z :: S) := by
  obtain ⟨fs, hr, hrun, hended, hW, hsame⟩ := X.leave (v := some (.int z)) (fun h => by rw [hret] at h; cases h) hlk
  exact ⟨_, retI X hx hret hd hr, _, hrun, hended, _, _, rfl, hQ, ⟨_, rfl⟩, hW, hsame.mono hc hn⟩
theorem leafN (X : Stand p l e R s m args below meth c T locs cells slots) (hx : p.tables.exec = Jvm.exec) {t : FieldType} {z z' : Int32} {Q : Option Value → Heap → List Loc → Prop} {C N : Nat} (hlk : meth.locks = false) (hret : meth.sig.returnType = some t) (ht : t = .boolean ∨ t = .byte ∨ t = .char ∨ t = .short) (hd : decode c.code pc = .ok (.ireturn, 1)) (hc : cells ≤ C) (hn : slots ≤ N) (hz : nar t z = z') (hQ : Q (some (.int z')) T.heap locs) : Go p e below (Gl s below Q C N) T m pc L (.int z :: S) := by
  subst hz
  obtain ⟨fs, hr, hrun, hended, hW, hsame⟩ := X.leave (v := some (.int (nar t z))) (fun h => by rw [hret] at h; cases h) hlk
  exact ⟨_, retN X hx hret ht hd hr, _, hrun, hended, _, _, rfl, hQ, ⟨_, rfl⟩, hW, hsame.mono hc hn⟩
theorem leafJ (X : Stand p l e R s m args below meth c T locs cells slots) (hx : p.tables.exec = Jvm.exec) {z : Int64} {Q : Option Value → Heap → List Loc → Prop} {C N : Nat} (hlk : meth.locks = false) (hret : meth.sig.returnType = some .long) (hd : decode c.code pc = .ok (.lreturn, 1)) (hc : cells ≤ C) (hn : slots ≤ N) (hQ : Q (some (.long z)) T.heap locs) : Go p e below (Gl s below Q C N) T m pc L (.long z :: S) := by
  obtain ⟨fs, hr, hrun, hended, hW, hsame⟩ := X.leave (v := some (.long z)) (fun h => by rw [hret] at h; cases h) hlk
  refine ⟨_, ?_, _, hrun, hended, _, _, rfl, hQ, ⟨_, rfl⟩, hW, hsame.mono hc hn⟩
  show Steps p.tables e below (T.setTop { method := m, pc := pc, locals := L, stack := .long z :: S, locked := none }) _
  jvm_step X.here [X.here.top, hx, hd, X.method', hret, narrow]
  first | (intro acts; rw [hr _ acts rfl rfl rfl]) | rw [hr _ _ rfl rfl rfl]
  exact Steps.refl _
theorem leafA (X : Stand p l e R s m args below meth c T locs cells slots) (hx : p.tables.exec = Jvm.exec) {v : Value} {t : FieldType} {Q : Option Value → Heap → List Loc → Prop} {C N : Nat} (hlk : meth.locks = false) (hret : meth.sig.returnType = some t) (ht : t.isReference = true) (hv : v.isRef = true) (hd : decode c.code pc = .ok (.areturn, 1)) (hc : cells ≤ C) (hn : slots ≤ N) (hQ : Q (some v) T.heap locs) : Go p e below (Gl s below Q C N) T m pc L (v :: S) := by
  obtain ⟨fs, hr, hrun, hended, hW, hsame⟩ := X.leave (v := some v) (fun h => by rw [hret] at h; cases h) hlk
  refine ⟨_, ?_, _, hrun, hended, _, _, rfl, hQ, ⟨_, rfl⟩, hW, hsame.mono hc hn⟩
  show Steps p.tables e below (T.setTop { method := m, pc := pc, locals := L, stack := v :: S, locked := none }) _
  jvm_step X.here [X.here.top, hx, hd, X.method', hret, hv, ht]
  first | (intro acts; rw [hr _ acts rfl rfl rfl]) | rw [hr _ _ rfl rfl rfl]
  exact Steps.refl _
theorem leafV (X : Stand p l e R s m args below meth c T locs cells slots) (hx : p.tables.exec = Jvm.exec) {Q : Option Value → Heap → List Loc → Prop} {C N : Nat} (hlk : meth.locks = false) (hret : meth.sig.returnType = none) (hd : decode c.code pc = .ok (.return_, 1)) (hc : cells ≤ C) (hn : slots ≤ N) (hQ : Q none T.heap locs) : Go p e below (Gl s below Q C N) T m pc L [] := by
  obtain ⟨fs, hr, hrun, hended, hW, hsame⟩ := X.leave (v := none) (fun _ => rfl) hlk
  exact ⟨_, X.returnOut hx hret hd hr, _, hrun, hended, _, _, rfl, hQ, ⟨_, rfl⟩, hW, hsame.mono hc hn⟩
/-- a call by a contract -/
theorem callC (X : Stand p l e R s m args below meth c T locs cells slots) (hx : p.tables.exec = Jvm.exec) (hZ : Z.Warmed39 s.vm) (hown : s.vm.findClass own = some m.cls) {index : Nat} {y : MethodName} {bytes : ByteArray} {maxL : Nat} {ret : Option FieldType} {rm : Room} {Q : Option Value → Heap → List Loc → Prop} {W : Nat} {argsL rest : List Value}
    (w1 : (Jvm.Cond.methodLink own index y).before a0 Z = true) (w2 : (Jvm.Cond.static y).before a0 Z = true) (w3 : (Jvm.Cond.initialized y.cls).before a0 Z = true) (w4 : (Jvm.Cond.code y bytes maxL ret).before a0 Z = true) (hy : y.cls ≠ "java/lang/invoke/MethodHandle" ∧ y.cls ≠ "java/lang/invoke/VarHandle")
    (K : Ctr l y bytes maxL ret [] rm Z argsL.toArray h Q rm.cells rm.slots) (eT : T.heap = h) (hf : rm.frames + 1 ≤ R.frames) (hl : W + (maxL + 11) + rm.locals ≤ R.locals) (hc : cells + rm.cells ≤ R.cells) (hn : slots + rm.slots ≤ R.slots) (hsize : L.size = c.maxLocals)
    {ps : List FieldType} {r : Option FieldType} (hlen : parseMethodDescriptor y.desc = some ⟨ps, r⟩) (hl2 : argsL.length = ps.length) (hS : S = argsL.reverse ++ rest) (hW : (rest.map fun v => v.category).sum ≤ W) (hd : decode c.code pc = .ok (.invokestatic index, 3)) (hq : pc + 3 = q)
    (k : ∀ (v : Option Value) (T' : State) (Lc : List Loc), Q v T'.heap Lc → Stand p l e R s m args below meth c T' (locs ++ Lc) (cells + rm.cells) (slots + rm.slots) → Go p e below G T' m q L (v.toList ++ rest)) : Go p e below G T m pc L S := by
  subst hq hS
  obtain ⟨v, _, ⟨T', L', k', n'⟩, -, X', ⟨Lc, hQ, l1, y1, z1⟩, st⟩ := Jvm.LawKit.callS X hx (y := y) hown (mvT hZ w1) (mvT hZ w2) (mvT hZ w3) (mvT hZ w4) hy (backOf (W := W) K hZ w4 w3 hf hl) (g := mkF m pc L (argsL.reverse ++ rest)) rfl hsize (argsL := argsL) (rest := rest) (lenOf hlen hl2) rfl (by show 2 * 0 + _ ≤ _; omega) hd (fun _ _ => ⟨rfl, eT, hc, hn⟩)
  dsimp only [Pt.U, Pt.locs, Pt.cells, Pt.slots] at X' l1 y1 z1 st hQ
  subst l1 y1 z1
  exact Go.st st (k v T' Lc hQ X')
/-- what a pure body leaves -/
def PQ (w : Value) (h0 : Heap) (v : Option Value) (h : Heap) (L : List Loc) : Prop := v = some w ∧ h = h0 ∧ L = []
theorem callP (X : Stand p l e R s m args below meth c T locs cells slots) (hx : p.tables.exec = Jvm.exec) (hZ : Z.Warmed39 s.vm) (hown : s.vm.findClass own = some m.cls) {index : Nat} {y : MethodName} {bytes : ByteArray} {maxL : Nat} {ret : Option FieldType} {rm : Room} {w : Value} {W : Nat} {argsL rest : List Value}
    (w1 : (Jvm.Cond.methodLink own index y).before a0 Z = true) (w2 : (Jvm.Cond.static y).before a0 Z = true) (w3 : (Jvm.Cond.initialized y.cls).before a0 Z = true) (w4 : (Jvm.Cond.code y bytes maxL ret).before a0 Z = true) (hy : y.cls ≠ "java/lang/invoke/MethodHandle" ∧ y.cls ≠ "java/lang/invoke/VarHandle")
    (K : Ctr l y bytes maxL ret [] rm Z argsL.toArray h (PQ w h) 0 0) (hrc : rm.cells = 0) (hrs : rm.slots = 0) (eT : T.heap = h) (hf : rm.frames + 1 ≤ R.frames) (hl : W + (maxL + 11) + rm.locals ≤ R.locals) (hc : cells ≤ R.cells) (hn : slots ≤ R.slots) (hsize : L.size = c.maxLocals)
    {ps : List FieldType} {r : Option FieldType} (hlen : parseMethodDescriptor y.desc = some ⟨ps, r⟩) (hl2 : argsL.length = ps.length) (hS : S = argsL.reverse ++ rest) (hW : (rest.map fun v => v.category).sum ≤ W) (hd : decode c.code pc = .ok (.invokestatic index, 3)) (hq : pc + 3 = q)
    (k : ∀ (T' : State), Stand p l e R s m args below meth c T' locs cells slots → T'.heap = h → Go p e below G T' m q L (w :: rest)) : Go p e below G T m pc L S := by
  refine callC X hx hZ hown w1 w2 w3 w4 hy (rm := rm) (Q := PQ w h) (by rw [hrc, hrs]; exact K) eT hf hl (by rw [hrc]; exact hc) (by rw [hrs]; exact hn) hsize hlen hl2 hS hW hd hq ?_
  rintro v T' Lc ⟨rfl, e', rfl⟩ X'
  rw [List.append_nil, hrc, hrs] at X'
  exact k T' X' e'
theorem callV (X : Stand p l e R s m args below meth c T locs cells slots) (hx : p.tables.exec = Jvm.exec) (hZ : Z.Warmed39 s.vm) (hown : s.vm.findClass own = some m.cls) {index : Nat} {y : MethodName} {bytes : ByteArray} {maxL : Nat} {ret : Option FieldType} {rm : Room} {Q : Option Value → Heap → List Loc → Prop} {W : Nat} {argsL rest : List Value}
    (w1 : (Jvm.Cond.methodLink own index y).before a0 Z = true) (w2 : (Jvm.Cond.declares y).before a0 Z = true) (w3 : (Jvm.Cond.selects y.cls y y).before a0 Z = true) (w5 : (Jvm.Cond.instanceMethod y).before a0 Z = true) (w6 : (Jvm.Cond.initialized y.cls).before a0 Z = true) (w4 : (Jvm.Cond.code y bytes maxL ret).before a0 Z = true) (hy : y.cls ≠ "java/lang/invoke/MethodHandle" ∧ y.cls ≠ "java/lang/invoke/VarHandle")
    (A : Exa Z h a y.cls) (K : Ctr l y bytes maxL ret [] rm Z (.ref a :: argsL).toArray h Q rm.cells rm.slots) (eT : T.heap = h) (hf : rm.frames + 1 ≤ R.frames) (hl : W + (maxL + 11) + rm.locals ≤ R.locals) (hc : cells + rm.cells ≤ R.cells) (hn : slots + rm.slots ≤ R.slots) (hsize : L.size = c.maxLocals)
    {ps : List FieldType} {r : Option FieldType} (hlen : parseMethodDescriptor y.desc = some ⟨ps, r⟩) (hl2 : argsL.length = ps.length) (hS : S = argsL.reverse ++ .ref a :: rest) (hW : (rest.map fun v => v.category).sum ≤ W) (hd : decode c.code pc = .ok (.invokevirtual index, 3)) (hq : pc + 3 = q)
    (k : ∀ (v : Option Value) (T' : State) (Lc : List Loc), Q v T'.heap Lc → Stand p l e R s m args below meth c T' (locs ++ Lc) (cells + rm.cells) (slots + rm.slots) → Go p e below G T' m q L (v.toList ++ rest)) : Go p e below G T m pc L S := by
  subst hq hS
  obtain ⟨cq, kq, qa, qb, qc⟩ := isOf hZ eT A
  obtain ⟨v, _, ⟨T', L', k', n'⟩, -, X', ⟨Lc, hQ, l1, y1, z1⟩, st⟩ := X.virtualBack hx (y := y) (z := y) hown (mvT hZ w1) (mvT hZ w2) (notFace_of_selects (args := #[]) (mvT hZ w3)) (mvT hZ w3) (mvT hZ w5) hy (backOf (W := W) K hZ w4 w6 hf hl) qa qc (g := mkF m pc L (argsL.reverse ++ .ref a :: rest)) rfl hsize (Steps.refl _) (argsL := argsL) (rest := rest) (lenOf hlen hl2) rfl (by show 2 * 0 + _ ≤ _; omega) hd (fun _ _ => ⟨rfl, eT, hc, hn⟩)
  dsimp only [Pt.U, Pt.locs, Pt.cells, Pt.slots] at X' l1 y1 z1 st hQ
  subst l1 y1 z1
  exact Go.st (fun t h => st.trans h) (k v T' Lc hQ X')
theorem callI (X : Stand p l e R s m args below meth c T locs cells slots) (hx : p.tables.exec = Jvm.exec) (hZ : Z.Warmed39 s.vm) (hown : s.vm.findClass own = some m.cls) {index : Nat} {y : MethodName} {bytes : ByteArray} {maxL : Nat} {rm : Room} {Q : Option Value → Heap → List Loc → Prop} {W : Nat} {argsL rest : List Value} (hyn : y.name = "<init>")
    (w1 : (Jvm.Cond.methodLink own index y).before a0 Z = true) (w5 : (Jvm.Cond.instanceMethod y).before a0 Z = true) (w6 : (Jvm.Cond.initialized y.cls).before a0 Z = true) (w4 : (Jvm.Cond.code y bytes maxL none).before a0 Z = true) (hy : y.cls ≠ "java/lang/invoke/MethodHandle" ∧ y.cls ≠ "java/lang/invoke/VarHandle")
    (K : Ctr l y bytes maxL none [] rm Z (.ref a :: argsL).toArray h Q rm.cells rm.slots) (eT : T.heap = h) (hf : rm.frames + 1 ≤ R.frames) (hl : W + (maxL + 11) + rm.locals ≤ R.locals) (hc : cells + rm.cells ≤ R.cells) (hn : slots + rm.slots ≤ R.slots) (hsize : L.size = c.maxLocals)
    {ps : List FieldType} {r : Option FieldType} (hlen : parseMethodDescriptor y.desc = some ⟨ps, r⟩) (hl2 : argsL.length = ps.length) (hS : S = argsL.reverse ++ .ref a :: rest) (hW : (rest.map fun v => v.category).sum ≤ W) (hd : decode c.code pc = .ok (.invokespecial index, 3)) (hq : pc + 3 = q)
    (k : ∀ (v : Option Value) (T' : State) (Lc : List Loc), Q v T'.heap Lc → Stand p l e R s m args below meth c T' (locs ++ Lc) (cells + rm.cells) (slots + rm.slots) → Go p e below G T' m q L (v.toList ++ rest)) : Go p e below G T m pc L S := by
  subst hq hS
  obtain ⟨v, _, ⟨T', L', k', n'⟩, -, X', ⟨Lc, hQ, l1, y1, z1⟩, st⟩ := X.specialBack hx (y := y) hyn hown (mvT hZ w1) (mvT hZ w5) (mvT hZ w4) hy (backOf (W := W) K hZ w4 w6 hf hl) (g := mkF m pc L (argsL.reverse ++ .ref a :: rest)) rfl hsize (Steps.refl _) (a := a) (argsL := argsL) (rest := rest) (lenOf hlen hl2) rfl (by show 2 * 0 + _ ≤ _; omega) hd (fun _ _ => ⟨rfl, eT, hc, hn⟩)
  dsimp only [Pt.U, Pt.locs, Pt.cells, Pt.slots] at X' l1 y1 z1 st hQ
  subst l1 y1 z1
  exact Go.st (fun t h => st.trans h) (k v T' Lc hQ X')
theorem s_initO (X : Stand p l e R s m args below meth c T locs cells slots) (hx : p.tables.exec = Jvm.exec) (hZ : Z.Warmed39 s.vm) (hown : s.vm.findClass own = some m.cls) {index : Nat} {W : Nat} (w1 : (Jvm.Cond.methodLink own index Lib.objectInit).before a0 Z = true) (w2 : (Jvm.Cond.instanceMethod Lib.objectInit).before a0 Z = true)
    (w3 : (Jvm.Cond.code Lib.objectInit ⟨#[0xb1]⟩ 1 none).before a0 Z = true) (eT : T.heap = h) (hsize : L.size = c.maxLocals) (hf : 1 ≤ R.frames) (hW : (S.map fun v => v.category).sum ≤ W) (hl : W + 12 ≤ R.locals) (hd : decode c.code pc = .ok (.invokespecial index, 3)) (hq : pc + 3 = q)
    (k : ∀ T', Stand p l e R s m args below meth c T' locs cells slots → T'.heap = h → Go p e below G T' m q L S) : Go p e below G T m pc L (.ref a :: S) := by
  subst hq
  obtain ⟨T', X', e', st⟩ := initO X hx hZ hown w1 w2 w3 eT (g := mkF m pc L (.ref a :: S)) rfl hsize rfl hd hf (W := W) (by show 2 * 0 + _ ≤ _; omega) hl
  exact Go.st st (k T' X' e')
theorem s_getF (X : Stand p l e R s m args below meth c T locs cells slots) (hx : p.tables.exec = Jvm.exec) (hZ : Z.Warmed39 s.vm) (hown : s.vm.findClass own = some m.cls) {index : Nat} (w : (Jvm.Cond.fieldLink own index O n d).before a0 Z = true) (eT : T.heap = h) (F : Fld Z h a O n d v) (hd : decode c.code pc = .ok (.getfield index, 3)) (hq : pc + 3 = q)
    (k : ∀ T', Stand p l e R s m args below meth c T' locs cells slots → T'.heap = h → Go p e below G T' m q L (v :: S)) : Go p e below G T m pc L (.ref a :: S) := by
  subst hq
  obtain ⟨T', X', e', st⟩ := getF X hx hZ hown (host := "") (Or.inl w) Via.refl eT F (g := mkF m pc L (.ref a :: S)) rfl rfl hd
  exact Go.st st (k T' X' e')
theorem s_putF (X : Stand p l e R s m args below meth c T locs cells slots) (hx : p.tables.exec = Jvm.exec) (hZ : Z.Warmed39 s.vm) (hown : s.vm.findClass own = some m.cls) {index kk : Nat} {ty : FieldType} {v old : Value} (w : (Jvm.Cond.fieldLink own index O n d).before a0 Z = true) (eT : T.heap = h) (F : Fld Z h a O n d old) (E : Exa Z h a C)
    (Ly : (Jvm.Cond.lays C O n d).before a0 Z = true ∨ ((Jvm.Cond.laysFinal C O n d).before a0 Z = true ∧ own = O ∧ meth.name = "<init>")) (wi : (Jvm.Cond.instantiable C kk).before a0 Z = true) (hty : parseFieldDescriptor d = some ty) (hn : narrow ty v = v) (hfit : fits ty v = true) (N : Fr n0 locs) (hg : n0 ≤ a) (hd : decode c.code pc = .ok (.putfield index, 3)) (hq : pc + 3 = q)
    (k : ∀ (T' : State) (h' : Heap) (locs' : List Loc), Stand p l e R s m args below meth c T' locs' cells slots → Fr n0 locs' → T'.heap = h' → Wr h h' a (Jvm.RoadKit.slotOf Z O n d) v → Fld Z h' a O n d v → Go p e below G T' m q L S) : Go p e below G T m pc L (v :: .ref a :: S) := by
  subst hq
  obtain ⟨T', h', X', e', W, st⟩ := putF X hx hZ hown (host := "") (Or.inl w) Via.refl eT F E Ly wi hty hn hfit (g := mkF m pc L (v :: .ref a :: S)) rfl rfl hd
  exact Go.st st (k T' h' _ X' (Fr.snoc X' N hg) e' W (F.same W))
theorem s_new (X : Stand p l e R s m args below meth c T locs cells slots) (hx : p.tables.exec = Jvm.exec) (hZ : Z.Warmed39 s.vm) (hown : s.vm.findClass own = some m.cls) {index kk : Nat} (w : (Jvm.Cond.classLink own index C).before a0 Z = true) (wi : (Jvm.Cond.instantiable C kk).before a0 Z = true) (wz : (Jvm.Cond.initialized C).before a0 Z = true) (eT : T.heap = h)
    (hc : cells + 1 ≤ R.cells) (hl : slots + kk ≤ R.slots) (hd : decode c.code pc = .ok (.new index, 3)) (hq : pc + 3 = q)
    (k : ∀ (T' : State) (h' : Heap) (a : Addr), Stand p l e R s m args below meth c T' locs (cells + 1) (slots + kk) → T'.heap = h' → Ext h h' → a = h.size → Exa Z h' a C → (∀ (O nm d : String) (ty : FieldType), Laid Z a0 C O nm d → parseFieldDescriptor d = some ty → Fld Z h' a O nm d (defaultValue ty)) → Go p e below G T' m q L (.ref a :: S)) : Go p e below G T m pc L S := by
  subst hq
  obtain ⟨T', h', X', e', E, A, D, -, st⟩ := newO X hx hZ hown w wi wz eT (g := mkF m pc L S) rfl hd hc hl
  exact Go.st st (k T' h' _ X' e' E rfl A (fun _ _ _ _ L1 q1 => D L1 q1))
/-- an array of ints (bytes, chars ..) by its list -/
def AI (Z : State) (h : Heap) (a : Addr) (ty : FieldType) (xs : List Int32) : Prop := ∃ cl : Cell, Arr Z h a cl ty ∧ cl.slots.toList = xs.map Value.int ∧ xs.length < 2147483648
def AJ (Z : State) (h : Heap) (a : Addr) (xs : List Int64) : Prop := ∃ cl : Cell, Arr Z h a cl .long ∧ cl.slots.toList = xs.map Value.long ∧ xs.length < 2147483648
variable {ty : FieldType} {xs ys : List Int32} {us vs : List Int64} {w : Value} {sl : Nat} {ws : List Addr}
theorem AI.lt (A : AI Z h a ty xs) : a < h.size := by obtain ⟨c, A, -⟩ := A; exact A.lt
theorem AJ.lt (A : AJ Z h a us) : a < h.size := by obtain ⟨c, A, -⟩ := A; exact A.lt
theorem AI.ext (A : AI Z h a ty xs) (E : Ext h h') : AI Z h' a ty xs := by obtain ⟨c, A, r⟩ := A; exact ⟨c, A.ext E, r⟩
theorem AJ.ext (A : AJ Z h a us) (E : Ext h h') : AJ Z h' a us := by obtain ⟨c, A, r⟩ := A; exact ⟨c, A.ext E, r⟩
theorem AI.other (A : AI Z h a ty xs) (W : Wr h h' b sl w) (q : a ≠ b) : AI Z h' a ty xs := by obtain ⟨c, A, r⟩ := A; exact ⟨c, A.other W q, r⟩
theorem AJ.other (A : AJ Z h a us) (W : Wr h h' b sl w) (q : a ≠ b) : AJ Z h' a us := by obtain ⟨c, A, r⟩ := A; exact ⟨c, A.other W q, r⟩
theorem AI.keep (A : AI Z h a ty xs) (K : Keep h h' ws) (q : a ∉ ws) : AI Z h' a ty xs := by obtain ⟨c, A, r⟩ := A; exact ⟨c, ⟨K.2.1 a c A.1 q, A.2⟩, r⟩
theorem AJ.keep (A : AJ Z h a us) (K : Keep h h' ws) (q : a ∉ ws) : AJ Z h' a us := by obtain ⟨c, A, r⟩ := A; exact ⟨c, ⟨K.2.1 a c A.1 q, A.2⟩, r⟩
theorem set_list (cl : Cell) (i : Nat) (v : Value) : (cl.setSlot i v).slots.toList = cl.slots.toList.set i v := by
  show (cl.slots.setIfInBounds i v).toList = _
  exact Array.toList_setIfInBounds ..
theorem AI.same (A : AI Z h a ty xs) {i : Nat} {x : Int32} (W : Wr h h' a i (.int x)) : AI Z h' a ty (xs.set i x) := by
  obtain ⟨c, A, e, n⟩ := A
  exact ⟨_, A.same W, by rw [set_list, e, List.map_set], by rw [List.length_set]; exact n⟩
theorem AJ.same (A : AJ Z h a us) {i : Nat} {x : Int64} (W : Wr h h' a i (.long x)) : AJ Z h' a (us.set i x) := by
  obtain ⟨c, A, e, n⟩ := A
  exact ⟨_, A.same W, by rw [set_list, e, List.map_set], by rw [List.length_set]; exact n⟩
theorem own_size {cl : Cell} {α : Type} {zs : List α} {f : α → Value} (e : cl.slots.toList = zs.map f) : cl.slots.size = zs.length := by
  rw [← Array.length_toList, e, List.length_map]
theorem own_at {cl : Cell} {α : Type} {zs : List α} {f : α → Value} (e : cl.slots.toList = zs.map f) {i : Nat} {x : α} (q : zs[i]? = some x) : cl.slots[i]? = some (f x) := by
  rw [← Array.getElem?_toList, e, List.getElem?_map, q]; rfl
theorem own_in {cl : Cell} {α : Type} {zs : List α} {f : α → Value} (e : cl.slots.toList = zs.map f) {j : Int32} (hj : ¬ j < 0) (q : j.toNatClampNeg < zs.length) : ¬ (j < 0 ∨ cl.slots.size ≤ j.toNatClampNeg) := by
  rw [own_size e]; intro h; rcases h with h | h
  · exact hj h
  · omega
theorem own_inl {α : Type} {zs : List α} {i : Nat} {x : α} (q : zs[i]? = some x) : i < zs.length := (List.getElem?_eq_some_iff.mp q).1
theorem s_iaload (X : Stand p l e R s m args below meth c T locs cells slots) (hx : p.tables.exec = Jvm.exec) (hZ : Z.Warmed39 s.vm) (eT : T.heap = h) {j : Int32} {x : Int32} (A : AI Z h a .int xs) (hj : ¬ j < 0) {i : Nat} (hji : j.toNatClampNeg = i) (hv : xs[i]? = some x) (hd : decode c.code pc = .ok (.iaload, 1)) (hq : pc + 1 = q) (K : Go p e below G T m q L (.int x :: S)) : Go p e below G T m pc L (.int j :: .ref a :: S) := by
  subst hq hji; obtain ⟨cl, Ar, ex, -⟩ := A
  exact Go.st (fun t k => X.iaload hx (j := j) (v := .int x) (by rw [eT]; exact Ar.1) (State.isArrayOf_alike hZ.alike Ar.2.1) Ar.2.2 (own_in ex hj (own_inl hv)) (own_at ex hv) (g := mkF m pc L (.int j :: .ref a :: S)) rfl rfl hd t k) K
theorem s_caload (X : Stand p l e R s m args below meth c T locs cells slots) (hx : p.tables.exec = Jvm.exec) (hZ : Z.Warmed39 s.vm) (eT : T.heap = h) {j : Int32} {x : Int32} (A : AI Z h a .char xs) (hj : ¬ j < 0) {i : Nat} (hji : j.toNatClampNeg = i) (hv : xs[i]? = some x) (hd : decode c.code pc = .ok (.caload, 1)) (hq : pc + 1 = q) (K : Go p e below G T m q L (.int x :: S)) : Go p e below G T m pc L (.int j :: .ref a :: S) := by
  subst hq hji; obtain ⟨cl, Ar, ex, -⟩ := A
  exact Go.st (fun t k => X.caload hx (j := j) (v := .int x) (by rw [eT]; exact Ar.1) (State.isArrayOf_alike hZ.alike Ar.2.1) Ar.2.2 (own_in ex hj (own_inl hv)) (own_at ex hv) (g := mkF m pc L (.int j :: .ref a :: S)) rfl rfl hd t k) K
theorem s_baload (X : Stand p l e R s m args below meth c T locs cells slots) (hx : p.tables.exec = Jvm.exec) (hZ : Z.Warmed39 s.vm) (eT : T.heap = h) {j : Int32} {x : Int32} (A : AI Z h a .byte xs) (hj : ¬ j < 0) {i : Nat} (hji : j.toNatClampNeg = i) (hv : xs[i]? = some x) (hd : decode c.code pc = .ok (.baload, 1)) (hq : pc + 1 = q) (K : Go p e below G T m q L (.int x :: S)) : Go p e below G T m pc L (.int j :: .ref a :: S) := by
  subst hq hji; obtain ⟨cl, Ar, ex, -⟩ := A
  exact Go.st (fun t k => X.baloadBytes hx (j := j) (v := .int x) (by rw [eT]; exact Ar.1) (State.isArrayOf_alike hZ.alike Ar.2.1) Ar.2.2 (own_in ex hj (own_inl hv)) (own_at ex hv) (g := mkF m pc L (.int j :: .ref a :: S)) rfl rfl hd t k) K
theorem s_laload (X : Stand p l e R s m args below meth c T locs cells slots) (hx : p.tables.exec = Jvm.exec) (hZ : Z.Warmed39 s.vm) (eT : T.heap = h) {j : Int32} {x : Int64} (A : AJ Z h a us) (hj : ¬ j < 0) {i : Nat} (hji : j.toNatClampNeg = i) (hv : us[i]? = some x) (hd : decode c.code pc = .ok (.laload, 1)) (hq : pc + 1 = q) (K : Go p e below G T m q L (.long x :: S)) : Go p e below G T m pc L (.int j :: .ref a :: S) := by
  subst hq hji; obtain ⟨cl, Ar, ex, -⟩ := A
  exact Go.st (fun t k => X.laload hx (j := j) (v := .long x) (by rw [eT]; exact Ar.1) (State.isArrayOf_alike hZ.alike Ar.2.1) Ar.2.2 (own_in ex hj (own_inl hv)) (own_at ex hv) (g := mkF m pc L (.int j :: .ref a :: S)) rfl rfl hd t k) K
theorem s_iastore (X : Stand p l e R s m args below meth c T locs cells slots) (hx : p.tables.exec = Jvm.exec) (hZ : Z.Warmed39 s.vm) (eT : T.heap = h) {j : Int32} {x : Int32} (A : AI Z h a .int xs) (N : Fr n0 locs) (hg : n0 ≤ a) (hj : ¬ j < 0) {i : Nat} (hji : j.toNatClampNeg = i) (hi : i < xs.length) (hs : xs.set i x = ys) (hd : decode c.code pc = .ok (.iastore, 1)) (hq : pc + 1 = q)
    (k : ∀ (T' : State) (h' : Heap) (locs' : List Loc), Stand p l e R s m args below meth c T' locs' cells slots → Fr n0 locs' → T'.heap = h' → Wr h h' a i (.int x) → AI Z h' a .int ys → Go p e below G T' m q L S) : Go p e below G T m pc L (.int x :: .int j :: .ref a :: S) := by
  subst hq hs hji; have A0 := A; obtain ⟨cl, Ar, ex, -⟩ := A
  obtain ⟨T', h', X', e', W, st⟩ := Jvm.RoadKit.stI X hx hZ eT Ar (j := j) (own_in ex hj hi) (g := mkF m pc L (.int x :: .int j :: .ref a :: S)) rfl rfl hd
  exact Go.st st (k T' h' _ X' (Fr.snoc X' N hg) e' W (A0.same W))
theorem s_castore (X : Stand p l e R s m args below meth c T locs cells slots) (hx : p.tables.exec = Jvm.exec) (hZ : Z.Warmed39 s.vm) (eT : T.heap = h) {j : Int32} {x : Int32} (A : AI Z h a .char xs) (N : Fr n0 locs) (hg : n0 ≤ a) (hj : ¬ j < 0) {i : Nat} (hji : j.toNatClampNeg = i) (hi : i < xs.length) (hs : xs.set i (nar .char x) = ys) (hd : decode c.code pc = .ok (.castore, 1)) (hq : pc + 1 = q)
    (k : ∀ (T' : State) (h' : Heap) (locs' : List Loc), Stand p l e R s m args below meth c T' locs' cells slots → Fr n0 locs' → T'.heap = h' → Wr h h' a i (.int (nar .char x)) → AI Z h' a .char ys → Go p e below G T' m q L S) : Go p e below G T m pc L (.int x :: .int j :: .ref a :: S) := by
  subst hq hs hji; have A0 := A; obtain ⟨cl, Ar, ex, -⟩ := A
  obtain ⟨T', h', X', e', W, st⟩ := stC X hx hZ eT Ar (j := j) (own_in ex hj hi) (g := mkF m pc L (.int x :: .int j :: .ref a :: S)) rfl rfl hd
  exact Go.st st (k T' h' _ X' (Fr.snoc X' N hg) e' W (A0.same W))
theorem s_bastore (X : Stand p l e R s m args below meth c T locs cells slots) (hx : p.tables.exec = Jvm.exec) (hZ : Z.Warmed39 s.vm) (eT : T.heap = h) {j : Int32} {x : Int32} (A : AI Z h a .byte xs) (N : Fr n0 locs) (hg : n0 ≤ a) (hj : ¬ j < 0) {i : Nat} (hji : j.toNatClampNeg = i) (hi : i < xs.length) (hs : xs.set i (nar .byte x) = ys) (hd : decode c.code pc = .ok (.bastore, 1)) (hq : pc + 1 = q)
    (k : ∀ (T' : State) (h' : Heap) (locs' : List Loc), Stand p l e R s m args below meth c T' locs' cells slots → Fr n0 locs' → T'.heap = h' → Wr h h' a i (.int (nar .byte x)) → AI Z h' a .byte ys → Go p e below G T' m q L S) : Go p e below G T m pc L (.int x :: .int j :: .ref a :: S) := by
  subst hq hs hji; have A0 := A; obtain ⟨cl, Ar, ex, -⟩ := A
  obtain ⟨T', h', X', e', W, st⟩ := stB X hx hZ eT Ar (j := j) (own_in ex hj hi) (g := mkF m pc L (.int x :: .int j :: .ref a :: S)) rfl rfl hd
  exact Go.st st (k T' h' _ X' (Fr.snoc X' N hg) e' W (A0.same W))
theorem s_lastore (X : Stand p l e R s m args below meth c T locs cells slots) (hx : p.tables.exec = Jvm.exec) (hZ : Z.Warmed39 s.vm) (eT : T.heap = h) {j : Int32} {x : Int64} (A : AJ Z h a us) (N : Fr n0 locs) (hg : n0 ≤ a) (hj : ¬ j < 0) {i : Nat} (hji : j.toNatClampNeg = i) (hi : i < us.length) (hs : us.set i x = vs) (hd : decode c.code pc = .ok (.lastore, 1)) (hq : pc + 1 = q)
    (k : ∀ (T' : State) (h' : Heap) (locs' : List Loc), Stand p l e R s m args below meth c T' locs' cells slots → Fr n0 locs' → T'.heap = h' → Wr h h' a i (.long x) → AJ Z h' a vs → Go p e below G T' m q L S) : Go p e below G T m pc L (.long x :: .int j :: .ref a :: S) := by
  subst hq hs hji; have A0 := A; obtain ⟨cl, Ar, ex, -⟩ := A
  obtain ⟨T', h', X', e', W, st⟩ := Jvm.RoadKit.stJ X hx hZ eT Ar (j := j) (own_in ex hj hi) (g := mkF m pc L (.long x :: .int j :: .ref a :: S)) rfl rfl hd
  exact Go.st st (k T' h' _ X' (Fr.snoc X' N hg) e' W (A0.same W))
theorem s_newI (X : Stand p l e R s m args below meth c T locs cells slots) (hx : p.tables.exec = Jvm.exec) (hZ : Z.Warmed39 s.vm) (w : (Jvm.Cond.arrayClass .int).before a0 Z = true) (eT : T.heap = h) {z : Int32} (hz : ¬ z < 0) {cap : Nat} (hcap : z.toNatClampNeg ≤ cap) (hb8 : cap * 8 ≤ 536870912) (hc : cells + 1 ≤ R.cells) (hl : slots + cap ≤ R.slots) (hs : List.replicate z.toNatClampNeg 0 = ys) (hd : decode c.code pc = .ok (.newarray .int, 2)) (hq : pc + 2 = q)
    (k : ∀ (T' : State) (h' : Heap) (a : Addr), Stand p l e R s m args below meth c T' locs (cells + 1) (slots + cap) → T'.heap = h' → Ext h h' → a = h.size → AI Z h' a .int ys → Go p e below G T' m q L (.ref a :: S)) : Go p e below G T m pc L (.int z :: S) := by
  subst hq hs
  obtain ⟨T', h', cA, X', e', E, A, st⟩ := newP X hx hZ (aty := .int) w eT (g := mkF m pc L (.int z :: S)) rfl hd rfl hz (cap := cap) hcap hb8 hc hl
  refine Go.st st (k T' h' _ X' e' E rfl ⟨_, A, ?_, ?_⟩)
  · simp [newA, defaultValue, newarray.typeOf]
  · rw [List.length_replicate]; have := z.toInt_lt; simp only [Int32.toNatClampNeg]; omega
theorem s_newC (X : Stand p l e R s m args below meth c T locs cells slots) (hx : p.tables.exec = Jvm.exec) (hZ : Z.Warmed39 s.vm) (w : (Jvm.Cond.arrayClass .char).before a0 Z = true) (eT : T.heap = h) {z : Int32} (hz : ¬ z < 0) {cap : Nat} (hcap : z.toNatClampNeg ≤ cap) (hb8 : cap * 8 ≤ 536870912) (hc : cells + 1 ≤ R.cells) (hl : slots + cap ≤ R.slots) (hs : List.replicate z.toNatClampNeg 0 = ys) (hd : decode c.code pc = .ok (.newarray .char, 2)) (hq : pc + 2 = q)
    (k : ∀ (T' : State) (h' : Heap) (a : Addr), Stand p l e R s m args below meth c T' locs (cells + 1) (slots + cap) → T'.heap = h' → Ext h h' → a = h.size → AI Z h' a .char ys → Go p e below G T' m q L (.ref a :: S)) : Go p e below G T m pc L (.int z :: S) := by
  subst hq hs
  obtain ⟨T', h', cA, X', e', E, A, st⟩ := newP X hx hZ (aty := .char) w eT (g := mkF m pc L (.int z :: S)) rfl hd rfl hz (cap := cap) hcap hb8 hc hl
  refine Go.st st (k T' h' _ X' e' E rfl ⟨_, A, ?_, ?_⟩)
  · simp [newA, defaultValue, newarray.typeOf]
  · rw [List.length_replicate]; have := z.toInt_lt; simp only [Int32.toNatClampNeg]; omega
theorem s_newB (X : Stand p l e R s m args below meth c T locs cells slots) (hx : p.tables.exec = Jvm.exec) (hZ : Z.Warmed39 s.vm) (w : (Jvm.Cond.arrayClass .byte).before a0 Z = true) (eT : T.heap = h) {z : Int32} (hz : ¬ z < 0) {cap : Nat} (hcap : z.toNatClampNeg ≤ cap) (hb8 : cap * 8 ≤ 536870912) (hc : cells + 1 ≤ R.cells) (hl : slots + cap ≤ R.slots) (hs : List.replicate z.toNatClampNeg 0 = ys) (hd : decode c.code pc = .ok (.newarray .byte, 2)) (hq : pc + 2 = q)
    (k : ∀ (T' : State) (h' : Heap) (a : Addr), Stand p l e R s m args below meth c T' locs (cells + 1) (slots + cap) → T'.heap = h' → Ext h h' → a = h.size → AI Z h' a .byte ys → Go p e below G T' m q L (.ref a :: S)) : Go p e below G T m pc L (.int z :: S) := by
  subst hq hs
  obtain ⟨T', h', cA, X', e', E, A, st⟩ := newP X hx hZ (aty := .byte) w eT (g := mkF m pc L (.int z :: S)) rfl hd rfl hz (cap := cap) hcap hb8 hc hl
  refine Go.st st (k T' h' _ X' e' E rfl ⟨_, A, ?_, ?_⟩)
  · simp [newA, defaultValue, newarray.typeOf]
  · rw [List.length_replicate]; have := z.toInt_lt; simp only [Int32.toNatClampNeg]; omega
theorem s_newJ (X : Stand p l e R s m args below meth c T locs cells slots) (hx : p.tables.exec = Jvm.exec) (hZ : Z.Warmed39 s.vm) (w : (Jvm.Cond.arrayClass .long).before a0 Z = true) (eT : T.heap = h) {z : Int32} (hz : ¬ z < 0) {cap : Nat} (hcap : z.toNatClampNeg ≤ cap) (hb8 : cap * 8 ≤ 536870912) (hc : cells + 1 ≤ R.cells) (hl : slots + cap ≤ R.slots) (hs : List.replicate z.toNatClampNeg 0 = vs) (hd : decode c.code pc = .ok (.newarray .long, 2)) (hq : pc + 2 = q)
    (k : ∀ (T' : State) (h' : Heap) (a : Addr), Stand p l e R s m args below meth c T' locs (cells + 1) (slots + cap) → T'.heap = h' → Ext h h' → a = h.size → AJ Z h' a vs → Go p e below G T' m q L (.ref a :: S)) : Go p e below G T m pc L (.int z :: S) := by
  subst hq hs
  obtain ⟨T', h', cA, X', e', E, A, st⟩ := newP X hx hZ (aty := .long) w eT (g := mkF m pc L (.int z :: S)) rfl hd rfl hz (cap := cap) hcap hb8 hc hl
  refine Go.st st (k T' h' _ X' e' E rfl ⟨_, A, ?_, ?_⟩)
  · simp [newA, defaultValue, newarray.typeOf]
  · rw [List.length_replicate]; have := z.toInt_lt; simp only [Int32.toNatClampNeg]; omega
theorem s_lenI (X : Stand p l e R s m args below meth c T locs cells slots) (hx : p.tables.exec = Jvm.exec) (hZ : Z.Warmed39 s.vm) (eT : T.heap = h) {z : Int32} (A : AI Z h a ty xs) (hz : xs.length.toInt32 = z) (hd : decode c.code pc = .ok (.arraylength, 1)) (hq : pc + 1 = q) (K : Go p e below G T m q L (.int z :: S)) : Go p e below G T m pc L (.ref a :: S) := by
  subst hq hz; obtain ⟨cl, Ar, ex, -⟩ := A
  rw [← own_size ex] at K
  exact Go.st (fun t k => X.arraylength hx (by rw [eT]; exact Ar.1) (State.isArrayOf_alike hZ.alike Ar.2.1) (g := mkF m pc L (.ref a :: S)) rfl rfl hd t k) K
theorem s_lenJ (X : Stand p l e R s m args below meth c T locs cells slots) (hx : p.tables.exec = Jvm.exec) (hZ : Z.Warmed39 s.vm) (eT : T.heap = h) {z : Int32} (A : AJ Z h a us) (hz : us.length.toInt32 = z) (hd : decode c.code pc = .ok (.arraylength, 1)) (hq : pc + 1 = q) (K : Go p e below G T m q L (.int z :: S)) : Go p e below G T m pc L (.ref a :: S) := by
  subst hq hz; obtain ⟨cl, Ar, ex, -⟩ := A
  rw [← own_size ex] at K
  exact Go.st (fun t k => X.arraylength hx (by rw [eT]; exact Ar.1) (State.isArrayOf_alike hZ.alike Ar.2.1) (g := mkF m pc L (.ref a :: S)) rfl rfl hd t k) K
theorem own_mask_nn (x m : Int32) (h0 : 0 ≤ m.toInt) : ¬ (x &&& m) < 0 := by
  have := c_and x m h0; rw [Int32.lt_iff_toInt_lt]; show ¬ (x &&& m).toInt < 0; omega
theorem own_mask_ix (x m : Int32) {N : Nat} (h0 : 0 ≤ m.toInt) (h : m.toInt < N) : (x &&& m).toNatClampNeg < N := by
  have := c_and x m h0; simp only [Int32.toNatClampNeg]; omega
theorem own_idx {k n : Int32} {N : Nat} (h0 : ¬ k < 0) (h : k < n) (hn : n.toInt = N) : k.toNatClampNeg < N := by
  have e0 : (0 : Int32).toInt = 0 := rfl
  simp only [Int32.lt_iff_toInt_lt, Int32.toNatClampNeg] at *; omega
theorem own_lt {x b : Int32} {k : Int} (hb : b.toInt = k) (h : x.toInt < k) : x < b := by rw [Int32.lt_iff_toInt_lt, hb]; exact h
theorem own_nlt {x b : Int32} {k : Int} (hb : b.toInt = k) (h : k ≤ x.toInt) : ¬ x < b := by rw [Int32.lt_iff_toInt_lt, hb]; omega
theorem own_gt {x b : Int32} {k : Int} (hb : b.toInt = k) (h : k < x.toInt) : b < x := by rw [Int32.lt_iff_toInt_lt, hb]; exact h
theorem own_ngt {x b : Int32} {k : Int} (hb : b.toInt = k) (h : x.toInt ≤ k) : ¬ b < x := by rw [Int32.lt_iff_toInt_lt, hb]; omega
theorem own_eqi {x b : Int32} {k : Int} (hb : b.toInt = k) (h : x.toInt = k) : x = b := Int32.toInt_inj.mp (h.trans hb.symm)
theorem own_nei {x b : Int32} {k : Int} (hb : b.toInt = k) (h : x.toInt ≠ k) : ¬ x = b := fun q => h (by rw [q, hb])
end Kit
theorem own_get (xs : List Int32) {i : Nat} (h : i < xs.length) : xs[i]? = some (xs.getD i 0) := by
  rw [List.getD_eq_getElem?_getD, List.getElem?_eq_getElem h]; rfl
def TM (xs : List Int32) (f l i : Int32) : Int32 := if i < l then (xs.getD (f + i).toNatClampNeg 0) * (([(1 : Int32), (31 : Int32), (961 : Int32), (29791 : Int32), (923521 : Int32), (28629151 : Int32), (887503681 : Int32), (1742810335 : Int32)] : List Int32).getD ((l - 1) - i).toNatClampNeg 0) else 0
def HF (xs : List Int32) : Nat → Nat → Int32 → Int32
  | _, 0, h => h
  | j, k + 1, h => HF xs (j + 1) k ((31 : Int32) * h + xs.getD j 0)
theorem own_add (f i : Int32) (h1 : 0 ≤ f.toInt) (h2 : 0 ≤ i.toInt) (h3 : f.toInt + i.toInt < 8) : ¬ (f + i) < 0 ∧ (f + i).toNatClampNeg < 8 ∧ (f + i).toInt = f.toInt + i.toInt := by
  have a := c_iadd f i; have b := rng32 (f + i); have e0 : (0 : Int32).toInt = 0 := by decide
  simp only [Int32.lt_iff_toInt_lt, Int32.toNatClampNeg]; omega
theorem own_sub (l i : Int32) (h1 : 0 ≤ i.toInt) (h2 : i.toInt < l.toInt) (h3 : l.toInt ≤ 8) : ¬ ((l - 1) - i) < 0 ∧ ((l - 1) - i).toNatClampNeg < 8 := by
  have a := c_isub l 1; have b := rng32 (l - 1); have a' := c_isub (l - 1) i; have b' := rng32 (l - 1 - i); have e0 : (0 : Int32).toInt = 0 := by decide
  have e1 : (1 : Int32).toInt = 1 := by decide
  simp only [Int32.lt_iff_toInt_lt, Int32.toNatClampNeg]; omega
theorem d1_0 : decode method_3_code 0 = .ok (.iload_n 3, 1) := by decide +kernel
theorem d1_1 : decode method_3_code 1 = .ok (.iload_n 2, 1) := by decide +kernel
theorem d1_2 : decode method_3_code 2 = .ok (.if_icmp .lt 5, 3) := by decide +kernel
theorem d1_5 : decode method_3_code 5 = .ok (.iconst 0, 1) := by decide +kernel
theorem d1_6 : decode method_3_code 6 = .ok (.ireturn, 1) := by decide +kernel
theorem d1_7 : decode method_3_code 7 = .ok (.aload_n 0, 1) := by decide +kernel
theorem d1_8 : decode method_3_code 8 = .ok (.iload_n 1, 1) := by decide +kernel
theorem d1_9 : decode method_3_code 9 = .ok (.iload_n 3, 1) := by decide +kernel
theorem d1_10 : decode method_3_code 10 = .ok (.iadd, 1) := by decide +kernel
theorem d1_11 : decode method_3_code 11 = .ok (.baload, 1) := by decide +kernel
theorem d1_12 : decode method_3_code 12 = .ok (.aload 4, 2) := by decide +kernel
theorem d1_14 : decode method_3_code 14 = .ok (.iload_n 2, 1) := by decide +kernel
theorem d1_15 : decode method_3_code 15 = .ok (.iconst 1, 1) := by decide +kernel
theorem d1_16 : decode method_3_code 16 = .ok (.isub, 1) := by decide +kernel
theorem d1_17 : decode method_3_code 17 = .ok (.iload_n 3, 1) := by decide +kernel
theorem d1_18 : decode method_3_code 18 = .ok (.isub, 1) := by decide +kernel
theorem d1_19 : decode method_3_code 19 = .ok (.iaload, 1) := by decide +kernel
theorem d1_20 : decode method_3_code 20 = .ok (.imul, 1) := by decide +kernel
theorem d1_21 : decode method_3_code 21 = .ok (.ireturn, 1) := by decide +kernel
theorem pn_1 : plainFor (⟨"com/example/mass_terms/massterms/check/XmlNamesHashPinLaw", "term", "([BIII[I)I"⟩ : MethodName) = true := plainFor_of_name (by first | (simp [plainName, overriddenIn]; done) | decide +kernel)
theorem ef_1 (m : MethodId) (x0 : Addr) (x1 : Int32) (x2 : Int32) (x3 : Int32) (x4 : Addr) : entryFrame m #[(.ref x0), (.int x1), (.int x2), (.int x3), (.ref x4)] 5 = mkF m 0 #[.val (.ref x0), .val (.int x1), .val (.int x2), .val (.int x3), .val (.ref x4)] [] := by first | (simp [entryFrame, mkF, argsToLocals, Value.category]; done) | rfl
set_option maxRecDepth 65536 in
set_option maxHeartbeats 40000000 in
theorem rm1 (l : Launch) (Z : State) (a0 : Array Value) (hw : ∀ d ∈ tables_1, d.before a0 Z = true) (ws : List Jvm.Cond) (x0 : Addr) (x1 : Int32) (x2 : Int32) (x3 : Int32) (x4 : Addr) (d0 d1 d2 d3 d4 d5 d6 d7 : Int32) (h0 : Heap) (A_x0 : AI Z h0 x0 .byte [d0, d1, d2, d3, d4, d5, d6, d7]) (A_x4 : AI Z h0 x4 .int [(1 : Int32), (31 : Int32), (961 : Int32), (29791 : Int32), (923521 : Int32), (28629151 : Int32), (887503681 : Int32), (1742810335 : Int32)]) (hb1 : 0 ≤ x1.toInt) (hb2 : 0 ≤ x2.toInt) (hb3 : x1.toInt + x2.toInt ≤ 8) (hb4 : 0 ≤ x3.toInt) :
    Ctr l (⟨"com/example/mass_terms/massterms/check/XmlNamesHashPinLaw", "term", "([BIII[I)I"⟩ : MethodName) method_3_code 5 (some .int) ws ({ frames := 0, cells := 0, slots := 0, locals := 0 } : Room) Z #[(.ref x0), (.int x1), (.int x2), (.int x3), (.ref x4)] h0 (PQ (.int (TM [d0, d1, d2, d3, d4, d5, d6, d7] x1 x2 x3)) h0) 0 0 := by
  refine Ctr.mk pn_1 ?_
  intro p e s m below meth c T hx hby hml hown hnm hlk hret hZ X eT
  refine enter (ef_1 m x0 x1 x2 x3 x4) ?_
  obtain ⟨res, hres⟩ : ∃ r, r = TM [d0, d1, d2, d3, d4, d5, d6, d7] x1 x2 x3 := ⟨_, rfl⟩
  rw [← hres]
  refine s_iloadN X hx (hb hby d1_0) rfl (q := 1) rfl ?_
  refine s_iloadN X hx (hb hby d1_1) rfl (q := 2) rfl ?_
  refine f_icmp_lt X hx (hb hby d1_2) (q1 := 7) (by decide) (by decide) (q := 5) rfl (fun hc2 => ?_) (fun hc2 => ?_)
  · refine s_aloadN X hx (hb hby d1_7) rfl rfl (q := 8) rfl ?_
    refine s_iloadN X hx (hb hby d1_8) rfl (q := 9) rfl ?_
    refine s_iloadN X hx (hb hby d1_9) rfl (q := 10) rfl ?_
    refine s_iadd X hx (hb hby d1_10) (q := 11) rfl ?_
    have hxi : x3.toInt < x2.toInt := by rw [Int32.lt_iff_toInt_lt] at hc2; exact hc2
    have hq1 := own_add x1 x3 hb1 hb4 (by omega)
    have hq2 := own_sub x2 x3 hb4 hxi (by omega)
    refine s_baload X hx hZ eT A_x0 hq1.1 (i := (x1 + x3).toNatClampNeg) rfl (x := ([d0, d1, d2, d3, d4, d5, d6, d7] : List Int32).getD (x1 + x3).toNatClampNeg 0) (own_get _ hq1.2.1) (hb hby d1_11) (q := 12) rfl ?_
    refine s_aload X hx (hb hby d1_12) rfl rfl (q := 14) rfl ?_
    refine s_iloadN X hx (hb hby d1_14) rfl (q := 15) rfl ?_
    refine s_iconst X hx (z := (1 : Int32)) (hb hby d1_15) rfl (q := 16) rfl ?_
    refine s_isub X hx (hb hby d1_16) (q := 17) rfl ?_
    refine s_iloadN X hx (hb hby d1_17) rfl (q := 18) rfl ?_
    refine s_isub X hx (hb hby d1_18) (q := 19) rfl ?_
    refine s_iaload X hx hZ eT A_x4 hq2.1 (i := ((x2 - 1) - x3).toNatClampNeg) rfl (x := ([(1 : Int32), (31 : Int32), (961 : Int32), (29791 : Int32), (923521 : Int32), (28629151 : Int32), (887503681 : Int32), (1742810335 : Int32)] : List Int32).getD ((x2 - 1) - x3).toNatClampNeg 0) (own_get _ hq2.2) (hb hby d1_19) (q := 20) rfl ?_
    refine s_imul X hx (hb hby d1_20) (q := 21) rfl ?_
    exact leafI X hx hlk hret (hb hby d1_21) (Nat.le_refl _) (Nat.le_refl _) ⟨congrArg (fun z => some (Value.int z)) (hres.trans (by unfold TM; rw [if_pos hc2])).symm, eT, rfl⟩
  refine s_iconst X hx (z := (0 : Int32)) (hb hby d1_5) rfl (q := 6) rfl ?_
  exact leafI X hx hlk hret (hb hby d1_6) (Nat.le_refl _) (Nat.le_refl _) ⟨congrArg (fun z => some (Value.int z)) (hres.trans (by unfold TM; rw [if_neg hc2])).symm, eT, rfl⟩
theorem own_sum (f l : Int32) (h1 : 0 ≤ f.toInt) (h2 : 0 ≤ l.toInt) (h3 : f.toInt + l.toInt ≤ 8) : (f + l).toInt = f.toInt + l.toInt := by
  have a := c_iadd f l; have b := rng32 (f + l); omega
theorem own_ix (i : Int32) (h1 : 0 ≤ i.toInt) (h2 : i.toInt < 8) : ¬ i < 0 ∧ i.toNatClampNeg = i.toInt.toNat ∧ i.toInt.toNat < 8 := by
  have e0 : (0 : Int32).toInt = 0 := by decide
  refine ⟨?_, rfl, by omega⟩
  rw [Int32.lt_iff_toInt_lt]; omega
theorem own_inc (i : Int32) (h1 : 0 ≤ i.toInt) (h2 : i.toInt < 8) : (i + (1 : Int32)).toInt = i.toInt + 1 ∧ (i + (1 : Int32)).toInt.toNat = i.toInt.toNat + 1 := by
  have a := c_iadd i 1; have b := rng32 (i + 1); have e1 : (1 : Int32).toInt = 1 := by decide
  have e : (i + (1 : Int32)).toInt = i.toInt + 1 := by omega
  exact ⟨e, by rw [e]; omega⟩
theorem d2_0 : decode prog_51_method_6_code 0 = .ok (.iconst 0, 1) := by decide +kernel
theorem d2_1 : decode prog_51_method_6_code 1 = .ok (.istore_n 3, 1) := by decide +kernel
theorem d2_2 : decode prog_51_method_6_code 2 = .ok (.iload_n 1, 1) := by decide +kernel
theorem d2_3 : decode prog_51_method_6_code 3 = .ok (.istore 4, 2) := by decide +kernel
theorem d2_5 : decode prog_51_method_6_code 5 = .ok (.iload 4, 2) := by decide +kernel
theorem d2_7 : decode prog_51_method_6_code 7 = .ok (.iload_n 1, 1) := by decide +kernel
theorem d2_8 : decode prog_51_method_6_code 8 = .ok (.iload_n 2, 1) := by decide +kernel
theorem d2_9 : decode prog_51_method_6_code 9 = .ok (.iadd, 1) := by decide +kernel
theorem d2_10 : decode prog_51_method_6_code 10 = .ok (.if_icmp .ge 19, 3) := by decide +kernel
theorem d2_13 : decode prog_51_method_6_code 13 = .ok (.bipush 31, 2) := by decide +kernel
theorem d2_15 : decode prog_51_method_6_code 15 = .ok (.iload_n 3, 1) := by decide +kernel
theorem d2_16 : decode prog_51_method_6_code 16 = .ok (.imul, 1) := by decide +kernel
theorem d2_17 : decode prog_51_method_6_code 17 = .ok (.aload_n 0, 1) := by decide +kernel
theorem d2_18 : decode prog_51_method_6_code 18 = .ok (.iload 4, 2) := by decide +kernel
theorem d2_20 : decode prog_51_method_6_code 20 = .ok (.baload, 1) := by decide +kernel
theorem d2_21 : decode prog_51_method_6_code 21 = .ok (.iadd, 1) := by decide +kernel
theorem d2_22 : decode prog_51_method_6_code 22 = .ok (.istore_n 3, 1) := by decide +kernel
theorem d2_23 : decode prog_51_method_6_code 23 = .ok (.iinc 4 1, 3) := by decide +kernel
theorem d2_26 : decode prog_51_method_6_code 26 = .ok (.goto (-21), 3) := by decide +kernel
theorem d2_29 : decode prog_51_method_6_code 29 = .ok (.iload_n 3, 1) := by decide +kernel
theorem d2_30 : decode prog_51_method_6_code 30 = .ok (.ireturn, 1) := by decide +kernel
theorem pn_2 : plainFor (⟨"com/example/mass_terms/massterms/check/XmlNames", "hash", "([BII)I"⟩ : MethodName) = true := plainFor_of_name (by first | (simp [plainName, overriddenIn]; done) | decide +kernel)
theorem ef_2 (m : MethodId) (x0 : Addr) (x1 : Int32) (x2 : Int32) : entryFrame m #[(.ref x0), (.int x1), (.int x2)] 5 = mkF m 0 #[.val (.ref x0), .val (.int x1), .val (.int x2), .unset, .unset] [] := by first | (simp [entryFrame, mkF, argsToLocals, Value.category]; done) | rfl
set_option maxRecDepth 65536 in
set_option maxHeartbeats 40000000 in
theorem rm2 (l : Launch) (Z : State) (a0 : Array Value) (hw : ∀ d ∈ tables_1, d.before a0 Z = true) (ws : List Jvm.Cond) (x0 : Addr) (x1 : Int32) (x2 : Int32) (d0 d1 d2 d3 d4 d5 d6 d7 : Int32) (h0 : Heap) (A_x0 : AI Z h0 x0 .byte [d0, d1, d2, d3, d4, d5, d6, d7]) (hb1 : 0 ≤ x1.toInt) (hb2 : 0 ≤ x2.toInt) (hb3 : x1.toInt + x2.toInt ≤ 8) :
    Ctr l (⟨"com/example/mass_terms/massterms/check/XmlNames", "hash", "([BII)I"⟩ : MethodName) prog_51_method_6_code 5 (some .int) ws ({ frames := 0, cells := 0, slots := 0, locals := 0 } : Room) Z #[(.ref x0), (.int x1), (.int x2)] h0 (PQ (.int (HF [d0, d1, d2, d3, d4, d5, d6, d7] x1.toInt.toNat x2.toInt.toNat 0)) h0) 0 0 := by
  refine Ctr.mk pn_2 ?_
  intro p e s m below meth c T hx hby hml hown hnm hlk hret hZ X eT
  refine enter (ef_2 m x0 x1 x2) ?_
  obtain ⟨res, hres⟩ : ∃ r, r = HF [d0, d1, d2, d3, d4, d5, d6, d7] x1.toInt.toNat x2.toInt.toNat 0 := ⟨_, rfl⟩
  rw [← hres]
  refine s_iconst X hx (z := (0 : Int32)) (hb hby d2_0) rfl (q := 1) rfl ?_
  refine s_istoreN X hx (hb hby d2_1) (L' := #[.val (.ref x0), .val (.int x1), .val (.int x2), .val (.int (0 : Int32)), .unset]) rfl (q := 2) rfl ?_
  refine s_iloadN X hx (hb hby d2_2) rfl (q := 3) rfl ?_
  refine s_istore X hx (hb hby d2_3) (L' := #[.val (.ref x0), .val (.int x1), .val (.int x2), .val (.int (0 : Int32)), .val (.int x1)]) rfl (q := 5) rfl ?_
  have lp : ∀ (k : Nat) (ii hh : Int32), ii.toInt + k = x1.toInt + x2.toInt → 0 ≤ ii.toInt → res = HF [d0, d1, d2, d3, d4, d5, d6, d7] ii.toInt.toNat k hh → Go p e below (Gl s below (PQ (.int res) h0) 0 0) T m 5 #[.val (.ref x0), .val (.int x1), .val (.int x2), .val (.int hh), .val (.int ii)] [] := by
    intro k
    induction k with
    | zero =>
      intro ii hh h1 h2 hres
      have h12 := own_sum x1 x2 hb1 hb2 hb3
      refine s_iload X hx (hb hby d2_5) rfl (q := 7) rfl ?_
      refine s_iloadN X hx (hb hby d2_7) rfl (q := 8) rfl ?_
      refine s_iloadN X hx (hb hby d2_8) rfl (q := 9) rfl ?_
      refine s_iadd X hx (hb hby d2_9) (q := 10) rfl ?_
      refine f_icmp_ge X hx (hb hby d2_10) (q1 := 29) (by decide) (by decide) (q := 13) rfl (fun _ => ?_) (fun hq => absurd hq (by rw [Int32.lt_iff_toInt_lt]; omega : ¬ ii < (x1 + x2)))
      refine s_iloadN X hx (hb hby d2_29) rfl (q := 30) rfl ?_
      exact leafI X hx hlk hret (hb hby d2_30) (Nat.le_refl _) (Nat.le_refl _) ⟨congrArg (fun z => some (Value.int z)) (hres.trans (rfl)).symm, eT, rfl⟩
    | succ k ih =>
      intro ii hh h1 h2 hres
      have h12 := own_sum x1 x2 hb1 hb2 hb3
      have h13 := own_ix ii h2 (by omega : ii.toInt < 8)
      have h14 := own_inc ii h2 (by omega : ii.toInt < 8)
      refine s_iload X hx (hb hby d2_5) rfl (q := 7) rfl ?_
      refine s_iloadN X hx (hb hby d2_7) rfl (q := 8) rfl ?_
      refine s_iloadN X hx (hb hby d2_8) rfl (q := 9) rfl ?_
      refine s_iadd X hx (hb hby d2_9) (q := 10) rfl ?_
      refine f_icmp_ge X hx (hb hby d2_10) (q1 := 29) (by decide) (by decide) (q := 13) rfl (fun hq => absurd (by rw [Int32.lt_iff_toInt_lt]; omega : ii < (x1 + x2)) hq) (fun _ => ?_)
      refine s_bipush X hx (z := (31 : Int32)) (hb hby d2_13) rfl (q := 15) rfl ?_
      refine s_iloadN X hx (hb hby d2_15) rfl (q := 16) rfl ?_
      refine s_imul X hx (hb hby d2_16) (q := 17) rfl ?_
      refine s_aloadN X hx (hb hby d2_17) rfl rfl (q := 18) rfl ?_
      refine s_iload X hx (hb hby d2_18) rfl (q := 20) rfl ?_
      refine s_baload X hx hZ eT A_x0 h13.1 (i := ii.toInt.toNat) h13.2.1 (x := ([d0, d1, d2, d3, d4, d5, d6, d7] : List Int32).getD ii.toInt.toNat 0) (own_get _ h13.2.2) (hb hby d2_20) (q := 21) rfl ?_
      refine s_iadd X hx (hb hby d2_21) (q := 22) rfl ?_
      refine s_istoreN X hx (hb hby d2_22) (L' := #[.val (.ref x0), .val (.int x1), .val (.int x2), .val (.int (((31 : Int32) * hh) + (([d0, d1, d2, d3, d4, d5, d6, d7] : List Int32).getD ii.toInt.toNat 0))), .val (.int ii)]) rfl (q := 23) rfl ?_
      refine s_iinc X hx (w := (ii + (1 : Int32))) (hb hby d2_23) rfl rfl (L' := #[.val (.ref x0), .val (.int x1), .val (.int x2), .val (.int (((31 : Int32) * hh) + (([d0, d1, d2, d3, d4, d5, d6, d7] : List Int32).getD ii.toInt.toNat 0))), .val (.int (ii + (1 : Int32)))]) rfl (q := 26) rfl ?_
      refine s_goto X hx (hb hby d2_26) (q1 := 5) (by decide) (by decide) ?_
      exact ih (ii + (1 : Int32)) (((31 : Int32) * hh) + (([d0, d1, d2, d3, d4, d5, d6, d7] : List Int32).getD ii.toInt.toNat 0)) (by omega) (by omega) (hres.trans (by rw [h14.2]; rfl))
  exact lp x2.toInt.toNat x1 (0 : Int32) (by omega) hb1 hres
theorem own_lit {x : Int32} {k : Int} (b : Int32) (hb : b.toInt = k) (h : x.toInt = k) : x = b := Int32.toInt_inj.mp (h.trans hb.symm)
theorem own_fl (x2 f l : Int32) (hf : (x2 &&& (7 : Int32)) = f) (hl : (((x2.toUInt32 >>> ((3 : Int32) &&& 31).toUInt32).toInt32) % ((9 : Int32) - f)) = l) : 0 ≤ f.toInt ∧ 0 ≤ l.toInt ∧ f.toInt + l.toInt ≤ 8 := by
  have a := c_and x2 7 (by decide)
  rw [hf] at a
  have e7 : (7 : Int32).toInt = 7 := by decide
  have e9 : (9 : Int32).toInt = 9 := by decide
  have b := c_isub 9 f; have b' := rng32 (9 - f)
  have u := c_iushr x2 3 3 (by decide) (by decide)
  have ux := rng32 x2
  have r := (c_iremV ((x2.toUInt32 >>> ((3 : Int32) &&& 31).toUInt32).toInt32) (9 - f)).1 (by omega) (by omega)
  rw [hl] at r
  omega
theorem own_nz (x2 f : Int32) (hf : (x2 &&& (7 : Int32)) = f) : ((9 : Int32) - f) ≠ 0 := by
  have a := c_and x2 7 (by decide)
  rw [hf] at a
  have e7 : (7 : Int32).toInt = 7 := by decide
  have e9 : (9 : Int32).toInt = 9 := by decide
  have b := c_isub 9 f; have b' := rng32 (9 - f)
  intro q
  have q' : ((9 : Int32) - f).toInt = 0 := by rw [q]; decide
  omega
set_option maxHeartbeats 4000000 in
theorem own_m0 (d0 d1 d2 d3 d4 d5 d6 d7 : Int32) (l : Int32) (h2 : 0 ≤ l.toInt) (h3 : l.toInt ≤ 8) : HF [d0, d1, d2, d3, d4, d5, d6, d7] (0 : Int32).toInt.toNat l.toInt.toNat 0 = TM [d0, d1, d2, d3, d4, d5, d6, d7] 0 l 0 + TM [d0, d1, d2, d3, d4, d5, d6, d7] 0 l 1 + TM [d0, d1, d2, d3, d4, d5, d6, d7] 0 l 2 + TM [d0, d1, d2, d3, d4, d5, d6, d7] 0 l 3 + TM [d0, d1, d2, d3, d4, d5, d6, d7] 0 l 4 + TM [d0, d1, d2, d3, d4, d5, d6, d7] 0 l 5 + TM [d0, d1, d2, d3, d4, d5, d6, d7] 0 l 6 + TM [d0, d1, d2, d3, d4, d5, d6, d7] 0 l 7 := by
  have hc : l.toInt = 0 ∨ l.toInt = 1 ∨ l.toInt = 2 ∨ l.toInt = 3 ∨ l.toInt = 4 ∨ l.toInt = 5 ∨ l.toInt = 6 ∨ l.toInt = 7 ∨ l.toInt = 8 := by omega
  rcases hc with h | h | h | h | h | h | h | h | h
  · obtain rfl := own_lit (0 : Int32) (by decide) h
    have z1 : HF [d0, d1, d2, d3, d4, d5, d6, d7] (0 : Int32).toInt.toNat (0 : Int32).toInt.toNat 0 = 0 := rfl
    have t0 : TM [d0, d1, d2, d3, d4, d5, d6, d7] 0 0 0 = 0 := rfl
    have t1 : TM [d0, d1, d2, d3, d4, d5, d6, d7] 0 0 1 = 0 := rfl
    have t2 : TM [d0, d1, d2, d3, d4, d5, d6, d7] 0 0 2 = 0 := rfl
    have t3 : TM [d0, d1, d2, d3, d4, d5, d6, d7] 0 0 3 = 0 := rfl
    have t4 : TM [d0, d1, d2, d3, d4, d5, d6, d7] 0 0 4 = 0 := rfl
    have t5 : TM [d0, d1, d2, d3, d4, d5, d6, d7] 0 0 5 = 0 := rfl
    have t6 : TM [d0, d1, d2, d3, d4, d5, d6, d7] 0 0 6 = 0 := rfl
    have t7 : TM [d0, d1, d2, d3, d4, d5, d6, d7] 0 0 7 = 0 := rfl
    rw [z1, t0, t1, t2, t3, t4, t5, t6, t7]; grind
  · obtain rfl := own_lit (1 : Int32) (by decide) h
    have z1 : HF [d0, d1, d2, d3, d4, d5, d6, d7] (0 : Int32).toInt.toNat (1 : Int32).toInt.toNat 0 = ((31 : Int32) * 0 + d0) := rfl
    have t0 : TM [d0, d1, d2, d3, d4, d5, d6, d7] 0 1 0 = d0 * (1 : Int32) := rfl
    have t1 : TM [d0, d1, d2, d3, d4, d5, d6, d7] 0 1 1 = 0 := rfl
    have t2 : TM [d0, d1, d2, d3, d4, d5, d6, d7] 0 1 2 = 0 := rfl
    have t3 : TM [d0, d1, d2, d3, d4, d5, d6, d7] 0 1 3 = 0 := rfl
    have t4 : TM [d0, d1, d2, d3, d4, d5, d6, d7] 0 1 4 = 0 := rfl
    have t5 : TM [d0, d1, d2, d3, d4, d5, d6, d7] 0 1 5 = 0 := rfl
    have t6 : TM [d0, d1, d2, d3, d4, d5, d6, d7] 0 1 6 = 0 := rfl
    have t7 : TM [d0, d1, d2, d3, d4, d5, d6, d7] 0 1 7 = 0 := rfl
    rw [z1, t0, t1, t2, t3, t4, t5, t6, t7]; grind
  · obtain rfl := own_lit (2 : Int32) (by decide) h
    have z1 : HF [d0, d1, d2, d3, d4, d5, d6, d7] (0 : Int32).toInt.toNat (2 : Int32).toInt.toNat 0 = ((31 : Int32) * ((31 : Int32) * 0 + d0) + d1) := rfl
    have t0 : TM [d0, d1, d2, d3, d4, d5, d6, d7] 0 2 0 = d0 * (31 : Int32) := rfl
    have t1 : TM [d0, d1, d2, d3, d4, d5, d6, d7] 0 2 1 = d1 * (1 : Int32) := rfl
    have t2 : TM [d0, d1, d2, d3, d4, d5, d6, d7] 0 2 2 = 0 := rfl
    have t3 : TM [d0, d1, d2, d3, d4, d5, d6, d7] 0 2 3 = 0 := rfl
    have t4 : TM [d0, d1, d2, d3, d4, d5, d6, d7] 0 2 4 = 0 := rfl
    have t5 : TM [d0, d1, d2, d3, d4, d5, d6, d7] 0 2 5 = 0 := rfl
    have t6 : TM [d0, d1, d2, d3, d4, d5, d6, d7] 0 2 6 = 0 := rfl
    have t7 : TM [d0, d1, d2, d3, d4, d5, d6, d7] 0 2 7 = 0 := rfl
    rw [z1, t0, t1, t2, t3, t4, t5, t6, t7]; grind
  · obtain rfl := own_lit (3 : Int32) (by decide) h
    have z1 : HF [d0, d1, d2, d3, d4, d5, d6, d7] (0 : Int32).toInt.toNat (3 : Int32).toInt.toNat 0 = ((31 : Int32) * ((31 : Int32) * ((31 : Int32) * 0 + d0) + d1) + d2) := rfl
    have t0 : TM [d0, d1, d2, d3, d4, d5, d6, d7] 0 3 0 = d0 * (961 : Int32) := rfl
    have t1 : TM [d0, d1, d2, d3, d4, d5, d6, d7] 0 3 1 = d1 * (31 : Int32) := rfl
    have t2 : TM [d0, d1, d2, d3, d4, d5, d6, d7] 0 3 2 = d2 * (1 : Int32) := rfl
    have t3 : TM [d0, d1, d2, d3, d4, d5, d6, d7] 0 3 3 = 0 := rfl
    have t4 : TM [d0, d1, d2, d3, d4, d5, d6, d7] 0 3 4 = 0 := rfl
    have t5 : TM [d0, d1, d2, d3, d4, d5, d6, d7] 0 3 5 = 0 := rfl
    have t6 : TM [d0, d1, d2, d3, d4, d5, d6, d7] 0 3 6 = 0 := rfl
    have t7 : TM [d0, d1, d2, d3, d4, d5, d6, d7] 0 3 7 = 0 := rfl
    rw [z1, t0, t1, t2, t3, t4, t5, t6, t7]; grind
  · obtain rfl := own_lit (4 : Int32) (by decide) h
    have z1 : HF [d0, d1, d2, d3, d4, d5, d6, d7] (0 : Int32).toInt.toNat (4 : Int32).toInt.toNat 0 = ((31 : Int32) * ((31 : Int32) * ((31 : Int32) * ((31 : Int32) * 0 + d0) + d1) + d2) + d3) := rfl
    have t0 : TM [d0, d1, d2, d3, d4, d5, d6, d7] 0 4 0 = d0 * (29791 : Int32) := rfl
    have t1 : TM [d0, d1, d2, d3, d4, d5, d6, d7] 0 4 1 = d1 * (961 : Int32) := rfl
    have t2 : TM [d0, d1, d2, d3, d4, d5, d6, d7] 0 4 2 = d2 * (31 : Int32) := rfl
    have t3 : TM [d0, d1, d2, d3, d4, d5, d6, d7] 0 4 3 = d3 * (1 : Int32) := rfl
    have t4 : TM [d0, d1, d2, d3, d4, d5, d6, d7] 0 4 4 = 0 := rfl
    have t5 : TM [d0, d1, d2, d3, d4, d5, d6, d7] 0 4 5 = 0 := rfl
    have t6 : TM [d0, d1, d2, d3, d4, d5, d6, d7] 0 4 6 = 0 := rfl
    have t7 : TM [d0, d1, d2, d3, d4, d5, d6, d7] 0 4 7 = 0 := rfl
    rw [z1, t0, t1, t2, t3, t4, t5, t6, t7]; grind
  · obtain rfl := own_lit (5 : Int32) (by decide) h
    have z1 : HF [d0, d1, d2, d3, d4, d5, d6, d7] (0 : Int32).toInt.toNat (5 : Int32).toInt.toNat 0 = ((31 : Int32) * ((31 : Int32) * ((31 : Int32) * ((31 : Int32) * ((31 : Int32) * 0 + d0) + d1) + d2) + d3) + d4) := rfl
    have t0 : TM [d0, d1, d2, d3, d4, d5, d6, d7] 0 5 0 = d0 * (923521 : Int32) := rfl
    have t1 : TM [d0, d1, d2, d3, d4, d5, d6, d7] 0 5 1 = d1 * (29791 : Int32) := rfl
    have t2 : TM [d0, d1, d2, d3, d4, d5, d6, d7] 0 5 2 = d2 * (961 : Int32) := rfl
    have t3 : TM [d0, d1, d2, d3, d4, d5, d6, d7] 0 5 3 = d3 * (31 : Int32) := rfl
    have t4 : TM [d0, d1, d2, d3, d4, d5, d6, d7] 0 5 4 = d4 * (1 : Int32) := rfl
    have t5 : TM [d0, d1, d2, d3, d4, d5, d6, d7] 0 5 5 = 0 := rfl
    have t6 : TM [d0, d1, d2, d3, d4, d5, d6, d7] 0 5 6 = 0 := rfl
    have t7 : TM [d0, d1, d2, d3, d4, d5, d6, d7] 0 5 7 = 0 := rfl
    rw [z1, t0, t1, t2, t3, t4, t5, t6, t7]; grind
  · obtain rfl := own_lit (6 : Int32) (by decide) h
    have z1 : HF [d0, d1, d2, d3, d4, d5, d6, d7] (0 : Int32).toInt.toNat (6 : Int32).toInt.toNat 0 = ((31 : Int32) * ((31 : Int32) * ((31 : Int32) * ((31 : Int32) * ((31 : Int32) * ((31 : Int32) * 0 + d0) + d1) + d2) + d3) + d4) + d5) := rfl
    have t0 : TM [d0, d1, d2, d3, d4, d5, d6, d7] 0 6 0 = d0 * (28629151 : Int32) := rfl
    have t1 : TM [d0, d1, d2, d3, d4, d5, d6, d7] 0 6 1 = d1 * (923521 : Int32) := rfl
    have t2 : TM [d0, d1, d2, d3, d4, d5, d6, d7] 0 6 2 = d2 * (29791 : Int32) := rfl
    have t3 : TM [d0, d1, d2, d3, d4, d5, d6, d7] 0 6 3 = d3 * (961 : Int32) := rfl
    have t4 : TM [d0, d1, d2, d3, d4, d5, d6, d7] 0 6 4 = d4 * (31 : Int32) := rfl
    have t5 : TM [d0, d1, d2, d3, d4, d5, d6, d7] 0 6 5 = d5 * (1 : Int32) := rfl
    have t6 : TM [d0, d1, d2, d3, d4, d5, d6, d7] 0 6 6 = 0 := rfl
    have t7 : TM [d0, d1, d2, d3, d4, d5, d6, d7] 0 6 7 = 0 := rfl
    rw [z1, t0, t1, t2, t3, t4, t5, t6, t7]; grind
  · obtain rfl := own_lit (7 : Int32) (by decide) h
    have z1 : HF [d0, d1, d2, d3, d4, d5, d6, d7] (0 : Int32).toInt.toNat (7 : Int32).toInt.toNat 0 = ((31 : Int32) * ((31 : Int32) * ((31 : Int32) * ((31 : Int32) * ((31 : Int32) * ((31 : Int32) * ((31 : Int32) * 0 + d0) + d1) + d2) + d3) + d4) + d5) + d6) := rfl
    have t0 : TM [d0, d1, d2, d3, d4, d5, d6, d7] 0 7 0 = d0 * (887503681 : Int32) := rfl
    have t1 : TM [d0, d1, d2, d3, d4, d5, d6, d7] 0 7 1 = d1 * (28629151 : Int32) := rfl
    have t2 : TM [d0, d1, d2, d3, d4, d5, d6, d7] 0 7 2 = d2 * (923521 : Int32) := rfl
    have t3 : TM [d0, d1, d2, d3, d4, d5, d6, d7] 0 7 3 = d3 * (29791 : Int32) := rfl
    have t4 : TM [d0, d1, d2, d3, d4, d5, d6, d7] 0 7 4 = d4 * (961 : Int32) := rfl
    have t5 : TM [d0, d1, d2, d3, d4, d5, d6, d7] 0 7 5 = d5 * (31 : Int32) := rfl
    have t6 : TM [d0, d1, d2, d3, d4, d5, d6, d7] 0 7 6 = d6 * (1 : Int32) := rfl
    have t7 : TM [d0, d1, d2, d3, d4, d5, d6, d7] 0 7 7 = 0 := rfl
    rw [z1, t0, t1, t2, t3, t4, t5, t6, t7]; grind
  · obtain rfl := own_lit (8 : Int32) (by decide) h
    have z1 : HF [d0, d1, d2, d3, d4, d5, d6, d7] (0 : Int32).toInt.toNat (8 : Int32).toInt.toNat 0 = ((31 : Int32) * ((31 : Int32) * ((31 : Int32) * ((31 : Int32) * ((31 : Int32) * ((31 : Int32) * ((31 : Int32) * ((31 : Int32) * 0 + d0) + d1) + d2) + d3) + d4) + d5) + d6) + d7) := rfl
    have t0 : TM [d0, d1, d2, d3, d4, d5, d6, d7] 0 8 0 = d0 * (1742810335 : Int32) := rfl
    have t1 : TM [d0, d1, d2, d3, d4, d5, d6, d7] 0 8 1 = d1 * (887503681 : Int32) := rfl
    have t2 : TM [d0, d1, d2, d3, d4, d5, d6, d7] 0 8 2 = d2 * (28629151 : Int32) := rfl
    have t3 : TM [d0, d1, d2, d3, d4, d5, d6, d7] 0 8 3 = d3 * (923521 : Int32) := rfl
    have t4 : TM [d0, d1, d2, d3, d4, d5, d6, d7] 0 8 4 = d4 * (29791 : Int32) := rfl
    have t5 : TM [d0, d1, d2, d3, d4, d5, d6, d7] 0 8 5 = d5 * (961 : Int32) := rfl
    have t6 : TM [d0, d1, d2, d3, d4, d5, d6, d7] 0 8 6 = d6 * (31 : Int32) := rfl
    have t7 : TM [d0, d1, d2, d3, d4, d5, d6, d7] 0 8 7 = d7 * (1 : Int32) := rfl
    rw [z1, t0, t1, t2, t3, t4, t5, t6, t7]; grind
set_option maxHeartbeats 4000000 in
theorem own_m1 (d0 d1 d2 d3 d4 d5 d6 d7 : Int32) (l : Int32) (h2 : 0 ≤ l.toInt) (h3 : l.toInt ≤ 7) : HF [d0, d1, d2, d3, d4, d5, d6, d7] (1 : Int32).toInt.toNat l.toInt.toNat 0 = TM [d0, d1, d2, d3, d4, d5, d6, d7] 1 l 0 + TM [d0, d1, d2, d3, d4, d5, d6, d7] 1 l 1 + TM [d0, d1, d2, d3, d4, d5, d6, d7] 1 l 2 + TM [d0, d1, d2, d3, d4, d5, d6, d7] 1 l 3 + TM [d0, d1, d2, d3, d4, d5, d6, d7] 1 l 4 + TM [d0, d1, d2, d3, d4, d5, d6, d7] 1 l 5 + TM [d0, d1, d2, d3, d4, d5, d6, d7] 1 l 6 + TM [d0, d1, d2, d3, d4, d5, d6, d7] 1 l 7 := by
  have hc : l.toInt = 0 ∨ l.toInt = 1 ∨ l.toInt = 2 ∨ l.toInt = 3 ∨ l.toInt = 4 ∨ l.toInt = 5 ∨ l.toInt = 6 ∨ l.toInt = 7 := by omega
  rcases hc with h | h | h | h | h | h | h | h
  · obtain rfl := own_lit (0 : Int32) (by decide) h
    have z1 : HF [d0, d1, d2, d3, d4, d5, d6, d7] (1 : Int32).toInt.toNat (0 : Int32).toInt.toNat 0 = 0 := rfl
    have t0 : TM [d0, d1, d2, d3, d4, d5, d6, d7] 1 0 0 = 0 := rfl
    have t1 : TM [d0, d1, d2, d3, d4, d5, d6, d7] 1 0 1 = 0 := rfl
    have t2 : TM [d0, d1, d2, d3, d4, d5, d6, d7] 1 0 2 = 0 := rfl
    have t3 : TM [d0, d1, d2, d3, d4, d5, d6, d7] 1 0 3 = 0 := rfl
    have t4 : TM [d0, d1, d2, d3, d4, d5, d6, d7] 1 0 4 = 0 := rfl
    have t5 : TM [d0, d1, d2, d3, d4, d5, d6, d7] 1 0 5 = 0 := rfl
    have t6 : TM [d0, d1, d2, d3, d4, d5, d6, d7] 1 0 6 = 0 := rfl
    have t7 : TM [d0, d1, d2, d3, d4, d5, d6, d7] 1 0 7 = 0 := rfl
    rw [z1, t0, t1, t2, t3, t4, t5, t6, t7]; grind
  · obtain rfl := own_lit (1 : Int32) (by decide) h
    have z1 : HF [d0, d1, d2, d3, d4, d5, d6, d7] (1 : Int32).toInt.toNat (1 : Int32).toInt.toNat 0 = ((31 : Int32) * 0 + d1) := rfl
    have t0 : TM [d0, d1, d2, d3, d4, d5, d6, d7] 1 1 0 = d1 * (1 : Int32) := rfl
    have t1 : TM [d0, d1, d2, d3, d4, d5, d6, d7] 1 1 1 = 0 := rfl
    have t2 : TM [d0, d1, d2, d3, d4, d5, d6, d7] 1 1 2 = 0 := rfl
    have t3 : TM [d0, d1, d2, d3, d4, d5, d6, d7] 1 1 3 = 0 := rfl
    have t4 : TM [d0, d1, d2, d3, d4, d5, d6, d7] 1 1 4 = 0 := rfl
    have t5 : TM [d0, d1, d2, d3, d4, d5, d6, d7] 1 1 5 = 0 := rfl
    have t6 : TM [d0, d1, d2, d3, d4, d5, d6, d7] 1 1 6 = 0 := rfl
    have t7 : TM [d0, d1, d2, d3, d4, d5, d6, d7] 1 1 7 = 0 := rfl
    rw [z1, t0, t1, t2, t3, t4, t5, t6, t7]; grind
  · obtain rfl := own_lit (2 : Int32) (by decide) h
    have z1 : HF [d0, d1, d2, d3, d4, d5, d6, d7] (1 : Int32).toInt.toNat (2 : Int32).toInt.toNat 0 = ((31 : Int32) * ((31 : Int32) * 0 + d1) + d2) := rfl
    have t0 : TM [d0, d1, d2, d3, d4, d5, d6, d7] 1 2 0 = d1 * (31 : Int32) := rfl
    have t1 : TM [d0, d1, d2, d3, d4, d5, d6, d7] 1 2 1 = d2 * (1 : Int32) := rfl
    have t2 : TM [d0, d1, d2, d3, d4, d5, d6, d7] 1 2 2 = 0 := rfl
    have t3 : TM [d0, d1, d2, d3, d4, d5, d6, d7] 1 2 3 = 0 := rfl
    have t4 : TM [d0, d1, d2, d3, d4, d5, d6, d7] 1 2 4 = 0 := rfl
    have t5 : TM [d0, d1, d2, d3, d4, d5, d6, d7] 1 2 5 = 0 := rfl
    have t6 : TM [d0, d1, d2, d3, d4, d5, d6, d7] 1 2 6 = 0 := rfl
    have t7 : TM [d0, d1, d2, d3, d4, d5, d6, d7] 1 2 7 = 0 := rfl
    rw [z1, t0, t1, t2, t3, t4, t5, t6, t7]; grind
  · obtain rfl := own_lit (3 : Int32) (by decide) h
    have z1 : HF [d0, d1, d2, d3, d4, d5, d6, d7] (1 : Int32).toInt.toNat (3 : Int32).toInt.toNat 0 = ((31 : Int32) * ((31 : Int32) * ((31 : Int32) * 0 + d1) + d2) + d3) := rfl
    have t0 : TM [d0, d1, d2, d3, d4, d5, d6, d7] 1 3 0 = d1 * (961 : Int32) := rfl
    have t1 : TM [d0, d1, d2, d3, d4, d5, d6, d7] 1 3 1 = d2 * (31 : Int32) := rfl
    have t2 : TM [d0, d1, d2, d3, d4, d5, d6, d7] 1 3 2 = d3 * (1 : Int32) := rfl
    have t3 : TM [d0, d1, d2, d3, d4, d5, d6, d7] 1 3 3 = 0 := rfl
    have t4 : TM [d0, d1, d2, d3, d4, d5, d6, d7] 1 3 4 = 0 := rfl
    have t5 : TM [d0, d1, d2, d3, d4, d5, d6, d7] 1 3 5 = 0 := rfl
    have t6 : TM [d0, d1, d2, d3, d4, d5, d6, d7] 1 3 6 = 0 := rfl
    have t7 : TM [d0, d1, d2, d3, d4, d5, d6, d7] 1 3 7 = 0 := rfl
    rw [z1, t0, t1, t2, t3, t4, t5, t6, t7]; grind
  · obtain rfl := own_lit (4 : Int32) (by decide) h
    have z1 : HF [d0, d1, d2, d3, d4, d5, d6, d7] (1 : Int32).toInt.toNat (4 : Int32).toInt.toNat 0 = ((31 : Int32) * ((31 : Int32) * ((31 : Int32) * ((31 : Int32) * 0 + d1) + d2) + d3) + d4) := rfl
    have t0 : TM [d0, d1, d2, d3, d4, d5, d6, d7] 1 4 0 = d1 * (29791 : Int32) := rfl
    have t1 : TM [d0, d1, d2, d3, d4, d5, d6, d7] 1 4 1 = d2 * (961 : Int32) := rfl
    have t2 : TM [d0, d1, d2, d3, d4, d5, d6, d7] 1 4 2 = d3 * (31 : Int32) := rfl
    have t3 : TM [d0, d1, d2, d3, d4, d5, d6, d7] 1 4 3 = d4 * (1 : Int32) := rfl
    have t4 : TM [d0, d1, d2, d3, d4, d5, d6, d7] 1 4 4 = 0 := rfl
    have t5 : TM [d0, d1, d2, d3, d4, d5, d6, d7] 1 4 5 = 0 := rfl
    have t6 : TM [d0, d1, d2, d3, d4, d5, d6, d7] 1 4 6 = 0 := rfl
    have t7 : TM [d0, d1, d2, d3, d4, d5, d6, d7] 1 4 7 = 0 := rfl
    rw [z1, t0, t1, t2, t3, t4, t5, t6, t7]; grind
  · obtain rfl := own_lit (5 : Int32) (by decide) h
    have z1 : HF [d0, d1, d2, d3, d4, d5, d6, d7] (1 : Int32).toInt.toNat (5 : Int32).toInt.toNat 0 = ((31 : Int32) * ((31 : Int32) * ((31 : Int32) * ((31 : Int32) * ((31 : Int32) * 0 + d1) + d2) + d3) + d4) + d5) := rfl
    have t0 : TM [d0, d1, d2, d3, d4, d5, d6, d7] 1 5 0 = d1 * (923521 : Int32) := rfl
    have t1 : TM [d0, d1, d2, d3, d4, d5, d6, d7] 1 5 1 = d2 * (29791 : Int32) := rfl
    have t2 : TM [d0, d1, d2, d3, d4, d5, d6, d7] 1 5 2 = d3 * (961 : Int32) := rfl
    have t3 : TM [d0, d1, d2, d3, d4, d5, d6, d7] 1 5 3 = d4 * (31 : Int32) := rfl
    have t4 : TM [d0, d1, d2, d3, d4, d5, d6, d7] 1 5 4 = d5 * (1 : Int32) := rfl
    have t5 : TM [d0, d1, d2, d3, d4, d5, d6, d7] 1 5 5 = 0 := rfl
    have t6 : TM [d0, d1, d2, d3, d4, d5, d6, d7] 1 5 6 = 0 := rfl
    have t7 : TM [d0, d1, d2, d3, d4, d5, d6, d7] 1 5 7 = 0 := rfl
    rw [z1, t0, t1, t2, t3, t4, t5, t6, t7]; grind
  · obtain rfl := own_lit (6 : Int32) (by decide) h
    have z1 : HF [d0, d1, d2, d3, d4, d5, d6, d7] (1 : Int32).toInt.toNat (6 : Int32).toInt.toNat 0 = ((31 : Int32) * ((31 : Int32) * ((31 : Int32) * ((31 : Int32) * ((31 : Int32) * ((31 : Int32) * 0 + d1) + d2) + d3) + d4) + d5) + d6) := rfl
    have t0 : TM [d0, d1, d2, d3, d4, d5, d6, d7] 1 6 0 = d1 * (28629151 : Int32) := rfl
    have t1 : TM [d0, d1, d2, d3, d4, d5, d6, d7] 1 6 1 = d2 * (923521 : Int32) := rfl
    have t2 : TM [d0, d1, d2, d3, d4, d5, d6, d7] 1 6 2 = d3 * (29791 : Int32) := rfl
    have t3 : TM [d0, d1, d2, d3, d4, d5, d6, d7] 1 6 3 = d4 * (961 : Int32) := rfl
    have t4 : TM [d0, d1, d2, d3, d4, d5, d6, d7] 1 6 4 = d5 * (31 : Int32) := rfl
    have t5 : TM [d0, d1, d2, d3, d4, d5, d6, d7] 1 6 5 = d6 * (1 : Int32) := rfl
    have t6 : TM [d0, d1, d2, d3, d4, d5, d6, d7] 1 6 6 = 0 := rfl
    have t7 : TM [d0, d1, d2, d3, d4, d5, d6, d7] 1 6 7 = 0 := rfl
    rw [z1, t0, t1, t2, t3, t4, t5, t6, t7]; grind
  · obtain rfl := own_lit (7 : Int32) (by decide) h
    have z1 : HF [d0, d1, d2, d3, d4, d5, d6, d7] (1 : Int32).toInt.toNat (7 : Int32).toInt.toNat 0 = ((31 : Int32) * ((31 : Int32) * ((31 : Int32) * ((31 : Int32) * ((31 : Int32) * ((31 : Int32) * ((31 : Int32) * 0 + d1) + d2) + d3) + d4) + d5) + d6) + d7) := rfl
    have t0 : TM [d0, d1, d2, d3, d4, d5, d6, d7] 1 7 0 = d1 * (887503681 : Int32) := rfl
    have t1 : TM [d0, d1, d2, d3, d4, d5, d6, d7] 1 7 1 = d2 * (28629151 : Int32) := rfl
    have t2 : TM [d0, d1, d2, d3, d4, d5, d6, d7] 1 7 2 = d3 * (923521 : Int32) := rfl
    have t3 : TM [d0, d1, d2, d3, d4, d5, d6, d7] 1 7 3 = d4 * (29791 : Int32) := rfl
    have t4 : TM [d0, d1, d2, d3, d4, d5, d6, d7] 1 7 4 = d5 * (961 : Int32) := rfl
    have t5 : TM [d0, d1, d2, d3, d4, d5, d6, d7] 1 7 5 = d6 * (31 : Int32) := rfl
    have t6 : TM [d0, d1, d2, d3, d4, d5, d6, d7] 1 7 6 = d7 * (1 : Int32) := rfl
    have t7 : TM [d0, d1, d2, d3, d4, d5, d6, d7] 1 7 7 = 0 := rfl
    rw [z1, t0, t1, t2, t3, t4, t5, t6, t7]; grind
set_option maxHeartbeats 4000000 in
theorem own_m2 (d0 d1 d2 d3 d4 d5 d6 d7 : Int32) (l : Int32) (h2 : 0 ≤ l.toInt) (h3 : l.toInt ≤ 6) : HF [d0, d1, d2, d3, d4, d5, d6, d7] (2 : Int32).toInt.toNat l.toInt.toNat 0 = TM [d0, d1, d2, d3, d4, d5, d6, d7] 2 l 0 + TM [d0, d1, d2, d3, d4, d5, d6, d7] 2 l 1 + TM [d0, d1, d2, d3, d4, d5, d6, d7] 2 l 2 + TM [d0, d1, d2, d3, d4, d5, d6, d7] 2 l 3 + TM [d0, d1, d2, d3, d4, d5, d6, d7] 2 l 4 + TM [d0, d1, d2, d3, d4, d5, d6, d7] 2 l 5 + TM [d0, d1, d2, d3, d4, d5, d6, d7] 2 l 6 + TM [d0, d1, d2, d3, d4, d5, d6, d7] 2 l 7 := by
  have hc : l.toInt = 0 ∨ l.toInt = 1 ∨ l.toInt = 2 ∨ l.toInt = 3 ∨ l.toInt = 4 ∨ l.toInt = 5 ∨ l.toInt = 6 := by omega
  rcases hc with h | h | h | h | h | h | h
  · obtain rfl := own_lit (0 : Int32) (by decide) h
    have z1 : HF [d0, d1, d2, d3, d4, d5, d6, d7] (2 : Int32).toInt.toNat (0 : Int32).toInt.toNat 0 = 0 := rfl
    have t0 : TM [d0, d1, d2, d3, d4, d5, d6, d7] 2 0 0 = 0 := rfl
    have t1 : TM [d0, d1, d2, d3, d4, d5, d6, d7] 2 0 1 = 0 := rfl
    have t2 : TM [d0, d1, d2, d3, d4, d5, d6, d7] 2 0 2 = 0 := rfl
    have t3 : TM [d0, d1, d2, d3, d4, d5, d6, d7] 2 0 3 = 0 := rfl
    have t4 : TM [d0, d1, d2, d3, d4, d5, d6, d7] 2 0 4 = 0 := rfl
    have t5 : TM [d0, d1, d2, d3, d4, d5, d6, d7] 2 0 5 = 0 := rfl
    have t6 : TM [d0, d1, d2, d3, d4, d5, d6, d7] 2 0 6 = 0 := rfl
    have t7 : TM [d0, d1, d2, d3, d4, d5, d6, d7] 2 0 7 = 0 := rfl
    rw [z1, t0, t1, t2, t3, t4, t5, t6, t7]; grind
  · obtain rfl := own_lit (1 : Int32) (by decide) h
    have z1 : HF [d0, d1, d2, d3, d4, d5, d6, d7] (2 : Int32).toInt.toNat (1 : Int32).toInt.toNat 0 = ((31 : Int32) * 0 + d2) := rfl
    have t0 : TM [d0, d1, d2, d3, d4, d5, d6, d7] 2 1 0 = d2 * (1 : Int32) := rfl
    have t1 : TM [d0, d1, d2, d3, d4, d5, d6, d7] 2 1 1 = 0 := rfl
    have t2 : TM [d0, d1, d2, d3, d4, d5, d6, d7] 2 1 2 = 0 := rfl
    have t3 : TM [d0, d1, d2, d3, d4, d5, d6, d7] 2 1 3 = 0 := rfl
    have t4 : TM [d0, d1, d2, d3, d4, d5, d6, d7] 2 1 4 = 0 := rfl
    have t5 : TM [d0, d1, d2, d3, d4, d5, d6, d7] 2 1 5 = 0 := rfl
    have t6 : TM [d0, d1, d2, d3, d4, d5, d6, d7] 2 1 6 = 0 := rfl
    have t7 : TM [d0, d1, d2, d3, d4, d5, d6, d7] 2 1 7 = 0 := rfl
    rw [z1, t0, t1, t2, t3, t4, t5, t6, t7]; grind
  · obtain rfl := own_lit (2 : Int32) (by decide) h
    have z1 : HF [d0, d1, d2, d3, d4, d5, d6, d7] (2 : Int32).toInt.toNat (2 : Int32).toInt.toNat 0 = ((31 : Int32) * ((31 : Int32) * 0 + d2) + d3) := rfl
    have t0 : TM [d0, d1, d2, d3, d4, d5, d6, d7] 2 2 0 = d2 * (31 : Int32) := rfl
    have t1 : TM [d0, d1, d2, d3, d4, d5, d6, d7] 2 2 1 = d3 * (1 : Int32) := rfl
    have t2 : TM [d0, d1, d2, d3, d4, d5, d6, d7] 2 2 2 = 0 := rfl
    have t3 : TM [d0, d1, d2, d3, d4, d5, d6, d7] 2 2 3 = 0 := rfl
    have t4 : TM [d0, d1, d2, d3, d4, d5, d6, d7] 2 2 4 = 0 := rfl
    have t5 : TM [d0, d1, d2, d3, d4, d5, d6, d7] 2 2 5 = 0 := rfl
    have t6 : TM [d0, d1, d2, d3, d4, d5, d6, d7] 2 2 6 = 0 := rfl
    have t7 : TM [d0, d1, d2, d3, d4, d5, d6, d7] 2 2 7 = 0 := rfl
    rw [z1, t0, t1, t2, t3, t4, t5, t6, t7]; grind
  · obtain rfl := own_lit (3 : Int32) (by decide) h
    have z1 : HF [d0, d1, d2, d3, d4, d5, d6, d7] (2 : Int32).toInt.toNat (3 : Int32).toInt.toNat 0 = ((31 : Int32) * ((31 : Int32) * ((31 : Int32) * 0 + d2) + d3) + d4) := rfl
    have t0 : TM [d0, d1, d2, d3, d4, d5, d6, d7] 2 3 0 = d2 * (961 : Int32) := rfl
    have t1 : TM [d0, d1, d2, d3, d4, d5, d6, d7] 2 3 1 = d3 * (31 : Int32) := rfl
    have t2 : TM [d0, d1, d2, d3, d4, d5, d6, d7] 2 3 2 = d4 * (1 : Int32) := rfl
    have t3 : TM [d0, d1, d2, d3, d4, d5, d6, d7] 2 3 3 = 0 := rfl
    have t4 : TM [d0, d1, d2, d3, d4, d5, d6, d7] 2 3 4 = 0 := rfl
    have t5 : TM [d0, d1, d2, d3, d4, d5, d6, d7] 2 3 5 = 0 := rfl
    have t6 : TM [d0, d1, d2, d3, d4, d5, d6, d7] 2 3 6 = 0 := rfl
    have t7 : TM [d0, d1, d2, d3, d4, d5, d6, d7] 2 3 7 = 0 := rfl
    rw [z1, t0, t1, t2, t3, t4, t5, t6, t7]; grind
  · obtain rfl := own_lit (4 : Int32) (by decide) h
    have z1 : HF [d0, d1, d2, d3, d4, d5, d6, d7] (2 : Int32).toInt.toNat (4 : Int32).toInt.toNat 0 = ((31 : Int32) * ((31 : Int32) * ((31 : Int32) * ((31 : Int32) * 0 + d2) + d3) + d4) + d5) := rfl
    have t0 : TM [d0, d1, d2, d3, d4, d5, d6, d7] 2 4 0 = d2 * (29791 : Int32) := rfl
    have t1 : TM [d0, d1, d2, d3, d4, d5, d6, d7] 2 4 1 = d3 * (961 : Int32) := rfl
    have t2 : TM [d0, d1, d2, d3, d4, d5, d6, d7] 2 4 2 = d4 * (31 : Int32) := rfl
    have t3 : TM [d0, d1, d2, d3, d4, d5, d6, d7] 2 4 3 = d5 * (1 : Int32) := rfl
    have t4 : TM [d0, d1, d2, d3, d4, d5, d6, d7] 2 4 4 = 0 := rfl
    have t5 : TM [d0, d1, d2, d3, d4, d5, d6, d7] 2 4 5 = 0 := rfl
    have t6 : TM [d0, d1, d2, d3, d4, d5, d6, d7] 2 4 6 = 0 := rfl
    have t7 : TM [d0, d1, d2, d3, d4, d5, d6, d7] 2 4 7 = 0 := rfl
    rw [z1, t0, t1, t2, t3, t4, t5, t6, t7]; grind
  · obtain rfl := own_lit (5 : Int32) (by decide) h
    have z1 : HF [d0, d1, d2, d3, d4, d5, d6, d7] (2 : Int32).toInt.toNat (5 : Int32).toInt.toNat 0 = ((31 : Int32) * ((31 : Int32) * ((31 : Int32) * ((31 : Int32) * ((31 : Int32) * 0 + d2) + d3) + d4) + d5) + d6) := rfl
    have t0 : TM [d0, d1, d2, d3, d4, d5, d6, d7] 2 5 0 = d2 * (923521 : Int32) := rfl
    have t1 : TM [d0, d1, d2, d3, d4, d5, d6, d7] 2 5 1 = d3 * (29791 : Int32) := rfl
    have t2 : TM [d0, d1, d2, d3, d4, d5, d6, d7] 2 5 2 = d4 * (961 : Int32) := rfl
    have t3 : TM [d0, d1, d2, d3, d4, d5, d6, d7] 2 5 3 = d5 * (31 : Int32) := rfl
    have t4 : TM [d0, d1, d2, d3, d4, d5, d6, d7] 2 5 4 = d6 * (1 : Int32) := rfl
    have t5 : TM [d0, d1, d2, d3, d4, d5, d6, d7] 2 5 5 = 0 := rfl
    have t6 : TM [d0, d1, d2, d3, d4, d5, d6, d7] 2 5 6 = 0 := rfl
    have t7 : TM [d0, d1, d2, d3, d4, d5, d6, d7] 2 5 7 = 0 := rfl
    rw [z1, t0, t1, t2, t3, t4, t5, t6, t7]; grind
  · obtain rfl := own_lit (6 : Int32) (by decide) h
    have z1 : HF [d0, d1, d2, d3, d4, d5, d6, d7] (2 : Int32).toInt.toNat (6 : Int32).toInt.toNat 0 = ((31 : Int32) * ((31 : Int32) * ((31 : Int32) * ((31 : Int32) * ((31 : Int32) * ((31 : Int32) * 0 + d2) + d3) + d4) + d5) + d6) + d7) := rfl
    have t0 : TM [d0, d1, d2, d3, d4, d5, d6, d7] 2 6 0 = d2 * (28629151 : Int32) := rfl
    have t1 : TM [d0, d1, d2, d3, d4, d5, d6, d7] 2 6 1 = d3 * (923521 : Int32) := rfl
    have t2 : TM [d0, d1, d2, d3, d4, d5, d6, d7] 2 6 2 = d4 * (29791 : Int32) := rfl
    have t3 : TM [d0, d1, d2, d3, d4, d5, d6, d7] 2 6 3 = d5 * (961 : Int32) := rfl
    have t4 : TM [d0, d1, d2, d3, d4, d5, d6, d7] 2 6 4 = d6 * (31 : Int32) := rfl
    have t5 : TM [d0, d1, d2, d3, d4, d5, d6, d7] 2 6 5 = d7 * (1 : Int32) := rfl
    have t6 : TM [d0, d1, d2, d3, d4, d5, d6, d7] 2 6 6 = 0 := rfl
    have t7 : TM [d0, d1, d2, d3, d4, d5, d6, d7] 2 6 7 = 0 := rfl
    rw [z1, t0, t1, t2, t3, t4, t5, t6, t7]; grind
set_option maxHeartbeats 4000000 in
theorem own_m3 (d0 d1 d2 d3 d4 d5 d6 d7 : Int32) (l : Int32) (h2 : 0 ≤ l.toInt) (h3 : l.toInt ≤ 5) : HF [d0, d1, d2, d3, d4, d5, d6, d7] (3 : Int32).toInt.toNat l.toInt.toNat 0 = TM [d0, d1, d2, d3, d4, d5, d6, d7] 3 l 0 + TM [d0, d1, d2, d3, d4, d5, d6, d7] 3 l 1 + TM [d0, d1, d2, d3, d4, d5, d6, d7] 3 l 2 + TM [d0, d1, d2, d3, d4, d5, d6, d7] 3 l 3 + TM [d0, d1, d2, d3, d4, d5, d6, d7] 3 l 4 + TM [d0, d1, d2, d3, d4, d5, d6, d7] 3 l 5 + TM [d0, d1, d2, d3, d4, d5, d6, d7] 3 l 6 + TM [d0, d1, d2, d3, d4, d5, d6, d7] 3 l 7 := by
  have hc : l.toInt = 0 ∨ l.toInt = 1 ∨ l.toInt = 2 ∨ l.toInt = 3 ∨ l.toInt = 4 ∨ l.toInt = 5 := by omega
  rcases hc with h | h | h | h | h | h
  · obtain rfl := own_lit (0 : Int32) (by decide) h
    have z1 : HF [d0, d1, d2, d3, d4, d5, d6, d7] (3 : Int32).toInt.toNat (0 : Int32).toInt.toNat 0 = 0 := rfl
    have t0 : TM [d0, d1, d2, d3, d4, d5, d6, d7] 3 0 0 = 0 := rfl
    have t1 : TM [d0, d1, d2, d3, d4, d5, d6, d7] 3 0 1 = 0 := rfl
    have t2 : TM [d0, d1, d2, d3, d4, d5, d6, d7] 3 0 2 = 0 := rfl
    have t3 : TM [d0, d1, d2, d3, d4, d5, d6, d7] 3 0 3 = 0 := rfl
    have t4 : TM [d0, d1, d2, d3, d4, d5, d6, d7] 3 0 4 = 0 := rfl
    have t5 : TM [d0, d1, d2, d3, d4, d5, d6, d7] 3 0 5 = 0 := rfl
    have t6 : TM [d0, d1, d2, d3, d4, d5, d6, d7] 3 0 6 = 0 := rfl
    have t7 : TM [d0, d1, d2, d3, d4, d5, d6, d7] 3 0 7 = 0 := rfl
    rw [z1, t0, t1, t2, t3, t4, t5, t6, t7]; grind
  · obtain rfl := own_lit (1 : Int32) (by decide) h
    have z1 : HF [d0, d1, d2, d3, d4, d5, d6, d7] (3 : Int32).toInt.toNat (1 : Int32).toInt.toNat 0 = ((31 : Int32) * 0 + d3) := rfl
    have t0 : TM [d0, d1, d2, d3, d4, d5, d6, d7] 3 1 0 = d3 * (1 : Int32) := rfl
    have t1 : TM [d0, d1, d2, d3, d4, d5, d6, d7] 3 1 1 = 0 := rfl
    have t2 : TM [d0, d1, d2, d3, d4, d5, d6, d7] 3 1 2 = 0 := rfl
    have t3 : TM [d0, d1, d2, d3, d4, d5, d6, d7] 3 1 3 = 0 := rfl
    have t4 : TM [d0, d1, d2, d3, d4, d5, d6, d7] 3 1 4 = 0 := rfl
    have t5 : TM [d0, d1, d2, d3, d4, d5, d6, d7] 3 1 5 = 0 := rfl
    have t6 : TM [d0, d1, d2, d3, d4, d5, d6, d7] 3 1 6 = 0 := rfl
    have t7 : TM [d0, d1, d2, d3, d4, d5, d6, d7] 3 1 7 = 0 := rfl
    rw [z1, t0, t1, t2, t3, t4, t5, t6, t7]; grind
  · obtain rfl := own_lit (2 : Int32) (by decide) h
    have z1 : HF [d0, d1, d2, d3, d4, d5, d6, d7] (3 : Int32).toInt.toNat (2 : Int32).toInt.toNat 0 = ((31 : Int32) * ((31 : Int32) * 0 + d3) + d4) := rfl
    have t0 : TM [d0, d1, d2, d3, d4, d5, d6, d7] 3 2 0 = d3 * (31 : Int32) := rfl
    have t1 : TM [d0, d1, d2, d3, d4, d5, d6, d7] 3 2 1 = d4 * (1 : Int32) := rfl
    have t2 : TM [d0, d1, d2, d3, d4, d5, d6, d7] 3 2 2 = 0 := rfl
    have t3 : TM [d0, d1, d2, d3, d4, d5, d6, d7] 3 2 3 = 0 := rfl
    have t4 : TM [d0, d1, d2, d3, d4, d5, d6, d7] 3 2 4 = 0 := rfl
    have t5 : TM [d0, d1, d2, d3, d4, d5, d6, d7] 3 2 5 = 0 := rfl
    have t6 : TM [d0, d1, d2, d3, d4, d5, d6, d7] 3 2 6 = 0 := rfl
    have t7 : TM [d0, d1, d2, d3, d4, d5, d6, d7] 3 2 7 = 0 := rfl
    rw [z1, t0, t1, t2, t3, t4, t5, t6, t7]; grind
  · obtain rfl := own_lit (3 : Int32) (by decide) h
    have z1 : HF [d0, d1, d2, d3, d4, d5, d6, d7] (3 : Int32).toInt.toNat (3 : Int32).toInt.toNat 0 = ((31 : Int32) * ((31 : Int32) * ((31 : Int32) * 0 + d3) + d4) + d5) := rfl
    have t0 : TM [d0, d1, d2, d3, d4, d5, d6, d7] 3 3 0 = d3 * (961 : Int32) := rfl
    have t1 : TM [d0, d1, d2, d3, d4, d5, d6, d7] 3 3 1 = d4 * (31 : Int32) := rfl
    have t2 : TM [d0, d1, d2, d3, d4, d5, d6, d7] 3 3 2 = d5 * (1 : Int32) := rfl
    have t3 : TM [d0, d1, d2, d3, d4, d5, d6, d7] 3 3 3 = 0 := rfl
    have t4 : TM [d0, d1, d2, d3, d4, d5, d6, d7] 3 3 4 = 0 := rfl
    have t5 : TM [d0, d1, d2, d3, d4, d5, d6, d7] 3 3 5 = 0 := rfl
    have t6 : TM [d0, d1, d2, d3, d4, d5, d6, d7] 3 3 6 = 0 := rfl
    have t7 : TM [d0, d1, d2, d3, d4, d5, d6, d7] 3 3 7 = 0 := rfl
    rw [z1, t0, t1, t2, t3, t4, t5, t6, t7]; grind
  · obtain rfl := own_lit (4 : Int32) (by decide) h
    have z1 : HF [d0, d1, d2, d3, d4, d5, d6, d7] (3 : Int32).toInt.toNat (4 : Int32).toInt.toNat 0 = ((31 : Int32) * ((31 : Int32) * ((31 : Int32) * ((31 : Int32) * 0 + d3) + d4) + d5) + d6) := rfl
    have t0 : TM [d0, d1, d2, d3, d4, d5, d6, d7] 3 4 0 = d3 * (29791 : Int32) := rfl
    have t1 : TM [d0, d1, d2, d3, d4, d5, d6, d7] 3 4 1 = d4 * (961 : Int32) := rfl
    have t2 : TM [d0, d1, d2, d3, d4, d5, d6, d7] 3 4 2 = d5 * (31 : Int32) := rfl
    have t3 : TM [d0, d1, d2, d3, d4, d5, d6, d7] 3 4 3 = d6 * (1 : Int32) := rfl
    have t4 : TM [d0, d1, d2, d3, d4, d5, d6, d7] 3 4 4 = 0 := rfl
    have t5 : TM [d0, d1, d2, d3, d4, d5, d6, d7] 3 4 5 = 0 := rfl
    have t6 : TM [d0, d1, d2, d3, d4, d5, d6, d7] 3 4 6 = 0 := rfl
    have t7 : TM [d0, d1, d2, d3, d4, d5, d6, d7] 3 4 7 = 0 := rfl
    rw [z1, t0, t1, t2, t3, t4, t5, t6, t7]; grind
  · obtain rfl := own_lit (5 : Int32) (by decide) h
    have z1 : HF [d0, d1, d2, d3, d4, d5, d6, d7] (3 : Int32).toInt.toNat (5 : Int32).toInt.toNat 0 = ((31 : Int32) * ((31 : Int32) * ((31 : Int32) * ((31 : Int32) * ((31 : Int32) * 0 + d3) + d4) + d5) + d6) + d7) := rfl
    have t0 : TM [d0, d1, d2, d3, d4, d5, d6, d7] 3 5 0 = d3 * (923521 : Int32) := rfl
    have t1 : TM [d0, d1, d2, d3, d4, d5, d6, d7] 3 5 1 = d4 * (29791 : Int32) := rfl
    have t2 : TM [d0, d1, d2, d3, d4, d5, d6, d7] 3 5 2 = d5 * (961 : Int32) := rfl
    have t3 : TM [d0, d1, d2, d3, d4, d5, d6, d7] 3 5 3 = d6 * (31 : Int32) := rfl
    have t4 : TM [d0, d1, d2, d3, d4, d5, d6, d7] 3 5 4 = d7 * (1 : Int32) := rfl
    have t5 : TM [d0, d1, d2, d3, d4, d5, d6, d7] 3 5 5 = 0 := rfl
    have t6 : TM [d0, d1, d2, d3, d4, d5, d6, d7] 3 5 6 = 0 := rfl
    have t7 : TM [d0, d1, d2, d3, d4, d5, d6, d7] 3 5 7 = 0 := rfl
    rw [z1, t0, t1, t2, t3, t4, t5, t6, t7]; grind
set_option maxHeartbeats 4000000 in
theorem own_m4 (d0 d1 d2 d3 d4 d5 d6 d7 : Int32) (l : Int32) (h2 : 0 ≤ l.toInt) (h3 : l.toInt ≤ 4) : HF [d0, d1, d2, d3, d4, d5, d6, d7] (4 : Int32).toInt.toNat l.toInt.toNat 0 = TM [d0, d1, d2, d3, d4, d5, d6, d7] 4 l 0 + TM [d0, d1, d2, d3, d4, d5, d6, d7] 4 l 1 + TM [d0, d1, d2, d3, d4, d5, d6, d7] 4 l 2 + TM [d0, d1, d2, d3, d4, d5, d6, d7] 4 l 3 + TM [d0, d1, d2, d3, d4, d5, d6, d7] 4 l 4 + TM [d0, d1, d2, d3, d4, d5, d6, d7] 4 l 5 + TM [d0, d1, d2, d3, d4, d5, d6, d7] 4 l 6 + TM [d0, d1, d2, d3, d4, d5, d6, d7] 4 l 7 := by
  have hc : l.toInt = 0 ∨ l.toInt = 1 ∨ l.toInt = 2 ∨ l.toInt = 3 ∨ l.toInt = 4 := by omega
  rcases hc with h | h | h | h | h
  · obtain rfl := own_lit (0 : Int32) (by decide) h
    have z1 : HF [d0, d1, d2, d3, d4, d5, d6, d7] (4 : Int32).toInt.toNat (0 : Int32).toInt.toNat 0 = 0 := rfl
    have t0 : TM [d0, d1, d2, d3, d4, d5, d6, d7] 4 0 0 = 0 := rfl
    have t1 : TM [d0, d1, d2, d3, d4, d5, d6, d7] 4 0 1 = 0 := rfl
    have t2 : TM [d0, d1, d2, d3, d4, d5, d6, d7] 4 0 2 = 0 := rfl
    have t3 : TM [d0, d1, d2, d3, d4, d5, d6, d7] 4 0 3 = 0 := rfl
    have t4 : TM [d0, d1, d2, d3, d4, d5, d6, d7] 4 0 4 = 0 := rfl
    have t5 : TM [d0, d1, d2, d3, d4, d5, d6, d7] 4 0 5 = 0 := rfl
    have t6 : TM [d0, d1, d2, d3, d4, d5, d6, d7] 4 0 6 = 0 := rfl
    have t7 : TM [d0, d1, d2, d3, d4, d5, d6, d7] 4 0 7 = 0 := rfl
    rw [z1, t0, t1, t2, t3, t4, t5, t6, t7]; grind
  · obtain rfl := own_lit (1 : Int32) (by decide) h
    have z1 : HF [d0, d1, d2, d3, d4, d5, d6, d7] (4 : Int32).toInt.toNat (1 : Int32).toInt.toNat 0 = ((31 : Int32) * 0 + d4) := rfl
    have t0 : TM [d0, d1, d2, d3, d4, d5, d6, d7] 4 1 0 = d4 * (1 : Int32) := rfl
    have t1 : TM [d0, d1, d2, d3, d4, d5, d6, d7] 4 1 1 = 0 := rfl
    have t2 : TM [d0, d1, d2, d3, d4, d5, d6, d7] 4 1 2 = 0 := rfl
    have t3 : TM [d0, d1, d2, d3, d4, d5, d6, d7] 4 1 3 = 0 := rfl
    have t4 : TM [d0, d1, d2, d3, d4, d5, d6, d7] 4 1 4 = 0 := rfl
    have t5 : TM [d0, d1, d2, d3, d4, d5, d6, d7] 4 1 5 = 0 := rfl
    have t6 : TM [d0, d1, d2, d3, d4, d5, d6, d7] 4 1 6 = 0 := rfl
    have t7 : TM [d0, d1, d2, d3, d4, d5, d6, d7] 4 1 7 = 0 := rfl
    rw [z1, t0, t1, t2, t3, t4, t5, t6, t7]; grind
  · obtain rfl := own_lit (2 : Int32) (by decide) h
    have z1 : HF [d0, d1, d2, d3, d4, d5, d6, d7] (4 : Int32).toInt.toNat (2 : Int32).toInt.toNat 0 = ((31 : Int32) * ((31 : Int32) * 0 + d4) + d5) := rfl
    have t0 : TM [d0, d1, d2, d3, d4, d5, d6, d7] 4 2 0 = d4 * (31 : Int32) := rfl
    have t1 : TM [d0, d1, d2, d3, d4, d5, d6, d7] 4 2 1 = d5 * (1 : Int32) := rfl
    have t2 : TM [d0, d1, d2, d3, d4, d5, d6, d7] 4 2 2 = 0 := rfl
    have t3 : TM [d0, d1, d2, d3, d4, d5, d6, d7] 4 2 3 = 0 := rfl
    have t4 : TM [d0, d1, d2, d3, d4, d5, d6, d7] 4 2 4 = 0 := rfl
    have t5 : TM [d0, d1, d2, d3, d4, d5, d6, d7] 4 2 5 = 0 := rfl
    have t6 : TM [d0, d1, d2, d3, d4, d5, d6, d7] 4 2 6 = 0 := rfl
    have t7 : TM [d0, d1, d2, d3, d4, d5, d6, d7] 4 2 7 = 0 := rfl
    rw [z1, t0, t1, t2, t3, t4, t5, t6, t7]; grind
  · obtain rfl := own_lit (3 : Int32) (by decide) h
    have z1 : HF [d0, d1, d2, d3, d4, d5, d6, d7] (4 : Int32).toInt.toNat (3 : Int32).toInt.toNat 0 = ((31 : Int32) * ((31 : Int32) * ((31 : Int32) * 0 + d4) + d5) + d6) := rfl
    have t0 : TM [d0, d1, d2, d3, d4, d5, d6, d7] 4 3 0 = d4 * (961 : Int32) := rfl
    have t1 : TM [d0, d1, d2, d3, d4, d5, d6, d7] 4 3 1 = d5 * (31 : Int32) := rfl
    have t2 : TM [d0, d1, d2, d3, d4, d5, d6, d7] 4 3 2 = d6 * (1 : Int32) := rfl
    have t3 : TM [d0, d1, d2, d3, d4, d5, d6, d7] 4 3 3 = 0 := rfl
    have t4 : TM [d0, d1, d2, d3, d4, d5, d6, d7] 4 3 4 = 0 := rfl
    have t5 : TM [d0, d1, d2, d3, d4, d5, d6, d7] 4 3 5 = 0 := rfl
    have t6 : TM [d0, d1, d2, d3, d4, d5, d6, d7] 4 3 6 = 0 := rfl
    have t7 : TM [d0, d1, d2, d3, d4, d5, d6, d7] 4 3 7 = 0 := rfl
    rw [z1, t0, t1, t2, t3, t4, t5, t6, t7]; grind
  · obtain rfl := own_lit (4 : Int32) (by decide) h
    have z1 : HF [d0, d1, d2, d3, d4, d5, d6, d7] (4 : Int32).toInt.toNat (4 : Int32).toInt.toNat 0 = ((31 : Int32) * ((31 : Int32) * ((31 : Int32) * ((31 : Int32) * 0 + d4) + d5) + d6) + d7) := rfl
    have t0 : TM [d0, d1, d2, d3, d4, d5, d6, d7] 4 4 0 = d4 * (29791 : Int32) := rfl
    have t1 : TM [d0, d1, d2, d3, d4, d5, d6, d7] 4 4 1 = d5 * (961 : Int32) := rfl
    have t2 : TM [d0, d1, d2, d3, d4, d5, d6, d7] 4 4 2 = d6 * (31 : Int32) := rfl
    have t3 : TM [d0, d1, d2, d3, d4, d5, d6, d7] 4 4 3 = d7 * (1 : Int32) := rfl
    have t4 : TM [d0, d1, d2, d3, d4, d5, d6, d7] 4 4 4 = 0 := rfl
    have t5 : TM [d0, d1, d2, d3, d4, d5, d6, d7] 4 4 5 = 0 := rfl
    have t6 : TM [d0, d1, d2, d3, d4, d5, d6, d7] 4 4 6 = 0 := rfl
    have t7 : TM [d0, d1, d2, d3, d4, d5, d6, d7] 4 4 7 = 0 := rfl
    rw [z1, t0, t1, t2, t3, t4, t5, t6, t7]; grind
set_option maxHeartbeats 4000000 in
theorem own_m5 (d0 d1 d2 d3 d4 d5 d6 d7 : Int32) (l : Int32) (h2 : 0 ≤ l.toInt) (h3 : l.toInt ≤ 3) : HF [d0, d1, d2, d3, d4, d5, d6, d7] (5 : Int32).toInt.toNat l.toInt.toNat 0 = TM [d0, d1, d2, d3, d4, d5, d6, d7] 5 l 0 + TM [d0, d1, d2, d3, d4, d5, d6, d7] 5 l 1 + TM [d0, d1, d2, d3, d4, d5, d6, d7] 5 l 2 + TM [d0, d1, d2, d3, d4, d5, d6, d7] 5 l 3 + TM [d0, d1, d2, d3, d4, d5, d6, d7] 5 l 4 + TM [d0, d1, d2, d3, d4, d5, d6, d7] 5 l 5 + TM [d0, d1, d2, d3, d4, d5, d6, d7] 5 l 6 + TM [d0, d1, d2, d3, d4, d5, d6, d7] 5 l 7 := by
  have hc : l.toInt = 0 ∨ l.toInt = 1 ∨ l.toInt = 2 ∨ l.toInt = 3 := by omega
  rcases hc with h | h | h | h
  · obtain rfl := own_lit (0 : Int32) (by decide) h
    have z1 : HF [d0, d1, d2, d3, d4, d5, d6, d7] (5 : Int32).toInt.toNat (0 : Int32).toInt.toNat 0 = 0 := rfl
    have t0 : TM [d0, d1, d2, d3, d4, d5, d6, d7] 5 0 0 = 0 := rfl
    have t1 : TM [d0, d1, d2, d3, d4, d5, d6, d7] 5 0 1 = 0 := rfl
    have t2 : TM [d0, d1, d2, d3, d4, d5, d6, d7] 5 0 2 = 0 := rfl
    have t3 : TM [d0, d1, d2, d3, d4, d5, d6, d7] 5 0 3 = 0 := rfl
    have t4 : TM [d0, d1, d2, d3, d4, d5, d6, d7] 5 0 4 = 0 := rfl
    have t5 : TM [d0, d1, d2, d3, d4, d5, d6, d7] 5 0 5 = 0 := rfl
    have t6 : TM [d0, d1, d2, d3, d4, d5, d6, d7] 5 0 6 = 0 := rfl
    have t7 : TM [d0, d1, d2, d3, d4, d5, d6, d7] 5 0 7 = 0 := rfl
    rw [z1, t0, t1, t2, t3, t4, t5, t6, t7]; grind
  · obtain rfl := own_lit (1 : Int32) (by decide) h
    have z1 : HF [d0, d1, d2, d3, d4, d5, d6, d7] (5 : Int32).toInt.toNat (1 : Int32).toInt.toNat 0 = ((31 : Int32) * 0 + d5) := rfl
    have t0 : TM [d0, d1, d2, d3, d4, d5, d6, d7] 5 1 0 = d5 * (1 : Int32) := rfl
    have t1 : TM [d0, d1, d2, d3, d4, d5, d6, d7] 5 1 1 = 0 := rfl
    have t2 : TM [d0, d1, d2, d3, d4, d5, d6, d7] 5 1 2 = 0 := rfl
    have t3 : TM [d0, d1, d2, d3, d4, d5, d6, d7] 5 1 3 = 0 := rfl
    have t4 : TM [d0, d1, d2, d3, d4, d5, d6, d7] 5 1 4 = 0 := rfl
    have t5 : TM [d0, d1, d2, d3, d4, d5, d6, d7] 5 1 5 = 0 := rfl
    have t6 : TM [d0, d1, d2, d3, d4, d5, d6, d7] 5 1 6 = 0 := rfl
    have t7 : TM [d0, d1, d2, d3, d4, d5, d6, d7] 5 1 7 = 0 := rfl
    rw [z1, t0, t1, t2, t3, t4, t5, t6, t7]; grind
  · obtain rfl := own_lit (2 : Int32) (by decide) h
    have z1 : HF [d0, d1, d2, d3, d4, d5, d6, d7] (5 : Int32).toInt.toNat (2 : Int32).toInt.toNat 0 = ((31 : Int32) * ((31 : Int32) * 0 + d5) + d6) := rfl
    have t0 : TM [d0, d1, d2, d3, d4, d5, d6, d7] 5 2 0 = d5 * (31 : Int32) := rfl
    have t1 : TM [d0, d1, d2, d3, d4, d5, d6, d7] 5 2 1 = d6 * (1 : Int32) := rfl
    have t2 : TM [d0, d1, d2, d3, d4, d5, d6, d7] 5 2 2 = 0 := rfl
    have t3 : TM [d0, d1, d2, d3, d4, d5, d6, d7] 5 2 3 = 0 := rfl
    have t4 : TM [d0, d1, d2, d3, d4, d5, d6, d7] 5 2 4 = 0 := rfl
    have t5 : TM [d0, d1, d2, d3, d4, d5, d6, d7] 5 2 5 = 0 := rfl
    have t6 : TM [d0, d1, d2, d3, d4, d5, d6, d7] 5 2 6 = 0 := rfl
    have t7 : TM [d0, d1, d2, d3, d4, d5, d6, d7] 5 2 7 = 0 := rfl
    rw [z1, t0, t1, t2, t3, t4, t5, t6, t7]; grind
  · obtain rfl := own_lit (3 : Int32) (by decide) h
    have z1 : HF [d0, d1, d2, d3, d4, d5, d6, d7] (5 : Int32).toInt.toNat (3 : Int32).toInt.toNat 0 = ((31 : Int32) * ((31 : Int32) * ((31 : Int32) * 0 + d5) + d6) + d7) := rfl
    have t0 : TM [d0, d1, d2, d3, d4, d5, d6, d7] 5 3 0 = d5 * (961 : Int32) := rfl
    have t1 : TM [d0, d1, d2, d3, d4, d5, d6, d7] 5 3 1 = d6 * (31 : Int32) := rfl
    have t2 : TM [d0, d1, d2, d3, d4, d5, d6, d7] 5 3 2 = d7 * (1 : Int32) := rfl
    have t3 : TM [d0, d1, d2, d3, d4, d5, d6, d7] 5 3 3 = 0 := rfl
    have t4 : TM [d0, d1, d2, d3, d4, d5, d6, d7] 5 3 4 = 0 := rfl
    have t5 : TM [d0, d1, d2, d3, d4, d5, d6, d7] 5 3 5 = 0 := rfl
    have t6 : TM [d0, d1, d2, d3, d4, d5, d6, d7] 5 3 6 = 0 := rfl
    have t7 : TM [d0, d1, d2, d3, d4, d5, d6, d7] 5 3 7 = 0 := rfl
    rw [z1, t0, t1, t2, t3, t4, t5, t6, t7]; grind
set_option maxHeartbeats 4000000 in
theorem own_m6 (d0 d1 d2 d3 d4 d5 d6 d7 : Int32) (l : Int32) (h2 : 0 ≤ l.toInt) (h3 : l.toInt ≤ 2) : HF [d0, d1, d2, d3, d4, d5, d6, d7] (6 : Int32).toInt.toNat l.toInt.toNat 0 = TM [d0, d1, d2, d3, d4, d5, d6, d7] 6 l 0 + TM [d0, d1, d2, d3, d4, d5, d6, d7] 6 l 1 + TM [d0, d1, d2, d3, d4, d5, d6, d7] 6 l 2 + TM [d0, d1, d2, d3, d4, d5, d6, d7] 6 l 3 + TM [d0, d1, d2, d3, d4, d5, d6, d7] 6 l 4 + TM [d0, d1, d2, d3, d4, d5, d6, d7] 6 l 5 + TM [d0, d1, d2, d3, d4, d5, d6, d7] 6 l 6 + TM [d0, d1, d2, d3, d4, d5, d6, d7] 6 l 7 := by
  have hc : l.toInt = 0 ∨ l.toInt = 1 ∨ l.toInt = 2 := by omega
  rcases hc with h | h | h
  · obtain rfl := own_lit (0 : Int32) (by decide) h
    have z1 : HF [d0, d1, d2, d3, d4, d5, d6, d7] (6 : Int32).toInt.toNat (0 : Int32).toInt.toNat 0 = 0 := rfl
    have t0 : TM [d0, d1, d2, d3, d4, d5, d6, d7] 6 0 0 = 0 := rfl
    have t1 : TM [d0, d1, d2, d3, d4, d5, d6, d7] 6 0 1 = 0 := rfl
    have t2 : TM [d0, d1, d2, d3, d4, d5, d6, d7] 6 0 2 = 0 := rfl
    have t3 : TM [d0, d1, d2, d3, d4, d5, d6, d7] 6 0 3 = 0 := rfl
    have t4 : TM [d0, d1, d2, d3, d4, d5, d6, d7] 6 0 4 = 0 := rfl
    have t5 : TM [d0, d1, d2, d3, d4, d5, d6, d7] 6 0 5 = 0 := rfl
    have t6 : TM [d0, d1, d2, d3, d4, d5, d6, d7] 6 0 6 = 0 := rfl
    have t7 : TM [d0, d1, d2, d3, d4, d5, d6, d7] 6 0 7 = 0 := rfl
    rw [z1, t0, t1, t2, t3, t4, t5, t6, t7]; grind
  · obtain rfl := own_lit (1 : Int32) (by decide) h
    have z1 : HF [d0, d1, d2, d3, d4, d5, d6, d7] (6 : Int32).toInt.toNat (1 : Int32).toInt.toNat 0 = ((31 : Int32) * 0 + d6) := rfl
    have t0 : TM [d0, d1, d2, d3, d4, d5, d6, d7] 6 1 0 = d6 * (1 : Int32) := rfl
    have t1 : TM [d0, d1, d2, d3, d4, d5, d6, d7] 6 1 1 = 0 := rfl
    have t2 : TM [d0, d1, d2, d3, d4, d5, d6, d7] 6 1 2 = 0 := rfl
    have t3 : TM [d0, d1, d2, d3, d4, d5, d6, d7] 6 1 3 = 0 := rfl
    have t4 : TM [d0, d1, d2, d3, d4, d5, d6, d7] 6 1 4 = 0 := rfl
    have t5 : TM [d0, d1, d2, d3, d4, d5, d6, d7] 6 1 5 = 0 := rfl
    have t6 : TM [d0, d1, d2, d3, d4, d5, d6, d7] 6 1 6 = 0 := rfl
    have t7 : TM [d0, d1, d2, d3, d4, d5, d6, d7] 6 1 7 = 0 := rfl
    rw [z1, t0, t1, t2, t3, t4, t5, t6, t7]; grind
  · obtain rfl := own_lit (2 : Int32) (by decide) h
    have z1 : HF [d0, d1, d2, d3, d4, d5, d6, d7] (6 : Int32).toInt.toNat (2 : Int32).toInt.toNat 0 = ((31 : Int32) * ((31 : Int32) * 0 + d6) + d7) := rfl
    have t0 : TM [d0, d1, d2, d3, d4, d5, d6, d7] 6 2 0 = d6 * (31 : Int32) := rfl
    have t1 : TM [d0, d1, d2, d3, d4, d5, d6, d7] 6 2 1 = d7 * (1 : Int32) := rfl
    have t2 : TM [d0, d1, d2, d3, d4, d5, d6, d7] 6 2 2 = 0 := rfl
    have t3 : TM [d0, d1, d2, d3, d4, d5, d6, d7] 6 2 3 = 0 := rfl
    have t4 : TM [d0, d1, d2, d3, d4, d5, d6, d7] 6 2 4 = 0 := rfl
    have t5 : TM [d0, d1, d2, d3, d4, d5, d6, d7] 6 2 5 = 0 := rfl
    have t6 : TM [d0, d1, d2, d3, d4, d5, d6, d7] 6 2 6 = 0 := rfl
    have t7 : TM [d0, d1, d2, d3, d4, d5, d6, d7] 6 2 7 = 0 := rfl
    rw [z1, t0, t1, t2, t3, t4, t5, t6, t7]; grind
set_option maxHeartbeats 4000000 in
theorem own_m7 (d0 d1 d2 d3 d4 d5 d6 d7 : Int32) (l : Int32) (h2 : 0 ≤ l.toInt) (h3 : l.toInt ≤ 1) : HF [d0, d1, d2, d3, d4, d5, d6, d7] (7 : Int32).toInt.toNat l.toInt.toNat 0 = TM [d0, d1, d2, d3, d4, d5, d6, d7] 7 l 0 + TM [d0, d1, d2, d3, d4, d5, d6, d7] 7 l 1 + TM [d0, d1, d2, d3, d4, d5, d6, d7] 7 l 2 + TM [d0, d1, d2, d3, d4, d5, d6, d7] 7 l 3 + TM [d0, d1, d2, d3, d4, d5, d6, d7] 7 l 4 + TM [d0, d1, d2, d3, d4, d5, d6, d7] 7 l 5 + TM [d0, d1, d2, d3, d4, d5, d6, d7] 7 l 6 + TM [d0, d1, d2, d3, d4, d5, d6, d7] 7 l 7 := by
  have hc : l.toInt = 0 ∨ l.toInt = 1 := by omega
  rcases hc with h | h
  · obtain rfl := own_lit (0 : Int32) (by decide) h
    have z1 : HF [d0, d1, d2, d3, d4, d5, d6, d7] (7 : Int32).toInt.toNat (0 : Int32).toInt.toNat 0 = 0 := rfl
    have t0 : TM [d0, d1, d2, d3, d4, d5, d6, d7] 7 0 0 = 0 := rfl
    have t1 : TM [d0, d1, d2, d3, d4, d5, d6, d7] 7 0 1 = 0 := rfl
    have t2 : TM [d0, d1, d2, d3, d4, d5, d6, d7] 7 0 2 = 0 := rfl
    have t3 : TM [d0, d1, d2, d3, d4, d5, d6, d7] 7 0 3 = 0 := rfl
    have t4 : TM [d0, d1, d2, d3, d4, d5, d6, d7] 7 0 4 = 0 := rfl
    have t5 : TM [d0, d1, d2, d3, d4, d5, d6, d7] 7 0 5 = 0 := rfl
    have t6 : TM [d0, d1, d2, d3, d4, d5, d6, d7] 7 0 6 = 0 := rfl
    have t7 : TM [d0, d1, d2, d3, d4, d5, d6, d7] 7 0 7 = 0 := rfl
    rw [z1, t0, t1, t2, t3, t4, t5, t6, t7]; grind
  · obtain rfl := own_lit (1 : Int32) (by decide) h
    have z1 : HF [d0, d1, d2, d3, d4, d5, d6, d7] (7 : Int32).toInt.toNat (1 : Int32).toInt.toNat 0 = ((31 : Int32) * 0 + d7) := rfl
    have t0 : TM [d0, d1, d2, d3, d4, d5, d6, d7] 7 1 0 = d7 * (1 : Int32) := rfl
    have t1 : TM [d0, d1, d2, d3, d4, d5, d6, d7] 7 1 1 = 0 := rfl
    have t2 : TM [d0, d1, d2, d3, d4, d5, d6, d7] 7 1 2 = 0 := rfl
    have t3 : TM [d0, d1, d2, d3, d4, d5, d6, d7] 7 1 3 = 0 := rfl
    have t4 : TM [d0, d1, d2, d3, d4, d5, d6, d7] 7 1 4 = 0 := rfl
    have t5 : TM [d0, d1, d2, d3, d4, d5, d6, d7] 7 1 5 = 0 := rfl
    have t6 : TM [d0, d1, d2, d3, d4, d5, d6, d7] 7 1 6 = 0 := rfl
    have t7 : TM [d0, d1, d2, d3, d4, d5, d6, d7] 7 1 7 = 0 := rfl
    rw [z1, t0, t1, t2, t3, t4, t5, t6, t7]; grind
theorem own_main (d0 d1 d2 d3 d4 d5 d6 d7 : Int32) (f l : Int32) (h1 : 0 ≤ f.toInt) (h2 : 0 ≤ l.toInt) (h3 : f.toInt + l.toInt ≤ 8) (h4 : f.toInt ≤ 7) : HF [d0, d1, d2, d3, d4, d5, d6, d7] f.toInt.toNat l.toInt.toNat 0 = TM [d0, d1, d2, d3, d4, d5, d6, d7] f l 0 + TM [d0, d1, d2, d3, d4, d5, d6, d7] f l 1 + TM [d0, d1, d2, d3, d4, d5, d6, d7] f l 2 + TM [d0, d1, d2, d3, d4, d5, d6, d7] f l 3 + TM [d0, d1, d2, d3, d4, d5, d6, d7] f l 4 + TM [d0, d1, d2, d3, d4, d5, d6, d7] f l 5 + TM [d0, d1, d2, d3, d4, d5, d6, d7] f l 6 + TM [d0, d1, d2, d3, d4, d5, d6, d7] f l 7 := by
  have hc : f.toInt = 0 ∨ f.toInt = 1 ∨ f.toInt = 2 ∨ f.toInt = 3 ∨ f.toInt = 4 ∨ f.toInt = 5 ∨ f.toInt = 6 ∨ f.toInt = 7 := by omega
  rcases hc with h | h | h | h | h | h | h | h
  · obtain rfl := own_lit (0 : Int32) (by decide) h
    exact own_m0 d0 d1 d2 d3 d4 d5 d6 d7 l h2 (by omega)
  · obtain rfl := own_lit (1 : Int32) (by decide) h
    exact own_m1 d0 d1 d2 d3 d4 d5 d6 d7 l h2 (by omega)
  · obtain rfl := own_lit (2 : Int32) (by decide) h
    exact own_m2 d0 d1 d2 d3 d4 d5 d6 d7 l h2 (by omega)
  · obtain rfl := own_lit (3 : Int32) (by decide) h
    exact own_m3 d0 d1 d2 d3 d4 d5 d6 d7 l h2 (by omega)
  · obtain rfl := own_lit (4 : Int32) (by decide) h
    exact own_m4 d0 d1 d2 d3 d4 d5 d6 d7 l h2 (by omega)
  · obtain rfl := own_lit (5 : Int32) (by decide) h
    exact own_m5 d0 d1 d2 d3 d4 d5 d6 d7 l h2 (by omega)
  · obtain rfl := own_lit (6 : Int32) (by decide) h
    exact own_m6 d0 d1 d2 d3 d4 d5 d6 d7 l h2 (by omega)
  · obtain rfl := own_lit (7 : Int32) (by decide) h
    exact own_m7 d0 d1 d2 d3 d4 d5 d6 d7 l h2 (by omega)
theorem pn_0 : plainFor x = true := plainFor_of_name (by first | (simp [plainName, overriddenIn]; done) | decide +kernel)
theorem ef_0 (m : MethodId) (x0 : Int32) (x1 : Int32) (x2 : Int32) : entryFrame m #[(.int x0), (.int x1), (.int x2)] maxLocals = mkF m 0 #[.val (.int x0), .val (.int x1), .val (.int x2), .unset, .unset, .unset, .unset, .unset] [] := by first | (simp [entryFrame, mkF, argsToLocals, Value.category, maxLocals]; done) | rfl
theorem pd0 : parseMethodDescriptor "([BIII[I)I" = some ⟨[(.array .byte), .int, .int, .int, (.array .int)], some .int⟩ := by decide +kernel
theorem pd1 : parseMethodDescriptor "([BII)I" = some ⟨[(.array .byte), .int, .int], some .int⟩ := by decide +kernel
def Q0 (h0 : Heap) (n0 : Nat) (v : Option Value) (h : Heap) (L : List Loc) : Prop := v = some (.int 1) ∧ Fr n0 L
set_option maxRecDepth 65536 in
set_option maxHeartbeats 40000000 in
theorem rm0 (l : Launch) (Z : State) (a0 : Array Value) (hw : ∀ d ∈ tables_1, d.before a0 Z = true) (ws : List Jvm.Cond) (x0 : Int32) (x1 : Int32) (x2 : Int32) (h0 : Heap) (n0 : Nat) (sz : n0 ≤ h0.size) :
    Ctr l x code maxLocals ret ws room_1 Z #[(.int x0), (.int x1), (.int x2)] h0 (Q0 h0 n0) 16 128 := by
  refine Ctr.mk pn_0 ?_
  intro p e s m below meth c T hx hby hml hown hnm hlk hret hZ X eT
  have N := Fr.nil n0
  refine enter (ef_0 m x0 x1 x2) ?_
  refine s_bipush X hx (z := (8 : Int32)) (hb hby at_0) rfl (q := 2) rfl ?_
  refine s_newB X hx hZ (hw _ (List.mem_of_getElem? (i := 0) rfl)) eT (by decide) (cap := 8) (by decide) (by decide) (by decide) (by decide) (ys := [0, 0, 0, 0, 0, 0, 0, 0]) rfl (hb hby at_2) (q := 4) rfl ?_
  intro T h2 a1 X eT E ea A_a1
  have g_a1 : n0 ≤ a1 := by rw [ea]; exact sz
  have sz : n0 ≤ h2.size := Nat.le_trans sz E.1
  refine s_astoreN X hx (hb hby at_4) rfl (L' := #[.val (.int x0), .val (.int x1), .val (.int x2), .val (.ref a1), .unset, .unset, .unset, .unset]) rfl (q := 5) rfl ?_
  refine s_aloadN X hx (hb hby at_5) rfl rfl (q := 6) rfl ?_
  refine s_iconst X hx (z := (0 : Int32)) (hb hby at_6) rfl (q := 7) rfl ?_
  refine s_iloadN X hx (hb hby at_7) rfl (q := 8) rfl ?_
  refine s_i2b X hx (hb hby at_8) (q := 9) rfl ?_
  generalize hb0 : x0.toInt8.toInt32 = b0
  refine s_bastore X hx hZ eT A_a1 N g_a1 (by decide) (i := 0) rfl (Nat.le_of_ble_eq_true rfl) (ys := [(nar .byte b0), 0, 0, 0, 0, 0, 0, 0]) rfl (hb hby at_9) (q := 10) rfl ?_
  intro T h3 _ X N eT W A_a1'
  have sz : n0 ≤ h3.size := by rw [W.size]; exact sz
  have A_a1 := A_a1'
  refine s_aloadN X hx (hb hby at_10) rfl rfl (q := 11) rfl ?_
  refine s_iconst X hx (z := (1 : Int32)) (hb hby at_11) rfl (q := 12) rfl ?_
  refine s_iloadN X hx (hb hby at_12) rfl (q := 13) rfl ?_
  refine s_bipush X hx (z := (8 : Int32)) (hb hby at_13) rfl (q := 15) rfl ?_
  refine s_ishr X hx (hb hby at_15) (q := 16) rfl ?_
  refine s_i2b X hx (hb hby at_16) (q := 17) rfl ?_
  generalize hb1 : (x0 >>> ((8 : Int32) &&& 31)).toInt8.toInt32 = b1
  refine s_bastore X hx hZ eT A_a1 N g_a1 (by decide) (i := 1) rfl (Nat.le_of_ble_eq_true rfl) (ys := [(nar .byte b0), (nar .byte b1), 0, 0, 0, 0, 0, 0]) rfl (hb hby at_17) (q := 18) rfl ?_
  intro T h4 _ X N eT W A_a1'
  have sz : n0 ≤ h4.size := by rw [W.size]; exact sz
  have A_a1 := A_a1'
  refine s_aloadN X hx (hb hby at_18) rfl rfl (q := 19) rfl ?_
  refine s_iconst X hx (z := (2 : Int32)) (hb hby at_19) rfl (q := 20) rfl ?_
  refine s_iloadN X hx (hb hby at_20) rfl (q := 21) rfl ?_
  refine s_bipush X hx (z := (16 : Int32)) (hb hby at_21) rfl (q := 23) rfl ?_
  refine s_ishr X hx (hb hby at_23) (q := 24) rfl ?_
  refine s_i2b X hx (hb hby at_24) (q := 25) rfl ?_
  generalize hb2 : (x0 >>> ((16 : Int32) &&& 31)).toInt8.toInt32 = b2
  refine s_bastore X hx hZ eT A_a1 N g_a1 (by decide) (i := 2) rfl (Nat.le_of_ble_eq_true rfl) (ys := [(nar .byte b0), (nar .byte b1), (nar .byte b2), 0, 0, 0, 0, 0]) rfl (hb hby at_25) (q := 26) rfl ?_
  intro T h5 _ X N eT W A_a1'
  have sz : n0 ≤ h5.size := by rw [W.size]; exact sz
  have A_a1 := A_a1'
  refine s_aloadN X hx (hb hby at_26) rfl rfl (q := 27) rfl ?_
  refine s_iconst X hx (z := (3 : Int32)) (hb hby at_27) rfl (q := 28) rfl ?_
  refine s_iloadN X hx (hb hby at_28) rfl (q := 29) rfl ?_
  refine s_bipush X hx (z := (24 : Int32)) (hb hby at_29) rfl (q := 31) rfl ?_
  refine s_ishr X hx (hb hby at_31) (q := 32) rfl ?_
  refine s_i2b X hx (hb hby at_32) (q := 33) rfl ?_
  generalize hb3 : (x0 >>> ((24 : Int32) &&& 31)).toInt8.toInt32 = b3
  refine s_bastore X hx hZ eT A_a1 N g_a1 (by decide) (i := 3) rfl (Nat.le_of_ble_eq_true rfl) (ys := [(nar .byte b0), (nar .byte b1), (nar .byte b2), (nar .byte b3), 0, 0, 0, 0]) rfl (hb hby at_33) (q := 34) rfl ?_
  intro T h6 _ X N eT W A_a1'
  have sz : n0 ≤ h6.size := by rw [W.size]; exact sz
  have A_a1 := A_a1'
  refine s_aloadN X hx (hb hby at_34) rfl rfl (q := 35) rfl ?_
  refine s_iconst X hx (z := (4 : Int32)) (hb hby at_35) rfl (q := 36) rfl ?_
  refine s_iloadN X hx (hb hby at_36) rfl (q := 37) rfl ?_
  refine s_i2b X hx (hb hby at_37) (q := 38) rfl ?_
  generalize hb4 : x1.toInt8.toInt32 = b4
  refine s_bastore X hx hZ eT A_a1 N g_a1 (by decide) (i := 4) rfl (Nat.le_of_ble_eq_true rfl) (ys := [(nar .byte b0), (nar .byte b1), (nar .byte b2), (nar .byte b3), (nar .byte b4), 0, 0, 0]) rfl (hb hby at_38) (q := 39) rfl ?_
  intro T h7 _ X N eT W A_a1'
  have sz : n0 ≤ h7.size := by rw [W.size]; exact sz
  have A_a1 := A_a1'
  refine s_aloadN X hx (hb hby at_39) rfl rfl (q := 40) rfl ?_
  refine s_iconst X hx (z := (5 : Int32)) (hb hby at_40) rfl (q := 41) rfl ?_
  refine s_iloadN X hx (hb hby at_41) rfl (q := 42) rfl ?_
  refine s_bipush X hx (z := (8 : Int32)) (hb hby at_42) rfl (q := 44) rfl ?_
  refine s_ishr X hx (hb hby at_44) (q := 45) rfl ?_
  refine s_i2b X hx (hb hby at_45) (q := 46) rfl ?_
  generalize hb5 : (x1 >>> ((8 : Int32) &&& 31)).toInt8.toInt32 = b5
  refine s_bastore X hx hZ eT A_a1 N g_a1 (by decide) (i := 5) rfl (Nat.le_of_ble_eq_true rfl) (ys := [(nar .byte b0), (nar .byte b1), (nar .byte b2), (nar .byte b3), (nar .byte b4), (nar .byte b5), 0, 0]) rfl (hb hby at_46) (q := 47) rfl ?_
  intro T h8 _ X N eT W A_a1'
  have sz : n0 ≤ h8.size := by rw [W.size]; exact sz
  have A_a1 := A_a1'
  refine s_aloadN X hx (hb hby at_47) rfl rfl (q := 48) rfl ?_
  refine s_bipush X hx (z := (6 : Int32)) (hb hby at_48) rfl (q := 50) rfl ?_
  refine s_iloadN X hx (hb hby at_50) rfl (q := 51) rfl ?_
  refine s_bipush X hx (z := (16 : Int32)) (hb hby at_51) rfl (q := 53) rfl ?_
  refine s_ishr X hx (hb hby at_53) (q := 54) rfl ?_
  refine s_i2b X hx (hb hby at_54) (q := 55) rfl ?_
  generalize hb6 : (x1 >>> ((16 : Int32) &&& 31)).toInt8.toInt32 = b6
  refine s_bastore X hx hZ eT A_a1 N g_a1 (by decide) (i := 6) rfl (Nat.le_of_ble_eq_true rfl) (ys := [(nar .byte b0), (nar .byte b1), (nar .byte b2), (nar .byte b3), (nar .byte b4), (nar .byte b5), (nar .byte b6), 0]) rfl (hb hby at_55) (q := 56) rfl ?_
  intro T h9 _ X N eT W A_a1'
  have sz : n0 ≤ h9.size := by rw [W.size]; exact sz
  have A_a1 := A_a1'
  refine s_aloadN X hx (hb hby at_56) rfl rfl (q := 57) rfl ?_
  refine s_bipush X hx (z := (7 : Int32)) (hb hby at_57) rfl (q := 59) rfl ?_
  refine s_iloadN X hx (hb hby at_59) rfl (q := 60) rfl ?_
  refine s_bipush X hx (z := (24 : Int32)) (hb hby at_60) rfl (q := 62) rfl ?_
  refine s_ishr X hx (hb hby at_62) (q := 63) rfl ?_
  refine s_i2b X hx (hb hby at_63) (q := 64) rfl ?_
  generalize hb7 : (x1 >>> ((24 : Int32) &&& 31)).toInt8.toInt32 = b7
  refine s_bastore X hx hZ eT A_a1 N g_a1 (by decide) (i := 7) rfl (Nat.le_of_ble_eq_true rfl) (ys := [(nar .byte b0), (nar .byte b1), (nar .byte b2), (nar .byte b3), (nar .byte b4), (nar .byte b5), (nar .byte b6), (nar .byte b7)]) rfl (hb hby at_64) (q := 65) rfl ?_
  intro T h10 _ X N eT W A_a1'
  have sz : n0 ≤ h10.size := by rw [W.size]; exact sz
  have A_a1 := A_a1'
  generalize (nar .byte b0) = d0 at A_a1
  generalize (nar .byte b1) = d1 at A_a1
  generalize (nar .byte b2) = d2 at A_a1
  generalize (nar .byte b3) = d3 at A_a1
  generalize (nar .byte b4) = d4 at A_a1
  generalize (nar .byte b5) = d5 at A_a1
  generalize (nar .byte b6) = d6 at A_a1
  generalize (nar .byte b7) = d7 at A_a1
  refine s_iloadN X hx (hb hby at_65) rfl (q := 66) rfl ?_
  refine s_bipush X hx (z := (7 : Int32)) (hb hby at_66) rfl (q := 68) rfl ?_
  refine s_iand X hx (hb hby at_68) (q := 69) rfl ?_
  generalize hfr : (x2 &&& (7 : Int32)) = fr
  refine s_istore X hx (hb hby at_69) (L' := #[.val (.int x0), .val (.int x1), .val (.int x2), .val (.ref a1), .val (.int fr), .unset, .unset, .unset]) rfl (q := 71) rfl ?_
  refine s_iloadN X hx (hb hby at_71) rfl (q := 72) rfl ?_
  refine s_iconst X hx (z := (3 : Int32)) (hb hby at_72) rfl (q := 73) rfl ?_
  refine s_iushr X hx (hb hby at_73) (q := 74) rfl ?_
  refine s_bipush X hx (z := (9 : Int32)) (hb hby at_74) rfl (q := 76) rfl ?_
  refine s_iload X hx (hb hby at_76) rfl (q := 78) rfl ?_
  refine s_isub X hx (hb hby at_78) (q := 79) rfl ?_
  refine s_irem X hx (hb hby at_79) (own_nz x2 fr hfr) (q := 80) rfl ?_
  generalize hln : (((x2.toUInt32 >>> ((3 : Int32) &&& 31).toUInt32).toInt32) % ((9 : Int32) - fr)) = ln
  refine s_istore X hx (hb hby at_80) (L' := #[.val (.int x0), .val (.int x1), .val (.int x2), .val (.ref a1), .val (.int fr), .val (.int ln), .unset, .unset]) rfl (q := 82) rfl ?_
  obtain ⟨hb1, hb2, hb3⟩ := own_fl x2 fr ln hfr hln
  have hb7 : fr.toInt ≤ 7 := by rw [← hfr]; exact (c_and x2 7 (by decide)).2
  refine s_bipush X hx (z := (8 : Int32)) (hb hby at_82) rfl (q := 84) rfl ?_
  refine s_newI X hx hZ (hw _ (List.mem_of_getElem? (i := 1) rfl)) eT (by decide) (cap := 8) (by decide) (by decide) (by decide) (by decide) (ys := [0, 0, 0, 0, 0, 0, 0, 0]) rfl (hb hby at_84) (q := 86) rfl ?_
  intro T h12 a11 X eT E ea A_a11
  have ne_a1_a11 : a1 ≠ a11 := by rw [ea]; exact Nat.ne_of_lt A_a1.lt
  have A_a1 := A_a1.ext E
  have g_a11 : n0 ≤ a11 := by rw [ea]; exact sz
  have sz : n0 ≤ h12.size := Nat.le_trans sz E.1
  refine s_astore X hx (hb hby at_86) rfl (L' := #[.val (.int x0), .val (.int x1), .val (.int x2), .val (.ref a1), .val (.int fr), .val (.int ln), .val (.ref a11), .unset]) rfl (q := 88) rfl ?_
  refine s_aload X hx (hb hby at_88) rfl rfl (q := 90) rfl ?_
  refine s_iconst X hx (z := (0 : Int32)) (hb hby at_90) rfl (q := 91) rfl ?_
  refine s_iconst X hx (z := (1 : Int32)) (hb hby at_91) rfl (q := 92) rfl ?_
  refine s_iastore X hx hZ eT A_a11 N g_a11 (by decide) (i := 0) rfl (Nat.le_of_ble_eq_true rfl) (ys := [(1 : Int32), 0, 0, 0, 0, 0, 0, 0]) rfl (hb hby at_92) (q := 93) rfl ?_
  intro T h13 _ X N eT W A_a11'
  have A_a1 := A_a1.other W ne_a1_a11
  have sz : n0 ≤ h13.size := by rw [W.size]; exact sz
  have A_a11 := A_a11'
  refine s_aload X hx (hb hby at_93) rfl rfl (q := 95) rfl ?_
  refine s_iconst X hx (z := (1 : Int32)) (hb hby at_95) rfl (q := 96) rfl ?_
  refine s_bipush X hx (z := (31 : Int32)) (hb hby at_96) rfl (q := 98) rfl ?_
  refine s_iastore X hx hZ eT A_a11 N g_a11 (by decide) (i := 1) rfl (Nat.le_of_ble_eq_true rfl) (ys := [(1 : Int32), (31 : Int32), 0, 0, 0, 0, 0, 0]) rfl (hb hby at_98) (q := 99) rfl ?_
  intro T h14 _ X N eT W A_a11'
  have A_a1 := A_a1.other W ne_a1_a11
  have sz : n0 ≤ h14.size := by rw [W.size]; exact sz
  have A_a11 := A_a11'
  refine s_aload X hx (hb hby at_99) rfl rfl (q := 101) rfl ?_
  refine s_iconst X hx (z := (2 : Int32)) (hb hby at_101) rfl (q := 102) rfl ?_
  refine s_aload X hx (hb hby at_102) rfl rfl (q := 104) rfl ?_
  refine s_iconst X hx (z := (1 : Int32)) (hb hby at_104) rfl (q := 105) rfl ?_
  refine s_iaload X hx hZ eT A_a11 (by decide) (i := 1) rfl (x := (31 : Int32)) rfl (hb hby at_105) (q := 106) rfl ?_
  refine s_bipush X hx (z := (31 : Int32)) (hb hby at_106) rfl (q := 108) rfl ?_
  refine s_imul X hx (hb hby at_108) (q := 109) rfl ?_
  show Go p e below _ T m 109 #[.val (.int x0), .val (.int x1), .val (.int x2), .val (.ref a1), .val (.int fr), .val (.int ln), .val (.ref a11), .unset] [(.int (961 : Int32)), (.int (2 : Int32)), (.ref a11)]
  refine s_iastore X hx hZ eT A_a11 N g_a11 (by decide) (i := 2) rfl (Nat.le_of_ble_eq_true rfl) (ys := [(1 : Int32), (31 : Int32), (961 : Int32), 0, 0, 0, 0, 0]) rfl (hb hby at_109) (q := 110) rfl ?_
  intro T h15 _ X N eT W A_a11'
  have A_a1 := A_a1.other W ne_a1_a11
  have sz : n0 ≤ h15.size := by rw [W.size]; exact sz
  have A_a11 := A_a11'
  refine s_aload X hx (hb hby at_110) rfl rfl (q := 112) rfl ?_
  refine s_iconst X hx (z := (3 : Int32)) (hb hby at_112) rfl (q := 113) rfl ?_
  refine s_aload X hx (hb hby at_113) rfl rfl (q := 115) rfl ?_
  refine s_iconst X hx (z := (2 : Int32)) (hb hby at_115) rfl (q := 116) rfl ?_
  refine s_iaload X hx hZ eT A_a11 (by decide) (i := 2) rfl (x := (961 : Int32)) rfl (hb hby at_116) (q := 117) rfl ?_
  refine s_bipush X hx (z := (31 : Int32)) (hb hby at_117) rfl (q := 119) rfl ?_
  refine s_imul X hx (hb hby at_119) (q := 120) rfl ?_
  show Go p e below _ T m 120 #[.val (.int x0), .val (.int x1), .val (.int x2), .val (.ref a1), .val (.int fr), .val (.int ln), .val (.ref a11), .unset] [(.int (29791 : Int32)), (.int (3 : Int32)), (.ref a11)]
  refine s_iastore X hx hZ eT A_a11 N g_a11 (by decide) (i := 3) rfl (Nat.le_of_ble_eq_true rfl) (ys := [(1 : Int32), (31 : Int32), (961 : Int32), (29791 : Int32), 0, 0, 0, 0]) rfl (hb hby at_120) (q := 121) rfl ?_
  intro T h16 _ X N eT W A_a11'
  have A_a1 := A_a1.other W ne_a1_a11
  have sz : n0 ≤ h16.size := by rw [W.size]; exact sz
  have A_a11 := A_a11'
  refine s_aload X hx (hb hby at_121) rfl rfl (q := 123) rfl ?_
  refine s_iconst X hx (z := (4 : Int32)) (hb hby at_123) rfl (q := 124) rfl ?_
  refine s_aload X hx (hb hby at_124) rfl rfl (q := 126) rfl ?_
  refine s_iconst X hx (z := (3 : Int32)) (hb hby at_126) rfl (q := 127) rfl ?_
  refine s_iaload X hx hZ eT A_a11 (by decide) (i := 3) rfl (x := (29791 : Int32)) rfl (hb hby at_127) (q := 128) rfl ?_
  refine s_bipush X hx (z := (31 : Int32)) (hb hby at_128) rfl (q := 130) rfl ?_
  refine s_imul X hx (hb hby at_130) (q := 131) rfl ?_
  show Go p e below _ T m 131 #[.val (.int x0), .val (.int x1), .val (.int x2), .val (.ref a1), .val (.int fr), .val (.int ln), .val (.ref a11), .unset] [(.int (923521 : Int32)), (.int (4 : Int32)), (.ref a11)]
  refine s_iastore X hx hZ eT A_a11 N g_a11 (by decide) (i := 4) rfl (Nat.le_of_ble_eq_true rfl) (ys := [(1 : Int32), (31 : Int32), (961 : Int32), (29791 : Int32), (923521 : Int32), 0, 0, 0]) rfl (hb hby at_131) (q := 132) rfl ?_
  intro T h17 _ X N eT W A_a11'
  have A_a1 := A_a1.other W ne_a1_a11
  have sz : n0 ≤ h17.size := by rw [W.size]; exact sz
  have A_a11 := A_a11'
  refine s_aload X hx (hb hby at_132) rfl rfl (q := 134) rfl ?_
  refine s_iconst X hx (z := (5 : Int32)) (hb hby at_134) rfl (q := 135) rfl ?_
  refine s_aload X hx (hb hby at_135) rfl rfl (q := 137) rfl ?_
  refine s_iconst X hx (z := (4 : Int32)) (hb hby at_137) rfl (q := 138) rfl ?_
  refine s_iaload X hx hZ eT A_a11 (by decide) (i := 4) rfl (x := (923521 : Int32)) rfl (hb hby at_138) (q := 139) rfl ?_
  refine s_bipush X hx (z := (31 : Int32)) (hb hby at_139) rfl (q := 141) rfl ?_
  refine s_imul X hx (hb hby at_141) (q := 142) rfl ?_
  show Go p e below _ T m 142 #[.val (.int x0), .val (.int x1), .val (.int x2), .val (.ref a1), .val (.int fr), .val (.int ln), .val (.ref a11), .unset] [(.int (28629151 : Int32)), (.int (5 : Int32)), (.ref a11)]
  refine s_iastore X hx hZ eT A_a11 N g_a11 (by decide) (i := 5) rfl (Nat.le_of_ble_eq_true rfl) (ys := [(1 : Int32), (31 : Int32), (961 : Int32), (29791 : Int32), (923521 : Int32), (28629151 : Int32), 0, 0]) rfl (hb hby at_142) (q := 143) rfl ?_
  intro T h18 _ X N eT W A_a11'
  have A_a1 := A_a1.other W ne_a1_a11
  have sz : n0 ≤ h18.size := by rw [W.size]; exact sz
  have A_a11 := A_a11'
  refine s_aload X hx (hb hby at_143) rfl rfl (q := 145) rfl ?_
  refine s_bipush X hx (z := (6 : Int32)) (hb hby at_145) rfl (q := 147) rfl ?_
  refine s_aload X hx (hb hby at_147) rfl rfl (q := 149) rfl ?_
  refine s_iconst X hx (z := (5 : Int32)) (hb hby at_149) rfl (q := 150) rfl ?_
  refine s_iaload X hx hZ eT A_a11 (by decide) (i := 5) rfl (x := (28629151 : Int32)) rfl (hb hby at_150) (q := 151) rfl ?_
  refine s_bipush X hx (z := (31 : Int32)) (hb hby at_151) rfl (q := 153) rfl ?_
  refine s_imul X hx (hb hby at_153) (q := 154) rfl ?_
  show Go p e below _ T m 154 #[.val (.int x0), .val (.int x1), .val (.int x2), .val (.ref a1), .val (.int fr), .val (.int ln), .val (.ref a11), .unset] [(.int (887503681 : Int32)), (.int (6 : Int32)), (.ref a11)]
  refine s_iastore X hx hZ eT A_a11 N g_a11 (by decide) (i := 6) rfl (Nat.le_of_ble_eq_true rfl) (ys := [(1 : Int32), (31 : Int32), (961 : Int32), (29791 : Int32), (923521 : Int32), (28629151 : Int32), (887503681 : Int32), 0]) rfl (hb hby at_154) (q := 155) rfl ?_
  intro T h19 _ X N eT W A_a11'
  have A_a1 := A_a1.other W ne_a1_a11
  have sz : n0 ≤ h19.size := by rw [W.size]; exact sz
  have A_a11 := A_a11'
  refine s_aload X hx (hb hby at_155) rfl rfl (q := 157) rfl ?_
  refine s_bipush X hx (z := (7 : Int32)) (hb hby at_157) rfl (q := 159) rfl ?_
  refine s_aload X hx (hb hby at_159) rfl rfl (q := 161) rfl ?_
  refine s_bipush X hx (z := (6 : Int32)) (hb hby at_161) rfl (q := 163) rfl ?_
  refine s_iaload X hx hZ eT A_a11 (by decide) (i := 6) rfl (x := (887503681 : Int32)) rfl (hb hby at_163) (q := 164) rfl ?_
  refine s_bipush X hx (z := (31 : Int32)) (hb hby at_164) rfl (q := 166) rfl ?_
  refine s_imul X hx (hb hby at_166) (q := 167) rfl ?_
  show Go p e below _ T m 167 #[.val (.int x0), .val (.int x1), .val (.int x2), .val (.ref a1), .val (.int fr), .val (.int ln), .val (.ref a11), .unset] [(.int (1742810335 : Int32)), (.int (7 : Int32)), (.ref a11)]
  refine s_iastore X hx hZ eT A_a11 N g_a11 (by decide) (i := 7) rfl (Nat.le_of_ble_eq_true rfl) (ys := [(1 : Int32), (31 : Int32), (961 : Int32), (29791 : Int32), (923521 : Int32), (28629151 : Int32), (887503681 : Int32), (1742810335 : Int32)]) rfl (hb hby at_167) (q := 168) rfl ?_
  intro T h20 _ X N eT W A_a11'
  have A_a1 := A_a1.other W ne_a1_a11
  have sz : n0 ≤ h20.size := by rw [W.size]; exact sz
  have A_a11 := A_a11'
  refine s_aloadN X hx (hb hby at_168) rfl rfl (q := 169) rfl ?_
  refine s_iload X hx (hb hby at_169) rfl (q := 171) rfl ?_
  refine s_iload X hx (hb hby at_171) rfl (q := 173) rfl ?_
  refine s_iconst X hx (z := (0 : Int32)) (hb hby at_173) rfl (q := 174) rfl ?_
  refine s_aload X hx (hb hby at_174) rfl rfl (q := 176) rfl ?_
  refine callP X hx hZ hown (W := 0) (argsL := [(.ref a1), (.int fr), (.int ln), (.int (0 : Int32)), (.ref a11)]) (rest := []) (hw _ (List.mem_of_getElem? (i := 2) rfl)) (hw _ (List.mem_of_getElem? (i := 3) rfl)) (hw _ (List.mem_of_getElem? (i := 4) rfl)) (hw _ (List.mem_of_getElem? (i := 5) rfl)) (by decide) (rm1 l Z a0 hw [] a1 fr ln (0 : Int32) a11 d0 d1 d2 d3 d4 d5 d6 d7 h20 A_a1 A_a11 hb1 hb2 hb3 (by decide)) rfl rfl eT (by decide) (by decide) (by decide) (by decide) (by rw [hml]; rfl) pd0 rfl rfl (Nat.le_of_ble_eq_true rfl) (hb hby at_176) (q := 179) rfl ?_
  intro T X eT
  refine s_aloadN X hx (hb hby at_179) rfl rfl (q := 180) rfl ?_
  refine s_iload X hx (hb hby at_180) rfl (q := 182) rfl ?_
  refine s_iload X hx (hb hby at_182) rfl (q := 184) rfl ?_
  refine s_iconst X hx (z := (1 : Int32)) (hb hby at_184) rfl (q := 185) rfl ?_
  refine s_aload X hx (hb hby at_185) rfl rfl (q := 187) rfl ?_
  refine callP X hx hZ hown (W := 1) (argsL := [(.ref a1), (.int fr), (.int ln), (.int (1 : Int32)), (.ref a11)]) (rest := [(.int (TM [d0, d1, d2, d3, d4, d5, d6, d7] fr ln (0 : Int32)))]) (hw _ (List.mem_of_getElem? (i := 2) rfl)) (hw _ (List.mem_of_getElem? (i := 3) rfl)) (hw _ (List.mem_of_getElem? (i := 4) rfl)) (hw _ (List.mem_of_getElem? (i := 5) rfl)) (by decide) (rm1 l Z a0 hw [] a1 fr ln (1 : Int32) a11 d0 d1 d2 d3 d4 d5 d6 d7 h20 A_a1 A_a11 hb1 hb2 hb3 (by decide)) rfl rfl eT (by decide) (by decide) (by decide) (by decide) (by rw [hml]; rfl) pd0 rfl rfl (Nat.le_of_ble_eq_true rfl) (hb hby at_187) (q := 190) rfl ?_
  intro T X eT
  refine s_iadd X hx (hb hby at_190) (q := 191) rfl ?_
  refine s_aloadN X hx (hb hby at_191) rfl rfl (q := 192) rfl ?_
  refine s_iload X hx (hb hby at_192) rfl (q := 194) rfl ?_
  refine s_iload X hx (hb hby at_194) rfl (q := 196) rfl ?_
  refine s_iconst X hx (z := (2 : Int32)) (hb hby at_196) rfl (q := 197) rfl ?_
  refine s_aload X hx (hb hby at_197) rfl rfl (q := 199) rfl ?_
  refine callP X hx hZ hown (W := 1) (argsL := [(.ref a1), (.int fr), (.int ln), (.int (2 : Int32)), (.ref a11)]) (rest := [(.int ((TM [d0, d1, d2, d3, d4, d5, d6, d7] fr ln (0 : Int32)) + (TM [d0, d1, d2, d3, d4, d5, d6, d7] fr ln (1 : Int32))))]) (hw _ (List.mem_of_getElem? (i := 2) rfl)) (hw _ (List.mem_of_getElem? (i := 3) rfl)) (hw _ (List.mem_of_getElem? (i := 4) rfl)) (hw _ (List.mem_of_getElem? (i := 5) rfl)) (by decide) (rm1 l Z a0 hw [] a1 fr ln (2 : Int32) a11 d0 d1 d2 d3 d4 d5 d6 d7 h20 A_a1 A_a11 hb1 hb2 hb3 (by decide)) rfl rfl eT (by decide) (by decide) (by decide) (by decide) (by rw [hml]; rfl) pd0 rfl rfl (Nat.le_of_ble_eq_true rfl) (hb hby at_199) (q := 202) rfl ?_
  intro T X eT
  refine s_iadd X hx (hb hby at_202) (q := 203) rfl ?_
  refine s_aloadN X hx (hb hby at_203) rfl rfl (q := 204) rfl ?_
  refine s_iload X hx (hb hby at_204) rfl (q := 206) rfl ?_
  refine s_iload X hx (hb hby at_206) rfl (q := 208) rfl ?_
  refine s_iconst X hx (z := (3 : Int32)) (hb hby at_208) rfl (q := 209) rfl ?_
  refine s_aload X hx (hb hby at_209) rfl rfl (q := 211) rfl ?_
  refine callP X hx hZ hown (W := 1) (argsL := [(.ref a1), (.int fr), (.int ln), (.int (3 : Int32)), (.ref a11)]) (rest := [(.int (((TM [d0, d1, d2, d3, d4, d5, d6, d7] fr ln (0 : Int32)) + (TM [d0, d1, d2, d3, d4, d5, d6, d7] fr ln (1 : Int32))) + (TM [d0, d1, d2, d3, d4, d5, d6, d7] fr ln (2 : Int32))))]) (hw _ (List.mem_of_getElem? (i := 2) rfl)) (hw _ (List.mem_of_getElem? (i := 3) rfl)) (hw _ (List.mem_of_getElem? (i := 4) rfl)) (hw _ (List.mem_of_getElem? (i := 5) rfl)) (by decide) (rm1 l Z a0 hw [] a1 fr ln (3 : Int32) a11 d0 d1 d2 d3 d4 d5 d6 d7 h20 A_a1 A_a11 hb1 hb2 hb3 (by decide)) rfl rfl eT (by decide) (by decide) (by decide) (by decide) (by rw [hml]; rfl) pd0 rfl rfl (Nat.le_of_ble_eq_true rfl) (hb hby at_211) (q := 214) rfl ?_
  intro T X eT
  refine s_iadd X hx (hb hby at_214) (q := 215) rfl ?_
  refine s_aloadN X hx (hb hby at_215) rfl rfl (q := 216) rfl ?_
  refine s_iload X hx (hb hby at_216) rfl (q := 218) rfl ?_
  refine s_iload X hx (hb hby at_218) rfl (q := 220) rfl ?_
  refine s_iconst X hx (z := (4 : Int32)) (hb hby at_220) rfl (q := 221) rfl ?_
  refine s_aload X hx (hb hby at_221) rfl rfl (q := 223) rfl ?_
  refine callP X hx hZ hown (W := 1) (argsL := [(.ref a1), (.int fr), (.int ln), (.int (4 : Int32)), (.ref a11)]) (rest := [(.int ((((TM [d0, d1, d2, d3, d4, d5, d6, d7] fr ln (0 : Int32)) + (TM [d0, d1, d2, d3, d4, d5, d6, d7] fr ln (1 : Int32))) + (TM [d0, d1, d2, d3, d4, d5, d6, d7] fr ln (2 : Int32))) + (TM [d0, d1, d2, d3, d4, d5, d6, d7] fr ln (3 : Int32))))]) (hw _ (List.mem_of_getElem? (i := 2) rfl)) (hw _ (List.mem_of_getElem? (i := 3) rfl)) (hw _ (List.mem_of_getElem? (i := 4) rfl)) (hw _ (List.mem_of_getElem? (i := 5) rfl)) (by decide) (rm1 l Z a0 hw [] a1 fr ln (4 : Int32) a11 d0 d1 d2 d3 d4 d5 d6 d7 h20 A_a1 A_a11 hb1 hb2 hb3 (by decide)) rfl rfl eT (by decide) (by decide) (by decide) (by decide) (by rw [hml]; rfl) pd0 rfl rfl (Nat.le_of_ble_eq_true rfl) (hb hby at_223) (q := 226) rfl ?_
  intro T X eT
  refine s_iadd X hx (hb hby at_226) (q := 227) rfl ?_
  refine s_aloadN X hx (hb hby at_227) rfl rfl (q := 228) rfl ?_
  refine s_iload X hx (hb hby at_228) rfl (q := 230) rfl ?_
  refine s_iload X hx (hb hby at_230) rfl (q := 232) rfl ?_
  refine s_iconst X hx (z := (5 : Int32)) (hb hby at_232) rfl (q := 233) rfl ?_
  refine s_aload X hx (hb hby at_233) rfl rfl (q := 235) rfl ?_
  refine callP X hx hZ hown (W := 1) (argsL := [(.ref a1), (.int fr), (.int ln), (.int (5 : Int32)), (.ref a11)]) (rest := [(.int (((((TM [d0, d1, d2, d3, d4, d5, d6, d7] fr ln (0 : Int32)) + (TM [d0, d1, d2, d3, d4, d5, d6, d7] fr ln (1 : Int32))) + (TM [d0, d1, d2, d3, d4, d5, d6, d7] fr ln (2 : Int32))) + (TM [d0, d1, d2, d3, d4, d5, d6, d7] fr ln (3 : Int32))) + (TM [d0, d1, d2, d3, d4, d5, d6, d7] fr ln (4 : Int32))))]) (hw _ (List.mem_of_getElem? (i := 2) rfl)) (hw _ (List.mem_of_getElem? (i := 3) rfl)) (hw _ (List.mem_of_getElem? (i := 4) rfl)) (hw _ (List.mem_of_getElem? (i := 5) rfl)) (by decide) (rm1 l Z a0 hw [] a1 fr ln (5 : Int32) a11 d0 d1 d2 d3 d4 d5 d6 d7 h20 A_a1 A_a11 hb1 hb2 hb3 (by decide)) rfl rfl eT (by decide) (by decide) (by decide) (by decide) (by rw [hml]; rfl) pd0 rfl rfl (Nat.le_of_ble_eq_true rfl) (hb hby at_235) (q := 238) rfl ?_
  intro T X eT
  refine s_iadd X hx (hb hby at_238) (q := 239) rfl ?_
  refine s_aloadN X hx (hb hby at_239) rfl rfl (q := 240) rfl ?_
  refine s_iload X hx (hb hby at_240) rfl (q := 242) rfl ?_
  refine s_iload X hx (hb hby at_242) rfl (q := 244) rfl ?_
  refine s_bipush X hx (z := (6 : Int32)) (hb hby at_244) rfl (q := 246) rfl ?_
  refine s_aload X hx (hb hby at_246) rfl rfl (q := 248) rfl ?_
  refine callP X hx hZ hown (W := 1) (argsL := [(.ref a1), (.int fr), (.int ln), (.int (6 : Int32)), (.ref a11)]) (rest := [(.int ((((((TM [d0, d1, d2, d3, d4, d5, d6, d7] fr ln (0 : Int32)) + (TM [d0, d1, d2, d3, d4, d5, d6, d7] fr ln (1 : Int32))) + (TM [d0, d1, d2, d3, d4, d5, d6, d7] fr ln (2 : Int32))) + (TM [d0, d1, d2, d3, d4, d5, d6, d7] fr ln (3 : Int32))) + (TM [d0, d1, d2, d3, d4, d5, d6, d7] fr ln (4 : Int32))) + (TM [d0, d1, d2, d3, d4, d5, d6, d7] fr ln (5 : Int32))))]) (hw _ (List.mem_of_getElem? (i := 2) rfl)) (hw _ (List.mem_of_getElem? (i := 3) rfl)) (hw _ (List.mem_of_getElem? (i := 4) rfl)) (hw _ (List.mem_of_getElem? (i := 5) rfl)) (by decide) (rm1 l Z a0 hw [] a1 fr ln (6 : Int32) a11 d0 d1 d2 d3 d4 d5 d6 d7 h20 A_a1 A_a11 hb1 hb2 hb3 (by decide)) rfl rfl eT (by decide) (by decide) (by decide) (by decide) (by rw [hml]; rfl) pd0 rfl rfl (Nat.le_of_ble_eq_true rfl) (hb hby at_248) (q := 251) rfl ?_
  intro T X eT
  refine s_iadd X hx (hb hby at_251) (q := 252) rfl ?_
  refine s_aloadN X hx (hb hby at_252) rfl rfl (q := 253) rfl ?_
  refine s_iload X hx (hb hby at_253) rfl (q := 255) rfl ?_
  refine s_iload X hx (hb hby at_255) rfl (q := 257) rfl ?_
  refine s_bipush X hx (z := (7 : Int32)) (hb hby at_257) rfl (q := 259) rfl ?_
  refine s_aload X hx (hb hby at_259) rfl rfl (q := 261) rfl ?_
  refine callP X hx hZ hown (W := 1) (argsL := [(.ref a1), (.int fr), (.int ln), (.int (7 : Int32)), (.ref a11)]) (rest := [(.int (((((((TM [d0, d1, d2, d3, d4, d5, d6, d7] fr ln (0 : Int32)) + (TM [d0, d1, d2, d3, d4, d5, d6, d7] fr ln (1 : Int32))) + (TM [d0, d1, d2, d3, d4, d5, d6, d7] fr ln (2 : Int32))) + (TM [d0, d1, d2, d3, d4, d5, d6, d7] fr ln (3 : Int32))) + (TM [d0, d1, d2, d3, d4, d5, d6, d7] fr ln (4 : Int32))) + (TM [d0, d1, d2, d3, d4, d5, d6, d7] fr ln (5 : Int32))) + (TM [d0, d1, d2, d3, d4, d5, d6, d7] fr ln (6 : Int32))))]) (hw _ (List.mem_of_getElem? (i := 2) rfl)) (hw _ (List.mem_of_getElem? (i := 3) rfl)) (hw _ (List.mem_of_getElem? (i := 4) rfl)) (hw _ (List.mem_of_getElem? (i := 5) rfl)) (by decide) (rm1 l Z a0 hw [] a1 fr ln (7 : Int32) a11 d0 d1 d2 d3 d4 d5 d6 d7 h20 A_a1 A_a11 hb1 hb2 hb3 (by decide)) rfl rfl eT (by decide) (by decide) (by decide) (by decide) (by rw [hml]; rfl) pd0 rfl rfl (Nat.le_of_ble_eq_true rfl) (hb hby at_261) (q := 264) rfl ?_
  intro T X eT
  refine s_iadd X hx (hb hby at_264) (q := 265) rfl ?_
  refine s_istore X hx (hb hby at_265) (L' := #[.val (.int x0), .val (.int x1), .val (.int x2), .val (.ref a1), .val (.int fr), .val (.int ln), .val (.ref a11), .val (.int ((((((((TM [d0, d1, d2, d3, d4, d5, d6, d7] fr ln (0 : Int32)) + (TM [d0, d1, d2, d3, d4, d5, d6, d7] fr ln (1 : Int32))) + (TM [d0, d1, d2, d3, d4, d5, d6, d7] fr ln (2 : Int32))) + (TM [d0, d1, d2, d3, d4, d5, d6, d7] fr ln (3 : Int32))) + (TM [d0, d1, d2, d3, d4, d5, d6, d7] fr ln (4 : Int32))) + (TM [d0, d1, d2, d3, d4, d5, d6, d7] fr ln (5 : Int32))) + (TM [d0, d1, d2, d3, d4, d5, d6, d7] fr ln (6 : Int32))) + (TM [d0, d1, d2, d3, d4, d5, d6, d7] fr ln (7 : Int32))))]) rfl (q := 267) rfl ?_
  refine s_aloadN X hx (hb hby at_267) rfl rfl (q := 268) rfl ?_
  refine s_iload X hx (hb hby at_268) rfl (q := 270) rfl ?_
  refine s_iload X hx (hb hby at_270) rfl (q := 272) rfl ?_
  refine callP X hx hZ hown (W := 0) (argsL := [(.ref a1), (.int fr), (.int ln)]) (rest := []) (hw _ (List.mem_of_getElem? (i := 6) rfl)) (hw _ (List.mem_of_getElem? (i := 7) rfl)) (hw _ (List.mem_of_getElem? (i := 8) rfl)) (hw _ (List.mem_of_getElem? (i := 9) rfl)) (by decide) (rm2 l Z a0 hw [] a1 fr ln d0 d1 d2 d3 d4 d5 d6 d7 h20 A_a1 hb1 hb2 hb3) rfl rfl eT (by decide) (by decide) (by decide) (by decide) (by rw [hml]; rfl) pd1 rfl rfl (Nat.le_of_ble_eq_true rfl) (hb hby at_272) (q := 275) rfl ?_
  intro T X eT
  refine s_iload X hx (hb hby at_275) rfl (q := 277) rfl ?_
  refine f_icmp_ne X hx (hb hby at_277) (q1 := 284) (by decide) (by decide) (q := 280) rfl (fun hq => absurd (own_main d0 d1 d2 d3 d4 d5 d6 d7 fr ln hb1 hb2 hb3 hb7 : (HF [d0, d1, d2, d3, d4, d5, d6, d7] fr.toInt.toNat ln.toInt.toNat 0) = ((((((((TM [d0, d1, d2, d3, d4, d5, d6, d7] fr ln (0 : Int32)) + (TM [d0, d1, d2, d3, d4, d5, d6, d7] fr ln (1 : Int32))) + (TM [d0, d1, d2, d3, d4, d5, d6, d7] fr ln (2 : Int32))) + (TM [d0, d1, d2, d3, d4, d5, d6, d7] fr ln (3 : Int32))) + (TM [d0, d1, d2, d3, d4, d5, d6, d7] fr ln (4 : Int32))) + (TM [d0, d1, d2, d3, d4, d5, d6, d7] fr ln (5 : Int32))) + (TM [d0, d1, d2, d3, d4, d5, d6, d7] fr ln (6 : Int32))) + (TM [d0, d1, d2, d3, d4, d5, d6, d7] fr ln (7 : Int32)))) hq) (fun _ => ?_)
  refine s_iconst X hx (z := (1 : Int32)) (hb hby at_280) rfl (q := 281) rfl ?_
  refine s_goto X hx (hb hby at_281) (q1 := 285) (by decide) (by decide) ?_
  exact leafN X hx hlk hret (by simp) (hb hby at_285) (by decide) (by decide) (z' := 1) rfl ⟨rfl, N⟩
set_option maxRecDepth 65536 in
set_option maxHeartbeats 40000000 in
theorem comes_1 {Post : Tables → Env → Array Value → State → Outcome → State → Prop} (hpost : ∀ tb e args s v u, (limb_1_1.after args s (.returned v) u = true ∧ limb_1_2.after args s (.returned v) u = true ∧ True) → FrameEnd s (.returned v) u (Jvm.fieldLocs frame_1_writes args s ++ Jvm.arrayLocs frame_1_arrays args s ++ Jvm.staticLocs frame_1_statics s) 16 128 → Post tb e args s (.returned v) u) :
    ArmFor flags0 classFile x code maxLocals ret World_1 tables_1 room_1 Calls_1 rest_1 Pre_1 Post := by
  intro l hfl _ _ p e ha hc hk s m args below hf hA hF happ hP
  obtain ⟨hcalls, hrest, hpre⟩ := hP
  obtain ⟨-, -, -, hnamed, -, -, -, hat⟩ := (Spec.applies_iff hf).mp happ
  obtain ⟨hg, hn⟩ := and_e (Cond.before_iff.mp (show (Jvm.Cond.and given_1 narrow_1).before args s = true from hpre))
  obtain ⟨g1, g2⟩ := and_e hg
  obtain ⟨g3, g4⟩ := and_e g2
  obtain ⟨g5, g6⟩ := and_e g4
  obtain ⟨w0, w1, w2, rfl⟩ : ∃ w0 w1 w2 : Value, args = #[w0, w1, w2] := by
    have hs : args.size = 3 := by simpa [Cond.value, given_1] using g1
    obtain ⟨L⟩ := args
    match L, hs with
    | [w0, w1, w2], _ => exact ⟨w0, w1, w2, rfl⟩
  have hw := fun d (hd : d ∈ tables_1) => atoms_spec (ws := Jvm.Cond.code x code maxLocals ret :: tables_1) hat d (List.mem_cons_of_mem _ hd)
  obtain ⟨i0, ei0⟩ := is_v g3
  obtain rfl : w0 = (.int i0) := Option.some.inj ei0
  obtain ⟨i1, ei1⟩ := is_v g5
  obtain rfl : w1 = (.int i1) := Option.some.inj ei1
  obtain ⟨i2, ei2⟩ := is_v g6
  obtain rfl : w2 = (.int i2) := Option.some.inj ei2
  obtain ⟨n, o, h1, h2, h3, _, L, rfl, ⟨rfl, N⟩, hq⟩ := rm0 l s _ hw tables_1 i0 i1 i2 s.heap s.heap.size (Nat.le_refl _) p e ha hc hk s m _ below hf ((Spec.applies_iff_loose hf).mp happ).1 ⟨rfl, State.Warmed39.refl s, rfl⟩ trivial
  refine ⟨n, _, h1, h2, h3, hpost _ _ _ _ _ _ ⟨Cond.after_iff.mpr rfl, Cond.after_iff.mpr (eq_i res_at (Term.int_eval (1)) rfl), trivial⟩ ⟨hq.1, hq.2.1, (hq.2.2.sift fun y hy => Or.inr (N y hy)).mono (by decide) (by decide)⟩⟩
theorem main_1_1 : Claimed_1_1 := comes_1 fun _ _ _ _ _ _ h hF => ⟨h.1, hF⟩
theorem main_1_2 : Claimed_1_2 := comes_1 fun _ _ _ _ _ _ h hF => ⟨h.2.1, hF⟩
end Jvm.Pilot.@@N@@
namespace Jvm.Pilot.@@N@@
open Jvm Jvm.ClassFile Sem Op Lib Jvm.Free Jvm.Stand Jvm.Pilot.@@N@@.Jvm.D
/-! MADE BY PROGRAM (witnessworld.py) out of the Statement's table words and the real class files: 9 classes; the members and pool entries that the words name. The judged class is class 1, her method 1. -/
namespace start1
open Jvm.ClassFile
def u (s : String) : CpInfo := .utf8 (stringToUtf16 s)
/-- a pool by its gaps: so many unusable entries, then the entry; so many at the end -/
def gap : Nat → List CpInfo → List CpInfo
  | 0, r => r
  | n + 1, r => .unusable :: gap n r
def poolList (es : List (Nat × CpInfo)) (last : Nat) : List CpInfo := es.foldr (fun e r => gap e.1 (e.2 :: r)) (gap last [])
def pool (es : List (Nat × CpInfo)) (last : Nat) : Array CpInfo := ⟨poolList es last⟩
def fileOf (pool : Array CpInfo) (this : Nat) (attrs : Array Attribute := #[]) (ms : Array MethodInfo := #[]) (fl : Nat := 33) (sup : Nat := 0) (ifs : Array Nat := #[]) (fds : Array FieldInfo := #[]) : ClassFile where
  minorVersion := 0
  majorVersion := 65
  constantPool := pool
  accessFlags := fl
  thisClass := this
  superClass := sup
  interfaces := ifs
  fields := fds
  methods := ms
  attributes := attrs
def plain (name : String) (sup : Option ClassId) : Class where
  name := name
  kind := .ordinary
  loader := none
  accessFlags := 33
  super := sup
  interfaces := #[]
  cf := none
  fields := #[]
  methods := #[]
  instanceTypes := #[]
  staticTypes := #[]
  resolved := #[]
  callSites := []
  init := .initialized
  statics := none
  mirror := none

def pool0 : Array CpInfo := pool [(5, u "<init>"), (0, u "()V"), (1, .class_ 10), (1, u "java/lang/Object")] 113

def k0m0 : Method := { name := "<init>", desc := "()V", sig := { parameters := [], returnType := none }, accessFlags := 1, code := none }
/-- java/lang/Object -/
def k0 : Class := { plain "java/lang/Object" none with
  accessFlags := 33
  interfaces := #[]
  cf := some (fileOf pool0 8 #[] #[{ accessFlags := 1, nameIndex := 5, descriptorIndex := 6, attributes := #[] }] 33 0 #[] #[])
  fields := #[]
  methods := #[k0m0]
  instanceTypes := #[]
  staticTypes := #[]
  resolved := Array.replicate 124 none
  statics := none }

def pool1 : Array CpInfo := pool [(2, .class_ 4), (1, u "java/lang/Object"), (0, u "<init>"), (0, u "()V"), (0, .methodref 8 9), (0, .class_ 10), (0, .nameAndType 11 12), (0, u "com/example/mass_terms/massterms/check/XmlNamesHashPinLaw"), (0, u "term"), (0, u "([BIII[I)I"), (0, .methodref 14 15), (0, .class_ 16), (0, .nameAndType 17 18), (0, u "com/example/mass_terms/massterms/check/XmlNames"), (0, u "hash"), (0, u "([BII)I"), (2, u "law"), (0, u "(III)Z")] 7

def k1m0 : Method := { name := "<init>", desc := "()V", sig := { parameters := [], returnType := none }, accessFlags := 1, code := none }
def k1c1 : Code := { maxStack := 6, maxLocals := 8, code := code, exceptionTable := #[], attributes := #[] }
def k1m1 : Method := { name := "law", desc := "(III)Z", sig := { parameters := [.int, .int, .int], returnType := some .boolean }, accessFlags := 9, code := some k1c1 }
def k1c2 : Code := { maxStack := 4, maxLocals := 5, code := method_3_code, exceptionTable := #[], attributes := #[] }
def k1m2 : Method := { name := "term", desc := "([BIII[I)I", sig := { parameters := [(.array .byte), .int, .int, .int, (.array .int)], returnType := some .int }, accessFlags := 10, code := some k1c2 }
/-- com/example/mass_terms/massterms/check/XmlNamesHashPinLaw -/
def k1 : Class := { plain "com/example/mass_terms/massterms/check/XmlNamesHashPinLaw" (some 0) with
  accessFlags := 49
  interfaces := #[]
  cf := some (fileOf pool1 8 #[] #[{ accessFlags := 1, nameIndex := 5, descriptorIndex := 6, attributes := #[] }, { accessFlags := 9, nameIndex := 21, descriptorIndex := 22, attributes := #[] }, { accessFlags := 10, nameIndex := 11, descriptorIndex := 12, attributes := #[] }] 49 2 #[] #[])
  fields := #[]
  methods := #[k1m0, k1m1, k1m2]
  instanceTypes := #[]
  staticTypes := #[]
  resolved := Array.replicate 30 none
  statics := none }

def pool2 : Array CpInfo := pool [(2, .class_ 4), (1, u "java/lang/Object"), (0, u "<init>"), (0, u "()V"), (0, .class_ 8), (0, u "com/example/mass_terms/massterms/check/XmlNames"), (4, u "keys"), (0, u "[[B"), (4, u "strings"), (0, u "[Ljava/lang/String;"), (2, u "stamps"), (0, u "[I"), (2, u "slot"), (0, u "I"), (2, u "hash"), (0, u "([BII)I"), (15, u "used"), (39, u "SLOTS")] 12

def k2m0 : Method := { name := "<init>", desc := "()V", sig := { parameters := [], returnType := none }, accessFlags := 0, code := none }
def k2c1 : Code := { maxStack := 3, maxLocals := 5, code := prog_51_method_6_code, exceptionTable := #[], attributes := #[] }
def k2m1 : Method := { name := "hash", desc := "([BII)I", sig := { parameters := [(.array .byte), .int, .int], returnType := some .int }, accessFlags := 8, code := some k2c1 }
/-- com/example/mass_terms/massterms/check/XmlNames -/
def k2 : Class := { plain "com/example/mass_terms/massterms/check/XmlNames" (some 0) with
  accessFlags := 32
  interfaces := #[]
  cf := some (fileOf pool2 7 #[] #[{ accessFlags := 0, nameIndex := 5, descriptorIndex := 6, attributes := #[] }, { accessFlags := 8, nameIndex := 31, descriptorIndex := 32, attributes := #[] }] 32 2 #[] #[{ accessFlags := 26, nameIndex := 88, descriptorIndex := 28, attributes := #[] }, { accessFlags := 18, nameIndex := 13, descriptorIndex := 14, attributes := #[] }, { accessFlags := 18, nameIndex := 19, descriptorIndex := 20, attributes := #[] }, { accessFlags := 18, nameIndex := 23, descriptorIndex := 24, attributes := #[] }, { accessFlags := 2, nameIndex := 48, descriptorIndex := 28, attributes := #[] }, { accessFlags := 2, nameIndex := 27, descriptorIndex := 28, attributes := #[] }])
  fields := #[{ name := "SLOTS", type := .int, accessFlags := 26, slot := 0, constantValue := 0 }, { name := "keys", type := (.array (.array .byte)), accessFlags := 18, slot := 0, constantValue := 0 }, { name := "strings", type := (.array (.object "java/lang/String")), accessFlags := 18, slot := 1, constantValue := 0 }, { name := "stamps", type := (.array .int), accessFlags := 18, slot := 2, constantValue := 0 }, { name := "used", type := .int, accessFlags := 2, slot := 3, constantValue := 0 }, { name := "slot", type := .int, accessFlags := 2, slot := 4, constantValue := 0 }]
  methods := #[k2m0, k2m1]
  instanceTypes := #[(.array (.array .byte)), (.array (.object "java/lang/String")), (.array .int), .int, .int]
  staticTypes := #[.int]
  resolved := Array.replicate 101 none
  statics := none }

def pool3 : Array CpInfo := pool [(1, u "java/lang/Cloneable"), (0, .class_ 1), (0, u "java/lang/Object"), (0, .class_ 3)] 3

/-- java/lang/Cloneable -/
def k3 : Class := { plain "java/lang/Cloneable" (some 0) with
  accessFlags := 1537
  interfaces := #[]
  cf := some (fileOf pool3 2 #[] #[] 1537 4 #[] #[])
  fields := #[]
  methods := #[]
  instanceTypes := #[]
  staticTypes := #[]
  resolved := Array.replicate 8 none
  statics := none }

def pool4 : Array CpInfo := pool [(1, u "java/io/Serializable"), (0, .class_ 1), (0, u "java/lang/Object"), (0, .class_ 3)] 3

/-- java/io/Serializable -/
def k4 : Class := { plain "java/io/Serializable" (some 0) with
  accessFlags := 1537
  interfaces := #[]
  cf := some (fileOf pool4 2 #[] #[] 1537 4 #[] #[])
  fields := #[]
  methods := #[]
  instanceTypes := #[]
  staticTypes := #[]
  resolved := Array.replicate 8 none
  statics := none }

/-- the primitive byte -/
def k5 : Class := { plain "byte" none with kind := .primitive 'B', accessFlags := 0x411 }
/-- [B -/
def k6 : Class := { plain "[B" (some 0) with kind := .array 5 .byte, interfaces := #[3, 4], accessFlags := 1041 }

/-- the primitive int -/
def k7 : Class := { plain "int" none with kind := .primitive 'I', accessFlags := 0x411 }
/-- [I -/
def k8 : Class := { plain "[I" (some 0) with kind := .array 7 .int, interfaces := #[3, 4], accessFlags := 1041 }

def heap : Heap := #[]
def classes : Array Class := #[k0, k1, k2, k3, k4, k5, k6, k7, k8]
def interned : List (Array UInt16 × Addr) := []
def slotsUsed : Nat := 0
def theMethod : MethodId := ⟨1, 1⟩
def args0 : Array Value := #[.int 5, .int 7, .int 20]
def aboutOver (below : List Frame) : State where
  vm := { classes := classes, interned := interned.toArray }
  heap := heap
  slotsUsed := slotsUsed
  threads := #[{ frames := .invoking theMethod args0 :: below }]
def below0 : List Frame := [.native { method := ⟨0, 0⟩, args := #[] }]
def about1 : State := aboutOver below0
def p0 : Program := .bare "" "" ""
def e0 : Env := launch0.env 0 0 0
theorem w_frames : about1.frames = Frame.invoking theMethod args0 :: below0 := rfl
set_option maxRecDepth 65536 in
theorem w_args : argsFit about1.vm theMethod args0 = true := by decide +kernel
set_option maxRecDepth 65536 in
theorem w_heap : heapFits about1 = true := by decide +kernel
set_option maxRecDepth 65536 in
theorem w_runnable : about1.curStatus? = some .runnable := by decide +kernel
set_option maxRecDepth 65536 in
theorem w_alone : about1.alone = true := by decide +kernel
set_option maxRecDepth 65536 in
theorem w_named : about1.methodNamed? x = some theMethod := by decide +kernel
set_option maxRecDepth 65536 in
theorem w_hears : about1.hears theMethod below0 = true := by decide +kernel
set_option maxRecDepth 65536 in
theorem w_ripe : about1.ripe theMethod args0 below0 = true := by decide +kernel
theorem w_running : about1.status = .running := rfl
set_option maxRecDepth 65536 in
theorem w_room : about1.hasRoom e0.platform room_1 = true :=
  launch0.hasRoom_least _ room_1 (by decide +kernel) (by decide +kernel) (by decide +kernel) (by decide +kernel) (by decide +kernel) (by decide +kernel)
theorem allAtoms_all (ts : List Jvm.Cond) (a : Array Jvm.Value) (st : Jvm.State) : (allAtoms ts).before a st = ts.all (fun c => c.before a st) := by
  induction ts with
  | nil => rfl
  | cons c t ih =>
    show (Jvm.Cond.and c (allAtoms t)).before a st = _
    rw [Jvm.Cond.before_and, ih, List.all_cons]
def words1 : List Jvm.Cond := Jvm.Cond.code x code maxLocals ret :: tables_1
/-- a 'code' word, met by the world's own term for the bytes: nothing is compared byte by byte -/
theorem code_word {y : MethodName} {bytes : ByteArray} {mx : Nat} {rt : Option FieldType} {a : Array Value} {s : State} {m : MethodId} {meth : Method} {c : Code} (h1 : s.methodNamed? y = some m) (h2 : s.vm.method? m = some meth) (h3 : meth.code = some c) (h4 : c.code = bytes)
    (h5 : (c.maxLocals == mx && c.exceptionTable.isEmpty && decide (c.maxStack ≤ mostOperands) && decide (meth.sig.returnType = rt) && !meth.locks && decide (parseMethodDescriptor y.desc = some meth.sig)) = true) : (Jvm.Cond.code y bytes mx rt).before a s = true := by
  simp only [Bool.and_eq_true, beq_iff_eq, Bool.not_eq_true', decide_eq_true_eq] at h5
  obtain ⟨⟨⟨⟨⟨g1, g2⟩, g3⟩, g4⟩, g5⟩, g6⟩ := h5
  simp [Cond.before, Cond.holds, Cond.value, h1, h2, h3, h4, g1, g2, g3, g4, g5, g6]
def isCode : Jvm.Cond → Bool
  | .code _ _ _ _ => true
  | _ => false
theorem all_split {L : List Jvm.Cond} {P : Jvm.Cond → Bool} (h1 : L.all (fun c => isCode c || P c) = true) (h2 : ∀ c ∈ L.filter isCode, P c = true) : L.all P = true := by
  refine List.all_eq_true.mpr fun c hc => ?_
  have h := List.all_eq_true.mp h1 c hc
  rcases Bool.eq_false_or_eq_true (isCode c) with hi | hi
  · exact h2 c (List.mem_filter.mpr ⟨hc, hi⟩)
  · simpa [hi] using h
set_option maxRecDepth 65536 in
theorem w_c0 : (Jvm.Cond.code x code maxLocals ret).before args0 about1 = true := code_word (m := ⟨1, 1⟩) (meth := k1m1) (c := k1c1) (by decide +kernel) rfl rfl rfl (by decide +kernel)
set_option maxRecDepth 65536 in
theorem w_c1 : (Jvm.Cond.code ({ cls := "com/example/mass_terms/massterms/check/XmlNamesHashPinLaw", name := "term", desc := "([BIII[I)I" } : Jvm.MethodName) method_3_code (5 : Nat) (Option.some Jvm.ClassFile.FieldType.int)).before args0 about1 = true := code_word (m := ⟨1, 2⟩) (meth := k1m2) (c := k1c2) (by decide +kernel) rfl rfl rfl (by decide +kernel)
set_option maxRecDepth 65536 in
theorem w_c2 : (Jvm.Cond.code ({ cls := "com/example/mass_terms/massterms/check/XmlNames", name := "hash", desc := "([BII)I" } : Jvm.MethodName) prog_51_method_6_code (5 : Nat) (Option.some Jvm.ClassFile.FieldType.int)).before args0 about1 = true := code_word (m := ⟨2, 1⟩) (meth := k2m1) (c := k2c1) (by decide +kernel) rfl rfl rfl (by decide +kernel)
def codes1 : List Jvm.Cond := [Jvm.Cond.code x code maxLocals ret, Jvm.Cond.code ({ cls := "com/example/mass_terms/massterms/check/XmlNamesHashPinLaw", name := "term", desc := "([BIII[I)I" } : Jvm.MethodName) method_3_code (5 : Nat) (Option.some Jvm.ClassFile.FieldType.int), Jvm.Cond.code ({ cls := "com/example/mass_terms/massterms/check/XmlNames", name := "hash", desc := "([BII)I" } : Jvm.MethodName) prog_51_method_6_code (5 : Nat) (Option.some Jvm.ClassFile.FieldType.int)]
set_option maxRecDepth 65536 in
theorem codes_eq : words1.filter isCode = codes1 := rfl
theorem w_codes : ∀ c ∈ words1.filter isCode, c.before args0 about1 = true := by
  rw [codes_eq]
  intro c hc
  simp only [codes1, List.mem_cons, List.not_mem_nil, or_false] at hc
  rcases hc with rfl | rfl | rfl
  · exact w_c0
  · exact w_c1
  · exact w_c2
set_option maxRecDepth 65536 in
theorem w_t1 : words1.all (fun c => isCode c || c.before args0 about1) = true := by decide +kernel
theorem w_tables : (allAtoms (Jvm.Cond.code x code maxLocals ret :: tables_1)).before args0 about1 = true := by
  rw [allAtoms_all]
  show words1.all (fun c => c.before args0 about1) = true
  refine all_split ?_ w_codes
  rw [w_t1]
set_option maxRecDepth 65536 in
theorem w_case : (Jvm.Cond.and given_1 narrow_1).before args0 about1 = true := by decide +kernel
theorem w_applies : (headSpec (Jvm.Cond.code x code maxLocals ret :: tables_1) room_1).applies x e0.platform about1 = true :=
  (Spec.applies_iff w_frames).mpr ⟨w_running, w_runnable, w_alone, w_named, w_hears, w_ripe, w_room, w_tables⟩
theorem atStart : AtStart classFile x code maxLocals ret World_1 tables_1 room_1 Calls_1 rest_1 Pre_1 launch0 p0 e0 about1 theMethod args0 below0 :=
  ⟨lists_1, trivial, launch0.admits_env _ _ _, launch0.least_env, fairChoices_fair.cas, fairChoices_fair.clock, w_frames, w_args, w_heap, w_applies, trivial, trivial, w_case⟩
end start1
theorem witness_1 : WitnessClaimed_1 := ⟨start1.p0, start1.e0, start1.about1, start1.theMethod, start1.args0, start1.below0, start1.atStart⟩
end Jvm.Pilot.@@N@@
