import JvmDerived
import JvmDerived.Pilot.@@N@@Statement
import JvmDerived.Pilot.@@N@@Code
set_option linter.unusedVariables false
set_option linter.unusedSimpArgs false
namespace Jvm.RoadKit
open Sem ClassFile Op Lib Jvm.Stand Jvm.Free Jvm.LawKit
section New
variable {p : Program} {l : Launch} {e : Env} {R : Room} {s : State} {m : MethodId} {args : Array Value} {below : List Frame} {meth : Method} {c : Code} {T : State} {locs : List Loc} {cells slots : Nat}
theorem retI (X : Stand p l e R s m args below meth c T locs cells slots) (hx : p.tables.exec = Jvm.exec) {pc : Nat} {Ls : Array Slot} {z : Int32} {rest : List Value} (hret : meth.sig.returnType = some .int) (hd : decode c.code pc = .ok (.ireturn, 1)) {fs : List Frame}
    (hl : ∀ (f : JFrame) (acts : List Action), f.method = m → f.locked = none → f.entered = [] → (doReturn e (T.setTop f) acts (some (.int z))).1 = T.setFrames fs) : Steps p.tables e below (T.setTop (mkF m pc Ls (.int z :: rest))) (T.setFrames fs) := by
  have hm' : T.vm.method? m = some meth := X.method'
  have hn : narrow .int (.int z) = .int z := rfl
  show Steps p.tables e below (T.setTop { method := m, pc := pc, locals := Ls, stack := _ :: rest, locked := none }) _
  jvm_step X.here [X.here.top, hx, hd, hm', hret, hn]
  first | (intro acts; rw [hl _ acts rfl rfl rfl]) | rw [hl _ _ rfl rfl rfl]
  exact Steps.refl _
end New
end Jvm.RoadKit
namespace Jvm.Pilot.@@N@@
open Jvm Jvm.ClassFile Sem Op Lib Jvm.Free Jvm.Stand Jvm.LawKit Jvm.RoadKit Bundle Jvm.Pilot.@@N@@.Jvm.D
section Kit
variable {p : Program} {l : Launch} {e : Env} {R : Room} {s : State} {m : MethodId} {args : Array Value} {below : List Frame} {meth : Method} {c : Code} {T : State} {locs : List Loc} {cells slots : Nat} {G : State → Prop} {L L' : Array Slot} {S : List Value} {pc q q1 : Nat}
/-- from this frame the run comes to a state of which G holds -/
def Go (p : Program) (e : Env) (below : List Frame) (G : State → Prop) (T : State) (m : MethodId) (pc : Nat) (L : Array Slot) (S : List Value) : Prop := ∃ t, Steps p.tables e below (T.setTop (mkF m pc L S)) t ∧ G t
theorem Go.st {T' : State} {m' : MethodId} {pc' : Nat} {S' : List Value} (h : ∀ t, Steps p.tables e below (T'.setTop (mkF m' pc' L' S')) t → Steps p.tables e below (T.setTop (mkF m pc L S)) t) (k : Go p e below G T' m' pc' L' S') : Go p e below G T m pc L S := by
  obtain ⟨t, h1, h2⟩ := k; exact ⟨t, h t h1, h2⟩
theorem jn {T2 : State} {pc2 : Nat} {L2 : Array Slot} {S2 : List Value} (k : Go p e below G T2 m pc2 L2 S2 → Go p e below G T m pc L S) (K : Go p e below G T2 m pc2 L2 S2) : Go p e below G T m pc L S := k K
/-- what a body that returns leaves -/
def Gl (s : State) (below : List Frame) (Q : Option Value → Heap → List Loc → Prop) (C N : Nat) (t : State) : Prop := ∃ o, t.status = .running ∧ Ended t below o ∧ ∃ v L, o = .returned v ∧ Q v t.heap L ∧ FrameEnd s o t L C N
/-- a contract -/
def Ctr (l : Launch) (y : MethodName) (code : ByteArray) (ml : Nat) (ret : Option FieldType) (ws : List Jvm.Cond) (rm : Room) (Z : State) (as' : Array Value) (h0 : Heap) (Q : Option Value → Heap → List Loc → Prop) (C N : Nat) : Prop :=
  MetFree l y (head1 (Jvm.Cond.code y code ml ret :: ws) rm) (fun a U => a = as' ∧ Z.Warmed39 U.vm ∧ U.heap = h0) (fun _ _ _ _ _ => True) (fun _ U o U' => ∃ v L, o = .returned v ∧ Q v U'.heap L ∧ FrameEnd U o U' L C N)
theorem Ctr.mk {y : MethodName} {code : ByteArray} {ml : Nat} {ret : Option FieldType} {ws : List Jvm.Cond} {rm : Room} {Z : State} {as' : Array Value} {h0 : Heap} {Q : Option Value → Heap → List Loc → Prop} {C N : Nat} (hp : plainFor y = true)
    (body : ∀ (p : Program) (e : Env) (s : State) (m : MethodId) (below : List Frame) (meth : Method) (c : Code) (T : State), p.tables.exec = Jvm.exec → c.code = code → c.maxLocals = ml → s.vm.findClass y.cls = some m.cls → meth.name = y.name → meth.locks = false → meth.sig.returnType = ret → Z.Warmed39 s.vm → Stand p l e rm s m as' below meth c T [] 0 0 → T.heap = h0 → ∃ t, Steps p.tables e below (T.setTop (entryFrame m as' ml)) t ∧ Gl s below Q C N t) : Ctr l y code ml ret ws rm Z as' h0 Q C N := by
  refine MetFree.of_bodySF hp hisR ?_
  intro p e s m args below meth c s₁ Bd hml0 hP hK
  obtain ⟨rfl, hZ, hh⟩ := hP
  obtain ⟨t, h1, o, h2, h3, h4⟩ := body p e s m below meth c s₁ Bd.exec Bd.bytes hml0 (findClass_of_methodNamed Bd.named) (name_of_methodNamed Bd.named Bd.method).1 Bd.notSynchronized Bd.returns hZ (Stand.of_body Bd) (by rw [← hh, Bd.state]; rfl)
  exact ⟨t, o, h1, h2, h3, h4⟩
theorem enter {as' : Array Value} {ml : Nat} (q : entryFrame m as' ml = mkF m 0 L []) (k : Go p e below G T m 0 L []) : ∃ t, Steps p.tables e below (T.setTop (entryFrame m as' ml)) t ∧ G t := by
  rw [q]; exact k
theorem s_iloadN (X : Stand p l e R s m args below meth c T locs cells slots) (hx : p.tables.exec = Jvm.exec) {k : Fin 4} {v : Int32} (hd : decode c.code pc = .ok (.iload_n k, 1)) (hl : L[k.val]? = some (.val (.int v))) (hq : pc + 1 = q) (K : Go p e below G T m q L (.int v :: S)) : Go p e below G T m pc L S := by
  subst hq; exact Go.st (fun t k => XS.iloadN X.here hx rfl hd hl k) K
theorem s_iload (X : Stand p l e R s m args below meth c T locs cells slots) (hx : p.tables.exec = Jvm.exec) {k : Nat} {v : Int32} (hd : decode c.code pc = .ok (.iload k, 2)) (hl : L[k]? = some (.val (.int v))) (hq : pc + 2 = q) (K : Go p e below G T m q L (.int v :: S)) : Go p e below G T m pc L S := by
  subst hq; exact Go.st (fun t k => XS.iload X.here hx rfl hd hl k) K
theorem s_lloadN (X : Stand p l e R s m args below meth c T locs cells slots) (hx : p.tables.exec = Jvm.exec) {k : Fin 4} {v : Int64} (hd : decode c.code pc = .ok (.lload_n k, 1)) (hl : L[k.val]? = some (.val (.long v))) (hq : pc + 1 = q) (K : Go p e below G T m q L (.long v :: S)) : Go p e below G T m pc L S := by
  subst hq; exact Go.st (fun t k => XS.lloadN X.here hx rfl hd hl k) K
theorem s_lload (X : Stand p l e R s m args below meth c T locs cells slots) (hx : p.tables.exec = Jvm.exec) {k : Nat} {v : Int64} (hd : decode c.code pc = .ok (.lload k, 2)) (hl : L[k]? = some (.val (.long v))) (hq : pc + 2 = q) (K : Go p e below G T m q L (.long v :: S)) : Go p e below G T m pc L S := by
  subst hq; exact Go.st (fun t k => XS.lload X.here hx rfl hd hl k) K
theorem s_aloadN (X : Stand p l e R s m args below meth c T locs cells slots) (hx : p.tables.exec = Jvm.exec) {k : Fin 4} {v : Value} (hd : decode c.code pc = .ok (.aload_n k, 1)) (hl : L[k.val]? = some (.val v)) (hv : v.isRef = true) (hq : pc + 1 = q) (K : Go p e below G T m q L (v :: S)) : Go p e below G T m pc L S := by
  subst hq; exact Go.st (fun t k => XS.aloadN X.here hx rfl hd hl hv k) K
theorem s_aload (X : Stand p l e R s m args below meth c T locs cells slots) (hx : p.tables.exec = Jvm.exec) {k : Nat} {v : Value} (hd : decode c.code pc = .ok (.aload k, 2)) (hl : L[k]? = some (.val v)) (hv : v.isRef = true) (hq : pc + 2 = q) (K : Go p e below G T m q L (v :: S)) : Go p e below G T m pc L S := by
  subst hq; exact Go.st (fun t k => XS.aload X.here hx rfl hd hl hv k) K
theorem s_istoreN (X : Stand p l e R s m args below meth c T locs cells slots) (hx : p.tables.exec = Jvm.exec) {k : Fin 4} {x : Int32} (hd : decode c.code pc = .ok (.istore_n k, 1)) (hl : storeLocals L k.val (.int x) = some L') (hq : pc + 1 = q) (K : Go p e below G T m q L' S) : Go p e below G T m pc L (.int x :: S) := by
  subst hq; exact Go.st (fun t k => XS.istoreN X.here hx rfl hd rfl hl k) K
theorem s_istore (X : Stand p l e R s m args below meth c T locs cells slots) (hx : p.tables.exec = Jvm.exec) {k : Nat} {x : Int32} (hd : decode c.code pc = .ok (.istore k, 2)) (hl : storeLocals L k (.int x) = some L') (hq : pc + 2 = q) (K : Go p e below G T m q L' S) : Go p e below G T m pc L (.int x :: S) := by
  subst hq; exact Go.st (fun t k => XS.istore X.here hx rfl hd rfl hl k) K
theorem s_lstoreN (X : Stand p l e R s m args below meth c T locs cells slots) (hx : p.tables.exec = Jvm.exec) {k : Fin 4} {x : Int64} (hd : decode c.code pc = .ok (.lstore_n k, 1)) (hl : storeLocals L k.val (.long x) = some L') (hq : pc + 1 = q) (K : Go p e below G T m q L' S) : Go p e below G T m pc L (.long x :: S) := by
  subst hq; exact Go.st (fun t k => XS.lstoreN X.here hx rfl hd rfl hl k) K
theorem s_lstore (X : Stand p l e R s m args below meth c T locs cells slots) (hx : p.tables.exec = Jvm.exec) {k : Nat} {x : Int64} (hd : decode c.code pc = .ok (.lstore k, 2)) (hl : storeLocals L k (.long x) = some L') (hq : pc + 2 = q) (K : Go p e below G T m q L' S) : Go p e below G T m pc L (.long x :: S) := by
  subst hq; exact Go.st (fun t k => XS.lstore X.here hx rfl hd rfl hl k) K
theorem s_astoreN (X : Stand p l e R s m args below meth c T locs cells slots) (hx : p.tables.exec = Jvm.exec) {k : Fin 4} {x : Value} (hd : decode c.code pc = .ok (.astore_n k, 1)) (hv : x.isRef = true) (hl : storeLocals L k.val x = some L') (hq : pc + 1 = q) (K : Go p e below G T m q L' S) : Go p e below G T m pc L (x :: S) := by
  subst hq; exact Go.st (fun t k => XS.astoreN X.here hx rfl hd rfl hv hl k) K
theorem s_astore (X : Stand p l e R s m args below meth c T locs cells slots) (hx : p.tables.exec = Jvm.exec) {k : Nat} {x : Value} (hd : decode c.code pc = .ok (.astore k, 2)) (hv : x.isRef = true) (hl : storeLocals L k x = some L') (hq : pc + 2 = q) (K : Go p e below G T m q L' S) : Go p e below G T m pc L (x :: S) := by
  subst hq; exact Go.st (fun t k => XS.astore X.here hx rfl hd rfl hv hl k) K
theorem s_iconst (X : Stand p l e R s m args below meth c T locs cells slots) (hx : p.tables.exec = Jvm.exec) {i : Int} {z : Int32} (hd : decode c.code pc = .ok (.iconst i, 1)) (hz : Int32.ofInt i = z) (hq : pc + 1 = q) (K : Go p e below G T m q L (.int z :: S)) : Go p e below G T m pc L S := by
  subst hq hz; exact Go.st (fun t k => XS.iconst X.here hx rfl hd k) K
theorem s_bipush (X : Stand p l e R s m args below meth c T locs cells slots) (hx : p.tables.exec = Jvm.exec) {i : Int} {z : Int32} (hd : decode c.code pc = .ok (.bipush i, 2)) (hz : (Int8.ofInt i).toInt32 = z) (hq : pc + 2 = q) (K : Go p e below G T m q L (.int z :: S)) : Go p e below G T m pc L S := by
  subst hq hz; exact Go.st (fun t k => XS.bipush X.here hx rfl hd k) K
theorem s_sipush (X : Stand p l e R s m args below meth c T locs cells slots) (hx : p.tables.exec = Jvm.exec) {i : Int} {z : Int32} (hd : decode c.code pc = .ok (.sipush i, 3)) (hz : (Int16.ofInt i).toInt32 = z) (hq : pc + 3 = q) (K : Go p e below G T m q L (.int z :: S)) : Go p e below G T m pc L S := by
  subst hq hz; exact Go.st (fun t k => XS.sipush X.here hx rfl hd k) K
theorem s_lconst (X : Stand p l e R s m args below meth c T locs cells slots) (hx : p.tables.exec = Jvm.exec) {i : Fin 2} {z : Int64} (hd : decode c.code pc = .ok (.lconst i, 1)) (hz : Int64.ofNat i.val = z) (hq : pc + 1 = q) (K : Go p e below G T m q L (.long z :: S)) : Go p e below G T m pc L S := by
  subst hq hz; exact Go.st (fun t k => XS.lconst X.here hx rfl hd k) K
theorem s_aconst_null (X : Stand p l e R s m args below meth c T locs cells slots) (hx : p.tables.exec = Jvm.exec)  (hd : decode c.code pc = .ok (.aconst_null, 1))  (hq : pc + 1 = q) (K : Go p e below G T m q L (.null :: S)) : Go p e below G T m pc L S := by
  subst hq; exact Go.st (fun t k => XS.aconstNull X.here hx rfl hd k) K
theorem s_iadd (X : Stand p l e R s m args below meth c T locs cells slots) (hx : p.tables.exec = Jvm.exec) {x y : Int32} (hd : decode c.code pc = .ok (.iadd, 1))  (hq : pc + 1 = q) (K : Go p e below G T m q L (.int (x + y) :: S)) : Go p e below G T m pc L (.int y :: .int x :: S) := by
  subst hq; exact Go.st (fun t k => XS.iadd X.here hx rfl hd rfl k) K
theorem s_isub (X : Stand p l e R s m args below meth c T locs cells slots) (hx : p.tables.exec = Jvm.exec) {x y : Int32} (hd : decode c.code pc = .ok (.isub, 1))  (hq : pc + 1 = q) (K : Go p e below G T m q L (.int (x - y) :: S)) : Go p e below G T m pc L (.int y :: .int x :: S) := by
  subst hq; exact Go.st (fun t k => XS.isub X.here hx rfl hd rfl k) K
theorem s_imul (X : Stand p l e R s m args below meth c T locs cells slots) (hx : p.tables.exec = Jvm.exec) {x y : Int32} (hd : decode c.code pc = .ok (.imul, 1))  (hq : pc + 1 = q) (K : Go p e below G T m q L (.int (x * y) :: S)) : Go p e below G T m pc L (.int y :: .int x :: S) := by
  subst hq; exact Go.st (fun t k => XS.imul X.here hx rfl hd rfl k) K
theorem s_iand (X : Stand p l e R s m args below meth c T locs cells slots) (hx : p.tables.exec = Jvm.exec) {x y : Int32} (hd : decode c.code pc = .ok (.iand, 1))  (hq : pc + 1 = q) (K : Go p e below G T m q L (.int (x &&& y) :: S)) : Go p e below G T m pc L (.int y :: .int x :: S) := by
  subst hq; exact Go.st (fun t k => XS.iand X.here hx rfl hd rfl k) K
theorem s_ior (X : Stand p l e R s m args below meth c T locs cells slots) (hx : p.tables.exec = Jvm.exec) {x y : Int32} (hd : decode c.code pc = .ok (.ior, 1))  (hq : pc + 1 = q) (K : Go p e below G T m q L (.int (x ||| y) :: S)) : Go p e below G T m pc L (.int y :: .int x :: S) := by
  subst hq; exact Go.st (fun t k => XS.ior X.here hx rfl hd rfl k) K
theorem s_ixor (X : Stand p l e R s m args below meth c T locs cells slots) (hx : p.tables.exec = Jvm.exec) {x y : Int32} (hd : decode c.code pc = .ok (.ixor, 1))  (hq : pc + 1 = q) (K : Go p e below G T m q L (.int (x ^^^ y) :: S)) : Go p e below G T m pc L (.int y :: .int x :: S) := by
  subst hq; exact Go.st (fun t k => XS.ixor X.here hx rfl hd rfl k) K
theorem s_ladd (X : Stand p l e R s m args below meth c T locs cells slots) (hx : p.tables.exec = Jvm.exec) {x y : Int64} (hd : decode c.code pc = .ok (.ladd, 1))  (hq : pc + 1 = q) (K : Go p e below G T m q L (.long (x + y) :: S)) : Go p e below G T m pc L (.long y :: .long x :: S) := by
  subst hq; exact Go.st (fun t k => XS.ladd X.here hx rfl hd rfl k) K
theorem s_lsub (X : Stand p l e R s m args below meth c T locs cells slots) (hx : p.tables.exec = Jvm.exec) {x y : Int64} (hd : decode c.code pc = .ok (.lsub, 1))  (hq : pc + 1 = q) (K : Go p e below G T m q L (.long (x - y) :: S)) : Go p e below G T m pc L (.long y :: .long x :: S) := by
  subst hq; exact Go.st (fun t k => XS.lsub X.here hx rfl hd rfl k) K
theorem s_lmul (X : Stand p l e R s m args below meth c T locs cells slots) (hx : p.tables.exec = Jvm.exec) {x y : Int64} (hd : decode c.code pc = .ok (.lmul, 1))  (hq : pc + 1 = q) (K : Go p e below G T m q L (.long (x * y) :: S)) : Go p e below G T m pc L (.long y :: .long x :: S) := by
  subst hq; exact Go.st (fun t k => XS.lmul X.here hx rfl hd rfl k) K
theorem s_land (X : Stand p l e R s m args below meth c T locs cells slots) (hx : p.tables.exec = Jvm.exec) {x y : Int64} (hd : decode c.code pc = .ok (.land, 1))  (hq : pc + 1 = q) (K : Go p e below G T m q L (.long (x &&& y) :: S)) : Go p e below G T m pc L (.long y :: .long x :: S) := by
  subst hq; exact Go.st (fun t k => XS.land X.here hx rfl hd rfl k) K
theorem s_lor (X : Stand p l e R s m args below meth c T locs cells slots) (hx : p.tables.exec = Jvm.exec) {x y : Int64} (hd : decode c.code pc = .ok (.lor, 1))  (hq : pc + 1 = q) (K : Go p e below G T m q L (.long (x ||| y) :: S)) : Go p e below G T m pc L (.long y :: .long x :: S) := by
  subst hq; exact Go.st (fun t k => XS.lor X.here hx rfl hd rfl k) K
theorem s_lxor (X : Stand p l e R s m args below meth c T locs cells slots) (hx : p.tables.exec = Jvm.exec) {x y : Int64} (hd : decode c.code pc = .ok (.lxor, 1))  (hq : pc + 1 = q) (K : Go p e below G T m q L (.long (x ^^^ y) :: S)) : Go p e below G T m pc L (.long y :: .long x :: S) := by
  subst hq; exact Go.st (fun t k => XS.lxor X.here hx rfl hd rfl k) K
theorem s_ishl (X : Stand p l e R s m args below meth c T locs cells slots) (hx : p.tables.exec = Jvm.exec) {x y : Int32} (hd : decode c.code pc = .ok (.ishl, 1))  (hq : pc + 1 = q) (K : Go p e below G T m q L (.int (x <<< (y &&& 31)) :: S)) : Go p e below G T m pc L (.int y :: .int x :: S) := by
  subst hq; exact Go.st (fun t k => XS.ishl X.here hx rfl hd rfl k) K
theorem s_ishr (X : Stand p l e R s m args below meth c T locs cells slots) (hx : p.tables.exec = Jvm.exec) {x y : Int32} (hd : decode c.code pc = .ok (.ishr, 1))  (hq : pc + 1 = q) (K : Go p e below G T m q L (.int (x >>> (y &&& 31)) :: S)) : Go p e below G T m pc L (.int y :: .int x :: S) := by
  subst hq; exact Go.st (fun t k => XS.ishr X.here hx rfl hd rfl k) K
theorem s_iushr (X : Stand p l e R s m args below meth c T locs cells slots) (hx : p.tables.exec = Jvm.exec) {x y : Int32} (hd : decode c.code pc = .ok (.iushr, 1))  (hq : pc + 1 = q) (K : Go p e below G T m q L (.int ((x.toUInt32 >>> (y &&& 31).toUInt32).toInt32) :: S)) : Go p e below G T m pc L (.int y :: .int x :: S) := by
  subst hq; exact Go.st (fun t k => XS.iushr X.here hx rfl hd rfl k) K
theorem s_lshl (X : Stand p l e R s m args below meth c T locs cells slots) (hx : p.tables.exec = Jvm.exec) {x : Int64} {y : Int32} (hd : decode c.code pc = .ok (.lshl, 1))  (hq : pc + 1 = q) (K : Go p e below G T m q L (.long (x <<< (y &&& 0x3f).toInt64) :: S)) : Go p e below G T m pc L (.int y :: .long x :: S) := by
  subst hq; exact Go.st (fun t k => XS.lshl X.here hx rfl hd rfl k) K
theorem s_lshr (X : Stand p l e R s m args below meth c T locs cells slots) (hx : p.tables.exec = Jvm.exec) {x : Int64} {y : Int32} (hd : decode c.code pc = .ok (.lshr, 1))  (hq : pc + 1 = q) (K : Go p e below G T m q L (.long (x >>> (y &&& 0x3f).toInt64) :: S)) : Go p e below G T m pc L (.int y :: .long x :: S) := by
  subst hq; exact Go.st (fun t k => XS.lshr X.here hx rfl hd rfl k) K
theorem s_lushr (X : Stand p l e R s m args below meth c T locs cells slots) (hx : p.tables.exec = Jvm.exec) {x : Int64} {y : Int32} (hd : decode c.code pc = .ok (.lushr, 1))  (hq : pc + 1 = q) (K : Go p e below G T m q L (.long ((x.toUInt64 >>> (y &&& 0x3f).toInt64.toUInt64).toInt64) :: S)) : Go p e below G T m pc L (.int y :: .long x :: S) := by
  subst hq; exact Go.st (fun t k => XS.lushr X.here hx rfl hd rfl k) K
theorem s_idiv (X : Stand p l e R s m args below meth c T locs cells slots) (hx : p.tables.exec = Jvm.exec) {x y : Int32} (hd : decode c.code pc = .ok (.idiv, 1)) (hy : y ≠ 0) (hq : pc + 1 = q) (K : Go p e below G T m q L (.int (x / y) :: S)) : Go p e below G T m pc L (.int y :: .int x :: S) := by
  subst hq; exact Go.st (fun t k => XS.idiv X.here hx rfl hd rfl hy k) K
theorem s_ldiv (X : Stand p l e R s m args below meth c T locs cells slots) (hx : p.tables.exec = Jvm.exec) {x y : Int64} (hd : decode c.code pc = .ok (.ldiv, 1)) (hy : y ≠ 0) (hq : pc + 1 = q) (K : Go p e below G T m q L (.long (x / y) :: S)) : Go p e below G T m pc L (.long y :: .long x :: S) := by
  subst hq; exact Go.st (fun t k => XS.ldiv X.here hx rfl hd rfl hy k) K
theorem s_ineg (X : Stand p l e R s m args below meth c T locs cells slots) (hx : p.tables.exec = Jvm.exec) {x : Int32} (hd : decode c.code pc = .ok (.ineg, 1))  (hq : pc + 1 = q) (K : Go p e below G T m q L (.int (-x) :: S)) : Go p e below G T m pc L (.int x :: S) := by
  subst hq; exact Go.st (fun t k => XS.ineg X.here hx rfl hd rfl k) K
theorem s_lneg (X : Stand p l e R s m args below meth c T locs cells slots) (hx : p.tables.exec = Jvm.exec) {x : Int64} (hd : decode c.code pc = .ok (.lneg, 1))  (hq : pc + 1 = q) (K : Go p e below G T m q L (.long (-x) :: S)) : Go p e below G T m pc L (.long x :: S) := by
  subst hq; exact Go.st (fun t k => XS.lneg X.here hx rfl hd rfl k) K
theorem s_i2l (X : Stand p l e R s m args below meth c T locs cells slots) (hx : p.tables.exec = Jvm.exec) {x : Int32} (hd : decode c.code pc = .ok (.i2l, 1))  (hq : pc + 1 = q) (K : Go p e below G T m q L (.long x.toInt64 :: S)) : Go p e below G T m pc L (.int x :: S) := by
  subst hq; exact Go.st (fun t k => XS.i2l X.here hx rfl hd rfl k) K
theorem s_l2i (X : Stand p l e R s m args below meth c T locs cells slots) (hx : p.tables.exec = Jvm.exec) {x : Int64} (hd : decode c.code pc = .ok (.l2i, 1))  (hq : pc + 1 = q) (K : Go p e below G T m q L (.int x.toInt32 :: S)) : Go p e below G T m pc L (.long x :: S) := by
  subst hq; exact Go.st (fun t k => XS.l2i X.here hx rfl hd rfl k) K
theorem s_i2b (X : Stand p l e R s m args below meth c T locs cells slots) (hx : p.tables.exec = Jvm.exec) {x : Int32} (hd : decode c.code pc = .ok (.i2b, 1))  (hq : pc + 1 = q) (K : Go p e below G T m q L (.int x.toInt8.toInt32 :: S)) : Go p e below G T m pc L (.int x :: S) := by
  subst hq; exact Go.st (fun t k => XS.i2b X.here hx rfl hd rfl k) K
theorem s_i2c (X : Stand p l e R s m args below meth c T locs cells slots) (hx : p.tables.exec = Jvm.exec) {x : Int32} (hd : decode c.code pc = .ok (.i2c, 1))  (hq : pc + 1 = q) (K : Go p e below G T m q L (.int x.toUInt32.toUInt16.toUInt32.toInt32 :: S)) : Go p e below G T m pc L (.int x :: S) := by
  subst hq; exact Go.st (fun t k => XS.i2c X.here hx rfl hd rfl k) K
theorem s_i2s (X : Stand p l e R s m args below meth c T locs cells slots) (hx : p.tables.exec = Jvm.exec) {x : Int32} (hd : decode c.code pc = .ok (.i2s, 1))  (hq : pc + 1 = q) (K : Go p e below G T m q L (.int x.toInt16.toInt32 :: S)) : Go p e below G T m pc L (.int x :: S) := by
  subst hq; exact Go.st (fun t k => XS.i2s X.here hx rfl hd rfl k) K
theorem s_lcmp (X : Stand p l e R s m args below meth c T locs cells slots) (hx : p.tables.exec = Jvm.exec) {x y : Int64} (hd : decode c.code pc = .ok (.lcmp, 1))  (hq : pc + 1 = q) (K : Go p e below G T m q L (.int (lcmpW x y) :: S)) : Go p e below G T m pc L (.long y :: .long x :: S) := by
  subst hq; exact Go.st (fun t k => XS.lcmp X.here hx rfl hd rfl k) K
theorem s_iinc (X : Stand p l e R s m args below meth c T locs cells slots) (hx : p.tables.exec = Jvm.exec) {k : Nat} {cst : Int} {x w : Int32} (hd : decode c.code pc = .ok (.iinc k cst, 3)) (hl : L[k]? = some (.val (.int x))) (hw : x + Int32.ofInt cst = w) (hl' : storeLocals L k (.int w) = some L') (hq : pc + 3 = q) (K : Go p e below G T m q L' S) : Go p e below G T m pc L S := by
  subst hq hw; exact Go.st (fun t k => XS.iinc X.here hx rfl hd hl hl' k) K
theorem s_dup (X : Stand p l e R s m args below meth c T locs cells slots) (hx : p.tables.exec = Jvm.exec) {x : Value} (hd : decode c.code pc = .ok (.dup, 1)) (hc : x.category = 1) (hq : pc + 1 = q) (K : Go p e below G T m q L (x :: x :: S)) : Go p e below G T m pc L (x :: S) := by
  subst hq; exact Go.st (fun t k => XS.dup X.here hx rfl hd rfl hc k) K
theorem s_dup_x1 (X : Stand p l e R s m args below meth c T locs cells slots) (hx : p.tables.exec = Jvm.exec) {x y : Value} (hd : decode c.code pc = .ok (.dup_x1, 1)) (hc : x.category = 1) (hc' : y.category = 1) (hq : pc + 1 = q) (K : Go p e below G T m q L (x :: y :: x :: S)) : Go p e below G T m pc L (x :: y :: S) := by
  subst hq; exact Go.st (fun t k => XS.dupX1 X.here hx rfl hd rfl hc hc' k) K
theorem s_dup2 (X : Stand p l e R s m args below meth c T locs cells slots) (hx : p.tables.exec = Jvm.exec) {x y : Value} (hd : decode c.code pc = .ok (.dup2, 1)) (hc : x.category = 1) (hc' : y.category = 1) (hq : pc + 1 = q) (K : Go p e below G T m q L (x :: y :: x :: y :: S)) : Go p e below G T m pc L (x :: y :: S) := by
  subst hq; exact Go.st (fun t k => Jvm.Free.XT.dup2 X.here hx rfl hd rfl hc hc' k) K
theorem s_dup2L (X : Stand p l e R s m args below meth c T locs cells slots) (hx : p.tables.exec = Jvm.exec) {x : Int64} (hd : decode c.code pc = .ok (.dup2, 1))  (hq : pc + 1 = q) (K : Go p e below G T m q L (.long x :: .long x :: S)) : Go p e below G T m pc L (.long x :: S) := by
  subst hq; exact Go.st (fun t k => Jvm.Free.XT.dup2L X.here hx rfl hd rfl k) K
theorem s_pop (X : Stand p l e R s m args below meth c T locs cells slots) (hx : p.tables.exec = Jvm.exec) {x : Value} (hd : decode c.code pc = .ok (.pop, 1)) (hc : x.category = 1) (hq : pc + 1 = q) (K : Go p e below G T m q L S) : Go p e below G T m pc L (x :: S) := by
  subst hq; exact Go.st (fun t k => XS.pop X.here hx rfl hd rfl hc k) K
theorem s_goto (X : Stand p l e R s m args below meth c T locs cells slots) (hx : p.tables.exec = Jvm.exec) {o : Int} (hd : decode c.code pc = .ok (.goto o, 3)) (ho : 0 ≤ (pc : Int) + o) (hp : ((pc : Int) + o).toNat = q1) (K : Go p e below G T m q1 L S) : Go p e below G T m pc L S := Go.st (fun t k => XS.goto X.here hx rfl rfl hd ho hp k) K
theorem f_icmp_lt (X : Stand p l e R s m args below meth c T locs cells slots) (hx : p.tables.exec = Jvm.exec) {x y : Int32} {o : Int} (hd : decode c.code pc = .ok (.if_icmp .lt o, 3)) (ho : 0 ≤ (pc : Int) + o) (hp : ((pc : Int) + o).toNat = q1) (hq : pc + 3 = q) (ky : x < y → Go p e below G T m q1 L S) (kn : ¬ x < y → Go p e below G T m q L S) : Go p e below G T m pc L (.int y :: .int x :: S) := by
  subst hq
  by_cases h : x < y
  · exact Go.st (fun t k => XS.icmpYes X.here hx rfl rfl hd rfl (tlt h).1 ho hp k) (ky h)
  · exact Go.st (fun t k => XS.icmpNo X.here hx rfl hd rfl (flt h).1 k) (kn h)
theorem f_if_lt (X : Stand p l e R s m args below meth c T locs cells slots) (hx : p.tables.exec = Jvm.exec) {x : Int32} {o : Int} (hd : decode c.code pc = .ok (.ifCond .lt o, 3)) (ho : 0 ≤ (pc : Int) + o) (hp : ((pc : Int) + o).toNat = q1) (hq : pc + 3 = q) (ky : x < 0 → Go p e below G T m q1 L S) (kn : ¬ x < 0 → Go p e below G T m q L S) : Go p e below G T m pc L (.int x :: S) := by
  subst hq
  by_cases h : x < 0
  · exact Go.st (fun t k => XS.ifYes X.here hx rfl rfl hd rfl ((if0 _ _).trans (tlt h).1) ho hp k) (ky h)
  · exact Go.st (fun t k => XS.ifNo X.here hx rfl hd rfl ((if0 _ _).trans (flt h).1) k) (kn h)
theorem f_lcmp_lt (X : Stand p l e R s m args below meth c T locs cells slots) (hx : p.tables.exec = Jvm.exec) {x y : Int64} {o : Int} (hd : decode c.code pc = .ok (.ifCond .lt o, 3)) (ho : 0 ≤ (pc : Int) + o) (hp : ((pc : Int) + o).toNat = q1) (hq : pc + 3 = q) (ky : x < y → Go p e below G T m q1 L S) (kn : ¬ x < y → Go p e below G T m q L S) : Go p e below G T m pc L (.int (lcmpW x y) :: S) :=
  f_if_lt X hx hd ho hp hq (fun h => ky ((lw_lt x y).mp h)) (fun h => kn (fun g => h ((lw_lt x y).mpr g)))
theorem f_icmp_ge (X : Stand p l e R s m args below meth c T locs cells slots) (hx : p.tables.exec = Jvm.exec) {x y : Int32} {o : Int} (hd : decode c.code pc = .ok (.if_icmp .ge o, 3)) (ho : 0 ≤ (pc : Int) + o) (hp : ((pc : Int) + o).toNat = q1) (hq : pc + 3 = q) (ky : ¬ x < y → Go p e below G T m q1 L S) (kn : x < y → Go p e below G T m q L S) : Go p e below G T m pc L (.int y :: .int x :: S) := by
  subst hq
  by_cases h : x < y
  · exact Go.st (fun t k => XS.icmpNo X.here hx rfl hd rfl (tlt h).2.1 k) (kn h)
  · exact Go.st (fun t k => XS.icmpYes X.here hx rfl rfl hd rfl (flt h).2.1 ho hp k) (ky h)
theorem f_if_ge (X : Stand p l e R s m args below meth c T locs cells slots) (hx : p.tables.exec = Jvm.exec) {x : Int32} {o : Int} (hd : decode c.code pc = .ok (.ifCond .ge o, 3)) (ho : 0 ≤ (pc : Int) + o) (hp : ((pc : Int) + o).toNat = q1) (hq : pc + 3 = q) (ky : ¬ x < 0 → Go p e below G T m q1 L S) (kn : x < 0 → Go p e below G T m q L S) : Go p e below G T m pc L (.int x :: S) := by
  subst hq
  by_cases h : x < 0
  · exact Go.st (fun t k => XS.ifNo X.here hx rfl hd rfl ((if0 _ _).trans (tlt h).2.1) k) (kn h)
  · exact Go.st (fun t k => XS.ifYes X.here hx rfl rfl hd rfl ((if0 _ _).trans (flt h).2.1) ho hp k) (ky h)
theorem f_lcmp_ge (X : Stand p l e R s m args below meth c T locs cells slots) (hx : p.tables.exec = Jvm.exec) {x y : Int64} {o : Int} (hd : decode c.code pc = .ok (.ifCond .ge o, 3)) (ho : 0 ≤ (pc : Int) + o) (hp : ((pc : Int) + o).toNat = q1) (hq : pc + 3 = q) (ky : ¬ x < y → Go p e below G T m q1 L S) (kn : x < y → Go p e below G T m q L S) : Go p e below G T m pc L (.int (lcmpW x y) :: S) :=
  f_if_ge X hx hd ho hp hq (fun h => ky (fun g => h ((lw_lt x y).mpr g))) (fun h => kn ((lw_lt x y).mp h))
theorem f_icmp_gt (X : Stand p l e R s m args below meth c T locs cells slots) (hx : p.tables.exec = Jvm.exec) {x y : Int32} {o : Int} (hd : decode c.code pc = .ok (.if_icmp .gt o, 3)) (ho : 0 ≤ (pc : Int) + o) (hp : ((pc : Int) + o).toNat = q1) (hq : pc + 3 = q) (ky : y < x → Go p e below G T m q1 L S) (kn : ¬ y < x → Go p e below G T m q L S) : Go p e below G T m pc L (.int y :: .int x :: S) := by
  subst hq
  by_cases h : y < x
  · exact Go.st (fun t k => XS.icmpYes X.here hx rfl rfl hd rfl (tlt h).2.2.1 ho hp k) (ky h)
  · exact Go.st (fun t k => XS.icmpNo X.here hx rfl hd rfl (flt h).2.2.1 k) (kn h)
theorem f_if_gt (X : Stand p l e R s m args below meth c T locs cells slots) (hx : p.tables.exec = Jvm.exec) {x : Int32} {o : Int} (hd : decode c.code pc = .ok (.ifCond .gt o, 3)) (ho : 0 ≤ (pc : Int) + o) (hp : ((pc : Int) + o).toNat = q1) (hq : pc + 3 = q) (ky : 0 < x → Go p e below G T m q1 L S) (kn : ¬ 0 < x → Go p e below G T m q L S) : Go p e below G T m pc L (.int x :: S) := by
  subst hq
  by_cases h : 0 < x
  · exact Go.st (fun t k => XS.ifYes X.here hx rfl rfl hd rfl ((if0 _ _).trans (tlt h).2.2.1) ho hp k) (ky h)
  · exact Go.st (fun t k => XS.ifNo X.here hx rfl hd rfl ((if0 _ _).trans (flt h).2.2.1) k) (kn h)
theorem f_lcmp_gt (X : Stand p l e R s m args below meth c T locs cells slots) (hx : p.tables.exec = Jvm.exec) {x y : Int64} {o : Int} (hd : decode c.code pc = .ok (.ifCond .gt o, 3)) (ho : 0 ≤ (pc : Int) + o) (hp : ((pc : Int) + o).toNat = q1) (hq : pc + 3 = q) (ky : y < x → Go p e below G T m q1 L S) (kn : ¬ y < x → Go p e below G T m q L S) : Go p e below G T m pc L (.int (lcmpW x y) :: S) :=
  f_if_gt X hx hd ho hp hq (fun h => ky ((lw_gt x y).mp h)) (fun h => kn (fun g => h ((lw_gt x y).mpr g)))
theorem f_icmp_le (X : Stand p l e R s m args below meth c T locs cells slots) (hx : p.tables.exec = Jvm.exec) {x y : Int32} {o : Int} (hd : decode c.code pc = .ok (.if_icmp .le o, 3)) (ho : 0 ≤ (pc : Int) + o) (hp : ((pc : Int) + o).toNat = q1) (hq : pc + 3 = q) (ky : ¬ y < x → Go p e below G T m q1 L S) (kn : y < x → Go p e below G T m q L S) : Go p e below G T m pc L (.int y :: .int x :: S) := by
  subst hq
  by_cases h : y < x
  · exact Go.st (fun t k => XS.icmpNo X.here hx rfl hd rfl (tlt h).2.2.2 k) (kn h)
  · exact Go.st (fun t k => XS.icmpYes X.here hx rfl rfl hd rfl (flt h).2.2.2 ho hp k) (ky h)
theorem f_if_le (X : Stand p l e R s m args below meth c T locs cells slots) (hx : p.tables.exec = Jvm.exec) {x : Int32} {o : Int} (hd : decode c.code pc = .ok (.ifCond .le o, 3)) (ho : 0 ≤ (pc : Int) + o) (hp : ((pc : Int) + o).toNat = q1) (hq : pc + 3 = q) (ky : ¬ 0 < x → Go p e below G T m q1 L S) (kn : 0 < x → Go p e below G T m q L S) : Go p e below G T m pc L (.int x :: S) := by
  subst hq
  by_cases h : 0 < x
  · exact Go.st (fun t k => XS.ifNo X.here hx rfl hd rfl ((if0 _ _).trans (tlt h).2.2.2) k) (kn h)
  · exact Go.st (fun t k => XS.ifYes X.here hx rfl rfl hd rfl ((if0 _ _).trans (flt h).2.2.2) ho hp k) (ky h)
theorem f_lcmp_le (X : Stand p l e R s m args below meth c T locs cells slots) (hx : p.tables.exec = Jvm.exec) {x y : Int64} {o : Int} (hd : decode c.code pc = .ok (.ifCond .le o, 3)) (ho : 0 ≤ (pc : Int) + o) (hp : ((pc : Int) + o).toNat = q1) (hq : pc + 3 = q) (ky : ¬ y < x → Go p e below G T m q1 L S) (kn : y < x → Go p e below G T m q L S) : Go p e below G T m pc L (.int (lcmpW x y) :: S) :=
  f_if_le X hx hd ho hp hq (fun h => ky (fun g => h ((lw_gt x y).mpr g))) (fun h => kn ((lw_gt x y).mp h))
theorem f_icmp_eq (X : Stand p l e R s m args below meth c T locs cells slots) (hx : p.tables.exec = Jvm.exec) {x y : Int32} {o : Int} (hd : decode c.code pc = .ok (.if_icmp .eq o, 3)) (ho : 0 ≤ (pc : Int) + o) (hp : ((pc : Int) + o).toNat = q1) (hq : pc + 3 = q) (ky : x = y → Go p e below G T m q1 L S) (kn : ¬ x = y → Go p e below G T m q L S) : Go p e below G T m pc L (.int y :: .int x :: S) := by
  subst hq
  by_cases h : x = y
  · exact Go.st (fun t k => XS.icmpYes X.here hx rfl rfl hd rfl (teq h).1 ho hp k) (ky h)
  · exact Go.st (fun t k => XS.icmpNo X.here hx rfl hd rfl (feq h).1 k) (kn h)
theorem f_if_eq (X : Stand p l e R s m args below meth c T locs cells slots) (hx : p.tables.exec = Jvm.exec) {x : Int32} {o : Int} (hd : decode c.code pc = .ok (.ifCond .eq o, 3)) (ho : 0 ≤ (pc : Int) + o) (hp : ((pc : Int) + o).toNat = q1) (hq : pc + 3 = q) (ky : x = 0 → Go p e below G T m q1 L S) (kn : ¬ x = 0 → Go p e below G T m q L S) : Go p e below G T m pc L (.int x :: S) := by
  subst hq
  by_cases h : x = 0
  · exact Go.st (fun t k => XS.ifYes X.here hx rfl rfl hd rfl ((if0 _ _).trans (teq h).1) ho hp k) (ky h)
  · exact Go.st (fun t k => XS.ifNo X.here hx rfl hd rfl ((if0 _ _).trans (feq h).1) k) (kn h)
theorem f_lcmp_eq (X : Stand p l e R s m args below meth c T locs cells slots) (hx : p.tables.exec = Jvm.exec) {x y : Int64} {o : Int} (hd : decode c.code pc = .ok (.ifCond .eq o, 3)) (ho : 0 ≤ (pc : Int) + o) (hp : ((pc : Int) + o).toNat = q1) (hq : pc + 3 = q) (ky : x = y → Go p e below G T m q1 L S) (kn : ¬ x = y → Go p e below G T m q L S) : Go p e below G T m pc L (.int (lcmpW x y) :: S) :=
  f_if_eq X hx hd ho hp hq (fun h => ky ((lw_eq x y).mp h)) (fun h => kn (fun g => h ((lw_eq x y).mpr g)))
theorem f_icmp_ne (X : Stand p l e R s m args below meth c T locs cells slots) (hx : p.tables.exec = Jvm.exec) {x y : Int32} {o : Int} (hd : decode c.code pc = .ok (.if_icmp .ne o, 3)) (ho : 0 ≤ (pc : Int) + o) (hp : ((pc : Int) + o).toNat = q1) (hq : pc + 3 = q) (ky : ¬ x = y → Go p e below G T m q1 L S) (kn : x = y → Go p e below G T m q L S) : Go p e below G T m pc L (.int y :: .int x :: S) := by
  subst hq
  by_cases h : x = y
  · exact Go.st (fun t k => XS.icmpNo X.here hx rfl hd rfl (teq h).2 k) (kn h)
  · exact Go.st (fun t k => XS.icmpYes X.here hx rfl rfl hd rfl (feq h).2 ho hp k) (ky h)
theorem f_if_ne (X : Stand p l e R s m args below meth c T locs cells slots) (hx : p.tables.exec = Jvm.exec) {x : Int32} {o : Int} (hd : decode c.code pc = .ok (.ifCond .ne o, 3)) (ho : 0 ≤ (pc : Int) + o) (hp : ((pc : Int) + o).toNat = q1) (hq : pc + 3 = q) (ky : ¬ x = 0 → Go p e below G T m q1 L S) (kn : x = 0 → Go p e below G T m q L S) : Go p e below G T m pc L (.int x :: S) := by
  subst hq
  by_cases h : x = 0
  · exact Go.st (fun t k => XS.ifNo X.here hx rfl hd rfl ((if0 _ _).trans (teq h).2) k) (kn h)
  · exact Go.st (fun t k => XS.ifYes X.here hx rfl rfl hd rfl ((if0 _ _).trans (feq h).2) ho hp k) (ky h)
theorem f_lcmp_ne (X : Stand p l e R s m args below meth c T locs cells slots) (hx : p.tables.exec = Jvm.exec) {x y : Int64} {o : Int} (hd : decode c.code pc = .ok (.ifCond .ne o, 3)) (ho : 0 ≤ (pc : Int) + o) (hp : ((pc : Int) + o).toNat = q1) (hq : pc + 3 = q) (ky : ¬ x = y → Go p e below G T m q1 L S) (kn : x = y → Go p e below G T m q L S) : Go p e below G T m pc L (.int (lcmpW x y) :: S) :=
  f_if_ne X hx hd ho hp hq (fun h => ky (fun g => h ((lw_eq x y).mpr g))) (fun h => kn ((lw_eq x y).mp h))
theorem s_ifnullYes (X : Stand p l e R s m args below meth c T locs cells slots) (hx : p.tables.exec = Jvm.exec) {o : Int} (hd : decode c.code pc = .ok (.ifnull o, 3)) (ho : 0 ≤ (pc : Int) + o) (hp : ((pc : Int) + o).toNat = q1) (K : Go p e below G T m q1 L S) : Go p e below G T m pc L (.null :: S) := Go.st (fun t k => XS.ifnullYes X.here hx rfl rfl hd rfl ho hp k) K
theorem s_ifnullNo (X : Stand p l e R s m args below meth c T locs cells slots) (hx : p.tables.exec = Jvm.exec) {o : Int} {b : Addr} (hd : decode c.code pc = .ok (.ifnull o, 3))  (hq : pc + 3 = q) (K : Go p e below G T m q L S) : Go p e below G T m pc L (.ref b :: S) := by
  subst hq; exact Go.st (fun t k => XS.ifnullNo X.here hx rfl hd rfl k) K
theorem s_ifnonnullYes (X : Stand p l e R s m args below meth c T locs cells slots) (hx : p.tables.exec = Jvm.exec) {o : Int} {b : Addr} (hd : decode c.code pc = .ok (.ifnonnull o, 3)) (ho : 0 ≤ (pc : Int) + o) (hp : ((pc : Int) + o).toNat = q1) (K : Go p e below G T m q1 L S) : Go p e below G T m pc L (.ref b :: S) := Go.st (fun t k => XS.ifnonnullYes X.here hx rfl rfl hd rfl ho hp k) K
theorem s_ifnonnullNo (X : Stand p l e R s m args below meth c T locs cells slots) (hx : p.tables.exec = Jvm.exec) {o : Int} (hd : decode c.code pc = .ok (.ifnonnull o, 3))  (hq : pc + 3 = q) (K : Go p e below G T m q L S) : Go p e below G T m pc L (.null :: S) := by
  subst hq; exact Go.st (fun t k => XS.ifnonnullNo X.here hx rfl hd rfl k) K
theorem s_acmp (X : Stand p l e R s m args below meth c T locs cells slots) (hx : p.tables.exec = Jvm.exec) {cd : ClassFile.ACond} {x y : Value} {o : Int} {same : Bool} (hd : decode c.code pc = .ok (.if_acmp cd o, 3)) (h1 : x.isRef = true) (h2 : y.isRef = true) (hs : decide (x = y) = same) (ho : 0 ≤ (pc : Int) + o) (hp : q1 = if acV cd same = true then ((pc : Int) + o).toNat else pc + 3) (K : Go p e below G T m q1 L S) : Go p e below G T m pc L (y :: x :: S) := Go.st (fun t k => Jvm.RoadKit.acmp (g := mkF m pc L (y :: x :: S)) X hx rfl h1 h2 rfl hd rfl hs ho hp k) K
variable {Z : State} {a0 : Array Value} {h h' : Heap} {a b : Addr} {own C O n d : String} {v : Value} {n0 : Nat}
theorem s_ldc (X : Stand p l e R s m args below meth c T locs cells slots) (hx : p.tables.exec = Jvm.exec) (hZ : Z.Warmed39 s.vm) (hown : s.vm.findClass own = some m.cls) {index : Nat} {z : Int32} (w : (Jvm.Cond.constant own index z).before a0 Z = true) (hd : decode c.code pc = .ok (.ldc index, 2)) (hq : pc + 2 = q) (K : Go p e below G T m q L (.int z :: S)) : Go p e below G T m pc L S := by
  subst hq; exact Go.st (fun t k => X.ldcInt hx hown (mvT hZ w) (g := mkF m pc L S) rfl hd t k) K
theorem s_ldcw (X : Stand p l e R s m args below meth c T locs cells slots) (hx : p.tables.exec = Jvm.exec) (hZ : Z.Warmed39 s.vm) (hown : s.vm.findClass own = some m.cls) {index : Nat} {z : Int32} (w : (Jvm.Cond.constant own index z).before a0 Z = true) (hd : decode c.code pc = .ok (.ldc_w index, 3)) (hq : pc + 3 = q) (K : Go p e below G T m q L (.int z :: S)) : Go p e below G T m pc L S := by
  subst hq; exact Go.st (fun t k => X.ldcwInt hx hown (mvT hZ w) (g := mkF m pc L S) rfl hd t k) K
theorem s_ldc2 (X : Stand p l e R s m args below meth c T locs cells slots) (hx : p.tables.exec = Jvm.exec) (hZ : Z.Warmed39 s.vm) (hown : s.vm.findClass own = some m.cls) {index : Nat} {z : Int64} (w : (Jvm.Cond.constantLong own index z).before a0 Z = true) (hd : decode c.code pc = .ok (.ldc2_w index, 3)) (hq : pc + 3 = q) (K : Go p e below G T m q L (.long z :: S)) : Go p e below G T m pc L S := by
  subst hq; exact Go.st (fun t k => X.ldc2Long hx hown (mvT hZ w) (g := mkF m pc L S) rfl hd t k) K
theorem s_lrem (X : Stand p l e R s m args below meth c T locs cells slots) (hx : p.tables.exec = Jvm.exec) {x y : Int64} (hd : decode c.code pc = .ok (.lrem, 1)) (hy : y ≠ 0) (hq : pc + 1 = q) (K : Go p e below G T m q L (.long (x % y) :: S)) : Go p e below G T m pc L (.long y :: .long x :: S) := by
  subst hq; rw [← lrem_mod] at K; exact Go.st (fun t k => XS.lrem X.here hx rfl hd rfl hy k) K
theorem irem_mod (x y : Int32) : x - (x / y) * y = x % y := by
  apply Int32.toInt_inj.mp
  have h1 := Int32.le_toInt (x % y)
  have h2 := Int32.toInt_lt (x % y)
  rw [Int32.toInt_sub, Int32.toInt_mul, Int32.toInt_div, Int.bmod_mul_bmod, Int.sub_bmod_bmod, Int.mul_comm (x.toInt.tdiv y.toInt), ← Int.tmod_def, ← Int32.toInt_mod]
  exact Int.bmod_eq_of_le_mul_two (by omega) (by omega)
theorem s_irem (X : Stand p l e R s m args below meth c T locs cells slots) (hx : p.tables.exec = Jvm.exec) {x y : Int32} (hd : decode c.code pc = .ok (.irem, 1)) (hy : y ≠ 0) (hq : pc + 1 = q) (K : Go p e below G T m q L (.int (x % y) :: S)) : Go p e below G T m pc L (.int y :: .int x :: S) := by
  subst hq; rw [← irem_mod] at K; exact Go.st (fun t k => XS.irem X.here hx rfl hd rfl hy k) K
theorem leafI (X : Stand p l e R s m args below meth c T locs cells slots) (hx : p.tables.exec = Jvm.exec) {z : Int32} {Q : Option Value → Heap → List Loc → Prop} {C N : Nat} (hlk : meth.locks = false) (hret : meth.sig.returnType = some .int) (hd : decode c.code pc = .ok (.ireturn, 1)) (hc : cells ≤ C) (hn : slots ≤ N) (hQ : Q (some (.int z)) T.heap locs) : Go p e below (Gl s below Q C N) T m pc L (.int z :: S) := by
  obtain ⟨fs, hr, hrun, hended, hW, hsame⟩ := X.leave (v := some (.int z)) (fun h => by rw [hret] at h; cases h) hlk
  exact ⟨_, retI X hx hret hd hr, _, hrun, hended, _, _, rfl, hQ, ⟨_, rfl⟩, hW, hsame.mono hc hn⟩
theorem leafN (X : Stand p l e R s m args below meth c T locs cells slots) (hx : p.tables.exec = Jvm.exec) {t : FieldType} {z z' : Int32} {Q : Option Value → Heap → List Loc → Prop} {C N : Nat} (hlk : meth.locks = false) (hret : meth.sig.returnType = some t) (ht : t = .boolean ∨ t = .byte ∨ t = .char ∨ t = .short) (hd : decode c.code pc = .ok (.ireturn, 1)) (hc : cells ≤ C) (hn : slots ≤ N) (hz : nar t z = z') (hQ : Q (some (.int z')) T.heap locs) : Go p e below (Gl s below Q C N) T m pc L (.int z :: S) := by
  subst hz
  obtain ⟨fs, hr, hrun, hended, hW, hsame⟩ := X.leave (v := some (.int (nar t z))) (fun h => by rw [hret] at h; cases h) hlk
  exact ⟨_, retN X hx hret ht hd hr, _, hrun, hended, _, _, rfl, hQ, ⟨_, rfl⟩, hW, hsame.mono hc hn⟩
theorem leafJ (X : Stand p l e R s m args below meth c T locs cells slots) (hx : p.tables.exec = Jvm.exec) {z : Int64} {Q : Option Value → Heap → List Loc → Prop} {C N : Nat} (hlk : meth.locks = false) (hret : meth.sig.returnType = some .long) (hd : decode c.code pc = .ok (.lreturn, 1)) (hc : cells ≤ C) (hn : slots ≤ N) (hQ : Q (some (.long z)) T.heap locs) : Go p e below (Gl s below Q C N) T m pc L (.long z :: S) := by
  obtain ⟨fs, hr, hrun, hended, hW, hsame⟩ := X.leave (v := some (.long z)) (fun h => by rw [hret] at h; cases h) hlk
  refine ⟨_, ?_, _, hrun, hended, _, _, rfl, hQ, ⟨_, rfl⟩, hW, hsame.mono hc hn⟩
  show Steps p.tables e below (T.setTop { method := m, pc := pc, locals := L, stack := .long z :: S, locked := none }) _
  jvm_step X.here [X.here.top, hx, hd, X.method', hret, narrow]
  first | (intro acts; rw [hr _ acts rfl rfl rfl]) | rw [hr _ _ rfl rfl rfl]
  exact Steps.refl _
theorem leafA (X : Stand p l e R s m args below meth c T locs cells slots) (hx : p.tables.exec = Jvm.exec) {v : Value} {t : FieldType} {Q : Option Value → Heap → List Loc → Prop} {C N : Nat} (hlk : meth.locks = false) (hret : meth.sig.returnType = some t) (ht : t.isReference = true) (hv : v.isRef = true) (hd : decode c.code pc = .ok (.areturn, 1)) (hc : cells ≤ C) (hn : slots ≤ N) (hQ : Q (some v) T.heap locs) : Go p e below (Gl s below Q C N) T m pc L (v :: S) := by
  obtain ⟨fs, hr, hrun, hended, hW, hsame⟩ := X.leave (v := some v) (fun h => by rw [hret] at h; cases h) hlk
  refine ⟨_, ?_, _, hrun, hended, _, _, rfl, hQ, ⟨_, rfl⟩, hW, hsame.mono hc hn⟩
  show Steps p.tables e below (T.setTop { method := m, pc := pc, locals := L, stack := v :: S, locked := none }) _
  jvm_step X.here [X.here.top, hx, hd, X.method', hret, hv, ht]
  first | (intro acts; rw [hr _ acts rfl rfl rfl]) | rw [hr _ _ rfl rfl rfl]
  exact Steps.refl _
theorem leafV (X : Stand p l e R s m args below meth c T locs cells slots) (hx : p.tables.exec = Jvm.exec) {Q : Option Value → Heap → List Loc → Prop} {C N : Nat} (hlk : meth.locks = false) (hret : meth.sig.returnType = none) (hd : decode c.code pc = .ok (.return_, 1)) (hc : cells ≤ C) (hn : slots ≤ N) (hQ : Q none T.heap locs) : Go p e below (Gl s below Q C N) T m pc L [] := by
  obtain ⟨fs, hr, hrun, hended, hW, hsame⟩ := X.leave (v := none) (fun _ => rfl) hlk
  exact ⟨_, X.returnOut hx hret hd hr, _, hrun, hended, _, _, rfl, hQ, ⟨_, rfl⟩, hW, hsame.mono hc hn⟩
/-- a call by a contract -/
theorem callC (X : Stand p l e R s m args below meth c T locs cells slots) (hx : p.tables.exec = Jvm.exec) (hZ : Z.Warmed39 s.vm) (hown : s.vm.findClass own = some m.cls) {index : Nat} {y : MethodName} {bytes : ByteArray} {maxL : Nat} {ret : Option FieldType} {rm : Room} {Q : Option Value → Heap → List Loc → Prop} {W : Nat} {argsL rest : List Value}
    (w1 : (Jvm.Cond.methodLink own index y).before a0 Z = true) (w2 : (Jvm.Cond.static y).before a0 Z = true) (w3 : (Jvm.Cond.initialized y.cls).before a0 Z = true) (w4 : (Jvm.Cond.code y bytes maxL ret).before a0 Z = true) (hy : y.cls ≠ "java/lang/invoke/MethodHandle" ∧ y.cls ≠ "java/lang/invoke/VarHandle")
    (K : Ctr l y bytes maxL ret [] rm Z argsL.toArray h Q rm.cells rm.slots) (eT : T.heap = h) (hf : rm.frames + 1 ≤ R.frames) (hl : W + (maxL + 11) + rm.locals ≤ R.locals) (hc : cells + rm.cells ≤ R.cells) (hn : slots + rm.slots ≤ R.slots) (hsize : L.size = c.maxLocals)
    {ps : List FieldType} {r : Option FieldType} (hlen : parseMethodDescriptor y.desc = some ⟨ps, r⟩) (hl2 : argsL.length = ps.length) (hS : S = argsL.reverse ++ rest) (hW : (rest.map fun v => v.category).sum ≤ W) (hd : decode c.code pc = .ok (.invokestatic index, 3)) (hq : pc + 3 = q)
    (k : ∀ (v : Option Value) (T' : State) (Lc : List Loc), Q v T'.heap Lc → Stand p l e R s m args below meth c T' (locs ++ Lc) (cells + rm.cells) (slots + rm.slots) → Go p e below G T' m q L (v.toList ++ rest)) : Go p e below G T m pc L S := by
  subst hq hS
  obtain ⟨v, _, ⟨T', L', k', n'⟩, -, X', ⟨Lc, hQ, l1, y1, z1⟩, st⟩ := Jvm.LawKit.callS X hx (y := y) hown (mvT hZ w1) (mvT hZ w2) (mvT hZ w3) (mvT hZ w4) hy (backOf (W := W) K hZ w4 w3 hf hl) (g := mkF m pc L (argsL.reverse ++ rest)) rfl hsize (argsL := argsL) (rest := rest) (lenOf hlen hl2) rfl (by show 2 * 0 + _ ≤ _; omega) hd (fun _ _ => ⟨rfl, eT, hc, hn⟩)
  dsimp only [Pt.U, Pt.locs, Pt.cells, Pt.slots] at X' l1 y1 z1 st hQ
  subst l1 y1 z1
  exact Go.st st (k v T' Lc hQ X')
/-- what a pure body leaves -/
def PQ (w : Value) (h0 : Heap) (v : Option Value) (h : Heap) (L : List Loc) : Prop := v = some w ∧ h = h0 ∧ L = []
theorem callP (X : Stand p l e R s m args below meth c T locs cells slots) (hx : p.tables.exec = Jvm.exec) (hZ : Z.Warmed39 s.vm) (hown : s.vm.findClass own = some m.cls) {index : Nat} {y : MethodName} {bytes : ByteArray} {maxL : Nat} {ret : Option FieldType} {rm : Room} {w : Value} {W : Nat} {argsL rest : List Value}
    (w1 : (Jvm.Cond.methodLink own index y).before a0 Z = true) (w2 : (Jvm.Cond.static y).before a0 Z = true) (w3 : (Jvm.Cond.initialized y.cls).before a0 Z = true) (w4 : (Jvm.Cond.code y bytes maxL ret).before a0 Z = true) (hy : y.cls ≠ "java/lang/invoke/MethodHandle" ∧ y.cls ≠ "java/lang/invoke/VarHandle")
    (K : Ctr l y bytes maxL ret [] rm Z argsL.toArray h (PQ w h) 0 0) (hrc : rm.cells = 0) (hrs : rm.slots = 0) (eT : T.heap = h) (hf : rm.frames + 1 ≤ R.frames) (hl : W + (maxL + 11) + rm.locals ≤ R.locals) (hc : cells ≤ R.cells) (hn : slots ≤ R.slots) (hsize : L.size = c.maxLocals)
    {ps : List FieldType} {r : Option FieldType} (hlen : parseMethodDescriptor y.desc = some ⟨ps, r⟩) (hl2 : argsL.length = ps.length) (hS : S = argsL.reverse ++ rest) (hW : (rest.map fun v => v.category).sum ≤ W) (hd : decode c.code pc = .ok (.invokestatic index, 3)) (hq : pc + 3 = q)
    (k : ∀ (T' : State), Stand p l e R s m args below meth c T' locs cells slots → T'.heap = h → Go p e below G T' m q L (w :: rest)) : Go p e below G T m pc L S := by
  refine callC X hx hZ hown w1 w2 w3 w4 hy (rm := rm) (Q := PQ w h) (by rw [hrc, hrs]; exact K) eT hf hl (by rw [hrc]; exact hc) (by rw [hrs]; exact hn) hsize hlen hl2 hS hW hd hq ?_
  rintro v T' Lc ⟨rfl, e', rfl⟩ X'
  rw [List.append_nil, hrc, hrs] at X'
  exact k T' X' e'
theorem callV (X : Stand p l e R s m args below meth c T locs cells slots) (hx : p.tables.exec = Jvm.exec) (hZ : Z.Warmed39 s.vm) (hown : s.vm.findClass own = some m.cls) {index : Nat} {y : MethodName} {bytes : ByteArray} {maxL : Nat} {ret : Option FieldType} {rm : Room} {Q : Option Value → Heap → List Loc → Prop} {W : Nat} {argsL rest : List Value}
    (w1 : (Jvm.Cond.methodLink own index y).before a0 Z = true) (w2 : (Jvm.Cond.declares y).before a0 Z = true) (w3 : (Jvm.Cond.selects y.cls y y).before a0 Z = true) (w5 : (Jvm.Cond.instanceMethod y).before a0 Z = true) (w6 : (Jvm.Cond.initialized y.cls).before a0 Z = true) (w4 : (Jvm.Cond.code y bytes maxL ret).before a0 Z = true) (hy : y.cls ≠ "java/lang/invoke/MethodHandle" ∧ y.cls ≠ "java/lang/invoke/VarHandle")
    (A : Exa Z h a y.cls) (K : Ctr l y bytes maxL ret [] rm Z (.ref a :: argsL).toArray h Q rm.cells rm.slots) (eT : T.heap = h) (hf : rm.frames + 1 ≤ R.frames) (hl : W + (maxL + 11) + rm.locals ≤ R.locals) (hc : cells + rm.cells ≤ R.cells) (hn : slots + rm.slots ≤ R.slots) (hsize : L.size = c.maxLocals)
    {ps : List FieldType} {r : Option FieldType} (hlen : parseMethodDescriptor y.desc = some ⟨ps, r⟩) (hl2 : argsL.length = ps.length) (hS : S = argsL.reverse ++ .ref a :: rest) (hW : (rest.map fun v => v.category).sum ≤ W) (hd : decode c.code pc = .ok (.invokevirtual index, 3)) (hq : pc + 3 = q)
    (k : ∀ (v : Option Value) (T' : State) (Lc : List Loc), Q v T'.heap Lc → Stand p l e R s m args below meth c T' (locs ++ Lc) (cells + rm.cells) (slots + rm.slots) → Go p e below G T' m q L (v.toList ++ rest)) : Go p e below G T m pc L S := by
  subst hq hS
  obtain ⟨cq, kq, qa, qb, qc⟩ := isOf hZ eT A
  obtain ⟨v, _, ⟨T', L', k', n'⟩, -, X', ⟨Lc, hQ, l1, y1, z1⟩, st⟩ := X.virtualBack hx (y := y) (z := y) hown (mvT hZ w1) (mvT hZ w2) (notFace_of_selects (args := #[]) (mvT hZ w3)) (mvT hZ w3) (mvT hZ w5) hy (backOf (W := W) K hZ w4 w6 hf hl) qa qc (g := mkF m pc L (argsL.reverse ++ .ref a :: rest)) rfl hsize (Steps.refl _) (argsL := argsL) (rest := rest) (lenOf hlen hl2) rfl (by show 2 * 0 + _ ≤ _; omega) hd (fun _ _ => ⟨rfl, eT, hc, hn⟩)
  dsimp only [Pt.U, Pt.locs, Pt.cells, Pt.slots] at X' l1 y1 z1 st hQ
  subst l1 y1 z1
  exact Go.st (fun t h => st.trans h) (k v T' Lc hQ X')
theorem callI (X : Stand p l e R s m args below meth c T locs cells slots) (hx : p.tables.exec = Jvm.exec) (hZ : Z.Warmed39 s.vm) (hown : s.vm.findClass own = some m.cls) {index : Nat} {y : MethodName} {bytes : ByteArray} {maxL : Nat} {rm : Room} {Q : Option Value → Heap → List Loc → Prop} {W : Nat} {argsL rest : List Value} (hyn : y.name = "<init>")
    (w1 : (Jvm.Cond.methodLink own index y).before a0 Z = true) (w5 : (Jvm.Cond.instanceMethod y).before a0 Z = true) (w6 : (Jvm.Cond.initialized y.cls).before a0 Z = true) (w4 : (Jvm.Cond.code y bytes maxL none).before a0 Z = true) (hy : y.cls ≠ "java/lang/invoke/MethodHandle" ∧ y.cls ≠ "java/lang/invoke/VarHandle")
    (K : Ctr l y bytes maxL none [] rm Z (.ref a :: argsL).toArray h Q rm.cells rm.slots) (eT : T.heap = h) (hf : rm.frames + 1 ≤ R.frames) (hl : W + (maxL + 11) + rm.locals ≤ R.locals) (hc : cells + rm.cells ≤ R.cells) (hn : slots + rm.slots ≤ R.slots) (hsize : L.size = c.maxLocals)
    {ps : List FieldType} {r : Option FieldType} (hlen : parseMethodDescriptor y.desc = some ⟨ps, r⟩) (hl2 : argsL.length = ps.length) (hS : S = argsL.reverse ++ .ref a :: rest) (hW : (rest.map fun v => v.category).sum ≤ W) (hd : decode c.code pc = .ok (.invokespecial index, 3)) (hq : pc + 3 = q)
    (k : ∀ (v : Option Value) (T' : State) (Lc : List Loc), Q v T'.heap Lc → Stand p l e R s m args below meth c T' (locs ++ Lc) (cells + rm.cells) (slots + rm.slots) → Go p e below G T' m q L (v.toList ++ rest)) : Go p e below G T m pc L S := by
  subst hq hS
  obtain ⟨v, _, ⟨T', L', k', n'⟩, -, X', ⟨Lc, hQ, l1, y1, z1⟩, st⟩ := X.specialBack hx (y := y) hyn hown (mvT hZ w1) (mvT hZ w5) (mvT hZ w4) hy (backOf (W := W) K hZ w4 w6 hf hl) (g := mkF m pc L (argsL.reverse ++ .ref a :: rest)) rfl hsize (Steps.refl _) (a := a) (argsL := argsL) (rest := rest) (lenOf hlen hl2) rfl (by show 2 * 0 + _ ≤ _; omega) hd (fun _ _ => ⟨rfl, eT, hc, hn⟩)
  dsimp only [Pt.U, Pt.locs, Pt.cells, Pt.slots] at X' l1 y1 z1 st hQ
  subst l1 y1 z1
  exact Go.st (fun t h => st.trans h) (k v T' Lc hQ X')
theorem s_initO (X : Stand p l e R s m args below meth c T locs cells slots) (hx : p.tables.exec = Jvm.exec) (hZ : Z.Warmed39 s.vm) (hown : s.vm.findClass own = some m.cls) {index : Nat} {W : Nat} (w1 : (Jvm.Cond.methodLink own index Lib.objectInit).before a0 Z = true) (w2 : (Jvm.Cond.instanceMethod Lib.objectInit).before a0 Z = true)
    (w3 : (Jvm.Cond.code Lib.objectInit ⟨#[0xb1]⟩ 1 none).before a0 Z = true) (eT : T.heap = h) (hsize : L.size = c.maxLocals) (hf : 1 ≤ R.frames) (hW : (S.map fun v => v.category).sum ≤ W) (hl : W + 12 ≤ R.locals) (hd : decode c.code pc = .ok (.invokespecial index, 3)) (hq : pc + 3 = q)
    (k : ∀ T', Stand p l e R s m args below meth c T' locs cells slots → T'.heap = h → Go p e below G T' m q L S) : Go p e below G T m pc L (.ref a :: S) := by
  subst hq
  obtain ⟨T', X', e', st⟩ := initO X hx hZ hown w1 w2 w3 eT (g := mkF m pc L (.ref a :: S)) rfl hsize rfl hd hf (W := W) (by show 2 * 0 + _ ≤ _; omega) hl
  exact Go.st st (k T' X' e')
theorem s_getF (X : Stand p l e R s m args below meth c T locs cells slots) (hx : p.tables.exec = Jvm.exec) (hZ : Z.Warmed39 s.vm) (hown : s.vm.findClass own = some m.cls) {index : Nat} (w : (Jvm.Cond.fieldLink own index O n d).before a0 Z = true) (eT : T.heap = h) (F : Fld Z h a O n d v) (hd : decode c.code pc = .ok (.getfield index, 3)) (hq : pc + 3 = q)
    (k : ∀ T', Stand p l e R s m args below meth c T' locs cells slots → T'.heap = h → Go p e below G T' m q L (v :: S)) : Go p e below G T m pc L (.ref a :: S) := by
  subst hq
  obtain ⟨T', X', e', st⟩ := getF X hx hZ hown (host := "") (Or.inl w) Via.refl eT F (g := mkF m pc L (.ref a :: S)) rfl rfl hd
  exact Go.st st (k T' X' e')
theorem s_putF (X : Stand p l e R s m args below meth c T locs cells slots) (hx : p.tables.exec = Jvm.exec) (hZ : Z.Warmed39 s.vm) (hown : s.vm.findClass own = some m.cls) {index kk : Nat} {ty : FieldType} {v old : Value} (w : (Jvm.Cond.fieldLink own index O n d).before a0 Z = true) (eT : T.heap = h) (F : Fld Z h a O n d old) (E : Exa Z h a C)
    (Ly : (Jvm.Cond.lays C O n d).before a0 Z = true ∨ ((Jvm.Cond.laysFinal C O n d).before a0 Z = true ∧ own = O ∧ meth.name = "<init>")) (wi : (Jvm.Cond.instantiable C kk).before a0 Z = true) (hty : parseFieldDescriptor d = some ty) (hn : narrow ty v = v) (hfit : fits ty v = true) (N : Fr n0 locs) (hg : n0 ≤ a) (hd : decode c.code pc = .ok (.putfield index, 3)) (hq : pc + 3 = q)
    (k : ∀ (T' : State) (h' : Heap) (locs' : List Loc), Stand p l e R s m args below meth c T' locs' cells slots → Fr n0 locs' → T'.heap = h' → Wr h h' a (Jvm.RoadKit.slotOf Z O n d) v → Fld Z h' a O n d v → Go p e below G T' m q L S) : Go p e below G T m pc L (v :: .ref a :: S) := by
  subst hq
  obtain ⟨T', h', X', e', W, st⟩ := putF X hx hZ hown (host := "") (Or.inl w) Via.refl eT F E Ly wi hty hn hfit (g := mkF m pc L (v :: .ref a :: S)) rfl rfl hd
  exact Go.st st (k T' h' _ X' (Fr.snoc X' N hg) e' W (F.same W))
theorem s_new (X : Stand p l e R s m args below meth c T locs cells slots) (hx : p.tables.exec = Jvm.exec) (hZ : Z.Warmed39 s.vm) (hown : s.vm.findClass own = some m.cls) {index kk : Nat} (w : (Jvm.Cond.classLink own index C).before a0 Z = true) (wi : (Jvm.Cond.instantiable C kk).before a0 Z = true) (wz : (Jvm.Cond.initialized C).before a0 Z = true) (eT : T.heap = h)
    (hc : cells + 1 ≤ R.cells) (hl : slots + kk ≤ R.slots) (hd : decode c.code pc = .ok (.new index, 3)) (hq : pc + 3 = q)
    (k : ∀ (T' : State) (h' : Heap) (a : Addr), Stand p l e R s m args below meth c T' locs (cells + 1) (slots + kk) → T'.heap = h' → Ext h h' → a = h.size → Exa Z h' a C → (∀ (O nm d : String) (ty : FieldType), Laid Z a0 C O nm d → parseFieldDescriptor d = some ty → Fld Z h' a O nm d (defaultValue ty)) → Go p e below G T' m q L (.ref a :: S)) : Go p e below G T m pc L S := by
  subst hq
  obtain ⟨T', h', X', e', E, A, D, -, st⟩ := newO X hx hZ hown w wi wz eT (g := mkF m pc L S) rfl hd hc hl
  exact Go.st st (k T' h' _ X' e' E rfl A (fun _ _ _ _ L1 q1 => D L1 q1))
/-- an array of ints (bytes, chars ..) by its list -/
def AI (Z : State) (h : Heap) (a : Addr) (ty : FieldType) (xs : List Int32) : Prop := ∃ cl : Cell, Arr Z h a cl ty ∧ cl.slots.toList = xs.map Value.int ∧ xs.length < 2147483648
def AJ (Z : State) (h : Heap) (a : Addr) (xs : List Int64) : Prop := ∃ cl : Cell, Arr Z h a cl .long ∧ cl.slots.toList = xs.map Value.long ∧ xs.length < 2147483648
variable {ty : FieldType} {xs ys : List Int32} {us vs : List Int64} {w : Value} {sl : Nat} {ws : List Addr}
theorem AI.lt (A : AI Z h a ty xs) : a < h.size := by obtain ⟨c, A, -⟩ := A; exact A.lt
theorem AJ.lt (A : AJ Z h a us) : a < h.size := by obtain ⟨c, A, -⟩ := A; exact A.lt
theorem AI.ext (A : AI Z h a ty xs) (E : Ext h h') : AI Z h' a ty xs := by obtain ⟨c, A, r⟩ := A; exact ⟨c, A.ext E, r⟩
theorem AJ.ext (A : AJ Z h a us) (E : Ext h h') : AJ Z h' a us := by obtain ⟨c, A, r⟩ := A; exact ⟨c, A.ext E, r⟩
theorem AI.other (A : AI Z h a ty xs) (W : Wr h h' b sl w) (q : a ≠ b) : AI Z h' a ty xs := by obtain ⟨c, A, r⟩ := A; exact ⟨c, A.other W q, r⟩
theorem AJ.other (A : AJ Z h a us) (W : Wr h h' b sl w) (q : a ≠ b) : AJ Z h' a us := by obtain ⟨c, A, r⟩ := A; exact ⟨c, A.other W q, r⟩
theorem AI.keep (A : AI Z h a ty xs) (K : Keep h h' ws) (q : a ∉ ws) : AI Z h' a ty xs := by obtain ⟨c, A, r⟩ := A; exact ⟨c, ⟨K.2.1 a c A.1 q, A.2⟩, r⟩
theorem AJ.keep (A : AJ Z h a us) (K : Keep h h' ws) (q : a ∉ ws) : AJ Z h' a us := by obtain ⟨c, A, r⟩ := A; exact ⟨c, ⟨K.2.1 a c A.1 q, A.2⟩, r⟩
theorem set_list (cl : Cell) (i : Nat) (v : Value) : (cl.setSlot i v).slots.toList = cl.slots.toList.set i v := by
  show (cl.slots.setIfInBounds i v).toList = _
  exact Array.toList_setIfInBounds ..
theorem AI.same (A : AI Z h a ty xs) {i : Nat} {x : Int32} (W : Wr h h' a i (.int x)) : AI Z h' a ty (xs.set i x) := by
  obtain ⟨c, A, e, n⟩ := A
  exact ⟨_, A.same W, by rw [set_list, e, List.map_set], by rw [List.length_set]; exact n⟩
theorem AJ.same (A : AJ Z h a us) {i : Nat} {x : Int64} (W : Wr h h' a i (.long x)) : AJ Z h' a (us.set i x) := by
  obtain ⟨c, A, e, n⟩ := A
  exact ⟨_, A.same W, by rw [set_list, e, List.map_set], by rw [List.length_set]; exact n⟩
theorem own_size {cl : Cell} {α : Type} {zs : List α} {f : α → Value} (e : cl.slots.toList = zs.map f) : cl.slots.size = zs.length := by
  rw [← Array.length_toList, e, List.length_map]
theorem own_at {cl : Cell} {α : Type} {zs : List α} {f : α → Value} (e : cl.slots.toList = zs.map f) {i : Nat} {x : α} (q : zs[i]? = some x) : cl.slots[i]? = some (f x) := by
  rw [← Array.getElem?_toList, e, List.getElem?_map, q]; rfl
theorem own_in {cl : Cell} {α : Type} {zs : List α} {f : α → Value} (e : cl.slots.toList = zs.map f) {j : Int32} (hj : ¬ j < 0) (q : j.toNatClampNeg < zs.length) : ¬ (j < 0 ∨ cl.slots.size ≤ j.toNatClampNeg) := by
  rw [own_size e]; intro h; rcases h with h | h
  · exact hj h
  · omega
theorem own_inl {α : Type} {zs : List α} {i : Nat} {x : α} (q : zs[i]? = some x) : i < zs.length := (List.getElem?_eq_some_iff.mp q).1
theorem s_iaload (X : Stand p l e R s m args below meth c T locs cells slots) (hx : p.tables.exec = Jvm.exec) (hZ : Z.Warmed39 s.vm) (eT : T.heap = h) {j : Int32} {x : Int32} (A : AI Z h a .int xs) (hj : ¬ j < 0) {i : Nat} (hji : j.toNatClampNeg = i) (hv : xs[i]? = some x) (hd : decode c.code pc = .ok (.iaload, 1)) (hq : pc + 1 = q) (K : Go p e below G T m q L (.int x :: S)) : Go p e below G T m pc L (.int j :: .ref a :: S) := by
  subst hq hji; obtain ⟨cl, Ar, ex, -⟩ := A
  exact Go.st (fun t k => X.iaload hx (j := j) (v := .int x) (by rw [eT]; exact Ar.1) (State.isArrayOf_alike hZ.alike Ar.2.1) Ar.2.2 (own_in ex hj (own_inl hv)) (own_at ex hv) (g := mkF m pc L (.int j :: .ref a :: S)) rfl rfl hd t k) K
theorem s_caload (X : Stand p l e R s m args below meth c T locs cells slots) (hx : p.tables.exec = Jvm.exec) (hZ : Z.Warmed39 s.vm) (eT : T.heap = h) {j : Int32} {x : Int32} (A : AI Z h a .char xs) (hj : ¬ j < 0) {i : Nat} (hji : j.toNatClampNeg = i) (hv : xs[i]? = some x) (hd : decode c.code pc = .ok (.caload, 1)) (hq : pc + 1 = q) (K : Go p e below G T m q L (.int x :: S)) : Go p e below G T m pc L (.int j :: .ref a :: S) := by
  subst hq hji; obtain ⟨cl, Ar, ex, -⟩ := A
  exact Go.st (fun t k => X.caload hx (j := j) (v := .int x) (by rw [eT]; exact Ar.1) (State.isArrayOf_alike hZ.alike Ar.2.1) Ar.2.2 (own_in ex hj (own_inl hv)) (own_at ex hv) (g := mkF m pc L (.int j :: .ref a :: S)) rfl rfl hd t k) K
theorem s_baload (X : Stand p l e R s m args below meth c T locs cells slots) (hx : p.tables.exec = Jvm.exec) (hZ : Z.Warmed39 s.vm) (eT : T.heap = h) {j : Int32} {x : Int32} (A : AI Z h a .byte xs) (hj : ¬ j < 0) {i : Nat} (hji : j.toNatClampNeg = i) (hv : xs[i]? = some x) (hd : decode c.code pc = .ok (.baload, 1)) (hq : pc + 1 = q) (K : Go p e below G T m q L (.int x :: S)) : Go p e below G T m pc L (.int j :: .ref a :: S) := by
  subst hq hji; obtain ⟨cl, Ar, ex, -⟩ := A
  exact Go.st (fun t k => X.baloadBytes hx (j := j) (v := .int x) (by rw [eT]; exact Ar.1) (State.isArrayOf_alike hZ.alike Ar.2.1) Ar.2.2 (own_in ex hj (own_inl hv)) (own_at ex hv) (g := mkF m pc L (.int j :: .ref a :: S)) rfl rfl hd t k) K
theorem s_laload (X : Stand p l e R s m args below meth c T locs cells slots) (hx : p.tables.exec = Jvm.exec) (hZ : Z.Warmed39 s.vm) (eT : T.heap = h) {j : Int32} {x : Int64} (A : AJ Z h a us) (hj : ¬ j < 0) {i : Nat} (hji : j.toNatClampNeg = i) (hv : us[i]? = some x) (hd : decode c.code pc = .ok (.laload, 1)) (hq : pc + 1 = q) (K : Go p e below G T m q L (.long x :: S)) : Go p e below G T m pc L (.int j :: .ref a :: S) := by
  subst hq hji; obtain ⟨cl, Ar, ex, -⟩ := A
  exact Go.st (fun t k => X.laload hx (j := j) (v := .long x) (by rw [eT]; exact Ar.1) (State.isArrayOf_alike hZ.alike Ar.2.1) Ar.2.2 (own_in ex hj (own_inl hv)) (own_at ex hv) (g := mkF m pc L (.int j :: .ref a :: S)) rfl rfl hd t k) K
theorem s_iastore (X : Stand p l e R s m args below meth c T locs cells slots) (hx : p.tables.exec = Jvm.exec) (hZ : Z.Warmed39 s.vm) (eT : T.heap = h) {j : Int32} {x : Int32} (A : AI Z h a .int xs) (N : Fr n0 locs) (hg : n0 ≤ a) (hj : ¬ j < 0) {i : Nat} (hji : j.toNatClampNeg = i) (hi : i < xs.length) (hs : xs.set i x = ys) (hd : decode c.code pc = .ok (.iastore, 1)) (hq : pc + 1 = q)
    (k : ∀ (T' : State) (h' : Heap) (locs' : List Loc), Stand p l e R s m args below meth c T' locs' cells slots → Fr n0 locs' → T'.heap = h' → Wr h h' a i (.int x) → AI Z h' a .int ys → Go p e below G T' m q L S) : Go p e below G T m pc L (.int x :: .int j :: .ref a :: S) := by
  subst hq hs hji; have A0 := A; obtain ⟨cl, Ar, ex, -⟩ := A
  obtain ⟨T', h', X', e', W, st⟩ := Jvm.RoadKit.stI X hx hZ eT Ar (j := j) (own_in ex hj hi) (g := mkF m pc L (.int x :: .int j :: .ref a :: S)) rfl rfl hd
  exact Go.st st (k T' h' _ X' (Fr.snoc X' N hg) e' W (A0.same W))
theorem s_castore (X : Stand p l e R s m args below meth c T locs cells slots) (hx : p.tables.exec = Jvm.exec) (hZ : Z.Warmed39 s.vm) (eT : T.heap = h) {j : Int32} {x : Int32} (A : AI Z h a .char xs) (N : Fr n0 locs) (hg : n0 ≤ a) (hj : ¬ j < 0) {i : Nat} (hji : j.toNatClampNeg = i) (hi : i < xs.length) (hs : xs.set i (nar .char x) = ys) (hd : decode c.code pc = .ok (.castore, 1)) (hq : pc + 1 = q)
    (k : ∀ (T' : State) (h' : Heap) (locs' : List Loc), Stand p l e R s m args below meth c T' locs' cells slots → Fr n0 locs' → T'.heap = h' → Wr h h' a i (.int (nar .char x)) → AI Z h' a .char ys → Go p e below G T' m q L S) : Go p e below G T m pc L (.int x :: .int j :: .ref a :: S) := by
  subst hq hs hji; have A0 := A; obtain ⟨cl, Ar, ex, -⟩ := A
  obtain ⟨T', h', X', e', W, st⟩ := stC X hx hZ eT Ar (j := j) (own_in ex hj hi) (g := mkF m pc L (.int x :: .int j :: .ref a :: S)) rfl rfl hd
  exact Go.st st (k T' h' _ X' (Fr.snoc X' N hg) e' W (A0.same W))
theorem s_bastore (X : Stand p l e R s m args below meth c T locs cells slots) (hx : p.tables.exec = Jvm.exec) (hZ : Z.Warmed39 s.vm) (eT : T.heap = h) {j : Int32} {x : Int32} (A : AI Z h a .byte xs) (N : Fr n0 locs) (hg : n0 ≤ a) (hj : ¬ j < 0) {i : Nat} (hji : j.toNatClampNeg = i) (hi : i < xs.length) (hs : xs.set i (nar .byte x) = ys) (hd : decode c.code pc = .ok (.bastore, 1)) (hq : pc + 1 = q)
    (k : ∀ (T' : State) (h' : Heap) (locs' : List Loc), Stand p l e R s m args below meth c T' locs' cells slots → Fr n0 locs' → T'.heap = h' → Wr h h' a i (.int (nar .byte x)) → AI Z h' a .byte ys → Go p e below G T' m q L S) : Go p e below G T m pc L (.int x :: .int j :: .ref a :: S) := by
  subst hq hs hji; have A0 := A; obtain ⟨cl, Ar, ex, -⟩ := A
  obtain ⟨T', h', X', e', W, st⟩ := stB X hx hZ eT Ar (j := j) (own_in ex hj hi) (g := mkF m pc L (.int x :: .int j :: .ref a :: S)) rfl rfl hd
  exact Go.st st (k T' h' _ X' (Fr.snoc X' N hg) e' W (A0.same W))
theorem s_lastore (X : Stand p l e R s m args below meth c T locs cells slots) (hx : p.tables.exec = Jvm.exec) (hZ : Z.Warmed39 s.vm) (eT : T.heap = h) {j : Int32} {x : Int64} (A : AJ Z h a us) (N : Fr n0 locs) (hg : n0 ≤ a) (hj : ¬ j < 0) {i : Nat} (hji : j.toNatClampNeg = i) (hi : i < us.length) (hs : us.set i x = vs) (hd : decode c.code pc = .ok (.lastore, 1)) (hq : pc + 1 = q)
    (k : ∀ (T' : State) (h' : Heap) (locs' : List Loc), Stand p l e R s m args below meth c T' locs' cells slots → Fr n0 locs' → T'.heap = h' → Wr h h' a i (.long x) → AJ Z h' a vs → Go p e below G T' m q L S) : Go p e below G T m pc L (.long x :: .int j :: .ref a :: S) := by
  subst hq hs hji; have A0 := A; obtain ⟨cl, Ar, ex, -⟩ := A
  obtain ⟨T', h', X', e', W, st⟩ := Jvm.RoadKit.stJ X hx hZ eT Ar (j := j) (own_in ex hj hi) (g := mkF m pc L (.long x :: .int j :: .ref a :: S)) rfl rfl hd
  exact Go.st st (k T' h' _ X' (Fr.snoc X' N hg) e' W (A0.same W))
theorem s_newI (X : Stand p l e R s m args below meth c T locs cells slots) (hx : p.tables.exec = Jvm.exec) (hZ : Z.Warmed39 s.vm) (w : (Jvm.Cond.arrayClass .int).before a0 Z = true) (eT : T.heap = h) {z : Int32} (hz : ¬ z < 0) {cap : Nat} (hcap : z.toNatClampNeg ≤ cap) (hb8 : cap * 8 ≤ 536870912) (hc : cells + 1 ≤ R.cells) (hl : slots + cap ≤ R.slots) (hs : List.replicate z.toNatClampNeg 0 = ys) (hd : decode c.code pc = .ok (.newarray .int, 2)) (hq : pc + 2 = q)
    (k : ∀ (T' : State) (h' : Heap) (a : Addr), Stand p l e R s m args below meth c T' locs (cells + 1) (slots + cap) → T'.heap = h' → Ext h h' → a = h.size → AI Z h' a .int ys → Go p e below G T' m q L (.ref a :: S)) : Go p e below G T m pc L (.int z :: S) := by
  subst hq hs
  obtain ⟨T', h', cA, X', e', E, A, st⟩ := newP X hx hZ (aty := .int) w eT (g := mkF m pc L (.int z :: S)) rfl hd rfl hz (cap := cap) hcap hb8 hc hl
  refine Go.st st (k T' h' _ X' e' E rfl ⟨_, A, ?_, ?_⟩)
  · simp [newA, defaultValue, newarray.typeOf]
  · rw [List.length_replicate]; have := z.toInt_lt; simp only [Int32.toNatClampNeg]; omega
theorem s_newC (X : Stand p l e R s m args below meth c T locs cells slots) (hx : p.tables.exec = Jvm.exec) (hZ : Z.Warmed39 s.vm) (w : (Jvm.Cond.arrayClass .char).before a0 Z = true) (eT : T.heap = h) {z : Int32} (hz : ¬ z < 0) {cap : Nat} (hcap : z.toNatClampNeg ≤ cap) (hb8 : cap * 8 ≤ 536870912) (hc : cells + 1 ≤ R.cells) (hl : slots + cap ≤ R.slots) (hs : List.replicate z.toNatClampNeg 0 = ys) (hd : decode c.code pc = .ok (.newarray .char, 2)) (hq : pc + 2 = q)
    (k : ∀ (T' : State) (h' : Heap) (a : Addr), Stand p l e R s m args below meth c T' locs (cells + 1) (slots + cap) → T'.heap = h' → Ext h h' → a = h.size → AI Z h' a .char ys → Go p e below G T' m q L (.ref a :: S)) : Go p e below G T m pc L (.int z :: S) := by
  subst hq hs
  obtain ⟨T', h', cA, X', e', E, A, st⟩ := newP X hx hZ (aty := .char) w eT (g := mkF m pc L (.int z :: S)) rfl hd rfl hz (cap := cap) hcap hb8 hc hl
  refine Go.st st (k T' h' _ X' e' E rfl ⟨_, A, ?_, ?_⟩)
  · simp [newA, defaultValue, newarray.typeOf]
  · rw [List.length_replicate]; have := z.toInt_lt; simp only [Int32.toNatClampNeg]; omega
theorem s_newB (X : Stand p l e R s m args below meth c T locs cells slots) (hx : p.tables.exec = Jvm.exec) (hZ : Z.Warmed39 s.vm) (w : (Jvm.Cond.arrayClass .byte).before a0 Z = true) (eT : T.heap = h) {z : Int32} (hz : ¬ z < 0) {cap : Nat} (hcap : z.toNatClampNeg ≤ cap) (hb8 : cap * 8 ≤ 536870912) (hc : cells + 1 ≤ R.cells) (hl : slots + cap ≤ R.slots) (hs : List.replicate z.toNatClampNeg 0 = ys) (hd : decode c.code pc = .ok (.newarray .byte, 2)) (hq : pc + 2 = q)
    (k : ∀ (T' : State) (h' : Heap) (a : Addr), Stand p l e R s m args below meth c T' locs (cells + 1) (slots + cap) → T'.heap = h' → Ext h h' → a = h.size → AI Z h' a .byte ys → Go p e below G T' m q L (.ref a :: S)) : Go p e below G T m pc L (.int z :: S) := by
  subst hq hs
  obtain ⟨T', h', cA, X', e', E, A, st⟩ := newP X hx hZ (aty := .byte) w eT (g := mkF m pc L (.int z :: S)) rfl hd rfl hz (cap := cap) hcap hb8 hc hl
  refine Go.st st (k T' h' _ X' e' E rfl ⟨_, A, ?_, ?_⟩)
  · simp [newA, defaultValue, newarray.typeOf]
  · rw [List.length_replicate]; have := z.toInt_lt; simp only [Int32.toNatClampNeg]; omega
theorem s_newJ (X : Stand p l e R s m args below meth c T locs cells slots) (hx : p.tables.exec = Jvm.exec) (hZ : Z.Warmed39 s.vm) (w : (Jvm.Cond.arrayClass .long).before a0 Z = true) (eT : T.heap = h) {z : Int32} (hz : ¬ z < 0) {cap : Nat} (hcap : z.toNatClampNeg ≤ cap) (hb8 : cap * 8 ≤ 536870912) (hc : cells + 1 ≤ R.cells) (hl : slots + cap ≤ R.slots) (hs : List.replicate z.toNatClampNeg 0 = vs) (hd : decode c.code pc = .ok (.newarray .long, 2)) (hq : pc + 2 = q)
    (k : ∀ (T' : State) (h' : Heap) (a : Addr), Stand p l e R s m args below meth c T' locs (cells + 1) (slots + cap) → T'.heap = h' → Ext h h' → a = h.size → AJ Z h' a vs → Go p e below G T' m q L (.ref a :: S)) : Go p e below G T m pc L (.int z :: S) := by
  subst hq hs
  obtain ⟨T', h', cA, X', e', E, A, st⟩ := newP X hx hZ (aty := .long) w eT (g := mkF m pc L (.int z :: S)) rfl hd rfl hz (cap := cap) hcap hb8 hc hl
  refine Go.st st (k T' h' _ X' e' E rfl ⟨_, A, ?_, ?_⟩)
  · simp [newA, defaultValue, newarray.typeOf]
  · rw [List.length_replicate]; have := z.toInt_lt; simp only [Int32.toNatClampNeg]; omega
theorem s_lenI (X : Stand p l e R s m args below meth c T locs cells slots) (hx : p.tables.exec = Jvm.exec) (hZ : Z.Warmed39 s.vm) (eT : T.heap = h) {z : Int32} (A : AI Z h a ty xs) (hz : xs.length.toInt32 = z) (hd : decode c.code pc = .ok (.arraylength, 1)) (hq : pc + 1 = q) (K : Go p e below G T m q L (.int z :: S)) : Go p e below G T m pc L (.ref a :: S) := by
  subst hq hz; obtain ⟨cl, Ar, ex, -⟩ := A
  rw [← own_size ex] at K
  exact Go.st (fun t k => X.arraylength hx (by rw [eT]; exact Ar.1) (State.isArrayOf_alike hZ.alike Ar.2.1) (g := mkF m pc L (.ref a :: S)) rfl rfl hd t k) K
theorem s_lenJ (X : Stand p l e R s m args below meth c T locs cells slots) (hx : p.tables.exec = Jvm.exec) (hZ : Z.Warmed39 s.vm) (eT : T.heap = h) {z : Int32} (A : AJ Z h a us) (hz : us.length.toInt32 = z) (hd : decode c.code pc = .ok (.arraylength, 1)) (hq : pc + 1 = q) (K : Go p e below G T m q L (.int z :: S)) : Go p e below G T m pc L (.ref a :: S) := by
  subst hq hz; obtain ⟨cl, Ar, ex, -⟩ := A
  rw [← own_size ex] at K
  exact Go.st (fun t k => X.arraylength hx (by rw [eT]; exact Ar.1) (State.isArrayOf_alike hZ.alike Ar.2.1) (g := mkF m pc L (.ref a :: S)) rfl rfl hd t k) K
theorem own_mask_nn (x m : Int32) (h0 : 0 ≤ m.toInt) : ¬ (x &&& m) < 0 := by
  have := c_and x m h0; rw [Int32.lt_iff_toInt_lt]; show ¬ (x &&& m).toInt < 0; omega
theorem own_mask_ix (x m : Int32) {N : Nat} (h0 : 0 ≤ m.toInt) (h : m.toInt < N) : (x &&& m).toNatClampNeg < N := by
  have := c_and x m h0; simp only [Int32.toNatClampNeg]; omega
theorem own_idx {k n : Int32} {N : Nat} (h0 : ¬ k < 0) (h : k < n) (hn : n.toInt = N) : k.toNatClampNeg < N := by
  have e0 : (0 : Int32).toInt = 0 := rfl
  simp only [Int32.lt_iff_toInt_lt, Int32.toNatClampNeg] at *; omega
theorem own_cs {x : Int32} {k : Int} (b : Int32) (hb : b.toInt = k) (h : x.toInt = k) : x = b := Int32.toInt_inj.mp (h.trans hb.symm)
theorem own_lt {x b : Int32} {k : Int} (hb : b.toInt = k) (h : x.toInt < k) : x < b := by rw [Int32.lt_iff_toInt_lt, hb]; exact h
theorem own_nlt {x b : Int32} {k : Int} (hb : b.toInt = k) (h : k ≤ x.toInt) : ¬ x < b := by rw [Int32.lt_iff_toInt_lt, hb]; omega
theorem own_gt {x b : Int32} {k : Int} (hb : b.toInt = k) (h : k < x.toInt) : b < x := by rw [Int32.lt_iff_toInt_lt, hb]; exact h
theorem own_ngt {x b : Int32} {k : Int} (hb : b.toInt = k) (h : x.toInt ≤ k) : ¬ b < x := by rw [Int32.lt_iff_toInt_lt, hb]; omega
theorem own_eqi {x b : Int32} {k : Int} (hb : b.toInt = k) (h : x.toInt = k) : x = b := Int32.toInt_inj.mp (h.trans hb.symm)
theorem own_nei {x b : Int32} {k : Int} (hb : b.toInt = k) (h : x.toInt ≠ k) : ¬ x = b := fun q => h (by rw [q, hb])
end Kit
section Kit3
variable {p : Program} {l : Launch} {e : Env} {R : Room} {s : State} {m : MethodId} {args : Array Value} {below : List Frame} {meth : Method} {c : Code} {T : State} {locs : List Loc} {cells slots : Nat} {G : State → Prop} {L L' : Array Slot} {S : List Value} {pc q q1 : Nat}
variable {Z : State} {a0 : Array Value} {h h' : Heap} {a b : Addr} {own C O n d : String} {v : Value} {n0 : Nat} {ty : FieldType} {vs us : List Value} {ws : List Addr} {sl : Nat} {w : Value}
/-- an array of references, by its list; AO: one of Objects, into which objects may be stored -/
def AV (Z : State) (h : Heap) (a : Addr) (ty : FieldType) (vs : List Value) : Prop := ∃ cl : Cell, Arr Z h a cl ty ∧ cl.slots.toList = vs ∧ vs.length < 2147483648
def AO (Z : State) (h : Heap) (a : Addr) (vs : List Value) : Prop := ∃ cl : Cell, Arr Z h a cl (.object "java/lang/Object") ∧ Ovr Z cl.cls "java/lang/Object" ∧ cl.slots.toList = vs ∧ vs.length < 2147483648
theorem AV.ext (A : AV Z h a ty vs) (E : Ext h h') : AV Z h' a ty vs := by obtain ⟨c, A, r⟩ := A; exact ⟨c, A.ext E, r⟩
theorem AO.lt (A : AO Z h a vs) : a < h.size := by obtain ⟨c, A, -⟩ := A; exact A.lt
theorem AO.ext (A : AO Z h a vs) (E : Ext h h') : AO Z h' a vs := by obtain ⟨c, A, r⟩ := A; exact ⟨c, A.ext E, r⟩
theorem AO.other (A : AO Z h a vs) (W : Wr h h' b sl w) (q : a ≠ b) : AO Z h' a vs := by obtain ⟨c, A, r⟩ := A; exact ⟨c, A.other W q, r⟩
theorem AO.keep (A : AO Z h a vs) (K : Keep h h' ws) (q : a ∉ ws) : AO Z h' a vs := by obtain ⟨c, A, r⟩ := A; exact ⟨c, ⟨K.2.1 a c A.1 q, A.2⟩, r⟩
theorem AO.same (A : AO Z h a vs) {i : Nat} (W : Wr h h' a i w) : AO Z h' a (vs.set i w) := by
  obtain ⟨c, A, o, e, n⟩ := A
  exact ⟨_, A.same W, o, by rw [set_list, e], by rw [List.length_set]; exact n⟩
theorem own_insz {cl : Cell} (e : cl.slots.toList = vs) {j : Int32} {i : Nat} (hj : ¬ j < 0) (hji : j.toNatClampNeg = i) (hi : i < vs.length) : ¬ (j < 0 ∨ cl.slots.size ≤ j.toNatClampNeg) := by
  have : cl.slots.size = vs.length := by rw [← Array.length_toList, e]
  rw [this, hji]; intro h; rcases h with h | h
  · exact hj h
  · omega
theorem s_aaload (X : Stand p l e R s m args below meth c T locs cells slots) (hx : p.tables.exec = Jvm.exec) (hZ : Z.Warmed39 s.vm) (eT : T.heap = h) {j : Int32} (A : AO Z h a vs) (hj : ¬ j < 0) {i : Nat} (hji : j.toNatClampNeg = i) (hv : vs[i]? = some v) (hd : decode c.code pc = .ok (.aaload, 1)) (hq : pc + 1 = q) (K : Go p e below G T m q L (v :: S)) : Go p e below G T m pc L (.int j :: .ref a :: S) := by
  subst hq; obtain ⟨cl, Ar, -, ex, -⟩ := A
  exact Go.st (fun t k => X.aaload hx (j := j) (v := v) (by rw [eT]; exact Ar.1) (State.isArrayOf_alike hZ.alike Ar.2.1) rfl Ar.2.2 (own_insz ex hj hji (List.getElem?_eq_some_iff.mp hv).1) (by rw [hji, ← Array.getElem?_toList, ex]; exact hv) (g := mkF m pc L (.int j :: .ref a :: S)) rfl rfl hd t k) K
theorem s_aastore (X : Stand p l e R s m args below meth c T locs cells slots) (hx : p.tables.exec = Jvm.exec) (hZ : Z.Warmed39 s.vm) (eT : T.heap = h) {j : Int32} (A : AO Z h a vs) (N : Fr n0 locs) (hg : n0 ≤ a) (hI : v = .null ∨ ∃ y, v = .ref y ∧ Ins Z h y "java/lang/Object" true) (hj : ¬ j < 0) {i : Nat} (hji : j.toNatClampNeg = i) (hi : i < vs.length) (hs : vs.set i v = us) (hd : decode c.code pc = .ok (.aastore, 1)) (hq : pc + 1 = q)
    (k : ∀ (T' : State) (h' : Heap) (locs' : List Loc), Stand p l e R s m args below meth c T' locs' cells slots → Fr n0 locs' → T'.heap = h' → Wr h h' a i v → AO Z h' a us → Go p e below G T' m q L S) : Go p e below G T m pc L (v :: .int j :: .ref a :: S) := by
  subst hq hs hji; have A0 := A; obtain ⟨cl, Ar, Ov, ex, -⟩ := A
  have F : Sto Z h a v := hI.elim (fun q => Or.inl q) (fun ⟨y, q, I⟩ => q ▸ Sto.of Ar Ov I)
  obtain ⟨T', h', X', e', W, st⟩ := Jvm.RoadKit.stR X hx hZ eT Ar (j := j) (own_insz ex hj rfl hi) rfl F (g := mkF m pc L (v :: .int j :: .ref a :: S)) rfl rfl hd
  exact Go.st st (k T' h' _ X' (Fr.snoc X' N hg) e' W (A0.same W))
theorem s_anew (X : Stand p l e R s m args below meth c T locs cells slots) (hx : p.tables.exec = Jvm.exec) (hZ : Z.Warmed39 s.vm) (hown : s.vm.findClass own = some m.cls) {index : Nat} (w1 : (Jvm.Cond.classLink own index "java/lang/Object").before a0 Z = true) (w2 : (Jvm.Cond.arrayOver (.object "java/lang/Object")).before a0 Z = true) (eT : T.heap = h) {z : Int32} (hz : ¬ z < 0) {cap : Nat} (hcap : z.toNatClampNeg ≤ cap) (hb8 : cap * 8 ≤ 536870912) (hc : cells + 1 ≤ R.cells) (hl : slots + cap ≤ R.slots) (hs : List.replicate z.toNatClampNeg Value.null = us) (hd : decode c.code pc = .ok (.anewarray index, 3)) (hq : pc + 3 = q)
    (k : ∀ (T' : State) (h' : Heap) (a : Addr), Stand p l e R s m args below meth c T' locs (cells + 1) (slots + cap) → T'.heap = h' → Ext h h' → a = h.size → AO Z h' a us → Go p e below G T' m q L (.ref a :: S)) : Go p e below G T m pc L (.int z :: S) := by
  subst hq hs
  obtain ⟨T', h', cA, X', e', E, A, Ov, st⟩ := newR X hx hZ hown w1 w2 eT (g := mkF m pc L (.int z :: S)) rfl hd rfl hz (cap := cap) hcap hb8 hc hl
  refine Go.st st (k T' h' _ X' e' E rfl ⟨_, A, Ov, ?_, ?_⟩)
  · simp [newA, defaultValue]
  · rw [List.length_replicate]; have := z.toInt_lt; simp only [Int32.toNatClampNeg]; omega
theorem s_lenO (X : Stand p l e R s m args below meth c T locs cells slots) (hx : p.tables.exec = Jvm.exec) (hZ : Z.Warmed39 s.vm) (eT : T.heap = h) {z : Int32} (A : AO Z h a vs) (hz : vs.length.toInt32 = z) (hd : decode c.code pc = .ok (.arraylength, 1)) (hq : pc + 1 = q) (K : Go p e below G T m q L (.int z :: S)) : Go p e below G T m pc L (.ref a :: S) := by
  subst hq hz; obtain ⟨cl, Ar, -, ex, -⟩ := A
  rw [show vs.length = cl.slots.size by rw [← Array.length_toList, ex]] at K
  exact Go.st (fun t k => X.arraylength hx (by rw [eT]; exact Ar.1) (State.isArrayOf_alike hZ.alike Ar.2.1) (g := mkF m pc L (.ref a :: S)) rfl rfl hd t k) K
theorem s_lenV (X : Stand p l e R s m args below meth c T locs cells slots) (hx : p.tables.exec = Jvm.exec) (hZ : Z.Warmed39 s.vm) (eT : T.heap = h) {z : Int32} (A : AV Z h a ty vs) (hz : vs.length.toInt32 = z) (hd : decode c.code pc = .ok (.arraylength, 1)) (hq : pc + 1 = q) (K : Go p e below G T m q L (.int z :: S)) : Go p e below G T m pc L (.ref a :: S) := by
  subst hq hz; obtain ⟨cl, Ar, ex, -⟩ := A
  rw [show vs.length = cl.slots.size by rw [← Array.length_toList, ex]] at K
  exact Go.st (fun t k => X.arraylength hx (by rw [eT]; exact Ar.1) (State.isArrayOf_alike hZ.alike Ar.2.1) (g := mkF m pc L (.ref a :: S)) rfl rfl hd t k) K
theorem s_getS (X : Stand p l e R s m args below meth c T locs cells slots) (hx : p.tables.exec = Jvm.exec) (hZ : Z.Warmed39 s.vm) (hown : s.vm.findClass own = some m.cls) {index : Nat} (w : (Jvm.Cond.fieldLink own index O n d).before a0 Z = true) (eT : T.heap = h) (F : Sta Z h O n d v) (hd : decode c.code pc = .ok (.getstatic index, 3)) (hq : pc + 3 = q)
    (k : ∀ T', Stand p l e R s m args below meth c T' locs cells slots → T'.heap = h → Go p e below G T' m q L (v :: S)) : Go p e below G T m pc L S := by
  subst hq
  obtain ⟨T', X', e', st⟩ := getS2 X hx hZ hown (host := "") (Or.inl w) Via.refl eT F (g := mkF m pc L S) rfl hd
  exact Go.st st (k T' X' e')
theorem s_getFV (X : Stand p l e R s m args below meth c T locs cells slots) (hx : p.tables.exec = Jvm.exec) (hZ : Z.Warmed39 s.vm) (hown : s.vm.findClass own = some m.cls) {index : Nat} {R0 : String} (w : (Jvm.Cond.fieldLink own index R0 n d).before a0 Z = true) (via : Via Z R0 O n d) (eT : T.heap = h) (F : Fld Z h a O n d v) (hd : decode c.code pc = .ok (.getfield index, 3)) (hq : pc + 3 = q)
    (k : ∀ T', Stand p l e R s m args below meth c T' locs cells slots → T'.heap = h → Go p e below G T' m q L (v :: S)) : Go p e below G T m pc L (.ref a :: S) := by
  subst hq
  obtain ⟨T', X', e', st⟩ := getF X hx hZ hown (host := "") (Or.inl w) via eT F (g := mkF m pc L (.ref a :: S)) rfl rfl hd
  exact Go.st st (k T' X' e')
theorem s_putFV (X : Stand p l e R s m args below meth c T locs cells slots) (hx : p.tables.exec = Jvm.exec) (hZ : Z.Warmed39 s.vm) (hown : s.vm.findClass own = some m.cls) {index kk : Nat} {R0 : String} {ty : FieldType} {v old : Value} (w : (Jvm.Cond.fieldLink own index R0 n d).before a0 Z = true) (via : Via Z R0 O n d) (eT : T.heap = h) (F : Fld Z h a O n d old) (E : Exa Z h a C)
    (Ly : (Jvm.Cond.lays C O n d).before a0 Z = true ∨ ((Jvm.Cond.laysFinal C O n d).before a0 Z = true ∧ own = O ∧ meth.name = "<init>")) (wi : (Jvm.Cond.instantiable C kk).before a0 Z = true) (hty : parseFieldDescriptor d = some ty) (hn : narrow ty v = v) (hfit : fits ty v = true) (N : Fr n0 locs) (hg : n0 ≤ a) (hd : decode c.code pc = .ok (.putfield index, 3)) (hq : pc + 3 = q)
    (k : ∀ (T' : State) (h' : Heap) (locs' : List Loc), Stand p l e R s m args below meth c T' locs' cells slots → Fr n0 locs' → T'.heap = h' → Wr h h' a (Jvm.RoadKit.slotOf Z O n d) v → Fld Z h' a O n d v → Go p e below G T' m q L S) : Go p e below G T m pc L (v :: .ref a :: S) := by
  subst hq
  obtain ⟨T', h', X', e', W, st⟩ := putF X hx hZ hown (host := "") (Or.inl w) via eT F E Ly wi hty hn hfit (g := mkF m pc L (v :: .ref a :: S)) rfl rfl hd
  exact Go.st st (k T' h' _ X' (Fr.snoc X' N hg) e' W (F.same W))
/-- a private method of a class that is no interface is the one selected -/
theorem sel_priv {args' : Array Value} {y z : MethodName} (hz : z.cls = y.cls) (hy : y.cls ≠ "java/lang/invoke/MethodHandle" ∧ y.cls ≠ "java/lang/invoke/VarHandle") (w1 : (Jvm.Cond.instanceMethod y).before args' s = true) (w2 : s.PrivateAt y) (w3 : (Jvm.Cond.selects z.cls z z).before args' s = true) : (Jvm.Cond.selects y.cls y y).before args' s = true := by
  obtain ⟨mk, methM, hnamed, hmethM, -, -⟩ := Cond.instanceMethod_spec w1
  obtain ⟨c2, r2, m2, q1, -, q3, -, kP, hkP, hkPi⟩ := Cond.selects_spec w3
  have hc := findClass_of_methodNamed hnamed
  have hc2 := findClass_of_methodNamed q3
  rw [hz] at hc2
  have e1 : m2.cls = mk.cls := Option.some.inj (hc2.symm.trans hc)
  rw [e1] at hkP
  have hf := State.methodFound?_of_named hnamed hy
  have hs : selectMethod {} s.vm mk.cls mk = .method mk := selectMethod_private hmethM (w2 mk methM hnamed hmethM)
  simp [Cond.before, Cond.holds, Cond.value, hc, hf, hnamed, hs, hkP, hkPi]
theorem callPr (X : Stand p l e R s m args below meth c T locs cells slots) (hx : p.tables.exec = Jvm.exec) (hZ : Z.Warmed39 s.vm) (hown : s.vm.findClass own = some m.cls) {index : Nat} {y z : MethodName} {bytes : ByteArray} {maxL : Nat} {ret : Option FieldType} {rm : Room} {Q : Option Value → Heap → List Loc → Prop} {W : Nat} {argsL rest : List Value}
    (w1 : (Jvm.Cond.methodLink own index y).before a0 Z = true) (w5 : (Jvm.Cond.instanceMethod y).before a0 Z = true) (w7 : (Jvm.Cond.privateMethod y).before a0 Z = true) (hzy : z.cls = y.cls) (w3 : (Jvm.Cond.selects z.cls z z).before a0 Z = true) (w6 : (Jvm.Cond.initialized y.cls).before a0 Z = true) (w4 : (Jvm.Cond.code y bytes maxL ret).before a0 Z = true) (hy : y.cls ≠ "java/lang/invoke/MethodHandle" ∧ y.cls ≠ "java/lang/invoke/VarHandle")
    (A : Exa Z h a C) (K : Ctr l y bytes maxL ret [] rm Z (.ref a :: argsL).toArray h Q rm.cells rm.slots) (eT : T.heap = h) (hf : rm.frames + 1 ≤ R.frames) (hl : W + (maxL + 11) + rm.locals ≤ R.locals) (hc : cells + rm.cells ≤ R.cells) (hn : slots + rm.slots ≤ R.slots) (hsize : L.size = c.maxLocals)
    {ps : List FieldType} {r : Option FieldType} (hlen : parseMethodDescriptor y.desc = some ⟨ps, r⟩) (hl2 : argsL.length = ps.length) (hS : S = argsL.reverse ++ .ref a :: rest) (hW : (rest.map fun v => v.category).sum ≤ W) (hd : decode c.code pc = .ok (.invokevirtual index, 3)) (hq : pc + 3 = q)
    (k : ∀ (v : Option Value) (T' : State) (Lc : List Loc), Q v T'.heap Lc → Stand p l e R s m args below meth c T' (locs ++ Lc) (cells + rm.cells) (slots + rm.slots) → Go p e below G T' m q L (v.toList ++ rest)) : Go p e below G T m pc L S := by
  subst hq hS
  obtain ⟨cell, hcell, hobj⟩ := A.cell
  have hpv : s.PrivateAt y := Cond.privateMethod_at (mvP hZ w7 (args := args))
  obtain ⟨v, _, ⟨T', L', k', n'⟩, -, X', ⟨Lc, hQ, l1, y1, z1⟩, st⟩ := X.privateBack hx (y := y) hown (mvT hZ w1) (mvT hZ w5) (sel_priv hzy hy (mvT hZ w5) hpv (mvT hZ w3)) hpv (mvT hZ w4) hy (backOf (W := W) K hZ w4 w6 hf hl) (g := mkF m pc L (argsL.reverse ++ .ref a :: rest)) rfl hsize (Steps.refl _) (a := a) (by rw [eT]; exact hcell) hobj (argsL := argsL) (rest := rest) (lenOf hlen hl2) rfl (by show 2 * 0 + _ ≤ _; omega) hd (fun _ _ => ⟨rfl, eT, hc, hn⟩)
  dsimp only [Pt.U, Pt.locs, Pt.cells, Pt.slots] at X' l1 y1 z1 st hQ
  subst l1 y1 z1
  exact Go.st (fun t h => st.trans h) (k v T' Lc hQ X')
theorem callF (X : Stand p l e R s m args below meth c T locs cells slots) (hx : p.tables.exec = Jvm.exec) (hZ : Z.Warmed39 s.vm) (hown : s.vm.findClass own = some m.cls) {index count : Nat} {xi y : MethodName} {bytes : ByteArray} {maxL : Nat} {ret : Option FieldType} {rm : Room} {Q : Option Value → Heap → List Loc → Prop} {W : Nat} {argsL rest : List Value}
    (w1 : (Jvm.Cond.methodLink own index xi).before a0 Z = true) (w2 : (Jvm.Cond.declares xi).before a0 Z = true) (w8 : (Jvm.Cond.interfaceMethod xi.cls xi.cls xi.name xi.desc).before a0 Z = true) (hd8 : ((Jvm.Cond.interfaceMethod xi.cls xi.cls xi.name xi.desc).onTables && (Jvm.Cond.interfaceMethod xi.cls xi.cls xi.name xi.desc).keepsFace) = true) (w3 : (Jvm.Cond.selects C xi y).before a0 Z = true) (w5 : (Jvm.Cond.instanceMethod y).before a0 Z = true) (w9 : (Jvm.Cond.publicMethod y).before a0 Z = true) (w10 : (Jvm.Cond.unhidden C xi.name xi.desc).before a0 Z = true) (w11 : (Jvm.Cond.castable C xi.cls).before a0 Z = true) (w6 : (Jvm.Cond.initialized y.cls).before a0 Z = true) (w4 : (Jvm.Cond.code y bytes maxL ret).before a0 Z = true) (hy : xi.cls ≠ "java/lang/invoke/MethodHandle" ∧ xi.cls ≠ "java/lang/invoke/VarHandle")
    (A : Exa Z h a C) (K : Ctr l y bytes maxL ret [] rm Z (.ref a :: argsL).toArray h Q rm.cells rm.slots) (eT : T.heap = h) (hf : rm.frames + 1 ≤ R.frames) (hl : W + (maxL + 11) + rm.locals ≤ R.locals) (hc : cells + rm.cells ≤ R.cells) (hn : slots + rm.slots ≤ R.slots) (hsize : L.size = c.maxLocals)
    {ps : List FieldType} {r : Option FieldType} (hlen : parseMethodDescriptor xi.desc = some ⟨ps, r⟩) (hl2 : argsL.length = ps.length) (hS : S = argsL.reverse ++ .ref a :: rest) (hW : (rest.map fun v => v.category).sum ≤ W) (hd : decode c.code pc = .ok (.invokeinterface index count, 5)) (hq : pc + 5 = q)
    (k : ∀ (v : Option Value) (T' : State) (Lc : List Loc), Q v T'.heap Lc → Stand p l e R s m args below meth c T' (locs ++ Lc) (cells + rm.cells) (slots + rm.slots) → Go p e below G T' m q L (v.toList ++ rest)) : Go p e below G T m pc L S := by
  subst hq hS
  obtain ⟨cq, kq, qa, qb, qc⟩ := isOf hZ eT A
  obtain ⟨v, _, ⟨T', L', k', n'⟩, -, X', ⟨Lc, hQ, l1, y1, z1⟩, st⟩ := X.interfaceBack hx (xi := xi) (y := y) hown (mvT hZ w1) (mvT hZ w2) (mvT hZ w8 hd8) (mvT hZ w3) (mvT hZ w5) (mvT hZ w9) (mvT hZ w10) (mvT hZ w11) hy (backOf (W := W) K hZ w4 w6 hf hl) qa qb qc (g := mkF m pc L (argsL.reverse ++ .ref a :: rest)) rfl hsize (Steps.refl _) (argsL := argsL) (rest := rest) (lenOf hlen hl2) rfl (by show 2 * 0 + _ ≤ _; omega) hd (fun _ _ => ⟨rfl, eT, hc, hn⟩)
  dsimp only [Pt.U, Pt.locs, Pt.cells, Pt.slots] at X' l1 y1 z1 st hQ
  subst l1 y1 z1
  exact Go.st (fun t h => st.trans h) (k v T' Lc hQ X')
end Kit3
theorem own_neA {Z : State} {h : Heap} {a b : Addr} {C : String} {a0 : Array Value} {k : Nat} {vs : List Value} (F : Exa Z h a C) (wi : (Jvm.Cond.instantiable C k).before a0 Z = true) (G : AO Z h b vs) : a ≠ b := by
  obtain ⟨cl, A, -⟩ := G; exact ne_arr F wi A
theorem d7_0 : decode jdk_29_method_70_code 0 = .ok (.lload_n 0, 1) := by decide +kernel
theorem d7_1 : decode jdk_29_method_70_code 1 = .ok (.lload_n 2, 1) := by decide +kernel
theorem d7_2 : decode jdk_29_method_70_code 2 = .ok (.lcmp, 1) := by decide +kernel
theorem d7_3 : decode jdk_29_method_70_code 3 = .ok (.ifCond .gt 7, 3) := by decide +kernel
theorem d7_6 : decode jdk_29_method_70_code 6 = .ok (.lload_n 0, 1) := by decide +kernel
theorem d7_7 : decode jdk_29_method_70_code 7 = .ok (.goto 4, 3) := by decide +kernel
theorem d7_10 : decode jdk_29_method_70_code 10 = .ok (.lload_n 2, 1) := by decide +kernel
theorem d7_11 : decode jdk_29_method_70_code 11 = .ok (.lreturn, 1) := by decide +kernel
theorem pn_7 : plainFor (⟨"java/lang/Math", "min", "(JJ)J"⟩ : MethodName) = true := Jvm.Free.JP.mathPlain rfl (by decide +kernel)
theorem ef_7 (m : MethodId) (x0 : Int64) (x1 : Int64) : entryFrame m #[(.long x0), (.long x1)] 4 = mkF m 0 #[.val (.long x0), .second, .val (.long x1), .second] [] := by first | (simp [entryFrame, mkF, argsToLocals, Value.category]; done) | rfl
def F7 (x0 : Int64) (x1 : Int64) : Int64 := (if x1 < x0 then x1 else x0)
set_option maxRecDepth 65536 in
set_option maxHeartbeats 40000000 in
theorem rm7 (l : Launch) (Z : State) (a0 : Array Value) (hw : ∀ d ∈ tables_1, d.before a0 Z = true) (ws : List Jvm.Cond) (x0 : Int64) (x1 : Int64)  (h0 : Heap) :
    Ctr l (⟨"java/lang/Math", "min", "(JJ)J"⟩ : MethodName) jdk_29_method_70_code 4 (some .long) ws ({ frames := 0, cells := 0, slots := 0, locals := 0 } : Room) Z #[(.long x0), (.long x1)] h0 (PQ (.long (F7 x0 x1)) h0) 0 0 := by
  refine Ctr.mk pn_7 ?_
  intro p e s m below meth c T hx hby hml hown hnm hlk hret hZ X eT
  refine enter (ef_7 m x0 x1) ?_
  obtain ⟨res, hres⟩ : ∃ r, r = F7 x0 x1 := ⟨_, rfl⟩
  rw [← hres]
  refine s_lloadN X hx (hb hby d7_0) rfl (q := 1) rfl ?_
  refine s_lloadN X hx (hb hby d7_1) rfl (q := 2) rfl ?_
  refine s_lcmp X hx (hb hby d7_2) (q := 3) rfl ?_
  refine f_lcmp_gt X hx (hb hby d7_3) (q1 := 10) (by decide) (by decide) (q := 6) rfl (fun hc3 => ?_) (fun hc3 => ?_)
  · refine s_lloadN X hx (hb hby d7_10) rfl (q := 11) rfl ?_
    exact leafJ X hx hlk hret (hb hby d7_11) (Nat.le_refl _) (Nat.le_refl _) ⟨congrArg (fun z => some (Value.long z)) (hres.trans (by unfold F7; rw [if_pos hc3])).symm, eT, rfl⟩
  refine s_lloadN X hx (hb hby d7_6) rfl (q := 7) rfl ?_
  refine s_goto X hx (hb hby d7_7) (q1 := 11) (by decide) (by decide) ?_
  exact leafJ X hx hlk hret (hb hby d7_11) (Nat.le_refl _) (Nat.le_refl _) ⟨congrArg (fun z => some (Value.long z)) (hres.trans (by unfold F7; rw [if_neg hc3])).symm, eT, rfl⟩
theorem d15_0 : decode jdk_29_method_69_code 0 = .ok (.iload_n 0, 1) := by decide +kernel
theorem d15_1 : decode jdk_29_method_69_code 1 = .ok (.iload_n 1, 1) := by decide +kernel
theorem d15_2 : decode jdk_29_method_69_code 2 = .ok (.if_icmp .gt 7, 3) := by decide +kernel
theorem d15_5 : decode jdk_29_method_69_code 5 = .ok (.iload_n 0, 1) := by decide +kernel
theorem d15_6 : decode jdk_29_method_69_code 6 = .ok (.goto 4, 3) := by decide +kernel
theorem d15_9 : decode jdk_29_method_69_code 9 = .ok (.iload_n 1, 1) := by decide +kernel
theorem d15_10 : decode jdk_29_method_69_code 10 = .ok (.ireturn, 1) := by decide +kernel
theorem pn_15 : plainFor (⟨"java/lang/Math", "min", "(II)I"⟩ : MethodName) = true := Jvm.Free.JP.mathPlain rfl (by decide +kernel)
theorem ef_15 (m : MethodId) (x0 : Int32) (x1 : Int32) : entryFrame m #[(.int x0), (.int x1)] 2 = mkF m 0 #[.val (.int x0), .val (.int x1)] [] := by first | (simp [entryFrame, mkF, argsToLocals, Value.category]; done) | rfl
def F15 (x0 : Int32) (x1 : Int32) : Int32 := (if x1 < x0 then x1 else x0)
set_option maxRecDepth 65536 in
set_option maxHeartbeats 40000000 in
theorem rm15 (l : Launch) (Z : State) (a0 : Array Value) (hw : ∀ d ∈ tables_1, d.before a0 Z = true) (ws : List Jvm.Cond) (x0 : Int32) (x1 : Int32)  (h0 : Heap) :
    Ctr l (⟨"java/lang/Math", "min", "(II)I"⟩ : MethodName) jdk_29_method_69_code 2 (some .int) ws ({ frames := 0, cells := 0, slots := 0, locals := 0 } : Room) Z #[(.int x0), (.int x1)] h0 (PQ (.int (F15 x0 x1)) h0) 0 0 := by
  refine Ctr.mk pn_15 ?_
  intro p e s m below meth c T hx hby hml hown hnm hlk hret hZ X eT
  refine enter (ef_15 m x0 x1) ?_
  obtain ⟨res, hres⟩ : ∃ r, r = F15 x0 x1 := ⟨_, rfl⟩
  rw [← hres]
  refine s_iloadN X hx (hb hby d15_0) rfl (q := 1) rfl ?_
  refine s_iloadN X hx (hb hby d15_1) rfl (q := 2) rfl ?_
  refine f_icmp_gt X hx (hb hby d15_2) (q1 := 9) (by decide) (by decide) (q := 5) rfl (fun hc2 => ?_) (fun hc2 => ?_)
  · refine s_iloadN X hx (hb hby d15_9) rfl (q := 10) rfl ?_
    exact leafI X hx hlk hret (hb hby d15_10) (Nat.le_refl _) (Nat.le_refl _) ⟨congrArg (fun z => some (Value.int z)) (hres.trans (by unfold F15; rw [if_pos hc2])).symm, eT, rfl⟩
  refine s_iloadN X hx (hb hby d15_5) rfl (q := 6) rfl ?_
  refine s_goto X hx (hb hby d15_6) (q1 := 10) (by decide) (by decide) ?_
  exact leafI X hx hlk hret (hb hby d15_10) (Nat.le_refl _) (Nat.le_refl _) ⟨congrArg (fun z => some (Value.int z)) (hres.trans (by unfold F15; rw [if_neg hc2])).symm, eT, rfl⟩
theorem d23_0 : decode jdk_29_method_65_code 0 = .ok (.iload_n 0, 1) := by decide +kernel
theorem d23_1 : decode jdk_29_method_65_code 1 = .ok (.iload_n 1, 1) := by decide +kernel
theorem d23_2 : decode jdk_29_method_65_code 2 = .ok (.if_icmp .lt 7, 3) := by decide +kernel
theorem d23_5 : decode jdk_29_method_65_code 5 = .ok (.iload_n 0, 1) := by decide +kernel
theorem d23_6 : decode jdk_29_method_65_code 6 = .ok (.goto 4, 3) := by decide +kernel
theorem d23_9 : decode jdk_29_method_65_code 9 = .ok (.iload_n 1, 1) := by decide +kernel
theorem d23_10 : decode jdk_29_method_65_code 10 = .ok (.ireturn, 1) := by decide +kernel
theorem pn_23 : plainFor (⟨"java/lang/Math", "max", "(II)I"⟩ : MethodName) = true := Jvm.Free.JP.mathPlain rfl (by decide +kernel)
theorem ef_23 (m : MethodId) (x0 : Int32) (x1 : Int32) : entryFrame m #[(.int x0), (.int x1)] 2 = mkF m 0 #[.val (.int x0), .val (.int x1)] [] := by first | (simp [entryFrame, mkF, argsToLocals, Value.category]; done) | rfl
def F23 (x0 : Int32) (x1 : Int32) : Int32 := (if x0 < x1 then x1 else x0)
set_option maxRecDepth 65536 in
set_option maxHeartbeats 40000000 in
theorem rm23 (l : Launch) (Z : State) (a0 : Array Value) (hw : ∀ d ∈ tables_1, d.before a0 Z = true) (ws : List Jvm.Cond) (x0 : Int32) (x1 : Int32)  (h0 : Heap) :
    Ctr l (⟨"java/lang/Math", "max", "(II)I"⟩ : MethodName) jdk_29_method_65_code 2 (some .int) ws ({ frames := 0, cells := 0, slots := 0, locals := 0 } : Room) Z #[(.int x0), (.int x1)] h0 (PQ (.int (F23 x0 x1)) h0) 0 0 := by
  refine Ctr.mk pn_23 ?_
  intro p e s m below meth c T hx hby hml hown hnm hlk hret hZ X eT
  refine enter (ef_23 m x0 x1) ?_
  obtain ⟨res, hres⟩ : ∃ r, r = F23 x0 x1 := ⟨_, rfl⟩
  rw [← hres]
  refine s_iloadN X hx (hb hby d23_0) rfl (q := 1) rfl ?_
  refine s_iloadN X hx (hb hby d23_1) rfl (q := 2) rfl ?_
  refine f_icmp_lt X hx (hb hby d23_2) (q1 := 9) (by decide) (by decide) (q := 5) rfl (fun hc2 => ?_) (fun hc2 => ?_)
  · refine s_iloadN X hx (hb hby d23_9) rfl (q := 10) rfl ?_
    exact leafI X hx hlk hret (hb hby d23_10) (Nat.le_refl _) (Nat.le_refl _) ⟨congrArg (fun z => some (Value.int z)) (hres.trans (by unfold F23; rw [if_pos hc2])).symm, eT, rfl⟩
  refine s_iloadN X hx (hb hby d23_5) rfl (q := 6) rfl ?_
  refine s_goto X hx (hb hby d23_6) (q1 := 10) (by decide) (by decide) ?_
  exact leafI X hx hlk hret (hb hby d23_10) (Nat.le_refl _) (Nat.le_refl _) ⟨congrArg (fun z => some (Value.int z)) (hres.trans (by unfold F23; rw [if_neg hc2])).symm, eT, rfl⟩
theorem d12_0 : decode jdk_29_method_25_code 0 = .ok (.lload_n 0, 1) := by decide +kernel
theorem d12_1 : decode jdk_29_method_25_code 1 = .ok (.lload_n 2, 1) := by decide +kernel
theorem d12_2 : decode jdk_29_method_25_code 2 = .ok (.ladd, 1) := by decide +kernel
theorem d12_3 : decode jdk_29_method_25_code 3 = .ok (.lstore 4, 2) := by decide +kernel
theorem d12_5 : decode jdk_29_method_25_code 5 = .ok (.lload_n 0, 1) := by decide +kernel
theorem d12_6 : decode jdk_29_method_25_code 6 = .ok (.lload 4, 2) := by decide +kernel
theorem d12_8 : decode jdk_29_method_25_code 8 = .ok (.lxor, 1) := by decide +kernel
theorem d12_9 : decode jdk_29_method_25_code 9 = .ok (.lload_n 2, 1) := by decide +kernel
theorem d12_10 : decode jdk_29_method_25_code 10 = .ok (.lload 4, 2) := by decide +kernel
theorem d12_12 : decode jdk_29_method_25_code 12 = .ok (.lxor, 1) := by decide +kernel
theorem d12_13 : decode jdk_29_method_25_code 13 = .ok (.land, 1) := by decide +kernel
theorem d12_14 : decode jdk_29_method_25_code 14 = .ok (.lconst 0, 1) := by decide +kernel
theorem d12_15 : decode jdk_29_method_25_code 15 = .ok (.lcmp, 1) := by decide +kernel
theorem d12_16 : decode jdk_29_method_25_code 16 = .ok (.ifCond .ge 13, 3) := by decide +kernel
theorem d12_19 : decode jdk_29_method_25_code 19 = .ok (.new 109, 3) := by decide +kernel
theorem d12_22 : decode jdk_29_method_25_code 22 = .ok (.dup, 1) := by decide +kernel
theorem d12_23 : decode jdk_29_method_25_code 23 = .ok (.ldc 116, 2) := by decide +kernel
theorem d12_25 : decode jdk_29_method_25_code 25 = .ok (.invokespecial 113, 3) := by decide +kernel
theorem d12_28 : decode jdk_29_method_25_code 28 = .ok (.athrow, 1) := by decide +kernel
theorem d12_29 : decode jdk_29_method_25_code 29 = .ok (.lload 4, 2) := by decide +kernel
theorem d12_31 : decode jdk_29_method_25_code 31 = .ok (.lreturn, 1) := by decide +kernel
theorem pn_12 : plainFor (⟨"java/lang/Math", "addExact", "(JJ)J"⟩ : MethodName) = true := Jvm.Free.JP.mathPlain rfl (by decide +kernel)
theorem ef_12 (m : MethodId) (x0 : Int64) (x1 : Int64) : entryFrame m #[(.long x0), (.long x1)] 6 = mkF m 0 #[.val (.long x0), .second, .val (.long x1), .second, .unset, .unset] [] := by first | (simp [entryFrame, mkF, argsToLocals, Value.category]; done) | rfl
set_option maxRecDepth 65536 in
set_option maxHeartbeats 40000000 in
theorem rm12 (l : Launch) (Z : State) (a0 : Array Value) (hw : ∀ d ∈ tables_1, d.before a0 Z = true) (ws : List Jvm.Cond) (x0 : Int64) (x1 : Int64)  (h0 : Heap) (hov : ¬ (((x0 ^^^ (x0 + x1)) &&& (x1 ^^^ (x0 + x1)))) < (0 : Int64)) :
    Ctr l (⟨"java/lang/Math", "addExact", "(JJ)J"⟩ : MethodName) jdk_29_method_25_code 6 (some .long) ws ({ frames := 0, cells := 0, slots := 0, locals := 0 } : Room) Z #[(.long x0), (.long x1)] h0 (PQ (.long (x0 + x1)) h0) 0 0 := by
  refine Ctr.mk pn_12 ?_
  intro p e s m below meth c T hx hby hml hown hnm hlk hret hZ X eT
  refine enter (ef_12 m x0 x1) ?_
  obtain ⟨res, hres⟩ : ∃ r, r = x0 + x1 := ⟨_, rfl⟩
  rw [← hres]
  refine s_lloadN X hx (hb hby d12_0) rfl (q := 1) rfl ?_
  refine s_lloadN X hx (hb hby d12_1) rfl (q := 2) rfl ?_
  refine s_ladd X hx (hb hby d12_2) (q := 3) rfl ?_
  refine s_lstore X hx (hb hby d12_3) (L' := #[.val (.long x0), .second, .val (.long x1), .second, .val (.long (x0 + x1)), .second]) rfl (q := 5) rfl ?_
  refine s_lloadN X hx (hb hby d12_5) rfl (q := 6) rfl ?_
  refine s_lload X hx (hb hby d12_6) rfl (q := 8) rfl ?_
  refine s_lxor X hx (hb hby d12_8) (q := 9) rfl ?_
  refine s_lloadN X hx (hb hby d12_9) rfl (q := 10) rfl ?_
  refine s_lload X hx (hb hby d12_10) rfl (q := 12) rfl ?_
  refine s_lxor X hx (hb hby d12_12) (q := 13) rfl ?_
  refine s_land X hx (hb hby d12_13) (q := 14) rfl ?_
  refine s_lconst X hx (z := (0 : Int64)) (hb hby d12_14) rfl (q := 15) rfl ?_
  refine s_lcmp X hx (hb hby d12_15) (q := 16) rfl ?_
  refine f_lcmp_ge X hx (hb hby d12_16) (q1 := 29) (by decide) (by decide) (q := 19) rfl (fun _ => ?_) (fun hq => absurd hq (hov : ¬ ((x0 ^^^ (x0 + x1)) &&& (x1 ^^^ (x0 + x1))) < (0 : Int64)))
  refine s_lload X hx (hb hby d12_29) rfl (q := 31) rfl ?_
  exact leafJ X hx hlk hret (hb hby d12_31) (Nat.le_refl _) (Nat.le_refl _) ⟨congrArg (fun z => some (Value.long z)) (hres.trans (rfl)).symm, eT, rfl⟩
theorem d29_0 : decode jdk_41_method_11_code 0 = .ok (.iload_n 0, 1) := by decide +kernel
theorem d29_1 : decode jdk_41_method_11_code 1 = .ok (.ifCond .lt 8, 3) := by decide +kernel
theorem d29_4 : decode jdk_41_method_11_code 4 = .ok (.iload_n 0, 1) := by decide +kernel
theorem d29_5 : decode jdk_41_method_11_code 5 = .ok (.iload_n 1, 1) := by decide +kernel
theorem d29_6 : decode jdk_41_method_11_code 6 = .ok (.if_icmp .lt 10, 3) := by decide +kernel
theorem d29_9 : decode jdk_41_method_11_code 9 = .ok (.aload_n 2, 1) := by decide +kernel
theorem d29_10 : decode jdk_41_method_11_code 10 = .ok (.iload_n 0, 1) := by decide +kernel
theorem d29_11 : decode jdk_41_method_11_code 11 = .ok (.iload_n 1, 1) := by decide +kernel
theorem d29_12 : decode jdk_41_method_11_code 12 = .ok (.invokestatic 95, 3) := by decide +kernel
theorem d29_15 : decode jdk_41_method_11_code 15 = .ok (.athrow, 1) := by decide +kernel
theorem d29_16 : decode jdk_41_method_11_code 16 = .ok (.iload_n 0, 1) := by decide +kernel
theorem d29_17 : decode jdk_41_method_11_code 17 = .ok (.ireturn, 1) := by decide +kernel
theorem pn_29 : plainFor (⟨"jdk/internal/util/Preconditions", "checkIndex", "(IILjava/util/function/BiFunction;)I"⟩ : MethodName) = true := plainFor_of_name (by first | (simp [plainName, overriddenIn]; done) | decide +kernel)
theorem ef_29 (m : MethodId) (x0 : Int32) (x1 : Int32) : entryFrame m #[(.int x0), (.int x1), .null] 3 = mkF m 0 #[.val (.int x0), .val (.int x1), .val .null] [] := by first | (simp [entryFrame, mkF, argsToLocals, Value.category]; done) | rfl
set_option maxRecDepth 65536 in
set_option maxHeartbeats 40000000 in
theorem rm29 (l : Launch) (Z : State) (a0 : Array Value) (hw : ∀ d ∈ tables_1, d.before a0 Z = true) (ws : List Jvm.Cond) (x0 : Int32) (x1 : Int32)  (h0 : Heap) (hn0 : ¬ x0 < 0) (hn1 : x0 < x1) :
    Ctr l (⟨"jdk/internal/util/Preconditions", "checkIndex", "(IILjava/util/function/BiFunction;)I"⟩ : MethodName) jdk_41_method_11_code 3 (some .int) ws ({ frames := 0, cells := 0, slots := 0, locals := 0 } : Room) Z #[(.int x0), (.int x1), .null] h0 (PQ (.int (id x0)) h0) 0 0 := by
  refine Ctr.mk pn_29 ?_
  intro p e s m below meth c T hx hby hml hown hnm hlk hret hZ X eT
  refine enter (ef_29 m x0 x1) ?_
  obtain ⟨res, hres⟩ : ∃ r, r = id x0 := ⟨_, rfl⟩
  rw [← hres]
  refine s_iloadN X hx (hb hby d29_0) rfl (q := 1) rfl ?_
  refine f_if_lt X hx (hb hby d29_1) (q1 := 9) (by decide) (by decide) (q := 4) rfl (fun hq => absurd hq (hn0 : ¬ x0 < 0)) (fun _ => ?_)
  refine s_iloadN X hx (hb hby d29_4) rfl (q := 5) rfl ?_
  refine s_iloadN X hx (hb hby d29_5) rfl (q := 6) rfl ?_
  refine f_icmp_lt X hx (hb hby d29_6) (q1 := 16) (by decide) (by decide) (q := 9) rfl (fun _ => ?_) (fun hq => absurd (hn1 : x0 < x1) hq)
  refine s_iloadN X hx (hb hby d29_16) rfl (q := 17) rfl ?_
  exact leafI X hx hlk hret (hb hby d29_17) (Nat.le_refl _) (Nat.le_refl _) ⟨congrArg (fun z => some (Value.int z)) (hres.trans (rfl)).symm, eT, rfl⟩
theorem d28_0 : decode jdk_31_method_17_code 0 = .ok (.iload_n 0, 1) := by decide +kernel
theorem d28_1 : decode jdk_31_method_17_code 1 = .ok (.iload_n 1, 1) := by decide +kernel
theorem d28_2 : decode jdk_31_method_17_code 2 = .ok (.aconst_null, 1) := by decide +kernel
theorem d28_3 : decode jdk_31_method_17_code 3 = .ok (.invokestatic 105, 3) := by decide +kernel
theorem d28_6 : decode jdk_31_method_17_code 6 = .ok (.ireturn, 1) := by decide +kernel
theorem pn_28 : plainFor (⟨"java/util/Objects", "checkIndex", "(II)I"⟩ : MethodName) = true := plainFor_of_name (by first | (simp [plainName, overriddenIn]; done) | decide +kernel)
theorem ef_28 (m : MethodId) (x0 : Int32) (x1 : Int32) : entryFrame m #[(.int x0), (.int x1)] 2 = mkF m 0 #[.val (.int x0), .val (.int x1)] [] := by first | (simp [entryFrame, mkF, argsToLocals, Value.category]; done) | rfl
theorem pd0 : parseMethodDescriptor "(IILjava/util/function/BiFunction;)I" = some ⟨[.int, .int, (.object "java/util/function/BiFunction")], some .int⟩ := by decide +kernel
set_option maxRecDepth 65536 in
set_option maxHeartbeats 40000000 in
theorem rm28 (l : Launch) (Z : State) (a0 : Array Value) (hw : ∀ d ∈ tables_1, d.before a0 Z = true) (ws : List Jvm.Cond) (x0 : Int32) (x1 : Int32)  (h0 : Heap) (hn0 : ¬ x0 < 0) (hn1 : x0 < x1) :
    Ctr l (⟨"java/util/Objects", "checkIndex", "(II)I"⟩ : MethodName) jdk_31_method_17_code 2 (some .int) ws ({ frames := 1, cells := 0, slots := 0, locals := 14 } : Room) Z #[(.int x0), (.int x1)] h0 (PQ (.int (id x0)) h0) 0 0 := by
  refine Ctr.mk pn_28 ?_
  intro p e s m below meth c T hx hby hml hown hnm hlk hret hZ X eT
  refine enter (ef_28 m x0 x1) ?_
  obtain ⟨res, hres⟩ : ∃ r, r = id x0 := ⟨_, rfl⟩
  rw [← hres]
  refine s_iloadN X hx (hb hby d28_0) rfl (q := 1) rfl ?_
  refine s_iloadN X hx (hb hby d28_1) rfl (q := 2) rfl ?_
  refine s_aconst_null X hx (hb hby d28_2) (q := 3) rfl ?_
  refine callP X hx hZ hown (W := 0) (argsL := [(.int x0), (.int x1), .null]) (rest := []) (hw _ (List.mem_of_getElem? (i := 182) rfl)) (hw _ (List.mem_of_getElem? (i := 183) rfl)) (hw _ (List.mem_of_getElem? (i := 184) rfl)) (hw _ (List.mem_of_getElem? (i := 185) rfl)) (by decide) (rm29 l Z a0 hw [] x0 x1 h0 hn0 hn1) rfl rfl eT (by decide) (by decide) (by decide) (by decide) (by rw [hml]; rfl) pd0 rfl rfl (Nat.le_of_ble_eq_true rfl) (hb hby d28_3) (q := 6) rfl ?_
  intro T X eT
  exact leafI X hx hlk hret (hb hby d28_6) (Nat.le_refl _) (Nat.le_refl _) ⟨congrArg (fun z => some (Value.int z)) (hres.trans (rfl)).symm, eT, rfl⟩
theorem d6_0 : decode prog_4_method_1_code 0 = .ok (.aload_n 0, 1) := by decide +kernel
theorem d6_1 : decode prog_4_method_1_code 1 = .ok (.invokespecial 1, 3) := by decide +kernel
theorem d6_4 : decode prog_4_method_1_code 4 = .ok (.aload_n 0, 1) := by decide +kernel
theorem d6_5 : decode prog_4_method_1_code 5 = .ok (.lload_n 1, 1) := by decide +kernel
theorem d6_6 : decode prog_4_method_1_code 6 = .ok (.putfield 7, 3) := by decide +kernel
theorem d6_9 : decode prog_4_method_1_code 9 = .ok (.return_, 1) := by decide +kernel
theorem pn_6 : plainFor (⟨"com/example/cistern/cistern/SplitMix64", "<init>", "(J)V"⟩ : MethodName) = true := plainFor_of_name (by first | (simp [plainName, overriddenIn]; done) | decide +kernel)
theorem ef_6 (m : MethodId) (x0 : Addr) (x1 : Int64) : entryFrame m #[(.ref x0), (.long x1)] 3 = mkF m 0 #[.val (.ref x0), .val (.long x1), .second] [] := by first | (simp [entryFrame, mkF, argsToLocals, Value.category]; done) | rfl
set_option maxRecDepth 65536 in
set_option maxHeartbeats 40000000 in
theorem rm6 (l : Launch) (Z : State) (a0 : Array Value) (hw : ∀ d ∈ tables_1, d.before a0 Z = true) (ws : List Jvm.Cond) (x0 : Addr) (x1 : Int64) (u : Int64) (h0 : Heap) (n0 : Nat) (sz : n0 ≤ h0.size) (F_x0_state : Fld Z h0 x0 "com/example/cistern/cistern/SplitMix64" "state" "J" (.long u)) (E_x0 : Exa Z h0 x0 "com/example/cistern/cistern/SplitMix64") (g_x0 : n0 ≤ x0) :
    Ctr l (⟨"com/example/cistern/cistern/SplitMix64", "<init>", "(J)V"⟩ : MethodName) prog_4_method_1_code 3 none ws ({ frames := 1, cells := 0, slots := 0, locals := 12 } : Room) Z #[(.ref x0), (.long x1)] h0 (fun v h L => v = none ∧ Fr n0 L ∧ Keep h0 h [x0] ∧ Exa Z h x0 "com/example/cistern/cistern/SplitMix64" ∧ Fld Z h x0 "com/example/cistern/cistern/SplitMix64" "state" "J" (.long x1)) 0 0 := by
  refine Ctr.mk pn_6 ?_
  intro p e s m below meth c T hx hby hml hown hnm hlk hret hZ X eT
  have N := Fr.nil n0
  refine enter (ef_6 m x0 x1) ?_
  have K := Keep.refl h0 [x0]
  refine s_aloadN X hx (hb hby d6_0) rfl rfl (q := 1) rfl ?_
  refine s_initO X hx hZ hown (W := 0) (hw _ (List.mem_of_getElem? (i := 43) rfl)) (hw _ (List.mem_of_getElem? (i := 7) rfl)) (hw _ (List.mem_of_getElem? (i := 8) rfl)) eT (by rw [hml]; rfl) (by decide) (Nat.le_of_ble_eq_true rfl) (by decide) (hb hby d6_1) (q := 4) rfl ?_
  intro T X eT
  refine s_aloadN X hx (hb hby d6_4) rfl rfl (q := 5) rfl ?_
  refine s_lloadN X hx (hb hby d6_5) rfl (q := 6) rfl ?_
  refine s_putF X hx hZ hown (hw _ (List.mem_of_getElem? (i := 44) rfl)) eT F_x0_state E_x0 (Or.inl (hw _ (List.mem_of_getElem? (i := 45) rfl))) (hw _ (List.mem_of_getElem? (i := 38) rfl)) (ty := .long) (by decide) rfl rfl N g_x0 (hb hby d6_6) (q := 9) rfl ?_
  intro T h1 _ X N eT W F_x0_state'
  have E_x0 := E_x0.wr W
  have K := K.wr W (Or.inl (List.mem_of_getElem? (i := 0) rfl))
  have sz : n0 ≤ h1.size := by rw [W.size]; exact sz
  have F_x0_state := F_x0_state'
  exact leafV X hx hlk hret (hb hby d6_9) (by decide) (by decide) (by rw [eT]; exact ⟨rfl, N, K, E_x0, F_x0_state⟩)
def Mx (u : Int64) : Int64 := ((((((u + (-7046029254386353131 : Int64)) ^^^ (((u + (-7046029254386353131 : Int64)).toUInt64 >>> ((30 : Int32) &&& 0x3f).toInt64.toUInt64).toInt64)) * (-4658895280553007687 : Int64)) ^^^ (((((u + (-7046029254386353131 : Int64)) ^^^ (((u + (-7046029254386353131 : Int64)).toUInt64 >>> ((30 : Int32) &&& 0x3f).toInt64.toUInt64).toInt64)) * (-4658895280553007687 : Int64)).toUInt64 >>> ((27 : Int32) &&& 0x3f).toInt64.toUInt64).toInt64)) * (-7723592293110705685 : Int64)) ^^^ (((((((u + (-7046029254386353131 : Int64)) ^^^ (((u + (-7046029254386353131 : Int64)).toUInt64 >>> ((30 : Int32) &&& 0x3f).toInt64.toUInt64).toInt64)) * (-4658895280553007687 : Int64)) ^^^ (((((u + (-7046029254386353131 : Int64)) ^^^ (((u + (-7046029254386353131 : Int64)).toUInt64 >>> ((30 : Int32) &&& 0x3f).toInt64.toUInt64).toInt64)) * (-4658895280553007687 : Int64)).toUInt64 >>> ((27 : Int32) &&& 0x3f).toInt64.toUInt64).toInt64)) * (-7723592293110705685 : Int64)).toUInt64 >>> ((31 : Int32) &&& 0x3f).toInt64.toUInt64).toInt64))
theorem d25_0 : decode prog_4_method_2_code 0 = .ok (.aload_n 0, 1) := by decide +kernel
theorem d25_1 : decode prog_4_method_2_code 1 = .ok (.dup, 1) := by decide +kernel
theorem d25_2 : decode prog_4_method_2_code 2 = .ok (.getfield 7, 3) := by decide +kernel
theorem d25_5 : decode prog_4_method_2_code 5 = .ok (.ldc2_w 13, 3) := by decide +kernel
theorem d25_8 : decode prog_4_method_2_code 8 = .ok (.ladd, 1) := by decide +kernel
theorem d25_9 : decode prog_4_method_2_code 9 = .ok (.putfield 7, 3) := by decide +kernel
theorem d25_12 : decode prog_4_method_2_code 12 = .ok (.aload_n 0, 1) := by decide +kernel
theorem d25_13 : decode prog_4_method_2_code 13 = .ok (.getfield 7, 3) := by decide +kernel
theorem d25_16 : decode prog_4_method_2_code 16 = .ok (.lstore_n 1, 1) := by decide +kernel
theorem d25_17 : decode prog_4_method_2_code 17 = .ok (.lload_n 1, 1) := by decide +kernel
theorem d25_18 : decode prog_4_method_2_code 18 = .ok (.lload_n 1, 1) := by decide +kernel
theorem d25_19 : decode prog_4_method_2_code 19 = .ok (.bipush 30, 2) := by decide +kernel
theorem d25_21 : decode prog_4_method_2_code 21 = .ok (.lushr, 1) := by decide +kernel
theorem d25_22 : decode prog_4_method_2_code 22 = .ok (.lxor, 1) := by decide +kernel
theorem d25_23 : decode prog_4_method_2_code 23 = .ok (.ldc2_w 15, 3) := by decide +kernel
theorem d25_26 : decode prog_4_method_2_code 26 = .ok (.lmul, 1) := by decide +kernel
theorem d25_27 : decode prog_4_method_2_code 27 = .ok (.lstore_n 1, 1) := by decide +kernel
theorem d25_28 : decode prog_4_method_2_code 28 = .ok (.lload_n 1, 1) := by decide +kernel
theorem d25_29 : decode prog_4_method_2_code 29 = .ok (.lload_n 1, 1) := by decide +kernel
theorem d25_30 : decode prog_4_method_2_code 30 = .ok (.bipush 27, 2) := by decide +kernel
theorem d25_32 : decode prog_4_method_2_code 32 = .ok (.lushr, 1) := by decide +kernel
theorem d25_33 : decode prog_4_method_2_code 33 = .ok (.lxor, 1) := by decide +kernel
theorem d25_34 : decode prog_4_method_2_code 34 = .ok (.ldc2_w 17, 3) := by decide +kernel
theorem d25_37 : decode prog_4_method_2_code 37 = .ok (.lmul, 1) := by decide +kernel
theorem d25_38 : decode prog_4_method_2_code 38 = .ok (.lstore_n 1, 1) := by decide +kernel
theorem d25_39 : decode prog_4_method_2_code 39 = .ok (.lload_n 1, 1) := by decide +kernel
theorem d25_40 : decode prog_4_method_2_code 40 = .ok (.lload_n 1, 1) := by decide +kernel
theorem d25_41 : decode prog_4_method_2_code 41 = .ok (.bipush 31, 2) := by decide +kernel
theorem d25_43 : decode prog_4_method_2_code 43 = .ok (.lushr, 1) := by decide +kernel
theorem d25_44 : decode prog_4_method_2_code 44 = .ok (.lxor, 1) := by decide +kernel
theorem d25_45 : decode prog_4_method_2_code 45 = .ok (.lreturn, 1) := by decide +kernel
theorem pn_25 : plainFor (⟨"com/example/cistern/cistern/SplitMix64", "nextLong", "()J"⟩ : MethodName) = true := plainFor_of_name (by first | (simp [plainName, overriddenIn]; done) | decide +kernel)
theorem ef_25 (m : MethodId) (x0 : Addr) : entryFrame m #[(.ref x0)] 3 = mkF m 0 #[.val (.ref x0), .unset, .unset] [] := by first | (simp [entryFrame, mkF, argsToLocals, Value.category]; done) | rfl
set_option maxRecDepth 65536 in
set_option maxHeartbeats 40000000 in
theorem rm25 (l : Launch) (Z : State) (a0 : Array Value) (hw : ∀ d ∈ tables_1, d.before a0 Z = true) (ws : List Jvm.Cond) (x0 : Addr) (u : Int64) (h0 : Heap) (n0 : Nat) (sz : n0 ≤ h0.size) (F_x0_state : Fld Z h0 x0 "com/example/cistern/cistern/SplitMix64" "state" "J" (.long u)) (E_x0 : Exa Z h0 x0 "com/example/cistern/cistern/SplitMix64") (g_x0 : n0 ≤ x0) :
    Ctr l (⟨"com/example/cistern/cistern/SplitMix64", "nextLong", "()J"⟩ : MethodName) prog_4_method_2_code 3 (some .long) ws ({ frames := 0, cells := 0, slots := 0, locals := 0 } : Room) Z #[(.ref x0)] h0 (fun v h L => v = some (.long (Mx u)) ∧ Fr n0 L ∧ Keep h0 h [x0] ∧ Fld Z h x0 "com/example/cistern/cistern/SplitMix64" "state" "J" (.long (u + (-7046029254386353131 : Int64)))) 0 0 := by
  refine Ctr.mk pn_25 ?_
  intro p e s m below meth c T hx hby hml hown hnm hlk hret hZ X eT
  have N := Fr.nil n0
  refine enter (ef_25 m x0) ?_
  have K := Keep.refl h0 [x0]
  refine s_aloadN X hx (hb hby d25_0) rfl rfl (q := 1) rfl ?_
  refine s_dup X hx (hb hby d25_1) rfl (q := 2) rfl ?_
  refine s_getF X hx hZ hown (hw _ (List.mem_of_getElem? (i := 44) rfl)) eT F_x0_state (hb hby d25_2) (q := 5) rfl ?_
  intro T X eT
  refine s_ldc2 X hx hZ hown (hw _ (List.mem_of_getElem? (i := 163) rfl)) (hb hby d25_5) (q := 8) rfl ?_
  refine s_ladd X hx (hb hby d25_8) (q := 9) rfl ?_
  refine s_putF X hx hZ hown (hw _ (List.mem_of_getElem? (i := 44) rfl)) eT F_x0_state E_x0 (Or.inl (hw _ (List.mem_of_getElem? (i := 45) rfl))) (hw _ (List.mem_of_getElem? (i := 38) rfl)) (ty := .long) (by decide) rfl rfl N g_x0 (hb hby d25_9) (q := 12) rfl ?_
  intro T h1 _ X N eT W F_x0_state'
  have E_x0 := E_x0.wr W
  have K := K.wr W (Or.inl (List.mem_of_getElem? (i := 0) rfl))
  have sz : n0 ≤ h1.size := by rw [W.size]; exact sz
  have F_x0_state := F_x0_state'
  refine s_aloadN X hx (hb hby d25_12) rfl rfl (q := 13) rfl ?_
  refine s_getF X hx hZ hown (hw _ (List.mem_of_getElem? (i := 44) rfl)) eT F_x0_state (hb hby d25_13) (q := 16) rfl ?_
  intro T X eT
  refine s_lstoreN X hx (hb hby d25_16) (L' := #[.val (.ref x0), .val (.long (u + (-7046029254386353131 : Int64))), .second]) rfl (q := 17) rfl ?_
  refine s_lloadN X hx (hb hby d25_17) rfl (q := 18) rfl ?_
  refine s_lloadN X hx (hb hby d25_18) rfl (q := 19) rfl ?_
  refine s_bipush X hx (z := (30 : Int32)) (hb hby d25_19) rfl (q := 21) rfl ?_
  refine s_lushr X hx (hb hby d25_21) (q := 22) rfl ?_
  refine s_lxor X hx (hb hby d25_22) (q := 23) rfl ?_
  refine s_ldc2 X hx hZ hown (hw _ (List.mem_of_getElem? (i := 164) rfl)) (hb hby d25_23) (q := 26) rfl ?_
  refine s_lmul X hx (hb hby d25_26) (q := 27) rfl ?_
  refine s_lstoreN X hx (hb hby d25_27) (L' := #[.val (.ref x0), .val (.long (((u + (-7046029254386353131 : Int64)) ^^^ (((u + (-7046029254386353131 : Int64)).toUInt64 >>> ((30 : Int32) &&& 0x3f).toInt64.toUInt64).toInt64)) * (-4658895280553007687 : Int64))), .second]) rfl (q := 28) rfl ?_
  refine s_lloadN X hx (hb hby d25_28) rfl (q := 29) rfl ?_
  refine s_lloadN X hx (hb hby d25_29) rfl (q := 30) rfl ?_
  refine s_bipush X hx (z := (27 : Int32)) (hb hby d25_30) rfl (q := 32) rfl ?_
  refine s_lushr X hx (hb hby d25_32) (q := 33) rfl ?_
  refine s_lxor X hx (hb hby d25_33) (q := 34) rfl ?_
  refine s_ldc2 X hx hZ hown (hw _ (List.mem_of_getElem? (i := 165) rfl)) (hb hby d25_34) (q := 37) rfl ?_
  refine s_lmul X hx (hb hby d25_37) (q := 38) rfl ?_
  refine s_lstoreN X hx (hb hby d25_38) (L' := #[.val (.ref x0), .val (.long (((((u + (-7046029254386353131 : Int64)) ^^^ (((u + (-7046029254386353131 : Int64)).toUInt64 >>> ((30 : Int32) &&& 0x3f).toInt64.toUInt64).toInt64)) * (-4658895280553007687 : Int64)) ^^^ (((((u + (-7046029254386353131 : Int64)) ^^^ (((u + (-7046029254386353131 : Int64)).toUInt64 >>> ((30 : Int32) &&& 0x3f).toInt64.toUInt64).toInt64)) * (-4658895280553007687 : Int64)).toUInt64 >>> ((27 : Int32) &&& 0x3f).toInt64.toUInt64).toInt64)) * (-7723592293110705685 : Int64))), .second]) rfl (q := 39) rfl ?_
  refine s_lloadN X hx (hb hby d25_39) rfl (q := 40) rfl ?_
  refine s_lloadN X hx (hb hby d25_40) rfl (q := 41) rfl ?_
  refine s_bipush X hx (z := (31 : Int32)) (hb hby d25_41) rfl (q := 43) rfl ?_
  refine s_lushr X hx (hb hby d25_43) (q := 44) rfl ?_
  refine s_lxor X hx (hb hby d25_44) (q := 45) rfl ?_
  exact leafJ X hx hlk hret (hb hby d25_45) (by decide) (by decide) (by rw [eT]; exact ⟨rfl, N, K, F_x0_state⟩)
def DR (u : Int64) : Int64 := (((Mx u).toUInt64 >>> ((1 : Int32) &&& 0x3f).toInt64.toUInt64).toInt64)
def Us (u : Int64) : Nat → Int64
  | 0 => u
  | k + 1 => Us u k + (-7046029254386353131 : Int64)
def LM (b : Int64) : Int64 := (9223372036854775807 : Int64) - (((9223372036854775807 : Int64) % b + (1 : Int64)) % b)
theorem own_u63 (v : UInt64) (h : v.toNat < 9223372036854775808) : v.toInt64.toInt = v.toNat := by
  show v.toInt64.toBitVec.toInt = _
  have e : v.toInt64.toBitVec.toNat = v.toNat := rfl
  rw [BitVec.toInt_eq_toNat_cond, e]; split <;> omega
theorem own_shr (a b : UInt64) : (a >>> b).toNat ≤ a.toNat := by
  rw [UInt64.toNat_shiftRight]; exact Nat.shiftRight_le _ _
theorem own_dr (u : Int64) : 0 ≤ (DR u).toInt := by
  unfold DR
  generalize (Mx u).toUInt64 = a
  have h : (a >>> ((1 : Int32) &&& 0x3f).toInt64.toUInt64).toNat < 9223372036854775808 := by
    rw [UInt64.toNat_shiftRight]
    have e : (((1 : Int32) &&& 0x3f).toInt64.toUInt64).toNat % 64 = 1 := by decide
    rw [e, Nat.shiftRight_eq_div_pow]
    have := a.toNat_lt
    omega
  rw [own_u63 _ h]; omega
set_option maxHeartbeats 4000000 in
theorem own_lm (b : Int64) (hb : 0 < b.toInt) : 0 ≤ (LM b).toInt ∧ (((9223372036854775807 : Int) % b.toInt + 1 = b.toInt ∧ (LM b).toInt = 9223372036854775807) ∨ ((9223372036854775807 : Int) % b.toInt + 1 ≠ b.toInt ∧ (LM b).toInt = 9223372036854775807 / b.toInt * b.toInt - 1)) := by
  have eM : (9223372036854775807 : Int64).toInt = 9223372036854775807 := by decide
  have e1 : (1 : Int64).toInt = 1 := by decide
  have r := rng64 b
  have q1 := (c_lrem 9223372036854775807 b b.toInt rfl).1 (by omega)
  rw [lrem_mod, eM] at q1
  have p1 := Int.emod_nonneg 9223372036854775807 (show b.toInt ≠ 0 by omega)
  have p2 := Int.emod_lt_of_pos 9223372036854775807 hb
  have p3 := Int.mul_ediv_add_emod 9223372036854775807 b.toInt
  rw [Int.mul_comm] at p3
  unfold LM
  generalize hR : (9223372036854775807 : Int) % b.toInt = R at *
  generalize hM : (9223372036854775807 : Int) / b.toInt * b.toInt = M at *
  have a1 := c_ladd ((9223372036854775807 : Int64) % b) 1
  have a2 := rng64 ((9223372036854775807 : Int64) % b + 1)
  have a3 : ((9223372036854775807 : Int64) % b + 1).toInt = R + 1 := by omega
  have q2 := (c_lrem ((9223372036854775807 : Int64) % b + 1) b b.toInt rfl).1 (by omega)
  rw [lrem_mod, a3] at q2
  have a4 := c_lsub 9223372036854775807 (((9223372036854775807 : Int64) % b + 1) % b)
  have a5 := rng64 ((9223372036854775807 : Int64) - (((9223372036854775807 : Int64) % b + 1) % b))
  rw [eM] at a4
  clear a1 a2 a3 q1
  by_cases hc : R + 1 = b.toInt
  · rw [hc, Int.emod_self] at q2
    rw [q2] at a4
    refine ⟨by omega, Or.inl ⟨hc, by omega⟩⟩
  · rw [Int.emod_eq_of_lt (by omega) (by omega)] at q2
    rw [q2] at a4
    refine ⟨by omega, Or.inr ⟨hc, by omega⟩⟩
theorem own_us (u : Int64) (n : Nat) : Us u n = u + Int64.ofNat n * (-7046029254386353131 : Int64) := by
  induction n with
  | zero => show u = u + 0 * _; rw [Int64.zero_mul, Int64.add_zero]
  | succ k ih =>
    show Us u k + _ = _
    rw [ih, Int64.ofNat_add, Int64.add_mul, Int64.add_assoc]
    congr 2
theorem own_ofNat (x : Int64) : Int64.ofNat x.toBitVec.toNat = x := Int64.toBitVec_inj.mp (by show BitVec.ofNat 64 _ = _; simp)
theorem own_ginv : (-1018231460777725123 : Int64) * (-7046029254386353131 : Int64) = 1 := by decide
theorem own_dr0 : DR (-(-7046029254386353131 : Int64)) = 0 := by decide +kernel
theorem own_ex (u b : Int64) (hb : 0 < b.toInt) : ∃ n, ¬ LM b < DR (Us u n) := by
  refine ⟨((-(u + (-7046029254386353131 : Int64))) * (-1018231460777725123 : Int64)).toBitVec.toNat, ?_⟩
  have h := (own_lm b hb).1
  rw [own_us, own_ofNat, Int64.mul_assoc, own_ginv, Int64.mul_one]
  have e : u + -(u + (-7046029254386353131 : Int64)) = -(-7046029254386353131 : Int64) := by
    generalize (-7046029254386353131 : Int64) = g; grind
  rw [e, own_dr0, Int64.lt_iff_toInt_lt]
  have e0 : (0 : Int64).toInt = 0 := by decide
  omega
def QN (Z : State) (x0 : Addr) (b u : Int64) (h0 : Heap) (n0 : Nat) (v : Option Value) (h : Heap) (L : List Loc) : Prop := ∃ k : Nat, (∀ i, i < k → LM b < DR (Us u i)) ∧ ¬ LM b < DR (Us u k) ∧ v = some (.long (DR (Us u k) % b)) ∧ Fr n0 L ∧ Keep h0 h [x0] ∧ Fld Z h x0 "com/example/cistern/cistern/SplitMix64" "state" "J" (.long (Us u (k + 1)))
theorem d24_0 : decode prog_4_method_3_code 0 = .ok (.ldc2_w 21, 3) := by decide +kernel
theorem d24_3 : decode prog_4_method_3_code 3 = .ok (.ldc2_w 21, 3) := by decide +kernel
theorem d24_6 : decode prog_4_method_3_code 6 = .ok (.lload_n 1, 1) := by decide +kernel
theorem d24_7 : decode prog_4_method_3_code 7 = .ok (.lrem, 1) := by decide +kernel
theorem d24_8 : decode prog_4_method_3_code 8 = .ok (.lconst 1, 1) := by decide +kernel
theorem d24_9 : decode prog_4_method_3_code 9 = .ok (.ladd, 1) := by decide +kernel
theorem d24_10 : decode prog_4_method_3_code 10 = .ok (.lload_n 1, 1) := by decide +kernel
theorem d24_11 : decode prog_4_method_3_code 11 = .ok (.lrem, 1) := by decide +kernel
theorem d24_12 : decode prog_4_method_3_code 12 = .ok (.lsub, 1) := by decide +kernel
theorem d24_13 : decode prog_4_method_3_code 13 = .ok (.lstore_n 3, 1) := by decide +kernel
theorem d24_14 : decode prog_4_method_3_code 14 = .ok (.aload_n 0, 1) := by decide +kernel
theorem d24_15 : decode prog_4_method_3_code 15 = .ok (.invokevirtual 23, 3) := by decide +kernel
theorem d24_18 : decode prog_4_method_3_code 18 = .ok (.iconst 1, 1) := by decide +kernel
theorem d24_19 : decode prog_4_method_3_code 19 = .ok (.lushr, 1) := by decide +kernel
theorem d24_20 : decode prog_4_method_3_code 20 = .ok (.lstore 5, 2) := by decide +kernel
theorem d24_22 : decode prog_4_method_3_code 22 = .ok (.lload 5, 2) := by decide +kernel
theorem d24_24 : decode prog_4_method_3_code 24 = .ok (.lload_n 3, 1) := by decide +kernel
theorem d24_25 : decode prog_4_method_3_code 25 = .ok (.lcmp, 1) := by decide +kernel
theorem d24_26 : decode prog_4_method_3_code 26 = .ok (.ifCond .le 14, 3) := by decide +kernel
theorem d24_29 : decode prog_4_method_3_code 29 = .ok (.aload_n 0, 1) := by decide +kernel
theorem d24_30 : decode prog_4_method_3_code 30 = .ok (.invokevirtual 23, 3) := by decide +kernel
theorem d24_33 : decode prog_4_method_3_code 33 = .ok (.iconst 1, 1) := by decide +kernel
theorem d24_34 : decode prog_4_method_3_code 34 = .ok (.lushr, 1) := by decide +kernel
theorem d24_35 : decode prog_4_method_3_code 35 = .ok (.lstore 5, 2) := by decide +kernel
theorem d24_37 : decode prog_4_method_3_code 37 = .ok (.goto (-15), 3) := by decide +kernel
theorem d24_40 : decode prog_4_method_3_code 40 = .ok (.lload 5, 2) := by decide +kernel
theorem d24_42 : decode prog_4_method_3_code 42 = .ok (.lload_n 1, 1) := by decide +kernel
theorem d24_43 : decode prog_4_method_3_code 43 = .ok (.lrem, 1) := by decide +kernel
theorem d24_44 : decode prog_4_method_3_code 44 = .ok (.lreturn, 1) := by decide +kernel
theorem pn_24 : plainFor (⟨"com/example/cistern/cistern/SplitMix64", "nextLong", "(J)J"⟩ : MethodName) = true := plainFor_of_name (by first | (simp [plainName, overriddenIn]; done) | decide +kernel)
theorem ef_24 (m : MethodId) (x0 : Addr) (x1 : Int64) : entryFrame m #[(.ref x0), (.long x1)] 7 = mkF m 0 #[.val (.ref x0), .val (.long x1), .second, .unset, .unset, .unset, .unset] [] := by first | (simp [entryFrame, mkF, argsToLocals, Value.category]; done) | rfl
theorem pd1 : parseMethodDescriptor "()J" = some ⟨[], some .long⟩ := by decide +kernel
set_option maxRecDepth 65536 in
set_option maxHeartbeats 40000000 in
theorem rm24 (l : Launch) (Z : State) (a0 : Array Value) (hw : ∀ d ∈ tables_1, d.before a0 Z = true) (ws : List Jvm.Cond) (x0 : Addr) (x1 : Int64) (u : Int64) (h0 : Heap) (n0 : Nat) (sz : n0 ≤ h0.size) (F_x0_state : Fld Z h0 x0 "com/example/cistern/cistern/SplitMix64" "state" "J" (.long u)) (E_x0 : Exa Z h0 x0 "com/example/cistern/cistern/SplitMix64") (g_x0 : n0 ≤ x0) (hb0 : x1 ≠ 0) (hex : ∃ n, ¬ LM x1 < DR (Us u n)) :
    Ctr l (⟨"com/example/cistern/cistern/SplitMix64", "nextLong", "(J)J"⟩ : MethodName) prog_4_method_3_code 7 (some .long) ws ({ frames := 1, cells := 0, slots := 0, locals := 14 } : Room) Z #[(.ref x0), (.long x1)] h0 (QN Z x0 x1 u h0 n0) 0 0 := by
  refine Ctr.mk pn_24 ?_
  intro p e s m below meth c T hx hby hml hown hnm hlk hret hZ X eT
  have N := Fr.nil n0
  refine enter (ef_24 m x0 x1) ?_
  have K := Keep.refl h0 [x0]
  refine s_ldc2 X hx hZ hown (hw _ (List.mem_of_getElem? (i := 157) rfl)) (hb hby d24_0) (q := 3) rfl ?_
  refine s_ldc2 X hx hZ hown (hw _ (List.mem_of_getElem? (i := 157) rfl)) (hb hby d24_3) (q := 6) rfl ?_
  refine s_lloadN X hx (hb hby d24_6) rfl (q := 7) rfl ?_
  refine s_lrem X hx (hb hby d24_7) hb0 (q := 8) rfl ?_
  refine s_lconst X hx (z := (1 : Int64)) (hb hby d24_8) rfl (q := 9) rfl ?_
  refine s_ladd X hx (hb hby d24_9) (q := 10) rfl ?_
  refine s_lloadN X hx (hb hby d24_10) rfl (q := 11) rfl ?_
  refine s_lrem X hx (hb hby d24_11) hb0 (q := 12) rfl ?_
  refine s_lsub X hx (hb hby d24_12) (q := 13) rfl ?_
  show Go p e below _ T m 13 #[.val (.ref x0), .val (.long x1), .second, .unset, .unset, .unset, .unset] [(.long (LM x1))]
  refine s_lstoreN X hx (hb hby d24_13) (L' := #[.val (.ref x0), .val (.long x1), .second, .val (.long (LM x1)), .second, .unset, .unset]) rfl (q := 14) rfl ?_
  refine s_aloadN X hx (hb hby d24_14) rfl rfl (q := 15) rfl ?_
  refine callV X hx hZ hown (W := 0) (argsL := []) (rest := []) (hw _ (List.mem_of_getElem? (i := 158) rfl)) (hw _ (List.mem_of_getElem? (i := 159) rfl)) (hw _ (List.mem_of_getElem? (i := 161) rfl)) (hw _ (List.mem_of_getElem? (i := 160) rfl)) (hw _ (List.mem_of_getElem? (i := 39) rfl)) (hw _ (List.mem_of_getElem? (i := 162) rfl)) (by decide) E_x0 (rm25 l Z a0 hw [] x0 u h0 n0 sz F_x0_state E_x0 g_x0) eT (by decide) (by decide) (by decide) (by decide) (by rw [hml]; rfl) pd1 rfl rfl (Nat.le_of_ble_eq_true rfl) (hb hby d24_15) (q := 18) rfl ?_
  intro v T Lc hQ X
  obtain ⟨h1, eT⟩ : ∃ z, T.heap = z := ⟨_, rfl⟩
  try rw [eT] at hQ
  obtain ⟨rfl, N', K', F_x0_state'⟩ := hQ
  have N := Fr.app N N'
  have E_x0 := E_x0.keep K'
  have sz : n0 ≤ h1.size := Nat.le_trans sz K'.1
  have K := K.trans K' (allS (Or.inl (List.mem_of_getElem? (i := 0) rfl)) all0)
  have F_x0_state := F_x0_state'
  refine s_iconst X hx (z := (1 : Int32)) (hb hby d24_18) rfl (q := 19) rfl ?_
  refine s_lushr X hx (hb hby d24_19) (q := 20) rfl ?_
  show Go p e below _ T m 20 #[.val (.ref x0), .val (.long x1), .second, .val (.long (LM x1)), .second, .unset, .unset] [(.long (DR (Us u 0)))]
  refine s_lstore X hx (hb hby d24_20) (L' := #[.val (.ref x0), .val (.long x1), .second, .val (.long (LM x1)), .second, .val (.long (DR (Us u 0))), .second]) rfl (q := 22) rfl ?_
  have lp : ∀ (n j : Nat) (T : State) (hh : Heap) (locs : List Loc), Stand p l e ({ frames := 1, cells := 0, slots := 0, locals := 14 } : Room) s m #[(.ref x0), (.long x1)] below meth c T locs 0 0 → T.heap = hh → Fr n0 locs → n0 ≤ hh.size → Keep h0 hh [x0] → Exa Z hh x0 "com/example/cistern/cistern/SplitMix64" → Fld Z hh x0 "com/example/cistern/cistern/SplitMix64" "state" "J" (.long (Us u (j + 1))) → (∀ i, i < j → LM x1 < DR (Us u i)) → ¬ LM x1 < DR (Us u (j + n)) → Go p e below (Gl s below (QN Z x0 x1 u h0 n0) 0 0) T m 22 #[.val (.ref x0), .val (.long x1), .second, .val (.long (LM x1)), .second, .val (.long (DR (Us u j))), .second] [] := by
    intro n
    induction n with
    | zero =>
      intro j T hh locs X eT N sz K E_x0 F_x0_state hrej hacc
      by_cases hlt : LM x1 < DR (Us u j)
      · exact absurd hlt hacc
      · refine s_lload X hx (hb hby d24_22) rfl (q := 24) rfl ?_
        refine s_lloadN X hx (hb hby d24_24) rfl (q := 25) rfl ?_
        refine s_lcmp X hx (hb hby d24_25) (q := 26) rfl ?_
        refine f_lcmp_le X hx (hb hby d24_26) (q1 := 40) (by decide) (by decide) (q := 29) rfl (fun _ => ?_) (fun hq => absurd hq (hlt : ¬ (LM x1) < (DR (Us u j))))
        refine s_lload X hx (hb hby d24_40) rfl (q := 42) rfl ?_
        refine s_lloadN X hx (hb hby d24_42) rfl (q := 43) rfl ?_
        refine s_lrem X hx (hb hby d24_43) hb0 (q := 44) rfl ?_
        exact leafJ X hx hlk hret (hb hby d24_44) (by decide) (by decide) (by rw [eT]; exact ⟨j, hrej, hlt, rfl, N, K, F_x0_state⟩)
    | succ n ih =>
      intro j T hh locs X eT N sz K E_x0 F_x0_state hrej hacc
      by_cases hlt : LM x1 < DR (Us u j)
      · refine s_lload X hx (hb hby d24_22) rfl (q := 24) rfl ?_
        refine s_lloadN X hx (hb hby d24_24) rfl (q := 25) rfl ?_
        refine s_lcmp X hx (hb hby d24_25) (q := 26) rfl ?_
        refine f_lcmp_le X hx (hb hby d24_26) (q1 := 40) (by decide) (by decide) (q := 29) rfl (fun hq => absurd (hlt : (LM x1) < (DR (Us u j))) hq) (fun _ => ?_)
        refine s_aloadN X hx (hb hby d24_29) rfl rfl (q := 30) rfl ?_
        refine callV X hx hZ hown (W := 0) (argsL := []) (rest := []) (hw _ (List.mem_of_getElem? (i := 158) rfl)) (hw _ (List.mem_of_getElem? (i := 159) rfl)) (hw _ (List.mem_of_getElem? (i := 161) rfl)) (hw _ (List.mem_of_getElem? (i := 160) rfl)) (hw _ (List.mem_of_getElem? (i := 39) rfl)) (hw _ (List.mem_of_getElem? (i := 162) rfl)) (by decide) E_x0 (rm25 l Z a0 hw [] x0 (Us u (j + 1)) hh n0 sz F_x0_state E_x0 g_x0) eT (by decide) (by decide) (by decide) (by decide) (by rw [hml]; rfl) pd1 rfl rfl (Nat.le_of_ble_eq_true rfl) (hb hby d24_30) (q := 33) rfl ?_
        intro v T Lc hQ X
        obtain ⟨h2, eT⟩ : ∃ z, T.heap = z := ⟨_, rfl⟩
        try rw [eT] at hQ
        obtain ⟨rfl, N', K', F_x0_state'⟩ := hQ
        have N := Fr.app N N'
        have E_x0 := E_x0.keep K'
        have sz : n0 ≤ h2.size := Nat.le_trans sz K'.1
        have K := K.trans K' (allS (Or.inl (List.mem_of_getElem? (i := 0) rfl)) all0)
        have F_x0_state := F_x0_state'
        refine s_iconst X hx (z := (1 : Int32)) (hb hby d24_33) rfl (q := 34) rfl ?_
        refine s_lushr X hx (hb hby d24_34) (q := 35) rfl ?_
        show Go p e below _ T m 35 #[.val (.ref x0), .val (.long x1), .second, .val (.long (LM x1)), .second, .val (.long (DR (Us u j))), .second] [(.long (DR (Us u (j + 1))))]
        refine s_lstore X hx (hb hby d24_35) (L' := #[.val (.ref x0), .val (.long x1), .second, .val (.long (LM x1)), .second, .val (.long (DR (Us u (j + 1)))), .second]) rfl (q := 37) rfl ?_
        refine s_goto X hx (hb hby d24_37) (q1 := 22) (by decide) (by decide) ?_
        exact ih (j + 1) _ _ _ X eT N sz K E_x0 F_x0_state (fun i hi => (Nat.lt_or_eq_of_le (Nat.le_of_lt_succ hi)).elim (hrej i) (fun q => q ▸ hlt)) (by rw [Nat.add_right_comm]; exact hacc)
      · refine s_lload X hx (hb hby d24_22) rfl (q := 24) rfl ?_
        refine s_lloadN X hx (hb hby d24_24) rfl (q := 25) rfl ?_
        refine s_lcmp X hx (hb hby d24_25) (q := 26) rfl ?_
        refine f_lcmp_le X hx (hb hby d24_26) (q1 := 40) (by decide) (by decide) (q := 29) rfl (fun _ => ?_) (fun hq => absurd hq (hlt : ¬ (LM x1) < (DR (Us u j))))
        refine s_lload X hx (hb hby d24_40) rfl (q := 42) rfl ?_
        refine s_lloadN X hx (hb hby d24_42) rfl (q := 43) rfl ?_
        refine s_lrem X hx (hb hby d24_43) hb0 (q := 44) rfl ?_
        exact leafJ X hx hlk hret (hb hby d24_44) (by decide) (by decide) (by rw [eT]; exact ⟨j, hrej, hlt, rfl, N, K, F_x0_state⟩)
  obtain ⟨n, hn⟩ := hex
  exact lp n 0 _ _ _ X eT N sz K E_x0 F_x0_state (fun i hi => absurd hi (Nat.not_lt_zero _)) (by rw [Nat.zero_add]; exact hn)
theorem d5_0 : decode jdk_22_method_1_code 0 = .ok (.aload_n 0, 1) := by decide +kernel
theorem d5_1 : decode jdk_22_method_1_code 1 = .ok (.invokespecial 1, 3) := by decide +kernel
theorem d5_4 : decode jdk_22_method_1_code 4 = .ok (.return_, 1) := by decide +kernel
theorem pn_5 : plainFor (⟨"java/util/AbstractCollection", "<init>", "()V"⟩ : MethodName) = true := plainFor_of_name (by first | (simp [plainName, overriddenIn]; done) | decide +kernel)
theorem ef_5 (m : MethodId) (x0 : Addr) : entryFrame m #[(.ref x0)] 1 = mkF m 0 #[.val (.ref x0)] [] := by first | (simp [entryFrame, mkF, argsToLocals, Value.category]; done) | rfl
set_option maxRecDepth 65536 in
set_option maxHeartbeats 40000000 in
theorem rm5 (l : Launch) (Z : State) (a0 : Array Value) (hw : ∀ d ∈ tables_1, d.before a0 Z = true) (ws : List Jvm.Cond) (x0 : Addr)  (h0 : Heap) (n0 : Nat) (sz : n0 ≤ h0.size) :
    Ctr l (⟨"java/util/AbstractCollection", "<init>", "()V"⟩ : MethodName) jdk_22_method_1_code 1 none ws ({ frames := 1, cells := 0, slots := 0, locals := 12 } : Room) Z #[(.ref x0)] h0 (fun v h L => v = none ∧ h = h0 ∧ Fr n0 L) 0 0 := by
  refine Ctr.mk pn_5 ?_
  intro p e s m below meth c T hx hby hml hown hnm hlk hret hZ X eT
  have N := Fr.nil n0
  refine enter (ef_5 m x0) ?_
  refine s_aloadN X hx (hb hby d5_0) rfl rfl (q := 1) rfl ?_
  refine s_initO X hx hZ hown (W := 0) (hw _ (List.mem_of_getElem? (i := 27) rfl)) (hw _ (List.mem_of_getElem? (i := 7) rfl)) (hw _ (List.mem_of_getElem? (i := 8) rfl)) eT (by rw [hml]; rfl) (by decide) (Nat.le_of_ble_eq_true rfl) (by decide) (hb hby d5_1) (q := 4) rfl ?_
  intro T X eT
  exact leafV X hx hlk hret (hb hby d5_4) (by decide) (by decide) ⟨rfl, eT, N⟩
theorem d4_0 : decode jdk_39_method_1_code 0 = .ok (.aload_n 0, 1) := by decide +kernel
theorem d4_1 : decode jdk_39_method_1_code 1 = .ok (.invokespecial 1, 3) := by decide +kernel
theorem d4_4 : decode jdk_39_method_1_code 4 = .ok (.aload_n 0, 1) := by decide +kernel
theorem d4_5 : decode jdk_39_method_1_code 5 = .ok (.iconst 0, 1) := by decide +kernel
theorem d4_6 : decode jdk_39_method_1_code 6 = .ok (.putfield 7, 3) := by decide +kernel
theorem d4_9 : decode jdk_39_method_1_code 9 = .ok (.return_, 1) := by decide +kernel
theorem pn_4 : plainFor (⟨"java/util/AbstractList", "<init>", "()V"⟩ : MethodName) = true := plainFor_of_name (by first | (simp [plainName, overriddenIn]; done) | decide +kernel)
theorem ef_4 (m : MethodId) (x0 : Addr) : entryFrame m #[(.ref x0)] 1 = mkF m 0 #[.val (.ref x0)] [] := by first | (simp [entryFrame, mkF, argsToLocals, Value.category]; done) | rfl
theorem pd2 : parseMethodDescriptor "()V" = some ⟨[], none⟩ := by decide +kernel
set_option maxRecDepth 65536 in
set_option maxHeartbeats 40000000 in
theorem rm4 (l : Launch) (Z : State) (a0 : Array Value) (hw : ∀ d ∈ tables_1, d.before a0 Z = true) (ws : List Jvm.Cond) (x0 : Addr)  (h0 : Heap) (n0 : Nat) (sz : n0 ≤ h0.size) (F_x0_elementData : Fld Z h0 x0 "java/util/ArrayList" "elementData" "[Ljava/lang/Object;" .null) (F_x0_size : Fld Z h0 x0 "java/util/ArrayList" "size" "I" (.int (0 : Int32))) (F_x0_modCount : Fld Z h0 x0 "java/util/AbstractList" "modCount" "I" (.int (0 : Int32))) (E_x0 : Exa Z h0 x0 "java/util/ArrayList") (g_x0 : n0 ≤ x0) :
    Ctr l (⟨"java/util/AbstractList", "<init>", "()V"⟩ : MethodName) jdk_39_method_1_code 1 none ws ({ frames := 2, cells := 0, slots := 0, locals := 24 } : Room) Z #[(.ref x0)] h0 (fun v h L => v = none ∧ Fr n0 L ∧ Keep h0 h [x0] ∧ Fld Z h x0 "java/util/ArrayList" "elementData" "[Ljava/lang/Object;" .null ∧ Fld Z h x0 "java/util/ArrayList" "size" "I" (.int (0 : Int32)) ∧ Fld Z h x0 "java/util/AbstractList" "modCount" "I" (.int (0 : Int32))) 0 0 := by
  refine Ctr.mk pn_4 ?_
  intro p e s m below meth c T hx hby hml hown hnm hlk hret hZ X eT
  have N := Fr.nil n0
  refine enter (ef_4 m x0) ?_
  have K := Keep.refl h0 [x0]
  refine s_aloadN X hx (hb hby d4_0) rfl rfl (q := 1) rfl ?_
  refine callI X hx hZ hown (W := 0) (argsL := []) (rest := []) rfl (hw _ (List.mem_of_getElem? (i := 21) rfl)) (hw _ (List.mem_of_getElem? (i := 22) rfl)) (hw _ (List.mem_of_getElem? (i := 25) rfl)) (hw _ (List.mem_of_getElem? (i := 26) rfl)) (by decide) (rm5 l Z a0 hw [] x0 h0 n0 sz) eT (by decide) (by decide) (by decide) (by decide) (by rw [hml]; rfl) pd2 rfl rfl (Nat.le_of_ble_eq_true rfl) (hb hby d4_1) (q := 4) rfl ?_
  intro v T Lc hQ X
  obtain ⟨rfl, eT, N'⟩ := hQ
  have N := Fr.app N N'
  refine s_aloadN X hx (hb hby d4_4) rfl rfl (q := 5) rfl ?_
  refine s_iconst X hx (z := (0 : Int32)) (hb hby d4_5) rfl (q := 6) rfl ?_
  refine s_putF X hx hZ hown (hw _ (List.mem_of_getElem? (i := 28) rfl)) eT F_x0_modCount E_x0 (Or.inl (hw _ (List.mem_of_getElem? (i := 29) rfl))) (hw _ (List.mem_of_getElem? (i := 10) rfl)) (ty := .int) (by decide) rfl rfl N g_x0 (hb hby d4_6) (q := 9) rfl ?_
  intro T h1 _ X N eT W F_x0_modCount'
  have E_x0 := E_x0.wr W
  have F_x0_elementData := F_x0_elementData.other W (Or.inr (slot_ne (Or.inl (hw _ (List.mem_of_getElem? (i := 32) rfl))) (Or.inl (hw _ (List.mem_of_getElem? (i := 29) rfl))) (by decide) (t := (.array (.object "java/lang/Object"))) (t' := .int) (by decide) (by decide)))
  have F_x0_size := F_x0_size.other W (Or.inr (slot_ne (Or.inl (hw _ (List.mem_of_getElem? (i := 92) rfl))) (Or.inl (hw _ (List.mem_of_getElem? (i := 29) rfl))) (by decide) (t := .int) (t' := .int) (by decide) (by decide)))
  have K := K.wr W (Or.inl (List.mem_of_getElem? (i := 0) rfl))
  have sz : n0 ≤ h1.size := by rw [W.size]; exact sz
  have F_x0_modCount := F_x0_modCount'
  exact leafV X hx hlk hret (hb hby d4_9) (by decide) (by decide) (by rw [eT]; exact ⟨rfl, N, K, F_x0_elementData, F_x0_size, F_x0_modCount⟩)
theorem d3_0 : decode jdk_38_method_2_code 0 = .ok (.aload_n 0, 1) := by decide +kernel
theorem d3_1 : decode jdk_38_method_2_code 1 = .ok (.invokespecial 1, 3) := by decide +kernel
theorem d3_4 : decode jdk_38_method_2_code 4 = .ok (.aload_n 0, 1) := by decide +kernel
theorem d3_5 : decode jdk_38_method_2_code 5 = .ok (.getstatic 39, 3) := by decide +kernel
theorem d3_8 : decode jdk_38_method_2_code 8 = .ok (.putfield 9, 3) := by decide +kernel
theorem d3_11 : decode jdk_38_method_2_code 11 = .ok (.return_, 1) := by decide +kernel
theorem pn_3 : plainFor (⟨"java/util/ArrayList", "<init>", "()V"⟩ : MethodName) = true := plainFor_of_name (by first | (simp [plainName, overriddenIn]; done) | decide +kernel)
theorem ef_3 (m : MethodId) (x0 : Addr) : entryFrame m #[(.ref x0)] 1 = mkF m 0 #[.val (.ref x0)] [] := by first | (simp [entryFrame, mkF, argsToLocals, Value.category]; done) | rfl
set_option maxRecDepth 65536 in
set_option maxHeartbeats 40000000 in
theorem rm3 (l : Launch) (Z : State) (a0 : Array Value) (hw : ∀ d ∈ tables_1, d.before a0 Z = true) (ws : List Jvm.Cond) (x0 : Addr)  (d0 : Addr) (h0 : Heap) (n0 : Nat) (sz : n0 ≤ h0.size) (F_x0_elementData : Fld Z h0 x0 "java/util/ArrayList" "elementData" "[Ljava/lang/Object;" .null) (F_x0_size : Fld Z h0 x0 "java/util/ArrayList" "size" "I" (.int (0 : Int32))) (F_x0_modCount : Fld Z h0 x0 "java/util/AbstractList" "modCount" "I" (.int (0 : Int32))) (E_x0 : Exa Z h0 x0 "java/util/ArrayList") (g_x0 : n0 ≤ x0) (S0 : Sta Z Z.heap "java/util/ArrayList" "DEFAULTCAPACITY_EMPTY_ELEMENTDATA" "[Ljava/lang/Object;" (.ref d0)) (A0 : AV Z Z.heap d0 (.object "java/lang/Object") []) (O_old : Old Z n0 h0) :
    Ctr l (⟨"java/util/ArrayList", "<init>", "()V"⟩ : MethodName) jdk_38_method_2_code 1 none ws ({ frames := 3, cells := 0, slots := 0, locals := 36 } : Room) Z #[(.ref x0)] h0 (fun v h L => v = none ∧ Fr n0 L ∧ Keep h0 h [x0] ∧ Fld Z h x0 "java/util/ArrayList" "elementData" "[Ljava/lang/Object;" (.ref d0) ∧ Fld Z h x0 "java/util/ArrayList" "size" "I" (.int (0 : Int32)) ∧ Fld Z h x0 "java/util/AbstractList" "modCount" "I" (.int (0 : Int32))) 0 0 := by
  refine Ctr.mk pn_3 ?_
  intro p e s m below meth c T hx hby hml hown hnm hlk hret hZ X eT
  have N := Fr.nil n0
  refine enter (ef_3 m x0) ?_
  have K := Keep.refl h0 [x0]
  refine s_aloadN X hx (hb hby d3_0) rfl rfl (q := 1) rfl ?_
  refine callI X hx hZ hown (W := 0) (argsL := []) (rest := []) rfl (hw _ (List.mem_of_getElem? (i := 15) rfl)) (hw _ (List.mem_of_getElem? (i := 16) rfl)) (hw _ (List.mem_of_getElem? (i := 19) rfl)) (hw _ (List.mem_of_getElem? (i := 20) rfl)) (by decide) (rm4 l Z a0 hw [] x0 h0 n0 sz F_x0_elementData F_x0_size F_x0_modCount E_x0 g_x0) eT (by decide) (by decide) (by decide) (by decide) (by rw [hml]; rfl) pd2 rfl rfl (Nat.le_of_ble_eq_true rfl) (hb hby d3_1) (q := 4) rfl ?_
  intro v T Lc hQ X
  obtain ⟨h1, eT⟩ : ∃ z, T.heap = z := ⟨_, rfl⟩
  rw [eT] at hQ
  obtain ⟨rfl, N', K', F_x0_elementData', F_x0_size', F_x0_modCount'⟩ := hQ
  have N := Fr.app N N'
  have E_x0 := E_x0.keep K'
  have O_old := O_old.keep K' (allS g_x0 all0)
  have sz : n0 ≤ h1.size := Nat.le_trans sz K'.1
  have K := K.trans K' (allS (Or.inl (List.mem_of_getElem? (i := 0) rfl)) all0)
  have F_x0_elementData : Fld Z h1 x0 "java/util/ArrayList" "elementData" "[Ljava/lang/Object;" .null := F_x0_elementData'
  have F_x0_size : Fld Z h1 x0 "java/util/ArrayList" "size" "I" (.int (0 : Int32)) := F_x0_size'
  have F_x0_modCount : Fld Z h1 x0 "java/util/AbstractList" "modCount" "I" (.int (0 : Int32)) := F_x0_modCount'
  refine s_aloadN X hx (hb hby d3_4) rfl rfl (q := 5) rfl ?_
  refine s_getS X hx hZ hown (hw _ (List.mem_of_getElem? (i := 30) rfl)) eT (S0.ext O_old.2) (hb hby d3_5) (q := 8) rfl ?_
  intro T X eT
  refine s_putF X hx hZ hown (hw _ (List.mem_of_getElem? (i := 31) rfl)) eT F_x0_elementData E_x0 (Or.inl (hw _ (List.mem_of_getElem? (i := 32) rfl))) (hw _ (List.mem_of_getElem? (i := 10) rfl)) (ty := (.array (.object "java/lang/Object"))) (by decide) rfl rfl N g_x0 (hb hby d3_8) (q := 11) rfl ?_
  intro T h2 _ X N eT W F_x0_elementData'
  have E_x0 := E_x0.wr W
  have O_old := O_old.wr W g_x0
  have F_x0_size := F_x0_size.other W (Or.inr (slot_ne (Or.inl (hw _ (List.mem_of_getElem? (i := 92) rfl))) (Or.inl (hw _ (List.mem_of_getElem? (i := 32) rfl))) (by decide) (t := .int) (t' := (.array (.object "java/lang/Object"))) (by decide) (by decide)))
  have F_x0_modCount := F_x0_modCount.other W (Or.inr (slot_ne (Or.inl (hw _ (List.mem_of_getElem? (i := 29) rfl))) (Or.inl (hw _ (List.mem_of_getElem? (i := 32) rfl))) (by decide) (t := .int) (t' := (.array (.object "java/lang/Object"))) (by decide) (by decide)))
  have K := K.wr W (Or.inl (List.mem_of_getElem? (i := 0) rfl))
  have sz : n0 ≤ h2.size := by rw [W.size]; exact sz
  have F_x0_elementData := F_x0_elementData'
  exact leafV X hx hlk hret (hb hby d3_11) (by decide) (by decide) (by rw [eT]; exact ⟨rfl, N, K, F_x0_elementData, F_x0_size, F_x0_modCount⟩)
theorem d1_0 : decode prog_1_method_2_code 0 = .ok (.aload_n 0, 1) := by decide +kernel
theorem d1_1 : decode prog_1_method_2_code 1 = .ok (.invokespecial 16, 3) := by decide +kernel
theorem d1_4 : decode prog_1_method_2_code 4 = .ok (.aload_n 0, 1) := by decide +kernel
theorem d1_5 : decode prog_1_method_2_code 5 = .ok (.new 19, 3) := by decide +kernel
theorem d1_8 : decode prog_1_method_2_code 8 = .ok (.dup, 1) := by decide +kernel
theorem d1_9 : decode prog_1_method_2_code 9 = .ok (.invokespecial 21, 3) := by decide +kernel
theorem d1_12 : decode prog_1_method_2_code 12 = .ok (.putfield 22, 3) := by decide +kernel
theorem d1_15 : decode prog_1_method_2_code 15 = .ok (.iload_n 1, 1) := by decide +kernel
theorem d1_16 : decode prog_1_method_2_code 16 = .ok (.ifCond .ge 17, 3) := by decide +kernel
theorem d1_19 : decode prog_1_method_2_code 19 = .ok (.new 26, 3) := by decide +kernel
theorem d1_22 : decode prog_1_method_2_code 22 = .ok (.dup, 1) := by decide +kernel
theorem d1_23 : decode prog_1_method_2_code 23 = .ok (.iload_n 1, 1) := by decide +kernel
theorem d1_29 : decode prog_1_method_2_code 29 = .ok (.invokespecial 32, 3) := by decide +kernel
theorem d1_32 : decode prog_1_method_2_code 32 = .ok (.athrow, 1) := by decide +kernel
theorem d1_33 : decode prog_1_method_2_code 33 = .ok (.aload_n 0, 1) := by decide +kernel
theorem d1_34 : decode prog_1_method_2_code 34 = .ok (.iload_n 1, 1) := by decide +kernel
theorem d1_35 : decode prog_1_method_2_code 35 = .ok (.putfield 35, 3) := by decide +kernel
theorem d1_38 : decode prog_1_method_2_code 38 = .ok (.aload_n 0, 1) := by decide +kernel
theorem d1_39 : decode prog_1_method_2_code 39 = .ok (.new 39, 3) := by decide +kernel
theorem d1_42 : decode prog_1_method_2_code 42 = .ok (.dup, 1) := by decide +kernel
theorem d1_43 : decode prog_1_method_2_code 43 = .ok (.lload_n 2, 1) := by decide +kernel
theorem d1_44 : decode prog_1_method_2_code 44 = .ok (.invokespecial 41, 3) := by decide +kernel
theorem d1_47 : decode prog_1_method_2_code 47 = .ok (.putfield 44, 3) := by decide +kernel
theorem d1_50 : decode prog_1_method_2_code 50 = .ok (.aload_n 0, 1) := by decide +kernel
theorem d1_51 : decode prog_1_method_2_code 51 = .ok (.iload_n 1, 1) := by decide +kernel
theorem d1_52 : decode prog_1_method_2_code 52 = .ok (.ifCond .ne 9, 3) := by decide +kernel
theorem d1_55 : decode prog_1_method_2_code 55 = .ok (.ldc2_w 50, 3) := by decide +kernel
theorem d1_58 : decode prog_1_method_2_code 58 = .ok (.goto 4, 3) := by decide +kernel
theorem d1_61 : decode prog_1_method_2_code 61 = .ok (.lconst 0, 1) := by decide +kernel
theorem d1_62 : decode prog_1_method_2_code 62 = .ok (.putfield 52, 3) := by decide +kernel
theorem d1_65 : decode prog_1_method_2_code 65 = .ok (.return_, 1) := by decide +kernel
theorem pn_1 : plainFor (⟨"com/example/cistern/cistern/ReservoirSampler", "<init>", "(IJ)V"⟩ : MethodName) = true := plainFor_of_name (by first | (simp [plainName, overriddenIn]; done) | decide +kernel)
theorem ef_1 (m : MethodId) (x0 : Addr) (x1 : Int32) (x2 : Int64) : entryFrame m #[(.ref x0), (.int x1), (.long x2)] 4 = mkF m 0 #[.val (.ref x0), .val (.int x1), .val (.long x2), .second] [] := by first | (simp [entryFrame, mkF, argsToLocals, Value.category]; done) | rfl
theorem pd3 : parseMethodDescriptor "(J)V" = some ⟨[.long], none⟩ := by decide +kernel
set_option maxRecDepth 65536 in
set_option maxHeartbeats 40000000 in
theorem rm1_0 (l : Launch) (Z : State) (a0 : Array Value) (hw : ∀ d ∈ tables_1, d.before a0 Z = true) (ws : List Jvm.Cond) (x0 : Addr) (x2 : Int64)  (d0 : Addr) (h0 : Heap) (n0 : Nat) (sz : n0 ≤ h0.size) (F_x0_kept : Fld Z h0 x0 "com/example/cistern/cistern/ReservoirSampler" "kept" "Ljava/util/List;" .null) (F_x0_capacity : Fld Z h0 x0 "com/example/cistern/cistern/ReservoirSampler" "capacity" "I" (.int (0 : Int32))) (F_x0_random : Fld Z h0 x0 "com/example/cistern/cistern/ReservoirSampler" "random" "Lcom/example/cistern/cistern/SplitMix64;" .null) (F_x0_passOver : Fld Z h0 x0 "com/example/cistern/cistern/ReservoirSampler" "passOver" "J" (.long (0 : Int64))) (F_x0_offered : Fld Z h0 x0 "com/example/cistern/cistern/ReservoirSampler" "offered" "J" (.long (0 : Int64))) (E_x0 : Exa Z h0 x0 "com/example/cistern/cistern/ReservoirSampler") (g_x0 : n0 ≤ x0) (S0 : Sta Z Z.heap "java/util/ArrayList" "DEFAULTCAPACITY_EMPTY_ELEMENTDATA" "[Ljava/lang/Object;" (.ref d0)) (A0 : AV Z Z.heap d0 (.object "java/lang/Object") []) (O_old : Old Z n0 h0) :
    Ctr l (⟨"com/example/cistern/cistern/ReservoirSampler", "<init>", "(IJ)V"⟩ : MethodName) prog_1_method_2_code 4 none ws ({ frames := 4, cells := 2, slots := 4, locals := 50 } : Room) Z #[(.ref x0), (.int (0 : Int32)), (.long x2)] h0 (fun v h L => ∃ kl : Addr, ∃ gr : Addr, v = none ∧ Fr n0 L ∧ Keep h0 h [x0] ∧ Fld Z h x0 "com/example/cistern/cistern/ReservoirSampler" "kept" "Ljava/util/List;" (.ref kl) ∧ Fld Z h x0 "com/example/cistern/cistern/ReservoirSampler" "capacity" "I" (.int (0 : Int32)) ∧ Fld Z h x0 "com/example/cistern/cistern/ReservoirSampler" "random" "Lcom/example/cistern/cistern/SplitMix64;" (.ref gr) ∧ Fld Z h x0 "com/example/cistern/cistern/ReservoirSampler" "passOver" "J" (.long (9223372036854775807 : Int64)) ∧ Fld Z h x0 "com/example/cistern/cistern/ReservoirSampler" "offered" "J" (.long (0 : Int64)) ∧ Fld Z h kl "java/util/ArrayList" "elementData" "[Ljava/lang/Object;" (.ref d0) ∧ Fld Z h kl "java/util/ArrayList" "size" "I" (.int (0 : Int32)) ∧ Fld Z h kl "java/util/AbstractList" "modCount" "I" (.int (0 : Int32)) ∧ Exa Z h kl "java/util/ArrayList" ∧ Fld Z h gr "com/example/cistern/cistern/SplitMix64" "state" "J" (.long x2) ∧ Exa Z h gr "com/example/cistern/cistern/SplitMix64" ∧ h0.size ≤ kl ∧ h0.size ≤ gr) 2 4 := by
  refine Ctr.mk pn_1 ?_
  intro p e s m below meth c T hx hby hml hown hnm hlk hret hZ X eT
  have N := Fr.nil n0
  refine enter (ef_1 m x0 (0 : Int32) x2) ?_
  have K := Keep.refl h0 [x0]
  refine s_aloadN X hx (hb hby d1_0) rfl rfl (q := 1) rfl ?_
  refine s_initO X hx hZ hown (W := 0) (hw _ (List.mem_of_getElem? (i := 6) rfl)) (hw _ (List.mem_of_getElem? (i := 7) rfl)) (hw _ (List.mem_of_getElem? (i := 8) rfl)) eT (by rw [hml]; rfl) (by decide) (Nat.le_of_ble_eq_true rfl) (by decide) (hb hby d1_1) (q := 4) rfl ?_
  intro T X eT
  refine s_aloadN X hx (hb hby d1_4) rfl rfl (q := 5) rfl ?_
  refine s_new X hx hZ hown (hw _ (List.mem_of_getElem? (i := 9) rfl)) (hw _ (List.mem_of_getElem? (i := 10) rfl)) (hw _ (List.mem_of_getElem? (i := 11) rfl)) eT (by decide) (by decide) (hb hby d1_5) (q := 8) rfl ?_
  intro T h2 a1 X eT E ea E_a1' Df
  have ne_x0_a1 : x0 ≠ a1 := by rw [ea]; exact Nat.ne_of_lt E_x0.lt
  have E_x0 := E_x0.ext E
  have F_x0_kept := F_x0_kept.ext E
  have F_x0_capacity := F_x0_capacity.ext E
  have F_x0_random := F_x0_random.ext E
  have F_x0_passOver := F_x0_passOver.ext E
  have F_x0_offered := F_x0_offered.ext E
  have O_old := O_old.ext E
  have g_a1 : n0 ≤ a1 := by rw [ea]; exact sz
  have sk_a1 : h0.size ≤ a1 := by rw [ea]; exact K.1
  have K := K.ext E
  have sz : n0 ≤ h2.size := Nat.le_trans sz E.1
  have E_a1 := E_a1'
  have F_a1_modCount : Fld Z h2 a1 "java/util/AbstractList" "modCount" "I" (.int (0 : Int32)) := Df _ _ _ .int (Or.inl (hw _ (List.mem_of_getElem? (i := 29) rfl))) (by decide)
  have F_a1_elementData : Fld Z h2 a1 "java/util/ArrayList" "elementData" "[Ljava/lang/Object;" .null := Df _ _ _ (.array (.object "java/lang/Object")) (Or.inl (hw _ (List.mem_of_getElem? (i := 32) rfl))) (by decide)
  have F_a1_size : Fld Z h2 a1 "java/util/ArrayList" "size" "I" (.int (0 : Int32)) := Df _ _ _ .int (Or.inl (hw _ (List.mem_of_getElem? (i := 92) rfl))) (by decide)
  refine s_dup X hx (hb hby d1_8) rfl (q := 9) rfl ?_
  refine callI X hx hZ hown (W := 2) (argsL := []) (rest := [(.ref a1), (.ref x0)]) rfl (hw _ (List.mem_of_getElem? (i := 12) rfl)) (hw _ (List.mem_of_getElem? (i := 13) rfl)) (hw _ (List.mem_of_getElem? (i := 11) rfl)) (hw _ (List.mem_of_getElem? (i := 14) rfl)) (by decide) (rm3 l Z a0 hw [] a1 d0 h2 n0 sz F_a1_elementData F_a1_size F_a1_modCount E_a1 g_a1 S0 A0 O_old) eT (by decide) (by decide) (by decide) (by decide) (by rw [hml]; rfl) pd2 rfl rfl (Nat.le_of_ble_eq_true rfl) (hb hby d1_9) (q := 12) rfl ?_
  intro v T Lc hQ X
  obtain ⟨h3, eT⟩ : ∃ z, T.heap = z := ⟨_, rfl⟩
  rw [eT] at hQ
  obtain ⟨rfl, N', K', F_a1_elementData', F_a1_size', F_a1_modCount'⟩ := hQ
  have N := Fr.app N N'
  have E_x0 := E_x0.keep K'
  have F_x0_kept := F_x0_kept.keep K' (ninS ne_x0_a1 nin0)
  have F_x0_capacity := F_x0_capacity.keep K' (ninS ne_x0_a1 nin0)
  have F_x0_random := F_x0_random.keep K' (ninS ne_x0_a1 nin0)
  have F_x0_passOver := F_x0_passOver.keep K' (ninS ne_x0_a1 nin0)
  have F_x0_offered := F_x0_offered.keep K' (ninS ne_x0_a1 nin0)
  have O_old := O_old.keep K' (allS g_a1 all0)
  have E_a1 := E_a1.keep K'
  have sz : n0 ≤ h3.size := Nat.le_trans sz K'.1
  have K := K.trans K' (allS (Or.inr sk_a1) all0)
  have F_a1_elementData : Fld Z h3 a1 "java/util/ArrayList" "elementData" "[Ljava/lang/Object;" (.ref d0) := F_a1_elementData'
  have F_a1_size : Fld Z h3 a1 "java/util/ArrayList" "size" "I" (.int (0 : Int32)) := F_a1_size'
  have F_a1_modCount : Fld Z h3 a1 "java/util/AbstractList" "modCount" "I" (.int (0 : Int32)) := F_a1_modCount'
  refine s_putF X hx hZ hown (hw _ (List.mem_of_getElem? (i := 33) rfl)) eT F_x0_kept E_x0 (Or.inr ⟨(hw _ (List.mem_of_getElem? (i := 34) rfl)), rfl, hnm⟩) (hw _ (List.mem_of_getElem? (i := 1) rfl)) (ty := (.object "java/util/List")) (by decide) rfl rfl N g_x0 (hb hby d1_12) (q := 15) rfl ?_
  intro T h4 _ X N eT W F_x0_kept'
  have E_x0 := E_x0.wr W
  have F_x0_capacity := F_x0_capacity.other W (Or.inr (slot_ne (Or.inr (hw _ (List.mem_of_getElem? (i := 36) rfl))) (Or.inr (hw _ (List.mem_of_getElem? (i := 34) rfl))) (by decide) (t := .int) (t' := (.object "java/util/List")) (by decide) (by decide)))
  have F_x0_random := F_x0_random.other W (Or.inr (slot_ne (Or.inr (hw _ (List.mem_of_getElem? (i := 47) rfl))) (Or.inr (hw _ (List.mem_of_getElem? (i := 34) rfl))) (by decide) (t := (.object "com/example/cistern/cistern/SplitMix64")) (t' := (.object "java/util/List")) (by decide) (by decide)))
  have F_x0_passOver := F_x0_passOver.other W (Or.inr (slot_ne (Or.inl (hw _ (List.mem_of_getElem? (i := 50) rfl))) (Or.inr (hw _ (List.mem_of_getElem? (i := 34) rfl))) (by decide) (t := .long) (t' := (.object "java/util/List")) (by decide) (by decide)))
  have F_x0_offered := F_x0_offered.other W (Or.inr (slot_ne (Or.inl (hw _ (List.mem_of_getElem? (i := 62) rfl))) (Or.inr (hw _ (List.mem_of_getElem? (i := 34) rfl))) (by decide) (t := .long) (t' := (.object "java/util/List")) (by decide) (by decide)))
  have O_old := O_old.wr W g_x0
  have E_a1 := E_a1.wr W
  have F_a1_elementData := F_a1_elementData.other W (Or.inl (Ne.symm ne_x0_a1))
  have F_a1_size := F_a1_size.other W (Or.inl (Ne.symm ne_x0_a1))
  have F_a1_modCount := F_a1_modCount.other W (Or.inl (Ne.symm ne_x0_a1))
  have K := K.wr W (Or.inl (List.mem_of_getElem? (i := 0) rfl))
  have sz : n0 ≤ h4.size := by rw [W.size]; exact sz
  have F_x0_kept := F_x0_kept'
  refine s_iloadN X hx (hb hby d1_15) rfl (q := 16) rfl ?_
  refine f_if_ge X hx (hb hby d1_16) (q1 := 33) (by decide) (by decide) (q := 19) rfl (fun _ => ?_) (fun hq => absurd hq (by decide : ¬ (0 : Int32) < 0))
  refine s_aloadN X hx (hb hby d1_33) rfl rfl (q := 34) rfl ?_
  refine s_iloadN X hx (hb hby d1_34) rfl (q := 35) rfl ?_
  refine s_putF X hx hZ hown (hw _ (List.mem_of_getElem? (i := 35) rfl)) eT F_x0_capacity E_x0 (Or.inr ⟨(hw _ (List.mem_of_getElem? (i := 36) rfl)), rfl, hnm⟩) (hw _ (List.mem_of_getElem? (i := 1) rfl)) (ty := .int) (by decide) rfl rfl N g_x0 (hb hby d1_35) (q := 38) rfl ?_
  intro T h5 _ X N eT W F_x0_capacity'
  have E_x0 := E_x0.wr W
  have F_x0_kept := F_x0_kept.other W (Or.inr (slot_ne (Or.inr (hw _ (List.mem_of_getElem? (i := 34) rfl))) (Or.inr (hw _ (List.mem_of_getElem? (i := 36) rfl))) (by decide) (t := (.object "java/util/List")) (t' := .int) (by decide) (by decide)))
  have F_x0_random := F_x0_random.other W (Or.inr (slot_ne (Or.inr (hw _ (List.mem_of_getElem? (i := 47) rfl))) (Or.inr (hw _ (List.mem_of_getElem? (i := 36) rfl))) (by decide) (t := (.object "com/example/cistern/cistern/SplitMix64")) (t' := .int) (by decide) (by decide)))
  have F_x0_passOver := F_x0_passOver.other W (Or.inr (slot_ne (Or.inl (hw _ (List.mem_of_getElem? (i := 50) rfl))) (Or.inr (hw _ (List.mem_of_getElem? (i := 36) rfl))) (by decide) (t := .long) (t' := .int) (by decide) (by decide)))
  have F_x0_offered := F_x0_offered.other W (Or.inr (slot_ne (Or.inl (hw _ (List.mem_of_getElem? (i := 62) rfl))) (Or.inr (hw _ (List.mem_of_getElem? (i := 36) rfl))) (by decide) (t := .long) (t' := .int) (by decide) (by decide)))
  have O_old := O_old.wr W g_x0
  have E_a1 := E_a1.wr W
  have F_a1_elementData := F_a1_elementData.other W (Or.inl (Ne.symm ne_x0_a1))
  have F_a1_size := F_a1_size.other W (Or.inl (Ne.symm ne_x0_a1))
  have F_a1_modCount := F_a1_modCount.other W (Or.inl (Ne.symm ne_x0_a1))
  have K := K.wr W (Or.inl (List.mem_of_getElem? (i := 0) rfl))
  have sz : n0 ≤ h5.size := by rw [W.size]; exact sz
  have F_x0_capacity := F_x0_capacity'
  refine s_aloadN X hx (hb hby d1_38) rfl rfl (q := 39) rfl ?_
  refine s_new X hx hZ hown (hw _ (List.mem_of_getElem? (i := 37) rfl)) (hw _ (List.mem_of_getElem? (i := 38) rfl)) (hw _ (List.mem_of_getElem? (i := 39) rfl)) eT (by decide) (by decide) (hb hby d1_39) (q := 42) rfl ?_
  intro T h7 a6 X eT E ea E_a6' Df
  have ne_x0_a6 : x0 ≠ a6 := by rw [ea]; exact Nat.ne_of_lt E_x0.lt
  have ne_a1_a6 : a1 ≠ a6 := by rw [ea]; exact Nat.ne_of_lt E_a1.lt
  have E_x0 := E_x0.ext E
  have F_x0_kept := F_x0_kept.ext E
  have F_x0_capacity := F_x0_capacity.ext E
  have F_x0_random := F_x0_random.ext E
  have F_x0_passOver := F_x0_passOver.ext E
  have F_x0_offered := F_x0_offered.ext E
  have O_old := O_old.ext E
  have E_a1 := E_a1.ext E
  have F_a1_elementData := F_a1_elementData.ext E
  have F_a1_size := F_a1_size.ext E
  have F_a1_modCount := F_a1_modCount.ext E
  have g_a6 : n0 ≤ a6 := by rw [ea]; exact sz
  have sk_a6 : h0.size ≤ a6 := by rw [ea]; exact K.1
  have K := K.ext E
  have sz : n0 ≤ h7.size := Nat.le_trans sz E.1
  have E_a6 := E_a6'
  have F_a6_state : Fld Z h7 a6 "com/example/cistern/cistern/SplitMix64" "state" "J" (.long (0 : Int64)) := Df _ _ _ .long (Or.inl (hw _ (List.mem_of_getElem? (i := 45) rfl))) (by decide)
  refine s_dup X hx (hb hby d1_42) rfl (q := 43) rfl ?_
  refine s_lloadN X hx (hb hby d1_43) rfl (q := 44) rfl ?_
  refine callI X hx hZ hown (W := 2) (argsL := [(.long x2)]) (rest := [(.ref a6), (.ref x0)]) rfl (hw _ (List.mem_of_getElem? (i := 40) rfl)) (hw _ (List.mem_of_getElem? (i := 41) rfl)) (hw _ (List.mem_of_getElem? (i := 39) rfl)) (hw _ (List.mem_of_getElem? (i := 42) rfl)) (by decide) (rm6 l Z a0 hw [] a6 x2 (0 : Int64) h7 n0 sz F_a6_state E_a6 g_a6) eT (by decide) (by decide) (by decide) (by decide) (by rw [hml]; rfl) pd3 rfl rfl (Nat.le_of_ble_eq_true rfl) (hb hby d1_44) (q := 47) rfl ?_
  intro v T Lc hQ X
  obtain ⟨h8, eT⟩ : ∃ z, T.heap = z := ⟨_, rfl⟩
  try rw [eT] at hQ
  obtain ⟨rfl, N', K', E_a6', F_a6_state'⟩ := hQ
  have N := Fr.app N N'
  have E_x0 := E_x0.keep K'
  have F_x0_kept := F_x0_kept.keep K' (ninS ne_x0_a6 nin0)
  have F_x0_capacity := F_x0_capacity.keep K' (ninS ne_x0_a6 nin0)
  have F_x0_random := F_x0_random.keep K' (ninS ne_x0_a6 nin0)
  have F_x0_passOver := F_x0_passOver.keep K' (ninS ne_x0_a6 nin0)
  have F_x0_offered := F_x0_offered.keep K' (ninS ne_x0_a6 nin0)
  have O_old := O_old.keep K' (allS g_a6 all0)
  have E_a1 := E_a1.keep K'
  have F_a1_elementData := F_a1_elementData.keep K' (ninS ne_a1_a6 nin0)
  have F_a1_size := F_a1_size.keep K' (ninS ne_a1_a6 nin0)
  have F_a1_modCount := F_a1_modCount.keep K' (ninS ne_a1_a6 nin0)
  have E_a6 := E_a6.keep K'
  have sz : n0 ≤ h8.size := Nat.le_trans sz K'.1
  have K := K.trans K' (allS (Or.inr sk_a6) all0)
  have F_a6_state := F_a6_state'
  refine s_putF X hx hZ hown (hw _ (List.mem_of_getElem? (i := 46) rfl)) eT F_x0_random E_x0 (Or.inr ⟨(hw _ (List.mem_of_getElem? (i := 47) rfl)), rfl, hnm⟩) (hw _ (List.mem_of_getElem? (i := 1) rfl)) (ty := (.object "com/example/cistern/cistern/SplitMix64")) (by decide) rfl rfl N g_x0 (hb hby d1_47) (q := 50) rfl ?_
  intro T h9 _ X N eT W F_x0_random'
  have E_x0 := E_x0.wr W
  have F_x0_kept := F_x0_kept.other W (Or.inr (slot_ne (Or.inr (hw _ (List.mem_of_getElem? (i := 34) rfl))) (Or.inr (hw _ (List.mem_of_getElem? (i := 47) rfl))) (by decide) (t := (.object "java/util/List")) (t' := (.object "com/example/cistern/cistern/SplitMix64")) (by decide) (by decide)))
  have F_x0_capacity := F_x0_capacity.other W (Or.inr (slot_ne (Or.inr (hw _ (List.mem_of_getElem? (i := 36) rfl))) (Or.inr (hw _ (List.mem_of_getElem? (i := 47) rfl))) (by decide) (t := .int) (t' := (.object "com/example/cistern/cistern/SplitMix64")) (by decide) (by decide)))
  have F_x0_passOver := F_x0_passOver.other W (Or.inr (slot_ne (Or.inl (hw _ (List.mem_of_getElem? (i := 50) rfl))) (Or.inr (hw _ (List.mem_of_getElem? (i := 47) rfl))) (by decide) (t := .long) (t' := (.object "com/example/cistern/cistern/SplitMix64")) (by decide) (by decide)))
  have F_x0_offered := F_x0_offered.other W (Or.inr (slot_ne (Or.inl (hw _ (List.mem_of_getElem? (i := 62) rfl))) (Or.inr (hw _ (List.mem_of_getElem? (i := 47) rfl))) (by decide) (t := .long) (t' := (.object "com/example/cistern/cistern/SplitMix64")) (by decide) (by decide)))
  have O_old := O_old.wr W g_x0
  have E_a1 := E_a1.wr W
  have F_a1_elementData := F_a1_elementData.other W (Or.inl (Ne.symm ne_x0_a1))
  have F_a1_size := F_a1_size.other W (Or.inl (Ne.symm ne_x0_a1))
  have F_a1_modCount := F_a1_modCount.other W (Or.inl (Ne.symm ne_x0_a1))
  have E_a6 := E_a6.wr W
  have F_a6_state := F_a6_state.other W (Or.inl (Ne.symm ne_x0_a6))
  have K := K.wr W (Or.inl (List.mem_of_getElem? (i := 0) rfl))
  have sz : n0 ≤ h9.size := by rw [W.size]; exact sz
  have F_x0_random := F_x0_random'
  refine s_aloadN X hx (hb hby d1_50) rfl rfl (q := 51) rfl ?_
  refine s_iloadN X hx (hb hby d1_51) rfl (q := 52) rfl ?_
  refine f_if_ne X hx (hb hby d1_52) (q1 := 61) (by decide) (by decide) (q := 55) rfl (fun hq => absurd (by decide : (0 : Int32) = 0) hq) (fun _ => ?_)
  refine s_ldc2 X hx hZ hown (hw _ (List.mem_of_getElem? (i := 48) rfl)) (hb hby d1_55) (q := 58) rfl ?_
  refine s_goto X hx (hb hby d1_58) (q1 := 62) (by decide) (by decide) ?_
  refine s_putF X hx hZ hown (hw _ (List.mem_of_getElem? (i := 49) rfl)) eT F_x0_passOver E_x0 (Or.inl (hw _ (List.mem_of_getElem? (i := 50) rfl))) (hw _ (List.mem_of_getElem? (i := 1) rfl)) (ty := .long) (by decide) rfl rfl N g_x0 (hb hby d1_62) (q := 65) rfl ?_
  intro T h10 _ X N eT W F_x0_passOver'
  have E_x0 := E_x0.wr W
  have F_x0_kept := F_x0_kept.other W (Or.inr (slot_ne (Or.inr (hw _ (List.mem_of_getElem? (i := 34) rfl))) (Or.inl (hw _ (List.mem_of_getElem? (i := 50) rfl))) (by decide) (t := (.object "java/util/List")) (t' := .long) (by decide) (by decide)))
  have F_x0_capacity := F_x0_capacity.other W (Or.inr (slot_ne (Or.inr (hw _ (List.mem_of_getElem? (i := 36) rfl))) (Or.inl (hw _ (List.mem_of_getElem? (i := 50) rfl))) (by decide) (t := .int) (t' := .long) (by decide) (by decide)))
  have F_x0_random := F_x0_random.other W (Or.inr (slot_ne (Or.inr (hw _ (List.mem_of_getElem? (i := 47) rfl))) (Or.inl (hw _ (List.mem_of_getElem? (i := 50) rfl))) (by decide) (t := (.object "com/example/cistern/cistern/SplitMix64")) (t' := .long) (by decide) (by decide)))
  have F_x0_offered := F_x0_offered.other W (Or.inr (slot_ne (Or.inl (hw _ (List.mem_of_getElem? (i := 62) rfl))) (Or.inl (hw _ (List.mem_of_getElem? (i := 50) rfl))) (by decide) (t := .long) (t' := .long) (by decide) (by decide)))
  have O_old := O_old.wr W g_x0
  have E_a1 := E_a1.wr W
  have F_a1_elementData := F_a1_elementData.other W (Or.inl (Ne.symm ne_x0_a1))
  have F_a1_size := F_a1_size.other W (Or.inl (Ne.symm ne_x0_a1))
  have F_a1_modCount := F_a1_modCount.other W (Or.inl (Ne.symm ne_x0_a1))
  have E_a6 := E_a6.wr W
  have F_a6_state := F_a6_state.other W (Or.inl (Ne.symm ne_x0_a6))
  have K := K.wr W (Or.inl (List.mem_of_getElem? (i := 0) rfl))
  have sz : n0 ≤ h10.size := by rw [W.size]; exact sz
  have F_x0_passOver := F_x0_passOver'
  exact leafV X hx hlk hret (hb hby d1_65) (by decide) (by decide) (by rw [eT]; exact ⟨a1, a6, rfl, N, K, F_x0_kept, F_x0_capacity, F_x0_random, F_x0_passOver, F_x0_offered, F_a1_elementData, F_a1_size, F_a1_modCount, E_a1, F_a6_state, E_a6, sk_a1, sk_a6⟩)
set_option maxRecDepth 65536 in
set_option maxHeartbeats 40000000 in
theorem rm1_1 (l : Launch) (Z : State) (a0 : Array Value) (hw : ∀ d ∈ tables_1, d.before a0 Z = true) (ws : List Jvm.Cond) (x0 : Addr) (x2 : Int64)  (d0 : Addr) (h0 : Heap) (n0 : Nat) (sz : n0 ≤ h0.size) (F_x0_kept : Fld Z h0 x0 "com/example/cistern/cistern/ReservoirSampler" "kept" "Ljava/util/List;" .null) (F_x0_capacity : Fld Z h0 x0 "com/example/cistern/cistern/ReservoirSampler" "capacity" "I" (.int (0 : Int32))) (F_x0_random : Fld Z h0 x0 "com/example/cistern/cistern/ReservoirSampler" "random" "Lcom/example/cistern/cistern/SplitMix64;" .null) (F_x0_passOver : Fld Z h0 x0 "com/example/cistern/cistern/ReservoirSampler" "passOver" "J" (.long (0 : Int64))) (F_x0_offered : Fld Z h0 x0 "com/example/cistern/cistern/ReservoirSampler" "offered" "J" (.long (0 : Int64))) (E_x0 : Exa Z h0 x0 "com/example/cistern/cistern/ReservoirSampler") (g_x0 : n0 ≤ x0) (S0 : Sta Z Z.heap "java/util/ArrayList" "DEFAULTCAPACITY_EMPTY_ELEMENTDATA" "[Ljava/lang/Object;" (.ref d0)) (A0 : AV Z Z.heap d0 (.object "java/lang/Object") []) (O_old : Old Z n0 h0) :
    Ctr l (⟨"com/example/cistern/cistern/ReservoirSampler", "<init>", "(IJ)V"⟩ : MethodName) prog_1_method_2_code 4 none ws ({ frames := 4, cells := 2, slots := 4, locals := 50 } : Room) Z #[(.ref x0), (.int (1 : Int32)), (.long x2)] h0 (fun v h L => ∃ kl : Addr, ∃ gr : Addr, v = none ∧ Fr n0 L ∧ Keep h0 h [x0] ∧ Fld Z h x0 "com/example/cistern/cistern/ReservoirSampler" "kept" "Ljava/util/List;" (.ref kl) ∧ Fld Z h x0 "com/example/cistern/cistern/ReservoirSampler" "capacity" "I" (.int (1 : Int32)) ∧ Fld Z h x0 "com/example/cistern/cistern/ReservoirSampler" "random" "Lcom/example/cistern/cistern/SplitMix64;" (.ref gr) ∧ Fld Z h x0 "com/example/cistern/cistern/ReservoirSampler" "passOver" "J" (.long (0 : Int64)) ∧ Fld Z h x0 "com/example/cistern/cistern/ReservoirSampler" "offered" "J" (.long (0 : Int64)) ∧ Fld Z h kl "java/util/ArrayList" "elementData" "[Ljava/lang/Object;" (.ref d0) ∧ Fld Z h kl "java/util/ArrayList" "size" "I" (.int (0 : Int32)) ∧ Fld Z h kl "java/util/AbstractList" "modCount" "I" (.int (0 : Int32)) ∧ Exa Z h kl "java/util/ArrayList" ∧ Fld Z h gr "com/example/cistern/cistern/SplitMix64" "state" "J" (.long x2) ∧ Exa Z h gr "com/example/cistern/cistern/SplitMix64" ∧ h0.size ≤ kl ∧ h0.size ≤ gr) 2 4 := by
  refine Ctr.mk pn_1 ?_
  intro p e s m below meth c T hx hby hml hown hnm hlk hret hZ X eT
  have N := Fr.nil n0
  refine enter (ef_1 m x0 (1 : Int32) x2) ?_
  have K := Keep.refl h0 [x0]
  refine s_aloadN X hx (hb hby d1_0) rfl rfl (q := 1) rfl ?_
  refine s_initO X hx hZ hown (W := 0) (hw _ (List.mem_of_getElem? (i := 6) rfl)) (hw _ (List.mem_of_getElem? (i := 7) rfl)) (hw _ (List.mem_of_getElem? (i := 8) rfl)) eT (by rw [hml]; rfl) (by decide) (Nat.le_of_ble_eq_true rfl) (by decide) (hb hby d1_1) (q := 4) rfl ?_
  intro T X eT
  refine s_aloadN X hx (hb hby d1_4) rfl rfl (q := 5) rfl ?_
  refine s_new X hx hZ hown (hw _ (List.mem_of_getElem? (i := 9) rfl)) (hw _ (List.mem_of_getElem? (i := 10) rfl)) (hw _ (List.mem_of_getElem? (i := 11) rfl)) eT (by decide) (by decide) (hb hby d1_5) (q := 8) rfl ?_
  intro T h2 a1 X eT E ea E_a1' Df
  have ne_x0_a1 : x0 ≠ a1 := by rw [ea]; exact Nat.ne_of_lt E_x0.lt
  have E_x0 := E_x0.ext E
  have F_x0_kept := F_x0_kept.ext E
  have F_x0_capacity := F_x0_capacity.ext E
  have F_x0_random := F_x0_random.ext E
  have F_x0_passOver := F_x0_passOver.ext E
  have F_x0_offered := F_x0_offered.ext E
  have O_old := O_old.ext E
  have g_a1 : n0 ≤ a1 := by rw [ea]; exact sz
  have sk_a1 : h0.size ≤ a1 := by rw [ea]; exact K.1
  have K := K.ext E
  have sz : n0 ≤ h2.size := Nat.le_trans sz E.1
  have E_a1 := E_a1'
  have F_a1_modCount : Fld Z h2 a1 "java/util/AbstractList" "modCount" "I" (.int (0 : Int32)) := Df _ _ _ .int (Or.inl (hw _ (List.mem_of_getElem? (i := 29) rfl))) (by decide)
  have F_a1_elementData : Fld Z h2 a1 "java/util/ArrayList" "elementData" "[Ljava/lang/Object;" .null := Df _ _ _ (.array (.object "java/lang/Object")) (Or.inl (hw _ (List.mem_of_getElem? (i := 32) rfl))) (by decide)
  have F_a1_size : Fld Z h2 a1 "java/util/ArrayList" "size" "I" (.int (0 : Int32)) := Df _ _ _ .int (Or.inl (hw _ (List.mem_of_getElem? (i := 92) rfl))) (by decide)
  refine s_dup X hx (hb hby d1_8) rfl (q := 9) rfl ?_
  refine callI X hx hZ hown (W := 2) (argsL := []) (rest := [(.ref a1), (.ref x0)]) rfl (hw _ (List.mem_of_getElem? (i := 12) rfl)) (hw _ (List.mem_of_getElem? (i := 13) rfl)) (hw _ (List.mem_of_getElem? (i := 11) rfl)) (hw _ (List.mem_of_getElem? (i := 14) rfl)) (by decide) (rm3 l Z a0 hw [] a1 d0 h2 n0 sz F_a1_elementData F_a1_size F_a1_modCount E_a1 g_a1 S0 A0 O_old) eT (by decide) (by decide) (by decide) (by decide) (by rw [hml]; rfl) pd2 rfl rfl (Nat.le_of_ble_eq_true rfl) (hb hby d1_9) (q := 12) rfl ?_
  intro v T Lc hQ X
  obtain ⟨h3, eT⟩ : ∃ z, T.heap = z := ⟨_, rfl⟩
  rw [eT] at hQ
  obtain ⟨rfl, N', K', F_a1_elementData', F_a1_size', F_a1_modCount'⟩ := hQ
  have N := Fr.app N N'
  have E_x0 := E_x0.keep K'
  have F_x0_kept := F_x0_kept.keep K' (ninS ne_x0_a1 nin0)
  have F_x0_capacity := F_x0_capacity.keep K' (ninS ne_x0_a1 nin0)
  have F_x0_random := F_x0_random.keep K' (ninS ne_x0_a1 nin0)
  have F_x0_passOver := F_x0_passOver.keep K' (ninS ne_x0_a1 nin0)
  have F_x0_offered := F_x0_offered.keep K' (ninS ne_x0_a1 nin0)
  have O_old := O_old.keep K' (allS g_a1 all0)
  have E_a1 := E_a1.keep K'
  have sz : n0 ≤ h3.size := Nat.le_trans sz K'.1
  have K := K.trans K' (allS (Or.inr sk_a1) all0)
  have F_a1_elementData : Fld Z h3 a1 "java/util/ArrayList" "elementData" "[Ljava/lang/Object;" (.ref d0) := F_a1_elementData'
  have F_a1_size : Fld Z h3 a1 "java/util/ArrayList" "size" "I" (.int (0 : Int32)) := F_a1_size'
  have F_a1_modCount : Fld Z h3 a1 "java/util/AbstractList" "modCount" "I" (.int (0 : Int32)) := F_a1_modCount'
  refine s_putF X hx hZ hown (hw _ (List.mem_of_getElem? (i := 33) rfl)) eT F_x0_kept E_x0 (Or.inr ⟨(hw _ (List.mem_of_getElem? (i := 34) rfl)), rfl, hnm⟩) (hw _ (List.mem_of_getElem? (i := 1) rfl)) (ty := (.object "java/util/List")) (by decide) rfl rfl N g_x0 (hb hby d1_12) (q := 15) rfl ?_
  intro T h4 _ X N eT W F_x0_kept'
  have E_x0 := E_x0.wr W
  have F_x0_capacity := F_x0_capacity.other W (Or.inr (slot_ne (Or.inr (hw _ (List.mem_of_getElem? (i := 36) rfl))) (Or.inr (hw _ (List.mem_of_getElem? (i := 34) rfl))) (by decide) (t := .int) (t' := (.object "java/util/List")) (by decide) (by decide)))
  have F_x0_random := F_x0_random.other W (Or.inr (slot_ne (Or.inr (hw _ (List.mem_of_getElem? (i := 47) rfl))) (Or.inr (hw _ (List.mem_of_getElem? (i := 34) rfl))) (by decide) (t := (.object "com/example/cistern/cistern/SplitMix64")) (t' := (.object "java/util/List")) (by decide) (by decide)))
  have F_x0_passOver := F_x0_passOver.other W (Or.inr (slot_ne (Or.inl (hw _ (List.mem_of_getElem? (i := 50) rfl))) (Or.inr (hw _ (List.mem_of_getElem? (i := 34) rfl))) (by decide) (t := .long) (t' := (.object "java/util/List")) (by decide) (by decide)))
  have F_x0_offered := F_x0_offered.other W (Or.inr (slot_ne (Or.inl (hw _ (List.mem_of_getElem? (i := 62) rfl))) (Or.inr (hw _ (List.mem_of_getElem? (i := 34) rfl))) (by decide) (t := .long) (t' := (.object "java/util/List")) (by decide) (by decide)))
  have O_old := O_old.wr W g_x0
  have E_a1 := E_a1.wr W
  have F_a1_elementData := F_a1_elementData.other W (Or.inl (Ne.symm ne_x0_a1))
  have F_a1_size := F_a1_size.other W (Or.inl (Ne.symm ne_x0_a1))
  have F_a1_modCount := F_a1_modCount.other W (Or.inl (Ne.symm ne_x0_a1))
  have K := K.wr W (Or.inl (List.mem_of_getElem? (i := 0) rfl))
  have sz : n0 ≤ h4.size := by rw [W.size]; exact sz
  have F_x0_kept := F_x0_kept'
  refine s_iloadN X hx (hb hby d1_15) rfl (q := 16) rfl ?_
  refine f_if_ge X hx (hb hby d1_16) (q1 := 33) (by decide) (by decide) (q := 19) rfl (fun _ => ?_) (fun hq => absurd hq (by decide : ¬ (1 : Int32) < 0))
  refine s_aloadN X hx (hb hby d1_33) rfl rfl (q := 34) rfl ?_
  refine s_iloadN X hx (hb hby d1_34) rfl (q := 35) rfl ?_
  refine s_putF X hx hZ hown (hw _ (List.mem_of_getElem? (i := 35) rfl)) eT F_x0_capacity E_x0 (Or.inr ⟨(hw _ (List.mem_of_getElem? (i := 36) rfl)), rfl, hnm⟩) (hw _ (List.mem_of_getElem? (i := 1) rfl)) (ty := .int) (by decide) rfl rfl N g_x0 (hb hby d1_35) (q := 38) rfl ?_
  intro T h5 _ X N eT W F_x0_capacity'
  have E_x0 := E_x0.wr W
  have F_x0_kept := F_x0_kept.other W (Or.inr (slot_ne (Or.inr (hw _ (List.mem_of_getElem? (i := 34) rfl))) (Or.inr (hw _ (List.mem_of_getElem? (i := 36) rfl))) (by decide) (t := (.object "java/util/List")) (t' := .int) (by decide) (by decide)))
  have F_x0_random := F_x0_random.other W (Or.inr (slot_ne (Or.inr (hw _ (List.mem_of_getElem? (i := 47) rfl))) (Or.inr (hw _ (List.mem_of_getElem? (i := 36) rfl))) (by decide) (t := (.object "com/example/cistern/cistern/SplitMix64")) (t' := .int) (by decide) (by decide)))
  have F_x0_passOver := F_x0_passOver.other W (Or.inr (slot_ne (Or.inl (hw _ (List.mem_of_getElem? (i := 50) rfl))) (Or.inr (hw _ (List.mem_of_getElem? (i := 36) rfl))) (by decide) (t := .long) (t' := .int) (by decide) (by decide)))
  have F_x0_offered := F_x0_offered.other W (Or.inr (slot_ne (Or.inl (hw _ (List.mem_of_getElem? (i := 62) rfl))) (Or.inr (hw _ (List.mem_of_getElem? (i := 36) rfl))) (by decide) (t := .long) (t' := .int) (by decide) (by decide)))
  have O_old := O_old.wr W g_x0
  have E_a1 := E_a1.wr W
  have F_a1_elementData := F_a1_elementData.other W (Or.inl (Ne.symm ne_x0_a1))
  have F_a1_size := F_a1_size.other W (Or.inl (Ne.symm ne_x0_a1))
  have F_a1_modCount := F_a1_modCount.other W (Or.inl (Ne.symm ne_x0_a1))
  have K := K.wr W (Or.inl (List.mem_of_getElem? (i := 0) rfl))
  have sz : n0 ≤ h5.size := by rw [W.size]; exact sz
  have F_x0_capacity := F_x0_capacity'
  refine s_aloadN X hx (hb hby d1_38) rfl rfl (q := 39) rfl ?_
  refine s_new X hx hZ hown (hw _ (List.mem_of_getElem? (i := 37) rfl)) (hw _ (List.mem_of_getElem? (i := 38) rfl)) (hw _ (List.mem_of_getElem? (i := 39) rfl)) eT (by decide) (by decide) (hb hby d1_39) (q := 42) rfl ?_
  intro T h7 a6 X eT E ea E_a6' Df
  have ne_x0_a6 : x0 ≠ a6 := by rw [ea]; exact Nat.ne_of_lt E_x0.lt
  have ne_a1_a6 : a1 ≠ a6 := by rw [ea]; exact Nat.ne_of_lt E_a1.lt
  have E_x0 := E_x0.ext E
  have F_x0_kept := F_x0_kept.ext E
  have F_x0_capacity := F_x0_capacity.ext E
  have F_x0_random := F_x0_random.ext E
  have F_x0_passOver := F_x0_passOver.ext E
  have F_x0_offered := F_x0_offered.ext E
  have O_old := O_old.ext E
  have E_a1 := E_a1.ext E
  have F_a1_elementData := F_a1_elementData.ext E
  have F_a1_size := F_a1_size.ext E
  have F_a1_modCount := F_a1_modCount.ext E
  have g_a6 : n0 ≤ a6 := by rw [ea]; exact sz
  have sk_a6 : h0.size ≤ a6 := by rw [ea]; exact K.1
  have K := K.ext E
  have sz : n0 ≤ h7.size := Nat.le_trans sz E.1
  have E_a6 := E_a6'
  have F_a6_state : Fld Z h7 a6 "com/example/cistern/cistern/SplitMix64" "state" "J" (.long (0 : Int64)) := Df _ _ _ .long (Or.inl (hw _ (List.mem_of_getElem? (i := 45) rfl))) (by decide)
  refine s_dup X hx (hb hby d1_42) rfl (q := 43) rfl ?_
  refine s_lloadN X hx (hb hby d1_43) rfl (q := 44) rfl ?_
  refine callI X hx hZ hown (W := 2) (argsL := [(.long x2)]) (rest := [(.ref a6), (.ref x0)]) rfl (hw _ (List.mem_of_getElem? (i := 40) rfl)) (hw _ (List.mem_of_getElem? (i := 41) rfl)) (hw _ (List.mem_of_getElem? (i := 39) rfl)) (hw _ (List.mem_of_getElem? (i := 42) rfl)) (by decide) (rm6 l Z a0 hw [] a6 x2 (0 : Int64) h7 n0 sz F_a6_state E_a6 g_a6) eT (by decide) (by decide) (by decide) (by decide) (by rw [hml]; rfl) pd3 rfl rfl (Nat.le_of_ble_eq_true rfl) (hb hby d1_44) (q := 47) rfl ?_
  intro v T Lc hQ X
  obtain ⟨h8, eT⟩ : ∃ z, T.heap = z := ⟨_, rfl⟩
  try rw [eT] at hQ
  obtain ⟨rfl, N', K', E_a6', F_a6_state'⟩ := hQ
  have N := Fr.app N N'
  have E_x0 := E_x0.keep K'
  have F_x0_kept := F_x0_kept.keep K' (ninS ne_x0_a6 nin0)
  have F_x0_capacity := F_x0_capacity.keep K' (ninS ne_x0_a6 nin0)
  have F_x0_random := F_x0_random.keep K' (ninS ne_x0_a6 nin0)
  have F_x0_passOver := F_x0_passOver.keep K' (ninS ne_x0_a6 nin0)
  have F_x0_offered := F_x0_offered.keep K' (ninS ne_x0_a6 nin0)
  have O_old := O_old.keep K' (allS g_a6 all0)
  have E_a1 := E_a1.keep K'
  have F_a1_elementData := F_a1_elementData.keep K' (ninS ne_a1_a6 nin0)
  have F_a1_size := F_a1_size.keep K' (ninS ne_a1_a6 nin0)
  have F_a1_modCount := F_a1_modCount.keep K' (ninS ne_a1_a6 nin0)
  have E_a6 := E_a6.keep K'
  have sz : n0 ≤ h8.size := Nat.le_trans sz K'.1
  have K := K.trans K' (allS (Or.inr sk_a6) all0)
  have F_a6_state := F_a6_state'
  refine s_putF X hx hZ hown (hw _ (List.mem_of_getElem? (i := 46) rfl)) eT F_x0_random E_x0 (Or.inr ⟨(hw _ (List.mem_of_getElem? (i := 47) rfl)), rfl, hnm⟩) (hw _ (List.mem_of_getElem? (i := 1) rfl)) (ty := (.object "com/example/cistern/cistern/SplitMix64")) (by decide) rfl rfl N g_x0 (hb hby d1_47) (q := 50) rfl ?_
  intro T h9 _ X N eT W F_x0_random'
  have E_x0 := E_x0.wr W
  have F_x0_kept := F_x0_kept.other W (Or.inr (slot_ne (Or.inr (hw _ (List.mem_of_getElem? (i := 34) rfl))) (Or.inr (hw _ (List.mem_of_getElem? (i := 47) rfl))) (by decide) (t := (.object "java/util/List")) (t' := (.object "com/example/cistern/cistern/SplitMix64")) (by decide) (by decide)))
  have F_x0_capacity := F_x0_capacity.other W (Or.inr (slot_ne (Or.inr (hw _ (List.mem_of_getElem? (i := 36) rfl))) (Or.inr (hw _ (List.mem_of_getElem? (i := 47) rfl))) (by decide) (t := .int) (t' := (.object "com/example/cistern/cistern/SplitMix64")) (by decide) (by decide)))
  have F_x0_passOver := F_x0_passOver.other W (Or.inr (slot_ne (Or.inl (hw _ (List.mem_of_getElem? (i := 50) rfl))) (Or.inr (hw _ (List.mem_of_getElem? (i := 47) rfl))) (by decide) (t := .long) (t' := (.object "com/example/cistern/cistern/SplitMix64")) (by decide) (by decide)))
  have F_x0_offered := F_x0_offered.other W (Or.inr (slot_ne (Or.inl (hw _ (List.mem_of_getElem? (i := 62) rfl))) (Or.inr (hw _ (List.mem_of_getElem? (i := 47) rfl))) (by decide) (t := .long) (t' := (.object "com/example/cistern/cistern/SplitMix64")) (by decide) (by decide)))
  have O_old := O_old.wr W g_x0
  have E_a1 := E_a1.wr W
  have F_a1_elementData := F_a1_elementData.other W (Or.inl (Ne.symm ne_x0_a1))
  have F_a1_size := F_a1_size.other W (Or.inl (Ne.symm ne_x0_a1))
  have F_a1_modCount := F_a1_modCount.other W (Or.inl (Ne.symm ne_x0_a1))
  have E_a6 := E_a6.wr W
  have F_a6_state := F_a6_state.other W (Or.inl (Ne.symm ne_x0_a6))
  have K := K.wr W (Or.inl (List.mem_of_getElem? (i := 0) rfl))
  have sz : n0 ≤ h9.size := by rw [W.size]; exact sz
  have F_x0_random := F_x0_random'
  refine s_aloadN X hx (hb hby d1_50) rfl rfl (q := 51) rfl ?_
  refine s_iloadN X hx (hb hby d1_51) rfl (q := 52) rfl ?_
  refine f_if_ne X hx (hb hby d1_52) (q1 := 61) (by decide) (by decide) (q := 55) rfl (fun _ => ?_) (fun hq => absurd hq (by decide : ¬ (1 : Int32) = 0))
  refine s_lconst X hx (z := (0 : Int64)) (hb hby d1_61) rfl (q := 62) rfl ?_
  refine s_putF X hx hZ hown (hw _ (List.mem_of_getElem? (i := 49) rfl)) eT F_x0_passOver E_x0 (Or.inl (hw _ (List.mem_of_getElem? (i := 50) rfl))) (hw _ (List.mem_of_getElem? (i := 1) rfl)) (ty := .long) (by decide) rfl rfl N g_x0 (hb hby d1_62) (q := 65) rfl ?_
  intro T h10 _ X N eT W F_x0_passOver'
  have E_x0 := E_x0.wr W
  have F_x0_kept := F_x0_kept.other W (Or.inr (slot_ne (Or.inr (hw _ (List.mem_of_getElem? (i := 34) rfl))) (Or.inl (hw _ (List.mem_of_getElem? (i := 50) rfl))) (by decide) (t := (.object "java/util/List")) (t' := .long) (by decide) (by decide)))
  have F_x0_capacity := F_x0_capacity.other W (Or.inr (slot_ne (Or.inr (hw _ (List.mem_of_getElem? (i := 36) rfl))) (Or.inl (hw _ (List.mem_of_getElem? (i := 50) rfl))) (by decide) (t := .int) (t' := .long) (by decide) (by decide)))
  have F_x0_random := F_x0_random.other W (Or.inr (slot_ne (Or.inr (hw _ (List.mem_of_getElem? (i := 47) rfl))) (Or.inl (hw _ (List.mem_of_getElem? (i := 50) rfl))) (by decide) (t := (.object "com/example/cistern/cistern/SplitMix64")) (t' := .long) (by decide) (by decide)))
  have F_x0_offered := F_x0_offered.other W (Or.inr (slot_ne (Or.inl (hw _ (List.mem_of_getElem? (i := 62) rfl))) (Or.inl (hw _ (List.mem_of_getElem? (i := 50) rfl))) (by decide) (t := .long) (t' := .long) (by decide) (by decide)))
  have O_old := O_old.wr W g_x0
  have E_a1 := E_a1.wr W
  have F_a1_elementData := F_a1_elementData.other W (Or.inl (Ne.symm ne_x0_a1))
  have F_a1_size := F_a1_size.other W (Or.inl (Ne.symm ne_x0_a1))
  have F_a1_modCount := F_a1_modCount.other W (Or.inl (Ne.symm ne_x0_a1))
  have E_a6 := E_a6.wr W
  have F_a6_state := F_a6_state.other W (Or.inl (Ne.symm ne_x0_a6))
  have K := K.wr W (Or.inl (List.mem_of_getElem? (i := 0) rfl))
  have sz : n0 ≤ h10.size := by rw [W.size]; exact sz
  have F_x0_passOver := F_x0_passOver'
  exact leafV X hx hlk hret (hb hby d1_65) (by decide) (by decide) (by rw [eT]; exact ⟨a1, a6, rfl, N, K, F_x0_kept, F_x0_capacity, F_x0_random, F_x0_passOver, F_x0_offered, F_a1_elementData, F_a1_size, F_a1_modCount, E_a1, F_a6_state, E_a6, sk_a1, sk_a6⟩)
set_option maxRecDepth 65536 in
set_option maxHeartbeats 40000000 in
theorem rm1_2 (l : Launch) (Z : State) (a0 : Array Value) (hw : ∀ d ∈ tables_1, d.before a0 Z = true) (ws : List Jvm.Cond) (x0 : Addr) (x2 : Int64)  (d0 : Addr) (h0 : Heap) (n0 : Nat) (sz : n0 ≤ h0.size) (F_x0_kept : Fld Z h0 x0 "com/example/cistern/cistern/ReservoirSampler" "kept" "Ljava/util/List;" .null) (F_x0_capacity : Fld Z h0 x0 "com/example/cistern/cistern/ReservoirSampler" "capacity" "I" (.int (0 : Int32))) (F_x0_random : Fld Z h0 x0 "com/example/cistern/cistern/ReservoirSampler" "random" "Lcom/example/cistern/cistern/SplitMix64;" .null) (F_x0_passOver : Fld Z h0 x0 "com/example/cistern/cistern/ReservoirSampler" "passOver" "J" (.long (0 : Int64))) (F_x0_offered : Fld Z h0 x0 "com/example/cistern/cistern/ReservoirSampler" "offered" "J" (.long (0 : Int64))) (E_x0 : Exa Z h0 x0 "com/example/cistern/cistern/ReservoirSampler") (g_x0 : n0 ≤ x0) (S0 : Sta Z Z.heap "java/util/ArrayList" "DEFAULTCAPACITY_EMPTY_ELEMENTDATA" "[Ljava/lang/Object;" (.ref d0)) (A0 : AV Z Z.heap d0 (.object "java/lang/Object") []) (O_old : Old Z n0 h0) :
    Ctr l (⟨"com/example/cistern/cistern/ReservoirSampler", "<init>", "(IJ)V"⟩ : MethodName) prog_1_method_2_code 4 none ws ({ frames := 4, cells := 2, slots := 4, locals := 50 } : Room) Z #[(.ref x0), (.int (2 : Int32)), (.long x2)] h0 (fun v h L => ∃ kl : Addr, ∃ gr : Addr, v = none ∧ Fr n0 L ∧ Keep h0 h [x0] ∧ Fld Z h x0 "com/example/cistern/cistern/ReservoirSampler" "kept" "Ljava/util/List;" (.ref kl) ∧ Fld Z h x0 "com/example/cistern/cistern/ReservoirSampler" "capacity" "I" (.int (2 : Int32)) ∧ Fld Z h x0 "com/example/cistern/cistern/ReservoirSampler" "random" "Lcom/example/cistern/cistern/SplitMix64;" (.ref gr) ∧ Fld Z h x0 "com/example/cistern/cistern/ReservoirSampler" "passOver" "J" (.long (0 : Int64)) ∧ Fld Z h x0 "com/example/cistern/cistern/ReservoirSampler" "offered" "J" (.long (0 : Int64)) ∧ Fld Z h kl "java/util/ArrayList" "elementData" "[Ljava/lang/Object;" (.ref d0) ∧ Fld Z h kl "java/util/ArrayList" "size" "I" (.int (0 : Int32)) ∧ Fld Z h kl "java/util/AbstractList" "modCount" "I" (.int (0 : Int32)) ∧ Exa Z h kl "java/util/ArrayList" ∧ Fld Z h gr "com/example/cistern/cistern/SplitMix64" "state" "J" (.long x2) ∧ Exa Z h gr "com/example/cistern/cistern/SplitMix64" ∧ h0.size ≤ kl ∧ h0.size ≤ gr) 2 4 := by
  refine Ctr.mk pn_1 ?_
  intro p e s m below meth c T hx hby hml hown hnm hlk hret hZ X eT
  have N := Fr.nil n0
  refine enter (ef_1 m x0 (2 : Int32) x2) ?_
  have K := Keep.refl h0 [x0]
  refine s_aloadN X hx (hb hby d1_0) rfl rfl (q := 1) rfl ?_
  refine s_initO X hx hZ hown (W := 0) (hw _ (List.mem_of_getElem? (i := 6) rfl)) (hw _ (List.mem_of_getElem? (i := 7) rfl)) (hw _ (List.mem_of_getElem? (i := 8) rfl)) eT (by rw [hml]; rfl) (by decide) (Nat.le_of_ble_eq_true rfl) (by decide) (hb hby d1_1) (q := 4) rfl ?_
  intro T X eT
  refine s_aloadN X hx (hb hby d1_4) rfl rfl (q := 5) rfl ?_
  refine s_new X hx hZ hown (hw _ (List.mem_of_getElem? (i := 9) rfl)) (hw _ (List.mem_of_getElem? (i := 10) rfl)) (hw _ (List.mem_of_getElem? (i := 11) rfl)) eT (by decide) (by decide) (hb hby d1_5) (q := 8) rfl ?_
  intro T h2 a1 X eT E ea E_a1' Df
  have ne_x0_a1 : x0 ≠ a1 := by rw [ea]; exact Nat.ne_of_lt E_x0.lt
  have E_x0 := E_x0.ext E
  have F_x0_kept := F_x0_kept.ext E
  have F_x0_capacity := F_x0_capacity.ext E
  have F_x0_random := F_x0_random.ext E
  have F_x0_passOver := F_x0_passOver.ext E
  have F_x0_offered := F_x0_offered.ext E
  have O_old := O_old.ext E
  have g_a1 : n0 ≤ a1 := by rw [ea]; exact sz
  have sk_a1 : h0.size ≤ a1 := by rw [ea]; exact K.1
  have K := K.ext E
  have sz : n0 ≤ h2.size := Nat.le_trans sz E.1
  have E_a1 := E_a1'
  have F_a1_modCount : Fld Z h2 a1 "java/util/AbstractList" "modCount" "I" (.int (0 : Int32)) := Df _ _ _ .int (Or.inl (hw _ (List.mem_of_getElem? (i := 29) rfl))) (by decide)
  have F_a1_elementData : Fld Z h2 a1 "java/util/ArrayList" "elementData" "[Ljava/lang/Object;" .null := Df _ _ _ (.array (.object "java/lang/Object")) (Or.inl (hw _ (List.mem_of_getElem? (i := 32) rfl))) (by decide)
  have F_a1_size : Fld Z h2 a1 "java/util/ArrayList" "size" "I" (.int (0 : Int32)) := Df _ _ _ .int (Or.inl (hw _ (List.mem_of_getElem? (i := 92) rfl))) (by decide)
  refine s_dup X hx (hb hby d1_8) rfl (q := 9) rfl ?_
  refine callI X hx hZ hown (W := 2) (argsL := []) (rest := [(.ref a1), (.ref x0)]) rfl (hw _ (List.mem_of_getElem? (i := 12) rfl)) (hw _ (List.mem_of_getElem? (i := 13) rfl)) (hw _ (List.mem_of_getElem? (i := 11) rfl)) (hw _ (List.mem_of_getElem? (i := 14) rfl)) (by decide) (rm3 l Z a0 hw [] a1 d0 h2 n0 sz F_a1_elementData F_a1_size F_a1_modCount E_a1 g_a1 S0 A0 O_old) eT (by decide) (by decide) (by decide) (by decide) (by rw [hml]; rfl) pd2 rfl rfl (Nat.le_of_ble_eq_true rfl) (hb hby d1_9) (q := 12) rfl ?_
  intro v T Lc hQ X
  obtain ⟨h3, eT⟩ : ∃ z, T.heap = z := ⟨_, rfl⟩
  rw [eT] at hQ
  obtain ⟨rfl, N', K', F_a1_elementData', F_a1_size', F_a1_modCount'⟩ := hQ
  have N := Fr.app N N'
  have E_x0 := E_x0.keep K'
  have F_x0_kept := F_x0_kept.keep K' (ninS ne_x0_a1 nin0)
  have F_x0_capacity := F_x0_capacity.keep K' (ninS ne_x0_a1 nin0)
  have F_x0_random := F_x0_random.keep K' (ninS ne_x0_a1 nin0)
  have F_x0_passOver := F_x0_passOver.keep K' (ninS ne_x0_a1 nin0)
  have F_x0_offered := F_x0_offered.keep K' (ninS ne_x0_a1 nin0)
  have O_old := O_old.keep K' (allS g_a1 all0)
  have E_a1 := E_a1.keep K'
  have sz : n0 ≤ h3.size := Nat.le_trans sz K'.1
  have K := K.trans K' (allS (Or.inr sk_a1) all0)
  have F_a1_elementData : Fld Z h3 a1 "java/util/ArrayList" "elementData" "[Ljava/lang/Object;" (.ref d0) := F_a1_elementData'
  have F_a1_size : Fld Z h3 a1 "java/util/ArrayList" "size" "I" (.int (0 : Int32)) := F_a1_size'
  have F_a1_modCount : Fld Z h3 a1 "java/util/AbstractList" "modCount" "I" (.int (0 : Int32)) := F_a1_modCount'
  refine s_putF X hx hZ hown (hw _ (List.mem_of_getElem? (i := 33) rfl)) eT F_x0_kept E_x0 (Or.inr ⟨(hw _ (List.mem_of_getElem? (i := 34) rfl)), rfl, hnm⟩) (hw _ (List.mem_of_getElem? (i := 1) rfl)) (ty := (.object "java/util/List")) (by decide) rfl rfl N g_x0 (hb hby d1_12) (q := 15) rfl ?_
  intro T h4 _ X N eT W F_x0_kept'
  have E_x0 := E_x0.wr W
  have F_x0_capacity := F_x0_capacity.other W (Or.inr (slot_ne (Or.inr (hw _ (List.mem_of_getElem? (i := 36) rfl))) (Or.inr (hw _ (List.mem_of_getElem? (i := 34) rfl))) (by decide) (t := .int) (t' := (.object "java/util/List")) (by decide) (by decide)))
  have F_x0_random := F_x0_random.other W (Or.inr (slot_ne (Or.inr (hw _ (List.mem_of_getElem? (i := 47) rfl))) (Or.inr (hw _ (List.mem_of_getElem? (i := 34) rfl))) (by decide) (t := (.object "com/example/cistern/cistern/SplitMix64")) (t' := (.object "java/util/List")) (by decide) (by decide)))
  have F_x0_passOver := F_x0_passOver.other W (Or.inr (slot_ne (Or.inl (hw _ (List.mem_of_getElem? (i := 50) rfl))) (Or.inr (hw _ (List.mem_of_getElem? (i := 34) rfl))) (by decide) (t := .long) (t' := (.object "java/util/List")) (by decide) (by decide)))
  have F_x0_offered := F_x0_offered.other W (Or.inr (slot_ne (Or.inl (hw _ (List.mem_of_getElem? (i := 62) rfl))) (Or.inr (hw _ (List.mem_of_getElem? (i := 34) rfl))) (by decide) (t := .long) (t' := (.object "java/util/List")) (by decide) (by decide)))
  have O_old := O_old.wr W g_x0
  have E_a1 := E_a1.wr W
  have F_a1_elementData := F_a1_elementData.other W (Or.inl (Ne.symm ne_x0_a1))
  have F_a1_size := F_a1_size.other W (Or.inl (Ne.symm ne_x0_a1))
  have F_a1_modCount := F_a1_modCount.other W (Or.inl (Ne.symm ne_x0_a1))
  have K := K.wr W (Or.inl (List.mem_of_getElem? (i := 0) rfl))
  have sz : n0 ≤ h4.size := by rw [W.size]; exact sz
  have F_x0_kept := F_x0_kept'
  refine s_iloadN X hx (hb hby d1_15) rfl (q := 16) rfl ?_
  refine f_if_ge X hx (hb hby d1_16) (q1 := 33) (by decide) (by decide) (q := 19) rfl (fun _ => ?_) (fun hq => absurd hq (by decide : ¬ (2 : Int32) < 0))
  refine s_aloadN X hx (hb hby d1_33) rfl rfl (q := 34) rfl ?_
  refine s_iloadN X hx (hb hby d1_34) rfl (q := 35) rfl ?_
  refine s_putF X hx hZ hown (hw _ (List.mem_of_getElem? (i := 35) rfl)) eT F_x0_capacity E_x0 (Or.inr ⟨(hw _ (List.mem_of_getElem? (i := 36) rfl)), rfl, hnm⟩) (hw _ (List.mem_of_getElem? (i := 1) rfl)) (ty := .int) (by decide) rfl rfl N g_x0 (hb hby d1_35) (q := 38) rfl ?_
  intro T h5 _ X N eT W F_x0_capacity'
  have E_x0 := E_x0.wr W
  have F_x0_kept := F_x0_kept.other W (Or.inr (slot_ne (Or.inr (hw _ (List.mem_of_getElem? (i := 34) rfl))) (Or.inr (hw _ (List.mem_of_getElem? (i := 36) rfl))) (by decide) (t := (.object "java/util/List")) (t' := .int) (by decide) (by decide)))
  have F_x0_random := F_x0_random.other W (Or.inr (slot_ne (Or.inr (hw _ (List.mem_of_getElem? (i := 47) rfl))) (Or.inr (hw _ (List.mem_of_getElem? (i := 36) rfl))) (by decide) (t := (.object "com/example/cistern/cistern/SplitMix64")) (t' := .int) (by decide) (by decide)))
  have F_x0_passOver := F_x0_passOver.other W (Or.inr (slot_ne (Or.inl (hw _ (List.mem_of_getElem? (i := 50) rfl))) (Or.inr (hw _ (List.mem_of_getElem? (i := 36) rfl))) (by decide) (t := .long) (t' := .int) (by decide) (by decide)))
  have F_x0_offered := F_x0_offered.other W (Or.inr (slot_ne (Or.inl (hw _ (List.mem_of_getElem? (i := 62) rfl))) (Or.inr (hw _ (List.mem_of_getElem? (i := 36) rfl))) (by decide) (t := .long) (t' := .int) (by decide) (by decide)))
  have O_old := O_old.wr W g_x0
  have E_a1 := E_a1.wr W
  have F_a1_elementData := F_a1_elementData.other W (Or.inl (Ne.symm ne_x0_a1))
  have F_a1_size := F_a1_size.other W (Or.inl (Ne.symm ne_x0_a1))
  have F_a1_modCount := F_a1_modCount.other W (Or.inl (Ne.symm ne_x0_a1))
  have K := K.wr W (Or.inl (List.mem_of_getElem? (i := 0) rfl))
  have sz : n0 ≤ h5.size := by rw [W.size]; exact sz
  have F_x0_capacity := F_x0_capacity'
  refine s_aloadN X hx (hb hby d1_38) rfl rfl (q := 39) rfl ?_
  refine s_new X hx hZ hown (hw _ (List.mem_of_getElem? (i := 37) rfl)) (hw _ (List.mem_of_getElem? (i := 38) rfl)) (hw _ (List.mem_of_getElem? (i := 39) rfl)) eT (by decide) (by decide) (hb hby d1_39) (q := 42) rfl ?_
  intro T h7 a6 X eT E ea E_a6' Df
  have ne_x0_a6 : x0 ≠ a6 := by rw [ea]; exact Nat.ne_of_lt E_x0.lt
  have ne_a1_a6 : a1 ≠ a6 := by rw [ea]; exact Nat.ne_of_lt E_a1.lt
  have E_x0 := E_x0.ext E
  have F_x0_kept := F_x0_kept.ext E
  have F_x0_capacity := F_x0_capacity.ext E
  have F_x0_random := F_x0_random.ext E
  have F_x0_passOver := F_x0_passOver.ext E
  have F_x0_offered := F_x0_offered.ext E
  have O_old := O_old.ext E
  have E_a1 := E_a1.ext E
  have F_a1_elementData := F_a1_elementData.ext E
  have F_a1_size := F_a1_size.ext E
  have F_a1_modCount := F_a1_modCount.ext E
  have g_a6 : n0 ≤ a6 := by rw [ea]; exact sz
  have sk_a6 : h0.size ≤ a6 := by rw [ea]; exact K.1
  have K := K.ext E
  have sz : n0 ≤ h7.size := Nat.le_trans sz E.1
  have E_a6 := E_a6'
  have F_a6_state : Fld Z h7 a6 "com/example/cistern/cistern/SplitMix64" "state" "J" (.long (0 : Int64)) := Df _ _ _ .long (Or.inl (hw _ (List.mem_of_getElem? (i := 45) rfl))) (by decide)
  refine s_dup X hx (hb hby d1_42) rfl (q := 43) rfl ?_
  refine s_lloadN X hx (hb hby d1_43) rfl (q := 44) rfl ?_
  refine callI X hx hZ hown (W := 2) (argsL := [(.long x2)]) (rest := [(.ref a6), (.ref x0)]) rfl (hw _ (List.mem_of_getElem? (i := 40) rfl)) (hw _ (List.mem_of_getElem? (i := 41) rfl)) (hw _ (List.mem_of_getElem? (i := 39) rfl)) (hw _ (List.mem_of_getElem? (i := 42) rfl)) (by decide) (rm6 l Z a0 hw [] a6 x2 (0 : Int64) h7 n0 sz F_a6_state E_a6 g_a6) eT (by decide) (by decide) (by decide) (by decide) (by rw [hml]; rfl) pd3 rfl rfl (Nat.le_of_ble_eq_true rfl) (hb hby d1_44) (q := 47) rfl ?_
  intro v T Lc hQ X
  obtain ⟨h8, eT⟩ : ∃ z, T.heap = z := ⟨_, rfl⟩
  try rw [eT] at hQ
  obtain ⟨rfl, N', K', E_a6', F_a6_state'⟩ := hQ
  have N := Fr.app N N'
  have E_x0 := E_x0.keep K'
  have F_x0_kept := F_x0_kept.keep K' (ninS ne_x0_a6 nin0)
  have F_x0_capacity := F_x0_capacity.keep K' (ninS ne_x0_a6 nin0)
  have F_x0_random := F_x0_random.keep K' (ninS ne_x0_a6 nin0)
  have F_x0_passOver := F_x0_passOver.keep K' (ninS ne_x0_a6 nin0)
  have F_x0_offered := F_x0_offered.keep K' (ninS ne_x0_a6 nin0)
  have O_old := O_old.keep K' (allS g_a6 all0)
  have E_a1 := E_a1.keep K'
  have F_a1_elementData := F_a1_elementData.keep K' (ninS ne_a1_a6 nin0)
  have F_a1_size := F_a1_size.keep K' (ninS ne_a1_a6 nin0)
  have F_a1_modCount := F_a1_modCount.keep K' (ninS ne_a1_a6 nin0)
  have E_a6 := E_a6.keep K'
  have sz : n0 ≤ h8.size := Nat.le_trans sz K'.1
  have K := K.trans K' (allS (Or.inr sk_a6) all0)
  have F_a6_state := F_a6_state'
  refine s_putF X hx hZ hown (hw _ (List.mem_of_getElem? (i := 46) rfl)) eT F_x0_random E_x0 (Or.inr ⟨(hw _ (List.mem_of_getElem? (i := 47) rfl)), rfl, hnm⟩) (hw _ (List.mem_of_getElem? (i := 1) rfl)) (ty := (.object "com/example/cistern/cistern/SplitMix64")) (by decide) rfl rfl N g_x0 (hb hby d1_47) (q := 50) rfl ?_
  intro T h9 _ X N eT W F_x0_random'
  have E_x0 := E_x0.wr W
  have F_x0_kept := F_x0_kept.other W (Or.inr (slot_ne (Or.inr (hw _ (List.mem_of_getElem? (i := 34) rfl))) (Or.inr (hw _ (List.mem_of_getElem? (i := 47) rfl))) (by decide) (t := (.object "java/util/List")) (t' := (.object "com/example/cistern/cistern/SplitMix64")) (by decide) (by decide)))
  have F_x0_capacity := F_x0_capacity.other W (Or.inr (slot_ne (Or.inr (hw _ (List.mem_of_getElem? (i := 36) rfl))) (Or.inr (hw _ (List.mem_of_getElem? (i := 47) rfl))) (by decide) (t := .int) (t' := (.object "com/example/cistern/cistern/SplitMix64")) (by decide) (by decide)))
  have F_x0_passOver := F_x0_passOver.other W (Or.inr (slot_ne (Or.inl (hw _ (List.mem_of_getElem? (i := 50) rfl))) (Or.inr (hw _ (List.mem_of_getElem? (i := 47) rfl))) (by decide) (t := .long) (t' := (.object "com/example/cistern/cistern/SplitMix64")) (by decide) (by decide)))
  have F_x0_offered := F_x0_offered.other W (Or.inr (slot_ne (Or.inl (hw _ (List.mem_of_getElem? (i := 62) rfl))) (Or.inr (hw _ (List.mem_of_getElem? (i := 47) rfl))) (by decide) (t := .long) (t' := (.object "com/example/cistern/cistern/SplitMix64")) (by decide) (by decide)))
  have O_old := O_old.wr W g_x0
  have E_a1 := E_a1.wr W
  have F_a1_elementData := F_a1_elementData.other W (Or.inl (Ne.symm ne_x0_a1))
  have F_a1_size := F_a1_size.other W (Or.inl (Ne.symm ne_x0_a1))
  have F_a1_modCount := F_a1_modCount.other W (Or.inl (Ne.symm ne_x0_a1))
  have E_a6 := E_a6.wr W
  have F_a6_state := F_a6_state.other W (Or.inl (Ne.symm ne_x0_a6))
  have K := K.wr W (Or.inl (List.mem_of_getElem? (i := 0) rfl))
  have sz : n0 ≤ h9.size := by rw [W.size]; exact sz
  have F_x0_random := F_x0_random'
  refine s_aloadN X hx (hb hby d1_50) rfl rfl (q := 51) rfl ?_
  refine s_iloadN X hx (hb hby d1_51) rfl (q := 52) rfl ?_
  refine f_if_ne X hx (hb hby d1_52) (q1 := 61) (by decide) (by decide) (q := 55) rfl (fun _ => ?_) (fun hq => absurd hq (by decide : ¬ (2 : Int32) = 0))
  refine s_lconst X hx (z := (0 : Int64)) (hb hby d1_61) rfl (q := 62) rfl ?_
  refine s_putF X hx hZ hown (hw _ (List.mem_of_getElem? (i := 49) rfl)) eT F_x0_passOver E_x0 (Or.inl (hw _ (List.mem_of_getElem? (i := 50) rfl))) (hw _ (List.mem_of_getElem? (i := 1) rfl)) (ty := .long) (by decide) rfl rfl N g_x0 (hb hby d1_62) (q := 65) rfl ?_
  intro T h10 _ X N eT W F_x0_passOver'
  have E_x0 := E_x0.wr W
  have F_x0_kept := F_x0_kept.other W (Or.inr (slot_ne (Or.inr (hw _ (List.mem_of_getElem? (i := 34) rfl))) (Or.inl (hw _ (List.mem_of_getElem? (i := 50) rfl))) (by decide) (t := (.object "java/util/List")) (t' := .long) (by decide) (by decide)))
  have F_x0_capacity := F_x0_capacity.other W (Or.inr (slot_ne (Or.inr (hw _ (List.mem_of_getElem? (i := 36) rfl))) (Or.inl (hw _ (List.mem_of_getElem? (i := 50) rfl))) (by decide) (t := .int) (t' := .long) (by decide) (by decide)))
  have F_x0_random := F_x0_random.other W (Or.inr (slot_ne (Or.inr (hw _ (List.mem_of_getElem? (i := 47) rfl))) (Or.inl (hw _ (List.mem_of_getElem? (i := 50) rfl))) (by decide) (t := (.object "com/example/cistern/cistern/SplitMix64")) (t' := .long) (by decide) (by decide)))
  have F_x0_offered := F_x0_offered.other W (Or.inr (slot_ne (Or.inl (hw _ (List.mem_of_getElem? (i := 62) rfl))) (Or.inl (hw _ (List.mem_of_getElem? (i := 50) rfl))) (by decide) (t := .long) (t' := .long) (by decide) (by decide)))
  have O_old := O_old.wr W g_x0
  have E_a1 := E_a1.wr W
  have F_a1_elementData := F_a1_elementData.other W (Or.inl (Ne.symm ne_x0_a1))
  have F_a1_size := F_a1_size.other W (Or.inl (Ne.symm ne_x0_a1))
  have F_a1_modCount := F_a1_modCount.other W (Or.inl (Ne.symm ne_x0_a1))
  have E_a6 := E_a6.wr W
  have F_a6_state := F_a6_state.other W (Or.inl (Ne.symm ne_x0_a6))
  have K := K.wr W (Or.inl (List.mem_of_getElem? (i := 0) rfl))
  have sz : n0 ≤ h10.size := by rw [W.size]; exact sz
  have F_x0_passOver := F_x0_passOver'
  exact leafV X hx hlk hret (hb hby d1_65) (by decide) (by decide) (by rw [eT]; exact ⟨a1, a6, rfl, N, K, F_x0_kept, F_x0_capacity, F_x0_random, F_x0_passOver, F_x0_offered, F_a1_elementData, F_a1_size, F_a1_modCount, E_a1, F_a6_state, E_a6, sk_a1, sk_a6⟩)
set_option maxRecDepth 65536 in
set_option maxHeartbeats 40000000 in
theorem rm1_3 (l : Launch) (Z : State) (a0 : Array Value) (hw : ∀ d ∈ tables_1, d.before a0 Z = true) (ws : List Jvm.Cond) (x0 : Addr) (x2 : Int64)  (d0 : Addr) (h0 : Heap) (n0 : Nat) (sz : n0 ≤ h0.size) (F_x0_kept : Fld Z h0 x0 "com/example/cistern/cistern/ReservoirSampler" "kept" "Ljava/util/List;" .null) (F_x0_capacity : Fld Z h0 x0 "com/example/cistern/cistern/ReservoirSampler" "capacity" "I" (.int (0 : Int32))) (F_x0_random : Fld Z h0 x0 "com/example/cistern/cistern/ReservoirSampler" "random" "Lcom/example/cistern/cistern/SplitMix64;" .null) (F_x0_passOver : Fld Z h0 x0 "com/example/cistern/cistern/ReservoirSampler" "passOver" "J" (.long (0 : Int64))) (F_x0_offered : Fld Z h0 x0 "com/example/cistern/cistern/ReservoirSampler" "offered" "J" (.long (0 : Int64))) (E_x0 : Exa Z h0 x0 "com/example/cistern/cistern/ReservoirSampler") (g_x0 : n0 ≤ x0) (S0 : Sta Z Z.heap "java/util/ArrayList" "DEFAULTCAPACITY_EMPTY_ELEMENTDATA" "[Ljava/lang/Object;" (.ref d0)) (A0 : AV Z Z.heap d0 (.object "java/lang/Object") []) (O_old : Old Z n0 h0) :
    Ctr l (⟨"com/example/cistern/cistern/ReservoirSampler", "<init>", "(IJ)V"⟩ : MethodName) prog_1_method_2_code 4 none ws ({ frames := 4, cells := 2, slots := 4, locals := 50 } : Room) Z #[(.ref x0), (.int (3 : Int32)), (.long x2)] h0 (fun v h L => ∃ kl : Addr, ∃ gr : Addr, v = none ∧ Fr n0 L ∧ Keep h0 h [x0] ∧ Fld Z h x0 "com/example/cistern/cistern/ReservoirSampler" "kept" "Ljava/util/List;" (.ref kl) ∧ Fld Z h x0 "com/example/cistern/cistern/ReservoirSampler" "capacity" "I" (.int (3 : Int32)) ∧ Fld Z h x0 "com/example/cistern/cistern/ReservoirSampler" "random" "Lcom/example/cistern/cistern/SplitMix64;" (.ref gr) ∧ Fld Z h x0 "com/example/cistern/cistern/ReservoirSampler" "passOver" "J" (.long (0 : Int64)) ∧ Fld Z h x0 "com/example/cistern/cistern/ReservoirSampler" "offered" "J" (.long (0 : Int64)) ∧ Fld Z h kl "java/util/ArrayList" "elementData" "[Ljava/lang/Object;" (.ref d0) ∧ Fld Z h kl "java/util/ArrayList" "size" "I" (.int (0 : Int32)) ∧ Fld Z h kl "java/util/AbstractList" "modCount" "I" (.int (0 : Int32)) ∧ Exa Z h kl "java/util/ArrayList" ∧ Fld Z h gr "com/example/cistern/cistern/SplitMix64" "state" "J" (.long x2) ∧ Exa Z h gr "com/example/cistern/cistern/SplitMix64" ∧ h0.size ≤ kl ∧ h0.size ≤ gr) 2 4 := by
  refine Ctr.mk pn_1 ?_
  intro p e s m below meth c T hx hby hml hown hnm hlk hret hZ X eT
  have N := Fr.nil n0
  refine enter (ef_1 m x0 (3 : Int32) x2) ?_
  have K := Keep.refl h0 [x0]
  refine s_aloadN X hx (hb hby d1_0) rfl rfl (q := 1) rfl ?_
  refine s_initO X hx hZ hown (W := 0) (hw _ (List.mem_of_getElem? (i := 6) rfl)) (hw _ (List.mem_of_getElem? (i := 7) rfl)) (hw _ (List.mem_of_getElem? (i := 8) rfl)) eT (by rw [hml]; rfl) (by decide) (Nat.le_of_ble_eq_true rfl) (by decide) (hb hby d1_1) (q := 4) rfl ?_
  intro T X eT
  refine s_aloadN X hx (hb hby d1_4) rfl rfl (q := 5) rfl ?_
  refine s_new X hx hZ hown (hw _ (List.mem_of_getElem? (i := 9) rfl)) (hw _ (List.mem_of_getElem? (i := 10) rfl)) (hw _ (List.mem_of_getElem? (i := 11) rfl)) eT (by decide) (by decide) (hb hby d1_5) (q := 8) rfl ?_
  intro T h2 a1 X eT E ea E_a1' Df
  have ne_x0_a1 : x0 ≠ a1 := by rw [ea]; exact Nat.ne_of_lt E_x0.lt
  have E_x0 := E_x0.ext E
  have F_x0_kept := F_x0_kept.ext E
  have F_x0_capacity := F_x0_capacity.ext E
  have F_x0_random := F_x0_random.ext E
  have F_x0_passOver := F_x0_passOver.ext E
  have F_x0_offered := F_x0_offered.ext E
  have O_old := O_old.ext E
  have g_a1 : n0 ≤ a1 := by rw [ea]; exact sz
  have sk_a1 : h0.size ≤ a1 := by rw [ea]; exact K.1
  have K := K.ext E
  have sz : n0 ≤ h2.size := Nat.le_trans sz E.1
  have E_a1 := E_a1'
  have F_a1_modCount : Fld Z h2 a1 "java/util/AbstractList" "modCount" "I" (.int (0 : Int32)) := Df _ _ _ .int (Or.inl (hw _ (List.mem_of_getElem? (i := 29) rfl))) (by decide)
  have F_a1_elementData : Fld Z h2 a1 "java/util/ArrayList" "elementData" "[Ljava/lang/Object;" .null := Df _ _ _ (.array (.object "java/lang/Object")) (Or.inl (hw _ (List.mem_of_getElem? (i := 32) rfl))) (by decide)
  have F_a1_size : Fld Z h2 a1 "java/util/ArrayList" "size" "I" (.int (0 : Int32)) := Df _ _ _ .int (Or.inl (hw _ (List.mem_of_getElem? (i := 92) rfl))) (by decide)
  refine s_dup X hx (hb hby d1_8) rfl (q := 9) rfl ?_
  refine callI X hx hZ hown (W := 2) (argsL := []) (rest := [(.ref a1), (.ref x0)]) rfl (hw _ (List.mem_of_getElem? (i := 12) rfl)) (hw _ (List.mem_of_getElem? (i := 13) rfl)) (hw _ (List.mem_of_getElem? (i := 11) rfl)) (hw _ (List.mem_of_getElem? (i := 14) rfl)) (by decide) (rm3 l Z a0 hw [] a1 d0 h2 n0 sz F_a1_elementData F_a1_size F_a1_modCount E_a1 g_a1 S0 A0 O_old) eT (by decide) (by decide) (by decide) (by decide) (by rw [hml]; rfl) pd2 rfl rfl (Nat.le_of_ble_eq_true rfl) (hb hby d1_9) (q := 12) rfl ?_
  intro v T Lc hQ X
  obtain ⟨h3, eT⟩ : ∃ z, T.heap = z := ⟨_, rfl⟩
  rw [eT] at hQ
  obtain ⟨rfl, N', K', F_a1_elementData', F_a1_size', F_a1_modCount'⟩ := hQ
  have N := Fr.app N N'
  have E_x0 := E_x0.keep K'
  have F_x0_kept := F_x0_kept.keep K' (ninS ne_x0_a1 nin0)
  have F_x0_capacity := F_x0_capacity.keep K' (ninS ne_x0_a1 nin0)
  have F_x0_random := F_x0_random.keep K' (ninS ne_x0_a1 nin0)
  have F_x0_passOver := F_x0_passOver.keep K' (ninS ne_x0_a1 nin0)
  have F_x0_offered := F_x0_offered.keep K' (ninS ne_x0_a1 nin0)
  have O_old := O_old.keep K' (allS g_a1 all0)
  have E_a1 := E_a1.keep K'
  have sz : n0 ≤ h3.size := Nat.le_trans sz K'.1
  have K := K.trans K' (allS (Or.inr sk_a1) all0)
  have F_a1_elementData : Fld Z h3 a1 "java/util/ArrayList" "elementData" "[Ljava/lang/Object;" (.ref d0) := F_a1_elementData'
  have F_a1_size : Fld Z h3 a1 "java/util/ArrayList" "size" "I" (.int (0 : Int32)) := F_a1_size'
  have F_a1_modCount : Fld Z h3 a1 "java/util/AbstractList" "modCount" "I" (.int (0 : Int32)) := F_a1_modCount'
  refine s_putF X hx hZ hown (hw _ (List.mem_of_getElem? (i := 33) rfl)) eT F_x0_kept E_x0 (Or.inr ⟨(hw _ (List.mem_of_getElem? (i := 34) rfl)), rfl, hnm⟩) (hw _ (List.mem_of_getElem? (i := 1) rfl)) (ty := (.object "java/util/List")) (by decide) rfl rfl N g_x0 (hb hby d1_12) (q := 15) rfl ?_
  intro T h4 _ X N eT W F_x0_kept'
  have E_x0 := E_x0.wr W
  have F_x0_capacity := F_x0_capacity.other W (Or.inr (slot_ne (Or.inr (hw _ (List.mem_of_getElem? (i := 36) rfl))) (Or.inr (hw _ (List.mem_of_getElem? (i := 34) rfl))) (by decide) (t := .int) (t' := (.object "java/util/List")) (by decide) (by decide)))
  have F_x0_random := F_x0_random.other W (Or.inr (slot_ne (Or.inr (hw _ (List.mem_of_getElem? (i := 47) rfl))) (Or.inr (hw _ (List.mem_of_getElem? (i := 34) rfl))) (by decide) (t := (.object "com/example/cistern/cistern/SplitMix64")) (t' := (.object "java/util/List")) (by decide) (by decide)))
  have F_x0_passOver := F_x0_passOver.other W (Or.inr (slot_ne (Or.inl (hw _ (List.mem_of_getElem? (i := 50) rfl))) (Or.inr (hw _ (List.mem_of_getElem? (i := 34) rfl))) (by decide) (t := .long) (t' := (.object "java/util/List")) (by decide) (by decide)))
  have F_x0_offered := F_x0_offered.other W (Or.inr (slot_ne (Or.inl (hw _ (List.mem_of_getElem? (i := 62) rfl))) (Or.inr (hw _ (List.mem_of_getElem? (i := 34) rfl))) (by decide) (t := .long) (t' := (.object "java/util/List")) (by decide) (by decide)))
  have O_old := O_old.wr W g_x0
  have E_a1 := E_a1.wr W
  have F_a1_elementData := F_a1_elementData.other W (Or.inl (Ne.symm ne_x0_a1))
  have F_a1_size := F_a1_size.other W (Or.inl (Ne.symm ne_x0_a1))
  have F_a1_modCount := F_a1_modCount.other W (Or.inl (Ne.symm ne_x0_a1))
  have K := K.wr W (Or.inl (List.mem_of_getElem? (i := 0) rfl))
  have sz : n0 ≤ h4.size := by rw [W.size]; exact sz
  have F_x0_kept := F_x0_kept'
  refine s_iloadN X hx (hb hby d1_15) rfl (q := 16) rfl ?_
  refine f_if_ge X hx (hb hby d1_16) (q1 := 33) (by decide) (by decide) (q := 19) rfl (fun _ => ?_) (fun hq => absurd hq (by decide : ¬ (3 : Int32) < 0))
  refine s_aloadN X hx (hb hby d1_33) rfl rfl (q := 34) rfl ?_
  refine s_iloadN X hx (hb hby d1_34) rfl (q := 35) rfl ?_
  refine s_putF X hx hZ hown (hw _ (List.mem_of_getElem? (i := 35) rfl)) eT F_x0_capacity E_x0 (Or.inr ⟨(hw _ (List.mem_of_getElem? (i := 36) rfl)), rfl, hnm⟩) (hw _ (List.mem_of_getElem? (i := 1) rfl)) (ty := .int) (by decide) rfl rfl N g_x0 (hb hby d1_35) (q := 38) rfl ?_
  intro T h5 _ X N eT W F_x0_capacity'
  have E_x0 := E_x0.wr W
  have F_x0_kept := F_x0_kept.other W (Or.inr (slot_ne (Or.inr (hw _ (List.mem_of_getElem? (i := 34) rfl))) (Or.inr (hw _ (List.mem_of_getElem? (i := 36) rfl))) (by decide) (t := (.object "java/util/List")) (t' := .int) (by decide) (by decide)))
  have F_x0_random := F_x0_random.other W (Or.inr (slot_ne (Or.inr (hw _ (List.mem_of_getElem? (i := 47) rfl))) (Or.inr (hw _ (List.mem_of_getElem? (i := 36) rfl))) (by decide) (t := (.object "com/example/cistern/cistern/SplitMix64")) (t' := .int) (by decide) (by decide)))
  have F_x0_passOver := F_x0_passOver.other W (Or.inr (slot_ne (Or.inl (hw _ (List.mem_of_getElem? (i := 50) rfl))) (Or.inr (hw _ (List.mem_of_getElem? (i := 36) rfl))) (by decide) (t := .long) (t' := .int) (by decide) (by decide)))
  have F_x0_offered := F_x0_offered.other W (Or.inr (slot_ne (Or.inl (hw _ (List.mem_of_getElem? (i := 62) rfl))) (Or.inr (hw _ (List.mem_of_getElem? (i := 36) rfl))) (by decide) (t := .long) (t' := .int) (by decide) (by decide)))
  have O_old := O_old.wr W g_x0
  have E_a1 := E_a1.wr W
  have F_a1_elementData := F_a1_elementData.other W (Or.inl (Ne.symm ne_x0_a1))
  have F_a1_size := F_a1_size.other W (Or.inl (Ne.symm ne_x0_a1))
  have F_a1_modCount := F_a1_modCount.other W (Or.inl (Ne.symm ne_x0_a1))
  have K := K.wr W (Or.inl (List.mem_of_getElem? (i := 0) rfl))
  have sz : n0 ≤ h5.size := by rw [W.size]; exact sz
  have F_x0_capacity := F_x0_capacity'
  refine s_aloadN X hx (hb hby d1_38) rfl rfl (q := 39) rfl ?_
  refine s_new X hx hZ hown (hw _ (List.mem_of_getElem? (i := 37) rfl)) (hw _ (List.mem_of_getElem? (i := 38) rfl)) (hw _ (List.mem_of_getElem? (i := 39) rfl)) eT (by decide) (by decide) (hb hby d1_39) (q := 42) rfl ?_
  intro T h7 a6 X eT E ea E_a6' Df
  have ne_x0_a6 : x0 ≠ a6 := by rw [ea]; exact Nat.ne_of_lt E_x0.lt
  have ne_a1_a6 : a1 ≠ a6 := by rw [ea]; exact Nat.ne_of_lt E_a1.lt
  have E_x0 := E_x0.ext E
  have F_x0_kept := F_x0_kept.ext E
  have F_x0_capacity := F_x0_capacity.ext E
  have F_x0_random := F_x0_random.ext E
  have F_x0_passOver := F_x0_passOver.ext E
  have F_x0_offered := F_x0_offered.ext E
  have O_old := O_old.ext E
  have E_a1 := E_a1.ext E
  have F_a1_elementData := F_a1_elementData.ext E
  have F_a1_size := F_a1_size.ext E
  have F_a1_modCount := F_a1_modCount.ext E
  have g_a6 : n0 ≤ a6 := by rw [ea]; exact sz
  have sk_a6 : h0.size ≤ a6 := by rw [ea]; exact K.1
  have K := K.ext E
  have sz : n0 ≤ h7.size := Nat.le_trans sz E.1
  have E_a6 := E_a6'
  have F_a6_state : Fld Z h7 a6 "com/example/cistern/cistern/SplitMix64" "state" "J" (.long (0 : Int64)) := Df _ _ _ .long (Or.inl (hw _ (List.mem_of_getElem? (i := 45) rfl))) (by decide)
  refine s_dup X hx (hb hby d1_42) rfl (q := 43) rfl ?_
  refine s_lloadN X hx (hb hby d1_43) rfl (q := 44) rfl ?_
  refine callI X hx hZ hown (W := 2) (argsL := [(.long x2)]) (rest := [(.ref a6), (.ref x0)]) rfl (hw _ (List.mem_of_getElem? (i := 40) rfl)) (hw _ (List.mem_of_getElem? (i := 41) rfl)) (hw _ (List.mem_of_getElem? (i := 39) rfl)) (hw _ (List.mem_of_getElem? (i := 42) rfl)) (by decide) (rm6 l Z a0 hw [] a6 x2 (0 : Int64) h7 n0 sz F_a6_state E_a6 g_a6) eT (by decide) (by decide) (by decide) (by decide) (by rw [hml]; rfl) pd3 rfl rfl (Nat.le_of_ble_eq_true rfl) (hb hby d1_44) (q := 47) rfl ?_
  intro v T Lc hQ X
  obtain ⟨h8, eT⟩ : ∃ z, T.heap = z := ⟨_, rfl⟩
  try rw [eT] at hQ
  obtain ⟨rfl, N', K', E_a6', F_a6_state'⟩ := hQ
  have N := Fr.app N N'
  have E_x0 := E_x0.keep K'
  have F_x0_kept := F_x0_kept.keep K' (ninS ne_x0_a6 nin0)
  have F_x0_capacity := F_x0_capacity.keep K' (ninS ne_x0_a6 nin0)
  have F_x0_random := F_x0_random.keep K' (ninS ne_x0_a6 nin0)
  have F_x0_passOver := F_x0_passOver.keep K' (ninS ne_x0_a6 nin0)
  have F_x0_offered := F_x0_offered.keep K' (ninS ne_x0_a6 nin0)
  have O_old := O_old.keep K' (allS g_a6 all0)
  have E_a1 := E_a1.keep K'
  have F_a1_elementData := F_a1_elementData.keep K' (ninS ne_a1_a6 nin0)
  have F_a1_size := F_a1_size.keep K' (ninS ne_a1_a6 nin0)
  have F_a1_modCount := F_a1_modCount.keep K' (ninS ne_a1_a6 nin0)
  have E_a6 := E_a6.keep K'
  have sz : n0 ≤ h8.size := Nat.le_trans sz K'.1
  have K := K.trans K' (allS (Or.inr sk_a6) all0)
  have F_a6_state := F_a6_state'
  refine s_putF X hx hZ hown (hw _ (List.mem_of_getElem? (i := 46) rfl)) eT F_x0_random E_x0 (Or.inr ⟨(hw _ (List.mem_of_getElem? (i := 47) rfl)), rfl, hnm⟩) (hw _ (List.mem_of_getElem? (i := 1) rfl)) (ty := (.object "com/example/cistern/cistern/SplitMix64")) (by decide) rfl rfl N g_x0 (hb hby d1_47) (q := 50) rfl ?_
  intro T h9 _ X N eT W F_x0_random'
  have E_x0 := E_x0.wr W
  have F_x0_kept := F_x0_kept.other W (Or.inr (slot_ne (Or.inr (hw _ (List.mem_of_getElem? (i := 34) rfl))) (Or.inr (hw _ (List.mem_of_getElem? (i := 47) rfl))) (by decide) (t := (.object "java/util/List")) (t' := (.object "com/example/cistern/cistern/SplitMix64")) (by decide) (by decide)))
  have F_x0_capacity := F_x0_capacity.other W (Or.inr (slot_ne (Or.inr (hw _ (List.mem_of_getElem? (i := 36) rfl))) (Or.inr (hw _ (List.mem_of_getElem? (i := 47) rfl))) (by decide) (t := .int) (t' := (.object "com/example/cistern/cistern/SplitMix64")) (by decide) (by decide)))
  have F_x0_passOver := F_x0_passOver.other W (Or.inr (slot_ne (Or.inl (hw _ (List.mem_of_getElem? (i := 50) rfl))) (Or.inr (hw _ (List.mem_of_getElem? (i := 47) rfl))) (by decide) (t := .long) (t' := (.object "com/example/cistern/cistern/SplitMix64")) (by decide) (by decide)))
  have F_x0_offered := F_x0_offered.other W (Or.inr (slot_ne (Or.inl (hw _ (List.mem_of_getElem? (i := 62) rfl))) (Or.inr (hw _ (List.mem_of_getElem? (i := 47) rfl))) (by decide) (t := .long) (t' := (.object "com/example/cistern/cistern/SplitMix64")) (by decide) (by decide)))
  have O_old := O_old.wr W g_x0
  have E_a1 := E_a1.wr W
  have F_a1_elementData := F_a1_elementData.other W (Or.inl (Ne.symm ne_x0_a1))
  have F_a1_size := F_a1_size.other W (Or.inl (Ne.symm ne_x0_a1))
  have F_a1_modCount := F_a1_modCount.other W (Or.inl (Ne.symm ne_x0_a1))
  have E_a6 := E_a6.wr W
  have F_a6_state := F_a6_state.other W (Or.inl (Ne.symm ne_x0_a6))
  have K := K.wr W (Or.inl (List.mem_of_getElem? (i := 0) rfl))
  have sz : n0 ≤ h9.size := by rw [W.size]; exact sz
  have F_x0_random := F_x0_random'
  refine s_aloadN X hx (hb hby d1_50) rfl rfl (q := 51) rfl ?_
  refine s_iloadN X hx (hb hby d1_51) rfl (q := 52) rfl ?_
  refine f_if_ne X hx (hb hby d1_52) (q1 := 61) (by decide) (by decide) (q := 55) rfl (fun _ => ?_) (fun hq => absurd hq (by decide : ¬ (3 : Int32) = 0))
  refine s_lconst X hx (z := (0 : Int64)) (hb hby d1_61) rfl (q := 62) rfl ?_
  refine s_putF X hx hZ hown (hw _ (List.mem_of_getElem? (i := 49) rfl)) eT F_x0_passOver E_x0 (Or.inl (hw _ (List.mem_of_getElem? (i := 50) rfl))) (hw _ (List.mem_of_getElem? (i := 1) rfl)) (ty := .long) (by decide) rfl rfl N g_x0 (hb hby d1_62) (q := 65) rfl ?_
  intro T h10 _ X N eT W F_x0_passOver'
  have E_x0 := E_x0.wr W
  have F_x0_kept := F_x0_kept.other W (Or.inr (slot_ne (Or.inr (hw _ (List.mem_of_getElem? (i := 34) rfl))) (Or.inl (hw _ (List.mem_of_getElem? (i := 50) rfl))) (by decide) (t := (.object "java/util/List")) (t' := .long) (by decide) (by decide)))
  have F_x0_capacity := F_x0_capacity.other W (Or.inr (slot_ne (Or.inr (hw _ (List.mem_of_getElem? (i := 36) rfl))) (Or.inl (hw _ (List.mem_of_getElem? (i := 50) rfl))) (by decide) (t := .int) (t' := .long) (by decide) (by decide)))
  have F_x0_random := F_x0_random.other W (Or.inr (slot_ne (Or.inr (hw _ (List.mem_of_getElem? (i := 47) rfl))) (Or.inl (hw _ (List.mem_of_getElem? (i := 50) rfl))) (by decide) (t := (.object "com/example/cistern/cistern/SplitMix64")) (t' := .long) (by decide) (by decide)))
  have F_x0_offered := F_x0_offered.other W (Or.inr (slot_ne (Or.inl (hw _ (List.mem_of_getElem? (i := 62) rfl))) (Or.inl (hw _ (List.mem_of_getElem? (i := 50) rfl))) (by decide) (t := .long) (t' := .long) (by decide) (by decide)))
  have O_old := O_old.wr W g_x0
  have E_a1 := E_a1.wr W
  have F_a1_elementData := F_a1_elementData.other W (Or.inl (Ne.symm ne_x0_a1))
  have F_a1_size := F_a1_size.other W (Or.inl (Ne.symm ne_x0_a1))
  have F_a1_modCount := F_a1_modCount.other W (Or.inl (Ne.symm ne_x0_a1))
  have E_a6 := E_a6.wr W
  have F_a6_state := F_a6_state.other W (Or.inl (Ne.symm ne_x0_a6))
  have K := K.wr W (Or.inl (List.mem_of_getElem? (i := 0) rfl))
  have sz : n0 ≤ h10.size := by rw [W.size]; exact sz
  have F_x0_passOver := F_x0_passOver'
  exact leafV X hx hlk hret (hb hby d1_65) (by decide) (by decide) (by rw [eT]; exact ⟨a1, a6, rfl, N, K, F_x0_kept, F_x0_capacity, F_x0_random, F_x0_passOver, F_x0_offered, F_a1_elementData, F_a1_size, F_a1_modCount, E_a1, F_a6_state, E_a6, sk_a1, sk_a6⟩)
theorem d13_0 : decode jdk_38_method_8_code 0 = .ok (.aload_n 0, 1) := by decide +kernel
theorem d13_1 : decode jdk_38_method_8_code 1 = .ok (.getfield 48, 3) := by decide +kernel
theorem d13_4 : decode jdk_38_method_8_code 4 = .ok (.ireturn, 1) := by decide +kernel
theorem pn_13 : plainFor (⟨"java/util/ArrayList", "size", "()I"⟩ : MethodName) = true := plainFor_of_name (by first | (simp [plainName, overriddenIn]; done) | decide +kernel)
theorem ef_13 (m : MethodId) (x0 : Addr) : entryFrame m #[(.ref x0)] 1 = mkF m 0 #[.val (.ref x0)] [] := by first | (simp [entryFrame, mkF, argsToLocals, Value.category]; done) | rfl
set_option maxRecDepth 65536 in
set_option maxHeartbeats 40000000 in
theorem rm13 (l : Launch) (Z : State) (a0 : Array Value) (hw : ∀ d ∈ tables_1, d.before a0 Z = true) (ws : List Jvm.Cond) (x0 : Addr) (z : Int32) (h0 : Heap) (n0 : Nat) (sz : n0 ≤ h0.size) (F_x0_size : Fld Z h0 x0 "java/util/ArrayList" "size" "I" (.int z)) (E_x0 : Exa Z h0 x0 "java/util/ArrayList") :
    Ctr l (⟨"java/util/ArrayList", "size", "()I"⟩ : MethodName) jdk_38_method_8_code 1 (some .int) ws ({ frames := 0, cells := 0, slots := 0, locals := 0 } : Room) Z #[(.ref x0)] h0 (fun v h L => v = some (.int z) ∧ h = h0 ∧ Fr n0 L) 0 0 := by
  refine Ctr.mk pn_13 ?_
  intro p e s m below meth c T hx hby hml hown hnm hlk hret hZ X eT
  have N := Fr.nil n0
  refine enter (ef_13 m x0) ?_
  refine s_aloadN X hx (hb hby d13_0) rfl rfl (q := 1) rfl ?_
  refine s_getF X hx hZ hown (hw _ (List.mem_of_getElem? (i := 91) rfl)) eT F_x0_size (hb hby d13_1) (q := 4) rfl ?_
  intro T X eT
  exact leafI X hx hlk hret (hb hby d13_4) (by decide) (by decide) ⟨rfl, eT, N⟩
theorem d14_0 : decode prog_1_method_16_code 0 = .ok (.aload_n 0, 1) := by decide +kernel
theorem d14_1 : decode prog_1_method_16_code 1 = .ok (.getfield 63, 3) := by decide +kernel
theorem d14_4 : decode prog_1_method_16_code 4 = .ok (.lreturn, 1) := by decide +kernel
theorem pn_14 : plainFor (⟨"com/example/cistern/cistern/ReservoirSampler", "offered", "()J"⟩ : MethodName) = true := plainFor_of_name (by first | (simp [plainName, overriddenIn]; done) | decide +kernel)
theorem ef_14 (m : MethodId) (x0 : Addr) : entryFrame m #[(.ref x0)] 1 = mkF m 0 #[.val (.ref x0)] [] := by first | (simp [entryFrame, mkF, argsToLocals, Value.category]; done) | rfl
set_option maxRecDepth 65536 in
set_option maxHeartbeats 40000000 in
theorem rm14 (l : Launch) (Z : State) (a0 : Array Value) (hw : ∀ d ∈ tables_1, d.before a0 Z = true) (ws : List Jvm.Cond) (x0 : Addr) (of : Int64) (h0 : Heap) (n0 : Nat) (sz : n0 ≤ h0.size) (F_x0_offered : Fld Z h0 x0 "com/example/cistern/cistern/ReservoirSampler" "offered" "J" (.long of)) (E_x0 : Exa Z h0 x0 "com/example/cistern/cistern/ReservoirSampler") :
    Ctr l (⟨"com/example/cistern/cistern/ReservoirSampler", "offered", "()J"⟩ : MethodName) prog_1_method_16_code 1 (some .long) ws ({ frames := 0, cells := 0, slots := 0, locals := 0 } : Room) Z #[(.ref x0)] h0 (fun v h L => v = some (.long of) ∧ h = h0 ∧ Fr n0 L) 0 0 := by
  refine Ctr.mk pn_14 ?_
  intro p e s m below meth c T hx hby hml hown hnm hlk hret hZ X eT
  have N := Fr.nil n0
  refine enter (ef_14 m x0) ?_
  refine s_aloadN X hx (hb hby d14_0) rfl rfl (q := 1) rfl ?_
  refine s_getF X hx hZ hown (hw _ (List.mem_of_getElem? (i := 61) rfl)) eT F_x0_offered (hb hby d14_1) (q := 4) rfl ?_
  intro T X eT
  exact leafJ X hx hlk hret (hb hby d14_4) (by decide) (by decide) ⟨rfl, eT, N⟩
theorem d8_0 : decode prog_1_method_10_code 0 = .ok (.aload_n 0, 1) := by decide +kernel
theorem d8_1 : decode prog_1_method_10_code 1 = .ok (.getfield 52, 3) := by decide +kernel
theorem d8_4 : decode prog_1_method_10_code 4 = .ok (.ldc2_w 50, 3) := by decide +kernel
theorem d8_7 : decode prog_1_method_10_code 7 = .ok (.aload_n 0, 1) := by decide +kernel
theorem d8_8 : decode prog_1_method_10_code 8 = .ok (.getfield 63, 3) := by decide +kernel
theorem d8_11 : decode prog_1_method_10_code 11 = .ok (.lsub, 1) := by decide +kernel
theorem d8_12 : decode prog_1_method_10_code 12 = .ok (.invokestatic 72, 3) := by decide +kernel
theorem d8_15 : decode prog_1_method_10_code 15 = .ok (.lreturn, 1) := by decide +kernel
theorem pn_8 : plainFor (⟨"com/example/cistern/cistern/ReservoirSampler", "skippable", "()J"⟩ : MethodName) = true := plainFor_of_name (by first | (simp [plainName, overriddenIn]; done) | decide +kernel)
theorem ef_8 (m : MethodId) (x0 : Addr) : entryFrame m #[(.ref x0)] 1 = mkF m 0 #[.val (.ref x0)] [] := by first | (simp [entryFrame, mkF, argsToLocals, Value.category]; done) | rfl
theorem pd4 : parseMethodDescriptor "(JJ)J" = some ⟨[.long, .long], some .long⟩ := by decide +kernel
set_option maxRecDepth 65536 in
set_option maxHeartbeats 40000000 in
theorem rm8 (l : Launch) (Z : State) (a0 : Array Value) (hw : ∀ d ∈ tables_1, d.before a0 Z = true) (ws : List Jvm.Cond) (x0 : Addr) (po : Int64) (of : Int64) (r : Int64) (h0 : Heap) (n0 : Nat) (sz : n0 ≤ h0.size) (F_x0_passOver : Fld Z h0 x0 "com/example/cistern/cistern/ReservoirSampler" "passOver" "J" (.long po)) (F_x0_offered : Fld Z h0 x0 "com/example/cistern/cistern/ReservoirSampler" "offered" "J" (.long of)) (E_x0 : Exa Z h0 x0 "com/example/cistern/cistern/ReservoirSampler") (hr : F7 po ((9223372036854775807 : Int64) - of) = r) :
    Ctr l (⟨"com/example/cistern/cistern/ReservoirSampler", "skippable", "()J"⟩ : MethodName) prog_1_method_10_code 1 (some .long) ws ({ frames := 1, cells := 0, slots := 0, locals := 15 } : Room) Z #[(.ref x0)] h0 (fun v h L => v = some (.long r) ∧ h = h0 ∧ Fr n0 L) 0 0 := by
  refine Ctr.mk pn_8 ?_
  intro p e s m below meth c T hx hby hml hown hnm hlk hret hZ X eT
  have N := Fr.nil n0
  refine enter (ef_8 m x0) ?_
  refine s_aloadN X hx (hb hby d8_0) rfl rfl (q := 1) rfl ?_
  refine s_getF X hx hZ hown (hw _ (List.mem_of_getElem? (i := 49) rfl)) eT F_x0_passOver (hb hby d8_1) (q := 4) rfl ?_
  intro T X eT
  refine s_ldc2 X hx hZ hown (hw _ (List.mem_of_getElem? (i := 48) rfl)) (hb hby d8_4) (q := 7) rfl ?_
  refine s_aloadN X hx (hb hby d8_7) rfl rfl (q := 8) rfl ?_
  refine s_getF X hx hZ hown (hw _ (List.mem_of_getElem? (i := 61) rfl)) eT F_x0_offered (hb hby d8_8) (q := 11) rfl ?_
  intro T X eT
  refine s_lsub X hx (hb hby d8_11) (q := 12) rfl ?_
  refine callP X hx hZ hown (W := 0) (argsL := [(.long po), (.long ((9223372036854775807 : Int64) - of))]) (rest := []) (hw _ (List.mem_of_getElem? (i := 63) rfl)) (hw _ (List.mem_of_getElem? (i := 53) rfl)) (hw _ (List.mem_of_getElem? (i := 54) rfl)) (hw _ (List.mem_of_getElem? (i := 55) rfl)) (by decide) (rm7 l Z a0 hw [] po ((9223372036854775807 : Int64) - of) h0) rfl rfl eT (by decide) (by decide) (by decide) (by decide) (by rw [hml]; rfl) pd4 rfl rfl (Nat.le_of_ble_eq_true rfl) (hb hby d8_12) (q := 15) rfl ?_
  intro T X eT
  exact leafJ X hx hlk hret (hb hby d8_15) (by decide) (by decide) ⟨congrArg (fun z => some (Value.long z)) hr, eT, N⟩
theorem d9_0 : decode prog_1_method_11_code 0 = .ok (.lload_n 1, 1) := by decide +kernel
theorem d9_1 : decode prog_1_method_11_code 1 = .ok (.lconst 0, 1) := by decide +kernel
theorem d9_2 : decode prog_1_method_11_code 2 = .ok (.lcmp, 1) := by decide +kernel
theorem d9_3 : decode prog_1_method_11_code 3 = .ok (.ifCond .lt 12, 3) := by decide +kernel
theorem d9_6 : decode prog_1_method_11_code 6 = .ok (.lload_n 1, 1) := by decide +kernel
theorem d9_7 : decode prog_1_method_11_code 7 = .ok (.aload_n 0, 1) := by decide +kernel
theorem d9_8 : decode prog_1_method_11_code 8 = .ok (.invokevirtual 152, 3) := by decide +kernel
theorem d9_11 : decode prog_1_method_11_code 11 = .ok (.lcmp, 1) := by decide +kernel
theorem d9_12 : decode prog_1_method_11_code 12 = .ok (.ifCond .le 21, 3) := by decide +kernel
theorem d9_15 : decode prog_1_method_11_code 15 = .ok (.new 26, 3) := by decide +kernel
theorem d9_18 : decode prog_1_method_11_code 18 = .ok (.dup, 1) := by decide +kernel
theorem d9_19 : decode prog_1_method_11_code 19 = .ok (.lload_n 1, 1) := by decide +kernel
theorem d9_20 : decode prog_1_method_11_code 20 = .ok (.aload_n 0, 1) := by decide +kernel
theorem d9_21 : decode prog_1_method_11_code 21 = .ok (.invokevirtual 152, 3) := by decide +kernel
theorem d9_29 : decode prog_1_method_11_code 29 = .ok (.invokespecial 32, 3) := by decide +kernel
theorem d9_32 : decode prog_1_method_11_code 32 = .ok (.athrow, 1) := by decide +kernel
theorem d9_33 : decode prog_1_method_11_code 33 = .ok (.aload_n 0, 1) := by decide +kernel
theorem d9_34 : decode prog_1_method_11_code 34 = .ok (.dup, 1) := by decide +kernel
theorem d9_35 : decode prog_1_method_11_code 35 = .ok (.getfield 63, 3) := by decide +kernel
theorem d9_38 : decode prog_1_method_11_code 38 = .ok (.lload_n 1, 1) := by decide +kernel
theorem d9_39 : decode prog_1_method_11_code 39 = .ok (.ladd, 1) := by decide +kernel
theorem d9_40 : decode prog_1_method_11_code 40 = .ok (.putfield 63, 3) := by decide +kernel
theorem d9_43 : decode prog_1_method_11_code 43 = .ok (.aload_n 0, 1) := by decide +kernel
theorem d9_44 : decode prog_1_method_11_code 44 = .ok (.dup, 1) := by decide +kernel
theorem d9_45 : decode prog_1_method_11_code 45 = .ok (.getfield 52, 3) := by decide +kernel
theorem d9_48 : decode prog_1_method_11_code 48 = .ok (.lload_n 1, 1) := by decide +kernel
theorem d9_49 : decode prog_1_method_11_code 49 = .ok (.lsub, 1) := by decide +kernel
theorem d9_50 : decode prog_1_method_11_code 50 = .ok (.putfield 52, 3) := by decide +kernel
theorem d9_53 : decode prog_1_method_11_code 53 = .ok (.return_, 1) := by decide +kernel
theorem pn_9 : plainFor (⟨"com/example/cistern/cistern/ReservoirSampler", "skip", "(J)V"⟩ : MethodName) = true := plainFor_of_name (by first | (simp [plainName, overriddenIn]; done) | decide +kernel)
theorem ef_9 (m : MethodId) (x0 : Addr) (x1 : Int64) : entryFrame m #[(.ref x0), (.long x1)] 3 = mkF m 0 #[.val (.ref x0), .val (.long x1), .second] [] := by first | (simp [entryFrame, mkF, argsToLocals, Value.category]; done) | rfl
set_option maxRecDepth 65536 in
set_option maxHeartbeats 40000000 in
theorem rm9 (l : Launch) (Z : State) (a0 : Array Value) (hw : ∀ d ∈ tables_1, d.before a0 Z = true) (ws : List Jvm.Cond) (x0 : Addr) (x1 : Int64) (kl : Addr) (gr : Addr) (cp : Int32) (po : Int64) (of : Int64) (r : Int64) (po2 : Int64) (of2 : Int64) (h0 : Heap) (n0 : Nat) (sz : n0 ≤ h0.size) (F_x0_kept : Fld Z h0 x0 "com/example/cistern/cistern/ReservoirSampler" "kept" "Ljava/util/List;" (.ref kl)) (F_x0_capacity : Fld Z h0 x0 "com/example/cistern/cistern/ReservoirSampler" "capacity" "I" (.int cp)) (F_x0_random : Fld Z h0 x0 "com/example/cistern/cistern/ReservoirSampler" "random" "Lcom/example/cistern/cistern/SplitMix64;" (.ref gr)) (F_x0_passOver : Fld Z h0 x0 "com/example/cistern/cistern/ReservoirSampler" "passOver" "J" (.long po)) (F_x0_offered : Fld Z h0 x0 "com/example/cistern/cistern/ReservoirSampler" "offered" "J" (.long of)) (E_x0 : Exa Z h0 x0 "com/example/cistern/cistern/ReservoirSampler") (g_x0 : n0 ≤ x0) (hr : F7 po ((9223372036854775807 : Int64) - of) = r) (hs0 : ¬ x1 < 0) (hs1 : ¬ r < x1) (hp2 : po - x1 = po2) (ho2 : of + x1 = of2) :
    Ctr l (⟨"com/example/cistern/cistern/ReservoirSampler", "skip", "(J)V"⟩ : MethodName) prog_1_method_11_code 3 none ws ({ frames := 2, cells := 0, slots := 0, locals := 29 } : Room) Z #[(.ref x0), (.long x1)] h0 (fun v h L => v = none ∧ Fr n0 L ∧ Keep h0 h [x0] ∧ Fld Z h x0 "com/example/cistern/cistern/ReservoirSampler" "kept" "Ljava/util/List;" (.ref kl) ∧ Fld Z h x0 "com/example/cistern/cistern/ReservoirSampler" "capacity" "I" (.int cp) ∧ Fld Z h x0 "com/example/cistern/cistern/ReservoirSampler" "random" "Lcom/example/cistern/cistern/SplitMix64;" (.ref gr) ∧ Fld Z h x0 "com/example/cistern/cistern/ReservoirSampler" "passOver" "J" (.long po2) ∧ Fld Z h x0 "com/example/cistern/cistern/ReservoirSampler" "offered" "J" (.long of2)) 0 0 := by
  refine Ctr.mk pn_9 ?_
  intro p e s m below meth c T hx hby hml hown hnm hlk hret hZ X eT
  have N := Fr.nil n0
  refine enter (ef_9 m x0 x1) ?_
  have K := Keep.refl h0 [x0]
  refine s_lloadN X hx (hb hby d9_0) rfl (q := 1) rfl ?_
  refine s_lconst X hx (z := (0 : Int64)) (hb hby d9_1) rfl (q := 2) rfl ?_
  refine s_lcmp X hx (hb hby d9_2) (q := 3) rfl ?_
  refine f_lcmp_lt X hx (hb hby d9_3) (q1 := 15) (by decide) (by decide) (q := 6) rfl (fun hq => absurd hq (hs0 : ¬ x1 < (0 : Int64))) (fun _ => ?_)
  refine s_lloadN X hx (hb hby d9_6) rfl (q := 7) rfl ?_
  refine s_aloadN X hx (hb hby d9_7) rfl rfl (q := 8) rfl ?_
  refine callV X hx hZ hown (W := 2) (argsL := []) (rest := [(.long x1)]) (hw _ (List.mem_of_getElem? (i := 69) rfl)) (hw _ (List.mem_of_getElem? (i := 57) rfl)) (hw _ (List.mem_of_getElem? (i := 59) rfl)) (hw _ (List.mem_of_getElem? (i := 58) rfl)) (hw _ (List.mem_of_getElem? (i := 2) rfl)) (hw _ (List.mem_of_getElem? (i := 60) rfl)) (by decide) E_x0 (rm8 l Z a0 hw [] x0 po of r h0 n0 sz F_x0_passOver F_x0_offered E_x0 hr) eT (by decide) (by decide) (by decide) (by decide) (by rw [hml]; rfl) pd1 rfl rfl (Nat.le_of_ble_eq_true rfl) (hb hby d9_8) (q := 11) rfl ?_
  intro v T Lc hQ X
  obtain ⟨rfl, eT, N'⟩ := hQ
  have N := Fr.app N N'
  refine s_lcmp X hx (hb hby d9_11) (q := 12) rfl ?_
  refine f_lcmp_le X hx (hb hby d9_12) (q1 := 33) (by decide) (by decide) (q := 15) rfl (fun _ => ?_) (fun hq => absurd hq (hs1 : ¬ r < x1))
  refine s_aloadN X hx (hb hby d9_33) rfl rfl (q := 34) rfl ?_
  refine s_dup X hx (hb hby d9_34) rfl (q := 35) rfl ?_
  refine s_getF X hx hZ hown (hw _ (List.mem_of_getElem? (i := 61) rfl)) eT F_x0_offered (hb hby d9_35) (q := 38) rfl ?_
  intro T X eT
  refine s_lloadN X hx (hb hby d9_38) rfl (q := 39) rfl ?_
  refine s_ladd X hx (hb hby d9_39) (q := 40) rfl ?_
  refine s_putF X hx hZ hown (hw _ (List.mem_of_getElem? (i := 61) rfl)) eT F_x0_offered E_x0 (Or.inl (hw _ (List.mem_of_getElem? (i := 62) rfl))) (hw _ (List.mem_of_getElem? (i := 1) rfl)) (ty := .long) (by decide) rfl rfl N g_x0 (hb hby d9_40) (q := 43) rfl ?_
  intro T h1 _ X N eT W F_x0_offered'
  have E_x0 := E_x0.wr W
  have F_x0_kept := F_x0_kept.other W (Or.inr (slot_ne (Or.inr (hw _ (List.mem_of_getElem? (i := 34) rfl))) (Or.inl (hw _ (List.mem_of_getElem? (i := 62) rfl))) (by decide) (t := (.object "java/util/List")) (t' := .long) (by decide) (by decide)))
  have F_x0_capacity := F_x0_capacity.other W (Or.inr (slot_ne (Or.inr (hw _ (List.mem_of_getElem? (i := 36) rfl))) (Or.inl (hw _ (List.mem_of_getElem? (i := 62) rfl))) (by decide) (t := .int) (t' := .long) (by decide) (by decide)))
  have F_x0_random := F_x0_random.other W (Or.inr (slot_ne (Or.inr (hw _ (List.mem_of_getElem? (i := 47) rfl))) (Or.inl (hw _ (List.mem_of_getElem? (i := 62) rfl))) (by decide) (t := (.object "com/example/cistern/cistern/SplitMix64")) (t' := .long) (by decide) (by decide)))
  have F_x0_passOver := F_x0_passOver.other W (Or.inr (slot_ne (Or.inl (hw _ (List.mem_of_getElem? (i := 50) rfl))) (Or.inl (hw _ (List.mem_of_getElem? (i := 62) rfl))) (by decide) (t := .long) (t' := .long) (by decide) (by decide)))
  have K := K.wr W (Or.inl (List.mem_of_getElem? (i := 0) rfl))
  have sz : n0 ≤ h1.size := by rw [W.size]; exact sz
  have F_x0_offered := F_x0_offered'
  refine s_aloadN X hx (hb hby d9_43) rfl rfl (q := 44) rfl ?_
  refine s_dup X hx (hb hby d9_44) rfl (q := 45) rfl ?_
  refine s_getF X hx hZ hown (hw _ (List.mem_of_getElem? (i := 49) rfl)) eT F_x0_passOver (hb hby d9_45) (q := 48) rfl ?_
  intro T X eT
  refine s_lloadN X hx (hb hby d9_48) rfl (q := 49) rfl ?_
  refine s_lsub X hx (hb hby d9_49) (q := 50) rfl ?_
  refine s_putF X hx hZ hown (hw _ (List.mem_of_getElem? (i := 49) rfl)) eT F_x0_passOver E_x0 (Or.inl (hw _ (List.mem_of_getElem? (i := 50) rfl))) (hw _ (List.mem_of_getElem? (i := 1) rfl)) (ty := .long) (by decide) rfl rfl N g_x0 (hb hby d9_50) (q := 53) rfl ?_
  intro T h2 _ X N eT W F_x0_passOver'
  have E_x0 := E_x0.wr W
  have F_x0_kept := F_x0_kept.other W (Or.inr (slot_ne (Or.inr (hw _ (List.mem_of_getElem? (i := 34) rfl))) (Or.inl (hw _ (List.mem_of_getElem? (i := 50) rfl))) (by decide) (t := (.object "java/util/List")) (t' := .long) (by decide) (by decide)))
  have F_x0_capacity := F_x0_capacity.other W (Or.inr (slot_ne (Or.inr (hw _ (List.mem_of_getElem? (i := 36) rfl))) (Or.inl (hw _ (List.mem_of_getElem? (i := 50) rfl))) (by decide) (t := .int) (t' := .long) (by decide) (by decide)))
  have F_x0_random := F_x0_random.other W (Or.inr (slot_ne (Or.inr (hw _ (List.mem_of_getElem? (i := 47) rfl))) (Or.inl (hw _ (List.mem_of_getElem? (i := 50) rfl))) (by decide) (t := (.object "com/example/cistern/cistern/SplitMix64")) (t' := .long) (by decide) (by decide)))
  have F_x0_offered := F_x0_offered.other W (Or.inr (slot_ne (Or.inl (hw _ (List.mem_of_getElem? (i := 62) rfl))) (Or.inl (hw _ (List.mem_of_getElem? (i := 50) rfl))) (by decide) (t := .long) (t' := .long) (by decide) (by decide)))
  have K := K.wr W (Or.inl (List.mem_of_getElem? (i := 0) rfl))
  have sz : n0 ≤ h2.size := by rw [W.size]; exact sz
  have F_x0_passOver := F_x0_passOver'
  exact leafV X hx hlk hret (hb hby d9_53) (by decide) (by decide) (by rw [eT]; subst hp2 ho2; exact ⟨rfl, N, K, F_x0_kept, F_x0_capacity, F_x0_random, F_x0_passOver, F_x0_offered⟩)
theorem d18_0 : decode prog_2_method_2_code 0 = .ok (.aload_n 0, 1) := by decide +kernel
theorem d18_1 : decode prog_2_method_2_code 1 = .ok (.lload_n 1, 1) := by decide +kernel
theorem d18_2 : decode prog_2_method_2_code 2 = .ok (.putfield 13, 3) := by decide +kernel
theorem d18_5 : decode prog_2_method_2_code 5 = .ok (.aload_n 0, 1) := by decide +kernel
theorem d18_6 : decode prog_2_method_2_code 6 = .ok (.aload_n 3, 1) := by decide +kernel
theorem d18_7 : decode prog_2_method_2_code 7 = .ok (.putfield 17, 3) := by decide +kernel
theorem d18_10 : decode prog_2_method_2_code 10 = .ok (.return_, 1) := by decide +kernel
theorem pn_18 : plainFor (⟨"com/example/cistern/cistern/ReservoirSampler$Kept", "set", "(JLjava/lang/Object;)V"⟩ : MethodName) = true := plainFor_of_name (by first | (simp [plainName, overriddenIn]; done) | decide +kernel)
theorem ef_18 (m : MethodId) (x0 : Addr) (x1 : Int64) : entryFrame m #[(.ref x0), (.long x1), .null] 4 = mkF m 0 #[.val (.ref x0), .val (.long x1), .second, .val .null] [] := by first | (simp [entryFrame, mkF, argsToLocals, Value.category]; done) | rfl
set_option maxRecDepth 65536 in
set_option maxHeartbeats 40000000 in
theorem rm18 (l : Launch) (Z : State) (a0 : Array Value) (hw : ∀ d ∈ tables_1, d.before a0 Z = true) (ws : List Jvm.Cond) (x0 : Addr) (x1 : Int64)  (h0 : Heap) (n0 : Nat) (sz : n0 ≤ h0.size) (F_x0_position : Fld Z h0 x0 "com/example/cistern/cistern/ReservoirSampler$Kept" "position" "J" (.long (0 : Int64))) (F_x0_item : Fld Z h0 x0 "com/example/cistern/cistern/ReservoirSampler$Kept" "item" "Ljava/lang/Object;" .null) (E_x0 : Exa Z h0 x0 "com/example/cistern/cistern/ReservoirSampler$Kept") (g_x0 : n0 ≤ x0) :
    Ctr l (⟨"com/example/cistern/cistern/ReservoirSampler$Kept", "set", "(JLjava/lang/Object;)V"⟩ : MethodName) prog_2_method_2_code 4 none ws ({ frames := 0, cells := 0, slots := 0, locals := 0 } : Room) Z #[(.ref x0), (.long x1), .null] h0 (fun v h L => v = none ∧ Fr n0 L ∧ Keep h0 h [x0]) 0 0 := by
  refine Ctr.mk pn_18 ?_
  intro p e s m below meth c T hx hby hml hown hnm hlk hret hZ X eT
  have N := Fr.nil n0
  refine enter (ef_18 m x0 x1) ?_
  have K := Keep.refl h0 [x0]
  refine s_aloadN X hx (hb hby d18_0) rfl rfl (q := 1) rfl ?_
  refine s_lloadN X hx (hb hby d18_1) rfl (q := 2) rfl ?_
  refine s_putF X hx hZ hown (hw _ (List.mem_of_getElem? (i := 117) rfl)) eT F_x0_position E_x0 (Or.inl (hw _ (List.mem_of_getElem? (i := 118) rfl))) (hw _ (List.mem_of_getElem? (i := 106) rfl)) (ty := .long) (by decide) rfl rfl N g_x0 (hb hby d18_2) (q := 5) rfl ?_
  intro T h1 _ X N eT W F_x0_position'
  have E_x0 := E_x0.wr W
  have F_x0_item := F_x0_item.other W (Or.inr (slot_ne (Or.inl (hw _ (List.mem_of_getElem? (i := 120) rfl))) (Or.inl (hw _ (List.mem_of_getElem? (i := 118) rfl))) (by decide) (t := (.object "java/lang/Object")) (t' := .long) (by decide) (by decide)))
  have K := K.wr W (Or.inl (List.mem_of_getElem? (i := 0) rfl))
  have sz : n0 ≤ h1.size := by rw [W.size]; exact sz
  have F_x0_position := F_x0_position'
  refine s_aloadN X hx (hb hby d18_5) rfl rfl (q := 6) rfl ?_
  refine s_aloadN X hx (hb hby d18_6) rfl rfl (q := 7) rfl ?_
  refine s_putF X hx hZ hown (hw _ (List.mem_of_getElem? (i := 119) rfl)) eT F_x0_item E_x0 (Or.inl (hw _ (List.mem_of_getElem? (i := 120) rfl))) (hw _ (List.mem_of_getElem? (i := 106) rfl)) (ty := (.object "java/lang/Object")) (by decide) rfl rfl N g_x0 (hb hby d18_7) (q := 10) rfl ?_
  intro T h2 _ X N eT W F_x0_item'
  have E_x0 := E_x0.wr W
  have F_x0_position := F_x0_position.other W (Or.inr (slot_ne (Or.inl (hw _ (List.mem_of_getElem? (i := 118) rfl))) (Or.inl (hw _ (List.mem_of_getElem? (i := 120) rfl))) (by decide) (t := .long) (t' := (.object "java/lang/Object")) (by decide) (by decide)))
  have K := K.wr W (Or.inl (List.mem_of_getElem? (i := 0) rfl))
  have sz : n0 ≤ h2.size := by rw [W.size]; exact sz
  have F_x0_item := F_x0_item'
  exact leafV X hx hlk hret (hb hby d18_10) (by decide) (by decide) (by rw [eT]; exact ⟨rfl, N, K⟩)
theorem d17_0 : decode prog_2_method_1_code 0 = .ok (.aload_n 0, 1) := by decide +kernel
theorem d17_1 : decode prog_2_method_1_code 1 = .ok (.invokespecial 1, 3) := by decide +kernel
theorem d17_4 : decode prog_2_method_1_code 4 = .ok (.aload_n 0, 1) := by decide +kernel
theorem d17_5 : decode prog_2_method_1_code 5 = .ok (.lload_n 1, 1) := by decide +kernel
theorem d17_6 : decode prog_2_method_1_code 6 = .ok (.aload_n 3, 1) := by decide +kernel
theorem d17_7 : decode prog_2_method_1_code 7 = .ok (.invokevirtual 7, 3) := by decide +kernel
theorem d17_10 : decode prog_2_method_1_code 10 = .ok (.return_, 1) := by decide +kernel
theorem pn_17 : plainFor (⟨"com/example/cistern/cistern/ReservoirSampler$Kept", "<init>", "(JLjava/lang/Object;)V"⟩ : MethodName) = true := plainFor_of_name (by first | (simp [plainName, overriddenIn]; done) | decide +kernel)
theorem ef_17 (m : MethodId) (x0 : Addr) (x1 : Int64) : entryFrame m #[(.ref x0), (.long x1), .null] 4 = mkF m 0 #[.val (.ref x0), .val (.long x1), .second, .val .null] [] := by first | (simp [entryFrame, mkF, argsToLocals, Value.category]; done) | rfl
theorem pd5 : parseMethodDescriptor "(JLjava/lang/Object;)V" = some ⟨[.long, (.object "java/lang/Object")], none⟩ := by decide +kernel
set_option maxRecDepth 65536 in
set_option maxHeartbeats 40000000 in
theorem rm17 (l : Launch) (Z : State) (a0 : Array Value) (hw : ∀ d ∈ tables_1, d.before a0 Z = true) (ws : List Jvm.Cond) (x0 : Addr) (x1 : Int64)  (h0 : Heap) (n0 : Nat) (sz : n0 ≤ h0.size) (F_x0_position : Fld Z h0 x0 "com/example/cistern/cistern/ReservoirSampler$Kept" "position" "J" (.long (0 : Int64))) (F_x0_item : Fld Z h0 x0 "com/example/cistern/cistern/ReservoirSampler$Kept" "item" "Ljava/lang/Object;" .null) (E_x0 : Exa Z h0 x0 "com/example/cistern/cistern/ReservoirSampler$Kept") (g_x0 : n0 ≤ x0) :
    Ctr l (⟨"com/example/cistern/cistern/ReservoirSampler$Kept", "<init>", "(JLjava/lang/Object;)V"⟩ : MethodName) prog_2_method_1_code 4 none ws ({ frames := 1, cells := 0, slots := 0, locals := 15 } : Room) Z #[(.ref x0), (.long x1), .null] h0 (fun v h L => v = none ∧ Fr n0 L ∧ Keep h0 h [x0]) 0 0 := by
  refine Ctr.mk pn_17 ?_
  intro p e s m below meth c T hx hby hml hown hnm hlk hret hZ X eT
  have N := Fr.nil n0
  refine enter (ef_17 m x0 x1) ?_
  have K := Keep.refl h0 [x0]
  refine s_aloadN X hx (hb hby d17_0) rfl rfl (q := 1) rfl ?_
  refine s_initO X hx hZ hown (W := 0) (hw _ (List.mem_of_getElem? (i := 111) rfl)) (hw _ (List.mem_of_getElem? (i := 7) rfl)) (hw _ (List.mem_of_getElem? (i := 8) rfl)) eT (by rw [hml]; rfl) (by decide) (Nat.le_of_ble_eq_true rfl) (by decide) (hb hby d17_1) (q := 4) rfl ?_
  intro T X eT
  refine s_aloadN X hx (hb hby d17_4) rfl rfl (q := 5) rfl ?_
  refine s_lloadN X hx (hb hby d17_5) rfl (q := 6) rfl ?_
  refine s_aloadN X hx (hb hby d17_6) rfl rfl (q := 7) rfl ?_
  refine callV X hx hZ hown (W := 0) (argsL := [(.long x1), .null]) (rest := []) (hw _ (List.mem_of_getElem? (i := 112) rfl)) (hw _ (List.mem_of_getElem? (i := 113) rfl)) (hw _ (List.mem_of_getElem? (i := 115) rfl)) (hw _ (List.mem_of_getElem? (i := 114) rfl)) (hw _ (List.mem_of_getElem? (i := 107) rfl)) (hw _ (List.mem_of_getElem? (i := 116) rfl)) (by decide) E_x0 (rm18 l Z a0 hw [] x0 x1 h0 n0 sz F_x0_position F_x0_item E_x0 g_x0) eT (by decide) (by decide) (by decide) (by decide) (by rw [hml]; rfl) pd5 rfl rfl (Nat.le_of_ble_eq_true rfl) (hb hby d17_7) (q := 10) rfl ?_
  intro v T Lc hQ X
  obtain ⟨h1, eT⟩ : ∃ z, T.heap = z := ⟨_, rfl⟩
  rw [eT] at hQ
  obtain ⟨rfl, N', K'⟩ := hQ
  have N := Fr.app N N'
  have E_x0 := E_x0.keep K'
  have sz : n0 ≤ h1.size := Nat.le_trans sz K'.1
  have K := K.trans K' (allS (Or.inl (List.mem_of_getElem? (i := 0) rfl)) all0)
  exact leafV X hx hlk hret (hb hby d17_10) (by decide) (by decide) (by rw [eT]; exact ⟨rfl, N, K⟩)
theorem own_sg {vs : List Value} {i j : Nat} {v : Value} (h : vs[i]? = some v) (hj : j < vs.length) : (vs.set j v)[i]? = some v := by
  rw [List.getElem?_set]; split
  · rename_i e; subst e; simp [hj]
  · exact h
theorem d30_0 : decode jdk_38_method_18_code 0 = .ok (.aload_n 0, 1) := by decide +kernel
theorem d30_1 : decode jdk_38_method_18_code 1 = .ok (.getfield 9, 3) := by decide +kernel
theorem d30_4 : decode jdk_38_method_18_code 4 = .ok (.iload_n 1, 1) := by decide +kernel
theorem d30_5 : decode jdk_38_method_18_code 5 = .ok (.aaload, 1) := by decide +kernel
theorem d30_6 : decode jdk_38_method_18_code 6 = .ok (.areturn, 1) := by decide +kernel
theorem pn_30 : plainFor (⟨"java/util/ArrayList", "elementData", "(I)Ljava/lang/Object;"⟩ : MethodName) = true := plainFor_of_name (by first | (simp [plainName, overriddenIn]; done) | decide +kernel)
theorem ef_30 (m : MethodId) (x0 : Addr) (x1 : Int32) : entryFrame m #[(.ref x0), (.int x1)] 2 = mkF m 0 #[.val (.ref x0), .val (.int x1)] [] := by first | (simp [entryFrame, mkF, argsToLocals, Value.category]; done) | rfl
set_option maxRecDepth 65536 in
set_option maxHeartbeats 40000000 in
theorem rm30 (l : Launch) (Z : State) (a0 : Array Value) (hw : ∀ d ∈ tables_1, d.before a0 Z = true) (ws : List Jvm.Cond) (x0 : Addr) (x1 : Int32) (dd : Addr) (vs : List Value) (ni : Nat) (ki : Addr) (h0 : Heap) (n0 : Nat) (sz : n0 ≤ h0.size) (F_x0_elementData : Fld Z h0 x0 "java/util/ArrayList" "elementData" "[Ljava/lang/Object;" (.ref dd)) (E_x0 : Exa Z h0 x0 "java/util/ArrayList") (A_dd : AO Z h0 dd vs) (hn0 : ¬ x1 < 0) (hni : x1.toNatClampNeg = ni) (hv : vs[ni]? = some (.ref ki)) :
    Ctr l (⟨"java/util/ArrayList", "elementData", "(I)Ljava/lang/Object;"⟩ : MethodName) jdk_38_method_18_code 2 (some (.object "java/lang/Object")) ws ({ frames := 0, cells := 0, slots := 0, locals := 0 } : Room) Z #[(.ref x0), (.int x1)] h0 (fun v h L => v = some (.ref ki) ∧ h = h0 ∧ Fr n0 L) 0 0 := by
  refine Ctr.mk pn_30 ?_
  intro p e s m below meth c T hx hby hml hown hnm hlk hret hZ X eT
  have N := Fr.nil n0
  refine enter (ef_30 m x0 x1) ?_
  refine s_aloadN X hx (hb hby d30_0) rfl rfl (q := 1) rfl ?_
  refine s_getF X hx hZ hown (hw _ (List.mem_of_getElem? (i := 31) rfl)) eT F_x0_elementData (hb hby d30_1) (q := 4) rfl ?_
  intro T X eT
  refine s_iloadN X hx (hb hby d30_4) rfl (q := 5) rfl ?_
  refine s_aaload X hx hZ eT (v := (.ref ki)) A_dd hn0 (i := ni) hni hv (hb hby d30_5) (q := 6) rfl ?_
  exact leafA X hx hlk hret rfl rfl (hb hby d30_6) (by decide) (by decide) ⟨rfl, eT, N⟩
theorem d27_0 : decode jdk_38_method_20_code 0 = .ok (.iload_n 1, 1) := by decide +kernel
theorem d27_1 : decode jdk_38_method_20_code 1 = .ok (.aload_n 0, 1) := by decide +kernel
theorem d27_2 : decode jdk_38_method_20_code 2 = .ok (.getfield 48, 3) := by decide +kernel
theorem d27_5 : decode jdk_38_method_20_code 5 = .ok (.invokestatic 118, 3) := by decide +kernel
theorem d27_8 : decode jdk_38_method_20_code 8 = .ok (.pop, 1) := by decide +kernel
theorem d27_9 : decode jdk_38_method_20_code 9 = .ok (.aload_n 0, 1) := by decide +kernel
theorem d27_10 : decode jdk_38_method_20_code 10 = .ok (.iload_n 1, 1) := by decide +kernel
theorem d27_11 : decode jdk_38_method_20_code 11 = .ok (.invokevirtual 123, 3) := by decide +kernel
theorem d27_14 : decode jdk_38_method_20_code 14 = .ok (.areturn, 1) := by decide +kernel
theorem pn_27 : plainFor (⟨"java/util/ArrayList", "get", "(I)Ljava/lang/Object;"⟩ : MethodName) = true := plainFor_of_name (by first | (simp [plainName, overriddenIn]; done) | decide +kernel)
theorem ef_27 (m : MethodId) (x0 : Addr) (x1 : Int32) : entryFrame m #[(.ref x0), (.int x1)] 2 = mkF m 0 #[.val (.ref x0), .val (.int x1)] [] := by first | (simp [entryFrame, mkF, argsToLocals, Value.category]; done) | rfl
theorem pd6 : parseMethodDescriptor "(II)I" = some ⟨[.int, .int], some .int⟩ := by decide +kernel
theorem pd7 : parseMethodDescriptor "(I)Ljava/lang/Object;" = some ⟨[.int], some (.object "java/lang/Object")⟩ := by decide +kernel
set_option maxRecDepth 65536 in
set_option maxHeartbeats 40000000 in
theorem rm27 (l : Launch) (Z : State) (a0 : Array Value) (hw : ∀ d ∈ tables_1, d.before a0 Z = true) (ws : List Jvm.Cond) (x0 : Addr) (x1 : Int32) (z : Int32) (dd : Addr) (vs : List Value) (ni : Nat) (ki : Addr) (h0 : Heap) (n0 : Nat) (sz : n0 ≤ h0.size) (F_x0_elementData : Fld Z h0 x0 "java/util/ArrayList" "elementData" "[Ljava/lang/Object;" (.ref dd)) (F_x0_size : Fld Z h0 x0 "java/util/ArrayList" "size" "I" (.int z)) (E_x0 : Exa Z h0 x0 "java/util/ArrayList") (A_dd : AO Z h0 dd vs) (hn0 : ¬ x1 < 0) (hn1 : x1 < z) (hni : x1.toNatClampNeg = ni) (hv : vs[ni]? = some (.ref ki)) :
    Ctr l (⟨"java/util/ArrayList", "get", "(I)Ljava/lang/Object;"⟩ : MethodName) jdk_38_method_20_code 2 (some (.object "java/lang/Object")) ws ({ frames := 2, cells := 0, slots := 0, locals := 27 } : Room) Z #[(.ref x0), (.int x1)] h0 (fun v h L => v = some (.ref ki) ∧ h = h0 ∧ Fr n0 L) 0 0 := by
  refine Ctr.mk pn_27 ?_
  intro p e s m below meth c T hx hby hml hown hnm hlk hret hZ X eT
  have N := Fr.nil n0
  refine enter (ef_27 m x0 x1) ?_
  have ne_x0_dd := own_neA E_x0 (hw _ (List.mem_of_getElem? (i := 10) rfl)) A_dd
  refine s_iloadN X hx (hb hby d27_0) rfl (q := 1) rfl ?_
  refine s_aloadN X hx (hb hby d27_1) rfl rfl (q := 2) rfl ?_
  refine s_getF X hx hZ hown (hw _ (List.mem_of_getElem? (i := 91) rfl)) eT F_x0_size (hb hby d27_2) (q := 5) rfl ?_
  intro T X eT
  refine callP X hx hZ hown (W := 0) (argsL := [(.int x1), (.int z)]) (rest := []) (hw _ (List.mem_of_getElem? (i := 178) rfl)) (hw _ (List.mem_of_getElem? (i := 179) rfl)) (hw _ (List.mem_of_getElem? (i := 180) rfl)) (hw _ (List.mem_of_getElem? (i := 181) rfl)) (by decide) (rm28 l Z a0 hw [] x1 z h0 hn0 hn1) rfl rfl eT (by decide) (by decide) (by decide) (by decide) (by rw [hml]; rfl) pd6 rfl rfl (Nat.le_of_ble_eq_true rfl) (hb hby d27_5) (q := 8) rfl ?_
  intro T X eT
  refine s_pop X hx (hb hby d27_8) rfl (q := 9) rfl ?_
  refine s_aloadN X hx (hb hby d27_9) rfl rfl (q := 10) rfl ?_
  refine s_iloadN X hx (hb hby d27_10) rfl (q := 11) rfl ?_
  refine callV X hx hZ hown (W := 0) (argsL := [(.int x1)]) (rest := []) (hw _ (List.mem_of_getElem? (i := 186) rfl)) (hw _ (List.mem_of_getElem? (i := 187) rfl)) (hw _ (List.mem_of_getElem? (i := 189) rfl)) (hw _ (List.mem_of_getElem? (i := 188) rfl)) (hw _ (List.mem_of_getElem? (i := 11) rfl)) (hw _ (List.mem_of_getElem? (i := 190) rfl)) (by decide) E_x0 (rm30 l Z a0 hw [] x0 x1 dd vs ni ki h0 n0 sz F_x0_elementData E_x0 A_dd hn0 hni hv) eT (by decide) (by decide) (by decide) (by decide) (by rw [hml]; rfl) pd7 rfl rfl (Nat.le_of_ble_eq_true rfl) (hb hby d27_11) (q := 14) rfl ?_
  intro v T Lc hQ X
  obtain ⟨rfl, eT, N'⟩ := hQ
  have N := Fr.app N N'
  exact leafA X hx hlk hret rfl rfl (hb hby d27_14) (by decide) (by decide) ⟨rfl, eT, N⟩
theorem d31_0 : decode jdk_38_method_23_code 0 = .ok (.iload_n 1, 1) := by decide +kernel
theorem d31_1 : decode jdk_38_method_23_code 1 = .ok (.aload_n 0, 1) := by decide +kernel
theorem d31_2 : decode jdk_38_method_23_code 2 = .ok (.getfield 48, 3) := by decide +kernel
theorem d31_5 : decode jdk_38_method_23_code 5 = .ok (.invokestatic 118, 3) := by decide +kernel
theorem d31_8 : decode jdk_38_method_23_code 8 = .ok (.pop, 1) := by decide +kernel
theorem d31_9 : decode jdk_38_method_23_code 9 = .ok (.aload_n 0, 1) := by decide +kernel
theorem d31_10 : decode jdk_38_method_23_code 10 = .ok (.iload_n 1, 1) := by decide +kernel
theorem d31_11 : decode jdk_38_method_23_code 11 = .ok (.invokevirtual 123, 3) := by decide +kernel
theorem d31_14 : decode jdk_38_method_23_code 14 = .ok (.astore_n 3, 1) := by decide +kernel
theorem d31_15 : decode jdk_38_method_23_code 15 = .ok (.aload_n 0, 1) := by decide +kernel
theorem d31_16 : decode jdk_38_method_23_code 16 = .ok (.getfield 9, 3) := by decide +kernel
theorem d31_19 : decode jdk_38_method_23_code 19 = .ok (.iload_n 1, 1) := by decide +kernel
theorem d31_20 : decode jdk_38_method_23_code 20 = .ok (.aload_n 2, 1) := by decide +kernel
theorem d31_21 : decode jdk_38_method_23_code 21 = .ok (.aastore, 1) := by decide +kernel
theorem d31_22 : decode jdk_38_method_23_code 22 = .ok (.aload_n 3, 1) := by decide +kernel
theorem d31_23 : decode jdk_38_method_23_code 23 = .ok (.areturn, 1) := by decide +kernel
theorem pn_31 : plainFor (⟨"java/util/ArrayList", "set", "(ILjava/lang/Object;)Ljava/lang/Object;"⟩ : MethodName) = true := plainFor_of_name (by first | (simp [plainName, overriddenIn]; done) | decide +kernel)
theorem ef_31 (m : MethodId) (x0 : Addr) (x1 : Int32) (x2 : Addr) : entryFrame m #[(.ref x0), (.int x1), (.ref x2)] 4 = mkF m 0 #[.val (.ref x0), .val (.int x1), .val (.ref x2), .unset] [] := by first | (simp [entryFrame, mkF, argsToLocals, Value.category]; done) | rfl
set_option maxRecDepth 65536 in
set_option maxHeartbeats 40000000 in
theorem rm31 (l : Launch) (Z : State) (a0 : Array Value) (hw : ∀ d ∈ tables_1, d.before a0 Z = true) (ws : List Jvm.Cond) (x0 : Addr) (x1 : Int32) (x2 : Addr) (z : Int32) (dd : Addr) (vs : List Value) (ni : Nat) (ki : Addr) (h0 : Heap) (n0 : Nat) (sz : n0 ≤ h0.size) (F_x0_elementData : Fld Z h0 x0 "java/util/ArrayList" "elementData" "[Ljava/lang/Object;" (.ref dd)) (F_x0_size : Fld Z h0 x0 "java/util/ArrayList" "size" "I" (.int z)) (E_x0 : Exa Z h0 x0 "java/util/ArrayList") (A_dd : AO Z h0 dd vs) (E_x2 : Exa Z h0 x2 "com/example/cistern/cistern/ReservoirSampler$Kept") (g_dd : n0 ≤ dd) (hn0 : ¬ x1 < 0) (hn1 : x1 < z) (hni : x1.toNatClampNeg = ni) (hv : vs[ni]? = some (.ref ki)) :
    Ctr l (⟨"java/util/ArrayList", "set", "(ILjava/lang/Object;)Ljava/lang/Object;"⟩ : MethodName) jdk_38_method_23_code 4 (some (.object "java/lang/Object")) ws ({ frames := 2, cells := 0, slots := 0, locals := 27 } : Room) Z #[(.ref x0), (.int x1), (.ref x2)] h0 (fun v h L => v = some (.ref ki) ∧ Fr n0 L ∧ Keep h0 h [dd] ∧ AO Z h dd (vs.set ni (.ref x2))) 0 0 := by
  refine Ctr.mk pn_31 ?_
  intro p e s m below meth c T hx hby hml hown hnm hlk hret hZ X eT
  have N := Fr.nil n0
  refine enter (ef_31 m x0 x1 x2) ?_
  have K := Keep.refl h0 [dd]
  have ne_x0_dd := own_neA E_x0 (hw _ (List.mem_of_getElem? (i := 10) rfl)) A_dd
  have ne_x0_x2 := ne_exa E_x0 E_x2 (by decide)
  have ne_x2_dd := own_neA E_x2 (hw _ (List.mem_of_getElem? (i := 106) rfl)) A_dd
  refine s_iloadN X hx (hb hby d31_0) rfl (q := 1) rfl ?_
  refine s_aloadN X hx (hb hby d31_1) rfl rfl (q := 2) rfl ?_
  refine s_getF X hx hZ hown (hw _ (List.mem_of_getElem? (i := 91) rfl)) eT F_x0_size (hb hby d31_2) (q := 5) rfl ?_
  intro T X eT
  refine callP X hx hZ hown (W := 0) (argsL := [(.int x1), (.int z)]) (rest := []) (hw _ (List.mem_of_getElem? (i := 178) rfl)) (hw _ (List.mem_of_getElem? (i := 179) rfl)) (hw _ (List.mem_of_getElem? (i := 180) rfl)) (hw _ (List.mem_of_getElem? (i := 181) rfl)) (by decide) (rm28 l Z a0 hw [] x1 z h0 hn0 hn1) rfl rfl eT (by decide) (by decide) (by decide) (by decide) (by rw [hml]; rfl) pd6 rfl rfl (Nat.le_of_ble_eq_true rfl) (hb hby d31_5) (q := 8) rfl ?_
  intro T X eT
  refine s_pop X hx (hb hby d31_8) rfl (q := 9) rfl ?_
  refine s_aloadN X hx (hb hby d31_9) rfl rfl (q := 10) rfl ?_
  refine s_iloadN X hx (hb hby d31_10) rfl (q := 11) rfl ?_
  refine callV X hx hZ hown (W := 0) (argsL := [(.int x1)]) (rest := []) (hw _ (List.mem_of_getElem? (i := 186) rfl)) (hw _ (List.mem_of_getElem? (i := 187) rfl)) (hw _ (List.mem_of_getElem? (i := 189) rfl)) (hw _ (List.mem_of_getElem? (i := 188) rfl)) (hw _ (List.mem_of_getElem? (i := 11) rfl)) (hw _ (List.mem_of_getElem? (i := 190) rfl)) (by decide) E_x0 (rm30 l Z a0 hw [] x0 x1 dd vs ni ki h0 n0 sz F_x0_elementData E_x0 A_dd hn0 hni hv) eT (by decide) (by decide) (by decide) (by decide) (by rw [hml]; rfl) pd7 rfl rfl (Nat.le_of_ble_eq_true rfl) (hb hby d31_11) (q := 14) rfl ?_
  intro v T Lc hQ X
  obtain ⟨rfl, eT, N'⟩ := hQ
  have N := Fr.app N N'
  refine s_astoreN X hx (hb hby d31_14) rfl (L' := #[.val (.ref x0), .val (.int x1), .val (.ref x2), .val (.ref ki)]) rfl (q := 15) rfl ?_
  refine s_aloadN X hx (hb hby d31_15) rfl rfl (q := 16) rfl ?_
  refine s_getF X hx hZ hown (hw _ (List.mem_of_getElem? (i := 31) rfl)) eT F_x0_elementData (hb hby d31_16) (q := 19) rfl ?_
  intro T X eT
  refine s_iloadN X hx (hb hby d31_19) rfl (q := 20) rfl ?_
  refine s_aloadN X hx (hb hby d31_20) rfl rfl (q := 21) rfl ?_
  refine s_aastore X hx hZ eT A_dd N g_dd (Or.inr ⟨_, rfl, Ins.of_exa E_x2 (hw _ (List.mem_of_getElem? (i := 151) rfl))⟩) hn0 (i := ni) hni (List.getElem?_eq_some_iff.mp hv).1 (us := (vs.set ni (.ref x2))) rfl (hb hby d31_21) (q := 22) rfl ?_
  intro T h1 _ X N eT W A_dd'
  have E_x0 := E_x0.wr W
  have F_x0_elementData := F_x0_elementData.other W (Or.inl ne_x0_dd)
  have F_x0_size := F_x0_size.other W (Or.inl ne_x0_dd)
  have E_x2 := E_x2.wr W
  have K := K.wr W (Or.inl (List.mem_of_getElem? (i := 0) rfl))
  have sz : n0 ≤ h1.size := by rw [W.size]; exact sz
  have A_dd := A_dd'
  refine s_aloadN X hx (hb hby d31_22) rfl rfl (q := 23) rfl ?_
  exact leafA X hx hlk hret rfl rfl (hb hby d31_23) (by decide) (by decide) (by rw [eT]; exact ⟨rfl, N, K, A_dd⟩)
theorem d26_0 : decode jdk_79_method_15_code 0 = .ok (.aload_n 0, 1) := by decide +kernel
theorem d26_1 : decode jdk_79_method_15_code 1 = .ok (.astore_n 3, 1) := by decide +kernel
theorem d26_2 : decode jdk_79_method_15_code 2 = .ok (.aload_n 3, 1) := by decide +kernel
theorem d26_3 : decode jdk_79_method_15_code 3 = .ok (.iload_n 1, 1) := by decide +kernel
theorem d26_4 : decode jdk_79_method_15_code 4 = .ok (.aload_n 3, 1) := by decide +kernel
theorem d26_5 : decode jdk_79_method_15_code 5 = .ok (.iload_n 2, 1) := by decide +kernel
theorem d26_6 : decode jdk_79_method_15_code 6 = .ok (.aload_n 3, 1) := by decide +kernel
theorem d26_7 : decode jdk_79_method_15_code 7 = .ok (.iload_n 1, 1) := by decide +kernel
theorem d26_8 : decode jdk_79_method_15_code 8 = .ok (.invokeinterface 28 2, 5) := by decide +kernel
theorem d26_13 : decode jdk_79_method_15_code 13 = .ok (.invokeinterface 109 3, 5) := by decide +kernel
theorem d26_18 : decode jdk_79_method_15_code 18 = .ok (.invokeinterface 109 3, 5) := by decide +kernel
theorem d26_23 : decode jdk_79_method_15_code 23 = .ok (.pop, 1) := by decide +kernel
theorem d26_24 : decode jdk_79_method_15_code 24 = .ok (.return_, 1) := by decide +kernel
theorem pn_26 : plainFor (⟨"java/util/Collections", "swap", "(Ljava/util/List;II)V"⟩ : MethodName) = true := plainFor_of_name (by first | (simp [plainName, overriddenIn]; done) | decide +kernel)
theorem ef_26 (m : MethodId) (x0 : Addr) (x1 : Int32) (x2 : Int32) : entryFrame m #[(.ref x0), (.int x1), (.int x2)] 4 = mkF m 0 #[.val (.ref x0), .val (.int x1), .val (.int x2), .unset] [] := by first | (simp [entryFrame, mkF, argsToLocals, Value.category]; done) | rfl
theorem pd8 : parseMethodDescriptor "(ILjava/lang/Object;)Ljava/lang/Object;" = some ⟨[.int, (.object "java/lang/Object")], some (.object "java/lang/Object")⟩ := by decide +kernel
set_option maxRecDepth 65536 in
set_option maxHeartbeats 40000000 in
theorem rm26 (l : Launch) (Z : State) (a0 : Array Value) (hw : ∀ d ∈ tables_1, d.before a0 Z = true) (ws : List Jvm.Cond) (x0 : Addr) (x1 : Int32) (x2 : Int32) (z : Int32) (dd : Addr) (vs : List Value) (ni : Nat) (ki : Addr) (nj : Nat) (kj : Addr) (h0 : Heap) (n0 : Nat) (sz : n0 ≤ h0.size) (F_x0_elementData : Fld Z h0 x0 "java/util/ArrayList" "elementData" "[Ljava/lang/Object;" (.ref dd)) (F_x0_size : Fld Z h0 x0 "java/util/ArrayList" "size" "I" (.int z)) (E_x0 : Exa Z h0 x0 "java/util/ArrayList") (A_dd : AO Z h0 dd vs) (E_ki : Exa Z h0 ki "com/example/cistern/cistern/ReservoirSampler$Kept") (E_kj : Exa Z h0 kj "com/example/cistern/cistern/ReservoirSampler$Kept") (g_dd : n0 ≤ dd) (hn0 : ¬ x1 < 0) (hn1 : x1 < z) (hni : x1.toNatClampNeg = ni) (hv : vs[ni]? = some (.ref ki)) (hm0 : ¬ x2 < 0) (hm1 : x2 < z) (hmj : x2.toNatClampNeg = nj) (hvj : vs[nj]? = some (.ref kj)) :
    Ctr l (⟨"java/util/Collections", "swap", "(Ljava/util/List;II)V"⟩ : MethodName) jdk_79_method_15_code 4 none ws ({ frames := 3, cells := 0, slots := 0, locals := 44 } : Room) Z #[(.ref x0), (.int x1), (.int x2)] h0 (fun v h L => v = none ∧ Fr n0 L ∧ Keep h0 h [dd] ∧ AO Z h dd ((vs.set nj (.ref ki)).set ni (.ref kj))) 0 0 := by
  refine Ctr.mk pn_26 ?_
  intro p e s m below meth c T hx hby hml hown hnm hlk hret hZ X eT
  have N := Fr.nil n0
  refine enter (ef_26 m x0 x1 x2) ?_
  have K := Keep.refl h0 [dd]
  have ne_x0_dd := own_neA E_x0 (hw _ (List.mem_of_getElem? (i := 10) rfl)) A_dd
  refine s_aloadN X hx (hb hby d26_0) rfl rfl (q := 1) rfl ?_
  refine s_astoreN X hx (hb hby d26_1) rfl (L' := #[.val (.ref x0), .val (.int x1), .val (.int x2), .val (.ref x0)]) rfl (q := 2) rfl ?_
  refine s_aloadN X hx (hb hby d26_2) rfl rfl (q := 3) rfl ?_
  refine s_iloadN X hx (hb hby d26_3) rfl (q := 4) rfl ?_
  refine s_aloadN X hx (hb hby d26_4) rfl rfl (q := 5) rfl ?_
  refine s_iloadN X hx (hb hby d26_5) rfl (q := 6) rfl ?_
  refine s_aloadN X hx (hb hby d26_6) rfl rfl (q := 7) rfl ?_
  refine s_iloadN X hx (hb hby d26_7) rfl (q := 8) rfl ?_
  refine callF X hx hZ hown (W := 4) (argsL := [(.int x1)]) (rest := [(.int x2), (.ref x0), (.int x1), (.ref x0)]) (xi := (⟨"java/util/List", "get", "(I)Ljava/lang/Object;"⟩ : MethodName)) (y := (⟨"java/util/ArrayList", "get", "(I)Ljava/lang/Object;"⟩ : MethodName)) (hw _ (List.mem_of_getElem? (i := 170) rfl)) (hw _ (List.mem_of_getElem? (i := 171) rfl)) (hw _ (List.mem_of_getElem? (i := 172) rfl)) rfl (hw _ (List.mem_of_getElem? (i := 173) rfl)) (hw _ (List.mem_of_getElem? (i := 174) rfl)) (hw _ (List.mem_of_getElem? (i := 175) rfl)) (hw _ (List.mem_of_getElem? (i := 176) rfl)) (hw _ (List.mem_of_getElem? (i := 89) rfl)) (hw _ (List.mem_of_getElem? (i := 11) rfl)) (hw _ (List.mem_of_getElem? (i := 177) rfl)) (by decide) E_x0 (rm27 l Z a0 hw [] x0 x1 z dd vs ni ki h0 n0 sz F_x0_elementData F_x0_size E_x0 A_dd hn0 hn1 hni hv) eT (by decide) (by decide) (by decide) (by decide) (by rw [hml]; rfl) pd7 rfl rfl (Nat.le_of_ble_eq_true rfl) (hb hby d26_8) (q := 13) rfl ?_
  intro v T Lc hQ X
  obtain ⟨rfl, eT, N'⟩ := hQ
  have N := Fr.app N N'
  refine callF X hx hZ hown (W := 2) (argsL := [(.int x2), (.ref ki)]) (rest := [(.int x1), (.ref x0)]) (xi := (⟨"java/util/List", "set", "(ILjava/lang/Object;)Ljava/lang/Object;"⟩ : MethodName)) (y := (⟨"java/util/ArrayList", "set", "(ILjava/lang/Object;)Ljava/lang/Object;"⟩ : MethodName)) (hw _ (List.mem_of_getElem? (i := 191) rfl)) (hw _ (List.mem_of_getElem? (i := 192) rfl)) (hw _ (List.mem_of_getElem? (i := 193) rfl)) rfl (hw _ (List.mem_of_getElem? (i := 194) rfl)) (hw _ (List.mem_of_getElem? (i := 195) rfl)) (hw _ (List.mem_of_getElem? (i := 196) rfl)) (hw _ (List.mem_of_getElem? (i := 197) rfl)) (hw _ (List.mem_of_getElem? (i := 89) rfl)) (hw _ (List.mem_of_getElem? (i := 11) rfl)) (hw _ (List.mem_of_getElem? (i := 198) rfl)) (by decide) E_x0 (rm31 l Z a0 hw [] x0 x2 ki z dd vs nj kj h0 n0 sz F_x0_elementData F_x0_size E_x0 A_dd E_ki g_dd hm0 hm1 hmj hvj) eT (by decide) (by decide) (by decide) (by decide) (by rw [hml]; rfl) pd8 rfl rfl (Nat.le_of_ble_eq_true rfl) (hb hby d26_13) (q := 18) rfl ?_
  intro v T Lc hQ X
  obtain ⟨h1, eT⟩ : ∃ z, T.heap = z := ⟨_, rfl⟩
  rw [eT] at hQ
  obtain ⟨rfl, N', K', A_dd'⟩ := hQ
  have N := Fr.app N N'
  have E_x0 := E_x0.keep K'
  have F_x0_elementData := F_x0_elementData.keep K' (ninS ne_x0_dd nin0)
  have F_x0_size := F_x0_size.keep K' (ninS ne_x0_dd nin0)
  have E_ki := E_ki.keep K'
  have E_kj := E_kj.keep K'
  have sz : n0 ≤ h1.size := Nat.le_trans sz K'.1
  have K := K.trans K' (allS (Or.inl (List.mem_of_getElem? (i := 0) rfl)) all0)
  have A_dd : AO Z h1 dd (vs.set nj (.ref ki)) := A_dd'
  refine callF X hx hZ hown (W := 0) (argsL := [(.int x1), (.ref kj)]) (rest := []) (xi := (⟨"java/util/List", "set", "(ILjava/lang/Object;)Ljava/lang/Object;"⟩ : MethodName)) (y := (⟨"java/util/ArrayList", "set", "(ILjava/lang/Object;)Ljava/lang/Object;"⟩ : MethodName)) (hw _ (List.mem_of_getElem? (i := 191) rfl)) (hw _ (List.mem_of_getElem? (i := 192) rfl)) (hw _ (List.mem_of_getElem? (i := 193) rfl)) rfl (hw _ (List.mem_of_getElem? (i := 194) rfl)) (hw _ (List.mem_of_getElem? (i := 195) rfl)) (hw _ (List.mem_of_getElem? (i := 196) rfl)) (hw _ (List.mem_of_getElem? (i := 197) rfl)) (hw _ (List.mem_of_getElem? (i := 89) rfl)) (hw _ (List.mem_of_getElem? (i := 11) rfl)) (hw _ (List.mem_of_getElem? (i := 198) rfl)) (by decide) E_x0 (rm31 l Z a0 hw [] x0 x1 kj z dd (vs.set nj (.ref ki)) ni ki h1 n0 sz F_x0_elementData F_x0_size E_x0 A_dd E_kj g_dd hn0 hn1 hni (own_sg hv (own_inl hvj))) eT (by decide) (by decide) (by decide) (by decide) (by rw [hml]; rfl) pd8 rfl rfl (Nat.le_of_ble_eq_true rfl) (hb hby d26_18) (q := 23) rfl ?_
  intro v T Lc hQ X
  obtain ⟨h2, eT⟩ : ∃ z, T.heap = z := ⟨_, rfl⟩
  rw [eT] at hQ
  obtain ⟨rfl, N', K', A_dd'⟩ := hQ
  have N := Fr.app N N'
  have E_x0 := E_x0.keep K'
  have F_x0_elementData := F_x0_elementData.keep K' (ninS ne_x0_dd nin0)
  have F_x0_size := F_x0_size.keep K' (ninS ne_x0_dd nin0)
  have E_ki := E_ki.keep K'
  have E_kj := E_kj.keep K'
  have sz : n0 ≤ h2.size := Nat.le_trans sz K'.1
  have K := K.trans K' (allS (Or.inl (List.mem_of_getElem? (i := 0) rfl)) all0)
  have A_dd : AO Z h2 dd ((vs.set nj (.ref ki)).set ni (.ref kj)) := A_dd'
  refine s_pop X hx (hb hby d26_23) rfl (q := 24) rfl ?_
  exact leafV X hx hlk hret (hb hby d26_24) (by decide) (by decide) (by rw [eT]; exact ⟨rfl, N, K, A_dd⟩)
theorem d22_0 : decode jdk_38_method_6_code 0 = .ok (.aload_n 0, 1) := by decide +kernel
theorem d22_1 : decode jdk_38_method_6_code 1 = .ok (.getfield 9, 3) := by decide +kernel
theorem d22_4 : decode jdk_38_method_6_code 4 = .ok (.arraylength, 1) := by decide +kernel
theorem d22_5 : decode jdk_38_method_6_code 5 = .ok (.istore_n 2, 1) := by decide +kernel
theorem d22_6 : decode jdk_38_method_6_code 6 = .ok (.iload_n 2, 1) := by decide +kernel
theorem d22_7 : decode jdk_38_method_6_code 7 = .ok (.ifCond .gt 13, 3) := by decide +kernel
theorem d22_10 : decode jdk_38_method_6_code 10 = .ok (.aload_n 0, 1) := by decide +kernel
theorem d22_11 : decode jdk_38_method_6_code 11 = .ok (.getfield 9, 3) := by decide +kernel
theorem d22_14 : decode jdk_38_method_6_code 14 = .ok (.getstatic 39, 3) := by decide +kernel
theorem d22_17 : decode jdk_38_method_6_code 17 = .ok (.if_acmp .eq 28, 3) := by decide +kernel
theorem d22_20 : decode jdk_38_method_6_code 20 = .ok (.iload_n 2, 1) := by decide +kernel
theorem d22_21 : decode jdk_38_method_6_code 21 = .ok (.iload_n 1, 1) := by decide +kernel
theorem d22_22 : decode jdk_38_method_6_code 22 = .ok (.iload_n 2, 1) := by decide +kernel
theorem d22_23 : decode jdk_38_method_6_code 23 = .ok (.isub, 1) := by decide +kernel
theorem d22_24 : decode jdk_38_method_6_code 24 = .ok (.iload_n 2, 1) := by decide +kernel
theorem d22_25 : decode jdk_38_method_6_code 25 = .ok (.iconst 1, 1) := by decide +kernel
theorem d22_26 : decode jdk_38_method_6_code 26 = .ok (.ishr, 1) := by decide +kernel
theorem d22_27 : decode jdk_38_method_6_code 27 = .ok (.invokestatic 73, 3) := by decide +kernel
theorem d22_30 : decode jdk_38_method_6_code 30 = .ok (.istore_n 3, 1) := by decide +kernel
theorem d22_31 : decode jdk_38_method_6_code 31 = .ok (.aload_n 0, 1) := by decide +kernel
theorem d22_32 : decode jdk_38_method_6_code 32 = .ok (.aload_n 0, 1) := by decide +kernel
theorem d22_33 : decode jdk_38_method_6_code 33 = .ok (.getfield 9, 3) := by decide +kernel
theorem d22_36 : decode jdk_38_method_6_code 36 = .ok (.iload_n 3, 1) := by decide +kernel
theorem d22_37 : decode jdk_38_method_6_code 37 = .ok (.invokestatic 66, 3) := by decide +kernel
theorem d22_40 : decode jdk_38_method_6_code 40 = .ok (.dup_x1, 1) := by decide +kernel
theorem d22_41 : decode jdk_38_method_6_code 41 = .ok (.putfield 9, 3) := by decide +kernel
theorem d22_44 : decode jdk_38_method_6_code 44 = .ok (.areturn, 1) := by decide +kernel
theorem d22_45 : decode jdk_38_method_6_code 45 = .ok (.aload_n 0, 1) := by decide +kernel
theorem d22_46 : decode jdk_38_method_6_code 46 = .ok (.bipush 10, 2) := by decide +kernel
theorem d22_48 : decode jdk_38_method_6_code 48 = .ok (.iload_n 1, 1) := by decide +kernel
theorem d22_49 : decode jdk_38_method_6_code 49 = .ok (.invokestatic 79, 3) := by decide +kernel
theorem d22_52 : decode jdk_38_method_6_code 52 = .ok (.anewarray 7, 3) := by decide +kernel
theorem d22_55 : decode jdk_38_method_6_code 55 = .ok (.dup_x1, 1) := by decide +kernel
theorem d22_56 : decode jdk_38_method_6_code 56 = .ok (.putfield 9, 3) := by decide +kernel
theorem d22_59 : decode jdk_38_method_6_code 59 = .ok (.areturn, 1) := by decide +kernel
theorem pn_22 : plainFor (⟨"java/util/ArrayList", "grow", "(I)[Ljava/lang/Object;"⟩ : MethodName) = true := plainFor_of_name (by first | (simp [plainName, overriddenIn]; done) | decide +kernel)
theorem ef_22 (m : MethodId) (x0 : Addr) (x1 : Int32) : entryFrame m #[(.ref x0), (.int x1)] 4 = mkF m 0 #[.val (.ref x0), .val (.int x1), .unset, .unset] [] := by first | (simp [entryFrame, mkF, argsToLocals, Value.category]; done) | rfl
set_option maxRecDepth 65536 in
set_option maxHeartbeats 40000000 in
theorem rm22 (l : Launch) (Z : State) (a0 : Array Value) (hw : ∀ d ∈ tables_1, d.before a0 Z = true) (ws : List Jvm.Cond) (x0 : Addr)  (d0 : Addr) (h0 : Heap) (n0 : Nat) (sz : n0 ≤ h0.size) (F_x0_elementData : Fld Z h0 x0 "java/util/ArrayList" "elementData" "[Ljava/lang/Object;" (.ref d0)) (F_x0_size : Fld Z h0 x0 "java/util/ArrayList" "size" "I" (.int (0 : Int32))) (F_x0_modCount : Fld Z h0 x0 "java/util/AbstractList" "modCount" "I" (.int (1 : Int32))) (E_x0 : Exa Z h0 x0 "java/util/ArrayList") (g_x0 : n0 ≤ x0) (S0 : Sta Z Z.heap "java/util/ArrayList" "DEFAULTCAPACITY_EMPTY_ELEMENTDATA" "[Ljava/lang/Object;" (.ref d0)) (A0 : AV Z Z.heap d0 (.object "java/lang/Object") []) (O_old : Old Z n0 h0) :
    Ctr l (⟨"java/util/ArrayList", "grow", "(I)[Ljava/lang/Object;"⟩ : MethodName) jdk_38_method_6_code 4 (some (.array (.object "java/lang/Object"))) ws ({ frames := 1, cells := 1, slots := 10, locals := 14 } : Room) Z #[(.ref x0), (.int (1 : Int32))] h0 (fun v h L => ∃ dd : Addr, v = some (.ref dd) ∧ Fr n0 L ∧ Keep h0 h [x0] ∧ Fld Z h x0 "java/util/ArrayList" "elementData" "[Ljava/lang/Object;" (.ref dd) ∧ Fld Z h x0 "java/util/ArrayList" "size" "I" (.int (0 : Int32)) ∧ Fld Z h x0 "java/util/AbstractList" "modCount" "I" (.int (1 : Int32)) ∧ AO Z h dd [.null, .null, .null, .null, .null, .null, .null, .null, .null, .null] ∧ h0.size ≤ dd) 1 10 := by
  refine Ctr.mk pn_22 ?_
  intro p e s m below meth c T hx hby hml hown hnm hlk hret hZ X eT
  have N := Fr.nil n0
  refine enter (ef_22 m x0 (1 : Int32)) ?_
  have K := Keep.refl h0 [x0]
  refine s_aloadN X hx (hb hby d22_0) rfl rfl (q := 1) rfl ?_
  refine s_getF X hx hZ hown (hw _ (List.mem_of_getElem? (i := 31) rfl)) eT F_x0_elementData (hb hby d22_1) (q := 4) rfl ?_
  intro T X eT
  refine s_lenV X hx hZ eT (z := (0 : Int32)) (A0.ext O_old.2) rfl (hb hby d22_4) (q := 5) rfl ?_
  refine s_istoreN X hx (hb hby d22_5) (L' := #[.val (.ref x0), .val (.int (1 : Int32)), .val (.int (0 : Int32)), .unset]) rfl (q := 6) rfl ?_
  refine s_iloadN X hx (hb hby d22_6) rfl (q := 7) rfl ?_
  refine f_if_gt X hx (hb hby d22_7) (q1 := 20) (by decide) (by decide) (q := 10) rfl (fun hq => absurd hq (by decide : ¬ 0 < (0 : Int32))) (fun _ => ?_)
  refine s_aloadN X hx (hb hby d22_10) rfl rfl (q := 11) rfl ?_
  refine s_getF X hx hZ hown (hw _ (List.mem_of_getElem? (i := 31) rfl)) eT F_x0_elementData (hb hby d22_11) (q := 14) rfl ?_
  intro T X eT
  refine s_getS X hx hZ hown (hw _ (List.mem_of_getElem? (i := 30) rfl)) eT (S0.ext O_old.2) (hb hby d22_14) (q := 17) rfl ?_
  intro T X eT
  refine s_acmp X hx (q1 := 45) (same := true) (hb hby d22_17) rfl rfl (decide_eq_true rfl) (by decide) (by decide) ?_
  refine s_aloadN X hx (hb hby d22_45) rfl rfl (q := 46) rfl ?_
  refine s_bipush X hx (z := (10 : Int32)) (hb hby d22_46) rfl (q := 48) rfl ?_
  refine s_iloadN X hx (hb hby d22_48) rfl (q := 49) rfl ?_
  refine callP X hx hZ hown (W := 1) (argsL := [(.int (10 : Int32)), (.int (1 : Int32))]) (rest := [(.ref x0)]) (hw _ (List.mem_of_getElem? (i := 146) rfl)) (hw _ (List.mem_of_getElem? (i := 147) rfl)) (hw _ (List.mem_of_getElem? (i := 54) rfl)) (hw _ (List.mem_of_getElem? (i := 148) rfl)) (by decide) (rm23 l Z a0 hw [] (10 : Int32) (1 : Int32) h0) rfl rfl eT (by decide) (by decide) (by decide) (by decide) (by rw [hml]; rfl) pd6 rfl rfl (Nat.le_of_ble_eq_true rfl) (hb hby d22_49) (q := 52) rfl ?_
  intro T X eT
  show Go p e below _ T m 52 #[.val (.ref x0), .val (.int (1 : Int32)), .val (.int (0 : Int32)), .unset] [(.int (10 : Int32)), (.ref x0)]
  refine s_anew X hx hZ hown (hw _ (List.mem_of_getElem? (i := 149) rfl)) (hw _ (List.mem_of_getElem? (i := 150) rfl)) eT (by decide) (cap := 10) (by decide) (by decide) (by decide) (by decide) (us := [.null, .null, .null, .null, .null, .null, .null, .null, .null, .null]) rfl (hb hby d22_52) (q := 55) rfl ?_
  intro T h2 a1 X eT E ea A_a1
  have ne_x0_a1 : x0 ≠ a1 := by rw [ea]; exact Nat.ne_of_lt E_x0.lt
  have E_x0 := E_x0.ext E
  have F_x0_elementData := F_x0_elementData.ext E
  have F_x0_size := F_x0_size.ext E
  have F_x0_modCount := F_x0_modCount.ext E
  have O_old := O_old.ext E
  have g_a1 : n0 ≤ a1 := by rw [ea]; exact sz
  have sk_a1 : h0.size ≤ a1 := by rw [ea]; exact K.1
  have K := K.ext E
  have sz : n0 ≤ h2.size := Nat.le_trans sz E.1
  refine s_dup_x1 X hx (hb hby d22_55) rfl rfl (q := 56) rfl ?_
  refine s_putF X hx hZ hown (hw _ (List.mem_of_getElem? (i := 31) rfl)) eT F_x0_elementData E_x0 (Or.inl (hw _ (List.mem_of_getElem? (i := 32) rfl))) (hw _ (List.mem_of_getElem? (i := 10) rfl)) (ty := (.array (.object "java/lang/Object"))) (by decide) rfl rfl N g_x0 (hb hby d22_56) (q := 59) rfl ?_
  intro T h3 _ X N eT W F_x0_elementData'
  have E_x0 := E_x0.wr W
  have F_x0_size := F_x0_size.other W (Or.inr (slot_ne (Or.inl (hw _ (List.mem_of_getElem? (i := 92) rfl))) (Or.inl (hw _ (List.mem_of_getElem? (i := 32) rfl))) (by decide) (t := .int) (t' := (.array (.object "java/lang/Object"))) (by decide) (by decide)))
  have F_x0_modCount := F_x0_modCount.other W (Or.inr (slot_ne (Or.inl (hw _ (List.mem_of_getElem? (i := 29) rfl))) (Or.inl (hw _ (List.mem_of_getElem? (i := 32) rfl))) (by decide) (t := .int) (t' := (.array (.object "java/lang/Object"))) (by decide) (by decide)))
  have O_old := O_old.wr W g_x0
  have A_a1 := A_a1.other W (Ne.symm ne_x0_a1)
  have K := K.wr W (Or.inl (List.mem_of_getElem? (i := 0) rfl))
  have sz : n0 ≤ h3.size := by rw [W.size]; exact sz
  have F_x0_elementData := F_x0_elementData'
  exact leafA X hx hlk hret rfl rfl (hb hby d22_59) (by decide) (by decide) (by rw [eT]; exact ⟨a1, rfl, N, K, F_x0_elementData, F_x0_size, F_x0_modCount, A_a1, sk_a1⟩)
theorem d21_0 : decode jdk_38_method_7_code 0 = .ok (.aload_n 0, 1) := by decide +kernel
theorem d21_1 : decode jdk_38_method_7_code 1 = .ok (.aload_n 0, 1) := by decide +kernel
theorem d21_2 : decode jdk_38_method_7_code 2 = .ok (.getfield 48, 3) := by decide +kernel
theorem d21_5 : decode jdk_38_method_7_code 5 = .ok (.iconst 1, 1) := by decide +kernel
theorem d21_6 : decode jdk_38_method_7_code 6 = .ok (.iadd, 1) := by decide +kernel
theorem d21_7 : decode jdk_38_method_7_code 7 = .ok (.invokevirtual 69, 3) := by decide +kernel
theorem d21_10 : decode jdk_38_method_7_code 10 = .ok (.areturn, 1) := by decide +kernel
theorem pn_21 : plainFor (⟨"java/util/ArrayList", "grow", "()[Ljava/lang/Object;"⟩ : MethodName) = true := plainFor_of_name (by first | (simp [plainName, overriddenIn]; done) | decide +kernel)
theorem ef_21 (m : MethodId) (x0 : Addr) : entryFrame m #[(.ref x0)] 1 = mkF m 0 #[.val (.ref x0)] [] := by first | (simp [entryFrame, mkF, argsToLocals, Value.category]; done) | rfl
theorem pd9 : parseMethodDescriptor "(I)[Ljava/lang/Object;" = some ⟨[.int], some (.array (.object "java/lang/Object"))⟩ := by decide +kernel
set_option maxRecDepth 65536 in
set_option maxHeartbeats 40000000 in
theorem rm21 (l : Launch) (Z : State) (a0 : Array Value) (hw : ∀ d ∈ tables_1, d.before a0 Z = true) (ws : List Jvm.Cond) (x0 : Addr)  (d0 : Addr) (h0 : Heap) (n0 : Nat) (sz : n0 ≤ h0.size) (F_x0_elementData : Fld Z h0 x0 "java/util/ArrayList" "elementData" "[Ljava/lang/Object;" (.ref d0)) (F_x0_size : Fld Z h0 x0 "java/util/ArrayList" "size" "I" (.int (0 : Int32))) (F_x0_modCount : Fld Z h0 x0 "java/util/AbstractList" "modCount" "I" (.int (1 : Int32))) (E_x0 : Exa Z h0 x0 "java/util/ArrayList") (g_x0 : n0 ≤ x0) (S0 : Sta Z Z.heap "java/util/ArrayList" "DEFAULTCAPACITY_EMPTY_ELEMENTDATA" "[Ljava/lang/Object;" (.ref d0)) (A0 : AV Z Z.heap d0 (.object "java/lang/Object") []) (O_old : Old Z n0 h0) :
    Ctr l (⟨"java/util/ArrayList", "grow", "()[Ljava/lang/Object;"⟩ : MethodName) jdk_38_method_7_code 1 (some (.array (.object "java/lang/Object"))) ws ({ frames := 2, cells := 1, slots := 10, locals := 29 } : Room) Z #[(.ref x0)] h0 (fun v h L => ∃ dd : Addr, v = some (.ref dd) ∧ Fr n0 L ∧ Keep h0 h [x0] ∧ Fld Z h x0 "java/util/ArrayList" "elementData" "[Ljava/lang/Object;" (.ref dd) ∧ Fld Z h x0 "java/util/ArrayList" "size" "I" (.int (0 : Int32)) ∧ Fld Z h x0 "java/util/AbstractList" "modCount" "I" (.int (1 : Int32)) ∧ AO Z h dd [.null, .null, .null, .null, .null, .null, .null, .null, .null, .null] ∧ h0.size ≤ dd) 1 10 := by
  refine Ctr.mk pn_21 ?_
  intro p e s m below meth c T hx hby hml hown hnm hlk hret hZ X eT
  have N := Fr.nil n0
  refine enter (ef_21 m x0) ?_
  have K := Keep.refl h0 [x0]
  refine s_aloadN X hx (hb hby d21_0) rfl rfl (q := 1) rfl ?_
  refine s_aloadN X hx (hb hby d21_1) rfl rfl (q := 2) rfl ?_
  refine s_getF X hx hZ hown (hw _ (List.mem_of_getElem? (i := 91) rfl)) eT F_x0_size (hb hby d21_2) (q := 5) rfl ?_
  intro T X eT
  refine s_iconst X hx (z := (1 : Int32)) (hb hby d21_5) rfl (q := 6) rfl ?_
  refine s_iadd X hx (hb hby d21_6) (q := 7) rfl ?_
  show Go p e below _ T m 7 #[.val (.ref x0)] [(.int (1 : Int32)), (.ref x0)]
  refine callPr X hx hZ hown (W := 0) (argsL := [(.int (1 : Int32))]) (rest := []) (z := (⟨"java/util/ArrayList", "add", "(Ljava/lang/Object;[Ljava/lang/Object;I)V"⟩ : MethodName)) (hw _ (List.mem_of_getElem? (i := 141) rfl)) (hw _ (List.mem_of_getElem? (i := 142) rfl)) (hw _ (List.mem_of_getElem? (i := 143) rfl)) rfl (hw _ (List.mem_of_getElem? (i := 134) rfl)) (hw _ (List.mem_of_getElem? (i := 11) rfl)) (hw _ (List.mem_of_getElem? (i := 145) rfl)) (by decide) E_x0 (rm22 l Z a0 hw [] x0 d0 h0 n0 sz F_x0_elementData F_x0_size F_x0_modCount E_x0 g_x0 S0 A0 O_old) eT (by decide) (by decide) (by decide) (by decide) (by rw [hml]; rfl) pd9 rfl rfl (Nat.le_of_ble_eq_true rfl) (hb hby d21_7) (q := 10) rfl ?_
  intro v T Lc hQ X
  obtain ⟨h1, eT⟩ : ∃ z, T.heap = z := ⟨_, rfl⟩
  rw [eT] at hQ
  obtain ⟨dd, rfl, N', K', F_x0_elementData', F_x0_size', F_x0_modCount', A_dd', sq_dd⟩ := hQ
  have N := Fr.app N N'
  have g_dd : n0 ≤ dd := Nat.le_trans sz sq_dd
  have sk_dd : h0.size ≤ dd := Nat.le_trans K.1 sq_dd
  have ne_x0_dd : x0 ≠ dd := Nat.ne_of_lt (Nat.lt_of_lt_of_le E_x0.lt sq_dd)
  have E_x0 := E_x0.keep K'
  have O_old := O_old.keep K' (allS g_x0 all0)
  have sz : n0 ≤ h1.size := Nat.le_trans sz K'.1
  have K := K.trans K' (allS (Or.inl (List.mem_of_getElem? (i := 0) rfl)) all0)
  have F_x0_elementData : Fld Z h1 x0 "java/util/ArrayList" "elementData" "[Ljava/lang/Object;" (.ref dd) := F_x0_elementData'
  have F_x0_size : Fld Z h1 x0 "java/util/ArrayList" "size" "I" (.int (0 : Int32)) := F_x0_size'
  have F_x0_modCount : Fld Z h1 x0 "java/util/AbstractList" "modCount" "I" (.int (1 : Int32)) := F_x0_modCount'
  have A_dd : AO Z h1 dd [.null, .null, .null, .null, .null, .null, .null, .null, .null, .null] := A_dd'
  exact leafA X hx hlk hret rfl rfl (hb hby d21_10) (by decide) (by decide) (by rw [eT]; exact ⟨dd, rfl, N, K, F_x0_elementData, F_x0_size, F_x0_modCount, A_dd, sk_dd⟩)
theorem d20_0 : decode jdk_38_method_24_code 0 = .ok (.iload_n 3, 1) := by decide +kernel
theorem d20_1 : decode jdk_38_method_24_code 1 = .ok (.aload_n 2, 1) := by decide +kernel
theorem d20_2 : decode jdk_38_method_24_code 2 = .ok (.arraylength, 1) := by decide +kernel
theorem d20_3 : decode jdk_38_method_24_code 3 = .ok (.if_icmp .ne 8, 3) := by decide +kernel
theorem d20_6 : decode jdk_38_method_24_code 6 = .ok (.aload_n 0, 1) := by decide +kernel
theorem d20_7 : decode jdk_38_method_24_code 7 = .ok (.invokevirtual 129, 3) := by decide +kernel
theorem d20_10 : decode jdk_38_method_24_code 10 = .ok (.astore_n 2, 1) := by decide +kernel
theorem d20_11 : decode jdk_38_method_24_code 11 = .ok (.aload_n 2, 1) := by decide +kernel
theorem d20_12 : decode jdk_38_method_24_code 12 = .ok (.iload_n 3, 1) := by decide +kernel
theorem d20_13 : decode jdk_38_method_24_code 13 = .ok (.aload_n 1, 1) := by decide +kernel
theorem d20_14 : decode jdk_38_method_24_code 14 = .ok (.aastore, 1) := by decide +kernel
theorem d20_15 : decode jdk_38_method_24_code 15 = .ok (.aload_n 0, 1) := by decide +kernel
theorem d20_16 : decode jdk_38_method_24_code 16 = .ok (.iload_n 3, 1) := by decide +kernel
theorem d20_17 : decode jdk_38_method_24_code 17 = .ok (.iconst 1, 1) := by decide +kernel
theorem d20_18 : decode jdk_38_method_24_code 18 = .ok (.iadd, 1) := by decide +kernel
theorem d20_19 : decode jdk_38_method_24_code 19 = .ok (.putfield 48, 3) := by decide +kernel
theorem d20_22 : decode jdk_38_method_24_code 22 = .ok (.return_, 1) := by decide +kernel
theorem pn_20 : plainFor (⟨"java/util/ArrayList", "add", "(Ljava/lang/Object;[Ljava/lang/Object;I)V"⟩ : MethodName) = true := plainFor_of_name (by first | (simp [plainName, overriddenIn]; done) | decide +kernel)
theorem ef_20 (m : MethodId) (x0 : Addr) (x1 : Addr) (x2 : Addr) (x3 : Int32) : entryFrame m #[(.ref x0), (.ref x1), (.ref x2), (.int x3)] 4 = mkF m 0 #[.val (.ref x0), .val (.ref x1), .val (.ref x2), .val (.int x3)] [] := by first | (simp [entryFrame, mkF, argsToLocals, Value.category]; done) | rfl
theorem pd10 : parseMethodDescriptor "()[Ljava/lang/Object;" = some ⟨[], some (.array (.object "java/lang/Object"))⟩ := by decide +kernel
set_option maxRecDepth 65536 in
set_option maxHeartbeats 40000000 in
theorem rm20_0 (l : Launch) (Z : State) (a0 : Array Value) (hw : ∀ d ∈ tables_1, d.before a0 Z = true) (ws : List Jvm.Cond) (x0 : Addr) (x1 : Addr)  (d0 : Addr) (h0 : Heap) (n0 : Nat) (sz : n0 ≤ h0.size) (F_x0_elementData : Fld Z h0 x0 "java/util/ArrayList" "elementData" "[Ljava/lang/Object;" (.ref d0)) (F_x0_size : Fld Z h0 x0 "java/util/ArrayList" "size" "I" (.int (0 : Int32))) (F_x0_modCount : Fld Z h0 x0 "java/util/AbstractList" "modCount" "I" (.int (1 : Int32))) (E_x0 : Exa Z h0 x0 "java/util/ArrayList") (E_x1 : Exa Z h0 x1 "com/example/cistern/cistern/ReservoirSampler$Kept") (g_x0 : n0 ≤ x0) (g_x1 : n0 ≤ x1) (S0 : Sta Z Z.heap "java/util/ArrayList" "DEFAULTCAPACITY_EMPTY_ELEMENTDATA" "[Ljava/lang/Object;" (.ref d0)) (A0 : AV Z Z.heap d0 (.object "java/lang/Object") []) (O_old : Old Z n0 h0) :
    Ctr l (⟨"java/util/ArrayList", "add", "(Ljava/lang/Object;[Ljava/lang/Object;I)V"⟩ : MethodName) jdk_38_method_24_code 4 none ws ({ frames := 3, cells := 1, slots := 10, locals := 41 } : Room) Z #[(.ref x0), (.ref x1), (.ref d0), (.int (0 : Int32))] h0 (fun v h L => ∃ dd : Addr, v = none ∧ Fr n0 L ∧ Keep h0 h [x0] ∧ Fld Z h x0 "java/util/ArrayList" "elementData" "[Ljava/lang/Object;" (.ref dd) ∧ Fld Z h x0 "java/util/ArrayList" "size" "I" (.int (1 : Int32)) ∧ Fld Z h x0 "java/util/AbstractList" "modCount" "I" (.int (1 : Int32)) ∧ AO Z h dd [(.ref x1), .null, .null, .null, .null, .null, .null, .null, .null, .null] ∧ h0.size ≤ dd) 1 10 := by
  refine Ctr.mk pn_20 ?_
  intro p e s m below meth c T hx hby hml hown hnm hlk hret hZ X eT
  have N := Fr.nil n0
  refine enter (ef_20 m x0 x1 d0 (0 : Int32)) ?_
  have K := Keep.refl h0 [x0]
  have ne_x0_x1 := ne_exa E_x0 E_x1 (by decide)
  refine s_iloadN X hx (hb hby d20_0) rfl (q := 1) rfl ?_
  refine s_aloadN X hx (hb hby d20_1) rfl rfl (q := 2) rfl ?_
  refine s_lenV X hx hZ eT (z := (0 : Int32)) (A0.ext O_old.2) rfl (hb hby d20_2) (q := 3) rfl ?_
  refine f_icmp_ne X hx (hb hby d20_3) (q1 := 11) (by decide) (by decide) (q := 6) rfl (fun hq => absurd (by decide : (0 : Int32) = (0 : Int32)) hq) (fun _ => ?_)
  refine s_aloadN X hx (hb hby d20_6) rfl rfl (q := 7) rfl ?_
  refine callPr X hx hZ hown (W := 0) (argsL := []) (rest := []) (z := (⟨"java/util/ArrayList", "add", "(Ljava/lang/Object;[Ljava/lang/Object;I)V"⟩ : MethodName)) (hw _ (List.mem_of_getElem? (i := 136) rfl)) (hw _ (List.mem_of_getElem? (i := 137) rfl)) (hw _ (List.mem_of_getElem? (i := 138) rfl)) rfl (hw _ (List.mem_of_getElem? (i := 134) rfl)) (hw _ (List.mem_of_getElem? (i := 11) rfl)) (hw _ (List.mem_of_getElem? (i := 140) rfl)) (by decide) E_x0 (rm21 l Z a0 hw [] x0 d0 h0 n0 sz F_x0_elementData F_x0_size F_x0_modCount E_x0 g_x0 S0 A0 O_old) eT (by decide) (by decide) (by decide) (by decide) (by rw [hml]; rfl) pd10 rfl rfl (Nat.le_of_ble_eq_true rfl) (hb hby d20_7) (q := 10) rfl ?_
  intro v T Lc hQ X
  obtain ⟨h1, eT⟩ : ∃ z, T.heap = z := ⟨_, rfl⟩
  rw [eT] at hQ
  obtain ⟨dd, rfl, N', K', F_x0_elementData', F_x0_size', F_x0_modCount', A_dd', sq_dd⟩ := hQ
  have N := Fr.app N N'
  have g_dd : n0 ≤ dd := Nat.le_trans sz sq_dd
  have sk_dd : h0.size ≤ dd := Nat.le_trans K.1 sq_dd
  have ne_x0_dd : x0 ≠ dd := Nat.ne_of_lt (Nat.lt_of_lt_of_le E_x0.lt sq_dd)
  have ne_x1_dd : x1 ≠ dd := Nat.ne_of_lt (Nat.lt_of_lt_of_le E_x1.lt sq_dd)
  have E_x0 := E_x0.keep K'
  have E_x1 := E_x1.keep K'
  have O_old := O_old.keep K' (allS g_x0 all0)
  have sz : n0 ≤ h1.size := Nat.le_trans sz K'.1
  have K := K.trans K' (allS (Or.inl (List.mem_of_getElem? (i := 0) rfl)) all0)
  have F_x0_elementData : Fld Z h1 x0 "java/util/ArrayList" "elementData" "[Ljava/lang/Object;" (.ref dd) := F_x0_elementData'
  have F_x0_size : Fld Z h1 x0 "java/util/ArrayList" "size" "I" (.int (0 : Int32)) := F_x0_size'
  have F_x0_modCount : Fld Z h1 x0 "java/util/AbstractList" "modCount" "I" (.int (1 : Int32)) := F_x0_modCount'
  have A_dd : AO Z h1 dd [.null, .null, .null, .null, .null, .null, .null, .null, .null, .null] := A_dd'
  refine s_astoreN X hx (hb hby d20_10) rfl (L' := #[.val (.ref x0), .val (.ref x1), .val (.ref dd), .val (.int (0 : Int32))]) rfl (q := 11) rfl ?_
  refine s_aloadN X hx (hb hby d20_11) rfl rfl (q := 12) rfl ?_
  refine s_iloadN X hx (hb hby d20_12) rfl (q := 13) rfl ?_
  refine s_aloadN X hx (hb hby d20_13) rfl rfl (q := 14) rfl ?_
  refine s_aastore X hx hZ eT A_dd N g_dd (Or.inr ⟨_, rfl, Ins.of_exa E_x1 (hw _ (List.mem_of_getElem? (i := 151) rfl))⟩) (by decide) (i := 0) rfl (Nat.le_of_ble_eq_true rfl) (us := [(.ref x1), .null, .null, .null, .null, .null, .null, .null, .null, .null]) rfl (hb hby d20_14) (q := 15) rfl ?_
  intro T h2 _ X N eT W A_dd'
  have E_x0 := E_x0.wr W
  have E_x1 := E_x1.wr W
  have O_old := O_old.wr W g_dd
  have F_x0_elementData := F_x0_elementData.other W (Or.inl ne_x0_dd)
  have F_x0_size := F_x0_size.other W (Or.inl ne_x0_dd)
  have F_x0_modCount := F_x0_modCount.other W (Or.inl ne_x0_dd)
  have K := K.wr W (Or.inr sk_dd)
  have sz : n0 ≤ h2.size := by rw [W.size]; exact sz
  have A_dd := A_dd'
  refine s_aloadN X hx (hb hby d20_15) rfl rfl (q := 16) rfl ?_
  refine s_iloadN X hx (hb hby d20_16) rfl (q := 17) rfl ?_
  refine s_iconst X hx (z := (1 : Int32)) (hb hby d20_17) rfl (q := 18) rfl ?_
  refine s_iadd X hx (hb hby d20_18) (q := 19) rfl ?_
  show Go p e below _ T m 19 #[.val (.ref x0), .val (.ref x1), .val (.ref dd), .val (.int (0 : Int32))] [(.int (1 : Int32)), (.ref x0)]
  refine s_putF X hx hZ hown (hw _ (List.mem_of_getElem? (i := 91) rfl)) eT F_x0_size E_x0 (Or.inl (hw _ (List.mem_of_getElem? (i := 92) rfl))) (hw _ (List.mem_of_getElem? (i := 10) rfl)) (ty := .int) (by decide) rfl rfl N g_x0 (hb hby d20_19) (q := 22) rfl ?_
  intro T h3 _ X N eT W F_x0_size'
  have E_x0 := E_x0.wr W
  have E_x1 := E_x1.wr W
  have O_old := O_old.wr W g_x0
  have F_x0_elementData := F_x0_elementData.other W (Or.inr (slot_ne (Or.inl (hw _ (List.mem_of_getElem? (i := 32) rfl))) (Or.inl (hw _ (List.mem_of_getElem? (i := 92) rfl))) (by decide) (t := (.array (.object "java/lang/Object"))) (t' := .int) (by decide) (by decide)))
  have F_x0_modCount := F_x0_modCount.other W (Or.inr (slot_ne (Or.inl (hw _ (List.mem_of_getElem? (i := 29) rfl))) (Or.inl (hw _ (List.mem_of_getElem? (i := 92) rfl))) (by decide) (t := .int) (t' := .int) (by decide) (by decide)))
  have A_dd := A_dd.other W (Ne.symm ne_x0_dd)
  have K := K.wr W (Or.inl (List.mem_of_getElem? (i := 0) rfl))
  have sz : n0 ≤ h3.size := by rw [W.size]; exact sz
  have F_x0_size := F_x0_size'
  exact leafV X hx hlk hret (hb hby d20_22) (by decide) (by decide) (by rw [eT]; exact ⟨dd, rfl, N, K, F_x0_elementData, F_x0_size, F_x0_modCount, A_dd, sk_dd⟩)
set_option maxRecDepth 65536 in
set_option maxHeartbeats 40000000 in
theorem rm20_1 (l : Launch) (Z : State) (a0 : Array Value) (hw : ∀ d ∈ tables_1, d.before a0 Z = true) (ws : List Jvm.Cond) (x0 : Addr) (x1 : Addr) (dd : Addr) (k0 : Addr) (h0 : Heap) (n0 : Nat) (sz : n0 ≤ h0.size) (F_x0_elementData : Fld Z h0 x0 "java/util/ArrayList" "elementData" "[Ljava/lang/Object;" (.ref dd)) (F_x0_size : Fld Z h0 x0 "java/util/ArrayList" "size" "I" (.int (1 : Int32))) (F_x0_modCount : Fld Z h0 x0 "java/util/AbstractList" "modCount" "I" (.int (2 : Int32))) (E_x0 : Exa Z h0 x0 "java/util/ArrayList") (E_x1 : Exa Z h0 x1 "com/example/cistern/cistern/ReservoirSampler$Kept") (A_dd : AO Z h0 dd [(.ref k0), .null, .null, .null, .null, .null, .null, .null, .null, .null]) (g_x0 : n0 ≤ x0) (g_x1 : n0 ≤ x1) (g_dd : n0 ≤ dd) :
    Ctr l (⟨"java/util/ArrayList", "add", "(Ljava/lang/Object;[Ljava/lang/Object;I)V"⟩ : MethodName) jdk_38_method_24_code 4 none ws ({ frames := 0, cells := 0, slots := 0, locals := 0 } : Room) Z #[(.ref x0), (.ref x1), (.ref dd), (.int (1 : Int32))] h0 (fun v h L => v = none ∧ Fr n0 L ∧ Keep h0 h [x0, dd] ∧ Fld Z h x0 "java/util/ArrayList" "elementData" "[Ljava/lang/Object;" (.ref dd) ∧ Fld Z h x0 "java/util/ArrayList" "size" "I" (.int (2 : Int32)) ∧ Fld Z h x0 "java/util/AbstractList" "modCount" "I" (.int (2 : Int32)) ∧ AO Z h dd [(.ref k0), (.ref x1), .null, .null, .null, .null, .null, .null, .null, .null]) 0 0 := by
  refine Ctr.mk pn_20 ?_
  intro p e s m below meth c T hx hby hml hown hnm hlk hret hZ X eT
  have N := Fr.nil n0
  refine enter (ef_20 m x0 x1 dd (1 : Int32)) ?_
  have K := Keep.refl h0 [x0, dd]
  have ne_x0_x1 := ne_exa E_x0 E_x1 (by decide)
  have ne_x0_dd := own_neA E_x0 (hw _ (List.mem_of_getElem? (i := 10) rfl)) A_dd
  have ne_x1_dd := own_neA E_x1 (hw _ (List.mem_of_getElem? (i := 106) rfl)) A_dd
  refine s_iloadN X hx (hb hby d20_0) rfl (q := 1) rfl ?_
  refine s_aloadN X hx (hb hby d20_1) rfl rfl (q := 2) rfl ?_
  refine s_lenO X hx hZ eT (z := (10 : Int32)) A_dd rfl (hb hby d20_2) (q := 3) rfl ?_
  refine f_icmp_ne X hx (hb hby d20_3) (q1 := 11) (by decide) (by decide) (q := 6) rfl (fun _ => ?_) (fun hq => absurd hq (by decide : ¬ (1 : Int32) = (10 : Int32)))
  refine s_aloadN X hx (hb hby d20_11) rfl rfl (q := 12) rfl ?_
  refine s_iloadN X hx (hb hby d20_12) rfl (q := 13) rfl ?_
  refine s_aloadN X hx (hb hby d20_13) rfl rfl (q := 14) rfl ?_
  refine s_aastore X hx hZ eT A_dd N g_dd (Or.inr ⟨_, rfl, Ins.of_exa E_x1 (hw _ (List.mem_of_getElem? (i := 151) rfl))⟩) (by decide) (i := 1) rfl (Nat.le_of_ble_eq_true rfl) (us := [(.ref k0), (.ref x1), .null, .null, .null, .null, .null, .null, .null, .null]) rfl (hb hby d20_14) (q := 15) rfl ?_
  intro T h1 _ X N eT W A_dd'
  have E_x0 := E_x0.wr W
  have F_x0_elementData := F_x0_elementData.other W (Or.inl ne_x0_dd)
  have F_x0_size := F_x0_size.other W (Or.inl ne_x0_dd)
  have F_x0_modCount := F_x0_modCount.other W (Or.inl ne_x0_dd)
  have E_x1 := E_x1.wr W
  have K := K.wr W (Or.inl (List.mem_of_getElem? (i := 1) rfl))
  have sz : n0 ≤ h1.size := by rw [W.size]; exact sz
  have A_dd := A_dd'
  refine s_aloadN X hx (hb hby d20_15) rfl rfl (q := 16) rfl ?_
  refine s_iloadN X hx (hb hby d20_16) rfl (q := 17) rfl ?_
  refine s_iconst X hx (z := (1 : Int32)) (hb hby d20_17) rfl (q := 18) rfl ?_
  refine s_iadd X hx (hb hby d20_18) (q := 19) rfl ?_
  show Go p e below _ T m 19 #[.val (.ref x0), .val (.ref x1), .val (.ref dd), .val (.int (1 : Int32))] [(.int (2 : Int32)), (.ref x0)]
  refine s_putF X hx hZ hown (hw _ (List.mem_of_getElem? (i := 91) rfl)) eT F_x0_size E_x0 (Or.inl (hw _ (List.mem_of_getElem? (i := 92) rfl))) (hw _ (List.mem_of_getElem? (i := 10) rfl)) (ty := .int) (by decide) rfl rfl N g_x0 (hb hby d20_19) (q := 22) rfl ?_
  intro T h2 _ X N eT W F_x0_size'
  have E_x0 := E_x0.wr W
  have F_x0_elementData := F_x0_elementData.other W (Or.inr (slot_ne (Or.inl (hw _ (List.mem_of_getElem? (i := 32) rfl))) (Or.inl (hw _ (List.mem_of_getElem? (i := 92) rfl))) (by decide) (t := (.array (.object "java/lang/Object"))) (t' := .int) (by decide) (by decide)))
  have F_x0_modCount := F_x0_modCount.other W (Or.inr (slot_ne (Or.inl (hw _ (List.mem_of_getElem? (i := 29) rfl))) (Or.inl (hw _ (List.mem_of_getElem? (i := 92) rfl))) (by decide) (t := .int) (t' := .int) (by decide) (by decide)))
  have E_x1 := E_x1.wr W
  have A_dd := A_dd.other W (Ne.symm ne_x0_dd)
  have K := K.wr W (Or.inl (List.mem_of_getElem? (i := 0) rfl))
  have sz : n0 ≤ h2.size := by rw [W.size]; exact sz
  have F_x0_size := F_x0_size'
  exact leafV X hx hlk hret (hb hby d20_22) (by decide) (by decide) (by rw [eT]; exact ⟨rfl, N, K, F_x0_elementData, F_x0_size, F_x0_modCount, A_dd⟩)
theorem d19_0 : decode jdk_38_method_25_code 0 = .ok (.aload_n 0, 1) := by decide +kernel
theorem d19_1 : decode jdk_38_method_25_code 1 = .ok (.dup, 1) := by decide +kernel
theorem d19_2 : decode jdk_38_method_25_code 2 = .ok (.getfield 63, 3) := by decide +kernel
theorem d19_5 : decode jdk_38_method_25_code 5 = .ok (.iconst 1, 1) := by decide +kernel
theorem d19_6 : decode jdk_38_method_25_code 6 = .ok (.iadd, 1) := by decide +kernel
theorem d19_7 : decode jdk_38_method_25_code 7 = .ok (.putfield 63, 3) := by decide +kernel
theorem d19_10 : decode jdk_38_method_25_code 10 = .ok (.aload_n 0, 1) := by decide +kernel
theorem d19_11 : decode jdk_38_method_25_code 11 = .ok (.aload_n 1, 1) := by decide +kernel
theorem d19_12 : decode jdk_38_method_25_code 12 = .ok (.aload_n 0, 1) := by decide +kernel
theorem d19_13 : decode jdk_38_method_25_code 13 = .ok (.getfield 9, 3) := by decide +kernel
theorem d19_16 : decode jdk_38_method_25_code 16 = .ok (.aload_n 0, 1) := by decide +kernel
theorem d19_17 : decode jdk_38_method_25_code 17 = .ok (.getfield 48, 3) := by decide +kernel
theorem d19_20 : decode jdk_38_method_25_code 20 = .ok (.invokevirtual 131, 3) := by decide +kernel
theorem d19_23 : decode jdk_38_method_25_code 23 = .ok (.iconst 1, 1) := by decide +kernel
theorem d19_24 : decode jdk_38_method_25_code 24 = .ok (.ireturn, 1) := by decide +kernel
theorem pn_19 : plainFor (⟨"java/util/ArrayList", "add", "(Ljava/lang/Object;)Z"⟩ : MethodName) = true := plainFor_of_name (by first | (simp [plainName, overriddenIn]; done) | decide +kernel)
theorem ef_19 (m : MethodId) (x0 : Addr) (x1 : Addr) : entryFrame m #[(.ref x0), (.ref x1)] 2 = mkF m 0 #[.val (.ref x0), .val (.ref x1)] [] := by first | (simp [entryFrame, mkF, argsToLocals, Value.category]; done) | rfl
theorem pd11 : parseMethodDescriptor "(Ljava/lang/Object;[Ljava/lang/Object;I)V" = some ⟨[(.object "java/lang/Object"), (.array (.object "java/lang/Object")), .int], none⟩ := by decide +kernel
set_option maxRecDepth 65536 in
set_option maxHeartbeats 40000000 in
theorem rm19_0 (l : Launch) (Z : State) (a0 : Array Value) (hw : ∀ d ∈ tables_1, d.before a0 Z = true) (ws : List Jvm.Cond) (x0 : Addr) (x1 : Addr)  (d0 : Addr) (h0 : Heap) (n0 : Nat) (sz : n0 ≤ h0.size) (F_x0_elementData : Fld Z h0 x0 "java/util/ArrayList" "elementData" "[Ljava/lang/Object;" (.ref d0)) (F_x0_size : Fld Z h0 x0 "java/util/ArrayList" "size" "I" (.int (0 : Int32))) (F_x0_modCount : Fld Z h0 x0 "java/util/AbstractList" "modCount" "I" (.int (0 : Int32))) (E_x0 : Exa Z h0 x0 "java/util/ArrayList") (E_x1 : Exa Z h0 x1 "com/example/cistern/cistern/ReservoirSampler$Kept") (g_x0 : n0 ≤ x0) (g_x1 : n0 ≤ x1) (S0 : Sta Z Z.heap "java/util/ArrayList" "DEFAULTCAPACITY_EMPTY_ELEMENTDATA" "[Ljava/lang/Object;" (.ref d0)) (A0 : AV Z Z.heap d0 (.object "java/lang/Object") []) (O_old : Old Z n0 h0) :
    Ctr l (⟨"java/util/ArrayList", "add", "(Ljava/lang/Object;)Z"⟩ : MethodName) jdk_38_method_25_code 2 (some .boolean) ws ({ frames := 4, cells := 1, slots := 10, locals := 56 } : Room) Z #[(.ref x0), (.ref x1)] h0 (fun v h L => ∃ dd : Addr, v = some (.int (1 : Int32)) ∧ Fr n0 L ∧ Keep h0 h [x0] ∧ Fld Z h x0 "java/util/ArrayList" "elementData" "[Ljava/lang/Object;" (.ref dd) ∧ Fld Z h x0 "java/util/ArrayList" "size" "I" (.int (1 : Int32)) ∧ Fld Z h x0 "java/util/AbstractList" "modCount" "I" (.int (1 : Int32)) ∧ AO Z h dd [(.ref x1), .null, .null, .null, .null, .null, .null, .null, .null, .null] ∧ h0.size ≤ dd) 1 10 := by
  refine Ctr.mk pn_19 ?_
  intro p e s m below meth c T hx hby hml hown hnm hlk hret hZ X eT
  have N := Fr.nil n0
  refine enter (ef_19 m x0 x1) ?_
  have K := Keep.refl h0 [x0]
  have ne_x0_x1 := ne_exa E_x0 E_x1 (by decide)
  refine s_aloadN X hx (hb hby d19_0) rfl rfl (q := 1) rfl ?_
  refine s_dup X hx (hb hby d19_1) rfl (q := 2) rfl ?_
  refine s_getFV X hx hZ hown (hw _ (List.mem_of_getElem? (i := 129) rfl)) (Via.of (hw _ (List.mem_of_getElem? (i := 130) rfl))) eT F_x0_modCount (hb hby d19_2) (q := 5) rfl ?_
  intro T X eT
  refine s_iconst X hx (z := (1 : Int32)) (hb hby d19_5) rfl (q := 6) rfl ?_
  refine s_iadd X hx (hb hby d19_6) (q := 7) rfl ?_
  show Go p e below _ T m 7 #[.val (.ref x0), .val (.ref x1)] [(.int (1 : Int32)), (.ref x0)]
  refine s_putFV X hx hZ hown (hw _ (List.mem_of_getElem? (i := 129) rfl)) (Via.of (hw _ (List.mem_of_getElem? (i := 130) rfl))) eT F_x0_modCount E_x0 (Or.inl (hw _ (List.mem_of_getElem? (i := 29) rfl))) (hw _ (List.mem_of_getElem? (i := 10) rfl)) (ty := .int) (by decide) rfl rfl N g_x0 (hb hby d19_7) (q := 10) rfl ?_
  intro T h1 _ X N eT W F_x0_modCount'
  have E_x0 := E_x0.wr W
  have F_x0_elementData := F_x0_elementData.other W (Or.inr (slot_ne (Or.inl (hw _ (List.mem_of_getElem? (i := 32) rfl))) (Or.inl (hw _ (List.mem_of_getElem? (i := 29) rfl))) (by decide) (t := (.array (.object "java/lang/Object"))) (t' := .int) (by decide) (by decide)))
  have F_x0_size := F_x0_size.other W (Or.inr (slot_ne (Or.inl (hw _ (List.mem_of_getElem? (i := 92) rfl))) (Or.inl (hw _ (List.mem_of_getElem? (i := 29) rfl))) (by decide) (t := .int) (t' := .int) (by decide) (by decide)))
  have E_x1 := E_x1.wr W
  have O_old := O_old.wr W g_x0
  have K := K.wr W (Or.inl (List.mem_of_getElem? (i := 0) rfl))
  have sz : n0 ≤ h1.size := by rw [W.size]; exact sz
  have F_x0_modCount := F_x0_modCount'
  refine s_aloadN X hx (hb hby d19_10) rfl rfl (q := 11) rfl ?_
  refine s_aloadN X hx (hb hby d19_11) rfl rfl (q := 12) rfl ?_
  refine s_aloadN X hx (hb hby d19_12) rfl rfl (q := 13) rfl ?_
  refine s_getF X hx hZ hown (hw _ (List.mem_of_getElem? (i := 31) rfl)) eT F_x0_elementData (hb hby d19_13) (q := 16) rfl ?_
  intro T X eT
  refine s_aloadN X hx (hb hby d19_16) rfl rfl (q := 17) rfl ?_
  refine s_getF X hx hZ hown (hw _ (List.mem_of_getElem? (i := 91) rfl)) eT F_x0_size (hb hby d19_17) (q := 20) rfl ?_
  intro T X eT
  refine callPr X hx hZ hown (W := 0) (argsL := [(.ref x1), (.ref d0), (.int (0 : Int32))]) (rest := []) (z := (⟨"java/util/ArrayList", "add", "(Ljava/lang/Object;[Ljava/lang/Object;I)V"⟩ : MethodName)) (hw _ (List.mem_of_getElem? (i := 131) rfl)) (hw _ (List.mem_of_getElem? (i := 132) rfl)) (hw _ (List.mem_of_getElem? (i := 133) rfl)) rfl (hw _ (List.mem_of_getElem? (i := 134) rfl)) (hw _ (List.mem_of_getElem? (i := 11) rfl)) (hw _ (List.mem_of_getElem? (i := 135) rfl)) (by decide) E_x0 (rm20_0 l Z a0 hw [] x0 x1 d0 h1 n0 sz F_x0_elementData F_x0_size F_x0_modCount E_x0 E_x1 g_x0 g_x1 S0 A0 O_old) eT (by decide) (by decide) (by decide) (by decide) (by rw [hml]; rfl) pd11 rfl rfl (Nat.le_of_ble_eq_true rfl) (hb hby d19_20) (q := 23) rfl ?_
  intro v T Lc hQ X
  obtain ⟨h2, eT⟩ : ∃ z, T.heap = z := ⟨_, rfl⟩
  rw [eT] at hQ
  obtain ⟨dd, rfl, N', K', F_x0_elementData', F_x0_size', F_x0_modCount', A_dd', sq_dd⟩ := hQ
  have N := Fr.app N N'
  have g_dd : n0 ≤ dd := Nat.le_trans sz sq_dd
  have sk_dd : h0.size ≤ dd := Nat.le_trans K.1 sq_dd
  have ne_x0_dd : x0 ≠ dd := Nat.ne_of_lt (Nat.lt_of_lt_of_le E_x0.lt sq_dd)
  have ne_x1_dd : x1 ≠ dd := Nat.ne_of_lt (Nat.lt_of_lt_of_le E_x1.lt sq_dd)
  have E_x0 := E_x0.keep K'
  have E_x1 := E_x1.keep K'
  have O_old := O_old.keep K' (allS g_x0 all0)
  have sz : n0 ≤ h2.size := Nat.le_trans sz K'.1
  have K := K.trans K' (allS (Or.inl (List.mem_of_getElem? (i := 0) rfl)) all0)
  have F_x0_elementData : Fld Z h2 x0 "java/util/ArrayList" "elementData" "[Ljava/lang/Object;" (.ref dd) := F_x0_elementData'
  have F_x0_size : Fld Z h2 x0 "java/util/ArrayList" "size" "I" (.int (1 : Int32)) := F_x0_size'
  have F_x0_modCount : Fld Z h2 x0 "java/util/AbstractList" "modCount" "I" (.int (1 : Int32)) := F_x0_modCount'
  have A_dd : AO Z h2 dd [(.ref x1), .null, .null, .null, .null, .null, .null, .null, .null, .null] := A_dd'
  refine s_iconst X hx (z := (1 : Int32)) (hb hby d19_23) rfl (q := 24) rfl ?_
  exact leafN X hx hlk hret (by simp) (hb hby d19_24) (by decide) (by decide) (z' := (1 : Int32)) rfl (by rw [eT]; exact ⟨dd, rfl, N, K, F_x0_elementData, F_x0_size, F_x0_modCount, A_dd, sk_dd⟩)
set_option maxRecDepth 65536 in
set_option maxHeartbeats 40000000 in
theorem rm19_1 (l : Launch) (Z : State) (a0 : Array Value) (hw : ∀ d ∈ tables_1, d.before a0 Z = true) (ws : List Jvm.Cond) (x0 : Addr) (x1 : Addr) (dd : Addr) (k0 : Addr) (h0 : Heap) (n0 : Nat) (sz : n0 ≤ h0.size) (F_x0_elementData : Fld Z h0 x0 "java/util/ArrayList" "elementData" "[Ljava/lang/Object;" (.ref dd)) (F_x0_size : Fld Z h0 x0 "java/util/ArrayList" "size" "I" (.int (1 : Int32))) (F_x0_modCount : Fld Z h0 x0 "java/util/AbstractList" "modCount" "I" (.int (1 : Int32))) (E_x0 : Exa Z h0 x0 "java/util/ArrayList") (E_x1 : Exa Z h0 x1 "com/example/cistern/cistern/ReservoirSampler$Kept") (A_dd : AO Z h0 dd [(.ref k0), .null, .null, .null, .null, .null, .null, .null, .null, .null]) (g_x0 : n0 ≤ x0) (g_x1 : n0 ≤ x1) (g_dd : n0 ≤ dd) :
    Ctr l (⟨"java/util/ArrayList", "add", "(Ljava/lang/Object;)Z"⟩ : MethodName) jdk_38_method_25_code 2 (some .boolean) ws ({ frames := 1, cells := 0, slots := 0, locals := 15 } : Room) Z #[(.ref x0), (.ref x1)] h0 (fun v h L => v = some (.int (1 : Int32)) ∧ Fr n0 L ∧ Keep h0 h [x0, dd] ∧ Fld Z h x0 "java/util/ArrayList" "elementData" "[Ljava/lang/Object;" (.ref dd) ∧ Fld Z h x0 "java/util/ArrayList" "size" "I" (.int (2 : Int32)) ∧ Fld Z h x0 "java/util/AbstractList" "modCount" "I" (.int (2 : Int32)) ∧ AO Z h dd [(.ref k0), (.ref x1), .null, .null, .null, .null, .null, .null, .null, .null]) 0 0 := by
  refine Ctr.mk pn_19 ?_
  intro p e s m below meth c T hx hby hml hown hnm hlk hret hZ X eT
  have N := Fr.nil n0
  refine enter (ef_19 m x0 x1) ?_
  have K := Keep.refl h0 [x0, dd]
  have ne_x0_x1 := ne_exa E_x0 E_x1 (by decide)
  have ne_x0_dd := own_neA E_x0 (hw _ (List.mem_of_getElem? (i := 10) rfl)) A_dd
  have ne_x1_dd := own_neA E_x1 (hw _ (List.mem_of_getElem? (i := 106) rfl)) A_dd
  refine s_aloadN X hx (hb hby d19_0) rfl rfl (q := 1) rfl ?_
  refine s_dup X hx (hb hby d19_1) rfl (q := 2) rfl ?_
  refine s_getFV X hx hZ hown (hw _ (List.mem_of_getElem? (i := 129) rfl)) (Via.of (hw _ (List.mem_of_getElem? (i := 130) rfl))) eT F_x0_modCount (hb hby d19_2) (q := 5) rfl ?_
  intro T X eT
  refine s_iconst X hx (z := (1 : Int32)) (hb hby d19_5) rfl (q := 6) rfl ?_
  refine s_iadd X hx (hb hby d19_6) (q := 7) rfl ?_
  show Go p e below _ T m 7 #[.val (.ref x0), .val (.ref x1)] [(.int (2 : Int32)), (.ref x0)]
  refine s_putFV X hx hZ hown (hw _ (List.mem_of_getElem? (i := 129) rfl)) (Via.of (hw _ (List.mem_of_getElem? (i := 130) rfl))) eT F_x0_modCount E_x0 (Or.inl (hw _ (List.mem_of_getElem? (i := 29) rfl))) (hw _ (List.mem_of_getElem? (i := 10) rfl)) (ty := .int) (by decide) rfl rfl N g_x0 (hb hby d19_7) (q := 10) rfl ?_
  intro T h1 _ X N eT W F_x0_modCount'
  have E_x0 := E_x0.wr W
  have F_x0_elementData := F_x0_elementData.other W (Or.inr (slot_ne (Or.inl (hw _ (List.mem_of_getElem? (i := 32) rfl))) (Or.inl (hw _ (List.mem_of_getElem? (i := 29) rfl))) (by decide) (t := (.array (.object "java/lang/Object"))) (t' := .int) (by decide) (by decide)))
  have F_x0_size := F_x0_size.other W (Or.inr (slot_ne (Or.inl (hw _ (List.mem_of_getElem? (i := 92) rfl))) (Or.inl (hw _ (List.mem_of_getElem? (i := 29) rfl))) (by decide) (t := .int) (t' := .int) (by decide) (by decide)))
  have E_x1 := E_x1.wr W
  have A_dd := A_dd.other W (Ne.symm ne_x0_dd)
  have K := K.wr W (Or.inl (List.mem_of_getElem? (i := 0) rfl))
  have sz : n0 ≤ h1.size := by rw [W.size]; exact sz
  have F_x0_modCount := F_x0_modCount'
  refine s_aloadN X hx (hb hby d19_10) rfl rfl (q := 11) rfl ?_
  refine s_aloadN X hx (hb hby d19_11) rfl rfl (q := 12) rfl ?_
  refine s_aloadN X hx (hb hby d19_12) rfl rfl (q := 13) rfl ?_
  refine s_getF X hx hZ hown (hw _ (List.mem_of_getElem? (i := 31) rfl)) eT F_x0_elementData (hb hby d19_13) (q := 16) rfl ?_
  intro T X eT
  refine s_aloadN X hx (hb hby d19_16) rfl rfl (q := 17) rfl ?_
  refine s_getF X hx hZ hown (hw _ (List.mem_of_getElem? (i := 91) rfl)) eT F_x0_size (hb hby d19_17) (q := 20) rfl ?_
  intro T X eT
  refine callPr X hx hZ hown (W := 0) (argsL := [(.ref x1), (.ref dd), (.int (1 : Int32))]) (rest := []) (z := (⟨"java/util/ArrayList", "add", "(Ljava/lang/Object;[Ljava/lang/Object;I)V"⟩ : MethodName)) (hw _ (List.mem_of_getElem? (i := 131) rfl)) (hw _ (List.mem_of_getElem? (i := 132) rfl)) (hw _ (List.mem_of_getElem? (i := 133) rfl)) rfl (hw _ (List.mem_of_getElem? (i := 134) rfl)) (hw _ (List.mem_of_getElem? (i := 11) rfl)) (hw _ (List.mem_of_getElem? (i := 135) rfl)) (by decide) E_x0 (rm20_1 l Z a0 hw [] x0 x1 dd k0 h1 n0 sz F_x0_elementData F_x0_size F_x0_modCount E_x0 E_x1 A_dd g_x0 g_x1 g_dd) eT (by decide) (by decide) (by decide) (by decide) (by rw [hml]; rfl) pd11 rfl rfl (Nat.le_of_ble_eq_true rfl) (hb hby d19_20) (q := 23) rfl ?_
  intro v T Lc hQ X
  obtain ⟨h2, eT⟩ : ∃ z, T.heap = z := ⟨_, rfl⟩
  rw [eT] at hQ
  obtain ⟨rfl, N', K', F_x0_elementData', F_x0_size', F_x0_modCount', A_dd'⟩ := hQ
  have N := Fr.app N N'
  have E_x0 := E_x0.keep K'
  have E_x1 := E_x1.keep K'
  have sz : n0 ≤ h2.size := Nat.le_trans sz K'.1
  have K := K.trans K' (allS (Or.inl (List.mem_of_getElem? (i := 0) rfl)) (allS (Or.inl (List.mem_of_getElem? (i := 1) rfl)) all0))
  have F_x0_elementData : Fld Z h2 x0 "java/util/ArrayList" "elementData" "[Ljava/lang/Object;" (.ref dd) := F_x0_elementData'
  have F_x0_size : Fld Z h2 x0 "java/util/ArrayList" "size" "I" (.int (2 : Int32)) := F_x0_size'
  have F_x0_modCount : Fld Z h2 x0 "java/util/AbstractList" "modCount" "I" (.int (2 : Int32)) := F_x0_modCount'
  have A_dd : AO Z h2 dd [(.ref k0), (.ref x1), .null, .null, .null, .null, .null, .null, .null, .null] := A_dd'
  refine s_iconst X hx (z := (1 : Int32)) (hb hby d19_23) rfl (q := 24) rfl ?_
  exact leafN X hx hlk hret (by simp) (hb hby d19_24) (by decide) (by decide) (z' := (1 : Int32)) rfl (by rw [eT]; exact ⟨rfl, N, K, F_x0_elementData, F_x0_size, F_x0_modCount, A_dd⟩)
theorem own_mod (d b : Int64) (hb : 0 < b.toInt) (hd : 0 ≤ d.toInt) : 0 ≤ (d % b).toInt ∧ (d % b).toInt < b.toInt := by
  have q1 := (c_lrem d b b.toInt rfl).1 hd
  rw [lrem_mod] at q1
  have p1 := Int.emod_nonneg d.toInt (show b.toInt ≠ 0 by omega)
  have p2 := Int.emod_lt_of_pos d.toInt hb
  omega
theorem own_dm1 {d : Int64} {ix : Int32} (hd : 0 ≤ d.toInt) (h : (d % (1 : Int64)).toInt32 = ix) : ix = 0 := by
  have q := own_mod d 1 (by decide) hd
  have e : (1 : Int64).toInt = 1 := by decide
  have : d % (1 : Int64) = 0 := Int64.toInt_inj.mp (by have e0 : (0 : Int64).toInt = 0 := by decide
                                                       omega)
  rw [← h, this]; decide
theorem own_dm2 {d : Int64} {ix : Int32} (hd : 0 ≤ d.toInt) (h : (d % (2 : Int64)).toInt32 = ix) : ix = 0 ∨ ix = 1 := by
  have q := own_mod d 2 (by decide) hd
  have e : (2 : Int64).toInt = 2 := by decide
  have e0 : (0 : Int64).toInt = 0 := by decide
  have e1 : (1 : Int64).toInt = 1 := by decide
  have : d % (2 : Int64) = 0 ∨ d % (2 : Int64) = 1 := by
    rcases (show (d % (2 : Int64)).toInt = 0 ∨ (d % (2 : Int64)).toInt = 1 by omega) with z | z
    · exact Or.inl (Int64.toInt_inj.mp (z.trans e0.symm))
    · exact Or.inr (Int64.toInt_inj.mp (z.trans e1.symm))
  rcases this with z | z <;> rw [← h, z] <;> decide
theorem own_ov (x : Int64) (h0 : 0 ≤ x.toInt) (h1 : x.toInt < 9223372036854775807) : ¬ (((x ^^^ (x + (1 : Int64))) &&& ((1 : Int64) ^^^ (x + (1 : Int64))))) < (0 : Int64) := by
  have e0 : (0 : Int64).toInt = 0 := by decide
  have e1 : (1 : Int64).toInt = 1 := by decide
  have a := c_ladd x 1
  have r := rng64 (x + 1)
  have s0 : 0 ≤ (x + 1).toInt := by omega
  have t := (c_xorSL 1 (x + 1)).2.2.2 (by decide) s0
  have u := (c_andSL (x ^^^ (x + 1)) (1 ^^^ (x + 1))).2.2 t
  rw [Int64.lt_iff_toInt_lt, e0]; omega
theorem own_st (x : Int64) (h0 : 0 ≤ x.toInt) (h1 : x.toInt < 9223372036854775807) : (x + (1 : Int64)).toInt = x.toInt + 1 := by
  have e1 : (1 : Int64).toInt = 1 := by decide
  have a := c_ladd x 1
  have r := rng64 (x + 1)
  omega
theorem own_sd (x : Int64) (h0 : 0 < x.toInt) : (x - (1 : Int64)).toInt = x.toInt - 1 := by
  have e1 : (1 : Int64).toInt = 1 := by decide
  have a := c_lsub x 1
  have r := rng64 (x - 1)
  have r2 := rng64 x
  omega
theorem own_gt0 {x : Int64} (h0 : 0 < x.toInt) : (0 : Int64) < x := by
  rw [Int64.lt_iff_toInt_lt]; exact h0
theorem d16_0 : decode prog_1_method_8_code 0 = .ok (.aload_n 0, 1) := by decide +kernel
theorem d16_1 : decode prog_1_method_8_code 1 = .ok (.getfield 22, 3) := by decide +kernel
theorem d16_4 : decode prog_1_method_8_code 4 = .ok (.new 98, 3) := by decide +kernel
theorem d16_7 : decode prog_1_method_8_code 7 = .ok (.dup, 1) := by decide +kernel
theorem d16_8 : decode prog_1_method_8_code 8 = .ok (.aload_n 0, 1) := by decide +kernel
theorem d16_9 : decode prog_1_method_8_code 9 = .ok (.getfield 63, 3) := by decide +kernel
theorem d16_12 : decode prog_1_method_8_code 12 = .ok (.aload_n 1, 1) := by decide +kernel
theorem d16_13 : decode prog_1_method_8_code 13 = .ok (.invokespecial 106, 3) := by decide +kernel
theorem d16_16 : decode prog_1_method_8_code 16 = .ok (.invokeinterface 109 2, 5) := by decide +kernel
theorem d16_21 : decode prog_1_method_8_code 21 = .ok (.pop, 1) := by decide +kernel
theorem d16_22 : decode prog_1_method_8_code 22 = .ok (.aload_n 0, 1) := by decide +kernel
theorem d16_23 : decode prog_1_method_8_code 23 = .ok (.getfield 22, 3) := by decide +kernel
theorem d16_26 : decode prog_1_method_8_code 26 = .ok (.aload_n 0, 1) := by decide +kernel
theorem d16_27 : decode prog_1_method_8_code 27 = .ok (.getfield 44, 3) := by decide +kernel
theorem d16_30 : decode prog_1_method_8_code 30 = .ok (.aload_n 0, 1) := by decide +kernel
theorem d16_31 : decode prog_1_method_8_code 31 = .ok (.getfield 63, 3) := by decide +kernel
theorem d16_34 : decode prog_1_method_8_code 34 = .ok (.invokevirtual 75, 3) := by decide +kernel
theorem d16_37 : decode prog_1_method_8_code 37 = .ok (.l2i, 1) := by decide +kernel
theorem d16_38 : decode prog_1_method_8_code 38 = .ok (.aload_n 0, 1) := by decide +kernel
theorem d16_39 : decode prog_1_method_8_code 39 = .ok (.getfield 22, 3) := by decide +kernel
theorem d16_42 : decode prog_1_method_8_code 42 = .ok (.invokeinterface 128 1, 5) := by decide +kernel
theorem d16_47 : decode prog_1_method_8_code 47 = .ok (.iconst 1, 1) := by decide +kernel
theorem d16_48 : decode prog_1_method_8_code 48 = .ok (.isub, 1) := by decide +kernel
theorem d16_49 : decode prog_1_method_8_code 49 = .ok (.invokestatic 132, 3) := by decide +kernel
theorem d16_52 : decode prog_1_method_8_code 52 = .ok (.aload_n 0, 1) := by decide +kernel
theorem d16_53 : decode prog_1_method_8_code 53 = .ok (.getfield 22, 3) := by decide +kernel
theorem d16_56 : decode prog_1_method_8_code 56 = .ok (.invokeinterface 128 1, 5) := by decide +kernel
theorem d16_61 : decode prog_1_method_8_code 61 = .ok (.aload_n 0, 1) := by decide +kernel
theorem d16_62 : decode prog_1_method_8_code 62 = .ok (.getfield 35, 3) := by decide +kernel
theorem d16_65 : decode prog_1_method_8_code 65 = .ok (.if_icmp .ne 22, 3) := by decide +kernel
theorem d16_68 : decode prog_1_method_8_code 68 = .ok (.aload_n 0, 1) := by decide +kernel
theorem d16_69 : decode prog_1_method_8_code 69 = .ok (.aload_n 0, 1) := by decide +kernel
theorem d16_70 : decode prog_1_method_8_code 70 = .ok (.getfield 44, 3) := by decide +kernel
theorem d16_73 : decode prog_1_method_8_code 73 = .ok (.aload_n 0, 1) := by decide +kernel
theorem d16_74 : decode prog_1_method_8_code 74 = .ok (.getfield 35, 3) := by decide +kernel
theorem d16_77 : decode prog_1_method_8_code 77 = .ok (.aload_n 0, 1) := by decide +kernel
theorem d16_78 : decode prog_1_method_8_code 78 = .ok (.getfield 63, 3) := by decide +kernel
theorem d16_81 : decode prog_1_method_8_code 81 = .ok (.invokestatic 117, 3) := by decide +kernel
theorem d16_84 : decode prog_1_method_8_code 84 = .ok (.putfield 52, 3) := by decide +kernel
theorem d16_87 : decode prog_1_method_8_code 87 = .ok (.return_, 1) := by decide +kernel
theorem pn_16 : plainFor (⟨"com/example/cistern/cistern/ReservoirSampler", "fill", "(Ljava/lang/Object;)V"⟩ : MethodName) = true := plainFor_of_name (by first | (simp [plainName, overriddenIn]; done) | decide +kernel)
theorem ef_16 (m : MethodId) (x0 : Addr) : entryFrame m #[(.ref x0), .null] 2 = mkF m 0 #[.val (.ref x0), .val .null] [] := by first | (simp [entryFrame, mkF, argsToLocals, Value.category]; done) | rfl
theorem pd12 : parseMethodDescriptor "(Ljava/lang/Object;)Z" = some ⟨[(.object "java/lang/Object")], some .boolean⟩ := by decide +kernel
theorem pd13 : parseMethodDescriptor "(J)J" = some ⟨[.long], some .long⟩ := by decide +kernel
theorem pd14 : parseMethodDescriptor "()I" = some ⟨[], some .int⟩ := by decide +kernel
theorem pd15 : parseMethodDescriptor "(Ljava/util/List;II)V" = some ⟨[(.object "java/util/List"), .int, .int], none⟩ := by decide +kernel
set_option maxRecDepth 65536 in
set_option maxHeartbeats 40000000 in
theorem rm16_0 (l : Launch) (Z : State) (a0 : Array Value) (hw : ∀ d ∈ tables_1, d.before a0 Z = true) (ws : List Jvm.Cond) (x0 : Addr) (kl : Addr) (gr : Addr) (cp : Int32) (po : Int64) (u : Int64) (d0 : Addr) (h0 : Heap) (n0 : Nat) (sz : n0 ≤ h0.size) (F_x0_kept : Fld Z h0 x0 "com/example/cistern/cistern/ReservoirSampler" "kept" "Ljava/util/List;" (.ref kl)) (F_x0_capacity : Fld Z h0 x0 "com/example/cistern/cistern/ReservoirSampler" "capacity" "I" (.int cp)) (F_x0_random : Fld Z h0 x0 "com/example/cistern/cistern/ReservoirSampler" "random" "Lcom/example/cistern/cistern/SplitMix64;" (.ref gr)) (F_x0_passOver : Fld Z h0 x0 "com/example/cistern/cistern/ReservoirSampler" "passOver" "J" (.long po)) (F_x0_offered : Fld Z h0 x0 "com/example/cistern/cistern/ReservoirSampler" "offered" "J" (.long (1 : Int64))) (E_x0 : Exa Z h0 x0 "com/example/cistern/cistern/ReservoirSampler") (F_kl_elementData : Fld Z h0 kl "java/util/ArrayList" "elementData" "[Ljava/lang/Object;" (.ref d0)) (F_kl_size : Fld Z h0 kl "java/util/ArrayList" "size" "I" (.int (0 : Int32))) (F_kl_modCount : Fld Z h0 kl "java/util/AbstractList" "modCount" "I" (.int (0 : Int32))) (E_kl : Exa Z h0 kl "java/util/ArrayList") (F_gr_state : Fld Z h0 gr "com/example/cistern/cistern/SplitMix64" "state" "J" (.long u)) (E_gr : Exa Z h0 gr "com/example/cistern/cistern/SplitMix64") (g_x0 : n0 ≤ x0) (g_kl : n0 ≤ kl) (g_gr : n0 ≤ gr) (S0 : Sta Z Z.heap "java/util/ArrayList" "DEFAULTCAPACITY_EMPTY_ELEMENTDATA" "[Ljava/lang/Object;" (.ref d0)) (A0 : AV Z Z.heap d0 (.object "java/lang/Object") []) (O_old : Old Z n0 h0) (hcp : ¬ (1 : Int32) = cp) :
    Ctr l (⟨"com/example/cistern/cistern/ReservoirSampler", "fill", "(Ljava/lang/Object;)V"⟩ : MethodName) prog_1_method_8_code 2 none ws ({ frames := 5, cells := 2, slots := 12, locals := 69 } : Room) Z #[(.ref x0), .null] h0 (fun v h L => ∃ dd : Addr, ∃ k0 : Addr, ∃ u2 : Int64, v = none ∧ Fr n0 L ∧ Keep h0 h [kl, gr] ∧ Fld Z h kl "java/util/ArrayList" "elementData" "[Ljava/lang/Object;" (.ref dd) ∧ Fld Z h kl "java/util/ArrayList" "size" "I" (.int (1 : Int32)) ∧ Fld Z h kl "java/util/AbstractList" "modCount" "I" (.int (1 : Int32)) ∧ AO Z h dd [(.ref k0), .null, .null, .null, .null, .null, .null, .null, .null, .null] ∧ Exa Z h k0 "com/example/cistern/cistern/ReservoirSampler$Kept" ∧ Fld Z h gr "com/example/cistern/cistern/SplitMix64" "state" "J" (.long u2) ∧ h0.size ≤ dd ∧ h0.size ≤ k0) 2 12 := by
  refine Ctr.mk pn_16 ?_
  intro p e s m below meth c T hx hby hml hown hnm hlk hret hZ X eT
  have N := Fr.nil n0
  refine enter (ef_16 m x0) ?_
  have K := Keep.refl h0 [kl, gr]
  have hbn : (1 : Int64) ≠ 0 := by decide
  have hbp : 0 < (1 : Int64).toInt := by decide
  have ne_x0_kl := ne_exa E_x0 E_kl (by decide)
  have ne_x0_gr := ne_exa E_x0 E_gr (by decide)
  have ne_kl_gr := ne_exa E_kl E_gr (by decide)
  refine s_aloadN X hx (hb hby d16_0) rfl rfl (q := 1) rfl ?_
  refine s_getF X hx hZ hown (hw _ (List.mem_of_getElem? (i := 33) rfl)) eT F_x0_kept (hb hby d16_1) (q := 4) rfl ?_
  intro T X eT
  refine s_new X hx hZ hown (hw _ (List.mem_of_getElem? (i := 105) rfl)) (hw _ (List.mem_of_getElem? (i := 106) rfl)) (hw _ (List.mem_of_getElem? (i := 107) rfl)) eT (by decide) (by decide) (hb hby d16_4) (q := 7) rfl ?_
  intro T h2 a1 X eT E ea E_a1' Df
  have ne_x0_a1 : x0 ≠ a1 := by rw [ea]; exact Nat.ne_of_lt E_x0.lt
  have ne_kl_a1 : kl ≠ a1 := by rw [ea]; exact Nat.ne_of_lt E_kl.lt
  have ne_gr_a1 : gr ≠ a1 := by rw [ea]; exact Nat.ne_of_lt E_gr.lt
  have E_x0 := E_x0.ext E
  have F_x0_kept := F_x0_kept.ext E
  have F_x0_capacity := F_x0_capacity.ext E
  have F_x0_random := F_x0_random.ext E
  have F_x0_passOver := F_x0_passOver.ext E
  have F_x0_offered := F_x0_offered.ext E
  have E_kl := E_kl.ext E
  have F_kl_elementData := F_kl_elementData.ext E
  have F_kl_size := F_kl_size.ext E
  have F_kl_modCount := F_kl_modCount.ext E
  have E_gr := E_gr.ext E
  have F_gr_state := F_gr_state.ext E
  have O_old := O_old.ext E
  have g_a1 : n0 ≤ a1 := by rw [ea]; exact sz
  have sk_a1 : h0.size ≤ a1 := by rw [ea]; exact K.1
  have K := K.ext E
  have sz : n0 ≤ h2.size := Nat.le_trans sz E.1
  have E_a1 := E_a1'
  have F_a1_position : Fld Z h2 a1 "com/example/cistern/cistern/ReservoirSampler$Kept" "position" "J" (.long (0 : Int64)) := Df _ _ _ .long (Or.inl (hw _ (List.mem_of_getElem? (i := 118) rfl))) (by decide)
  have F_a1_item : Fld Z h2 a1 "com/example/cistern/cistern/ReservoirSampler$Kept" "item" "Ljava/lang/Object;" .null := Df _ _ _ (.object "java/lang/Object") (Or.inl (hw _ (List.mem_of_getElem? (i := 120) rfl))) (by decide)
  refine s_dup X hx (hb hby d16_7) rfl (q := 8) rfl ?_
  refine s_aloadN X hx (hb hby d16_8) rfl rfl (q := 9) rfl ?_
  refine s_getF X hx hZ hown (hw _ (List.mem_of_getElem? (i := 61) rfl)) eT F_x0_offered (hb hby d16_9) (q := 12) rfl ?_
  intro T X eT
  refine s_aloadN X hx (hb hby d16_12) rfl rfl (q := 13) rfl ?_
  refine callI X hx hZ hown (W := 2) (argsL := [(.long (1 : Int64)), .null]) (rest := [(.ref a1), (.ref kl)]) rfl (hw _ (List.mem_of_getElem? (i := 108) rfl)) (hw _ (List.mem_of_getElem? (i := 109) rfl)) (hw _ (List.mem_of_getElem? (i := 107) rfl)) (hw _ (List.mem_of_getElem? (i := 110) rfl)) (by decide) (rm17 l Z a0 hw [] a1 (1 : Int64) h2 n0 sz F_a1_position F_a1_item E_a1 g_a1) eT (by decide) (by decide) (by decide) (by decide) (by rw [hml]; rfl) pd5 rfl rfl (Nat.le_of_ble_eq_true rfl) (hb hby d16_13) (q := 16) rfl ?_
  intro v T Lc hQ X
  obtain ⟨h3, eT⟩ : ∃ z, T.heap = z := ⟨_, rfl⟩
  rw [eT] at hQ
  obtain ⟨rfl, N', K'⟩ := hQ
  have N := Fr.app N N'
  have E_x0 := E_x0.keep K'
  have F_x0_kept := F_x0_kept.keep K' (ninS ne_x0_a1 nin0)
  have F_x0_capacity := F_x0_capacity.keep K' (ninS ne_x0_a1 nin0)
  have F_x0_random := F_x0_random.keep K' (ninS ne_x0_a1 nin0)
  have F_x0_passOver := F_x0_passOver.keep K' (ninS ne_x0_a1 nin0)
  have F_x0_offered := F_x0_offered.keep K' (ninS ne_x0_a1 nin0)
  have E_kl := E_kl.keep K'
  have F_kl_elementData := F_kl_elementData.keep K' (ninS ne_kl_a1 nin0)
  have F_kl_size := F_kl_size.keep K' (ninS ne_kl_a1 nin0)
  have F_kl_modCount := F_kl_modCount.keep K' (ninS ne_kl_a1 nin0)
  have E_gr := E_gr.keep K'
  have F_gr_state := F_gr_state.keep K' (ninS ne_gr_a1 nin0)
  have O_old := O_old.keep K' (allS g_a1 all0)
  have E_a1 := E_a1.keep K'
  have sz : n0 ≤ h3.size := Nat.le_trans sz K'.1
  have K := K.trans K' (allS (Or.inr sk_a1) all0)
  refine callF X hx hZ hown (W := 0) (argsL := [(.ref a1)]) (rest := []) (xi := (⟨"java/util/List", "add", "(Ljava/lang/Object;)Z"⟩ : MethodName)) (y := (⟨"java/util/ArrayList", "add", "(Ljava/lang/Object;)Z"⟩ : MethodName)) (hw _ (List.mem_of_getElem? (i := 121) rfl)) (hw _ (List.mem_of_getElem? (i := 122) rfl)) (hw _ (List.mem_of_getElem? (i := 123) rfl)) rfl (hw _ (List.mem_of_getElem? (i := 124) rfl)) (hw _ (List.mem_of_getElem? (i := 125) rfl)) (hw _ (List.mem_of_getElem? (i := 126) rfl)) (hw _ (List.mem_of_getElem? (i := 127) rfl)) (hw _ (List.mem_of_getElem? (i := 89) rfl)) (hw _ (List.mem_of_getElem? (i := 11) rfl)) (hw _ (List.mem_of_getElem? (i := 128) rfl)) (by decide) E_kl (rm19_0 l Z a0 hw [] kl a1 d0 h3 n0 sz F_kl_elementData F_kl_size F_kl_modCount E_kl E_a1 g_kl g_a1 S0 A0 O_old) eT (by decide) (by decide) (by decide) (by decide) (by rw [hml]; rfl) pd12 rfl rfl (Nat.le_of_ble_eq_true rfl) (hb hby d16_16) (q := 21) rfl ?_
  intro v T Lc hQ X
  obtain ⟨h4, eT⟩ : ∃ z, T.heap = z := ⟨_, rfl⟩
  rw [eT] at hQ
  obtain ⟨dd, rfl, N', K', F_kl_elementData', F_kl_size', F_kl_modCount', A_dd', sq_dd⟩ := hQ
  have N := Fr.app N N'
  have g_dd : n0 ≤ dd := Nat.le_trans sz sq_dd
  have sk_dd : h0.size ≤ dd := Nat.le_trans K.1 sq_dd
  have ne_x0_dd : x0 ≠ dd := Nat.ne_of_lt (Nat.lt_of_lt_of_le E_x0.lt sq_dd)
  have ne_kl_dd : kl ≠ dd := Nat.ne_of_lt (Nat.lt_of_lt_of_le E_kl.lt sq_dd)
  have ne_gr_dd : gr ≠ dd := Nat.ne_of_lt (Nat.lt_of_lt_of_le E_gr.lt sq_dd)
  have ne_a1_dd : a1 ≠ dd := Nat.ne_of_lt (Nat.lt_of_lt_of_le E_a1.lt sq_dd)
  have E_x0 := E_x0.keep K'
  have F_x0_kept := F_x0_kept.keep K' (ninS ne_x0_kl nin0)
  have F_x0_capacity := F_x0_capacity.keep K' (ninS ne_x0_kl nin0)
  have F_x0_random := F_x0_random.keep K' (ninS ne_x0_kl nin0)
  have F_x0_passOver := F_x0_passOver.keep K' (ninS ne_x0_kl nin0)
  have F_x0_offered := F_x0_offered.keep K' (ninS ne_x0_kl nin0)
  have E_kl := E_kl.keep K'
  have E_gr := E_gr.keep K'
  have F_gr_state := F_gr_state.keep K' (ninS (Ne.symm ne_kl_gr) nin0)
  have O_old := O_old.keep K' (allS g_kl all0)
  have E_a1 := E_a1.keep K'
  have sz : n0 ≤ h4.size := Nat.le_trans sz K'.1
  have K := K.trans K' (allS (Or.inl (List.mem_of_getElem? (i := 0) rfl)) all0)
  have F_kl_elementData : Fld Z h4 kl "java/util/ArrayList" "elementData" "[Ljava/lang/Object;" (.ref dd) := F_kl_elementData'
  have F_kl_size : Fld Z h4 kl "java/util/ArrayList" "size" "I" (.int (1 : Int32)) := F_kl_size'
  have F_kl_modCount : Fld Z h4 kl "java/util/AbstractList" "modCount" "I" (.int (1 : Int32)) := F_kl_modCount'
  have A_dd : AO Z h4 dd [(.ref a1), .null, .null, .null, .null, .null, .null, .null, .null, .null] := A_dd'
  refine s_pop X hx (hb hby d16_21) rfl (q := 22) rfl ?_
  refine s_aloadN X hx (hb hby d16_22) rfl rfl (q := 23) rfl ?_
  refine s_getF X hx hZ hown (hw _ (List.mem_of_getElem? (i := 33) rfl)) eT F_x0_kept (hb hby d16_23) (q := 26) rfl ?_
  intro T X eT
  refine s_aloadN X hx (hb hby d16_26) rfl rfl (q := 27) rfl ?_
  refine s_getF X hx hZ hown (hw _ (List.mem_of_getElem? (i := 46) rfl)) eT F_x0_random (hb hby d16_27) (q := 30) rfl ?_
  intro T X eT
  refine s_aloadN X hx (hb hby d16_30) rfl rfl (q := 31) rfl ?_
  refine s_getF X hx hZ hown (hw _ (List.mem_of_getElem? (i := 61) rfl)) eT F_x0_offered (hb hby d16_31) (q := 34) rfl ?_
  intro T X eT
  refine callV X hx hZ hown (W := 1) (argsL := [(.long (1 : Int64))]) (rest := [(.ref kl)]) (hw _ (List.mem_of_getElem? (i := 152) rfl)) (hw _ (List.mem_of_getElem? (i := 153) rfl)) (hw _ (List.mem_of_getElem? (i := 155) rfl)) (hw _ (List.mem_of_getElem? (i := 154) rfl)) (hw _ (List.mem_of_getElem? (i := 39) rfl)) (hw _ (List.mem_of_getElem? (i := 156) rfl)) (by decide) E_gr (rm24 l Z a0 hw [] gr (1 : Int64) u h4 n0 sz F_gr_state E_gr g_gr hbn (own_ex _ _ hbp)) eT (by decide) (by decide) (by decide) (by decide) (by rw [hml]; rfl) pd13 rfl rfl (Nat.le_of_ble_eq_true rfl) (hb hby d16_34) (q := 37) rfl ?_
  intro v T Lc hQ X
  obtain ⟨h5, eT⟩ : ∃ z, T.heap = z := ⟨_, rfl⟩
  try rw [eT] at hQ
  obtain ⟨kk, hrej, hacc, rfl, N', K', F_gr_state'⟩ := hQ
  have N := Fr.app N N'
  have E_x0 := E_x0.keep K'
  have F_x0_kept := F_x0_kept.keep K' (ninS ne_x0_gr nin0)
  have F_x0_capacity := F_x0_capacity.keep K' (ninS ne_x0_gr nin0)
  have F_x0_random := F_x0_random.keep K' (ninS ne_x0_gr nin0)
  have F_x0_passOver := F_x0_passOver.keep K' (ninS ne_x0_gr nin0)
  have F_x0_offered := F_x0_offered.keep K' (ninS ne_x0_gr nin0)
  have E_kl := E_kl.keep K'
  have E_gr := E_gr.keep K'
  have O_old := O_old.keep K' (allS g_gr all0)
  have E_a1 := E_a1.keep K'
  have F_kl_elementData := F_kl_elementData.keep K' (ninS ne_kl_gr nin0)
  have F_kl_size := F_kl_size.keep K' (ninS ne_kl_gr nin0)
  have F_kl_modCount := F_kl_modCount.keep K' (ninS ne_kl_gr nin0)
  have A_dd := A_dd.keep K' (ninS (Ne.symm ne_gr_dd) nin0)
  have sz : n0 ≤ h5.size := Nat.le_trans sz K'.1
  have K := K.trans K' (allS (Or.inl (List.mem_of_getElem? (i := 1) rfl)) all0)
  have F_gr_state := F_gr_state'
  refine s_l2i X hx (hb hby d16_37) (q := 38) rfl ?_
  generalize hix : (DR (Us u kk) % (1 : Int64)).toInt32 = ix
  rcases own_dm1 (own_dr _) hix with hcase
  · subst hcase
    refine s_aloadN X hx (hb hby d16_38) rfl rfl (q := 39) rfl ?_
    refine s_getF X hx hZ hown (hw _ (List.mem_of_getElem? (i := 33) rfl)) eT F_x0_kept (hb hby d16_39) (q := 42) rfl ?_
    intro T X eT
    refine callF X hx hZ hown (W := 2) (argsL := []) (rest := [(.int (0 : Int32)), (.ref kl)]) (xi := (⟨"java/util/List", "size", "()I"⟩ : MethodName)) (y := (⟨"java/util/ArrayList", "size", "()I"⟩ : MethodName)) (hw _ (List.mem_of_getElem? (i := 82) rfl)) (hw _ (List.mem_of_getElem? (i := 83) rfl)) (hw _ (List.mem_of_getElem? (i := 84) rfl)) rfl (hw _ (List.mem_of_getElem? (i := 85) rfl)) (hw _ (List.mem_of_getElem? (i := 86) rfl)) (hw _ (List.mem_of_getElem? (i := 87) rfl)) (hw _ (List.mem_of_getElem? (i := 88) rfl)) (hw _ (List.mem_of_getElem? (i := 89) rfl)) (hw _ (List.mem_of_getElem? (i := 11) rfl)) (hw _ (List.mem_of_getElem? (i := 90) rfl)) (by decide) E_kl (rm13 l Z a0 hw [] kl (1 : Int32) h5 n0 sz F_kl_size E_kl) eT (by decide) (by decide) (by decide) (by decide) (by rw [hml]; rfl) pd14 rfl rfl (Nat.le_of_ble_eq_true rfl) (hb hby d16_42) (q := 47) rfl ?_
    intro v T Lc hQ X
    obtain ⟨rfl, eT, N'⟩ := hQ
    have N := Fr.app N N'
    refine s_iconst X hx (z := (1 : Int32)) (hb hby d16_47) rfl (q := 48) rfl ?_
    refine s_isub X hx (hb hby d16_48) (q := 49) rfl ?_
    show Go p e below _ T m 49 #[.val (.ref x0), .val .null] [(.int (0 : Int32)), (.int (0 : Int32)), (.ref kl)]
    refine callC X hx hZ hown (W := 0) (argsL := [(.ref kl), (.int (0 : Int32)), (.int (0 : Int32))]) (rest := []) (hw _ (List.mem_of_getElem? (i := 166) rfl)) (hw _ (List.mem_of_getElem? (i := 167) rfl)) (hw _ (List.mem_of_getElem? (i := 168) rfl)) (hw _ (List.mem_of_getElem? (i := 169) rfl)) (by decide) (rm26 l Z a0 hw [] kl (0 : Int32) (0 : Int32) (1 : Int32) dd [(.ref a1), .null, .null, .null, .null, .null, .null, .null, .null, .null] 0 a1 0 a1 h5 n0 sz F_kl_elementData F_kl_size E_kl A_dd E_a1 E_a1 g_dd (by decide) (by decide) rfl rfl (by decide) (by decide) rfl rfl) eT (by decide) (by decide) (by decide) (by decide) (by rw [hml]; rfl) pd15 rfl rfl (Nat.le_of_ble_eq_true rfl) (hb hby d16_49) (q := 52) rfl ?_
    intro v T Lc hQ X
    obtain ⟨h6, eT⟩ : ∃ z, T.heap = z := ⟨_, rfl⟩
    rw [eT] at hQ
    obtain ⟨rfl, N', K', A_dd'⟩ := hQ
    have N := Fr.app N N'
    have E_x0 := E_x0.keep K'
    have F_x0_kept := F_x0_kept.keep K' (ninS ne_x0_dd nin0)
    have F_x0_capacity := F_x0_capacity.keep K' (ninS ne_x0_dd nin0)
    have F_x0_random := F_x0_random.keep K' (ninS ne_x0_dd nin0)
    have F_x0_passOver := F_x0_passOver.keep K' (ninS ne_x0_dd nin0)
    have F_x0_offered := F_x0_offered.keep K' (ninS ne_x0_dd nin0)
    have E_kl := E_kl.keep K'
    have E_gr := E_gr.keep K'
    have F_gr_state := F_gr_state.keep K' (ninS ne_gr_dd nin0)
    have O_old := O_old.keep K' (allS g_dd all0)
    have E_a1 := E_a1.keep K'
    have F_kl_elementData := F_kl_elementData.keep K' (ninS ne_kl_dd nin0)
    have F_kl_size := F_kl_size.keep K' (ninS ne_kl_dd nin0)
    have F_kl_modCount := F_kl_modCount.keep K' (ninS ne_kl_dd nin0)
    have sz : n0 ≤ h6.size := Nat.le_trans sz K'.1
    have K := K.trans K' (allS (Or.inr sk_dd) all0)
    have A_dd : AO Z h6 dd (([(.ref a1), .null, .null, .null, .null, .null, .null, .null, .null, .null].set 0 (.ref a1)).set 0 (.ref a1)) := A_dd'
    have A_dd : AO Z h6 dd [(.ref a1), .null, .null, .null, .null, .null, .null, .null, .null, .null] := A_dd
    refine s_aloadN X hx (hb hby d16_52) rfl rfl (q := 53) rfl ?_
    refine s_getF X hx hZ hown (hw _ (List.mem_of_getElem? (i := 33) rfl)) eT F_x0_kept (hb hby d16_53) (q := 56) rfl ?_
    intro T X eT
    refine callF X hx hZ hown (W := 0) (argsL := []) (rest := []) (xi := (⟨"java/util/List", "size", "()I"⟩ : MethodName)) (y := (⟨"java/util/ArrayList", "size", "()I"⟩ : MethodName)) (hw _ (List.mem_of_getElem? (i := 82) rfl)) (hw _ (List.mem_of_getElem? (i := 83) rfl)) (hw _ (List.mem_of_getElem? (i := 84) rfl)) rfl (hw _ (List.mem_of_getElem? (i := 85) rfl)) (hw _ (List.mem_of_getElem? (i := 86) rfl)) (hw _ (List.mem_of_getElem? (i := 87) rfl)) (hw _ (List.mem_of_getElem? (i := 88) rfl)) (hw _ (List.mem_of_getElem? (i := 89) rfl)) (hw _ (List.mem_of_getElem? (i := 11) rfl)) (hw _ (List.mem_of_getElem? (i := 90) rfl)) (by decide) E_kl (rm13 l Z a0 hw [] kl (1 : Int32) h6 n0 sz F_kl_size E_kl) eT (by decide) (by decide) (by decide) (by decide) (by rw [hml]; rfl) pd14 rfl rfl (Nat.le_of_ble_eq_true rfl) (hb hby d16_56) (q := 61) rfl ?_
    intro v T Lc hQ X
    obtain ⟨rfl, eT, N'⟩ := hQ
    have N := Fr.app N N'
    refine s_aloadN X hx (hb hby d16_61) rfl rfl (q := 62) rfl ?_
    refine s_getF X hx hZ hown (hw _ (List.mem_of_getElem? (i := 35) rfl)) eT F_x0_capacity (hb hby d16_62) (q := 65) rfl ?_
    intro T X eT
    refine f_icmp_ne X hx (hb hby d16_65) (q1 := 87) (by decide) (by decide) (q := 68) rfl (fun _ => ?_) (fun hq => absurd hq (hcp : ¬ (1 : Int32) = cp))
    exact leafV X hx hlk hret (hb hby d16_87) (by decide) (by decide) (by rw [eT]; exact ⟨dd, a1, (Us u (kk + 1)), rfl, N, K, F_kl_elementData, F_kl_size, F_kl_modCount, A_dd, E_a1, F_gr_state, sk_dd, sk_a1⟩)
set_option maxRecDepth 65536 in
set_option maxHeartbeats 40000000 in
theorem rm16_1 (l : Launch) (Z : State) (a0 : Array Value) (hw : ∀ d ∈ tables_1, d.before a0 Z = true) (ws : List Jvm.Cond) (x0 : Addr) (kl : Addr) (gr : Addr) (cp : Int32) (po : Int64) (u : Int64) (dd : Addr) (k0 : Addr) (h0 : Heap) (n0 : Nat) (sz : n0 ≤ h0.size) (F_x0_kept : Fld Z h0 x0 "com/example/cistern/cistern/ReservoirSampler" "kept" "Ljava/util/List;" (.ref kl)) (F_x0_capacity : Fld Z h0 x0 "com/example/cistern/cistern/ReservoirSampler" "capacity" "I" (.int cp)) (F_x0_random : Fld Z h0 x0 "com/example/cistern/cistern/ReservoirSampler" "random" "Lcom/example/cistern/cistern/SplitMix64;" (.ref gr)) (F_x0_passOver : Fld Z h0 x0 "com/example/cistern/cistern/ReservoirSampler" "passOver" "J" (.long po)) (F_x0_offered : Fld Z h0 x0 "com/example/cistern/cistern/ReservoirSampler" "offered" "J" (.long (2 : Int64))) (E_x0 : Exa Z h0 x0 "com/example/cistern/cistern/ReservoirSampler") (F_kl_elementData : Fld Z h0 kl "java/util/ArrayList" "elementData" "[Ljava/lang/Object;" (.ref dd)) (F_kl_size : Fld Z h0 kl "java/util/ArrayList" "size" "I" (.int (1 : Int32))) (F_kl_modCount : Fld Z h0 kl "java/util/AbstractList" "modCount" "I" (.int (1 : Int32))) (E_kl : Exa Z h0 kl "java/util/ArrayList") (F_gr_state : Fld Z h0 gr "com/example/cistern/cistern/SplitMix64" "state" "J" (.long u)) (E_gr : Exa Z h0 gr "com/example/cistern/cistern/SplitMix64") (A_dd : AO Z h0 dd [(.ref k0), .null, .null, .null, .null, .null, .null, .null, .null, .null]) (E_k0 : Exa Z h0 k0 "com/example/cistern/cistern/ReservoirSampler$Kept") (g_x0 : n0 ≤ x0) (g_kl : n0 ≤ kl) (g_gr : n0 ≤ gr) (g_dd : n0 ≤ dd) (g_k0 : n0 ≤ k0) (hcp : ¬ (2 : Int32) = cp) :
    Ctr l (⟨"com/example/cistern/cistern/ReservoirSampler", "fill", "(Ljava/lang/Object;)V"⟩ : MethodName) prog_1_method_8_code 2 none ws ({ frames := 4, cells := 1, slots := 2, locals := 59 } : Room) Z #[(.ref x0), .null] h0 (fun v h L => v = none ∧ Fr n0 L ∧ Keep h0 h [kl, gr, dd]) 1 2 := by
  refine Ctr.mk pn_16 ?_
  intro p e s m below meth c T hx hby hml hown hnm hlk hret hZ X eT
  have N := Fr.nil n0
  refine enter (ef_16 m x0) ?_
  have K := Keep.refl h0 [kl, gr, dd]
  have hbn : (2 : Int64) ≠ 0 := by decide
  have hbp : 0 < (2 : Int64).toInt := by decide
  have ne_x0_kl := ne_exa E_x0 E_kl (by decide)
  have ne_x0_gr := ne_exa E_x0 E_gr (by decide)
  have ne_x0_dd := own_neA E_x0 (hw _ (List.mem_of_getElem? (i := 1) rfl)) A_dd
  have ne_x0_k0 := ne_exa E_x0 E_k0 (by decide)
  have ne_kl_gr := ne_exa E_kl E_gr (by decide)
  have ne_kl_dd := own_neA E_kl (hw _ (List.mem_of_getElem? (i := 10) rfl)) A_dd
  have ne_kl_k0 := ne_exa E_kl E_k0 (by decide)
  have ne_gr_dd := own_neA E_gr (hw _ (List.mem_of_getElem? (i := 38) rfl)) A_dd
  have ne_gr_k0 := ne_exa E_gr E_k0 (by decide)
  have ne_k0_dd := own_neA E_k0 (hw _ (List.mem_of_getElem? (i := 106) rfl)) A_dd
  refine s_aloadN X hx (hb hby d16_0) rfl rfl (q := 1) rfl ?_
  refine s_getF X hx hZ hown (hw _ (List.mem_of_getElem? (i := 33) rfl)) eT F_x0_kept (hb hby d16_1) (q := 4) rfl ?_
  intro T X eT
  refine s_new X hx hZ hown (hw _ (List.mem_of_getElem? (i := 105) rfl)) (hw _ (List.mem_of_getElem? (i := 106) rfl)) (hw _ (List.mem_of_getElem? (i := 107) rfl)) eT (by decide) (by decide) (hb hby d16_4) (q := 7) rfl ?_
  intro T h2 a1 X eT E ea E_a1' Df
  have ne_x0_a1 : x0 ≠ a1 := by rw [ea]; exact Nat.ne_of_lt E_x0.lt
  have ne_kl_a1 : kl ≠ a1 := by rw [ea]; exact Nat.ne_of_lt E_kl.lt
  have ne_gr_a1 : gr ≠ a1 := by rw [ea]; exact Nat.ne_of_lt E_gr.lt
  have ne_dd_a1 : dd ≠ a1 := by rw [ea]; exact Nat.ne_of_lt A_dd.lt
  have ne_k0_a1 : k0 ≠ a1 := by rw [ea]; exact Nat.ne_of_lt E_k0.lt
  have E_x0 := E_x0.ext E
  have F_x0_kept := F_x0_kept.ext E
  have F_x0_capacity := F_x0_capacity.ext E
  have F_x0_random := F_x0_random.ext E
  have F_x0_passOver := F_x0_passOver.ext E
  have F_x0_offered := F_x0_offered.ext E
  have E_kl := E_kl.ext E
  have F_kl_elementData := F_kl_elementData.ext E
  have F_kl_size := F_kl_size.ext E
  have F_kl_modCount := F_kl_modCount.ext E
  have E_gr := E_gr.ext E
  have F_gr_state := F_gr_state.ext E
  have A_dd := A_dd.ext E
  have E_k0 := E_k0.ext E
  have g_a1 : n0 ≤ a1 := by rw [ea]; exact sz
  have sk_a1 : h0.size ≤ a1 := by rw [ea]; exact K.1
  have K := K.ext E
  have sz : n0 ≤ h2.size := Nat.le_trans sz E.1
  have E_a1 := E_a1'
  have F_a1_position : Fld Z h2 a1 "com/example/cistern/cistern/ReservoirSampler$Kept" "position" "J" (.long (0 : Int64)) := Df _ _ _ .long (Or.inl (hw _ (List.mem_of_getElem? (i := 118) rfl))) (by decide)
  have F_a1_item : Fld Z h2 a1 "com/example/cistern/cistern/ReservoirSampler$Kept" "item" "Ljava/lang/Object;" .null := Df _ _ _ (.object "java/lang/Object") (Or.inl (hw _ (List.mem_of_getElem? (i := 120) rfl))) (by decide)
  refine s_dup X hx (hb hby d16_7) rfl (q := 8) rfl ?_
  refine s_aloadN X hx (hb hby d16_8) rfl rfl (q := 9) rfl ?_
  refine s_getF X hx hZ hown (hw _ (List.mem_of_getElem? (i := 61) rfl)) eT F_x0_offered (hb hby d16_9) (q := 12) rfl ?_
  intro T X eT
  refine s_aloadN X hx (hb hby d16_12) rfl rfl (q := 13) rfl ?_
  refine callI X hx hZ hown (W := 2) (argsL := [(.long (2 : Int64)), .null]) (rest := [(.ref a1), (.ref kl)]) rfl (hw _ (List.mem_of_getElem? (i := 108) rfl)) (hw _ (List.mem_of_getElem? (i := 109) rfl)) (hw _ (List.mem_of_getElem? (i := 107) rfl)) (hw _ (List.mem_of_getElem? (i := 110) rfl)) (by decide) (rm17 l Z a0 hw [] a1 (2 : Int64) h2 n0 sz F_a1_position F_a1_item E_a1 g_a1) eT (by decide) (by decide) (by decide) (by decide) (by rw [hml]; rfl) pd5 rfl rfl (Nat.le_of_ble_eq_true rfl) (hb hby d16_13) (q := 16) rfl ?_
  intro v T Lc hQ X
  obtain ⟨h3, eT⟩ : ∃ z, T.heap = z := ⟨_, rfl⟩
  rw [eT] at hQ
  obtain ⟨rfl, N', K'⟩ := hQ
  have N := Fr.app N N'
  have E_x0 := E_x0.keep K'
  have F_x0_kept := F_x0_kept.keep K' (ninS ne_x0_a1 nin0)
  have F_x0_capacity := F_x0_capacity.keep K' (ninS ne_x0_a1 nin0)
  have F_x0_random := F_x0_random.keep K' (ninS ne_x0_a1 nin0)
  have F_x0_passOver := F_x0_passOver.keep K' (ninS ne_x0_a1 nin0)
  have F_x0_offered := F_x0_offered.keep K' (ninS ne_x0_a1 nin0)
  have E_kl := E_kl.keep K'
  have F_kl_elementData := F_kl_elementData.keep K' (ninS ne_kl_a1 nin0)
  have F_kl_size := F_kl_size.keep K' (ninS ne_kl_a1 nin0)
  have F_kl_modCount := F_kl_modCount.keep K' (ninS ne_kl_a1 nin0)
  have E_gr := E_gr.keep K'
  have F_gr_state := F_gr_state.keep K' (ninS ne_gr_a1 nin0)
  have A_dd := A_dd.keep K' (ninS ne_dd_a1 nin0)
  have E_k0 := E_k0.keep K'
  have E_a1 := E_a1.keep K'
  have sz : n0 ≤ h3.size := Nat.le_trans sz K'.1
  have K := K.trans K' (allS (Or.inr sk_a1) all0)
  refine callF X hx hZ hown (W := 0) (argsL := [(.ref a1)]) (rest := []) (xi := (⟨"java/util/List", "add", "(Ljava/lang/Object;)Z"⟩ : MethodName)) (y := (⟨"java/util/ArrayList", "add", "(Ljava/lang/Object;)Z"⟩ : MethodName)) (hw _ (List.mem_of_getElem? (i := 121) rfl)) (hw _ (List.mem_of_getElem? (i := 122) rfl)) (hw _ (List.mem_of_getElem? (i := 123) rfl)) rfl (hw _ (List.mem_of_getElem? (i := 124) rfl)) (hw _ (List.mem_of_getElem? (i := 125) rfl)) (hw _ (List.mem_of_getElem? (i := 126) rfl)) (hw _ (List.mem_of_getElem? (i := 127) rfl)) (hw _ (List.mem_of_getElem? (i := 89) rfl)) (hw _ (List.mem_of_getElem? (i := 11) rfl)) (hw _ (List.mem_of_getElem? (i := 128) rfl)) (by decide) E_kl (rm19_1 l Z a0 hw [] kl a1 dd k0 h3 n0 sz F_kl_elementData F_kl_size F_kl_modCount E_kl E_a1 A_dd g_kl g_a1 g_dd) eT (by decide) (by decide) (by decide) (by decide) (by rw [hml]; rfl) pd12 rfl rfl (Nat.le_of_ble_eq_true rfl) (hb hby d16_16) (q := 21) rfl ?_
  intro v T Lc hQ X
  obtain ⟨h4, eT⟩ : ∃ z, T.heap = z := ⟨_, rfl⟩
  rw [eT] at hQ
  obtain ⟨rfl, N', K', F_kl_elementData', F_kl_size', F_kl_modCount', A_dd'⟩ := hQ
  have N := Fr.app N N'
  have E_x0 := E_x0.keep K'
  have F_x0_kept := F_x0_kept.keep K' (ninS ne_x0_kl (ninS ne_x0_dd nin0))
  have F_x0_capacity := F_x0_capacity.keep K' (ninS ne_x0_kl (ninS ne_x0_dd nin0))
  have F_x0_random := F_x0_random.keep K' (ninS ne_x0_kl (ninS ne_x0_dd nin0))
  have F_x0_passOver := F_x0_passOver.keep K' (ninS ne_x0_kl (ninS ne_x0_dd nin0))
  have F_x0_offered := F_x0_offered.keep K' (ninS ne_x0_kl (ninS ne_x0_dd nin0))
  have E_kl := E_kl.keep K'
  have E_gr := E_gr.keep K'
  have F_gr_state := F_gr_state.keep K' (ninS (Ne.symm ne_kl_gr) (ninS ne_gr_dd nin0))
  have E_k0 := E_k0.keep K'
  have E_a1 := E_a1.keep K'
  have sz : n0 ≤ h4.size := Nat.le_trans sz K'.1
  have K := K.trans K' (allS (Or.inl (List.mem_of_getElem? (i := 0) rfl)) (allS (Or.inl (List.mem_of_getElem? (i := 2) rfl)) all0))
  have F_kl_elementData : Fld Z h4 kl "java/util/ArrayList" "elementData" "[Ljava/lang/Object;" (.ref dd) := F_kl_elementData'
  have F_kl_size : Fld Z h4 kl "java/util/ArrayList" "size" "I" (.int (2 : Int32)) := F_kl_size'
  have F_kl_modCount : Fld Z h4 kl "java/util/AbstractList" "modCount" "I" (.int (2 : Int32)) := F_kl_modCount'
  have A_dd : AO Z h4 dd [(.ref k0), (.ref a1), .null, .null, .null, .null, .null, .null, .null, .null] := A_dd'
  refine s_pop X hx (hb hby d16_21) rfl (q := 22) rfl ?_
  refine s_aloadN X hx (hb hby d16_22) rfl rfl (q := 23) rfl ?_
  refine s_getF X hx hZ hown (hw _ (List.mem_of_getElem? (i := 33) rfl)) eT F_x0_kept (hb hby d16_23) (q := 26) rfl ?_
  intro T X eT
  refine s_aloadN X hx (hb hby d16_26) rfl rfl (q := 27) rfl ?_
  refine s_getF X hx hZ hown (hw _ (List.mem_of_getElem? (i := 46) rfl)) eT F_x0_random (hb hby d16_27) (q := 30) rfl ?_
  intro T X eT
  refine s_aloadN X hx (hb hby d16_30) rfl rfl (q := 31) rfl ?_
  refine s_getF X hx hZ hown (hw _ (List.mem_of_getElem? (i := 61) rfl)) eT F_x0_offered (hb hby d16_31) (q := 34) rfl ?_
  intro T X eT
  refine callV X hx hZ hown (W := 1) (argsL := [(.long (2 : Int64))]) (rest := [(.ref kl)]) (hw _ (List.mem_of_getElem? (i := 152) rfl)) (hw _ (List.mem_of_getElem? (i := 153) rfl)) (hw _ (List.mem_of_getElem? (i := 155) rfl)) (hw _ (List.mem_of_getElem? (i := 154) rfl)) (hw _ (List.mem_of_getElem? (i := 39) rfl)) (hw _ (List.mem_of_getElem? (i := 156) rfl)) (by decide) E_gr (rm24 l Z a0 hw [] gr (2 : Int64) u h4 n0 sz F_gr_state E_gr g_gr hbn (own_ex _ _ hbp)) eT (by decide) (by decide) (by decide) (by decide) (by rw [hml]; rfl) pd13 rfl rfl (Nat.le_of_ble_eq_true rfl) (hb hby d16_34) (q := 37) rfl ?_
  intro v T Lc hQ X
  obtain ⟨h5, eT⟩ : ∃ z, T.heap = z := ⟨_, rfl⟩
  try rw [eT] at hQ
  obtain ⟨kk, hrej, hacc, rfl, N', K', F_gr_state'⟩ := hQ
  have N := Fr.app N N'
  have E_x0 := E_x0.keep K'
  have F_x0_kept := F_x0_kept.keep K' (ninS ne_x0_gr nin0)
  have F_x0_capacity := F_x0_capacity.keep K' (ninS ne_x0_gr nin0)
  have F_x0_random := F_x0_random.keep K' (ninS ne_x0_gr nin0)
  have F_x0_passOver := F_x0_passOver.keep K' (ninS ne_x0_gr nin0)
  have F_x0_offered := F_x0_offered.keep K' (ninS ne_x0_gr nin0)
  have E_kl := E_kl.keep K'
  have E_gr := E_gr.keep K'
  have E_k0 := E_k0.keep K'
  have E_a1 := E_a1.keep K'
  have F_kl_elementData := F_kl_elementData.keep K' (ninS ne_kl_gr nin0)
  have F_kl_size := F_kl_size.keep K' (ninS ne_kl_gr nin0)
  have F_kl_modCount := F_kl_modCount.keep K' (ninS ne_kl_gr nin0)
  have A_dd := A_dd.keep K' (ninS (Ne.symm ne_gr_dd) nin0)
  have sz : n0 ≤ h5.size := Nat.le_trans sz K'.1
  have K := K.trans K' (allS (Or.inl (List.mem_of_getElem? (i := 1) rfl)) all0)
  have F_gr_state := F_gr_state'
  refine s_l2i X hx (hb hby d16_37) (q := 38) rfl ?_
  generalize hix : (DR (Us u kk) % (2 : Int64)).toInt32 = ix
  rcases own_dm2 (own_dr _) hix with hcase | hcase
  · subst hcase
    refine s_aloadN X hx (hb hby d16_38) rfl rfl (q := 39) rfl ?_
    refine s_getF X hx hZ hown (hw _ (List.mem_of_getElem? (i := 33) rfl)) eT F_x0_kept (hb hby d16_39) (q := 42) rfl ?_
    intro T X eT
    refine callF X hx hZ hown (W := 2) (argsL := []) (rest := [(.int (0 : Int32)), (.ref kl)]) (xi := (⟨"java/util/List", "size", "()I"⟩ : MethodName)) (y := (⟨"java/util/ArrayList", "size", "()I"⟩ : MethodName)) (hw _ (List.mem_of_getElem? (i := 82) rfl)) (hw _ (List.mem_of_getElem? (i := 83) rfl)) (hw _ (List.mem_of_getElem? (i := 84) rfl)) rfl (hw _ (List.mem_of_getElem? (i := 85) rfl)) (hw _ (List.mem_of_getElem? (i := 86) rfl)) (hw _ (List.mem_of_getElem? (i := 87) rfl)) (hw _ (List.mem_of_getElem? (i := 88) rfl)) (hw _ (List.mem_of_getElem? (i := 89) rfl)) (hw _ (List.mem_of_getElem? (i := 11) rfl)) (hw _ (List.mem_of_getElem? (i := 90) rfl)) (by decide) E_kl (rm13 l Z a0 hw [] kl (2 : Int32) h5 n0 sz F_kl_size E_kl) eT (by decide) (by decide) (by decide) (by decide) (by rw [hml]; rfl) pd14 rfl rfl (Nat.le_of_ble_eq_true rfl) (hb hby d16_42) (q := 47) rfl ?_
    intro v T Lc hQ X
    obtain ⟨rfl, eT, N'⟩ := hQ
    have N := Fr.app N N'
    refine s_iconst X hx (z := (1 : Int32)) (hb hby d16_47) rfl (q := 48) rfl ?_
    refine s_isub X hx (hb hby d16_48) (q := 49) rfl ?_
    show Go p e below _ T m 49 #[.val (.ref x0), .val .null] [(.int (1 : Int32)), (.int (0 : Int32)), (.ref kl)]
    refine callC X hx hZ hown (W := 0) (argsL := [(.ref kl), (.int (0 : Int32)), (.int (1 : Int32))]) (rest := []) (hw _ (List.mem_of_getElem? (i := 166) rfl)) (hw _ (List.mem_of_getElem? (i := 167) rfl)) (hw _ (List.mem_of_getElem? (i := 168) rfl)) (hw _ (List.mem_of_getElem? (i := 169) rfl)) (by decide) (rm26 l Z a0 hw [] kl (0 : Int32) (1 : Int32) (2 : Int32) dd [(.ref k0), (.ref a1), .null, .null, .null, .null, .null, .null, .null, .null] 0 k0 1 a1 h5 n0 sz F_kl_elementData F_kl_size E_kl A_dd E_k0 E_a1 g_dd (by decide) (by decide) rfl rfl (by decide) (by decide) rfl rfl) eT (by decide) (by decide) (by decide) (by decide) (by rw [hml]; rfl) pd15 rfl rfl (Nat.le_of_ble_eq_true rfl) (hb hby d16_49) (q := 52) rfl ?_
    intro v T Lc hQ X
    obtain ⟨h6, eT⟩ : ∃ z, T.heap = z := ⟨_, rfl⟩
    rw [eT] at hQ
    obtain ⟨rfl, N', K', A_dd'⟩ := hQ
    have N := Fr.app N N'
    have E_x0 := E_x0.keep K'
    have F_x0_kept := F_x0_kept.keep K' (ninS ne_x0_dd nin0)
    have F_x0_capacity := F_x0_capacity.keep K' (ninS ne_x0_dd nin0)
    have F_x0_random := F_x0_random.keep K' (ninS ne_x0_dd nin0)
    have F_x0_passOver := F_x0_passOver.keep K' (ninS ne_x0_dd nin0)
    have F_x0_offered := F_x0_offered.keep K' (ninS ne_x0_dd nin0)
    have E_kl := E_kl.keep K'
    have E_gr := E_gr.keep K'
    have F_gr_state := F_gr_state.keep K' (ninS ne_gr_dd nin0)
    have E_k0 := E_k0.keep K'
    have E_a1 := E_a1.keep K'
    have F_kl_elementData := F_kl_elementData.keep K' (ninS ne_kl_dd nin0)
    have F_kl_size := F_kl_size.keep K' (ninS ne_kl_dd nin0)
    have F_kl_modCount := F_kl_modCount.keep K' (ninS ne_kl_dd nin0)
    have sz : n0 ≤ h6.size := Nat.le_trans sz K'.1
    have K := K.trans K' (allS (Or.inl (List.mem_of_getElem? (i := 2) rfl)) all0)
    have A_dd : AO Z h6 dd (([(.ref k0), (.ref a1), .null, .null, .null, .null, .null, .null, .null, .null].set 1 (.ref k0)).set 0 (.ref a1)) := A_dd'
    have A_dd : AO Z h6 dd [(.ref a1), (.ref k0), .null, .null, .null, .null, .null, .null, .null, .null] := A_dd
    refine s_aloadN X hx (hb hby d16_52) rfl rfl (q := 53) rfl ?_
    refine s_getF X hx hZ hown (hw _ (List.mem_of_getElem? (i := 33) rfl)) eT F_x0_kept (hb hby d16_53) (q := 56) rfl ?_
    intro T X eT
    refine callF X hx hZ hown (W := 0) (argsL := []) (rest := []) (xi := (⟨"java/util/List", "size", "()I"⟩ : MethodName)) (y := (⟨"java/util/ArrayList", "size", "()I"⟩ : MethodName)) (hw _ (List.mem_of_getElem? (i := 82) rfl)) (hw _ (List.mem_of_getElem? (i := 83) rfl)) (hw _ (List.mem_of_getElem? (i := 84) rfl)) rfl (hw _ (List.mem_of_getElem? (i := 85) rfl)) (hw _ (List.mem_of_getElem? (i := 86) rfl)) (hw _ (List.mem_of_getElem? (i := 87) rfl)) (hw _ (List.mem_of_getElem? (i := 88) rfl)) (hw _ (List.mem_of_getElem? (i := 89) rfl)) (hw _ (List.mem_of_getElem? (i := 11) rfl)) (hw _ (List.mem_of_getElem? (i := 90) rfl)) (by decide) E_kl (rm13 l Z a0 hw [] kl (2 : Int32) h6 n0 sz F_kl_size E_kl) eT (by decide) (by decide) (by decide) (by decide) (by rw [hml]; rfl) pd14 rfl rfl (Nat.le_of_ble_eq_true rfl) (hb hby d16_56) (q := 61) rfl ?_
    intro v T Lc hQ X
    obtain ⟨rfl, eT, N'⟩ := hQ
    have N := Fr.app N N'
    refine s_aloadN X hx (hb hby d16_61) rfl rfl (q := 62) rfl ?_
    refine s_getF X hx hZ hown (hw _ (List.mem_of_getElem? (i := 35) rfl)) eT F_x0_capacity (hb hby d16_62) (q := 65) rfl ?_
    intro T X eT
    refine f_icmp_ne X hx (hb hby d16_65) (q1 := 87) (by decide) (by decide) (q := 68) rfl (fun _ => ?_) (fun hq => absurd hq (hcp : ¬ (2 : Int32) = cp))
    exact leafV X hx hlk hret (hb hby d16_87) (by decide) (by decide) (by rw [eT]; exact ⟨rfl, N, K⟩)
  · subst hcase
    refine s_aloadN X hx (hb hby d16_38) rfl rfl (q := 39) rfl ?_
    refine s_getF X hx hZ hown (hw _ (List.mem_of_getElem? (i := 33) rfl)) eT F_x0_kept (hb hby d16_39) (q := 42) rfl ?_
    intro T X eT
    refine callF X hx hZ hown (W := 2) (argsL := []) (rest := [(.int (1 : Int32)), (.ref kl)]) (xi := (⟨"java/util/List", "size", "()I"⟩ : MethodName)) (y := (⟨"java/util/ArrayList", "size", "()I"⟩ : MethodName)) (hw _ (List.mem_of_getElem? (i := 82) rfl)) (hw _ (List.mem_of_getElem? (i := 83) rfl)) (hw _ (List.mem_of_getElem? (i := 84) rfl)) rfl (hw _ (List.mem_of_getElem? (i := 85) rfl)) (hw _ (List.mem_of_getElem? (i := 86) rfl)) (hw _ (List.mem_of_getElem? (i := 87) rfl)) (hw _ (List.mem_of_getElem? (i := 88) rfl)) (hw _ (List.mem_of_getElem? (i := 89) rfl)) (hw _ (List.mem_of_getElem? (i := 11) rfl)) (hw _ (List.mem_of_getElem? (i := 90) rfl)) (by decide) E_kl (rm13 l Z a0 hw [] kl (2 : Int32) h5 n0 sz F_kl_size E_kl) eT (by decide) (by decide) (by decide) (by decide) (by rw [hml]; rfl) pd14 rfl rfl (Nat.le_of_ble_eq_true rfl) (hb hby d16_42) (q := 47) rfl ?_
    intro v T Lc hQ X
    obtain ⟨rfl, eT, N'⟩ := hQ
    have N := Fr.app N N'
    refine s_iconst X hx (z := (1 : Int32)) (hb hby d16_47) rfl (q := 48) rfl ?_
    refine s_isub X hx (hb hby d16_48) (q := 49) rfl ?_
    show Go p e below _ T m 49 #[.val (.ref x0), .val .null] [(.int (1 : Int32)), (.int (1 : Int32)), (.ref kl)]
    refine callC X hx hZ hown (W := 0) (argsL := [(.ref kl), (.int (1 : Int32)), (.int (1 : Int32))]) (rest := []) (hw _ (List.mem_of_getElem? (i := 166) rfl)) (hw _ (List.mem_of_getElem? (i := 167) rfl)) (hw _ (List.mem_of_getElem? (i := 168) rfl)) (hw _ (List.mem_of_getElem? (i := 169) rfl)) (by decide) (rm26 l Z a0 hw [] kl (1 : Int32) (1 : Int32) (2 : Int32) dd [(.ref k0), (.ref a1), .null, .null, .null, .null, .null, .null, .null, .null] 1 a1 1 a1 h5 n0 sz F_kl_elementData F_kl_size E_kl A_dd E_a1 E_a1 g_dd (by decide) (by decide) rfl rfl (by decide) (by decide) rfl rfl) eT (by decide) (by decide) (by decide) (by decide) (by rw [hml]; rfl) pd15 rfl rfl (Nat.le_of_ble_eq_true rfl) (hb hby d16_49) (q := 52) rfl ?_
    intro v T Lc hQ X
    obtain ⟨h7, eT⟩ : ∃ z, T.heap = z := ⟨_, rfl⟩
    rw [eT] at hQ
    obtain ⟨rfl, N', K', A_dd'⟩ := hQ
    have N := Fr.app N N'
    have E_x0 := E_x0.keep K'
    have F_x0_kept := F_x0_kept.keep K' (ninS ne_x0_dd nin0)
    have F_x0_capacity := F_x0_capacity.keep K' (ninS ne_x0_dd nin0)
    have F_x0_random := F_x0_random.keep K' (ninS ne_x0_dd nin0)
    have F_x0_passOver := F_x0_passOver.keep K' (ninS ne_x0_dd nin0)
    have F_x0_offered := F_x0_offered.keep K' (ninS ne_x0_dd nin0)
    have E_kl := E_kl.keep K'
    have E_gr := E_gr.keep K'
    have F_gr_state := F_gr_state.keep K' (ninS ne_gr_dd nin0)
    have E_k0 := E_k0.keep K'
    have E_a1 := E_a1.keep K'
    have F_kl_elementData := F_kl_elementData.keep K' (ninS ne_kl_dd nin0)
    have F_kl_size := F_kl_size.keep K' (ninS ne_kl_dd nin0)
    have F_kl_modCount := F_kl_modCount.keep K' (ninS ne_kl_dd nin0)
    have sz : n0 ≤ h7.size := Nat.le_trans sz K'.1
    have K := K.trans K' (allS (Or.inl (List.mem_of_getElem? (i := 2) rfl)) all0)
    have A_dd : AO Z h7 dd (([(.ref k0), (.ref a1), .null, .null, .null, .null, .null, .null, .null, .null].set 1 (.ref a1)).set 1 (.ref a1)) := A_dd'
    have A_dd : AO Z h7 dd [(.ref k0), (.ref a1), .null, .null, .null, .null, .null, .null, .null, .null] := A_dd
    refine s_aloadN X hx (hb hby d16_52) rfl rfl (q := 53) rfl ?_
    refine s_getF X hx hZ hown (hw _ (List.mem_of_getElem? (i := 33) rfl)) eT F_x0_kept (hb hby d16_53) (q := 56) rfl ?_
    intro T X eT
    refine callF X hx hZ hown (W := 0) (argsL := []) (rest := []) (xi := (⟨"java/util/List", "size", "()I"⟩ : MethodName)) (y := (⟨"java/util/ArrayList", "size", "()I"⟩ : MethodName)) (hw _ (List.mem_of_getElem? (i := 82) rfl)) (hw _ (List.mem_of_getElem? (i := 83) rfl)) (hw _ (List.mem_of_getElem? (i := 84) rfl)) rfl (hw _ (List.mem_of_getElem? (i := 85) rfl)) (hw _ (List.mem_of_getElem? (i := 86) rfl)) (hw _ (List.mem_of_getElem? (i := 87) rfl)) (hw _ (List.mem_of_getElem? (i := 88) rfl)) (hw _ (List.mem_of_getElem? (i := 89) rfl)) (hw _ (List.mem_of_getElem? (i := 11) rfl)) (hw _ (List.mem_of_getElem? (i := 90) rfl)) (by decide) E_kl (rm13 l Z a0 hw [] kl (2 : Int32) h7 n0 sz F_kl_size E_kl) eT (by decide) (by decide) (by decide) (by decide) (by rw [hml]; rfl) pd14 rfl rfl (Nat.le_of_ble_eq_true rfl) (hb hby d16_56) (q := 61) rfl ?_
    intro v T Lc hQ X
    obtain ⟨rfl, eT, N'⟩ := hQ
    have N := Fr.app N N'
    refine s_aloadN X hx (hb hby d16_61) rfl rfl (q := 62) rfl ?_
    refine s_getF X hx hZ hown (hw _ (List.mem_of_getElem? (i := 35) rfl)) eT F_x0_capacity (hb hby d16_62) (q := 65) rfl ?_
    intro T X eT
    refine f_icmp_ne X hx (hb hby d16_65) (q1 := 87) (by decide) (by decide) (q := 68) rfl (fun _ => ?_) (fun hq => absurd hq (hcp : ¬ (2 : Int32) = cp))
    exact leafV X hx hlk hret (hb hby d16_87) (by decide) (by decide) (by rw [eT]; exact ⟨rfl, N, K⟩)
theorem d11_0 : decode prog_1_method_7_code 0 = .ok (.aload_n 0, 1) := by decide +kernel
theorem d11_1 : decode prog_1_method_7_code 1 = .ok (.aload_n 0, 1) := by decide +kernel
theorem d11_2 : decode prog_1_method_7_code 2 = .ok (.getfield 63, 3) := by decide +kernel
theorem d11_5 : decode prog_1_method_7_code 5 = .ok (.lconst 1, 1) := by decide +kernel
theorem d11_6 : decode prog_1_method_7_code 6 = .ok (.invokestatic 66, 3) := by decide +kernel
theorem d11_9 : decode prog_1_method_7_code 9 = .ok (.putfield 63, 3) := by decide +kernel
theorem d11_12 : decode prog_1_method_7_code 12 = .ok (.aload_n 0, 1) := by decide +kernel
theorem d11_13 : decode prog_1_method_7_code 13 = .ok (.getfield 22, 3) := by decide +kernel
theorem d11_16 : decode prog_1_method_7_code 16 = .ok (.invokeinterface 128 1, 5) := by decide +kernel
theorem d11_21 : decode prog_1_method_7_code 21 = .ok (.aload_n 0, 1) := by decide +kernel
theorem d11_22 : decode prog_1_method_7_code 22 = .ok (.getfield 35, 3) := by decide +kernel
theorem d11_25 : decode prog_1_method_7_code 25 = .ok (.if_icmp .ge 11, 3) := by decide +kernel
theorem d11_28 : decode prog_1_method_7_code 28 = .ok (.aload_n 0, 1) := by decide +kernel
theorem d11_29 : decode prog_1_method_7_code 29 = .ok (.aload_n 1, 1) := by decide +kernel
theorem d11_30 : decode prog_1_method_7_code 30 = .ok (.invokevirtual 138, 3) := by decide +kernel
theorem d11_33 : decode prog_1_method_7_code 33 = .ok (.goto 30, 3) := by decide +kernel
theorem d11_36 : decode prog_1_method_7_code 36 = .ok (.aload_n 0, 1) := by decide +kernel
theorem d11_37 : decode prog_1_method_7_code 37 = .ok (.getfield 52, 3) := by decide +kernel
theorem d11_40 : decode prog_1_method_7_code 40 = .ok (.lconst 0, 1) := by decide +kernel
theorem d11_41 : decode prog_1_method_7_code 41 = .ok (.lcmp, 1) := by decide +kernel
theorem d11_42 : decode prog_1_method_7_code 42 = .ok (.ifCond .le 16, 3) := by decide +kernel
theorem d11_45 : decode prog_1_method_7_code 45 = .ok (.aload_n 0, 1) := by decide +kernel
theorem d11_46 : decode prog_1_method_7_code 46 = .ok (.dup, 1) := by decide +kernel
theorem d11_47 : decode prog_1_method_7_code 47 = .ok (.getfield 52, 3) := by decide +kernel
theorem d11_50 : decode prog_1_method_7_code 50 = .ok (.lconst 1, 1) := by decide +kernel
theorem d11_51 : decode prog_1_method_7_code 51 = .ok (.lsub, 1) := by decide +kernel
theorem d11_52 : decode prog_1_method_7_code 52 = .ok (.putfield 52, 3) := by decide +kernel
theorem d11_55 : decode prog_1_method_7_code 55 = .ok (.goto 8, 3) := by decide +kernel
theorem d11_58 : decode prog_1_method_7_code 58 = .ok (.aload_n 0, 1) := by decide +kernel
theorem d11_59 : decode prog_1_method_7_code 59 = .ok (.aload_n 1, 1) := by decide +kernel
theorem d11_60 : decode prog_1_method_7_code 60 = .ok (.invokevirtual 142, 3) := by decide +kernel
theorem d11_63 : decode prog_1_method_7_code 63 = .ok (.return_, 1) := by decide +kernel
theorem pn_11 : plainFor (⟨"com/example/cistern/cistern/ReservoirSampler", "offer", "(Ljava/lang/Object;)V"⟩ : MethodName) = true := plainFor_of_name (by first | (simp [plainName, overriddenIn]; done) | decide +kernel)
theorem ef_11 (m : MethodId) (x0 : Addr) : entryFrame m #[(.ref x0), .null] 2 = mkF m 0 #[.val (.ref x0), .val .null] [] := by first | (simp [entryFrame, mkF, argsToLocals, Value.category]; done) | rfl
theorem pd16 : parseMethodDescriptor "(Ljava/lang/Object;)V" = some ⟨[(.object "java/lang/Object")], none⟩ := by decide +kernel
set_option maxRecDepth 65536 in
set_option maxHeartbeats 40000000 in
theorem rm11_f0 (l : Launch) (Z : State) (a0 : Array Value) (hw : ∀ d ∈ tables_1, d.before a0 Z = true) (ws : List Jvm.Cond) (x0 : Addr) (kl : Addr) (gr : Addr) (cp : Int32) (po : Int64) (u : Int64) (d0 : Addr) (h0 : Heap) (n0 : Nat) (sz : n0 ≤ h0.size) (F_x0_kept : Fld Z h0 x0 "com/example/cistern/cistern/ReservoirSampler" "kept" "Ljava/util/List;" (.ref kl)) (F_x0_capacity : Fld Z h0 x0 "com/example/cistern/cistern/ReservoirSampler" "capacity" "I" (.int cp)) (F_x0_random : Fld Z h0 x0 "com/example/cistern/cistern/ReservoirSampler" "random" "Lcom/example/cistern/cistern/SplitMix64;" (.ref gr)) (F_x0_passOver : Fld Z h0 x0 "com/example/cistern/cistern/ReservoirSampler" "passOver" "J" (.long po)) (F_x0_offered : Fld Z h0 x0 "com/example/cistern/cistern/ReservoirSampler" "offered" "J" (.long (0 : Int64))) (E_x0 : Exa Z h0 x0 "com/example/cistern/cistern/ReservoirSampler") (F_kl_elementData : Fld Z h0 kl "java/util/ArrayList" "elementData" "[Ljava/lang/Object;" (.ref d0)) (F_kl_size : Fld Z h0 kl "java/util/ArrayList" "size" "I" (.int (0 : Int32))) (F_kl_modCount : Fld Z h0 kl "java/util/AbstractList" "modCount" "I" (.int (0 : Int32))) (E_kl : Exa Z h0 kl "java/util/ArrayList") (F_gr_state : Fld Z h0 gr "com/example/cistern/cistern/SplitMix64" "state" "J" (.long u)) (E_gr : Exa Z h0 gr "com/example/cistern/cistern/SplitMix64") (g_x0 : n0 ≤ x0) (g_kl : n0 ≤ kl) (g_gr : n0 ≤ gr) (S0 : Sta Z Z.heap "java/util/ArrayList" "DEFAULTCAPACITY_EMPTY_ELEMENTDATA" "[Ljava/lang/Object;" (.ref d0)) (A0 : AV Z Z.heap d0 (.object "java/lang/Object") []) (O_old : Old Z n0 h0) (hlt : (0 : Int32) < cp) (hcp : ¬ (1 : Int32) = cp) :
    Ctr l (⟨"com/example/cistern/cistern/ReservoirSampler", "offer", "(Ljava/lang/Object;)V"⟩ : MethodName) prog_1_method_7_code 2 none ws ({ frames := 6, cells := 2, slots := 12, locals := 82 } : Room) Z #[(.ref x0), .null] h0 (fun v h L => ∃ dd : Addr, ∃ k0 : Addr, ∃ u2 : Int64, v = none ∧ Fr n0 L ∧ Keep h0 h [x0, kl, gr] ∧ Fld Z h x0 "com/example/cistern/cistern/ReservoirSampler" "kept" "Ljava/util/List;" (.ref kl) ∧ Fld Z h x0 "com/example/cistern/cistern/ReservoirSampler" "capacity" "I" (.int cp) ∧ Fld Z h x0 "com/example/cistern/cistern/ReservoirSampler" "random" "Lcom/example/cistern/cistern/SplitMix64;" (.ref gr) ∧ Fld Z h x0 "com/example/cistern/cistern/ReservoirSampler" "passOver" "J" (.long po) ∧ Fld Z h x0 "com/example/cistern/cistern/ReservoirSampler" "offered" "J" (.long (1 : Int64)) ∧ Fld Z h kl "java/util/ArrayList" "elementData" "[Ljava/lang/Object;" (.ref dd) ∧ Fld Z h kl "java/util/ArrayList" "size" "I" (.int (1 : Int32)) ∧ Fld Z h kl "java/util/AbstractList" "modCount" "I" (.int (1 : Int32)) ∧ AO Z h dd [(.ref k0), .null, .null, .null, .null, .null, .null, .null, .null, .null] ∧ Exa Z h k0 "com/example/cistern/cistern/ReservoirSampler$Kept" ∧ Fld Z h gr "com/example/cistern/cistern/SplitMix64" "state" "J" (.long u2) ∧ h0.size ≤ dd ∧ h0.size ≤ k0) 2 12 := by
  refine Ctr.mk pn_11 ?_
  intro p e s m below meth c T hx hby hml hown hnm hlk hret hZ X eT
  have N := Fr.nil n0
  refine enter (ef_11 m x0) ?_
  have K := Keep.refl h0 [x0, kl, gr]
  have ne_x0_kl := ne_exa E_x0 E_kl (by decide)
  have ne_x0_gr := ne_exa E_x0 E_gr (by decide)
  have ne_kl_gr := ne_exa E_kl E_gr (by decide)
  refine s_aloadN X hx (hb hby d11_0) rfl rfl (q := 1) rfl ?_
  refine s_aloadN X hx (hb hby d11_1) rfl rfl (q := 2) rfl ?_
  refine s_getF X hx hZ hown (hw _ (List.mem_of_getElem? (i := 61) rfl)) eT F_x0_offered (hb hby d11_2) (q := 5) rfl ?_
  intro T X eT
  refine s_lconst X hx (z := (1 : Int64)) (hb hby d11_5) rfl (q := 6) rfl ?_
  refine callP X hx hZ hown (W := 1) (argsL := [(.long (0 : Int64)), (.long (1 : Int64))]) (rest := [(.ref x0)]) (hw _ (List.mem_of_getElem? (i := 79) rfl)) (hw _ (List.mem_of_getElem? (i := 80) rfl)) (hw _ (List.mem_of_getElem? (i := 54) rfl)) (hw _ (List.mem_of_getElem? (i := 81) rfl)) (by decide) (rm12 l Z a0 hw [] (0 : Int64) (1 : Int64) h0 (by decide)) rfl rfl eT (by decide) (by decide) (by decide) (by decide) (by rw [hml]; rfl) pd4 rfl rfl (Nat.le_of_ble_eq_true rfl) (hb hby d11_6) (q := 9) rfl ?_
  intro T X eT
  show Go p e below _ T m 9 #[.val (.ref x0), .val .null] [(.long (1 : Int64)), (.ref x0)]
  refine s_putF X hx hZ hown (hw _ (List.mem_of_getElem? (i := 61) rfl)) eT F_x0_offered E_x0 (Or.inl (hw _ (List.mem_of_getElem? (i := 62) rfl))) (hw _ (List.mem_of_getElem? (i := 1) rfl)) (ty := .long) (by decide) rfl rfl N g_x0 (hb hby d11_9) (q := 12) rfl ?_
  intro T h1 _ X N eT W F_x0_offered'
  have E_x0 := E_x0.wr W
  have F_x0_kept := F_x0_kept.other W (Or.inr (slot_ne (Or.inr (hw _ (List.mem_of_getElem? (i := 34) rfl))) (Or.inl (hw _ (List.mem_of_getElem? (i := 62) rfl))) (by decide) (t := (.object "java/util/List")) (t' := .long) (by decide) (by decide)))
  have F_x0_capacity := F_x0_capacity.other W (Or.inr (slot_ne (Or.inr (hw _ (List.mem_of_getElem? (i := 36) rfl))) (Or.inl (hw _ (List.mem_of_getElem? (i := 62) rfl))) (by decide) (t := .int) (t' := .long) (by decide) (by decide)))
  have F_x0_random := F_x0_random.other W (Or.inr (slot_ne (Or.inr (hw _ (List.mem_of_getElem? (i := 47) rfl))) (Or.inl (hw _ (List.mem_of_getElem? (i := 62) rfl))) (by decide) (t := (.object "com/example/cistern/cistern/SplitMix64")) (t' := .long) (by decide) (by decide)))
  have F_x0_passOver := F_x0_passOver.other W (Or.inr (slot_ne (Or.inl (hw _ (List.mem_of_getElem? (i := 50) rfl))) (Or.inl (hw _ (List.mem_of_getElem? (i := 62) rfl))) (by decide) (t := .long) (t' := .long) (by decide) (by decide)))
  have E_kl := E_kl.wr W
  have F_kl_elementData := F_kl_elementData.other W (Or.inl (Ne.symm ne_x0_kl))
  have F_kl_size := F_kl_size.other W (Or.inl (Ne.symm ne_x0_kl))
  have F_kl_modCount := F_kl_modCount.other W (Or.inl (Ne.symm ne_x0_kl))
  have E_gr := E_gr.wr W
  have F_gr_state := F_gr_state.other W (Or.inl (Ne.symm ne_x0_gr))
  have O_old := O_old.wr W g_x0
  have K := K.wr W (Or.inl (List.mem_of_getElem? (i := 0) rfl))
  have sz : n0 ≤ h1.size := by rw [W.size]; exact sz
  have F_x0_offered := F_x0_offered'
  refine s_aloadN X hx (hb hby d11_12) rfl rfl (q := 13) rfl ?_
  refine s_getF X hx hZ hown (hw _ (List.mem_of_getElem? (i := 33) rfl)) eT F_x0_kept (hb hby d11_13) (q := 16) rfl ?_
  intro T X eT
  refine callF X hx hZ hown (W := 0) (argsL := []) (rest := []) (xi := (⟨"java/util/List", "size", "()I"⟩ : MethodName)) (y := (⟨"java/util/ArrayList", "size", "()I"⟩ : MethodName)) (hw _ (List.mem_of_getElem? (i := 82) rfl)) (hw _ (List.mem_of_getElem? (i := 83) rfl)) (hw _ (List.mem_of_getElem? (i := 84) rfl)) rfl (hw _ (List.mem_of_getElem? (i := 85) rfl)) (hw _ (List.mem_of_getElem? (i := 86) rfl)) (hw _ (List.mem_of_getElem? (i := 87) rfl)) (hw _ (List.mem_of_getElem? (i := 88) rfl)) (hw _ (List.mem_of_getElem? (i := 89) rfl)) (hw _ (List.mem_of_getElem? (i := 11) rfl)) (hw _ (List.mem_of_getElem? (i := 90) rfl)) (by decide) E_kl (rm13 l Z a0 hw [] kl (0 : Int32) h1 n0 sz F_kl_size E_kl) eT (by decide) (by decide) (by decide) (by decide) (by rw [hml]; rfl) pd14 rfl rfl (Nat.le_of_ble_eq_true rfl) (hb hby d11_16) (q := 21) rfl ?_
  intro v T Lc hQ X
  obtain ⟨rfl, eT, N'⟩ := hQ
  have N := Fr.app N N'
  refine s_aloadN X hx (hb hby d11_21) rfl rfl (q := 22) rfl ?_
  refine s_getF X hx hZ hown (hw _ (List.mem_of_getElem? (i := 35) rfl)) eT F_x0_capacity (hb hby d11_22) (q := 25) rfl ?_
  intro T X eT
  refine f_icmp_ge X hx (hb hby d11_25) (q1 := 36) (by decide) (by decide) (q := 28) rfl (fun hq => absurd (hlt : (0 : Int32) < cp) hq) (fun _ => ?_)
  refine s_aloadN X hx (hb hby d11_28) rfl rfl (q := 29) rfl ?_
  refine s_aloadN X hx (hb hby d11_29) rfl rfl (q := 30) rfl ?_
  refine callPr X hx hZ hown (W := 0) (argsL := [.null]) (rest := []) (z := (⟨"com/example/cistern/cistern/ReservoirSampler", "skippable", "()J"⟩ : MethodName)) (hw _ (List.mem_of_getElem? (i := 101) rfl)) (hw _ (List.mem_of_getElem? (i := 102) rfl)) (hw _ (List.mem_of_getElem? (i := 103) rfl)) rfl (hw _ (List.mem_of_getElem? (i := 59) rfl)) (hw _ (List.mem_of_getElem? (i := 2) rfl)) (hw _ (List.mem_of_getElem? (i := 104) rfl)) (by decide) E_x0 (rm16_0 l Z a0 hw [] x0 kl gr cp po u d0 h1 n0 sz F_x0_kept F_x0_capacity F_x0_random F_x0_passOver F_x0_offered E_x0 F_kl_elementData F_kl_size F_kl_modCount E_kl F_gr_state E_gr g_x0 g_kl g_gr S0 A0 O_old hcp) eT (by decide) (by decide) (by decide) (by decide) (by rw [hml]; rfl) pd16 rfl rfl (Nat.le_of_ble_eq_true rfl) (hb hby d11_30) (q := 33) rfl ?_
  intro v T Lc hQ X
  obtain ⟨h2, eT⟩ : ∃ z, T.heap = z := ⟨_, rfl⟩
  rw [eT] at hQ
  obtain ⟨dd, k0, u2, rfl, N', K', F_kl_elementData', F_kl_size', F_kl_modCount', A_dd', E_k0', F_gr_state', sq_dd, sq_k0⟩ := hQ
  have N := Fr.app N N'
  have g_dd : n0 ≤ dd := Nat.le_trans sz sq_dd
  have sk_dd : h0.size ≤ dd := Nat.le_trans K.1 sq_dd
  have ne_x0_dd : x0 ≠ dd := Nat.ne_of_lt (Nat.lt_of_lt_of_le E_x0.lt sq_dd)
  have ne_kl_dd : kl ≠ dd := Nat.ne_of_lt (Nat.lt_of_lt_of_le E_kl.lt sq_dd)
  have ne_gr_dd : gr ≠ dd := Nat.ne_of_lt (Nat.lt_of_lt_of_le E_gr.lt sq_dd)
  have g_k0 : n0 ≤ k0 := Nat.le_trans sz sq_k0
  have sk_k0 : h0.size ≤ k0 := Nat.le_trans K.1 sq_k0
  have ne_x0_k0 : x0 ≠ k0 := Nat.ne_of_lt (Nat.lt_of_lt_of_le E_x0.lt sq_k0)
  have ne_kl_k0 : kl ≠ k0 := Nat.ne_of_lt (Nat.lt_of_lt_of_le E_kl.lt sq_k0)
  have ne_gr_k0 : gr ≠ k0 := Nat.ne_of_lt (Nat.lt_of_lt_of_le E_gr.lt sq_k0)
  have E_x0 := E_x0.keep K'
  have F_x0_kept := F_x0_kept.keep K' (ninS ne_x0_kl (ninS ne_x0_gr nin0))
  have F_x0_capacity := F_x0_capacity.keep K' (ninS ne_x0_kl (ninS ne_x0_gr nin0))
  have F_x0_random := F_x0_random.keep K' (ninS ne_x0_kl (ninS ne_x0_gr nin0))
  have F_x0_passOver := F_x0_passOver.keep K' (ninS ne_x0_kl (ninS ne_x0_gr nin0))
  have F_x0_offered := F_x0_offered.keep K' (ninS ne_x0_kl (ninS ne_x0_gr nin0))
  have E_kl := E_kl.keep K'
  have E_gr := E_gr.keep K'
  have O_old := O_old.keep K' (allS g_kl (allS g_gr all0))
  have sz : n0 ≤ h2.size := Nat.le_trans sz K'.1
  have K := K.trans K' (allS (Or.inl (List.mem_of_getElem? (i := 1) rfl)) (allS (Or.inl (List.mem_of_getElem? (i := 2) rfl)) all0))
  have F_kl_elementData : Fld Z h2 kl "java/util/ArrayList" "elementData" "[Ljava/lang/Object;" (.ref dd) := F_kl_elementData'
  have F_kl_size : Fld Z h2 kl "java/util/ArrayList" "size" "I" (.int (1 : Int32)) := F_kl_size'
  have F_kl_modCount : Fld Z h2 kl "java/util/AbstractList" "modCount" "I" (.int (1 : Int32)) := F_kl_modCount'
  have A_dd : AO Z h2 dd [(.ref k0), .null, .null, .null, .null, .null, .null, .null, .null, .null] := A_dd'
  have E_k0 : Exa Z h2 k0 "com/example/cistern/cistern/ReservoirSampler$Kept" := E_k0'
  have F_gr_state : Fld Z h2 gr "com/example/cistern/cistern/SplitMix64" "state" "J" (.long u2) := F_gr_state'
  have ne_k0_dd := own_neA E_k0 (hw _ (List.mem_of_getElem? (i := 106) rfl)) A_dd
  refine s_goto X hx (hb hby d11_33) (q1 := 63) (by decide) (by decide) ?_
  exact leafV X hx hlk hret (hb hby d11_63) (by decide) (by decide) (by rw [eT]; exact ⟨dd, k0, u2, rfl, N, K, F_x0_kept, F_x0_capacity, F_x0_random, F_x0_passOver, F_x0_offered, F_kl_elementData, F_kl_size, F_kl_modCount, A_dd, E_k0, F_gr_state, sk_dd, sk_k0⟩)
set_option maxRecDepth 65536 in
set_option maxHeartbeats 40000000 in
theorem rm11_f1 (l : Launch) (Z : State) (a0 : Array Value) (hw : ∀ d ∈ tables_1, d.before a0 Z = true) (ws : List Jvm.Cond) (x0 : Addr) (kl : Addr) (gr : Addr) (cp : Int32) (po : Int64) (u : Int64) (dd : Addr) (k0 : Addr) (h0 : Heap) (n0 : Nat) (sz : n0 ≤ h0.size) (F_x0_kept : Fld Z h0 x0 "com/example/cistern/cistern/ReservoirSampler" "kept" "Ljava/util/List;" (.ref kl)) (F_x0_capacity : Fld Z h0 x0 "com/example/cistern/cistern/ReservoirSampler" "capacity" "I" (.int cp)) (F_x0_random : Fld Z h0 x0 "com/example/cistern/cistern/ReservoirSampler" "random" "Lcom/example/cistern/cistern/SplitMix64;" (.ref gr)) (F_x0_passOver : Fld Z h0 x0 "com/example/cistern/cistern/ReservoirSampler" "passOver" "J" (.long po)) (F_x0_offered : Fld Z h0 x0 "com/example/cistern/cistern/ReservoirSampler" "offered" "J" (.long (1 : Int64))) (E_x0 : Exa Z h0 x0 "com/example/cistern/cistern/ReservoirSampler") (F_kl_elementData : Fld Z h0 kl "java/util/ArrayList" "elementData" "[Ljava/lang/Object;" (.ref dd)) (F_kl_size : Fld Z h0 kl "java/util/ArrayList" "size" "I" (.int (1 : Int32))) (F_kl_modCount : Fld Z h0 kl "java/util/AbstractList" "modCount" "I" (.int (1 : Int32))) (E_kl : Exa Z h0 kl "java/util/ArrayList") (F_gr_state : Fld Z h0 gr "com/example/cistern/cistern/SplitMix64" "state" "J" (.long u)) (E_gr : Exa Z h0 gr "com/example/cistern/cistern/SplitMix64") (A_dd : AO Z h0 dd [(.ref k0), .null, .null, .null, .null, .null, .null, .null, .null, .null]) (E_k0 : Exa Z h0 k0 "com/example/cistern/cistern/ReservoirSampler$Kept") (g_x0 : n0 ≤ x0) (g_kl : n0 ≤ kl) (g_gr : n0 ≤ gr) (g_dd : n0 ≤ dd) (g_k0 : n0 ≤ k0) (hlt : (1 : Int32) < cp) (hcp : ¬ (2 : Int32) = cp) :
    Ctr l (⟨"com/example/cistern/cistern/ReservoirSampler", "offer", "(Ljava/lang/Object;)V"⟩ : MethodName) prog_1_method_7_code 2 none ws ({ frames := 5, cells := 1, slots := 2, locals := 72 } : Room) Z #[(.ref x0), .null] h0 (fun v h L => v = none ∧ Fr n0 L ∧ Keep h0 h [x0, kl, gr, dd] ∧ Fld Z h x0 "com/example/cistern/cistern/ReservoirSampler" "kept" "Ljava/util/List;" (.ref kl) ∧ Fld Z h x0 "com/example/cistern/cistern/ReservoirSampler" "capacity" "I" (.int cp) ∧ Fld Z h x0 "com/example/cistern/cistern/ReservoirSampler" "random" "Lcom/example/cistern/cistern/SplitMix64;" (.ref gr) ∧ Fld Z h x0 "com/example/cistern/cistern/ReservoirSampler" "passOver" "J" (.long po) ∧ Fld Z h x0 "com/example/cistern/cistern/ReservoirSampler" "offered" "J" (.long (2 : Int64))) 1 2 := by
  refine Ctr.mk pn_11 ?_
  intro p e s m below meth c T hx hby hml hown hnm hlk hret hZ X eT
  have N := Fr.nil n0
  refine enter (ef_11 m x0) ?_
  have K := Keep.refl h0 [x0, kl, gr, dd]
  have ne_x0_kl := ne_exa E_x0 E_kl (by decide)
  have ne_x0_gr := ne_exa E_x0 E_gr (by decide)
  have ne_x0_dd := own_neA E_x0 (hw _ (List.mem_of_getElem? (i := 1) rfl)) A_dd
  have ne_x0_k0 := ne_exa E_x0 E_k0 (by decide)
  have ne_kl_gr := ne_exa E_kl E_gr (by decide)
  have ne_kl_dd := own_neA E_kl (hw _ (List.mem_of_getElem? (i := 10) rfl)) A_dd
  have ne_kl_k0 := ne_exa E_kl E_k0 (by decide)
  have ne_gr_dd := own_neA E_gr (hw _ (List.mem_of_getElem? (i := 38) rfl)) A_dd
  have ne_gr_k0 := ne_exa E_gr E_k0 (by decide)
  have ne_k0_dd := own_neA E_k0 (hw _ (List.mem_of_getElem? (i := 106) rfl)) A_dd
  refine s_aloadN X hx (hb hby d11_0) rfl rfl (q := 1) rfl ?_
  refine s_aloadN X hx (hb hby d11_1) rfl rfl (q := 2) rfl ?_
  refine s_getF X hx hZ hown (hw _ (List.mem_of_getElem? (i := 61) rfl)) eT F_x0_offered (hb hby d11_2) (q := 5) rfl ?_
  intro T X eT
  refine s_lconst X hx (z := (1 : Int64)) (hb hby d11_5) rfl (q := 6) rfl ?_
  refine callP X hx hZ hown (W := 1) (argsL := [(.long (1 : Int64)), (.long (1 : Int64))]) (rest := [(.ref x0)]) (hw _ (List.mem_of_getElem? (i := 79) rfl)) (hw _ (List.mem_of_getElem? (i := 80) rfl)) (hw _ (List.mem_of_getElem? (i := 54) rfl)) (hw _ (List.mem_of_getElem? (i := 81) rfl)) (by decide) (rm12 l Z a0 hw [] (1 : Int64) (1 : Int64) h0 (by decide)) rfl rfl eT (by decide) (by decide) (by decide) (by decide) (by rw [hml]; rfl) pd4 rfl rfl (Nat.le_of_ble_eq_true rfl) (hb hby d11_6) (q := 9) rfl ?_
  intro T X eT
  show Go p e below _ T m 9 #[.val (.ref x0), .val .null] [(.long (2 : Int64)), (.ref x0)]
  refine s_putF X hx hZ hown (hw _ (List.mem_of_getElem? (i := 61) rfl)) eT F_x0_offered E_x0 (Or.inl (hw _ (List.mem_of_getElem? (i := 62) rfl))) (hw _ (List.mem_of_getElem? (i := 1) rfl)) (ty := .long) (by decide) rfl rfl N g_x0 (hb hby d11_9) (q := 12) rfl ?_
  intro T h1 _ X N eT W F_x0_offered'
  have E_x0 := E_x0.wr W
  have F_x0_kept := F_x0_kept.other W (Or.inr (slot_ne (Or.inr (hw _ (List.mem_of_getElem? (i := 34) rfl))) (Or.inl (hw _ (List.mem_of_getElem? (i := 62) rfl))) (by decide) (t := (.object "java/util/List")) (t' := .long) (by decide) (by decide)))
  have F_x0_capacity := F_x0_capacity.other W (Or.inr (slot_ne (Or.inr (hw _ (List.mem_of_getElem? (i := 36) rfl))) (Or.inl (hw _ (List.mem_of_getElem? (i := 62) rfl))) (by decide) (t := .int) (t' := .long) (by decide) (by decide)))
  have F_x0_random := F_x0_random.other W (Or.inr (slot_ne (Or.inr (hw _ (List.mem_of_getElem? (i := 47) rfl))) (Or.inl (hw _ (List.mem_of_getElem? (i := 62) rfl))) (by decide) (t := (.object "com/example/cistern/cistern/SplitMix64")) (t' := .long) (by decide) (by decide)))
  have F_x0_passOver := F_x0_passOver.other W (Or.inr (slot_ne (Or.inl (hw _ (List.mem_of_getElem? (i := 50) rfl))) (Or.inl (hw _ (List.mem_of_getElem? (i := 62) rfl))) (by decide) (t := .long) (t' := .long) (by decide) (by decide)))
  have E_kl := E_kl.wr W
  have F_kl_elementData := F_kl_elementData.other W (Or.inl (Ne.symm ne_x0_kl))
  have F_kl_size := F_kl_size.other W (Or.inl (Ne.symm ne_x0_kl))
  have F_kl_modCount := F_kl_modCount.other W (Or.inl (Ne.symm ne_x0_kl))
  have E_gr := E_gr.wr W
  have F_gr_state := F_gr_state.other W (Or.inl (Ne.symm ne_x0_gr))
  have A_dd := A_dd.other W (Ne.symm ne_x0_dd)
  have E_k0 := E_k0.wr W
  have K := K.wr W (Or.inl (List.mem_of_getElem? (i := 0) rfl))
  have sz : n0 ≤ h1.size := by rw [W.size]; exact sz
  have F_x0_offered := F_x0_offered'
  refine s_aloadN X hx (hb hby d11_12) rfl rfl (q := 13) rfl ?_
  refine s_getF X hx hZ hown (hw _ (List.mem_of_getElem? (i := 33) rfl)) eT F_x0_kept (hb hby d11_13) (q := 16) rfl ?_
  intro T X eT
  refine callF X hx hZ hown (W := 0) (argsL := []) (rest := []) (xi := (⟨"java/util/List", "size", "()I"⟩ : MethodName)) (y := (⟨"java/util/ArrayList", "size", "()I"⟩ : MethodName)) (hw _ (List.mem_of_getElem? (i := 82) rfl)) (hw _ (List.mem_of_getElem? (i := 83) rfl)) (hw _ (List.mem_of_getElem? (i := 84) rfl)) rfl (hw _ (List.mem_of_getElem? (i := 85) rfl)) (hw _ (List.mem_of_getElem? (i := 86) rfl)) (hw _ (List.mem_of_getElem? (i := 87) rfl)) (hw _ (List.mem_of_getElem? (i := 88) rfl)) (hw _ (List.mem_of_getElem? (i := 89) rfl)) (hw _ (List.mem_of_getElem? (i := 11) rfl)) (hw _ (List.mem_of_getElem? (i := 90) rfl)) (by decide) E_kl (rm13 l Z a0 hw [] kl (1 : Int32) h1 n0 sz F_kl_size E_kl) eT (by decide) (by decide) (by decide) (by decide) (by rw [hml]; rfl) pd14 rfl rfl (Nat.le_of_ble_eq_true rfl) (hb hby d11_16) (q := 21) rfl ?_
  intro v T Lc hQ X
  obtain ⟨rfl, eT, N'⟩ := hQ
  have N := Fr.app N N'
  refine s_aloadN X hx (hb hby d11_21) rfl rfl (q := 22) rfl ?_
  refine s_getF X hx hZ hown (hw _ (List.mem_of_getElem? (i := 35) rfl)) eT F_x0_capacity (hb hby d11_22) (q := 25) rfl ?_
  intro T X eT
  refine f_icmp_ge X hx (hb hby d11_25) (q1 := 36) (by decide) (by decide) (q := 28) rfl (fun hq => absurd (hlt : (1 : Int32) < cp) hq) (fun _ => ?_)
  refine s_aloadN X hx (hb hby d11_28) rfl rfl (q := 29) rfl ?_
  refine s_aloadN X hx (hb hby d11_29) rfl rfl (q := 30) rfl ?_
  refine callPr X hx hZ hown (W := 0) (argsL := [.null]) (rest := []) (z := (⟨"com/example/cistern/cistern/ReservoirSampler", "skippable", "()J"⟩ : MethodName)) (hw _ (List.mem_of_getElem? (i := 101) rfl)) (hw _ (List.mem_of_getElem? (i := 102) rfl)) (hw _ (List.mem_of_getElem? (i := 103) rfl)) rfl (hw _ (List.mem_of_getElem? (i := 59) rfl)) (hw _ (List.mem_of_getElem? (i := 2) rfl)) (hw _ (List.mem_of_getElem? (i := 104) rfl)) (by decide) E_x0 (rm16_1 l Z a0 hw [] x0 kl gr cp po u dd k0 h1 n0 sz F_x0_kept F_x0_capacity F_x0_random F_x0_passOver F_x0_offered E_x0 F_kl_elementData F_kl_size F_kl_modCount E_kl F_gr_state E_gr A_dd E_k0 g_x0 g_kl g_gr g_dd g_k0 hcp) eT (by decide) (by decide) (by decide) (by decide) (by rw [hml]; rfl) pd16 rfl rfl (Nat.le_of_ble_eq_true rfl) (hb hby d11_30) (q := 33) rfl ?_
  intro v T Lc hQ X
  obtain ⟨h2, eT⟩ : ∃ z, T.heap = z := ⟨_, rfl⟩
  rw [eT] at hQ
  obtain ⟨rfl, N', K'⟩ := hQ
  have N := Fr.app N N'
  have E_x0 := E_x0.keep K'
  have F_x0_kept := F_x0_kept.keep K' (ninS ne_x0_kl (ninS ne_x0_gr (ninS ne_x0_dd nin0)))
  have F_x0_capacity := F_x0_capacity.keep K' (ninS ne_x0_kl (ninS ne_x0_gr (ninS ne_x0_dd nin0)))
  have F_x0_random := F_x0_random.keep K' (ninS ne_x0_kl (ninS ne_x0_gr (ninS ne_x0_dd nin0)))
  have F_x0_passOver := F_x0_passOver.keep K' (ninS ne_x0_kl (ninS ne_x0_gr (ninS ne_x0_dd nin0)))
  have F_x0_offered := F_x0_offered.keep K' (ninS ne_x0_kl (ninS ne_x0_gr (ninS ne_x0_dd nin0)))
  have E_kl := E_kl.keep K'
  have E_gr := E_gr.keep K'
  have E_k0 := E_k0.keep K'
  have sz : n0 ≤ h2.size := Nat.le_trans sz K'.1
  have K := K.trans K' (allS (Or.inl (List.mem_of_getElem? (i := 1) rfl)) (allS (Or.inl (List.mem_of_getElem? (i := 2) rfl)) (allS (Or.inl (List.mem_of_getElem? (i := 3) rfl)) all0)))
  refine s_goto X hx (hb hby d11_33) (q1 := 63) (by decide) (by decide) ?_
  exact leafV X hx hlk hret (hb hby d11_63) (by decide) (by decide) (by rw [eT]; exact ⟨rfl, N, K, F_x0_kept, F_x0_capacity, F_x0_random, F_x0_passOver, F_x0_offered⟩)
set_option maxRecDepth 65536 in
set_option maxHeartbeats 40000000 in
theorem rm11_p (l : Launch) (Z : State) (a0 : Array Value) (hw : ∀ d ∈ tables_1, d.before a0 Z = true) (ws : List Jvm.Cond) (x0 : Addr) (kl : Addr) (gr : Addr) (po : Int64) (of : Int64) (h0 : Heap) (n0 : Nat) (sz : n0 ≤ h0.size) (F_x0_kept : Fld Z h0 x0 "com/example/cistern/cistern/ReservoirSampler" "kept" "Ljava/util/List;" (.ref kl)) (F_x0_capacity : Fld Z h0 x0 "com/example/cistern/cistern/ReservoirSampler" "capacity" "I" (.int (0 : Int32))) (F_x0_random : Fld Z h0 x0 "com/example/cistern/cistern/ReservoirSampler" "random" "Lcom/example/cistern/cistern/SplitMix64;" (.ref gr)) (F_x0_passOver : Fld Z h0 x0 "com/example/cistern/cistern/ReservoirSampler" "passOver" "J" (.long po)) (F_x0_offered : Fld Z h0 x0 "com/example/cistern/cistern/ReservoirSampler" "offered" "J" (.long of)) (E_x0 : Exa Z h0 x0 "com/example/cistern/cistern/ReservoirSampler") (F_kl_size : Fld Z h0 kl "java/util/ArrayList" "size" "I" (.int (0 : Int32))) (E_kl : Exa Z h0 kl "java/util/ArrayList") (g_x0 : n0 ≤ x0) (g_kl : n0 ≤ kl) (hc : 0 ≤ of.toInt ∧ of.toInt < 9223372036854775807 ∧ 0 < po.toInt) :
    Ctr l (⟨"com/example/cistern/cistern/ReservoirSampler", "offer", "(Ljava/lang/Object;)V"⟩ : MethodName) prog_1_method_7_code 2 none ws ({ frames := 1, cells := 0, slots := 0, locals := 18 } : Room) Z #[(.ref x0), .null] h0 (fun v h L => v = none ∧ Fr n0 L ∧ Keep h0 h [x0] ∧ Fld Z h x0 "com/example/cistern/cistern/ReservoirSampler" "kept" "Ljava/util/List;" (.ref kl) ∧ Fld Z h x0 "com/example/cistern/cistern/ReservoirSampler" "capacity" "I" (.int (0 : Int32)) ∧ Fld Z h x0 "com/example/cistern/cistern/ReservoirSampler" "random" "Lcom/example/cistern/cistern/SplitMix64;" (.ref gr) ∧ Fld Z h x0 "com/example/cistern/cistern/ReservoirSampler" "passOver" "J" (.long (po - (1 : Int64))) ∧ Fld Z h x0 "com/example/cistern/cistern/ReservoirSampler" "offered" "J" (.long (of + (1 : Int64)))) 0 0 := by
  refine Ctr.mk pn_11 ?_
  intro p e s m below meth c T hx hby hml hown hnm hlk hret hZ X eT
  have N := Fr.nil n0
  refine enter (ef_11 m x0) ?_
  have K := Keep.refl h0 [x0]
  have hov := own_ov of hc.1 hc.2.1
  have hpo := own_gt0 hc.2.2
  have ne_x0_kl := ne_exa E_x0 E_kl (by decide)
  refine s_aloadN X hx (hb hby d11_0) rfl rfl (q := 1) rfl ?_
  refine s_aloadN X hx (hb hby d11_1) rfl rfl (q := 2) rfl ?_
  refine s_getF X hx hZ hown (hw _ (List.mem_of_getElem? (i := 61) rfl)) eT F_x0_offered (hb hby d11_2) (q := 5) rfl ?_
  intro T X eT
  refine s_lconst X hx (z := (1 : Int64)) (hb hby d11_5) rfl (q := 6) rfl ?_
  refine callP X hx hZ hown (W := 1) (argsL := [(.long of), (.long (1 : Int64))]) (rest := [(.ref x0)]) (hw _ (List.mem_of_getElem? (i := 79) rfl)) (hw _ (List.mem_of_getElem? (i := 80) rfl)) (hw _ (List.mem_of_getElem? (i := 54) rfl)) (hw _ (List.mem_of_getElem? (i := 81) rfl)) (by decide) (rm12 l Z a0 hw [] of (1 : Int64) h0 hov) rfl rfl eT (by decide) (by decide) (by decide) (by decide) (by rw [hml]; rfl) pd4 rfl rfl (Nat.le_of_ble_eq_true rfl) (hb hby d11_6) (q := 9) rfl ?_
  intro T X eT
  refine s_putF X hx hZ hown (hw _ (List.mem_of_getElem? (i := 61) rfl)) eT F_x0_offered E_x0 (Or.inl (hw _ (List.mem_of_getElem? (i := 62) rfl))) (hw _ (List.mem_of_getElem? (i := 1) rfl)) (ty := .long) (by decide) rfl rfl N g_x0 (hb hby d11_9) (q := 12) rfl ?_
  intro T h1 _ X N eT W F_x0_offered'
  have E_x0 := E_x0.wr W
  have F_x0_kept := F_x0_kept.other W (Or.inr (slot_ne (Or.inr (hw _ (List.mem_of_getElem? (i := 34) rfl))) (Or.inl (hw _ (List.mem_of_getElem? (i := 62) rfl))) (by decide) (t := (.object "java/util/List")) (t' := .long) (by decide) (by decide)))
  have F_x0_capacity := F_x0_capacity.other W (Or.inr (slot_ne (Or.inr (hw _ (List.mem_of_getElem? (i := 36) rfl))) (Or.inl (hw _ (List.mem_of_getElem? (i := 62) rfl))) (by decide) (t := .int) (t' := .long) (by decide) (by decide)))
  have F_x0_random := F_x0_random.other W (Or.inr (slot_ne (Or.inr (hw _ (List.mem_of_getElem? (i := 47) rfl))) (Or.inl (hw _ (List.mem_of_getElem? (i := 62) rfl))) (by decide) (t := (.object "com/example/cistern/cistern/SplitMix64")) (t' := .long) (by decide) (by decide)))
  have F_x0_passOver := F_x0_passOver.other W (Or.inr (slot_ne (Or.inl (hw _ (List.mem_of_getElem? (i := 50) rfl))) (Or.inl (hw _ (List.mem_of_getElem? (i := 62) rfl))) (by decide) (t := .long) (t' := .long) (by decide) (by decide)))
  have E_kl := E_kl.wr W
  have F_kl_size := F_kl_size.other W (Or.inl (Ne.symm ne_x0_kl))
  have K := K.wr W (Or.inl (List.mem_of_getElem? (i := 0) rfl))
  have sz : n0 ≤ h1.size := by rw [W.size]; exact sz
  have F_x0_offered := F_x0_offered'
  refine s_aloadN X hx (hb hby d11_12) rfl rfl (q := 13) rfl ?_
  refine s_getF X hx hZ hown (hw _ (List.mem_of_getElem? (i := 33) rfl)) eT F_x0_kept (hb hby d11_13) (q := 16) rfl ?_
  intro T X eT
  refine callF X hx hZ hown (W := 0) (argsL := []) (rest := []) (xi := (⟨"java/util/List", "size", "()I"⟩ : MethodName)) (y := (⟨"java/util/ArrayList", "size", "()I"⟩ : MethodName)) (hw _ (List.mem_of_getElem? (i := 82) rfl)) (hw _ (List.mem_of_getElem? (i := 83) rfl)) (hw _ (List.mem_of_getElem? (i := 84) rfl)) rfl (hw _ (List.mem_of_getElem? (i := 85) rfl)) (hw _ (List.mem_of_getElem? (i := 86) rfl)) (hw _ (List.mem_of_getElem? (i := 87) rfl)) (hw _ (List.mem_of_getElem? (i := 88) rfl)) (hw _ (List.mem_of_getElem? (i := 89) rfl)) (hw _ (List.mem_of_getElem? (i := 11) rfl)) (hw _ (List.mem_of_getElem? (i := 90) rfl)) (by decide) E_kl (rm13 l Z a0 hw [] kl (0 : Int32) h1 n0 sz F_kl_size E_kl) eT (by decide) (by decide) (by decide) (by decide) (by rw [hml]; rfl) pd14 rfl rfl (Nat.le_of_ble_eq_true rfl) (hb hby d11_16) (q := 21) rfl ?_
  intro v T Lc hQ X
  obtain ⟨rfl, eT, N'⟩ := hQ
  have N := Fr.app N N'
  refine s_aloadN X hx (hb hby d11_21) rfl rfl (q := 22) rfl ?_
  refine s_getF X hx hZ hown (hw _ (List.mem_of_getElem? (i := 35) rfl)) eT F_x0_capacity (hb hby d11_22) (q := 25) rfl ?_
  intro T X eT
  refine f_icmp_ge X hx (hb hby d11_25) (q1 := 36) (by decide) (by decide) (q := 28) rfl (fun _ => ?_) (fun hq => absurd hq (by decide : ¬ (0 : Int32) < (0 : Int32)))
  refine s_aloadN X hx (hb hby d11_36) rfl rfl (q := 37) rfl ?_
  refine s_getF X hx hZ hown (hw _ (List.mem_of_getElem? (i := 49) rfl)) eT F_x0_passOver (hb hby d11_37) (q := 40) rfl ?_
  intro T X eT
  refine s_lconst X hx (z := (0 : Int64)) (hb hby d11_40) rfl (q := 41) rfl ?_
  refine s_lcmp X hx (hb hby d11_41) (q := 42) rfl ?_
  refine f_lcmp_le X hx (hb hby d11_42) (q1 := 58) (by decide) (by decide) (q := 45) rfl (fun hq => absurd (hpo : (0 : Int64) < po) hq) (fun _ => ?_)
  refine s_aloadN X hx (hb hby d11_45) rfl rfl (q := 46) rfl ?_
  refine s_dup X hx (hb hby d11_46) rfl (q := 47) rfl ?_
  refine s_getF X hx hZ hown (hw _ (List.mem_of_getElem? (i := 49) rfl)) eT F_x0_passOver (hb hby d11_47) (q := 50) rfl ?_
  intro T X eT
  refine s_lconst X hx (z := (1 : Int64)) (hb hby d11_50) rfl (q := 51) rfl ?_
  refine s_lsub X hx (hb hby d11_51) (q := 52) rfl ?_
  refine s_putF X hx hZ hown (hw _ (List.mem_of_getElem? (i := 49) rfl)) eT F_x0_passOver E_x0 (Or.inl (hw _ (List.mem_of_getElem? (i := 50) rfl))) (hw _ (List.mem_of_getElem? (i := 1) rfl)) (ty := .long) (by decide) rfl rfl N g_x0 (hb hby d11_52) (q := 55) rfl ?_
  intro T h2 _ X N eT W F_x0_passOver'
  have E_x0 := E_x0.wr W
  have F_x0_kept := F_x0_kept.other W (Or.inr (slot_ne (Or.inr (hw _ (List.mem_of_getElem? (i := 34) rfl))) (Or.inl (hw _ (List.mem_of_getElem? (i := 50) rfl))) (by decide) (t := (.object "java/util/List")) (t' := .long) (by decide) (by decide)))
  have F_x0_capacity := F_x0_capacity.other W (Or.inr (slot_ne (Or.inr (hw _ (List.mem_of_getElem? (i := 36) rfl))) (Or.inl (hw _ (List.mem_of_getElem? (i := 50) rfl))) (by decide) (t := .int) (t' := .long) (by decide) (by decide)))
  have F_x0_random := F_x0_random.other W (Or.inr (slot_ne (Or.inr (hw _ (List.mem_of_getElem? (i := 47) rfl))) (Or.inl (hw _ (List.mem_of_getElem? (i := 50) rfl))) (by decide) (t := (.object "com/example/cistern/cistern/SplitMix64")) (t' := .long) (by decide) (by decide)))
  have F_x0_offered := F_x0_offered.other W (Or.inr (slot_ne (Or.inl (hw _ (List.mem_of_getElem? (i := 62) rfl))) (Or.inl (hw _ (List.mem_of_getElem? (i := 50) rfl))) (by decide) (t := .long) (t' := .long) (by decide) (by decide)))
  have E_kl := E_kl.wr W
  have F_kl_size := F_kl_size.other W (Or.inl (Ne.symm ne_x0_kl))
  have K := K.wr W (Or.inl (List.mem_of_getElem? (i := 0) rfl))
  have sz : n0 ≤ h2.size := by rw [W.size]; exact sz
  have F_x0_passOver := F_x0_passOver'
  refine s_goto X hx (hb hby d11_55) (q1 := 63) (by decide) (by decide) ?_
  exact leafV X hx hlk hret (hb hby d11_63) (by decide) (by decide) (by rw [eT]; exact ⟨rfl, N, K, F_x0_kept, F_x0_capacity, F_x0_random, F_x0_passOver, F_x0_offered⟩)
theorem d10_0 : decode method_2_code 0 = .ok (.iload_n 1, 1) := by decide +kernel
theorem d10_1 : decode method_2_code 1 = .ok (.iconst 1, 1) := by decide +kernel
theorem d10_2 : decode method_2_code 2 = .ok (.if_icmp .lt 8, 3) := by decide +kernel
theorem d10_5 : decode method_2_code 5 = .ok (.aload_n 0, 1) := by decide +kernel
theorem d10_6 : decode method_2_code 6 = .ok (.aconst_null, 1) := by decide +kernel
theorem d10_7 : decode method_2_code 7 = .ok (.invokevirtual 7, 3) := by decide +kernel
theorem d10_10 : decode method_2_code 10 = .ok (.iload_n 1, 1) := by decide +kernel
theorem d10_11 : decode method_2_code 11 = .ok (.iconst 2, 1) := by decide +kernel
theorem d10_12 : decode method_2_code 12 = .ok (.if_icmp .lt 8, 3) := by decide +kernel
theorem d10_15 : decode method_2_code 15 = .ok (.aload_n 0, 1) := by decide +kernel
theorem d10_16 : decode method_2_code 16 = .ok (.aconst_null, 1) := by decide +kernel
theorem d10_17 : decode method_2_code 17 = .ok (.invokevirtual 7, 3) := by decide +kernel
theorem d10_20 : decode method_2_code 20 = .ok (.iload_n 1, 1) := by decide +kernel
theorem d10_21 : decode method_2_code 21 = .ok (.iconst 3, 1) := by decide +kernel
theorem d10_22 : decode method_2_code 22 = .ok (.if_icmp .lt 8, 3) := by decide +kernel
theorem d10_25 : decode method_2_code 25 = .ok (.aload_n 0, 1) := by decide +kernel
theorem d10_26 : decode method_2_code 26 = .ok (.aconst_null, 1) := by decide +kernel
theorem d10_27 : decode method_2_code 27 = .ok (.invokevirtual 7, 3) := by decide +kernel
theorem d10_30 : decode method_2_code 30 = .ok (.return_, 1) := by decide +kernel
theorem pn_10 : plainFor (⟨"com/example/cistern/cistern/ReservoirSamplerSkippablePinLaw", "offerTimes", "(Lcom/example/cistern/cistern/ReservoirSampler;I)V"⟩ : MethodName) = true := plainFor_of_name (by first | (simp [plainName, overriddenIn]; done) | decide +kernel)
theorem ef_10 (m : MethodId) (x0 : Addr) (x1 : Int32) : entryFrame m #[(.ref x0), (.int x1)] 2 = mkF m 0 #[.val (.ref x0), .val (.int x1)] [] := by first | (simp [entryFrame, mkF, argsToLocals, Value.category]; done) | rfl
set_option maxRecDepth 65536 in
set_option maxHeartbeats 40000000 in
theorem rm10_p0 (l : Launch) (Z : State) (a0 : Array Value) (hw : ∀ d ∈ tables_1, d.before a0 Z = true) (ws : List Jvm.Cond) (x0 : Addr) (kl : Addr) (gr : Addr) (po : Int64) (of : Int64) (po2 : Int64) (of2 : Int64) (h0 : Heap) (n0 : Nat) (sz : n0 ≤ h0.size) (F_x0_kept : Fld Z h0 x0 "com/example/cistern/cistern/ReservoirSampler" "kept" "Ljava/util/List;" (.ref kl)) (F_x0_capacity : Fld Z h0 x0 "com/example/cistern/cistern/ReservoirSampler" "capacity" "I" (.int (0 : Int32))) (F_x0_random : Fld Z h0 x0 "com/example/cistern/cistern/ReservoirSampler" "random" "Lcom/example/cistern/cistern/SplitMix64;" (.ref gr)) (F_x0_passOver : Fld Z h0 x0 "com/example/cistern/cistern/ReservoirSampler" "passOver" "J" (.long po)) (F_x0_offered : Fld Z h0 x0 "com/example/cistern/cistern/ReservoirSampler" "offered" "J" (.long of)) (E_x0 : Exa Z h0 x0 "com/example/cistern/cistern/ReservoirSampler") (F_kl_size : Fld Z h0 kl "java/util/ArrayList" "size" "I" (.int (0 : Int32))) (E_kl : Exa Z h0 kl "java/util/ArrayList") (g_x0 : n0 ≤ x0) (g_kl : n0 ≤ kl) (hbo : 0 ≤ of.toInt ∧ of.toInt + 0 ≤ 9223372036854775807 ∧ 0 ≤ po.toInt) (hp2 : po = po2) (ho2 : of = of2) :
    Ctr l (⟨"com/example/cistern/cistern/ReservoirSamplerSkippablePinLaw", "offerTimes", "(Lcom/example/cistern/cistern/ReservoirSampler;I)V"⟩ : MethodName) method_2_code 2 none ws ({ frames := 0, cells := 0, slots := 0, locals := 0 } : Room) Z #[(.ref x0), (.int (0 : Int32))] h0 (fun v h L => v = none ∧ Fr n0 L ∧ Keep h0 h [x0] ∧ Fld Z h x0 "com/example/cistern/cistern/ReservoirSampler" "kept" "Ljava/util/List;" (.ref kl) ∧ Fld Z h x0 "com/example/cistern/cistern/ReservoirSampler" "capacity" "I" (.int (0 : Int32)) ∧ Fld Z h x0 "com/example/cistern/cistern/ReservoirSampler" "random" "Lcom/example/cistern/cistern/SplitMix64;" (.ref gr) ∧ Fld Z h x0 "com/example/cistern/cistern/ReservoirSampler" "passOver" "J" (.long po2) ∧ Fld Z h x0 "com/example/cistern/cistern/ReservoirSampler" "offered" "J" (.long of2)) 0 0 := by
  refine Ctr.mk pn_10 ?_
  intro p e s m below meth c T hx hby hml hown hnm hlk hret hZ X eT
  have N := Fr.nil n0
  refine enter (ef_10 m x0 (0 : Int32)) ?_
  have K := Keep.refl h0 [x0]
  have ne_x0_kl := ne_exa E_x0 E_kl (by decide)
  refine s_iloadN X hx (hb hby d10_0) rfl (q := 1) rfl ?_
  refine s_iconst X hx (z := (1 : Int32)) (hb hby d10_1) rfl (q := 2) rfl ?_
  refine f_icmp_lt X hx (hb hby d10_2) (q1 := 10) (by decide) (by decide) (q := 5) rfl (fun _ => ?_) (fun hq => absurd (by decide : (0 : Int32) < (1 : Int32)) hq)
  refine s_iloadN X hx (hb hby d10_10) rfl (q := 11) rfl ?_
  refine s_iconst X hx (z := (2 : Int32)) (hb hby d10_11) rfl (q := 12) rfl ?_
  refine f_icmp_lt X hx (hb hby d10_12) (q1 := 20) (by decide) (by decide) (q := 15) rfl (fun _ => ?_) (fun hq => absurd (by decide : (0 : Int32) < (2 : Int32)) hq)
  refine s_iloadN X hx (hb hby d10_20) rfl (q := 21) rfl ?_
  refine s_iconst X hx (z := (3 : Int32)) (hb hby d10_21) rfl (q := 22) rfl ?_
  refine f_icmp_lt X hx (hb hby d10_22) (q1 := 30) (by decide) (by decide) (q := 25) rfl (fun _ => ?_) (fun hq => absurd (by decide : (0 : Int32) < (3 : Int32)) hq)
  exact leafV X hx hlk hret (hb hby d10_30) (by decide) (by decide) (by rw [eT]; subst hp2 ho2; exact ⟨rfl, N, K, F_x0_kept, F_x0_capacity, F_x0_random, F_x0_passOver, F_x0_offered⟩)
set_option maxRecDepth 65536 in
set_option maxHeartbeats 40000000 in
theorem rm10_p1 (l : Launch) (Z : State) (a0 : Array Value) (hw : ∀ d ∈ tables_1, d.before a0 Z = true) (ws : List Jvm.Cond) (x0 : Addr) (kl : Addr) (gr : Addr) (po : Int64) (of : Int64) (po2 : Int64) (of2 : Int64) (h0 : Heap) (n0 : Nat) (sz : n0 ≤ h0.size) (F_x0_kept : Fld Z h0 x0 "com/example/cistern/cistern/ReservoirSampler" "kept" "Ljava/util/List;" (.ref kl)) (F_x0_capacity : Fld Z h0 x0 "com/example/cistern/cistern/ReservoirSampler" "capacity" "I" (.int (0 : Int32))) (F_x0_random : Fld Z h0 x0 "com/example/cistern/cistern/ReservoirSampler" "random" "Lcom/example/cistern/cistern/SplitMix64;" (.ref gr)) (F_x0_passOver : Fld Z h0 x0 "com/example/cistern/cistern/ReservoirSampler" "passOver" "J" (.long po)) (F_x0_offered : Fld Z h0 x0 "com/example/cistern/cistern/ReservoirSampler" "offered" "J" (.long of)) (E_x0 : Exa Z h0 x0 "com/example/cistern/cistern/ReservoirSampler") (F_kl_size : Fld Z h0 kl "java/util/ArrayList" "size" "I" (.int (0 : Int32))) (E_kl : Exa Z h0 kl "java/util/ArrayList") (g_x0 : n0 ≤ x0) (g_kl : n0 ≤ kl) (hbo : 0 ≤ of.toInt ∧ of.toInt + 1 ≤ 9223372036854775807 ∧ 1 ≤ po.toInt) (hp2 : (po - (1 : Int64)) = po2) (ho2 : (of + (1 : Int64)) = of2) :
    Ctr l (⟨"com/example/cistern/cistern/ReservoirSamplerSkippablePinLaw", "offerTimes", "(Lcom/example/cistern/cistern/ReservoirSampler;I)V"⟩ : MethodName) method_2_code 2 none ws ({ frames := 2, cells := 0, slots := 0, locals := 31 } : Room) Z #[(.ref x0), (.int (1 : Int32))] h0 (fun v h L => v = none ∧ Fr n0 L ∧ Keep h0 h [x0] ∧ Fld Z h x0 "com/example/cistern/cistern/ReservoirSampler" "kept" "Ljava/util/List;" (.ref kl) ∧ Fld Z h x0 "com/example/cistern/cistern/ReservoirSampler" "capacity" "I" (.int (0 : Int32)) ∧ Fld Z h x0 "com/example/cistern/cistern/ReservoirSampler" "random" "Lcom/example/cistern/cistern/SplitMix64;" (.ref gr) ∧ Fld Z h x0 "com/example/cistern/cistern/ReservoirSampler" "passOver" "J" (.long po2) ∧ Fld Z h x0 "com/example/cistern/cistern/ReservoirSampler" "offered" "J" (.long of2)) 0 0 := by
  refine Ctr.mk pn_10 ?_
  intro p e s m below meth c T hx hby hml hown hnm hlk hret hZ X eT
  have N := Fr.nil n0
  refine enter (ef_10 m x0 (1 : Int32)) ?_
  have K := Keep.refl h0 [x0]
  have ne_x0_kl := ne_exa E_x0 E_kl (by decide)
  refine s_iloadN X hx (hb hby d10_0) rfl (q := 1) rfl ?_
  refine s_iconst X hx (z := (1 : Int32)) (hb hby d10_1) rfl (q := 2) rfl ?_
  refine f_icmp_lt X hx (hb hby d10_2) (q1 := 10) (by decide) (by decide) (q := 5) rfl (fun hq => absurd hq (by decide : ¬ (1 : Int32) < (1 : Int32))) (fun _ => ?_)
  have hc : 0 ≤ of.toInt ∧ of.toInt < 9223372036854775807 ∧ 0 < po.toInt := ⟨by omega, by omega, by omega⟩
  have so1 := own_st of hc.1 hc.2.1
  have sp1 := own_sd po hc.2.2
  refine s_aloadN X hx (hb hby d10_5) rfl rfl (q := 6) rfl ?_
  refine s_aconst_null X hx (hb hby d10_6) (q := 7) rfl ?_
  refine callV X hx hZ hown (W := 0) (argsL := [.null]) (rest := []) (hw _ (List.mem_of_getElem? (i := 74) rfl)) (hw _ (List.mem_of_getElem? (i := 75) rfl)) (hw _ (List.mem_of_getElem? (i := 77) rfl)) (hw _ (List.mem_of_getElem? (i := 76) rfl)) (hw _ (List.mem_of_getElem? (i := 2) rfl)) (hw _ (List.mem_of_getElem? (i := 78) rfl)) (by decide) E_x0 (rm11_p l Z a0 hw [] x0 kl gr po of h0 n0 sz F_x0_kept F_x0_capacity F_x0_random F_x0_passOver F_x0_offered E_x0 F_kl_size E_kl g_x0 g_kl hc) eT (by decide) (by decide) (by decide) (by decide) (by rw [hml]; rfl) pd16 rfl rfl (Nat.le_of_ble_eq_true rfl) (hb hby d10_7) (q := 10) rfl ?_
  intro v T Lc hQ X
  obtain ⟨h1, eT⟩ : ∃ z, T.heap = z := ⟨_, rfl⟩
  rw [eT] at hQ
  obtain ⟨rfl, N', K', F_x0_kept', F_x0_capacity', F_x0_random', F_x0_passOver', F_x0_offered'⟩ := hQ
  have N := Fr.app N N'
  have E_x0 := E_x0.keep K'
  have E_kl := E_kl.keep K'
  have F_kl_size := F_kl_size.keep K' (ninS (Ne.symm ne_x0_kl) nin0)
  have sz : n0 ≤ h1.size := Nat.le_trans sz K'.1
  have K := K.trans K' (allS (Or.inl (List.mem_of_getElem? (i := 0) rfl)) all0)
  have F_x0_kept : Fld Z h1 x0 "com/example/cistern/cistern/ReservoirSampler" "kept" "Ljava/util/List;" (.ref kl) := F_x0_kept'
  have F_x0_capacity : Fld Z h1 x0 "com/example/cistern/cistern/ReservoirSampler" "capacity" "I" (.int (0 : Int32)) := F_x0_capacity'
  have F_x0_random : Fld Z h1 x0 "com/example/cistern/cistern/ReservoirSampler" "random" "Lcom/example/cistern/cistern/SplitMix64;" (.ref gr) := F_x0_random'
  have F_x0_passOver : Fld Z h1 x0 "com/example/cistern/cistern/ReservoirSampler" "passOver" "J" (.long (po - (1 : Int64))) := F_x0_passOver'
  have F_x0_offered : Fld Z h1 x0 "com/example/cistern/cistern/ReservoirSampler" "offered" "J" (.long (of + (1 : Int64))) := F_x0_offered'
  refine s_iloadN X hx (hb hby d10_10) rfl (q := 11) rfl ?_
  refine s_iconst X hx (z := (2 : Int32)) (hb hby d10_11) rfl (q := 12) rfl ?_
  refine f_icmp_lt X hx (hb hby d10_12) (q1 := 20) (by decide) (by decide) (q := 15) rfl (fun _ => ?_) (fun hq => absurd (by decide : (1 : Int32) < (2 : Int32)) hq)
  refine s_iloadN X hx (hb hby d10_20) rfl (q := 21) rfl ?_
  refine s_iconst X hx (z := (3 : Int32)) (hb hby d10_21) rfl (q := 22) rfl ?_
  refine f_icmp_lt X hx (hb hby d10_22) (q1 := 30) (by decide) (by decide) (q := 25) rfl (fun _ => ?_) (fun hq => absurd (by decide : (1 : Int32) < (3 : Int32)) hq)
  exact leafV X hx hlk hret (hb hby d10_30) (by decide) (by decide) (by rw [eT]; subst hp2 ho2; exact ⟨rfl, N, K, F_x0_kept, F_x0_capacity, F_x0_random, F_x0_passOver, F_x0_offered⟩)
set_option maxRecDepth 65536 in
set_option maxHeartbeats 40000000 in
theorem rm10_p2 (l : Launch) (Z : State) (a0 : Array Value) (hw : ∀ d ∈ tables_1, d.before a0 Z = true) (ws : List Jvm.Cond) (x0 : Addr) (kl : Addr) (gr : Addr) (po : Int64) (of : Int64) (po2 : Int64) (of2 : Int64) (h0 : Heap) (n0 : Nat) (sz : n0 ≤ h0.size) (F_x0_kept : Fld Z h0 x0 "com/example/cistern/cistern/ReservoirSampler" "kept" "Ljava/util/List;" (.ref kl)) (F_x0_capacity : Fld Z h0 x0 "com/example/cistern/cistern/ReservoirSampler" "capacity" "I" (.int (0 : Int32))) (F_x0_random : Fld Z h0 x0 "com/example/cistern/cistern/ReservoirSampler" "random" "Lcom/example/cistern/cistern/SplitMix64;" (.ref gr)) (F_x0_passOver : Fld Z h0 x0 "com/example/cistern/cistern/ReservoirSampler" "passOver" "J" (.long po)) (F_x0_offered : Fld Z h0 x0 "com/example/cistern/cistern/ReservoirSampler" "offered" "J" (.long of)) (E_x0 : Exa Z h0 x0 "com/example/cistern/cistern/ReservoirSampler") (F_kl_size : Fld Z h0 kl "java/util/ArrayList" "size" "I" (.int (0 : Int32))) (E_kl : Exa Z h0 kl "java/util/ArrayList") (g_x0 : n0 ≤ x0) (g_kl : n0 ≤ kl) (hbo : 0 ≤ of.toInt ∧ of.toInt + 2 ≤ 9223372036854775807 ∧ 2 ≤ po.toInt) (hp2 : ((po - (1 : Int64)) - (1 : Int64)) = po2) (ho2 : ((of + (1 : Int64)) + (1 : Int64)) = of2) :
    Ctr l (⟨"com/example/cistern/cistern/ReservoirSamplerSkippablePinLaw", "offerTimes", "(Lcom/example/cistern/cistern/ReservoirSampler;I)V"⟩ : MethodName) method_2_code 2 none ws ({ frames := 2, cells := 0, slots := 0, locals := 31 } : Room) Z #[(.ref x0), (.int (2 : Int32))] h0 (fun v h L => v = none ∧ Fr n0 L ∧ Keep h0 h [x0] ∧ Fld Z h x0 "com/example/cistern/cistern/ReservoirSampler" "kept" "Ljava/util/List;" (.ref kl) ∧ Fld Z h x0 "com/example/cistern/cistern/ReservoirSampler" "capacity" "I" (.int (0 : Int32)) ∧ Fld Z h x0 "com/example/cistern/cistern/ReservoirSampler" "random" "Lcom/example/cistern/cistern/SplitMix64;" (.ref gr) ∧ Fld Z h x0 "com/example/cistern/cistern/ReservoirSampler" "passOver" "J" (.long po2) ∧ Fld Z h x0 "com/example/cistern/cistern/ReservoirSampler" "offered" "J" (.long of2)) 0 0 := by
  refine Ctr.mk pn_10 ?_
  intro p e s m below meth c T hx hby hml hown hnm hlk hret hZ X eT
  have N := Fr.nil n0
  refine enter (ef_10 m x0 (2 : Int32)) ?_
  have K := Keep.refl h0 [x0]
  have ne_x0_kl := ne_exa E_x0 E_kl (by decide)
  refine s_iloadN X hx (hb hby d10_0) rfl (q := 1) rfl ?_
  refine s_iconst X hx (z := (1 : Int32)) (hb hby d10_1) rfl (q := 2) rfl ?_
  refine f_icmp_lt X hx (hb hby d10_2) (q1 := 10) (by decide) (by decide) (q := 5) rfl (fun hq => absurd hq (by decide : ¬ (2 : Int32) < (1 : Int32))) (fun _ => ?_)
  have hc : 0 ≤ of.toInt ∧ of.toInt < 9223372036854775807 ∧ 0 < po.toInt := ⟨by omega, by omega, by omega⟩
  have so1 := own_st of hc.1 hc.2.1
  have sp1 := own_sd po hc.2.2
  refine s_aloadN X hx (hb hby d10_5) rfl rfl (q := 6) rfl ?_
  refine s_aconst_null X hx (hb hby d10_6) (q := 7) rfl ?_
  refine callV X hx hZ hown (W := 0) (argsL := [.null]) (rest := []) (hw _ (List.mem_of_getElem? (i := 74) rfl)) (hw _ (List.mem_of_getElem? (i := 75) rfl)) (hw _ (List.mem_of_getElem? (i := 77) rfl)) (hw _ (List.mem_of_getElem? (i := 76) rfl)) (hw _ (List.mem_of_getElem? (i := 2) rfl)) (hw _ (List.mem_of_getElem? (i := 78) rfl)) (by decide) E_x0 (rm11_p l Z a0 hw [] x0 kl gr po of h0 n0 sz F_x0_kept F_x0_capacity F_x0_random F_x0_passOver F_x0_offered E_x0 F_kl_size E_kl g_x0 g_kl hc) eT (by decide) (by decide) (by decide) (by decide) (by rw [hml]; rfl) pd16 rfl rfl (Nat.le_of_ble_eq_true rfl) (hb hby d10_7) (q := 10) rfl ?_
  intro v T Lc hQ X
  obtain ⟨h1, eT⟩ : ∃ z, T.heap = z := ⟨_, rfl⟩
  rw [eT] at hQ
  obtain ⟨rfl, N', K', F_x0_kept', F_x0_capacity', F_x0_random', F_x0_passOver', F_x0_offered'⟩ := hQ
  have N := Fr.app N N'
  have E_x0 := E_x0.keep K'
  have E_kl := E_kl.keep K'
  have F_kl_size := F_kl_size.keep K' (ninS (Ne.symm ne_x0_kl) nin0)
  have sz : n0 ≤ h1.size := Nat.le_trans sz K'.1
  have K := K.trans K' (allS (Or.inl (List.mem_of_getElem? (i := 0) rfl)) all0)
  have F_x0_kept : Fld Z h1 x0 "com/example/cistern/cistern/ReservoirSampler" "kept" "Ljava/util/List;" (.ref kl) := F_x0_kept'
  have F_x0_capacity : Fld Z h1 x0 "com/example/cistern/cistern/ReservoirSampler" "capacity" "I" (.int (0 : Int32)) := F_x0_capacity'
  have F_x0_random : Fld Z h1 x0 "com/example/cistern/cistern/ReservoirSampler" "random" "Lcom/example/cistern/cistern/SplitMix64;" (.ref gr) := F_x0_random'
  have F_x0_passOver : Fld Z h1 x0 "com/example/cistern/cistern/ReservoirSampler" "passOver" "J" (.long (po - (1 : Int64))) := F_x0_passOver'
  have F_x0_offered : Fld Z h1 x0 "com/example/cistern/cistern/ReservoirSampler" "offered" "J" (.long (of + (1 : Int64))) := F_x0_offered'
  refine s_iloadN X hx (hb hby d10_10) rfl (q := 11) rfl ?_
  refine s_iconst X hx (z := (2 : Int32)) (hb hby d10_11) rfl (q := 12) rfl ?_
  refine f_icmp_lt X hx (hb hby d10_12) (q1 := 20) (by decide) (by decide) (q := 15) rfl (fun hq => absurd hq (by decide : ¬ (2 : Int32) < (2 : Int32))) (fun _ => ?_)
  have hc : 0 ≤ (of + (1 : Int64)).toInt ∧ (of + (1 : Int64)).toInt < 9223372036854775807 ∧ 0 < (po - (1 : Int64)).toInt := ⟨by omega, by omega, by omega⟩
  have so2 := own_st (of + (1 : Int64)) hc.1 hc.2.1
  have sp2 := own_sd (po - (1 : Int64)) hc.2.2
  refine s_aloadN X hx (hb hby d10_15) rfl rfl (q := 16) rfl ?_
  refine s_aconst_null X hx (hb hby d10_16) (q := 17) rfl ?_
  refine callV X hx hZ hown (W := 0) (argsL := [.null]) (rest := []) (hw _ (List.mem_of_getElem? (i := 74) rfl)) (hw _ (List.mem_of_getElem? (i := 75) rfl)) (hw _ (List.mem_of_getElem? (i := 77) rfl)) (hw _ (List.mem_of_getElem? (i := 76) rfl)) (hw _ (List.mem_of_getElem? (i := 2) rfl)) (hw _ (List.mem_of_getElem? (i := 78) rfl)) (by decide) E_x0 (rm11_p l Z a0 hw [] x0 kl gr (po - (1 : Int64)) (of + (1 : Int64)) h1 n0 sz F_x0_kept F_x0_capacity F_x0_random F_x0_passOver F_x0_offered E_x0 F_kl_size E_kl g_x0 g_kl hc) eT (by decide) (by decide) (by decide) (by decide) (by rw [hml]; rfl) pd16 rfl rfl (Nat.le_of_ble_eq_true rfl) (hb hby d10_17) (q := 20) rfl ?_
  intro v T Lc hQ X
  obtain ⟨h2, eT⟩ : ∃ z, T.heap = z := ⟨_, rfl⟩
  rw [eT] at hQ
  obtain ⟨rfl, N', K', F_x0_kept', F_x0_capacity', F_x0_random', F_x0_passOver', F_x0_offered'⟩ := hQ
  have N := Fr.app N N'
  have E_x0 := E_x0.keep K'
  have E_kl := E_kl.keep K'
  have F_kl_size := F_kl_size.keep K' (ninS (Ne.symm ne_x0_kl) nin0)
  have sz : n0 ≤ h2.size := Nat.le_trans sz K'.1
  have K := K.trans K' (allS (Or.inl (List.mem_of_getElem? (i := 0) rfl)) all0)
  have F_x0_kept : Fld Z h2 x0 "com/example/cistern/cistern/ReservoirSampler" "kept" "Ljava/util/List;" (.ref kl) := F_x0_kept'
  have F_x0_capacity : Fld Z h2 x0 "com/example/cistern/cistern/ReservoirSampler" "capacity" "I" (.int (0 : Int32)) := F_x0_capacity'
  have F_x0_random : Fld Z h2 x0 "com/example/cistern/cistern/ReservoirSampler" "random" "Lcom/example/cistern/cistern/SplitMix64;" (.ref gr) := F_x0_random'
  have F_x0_passOver : Fld Z h2 x0 "com/example/cistern/cistern/ReservoirSampler" "passOver" "J" (.long ((po - (1 : Int64)) - (1 : Int64))) := F_x0_passOver'
  have F_x0_offered : Fld Z h2 x0 "com/example/cistern/cistern/ReservoirSampler" "offered" "J" (.long ((of + (1 : Int64)) + (1 : Int64))) := F_x0_offered'
  refine s_iloadN X hx (hb hby d10_20) rfl (q := 21) rfl ?_
  refine s_iconst X hx (z := (3 : Int32)) (hb hby d10_21) rfl (q := 22) rfl ?_
  refine f_icmp_lt X hx (hb hby d10_22) (q1 := 30) (by decide) (by decide) (q := 25) rfl (fun _ => ?_) (fun hq => absurd (by decide : (2 : Int32) < (3 : Int32)) hq)
  exact leafV X hx hlk hret (hb hby d10_30) (by decide) (by decide) (by rw [eT]; subst hp2 ho2; exact ⟨rfl, N, K, F_x0_kept, F_x0_capacity, F_x0_random, F_x0_passOver, F_x0_offered⟩)
set_option maxRecDepth 65536 in
set_option maxHeartbeats 40000000 in
theorem rm10_p3 (l : Launch) (Z : State) (a0 : Array Value) (hw : ∀ d ∈ tables_1, d.before a0 Z = true) (ws : List Jvm.Cond) (x0 : Addr) (kl : Addr) (gr : Addr) (po : Int64) (of : Int64) (po2 : Int64) (of2 : Int64) (h0 : Heap) (n0 : Nat) (sz : n0 ≤ h0.size) (F_x0_kept : Fld Z h0 x0 "com/example/cistern/cistern/ReservoirSampler" "kept" "Ljava/util/List;" (.ref kl)) (F_x0_capacity : Fld Z h0 x0 "com/example/cistern/cistern/ReservoirSampler" "capacity" "I" (.int (0 : Int32))) (F_x0_random : Fld Z h0 x0 "com/example/cistern/cistern/ReservoirSampler" "random" "Lcom/example/cistern/cistern/SplitMix64;" (.ref gr)) (F_x0_passOver : Fld Z h0 x0 "com/example/cistern/cistern/ReservoirSampler" "passOver" "J" (.long po)) (F_x0_offered : Fld Z h0 x0 "com/example/cistern/cistern/ReservoirSampler" "offered" "J" (.long of)) (E_x0 : Exa Z h0 x0 "com/example/cistern/cistern/ReservoirSampler") (F_kl_size : Fld Z h0 kl "java/util/ArrayList" "size" "I" (.int (0 : Int32))) (E_kl : Exa Z h0 kl "java/util/ArrayList") (g_x0 : n0 ≤ x0) (g_kl : n0 ≤ kl) (hbo : 0 ≤ of.toInt ∧ of.toInt + 3 ≤ 9223372036854775807 ∧ 3 ≤ po.toInt) (hp2 : (((po - (1 : Int64)) - (1 : Int64)) - (1 : Int64)) = po2) (ho2 : (((of + (1 : Int64)) + (1 : Int64)) + (1 : Int64)) = of2) :
    Ctr l (⟨"com/example/cistern/cistern/ReservoirSamplerSkippablePinLaw", "offerTimes", "(Lcom/example/cistern/cistern/ReservoirSampler;I)V"⟩ : MethodName) method_2_code 2 none ws ({ frames := 2, cells := 0, slots := 0, locals := 31 } : Room) Z #[(.ref x0), (.int (3 : Int32))] h0 (fun v h L => v = none ∧ Fr n0 L ∧ Keep h0 h [x0] ∧ Fld Z h x0 "com/example/cistern/cistern/ReservoirSampler" "kept" "Ljava/util/List;" (.ref kl) ∧ Fld Z h x0 "com/example/cistern/cistern/ReservoirSampler" "capacity" "I" (.int (0 : Int32)) ∧ Fld Z h x0 "com/example/cistern/cistern/ReservoirSampler" "random" "Lcom/example/cistern/cistern/SplitMix64;" (.ref gr) ∧ Fld Z h x0 "com/example/cistern/cistern/ReservoirSampler" "passOver" "J" (.long po2) ∧ Fld Z h x0 "com/example/cistern/cistern/ReservoirSampler" "offered" "J" (.long of2)) 0 0 := by
  refine Ctr.mk pn_10 ?_
  intro p e s m below meth c T hx hby hml hown hnm hlk hret hZ X eT
  have N := Fr.nil n0
  refine enter (ef_10 m x0 (3 : Int32)) ?_
  have K := Keep.refl h0 [x0]
  have ne_x0_kl := ne_exa E_x0 E_kl (by decide)
  refine s_iloadN X hx (hb hby d10_0) rfl (q := 1) rfl ?_
  refine s_iconst X hx (z := (1 : Int32)) (hb hby d10_1) rfl (q := 2) rfl ?_
  refine f_icmp_lt X hx (hb hby d10_2) (q1 := 10) (by decide) (by decide) (q := 5) rfl (fun hq => absurd hq (by decide : ¬ (3 : Int32) < (1 : Int32))) (fun _ => ?_)
  have hc : 0 ≤ of.toInt ∧ of.toInt < 9223372036854775807 ∧ 0 < po.toInt := ⟨by omega, by omega, by omega⟩
  have so1 := own_st of hc.1 hc.2.1
  have sp1 := own_sd po hc.2.2
  refine s_aloadN X hx (hb hby d10_5) rfl rfl (q := 6) rfl ?_
  refine s_aconst_null X hx (hb hby d10_6) (q := 7) rfl ?_
  refine callV X hx hZ hown (W := 0) (argsL := [.null]) (rest := []) (hw _ (List.mem_of_getElem? (i := 74) rfl)) (hw _ (List.mem_of_getElem? (i := 75) rfl)) (hw _ (List.mem_of_getElem? (i := 77) rfl)) (hw _ (List.mem_of_getElem? (i := 76) rfl)) (hw _ (List.mem_of_getElem? (i := 2) rfl)) (hw _ (List.mem_of_getElem? (i := 78) rfl)) (by decide) E_x0 (rm11_p l Z a0 hw [] x0 kl gr po of h0 n0 sz F_x0_kept F_x0_capacity F_x0_random F_x0_passOver F_x0_offered E_x0 F_kl_size E_kl g_x0 g_kl hc) eT (by decide) (by decide) (by decide) (by decide) (by rw [hml]; rfl) pd16 rfl rfl (Nat.le_of_ble_eq_true rfl) (hb hby d10_7) (q := 10) rfl ?_
  intro v T Lc hQ X
  obtain ⟨h1, eT⟩ : ∃ z, T.heap = z := ⟨_, rfl⟩
  rw [eT] at hQ
  obtain ⟨rfl, N', K', F_x0_kept', F_x0_capacity', F_x0_random', F_x0_passOver', F_x0_offered'⟩ := hQ
  have N := Fr.app N N'
  have E_x0 := E_x0.keep K'
  have E_kl := E_kl.keep K'
  have F_kl_size := F_kl_size.keep K' (ninS (Ne.symm ne_x0_kl) nin0)
  have sz : n0 ≤ h1.size := Nat.le_trans sz K'.1
  have K := K.trans K' (allS (Or.inl (List.mem_of_getElem? (i := 0) rfl)) all0)
  have F_x0_kept : Fld Z h1 x0 "com/example/cistern/cistern/ReservoirSampler" "kept" "Ljava/util/List;" (.ref kl) := F_x0_kept'
  have F_x0_capacity : Fld Z h1 x0 "com/example/cistern/cistern/ReservoirSampler" "capacity" "I" (.int (0 : Int32)) := F_x0_capacity'
  have F_x0_random : Fld Z h1 x0 "com/example/cistern/cistern/ReservoirSampler" "random" "Lcom/example/cistern/cistern/SplitMix64;" (.ref gr) := F_x0_random'
  have F_x0_passOver : Fld Z h1 x0 "com/example/cistern/cistern/ReservoirSampler" "passOver" "J" (.long (po - (1 : Int64))) := F_x0_passOver'
  have F_x0_offered : Fld Z h1 x0 "com/example/cistern/cistern/ReservoirSampler" "offered" "J" (.long (of + (1 : Int64))) := F_x0_offered'
  refine s_iloadN X hx (hb hby d10_10) rfl (q := 11) rfl ?_
  refine s_iconst X hx (z := (2 : Int32)) (hb hby d10_11) rfl (q := 12) rfl ?_
  refine f_icmp_lt X hx (hb hby d10_12) (q1 := 20) (by decide) (by decide) (q := 15) rfl (fun hq => absurd hq (by decide : ¬ (3 : Int32) < (2 : Int32))) (fun _ => ?_)
  have hc : 0 ≤ (of + (1 : Int64)).toInt ∧ (of + (1 : Int64)).toInt < 9223372036854775807 ∧ 0 < (po - (1 : Int64)).toInt := ⟨by omega, by omega, by omega⟩
  have so2 := own_st (of + (1 : Int64)) hc.1 hc.2.1
  have sp2 := own_sd (po - (1 : Int64)) hc.2.2
  refine s_aloadN X hx (hb hby d10_15) rfl rfl (q := 16) rfl ?_
  refine s_aconst_null X hx (hb hby d10_16) (q := 17) rfl ?_
  refine callV X hx hZ hown (W := 0) (argsL := [.null]) (rest := []) (hw _ (List.mem_of_getElem? (i := 74) rfl)) (hw _ (List.mem_of_getElem? (i := 75) rfl)) (hw _ (List.mem_of_getElem? (i := 77) rfl)) (hw _ (List.mem_of_getElem? (i := 76) rfl)) (hw _ (List.mem_of_getElem? (i := 2) rfl)) (hw _ (List.mem_of_getElem? (i := 78) rfl)) (by decide) E_x0 (rm11_p l Z a0 hw [] x0 kl gr (po - (1 : Int64)) (of + (1 : Int64)) h1 n0 sz F_x0_kept F_x0_capacity F_x0_random F_x0_passOver F_x0_offered E_x0 F_kl_size E_kl g_x0 g_kl hc) eT (by decide) (by decide) (by decide) (by decide) (by rw [hml]; rfl) pd16 rfl rfl (Nat.le_of_ble_eq_true rfl) (hb hby d10_17) (q := 20) rfl ?_
  intro v T Lc hQ X
  obtain ⟨h2, eT⟩ : ∃ z, T.heap = z := ⟨_, rfl⟩
  rw [eT] at hQ
  obtain ⟨rfl, N', K', F_x0_kept', F_x0_capacity', F_x0_random', F_x0_passOver', F_x0_offered'⟩ := hQ
  have N := Fr.app N N'
  have E_x0 := E_x0.keep K'
  have E_kl := E_kl.keep K'
  have F_kl_size := F_kl_size.keep K' (ninS (Ne.symm ne_x0_kl) nin0)
  have sz : n0 ≤ h2.size := Nat.le_trans sz K'.1
  have K := K.trans K' (allS (Or.inl (List.mem_of_getElem? (i := 0) rfl)) all0)
  have F_x0_kept : Fld Z h2 x0 "com/example/cistern/cistern/ReservoirSampler" "kept" "Ljava/util/List;" (.ref kl) := F_x0_kept'
  have F_x0_capacity : Fld Z h2 x0 "com/example/cistern/cistern/ReservoirSampler" "capacity" "I" (.int (0 : Int32)) := F_x0_capacity'
  have F_x0_random : Fld Z h2 x0 "com/example/cistern/cistern/ReservoirSampler" "random" "Lcom/example/cistern/cistern/SplitMix64;" (.ref gr) := F_x0_random'
  have F_x0_passOver : Fld Z h2 x0 "com/example/cistern/cistern/ReservoirSampler" "passOver" "J" (.long ((po - (1 : Int64)) - (1 : Int64))) := F_x0_passOver'
  have F_x0_offered : Fld Z h2 x0 "com/example/cistern/cistern/ReservoirSampler" "offered" "J" (.long ((of + (1 : Int64)) + (1 : Int64))) := F_x0_offered'
  refine s_iloadN X hx (hb hby d10_20) rfl (q := 21) rfl ?_
  refine s_iconst X hx (z := (3 : Int32)) (hb hby d10_21) rfl (q := 22) rfl ?_
  refine f_icmp_lt X hx (hb hby d10_22) (q1 := 30) (by decide) (by decide) (q := 25) rfl (fun hq => absurd hq (by decide : ¬ (3 : Int32) < (3 : Int32))) (fun _ => ?_)
  have hc : 0 ≤ ((of + (1 : Int64)) + (1 : Int64)).toInt ∧ ((of + (1 : Int64)) + (1 : Int64)).toInt < 9223372036854775807 ∧ 0 < ((po - (1 : Int64)) - (1 : Int64)).toInt := ⟨by omega, by omega, by omega⟩
  have so3 := own_st ((of + (1 : Int64)) + (1 : Int64)) hc.1 hc.2.1
  have sp3 := own_sd ((po - (1 : Int64)) - (1 : Int64)) hc.2.2
  refine s_aloadN X hx (hb hby d10_25) rfl rfl (q := 26) rfl ?_
  refine s_aconst_null X hx (hb hby d10_26) (q := 27) rfl ?_
  refine callV X hx hZ hown (W := 0) (argsL := [.null]) (rest := []) (hw _ (List.mem_of_getElem? (i := 74) rfl)) (hw _ (List.mem_of_getElem? (i := 75) rfl)) (hw _ (List.mem_of_getElem? (i := 77) rfl)) (hw _ (List.mem_of_getElem? (i := 76) rfl)) (hw _ (List.mem_of_getElem? (i := 2) rfl)) (hw _ (List.mem_of_getElem? (i := 78) rfl)) (by decide) E_x0 (rm11_p l Z a0 hw [] x0 kl gr ((po - (1 : Int64)) - (1 : Int64)) ((of + (1 : Int64)) + (1 : Int64)) h2 n0 sz F_x0_kept F_x0_capacity F_x0_random F_x0_passOver F_x0_offered E_x0 F_kl_size E_kl g_x0 g_kl hc) eT (by decide) (by decide) (by decide) (by decide) (by rw [hml]; rfl) pd16 rfl rfl (Nat.le_of_ble_eq_true rfl) (hb hby d10_27) (q := 30) rfl ?_
  intro v T Lc hQ X
  obtain ⟨h3, eT⟩ : ∃ z, T.heap = z := ⟨_, rfl⟩
  rw [eT] at hQ
  obtain ⟨rfl, N', K', F_x0_kept', F_x0_capacity', F_x0_random', F_x0_passOver', F_x0_offered'⟩ := hQ
  have N := Fr.app N N'
  have E_x0 := E_x0.keep K'
  have E_kl := E_kl.keep K'
  have F_kl_size := F_kl_size.keep K' (ninS (Ne.symm ne_x0_kl) nin0)
  have sz : n0 ≤ h3.size := Nat.le_trans sz K'.1
  have K := K.trans K' (allS (Or.inl (List.mem_of_getElem? (i := 0) rfl)) all0)
  have F_x0_kept : Fld Z h3 x0 "com/example/cistern/cistern/ReservoirSampler" "kept" "Ljava/util/List;" (.ref kl) := F_x0_kept'
  have F_x0_capacity : Fld Z h3 x0 "com/example/cistern/cistern/ReservoirSampler" "capacity" "I" (.int (0 : Int32)) := F_x0_capacity'
  have F_x0_random : Fld Z h3 x0 "com/example/cistern/cistern/ReservoirSampler" "random" "Lcom/example/cistern/cistern/SplitMix64;" (.ref gr) := F_x0_random'
  have F_x0_passOver : Fld Z h3 x0 "com/example/cistern/cistern/ReservoirSampler" "passOver" "J" (.long (((po - (1 : Int64)) - (1 : Int64)) - (1 : Int64))) := F_x0_passOver'
  have F_x0_offered : Fld Z h3 x0 "com/example/cistern/cistern/ReservoirSampler" "offered" "J" (.long (((of + (1 : Int64)) + (1 : Int64)) + (1 : Int64))) := F_x0_offered'
  exact leafV X hx hlk hret (hb hby d10_30) (by decide) (by decide) (by rw [eT]; subst hp2 ho2; exact ⟨rfl, N, K, F_x0_kept, F_x0_capacity, F_x0_random, F_x0_passOver, F_x0_offered⟩)
set_option maxRecDepth 65536 in
set_option maxHeartbeats 40000000 in
theorem rm10_f0 (l : Launch) (Z : State) (a0 : Array Value) (hw : ∀ d ∈ tables_1, d.before a0 Z = true) (ws : List Jvm.Cond) (x0 : Addr)  (h0 : Heap) (n0 : Nat) (sz : n0 ≤ h0.size) :
    Ctr l (⟨"com/example/cistern/cistern/ReservoirSamplerSkippablePinLaw", "offerTimes", "(Lcom/example/cistern/cistern/ReservoirSampler;I)V"⟩ : MethodName) method_2_code 2 none ws ({ frames := 0, cells := 0, slots := 0, locals := 0 } : Room) Z #[(.ref x0), (.int (0 : Int32))] h0 (fun v h L => v = none ∧ h = h0 ∧ Fr n0 L) 0 0 := by
  refine Ctr.mk pn_10 ?_
  intro p e s m below meth c T hx hby hml hown hnm hlk hret hZ X eT
  have N := Fr.nil n0
  refine enter (ef_10 m x0 (0 : Int32)) ?_
  refine s_iloadN X hx (hb hby d10_0) rfl (q := 1) rfl ?_
  refine s_iconst X hx (z := (1 : Int32)) (hb hby d10_1) rfl (q := 2) rfl ?_
  refine f_icmp_lt X hx (hb hby d10_2) (q1 := 10) (by decide) (by decide) (q := 5) rfl (fun _ => ?_) (fun hq => absurd (by decide : (0 : Int32) < (1 : Int32)) hq)
  refine s_iloadN X hx (hb hby d10_10) rfl (q := 11) rfl ?_
  refine s_iconst X hx (z := (2 : Int32)) (hb hby d10_11) rfl (q := 12) rfl ?_
  refine f_icmp_lt X hx (hb hby d10_12) (q1 := 20) (by decide) (by decide) (q := 15) rfl (fun _ => ?_) (fun hq => absurd (by decide : (0 : Int32) < (2 : Int32)) hq)
  refine s_iloadN X hx (hb hby d10_20) rfl (q := 21) rfl ?_
  refine s_iconst X hx (z := (3 : Int32)) (hb hby d10_21) rfl (q := 22) rfl ?_
  refine f_icmp_lt X hx (hb hby d10_22) (q1 := 30) (by decide) (by decide) (q := 25) rfl (fun _ => ?_) (fun hq => absurd (by decide : (0 : Int32) < (3 : Int32)) hq)
  exact leafV X hx hlk hret (hb hby d10_30) (by decide) (by decide) ⟨rfl, eT, N⟩
set_option maxRecDepth 65536 in
set_option maxHeartbeats 40000000 in
theorem rm10_f1 (l : Launch) (Z : State) (a0 : Array Value) (hw : ∀ d ∈ tables_1, d.before a0 Z = true) (ws : List Jvm.Cond) (x0 : Addr) (kl : Addr) (gr : Addr) (cp : Int32) (po : Int64) (u : Int64) (d0 : Addr) (h0 : Heap) (n0 : Nat) (sz : n0 ≤ h0.size) (F_x0_kept : Fld Z h0 x0 "com/example/cistern/cistern/ReservoirSampler" "kept" "Ljava/util/List;" (.ref kl)) (F_x0_capacity : Fld Z h0 x0 "com/example/cistern/cistern/ReservoirSampler" "capacity" "I" (.int cp)) (F_x0_random : Fld Z h0 x0 "com/example/cistern/cistern/ReservoirSampler" "random" "Lcom/example/cistern/cistern/SplitMix64;" (.ref gr)) (F_x0_passOver : Fld Z h0 x0 "com/example/cistern/cistern/ReservoirSampler" "passOver" "J" (.long po)) (F_x0_offered : Fld Z h0 x0 "com/example/cistern/cistern/ReservoirSampler" "offered" "J" (.long (0 : Int64))) (E_x0 : Exa Z h0 x0 "com/example/cistern/cistern/ReservoirSampler") (F_kl_elementData : Fld Z h0 kl "java/util/ArrayList" "elementData" "[Ljava/lang/Object;" (.ref d0)) (F_kl_size : Fld Z h0 kl "java/util/ArrayList" "size" "I" (.int (0 : Int32))) (F_kl_modCount : Fld Z h0 kl "java/util/AbstractList" "modCount" "I" (.int (0 : Int32))) (E_kl : Exa Z h0 kl "java/util/ArrayList") (F_gr_state : Fld Z h0 gr "com/example/cistern/cistern/SplitMix64" "state" "J" (.long u)) (E_gr : Exa Z h0 gr "com/example/cistern/cistern/SplitMix64") (g_x0 : n0 ≤ x0) (g_kl : n0 ≤ kl) (g_gr : n0 ≤ gr) (S0 : Sta Z Z.heap "java/util/ArrayList" "DEFAULTCAPACITY_EMPTY_ELEMENTDATA" "[Ljava/lang/Object;" (.ref d0)) (A0 : AV Z Z.heap d0 (.object "java/lang/Object") []) (O_old : Old Z n0 h0) (hlt : (0 : Int32) < cp) (hcp : ¬ (1 : Int32) = cp) :
    Ctr l (⟨"com/example/cistern/cistern/ReservoirSamplerSkippablePinLaw", "offerTimes", "(Lcom/example/cistern/cistern/ReservoirSampler;I)V"⟩ : MethodName) method_2_code 2 none ws ({ frames := 7, cells := 2, slots := 12, locals := 95 } : Room) Z #[(.ref x0), (.int (1 : Int32))] h0 (fun v h L => v = none ∧ Fr n0 L ∧ Keep h0 h [x0, kl, gr] ∧ Fld Z h x0 "com/example/cistern/cistern/ReservoirSampler" "kept" "Ljava/util/List;" (.ref kl) ∧ Fld Z h x0 "com/example/cistern/cistern/ReservoirSampler" "capacity" "I" (.int cp) ∧ Fld Z h x0 "com/example/cistern/cistern/ReservoirSampler" "random" "Lcom/example/cistern/cistern/SplitMix64;" (.ref gr) ∧ Fld Z h x0 "com/example/cistern/cistern/ReservoirSampler" "passOver" "J" (.long po) ∧ Fld Z h x0 "com/example/cistern/cistern/ReservoirSampler" "offered" "J" (.long (1 : Int64))) 2 12 := by
  refine Ctr.mk pn_10 ?_
  intro p e s m below meth c T hx hby hml hown hnm hlk hret hZ X eT
  have N := Fr.nil n0
  refine enter (ef_10 m x0 (1 : Int32)) ?_
  have K := Keep.refl h0 [x0, kl, gr]
  have ne_x0_kl := ne_exa E_x0 E_kl (by decide)
  have ne_x0_gr := ne_exa E_x0 E_gr (by decide)
  have ne_kl_gr := ne_exa E_kl E_gr (by decide)
  refine s_iloadN X hx (hb hby d10_0) rfl (q := 1) rfl ?_
  refine s_iconst X hx (z := (1 : Int32)) (hb hby d10_1) rfl (q := 2) rfl ?_
  refine f_icmp_lt X hx (hb hby d10_2) (q1 := 10) (by decide) (by decide) (q := 5) rfl (fun hq => absurd hq (by decide : ¬ (1 : Int32) < (1 : Int32))) (fun _ => ?_)
  refine s_aloadN X hx (hb hby d10_5) rfl rfl (q := 6) rfl ?_
  refine s_aconst_null X hx (hb hby d10_6) (q := 7) rfl ?_
  refine callV X hx hZ hown (W := 0) (argsL := [.null]) (rest := []) (hw _ (List.mem_of_getElem? (i := 74) rfl)) (hw _ (List.mem_of_getElem? (i := 75) rfl)) (hw _ (List.mem_of_getElem? (i := 77) rfl)) (hw _ (List.mem_of_getElem? (i := 76) rfl)) (hw _ (List.mem_of_getElem? (i := 2) rfl)) (hw _ (List.mem_of_getElem? (i := 78) rfl)) (by decide) E_x0 (rm11_f0 l Z a0 hw [] x0 kl gr cp po u d0 h0 n0 sz F_x0_kept F_x0_capacity F_x0_random F_x0_passOver F_x0_offered E_x0 F_kl_elementData F_kl_size F_kl_modCount E_kl F_gr_state E_gr g_x0 g_kl g_gr S0 A0 O_old hlt hcp) eT (by decide) (by decide) (by decide) (by decide) (by rw [hml]; rfl) pd16 rfl rfl (Nat.le_of_ble_eq_true rfl) (hb hby d10_7) (q := 10) rfl ?_
  intro v T Lc hQ X
  obtain ⟨h1, eT⟩ : ∃ z, T.heap = z := ⟨_, rfl⟩
  rw [eT] at hQ
  obtain ⟨dd, k0, u2, rfl, N', K', F_x0_kept', F_x0_capacity', F_x0_random', F_x0_passOver', F_x0_offered', F_kl_elementData', F_kl_size', F_kl_modCount', A_dd', E_k0', F_gr_state', sq_dd, sq_k0⟩ := hQ
  have N := Fr.app N N'
  have g_dd : n0 ≤ dd := Nat.le_trans sz sq_dd
  have sk_dd : h0.size ≤ dd := Nat.le_trans K.1 sq_dd
  have ne_x0_dd : x0 ≠ dd := Nat.ne_of_lt (Nat.lt_of_lt_of_le E_x0.lt sq_dd)
  have ne_kl_dd : kl ≠ dd := Nat.ne_of_lt (Nat.lt_of_lt_of_le E_kl.lt sq_dd)
  have ne_gr_dd : gr ≠ dd := Nat.ne_of_lt (Nat.lt_of_lt_of_le E_gr.lt sq_dd)
  have g_k0 : n0 ≤ k0 := Nat.le_trans sz sq_k0
  have sk_k0 : h0.size ≤ k0 := Nat.le_trans K.1 sq_k0
  have ne_x0_k0 : x0 ≠ k0 := Nat.ne_of_lt (Nat.lt_of_lt_of_le E_x0.lt sq_k0)
  have ne_kl_k0 : kl ≠ k0 := Nat.ne_of_lt (Nat.lt_of_lt_of_le E_kl.lt sq_k0)
  have ne_gr_k0 : gr ≠ k0 := Nat.ne_of_lt (Nat.lt_of_lt_of_le E_gr.lt sq_k0)
  have E_x0 := E_x0.keep K'
  have E_kl := E_kl.keep K'
  have E_gr := E_gr.keep K'
  have O_old := O_old.keep K' (allS g_x0 (allS g_kl (allS g_gr all0)))
  have sz : n0 ≤ h1.size := Nat.le_trans sz K'.1
  have K := K.trans K' (allS (Or.inl (List.mem_of_getElem? (i := 0) rfl)) (allS (Or.inl (List.mem_of_getElem? (i := 1) rfl)) (allS (Or.inl (List.mem_of_getElem? (i := 2) rfl)) all0)))
  have F_x0_kept : Fld Z h1 x0 "com/example/cistern/cistern/ReservoirSampler" "kept" "Ljava/util/List;" (.ref kl) := F_x0_kept'
  have F_x0_capacity : Fld Z h1 x0 "com/example/cistern/cistern/ReservoirSampler" "capacity" "I" (.int cp) := F_x0_capacity'
  have F_x0_random : Fld Z h1 x0 "com/example/cistern/cistern/ReservoirSampler" "random" "Lcom/example/cistern/cistern/SplitMix64;" (.ref gr) := F_x0_random'
  have F_x0_passOver : Fld Z h1 x0 "com/example/cistern/cistern/ReservoirSampler" "passOver" "J" (.long po) := F_x0_passOver'
  have F_x0_offered : Fld Z h1 x0 "com/example/cistern/cistern/ReservoirSampler" "offered" "J" (.long (1 : Int64)) := F_x0_offered'
  have F_kl_elementData : Fld Z h1 kl "java/util/ArrayList" "elementData" "[Ljava/lang/Object;" (.ref dd) := F_kl_elementData'
  have F_kl_size : Fld Z h1 kl "java/util/ArrayList" "size" "I" (.int (1 : Int32)) := F_kl_size'
  have F_kl_modCount : Fld Z h1 kl "java/util/AbstractList" "modCount" "I" (.int (1 : Int32)) := F_kl_modCount'
  have A_dd : AO Z h1 dd [(.ref k0), .null, .null, .null, .null, .null, .null, .null, .null, .null] := A_dd'
  have E_k0 : Exa Z h1 k0 "com/example/cistern/cistern/ReservoirSampler$Kept" := E_k0'
  have F_gr_state : Fld Z h1 gr "com/example/cistern/cistern/SplitMix64" "state" "J" (.long u2) := F_gr_state'
  have ne_k0_dd := own_neA E_k0 (hw _ (List.mem_of_getElem? (i := 106) rfl)) A_dd
  refine s_iloadN X hx (hb hby d10_10) rfl (q := 11) rfl ?_
  refine s_iconst X hx (z := (2 : Int32)) (hb hby d10_11) rfl (q := 12) rfl ?_
  refine f_icmp_lt X hx (hb hby d10_12) (q1 := 20) (by decide) (by decide) (q := 15) rfl (fun _ => ?_) (fun hq => absurd (by decide : (1 : Int32) < (2 : Int32)) hq)
  refine s_iloadN X hx (hb hby d10_20) rfl (q := 21) rfl ?_
  refine s_iconst X hx (z := (3 : Int32)) (hb hby d10_21) rfl (q := 22) rfl ?_
  refine f_icmp_lt X hx (hb hby d10_22) (q1 := 30) (by decide) (by decide) (q := 25) rfl (fun _ => ?_) (fun hq => absurd (by decide : (1 : Int32) < (3 : Int32)) hq)
  exact leafV X hx hlk hret (hb hby d10_30) (by decide) (by decide) (by rw [eT]; exact ⟨rfl, N, K, F_x0_kept, F_x0_capacity, F_x0_random, F_x0_passOver, F_x0_offered⟩)
set_option maxRecDepth 65536 in
set_option maxHeartbeats 40000000 in
theorem rm10_f2 (l : Launch) (Z : State) (a0 : Array Value) (hw : ∀ d ∈ tables_1, d.before a0 Z = true) (ws : List Jvm.Cond) (x0 : Addr) (kl : Addr) (gr : Addr) (cp : Int32) (po : Int64) (u : Int64) (d0 : Addr) (h0 : Heap) (n0 : Nat) (sz : n0 ≤ h0.size) (F_x0_kept : Fld Z h0 x0 "com/example/cistern/cistern/ReservoirSampler" "kept" "Ljava/util/List;" (.ref kl)) (F_x0_capacity : Fld Z h0 x0 "com/example/cistern/cistern/ReservoirSampler" "capacity" "I" (.int cp)) (F_x0_random : Fld Z h0 x0 "com/example/cistern/cistern/ReservoirSampler" "random" "Lcom/example/cistern/cistern/SplitMix64;" (.ref gr)) (F_x0_passOver : Fld Z h0 x0 "com/example/cistern/cistern/ReservoirSampler" "passOver" "J" (.long po)) (F_x0_offered : Fld Z h0 x0 "com/example/cistern/cistern/ReservoirSampler" "offered" "J" (.long (0 : Int64))) (E_x0 : Exa Z h0 x0 "com/example/cistern/cistern/ReservoirSampler") (F_kl_elementData : Fld Z h0 kl "java/util/ArrayList" "elementData" "[Ljava/lang/Object;" (.ref d0)) (F_kl_size : Fld Z h0 kl "java/util/ArrayList" "size" "I" (.int (0 : Int32))) (F_kl_modCount : Fld Z h0 kl "java/util/AbstractList" "modCount" "I" (.int (0 : Int32))) (E_kl : Exa Z h0 kl "java/util/ArrayList") (F_gr_state : Fld Z h0 gr "com/example/cistern/cistern/SplitMix64" "state" "J" (.long u)) (E_gr : Exa Z h0 gr "com/example/cistern/cistern/SplitMix64") (g_x0 : n0 ≤ x0) (g_kl : n0 ≤ kl) (g_gr : n0 ≤ gr) (S0 : Sta Z Z.heap "java/util/ArrayList" "DEFAULTCAPACITY_EMPTY_ELEMENTDATA" "[Ljava/lang/Object;" (.ref d0)) (A0 : AV Z Z.heap d0 (.object "java/lang/Object") []) (O_old : Old Z n0 h0) (hlt : (0 : Int32) < cp) (hcp : ¬ (1 : Int32) = cp) (hlt2 : (1 : Int32) < cp) (hcp2 : ¬ (2 : Int32) = cp) :
    Ctr l (⟨"com/example/cistern/cistern/ReservoirSamplerSkippablePinLaw", "offerTimes", "(Lcom/example/cistern/cistern/ReservoirSampler;I)V"⟩ : MethodName) method_2_code 2 none ws ({ frames := 7, cells := 3, slots := 14, locals := 95 } : Room) Z #[(.ref x0), (.int (2 : Int32))] h0 (fun v h L => v = none ∧ Fr n0 L ∧ Keep h0 h [x0, kl, gr] ∧ Fld Z h x0 "com/example/cistern/cistern/ReservoirSampler" "kept" "Ljava/util/List;" (.ref kl) ∧ Fld Z h x0 "com/example/cistern/cistern/ReservoirSampler" "capacity" "I" (.int cp) ∧ Fld Z h x0 "com/example/cistern/cistern/ReservoirSampler" "random" "Lcom/example/cistern/cistern/SplitMix64;" (.ref gr) ∧ Fld Z h x0 "com/example/cistern/cistern/ReservoirSampler" "passOver" "J" (.long po) ∧ Fld Z h x0 "com/example/cistern/cistern/ReservoirSampler" "offered" "J" (.long (2 : Int64))) 3 14 := by
  refine Ctr.mk pn_10 ?_
  intro p e s m below meth c T hx hby hml hown hnm hlk hret hZ X eT
  have N := Fr.nil n0
  refine enter (ef_10 m x0 (2 : Int32)) ?_
  have K := Keep.refl h0 [x0, kl, gr]
  have ne_x0_kl := ne_exa E_x0 E_kl (by decide)
  have ne_x0_gr := ne_exa E_x0 E_gr (by decide)
  have ne_kl_gr := ne_exa E_kl E_gr (by decide)
  refine s_iloadN X hx (hb hby d10_0) rfl (q := 1) rfl ?_
  refine s_iconst X hx (z := (1 : Int32)) (hb hby d10_1) rfl (q := 2) rfl ?_
  refine f_icmp_lt X hx (hb hby d10_2) (q1 := 10) (by decide) (by decide) (q := 5) rfl (fun hq => absurd hq (by decide : ¬ (2 : Int32) < (1 : Int32))) (fun _ => ?_)
  refine s_aloadN X hx (hb hby d10_5) rfl rfl (q := 6) rfl ?_
  refine s_aconst_null X hx (hb hby d10_6) (q := 7) rfl ?_
  refine callV X hx hZ hown (W := 0) (argsL := [.null]) (rest := []) (hw _ (List.mem_of_getElem? (i := 74) rfl)) (hw _ (List.mem_of_getElem? (i := 75) rfl)) (hw _ (List.mem_of_getElem? (i := 77) rfl)) (hw _ (List.mem_of_getElem? (i := 76) rfl)) (hw _ (List.mem_of_getElem? (i := 2) rfl)) (hw _ (List.mem_of_getElem? (i := 78) rfl)) (by decide) E_x0 (rm11_f0 l Z a0 hw [] x0 kl gr cp po u d0 h0 n0 sz F_x0_kept F_x0_capacity F_x0_random F_x0_passOver F_x0_offered E_x0 F_kl_elementData F_kl_size F_kl_modCount E_kl F_gr_state E_gr g_x0 g_kl g_gr S0 A0 O_old hlt hcp) eT (by decide) (by decide) (by decide) (by decide) (by rw [hml]; rfl) pd16 rfl rfl (Nat.le_of_ble_eq_true rfl) (hb hby d10_7) (q := 10) rfl ?_
  intro v T Lc hQ X
  obtain ⟨h1, eT⟩ : ∃ z, T.heap = z := ⟨_, rfl⟩
  rw [eT] at hQ
  obtain ⟨dd, k0, u2, rfl, N', K', F_x0_kept', F_x0_capacity', F_x0_random', F_x0_passOver', F_x0_offered', F_kl_elementData', F_kl_size', F_kl_modCount', A_dd', E_k0', F_gr_state', sq_dd, sq_k0⟩ := hQ
  have N := Fr.app N N'
  have g_dd : n0 ≤ dd := Nat.le_trans sz sq_dd
  have sk_dd : h0.size ≤ dd := Nat.le_trans K.1 sq_dd
  have ne_x0_dd : x0 ≠ dd := Nat.ne_of_lt (Nat.lt_of_lt_of_le E_x0.lt sq_dd)
  have ne_kl_dd : kl ≠ dd := Nat.ne_of_lt (Nat.lt_of_lt_of_le E_kl.lt sq_dd)
  have ne_gr_dd : gr ≠ dd := Nat.ne_of_lt (Nat.lt_of_lt_of_le E_gr.lt sq_dd)
  have g_k0 : n0 ≤ k0 := Nat.le_trans sz sq_k0
  have sk_k0 : h0.size ≤ k0 := Nat.le_trans K.1 sq_k0
  have ne_x0_k0 : x0 ≠ k0 := Nat.ne_of_lt (Nat.lt_of_lt_of_le E_x0.lt sq_k0)
  have ne_kl_k0 : kl ≠ k0 := Nat.ne_of_lt (Nat.lt_of_lt_of_le E_kl.lt sq_k0)
  have ne_gr_k0 : gr ≠ k0 := Nat.ne_of_lt (Nat.lt_of_lt_of_le E_gr.lt sq_k0)
  have E_x0 := E_x0.keep K'
  have E_kl := E_kl.keep K'
  have E_gr := E_gr.keep K'
  have O_old := O_old.keep K' (allS g_x0 (allS g_kl (allS g_gr all0)))
  have sz : n0 ≤ h1.size := Nat.le_trans sz K'.1
  have K := K.trans K' (allS (Or.inl (List.mem_of_getElem? (i := 0) rfl)) (allS (Or.inl (List.mem_of_getElem? (i := 1) rfl)) (allS (Or.inl (List.mem_of_getElem? (i := 2) rfl)) all0)))
  have F_x0_kept : Fld Z h1 x0 "com/example/cistern/cistern/ReservoirSampler" "kept" "Ljava/util/List;" (.ref kl) := F_x0_kept'
  have F_x0_capacity : Fld Z h1 x0 "com/example/cistern/cistern/ReservoirSampler" "capacity" "I" (.int cp) := F_x0_capacity'
  have F_x0_random : Fld Z h1 x0 "com/example/cistern/cistern/ReservoirSampler" "random" "Lcom/example/cistern/cistern/SplitMix64;" (.ref gr) := F_x0_random'
  have F_x0_passOver : Fld Z h1 x0 "com/example/cistern/cistern/ReservoirSampler" "passOver" "J" (.long po) := F_x0_passOver'
  have F_x0_offered : Fld Z h1 x0 "com/example/cistern/cistern/ReservoirSampler" "offered" "J" (.long (1 : Int64)) := F_x0_offered'
  have F_kl_elementData : Fld Z h1 kl "java/util/ArrayList" "elementData" "[Ljava/lang/Object;" (.ref dd) := F_kl_elementData'
  have F_kl_size : Fld Z h1 kl "java/util/ArrayList" "size" "I" (.int (1 : Int32)) := F_kl_size'
  have F_kl_modCount : Fld Z h1 kl "java/util/AbstractList" "modCount" "I" (.int (1 : Int32)) := F_kl_modCount'
  have A_dd : AO Z h1 dd [(.ref k0), .null, .null, .null, .null, .null, .null, .null, .null, .null] := A_dd'
  have E_k0 : Exa Z h1 k0 "com/example/cistern/cistern/ReservoirSampler$Kept" := E_k0'
  have F_gr_state : Fld Z h1 gr "com/example/cistern/cistern/SplitMix64" "state" "J" (.long u2) := F_gr_state'
  have ne_k0_dd := own_neA E_k0 (hw _ (List.mem_of_getElem? (i := 106) rfl)) A_dd
  refine s_iloadN X hx (hb hby d10_10) rfl (q := 11) rfl ?_
  refine s_iconst X hx (z := (2 : Int32)) (hb hby d10_11) rfl (q := 12) rfl ?_
  refine f_icmp_lt X hx (hb hby d10_12) (q1 := 20) (by decide) (by decide) (q := 15) rfl (fun hq => absurd hq (by decide : ¬ (2 : Int32) < (2 : Int32))) (fun _ => ?_)
  refine s_aloadN X hx (hb hby d10_15) rfl rfl (q := 16) rfl ?_
  refine s_aconst_null X hx (hb hby d10_16) (q := 17) rfl ?_
  refine callV X hx hZ hown (W := 0) (argsL := [.null]) (rest := []) (hw _ (List.mem_of_getElem? (i := 74) rfl)) (hw _ (List.mem_of_getElem? (i := 75) rfl)) (hw _ (List.mem_of_getElem? (i := 77) rfl)) (hw _ (List.mem_of_getElem? (i := 76) rfl)) (hw _ (List.mem_of_getElem? (i := 2) rfl)) (hw _ (List.mem_of_getElem? (i := 78) rfl)) (by decide) E_x0 (rm11_f1 l Z a0 hw [] x0 kl gr cp po u2 dd k0 h1 n0 sz F_x0_kept F_x0_capacity F_x0_random F_x0_passOver F_x0_offered E_x0 F_kl_elementData F_kl_size F_kl_modCount E_kl F_gr_state E_gr A_dd E_k0 g_x0 g_kl g_gr g_dd g_k0 hlt2 hcp2) eT (by decide) (by decide) (by decide) (by decide) (by rw [hml]; rfl) pd16 rfl rfl (Nat.le_of_ble_eq_true rfl) (hb hby d10_17) (q := 20) rfl ?_
  intro v T Lc hQ X
  obtain ⟨h2, eT⟩ : ∃ z, T.heap = z := ⟨_, rfl⟩
  rw [eT] at hQ
  obtain ⟨rfl, N', K', F_x0_kept', F_x0_capacity', F_x0_random', F_x0_passOver', F_x0_offered'⟩ := hQ
  have N := Fr.app N N'
  have E_x0 := E_x0.keep K'
  have E_kl := E_kl.keep K'
  have E_gr := E_gr.keep K'
  have O_old := O_old.keep K' (allS g_x0 (allS g_kl (allS g_gr (allS g_dd all0))))
  have E_k0 := E_k0.keep K'
  have sz : n0 ≤ h2.size := Nat.le_trans sz K'.1
  have K := K.trans K' (allS (Or.inl (List.mem_of_getElem? (i := 0) rfl)) (allS (Or.inl (List.mem_of_getElem? (i := 1) rfl)) (allS (Or.inl (List.mem_of_getElem? (i := 2) rfl)) (allS (Or.inr sk_dd) all0))))
  have F_x0_kept : Fld Z h2 x0 "com/example/cistern/cistern/ReservoirSampler" "kept" "Ljava/util/List;" (.ref kl) := F_x0_kept'
  have F_x0_capacity : Fld Z h2 x0 "com/example/cistern/cistern/ReservoirSampler" "capacity" "I" (.int cp) := F_x0_capacity'
  have F_x0_random : Fld Z h2 x0 "com/example/cistern/cistern/ReservoirSampler" "random" "Lcom/example/cistern/cistern/SplitMix64;" (.ref gr) := F_x0_random'
  have F_x0_passOver : Fld Z h2 x0 "com/example/cistern/cistern/ReservoirSampler" "passOver" "J" (.long po) := F_x0_passOver'
  have F_x0_offered : Fld Z h2 x0 "com/example/cistern/cistern/ReservoirSampler" "offered" "J" (.long (2 : Int64)) := F_x0_offered'
  refine s_iloadN X hx (hb hby d10_20) rfl (q := 21) rfl ?_
  refine s_iconst X hx (z := (3 : Int32)) (hb hby d10_21) rfl (q := 22) rfl ?_
  refine f_icmp_lt X hx (hb hby d10_22) (q1 := 30) (by decide) (by decide) (q := 25) rfl (fun _ => ?_) (fun hq => absurd (by decide : (2 : Int32) < (3 : Int32)) hq)
  exact leafV X hx hlk hret (hb hby d10_30) (by decide) (by decide) (by rw [eT]; exact ⟨rfl, N, K, F_x0_kept, F_x0_capacity, F_x0_random, F_x0_passOver, F_x0_offered⟩)
theorem own_and3 {x cp : Int32} (h : (x &&& (3 : Int32)) = cp) : cp = 0 ∨ cp = 1 ∨ cp = 2 ∨ cp = 3 := by
  have q := c_and x 3 (by decide)
  rw [h] at q
  have e : (3 : Int32).toInt = 3 := by decide
  rcases (show cp.toInt = 0 ∨ cp.toInt = 1 ∨ cp.toInt = 2 ∨ cp.toInt = 3 by omega) with z | z | z | z
  · exact Or.inl (own_cs 0 (by decide) z)
  · exact Or.inr (Or.inl (own_cs 1 (by decide) z))
  · exact Or.inr (Or.inr (Or.inl (own_cs 2 (by decide) z)))
  · exact Or.inr (Or.inr (Or.inr (own_cs 3 (by decide) z)))
theorem own_fr {x y r : Int64} (h1 : x = r) (h2 : y = r) : F7 x y = r := by
  unfold F7; split
  · exact h2
  · exact h1
theorem own_irr (x : Int64) : ¬ x < x := by rw [Int64.lt_iff_toInt_lt]; omega
theorem own_nmax (x : Int64) : ¬ (9223372036854775807 : Int64) < x := by
  have e : (9223372036854775807 : Int64).toInt = 9223372036854775807 := by decide
  have r := rng64 x
  rw [Int64.lt_iff_toInt_lt]; omega
theorem own_abc {x b k a : Int64} {n : Int} (h : F7 (x &&& (9223372036854775807 : Int64)) b = a) (hb : b.toInt = 9223372036854775807 - n) (hk : k.toInt = n) (hn : 0 ≤ n ∧ n ≤ 3) : ¬ a < 0 ∧ ¬ (((9223372036854775807 : Int64) - a) - k) < 0 ∧ (0 ≤ a.toInt ∧ a.toInt + n ≤ 9223372036854775807 ∧ n ≤ ((9223372036854775807 : Int64) - a).toInt) := by
  have ha : 0 ≤ a.toInt ∧ a.toInt ≤ 9223372036854775807 - n := by
    have q := (c_andSL x 9223372036854775807).2.2 (by decide)
    unfold F7 at h
    generalize (x &&& (9223372036854775807 : Int64)) = y at *
    split at h
    · rw [← h]; omega
    · rename_i hl
      rw [Int64.lt_iff_toInt_lt] at hl
      rw [← h]; omega
  have eM : (9223372036854775807 : Int64).toInt = 9223372036854775807 := by decide
  have a1 := c_lsub 9223372036854775807 a
  have r1 := rng64 ((9223372036854775807 : Int64) - a)
  have a2 := c_lsub ((9223372036854775807 : Int64) - a) k
  have r2 := rng64 (((9223372036854775807 : Int64) - a) - k)
  rw [eM] at a1
  rw [hk] at a2
  have e0 : (0 : Int64).toInt = 0 := by decide
  rw [Int64.lt_iff_toInt_lt, Int64.lt_iff_toInt_lt, e0]
  clear e0 eM h
  generalize (((9223372036854775807 : Int64) - a) - k).toInt = z2 at *
  generalize ((9223372036854775807 : Int64) - a).toInt = z1 at *
  generalize a.toInt = za at *
  refine ⟨by omega, by omega, by omega, by omega, by omega⟩
theorem own_len0 {args : Array Value} {first s : State} {o : Option Outcome} {idx : List Nat} {t : Term} (h : (Term.length t).eval args first o idx s = some (.int 0)) : ∃ a cell, t.eval args first o idx s = some (.ref a) ∧ s.arrayAt? a = some cell ∧ cell.slots.size = 0 := by
  obtain ⟨a, cell, e1, e2, -⟩ := Term.length_spec h
  refine ⟨a, cell, e1, e2, ?_⟩
  simp [Term.eval, e1, e2] at h
  obtain ⟨hn, h⟩ := h
  have e := Int32.toInt_inj.mpr h
  have e0 : (0 : Int32).toInt = 0 := by decide
  rw [e0, show cell.slots.size.toInt32 = Int32.ofNat cell.slots.size from rfl, Int32.toInt_ofNat_of_lt (by omega)] at e
  omega
theorem own_d0 {s : State} {args : Array Value} (w2 : (Jvm.Cond.laysStatic "java/util/ArrayList" "DEFAULTCAPACITY_EMPTY_ELEMENTDATA" "[Ljava/lang/Object;").before args s = true) (w6 : (Jvm.Cond.arrayOf (Jvm.Term.static "java/util/ArrayList" "DEFAULTCAPACITY_EMPTY_ELEMENTDATA" "[Ljava/lang/Object;") (.object "java/lang/Object")).before args s = true) (w8 : (Jvm.Cond.eq (Jvm.Term.length (Jvm.Term.static "java/util/ArrayList" "DEFAULTCAPACITY_EMPTY_ELEMENTDATA" "[Ljava/lang/Object;")) (Jvm.Term.int (0 : Int32))).before args s = true) (wi : (Jvm.Cond.initialized "java/util/ArrayList").before args s = true) : ∃ d0 : Addr, Sta s s.heap "java/util/ArrayList" "DEFAULTCAPACITY_EMPTY_ELEMENTDATA" "[Ljava/lang/Object;" (.ref d0) ∧ AV s s.heap d0 (.object "java/lang/Object") [] := by
  have e := Cond.eq_int (n := 0) (show (Jvm.Cond.eq (Jvm.Term.length (Jvm.Term.static "java/util/ArrayList" "DEFAULTCAPACITY_EMPTY_ELEMENTDATA" "[Ljava/lang/Object;")) (Jvm.Term.int (0 : Int32))).holds args s none s [] = true from w8) rfl
  obtain ⟨a, cell, e1, e2, e3⟩ := own_len0 e
  obtain ⟨c, A⟩ := Arr.start e1 (Cond.before_iff.mp w6)
  have hc : c = cell := Option.some.inj (A.1.symm.trans (State.arrayAt?_spec e2).1)
  subst hc
  exact ⟨a, Sta.start e1 (Or.inr ⟨wi, w2⟩), c, A, List.eq_nil_of_length_eq_zero (by rw [Array.length_toList]; exact e3), by decide⟩
theorem pn_0 : plainFor x = true := plainFor_of_name (by first | (simp [plainName, overriddenIn]; done) | decide +kernel)
theorem ef_0 (m : MethodId) (x0 : Int32) (x1 : Int32) (x2 : Int64) (x3 : Int64) : entryFrame m #[(.int x0), (.int x1), (.long x2), (.long x3)] maxLocals = mkF m 0 #[.val (.int x0), .val (.int x1), .val (.long x2), .second, .val (.long x3), .second, .unset, .unset, .unset, .unset, .unset, .unset, .unset, .unset, .unset] [] := by first | (simp [entryFrame, mkF, argsToLocals, Value.category, maxLocals]; done) | rfl
theorem pd17 : parseMethodDescriptor "(IJ)V" = some ⟨[.int, .long], none⟩ := by decide +kernel
theorem pd18 : parseMethodDescriptor "(Lcom/example/cistern/cistern/ReservoirSampler;I)V" = some ⟨[(.object "com/example/cistern/cistern/ReservoirSampler"), .int], none⟩ := by decide +kernel
def Q0 (h0 : Heap) (n0 : Nat) (v : Option Value) (h : Heap) (L : List Loc) : Prop := v = some (.int 1) ∧ Fr n0 L
set_option maxRecDepth 65536 in
set_option maxHeartbeats 40000000 in
theorem rm0 (l : Launch) (Z : State) (a0 : Array Value) (hw : ∀ d ∈ tables_1, d.before a0 Z = true) (ws : List Jvm.Cond) (x0 : Int32) (x1 : Int32) (x2 : Int64) (x3 : Int64) (h0 : Heap) (n0 : Nat) (sz : n0 ≤ h0.size) (d0 : Addr) (S0 : Sta Z Z.heap "java/util/ArrayList" "DEFAULTCAPACITY_EMPTY_ELEMENTDATA" "[Ljava/lang/Object;" (.ref d0)) (A0 : AV Z Z.heap d0 (.object "java/lang/Object") []) (O_old : Old Z n0 h0) :
    Ctr l x code maxLocals ret ws room_1 Z #[(.int x0), (.int x1), (.long x2), (.long x3)] h0 (Q0 h0 n0) 24 128 := by
  refine Ctr.mk pn_0 ?_
  intro p e s m below meth c T hx hby hml hown hnm hlk hret hZ X eT
  have N := Fr.nil n0
  refine enter (ef_0 m x0 x1 x2 x3) ?_
  refine s_iloadN X hx (hb hby at_0) rfl (q := 1) rfl ?_
  refine s_iconst X hx (z := (3 : Int32)) (hb hby at_1) rfl (q := 2) rfl ?_
  refine s_iand X hx (hb hby at_2) (q := 3) rfl ?_
  generalize hcp : (x0 &&& (3 : Int32)) = cp
  rcases own_and3 hcp with hcase | hcase | hcase | hcase
  · subst hcase
    refine s_istore X hx (hb hby at_3) (L' := #[.val (.int x0), .val (.int x1), .val (.long x2), .second, .val (.long x3), .second, .val (.int (0 : Int32)), .unset, .unset, .unset, .unset, .unset, .unset, .unset, .unset]) rfl (q := 5) rfl ?_
    refine s_iloadN X hx (hb hby at_5) rfl (q := 6) rfl ?_
    refine s_iconst X hx (z := (3 : Int32)) (hb hby at_6) rfl (q := 7) rfl ?_
    refine s_iand X hx (hb hby at_7) (q := 8) rfl ?_
    generalize hkn : (x1 &&& (3 : Int32)) = kn
    rcases own_and3 hkn with hcase | hcase | hcase | hcase
    · subst hcase
      refine s_istore X hx (hb hby at_8) (L' := #[.val (.int x0), .val (.int x1), .val (.long x2), .second, .val (.long x3), .second, .val (.int (0 : Int32)), .val (.int (0 : Int32)), .unset, .unset, .unset, .unset, .unset, .unset, .unset]) rfl (q := 10) rfl ?_
      refine s_new X hx hZ hown (hw _ (List.mem_of_getElem? (i := 0) rfl)) (hw _ (List.mem_of_getElem? (i := 1) rfl)) (hw _ (List.mem_of_getElem? (i := 2) rfl)) eT (by decide) (by decide) (hb hby at_10) (q := 13) rfl ?_
      intro T h2 a1 X eT E ea E_a1' Df
      have O_old := O_old.ext E
      have g_a1 : n0 ≤ a1 := by rw [ea]; exact sz
      have sz : n0 ≤ h2.size := Nat.le_trans sz E.1
      have E_a1 := E_a1'
      have F_a1_kept : Fld Z h2 a1 "com/example/cistern/cistern/ReservoirSampler" "kept" "Ljava/util/List;" .null := Df _ _ _ (.object "java/util/List") (Or.inr (hw _ (List.mem_of_getElem? (i := 34) rfl))) (by decide)
      have F_a1_capacity : Fld Z h2 a1 "com/example/cistern/cistern/ReservoirSampler" "capacity" "I" (.int (0 : Int32)) := Df _ _ _ .int (Or.inr (hw _ (List.mem_of_getElem? (i := 36) rfl))) (by decide)
      have F_a1_random : Fld Z h2 a1 "com/example/cistern/cistern/ReservoirSampler" "random" "Lcom/example/cistern/cistern/SplitMix64;" .null := Df _ _ _ (.object "com/example/cistern/cistern/SplitMix64") (Or.inr (hw _ (List.mem_of_getElem? (i := 47) rfl))) (by decide)
      have F_a1_passOver : Fld Z h2 a1 "com/example/cistern/cistern/ReservoirSampler" "passOver" "J" (.long (0 : Int64)) := Df _ _ _ .long (Or.inl (hw _ (List.mem_of_getElem? (i := 50) rfl))) (by decide)
      have F_a1_offered : Fld Z h2 a1 "com/example/cistern/cistern/ReservoirSampler" "offered" "J" (.long (0 : Int64)) := Df _ _ _ .long (Or.inl (hw _ (List.mem_of_getElem? (i := 62) rfl))) (by decide)
      refine s_dup X hx (hb hby at_13) rfl (q := 14) rfl ?_
      refine s_iload X hx (hb hby at_14) rfl (q := 16) rfl ?_
      refine s_lload X hx (hb hby at_16) rfl (q := 18) rfl ?_
      refine callI X hx hZ hown (W := 1) (argsL := [(.int (0 : Int32)), (.long x3)]) (rest := [(.ref a1)]) rfl (hw _ (List.mem_of_getElem? (i := 3) rfl)) (hw _ (List.mem_of_getElem? (i := 4) rfl)) (hw _ (List.mem_of_getElem? (i := 2) rfl)) (hw _ (List.mem_of_getElem? (i := 5) rfl)) (by decide) (rm1_0 l Z a0 hw [] a1 x3 d0 h2 n0 sz F_a1_kept F_a1_capacity F_a1_random F_a1_passOver F_a1_offered E_a1 g_a1 S0 A0 O_old) eT (by decide) (by decide) (by decide) (by decide) (by rw [hml]; rfl) pd17 rfl rfl (Nat.le_of_ble_eq_true rfl) (hb hby at_18) (q := 21) rfl ?_
      intro v T Lc hQ X
      obtain ⟨h3, eT⟩ : ∃ z, T.heap = z := ⟨_, rfl⟩
      rw [eT] at hQ
      obtain ⟨kl, gr, rfl, N', K', F_a1_kept', F_a1_capacity', F_a1_random', F_a1_passOver', F_a1_offered', F_kl_elementData', F_kl_size', F_kl_modCount', E_kl', F_gr_state', E_gr', sq_kl, sq_gr⟩ := hQ
      have N := Fr.app N N'
      have g_kl : n0 ≤ kl := Nat.le_trans sz sq_kl
      have ne_a1_kl : a1 ≠ kl := Nat.ne_of_lt (Nat.lt_of_lt_of_le E_a1.lt sq_kl)
      have g_gr : n0 ≤ gr := Nat.le_trans sz sq_gr
      have ne_a1_gr : a1 ≠ gr := Nat.ne_of_lt (Nat.lt_of_lt_of_le E_a1.lt sq_gr)
      have O_old := O_old.keep K' (allS g_a1 all0)
      have E_a1 := E_a1.keep K'
      have sz : n0 ≤ h3.size := Nat.le_trans sz K'.1
      have F_a1_kept : Fld Z h3 a1 "com/example/cistern/cistern/ReservoirSampler" "kept" "Ljava/util/List;" (.ref kl) := F_a1_kept'
      have F_a1_capacity : Fld Z h3 a1 "com/example/cistern/cistern/ReservoirSampler" "capacity" "I" (.int (0 : Int32)) := F_a1_capacity'
      have F_a1_random : Fld Z h3 a1 "com/example/cistern/cistern/ReservoirSampler" "random" "Lcom/example/cistern/cistern/SplitMix64;" (.ref gr) := F_a1_random'
      have F_a1_passOver : Fld Z h3 a1 "com/example/cistern/cistern/ReservoirSampler" "passOver" "J" (.long (9223372036854775807 : Int64)) := F_a1_passOver'
      have F_a1_offered : Fld Z h3 a1 "com/example/cistern/cistern/ReservoirSampler" "offered" "J" (.long (0 : Int64)) := F_a1_offered'
      have F_kl_elementData : Fld Z h3 kl "java/util/ArrayList" "elementData" "[Ljava/lang/Object;" (.ref d0) := F_kl_elementData'
      have F_kl_size : Fld Z h3 kl "java/util/ArrayList" "size" "I" (.int (0 : Int32)) := F_kl_size'
      have F_kl_modCount : Fld Z h3 kl "java/util/AbstractList" "modCount" "I" (.int (0 : Int32)) := F_kl_modCount'
      have E_kl : Exa Z h3 kl "java/util/ArrayList" := E_kl'
      have F_gr_state : Fld Z h3 gr "com/example/cistern/cistern/SplitMix64" "state" "J" (.long x3) := F_gr_state'
      have E_gr : Exa Z h3 gr "com/example/cistern/cistern/SplitMix64" := E_gr'
      have ne_kl_gr := ne_exa E_kl E_gr (by decide)
      refine s_astore X hx (hb hby at_21) rfl (L' := #[.val (.int x0), .val (.int x1), .val (.long x2), .second, .val (.long x3), .second, .val (.int (0 : Int32)), .val (.int (0 : Int32)), .val (.ref a1), .unset, .unset, .unset, .unset, .unset, .unset]) rfl (q := 23) rfl ?_
      refine s_iload X hx (hb hby at_23) rfl (q := 25) rfl ?_
      refine f_if_ne X hx (hb hby at_25) (q1 := 163) (by decide) (by decide) (q := 28) rfl (fun hq => absurd (by decide : (0 : Int32) = 0) hq) (fun _ => ?_)
      refine s_lloadN X hx (hb hby at_28) rfl (q := 29) rfl ?_
      refine s_ldc2 X hx hZ hown (hw _ (List.mem_of_getElem? (i := 51) rfl)) (hb hby at_29) (q := 32) rfl ?_
      refine s_land X hx (hb hby at_32) (q := 33) rfl ?_
      refine s_ldc2 X hx hZ hown (hw _ (List.mem_of_getElem? (i := 51) rfl)) (hb hby at_33) (q := 36) rfl ?_
      refine s_iload X hx (hb hby at_36) rfl (q := 38) rfl ?_
      refine s_i2l X hx (hb hby at_38) (q := 39) rfl ?_
      show Go p e below _ T m 39 #[.val (.int x0), .val (.int x1), .val (.long x2), .second, .val (.long x3), .second, .val (.int (0 : Int32)), .val (.int (0 : Int32)), .val (.ref a1), .unset, .unset, .unset, .unset, .unset, .unset] [(.long (0 : Int64)), (.long (9223372036854775807 : Int64)), (.long (x2 &&& (9223372036854775807 : Int64)))]
      refine s_lsub X hx (hb hby at_39) (q := 40) rfl ?_
      show Go p e below _ T m 40 #[.val (.int x0), .val (.int x1), .val (.long x2), .second, .val (.long x3), .second, .val (.int (0 : Int32)), .val (.int (0 : Int32)), .val (.ref a1), .unset, .unset, .unset, .unset, .unset, .unset] [(.long (9223372036854775807 : Int64)), (.long (x2 &&& (9223372036854775807 : Int64)))]
      refine callP X hx hZ hown (W := 0) (argsL := [(.long (x2 &&& (9223372036854775807 : Int64))), (.long (9223372036854775807 : Int64))]) (rest := []) (hw _ (List.mem_of_getElem? (i := 52) rfl)) (hw _ (List.mem_of_getElem? (i := 53) rfl)) (hw _ (List.mem_of_getElem? (i := 54) rfl)) (hw _ (List.mem_of_getElem? (i := 55) rfl)) (by decide) (rm7 l Z a0 hw [] (x2 &&& (9223372036854775807 : Int64)) (9223372036854775807 : Int64) h3) rfl rfl eT (by decide) (by decide) (by decide) (by decide) (by rw [hml]; rfl) pd4 rfl rfl (Nat.le_of_ble_eq_true rfl) (hb hby at_40) (q := 43) rfl ?_
      intro T X eT
      generalize ha : (F7 (x2 &&& (9223372036854775807 : Int64)) (9223372036854775807 : Int64)) = a
      refine s_lstore X hx (hb hby at_43) (L' := #[.val (.int x0), .val (.int x1), .val (.long x2), .second, .val (.long x3), .second, .val (.int (0 : Int32)), .val (.int (0 : Int32)), .val (.ref a1), .val (.long a), .second, .unset, .unset, .unset, .unset]) rfl (q := 45) rfl ?_
      obtain ⟨ha0, hE0, hbo⟩ := own_abc (k := (0 : Int64)) (n := 0) ha (by decide) (by decide) (by decide)
      refine s_aload X hx (hb hby at_45) rfl rfl (q := 47) rfl ?_
      refine callV X hx hZ hown (W := 0) (argsL := []) (rest := []) (hw _ (List.mem_of_getElem? (i := 56) rfl)) (hw _ (List.mem_of_getElem? (i := 57) rfl)) (hw _ (List.mem_of_getElem? (i := 59) rfl)) (hw _ (List.mem_of_getElem? (i := 58) rfl)) (hw _ (List.mem_of_getElem? (i := 2) rfl)) (hw _ (List.mem_of_getElem? (i := 60) rfl)) (by decide) E_a1 (rm8 l Z a0 hw [] a1 (9223372036854775807 : Int64) (0 : Int64) (9223372036854775807 : Int64) h3 n0 sz F_a1_passOver F_a1_offered E_a1 (by decide +kernel)) eT (by decide) (by decide) (by decide) (by decide) (by rw [hml]; rfl) pd1 rfl rfl (Nat.le_of_ble_eq_true rfl) (hb hby at_47) (q := 50) rfl ?_
      intro v T Lc hQ X
      obtain ⟨rfl, eT, N'⟩ := hQ
      have N := Fr.app N N'
      refine s_ldc2 X hx hZ hown (hw _ (List.mem_of_getElem? (i := 51) rfl)) (hb hby at_50) (q := 53) rfl ?_
      refine s_lcmp X hx (hb hby at_53) (q := 54) rfl ?_
      refine f_lcmp_eq X hx (hb hby at_54) (q1 := 59) (by decide) (by decide) (q := 57) rfl (fun _ => ?_) (fun hq => absurd (rfl : (9223372036854775807 : Int64) = (9223372036854775807 : Int64)) hq)
      refine s_aload X hx (hb hby at_59) rfl rfl (q := 61) rfl ?_
      refine s_lload X hx (hb hby at_61) rfl (q := 63) rfl ?_
      refine callV X hx hZ hown (W := 0) (argsL := [(.long a)]) (rest := []) (hw _ (List.mem_of_getElem? (i := 64) rfl)) (hw _ (List.mem_of_getElem? (i := 65) rfl)) (hw _ (List.mem_of_getElem? (i := 67) rfl)) (hw _ (List.mem_of_getElem? (i := 66) rfl)) (hw _ (List.mem_of_getElem? (i := 2) rfl)) (hw _ (List.mem_of_getElem? (i := 68) rfl)) (by decide) E_a1 (rm9 l Z a0 hw [] a1 a kl gr (0 : Int32) (9223372036854775807 : Int64) (0 : Int64) (9223372036854775807 : Int64) ((9223372036854775807 : Int64) - a) a h3 n0 sz F_a1_kept F_a1_capacity F_a1_random F_a1_passOver F_a1_offered E_a1 g_a1 (by decide +kernel) ha0 (own_nmax a) rfl (Int64.zero_add a)) eT (by decide) (by decide) (by decide) (by decide) (by rw [hml]; rfl) pd3 rfl rfl (Nat.le_of_ble_eq_true rfl) (hb hby at_63) (q := 66) rfl ?_
      intro v T Lc hQ X
      obtain ⟨h4, eT⟩ : ∃ z, T.heap = z := ⟨_, rfl⟩
      rw [eT] at hQ
      obtain ⟨rfl, N', K', F_a1_kept', F_a1_capacity', F_a1_random', F_a1_passOver', F_a1_offered'⟩ := hQ
      have N := Fr.app N N'
      have O_old := O_old.keep K' (allS g_a1 all0)
      have E_a1 := E_a1.keep K'
      have E_kl := E_kl.keep K'
      have F_kl_elementData := F_kl_elementData.keep K' (ninS (Ne.symm ne_a1_kl) nin0)
      have F_kl_size := F_kl_size.keep K' (ninS (Ne.symm ne_a1_kl) nin0)
      have F_kl_modCount := F_kl_modCount.keep K' (ninS (Ne.symm ne_a1_kl) nin0)
      have E_gr := E_gr.keep K'
      have F_gr_state := F_gr_state.keep K' (ninS (Ne.symm ne_a1_gr) nin0)
      have sz : n0 ≤ h4.size := Nat.le_trans sz K'.1
      have F_a1_kept : Fld Z h4 a1 "com/example/cistern/cistern/ReservoirSampler" "kept" "Ljava/util/List;" (.ref kl) := F_a1_kept'
      have F_a1_capacity : Fld Z h4 a1 "com/example/cistern/cistern/ReservoirSampler" "capacity" "I" (.int (0 : Int32)) := F_a1_capacity'
      have F_a1_random : Fld Z h4 a1 "com/example/cistern/cistern/ReservoirSampler" "random" "Lcom/example/cistern/cistern/SplitMix64;" (.ref gr) := F_a1_random'
      have F_a1_passOver : Fld Z h4 a1 "com/example/cistern/cistern/ReservoirSampler" "passOver" "J" (.long ((9223372036854775807 : Int64) - a)) := F_a1_passOver'
      have F_a1_offered : Fld Z h4 a1 "com/example/cistern/cistern/ReservoirSampler" "offered" "J" (.long a) := F_a1_offered'
      refine s_aload X hx (hb hby at_66) rfl rfl (q := 68) rfl ?_
      refine s_iload X hx (hb hby at_68) rfl (q := 70) rfl ?_
      refine callC X hx hZ hown (W := 0) (argsL := [(.ref a1), (.int (0 : Int32))]) (rest := []) (hw _ (List.mem_of_getElem? (i := 70) rfl)) (hw _ (List.mem_of_getElem? (i := 71) rfl)) (hw _ (List.mem_of_getElem? (i := 72) rfl)) (hw _ (List.mem_of_getElem? (i := 73) rfl)) (by decide) (rm10_p0 l Z a0 hw [] a1 kl gr ((9223372036854775807 : Int64) - a) a (((9223372036854775807 : Int64) - a) - (0 : Int64)) (a + (0 : Int64)) h4 n0 sz F_a1_kept F_a1_capacity F_a1_random F_a1_passOver F_a1_offered E_a1 F_kl_size E_kl g_a1 g_kl hbo (by grind) (by grind)) eT (by decide) (by decide) (by decide) (by decide) (by rw [hml]; rfl) pd18 rfl rfl (Nat.le_of_ble_eq_true rfl) (hb hby at_70) (q := 73) rfl ?_
      intro v T Lc hQ X
      obtain ⟨h5, eT⟩ : ∃ z, T.heap = z := ⟨_, rfl⟩
      rw [eT] at hQ
      obtain ⟨rfl, N', K', F_a1_kept', F_a1_capacity', F_a1_random', F_a1_passOver', F_a1_offered'⟩ := hQ
      have N := Fr.app N N'
      have O_old := O_old.keep K' (allS g_a1 all0)
      have E_a1 := E_a1.keep K'
      have E_kl := E_kl.keep K'
      have F_kl_elementData := F_kl_elementData.keep K' (ninS (Ne.symm ne_a1_kl) nin0)
      have F_kl_size := F_kl_size.keep K' (ninS (Ne.symm ne_a1_kl) nin0)
      have F_kl_modCount := F_kl_modCount.keep K' (ninS (Ne.symm ne_a1_kl) nin0)
      have E_gr := E_gr.keep K'
      have F_gr_state := F_gr_state.keep K' (ninS (Ne.symm ne_a1_gr) nin0)
      have sz : n0 ≤ h5.size := Nat.le_trans sz K'.1
      have F_a1_kept : Fld Z h5 a1 "com/example/cistern/cistern/ReservoirSampler" "kept" "Ljava/util/List;" (.ref kl) := F_a1_kept'
      have F_a1_capacity : Fld Z h5 a1 "com/example/cistern/cistern/ReservoirSampler" "capacity" "I" (.int (0 : Int32)) := F_a1_capacity'
      have F_a1_random : Fld Z h5 a1 "com/example/cistern/cistern/ReservoirSampler" "random" "Lcom/example/cistern/cistern/SplitMix64;" (.ref gr) := F_a1_random'
      have F_a1_passOver : Fld Z h5 a1 "com/example/cistern/cistern/ReservoirSampler" "passOver" "J" (.long (((9223372036854775807 : Int64) - a) - (0 : Int64))) := F_a1_passOver'
      have F_a1_offered : Fld Z h5 a1 "com/example/cistern/cistern/ReservoirSampler" "offered" "J" (.long (a + (0 : Int64))) := F_a1_offered'
      refine s_aload X hx (hb hby at_73) rfl rfl (q := 75) rfl ?_
      refine callV X hx hZ hown (W := 0) (argsL := []) (rest := []) (hw _ (List.mem_of_getElem? (i := 56) rfl)) (hw _ (List.mem_of_getElem? (i := 57) rfl)) (hw _ (List.mem_of_getElem? (i := 59) rfl)) (hw _ (List.mem_of_getElem? (i := 58) rfl)) (hw _ (List.mem_of_getElem? (i := 2) rfl)) (hw _ (List.mem_of_getElem? (i := 60) rfl)) (by decide) E_a1 (rm8 l Z a0 hw [] a1 (((9223372036854775807 : Int64) - a) - (0 : Int64)) (a + (0 : Int64)) (((9223372036854775807 : Int64) - a) - (0 : Int64)) h5 n0 sz F_a1_passOver F_a1_offered E_a1 (own_fr rfl (by grind))) eT (by decide) (by decide) (by decide) (by decide) (by rw [hml]; rfl) pd1 rfl rfl (Nat.le_of_ble_eq_true rfl) (hb hby at_75) (q := 78) rfl ?_
      intro v T Lc hQ X
      obtain ⟨rfl, eT, N'⟩ := hQ
      have N := Fr.app N N'
      refine s_lstore X hx (hb hby at_78) (L' := #[.val (.int x0), .val (.int x1), .val (.long x2), .second, .val (.long x3), .second, .val (.int (0 : Int32)), .val (.int (0 : Int32)), .val (.ref a1), .val (.long a), .second, .val (.long (((9223372036854775807 : Int64) - a) - (0 : Int64))), .second, .unset, .unset]) rfl (q := 80) rfl ?_
      refine s_ldc2 X hx hZ hown (hw _ (List.mem_of_getElem? (i := 51) rfl)) (hb hby at_80) (q := 83) rfl ?_
      refine s_lload X hx (hb hby at_83) rfl (q := 85) rfl ?_
      refine s_lsub X hx (hb hby at_85) (q := 86) rfl ?_
      refine s_iload X hx (hb hby at_86) rfl (q := 88) rfl ?_
      refine s_i2l X hx (hb hby at_88) (q := 89) rfl ?_
      show Go p e below _ T m 89 #[.val (.int x0), .val (.int x1), .val (.long x2), .second, .val (.long x3), .second, .val (.int (0 : Int32)), .val (.int (0 : Int32)), .val (.ref a1), .val (.long a), .second, .val (.long (((9223372036854775807 : Int64) - a) - (0 : Int64))), .second, .unset, .unset] [(.long (0 : Int64)), (.long ((9223372036854775807 : Int64) - a))]
      refine s_lsub X hx (hb hby at_89) (q := 90) rfl ?_
      refine s_lstore X hx (hb hby at_90) (L' := #[.val (.int x0), .val (.int x1), .val (.long x2), .second, .val (.long x3), .second, .val (.int (0 : Int32)), .val (.int (0 : Int32)), .val (.ref a1), .val (.long a), .second, .val (.long (((9223372036854775807 : Int64) - a) - (0 : Int64))), .second, .val (.long (((9223372036854775807 : Int64) - a) - (0 : Int64))), .second]) rfl (q := 92) rfl ?_
      refine s_lload X hx (hb hby at_92) rfl (q := 94) rfl ?_
      refine s_lload X hx (hb hby at_94) rfl (q := 96) rfl ?_
      refine s_lcmp X hx (hb hby at_96) (q := 97) rfl ?_
      refine f_lcmp_ne X hx (hb hby at_97) (q1 := 126) (by decide) (by decide) (q := 100) rfl (fun hq => absurd (rfl : (((9223372036854775807 : Int64) - a) - (0 : Int64)) = (((9223372036854775807 : Int64) - a) - (0 : Int64))) hq) (fun _ => ?_)
      refine s_aload X hx (hb hby at_100) rfl rfl (q := 102) rfl ?_
      refine callV X hx hZ hown (W := 0) (argsL := []) (rest := []) (hw _ (List.mem_of_getElem? (i := 56) rfl)) (hw _ (List.mem_of_getElem? (i := 57) rfl)) (hw _ (List.mem_of_getElem? (i := 59) rfl)) (hw _ (List.mem_of_getElem? (i := 58) rfl)) (hw _ (List.mem_of_getElem? (i := 2) rfl)) (hw _ (List.mem_of_getElem? (i := 60) rfl)) (by decide) E_a1 (rm8 l Z a0 hw [] a1 (((9223372036854775807 : Int64) - a) - (0 : Int64)) (a + (0 : Int64)) (((9223372036854775807 : Int64) - a) - (0 : Int64)) h5 n0 sz F_a1_passOver F_a1_offered E_a1 (own_fr rfl (by grind))) eT (by decide) (by decide) (by decide) (by decide) (by rw [hml]; rfl) pd1 rfl rfl (Nat.le_of_ble_eq_true rfl) (hb hby at_102) (q := 105) rfl ?_
      intro v T Lc hQ X
      obtain ⟨rfl, eT, N'⟩ := hQ
      have N := Fr.app N N'
      refine s_lload X hx (hb hby at_105) rfl (q := 107) rfl ?_
      refine s_lcmp X hx (hb hby at_107) (q := 108) rfl ?_
      refine f_lcmp_ne X hx (hb hby at_108) (q1 := 126) (by decide) (by decide) (q := 111) rfl (fun hq => absurd (rfl : (((9223372036854775807 : Int64) - a) - (0 : Int64)) = (((9223372036854775807 : Int64) - a) - (0 : Int64))) hq) (fun _ => ?_)
      refine s_aload X hx (hb hby at_111) rfl rfl (q := 113) rfl ?_
      refine callV X hx hZ hown (W := 0) (argsL := []) (rest := []) (hw _ (List.mem_of_getElem? (i := 93) rfl)) (hw _ (List.mem_of_getElem? (i := 94) rfl)) (hw _ (List.mem_of_getElem? (i := 96) rfl)) (hw _ (List.mem_of_getElem? (i := 95) rfl)) (hw _ (List.mem_of_getElem? (i := 2) rfl)) (hw _ (List.mem_of_getElem? (i := 97) rfl)) (by decide) E_a1 (rm14 l Z a0 hw [] a1 (a + (0 : Int64)) h5 n0 sz F_a1_offered E_a1) eT (by decide) (by decide) (by decide) (by decide) (by rw [hml]; rfl) pd1 rfl rfl (Nat.le_of_ble_eq_true rfl) (hb hby at_113) (q := 116) rfl ?_
      intro v T Lc hQ X
      obtain ⟨rfl, eT, N'⟩ := hQ
      have N := Fr.app N N'
      refine s_lload X hx (hb hby at_116) rfl (q := 118) rfl ?_
      refine s_iload X hx (hb hby at_118) rfl (q := 120) rfl ?_
      refine s_i2l X hx (hb hby at_120) (q := 121) rfl ?_
      show Go p e below _ T m 121 #[.val (.int x0), .val (.int x1), .val (.long x2), .second, .val (.long x3), .second, .val (.int (0 : Int32)), .val (.int (0 : Int32)), .val (.ref a1), .val (.long a), .second, .val (.long (((9223372036854775807 : Int64) - a) - (0 : Int64))), .second, .val (.long (((9223372036854775807 : Int64) - a) - (0 : Int64))), .second] [(.long (0 : Int64)), (.long a), (.long (a + (0 : Int64)))]
      refine s_ladd X hx (hb hby at_121) (q := 122) rfl ?_
      refine s_lcmp X hx (hb hby at_122) (q := 123) rfl ?_
      refine f_lcmp_eq X hx (hb hby at_123) (q1 := 128) (by decide) (by decide) (q := 126) rfl (fun _ => ?_) (fun hq => absurd (rfl : (a + (0 : Int64)) = (a + (0 : Int64))) hq)
      refine s_aload X hx (hb hby at_128) rfl rfl (q := 130) rfl ?_
      refine s_lload X hx (hb hby at_130) rfl (q := 132) rfl ?_
      refine callV X hx hZ hown (W := 0) (argsL := [(.long (((9223372036854775807 : Int64) - a) - (0 : Int64)))]) (rest := []) (hw _ (List.mem_of_getElem? (i := 64) rfl)) (hw _ (List.mem_of_getElem? (i := 65) rfl)) (hw _ (List.mem_of_getElem? (i := 67) rfl)) (hw _ (List.mem_of_getElem? (i := 66) rfl)) (hw _ (List.mem_of_getElem? (i := 2) rfl)) (hw _ (List.mem_of_getElem? (i := 68) rfl)) (by decide) E_a1 (rm9 l Z a0 hw [] a1 (((9223372036854775807 : Int64) - a) - (0 : Int64)) kl gr (0 : Int32) (((9223372036854775807 : Int64) - a) - (0 : Int64)) (a + (0 : Int64)) (((9223372036854775807 : Int64) - a) - (0 : Int64)) (0 : Int64) (9223372036854775807 : Int64) h5 n0 sz F_a1_kept F_a1_capacity F_a1_random F_a1_passOver F_a1_offered E_a1 g_a1 (own_fr rfl (by grind)) hE0 (own_irr _) (by grind) (by grind)) eT (by decide) (by decide) (by decide) (by decide) (by rw [hml]; rfl) pd3 rfl rfl (Nat.le_of_ble_eq_true rfl) (hb hby at_132) (q := 135) rfl ?_
      intro v T Lc hQ X
      obtain ⟨h6, eT⟩ : ∃ z, T.heap = z := ⟨_, rfl⟩
      rw [eT] at hQ
      obtain ⟨rfl, N', K', F_a1_kept', F_a1_capacity', F_a1_random', F_a1_passOver', F_a1_offered'⟩ := hQ
      have N := Fr.app N N'
      have O_old := O_old.keep K' (allS g_a1 all0)
      have E_a1 := E_a1.keep K'
      have E_kl := E_kl.keep K'
      have F_kl_elementData := F_kl_elementData.keep K' (ninS (Ne.symm ne_a1_kl) nin0)
      have F_kl_size := F_kl_size.keep K' (ninS (Ne.symm ne_a1_kl) nin0)
      have F_kl_modCount := F_kl_modCount.keep K' (ninS (Ne.symm ne_a1_kl) nin0)
      have E_gr := E_gr.keep K'
      have F_gr_state := F_gr_state.keep K' (ninS (Ne.symm ne_a1_gr) nin0)
      have sz : n0 ≤ h6.size := Nat.le_trans sz K'.1
      have F_a1_kept : Fld Z h6 a1 "com/example/cistern/cistern/ReservoirSampler" "kept" "Ljava/util/List;" (.ref kl) := F_a1_kept'
      have F_a1_capacity : Fld Z h6 a1 "com/example/cistern/cistern/ReservoirSampler" "capacity" "I" (.int (0 : Int32)) := F_a1_capacity'
      have F_a1_random : Fld Z h6 a1 "com/example/cistern/cistern/ReservoirSampler" "random" "Lcom/example/cistern/cistern/SplitMix64;" (.ref gr) := F_a1_random'
      have F_a1_passOver : Fld Z h6 a1 "com/example/cistern/cistern/ReservoirSampler" "passOver" "J" (.long (0 : Int64)) := F_a1_passOver'
      have F_a1_offered : Fld Z h6 a1 "com/example/cistern/cistern/ReservoirSampler" "offered" "J" (.long (9223372036854775807 : Int64)) := F_a1_offered'
      refine s_aload X hx (hb hby at_135) rfl rfl (q := 137) rfl ?_
      refine callV X hx hZ hown (W := 0) (argsL := []) (rest := []) (hw _ (List.mem_of_getElem? (i := 56) rfl)) (hw _ (List.mem_of_getElem? (i := 57) rfl)) (hw _ (List.mem_of_getElem? (i := 59) rfl)) (hw _ (List.mem_of_getElem? (i := 58) rfl)) (hw _ (List.mem_of_getElem? (i := 2) rfl)) (hw _ (List.mem_of_getElem? (i := 60) rfl)) (by decide) E_a1 (rm8 l Z a0 hw [] a1 (0 : Int64) (9223372036854775807 : Int64) (0 : Int64) h6 n0 sz F_a1_passOver F_a1_offered E_a1 (by decide +kernel)) eT (by decide) (by decide) (by decide) (by decide) (by rw [hml]; rfl) pd1 rfl rfl (Nat.le_of_ble_eq_true rfl) (hb hby at_137) (q := 140) rfl ?_
      intro v T Lc hQ X
      obtain ⟨rfl, eT, N'⟩ := hQ
      have N := Fr.app N N'
      refine s_lconst X hx (z := (0 : Int64)) (hb hby at_140) rfl (q := 141) rfl ?_
      refine s_lcmp X hx (hb hby at_141) (q := 142) rfl ?_
      refine f_lcmp_ne X hx (hb hby at_142) (q1 := 161) (by decide) (by decide) (q := 145) rfl (fun hq => absurd (rfl : (0 : Int64) = (0 : Int64)) hq) (fun _ => ?_)
      refine s_aload X hx (hb hby at_145) rfl rfl (q := 147) rfl ?_
      refine callV X hx hZ hown (W := 0) (argsL := []) (rest := []) (hw _ (List.mem_of_getElem? (i := 93) rfl)) (hw _ (List.mem_of_getElem? (i := 94) rfl)) (hw _ (List.mem_of_getElem? (i := 96) rfl)) (hw _ (List.mem_of_getElem? (i := 95) rfl)) (hw _ (List.mem_of_getElem? (i := 2) rfl)) (hw _ (List.mem_of_getElem? (i := 97) rfl)) (by decide) E_a1 (rm14 l Z a0 hw [] a1 (9223372036854775807 : Int64) h6 n0 sz F_a1_offered E_a1) eT (by decide) (by decide) (by decide) (by decide) (by rw [hml]; rfl) pd1 rfl rfl (Nat.le_of_ble_eq_true rfl) (hb hby at_147) (q := 150) rfl ?_
      intro v T Lc hQ X
      obtain ⟨rfl, eT, N'⟩ := hQ
      have N := Fr.app N N'
      refine s_ldc2 X hx hZ hown (hw _ (List.mem_of_getElem? (i := 51) rfl)) (hb hby at_150) (q := 153) rfl ?_
      refine s_lcmp X hx (hb hby at_153) (q := 154) rfl ?_
      refine f_lcmp_ne X hx (hb hby at_154) (q1 := 161) (by decide) (by decide) (q := 157) rfl (fun hq => absurd (rfl : (9223372036854775807 : Int64) = (9223372036854775807 : Int64)) hq) (fun _ => ?_)
      refine s_iconst X hx (z := (1 : Int32)) (hb hby at_157) rfl (q := 158) rfl ?_
      refine s_goto X hx (hb hby at_158) (q1 := 162) (by decide) (by decide) ?_
      exact leafN X hx hlk hret (by simp) (hb hby at_162) (by decide) (by decide) (z' := 1) rfl ⟨rfl, N⟩
    · subst hcase
      refine s_istore X hx (hb hby at_8) (L' := #[.val (.int x0), .val (.int x1), .val (.long x2), .second, .val (.long x3), .second, .val (.int (0 : Int32)), .val (.int (1 : Int32)), .unset, .unset, .unset, .unset, .unset, .unset, .unset]) rfl (q := 10) rfl ?_
      refine s_new X hx hZ hown (hw _ (List.mem_of_getElem? (i := 0) rfl)) (hw _ (List.mem_of_getElem? (i := 1) rfl)) (hw _ (List.mem_of_getElem? (i := 2) rfl)) eT (by decide) (by decide) (hb hby at_10) (q := 13) rfl ?_
      intro T h8 a7 X eT E ea E_a7' Df
      have O_old := O_old.ext E
      have g_a7 : n0 ≤ a7 := by rw [ea]; exact sz
      have sz : n0 ≤ h8.size := Nat.le_trans sz E.1
      have E_a7 := E_a7'
      have F_a7_kept : Fld Z h8 a7 "com/example/cistern/cistern/ReservoirSampler" "kept" "Ljava/util/List;" .null := Df _ _ _ (.object "java/util/List") (Or.inr (hw _ (List.mem_of_getElem? (i := 34) rfl))) (by decide)
      have F_a7_capacity : Fld Z h8 a7 "com/example/cistern/cistern/ReservoirSampler" "capacity" "I" (.int (0 : Int32)) := Df _ _ _ .int (Or.inr (hw _ (List.mem_of_getElem? (i := 36) rfl))) (by decide)
      have F_a7_random : Fld Z h8 a7 "com/example/cistern/cistern/ReservoirSampler" "random" "Lcom/example/cistern/cistern/SplitMix64;" .null := Df _ _ _ (.object "com/example/cistern/cistern/SplitMix64") (Or.inr (hw _ (List.mem_of_getElem? (i := 47) rfl))) (by decide)
      have F_a7_passOver : Fld Z h8 a7 "com/example/cistern/cistern/ReservoirSampler" "passOver" "J" (.long (0 : Int64)) := Df _ _ _ .long (Or.inl (hw _ (List.mem_of_getElem? (i := 50) rfl))) (by decide)
      have F_a7_offered : Fld Z h8 a7 "com/example/cistern/cistern/ReservoirSampler" "offered" "J" (.long (0 : Int64)) := Df _ _ _ .long (Or.inl (hw _ (List.mem_of_getElem? (i := 62) rfl))) (by decide)
      refine s_dup X hx (hb hby at_13) rfl (q := 14) rfl ?_
      refine s_iload X hx (hb hby at_14) rfl (q := 16) rfl ?_
      refine s_lload X hx (hb hby at_16) rfl (q := 18) rfl ?_
      refine callI X hx hZ hown (W := 1) (argsL := [(.int (0 : Int32)), (.long x3)]) (rest := [(.ref a7)]) rfl (hw _ (List.mem_of_getElem? (i := 3) rfl)) (hw _ (List.mem_of_getElem? (i := 4) rfl)) (hw _ (List.mem_of_getElem? (i := 2) rfl)) (hw _ (List.mem_of_getElem? (i := 5) rfl)) (by decide) (rm1_0 l Z a0 hw [] a7 x3 d0 h8 n0 sz F_a7_kept F_a7_capacity F_a7_random F_a7_passOver F_a7_offered E_a7 g_a7 S0 A0 O_old) eT (by decide) (by decide) (by decide) (by decide) (by rw [hml]; rfl) pd17 rfl rfl (Nat.le_of_ble_eq_true rfl) (hb hby at_18) (q := 21) rfl ?_
      intro v T Lc hQ X
      obtain ⟨h9, eT⟩ : ∃ z, T.heap = z := ⟨_, rfl⟩
      rw [eT] at hQ
      obtain ⟨kl, gr, rfl, N', K', F_a7_kept', F_a7_capacity', F_a7_random', F_a7_passOver', F_a7_offered', F_kl_elementData', F_kl_size', F_kl_modCount', E_kl', F_gr_state', E_gr', sq_kl, sq_gr⟩ := hQ
      have N := Fr.app N N'
      have g_kl : n0 ≤ kl := Nat.le_trans sz sq_kl
      have ne_a7_kl : a7 ≠ kl := Nat.ne_of_lt (Nat.lt_of_lt_of_le E_a7.lt sq_kl)
      have g_gr : n0 ≤ gr := Nat.le_trans sz sq_gr
      have ne_a7_gr : a7 ≠ gr := Nat.ne_of_lt (Nat.lt_of_lt_of_le E_a7.lt sq_gr)
      have O_old := O_old.keep K' (allS g_a7 all0)
      have E_a7 := E_a7.keep K'
      have sz : n0 ≤ h9.size := Nat.le_trans sz K'.1
      have F_a7_kept : Fld Z h9 a7 "com/example/cistern/cistern/ReservoirSampler" "kept" "Ljava/util/List;" (.ref kl) := F_a7_kept'
      have F_a7_capacity : Fld Z h9 a7 "com/example/cistern/cistern/ReservoirSampler" "capacity" "I" (.int (0 : Int32)) := F_a7_capacity'
      have F_a7_random : Fld Z h9 a7 "com/example/cistern/cistern/ReservoirSampler" "random" "Lcom/example/cistern/cistern/SplitMix64;" (.ref gr) := F_a7_random'
      have F_a7_passOver : Fld Z h9 a7 "com/example/cistern/cistern/ReservoirSampler" "passOver" "J" (.long (9223372036854775807 : Int64)) := F_a7_passOver'
      have F_a7_offered : Fld Z h9 a7 "com/example/cistern/cistern/ReservoirSampler" "offered" "J" (.long (0 : Int64)) := F_a7_offered'
      have F_kl_elementData : Fld Z h9 kl "java/util/ArrayList" "elementData" "[Ljava/lang/Object;" (.ref d0) := F_kl_elementData'
      have F_kl_size : Fld Z h9 kl "java/util/ArrayList" "size" "I" (.int (0 : Int32)) := F_kl_size'
      have F_kl_modCount : Fld Z h9 kl "java/util/AbstractList" "modCount" "I" (.int (0 : Int32)) := F_kl_modCount'
      have E_kl : Exa Z h9 kl "java/util/ArrayList" := E_kl'
      have F_gr_state : Fld Z h9 gr "com/example/cistern/cistern/SplitMix64" "state" "J" (.long x3) := F_gr_state'
      have E_gr : Exa Z h9 gr "com/example/cistern/cistern/SplitMix64" := E_gr'
      have ne_kl_gr := ne_exa E_kl E_gr (by decide)
      refine s_astore X hx (hb hby at_21) rfl (L' := #[.val (.int x0), .val (.int x1), .val (.long x2), .second, .val (.long x3), .second, .val (.int (0 : Int32)), .val (.int (1 : Int32)), .val (.ref a7), .unset, .unset, .unset, .unset, .unset, .unset]) rfl (q := 23) rfl ?_
      refine s_iload X hx (hb hby at_23) rfl (q := 25) rfl ?_
      refine f_if_ne X hx (hb hby at_25) (q1 := 163) (by decide) (by decide) (q := 28) rfl (fun hq => absurd (by decide : (0 : Int32) = 0) hq) (fun _ => ?_)
      refine s_lloadN X hx (hb hby at_28) rfl (q := 29) rfl ?_
      refine s_ldc2 X hx hZ hown (hw _ (List.mem_of_getElem? (i := 51) rfl)) (hb hby at_29) (q := 32) rfl ?_
      refine s_land X hx (hb hby at_32) (q := 33) rfl ?_
      refine s_ldc2 X hx hZ hown (hw _ (List.mem_of_getElem? (i := 51) rfl)) (hb hby at_33) (q := 36) rfl ?_
      refine s_iload X hx (hb hby at_36) rfl (q := 38) rfl ?_
      refine s_i2l X hx (hb hby at_38) (q := 39) rfl ?_
      show Go p e below _ T m 39 #[.val (.int x0), .val (.int x1), .val (.long x2), .second, .val (.long x3), .second, .val (.int (0 : Int32)), .val (.int (1 : Int32)), .val (.ref a7), .unset, .unset, .unset, .unset, .unset, .unset] [(.long (1 : Int64)), (.long (9223372036854775807 : Int64)), (.long (x2 &&& (9223372036854775807 : Int64)))]
      refine s_lsub X hx (hb hby at_39) (q := 40) rfl ?_
      show Go p e below _ T m 40 #[.val (.int x0), .val (.int x1), .val (.long x2), .second, .val (.long x3), .second, .val (.int (0 : Int32)), .val (.int (1 : Int32)), .val (.ref a7), .unset, .unset, .unset, .unset, .unset, .unset] [(.long (9223372036854775806 : Int64)), (.long (x2 &&& (9223372036854775807 : Int64)))]
      refine callP X hx hZ hown (W := 0) (argsL := [(.long (x2 &&& (9223372036854775807 : Int64))), (.long (9223372036854775806 : Int64))]) (rest := []) (hw _ (List.mem_of_getElem? (i := 52) rfl)) (hw _ (List.mem_of_getElem? (i := 53) rfl)) (hw _ (List.mem_of_getElem? (i := 54) rfl)) (hw _ (List.mem_of_getElem? (i := 55) rfl)) (by decide) (rm7 l Z a0 hw [] (x2 &&& (9223372036854775807 : Int64)) (9223372036854775806 : Int64) h9) rfl rfl eT (by decide) (by decide) (by decide) (by decide) (by rw [hml]; rfl) pd4 rfl rfl (Nat.le_of_ble_eq_true rfl) (hb hby at_40) (q := 43) rfl ?_
      intro T X eT
      generalize ha : (F7 (x2 &&& (9223372036854775807 : Int64)) (9223372036854775806 : Int64)) = a
      refine s_lstore X hx (hb hby at_43) (L' := #[.val (.int x0), .val (.int x1), .val (.long x2), .second, .val (.long x3), .second, .val (.int (0 : Int32)), .val (.int (1 : Int32)), .val (.ref a7), .val (.long a), .second, .unset, .unset, .unset, .unset]) rfl (q := 45) rfl ?_
      obtain ⟨ha0, hE0, hbo⟩ := own_abc (k := (1 : Int64)) (n := 1) ha (by decide) (by decide) (by decide)
      refine s_aload X hx (hb hby at_45) rfl rfl (q := 47) rfl ?_
      refine callV X hx hZ hown (W := 0) (argsL := []) (rest := []) (hw _ (List.mem_of_getElem? (i := 56) rfl)) (hw _ (List.mem_of_getElem? (i := 57) rfl)) (hw _ (List.mem_of_getElem? (i := 59) rfl)) (hw _ (List.mem_of_getElem? (i := 58) rfl)) (hw _ (List.mem_of_getElem? (i := 2) rfl)) (hw _ (List.mem_of_getElem? (i := 60) rfl)) (by decide) E_a7 (rm8 l Z a0 hw [] a7 (9223372036854775807 : Int64) (0 : Int64) (9223372036854775807 : Int64) h9 n0 sz F_a7_passOver F_a7_offered E_a7 (by decide +kernel)) eT (by decide) (by decide) (by decide) (by decide) (by rw [hml]; rfl) pd1 rfl rfl (Nat.le_of_ble_eq_true rfl) (hb hby at_47) (q := 50) rfl ?_
      intro v T Lc hQ X
      obtain ⟨rfl, eT, N'⟩ := hQ
      have N := Fr.app N N'
      refine s_ldc2 X hx hZ hown (hw _ (List.mem_of_getElem? (i := 51) rfl)) (hb hby at_50) (q := 53) rfl ?_
      refine s_lcmp X hx (hb hby at_53) (q := 54) rfl ?_
      refine f_lcmp_eq X hx (hb hby at_54) (q1 := 59) (by decide) (by decide) (q := 57) rfl (fun _ => ?_) (fun hq => absurd (rfl : (9223372036854775807 : Int64) = (9223372036854775807 : Int64)) hq)
      refine s_aload X hx (hb hby at_59) rfl rfl (q := 61) rfl ?_
      refine s_lload X hx (hb hby at_61) rfl (q := 63) rfl ?_
      refine callV X hx hZ hown (W := 0) (argsL := [(.long a)]) (rest := []) (hw _ (List.mem_of_getElem? (i := 64) rfl)) (hw _ (List.mem_of_getElem? (i := 65) rfl)) (hw _ (List.mem_of_getElem? (i := 67) rfl)) (hw _ (List.mem_of_getElem? (i := 66) rfl)) (hw _ (List.mem_of_getElem? (i := 2) rfl)) (hw _ (List.mem_of_getElem? (i := 68) rfl)) (by decide) E_a7 (rm9 l Z a0 hw [] a7 a kl gr (0 : Int32) (9223372036854775807 : Int64) (0 : Int64) (9223372036854775807 : Int64) ((9223372036854775807 : Int64) - a) a h9 n0 sz F_a7_kept F_a7_capacity F_a7_random F_a7_passOver F_a7_offered E_a7 g_a7 (by decide +kernel) ha0 (own_nmax a) rfl (Int64.zero_add a)) eT (by decide) (by decide) (by decide) (by decide) (by rw [hml]; rfl) pd3 rfl rfl (Nat.le_of_ble_eq_true rfl) (hb hby at_63) (q := 66) rfl ?_
      intro v T Lc hQ X
      obtain ⟨h10, eT⟩ : ∃ z, T.heap = z := ⟨_, rfl⟩
      rw [eT] at hQ
      obtain ⟨rfl, N', K', F_a7_kept', F_a7_capacity', F_a7_random', F_a7_passOver', F_a7_offered'⟩ := hQ
      have N := Fr.app N N'
      have O_old := O_old.keep K' (allS g_a7 all0)
      have E_a7 := E_a7.keep K'
      have E_kl := E_kl.keep K'
      have F_kl_elementData := F_kl_elementData.keep K' (ninS (Ne.symm ne_a7_kl) nin0)
      have F_kl_size := F_kl_size.keep K' (ninS (Ne.symm ne_a7_kl) nin0)
      have F_kl_modCount := F_kl_modCount.keep K' (ninS (Ne.symm ne_a7_kl) nin0)
      have E_gr := E_gr.keep K'
      have F_gr_state := F_gr_state.keep K' (ninS (Ne.symm ne_a7_gr) nin0)
      have sz : n0 ≤ h10.size := Nat.le_trans sz K'.1
      have F_a7_kept : Fld Z h10 a7 "com/example/cistern/cistern/ReservoirSampler" "kept" "Ljava/util/List;" (.ref kl) := F_a7_kept'
      have F_a7_capacity : Fld Z h10 a7 "com/example/cistern/cistern/ReservoirSampler" "capacity" "I" (.int (0 : Int32)) := F_a7_capacity'
      have F_a7_random : Fld Z h10 a7 "com/example/cistern/cistern/ReservoirSampler" "random" "Lcom/example/cistern/cistern/SplitMix64;" (.ref gr) := F_a7_random'
      have F_a7_passOver : Fld Z h10 a7 "com/example/cistern/cistern/ReservoirSampler" "passOver" "J" (.long ((9223372036854775807 : Int64) - a)) := F_a7_passOver'
      have F_a7_offered : Fld Z h10 a7 "com/example/cistern/cistern/ReservoirSampler" "offered" "J" (.long a) := F_a7_offered'
      refine s_aload X hx (hb hby at_66) rfl rfl (q := 68) rfl ?_
      refine s_iload X hx (hb hby at_68) rfl (q := 70) rfl ?_
      refine callC X hx hZ hown (W := 0) (argsL := [(.ref a7), (.int (1 : Int32))]) (rest := []) (hw _ (List.mem_of_getElem? (i := 70) rfl)) (hw _ (List.mem_of_getElem? (i := 71) rfl)) (hw _ (List.mem_of_getElem? (i := 72) rfl)) (hw _ (List.mem_of_getElem? (i := 73) rfl)) (by decide) (rm10_p1 l Z a0 hw [] a7 kl gr ((9223372036854775807 : Int64) - a) a (((9223372036854775807 : Int64) - a) - (1 : Int64)) (a + (1 : Int64)) h10 n0 sz F_a7_kept F_a7_capacity F_a7_random F_a7_passOver F_a7_offered E_a7 F_kl_size E_kl g_a7 g_kl hbo (by grind) (by grind)) eT (by decide) (by decide) (by decide) (by decide) (by rw [hml]; rfl) pd18 rfl rfl (Nat.le_of_ble_eq_true rfl) (hb hby at_70) (q := 73) rfl ?_
      intro v T Lc hQ X
      obtain ⟨h11, eT⟩ : ∃ z, T.heap = z := ⟨_, rfl⟩
      rw [eT] at hQ
      obtain ⟨rfl, N', K', F_a7_kept', F_a7_capacity', F_a7_random', F_a7_passOver', F_a7_offered'⟩ := hQ
      have N := Fr.app N N'
      have O_old := O_old.keep K' (allS g_a7 all0)
      have E_a7 := E_a7.keep K'
      have E_kl := E_kl.keep K'
      have F_kl_elementData := F_kl_elementData.keep K' (ninS (Ne.symm ne_a7_kl) nin0)
      have F_kl_size := F_kl_size.keep K' (ninS (Ne.symm ne_a7_kl) nin0)
      have F_kl_modCount := F_kl_modCount.keep K' (ninS (Ne.symm ne_a7_kl) nin0)
      have E_gr := E_gr.keep K'
      have F_gr_state := F_gr_state.keep K' (ninS (Ne.symm ne_a7_gr) nin0)
      have sz : n0 ≤ h11.size := Nat.le_trans sz K'.1
      have F_a7_kept : Fld Z h11 a7 "com/example/cistern/cistern/ReservoirSampler" "kept" "Ljava/util/List;" (.ref kl) := F_a7_kept'
      have F_a7_capacity : Fld Z h11 a7 "com/example/cistern/cistern/ReservoirSampler" "capacity" "I" (.int (0 : Int32)) := F_a7_capacity'
      have F_a7_random : Fld Z h11 a7 "com/example/cistern/cistern/ReservoirSampler" "random" "Lcom/example/cistern/cistern/SplitMix64;" (.ref gr) := F_a7_random'
      have F_a7_passOver : Fld Z h11 a7 "com/example/cistern/cistern/ReservoirSampler" "passOver" "J" (.long (((9223372036854775807 : Int64) - a) - (1 : Int64))) := F_a7_passOver'
      have F_a7_offered : Fld Z h11 a7 "com/example/cistern/cistern/ReservoirSampler" "offered" "J" (.long (a + (1 : Int64))) := F_a7_offered'
      refine s_aload X hx (hb hby at_73) rfl rfl (q := 75) rfl ?_
      refine callV X hx hZ hown (W := 0) (argsL := []) (rest := []) (hw _ (List.mem_of_getElem? (i := 56) rfl)) (hw _ (List.mem_of_getElem? (i := 57) rfl)) (hw _ (List.mem_of_getElem? (i := 59) rfl)) (hw _ (List.mem_of_getElem? (i := 58) rfl)) (hw _ (List.mem_of_getElem? (i := 2) rfl)) (hw _ (List.mem_of_getElem? (i := 60) rfl)) (by decide) E_a7 (rm8 l Z a0 hw [] a7 (((9223372036854775807 : Int64) - a) - (1 : Int64)) (a + (1 : Int64)) (((9223372036854775807 : Int64) - a) - (1 : Int64)) h11 n0 sz F_a7_passOver F_a7_offered E_a7 (own_fr rfl (by grind))) eT (by decide) (by decide) (by decide) (by decide) (by rw [hml]; rfl) pd1 rfl rfl (Nat.le_of_ble_eq_true rfl) (hb hby at_75) (q := 78) rfl ?_
      intro v T Lc hQ X
      obtain ⟨rfl, eT, N'⟩ := hQ
      have N := Fr.app N N'
      refine s_lstore X hx (hb hby at_78) (L' := #[.val (.int x0), .val (.int x1), .val (.long x2), .second, .val (.long x3), .second, .val (.int (0 : Int32)), .val (.int (1 : Int32)), .val (.ref a7), .val (.long a), .second, .val (.long (((9223372036854775807 : Int64) - a) - (1 : Int64))), .second, .unset, .unset]) rfl (q := 80) rfl ?_
      refine s_ldc2 X hx hZ hown (hw _ (List.mem_of_getElem? (i := 51) rfl)) (hb hby at_80) (q := 83) rfl ?_
      refine s_lload X hx (hb hby at_83) rfl (q := 85) rfl ?_
      refine s_lsub X hx (hb hby at_85) (q := 86) rfl ?_
      refine s_iload X hx (hb hby at_86) rfl (q := 88) rfl ?_
      refine s_i2l X hx (hb hby at_88) (q := 89) rfl ?_
      show Go p e below _ T m 89 #[.val (.int x0), .val (.int x1), .val (.long x2), .second, .val (.long x3), .second, .val (.int (0 : Int32)), .val (.int (1 : Int32)), .val (.ref a7), .val (.long a), .second, .val (.long (((9223372036854775807 : Int64) - a) - (1 : Int64))), .second, .unset, .unset] [(.long (1 : Int64)), (.long ((9223372036854775807 : Int64) - a))]
      refine s_lsub X hx (hb hby at_89) (q := 90) rfl ?_
      refine s_lstore X hx (hb hby at_90) (L' := #[.val (.int x0), .val (.int x1), .val (.long x2), .second, .val (.long x3), .second, .val (.int (0 : Int32)), .val (.int (1 : Int32)), .val (.ref a7), .val (.long a), .second, .val (.long (((9223372036854775807 : Int64) - a) - (1 : Int64))), .second, .val (.long (((9223372036854775807 : Int64) - a) - (1 : Int64))), .second]) rfl (q := 92) rfl ?_
      refine s_lload X hx (hb hby at_92) rfl (q := 94) rfl ?_
      refine s_lload X hx (hb hby at_94) rfl (q := 96) rfl ?_
      refine s_lcmp X hx (hb hby at_96) (q := 97) rfl ?_
      refine f_lcmp_ne X hx (hb hby at_97) (q1 := 126) (by decide) (by decide) (q := 100) rfl (fun hq => absurd (rfl : (((9223372036854775807 : Int64) - a) - (1 : Int64)) = (((9223372036854775807 : Int64) - a) - (1 : Int64))) hq) (fun _ => ?_)
      refine s_aload X hx (hb hby at_100) rfl rfl (q := 102) rfl ?_
      refine callV X hx hZ hown (W := 0) (argsL := []) (rest := []) (hw _ (List.mem_of_getElem? (i := 56) rfl)) (hw _ (List.mem_of_getElem? (i := 57) rfl)) (hw _ (List.mem_of_getElem? (i := 59) rfl)) (hw _ (List.mem_of_getElem? (i := 58) rfl)) (hw _ (List.mem_of_getElem? (i := 2) rfl)) (hw _ (List.mem_of_getElem? (i := 60) rfl)) (by decide) E_a7 (rm8 l Z a0 hw [] a7 (((9223372036854775807 : Int64) - a) - (1 : Int64)) (a + (1 : Int64)) (((9223372036854775807 : Int64) - a) - (1 : Int64)) h11 n0 sz F_a7_passOver F_a7_offered E_a7 (own_fr rfl (by grind))) eT (by decide) (by decide) (by decide) (by decide) (by rw [hml]; rfl) pd1 rfl rfl (Nat.le_of_ble_eq_true rfl) (hb hby at_102) (q := 105) rfl ?_
      intro v T Lc hQ X
      obtain ⟨rfl, eT, N'⟩ := hQ
      have N := Fr.app N N'
      refine s_lload X hx (hb hby at_105) rfl (q := 107) rfl ?_
      refine s_lcmp X hx (hb hby at_107) (q := 108) rfl ?_
      refine f_lcmp_ne X hx (hb hby at_108) (q1 := 126) (by decide) (by decide) (q := 111) rfl (fun hq => absurd (rfl : (((9223372036854775807 : Int64) - a) - (1 : Int64)) = (((9223372036854775807 : Int64) - a) - (1 : Int64))) hq) (fun _ => ?_)
      refine s_aload X hx (hb hby at_111) rfl rfl (q := 113) rfl ?_
      refine callV X hx hZ hown (W := 0) (argsL := []) (rest := []) (hw _ (List.mem_of_getElem? (i := 93) rfl)) (hw _ (List.mem_of_getElem? (i := 94) rfl)) (hw _ (List.mem_of_getElem? (i := 96) rfl)) (hw _ (List.mem_of_getElem? (i := 95) rfl)) (hw _ (List.mem_of_getElem? (i := 2) rfl)) (hw _ (List.mem_of_getElem? (i := 97) rfl)) (by decide) E_a7 (rm14 l Z a0 hw [] a7 (a + (1 : Int64)) h11 n0 sz F_a7_offered E_a7) eT (by decide) (by decide) (by decide) (by decide) (by rw [hml]; rfl) pd1 rfl rfl (Nat.le_of_ble_eq_true rfl) (hb hby at_113) (q := 116) rfl ?_
      intro v T Lc hQ X
      obtain ⟨rfl, eT, N'⟩ := hQ
      have N := Fr.app N N'
      refine s_lload X hx (hb hby at_116) rfl (q := 118) rfl ?_
      refine s_iload X hx (hb hby at_118) rfl (q := 120) rfl ?_
      refine s_i2l X hx (hb hby at_120) (q := 121) rfl ?_
      show Go p e below _ T m 121 #[.val (.int x0), .val (.int x1), .val (.long x2), .second, .val (.long x3), .second, .val (.int (0 : Int32)), .val (.int (1 : Int32)), .val (.ref a7), .val (.long a), .second, .val (.long (((9223372036854775807 : Int64) - a) - (1 : Int64))), .second, .val (.long (((9223372036854775807 : Int64) - a) - (1 : Int64))), .second] [(.long (1 : Int64)), (.long a), (.long (a + (1 : Int64)))]
      refine s_ladd X hx (hb hby at_121) (q := 122) rfl ?_
      refine s_lcmp X hx (hb hby at_122) (q := 123) rfl ?_
      refine f_lcmp_eq X hx (hb hby at_123) (q1 := 128) (by decide) (by decide) (q := 126) rfl (fun _ => ?_) (fun hq => absurd (rfl : (a + (1 : Int64)) = (a + (1 : Int64))) hq)
      refine s_aload X hx (hb hby at_128) rfl rfl (q := 130) rfl ?_
      refine s_lload X hx (hb hby at_130) rfl (q := 132) rfl ?_
      refine callV X hx hZ hown (W := 0) (argsL := [(.long (((9223372036854775807 : Int64) - a) - (1 : Int64)))]) (rest := []) (hw _ (List.mem_of_getElem? (i := 64) rfl)) (hw _ (List.mem_of_getElem? (i := 65) rfl)) (hw _ (List.mem_of_getElem? (i := 67) rfl)) (hw _ (List.mem_of_getElem? (i := 66) rfl)) (hw _ (List.mem_of_getElem? (i := 2) rfl)) (hw _ (List.mem_of_getElem? (i := 68) rfl)) (by decide) E_a7 (rm9 l Z a0 hw [] a7 (((9223372036854775807 : Int64) - a) - (1 : Int64)) kl gr (0 : Int32) (((9223372036854775807 : Int64) - a) - (1 : Int64)) (a + (1 : Int64)) (((9223372036854775807 : Int64) - a) - (1 : Int64)) (0 : Int64) (9223372036854775807 : Int64) h11 n0 sz F_a7_kept F_a7_capacity F_a7_random F_a7_passOver F_a7_offered E_a7 g_a7 (own_fr rfl (by grind)) hE0 (own_irr _) (by grind) (by grind)) eT (by decide) (by decide) (by decide) (by decide) (by rw [hml]; rfl) pd3 rfl rfl (Nat.le_of_ble_eq_true rfl) (hb hby at_132) (q := 135) rfl ?_
      intro v T Lc hQ X
      obtain ⟨h12, eT⟩ : ∃ z, T.heap = z := ⟨_, rfl⟩
      rw [eT] at hQ
      obtain ⟨rfl, N', K', F_a7_kept', F_a7_capacity', F_a7_random', F_a7_passOver', F_a7_offered'⟩ := hQ
      have N := Fr.app N N'
      have O_old := O_old.keep K' (allS g_a7 all0)
      have E_a7 := E_a7.keep K'
      have E_kl := E_kl.keep K'
      have F_kl_elementData := F_kl_elementData.keep K' (ninS (Ne.symm ne_a7_kl) nin0)
      have F_kl_size := F_kl_size.keep K' (ninS (Ne.symm ne_a7_kl) nin0)
      have F_kl_modCount := F_kl_modCount.keep K' (ninS (Ne.symm ne_a7_kl) nin0)
      have E_gr := E_gr.keep K'
      have F_gr_state := F_gr_state.keep K' (ninS (Ne.symm ne_a7_gr) nin0)
      have sz : n0 ≤ h12.size := Nat.le_trans sz K'.1
      have F_a7_kept : Fld Z h12 a7 "com/example/cistern/cistern/ReservoirSampler" "kept" "Ljava/util/List;" (.ref kl) := F_a7_kept'
      have F_a7_capacity : Fld Z h12 a7 "com/example/cistern/cistern/ReservoirSampler" "capacity" "I" (.int (0 : Int32)) := F_a7_capacity'
      have F_a7_random : Fld Z h12 a7 "com/example/cistern/cistern/ReservoirSampler" "random" "Lcom/example/cistern/cistern/SplitMix64;" (.ref gr) := F_a7_random'
      have F_a7_passOver : Fld Z h12 a7 "com/example/cistern/cistern/ReservoirSampler" "passOver" "J" (.long (0 : Int64)) := F_a7_passOver'
      have F_a7_offered : Fld Z h12 a7 "com/example/cistern/cistern/ReservoirSampler" "offered" "J" (.long (9223372036854775807 : Int64)) := F_a7_offered'
      refine s_aload X hx (hb hby at_135) rfl rfl (q := 137) rfl ?_
      refine callV X hx hZ hown (W := 0) (argsL := []) (rest := []) (hw _ (List.mem_of_getElem? (i := 56) rfl)) (hw _ (List.mem_of_getElem? (i := 57) rfl)) (hw _ (List.mem_of_getElem? (i := 59) rfl)) (hw _ (List.mem_of_getElem? (i := 58) rfl)) (hw _ (List.mem_of_getElem? (i := 2) rfl)) (hw _ (List.mem_of_getElem? (i := 60) rfl)) (by decide) E_a7 (rm8 l Z a0 hw [] a7 (0 : Int64) (9223372036854775807 : Int64) (0 : Int64) h12 n0 sz F_a7_passOver F_a7_offered E_a7 (by decide +kernel)) eT (by decide) (by decide) (by decide) (by decide) (by rw [hml]; rfl) pd1 rfl rfl (Nat.le_of_ble_eq_true rfl) (hb hby at_137) (q := 140) rfl ?_
      intro v T Lc hQ X
      obtain ⟨rfl, eT, N'⟩ := hQ
      have N := Fr.app N N'
      refine s_lconst X hx (z := (0 : Int64)) (hb hby at_140) rfl (q := 141) rfl ?_
      refine s_lcmp X hx (hb hby at_141) (q := 142) rfl ?_
      refine f_lcmp_ne X hx (hb hby at_142) (q1 := 161) (by decide) (by decide) (q := 145) rfl (fun hq => absurd (rfl : (0 : Int64) = (0 : Int64)) hq) (fun _ => ?_)
      refine s_aload X hx (hb hby at_145) rfl rfl (q := 147) rfl ?_
      refine callV X hx hZ hown (W := 0) (argsL := []) (rest := []) (hw _ (List.mem_of_getElem? (i := 93) rfl)) (hw _ (List.mem_of_getElem? (i := 94) rfl)) (hw _ (List.mem_of_getElem? (i := 96) rfl)) (hw _ (List.mem_of_getElem? (i := 95) rfl)) (hw _ (List.mem_of_getElem? (i := 2) rfl)) (hw _ (List.mem_of_getElem? (i := 97) rfl)) (by decide) E_a7 (rm14 l Z a0 hw [] a7 (9223372036854775807 : Int64) h12 n0 sz F_a7_offered E_a7) eT (by decide) (by decide) (by decide) (by decide) (by rw [hml]; rfl) pd1 rfl rfl (Nat.le_of_ble_eq_true rfl) (hb hby at_147) (q := 150) rfl ?_
      intro v T Lc hQ X
      obtain ⟨rfl, eT, N'⟩ := hQ
      have N := Fr.app N N'
      refine s_ldc2 X hx hZ hown (hw _ (List.mem_of_getElem? (i := 51) rfl)) (hb hby at_150) (q := 153) rfl ?_
      refine s_lcmp X hx (hb hby at_153) (q := 154) rfl ?_
      refine f_lcmp_ne X hx (hb hby at_154) (q1 := 161) (by decide) (by decide) (q := 157) rfl (fun hq => absurd (rfl : (9223372036854775807 : Int64) = (9223372036854775807 : Int64)) hq) (fun _ => ?_)
      refine s_iconst X hx (z := (1 : Int32)) (hb hby at_157) rfl (q := 158) rfl ?_
      refine s_goto X hx (hb hby at_158) (q1 := 162) (by decide) (by decide) ?_
      exact leafN X hx hlk hret (by simp) (hb hby at_162) (by decide) (by decide) (z' := 1) rfl ⟨rfl, N⟩
    · subst hcase
      refine s_istore X hx (hb hby at_8) (L' := #[.val (.int x0), .val (.int x1), .val (.long x2), .second, .val (.long x3), .second, .val (.int (0 : Int32)), .val (.int (2 : Int32)), .unset, .unset, .unset, .unset, .unset, .unset, .unset]) rfl (q := 10) rfl ?_
      refine s_new X hx hZ hown (hw _ (List.mem_of_getElem? (i := 0) rfl)) (hw _ (List.mem_of_getElem? (i := 1) rfl)) (hw _ (List.mem_of_getElem? (i := 2) rfl)) eT (by decide) (by decide) (hb hby at_10) (q := 13) rfl ?_
      intro T h14 a13 X eT E ea E_a13' Df
      have O_old := O_old.ext E
      have g_a13 : n0 ≤ a13 := by rw [ea]; exact sz
      have sz : n0 ≤ h14.size := Nat.le_trans sz E.1
      have E_a13 := E_a13'
      have F_a13_kept : Fld Z h14 a13 "com/example/cistern/cistern/ReservoirSampler" "kept" "Ljava/util/List;" .null := Df _ _ _ (.object "java/util/List") (Or.inr (hw _ (List.mem_of_getElem? (i := 34) rfl))) (by decide)
      have F_a13_capacity : Fld Z h14 a13 "com/example/cistern/cistern/ReservoirSampler" "capacity" "I" (.int (0 : Int32)) := Df _ _ _ .int (Or.inr (hw _ (List.mem_of_getElem? (i := 36) rfl))) (by decide)
      have F_a13_random : Fld Z h14 a13 "com/example/cistern/cistern/ReservoirSampler" "random" "Lcom/example/cistern/cistern/SplitMix64;" .null := Df _ _ _ (.object "com/example/cistern/cistern/SplitMix64") (Or.inr (hw _ (List.mem_of_getElem? (i := 47) rfl))) (by decide)
      have F_a13_passOver : Fld Z h14 a13 "com/example/cistern/cistern/ReservoirSampler" "passOver" "J" (.long (0 : Int64)) := Df _ _ _ .long (Or.inl (hw _ (List.mem_of_getElem? (i := 50) rfl))) (by decide)
      have F_a13_offered : Fld Z h14 a13 "com/example/cistern/cistern/ReservoirSampler" "offered" "J" (.long (0 : Int64)) := Df _ _ _ .long (Or.inl (hw _ (List.mem_of_getElem? (i := 62) rfl))) (by decide)
      refine s_dup X hx (hb hby at_13) rfl (q := 14) rfl ?_
      refine s_iload X hx (hb hby at_14) rfl (q := 16) rfl ?_
      refine s_lload X hx (hb hby at_16) rfl (q := 18) rfl ?_
      refine callI X hx hZ hown (W := 1) (argsL := [(.int (0 : Int32)), (.long x3)]) (rest := [(.ref a13)]) rfl (hw _ (List.mem_of_getElem? (i := 3) rfl)) (hw _ (List.mem_of_getElem? (i := 4) rfl)) (hw _ (List.mem_of_getElem? (i := 2) rfl)) (hw _ (List.mem_of_getElem? (i := 5) rfl)) (by decide) (rm1_0 l Z a0 hw [] a13 x3 d0 h14 n0 sz F_a13_kept F_a13_capacity F_a13_random F_a13_passOver F_a13_offered E_a13 g_a13 S0 A0 O_old) eT (by decide) (by decide) (by decide) (by decide) (by rw [hml]; rfl) pd17 rfl rfl (Nat.le_of_ble_eq_true rfl) (hb hby at_18) (q := 21) rfl ?_
      intro v T Lc hQ X
      obtain ⟨h15, eT⟩ : ∃ z, T.heap = z := ⟨_, rfl⟩
      rw [eT] at hQ
      obtain ⟨kl, gr, rfl, N', K', F_a13_kept', F_a13_capacity', F_a13_random', F_a13_passOver', F_a13_offered', F_kl_elementData', F_kl_size', F_kl_modCount', E_kl', F_gr_state', E_gr', sq_kl, sq_gr⟩ := hQ
      have N := Fr.app N N'
      have g_kl : n0 ≤ kl := Nat.le_trans sz sq_kl
      have ne_a13_kl : a13 ≠ kl := Nat.ne_of_lt (Nat.lt_of_lt_of_le E_a13.lt sq_kl)
      have g_gr : n0 ≤ gr := Nat.le_trans sz sq_gr
      have ne_a13_gr : a13 ≠ gr := Nat.ne_of_lt (Nat.lt_of_lt_of_le E_a13.lt sq_gr)
      have O_old := O_old.keep K' (allS g_a13 all0)
      have E_a13 := E_a13.keep K'
      have sz : n0 ≤ h15.size := Nat.le_trans sz K'.1
      have F_a13_kept : Fld Z h15 a13 "com/example/cistern/cistern/ReservoirSampler" "kept" "Ljava/util/List;" (.ref kl) := F_a13_kept'
      have F_a13_capacity : Fld Z h15 a13 "com/example/cistern/cistern/ReservoirSampler" "capacity" "I" (.int (0 : Int32)) := F_a13_capacity'
      have F_a13_random : Fld Z h15 a13 "com/example/cistern/cistern/ReservoirSampler" "random" "Lcom/example/cistern/cistern/SplitMix64;" (.ref gr) := F_a13_random'
      have F_a13_passOver : Fld Z h15 a13 "com/example/cistern/cistern/ReservoirSampler" "passOver" "J" (.long (9223372036854775807 : Int64)) := F_a13_passOver'
      have F_a13_offered : Fld Z h15 a13 "com/example/cistern/cistern/ReservoirSampler" "offered" "J" (.long (0 : Int64)) := F_a13_offered'
      have F_kl_elementData : Fld Z h15 kl "java/util/ArrayList" "elementData" "[Ljava/lang/Object;" (.ref d0) := F_kl_elementData'
      have F_kl_size : Fld Z h15 kl "java/util/ArrayList" "size" "I" (.int (0 : Int32)) := F_kl_size'
      have F_kl_modCount : Fld Z h15 kl "java/util/AbstractList" "modCount" "I" (.int (0 : Int32)) := F_kl_modCount'
      have E_kl : Exa Z h15 kl "java/util/ArrayList" := E_kl'
      have F_gr_state : Fld Z h15 gr "com/example/cistern/cistern/SplitMix64" "state" "J" (.long x3) := F_gr_state'
      have E_gr : Exa Z h15 gr "com/example/cistern/cistern/SplitMix64" := E_gr'
      have ne_kl_gr := ne_exa E_kl E_gr (by decide)
      refine s_astore X hx (hb hby at_21) rfl (L' := #[.val (.int x0), .val (.int x1), .val (.long x2), .second, .val (.long x3), .second, .val (.int (0 : Int32)), .val (.int (2 : Int32)), .val (.ref a13), .unset, .unset, .unset, .unset, .unset, .unset]) rfl (q := 23) rfl ?_
      refine s_iload X hx (hb hby at_23) rfl (q := 25) rfl ?_
      refine f_if_ne X hx (hb hby at_25) (q1 := 163) (by decide) (by decide) (q := 28) rfl (fun hq => absurd (by decide : (0 : Int32) = 0) hq) (fun _ => ?_)
      refine s_lloadN X hx (hb hby at_28) rfl (q := 29) rfl ?_
      refine s_ldc2 X hx hZ hown (hw _ (List.mem_of_getElem? (i := 51) rfl)) (hb hby at_29) (q := 32) rfl ?_
      refine s_land X hx (hb hby at_32) (q := 33) rfl ?_
      refine s_ldc2 X hx hZ hown (hw _ (List.mem_of_getElem? (i := 51) rfl)) (hb hby at_33) (q := 36) rfl ?_
      refine s_iload X hx (hb hby at_36) rfl (q := 38) rfl ?_
      refine s_i2l X hx (hb hby at_38) (q := 39) rfl ?_
      show Go p e below _ T m 39 #[.val (.int x0), .val (.int x1), .val (.long x2), .second, .val (.long x3), .second, .val (.int (0 : Int32)), .val (.int (2 : Int32)), .val (.ref a13), .unset, .unset, .unset, .unset, .unset, .unset] [(.long (2 : Int64)), (.long (9223372036854775807 : Int64)), (.long (x2 &&& (9223372036854775807 : Int64)))]
      refine s_lsub X hx (hb hby at_39) (q := 40) rfl ?_
      show Go p e below _ T m 40 #[.val (.int x0), .val (.int x1), .val (.long x2), .second, .val (.long x3), .second, .val (.int (0 : Int32)), .val (.int (2 : Int32)), .val (.ref a13), .unset, .unset, .unset, .unset, .unset, .unset] [(.long (9223372036854775805 : Int64)), (.long (x2 &&& (9223372036854775807 : Int64)))]
      refine callP X hx hZ hown (W := 0) (argsL := [(.long (x2 &&& (9223372036854775807 : Int64))), (.long (9223372036854775805 : Int64))]) (rest := []) (hw _ (List.mem_of_getElem? (i := 52) rfl)) (hw _ (List.mem_of_getElem? (i := 53) rfl)) (hw _ (List.mem_of_getElem? (i := 54) rfl)) (hw _ (List.mem_of_getElem? (i := 55) rfl)) (by decide) (rm7 l Z a0 hw [] (x2 &&& (9223372036854775807 : Int64)) (9223372036854775805 : Int64) h15) rfl rfl eT (by decide) (by decide) (by decide) (by decide) (by rw [hml]; rfl) pd4 rfl rfl (Nat.le_of_ble_eq_true rfl) (hb hby at_40) (q := 43) rfl ?_
      intro T X eT
      generalize ha : (F7 (x2 &&& (9223372036854775807 : Int64)) (9223372036854775805 : Int64)) = a
      refine s_lstore X hx (hb hby at_43) (L' := #[.val (.int x0), .val (.int x1), .val (.long x2), .second, .val (.long x3), .second, .val (.int (0 : Int32)), .val (.int (2 : Int32)), .val (.ref a13), .val (.long a), .second, .unset, .unset, .unset, .unset]) rfl (q := 45) rfl ?_
      obtain ⟨ha0, hE0, hbo⟩ := own_abc (k := (2 : Int64)) (n := 2) ha (by decide) (by decide) (by decide)
      refine s_aload X hx (hb hby at_45) rfl rfl (q := 47) rfl ?_
      refine callV X hx hZ hown (W := 0) (argsL := []) (rest := []) (hw _ (List.mem_of_getElem? (i := 56) rfl)) (hw _ (List.mem_of_getElem? (i := 57) rfl)) (hw _ (List.mem_of_getElem? (i := 59) rfl)) (hw _ (List.mem_of_getElem? (i := 58) rfl)) (hw _ (List.mem_of_getElem? (i := 2) rfl)) (hw _ (List.mem_of_getElem? (i := 60) rfl)) (by decide) E_a13 (rm8 l Z a0 hw [] a13 (9223372036854775807 : Int64) (0 : Int64) (9223372036854775807 : Int64) h15 n0 sz F_a13_passOver F_a13_offered E_a13 (by decide +kernel)) eT (by decide) (by decide) (by decide) (by decide) (by rw [hml]; rfl) pd1 rfl rfl (Nat.le_of_ble_eq_true rfl) (hb hby at_47) (q := 50) rfl ?_
      intro v T Lc hQ X
      obtain ⟨rfl, eT, N'⟩ := hQ
      have N := Fr.app N N'
      refine s_ldc2 X hx hZ hown (hw _ (List.mem_of_getElem? (i := 51) rfl)) (hb hby at_50) (q := 53) rfl ?_
      refine s_lcmp X hx (hb hby at_53) (q := 54) rfl ?_
      refine f_lcmp_eq X hx (hb hby at_54) (q1 := 59) (by decide) (by decide) (q := 57) rfl (fun _ => ?_) (fun hq => absurd (rfl : (9223372036854775807 : Int64) = (9223372036854775807 : Int64)) hq)
      refine s_aload X hx (hb hby at_59) rfl rfl (q := 61) rfl ?_
      refine s_lload X hx (hb hby at_61) rfl (q := 63) rfl ?_
      refine callV X hx hZ hown (W := 0) (argsL := [(.long a)]) (rest := []) (hw _ (List.mem_of_getElem? (i := 64) rfl)) (hw _ (List.mem_of_getElem? (i := 65) rfl)) (hw _ (List.mem_of_getElem? (i := 67) rfl)) (hw _ (List.mem_of_getElem? (i := 66) rfl)) (hw _ (List.mem_of_getElem? (i := 2) rfl)) (hw _ (List.mem_of_getElem? (i := 68) rfl)) (by decide) E_a13 (rm9 l Z a0 hw [] a13 a kl gr (0 : Int32) (9223372036854775807 : Int64) (0 : Int64) (9223372036854775807 : Int64) ((9223372036854775807 : Int64) - a) a h15 n0 sz F_a13_kept F_a13_capacity F_a13_random F_a13_passOver F_a13_offered E_a13 g_a13 (by decide +kernel) ha0 (own_nmax a) rfl (Int64.zero_add a)) eT (by decide) (by decide) (by decide) (by decide) (by rw [hml]; rfl) pd3 rfl rfl (Nat.le_of_ble_eq_true rfl) (hb hby at_63) (q := 66) rfl ?_
      intro v T Lc hQ X
      obtain ⟨h16, eT⟩ : ∃ z, T.heap = z := ⟨_, rfl⟩
      rw [eT] at hQ
      obtain ⟨rfl, N', K', F_a13_kept', F_a13_capacity', F_a13_random', F_a13_passOver', F_a13_offered'⟩ := hQ
      have N := Fr.app N N'
      have O_old := O_old.keep K' (allS g_a13 all0)
      have E_a13 := E_a13.keep K'
      have E_kl := E_kl.keep K'
      have F_kl_elementData := F_kl_elementData.keep K' (ninS (Ne.symm ne_a13_kl) nin0)
      have F_kl_size := F_kl_size.keep K' (ninS (Ne.symm ne_a13_kl) nin0)
      have F_kl_modCount := F_kl_modCount.keep K' (ninS (Ne.symm ne_a13_kl) nin0)
      have E_gr := E_gr.keep K'
      have F_gr_state := F_gr_state.keep K' (ninS (Ne.symm ne_a13_gr) nin0)
      have sz : n0 ≤ h16.size := Nat.le_trans sz K'.1
      have F_a13_kept : Fld Z h16 a13 "com/example/cistern/cistern/ReservoirSampler" "kept" "Ljava/util/List;" (.ref kl) := F_a13_kept'
      have F_a13_capacity : Fld Z h16 a13 "com/example/cistern/cistern/ReservoirSampler" "capacity" "I" (.int (0 : Int32)) := F_a13_capacity'
      have F_a13_random : Fld Z h16 a13 "com/example/cistern/cistern/ReservoirSampler" "random" "Lcom/example/cistern/cistern/SplitMix64;" (.ref gr) := F_a13_random'
      have F_a13_passOver : Fld Z h16 a13 "com/example/cistern/cistern/ReservoirSampler" "passOver" "J" (.long ((9223372036854775807 : Int64) - a)) := F_a13_passOver'
      have F_a13_offered : Fld Z h16 a13 "com/example/cistern/cistern/ReservoirSampler" "offered" "J" (.long a) := F_a13_offered'
      refine s_aload X hx (hb hby at_66) rfl rfl (q := 68) rfl ?_
      refine s_iload X hx (hb hby at_68) rfl (q := 70) rfl ?_
      refine callC X hx hZ hown (W := 0) (argsL := [(.ref a13), (.int (2 : Int32))]) (rest := []) (hw _ (List.mem_of_getElem? (i := 70) rfl)) (hw _ (List.mem_of_getElem? (i := 71) rfl)) (hw _ (List.mem_of_getElem? (i := 72) rfl)) (hw _ (List.mem_of_getElem? (i := 73) rfl)) (by decide) (rm10_p2 l Z a0 hw [] a13 kl gr ((9223372036854775807 : Int64) - a) a (((9223372036854775807 : Int64) - a) - (2 : Int64)) (a + (2 : Int64)) h16 n0 sz F_a13_kept F_a13_capacity F_a13_random F_a13_passOver F_a13_offered E_a13 F_kl_size E_kl g_a13 g_kl hbo (by grind) (by grind)) eT (by decide) (by decide) (by decide) (by decide) (by rw [hml]; rfl) pd18 rfl rfl (Nat.le_of_ble_eq_true rfl) (hb hby at_70) (q := 73) rfl ?_
      intro v T Lc hQ X
      obtain ⟨h17, eT⟩ : ∃ z, T.heap = z := ⟨_, rfl⟩
      rw [eT] at hQ
      obtain ⟨rfl, N', K', F_a13_kept', F_a13_capacity', F_a13_random', F_a13_passOver', F_a13_offered'⟩ := hQ
      have N := Fr.app N N'
      have O_old := O_old.keep K' (allS g_a13 all0)
      have E_a13 := E_a13.keep K'
      have E_kl := E_kl.keep K'
      have F_kl_elementData := F_kl_elementData.keep K' (ninS (Ne.symm ne_a13_kl) nin0)
      have F_kl_size := F_kl_size.keep K' (ninS (Ne.symm ne_a13_kl) nin0)
      have F_kl_modCount := F_kl_modCount.keep K' (ninS (Ne.symm ne_a13_kl) nin0)
      have E_gr := E_gr.keep K'
      have F_gr_state := F_gr_state.keep K' (ninS (Ne.symm ne_a13_gr) nin0)
      have sz : n0 ≤ h17.size := Nat.le_trans sz K'.1
      have F_a13_kept : Fld Z h17 a13 "com/example/cistern/cistern/ReservoirSampler" "kept" "Ljava/util/List;" (.ref kl) := F_a13_kept'
      have F_a13_capacity : Fld Z h17 a13 "com/example/cistern/cistern/ReservoirSampler" "capacity" "I" (.int (0 : Int32)) := F_a13_capacity'
      have F_a13_random : Fld Z h17 a13 "com/example/cistern/cistern/ReservoirSampler" "random" "Lcom/example/cistern/cistern/SplitMix64;" (.ref gr) := F_a13_random'
      have F_a13_passOver : Fld Z h17 a13 "com/example/cistern/cistern/ReservoirSampler" "passOver" "J" (.long (((9223372036854775807 : Int64) - a) - (2 : Int64))) := F_a13_passOver'
      have F_a13_offered : Fld Z h17 a13 "com/example/cistern/cistern/ReservoirSampler" "offered" "J" (.long (a + (2 : Int64))) := F_a13_offered'
      refine s_aload X hx (hb hby at_73) rfl rfl (q := 75) rfl ?_
      refine callV X hx hZ hown (W := 0) (argsL := []) (rest := []) (hw _ (List.mem_of_getElem? (i := 56) rfl)) (hw _ (List.mem_of_getElem? (i := 57) rfl)) (hw _ (List.mem_of_getElem? (i := 59) rfl)) (hw _ (List.mem_of_getElem? (i := 58) rfl)) (hw _ (List.mem_of_getElem? (i := 2) rfl)) (hw _ (List.mem_of_getElem? (i := 60) rfl)) (by decide) E_a13 (rm8 l Z a0 hw [] a13 (((9223372036854775807 : Int64) - a) - (2 : Int64)) (a + (2 : Int64)) (((9223372036854775807 : Int64) - a) - (2 : Int64)) h17 n0 sz F_a13_passOver F_a13_offered E_a13 (own_fr rfl (by grind))) eT (by decide) (by decide) (by decide) (by decide) (by rw [hml]; rfl) pd1 rfl rfl (Nat.le_of_ble_eq_true rfl) (hb hby at_75) (q := 78) rfl ?_
      intro v T Lc hQ X
      obtain ⟨rfl, eT, N'⟩ := hQ
      have N := Fr.app N N'
      refine s_lstore X hx (hb hby at_78) (L' := #[.val (.int x0), .val (.int x1), .val (.long x2), .second, .val (.long x3), .second, .val (.int (0 : Int32)), .val (.int (2 : Int32)), .val (.ref a13), .val (.long a), .second, .val (.long (((9223372036854775807 : Int64) - a) - (2 : Int64))), .second, .unset, .unset]) rfl (q := 80) rfl ?_
      refine s_ldc2 X hx hZ hown (hw _ (List.mem_of_getElem? (i := 51) rfl)) (hb hby at_80) (q := 83) rfl ?_
      refine s_lload X hx (hb hby at_83) rfl (q := 85) rfl ?_
      refine s_lsub X hx (hb hby at_85) (q := 86) rfl ?_
      refine s_iload X hx (hb hby at_86) rfl (q := 88) rfl ?_
      refine s_i2l X hx (hb hby at_88) (q := 89) rfl ?_
      show Go p e below _ T m 89 #[.val (.int x0), .val (.int x1), .val (.long x2), .second, .val (.long x3), .second, .val (.int (0 : Int32)), .val (.int (2 : Int32)), .val (.ref a13), .val (.long a), .second, .val (.long (((9223372036854775807 : Int64) - a) - (2 : Int64))), .second, .unset, .unset] [(.long (2 : Int64)), (.long ((9223372036854775807 : Int64) - a))]
      refine s_lsub X hx (hb hby at_89) (q := 90) rfl ?_
      refine s_lstore X hx (hb hby at_90) (L' := #[.val (.int x0), .val (.int x1), .val (.long x2), .second, .val (.long x3), .second, .val (.int (0 : Int32)), .val (.int (2 : Int32)), .val (.ref a13), .val (.long a), .second, .val (.long (((9223372036854775807 : Int64) - a) - (2 : Int64))), .second, .val (.long (((9223372036854775807 : Int64) - a) - (2 : Int64))), .second]) rfl (q := 92) rfl ?_
      refine s_lload X hx (hb hby at_92) rfl (q := 94) rfl ?_
      refine s_lload X hx (hb hby at_94) rfl (q := 96) rfl ?_
      refine s_lcmp X hx (hb hby at_96) (q := 97) rfl ?_
      refine f_lcmp_ne X hx (hb hby at_97) (q1 := 126) (by decide) (by decide) (q := 100) rfl (fun hq => absurd (rfl : (((9223372036854775807 : Int64) - a) - (2 : Int64)) = (((9223372036854775807 : Int64) - a) - (2 : Int64))) hq) (fun _ => ?_)
      refine s_aload X hx (hb hby at_100) rfl rfl (q := 102) rfl ?_
      refine callV X hx hZ hown (W := 0) (argsL := []) (rest := []) (hw _ (List.mem_of_getElem? (i := 56) rfl)) (hw _ (List.mem_of_getElem? (i := 57) rfl)) (hw _ (List.mem_of_getElem? (i := 59) rfl)) (hw _ (List.mem_of_getElem? (i := 58) rfl)) (hw _ (List.mem_of_getElem? (i := 2) rfl)) (hw _ (List.mem_of_getElem? (i := 60) rfl)) (by decide) E_a13 (rm8 l Z a0 hw [] a13 (((9223372036854775807 : Int64) - a) - (2 : Int64)) (a + (2 : Int64)) (((9223372036854775807 : Int64) - a) - (2 : Int64)) h17 n0 sz F_a13_passOver F_a13_offered E_a13 (own_fr rfl (by grind))) eT (by decide) (by decide) (by decide) (by decide) (by rw [hml]; rfl) pd1 rfl rfl (Nat.le_of_ble_eq_true rfl) (hb hby at_102) (q := 105) rfl ?_
      intro v T Lc hQ X
      obtain ⟨rfl, eT, N'⟩ := hQ
      have N := Fr.app N N'
      refine s_lload X hx (hb hby at_105) rfl (q := 107) rfl ?_
      refine s_lcmp X hx (hb hby at_107) (q := 108) rfl ?_
      refine f_lcmp_ne X hx (hb hby at_108) (q1 := 126) (by decide) (by decide) (q := 111) rfl (fun hq => absurd (rfl : (((9223372036854775807 : Int64) - a) - (2 : Int64)) = (((9223372036854775807 : Int64) - a) - (2 : Int64))) hq) (fun _ => ?_)
      refine s_aload X hx (hb hby at_111) rfl rfl (q := 113) rfl ?_
      refine callV X hx hZ hown (W := 0) (argsL := []) (rest := []) (hw _ (List.mem_of_getElem? (i := 93) rfl)) (hw _ (List.mem_of_getElem? (i := 94) rfl)) (hw _ (List.mem_of_getElem? (i := 96) rfl)) (hw _ (List.mem_of_getElem? (i := 95) rfl)) (hw _ (List.mem_of_getElem? (i := 2) rfl)) (hw _ (List.mem_of_getElem? (i := 97) rfl)) (by decide) E_a13 (rm14 l Z a0 hw [] a13 (a + (2 : Int64)) h17 n0 sz F_a13_offered E_a13) eT (by decide) (by decide) (by decide) (by decide) (by rw [hml]; rfl) pd1 rfl rfl (Nat.le_of_ble_eq_true rfl) (hb hby at_113) (q := 116) rfl ?_
      intro v T Lc hQ X
      obtain ⟨rfl, eT, N'⟩ := hQ
      have N := Fr.app N N'
      refine s_lload X hx (hb hby at_116) rfl (q := 118) rfl ?_
      refine s_iload X hx (hb hby at_118) rfl (q := 120) rfl ?_
      refine s_i2l X hx (hb hby at_120) (q := 121) rfl ?_
      show Go p e below _ T m 121 #[.val (.int x0), .val (.int x1), .val (.long x2), .second, .val (.long x3), .second, .val (.int (0 : Int32)), .val (.int (2 : Int32)), .val (.ref a13), .val (.long a), .second, .val (.long (((9223372036854775807 : Int64) - a) - (2 : Int64))), .second, .val (.long (((9223372036854775807 : Int64) - a) - (2 : Int64))), .second] [(.long (2 : Int64)), (.long a), (.long (a + (2 : Int64)))]
      refine s_ladd X hx (hb hby at_121) (q := 122) rfl ?_
      refine s_lcmp X hx (hb hby at_122) (q := 123) rfl ?_
      refine f_lcmp_eq X hx (hb hby at_123) (q1 := 128) (by decide) (by decide) (q := 126) rfl (fun _ => ?_) (fun hq => absurd (rfl : (a + (2 : Int64)) = (a + (2 : Int64))) hq)
      refine s_aload X hx (hb hby at_128) rfl rfl (q := 130) rfl ?_
      refine s_lload X hx (hb hby at_130) rfl (q := 132) rfl ?_
      refine callV X hx hZ hown (W := 0) (argsL := [(.long (((9223372036854775807 : Int64) - a) - (2 : Int64)))]) (rest := []) (hw _ (List.mem_of_getElem? (i := 64) rfl)) (hw _ (List.mem_of_getElem? (i := 65) rfl)) (hw _ (List.mem_of_getElem? (i := 67) rfl)) (hw _ (List.mem_of_getElem? (i := 66) rfl)) (hw _ (List.mem_of_getElem? (i := 2) rfl)) (hw _ (List.mem_of_getElem? (i := 68) rfl)) (by decide) E_a13 (rm9 l Z a0 hw [] a13 (((9223372036854775807 : Int64) - a) - (2 : Int64)) kl gr (0 : Int32) (((9223372036854775807 : Int64) - a) - (2 : Int64)) (a + (2 : Int64)) (((9223372036854775807 : Int64) - a) - (2 : Int64)) (0 : Int64) (9223372036854775807 : Int64) h17 n0 sz F_a13_kept F_a13_capacity F_a13_random F_a13_passOver F_a13_offered E_a13 g_a13 (own_fr rfl (by grind)) hE0 (own_irr _) (by grind) (by grind)) eT (by decide) (by decide) (by decide) (by decide) (by rw [hml]; rfl) pd3 rfl rfl (Nat.le_of_ble_eq_true rfl) (hb hby at_132) (q := 135) rfl ?_
      intro v T Lc hQ X
      obtain ⟨h18, eT⟩ : ∃ z, T.heap = z := ⟨_, rfl⟩
      rw [eT] at hQ
      obtain ⟨rfl, N', K', F_a13_kept', F_a13_capacity', F_a13_random', F_a13_passOver', F_a13_offered'⟩ := hQ
      have N := Fr.app N N'
      have O_old := O_old.keep K' (allS g_a13 all0)
      have E_a13 := E_a13.keep K'
      have E_kl := E_kl.keep K'
      have F_kl_elementData := F_kl_elementData.keep K' (ninS (Ne.symm ne_a13_kl) nin0)
      have F_kl_size := F_kl_size.keep K' (ninS (Ne.symm ne_a13_kl) nin0)
      have F_kl_modCount := F_kl_modCount.keep K' (ninS (Ne.symm ne_a13_kl) nin0)
      have E_gr := E_gr.keep K'
      have F_gr_state := F_gr_state.keep K' (ninS (Ne.symm ne_a13_gr) nin0)
      have sz : n0 ≤ h18.size := Nat.le_trans sz K'.1
      have F_a13_kept : Fld Z h18 a13 "com/example/cistern/cistern/ReservoirSampler" "kept" "Ljava/util/List;" (.ref kl) := F_a13_kept'
      have F_a13_capacity : Fld Z h18 a13 "com/example/cistern/cistern/ReservoirSampler" "capacity" "I" (.int (0 : Int32)) := F_a13_capacity'
      have F_a13_random : Fld Z h18 a13 "com/example/cistern/cistern/ReservoirSampler" "random" "Lcom/example/cistern/cistern/SplitMix64;" (.ref gr) := F_a13_random'
      have F_a13_passOver : Fld Z h18 a13 "com/example/cistern/cistern/ReservoirSampler" "passOver" "J" (.long (0 : Int64)) := F_a13_passOver'
      have F_a13_offered : Fld Z h18 a13 "com/example/cistern/cistern/ReservoirSampler" "offered" "J" (.long (9223372036854775807 : Int64)) := F_a13_offered'
      refine s_aload X hx (hb hby at_135) rfl rfl (q := 137) rfl ?_
      refine callV X hx hZ hown (W := 0) (argsL := []) (rest := []) (hw _ (List.mem_of_getElem? (i := 56) rfl)) (hw _ (List.mem_of_getElem? (i := 57) rfl)) (hw _ (List.mem_of_getElem? (i := 59) rfl)) (hw _ (List.mem_of_getElem? (i := 58) rfl)) (hw _ (List.mem_of_getElem? (i := 2) rfl)) (hw _ (List.mem_of_getElem? (i := 60) rfl)) (by decide) E_a13 (rm8 l Z a0 hw [] a13 (0 : Int64) (9223372036854775807 : Int64) (0 : Int64) h18 n0 sz F_a13_passOver F_a13_offered E_a13 (by decide +kernel)) eT (by decide) (by decide) (by decide) (by decide) (by rw [hml]; rfl) pd1 rfl rfl (Nat.le_of_ble_eq_true rfl) (hb hby at_137) (q := 140) rfl ?_
      intro v T Lc hQ X
      obtain ⟨rfl, eT, N'⟩ := hQ
      have N := Fr.app N N'
      refine s_lconst X hx (z := (0 : Int64)) (hb hby at_140) rfl (q := 141) rfl ?_
      refine s_lcmp X hx (hb hby at_141) (q := 142) rfl ?_
      refine f_lcmp_ne X hx (hb hby at_142) (q1 := 161) (by decide) (by decide) (q := 145) rfl (fun hq => absurd (rfl : (0 : Int64) = (0 : Int64)) hq) (fun _ => ?_)
      refine s_aload X hx (hb hby at_145) rfl rfl (q := 147) rfl ?_
      refine callV X hx hZ hown (W := 0) (argsL := []) (rest := []) (hw _ (List.mem_of_getElem? (i := 93) rfl)) (hw _ (List.mem_of_getElem? (i := 94) rfl)) (hw _ (List.mem_of_getElem? (i := 96) rfl)) (hw _ (List.mem_of_getElem? (i := 95) rfl)) (hw _ (List.mem_of_getElem? (i := 2) rfl)) (hw _ (List.mem_of_getElem? (i := 97) rfl)) (by decide) E_a13 (rm14 l Z a0 hw [] a13 (9223372036854775807 : Int64) h18 n0 sz F_a13_offered E_a13) eT (by decide) (by decide) (by decide) (by decide) (by rw [hml]; rfl) pd1 rfl rfl (Nat.le_of_ble_eq_true rfl) (hb hby at_147) (q := 150) rfl ?_
      intro v T Lc hQ X
      obtain ⟨rfl, eT, N'⟩ := hQ
      have N := Fr.app N N'
      refine s_ldc2 X hx hZ hown (hw _ (List.mem_of_getElem? (i := 51) rfl)) (hb hby at_150) (q := 153) rfl ?_
      refine s_lcmp X hx (hb hby at_153) (q := 154) rfl ?_
      refine f_lcmp_ne X hx (hb hby at_154) (q1 := 161) (by decide) (by decide) (q := 157) rfl (fun hq => absurd (rfl : (9223372036854775807 : Int64) = (9223372036854775807 : Int64)) hq) (fun _ => ?_)
      refine s_iconst X hx (z := (1 : Int32)) (hb hby at_157) rfl (q := 158) rfl ?_
      refine s_goto X hx (hb hby at_158) (q1 := 162) (by decide) (by decide) ?_
      exact leafN X hx hlk hret (by simp) (hb hby at_162) (by decide) (by decide) (z' := 1) rfl ⟨rfl, N⟩
    · subst hcase
      refine s_istore X hx (hb hby at_8) (L' := #[.val (.int x0), .val (.int x1), .val (.long x2), .second, .val (.long x3), .second, .val (.int (0 : Int32)), .val (.int (3 : Int32)), .unset, .unset, .unset, .unset, .unset, .unset, .unset]) rfl (q := 10) rfl ?_
      refine s_new X hx hZ hown (hw _ (List.mem_of_getElem? (i := 0) rfl)) (hw _ (List.mem_of_getElem? (i := 1) rfl)) (hw _ (List.mem_of_getElem? (i := 2) rfl)) eT (by decide) (by decide) (hb hby at_10) (q := 13) rfl ?_
      intro T h20 a19 X eT E ea E_a19' Df
      have O_old := O_old.ext E
      have g_a19 : n0 ≤ a19 := by rw [ea]; exact sz
      have sz : n0 ≤ h20.size := Nat.le_trans sz E.1
      have E_a19 := E_a19'
      have F_a19_kept : Fld Z h20 a19 "com/example/cistern/cistern/ReservoirSampler" "kept" "Ljava/util/List;" .null := Df _ _ _ (.object "java/util/List") (Or.inr (hw _ (List.mem_of_getElem? (i := 34) rfl))) (by decide)
      have F_a19_capacity : Fld Z h20 a19 "com/example/cistern/cistern/ReservoirSampler" "capacity" "I" (.int (0 : Int32)) := Df _ _ _ .int (Or.inr (hw _ (List.mem_of_getElem? (i := 36) rfl))) (by decide)
      have F_a19_random : Fld Z h20 a19 "com/example/cistern/cistern/ReservoirSampler" "random" "Lcom/example/cistern/cistern/SplitMix64;" .null := Df _ _ _ (.object "com/example/cistern/cistern/SplitMix64") (Or.inr (hw _ (List.mem_of_getElem? (i := 47) rfl))) (by decide)
      have F_a19_passOver : Fld Z h20 a19 "com/example/cistern/cistern/ReservoirSampler" "passOver" "J" (.long (0 : Int64)) := Df _ _ _ .long (Or.inl (hw _ (List.mem_of_getElem? (i := 50) rfl))) (by decide)
      have F_a19_offered : Fld Z h20 a19 "com/example/cistern/cistern/ReservoirSampler" "offered" "J" (.long (0 : Int64)) := Df _ _ _ .long (Or.inl (hw _ (List.mem_of_getElem? (i := 62) rfl))) (by decide)
      refine s_dup X hx (hb hby at_13) rfl (q := 14) rfl ?_
      refine s_iload X hx (hb hby at_14) rfl (q := 16) rfl ?_
      refine s_lload X hx (hb hby at_16) rfl (q := 18) rfl ?_
      refine callI X hx hZ hown (W := 1) (argsL := [(.int (0 : Int32)), (.long x3)]) (rest := [(.ref a19)]) rfl (hw _ (List.mem_of_getElem? (i := 3) rfl)) (hw _ (List.mem_of_getElem? (i := 4) rfl)) (hw _ (List.mem_of_getElem? (i := 2) rfl)) (hw _ (List.mem_of_getElem? (i := 5) rfl)) (by decide) (rm1_0 l Z a0 hw [] a19 x3 d0 h20 n0 sz F_a19_kept F_a19_capacity F_a19_random F_a19_passOver F_a19_offered E_a19 g_a19 S0 A0 O_old) eT (by decide) (by decide) (by decide) (by decide) (by rw [hml]; rfl) pd17 rfl rfl (Nat.le_of_ble_eq_true rfl) (hb hby at_18) (q := 21) rfl ?_
      intro v T Lc hQ X
      obtain ⟨h21, eT⟩ : ∃ z, T.heap = z := ⟨_, rfl⟩
      rw [eT] at hQ
      obtain ⟨kl, gr, rfl, N', K', F_a19_kept', F_a19_capacity', F_a19_random', F_a19_passOver', F_a19_offered', F_kl_elementData', F_kl_size', F_kl_modCount', E_kl', F_gr_state', E_gr', sq_kl, sq_gr⟩ := hQ
      have N := Fr.app N N'
      have g_kl : n0 ≤ kl := Nat.le_trans sz sq_kl
      have ne_a19_kl : a19 ≠ kl := Nat.ne_of_lt (Nat.lt_of_lt_of_le E_a19.lt sq_kl)
      have g_gr : n0 ≤ gr := Nat.le_trans sz sq_gr
      have ne_a19_gr : a19 ≠ gr := Nat.ne_of_lt (Nat.lt_of_lt_of_le E_a19.lt sq_gr)
      have O_old := O_old.keep K' (allS g_a19 all0)
      have E_a19 := E_a19.keep K'
      have sz : n0 ≤ h21.size := Nat.le_trans sz K'.1
      have F_a19_kept : Fld Z h21 a19 "com/example/cistern/cistern/ReservoirSampler" "kept" "Ljava/util/List;" (.ref kl) := F_a19_kept'
      have F_a19_capacity : Fld Z h21 a19 "com/example/cistern/cistern/ReservoirSampler" "capacity" "I" (.int (0 : Int32)) := F_a19_capacity'
      have F_a19_random : Fld Z h21 a19 "com/example/cistern/cistern/ReservoirSampler" "random" "Lcom/example/cistern/cistern/SplitMix64;" (.ref gr) := F_a19_random'
      have F_a19_passOver : Fld Z h21 a19 "com/example/cistern/cistern/ReservoirSampler" "passOver" "J" (.long (9223372036854775807 : Int64)) := F_a19_passOver'
      have F_a19_offered : Fld Z h21 a19 "com/example/cistern/cistern/ReservoirSampler" "offered" "J" (.long (0 : Int64)) := F_a19_offered'
      have F_kl_elementData : Fld Z h21 kl "java/util/ArrayList" "elementData" "[Ljava/lang/Object;" (.ref d0) := F_kl_elementData'
      have F_kl_size : Fld Z h21 kl "java/util/ArrayList" "size" "I" (.int (0 : Int32)) := F_kl_size'
      have F_kl_modCount : Fld Z h21 kl "java/util/AbstractList" "modCount" "I" (.int (0 : Int32)) := F_kl_modCount'
      have E_kl : Exa Z h21 kl "java/util/ArrayList" := E_kl'
      have F_gr_state : Fld Z h21 gr "com/example/cistern/cistern/SplitMix64" "state" "J" (.long x3) := F_gr_state'
      have E_gr : Exa Z h21 gr "com/example/cistern/cistern/SplitMix64" := E_gr'
      have ne_kl_gr := ne_exa E_kl E_gr (by decide)
      refine s_astore X hx (hb hby at_21) rfl (L' := #[.val (.int x0), .val (.int x1), .val (.long x2), .second, .val (.long x3), .second, .val (.int (0 : Int32)), .val (.int (3 : Int32)), .val (.ref a19), .unset, .unset, .unset, .unset, .unset, .unset]) rfl (q := 23) rfl ?_
      refine s_iload X hx (hb hby at_23) rfl (q := 25) rfl ?_
      refine f_if_ne X hx (hb hby at_25) (q1 := 163) (by decide) (by decide) (q := 28) rfl (fun hq => absurd (by decide : (0 : Int32) = 0) hq) (fun _ => ?_)
      refine s_lloadN X hx (hb hby at_28) rfl (q := 29) rfl ?_
      refine s_ldc2 X hx hZ hown (hw _ (List.mem_of_getElem? (i := 51) rfl)) (hb hby at_29) (q := 32) rfl ?_
      refine s_land X hx (hb hby at_32) (q := 33) rfl ?_
      refine s_ldc2 X hx hZ hown (hw _ (List.mem_of_getElem? (i := 51) rfl)) (hb hby at_33) (q := 36) rfl ?_
      refine s_iload X hx (hb hby at_36) rfl (q := 38) rfl ?_
      refine s_i2l X hx (hb hby at_38) (q := 39) rfl ?_
      show Go p e below _ T m 39 #[.val (.int x0), .val (.int x1), .val (.long x2), .second, .val (.long x3), .second, .val (.int (0 : Int32)), .val (.int (3 : Int32)), .val (.ref a19), .unset, .unset, .unset, .unset, .unset, .unset] [(.long (3 : Int64)), (.long (9223372036854775807 : Int64)), (.long (x2 &&& (9223372036854775807 : Int64)))]
      refine s_lsub X hx (hb hby at_39) (q := 40) rfl ?_
      show Go p e below _ T m 40 #[.val (.int x0), .val (.int x1), .val (.long x2), .second, .val (.long x3), .second, .val (.int (0 : Int32)), .val (.int (3 : Int32)), .val (.ref a19), .unset, .unset, .unset, .unset, .unset, .unset] [(.long (9223372036854775804 : Int64)), (.long (x2 &&& (9223372036854775807 : Int64)))]
      refine callP X hx hZ hown (W := 0) (argsL := [(.long (x2 &&& (9223372036854775807 : Int64))), (.long (9223372036854775804 : Int64))]) (rest := []) (hw _ (List.mem_of_getElem? (i := 52) rfl)) (hw _ (List.mem_of_getElem? (i := 53) rfl)) (hw _ (List.mem_of_getElem? (i := 54) rfl)) (hw _ (List.mem_of_getElem? (i := 55) rfl)) (by decide) (rm7 l Z a0 hw [] (x2 &&& (9223372036854775807 : Int64)) (9223372036854775804 : Int64) h21) rfl rfl eT (by decide) (by decide) (by decide) (by decide) (by rw [hml]; rfl) pd4 rfl rfl (Nat.le_of_ble_eq_true rfl) (hb hby at_40) (q := 43) rfl ?_
      intro T X eT
      generalize ha : (F7 (x2 &&& (9223372036854775807 : Int64)) (9223372036854775804 : Int64)) = a
      refine s_lstore X hx (hb hby at_43) (L' := #[.val (.int x0), .val (.int x1), .val (.long x2), .second, .val (.long x3), .second, .val (.int (0 : Int32)), .val (.int (3 : Int32)), .val (.ref a19), .val (.long a), .second, .unset, .unset, .unset, .unset]) rfl (q := 45) rfl ?_
      obtain ⟨ha0, hE0, hbo⟩ := own_abc (k := (3 : Int64)) (n := 3) ha (by decide) (by decide) (by decide)
      refine s_aload X hx (hb hby at_45) rfl rfl (q := 47) rfl ?_
      refine callV X hx hZ hown (W := 0) (argsL := []) (rest := []) (hw _ (List.mem_of_getElem? (i := 56) rfl)) (hw _ (List.mem_of_getElem? (i := 57) rfl)) (hw _ (List.mem_of_getElem? (i := 59) rfl)) (hw _ (List.mem_of_getElem? (i := 58) rfl)) (hw _ (List.mem_of_getElem? (i := 2) rfl)) (hw _ (List.mem_of_getElem? (i := 60) rfl)) (by decide) E_a19 (rm8 l Z a0 hw [] a19 (9223372036854775807 : Int64) (0 : Int64) (9223372036854775807 : Int64) h21 n0 sz F_a19_passOver F_a19_offered E_a19 (by decide +kernel)) eT (by decide) (by decide) (by decide) (by decide) (by rw [hml]; rfl) pd1 rfl rfl (Nat.le_of_ble_eq_true rfl) (hb hby at_47) (q := 50) rfl ?_
      intro v T Lc hQ X
      obtain ⟨rfl, eT, N'⟩ := hQ
      have N := Fr.app N N'
      refine s_ldc2 X hx hZ hown (hw _ (List.mem_of_getElem? (i := 51) rfl)) (hb hby at_50) (q := 53) rfl ?_
      refine s_lcmp X hx (hb hby at_53) (q := 54) rfl ?_
      refine f_lcmp_eq X hx (hb hby at_54) (q1 := 59) (by decide) (by decide) (q := 57) rfl (fun _ => ?_) (fun hq => absurd (rfl : (9223372036854775807 : Int64) = (9223372036854775807 : Int64)) hq)
      refine s_aload X hx (hb hby at_59) rfl rfl (q := 61) rfl ?_
      refine s_lload X hx (hb hby at_61) rfl (q := 63) rfl ?_
      refine callV X hx hZ hown (W := 0) (argsL := [(.long a)]) (rest := []) (hw _ (List.mem_of_getElem? (i := 64) rfl)) (hw _ (List.mem_of_getElem? (i := 65) rfl)) (hw _ (List.mem_of_getElem? (i := 67) rfl)) (hw _ (List.mem_of_getElem? (i := 66) rfl)) (hw _ (List.mem_of_getElem? (i := 2) rfl)) (hw _ (List.mem_of_getElem? (i := 68) rfl)) (by decide) E_a19 (rm9 l Z a0 hw [] a19 a kl gr (0 : Int32) (9223372036854775807 : Int64) (0 : Int64) (9223372036854775807 : Int64) ((9223372036854775807 : Int64) - a) a h21 n0 sz F_a19_kept F_a19_capacity F_a19_random F_a19_passOver F_a19_offered E_a19 g_a19 (by decide +kernel) ha0 (own_nmax a) rfl (Int64.zero_add a)) eT (by decide) (by decide) (by decide) (by decide) (by rw [hml]; rfl) pd3 rfl rfl (Nat.le_of_ble_eq_true rfl) (hb hby at_63) (q := 66) rfl ?_
      intro v T Lc hQ X
      obtain ⟨h22, eT⟩ : ∃ z, T.heap = z := ⟨_, rfl⟩
      rw [eT] at hQ
      obtain ⟨rfl, N', K', F_a19_kept', F_a19_capacity', F_a19_random', F_a19_passOver', F_a19_offered'⟩ := hQ
      have N := Fr.app N N'
      have O_old := O_old.keep K' (allS g_a19 all0)
      have E_a19 := E_a19.keep K'
      have E_kl := E_kl.keep K'
      have F_kl_elementData := F_kl_elementData.keep K' (ninS (Ne.symm ne_a19_kl) nin0)
      have F_kl_size := F_kl_size.keep K' (ninS (Ne.symm ne_a19_kl) nin0)
      have F_kl_modCount := F_kl_modCount.keep K' (ninS (Ne.symm ne_a19_kl) nin0)
      have E_gr := E_gr.keep K'
      have F_gr_state := F_gr_state.keep K' (ninS (Ne.symm ne_a19_gr) nin0)
      have sz : n0 ≤ h22.size := Nat.le_trans sz K'.1
      have F_a19_kept : Fld Z h22 a19 "com/example/cistern/cistern/ReservoirSampler" "kept" "Ljava/util/List;" (.ref kl) := F_a19_kept'
      have F_a19_capacity : Fld Z h22 a19 "com/example/cistern/cistern/ReservoirSampler" "capacity" "I" (.int (0 : Int32)) := F_a19_capacity'
      have F_a19_random : Fld Z h22 a19 "com/example/cistern/cistern/ReservoirSampler" "random" "Lcom/example/cistern/cistern/SplitMix64;" (.ref gr) := F_a19_random'
      have F_a19_passOver : Fld Z h22 a19 "com/example/cistern/cistern/ReservoirSampler" "passOver" "J" (.long ((9223372036854775807 : Int64) - a)) := F_a19_passOver'
      have F_a19_offered : Fld Z h22 a19 "com/example/cistern/cistern/ReservoirSampler" "offered" "J" (.long a) := F_a19_offered'
      refine s_aload X hx (hb hby at_66) rfl rfl (q := 68) rfl ?_
      refine s_iload X hx (hb hby at_68) rfl (q := 70) rfl ?_
      refine callC X hx hZ hown (W := 0) (argsL := [(.ref a19), (.int (3 : Int32))]) (rest := []) (hw _ (List.mem_of_getElem? (i := 70) rfl)) (hw _ (List.mem_of_getElem? (i := 71) rfl)) (hw _ (List.mem_of_getElem? (i := 72) rfl)) (hw _ (List.mem_of_getElem? (i := 73) rfl)) (by decide) (rm10_p3 l Z a0 hw [] a19 kl gr ((9223372036854775807 : Int64) - a) a (((9223372036854775807 : Int64) - a) - (3 : Int64)) (a + (3 : Int64)) h22 n0 sz F_a19_kept F_a19_capacity F_a19_random F_a19_passOver F_a19_offered E_a19 F_kl_size E_kl g_a19 g_kl hbo (by grind) (by grind)) eT (by decide) (by decide) (by decide) (by decide) (by rw [hml]; rfl) pd18 rfl rfl (Nat.le_of_ble_eq_true rfl) (hb hby at_70) (q := 73) rfl ?_
      intro v T Lc hQ X
      obtain ⟨h23, eT⟩ : ∃ z, T.heap = z := ⟨_, rfl⟩
      rw [eT] at hQ
      obtain ⟨rfl, N', K', F_a19_kept', F_a19_capacity', F_a19_random', F_a19_passOver', F_a19_offered'⟩ := hQ
      have N := Fr.app N N'
      have O_old := O_old.keep K' (allS g_a19 all0)
      have E_a19 := E_a19.keep K'
      have E_kl := E_kl.keep K'
      have F_kl_elementData := F_kl_elementData.keep K' (ninS (Ne.symm ne_a19_kl) nin0)
      have F_kl_size := F_kl_size.keep K' (ninS (Ne.symm ne_a19_kl) nin0)
      have F_kl_modCount := F_kl_modCount.keep K' (ninS (Ne.symm ne_a19_kl) nin0)
      have E_gr := E_gr.keep K'
      have F_gr_state := F_gr_state.keep K' (ninS (Ne.symm ne_a19_gr) nin0)
      have sz : n0 ≤ h23.size := Nat.le_trans sz K'.1
      have F_a19_kept : Fld Z h23 a19 "com/example/cistern/cistern/ReservoirSampler" "kept" "Ljava/util/List;" (.ref kl) := F_a19_kept'
      have F_a19_capacity : Fld Z h23 a19 "com/example/cistern/cistern/ReservoirSampler" "capacity" "I" (.int (0 : Int32)) := F_a19_capacity'
      have F_a19_random : Fld Z h23 a19 "com/example/cistern/cistern/ReservoirSampler" "random" "Lcom/example/cistern/cistern/SplitMix64;" (.ref gr) := F_a19_random'
      have F_a19_passOver : Fld Z h23 a19 "com/example/cistern/cistern/ReservoirSampler" "passOver" "J" (.long (((9223372036854775807 : Int64) - a) - (3 : Int64))) := F_a19_passOver'
      have F_a19_offered : Fld Z h23 a19 "com/example/cistern/cistern/ReservoirSampler" "offered" "J" (.long (a + (3 : Int64))) := F_a19_offered'
      refine s_aload X hx (hb hby at_73) rfl rfl (q := 75) rfl ?_
      refine callV X hx hZ hown (W := 0) (argsL := []) (rest := []) (hw _ (List.mem_of_getElem? (i := 56) rfl)) (hw _ (List.mem_of_getElem? (i := 57) rfl)) (hw _ (List.mem_of_getElem? (i := 59) rfl)) (hw _ (List.mem_of_getElem? (i := 58) rfl)) (hw _ (List.mem_of_getElem? (i := 2) rfl)) (hw _ (List.mem_of_getElem? (i := 60) rfl)) (by decide) E_a19 (rm8 l Z a0 hw [] a19 (((9223372036854775807 : Int64) - a) - (3 : Int64)) (a + (3 : Int64)) (((9223372036854775807 : Int64) - a) - (3 : Int64)) h23 n0 sz F_a19_passOver F_a19_offered E_a19 (own_fr rfl (by grind))) eT (by decide) (by decide) (by decide) (by decide) (by rw [hml]; rfl) pd1 rfl rfl (Nat.le_of_ble_eq_true rfl) (hb hby at_75) (q := 78) rfl ?_
      intro v T Lc hQ X
      obtain ⟨rfl, eT, N'⟩ := hQ
      have N := Fr.app N N'
      refine s_lstore X hx (hb hby at_78) (L' := #[.val (.int x0), .val (.int x1), .val (.long x2), .second, .val (.long x3), .second, .val (.int (0 : Int32)), .val (.int (3 : Int32)), .val (.ref a19), .val (.long a), .second, .val (.long (((9223372036854775807 : Int64) - a) - (3 : Int64))), .second, .unset, .unset]) rfl (q := 80) rfl ?_
      refine s_ldc2 X hx hZ hown (hw _ (List.mem_of_getElem? (i := 51) rfl)) (hb hby at_80) (q := 83) rfl ?_
      refine s_lload X hx (hb hby at_83) rfl (q := 85) rfl ?_
      refine s_lsub X hx (hb hby at_85) (q := 86) rfl ?_
      refine s_iload X hx (hb hby at_86) rfl (q := 88) rfl ?_
      refine s_i2l X hx (hb hby at_88) (q := 89) rfl ?_
      show Go p e below _ T m 89 #[.val (.int x0), .val (.int x1), .val (.long x2), .second, .val (.long x3), .second, .val (.int (0 : Int32)), .val (.int (3 : Int32)), .val (.ref a19), .val (.long a), .second, .val (.long (((9223372036854775807 : Int64) - a) - (3 : Int64))), .second, .unset, .unset] [(.long (3 : Int64)), (.long ((9223372036854775807 : Int64) - a))]
      refine s_lsub X hx (hb hby at_89) (q := 90) rfl ?_
      refine s_lstore X hx (hb hby at_90) (L' := #[.val (.int x0), .val (.int x1), .val (.long x2), .second, .val (.long x3), .second, .val (.int (0 : Int32)), .val (.int (3 : Int32)), .val (.ref a19), .val (.long a), .second, .val (.long (((9223372036854775807 : Int64) - a) - (3 : Int64))), .second, .val (.long (((9223372036854775807 : Int64) - a) - (3 : Int64))), .second]) rfl (q := 92) rfl ?_
      refine s_lload X hx (hb hby at_92) rfl (q := 94) rfl ?_
      refine s_lload X hx (hb hby at_94) rfl (q := 96) rfl ?_
      refine s_lcmp X hx (hb hby at_96) (q := 97) rfl ?_
      refine f_lcmp_ne X hx (hb hby at_97) (q1 := 126) (by decide) (by decide) (q := 100) rfl (fun hq => absurd (rfl : (((9223372036854775807 : Int64) - a) - (3 : Int64)) = (((9223372036854775807 : Int64) - a) - (3 : Int64))) hq) (fun _ => ?_)
      refine s_aload X hx (hb hby at_100) rfl rfl (q := 102) rfl ?_
      refine callV X hx hZ hown (W := 0) (argsL := []) (rest := []) (hw _ (List.mem_of_getElem? (i := 56) rfl)) (hw _ (List.mem_of_getElem? (i := 57) rfl)) (hw _ (List.mem_of_getElem? (i := 59) rfl)) (hw _ (List.mem_of_getElem? (i := 58) rfl)) (hw _ (List.mem_of_getElem? (i := 2) rfl)) (hw _ (List.mem_of_getElem? (i := 60) rfl)) (by decide) E_a19 (rm8 l Z a0 hw [] a19 (((9223372036854775807 : Int64) - a) - (3 : Int64)) (a + (3 : Int64)) (((9223372036854775807 : Int64) - a) - (3 : Int64)) h23 n0 sz F_a19_passOver F_a19_offered E_a19 (own_fr rfl (by grind))) eT (by decide) (by decide) (by decide) (by decide) (by rw [hml]; rfl) pd1 rfl rfl (Nat.le_of_ble_eq_true rfl) (hb hby at_102) (q := 105) rfl ?_
      intro v T Lc hQ X
      obtain ⟨rfl, eT, N'⟩ := hQ
      have N := Fr.app N N'
      refine s_lload X hx (hb hby at_105) rfl (q := 107) rfl ?_
      refine s_lcmp X hx (hb hby at_107) (q := 108) rfl ?_
      refine f_lcmp_ne X hx (hb hby at_108) (q1 := 126) (by decide) (by decide) (q := 111) rfl (fun hq => absurd (rfl : (((9223372036854775807 : Int64) - a) - (3 : Int64)) = (((9223372036854775807 : Int64) - a) - (3 : Int64))) hq) (fun _ => ?_)
      refine s_aload X hx (hb hby at_111) rfl rfl (q := 113) rfl ?_
      refine callV X hx hZ hown (W := 0) (argsL := []) (rest := []) (hw _ (List.mem_of_getElem? (i := 93) rfl)) (hw _ (List.mem_of_getElem? (i := 94) rfl)) (hw _ (List.mem_of_getElem? (i := 96) rfl)) (hw _ (List.mem_of_getElem? (i := 95) rfl)) (hw _ (List.mem_of_getElem? (i := 2) rfl)) (hw _ (List.mem_of_getElem? (i := 97) rfl)) (by decide) E_a19 (rm14 l Z a0 hw [] a19 (a + (3 : Int64)) h23 n0 sz F_a19_offered E_a19) eT (by decide) (by decide) (by decide) (by decide) (by rw [hml]; rfl) pd1 rfl rfl (Nat.le_of_ble_eq_true rfl) (hb hby at_113) (q := 116) rfl ?_
      intro v T Lc hQ X
      obtain ⟨rfl, eT, N'⟩ := hQ
      have N := Fr.app N N'
      refine s_lload X hx (hb hby at_116) rfl (q := 118) rfl ?_
      refine s_iload X hx (hb hby at_118) rfl (q := 120) rfl ?_
      refine s_i2l X hx (hb hby at_120) (q := 121) rfl ?_
      show Go p e below _ T m 121 #[.val (.int x0), .val (.int x1), .val (.long x2), .second, .val (.long x3), .second, .val (.int (0 : Int32)), .val (.int (3 : Int32)), .val (.ref a19), .val (.long a), .second, .val (.long (((9223372036854775807 : Int64) - a) - (3 : Int64))), .second, .val (.long (((9223372036854775807 : Int64) - a) - (3 : Int64))), .second] [(.long (3 : Int64)), (.long a), (.long (a + (3 : Int64)))]
      refine s_ladd X hx (hb hby at_121) (q := 122) rfl ?_
      refine s_lcmp X hx (hb hby at_122) (q := 123) rfl ?_
      refine f_lcmp_eq X hx (hb hby at_123) (q1 := 128) (by decide) (by decide) (q := 126) rfl (fun _ => ?_) (fun hq => absurd (rfl : (a + (3 : Int64)) = (a + (3 : Int64))) hq)
      refine s_aload X hx (hb hby at_128) rfl rfl (q := 130) rfl ?_
      refine s_lload X hx (hb hby at_130) rfl (q := 132) rfl ?_
      refine callV X hx hZ hown (W := 0) (argsL := [(.long (((9223372036854775807 : Int64) - a) - (3 : Int64)))]) (rest := []) (hw _ (List.mem_of_getElem? (i := 64) rfl)) (hw _ (List.mem_of_getElem? (i := 65) rfl)) (hw _ (List.mem_of_getElem? (i := 67) rfl)) (hw _ (List.mem_of_getElem? (i := 66) rfl)) (hw _ (List.mem_of_getElem? (i := 2) rfl)) (hw _ (List.mem_of_getElem? (i := 68) rfl)) (by decide) E_a19 (rm9 l Z a0 hw [] a19 (((9223372036854775807 : Int64) - a) - (3 : Int64)) kl gr (0 : Int32) (((9223372036854775807 : Int64) - a) - (3 : Int64)) (a + (3 : Int64)) (((9223372036854775807 : Int64) - a) - (3 : Int64)) (0 : Int64) (9223372036854775807 : Int64) h23 n0 sz F_a19_kept F_a19_capacity F_a19_random F_a19_passOver F_a19_offered E_a19 g_a19 (own_fr rfl (by grind)) hE0 (own_irr _) (by grind) (by grind)) eT (by decide) (by decide) (by decide) (by decide) (by rw [hml]; rfl) pd3 rfl rfl (Nat.le_of_ble_eq_true rfl) (hb hby at_132) (q := 135) rfl ?_
      intro v T Lc hQ X
      obtain ⟨h24, eT⟩ : ∃ z, T.heap = z := ⟨_, rfl⟩
      rw [eT] at hQ
      obtain ⟨rfl, N', K', F_a19_kept', F_a19_capacity', F_a19_random', F_a19_passOver', F_a19_offered'⟩ := hQ
      have N := Fr.app N N'
      have O_old := O_old.keep K' (allS g_a19 all0)
      have E_a19 := E_a19.keep K'
      have E_kl := E_kl.keep K'
      have F_kl_elementData := F_kl_elementData.keep K' (ninS (Ne.symm ne_a19_kl) nin0)
      have F_kl_size := F_kl_size.keep K' (ninS (Ne.symm ne_a19_kl) nin0)
      have F_kl_modCount := F_kl_modCount.keep K' (ninS (Ne.symm ne_a19_kl) nin0)
      have E_gr := E_gr.keep K'
      have F_gr_state := F_gr_state.keep K' (ninS (Ne.symm ne_a19_gr) nin0)
      have sz : n0 ≤ h24.size := Nat.le_trans sz K'.1
      have F_a19_kept : Fld Z h24 a19 "com/example/cistern/cistern/ReservoirSampler" "kept" "Ljava/util/List;" (.ref kl) := F_a19_kept'
      have F_a19_capacity : Fld Z h24 a19 "com/example/cistern/cistern/ReservoirSampler" "capacity" "I" (.int (0 : Int32)) := F_a19_capacity'
      have F_a19_random : Fld Z h24 a19 "com/example/cistern/cistern/ReservoirSampler" "random" "Lcom/example/cistern/cistern/SplitMix64;" (.ref gr) := F_a19_random'
      have F_a19_passOver : Fld Z h24 a19 "com/example/cistern/cistern/ReservoirSampler" "passOver" "J" (.long (0 : Int64)) := F_a19_passOver'
      have F_a19_offered : Fld Z h24 a19 "com/example/cistern/cistern/ReservoirSampler" "offered" "J" (.long (9223372036854775807 : Int64)) := F_a19_offered'
      refine s_aload X hx (hb hby at_135) rfl rfl (q := 137) rfl ?_
      refine callV X hx hZ hown (W := 0) (argsL := []) (rest := []) (hw _ (List.mem_of_getElem? (i := 56) rfl)) (hw _ (List.mem_of_getElem? (i := 57) rfl)) (hw _ (List.mem_of_getElem? (i := 59) rfl)) (hw _ (List.mem_of_getElem? (i := 58) rfl)) (hw _ (List.mem_of_getElem? (i := 2) rfl)) (hw _ (List.mem_of_getElem? (i := 60) rfl)) (by decide) E_a19 (rm8 l Z a0 hw [] a19 (0 : Int64) (9223372036854775807 : Int64) (0 : Int64) h24 n0 sz F_a19_passOver F_a19_offered E_a19 (by decide +kernel)) eT (by decide) (by decide) (by decide) (by decide) (by rw [hml]; rfl) pd1 rfl rfl (Nat.le_of_ble_eq_true rfl) (hb hby at_137) (q := 140) rfl ?_
      intro v T Lc hQ X
      obtain ⟨rfl, eT, N'⟩ := hQ
      have N := Fr.app N N'
      refine s_lconst X hx (z := (0 : Int64)) (hb hby at_140) rfl (q := 141) rfl ?_
      refine s_lcmp X hx (hb hby at_141) (q := 142) rfl ?_
      refine f_lcmp_ne X hx (hb hby at_142) (q1 := 161) (by decide) (by decide) (q := 145) rfl (fun hq => absurd (rfl : (0 : Int64) = (0 : Int64)) hq) (fun _ => ?_)
      refine s_aload X hx (hb hby at_145) rfl rfl (q := 147) rfl ?_
      refine callV X hx hZ hown (W := 0) (argsL := []) (rest := []) (hw _ (List.mem_of_getElem? (i := 93) rfl)) (hw _ (List.mem_of_getElem? (i := 94) rfl)) (hw _ (List.mem_of_getElem? (i := 96) rfl)) (hw _ (List.mem_of_getElem? (i := 95) rfl)) (hw _ (List.mem_of_getElem? (i := 2) rfl)) (hw _ (List.mem_of_getElem? (i := 97) rfl)) (by decide) E_a19 (rm14 l Z a0 hw [] a19 (9223372036854775807 : Int64) h24 n0 sz F_a19_offered E_a19) eT (by decide) (by decide) (by decide) (by decide) (by rw [hml]; rfl) pd1 rfl rfl (Nat.le_of_ble_eq_true rfl) (hb hby at_147) (q := 150) rfl ?_
      intro v T Lc hQ X
      obtain ⟨rfl, eT, N'⟩ := hQ
      have N := Fr.app N N'
      refine s_ldc2 X hx hZ hown (hw _ (List.mem_of_getElem? (i := 51) rfl)) (hb hby at_150) (q := 153) rfl ?_
      refine s_lcmp X hx (hb hby at_153) (q := 154) rfl ?_
      refine f_lcmp_ne X hx (hb hby at_154) (q1 := 161) (by decide) (by decide) (q := 157) rfl (fun hq => absurd (rfl : (9223372036854775807 : Int64) = (9223372036854775807 : Int64)) hq) (fun _ => ?_)
      refine s_iconst X hx (z := (1 : Int32)) (hb hby at_157) rfl (q := 158) rfl ?_
      refine s_goto X hx (hb hby at_158) (q1 := 162) (by decide) (by decide) ?_
      exact leafN X hx hlk hret (by simp) (hb hby at_162) (by decide) (by decide) (z' := 1) rfl ⟨rfl, N⟩
  · subst hcase
    refine s_istore X hx (hb hby at_3) (L' := #[.val (.int x0), .val (.int x1), .val (.long x2), .second, .val (.long x3), .second, .val (.int (1 : Int32)), .unset, .unset, .unset, .unset, .unset, .unset, .unset, .unset]) rfl (q := 5) rfl ?_
    refine s_iloadN X hx (hb hby at_5) rfl (q := 6) rfl ?_
    refine s_iconst X hx (z := (3 : Int32)) (hb hby at_6) rfl (q := 7) rfl ?_
    refine s_iand X hx (hb hby at_7) (q := 8) rfl ?_
    generalize hkn : (x1 &&& (3 : Int32)) = kn
    rcases own_and3 hkn with hcase | hcase | hcase | hcase
    · subst hcase
      refine s_istore X hx (hb hby at_8) (L' := #[.val (.int x0), .val (.int x1), .val (.long x2), .second, .val (.long x3), .second, .val (.int (1 : Int32)), .val (.int (0 : Int32)), .unset, .unset, .unset, .unset, .unset, .unset, .unset]) rfl (q := 10) rfl ?_
      refine s_new X hx hZ hown (hw _ (List.mem_of_getElem? (i := 0) rfl)) (hw _ (List.mem_of_getElem? (i := 1) rfl)) (hw _ (List.mem_of_getElem? (i := 2) rfl)) eT (by decide) (by decide) (hb hby at_10) (q := 13) rfl ?_
      intro T h26 a25 X eT E ea E_a25' Df
      have O_old := O_old.ext E
      have g_a25 : n0 ≤ a25 := by rw [ea]; exact sz
      have sz : n0 ≤ h26.size := Nat.le_trans sz E.1
      have E_a25 := E_a25'
      have F_a25_kept : Fld Z h26 a25 "com/example/cistern/cistern/ReservoirSampler" "kept" "Ljava/util/List;" .null := Df _ _ _ (.object "java/util/List") (Or.inr (hw _ (List.mem_of_getElem? (i := 34) rfl))) (by decide)
      have F_a25_capacity : Fld Z h26 a25 "com/example/cistern/cistern/ReservoirSampler" "capacity" "I" (.int (0 : Int32)) := Df _ _ _ .int (Or.inr (hw _ (List.mem_of_getElem? (i := 36) rfl))) (by decide)
      have F_a25_random : Fld Z h26 a25 "com/example/cistern/cistern/ReservoirSampler" "random" "Lcom/example/cistern/cistern/SplitMix64;" .null := Df _ _ _ (.object "com/example/cistern/cistern/SplitMix64") (Or.inr (hw _ (List.mem_of_getElem? (i := 47) rfl))) (by decide)
      have F_a25_passOver : Fld Z h26 a25 "com/example/cistern/cistern/ReservoirSampler" "passOver" "J" (.long (0 : Int64)) := Df _ _ _ .long (Or.inl (hw _ (List.mem_of_getElem? (i := 50) rfl))) (by decide)
      have F_a25_offered : Fld Z h26 a25 "com/example/cistern/cistern/ReservoirSampler" "offered" "J" (.long (0 : Int64)) := Df _ _ _ .long (Or.inl (hw _ (List.mem_of_getElem? (i := 62) rfl))) (by decide)
      refine s_dup X hx (hb hby at_13) rfl (q := 14) rfl ?_
      refine s_iload X hx (hb hby at_14) rfl (q := 16) rfl ?_
      refine s_lload X hx (hb hby at_16) rfl (q := 18) rfl ?_
      refine callI X hx hZ hown (W := 1) (argsL := [(.int (1 : Int32)), (.long x3)]) (rest := [(.ref a25)]) rfl (hw _ (List.mem_of_getElem? (i := 3) rfl)) (hw _ (List.mem_of_getElem? (i := 4) rfl)) (hw _ (List.mem_of_getElem? (i := 2) rfl)) (hw _ (List.mem_of_getElem? (i := 5) rfl)) (by decide) (rm1_1 l Z a0 hw [] a25 x3 d0 h26 n0 sz F_a25_kept F_a25_capacity F_a25_random F_a25_passOver F_a25_offered E_a25 g_a25 S0 A0 O_old) eT (by decide) (by decide) (by decide) (by decide) (by rw [hml]; rfl) pd17 rfl rfl (Nat.le_of_ble_eq_true rfl) (hb hby at_18) (q := 21) rfl ?_
      intro v T Lc hQ X
      obtain ⟨h27, eT⟩ : ∃ z, T.heap = z := ⟨_, rfl⟩
      rw [eT] at hQ
      obtain ⟨kl, gr, rfl, N', K', F_a25_kept', F_a25_capacity', F_a25_random', F_a25_passOver', F_a25_offered', F_kl_elementData', F_kl_size', F_kl_modCount', E_kl', F_gr_state', E_gr', sq_kl, sq_gr⟩ := hQ
      have N := Fr.app N N'
      have g_kl : n0 ≤ kl := Nat.le_trans sz sq_kl
      have ne_a25_kl : a25 ≠ kl := Nat.ne_of_lt (Nat.lt_of_lt_of_le E_a25.lt sq_kl)
      have g_gr : n0 ≤ gr := Nat.le_trans sz sq_gr
      have ne_a25_gr : a25 ≠ gr := Nat.ne_of_lt (Nat.lt_of_lt_of_le E_a25.lt sq_gr)
      have O_old := O_old.keep K' (allS g_a25 all0)
      have E_a25 := E_a25.keep K'
      have sz : n0 ≤ h27.size := Nat.le_trans sz K'.1
      have F_a25_kept : Fld Z h27 a25 "com/example/cistern/cistern/ReservoirSampler" "kept" "Ljava/util/List;" (.ref kl) := F_a25_kept'
      have F_a25_capacity : Fld Z h27 a25 "com/example/cistern/cistern/ReservoirSampler" "capacity" "I" (.int (1 : Int32)) := F_a25_capacity'
      have F_a25_random : Fld Z h27 a25 "com/example/cistern/cistern/ReservoirSampler" "random" "Lcom/example/cistern/cistern/SplitMix64;" (.ref gr) := F_a25_random'
      have F_a25_passOver : Fld Z h27 a25 "com/example/cistern/cistern/ReservoirSampler" "passOver" "J" (.long (0 : Int64)) := F_a25_passOver'
      have F_a25_offered : Fld Z h27 a25 "com/example/cistern/cistern/ReservoirSampler" "offered" "J" (.long (0 : Int64)) := F_a25_offered'
      have F_kl_elementData : Fld Z h27 kl "java/util/ArrayList" "elementData" "[Ljava/lang/Object;" (.ref d0) := F_kl_elementData'
      have F_kl_size : Fld Z h27 kl "java/util/ArrayList" "size" "I" (.int (0 : Int32)) := F_kl_size'
      have F_kl_modCount : Fld Z h27 kl "java/util/AbstractList" "modCount" "I" (.int (0 : Int32)) := F_kl_modCount'
      have E_kl : Exa Z h27 kl "java/util/ArrayList" := E_kl'
      have F_gr_state : Fld Z h27 gr "com/example/cistern/cistern/SplitMix64" "state" "J" (.long x3) := F_gr_state'
      have E_gr : Exa Z h27 gr "com/example/cistern/cistern/SplitMix64" := E_gr'
      have ne_kl_gr := ne_exa E_kl E_gr (by decide)
      refine s_astore X hx (hb hby at_21) rfl (L' := #[.val (.int x0), .val (.int x1), .val (.long x2), .second, .val (.long x3), .second, .val (.int (1 : Int32)), .val (.int (0 : Int32)), .val (.ref a25), .unset, .unset, .unset, .unset, .unset, .unset]) rfl (q := 23) rfl ?_
      refine s_iload X hx (hb hby at_23) rfl (q := 25) rfl ?_
      refine f_if_ne X hx (hb hby at_25) (q1 := 163) (by decide) (by decide) (q := 28) rfl (fun _ => ?_) (fun hq => absurd hq (by decide : ¬ (1 : Int32) = 0))
      refine s_iload X hx (hb hby at_163) rfl (q := 165) rfl ?_
      refine s_iload X hx (hb hby at_165) rfl (q := 167) rfl ?_
      refine s_iconst X hx (z := (1 : Int32)) (hb hby at_167) rfl (q := 168) rfl ?_
      refine s_isub X hx (hb hby at_168) (q := 169) rfl ?_
      show Go p e below _ T m 169 #[.val (.int x0), .val (.int x1), .val (.long x2), .second, .val (.long x3), .second, .val (.int (1 : Int32)), .val (.int (0 : Int32)), .val (.ref a25), .unset, .unset, .unset, .unset, .unset, .unset] [(.int (0 : Int32)), (.int (0 : Int32))]
      refine callP X hx hZ hown (W := 0) (argsL := [(.int (0 : Int32)), (.int (0 : Int32))]) (rest := []) (hw _ (List.mem_of_getElem? (i := 98) rfl)) (hw _ (List.mem_of_getElem? (i := 99) rfl)) (hw _ (List.mem_of_getElem? (i := 54) rfl)) (hw _ (List.mem_of_getElem? (i := 100) rfl)) (by decide) (rm15 l Z a0 hw [] (0 : Int32) (0 : Int32) h27) rfl rfl eT (by decide) (by decide) (by decide) (by decide) (by rw [hml]; rfl) pd6 rfl rfl (Nat.le_of_ble_eq_true rfl) (hb hby at_169) (q := 172) rfl ?_
      intro T X eT
      show Go p e below _ T m 172 #[.val (.int x0), .val (.int x1), .val (.long x2), .second, .val (.long x3), .second, .val (.int (1 : Int32)), .val (.int (0 : Int32)), .val (.ref a25), .unset, .unset, .unset, .unset, .unset, .unset] [(.int (0 : Int32))]
      refine s_istore X hx (hb hby at_172) (L' := #[.val (.int x0), .val (.int x1), .val (.long x2), .second, .val (.long x3), .second, .val (.int (1 : Int32)), .val (.int (0 : Int32)), .val (.ref a25), .val (.int (0 : Int32)), .unset, .unset, .unset, .unset, .unset]) rfl (q := 174) rfl ?_
      refine s_aload X hx (hb hby at_174) rfl rfl (q := 176) rfl ?_
      refine s_iload X hx (hb hby at_176) rfl (q := 178) rfl ?_
      refine callC X hx hZ hown (W := 0) (argsL := [(.ref a25), (.int (0 : Int32))]) (rest := []) (hw _ (List.mem_of_getElem? (i := 70) rfl)) (hw _ (List.mem_of_getElem? (i := 71) rfl)) (hw _ (List.mem_of_getElem? (i := 72) rfl)) (hw _ (List.mem_of_getElem? (i := 73) rfl)) (by decide) (rm10_f0 l Z a0 hw [] a25 h27 n0 sz) eT (by decide) (by decide) (by decide) (by decide) (by rw [hml]; rfl) pd18 rfl rfl (Nat.le_of_ble_eq_true rfl) (hb hby at_178) (q := 181) rfl ?_
      intro v T Lc hQ X
      obtain ⟨rfl, eT, N'⟩ := hQ
      have N := Fr.app N N'
      refine s_aload X hx (hb hby at_181) rfl rfl (q := 183) rfl ?_
      refine callV X hx hZ hown (W := 0) (argsL := []) (rest := []) (hw _ (List.mem_of_getElem? (i := 56) rfl)) (hw _ (List.mem_of_getElem? (i := 57) rfl)) (hw _ (List.mem_of_getElem? (i := 59) rfl)) (hw _ (List.mem_of_getElem? (i := 58) rfl)) (hw _ (List.mem_of_getElem? (i := 2) rfl)) (hw _ (List.mem_of_getElem? (i := 60) rfl)) (by decide) E_a25 (rm8 l Z a0 hw [] a25 (0 : Int64) (0 : Int64) (0 : Int64) h27 n0 sz F_a25_passOver F_a25_offered E_a25 (by decide +kernel)) eT (by decide) (by decide) (by decide) (by decide) (by rw [hml]; rfl) pd1 rfl rfl (Nat.le_of_ble_eq_true rfl) (hb hby at_183) (q := 186) rfl ?_
      intro v T Lc hQ X
      obtain ⟨rfl, eT, N'⟩ := hQ
      have N := Fr.app N N'
      refine s_lstore X hx (hb hby at_186) (L' := #[.val (.int x0), .val (.int x1), .val (.long x2), .second, .val (.long x3), .second, .val (.int (1 : Int32)), .val (.int (0 : Int32)), .val (.ref a25), .val (.int (0 : Int32)), .val (.long (0 : Int64)), .second, .unset, .unset, .unset]) rfl (q := 188) rfl ?_
      refine s_lload X hx (hb hby at_188) rfl (q := 190) rfl ?_
      refine s_lconst X hx (z := (0 : Int64)) (hb hby at_190) rfl (q := 191) rfl ?_
      refine s_lcmp X hx (hb hby at_191) (q := 192) rfl ?_
      refine f_lcmp_ne X hx (hb hby at_192) (q1 := 221) (by decide) (by decide) (q := 195) rfl (fun hq => absurd (rfl : (0 : Int64) = (0 : Int64)) hq) (fun _ => ?_)
      refine s_aload X hx (hb hby at_195) rfl rfl (q := 197) rfl ?_
      refine callV X hx hZ hown (W := 0) (argsL := []) (rest := []) (hw _ (List.mem_of_getElem? (i := 56) rfl)) (hw _ (List.mem_of_getElem? (i := 57) rfl)) (hw _ (List.mem_of_getElem? (i := 59) rfl)) (hw _ (List.mem_of_getElem? (i := 58) rfl)) (hw _ (List.mem_of_getElem? (i := 2) rfl)) (hw _ (List.mem_of_getElem? (i := 60) rfl)) (by decide) E_a25 (rm8 l Z a0 hw [] a25 (0 : Int64) (0 : Int64) (0 : Int64) h27 n0 sz F_a25_passOver F_a25_offered E_a25 (by decide +kernel)) eT (by decide) (by decide) (by decide) (by decide) (by rw [hml]; rfl) pd1 rfl rfl (Nat.le_of_ble_eq_true rfl) (hb hby at_197) (q := 200) rfl ?_
      intro v T Lc hQ X
      obtain ⟨rfl, eT, N'⟩ := hQ
      have N := Fr.app N N'
      refine s_lconst X hx (z := (0 : Int64)) (hb hby at_200) rfl (q := 201) rfl ?_
      refine s_lcmp X hx (hb hby at_201) (q := 202) rfl ?_
      refine f_lcmp_ne X hx (hb hby at_202) (q1 := 221) (by decide) (by decide) (q := 205) rfl (fun hq => absurd (rfl : (0 : Int64) = (0 : Int64)) hq) (fun _ => ?_)
      refine s_aload X hx (hb hby at_205) rfl rfl (q := 207) rfl ?_
      refine callV X hx hZ hown (W := 0) (argsL := []) (rest := []) (hw _ (List.mem_of_getElem? (i := 93) rfl)) (hw _ (List.mem_of_getElem? (i := 94) rfl)) (hw _ (List.mem_of_getElem? (i := 96) rfl)) (hw _ (List.mem_of_getElem? (i := 95) rfl)) (hw _ (List.mem_of_getElem? (i := 2) rfl)) (hw _ (List.mem_of_getElem? (i := 97) rfl)) (by decide) E_a25 (rm14 l Z a0 hw [] a25 (0 : Int64) h27 n0 sz F_a25_offered E_a25) eT (by decide) (by decide) (by decide) (by decide) (by rw [hml]; rfl) pd1 rfl rfl (Nat.le_of_ble_eq_true rfl) (hb hby at_207) (q := 210) rfl ?_
      intro v T Lc hQ X
      obtain ⟨rfl, eT, N'⟩ := hQ
      have N := Fr.app N N'
      refine s_iload X hx (hb hby at_210) rfl (q := 212) rfl ?_
      refine s_i2l X hx (hb hby at_212) (q := 213) rfl ?_
      show Go p e below _ T m 213 #[.val (.int x0), .val (.int x1), .val (.long x2), .second, .val (.long x3), .second, .val (.int (1 : Int32)), .val (.int (0 : Int32)), .val (.ref a25), .val (.int (0 : Int32)), .val (.long (0 : Int64)), .second, .unset, .unset, .unset] [(.long (0 : Int64)), (.long (0 : Int64))]
      refine s_lcmp X hx (hb hby at_213) (q := 214) rfl ?_
      refine f_lcmp_ne X hx (hb hby at_214) (q1 := 221) (by decide) (by decide) (q := 217) rfl (fun hq => absurd (rfl : (0 : Int64) = (0 : Int64)) hq) (fun _ => ?_)
      refine s_iconst X hx (z := (1 : Int32)) (hb hby at_217) rfl (q := 218) rfl ?_
      refine s_goto X hx (hb hby at_218) (q1 := 222) (by decide) (by decide) ?_
      exact leafN X hx hlk hret (by simp) (hb hby at_222) (by decide) (by decide) (z' := 1) rfl ⟨rfl, N⟩
    · subst hcase
      refine s_istore X hx (hb hby at_8) (L' := #[.val (.int x0), .val (.int x1), .val (.long x2), .second, .val (.long x3), .second, .val (.int (1 : Int32)), .val (.int (1 : Int32)), .unset, .unset, .unset, .unset, .unset, .unset, .unset]) rfl (q := 10) rfl ?_
      refine s_new X hx hZ hown (hw _ (List.mem_of_getElem? (i := 0) rfl)) (hw _ (List.mem_of_getElem? (i := 1) rfl)) (hw _ (List.mem_of_getElem? (i := 2) rfl)) eT (by decide) (by decide) (hb hby at_10) (q := 13) rfl ?_
      intro T h29 a28 X eT E ea E_a28' Df
      have O_old := O_old.ext E
      have g_a28 : n0 ≤ a28 := by rw [ea]; exact sz
      have sz : n0 ≤ h29.size := Nat.le_trans sz E.1
      have E_a28 := E_a28'
      have F_a28_kept : Fld Z h29 a28 "com/example/cistern/cistern/ReservoirSampler" "kept" "Ljava/util/List;" .null := Df _ _ _ (.object "java/util/List") (Or.inr (hw _ (List.mem_of_getElem? (i := 34) rfl))) (by decide)
      have F_a28_capacity : Fld Z h29 a28 "com/example/cistern/cistern/ReservoirSampler" "capacity" "I" (.int (0 : Int32)) := Df _ _ _ .int (Or.inr (hw _ (List.mem_of_getElem? (i := 36) rfl))) (by decide)
      have F_a28_random : Fld Z h29 a28 "com/example/cistern/cistern/ReservoirSampler" "random" "Lcom/example/cistern/cistern/SplitMix64;" .null := Df _ _ _ (.object "com/example/cistern/cistern/SplitMix64") (Or.inr (hw _ (List.mem_of_getElem? (i := 47) rfl))) (by decide)
      have F_a28_passOver : Fld Z h29 a28 "com/example/cistern/cistern/ReservoirSampler" "passOver" "J" (.long (0 : Int64)) := Df _ _ _ .long (Or.inl (hw _ (List.mem_of_getElem? (i := 50) rfl))) (by decide)
      have F_a28_offered : Fld Z h29 a28 "com/example/cistern/cistern/ReservoirSampler" "offered" "J" (.long (0 : Int64)) := Df _ _ _ .long (Or.inl (hw _ (List.mem_of_getElem? (i := 62) rfl))) (by decide)
      refine s_dup X hx (hb hby at_13) rfl (q := 14) rfl ?_
      refine s_iload X hx (hb hby at_14) rfl (q := 16) rfl ?_
      refine s_lload X hx (hb hby at_16) rfl (q := 18) rfl ?_
      refine callI X hx hZ hown (W := 1) (argsL := [(.int (1 : Int32)), (.long x3)]) (rest := [(.ref a28)]) rfl (hw _ (List.mem_of_getElem? (i := 3) rfl)) (hw _ (List.mem_of_getElem? (i := 4) rfl)) (hw _ (List.mem_of_getElem? (i := 2) rfl)) (hw _ (List.mem_of_getElem? (i := 5) rfl)) (by decide) (rm1_1 l Z a0 hw [] a28 x3 d0 h29 n0 sz F_a28_kept F_a28_capacity F_a28_random F_a28_passOver F_a28_offered E_a28 g_a28 S0 A0 O_old) eT (by decide) (by decide) (by decide) (by decide) (by rw [hml]; rfl) pd17 rfl rfl (Nat.le_of_ble_eq_true rfl) (hb hby at_18) (q := 21) rfl ?_
      intro v T Lc hQ X
      obtain ⟨h30, eT⟩ : ∃ z, T.heap = z := ⟨_, rfl⟩
      rw [eT] at hQ
      obtain ⟨kl, gr, rfl, N', K', F_a28_kept', F_a28_capacity', F_a28_random', F_a28_passOver', F_a28_offered', F_kl_elementData', F_kl_size', F_kl_modCount', E_kl', F_gr_state', E_gr', sq_kl, sq_gr⟩ := hQ
      have N := Fr.app N N'
      have g_kl : n0 ≤ kl := Nat.le_trans sz sq_kl
      have ne_a28_kl : a28 ≠ kl := Nat.ne_of_lt (Nat.lt_of_lt_of_le E_a28.lt sq_kl)
      have g_gr : n0 ≤ gr := Nat.le_trans sz sq_gr
      have ne_a28_gr : a28 ≠ gr := Nat.ne_of_lt (Nat.lt_of_lt_of_le E_a28.lt sq_gr)
      have O_old := O_old.keep K' (allS g_a28 all0)
      have E_a28 := E_a28.keep K'
      have sz : n0 ≤ h30.size := Nat.le_trans sz K'.1
      have F_a28_kept : Fld Z h30 a28 "com/example/cistern/cistern/ReservoirSampler" "kept" "Ljava/util/List;" (.ref kl) := F_a28_kept'
      have F_a28_capacity : Fld Z h30 a28 "com/example/cistern/cistern/ReservoirSampler" "capacity" "I" (.int (1 : Int32)) := F_a28_capacity'
      have F_a28_random : Fld Z h30 a28 "com/example/cistern/cistern/ReservoirSampler" "random" "Lcom/example/cistern/cistern/SplitMix64;" (.ref gr) := F_a28_random'
      have F_a28_passOver : Fld Z h30 a28 "com/example/cistern/cistern/ReservoirSampler" "passOver" "J" (.long (0 : Int64)) := F_a28_passOver'
      have F_a28_offered : Fld Z h30 a28 "com/example/cistern/cistern/ReservoirSampler" "offered" "J" (.long (0 : Int64)) := F_a28_offered'
      have F_kl_elementData : Fld Z h30 kl "java/util/ArrayList" "elementData" "[Ljava/lang/Object;" (.ref d0) := F_kl_elementData'
      have F_kl_size : Fld Z h30 kl "java/util/ArrayList" "size" "I" (.int (0 : Int32)) := F_kl_size'
      have F_kl_modCount : Fld Z h30 kl "java/util/AbstractList" "modCount" "I" (.int (0 : Int32)) := F_kl_modCount'
      have E_kl : Exa Z h30 kl "java/util/ArrayList" := E_kl'
      have F_gr_state : Fld Z h30 gr "com/example/cistern/cistern/SplitMix64" "state" "J" (.long x3) := F_gr_state'
      have E_gr : Exa Z h30 gr "com/example/cistern/cistern/SplitMix64" := E_gr'
      have ne_kl_gr := ne_exa E_kl E_gr (by decide)
      refine s_astore X hx (hb hby at_21) rfl (L' := #[.val (.int x0), .val (.int x1), .val (.long x2), .second, .val (.long x3), .second, .val (.int (1 : Int32)), .val (.int (1 : Int32)), .val (.ref a28), .unset, .unset, .unset, .unset, .unset, .unset]) rfl (q := 23) rfl ?_
      refine s_iload X hx (hb hby at_23) rfl (q := 25) rfl ?_
      refine f_if_ne X hx (hb hby at_25) (q1 := 163) (by decide) (by decide) (q := 28) rfl (fun _ => ?_) (fun hq => absurd hq (by decide : ¬ (1 : Int32) = 0))
      refine s_iload X hx (hb hby at_163) rfl (q := 165) rfl ?_
      refine s_iload X hx (hb hby at_165) rfl (q := 167) rfl ?_
      refine s_iconst X hx (z := (1 : Int32)) (hb hby at_167) rfl (q := 168) rfl ?_
      refine s_isub X hx (hb hby at_168) (q := 169) rfl ?_
      show Go p e below _ T m 169 #[.val (.int x0), .val (.int x1), .val (.long x2), .second, .val (.long x3), .second, .val (.int (1 : Int32)), .val (.int (1 : Int32)), .val (.ref a28), .unset, .unset, .unset, .unset, .unset, .unset] [(.int (0 : Int32)), (.int (1 : Int32))]
      refine callP X hx hZ hown (W := 0) (argsL := [(.int (1 : Int32)), (.int (0 : Int32))]) (rest := []) (hw _ (List.mem_of_getElem? (i := 98) rfl)) (hw _ (List.mem_of_getElem? (i := 99) rfl)) (hw _ (List.mem_of_getElem? (i := 54) rfl)) (hw _ (List.mem_of_getElem? (i := 100) rfl)) (by decide) (rm15 l Z a0 hw [] (1 : Int32) (0 : Int32) h30) rfl rfl eT (by decide) (by decide) (by decide) (by decide) (by rw [hml]; rfl) pd6 rfl rfl (Nat.le_of_ble_eq_true rfl) (hb hby at_169) (q := 172) rfl ?_
      intro T X eT
      show Go p e below _ T m 172 #[.val (.int x0), .val (.int x1), .val (.long x2), .second, .val (.long x3), .second, .val (.int (1 : Int32)), .val (.int (1 : Int32)), .val (.ref a28), .unset, .unset, .unset, .unset, .unset, .unset] [(.int (0 : Int32))]
      refine s_istore X hx (hb hby at_172) (L' := #[.val (.int x0), .val (.int x1), .val (.long x2), .second, .val (.long x3), .second, .val (.int (1 : Int32)), .val (.int (1 : Int32)), .val (.ref a28), .val (.int (0 : Int32)), .unset, .unset, .unset, .unset, .unset]) rfl (q := 174) rfl ?_
      refine s_aload X hx (hb hby at_174) rfl rfl (q := 176) rfl ?_
      refine s_iload X hx (hb hby at_176) rfl (q := 178) rfl ?_
      refine callC X hx hZ hown (W := 0) (argsL := [(.ref a28), (.int (0 : Int32))]) (rest := []) (hw _ (List.mem_of_getElem? (i := 70) rfl)) (hw _ (List.mem_of_getElem? (i := 71) rfl)) (hw _ (List.mem_of_getElem? (i := 72) rfl)) (hw _ (List.mem_of_getElem? (i := 73) rfl)) (by decide) (rm10_f0 l Z a0 hw [] a28 h30 n0 sz) eT (by decide) (by decide) (by decide) (by decide) (by rw [hml]; rfl) pd18 rfl rfl (Nat.le_of_ble_eq_true rfl) (hb hby at_178) (q := 181) rfl ?_
      intro v T Lc hQ X
      obtain ⟨rfl, eT, N'⟩ := hQ
      have N := Fr.app N N'
      refine s_aload X hx (hb hby at_181) rfl rfl (q := 183) rfl ?_
      refine callV X hx hZ hown (W := 0) (argsL := []) (rest := []) (hw _ (List.mem_of_getElem? (i := 56) rfl)) (hw _ (List.mem_of_getElem? (i := 57) rfl)) (hw _ (List.mem_of_getElem? (i := 59) rfl)) (hw _ (List.mem_of_getElem? (i := 58) rfl)) (hw _ (List.mem_of_getElem? (i := 2) rfl)) (hw _ (List.mem_of_getElem? (i := 60) rfl)) (by decide) E_a28 (rm8 l Z a0 hw [] a28 (0 : Int64) (0 : Int64) (0 : Int64) h30 n0 sz F_a28_passOver F_a28_offered E_a28 (by decide +kernel)) eT (by decide) (by decide) (by decide) (by decide) (by rw [hml]; rfl) pd1 rfl rfl (Nat.le_of_ble_eq_true rfl) (hb hby at_183) (q := 186) rfl ?_
      intro v T Lc hQ X
      obtain ⟨rfl, eT, N'⟩ := hQ
      have N := Fr.app N N'
      refine s_lstore X hx (hb hby at_186) (L' := #[.val (.int x0), .val (.int x1), .val (.long x2), .second, .val (.long x3), .second, .val (.int (1 : Int32)), .val (.int (1 : Int32)), .val (.ref a28), .val (.int (0 : Int32)), .val (.long (0 : Int64)), .second, .unset, .unset, .unset]) rfl (q := 188) rfl ?_
      refine s_lload X hx (hb hby at_188) rfl (q := 190) rfl ?_
      refine s_lconst X hx (z := (0 : Int64)) (hb hby at_190) rfl (q := 191) rfl ?_
      refine s_lcmp X hx (hb hby at_191) (q := 192) rfl ?_
      refine f_lcmp_ne X hx (hb hby at_192) (q1 := 221) (by decide) (by decide) (q := 195) rfl (fun hq => absurd (rfl : (0 : Int64) = (0 : Int64)) hq) (fun _ => ?_)
      refine s_aload X hx (hb hby at_195) rfl rfl (q := 197) rfl ?_
      refine callV X hx hZ hown (W := 0) (argsL := []) (rest := []) (hw _ (List.mem_of_getElem? (i := 56) rfl)) (hw _ (List.mem_of_getElem? (i := 57) rfl)) (hw _ (List.mem_of_getElem? (i := 59) rfl)) (hw _ (List.mem_of_getElem? (i := 58) rfl)) (hw _ (List.mem_of_getElem? (i := 2) rfl)) (hw _ (List.mem_of_getElem? (i := 60) rfl)) (by decide) E_a28 (rm8 l Z a0 hw [] a28 (0 : Int64) (0 : Int64) (0 : Int64) h30 n0 sz F_a28_passOver F_a28_offered E_a28 (by decide +kernel)) eT (by decide) (by decide) (by decide) (by decide) (by rw [hml]; rfl) pd1 rfl rfl (Nat.le_of_ble_eq_true rfl) (hb hby at_197) (q := 200) rfl ?_
      intro v T Lc hQ X
      obtain ⟨rfl, eT, N'⟩ := hQ
      have N := Fr.app N N'
      refine s_lconst X hx (z := (0 : Int64)) (hb hby at_200) rfl (q := 201) rfl ?_
      refine s_lcmp X hx (hb hby at_201) (q := 202) rfl ?_
      refine f_lcmp_ne X hx (hb hby at_202) (q1 := 221) (by decide) (by decide) (q := 205) rfl (fun hq => absurd (rfl : (0 : Int64) = (0 : Int64)) hq) (fun _ => ?_)
      refine s_aload X hx (hb hby at_205) rfl rfl (q := 207) rfl ?_
      refine callV X hx hZ hown (W := 0) (argsL := []) (rest := []) (hw _ (List.mem_of_getElem? (i := 93) rfl)) (hw _ (List.mem_of_getElem? (i := 94) rfl)) (hw _ (List.mem_of_getElem? (i := 96) rfl)) (hw _ (List.mem_of_getElem? (i := 95) rfl)) (hw _ (List.mem_of_getElem? (i := 2) rfl)) (hw _ (List.mem_of_getElem? (i := 97) rfl)) (by decide) E_a28 (rm14 l Z a0 hw [] a28 (0 : Int64) h30 n0 sz F_a28_offered E_a28) eT (by decide) (by decide) (by decide) (by decide) (by rw [hml]; rfl) pd1 rfl rfl (Nat.le_of_ble_eq_true rfl) (hb hby at_207) (q := 210) rfl ?_
      intro v T Lc hQ X
      obtain ⟨rfl, eT, N'⟩ := hQ
      have N := Fr.app N N'
      refine s_iload X hx (hb hby at_210) rfl (q := 212) rfl ?_
      refine s_i2l X hx (hb hby at_212) (q := 213) rfl ?_
      show Go p e below _ T m 213 #[.val (.int x0), .val (.int x1), .val (.long x2), .second, .val (.long x3), .second, .val (.int (1 : Int32)), .val (.int (1 : Int32)), .val (.ref a28), .val (.int (0 : Int32)), .val (.long (0 : Int64)), .second, .unset, .unset, .unset] [(.long (0 : Int64)), (.long (0 : Int64))]
      refine s_lcmp X hx (hb hby at_213) (q := 214) rfl ?_
      refine f_lcmp_ne X hx (hb hby at_214) (q1 := 221) (by decide) (by decide) (q := 217) rfl (fun hq => absurd (rfl : (0 : Int64) = (0 : Int64)) hq) (fun _ => ?_)
      refine s_iconst X hx (z := (1 : Int32)) (hb hby at_217) rfl (q := 218) rfl ?_
      refine s_goto X hx (hb hby at_218) (q1 := 222) (by decide) (by decide) ?_
      exact leafN X hx hlk hret (by simp) (hb hby at_222) (by decide) (by decide) (z' := 1) rfl ⟨rfl, N⟩
    · subst hcase
      refine s_istore X hx (hb hby at_8) (L' := #[.val (.int x0), .val (.int x1), .val (.long x2), .second, .val (.long x3), .second, .val (.int (1 : Int32)), .val (.int (2 : Int32)), .unset, .unset, .unset, .unset, .unset, .unset, .unset]) rfl (q := 10) rfl ?_
      refine s_new X hx hZ hown (hw _ (List.mem_of_getElem? (i := 0) rfl)) (hw _ (List.mem_of_getElem? (i := 1) rfl)) (hw _ (List.mem_of_getElem? (i := 2) rfl)) eT (by decide) (by decide) (hb hby at_10) (q := 13) rfl ?_
      intro T h32 a31 X eT E ea E_a31' Df
      have O_old := O_old.ext E
      have g_a31 : n0 ≤ a31 := by rw [ea]; exact sz
      have sz : n0 ≤ h32.size := Nat.le_trans sz E.1
      have E_a31 := E_a31'
      have F_a31_kept : Fld Z h32 a31 "com/example/cistern/cistern/ReservoirSampler" "kept" "Ljava/util/List;" .null := Df _ _ _ (.object "java/util/List") (Or.inr (hw _ (List.mem_of_getElem? (i := 34) rfl))) (by decide)
      have F_a31_capacity : Fld Z h32 a31 "com/example/cistern/cistern/ReservoirSampler" "capacity" "I" (.int (0 : Int32)) := Df _ _ _ .int (Or.inr (hw _ (List.mem_of_getElem? (i := 36) rfl))) (by decide)
      have F_a31_random : Fld Z h32 a31 "com/example/cistern/cistern/ReservoirSampler" "random" "Lcom/example/cistern/cistern/SplitMix64;" .null := Df _ _ _ (.object "com/example/cistern/cistern/SplitMix64") (Or.inr (hw _ (List.mem_of_getElem? (i := 47) rfl))) (by decide)
      have F_a31_passOver : Fld Z h32 a31 "com/example/cistern/cistern/ReservoirSampler" "passOver" "J" (.long (0 : Int64)) := Df _ _ _ .long (Or.inl (hw _ (List.mem_of_getElem? (i := 50) rfl))) (by decide)
      have F_a31_offered : Fld Z h32 a31 "com/example/cistern/cistern/ReservoirSampler" "offered" "J" (.long (0 : Int64)) := Df _ _ _ .long (Or.inl (hw _ (List.mem_of_getElem? (i := 62) rfl))) (by decide)
      refine s_dup X hx (hb hby at_13) rfl (q := 14) rfl ?_
      refine s_iload X hx (hb hby at_14) rfl (q := 16) rfl ?_
      refine s_lload X hx (hb hby at_16) rfl (q := 18) rfl ?_
      refine callI X hx hZ hown (W := 1) (argsL := [(.int (1 : Int32)), (.long x3)]) (rest := [(.ref a31)]) rfl (hw _ (List.mem_of_getElem? (i := 3) rfl)) (hw _ (List.mem_of_getElem? (i := 4) rfl)) (hw _ (List.mem_of_getElem? (i := 2) rfl)) (hw _ (List.mem_of_getElem? (i := 5) rfl)) (by decide) (rm1_1 l Z a0 hw [] a31 x3 d0 h32 n0 sz F_a31_kept F_a31_capacity F_a31_random F_a31_passOver F_a31_offered E_a31 g_a31 S0 A0 O_old) eT (by decide) (by decide) (by decide) (by decide) (by rw [hml]; rfl) pd17 rfl rfl (Nat.le_of_ble_eq_true rfl) (hb hby at_18) (q := 21) rfl ?_
      intro v T Lc hQ X
      obtain ⟨h33, eT⟩ : ∃ z, T.heap = z := ⟨_, rfl⟩
      rw [eT] at hQ
      obtain ⟨kl, gr, rfl, N', K', F_a31_kept', F_a31_capacity', F_a31_random', F_a31_passOver', F_a31_offered', F_kl_elementData', F_kl_size', F_kl_modCount', E_kl', F_gr_state', E_gr', sq_kl, sq_gr⟩ := hQ
      have N := Fr.app N N'
      have g_kl : n0 ≤ kl := Nat.le_trans sz sq_kl
      have ne_a31_kl : a31 ≠ kl := Nat.ne_of_lt (Nat.lt_of_lt_of_le E_a31.lt sq_kl)
      have g_gr : n0 ≤ gr := Nat.le_trans sz sq_gr
      have ne_a31_gr : a31 ≠ gr := Nat.ne_of_lt (Nat.lt_of_lt_of_le E_a31.lt sq_gr)
      have O_old := O_old.keep K' (allS g_a31 all0)
      have E_a31 := E_a31.keep K'
      have sz : n0 ≤ h33.size := Nat.le_trans sz K'.1
      have F_a31_kept : Fld Z h33 a31 "com/example/cistern/cistern/ReservoirSampler" "kept" "Ljava/util/List;" (.ref kl) := F_a31_kept'
      have F_a31_capacity : Fld Z h33 a31 "com/example/cistern/cistern/ReservoirSampler" "capacity" "I" (.int (1 : Int32)) := F_a31_capacity'
      have F_a31_random : Fld Z h33 a31 "com/example/cistern/cistern/ReservoirSampler" "random" "Lcom/example/cistern/cistern/SplitMix64;" (.ref gr) := F_a31_random'
      have F_a31_passOver : Fld Z h33 a31 "com/example/cistern/cistern/ReservoirSampler" "passOver" "J" (.long (0 : Int64)) := F_a31_passOver'
      have F_a31_offered : Fld Z h33 a31 "com/example/cistern/cistern/ReservoirSampler" "offered" "J" (.long (0 : Int64)) := F_a31_offered'
      have F_kl_elementData : Fld Z h33 kl "java/util/ArrayList" "elementData" "[Ljava/lang/Object;" (.ref d0) := F_kl_elementData'
      have F_kl_size : Fld Z h33 kl "java/util/ArrayList" "size" "I" (.int (0 : Int32)) := F_kl_size'
      have F_kl_modCount : Fld Z h33 kl "java/util/AbstractList" "modCount" "I" (.int (0 : Int32)) := F_kl_modCount'
      have E_kl : Exa Z h33 kl "java/util/ArrayList" := E_kl'
      have F_gr_state : Fld Z h33 gr "com/example/cistern/cistern/SplitMix64" "state" "J" (.long x3) := F_gr_state'
      have E_gr : Exa Z h33 gr "com/example/cistern/cistern/SplitMix64" := E_gr'
      have ne_kl_gr := ne_exa E_kl E_gr (by decide)
      refine s_astore X hx (hb hby at_21) rfl (L' := #[.val (.int x0), .val (.int x1), .val (.long x2), .second, .val (.long x3), .second, .val (.int (1 : Int32)), .val (.int (2 : Int32)), .val (.ref a31), .unset, .unset, .unset, .unset, .unset, .unset]) rfl (q := 23) rfl ?_
      refine s_iload X hx (hb hby at_23) rfl (q := 25) rfl ?_
      refine f_if_ne X hx (hb hby at_25) (q1 := 163) (by decide) (by decide) (q := 28) rfl (fun _ => ?_) (fun hq => absurd hq (by decide : ¬ (1 : Int32) = 0))
      refine s_iload X hx (hb hby at_163) rfl (q := 165) rfl ?_
      refine s_iload X hx (hb hby at_165) rfl (q := 167) rfl ?_
      refine s_iconst X hx (z := (1 : Int32)) (hb hby at_167) rfl (q := 168) rfl ?_
      refine s_isub X hx (hb hby at_168) (q := 169) rfl ?_
      show Go p e below _ T m 169 #[.val (.int x0), .val (.int x1), .val (.long x2), .second, .val (.long x3), .second, .val (.int (1 : Int32)), .val (.int (2 : Int32)), .val (.ref a31), .unset, .unset, .unset, .unset, .unset, .unset] [(.int (0 : Int32)), (.int (2 : Int32))]
      refine callP X hx hZ hown (W := 0) (argsL := [(.int (2 : Int32)), (.int (0 : Int32))]) (rest := []) (hw _ (List.mem_of_getElem? (i := 98) rfl)) (hw _ (List.mem_of_getElem? (i := 99) rfl)) (hw _ (List.mem_of_getElem? (i := 54) rfl)) (hw _ (List.mem_of_getElem? (i := 100) rfl)) (by decide) (rm15 l Z a0 hw [] (2 : Int32) (0 : Int32) h33) rfl rfl eT (by decide) (by decide) (by decide) (by decide) (by rw [hml]; rfl) pd6 rfl rfl (Nat.le_of_ble_eq_true rfl) (hb hby at_169) (q := 172) rfl ?_
      intro T X eT
      show Go p e below _ T m 172 #[.val (.int x0), .val (.int x1), .val (.long x2), .second, .val (.long x3), .second, .val (.int (1 : Int32)), .val (.int (2 : Int32)), .val (.ref a31), .unset, .unset, .unset, .unset, .unset, .unset] [(.int (0 : Int32))]
      refine s_istore X hx (hb hby at_172) (L' := #[.val (.int x0), .val (.int x1), .val (.long x2), .second, .val (.long x3), .second, .val (.int (1 : Int32)), .val (.int (2 : Int32)), .val (.ref a31), .val (.int (0 : Int32)), .unset, .unset, .unset, .unset, .unset]) rfl (q := 174) rfl ?_
      refine s_aload X hx (hb hby at_174) rfl rfl (q := 176) rfl ?_
      refine s_iload X hx (hb hby at_176) rfl (q := 178) rfl ?_
      refine callC X hx hZ hown (W := 0) (argsL := [(.ref a31), (.int (0 : Int32))]) (rest := []) (hw _ (List.mem_of_getElem? (i := 70) rfl)) (hw _ (List.mem_of_getElem? (i := 71) rfl)) (hw _ (List.mem_of_getElem? (i := 72) rfl)) (hw _ (List.mem_of_getElem? (i := 73) rfl)) (by decide) (rm10_f0 l Z a0 hw [] a31 h33 n0 sz) eT (by decide) (by decide) (by decide) (by decide) (by rw [hml]; rfl) pd18 rfl rfl (Nat.le_of_ble_eq_true rfl) (hb hby at_178) (q := 181) rfl ?_
      intro v T Lc hQ X
      obtain ⟨rfl, eT, N'⟩ := hQ
      have N := Fr.app N N'
      refine s_aload X hx (hb hby at_181) rfl rfl (q := 183) rfl ?_
      refine callV X hx hZ hown (W := 0) (argsL := []) (rest := []) (hw _ (List.mem_of_getElem? (i := 56) rfl)) (hw _ (List.mem_of_getElem? (i := 57) rfl)) (hw _ (List.mem_of_getElem? (i := 59) rfl)) (hw _ (List.mem_of_getElem? (i := 58) rfl)) (hw _ (List.mem_of_getElem? (i := 2) rfl)) (hw _ (List.mem_of_getElem? (i := 60) rfl)) (by decide) E_a31 (rm8 l Z a0 hw [] a31 (0 : Int64) (0 : Int64) (0 : Int64) h33 n0 sz F_a31_passOver F_a31_offered E_a31 (by decide +kernel)) eT (by decide) (by decide) (by decide) (by decide) (by rw [hml]; rfl) pd1 rfl rfl (Nat.le_of_ble_eq_true rfl) (hb hby at_183) (q := 186) rfl ?_
      intro v T Lc hQ X
      obtain ⟨rfl, eT, N'⟩ := hQ
      have N := Fr.app N N'
      refine s_lstore X hx (hb hby at_186) (L' := #[.val (.int x0), .val (.int x1), .val (.long x2), .second, .val (.long x3), .second, .val (.int (1 : Int32)), .val (.int (2 : Int32)), .val (.ref a31), .val (.int (0 : Int32)), .val (.long (0 : Int64)), .second, .unset, .unset, .unset]) rfl (q := 188) rfl ?_
      refine s_lload X hx (hb hby at_188) rfl (q := 190) rfl ?_
      refine s_lconst X hx (z := (0 : Int64)) (hb hby at_190) rfl (q := 191) rfl ?_
      refine s_lcmp X hx (hb hby at_191) (q := 192) rfl ?_
      refine f_lcmp_ne X hx (hb hby at_192) (q1 := 221) (by decide) (by decide) (q := 195) rfl (fun hq => absurd (rfl : (0 : Int64) = (0 : Int64)) hq) (fun _ => ?_)
      refine s_aload X hx (hb hby at_195) rfl rfl (q := 197) rfl ?_
      refine callV X hx hZ hown (W := 0) (argsL := []) (rest := []) (hw _ (List.mem_of_getElem? (i := 56) rfl)) (hw _ (List.mem_of_getElem? (i := 57) rfl)) (hw _ (List.mem_of_getElem? (i := 59) rfl)) (hw _ (List.mem_of_getElem? (i := 58) rfl)) (hw _ (List.mem_of_getElem? (i := 2) rfl)) (hw _ (List.mem_of_getElem? (i := 60) rfl)) (by decide) E_a31 (rm8 l Z a0 hw [] a31 (0 : Int64) (0 : Int64) (0 : Int64) h33 n0 sz F_a31_passOver F_a31_offered E_a31 (by decide +kernel)) eT (by decide) (by decide) (by decide) (by decide) (by rw [hml]; rfl) pd1 rfl rfl (Nat.le_of_ble_eq_true rfl) (hb hby at_197) (q := 200) rfl ?_
      intro v T Lc hQ X
      obtain ⟨rfl, eT, N'⟩ := hQ
      have N := Fr.app N N'
      refine s_lconst X hx (z := (0 : Int64)) (hb hby at_200) rfl (q := 201) rfl ?_
      refine s_lcmp X hx (hb hby at_201) (q := 202) rfl ?_
      refine f_lcmp_ne X hx (hb hby at_202) (q1 := 221) (by decide) (by decide) (q := 205) rfl (fun hq => absurd (rfl : (0 : Int64) = (0 : Int64)) hq) (fun _ => ?_)
      refine s_aload X hx (hb hby at_205) rfl rfl (q := 207) rfl ?_
      refine callV X hx hZ hown (W := 0) (argsL := []) (rest := []) (hw _ (List.mem_of_getElem? (i := 93) rfl)) (hw _ (List.mem_of_getElem? (i := 94) rfl)) (hw _ (List.mem_of_getElem? (i := 96) rfl)) (hw _ (List.mem_of_getElem? (i := 95) rfl)) (hw _ (List.mem_of_getElem? (i := 2) rfl)) (hw _ (List.mem_of_getElem? (i := 97) rfl)) (by decide) E_a31 (rm14 l Z a0 hw [] a31 (0 : Int64) h33 n0 sz F_a31_offered E_a31) eT (by decide) (by decide) (by decide) (by decide) (by rw [hml]; rfl) pd1 rfl rfl (Nat.le_of_ble_eq_true rfl) (hb hby at_207) (q := 210) rfl ?_
      intro v T Lc hQ X
      obtain ⟨rfl, eT, N'⟩ := hQ
      have N := Fr.app N N'
      refine s_iload X hx (hb hby at_210) rfl (q := 212) rfl ?_
      refine s_i2l X hx (hb hby at_212) (q := 213) rfl ?_
      show Go p e below _ T m 213 #[.val (.int x0), .val (.int x1), .val (.long x2), .second, .val (.long x3), .second, .val (.int (1 : Int32)), .val (.int (2 : Int32)), .val (.ref a31), .val (.int (0 : Int32)), .val (.long (0 : Int64)), .second, .unset, .unset, .unset] [(.long (0 : Int64)), (.long (0 : Int64))]
      refine s_lcmp X hx (hb hby at_213) (q := 214) rfl ?_
      refine f_lcmp_ne X hx (hb hby at_214) (q1 := 221) (by decide) (by decide) (q := 217) rfl (fun hq => absurd (rfl : (0 : Int64) = (0 : Int64)) hq) (fun _ => ?_)
      refine s_iconst X hx (z := (1 : Int32)) (hb hby at_217) rfl (q := 218) rfl ?_
      refine s_goto X hx (hb hby at_218) (q1 := 222) (by decide) (by decide) ?_
      exact leafN X hx hlk hret (by simp) (hb hby at_222) (by decide) (by decide) (z' := 1) rfl ⟨rfl, N⟩
    · subst hcase
      refine s_istore X hx (hb hby at_8) (L' := #[.val (.int x0), .val (.int x1), .val (.long x2), .second, .val (.long x3), .second, .val (.int (1 : Int32)), .val (.int (3 : Int32)), .unset, .unset, .unset, .unset, .unset, .unset, .unset]) rfl (q := 10) rfl ?_
      refine s_new X hx hZ hown (hw _ (List.mem_of_getElem? (i := 0) rfl)) (hw _ (List.mem_of_getElem? (i := 1) rfl)) (hw _ (List.mem_of_getElem? (i := 2) rfl)) eT (by decide) (by decide) (hb hby at_10) (q := 13) rfl ?_
      intro T h35 a34 X eT E ea E_a34' Df
      have O_old := O_old.ext E
      have g_a34 : n0 ≤ a34 := by rw [ea]; exact sz
      have sz : n0 ≤ h35.size := Nat.le_trans sz E.1
      have E_a34 := E_a34'
      have F_a34_kept : Fld Z h35 a34 "com/example/cistern/cistern/ReservoirSampler" "kept" "Ljava/util/List;" .null := Df _ _ _ (.object "java/util/List") (Or.inr (hw _ (List.mem_of_getElem? (i := 34) rfl))) (by decide)
      have F_a34_capacity : Fld Z h35 a34 "com/example/cistern/cistern/ReservoirSampler" "capacity" "I" (.int (0 : Int32)) := Df _ _ _ .int (Or.inr (hw _ (List.mem_of_getElem? (i := 36) rfl))) (by decide)
      have F_a34_random : Fld Z h35 a34 "com/example/cistern/cistern/ReservoirSampler" "random" "Lcom/example/cistern/cistern/SplitMix64;" .null := Df _ _ _ (.object "com/example/cistern/cistern/SplitMix64") (Or.inr (hw _ (List.mem_of_getElem? (i := 47) rfl))) (by decide)
      have F_a34_passOver : Fld Z h35 a34 "com/example/cistern/cistern/ReservoirSampler" "passOver" "J" (.long (0 : Int64)) := Df _ _ _ .long (Or.inl (hw _ (List.mem_of_getElem? (i := 50) rfl))) (by decide)
      have F_a34_offered : Fld Z h35 a34 "com/example/cistern/cistern/ReservoirSampler" "offered" "J" (.long (0 : Int64)) := Df _ _ _ .long (Or.inl (hw _ (List.mem_of_getElem? (i := 62) rfl))) (by decide)
      refine s_dup X hx (hb hby at_13) rfl (q := 14) rfl ?_
      refine s_iload X hx (hb hby at_14) rfl (q := 16) rfl ?_
      refine s_lload X hx (hb hby at_16) rfl (q := 18) rfl ?_
      refine callI X hx hZ hown (W := 1) (argsL := [(.int (1 : Int32)), (.long x3)]) (rest := [(.ref a34)]) rfl (hw _ (List.mem_of_getElem? (i := 3) rfl)) (hw _ (List.mem_of_getElem? (i := 4) rfl)) (hw _ (List.mem_of_getElem? (i := 2) rfl)) (hw _ (List.mem_of_getElem? (i := 5) rfl)) (by decide) (rm1_1 l Z a0 hw [] a34 x3 d0 h35 n0 sz F_a34_kept F_a34_capacity F_a34_random F_a34_passOver F_a34_offered E_a34 g_a34 S0 A0 O_old) eT (by decide) (by decide) (by decide) (by decide) (by rw [hml]; rfl) pd17 rfl rfl (Nat.le_of_ble_eq_true rfl) (hb hby at_18) (q := 21) rfl ?_
      intro v T Lc hQ X
      obtain ⟨h36, eT⟩ : ∃ z, T.heap = z := ⟨_, rfl⟩
      rw [eT] at hQ
      obtain ⟨kl, gr, rfl, N', K', F_a34_kept', F_a34_capacity', F_a34_random', F_a34_passOver', F_a34_offered', F_kl_elementData', F_kl_size', F_kl_modCount', E_kl', F_gr_state', E_gr', sq_kl, sq_gr⟩ := hQ
      have N := Fr.app N N'
      have g_kl : n0 ≤ kl := Nat.le_trans sz sq_kl
      have ne_a34_kl : a34 ≠ kl := Nat.ne_of_lt (Nat.lt_of_lt_of_le E_a34.lt sq_kl)
      have g_gr : n0 ≤ gr := Nat.le_trans sz sq_gr
      have ne_a34_gr : a34 ≠ gr := Nat.ne_of_lt (Nat.lt_of_lt_of_le E_a34.lt sq_gr)
      have O_old := O_old.keep K' (allS g_a34 all0)
      have E_a34 := E_a34.keep K'
      have sz : n0 ≤ h36.size := Nat.le_trans sz K'.1
      have F_a34_kept : Fld Z h36 a34 "com/example/cistern/cistern/ReservoirSampler" "kept" "Ljava/util/List;" (.ref kl) := F_a34_kept'
      have F_a34_capacity : Fld Z h36 a34 "com/example/cistern/cistern/ReservoirSampler" "capacity" "I" (.int (1 : Int32)) := F_a34_capacity'
      have F_a34_random : Fld Z h36 a34 "com/example/cistern/cistern/ReservoirSampler" "random" "Lcom/example/cistern/cistern/SplitMix64;" (.ref gr) := F_a34_random'
      have F_a34_passOver : Fld Z h36 a34 "com/example/cistern/cistern/ReservoirSampler" "passOver" "J" (.long (0 : Int64)) := F_a34_passOver'
      have F_a34_offered : Fld Z h36 a34 "com/example/cistern/cistern/ReservoirSampler" "offered" "J" (.long (0 : Int64)) := F_a34_offered'
      have F_kl_elementData : Fld Z h36 kl "java/util/ArrayList" "elementData" "[Ljava/lang/Object;" (.ref d0) := F_kl_elementData'
      have F_kl_size : Fld Z h36 kl "java/util/ArrayList" "size" "I" (.int (0 : Int32)) := F_kl_size'
      have F_kl_modCount : Fld Z h36 kl "java/util/AbstractList" "modCount" "I" (.int (0 : Int32)) := F_kl_modCount'
      have E_kl : Exa Z h36 kl "java/util/ArrayList" := E_kl'
      have F_gr_state : Fld Z h36 gr "com/example/cistern/cistern/SplitMix64" "state" "J" (.long x3) := F_gr_state'
      have E_gr : Exa Z h36 gr "com/example/cistern/cistern/SplitMix64" := E_gr'
      have ne_kl_gr := ne_exa E_kl E_gr (by decide)
      refine s_astore X hx (hb hby at_21) rfl (L' := #[.val (.int x0), .val (.int x1), .val (.long x2), .second, .val (.long x3), .second, .val (.int (1 : Int32)), .val (.int (3 : Int32)), .val (.ref a34), .unset, .unset, .unset, .unset, .unset, .unset]) rfl (q := 23) rfl ?_
      refine s_iload X hx (hb hby at_23) rfl (q := 25) rfl ?_
      refine f_if_ne X hx (hb hby at_25) (q1 := 163) (by decide) (by decide) (q := 28) rfl (fun _ => ?_) (fun hq => absurd hq (by decide : ¬ (1 : Int32) = 0))
      refine s_iload X hx (hb hby at_163) rfl (q := 165) rfl ?_
      refine s_iload X hx (hb hby at_165) rfl (q := 167) rfl ?_
      refine s_iconst X hx (z := (1 : Int32)) (hb hby at_167) rfl (q := 168) rfl ?_
      refine s_isub X hx (hb hby at_168) (q := 169) rfl ?_
      show Go p e below _ T m 169 #[.val (.int x0), .val (.int x1), .val (.long x2), .second, .val (.long x3), .second, .val (.int (1 : Int32)), .val (.int (3 : Int32)), .val (.ref a34), .unset, .unset, .unset, .unset, .unset, .unset] [(.int (0 : Int32)), (.int (3 : Int32))]
      refine callP X hx hZ hown (W := 0) (argsL := [(.int (3 : Int32)), (.int (0 : Int32))]) (rest := []) (hw _ (List.mem_of_getElem? (i := 98) rfl)) (hw _ (List.mem_of_getElem? (i := 99) rfl)) (hw _ (List.mem_of_getElem? (i := 54) rfl)) (hw _ (List.mem_of_getElem? (i := 100) rfl)) (by decide) (rm15 l Z a0 hw [] (3 : Int32) (0 : Int32) h36) rfl rfl eT (by decide) (by decide) (by decide) (by decide) (by rw [hml]; rfl) pd6 rfl rfl (Nat.le_of_ble_eq_true rfl) (hb hby at_169) (q := 172) rfl ?_
      intro T X eT
      show Go p e below _ T m 172 #[.val (.int x0), .val (.int x1), .val (.long x2), .second, .val (.long x3), .second, .val (.int (1 : Int32)), .val (.int (3 : Int32)), .val (.ref a34), .unset, .unset, .unset, .unset, .unset, .unset] [(.int (0 : Int32))]
      refine s_istore X hx (hb hby at_172) (L' := #[.val (.int x0), .val (.int x1), .val (.long x2), .second, .val (.long x3), .second, .val (.int (1 : Int32)), .val (.int (3 : Int32)), .val (.ref a34), .val (.int (0 : Int32)), .unset, .unset, .unset, .unset, .unset]) rfl (q := 174) rfl ?_
      refine s_aload X hx (hb hby at_174) rfl rfl (q := 176) rfl ?_
      refine s_iload X hx (hb hby at_176) rfl (q := 178) rfl ?_
      refine callC X hx hZ hown (W := 0) (argsL := [(.ref a34), (.int (0 : Int32))]) (rest := []) (hw _ (List.mem_of_getElem? (i := 70) rfl)) (hw _ (List.mem_of_getElem? (i := 71) rfl)) (hw _ (List.mem_of_getElem? (i := 72) rfl)) (hw _ (List.mem_of_getElem? (i := 73) rfl)) (by decide) (rm10_f0 l Z a0 hw [] a34 h36 n0 sz) eT (by decide) (by decide) (by decide) (by decide) (by rw [hml]; rfl) pd18 rfl rfl (Nat.le_of_ble_eq_true rfl) (hb hby at_178) (q := 181) rfl ?_
      intro v T Lc hQ X
      obtain ⟨rfl, eT, N'⟩ := hQ
      have N := Fr.app N N'
      refine s_aload X hx (hb hby at_181) rfl rfl (q := 183) rfl ?_
      refine callV X hx hZ hown (W := 0) (argsL := []) (rest := []) (hw _ (List.mem_of_getElem? (i := 56) rfl)) (hw _ (List.mem_of_getElem? (i := 57) rfl)) (hw _ (List.mem_of_getElem? (i := 59) rfl)) (hw _ (List.mem_of_getElem? (i := 58) rfl)) (hw _ (List.mem_of_getElem? (i := 2) rfl)) (hw _ (List.mem_of_getElem? (i := 60) rfl)) (by decide) E_a34 (rm8 l Z a0 hw [] a34 (0 : Int64) (0 : Int64) (0 : Int64) h36 n0 sz F_a34_passOver F_a34_offered E_a34 (by decide +kernel)) eT (by decide) (by decide) (by decide) (by decide) (by rw [hml]; rfl) pd1 rfl rfl (Nat.le_of_ble_eq_true rfl) (hb hby at_183) (q := 186) rfl ?_
      intro v T Lc hQ X
      obtain ⟨rfl, eT, N'⟩ := hQ
      have N := Fr.app N N'
      refine s_lstore X hx (hb hby at_186) (L' := #[.val (.int x0), .val (.int x1), .val (.long x2), .second, .val (.long x3), .second, .val (.int (1 : Int32)), .val (.int (3 : Int32)), .val (.ref a34), .val (.int (0 : Int32)), .val (.long (0 : Int64)), .second, .unset, .unset, .unset]) rfl (q := 188) rfl ?_
      refine s_lload X hx (hb hby at_188) rfl (q := 190) rfl ?_
      refine s_lconst X hx (z := (0 : Int64)) (hb hby at_190) rfl (q := 191) rfl ?_
      refine s_lcmp X hx (hb hby at_191) (q := 192) rfl ?_
      refine f_lcmp_ne X hx (hb hby at_192) (q1 := 221) (by decide) (by decide) (q := 195) rfl (fun hq => absurd (rfl : (0 : Int64) = (0 : Int64)) hq) (fun _ => ?_)
      refine s_aload X hx (hb hby at_195) rfl rfl (q := 197) rfl ?_
      refine callV X hx hZ hown (W := 0) (argsL := []) (rest := []) (hw _ (List.mem_of_getElem? (i := 56) rfl)) (hw _ (List.mem_of_getElem? (i := 57) rfl)) (hw _ (List.mem_of_getElem? (i := 59) rfl)) (hw _ (List.mem_of_getElem? (i := 58) rfl)) (hw _ (List.mem_of_getElem? (i := 2) rfl)) (hw _ (List.mem_of_getElem? (i := 60) rfl)) (by decide) E_a34 (rm8 l Z a0 hw [] a34 (0 : Int64) (0 : Int64) (0 : Int64) h36 n0 sz F_a34_passOver F_a34_offered E_a34 (by decide +kernel)) eT (by decide) (by decide) (by decide) (by decide) (by rw [hml]; rfl) pd1 rfl rfl (Nat.le_of_ble_eq_true rfl) (hb hby at_197) (q := 200) rfl ?_
      intro v T Lc hQ X
      obtain ⟨rfl, eT, N'⟩ := hQ
      have N := Fr.app N N'
      refine s_lconst X hx (z := (0 : Int64)) (hb hby at_200) rfl (q := 201) rfl ?_
      refine s_lcmp X hx (hb hby at_201) (q := 202) rfl ?_
      refine f_lcmp_ne X hx (hb hby at_202) (q1 := 221) (by decide) (by decide) (q := 205) rfl (fun hq => absurd (rfl : (0 : Int64) = (0 : Int64)) hq) (fun _ => ?_)
      refine s_aload X hx (hb hby at_205) rfl rfl (q := 207) rfl ?_
      refine callV X hx hZ hown (W := 0) (argsL := []) (rest := []) (hw _ (List.mem_of_getElem? (i := 93) rfl)) (hw _ (List.mem_of_getElem? (i := 94) rfl)) (hw _ (List.mem_of_getElem? (i := 96) rfl)) (hw _ (List.mem_of_getElem? (i := 95) rfl)) (hw _ (List.mem_of_getElem? (i := 2) rfl)) (hw _ (List.mem_of_getElem? (i := 97) rfl)) (by decide) E_a34 (rm14 l Z a0 hw [] a34 (0 : Int64) h36 n0 sz F_a34_offered E_a34) eT (by decide) (by decide) (by decide) (by decide) (by rw [hml]; rfl) pd1 rfl rfl (Nat.le_of_ble_eq_true rfl) (hb hby at_207) (q := 210) rfl ?_
      intro v T Lc hQ X
      obtain ⟨rfl, eT, N'⟩ := hQ
      have N := Fr.app N N'
      refine s_iload X hx (hb hby at_210) rfl (q := 212) rfl ?_
      refine s_i2l X hx (hb hby at_212) (q := 213) rfl ?_
      show Go p e below _ T m 213 #[.val (.int x0), .val (.int x1), .val (.long x2), .second, .val (.long x3), .second, .val (.int (1 : Int32)), .val (.int (3 : Int32)), .val (.ref a34), .val (.int (0 : Int32)), .val (.long (0 : Int64)), .second, .unset, .unset, .unset] [(.long (0 : Int64)), (.long (0 : Int64))]
      refine s_lcmp X hx (hb hby at_213) (q := 214) rfl ?_
      refine f_lcmp_ne X hx (hb hby at_214) (q1 := 221) (by decide) (by decide) (q := 217) rfl (fun hq => absurd (rfl : (0 : Int64) = (0 : Int64)) hq) (fun _ => ?_)
      refine s_iconst X hx (z := (1 : Int32)) (hb hby at_217) rfl (q := 218) rfl ?_
      refine s_goto X hx (hb hby at_218) (q1 := 222) (by decide) (by decide) ?_
      exact leafN X hx hlk hret (by simp) (hb hby at_222) (by decide) (by decide) (z' := 1) rfl ⟨rfl, N⟩
  · subst hcase
    refine s_istore X hx (hb hby at_3) (L' := #[.val (.int x0), .val (.int x1), .val (.long x2), .second, .val (.long x3), .second, .val (.int (2 : Int32)), .unset, .unset, .unset, .unset, .unset, .unset, .unset, .unset]) rfl (q := 5) rfl ?_
    refine s_iloadN X hx (hb hby at_5) rfl (q := 6) rfl ?_
    refine s_iconst X hx (z := (3 : Int32)) (hb hby at_6) rfl (q := 7) rfl ?_
    refine s_iand X hx (hb hby at_7) (q := 8) rfl ?_
    generalize hkn : (x1 &&& (3 : Int32)) = kn
    rcases own_and3 hkn with hcase | hcase | hcase | hcase
    · subst hcase
      refine s_istore X hx (hb hby at_8) (L' := #[.val (.int x0), .val (.int x1), .val (.long x2), .second, .val (.long x3), .second, .val (.int (2 : Int32)), .val (.int (0 : Int32)), .unset, .unset, .unset, .unset, .unset, .unset, .unset]) rfl (q := 10) rfl ?_
      refine s_new X hx hZ hown (hw _ (List.mem_of_getElem? (i := 0) rfl)) (hw _ (List.mem_of_getElem? (i := 1) rfl)) (hw _ (List.mem_of_getElem? (i := 2) rfl)) eT (by decide) (by decide) (hb hby at_10) (q := 13) rfl ?_
      intro T h38 a37 X eT E ea E_a37' Df
      have O_old := O_old.ext E
      have g_a37 : n0 ≤ a37 := by rw [ea]; exact sz
      have sz : n0 ≤ h38.size := Nat.le_trans sz E.1
      have E_a37 := E_a37'
      have F_a37_kept : Fld Z h38 a37 "com/example/cistern/cistern/ReservoirSampler" "kept" "Ljava/util/List;" .null := Df _ _ _ (.object "java/util/List") (Or.inr (hw _ (List.mem_of_getElem? (i := 34) rfl))) (by decide)
      have F_a37_capacity : Fld Z h38 a37 "com/example/cistern/cistern/ReservoirSampler" "capacity" "I" (.int (0 : Int32)) := Df _ _ _ .int (Or.inr (hw _ (List.mem_of_getElem? (i := 36) rfl))) (by decide)
      have F_a37_random : Fld Z h38 a37 "com/example/cistern/cistern/ReservoirSampler" "random" "Lcom/example/cistern/cistern/SplitMix64;" .null := Df _ _ _ (.object "com/example/cistern/cistern/SplitMix64") (Or.inr (hw _ (List.mem_of_getElem? (i := 47) rfl))) (by decide)
      have F_a37_passOver : Fld Z h38 a37 "com/example/cistern/cistern/ReservoirSampler" "passOver" "J" (.long (0 : Int64)) := Df _ _ _ .long (Or.inl (hw _ (List.mem_of_getElem? (i := 50) rfl))) (by decide)
      have F_a37_offered : Fld Z h38 a37 "com/example/cistern/cistern/ReservoirSampler" "offered" "J" (.long (0 : Int64)) := Df _ _ _ .long (Or.inl (hw _ (List.mem_of_getElem? (i := 62) rfl))) (by decide)
      refine s_dup X hx (hb hby at_13) rfl (q := 14) rfl ?_
      refine s_iload X hx (hb hby at_14) rfl (q := 16) rfl ?_
      refine s_lload X hx (hb hby at_16) rfl (q := 18) rfl ?_
      refine callI X hx hZ hown (W := 1) (argsL := [(.int (2 : Int32)), (.long x3)]) (rest := [(.ref a37)]) rfl (hw _ (List.mem_of_getElem? (i := 3) rfl)) (hw _ (List.mem_of_getElem? (i := 4) rfl)) (hw _ (List.mem_of_getElem? (i := 2) rfl)) (hw _ (List.mem_of_getElem? (i := 5) rfl)) (by decide) (rm1_2 l Z a0 hw [] a37 x3 d0 h38 n0 sz F_a37_kept F_a37_capacity F_a37_random F_a37_passOver F_a37_offered E_a37 g_a37 S0 A0 O_old) eT (by decide) (by decide) (by decide) (by decide) (by rw [hml]; rfl) pd17 rfl rfl (Nat.le_of_ble_eq_true rfl) (hb hby at_18) (q := 21) rfl ?_
      intro v T Lc hQ X
      obtain ⟨h39, eT⟩ : ∃ z, T.heap = z := ⟨_, rfl⟩
      rw [eT] at hQ
      obtain ⟨kl, gr, rfl, N', K', F_a37_kept', F_a37_capacity', F_a37_random', F_a37_passOver', F_a37_offered', F_kl_elementData', F_kl_size', F_kl_modCount', E_kl', F_gr_state', E_gr', sq_kl, sq_gr⟩ := hQ
      have N := Fr.app N N'
      have g_kl : n0 ≤ kl := Nat.le_trans sz sq_kl
      have ne_a37_kl : a37 ≠ kl := Nat.ne_of_lt (Nat.lt_of_lt_of_le E_a37.lt sq_kl)
      have g_gr : n0 ≤ gr := Nat.le_trans sz sq_gr
      have ne_a37_gr : a37 ≠ gr := Nat.ne_of_lt (Nat.lt_of_lt_of_le E_a37.lt sq_gr)
      have O_old := O_old.keep K' (allS g_a37 all0)
      have E_a37 := E_a37.keep K'
      have sz : n0 ≤ h39.size := Nat.le_trans sz K'.1
      have F_a37_kept : Fld Z h39 a37 "com/example/cistern/cistern/ReservoirSampler" "kept" "Ljava/util/List;" (.ref kl) := F_a37_kept'
      have F_a37_capacity : Fld Z h39 a37 "com/example/cistern/cistern/ReservoirSampler" "capacity" "I" (.int (2 : Int32)) := F_a37_capacity'
      have F_a37_random : Fld Z h39 a37 "com/example/cistern/cistern/ReservoirSampler" "random" "Lcom/example/cistern/cistern/SplitMix64;" (.ref gr) := F_a37_random'
      have F_a37_passOver : Fld Z h39 a37 "com/example/cistern/cistern/ReservoirSampler" "passOver" "J" (.long (0 : Int64)) := F_a37_passOver'
      have F_a37_offered : Fld Z h39 a37 "com/example/cistern/cistern/ReservoirSampler" "offered" "J" (.long (0 : Int64)) := F_a37_offered'
      have F_kl_elementData : Fld Z h39 kl "java/util/ArrayList" "elementData" "[Ljava/lang/Object;" (.ref d0) := F_kl_elementData'
      have F_kl_size : Fld Z h39 kl "java/util/ArrayList" "size" "I" (.int (0 : Int32)) := F_kl_size'
      have F_kl_modCount : Fld Z h39 kl "java/util/AbstractList" "modCount" "I" (.int (0 : Int32)) := F_kl_modCount'
      have E_kl : Exa Z h39 kl "java/util/ArrayList" := E_kl'
      have F_gr_state : Fld Z h39 gr "com/example/cistern/cistern/SplitMix64" "state" "J" (.long x3) := F_gr_state'
      have E_gr : Exa Z h39 gr "com/example/cistern/cistern/SplitMix64" := E_gr'
      have ne_kl_gr := ne_exa E_kl E_gr (by decide)
      refine s_astore X hx (hb hby at_21) rfl (L' := #[.val (.int x0), .val (.int x1), .val (.long x2), .second, .val (.long x3), .second, .val (.int (2 : Int32)), .val (.int (0 : Int32)), .val (.ref a37), .unset, .unset, .unset, .unset, .unset, .unset]) rfl (q := 23) rfl ?_
      refine s_iload X hx (hb hby at_23) rfl (q := 25) rfl ?_
      refine f_if_ne X hx (hb hby at_25) (q1 := 163) (by decide) (by decide) (q := 28) rfl (fun _ => ?_) (fun hq => absurd hq (by decide : ¬ (2 : Int32) = 0))
      refine s_iload X hx (hb hby at_163) rfl (q := 165) rfl ?_
      refine s_iload X hx (hb hby at_165) rfl (q := 167) rfl ?_
      refine s_iconst X hx (z := (1 : Int32)) (hb hby at_167) rfl (q := 168) rfl ?_
      refine s_isub X hx (hb hby at_168) (q := 169) rfl ?_
      show Go p e below _ T m 169 #[.val (.int x0), .val (.int x1), .val (.long x2), .second, .val (.long x3), .second, .val (.int (2 : Int32)), .val (.int (0 : Int32)), .val (.ref a37), .unset, .unset, .unset, .unset, .unset, .unset] [(.int (1 : Int32)), (.int (0 : Int32))]
      refine callP X hx hZ hown (W := 0) (argsL := [(.int (0 : Int32)), (.int (1 : Int32))]) (rest := []) (hw _ (List.mem_of_getElem? (i := 98) rfl)) (hw _ (List.mem_of_getElem? (i := 99) rfl)) (hw _ (List.mem_of_getElem? (i := 54) rfl)) (hw _ (List.mem_of_getElem? (i := 100) rfl)) (by decide) (rm15 l Z a0 hw [] (0 : Int32) (1 : Int32) h39) rfl rfl eT (by decide) (by decide) (by decide) (by decide) (by rw [hml]; rfl) pd6 rfl rfl (Nat.le_of_ble_eq_true rfl) (hb hby at_169) (q := 172) rfl ?_
      intro T X eT
      show Go p e below _ T m 172 #[.val (.int x0), .val (.int x1), .val (.long x2), .second, .val (.long x3), .second, .val (.int (2 : Int32)), .val (.int (0 : Int32)), .val (.ref a37), .unset, .unset, .unset, .unset, .unset, .unset] [(.int (0 : Int32))]
      refine s_istore X hx (hb hby at_172) (L' := #[.val (.int x0), .val (.int x1), .val (.long x2), .second, .val (.long x3), .second, .val (.int (2 : Int32)), .val (.int (0 : Int32)), .val (.ref a37), .val (.int (0 : Int32)), .unset, .unset, .unset, .unset, .unset]) rfl (q := 174) rfl ?_
      refine s_aload X hx (hb hby at_174) rfl rfl (q := 176) rfl ?_
      refine s_iload X hx (hb hby at_176) rfl (q := 178) rfl ?_
      refine callC X hx hZ hown (W := 0) (argsL := [(.ref a37), (.int (0 : Int32))]) (rest := []) (hw _ (List.mem_of_getElem? (i := 70) rfl)) (hw _ (List.mem_of_getElem? (i := 71) rfl)) (hw _ (List.mem_of_getElem? (i := 72) rfl)) (hw _ (List.mem_of_getElem? (i := 73) rfl)) (by decide) (rm10_f0 l Z a0 hw [] a37 h39 n0 sz) eT (by decide) (by decide) (by decide) (by decide) (by rw [hml]; rfl) pd18 rfl rfl (Nat.le_of_ble_eq_true rfl) (hb hby at_178) (q := 181) rfl ?_
      intro v T Lc hQ X
      obtain ⟨rfl, eT, N'⟩ := hQ
      have N := Fr.app N N'
      refine s_aload X hx (hb hby at_181) rfl rfl (q := 183) rfl ?_
      refine callV X hx hZ hown (W := 0) (argsL := []) (rest := []) (hw _ (List.mem_of_getElem? (i := 56) rfl)) (hw _ (List.mem_of_getElem? (i := 57) rfl)) (hw _ (List.mem_of_getElem? (i := 59) rfl)) (hw _ (List.mem_of_getElem? (i := 58) rfl)) (hw _ (List.mem_of_getElem? (i := 2) rfl)) (hw _ (List.mem_of_getElem? (i := 60) rfl)) (by decide) E_a37 (rm8 l Z a0 hw [] a37 (0 : Int64) (0 : Int64) (0 : Int64) h39 n0 sz F_a37_passOver F_a37_offered E_a37 (by decide +kernel)) eT (by decide) (by decide) (by decide) (by decide) (by rw [hml]; rfl) pd1 rfl rfl (Nat.le_of_ble_eq_true rfl) (hb hby at_183) (q := 186) rfl ?_
      intro v T Lc hQ X
      obtain ⟨rfl, eT, N'⟩ := hQ
      have N := Fr.app N N'
      refine s_lstore X hx (hb hby at_186) (L' := #[.val (.int x0), .val (.int x1), .val (.long x2), .second, .val (.long x3), .second, .val (.int (2 : Int32)), .val (.int (0 : Int32)), .val (.ref a37), .val (.int (0 : Int32)), .val (.long (0 : Int64)), .second, .unset, .unset, .unset]) rfl (q := 188) rfl ?_
      refine s_lload X hx (hb hby at_188) rfl (q := 190) rfl ?_
      refine s_lconst X hx (z := (0 : Int64)) (hb hby at_190) rfl (q := 191) rfl ?_
      refine s_lcmp X hx (hb hby at_191) (q := 192) rfl ?_
      refine f_lcmp_ne X hx (hb hby at_192) (q1 := 221) (by decide) (by decide) (q := 195) rfl (fun hq => absurd (rfl : (0 : Int64) = (0 : Int64)) hq) (fun _ => ?_)
      refine s_aload X hx (hb hby at_195) rfl rfl (q := 197) rfl ?_
      refine callV X hx hZ hown (W := 0) (argsL := []) (rest := []) (hw _ (List.mem_of_getElem? (i := 56) rfl)) (hw _ (List.mem_of_getElem? (i := 57) rfl)) (hw _ (List.mem_of_getElem? (i := 59) rfl)) (hw _ (List.mem_of_getElem? (i := 58) rfl)) (hw _ (List.mem_of_getElem? (i := 2) rfl)) (hw _ (List.mem_of_getElem? (i := 60) rfl)) (by decide) E_a37 (rm8 l Z a0 hw [] a37 (0 : Int64) (0 : Int64) (0 : Int64) h39 n0 sz F_a37_passOver F_a37_offered E_a37 (by decide +kernel)) eT (by decide) (by decide) (by decide) (by decide) (by rw [hml]; rfl) pd1 rfl rfl (Nat.le_of_ble_eq_true rfl) (hb hby at_197) (q := 200) rfl ?_
      intro v T Lc hQ X
      obtain ⟨rfl, eT, N'⟩ := hQ
      have N := Fr.app N N'
      refine s_lconst X hx (z := (0 : Int64)) (hb hby at_200) rfl (q := 201) rfl ?_
      refine s_lcmp X hx (hb hby at_201) (q := 202) rfl ?_
      refine f_lcmp_ne X hx (hb hby at_202) (q1 := 221) (by decide) (by decide) (q := 205) rfl (fun hq => absurd (rfl : (0 : Int64) = (0 : Int64)) hq) (fun _ => ?_)
      refine s_aload X hx (hb hby at_205) rfl rfl (q := 207) rfl ?_
      refine callV X hx hZ hown (W := 0) (argsL := []) (rest := []) (hw _ (List.mem_of_getElem? (i := 93) rfl)) (hw _ (List.mem_of_getElem? (i := 94) rfl)) (hw _ (List.mem_of_getElem? (i := 96) rfl)) (hw _ (List.mem_of_getElem? (i := 95) rfl)) (hw _ (List.mem_of_getElem? (i := 2) rfl)) (hw _ (List.mem_of_getElem? (i := 97) rfl)) (by decide) E_a37 (rm14 l Z a0 hw [] a37 (0 : Int64) h39 n0 sz F_a37_offered E_a37) eT (by decide) (by decide) (by decide) (by decide) (by rw [hml]; rfl) pd1 rfl rfl (Nat.le_of_ble_eq_true rfl) (hb hby at_207) (q := 210) rfl ?_
      intro v T Lc hQ X
      obtain ⟨rfl, eT, N'⟩ := hQ
      have N := Fr.app N N'
      refine s_iload X hx (hb hby at_210) rfl (q := 212) rfl ?_
      refine s_i2l X hx (hb hby at_212) (q := 213) rfl ?_
      show Go p e below _ T m 213 #[.val (.int x0), .val (.int x1), .val (.long x2), .second, .val (.long x3), .second, .val (.int (2 : Int32)), .val (.int (0 : Int32)), .val (.ref a37), .val (.int (0 : Int32)), .val (.long (0 : Int64)), .second, .unset, .unset, .unset] [(.long (0 : Int64)), (.long (0 : Int64))]
      refine s_lcmp X hx (hb hby at_213) (q := 214) rfl ?_
      refine f_lcmp_ne X hx (hb hby at_214) (q1 := 221) (by decide) (by decide) (q := 217) rfl (fun hq => absurd (rfl : (0 : Int64) = (0 : Int64)) hq) (fun _ => ?_)
      refine s_iconst X hx (z := (1 : Int32)) (hb hby at_217) rfl (q := 218) rfl ?_
      refine s_goto X hx (hb hby at_218) (q1 := 222) (by decide) (by decide) ?_
      exact leafN X hx hlk hret (by simp) (hb hby at_222) (by decide) (by decide) (z' := 1) rfl ⟨rfl, N⟩
    · subst hcase
      refine s_istore X hx (hb hby at_8) (L' := #[.val (.int x0), .val (.int x1), .val (.long x2), .second, .val (.long x3), .second, .val (.int (2 : Int32)), .val (.int (1 : Int32)), .unset, .unset, .unset, .unset, .unset, .unset, .unset]) rfl (q := 10) rfl ?_
      refine s_new X hx hZ hown (hw _ (List.mem_of_getElem? (i := 0) rfl)) (hw _ (List.mem_of_getElem? (i := 1) rfl)) (hw _ (List.mem_of_getElem? (i := 2) rfl)) eT (by decide) (by decide) (hb hby at_10) (q := 13) rfl ?_
      intro T h41 a40 X eT E ea E_a40' Df
      have O_old := O_old.ext E
      have g_a40 : n0 ≤ a40 := by rw [ea]; exact sz
      have sz : n0 ≤ h41.size := Nat.le_trans sz E.1
      have E_a40 := E_a40'
      have F_a40_kept : Fld Z h41 a40 "com/example/cistern/cistern/ReservoirSampler" "kept" "Ljava/util/List;" .null := Df _ _ _ (.object "java/util/List") (Or.inr (hw _ (List.mem_of_getElem? (i := 34) rfl))) (by decide)
      have F_a40_capacity : Fld Z h41 a40 "com/example/cistern/cistern/ReservoirSampler" "capacity" "I" (.int (0 : Int32)) := Df _ _ _ .int (Or.inr (hw _ (List.mem_of_getElem? (i := 36) rfl))) (by decide)
      have F_a40_random : Fld Z h41 a40 "com/example/cistern/cistern/ReservoirSampler" "random" "Lcom/example/cistern/cistern/SplitMix64;" .null := Df _ _ _ (.object "com/example/cistern/cistern/SplitMix64") (Or.inr (hw _ (List.mem_of_getElem? (i := 47) rfl))) (by decide)
      have F_a40_passOver : Fld Z h41 a40 "com/example/cistern/cistern/ReservoirSampler" "passOver" "J" (.long (0 : Int64)) := Df _ _ _ .long (Or.inl (hw _ (List.mem_of_getElem? (i := 50) rfl))) (by decide)
      have F_a40_offered : Fld Z h41 a40 "com/example/cistern/cistern/ReservoirSampler" "offered" "J" (.long (0 : Int64)) := Df _ _ _ .long (Or.inl (hw _ (List.mem_of_getElem? (i := 62) rfl))) (by decide)
      refine s_dup X hx (hb hby at_13) rfl (q := 14) rfl ?_
      refine s_iload X hx (hb hby at_14) rfl (q := 16) rfl ?_
      refine s_lload X hx (hb hby at_16) rfl (q := 18) rfl ?_
      refine callI X hx hZ hown (W := 1) (argsL := [(.int (2 : Int32)), (.long x3)]) (rest := [(.ref a40)]) rfl (hw _ (List.mem_of_getElem? (i := 3) rfl)) (hw _ (List.mem_of_getElem? (i := 4) rfl)) (hw _ (List.mem_of_getElem? (i := 2) rfl)) (hw _ (List.mem_of_getElem? (i := 5) rfl)) (by decide) (rm1_2 l Z a0 hw [] a40 x3 d0 h41 n0 sz F_a40_kept F_a40_capacity F_a40_random F_a40_passOver F_a40_offered E_a40 g_a40 S0 A0 O_old) eT (by decide) (by decide) (by decide) (by decide) (by rw [hml]; rfl) pd17 rfl rfl (Nat.le_of_ble_eq_true rfl) (hb hby at_18) (q := 21) rfl ?_
      intro v T Lc hQ X
      obtain ⟨h42, eT⟩ : ∃ z, T.heap = z := ⟨_, rfl⟩
      rw [eT] at hQ
      obtain ⟨kl, gr, rfl, N', K', F_a40_kept', F_a40_capacity', F_a40_random', F_a40_passOver', F_a40_offered', F_kl_elementData', F_kl_size', F_kl_modCount', E_kl', F_gr_state', E_gr', sq_kl, sq_gr⟩ := hQ
      have N := Fr.app N N'
      have g_kl : n0 ≤ kl := Nat.le_trans sz sq_kl
      have ne_a40_kl : a40 ≠ kl := Nat.ne_of_lt (Nat.lt_of_lt_of_le E_a40.lt sq_kl)
      have g_gr : n0 ≤ gr := Nat.le_trans sz sq_gr
      have ne_a40_gr : a40 ≠ gr := Nat.ne_of_lt (Nat.lt_of_lt_of_le E_a40.lt sq_gr)
      have O_old := O_old.keep K' (allS g_a40 all0)
      have E_a40 := E_a40.keep K'
      have sz : n0 ≤ h42.size := Nat.le_trans sz K'.1
      have F_a40_kept : Fld Z h42 a40 "com/example/cistern/cistern/ReservoirSampler" "kept" "Ljava/util/List;" (.ref kl) := F_a40_kept'
      have F_a40_capacity : Fld Z h42 a40 "com/example/cistern/cistern/ReservoirSampler" "capacity" "I" (.int (2 : Int32)) := F_a40_capacity'
      have F_a40_random : Fld Z h42 a40 "com/example/cistern/cistern/ReservoirSampler" "random" "Lcom/example/cistern/cistern/SplitMix64;" (.ref gr) := F_a40_random'
      have F_a40_passOver : Fld Z h42 a40 "com/example/cistern/cistern/ReservoirSampler" "passOver" "J" (.long (0 : Int64)) := F_a40_passOver'
      have F_a40_offered : Fld Z h42 a40 "com/example/cistern/cistern/ReservoirSampler" "offered" "J" (.long (0 : Int64)) := F_a40_offered'
      have F_kl_elementData : Fld Z h42 kl "java/util/ArrayList" "elementData" "[Ljava/lang/Object;" (.ref d0) := F_kl_elementData'
      have F_kl_size : Fld Z h42 kl "java/util/ArrayList" "size" "I" (.int (0 : Int32)) := F_kl_size'
      have F_kl_modCount : Fld Z h42 kl "java/util/AbstractList" "modCount" "I" (.int (0 : Int32)) := F_kl_modCount'
      have E_kl : Exa Z h42 kl "java/util/ArrayList" := E_kl'
      have F_gr_state : Fld Z h42 gr "com/example/cistern/cistern/SplitMix64" "state" "J" (.long x3) := F_gr_state'
      have E_gr : Exa Z h42 gr "com/example/cistern/cistern/SplitMix64" := E_gr'
      have ne_kl_gr := ne_exa E_kl E_gr (by decide)
      refine s_astore X hx (hb hby at_21) rfl (L' := #[.val (.int x0), .val (.int x1), .val (.long x2), .second, .val (.long x3), .second, .val (.int (2 : Int32)), .val (.int (1 : Int32)), .val (.ref a40), .unset, .unset, .unset, .unset, .unset, .unset]) rfl (q := 23) rfl ?_
      refine s_iload X hx (hb hby at_23) rfl (q := 25) rfl ?_
      refine f_if_ne X hx (hb hby at_25) (q1 := 163) (by decide) (by decide) (q := 28) rfl (fun _ => ?_) (fun hq => absurd hq (by decide : ¬ (2 : Int32) = 0))
      refine s_iload X hx (hb hby at_163) rfl (q := 165) rfl ?_
      refine s_iload X hx (hb hby at_165) rfl (q := 167) rfl ?_
      refine s_iconst X hx (z := (1 : Int32)) (hb hby at_167) rfl (q := 168) rfl ?_
      refine s_isub X hx (hb hby at_168) (q := 169) rfl ?_
      show Go p e below _ T m 169 #[.val (.int x0), .val (.int x1), .val (.long x2), .second, .val (.long x3), .second, .val (.int (2 : Int32)), .val (.int (1 : Int32)), .val (.ref a40), .unset, .unset, .unset, .unset, .unset, .unset] [(.int (1 : Int32)), (.int (1 : Int32))]
      refine callP X hx hZ hown (W := 0) (argsL := [(.int (1 : Int32)), (.int (1 : Int32))]) (rest := []) (hw _ (List.mem_of_getElem? (i := 98) rfl)) (hw _ (List.mem_of_getElem? (i := 99) rfl)) (hw _ (List.mem_of_getElem? (i := 54) rfl)) (hw _ (List.mem_of_getElem? (i := 100) rfl)) (by decide) (rm15 l Z a0 hw [] (1 : Int32) (1 : Int32) h42) rfl rfl eT (by decide) (by decide) (by decide) (by decide) (by rw [hml]; rfl) pd6 rfl rfl (Nat.le_of_ble_eq_true rfl) (hb hby at_169) (q := 172) rfl ?_
      intro T X eT
      show Go p e below _ T m 172 #[.val (.int x0), .val (.int x1), .val (.long x2), .second, .val (.long x3), .second, .val (.int (2 : Int32)), .val (.int (1 : Int32)), .val (.ref a40), .unset, .unset, .unset, .unset, .unset, .unset] [(.int (1 : Int32))]
      refine s_istore X hx (hb hby at_172) (L' := #[.val (.int x0), .val (.int x1), .val (.long x2), .second, .val (.long x3), .second, .val (.int (2 : Int32)), .val (.int (1 : Int32)), .val (.ref a40), .val (.int (1 : Int32)), .unset, .unset, .unset, .unset, .unset]) rfl (q := 174) rfl ?_
      refine s_aload X hx (hb hby at_174) rfl rfl (q := 176) rfl ?_
      refine s_iload X hx (hb hby at_176) rfl (q := 178) rfl ?_
      refine callC X hx hZ hown (W := 0) (argsL := [(.ref a40), (.int (1 : Int32))]) (rest := []) (hw _ (List.mem_of_getElem? (i := 70) rfl)) (hw _ (List.mem_of_getElem? (i := 71) rfl)) (hw _ (List.mem_of_getElem? (i := 72) rfl)) (hw _ (List.mem_of_getElem? (i := 73) rfl)) (by decide) (rm10_f1 l Z a0 hw [] a40 kl gr (2 : Int32) (0 : Int64) x3 d0 h42 n0 sz F_a40_kept F_a40_capacity F_a40_random F_a40_passOver F_a40_offered E_a40 F_kl_elementData F_kl_size F_kl_modCount E_kl F_gr_state E_gr g_a40 g_kl g_gr S0 A0 O_old (by decide) (by decide)) eT (by decide) (by decide) (by decide) (by decide) (by rw [hml]; rfl) pd18 rfl rfl (Nat.le_of_ble_eq_true rfl) (hb hby at_178) (q := 181) rfl ?_
      intro v T Lc hQ X
      obtain ⟨h43, eT⟩ : ∃ z, T.heap = z := ⟨_, rfl⟩
      rw [eT] at hQ
      obtain ⟨rfl, N', K', F_a40_kept', F_a40_capacity', F_a40_random', F_a40_passOver', F_a40_offered'⟩ := hQ
      have N := Fr.app N N'
      have O_old := O_old.keep K' (allS g_a40 (allS g_kl (allS g_gr all0)))
      have E_a40 := E_a40.keep K'
      have E_kl := E_kl.keep K'
      have E_gr := E_gr.keep K'
      have sz : n0 ≤ h43.size := Nat.le_trans sz K'.1
      have F_a40_kept : Fld Z h43 a40 "com/example/cistern/cistern/ReservoirSampler" "kept" "Ljava/util/List;" (.ref kl) := F_a40_kept'
      have F_a40_capacity : Fld Z h43 a40 "com/example/cistern/cistern/ReservoirSampler" "capacity" "I" (.int (2 : Int32)) := F_a40_capacity'
      have F_a40_random : Fld Z h43 a40 "com/example/cistern/cistern/ReservoirSampler" "random" "Lcom/example/cistern/cistern/SplitMix64;" (.ref gr) := F_a40_random'
      have F_a40_passOver : Fld Z h43 a40 "com/example/cistern/cistern/ReservoirSampler" "passOver" "J" (.long (0 : Int64)) := F_a40_passOver'
      have F_a40_offered : Fld Z h43 a40 "com/example/cistern/cistern/ReservoirSampler" "offered" "J" (.long (1 : Int64)) := F_a40_offered'
      refine s_aload X hx (hb hby at_181) rfl rfl (q := 183) rfl ?_
      refine callV X hx hZ hown (W := 0) (argsL := []) (rest := []) (hw _ (List.mem_of_getElem? (i := 56) rfl)) (hw _ (List.mem_of_getElem? (i := 57) rfl)) (hw _ (List.mem_of_getElem? (i := 59) rfl)) (hw _ (List.mem_of_getElem? (i := 58) rfl)) (hw _ (List.mem_of_getElem? (i := 2) rfl)) (hw _ (List.mem_of_getElem? (i := 60) rfl)) (by decide) E_a40 (rm8 l Z a0 hw [] a40 (0 : Int64) (1 : Int64) (0 : Int64) h43 n0 sz F_a40_passOver F_a40_offered E_a40 (by decide +kernel)) eT (by decide) (by decide) (by decide) (by decide) (by rw [hml]; rfl) pd1 rfl rfl (Nat.le_of_ble_eq_true rfl) (hb hby at_183) (q := 186) rfl ?_
      intro v T Lc hQ X
      obtain ⟨rfl, eT, N'⟩ := hQ
      have N := Fr.app N N'
      refine s_lstore X hx (hb hby at_186) (L' := #[.val (.int x0), .val (.int x1), .val (.long x2), .second, .val (.long x3), .second, .val (.int (2 : Int32)), .val (.int (1 : Int32)), .val (.ref a40), .val (.int (1 : Int32)), .val (.long (0 : Int64)), .second, .unset, .unset, .unset]) rfl (q := 188) rfl ?_
      refine s_lload X hx (hb hby at_188) rfl (q := 190) rfl ?_
      refine s_lconst X hx (z := (0 : Int64)) (hb hby at_190) rfl (q := 191) rfl ?_
      refine s_lcmp X hx (hb hby at_191) (q := 192) rfl ?_
      refine f_lcmp_ne X hx (hb hby at_192) (q1 := 221) (by decide) (by decide) (q := 195) rfl (fun hq => absurd (rfl : (0 : Int64) = (0 : Int64)) hq) (fun _ => ?_)
      refine s_aload X hx (hb hby at_195) rfl rfl (q := 197) rfl ?_
      refine callV X hx hZ hown (W := 0) (argsL := []) (rest := []) (hw _ (List.mem_of_getElem? (i := 56) rfl)) (hw _ (List.mem_of_getElem? (i := 57) rfl)) (hw _ (List.mem_of_getElem? (i := 59) rfl)) (hw _ (List.mem_of_getElem? (i := 58) rfl)) (hw _ (List.mem_of_getElem? (i := 2) rfl)) (hw _ (List.mem_of_getElem? (i := 60) rfl)) (by decide) E_a40 (rm8 l Z a0 hw [] a40 (0 : Int64) (1 : Int64) (0 : Int64) h43 n0 sz F_a40_passOver F_a40_offered E_a40 (by decide +kernel)) eT (by decide) (by decide) (by decide) (by decide) (by rw [hml]; rfl) pd1 rfl rfl (Nat.le_of_ble_eq_true rfl) (hb hby at_197) (q := 200) rfl ?_
      intro v T Lc hQ X
      obtain ⟨rfl, eT, N'⟩ := hQ
      have N := Fr.app N N'
      refine s_lconst X hx (z := (0 : Int64)) (hb hby at_200) rfl (q := 201) rfl ?_
      refine s_lcmp X hx (hb hby at_201) (q := 202) rfl ?_
      refine f_lcmp_ne X hx (hb hby at_202) (q1 := 221) (by decide) (by decide) (q := 205) rfl (fun hq => absurd (rfl : (0 : Int64) = (0 : Int64)) hq) (fun _ => ?_)
      refine s_aload X hx (hb hby at_205) rfl rfl (q := 207) rfl ?_
      refine callV X hx hZ hown (W := 0) (argsL := []) (rest := []) (hw _ (List.mem_of_getElem? (i := 93) rfl)) (hw _ (List.mem_of_getElem? (i := 94) rfl)) (hw _ (List.mem_of_getElem? (i := 96) rfl)) (hw _ (List.mem_of_getElem? (i := 95) rfl)) (hw _ (List.mem_of_getElem? (i := 2) rfl)) (hw _ (List.mem_of_getElem? (i := 97) rfl)) (by decide) E_a40 (rm14 l Z a0 hw [] a40 (1 : Int64) h43 n0 sz F_a40_offered E_a40) eT (by decide) (by decide) (by decide) (by decide) (by rw [hml]; rfl) pd1 rfl rfl (Nat.le_of_ble_eq_true rfl) (hb hby at_207) (q := 210) rfl ?_
      intro v T Lc hQ X
      obtain ⟨rfl, eT, N'⟩ := hQ
      have N := Fr.app N N'
      refine s_iload X hx (hb hby at_210) rfl (q := 212) rfl ?_
      refine s_i2l X hx (hb hby at_212) (q := 213) rfl ?_
      show Go p e below _ T m 213 #[.val (.int x0), .val (.int x1), .val (.long x2), .second, .val (.long x3), .second, .val (.int (2 : Int32)), .val (.int (1 : Int32)), .val (.ref a40), .val (.int (1 : Int32)), .val (.long (0 : Int64)), .second, .unset, .unset, .unset] [(.long (1 : Int64)), (.long (1 : Int64))]
      refine s_lcmp X hx (hb hby at_213) (q := 214) rfl ?_
      refine f_lcmp_ne X hx (hb hby at_214) (q1 := 221) (by decide) (by decide) (q := 217) rfl (fun hq => absurd (rfl : (1 : Int64) = (1 : Int64)) hq) (fun _ => ?_)
      refine s_iconst X hx (z := (1 : Int32)) (hb hby at_217) rfl (q := 218) rfl ?_
      refine s_goto X hx (hb hby at_218) (q1 := 222) (by decide) (by decide) ?_
      exact leafN X hx hlk hret (by simp) (hb hby at_222) (by decide) (by decide) (z' := 1) rfl ⟨rfl, N⟩
    · subst hcase
      refine s_istore X hx (hb hby at_8) (L' := #[.val (.int x0), .val (.int x1), .val (.long x2), .second, .val (.long x3), .second, .val (.int (2 : Int32)), .val (.int (2 : Int32)), .unset, .unset, .unset, .unset, .unset, .unset, .unset]) rfl (q := 10) rfl ?_
      refine s_new X hx hZ hown (hw _ (List.mem_of_getElem? (i := 0) rfl)) (hw _ (List.mem_of_getElem? (i := 1) rfl)) (hw _ (List.mem_of_getElem? (i := 2) rfl)) eT (by decide) (by decide) (hb hby at_10) (q := 13) rfl ?_
      intro T h45 a44 X eT E ea E_a44' Df
      have O_old := O_old.ext E
      have g_a44 : n0 ≤ a44 := by rw [ea]; exact sz
      have sz : n0 ≤ h45.size := Nat.le_trans sz E.1
      have E_a44 := E_a44'
      have F_a44_kept : Fld Z h45 a44 "com/example/cistern/cistern/ReservoirSampler" "kept" "Ljava/util/List;" .null := Df _ _ _ (.object "java/util/List") (Or.inr (hw _ (List.mem_of_getElem? (i := 34) rfl))) (by decide)
      have F_a44_capacity : Fld Z h45 a44 "com/example/cistern/cistern/ReservoirSampler" "capacity" "I" (.int (0 : Int32)) := Df _ _ _ .int (Or.inr (hw _ (List.mem_of_getElem? (i := 36) rfl))) (by decide)
      have F_a44_random : Fld Z h45 a44 "com/example/cistern/cistern/ReservoirSampler" "random" "Lcom/example/cistern/cistern/SplitMix64;" .null := Df _ _ _ (.object "com/example/cistern/cistern/SplitMix64") (Or.inr (hw _ (List.mem_of_getElem? (i := 47) rfl))) (by decide)
      have F_a44_passOver : Fld Z h45 a44 "com/example/cistern/cistern/ReservoirSampler" "passOver" "J" (.long (0 : Int64)) := Df _ _ _ .long (Or.inl (hw _ (List.mem_of_getElem? (i := 50) rfl))) (by decide)
      have F_a44_offered : Fld Z h45 a44 "com/example/cistern/cistern/ReservoirSampler" "offered" "J" (.long (0 : Int64)) := Df _ _ _ .long (Or.inl (hw _ (List.mem_of_getElem? (i := 62) rfl))) (by decide)
      refine s_dup X hx (hb hby at_13) rfl (q := 14) rfl ?_
      refine s_iload X hx (hb hby at_14) rfl (q := 16) rfl ?_
      refine s_lload X hx (hb hby at_16) rfl (q := 18) rfl ?_
      refine callI X hx hZ hown (W := 1) (argsL := [(.int (2 : Int32)), (.long x3)]) (rest := [(.ref a44)]) rfl (hw _ (List.mem_of_getElem? (i := 3) rfl)) (hw _ (List.mem_of_getElem? (i := 4) rfl)) (hw _ (List.mem_of_getElem? (i := 2) rfl)) (hw _ (List.mem_of_getElem? (i := 5) rfl)) (by decide) (rm1_2 l Z a0 hw [] a44 x3 d0 h45 n0 sz F_a44_kept F_a44_capacity F_a44_random F_a44_passOver F_a44_offered E_a44 g_a44 S0 A0 O_old) eT (by decide) (by decide) (by decide) (by decide) (by rw [hml]; rfl) pd17 rfl rfl (Nat.le_of_ble_eq_true rfl) (hb hby at_18) (q := 21) rfl ?_
      intro v T Lc hQ X
      obtain ⟨h46, eT⟩ : ∃ z, T.heap = z := ⟨_, rfl⟩
      rw [eT] at hQ
      obtain ⟨kl, gr, rfl, N', K', F_a44_kept', F_a44_capacity', F_a44_random', F_a44_passOver', F_a44_offered', F_kl_elementData', F_kl_size', F_kl_modCount', E_kl', F_gr_state', E_gr', sq_kl, sq_gr⟩ := hQ
      have N := Fr.app N N'
      have g_kl : n0 ≤ kl := Nat.le_trans sz sq_kl
      have ne_a44_kl : a44 ≠ kl := Nat.ne_of_lt (Nat.lt_of_lt_of_le E_a44.lt sq_kl)
      have g_gr : n0 ≤ gr := Nat.le_trans sz sq_gr
      have ne_a44_gr : a44 ≠ gr := Nat.ne_of_lt (Nat.lt_of_lt_of_le E_a44.lt sq_gr)
      have O_old := O_old.keep K' (allS g_a44 all0)
      have E_a44 := E_a44.keep K'
      have sz : n0 ≤ h46.size := Nat.le_trans sz K'.1
      have F_a44_kept : Fld Z h46 a44 "com/example/cistern/cistern/ReservoirSampler" "kept" "Ljava/util/List;" (.ref kl) := F_a44_kept'
      have F_a44_capacity : Fld Z h46 a44 "com/example/cistern/cistern/ReservoirSampler" "capacity" "I" (.int (2 : Int32)) := F_a44_capacity'
      have F_a44_random : Fld Z h46 a44 "com/example/cistern/cistern/ReservoirSampler" "random" "Lcom/example/cistern/cistern/SplitMix64;" (.ref gr) := F_a44_random'
      have F_a44_passOver : Fld Z h46 a44 "com/example/cistern/cistern/ReservoirSampler" "passOver" "J" (.long (0 : Int64)) := F_a44_passOver'
      have F_a44_offered : Fld Z h46 a44 "com/example/cistern/cistern/ReservoirSampler" "offered" "J" (.long (0 : Int64)) := F_a44_offered'
      have F_kl_elementData : Fld Z h46 kl "java/util/ArrayList" "elementData" "[Ljava/lang/Object;" (.ref d0) := F_kl_elementData'
      have F_kl_size : Fld Z h46 kl "java/util/ArrayList" "size" "I" (.int (0 : Int32)) := F_kl_size'
      have F_kl_modCount : Fld Z h46 kl "java/util/AbstractList" "modCount" "I" (.int (0 : Int32)) := F_kl_modCount'
      have E_kl : Exa Z h46 kl "java/util/ArrayList" := E_kl'
      have F_gr_state : Fld Z h46 gr "com/example/cistern/cistern/SplitMix64" "state" "J" (.long x3) := F_gr_state'
      have E_gr : Exa Z h46 gr "com/example/cistern/cistern/SplitMix64" := E_gr'
      have ne_kl_gr := ne_exa E_kl E_gr (by decide)
      refine s_astore X hx (hb hby at_21) rfl (L' := #[.val (.int x0), .val (.int x1), .val (.long x2), .second, .val (.long x3), .second, .val (.int (2 : Int32)), .val (.int (2 : Int32)), .val (.ref a44), .unset, .unset, .unset, .unset, .unset, .unset]) rfl (q := 23) rfl ?_
      refine s_iload X hx (hb hby at_23) rfl (q := 25) rfl ?_
      refine f_if_ne X hx (hb hby at_25) (q1 := 163) (by decide) (by decide) (q := 28) rfl (fun _ => ?_) (fun hq => absurd hq (by decide : ¬ (2 : Int32) = 0))
      refine s_iload X hx (hb hby at_163) rfl (q := 165) rfl ?_
      refine s_iload X hx (hb hby at_165) rfl (q := 167) rfl ?_
      refine s_iconst X hx (z := (1 : Int32)) (hb hby at_167) rfl (q := 168) rfl ?_
      refine s_isub X hx (hb hby at_168) (q := 169) rfl ?_
      show Go p e below _ T m 169 #[.val (.int x0), .val (.int x1), .val (.long x2), .second, .val (.long x3), .second, .val (.int (2 : Int32)), .val (.int (2 : Int32)), .val (.ref a44), .unset, .unset, .unset, .unset, .unset, .unset] [(.int (1 : Int32)), (.int (2 : Int32))]
      refine callP X hx hZ hown (W := 0) (argsL := [(.int (2 : Int32)), (.int (1 : Int32))]) (rest := []) (hw _ (List.mem_of_getElem? (i := 98) rfl)) (hw _ (List.mem_of_getElem? (i := 99) rfl)) (hw _ (List.mem_of_getElem? (i := 54) rfl)) (hw _ (List.mem_of_getElem? (i := 100) rfl)) (by decide) (rm15 l Z a0 hw [] (2 : Int32) (1 : Int32) h46) rfl rfl eT (by decide) (by decide) (by decide) (by decide) (by rw [hml]; rfl) pd6 rfl rfl (Nat.le_of_ble_eq_true rfl) (hb hby at_169) (q := 172) rfl ?_
      intro T X eT
      show Go p e below _ T m 172 #[.val (.int x0), .val (.int x1), .val (.long x2), .second, .val (.long x3), .second, .val (.int (2 : Int32)), .val (.int (2 : Int32)), .val (.ref a44), .unset, .unset, .unset, .unset, .unset, .unset] [(.int (1 : Int32))]
      refine s_istore X hx (hb hby at_172) (L' := #[.val (.int x0), .val (.int x1), .val (.long x2), .second, .val (.long x3), .second, .val (.int (2 : Int32)), .val (.int (2 : Int32)), .val (.ref a44), .val (.int (1 : Int32)), .unset, .unset, .unset, .unset, .unset]) rfl (q := 174) rfl ?_
      refine s_aload X hx (hb hby at_174) rfl rfl (q := 176) rfl ?_
      refine s_iload X hx (hb hby at_176) rfl (q := 178) rfl ?_
      refine callC X hx hZ hown (W := 0) (argsL := [(.ref a44), (.int (1 : Int32))]) (rest := []) (hw _ (List.mem_of_getElem? (i := 70) rfl)) (hw _ (List.mem_of_getElem? (i := 71) rfl)) (hw _ (List.mem_of_getElem? (i := 72) rfl)) (hw _ (List.mem_of_getElem? (i := 73) rfl)) (by decide) (rm10_f1 l Z a0 hw [] a44 kl gr (2 : Int32) (0 : Int64) x3 d0 h46 n0 sz F_a44_kept F_a44_capacity F_a44_random F_a44_passOver F_a44_offered E_a44 F_kl_elementData F_kl_size F_kl_modCount E_kl F_gr_state E_gr g_a44 g_kl g_gr S0 A0 O_old (by decide) (by decide)) eT (by decide) (by decide) (by decide) (by decide) (by rw [hml]; rfl) pd18 rfl rfl (Nat.le_of_ble_eq_true rfl) (hb hby at_178) (q := 181) rfl ?_
      intro v T Lc hQ X
      obtain ⟨h47, eT⟩ : ∃ z, T.heap = z := ⟨_, rfl⟩
      rw [eT] at hQ
      obtain ⟨rfl, N', K', F_a44_kept', F_a44_capacity', F_a44_random', F_a44_passOver', F_a44_offered'⟩ := hQ
      have N := Fr.app N N'
      have O_old := O_old.keep K' (allS g_a44 (allS g_kl (allS g_gr all0)))
      have E_a44 := E_a44.keep K'
      have E_kl := E_kl.keep K'
      have E_gr := E_gr.keep K'
      have sz : n0 ≤ h47.size := Nat.le_trans sz K'.1
      have F_a44_kept : Fld Z h47 a44 "com/example/cistern/cistern/ReservoirSampler" "kept" "Ljava/util/List;" (.ref kl) := F_a44_kept'
      have F_a44_capacity : Fld Z h47 a44 "com/example/cistern/cistern/ReservoirSampler" "capacity" "I" (.int (2 : Int32)) := F_a44_capacity'
      have F_a44_random : Fld Z h47 a44 "com/example/cistern/cistern/ReservoirSampler" "random" "Lcom/example/cistern/cistern/SplitMix64;" (.ref gr) := F_a44_random'
      have F_a44_passOver : Fld Z h47 a44 "com/example/cistern/cistern/ReservoirSampler" "passOver" "J" (.long (0 : Int64)) := F_a44_passOver'
      have F_a44_offered : Fld Z h47 a44 "com/example/cistern/cistern/ReservoirSampler" "offered" "J" (.long (1 : Int64)) := F_a44_offered'
      refine s_aload X hx (hb hby at_181) rfl rfl (q := 183) rfl ?_
      refine callV X hx hZ hown (W := 0) (argsL := []) (rest := []) (hw _ (List.mem_of_getElem? (i := 56) rfl)) (hw _ (List.mem_of_getElem? (i := 57) rfl)) (hw _ (List.mem_of_getElem? (i := 59) rfl)) (hw _ (List.mem_of_getElem? (i := 58) rfl)) (hw _ (List.mem_of_getElem? (i := 2) rfl)) (hw _ (List.mem_of_getElem? (i := 60) rfl)) (by decide) E_a44 (rm8 l Z a0 hw [] a44 (0 : Int64) (1 : Int64) (0 : Int64) h47 n0 sz F_a44_passOver F_a44_offered E_a44 (by decide +kernel)) eT (by decide) (by decide) (by decide) (by decide) (by rw [hml]; rfl) pd1 rfl rfl (Nat.le_of_ble_eq_true rfl) (hb hby at_183) (q := 186) rfl ?_
      intro v T Lc hQ X
      obtain ⟨rfl, eT, N'⟩ := hQ
      have N := Fr.app N N'
      refine s_lstore X hx (hb hby at_186) (L' := #[.val (.int x0), .val (.int x1), .val (.long x2), .second, .val (.long x3), .second, .val (.int (2 : Int32)), .val (.int (2 : Int32)), .val (.ref a44), .val (.int (1 : Int32)), .val (.long (0 : Int64)), .second, .unset, .unset, .unset]) rfl (q := 188) rfl ?_
      refine s_lload X hx (hb hby at_188) rfl (q := 190) rfl ?_
      refine s_lconst X hx (z := (0 : Int64)) (hb hby at_190) rfl (q := 191) rfl ?_
      refine s_lcmp X hx (hb hby at_191) (q := 192) rfl ?_
      refine f_lcmp_ne X hx (hb hby at_192) (q1 := 221) (by decide) (by decide) (q := 195) rfl (fun hq => absurd (rfl : (0 : Int64) = (0 : Int64)) hq) (fun _ => ?_)
      refine s_aload X hx (hb hby at_195) rfl rfl (q := 197) rfl ?_
      refine callV X hx hZ hown (W := 0) (argsL := []) (rest := []) (hw _ (List.mem_of_getElem? (i := 56) rfl)) (hw _ (List.mem_of_getElem? (i := 57) rfl)) (hw _ (List.mem_of_getElem? (i := 59) rfl)) (hw _ (List.mem_of_getElem? (i := 58) rfl)) (hw _ (List.mem_of_getElem? (i := 2) rfl)) (hw _ (List.mem_of_getElem? (i := 60) rfl)) (by decide) E_a44 (rm8 l Z a0 hw [] a44 (0 : Int64) (1 : Int64) (0 : Int64) h47 n0 sz F_a44_passOver F_a44_offered E_a44 (by decide +kernel)) eT (by decide) (by decide) (by decide) (by decide) (by rw [hml]; rfl) pd1 rfl rfl (Nat.le_of_ble_eq_true rfl) (hb hby at_197) (q := 200) rfl ?_
      intro v T Lc hQ X
      obtain ⟨rfl, eT, N'⟩ := hQ
      have N := Fr.app N N'
      refine s_lconst X hx (z := (0 : Int64)) (hb hby at_200) rfl (q := 201) rfl ?_
      refine s_lcmp X hx (hb hby at_201) (q := 202) rfl ?_
      refine f_lcmp_ne X hx (hb hby at_202) (q1 := 221) (by decide) (by decide) (q := 205) rfl (fun hq => absurd (rfl : (0 : Int64) = (0 : Int64)) hq) (fun _ => ?_)
      refine s_aload X hx (hb hby at_205) rfl rfl (q := 207) rfl ?_
      refine callV X hx hZ hown (W := 0) (argsL := []) (rest := []) (hw _ (List.mem_of_getElem? (i := 93) rfl)) (hw _ (List.mem_of_getElem? (i := 94) rfl)) (hw _ (List.mem_of_getElem? (i := 96) rfl)) (hw _ (List.mem_of_getElem? (i := 95) rfl)) (hw _ (List.mem_of_getElem? (i := 2) rfl)) (hw _ (List.mem_of_getElem? (i := 97) rfl)) (by decide) E_a44 (rm14 l Z a0 hw [] a44 (1 : Int64) h47 n0 sz F_a44_offered E_a44) eT (by decide) (by decide) (by decide) (by decide) (by rw [hml]; rfl) pd1 rfl rfl (Nat.le_of_ble_eq_true rfl) (hb hby at_207) (q := 210) rfl ?_
      intro v T Lc hQ X
      obtain ⟨rfl, eT, N'⟩ := hQ
      have N := Fr.app N N'
      refine s_iload X hx (hb hby at_210) rfl (q := 212) rfl ?_
      refine s_i2l X hx (hb hby at_212) (q := 213) rfl ?_
      show Go p e below _ T m 213 #[.val (.int x0), .val (.int x1), .val (.long x2), .second, .val (.long x3), .second, .val (.int (2 : Int32)), .val (.int (2 : Int32)), .val (.ref a44), .val (.int (1 : Int32)), .val (.long (0 : Int64)), .second, .unset, .unset, .unset] [(.long (1 : Int64)), (.long (1 : Int64))]
      refine s_lcmp X hx (hb hby at_213) (q := 214) rfl ?_
      refine f_lcmp_ne X hx (hb hby at_214) (q1 := 221) (by decide) (by decide) (q := 217) rfl (fun hq => absurd (rfl : (1 : Int64) = (1 : Int64)) hq) (fun _ => ?_)
      refine s_iconst X hx (z := (1 : Int32)) (hb hby at_217) rfl (q := 218) rfl ?_
      refine s_goto X hx (hb hby at_218) (q1 := 222) (by decide) (by decide) ?_
      exact leafN X hx hlk hret (by simp) (hb hby at_222) (by decide) (by decide) (z' := 1) rfl ⟨rfl, N⟩
    · subst hcase
      refine s_istore X hx (hb hby at_8) (L' := #[.val (.int x0), .val (.int x1), .val (.long x2), .second, .val (.long x3), .second, .val (.int (2 : Int32)), .val (.int (3 : Int32)), .unset, .unset, .unset, .unset, .unset, .unset, .unset]) rfl (q := 10) rfl ?_
      refine s_new X hx hZ hown (hw _ (List.mem_of_getElem? (i := 0) rfl)) (hw _ (List.mem_of_getElem? (i := 1) rfl)) (hw _ (List.mem_of_getElem? (i := 2) rfl)) eT (by decide) (by decide) (hb hby at_10) (q := 13) rfl ?_
      intro T h49 a48 X eT E ea E_a48' Df
      have O_old := O_old.ext E
      have g_a48 : n0 ≤ a48 := by rw [ea]; exact sz
      have sz : n0 ≤ h49.size := Nat.le_trans sz E.1
      have E_a48 := E_a48'
      have F_a48_kept : Fld Z h49 a48 "com/example/cistern/cistern/ReservoirSampler" "kept" "Ljava/util/List;" .null := Df _ _ _ (.object "java/util/List") (Or.inr (hw _ (List.mem_of_getElem? (i := 34) rfl))) (by decide)
      have F_a48_capacity : Fld Z h49 a48 "com/example/cistern/cistern/ReservoirSampler" "capacity" "I" (.int (0 : Int32)) := Df _ _ _ .int (Or.inr (hw _ (List.mem_of_getElem? (i := 36) rfl))) (by decide)
      have F_a48_random : Fld Z h49 a48 "com/example/cistern/cistern/ReservoirSampler" "random" "Lcom/example/cistern/cistern/SplitMix64;" .null := Df _ _ _ (.object "com/example/cistern/cistern/SplitMix64") (Or.inr (hw _ (List.mem_of_getElem? (i := 47) rfl))) (by decide)
      have F_a48_passOver : Fld Z h49 a48 "com/example/cistern/cistern/ReservoirSampler" "passOver" "J" (.long (0 : Int64)) := Df _ _ _ .long (Or.inl (hw _ (List.mem_of_getElem? (i := 50) rfl))) (by decide)
      have F_a48_offered : Fld Z h49 a48 "com/example/cistern/cistern/ReservoirSampler" "offered" "J" (.long (0 : Int64)) := Df _ _ _ .long (Or.inl (hw _ (List.mem_of_getElem? (i := 62) rfl))) (by decide)
      refine s_dup X hx (hb hby at_13) rfl (q := 14) rfl ?_
      refine s_iload X hx (hb hby at_14) rfl (q := 16) rfl ?_
      refine s_lload X hx (hb hby at_16) rfl (q := 18) rfl ?_
      refine callI X hx hZ hown (W := 1) (argsL := [(.int (2 : Int32)), (.long x3)]) (rest := [(.ref a48)]) rfl (hw _ (List.mem_of_getElem? (i := 3) rfl)) (hw _ (List.mem_of_getElem? (i := 4) rfl)) (hw _ (List.mem_of_getElem? (i := 2) rfl)) (hw _ (List.mem_of_getElem? (i := 5) rfl)) (by decide) (rm1_2 l Z a0 hw [] a48 x3 d0 h49 n0 sz F_a48_kept F_a48_capacity F_a48_random F_a48_passOver F_a48_offered E_a48 g_a48 S0 A0 O_old) eT (by decide) (by decide) (by decide) (by decide) (by rw [hml]; rfl) pd17 rfl rfl (Nat.le_of_ble_eq_true rfl) (hb hby at_18) (q := 21) rfl ?_
      intro v T Lc hQ X
      obtain ⟨h50, eT⟩ : ∃ z, T.heap = z := ⟨_, rfl⟩
      rw [eT] at hQ
      obtain ⟨kl, gr, rfl, N', K', F_a48_kept', F_a48_capacity', F_a48_random', F_a48_passOver', F_a48_offered', F_kl_elementData', F_kl_size', F_kl_modCount', E_kl', F_gr_state', E_gr', sq_kl, sq_gr⟩ := hQ
      have N := Fr.app N N'
      have g_kl : n0 ≤ kl := Nat.le_trans sz sq_kl
      have ne_a48_kl : a48 ≠ kl := Nat.ne_of_lt (Nat.lt_of_lt_of_le E_a48.lt sq_kl)
      have g_gr : n0 ≤ gr := Nat.le_trans sz sq_gr
      have ne_a48_gr : a48 ≠ gr := Nat.ne_of_lt (Nat.lt_of_lt_of_le E_a48.lt sq_gr)
      have O_old := O_old.keep K' (allS g_a48 all0)
      have E_a48 := E_a48.keep K'
      have sz : n0 ≤ h50.size := Nat.le_trans sz K'.1
      have F_a48_kept : Fld Z h50 a48 "com/example/cistern/cistern/ReservoirSampler" "kept" "Ljava/util/List;" (.ref kl) := F_a48_kept'
      have F_a48_capacity : Fld Z h50 a48 "com/example/cistern/cistern/ReservoirSampler" "capacity" "I" (.int (2 : Int32)) := F_a48_capacity'
      have F_a48_random : Fld Z h50 a48 "com/example/cistern/cistern/ReservoirSampler" "random" "Lcom/example/cistern/cistern/SplitMix64;" (.ref gr) := F_a48_random'
      have F_a48_passOver : Fld Z h50 a48 "com/example/cistern/cistern/ReservoirSampler" "passOver" "J" (.long (0 : Int64)) := F_a48_passOver'
      have F_a48_offered : Fld Z h50 a48 "com/example/cistern/cistern/ReservoirSampler" "offered" "J" (.long (0 : Int64)) := F_a48_offered'
      have F_kl_elementData : Fld Z h50 kl "java/util/ArrayList" "elementData" "[Ljava/lang/Object;" (.ref d0) := F_kl_elementData'
      have F_kl_size : Fld Z h50 kl "java/util/ArrayList" "size" "I" (.int (0 : Int32)) := F_kl_size'
      have F_kl_modCount : Fld Z h50 kl "java/util/AbstractList" "modCount" "I" (.int (0 : Int32)) := F_kl_modCount'
      have E_kl : Exa Z h50 kl "java/util/ArrayList" := E_kl'
      have F_gr_state : Fld Z h50 gr "com/example/cistern/cistern/SplitMix64" "state" "J" (.long x3) := F_gr_state'
      have E_gr : Exa Z h50 gr "com/example/cistern/cistern/SplitMix64" := E_gr'
      have ne_kl_gr := ne_exa E_kl E_gr (by decide)
      refine s_astore X hx (hb hby at_21) rfl (L' := #[.val (.int x0), .val (.int x1), .val (.long x2), .second, .val (.long x3), .second, .val (.int (2 : Int32)), .val (.int (3 : Int32)), .val (.ref a48), .unset, .unset, .unset, .unset, .unset, .unset]) rfl (q := 23) rfl ?_
      refine s_iload X hx (hb hby at_23) rfl (q := 25) rfl ?_
      refine f_if_ne X hx (hb hby at_25) (q1 := 163) (by decide) (by decide) (q := 28) rfl (fun _ => ?_) (fun hq => absurd hq (by decide : ¬ (2 : Int32) = 0))
      refine s_iload X hx (hb hby at_163) rfl (q := 165) rfl ?_
      refine s_iload X hx (hb hby at_165) rfl (q := 167) rfl ?_
      refine s_iconst X hx (z := (1 : Int32)) (hb hby at_167) rfl (q := 168) rfl ?_
      refine s_isub X hx (hb hby at_168) (q := 169) rfl ?_
      show Go p e below _ T m 169 #[.val (.int x0), .val (.int x1), .val (.long x2), .second, .val (.long x3), .second, .val (.int (2 : Int32)), .val (.int (3 : Int32)), .val (.ref a48), .unset, .unset, .unset, .unset, .unset, .unset] [(.int (1 : Int32)), (.int (3 : Int32))]
      refine callP X hx hZ hown (W := 0) (argsL := [(.int (3 : Int32)), (.int (1 : Int32))]) (rest := []) (hw _ (List.mem_of_getElem? (i := 98) rfl)) (hw _ (List.mem_of_getElem? (i := 99) rfl)) (hw _ (List.mem_of_getElem? (i := 54) rfl)) (hw _ (List.mem_of_getElem? (i := 100) rfl)) (by decide) (rm15 l Z a0 hw [] (3 : Int32) (1 : Int32) h50) rfl rfl eT (by decide) (by decide) (by decide) (by decide) (by rw [hml]; rfl) pd6 rfl rfl (Nat.le_of_ble_eq_true rfl) (hb hby at_169) (q := 172) rfl ?_
      intro T X eT
      show Go p e below _ T m 172 #[.val (.int x0), .val (.int x1), .val (.long x2), .second, .val (.long x3), .second, .val (.int (2 : Int32)), .val (.int (3 : Int32)), .val (.ref a48), .unset, .unset, .unset, .unset, .unset, .unset] [(.int (1 : Int32))]
      refine s_istore X hx (hb hby at_172) (L' := #[.val (.int x0), .val (.int x1), .val (.long x2), .second, .val (.long x3), .second, .val (.int (2 : Int32)), .val (.int (3 : Int32)), .val (.ref a48), .val (.int (1 : Int32)), .unset, .unset, .unset, .unset, .unset]) rfl (q := 174) rfl ?_
      refine s_aload X hx (hb hby at_174) rfl rfl (q := 176) rfl ?_
      refine s_iload X hx (hb hby at_176) rfl (q := 178) rfl ?_
      refine callC X hx hZ hown (W := 0) (argsL := [(.ref a48), (.int (1 : Int32))]) (rest := []) (hw _ (List.mem_of_getElem? (i := 70) rfl)) (hw _ (List.mem_of_getElem? (i := 71) rfl)) (hw _ (List.mem_of_getElem? (i := 72) rfl)) (hw _ (List.mem_of_getElem? (i := 73) rfl)) (by decide) (rm10_f1 l Z a0 hw [] a48 kl gr (2 : Int32) (0 : Int64) x3 d0 h50 n0 sz F_a48_kept F_a48_capacity F_a48_random F_a48_passOver F_a48_offered E_a48 F_kl_elementData F_kl_size F_kl_modCount E_kl F_gr_state E_gr g_a48 g_kl g_gr S0 A0 O_old (by decide) (by decide)) eT (by decide) (by decide) (by decide) (by decide) (by rw [hml]; rfl) pd18 rfl rfl (Nat.le_of_ble_eq_true rfl) (hb hby at_178) (q := 181) rfl ?_
      intro v T Lc hQ X
      obtain ⟨h51, eT⟩ : ∃ z, T.heap = z := ⟨_, rfl⟩
      rw [eT] at hQ
      obtain ⟨rfl, N', K', F_a48_kept', F_a48_capacity', F_a48_random', F_a48_passOver', F_a48_offered'⟩ := hQ
      have N := Fr.app N N'
      have O_old := O_old.keep K' (allS g_a48 (allS g_kl (allS g_gr all0)))
      have E_a48 := E_a48.keep K'
      have E_kl := E_kl.keep K'
      have E_gr := E_gr.keep K'
      have sz : n0 ≤ h51.size := Nat.le_trans sz K'.1
      have F_a48_kept : Fld Z h51 a48 "com/example/cistern/cistern/ReservoirSampler" "kept" "Ljava/util/List;" (.ref kl) := F_a48_kept'
      have F_a48_capacity : Fld Z h51 a48 "com/example/cistern/cistern/ReservoirSampler" "capacity" "I" (.int (2 : Int32)) := F_a48_capacity'
      have F_a48_random : Fld Z h51 a48 "com/example/cistern/cistern/ReservoirSampler" "random" "Lcom/example/cistern/cistern/SplitMix64;" (.ref gr) := F_a48_random'
      have F_a48_passOver : Fld Z h51 a48 "com/example/cistern/cistern/ReservoirSampler" "passOver" "J" (.long (0 : Int64)) := F_a48_passOver'
      have F_a48_offered : Fld Z h51 a48 "com/example/cistern/cistern/ReservoirSampler" "offered" "J" (.long (1 : Int64)) := F_a48_offered'
      refine s_aload X hx (hb hby at_181) rfl rfl (q := 183) rfl ?_
      refine callV X hx hZ hown (W := 0) (argsL := []) (rest := []) (hw _ (List.mem_of_getElem? (i := 56) rfl)) (hw _ (List.mem_of_getElem? (i := 57) rfl)) (hw _ (List.mem_of_getElem? (i := 59) rfl)) (hw _ (List.mem_of_getElem? (i := 58) rfl)) (hw _ (List.mem_of_getElem? (i := 2) rfl)) (hw _ (List.mem_of_getElem? (i := 60) rfl)) (by decide) E_a48 (rm8 l Z a0 hw [] a48 (0 : Int64) (1 : Int64) (0 : Int64) h51 n0 sz F_a48_passOver F_a48_offered E_a48 (by decide +kernel)) eT (by decide) (by decide) (by decide) (by decide) (by rw [hml]; rfl) pd1 rfl rfl (Nat.le_of_ble_eq_true rfl) (hb hby at_183) (q := 186) rfl ?_
      intro v T Lc hQ X
      obtain ⟨rfl, eT, N'⟩ := hQ
      have N := Fr.app N N'
      refine s_lstore X hx (hb hby at_186) (L' := #[.val (.int x0), .val (.int x1), .val (.long x2), .second, .val (.long x3), .second, .val (.int (2 : Int32)), .val (.int (3 : Int32)), .val (.ref a48), .val (.int (1 : Int32)), .val (.long (0 : Int64)), .second, .unset, .unset, .unset]) rfl (q := 188) rfl ?_
      refine s_lload X hx (hb hby at_188) rfl (q := 190) rfl ?_
      refine s_lconst X hx (z := (0 : Int64)) (hb hby at_190) rfl (q := 191) rfl ?_
      refine s_lcmp X hx (hb hby at_191) (q := 192) rfl ?_
      refine f_lcmp_ne X hx (hb hby at_192) (q1 := 221) (by decide) (by decide) (q := 195) rfl (fun hq => absurd (rfl : (0 : Int64) = (0 : Int64)) hq) (fun _ => ?_)
      refine s_aload X hx (hb hby at_195) rfl rfl (q := 197) rfl ?_
      refine callV X hx hZ hown (W := 0) (argsL := []) (rest := []) (hw _ (List.mem_of_getElem? (i := 56) rfl)) (hw _ (List.mem_of_getElem? (i := 57) rfl)) (hw _ (List.mem_of_getElem? (i := 59) rfl)) (hw _ (List.mem_of_getElem? (i := 58) rfl)) (hw _ (List.mem_of_getElem? (i := 2) rfl)) (hw _ (List.mem_of_getElem? (i := 60) rfl)) (by decide) E_a48 (rm8 l Z a0 hw [] a48 (0 : Int64) (1 : Int64) (0 : Int64) h51 n0 sz F_a48_passOver F_a48_offered E_a48 (by decide +kernel)) eT (by decide) (by decide) (by decide) (by decide) (by rw [hml]; rfl) pd1 rfl rfl (Nat.le_of_ble_eq_true rfl) (hb hby at_197) (q := 200) rfl ?_
      intro v T Lc hQ X
      obtain ⟨rfl, eT, N'⟩ := hQ
      have N := Fr.app N N'
      refine s_lconst X hx (z := (0 : Int64)) (hb hby at_200) rfl (q := 201) rfl ?_
      refine s_lcmp X hx (hb hby at_201) (q := 202) rfl ?_
      refine f_lcmp_ne X hx (hb hby at_202) (q1 := 221) (by decide) (by decide) (q := 205) rfl (fun hq => absurd (rfl : (0 : Int64) = (0 : Int64)) hq) (fun _ => ?_)
      refine s_aload X hx (hb hby at_205) rfl rfl (q := 207) rfl ?_
      refine callV X hx hZ hown (W := 0) (argsL := []) (rest := []) (hw _ (List.mem_of_getElem? (i := 93) rfl)) (hw _ (List.mem_of_getElem? (i := 94) rfl)) (hw _ (List.mem_of_getElem? (i := 96) rfl)) (hw _ (List.mem_of_getElem? (i := 95) rfl)) (hw _ (List.mem_of_getElem? (i := 2) rfl)) (hw _ (List.mem_of_getElem? (i := 97) rfl)) (by decide) E_a48 (rm14 l Z a0 hw [] a48 (1 : Int64) h51 n0 sz F_a48_offered E_a48) eT (by decide) (by decide) (by decide) (by decide) (by rw [hml]; rfl) pd1 rfl rfl (Nat.le_of_ble_eq_true rfl) (hb hby at_207) (q := 210) rfl ?_
      intro v T Lc hQ X
      obtain ⟨rfl, eT, N'⟩ := hQ
      have N := Fr.app N N'
      refine s_iload X hx (hb hby at_210) rfl (q := 212) rfl ?_
      refine s_i2l X hx (hb hby at_212) (q := 213) rfl ?_
      show Go p e below _ T m 213 #[.val (.int x0), .val (.int x1), .val (.long x2), .second, .val (.long x3), .second, .val (.int (2 : Int32)), .val (.int (3 : Int32)), .val (.ref a48), .val (.int (1 : Int32)), .val (.long (0 : Int64)), .second, .unset, .unset, .unset] [(.long (1 : Int64)), (.long (1 : Int64))]
      refine s_lcmp X hx (hb hby at_213) (q := 214) rfl ?_
      refine f_lcmp_ne X hx (hb hby at_214) (q1 := 221) (by decide) (by decide) (q := 217) rfl (fun hq => absurd (rfl : (1 : Int64) = (1 : Int64)) hq) (fun _ => ?_)
      refine s_iconst X hx (z := (1 : Int32)) (hb hby at_217) rfl (q := 218) rfl ?_
      refine s_goto X hx (hb hby at_218) (q1 := 222) (by decide) (by decide) ?_
      exact leafN X hx hlk hret (by simp) (hb hby at_222) (by decide) (by decide) (z' := 1) rfl ⟨rfl, N⟩
  · subst hcase
    refine s_istore X hx (hb hby at_3) (L' := #[.val (.int x0), .val (.int x1), .val (.long x2), .second, .val (.long x3), .second, .val (.int (3 : Int32)), .unset, .unset, .unset, .unset, .unset, .unset, .unset, .unset]) rfl (q := 5) rfl ?_
    refine s_iloadN X hx (hb hby at_5) rfl (q := 6) rfl ?_
    refine s_iconst X hx (z := (3 : Int32)) (hb hby at_6) rfl (q := 7) rfl ?_
    refine s_iand X hx (hb hby at_7) (q := 8) rfl ?_
    generalize hkn : (x1 &&& (3 : Int32)) = kn
    rcases own_and3 hkn with hcase | hcase | hcase | hcase
    · subst hcase
      refine s_istore X hx (hb hby at_8) (L' := #[.val (.int x0), .val (.int x1), .val (.long x2), .second, .val (.long x3), .second, .val (.int (3 : Int32)), .val (.int (0 : Int32)), .unset, .unset, .unset, .unset, .unset, .unset, .unset]) rfl (q := 10) rfl ?_
      refine s_new X hx hZ hown (hw _ (List.mem_of_getElem? (i := 0) rfl)) (hw _ (List.mem_of_getElem? (i := 1) rfl)) (hw _ (List.mem_of_getElem? (i := 2) rfl)) eT (by decide) (by decide) (hb hby at_10) (q := 13) rfl ?_
      intro T h53 a52 X eT E ea E_a52' Df
      have O_old := O_old.ext E
      have g_a52 : n0 ≤ a52 := by rw [ea]; exact sz
      have sz : n0 ≤ h53.size := Nat.le_trans sz E.1
      have E_a52 := E_a52'
      have F_a52_kept : Fld Z h53 a52 "com/example/cistern/cistern/ReservoirSampler" "kept" "Ljava/util/List;" .null := Df _ _ _ (.object "java/util/List") (Or.inr (hw _ (List.mem_of_getElem? (i := 34) rfl))) (by decide)
      have F_a52_capacity : Fld Z h53 a52 "com/example/cistern/cistern/ReservoirSampler" "capacity" "I" (.int (0 : Int32)) := Df _ _ _ .int (Or.inr (hw _ (List.mem_of_getElem? (i := 36) rfl))) (by decide)
      have F_a52_random : Fld Z h53 a52 "com/example/cistern/cistern/ReservoirSampler" "random" "Lcom/example/cistern/cistern/SplitMix64;" .null := Df _ _ _ (.object "com/example/cistern/cistern/SplitMix64") (Or.inr (hw _ (List.mem_of_getElem? (i := 47) rfl))) (by decide)
      have F_a52_passOver : Fld Z h53 a52 "com/example/cistern/cistern/ReservoirSampler" "passOver" "J" (.long (0 : Int64)) := Df _ _ _ .long (Or.inl (hw _ (List.mem_of_getElem? (i := 50) rfl))) (by decide)
      have F_a52_offered : Fld Z h53 a52 "com/example/cistern/cistern/ReservoirSampler" "offered" "J" (.long (0 : Int64)) := Df _ _ _ .long (Or.inl (hw _ (List.mem_of_getElem? (i := 62) rfl))) (by decide)
      refine s_dup X hx (hb hby at_13) rfl (q := 14) rfl ?_
      refine s_iload X hx (hb hby at_14) rfl (q := 16) rfl ?_
      refine s_lload X hx (hb hby at_16) rfl (q := 18) rfl ?_
      refine callI X hx hZ hown (W := 1) (argsL := [(.int (3 : Int32)), (.long x3)]) (rest := [(.ref a52)]) rfl (hw _ (List.mem_of_getElem? (i := 3) rfl)) (hw _ (List.mem_of_getElem? (i := 4) rfl)) (hw _ (List.mem_of_getElem? (i := 2) rfl)) (hw _ (List.mem_of_getElem? (i := 5) rfl)) (by decide) (rm1_3 l Z a0 hw [] a52 x3 d0 h53 n0 sz F_a52_kept F_a52_capacity F_a52_random F_a52_passOver F_a52_offered E_a52 g_a52 S0 A0 O_old) eT (by decide) (by decide) (by decide) (by decide) (by rw [hml]; rfl) pd17 rfl rfl (Nat.le_of_ble_eq_true rfl) (hb hby at_18) (q := 21) rfl ?_
      intro v T Lc hQ X
      obtain ⟨h54, eT⟩ : ∃ z, T.heap = z := ⟨_, rfl⟩
      rw [eT] at hQ
      obtain ⟨kl, gr, rfl, N', K', F_a52_kept', F_a52_capacity', F_a52_random', F_a52_passOver', F_a52_offered', F_kl_elementData', F_kl_size', F_kl_modCount', E_kl', F_gr_state', E_gr', sq_kl, sq_gr⟩ := hQ
      have N := Fr.app N N'
      have g_kl : n0 ≤ kl := Nat.le_trans sz sq_kl
      have ne_a52_kl : a52 ≠ kl := Nat.ne_of_lt (Nat.lt_of_lt_of_le E_a52.lt sq_kl)
      have g_gr : n0 ≤ gr := Nat.le_trans sz sq_gr
      have ne_a52_gr : a52 ≠ gr := Nat.ne_of_lt (Nat.lt_of_lt_of_le E_a52.lt sq_gr)
      have O_old := O_old.keep K' (allS g_a52 all0)
      have E_a52 := E_a52.keep K'
      have sz : n0 ≤ h54.size := Nat.le_trans sz K'.1
      have F_a52_kept : Fld Z h54 a52 "com/example/cistern/cistern/ReservoirSampler" "kept" "Ljava/util/List;" (.ref kl) := F_a52_kept'
      have F_a52_capacity : Fld Z h54 a52 "com/example/cistern/cistern/ReservoirSampler" "capacity" "I" (.int (3 : Int32)) := F_a52_capacity'
      have F_a52_random : Fld Z h54 a52 "com/example/cistern/cistern/ReservoirSampler" "random" "Lcom/example/cistern/cistern/SplitMix64;" (.ref gr) := F_a52_random'
      have F_a52_passOver : Fld Z h54 a52 "com/example/cistern/cistern/ReservoirSampler" "passOver" "J" (.long (0 : Int64)) := F_a52_passOver'
      have F_a52_offered : Fld Z h54 a52 "com/example/cistern/cistern/ReservoirSampler" "offered" "J" (.long (0 : Int64)) := F_a52_offered'
      have F_kl_elementData : Fld Z h54 kl "java/util/ArrayList" "elementData" "[Ljava/lang/Object;" (.ref d0) := F_kl_elementData'
      have F_kl_size : Fld Z h54 kl "java/util/ArrayList" "size" "I" (.int (0 : Int32)) := F_kl_size'
      have F_kl_modCount : Fld Z h54 kl "java/util/AbstractList" "modCount" "I" (.int (0 : Int32)) := F_kl_modCount'
      have E_kl : Exa Z h54 kl "java/util/ArrayList" := E_kl'
      have F_gr_state : Fld Z h54 gr "com/example/cistern/cistern/SplitMix64" "state" "J" (.long x3) := F_gr_state'
      have E_gr : Exa Z h54 gr "com/example/cistern/cistern/SplitMix64" := E_gr'
      have ne_kl_gr := ne_exa E_kl E_gr (by decide)
      refine s_astore X hx (hb hby at_21) rfl (L' := #[.val (.int x0), .val (.int x1), .val (.long x2), .second, .val (.long x3), .second, .val (.int (3 : Int32)), .val (.int (0 : Int32)), .val (.ref a52), .unset, .unset, .unset, .unset, .unset, .unset]) rfl (q := 23) rfl ?_
      refine s_iload X hx (hb hby at_23) rfl (q := 25) rfl ?_
      refine f_if_ne X hx (hb hby at_25) (q1 := 163) (by decide) (by decide) (q := 28) rfl (fun _ => ?_) (fun hq => absurd hq (by decide : ¬ (3 : Int32) = 0))
      refine s_iload X hx (hb hby at_163) rfl (q := 165) rfl ?_
      refine s_iload X hx (hb hby at_165) rfl (q := 167) rfl ?_
      refine s_iconst X hx (z := (1 : Int32)) (hb hby at_167) rfl (q := 168) rfl ?_
      refine s_isub X hx (hb hby at_168) (q := 169) rfl ?_
      show Go p e below _ T m 169 #[.val (.int x0), .val (.int x1), .val (.long x2), .second, .val (.long x3), .second, .val (.int (3 : Int32)), .val (.int (0 : Int32)), .val (.ref a52), .unset, .unset, .unset, .unset, .unset, .unset] [(.int (2 : Int32)), (.int (0 : Int32))]
      refine callP X hx hZ hown (W := 0) (argsL := [(.int (0 : Int32)), (.int (2 : Int32))]) (rest := []) (hw _ (List.mem_of_getElem? (i := 98) rfl)) (hw _ (List.mem_of_getElem? (i := 99) rfl)) (hw _ (List.mem_of_getElem? (i := 54) rfl)) (hw _ (List.mem_of_getElem? (i := 100) rfl)) (by decide) (rm15 l Z a0 hw [] (0 : Int32) (2 : Int32) h54) rfl rfl eT (by decide) (by decide) (by decide) (by decide) (by rw [hml]; rfl) pd6 rfl rfl (Nat.le_of_ble_eq_true rfl) (hb hby at_169) (q := 172) rfl ?_
      intro T X eT
      show Go p e below _ T m 172 #[.val (.int x0), .val (.int x1), .val (.long x2), .second, .val (.long x3), .second, .val (.int (3 : Int32)), .val (.int (0 : Int32)), .val (.ref a52), .unset, .unset, .unset, .unset, .unset, .unset] [(.int (0 : Int32))]
      refine s_istore X hx (hb hby at_172) (L' := #[.val (.int x0), .val (.int x1), .val (.long x2), .second, .val (.long x3), .second, .val (.int (3 : Int32)), .val (.int (0 : Int32)), .val (.ref a52), .val (.int (0 : Int32)), .unset, .unset, .unset, .unset, .unset]) rfl (q := 174) rfl ?_
      refine s_aload X hx (hb hby at_174) rfl rfl (q := 176) rfl ?_
      refine s_iload X hx (hb hby at_176) rfl (q := 178) rfl ?_
      refine callC X hx hZ hown (W := 0) (argsL := [(.ref a52), (.int (0 : Int32))]) (rest := []) (hw _ (List.mem_of_getElem? (i := 70) rfl)) (hw _ (List.mem_of_getElem? (i := 71) rfl)) (hw _ (List.mem_of_getElem? (i := 72) rfl)) (hw _ (List.mem_of_getElem? (i := 73) rfl)) (by decide) (rm10_f0 l Z a0 hw [] a52 h54 n0 sz) eT (by decide) (by decide) (by decide) (by decide) (by rw [hml]; rfl) pd18 rfl rfl (Nat.le_of_ble_eq_true rfl) (hb hby at_178) (q := 181) rfl ?_
      intro v T Lc hQ X
      obtain ⟨rfl, eT, N'⟩ := hQ
      have N := Fr.app N N'
      refine s_aload X hx (hb hby at_181) rfl rfl (q := 183) rfl ?_
      refine callV X hx hZ hown (W := 0) (argsL := []) (rest := []) (hw _ (List.mem_of_getElem? (i := 56) rfl)) (hw _ (List.mem_of_getElem? (i := 57) rfl)) (hw _ (List.mem_of_getElem? (i := 59) rfl)) (hw _ (List.mem_of_getElem? (i := 58) rfl)) (hw _ (List.mem_of_getElem? (i := 2) rfl)) (hw _ (List.mem_of_getElem? (i := 60) rfl)) (by decide) E_a52 (rm8 l Z a0 hw [] a52 (0 : Int64) (0 : Int64) (0 : Int64) h54 n0 sz F_a52_passOver F_a52_offered E_a52 (by decide +kernel)) eT (by decide) (by decide) (by decide) (by decide) (by rw [hml]; rfl) pd1 rfl rfl (Nat.le_of_ble_eq_true rfl) (hb hby at_183) (q := 186) rfl ?_
      intro v T Lc hQ X
      obtain ⟨rfl, eT, N'⟩ := hQ
      have N := Fr.app N N'
      refine s_lstore X hx (hb hby at_186) (L' := #[.val (.int x0), .val (.int x1), .val (.long x2), .second, .val (.long x3), .second, .val (.int (3 : Int32)), .val (.int (0 : Int32)), .val (.ref a52), .val (.int (0 : Int32)), .val (.long (0 : Int64)), .second, .unset, .unset, .unset]) rfl (q := 188) rfl ?_
      refine s_lload X hx (hb hby at_188) rfl (q := 190) rfl ?_
      refine s_lconst X hx (z := (0 : Int64)) (hb hby at_190) rfl (q := 191) rfl ?_
      refine s_lcmp X hx (hb hby at_191) (q := 192) rfl ?_
      refine f_lcmp_ne X hx (hb hby at_192) (q1 := 221) (by decide) (by decide) (q := 195) rfl (fun hq => absurd (rfl : (0 : Int64) = (0 : Int64)) hq) (fun _ => ?_)
      refine s_aload X hx (hb hby at_195) rfl rfl (q := 197) rfl ?_
      refine callV X hx hZ hown (W := 0) (argsL := []) (rest := []) (hw _ (List.mem_of_getElem? (i := 56) rfl)) (hw _ (List.mem_of_getElem? (i := 57) rfl)) (hw _ (List.mem_of_getElem? (i := 59) rfl)) (hw _ (List.mem_of_getElem? (i := 58) rfl)) (hw _ (List.mem_of_getElem? (i := 2) rfl)) (hw _ (List.mem_of_getElem? (i := 60) rfl)) (by decide) E_a52 (rm8 l Z a0 hw [] a52 (0 : Int64) (0 : Int64) (0 : Int64) h54 n0 sz F_a52_passOver F_a52_offered E_a52 (by decide +kernel)) eT (by decide) (by decide) (by decide) (by decide) (by rw [hml]; rfl) pd1 rfl rfl (Nat.le_of_ble_eq_true rfl) (hb hby at_197) (q := 200) rfl ?_
      intro v T Lc hQ X
      obtain ⟨rfl, eT, N'⟩ := hQ
      have N := Fr.app N N'
      refine s_lconst X hx (z := (0 : Int64)) (hb hby at_200) rfl (q := 201) rfl ?_
      refine s_lcmp X hx (hb hby at_201) (q := 202) rfl ?_
      refine f_lcmp_ne X hx (hb hby at_202) (q1 := 221) (by decide) (by decide) (q := 205) rfl (fun hq => absurd (rfl : (0 : Int64) = (0 : Int64)) hq) (fun _ => ?_)
      refine s_aload X hx (hb hby at_205) rfl rfl (q := 207) rfl ?_
      refine callV X hx hZ hown (W := 0) (argsL := []) (rest := []) (hw _ (List.mem_of_getElem? (i := 93) rfl)) (hw _ (List.mem_of_getElem? (i := 94) rfl)) (hw _ (List.mem_of_getElem? (i := 96) rfl)) (hw _ (List.mem_of_getElem? (i := 95) rfl)) (hw _ (List.mem_of_getElem? (i := 2) rfl)) (hw _ (List.mem_of_getElem? (i := 97) rfl)) (by decide) E_a52 (rm14 l Z a0 hw [] a52 (0 : Int64) h54 n0 sz F_a52_offered E_a52) eT (by decide) (by decide) (by decide) (by decide) (by rw [hml]; rfl) pd1 rfl rfl (Nat.le_of_ble_eq_true rfl) (hb hby at_207) (q := 210) rfl ?_
      intro v T Lc hQ X
      obtain ⟨rfl, eT, N'⟩ := hQ
      have N := Fr.app N N'
      refine s_iload X hx (hb hby at_210) rfl (q := 212) rfl ?_
      refine s_i2l X hx (hb hby at_212) (q := 213) rfl ?_
      show Go p e below _ T m 213 #[.val (.int x0), .val (.int x1), .val (.long x2), .second, .val (.long x3), .second, .val (.int (3 : Int32)), .val (.int (0 : Int32)), .val (.ref a52), .val (.int (0 : Int32)), .val (.long (0 : Int64)), .second, .unset, .unset, .unset] [(.long (0 : Int64)), (.long (0 : Int64))]
      refine s_lcmp X hx (hb hby at_213) (q := 214) rfl ?_
      refine f_lcmp_ne X hx (hb hby at_214) (q1 := 221) (by decide) (by decide) (q := 217) rfl (fun hq => absurd (rfl : (0 : Int64) = (0 : Int64)) hq) (fun _ => ?_)
      refine s_iconst X hx (z := (1 : Int32)) (hb hby at_217) rfl (q := 218) rfl ?_
      refine s_goto X hx (hb hby at_218) (q1 := 222) (by decide) (by decide) ?_
      exact leafN X hx hlk hret (by simp) (hb hby at_222) (by decide) (by decide) (z' := 1) rfl ⟨rfl, N⟩
    · subst hcase
      refine s_istore X hx (hb hby at_8) (L' := #[.val (.int x0), .val (.int x1), .val (.long x2), .second, .val (.long x3), .second, .val (.int (3 : Int32)), .val (.int (1 : Int32)), .unset, .unset, .unset, .unset, .unset, .unset, .unset]) rfl (q := 10) rfl ?_
      refine s_new X hx hZ hown (hw _ (List.mem_of_getElem? (i := 0) rfl)) (hw _ (List.mem_of_getElem? (i := 1) rfl)) (hw _ (List.mem_of_getElem? (i := 2) rfl)) eT (by decide) (by decide) (hb hby at_10) (q := 13) rfl ?_
      intro T h56 a55 X eT E ea E_a55' Df
      have O_old := O_old.ext E
      have g_a55 : n0 ≤ a55 := by rw [ea]; exact sz
      have sz : n0 ≤ h56.size := Nat.le_trans sz E.1
      have E_a55 := E_a55'
      have F_a55_kept : Fld Z h56 a55 "com/example/cistern/cistern/ReservoirSampler" "kept" "Ljava/util/List;" .null := Df _ _ _ (.object "java/util/List") (Or.inr (hw _ (List.mem_of_getElem? (i := 34) rfl))) (by decide)
      have F_a55_capacity : Fld Z h56 a55 "com/example/cistern/cistern/ReservoirSampler" "capacity" "I" (.int (0 : Int32)) := Df _ _ _ .int (Or.inr (hw _ (List.mem_of_getElem? (i := 36) rfl))) (by decide)
      have F_a55_random : Fld Z h56 a55 "com/example/cistern/cistern/ReservoirSampler" "random" "Lcom/example/cistern/cistern/SplitMix64;" .null := Df _ _ _ (.object "com/example/cistern/cistern/SplitMix64") (Or.inr (hw _ (List.mem_of_getElem? (i := 47) rfl))) (by decide)
      have F_a55_passOver : Fld Z h56 a55 "com/example/cistern/cistern/ReservoirSampler" "passOver" "J" (.long (0 : Int64)) := Df _ _ _ .long (Or.inl (hw _ (List.mem_of_getElem? (i := 50) rfl))) (by decide)
      have F_a55_offered : Fld Z h56 a55 "com/example/cistern/cistern/ReservoirSampler" "offered" "J" (.long (0 : Int64)) := Df _ _ _ .long (Or.inl (hw _ (List.mem_of_getElem? (i := 62) rfl))) (by decide)
      refine s_dup X hx (hb hby at_13) rfl (q := 14) rfl ?_
      refine s_iload X hx (hb hby at_14) rfl (q := 16) rfl ?_
      refine s_lload X hx (hb hby at_16) rfl (q := 18) rfl ?_
      refine callI X hx hZ hown (W := 1) (argsL := [(.int (3 : Int32)), (.long x3)]) (rest := [(.ref a55)]) rfl (hw _ (List.mem_of_getElem? (i := 3) rfl)) (hw _ (List.mem_of_getElem? (i := 4) rfl)) (hw _ (List.mem_of_getElem? (i := 2) rfl)) (hw _ (List.mem_of_getElem? (i := 5) rfl)) (by decide) (rm1_3 l Z a0 hw [] a55 x3 d0 h56 n0 sz F_a55_kept F_a55_capacity F_a55_random F_a55_passOver F_a55_offered E_a55 g_a55 S0 A0 O_old) eT (by decide) (by decide) (by decide) (by decide) (by rw [hml]; rfl) pd17 rfl rfl (Nat.le_of_ble_eq_true rfl) (hb hby at_18) (q := 21) rfl ?_
      intro v T Lc hQ X
      obtain ⟨h57, eT⟩ : ∃ z, T.heap = z := ⟨_, rfl⟩
      rw [eT] at hQ
      obtain ⟨kl, gr, rfl, N', K', F_a55_kept', F_a55_capacity', F_a55_random', F_a55_passOver', F_a55_offered', F_kl_elementData', F_kl_size', F_kl_modCount', E_kl', F_gr_state', E_gr', sq_kl, sq_gr⟩ := hQ
      have N := Fr.app N N'
      have g_kl : n0 ≤ kl := Nat.le_trans sz sq_kl
      have ne_a55_kl : a55 ≠ kl := Nat.ne_of_lt (Nat.lt_of_lt_of_le E_a55.lt sq_kl)
      have g_gr : n0 ≤ gr := Nat.le_trans sz sq_gr
      have ne_a55_gr : a55 ≠ gr := Nat.ne_of_lt (Nat.lt_of_lt_of_le E_a55.lt sq_gr)
      have O_old := O_old.keep K' (allS g_a55 all0)
      have E_a55 := E_a55.keep K'
      have sz : n0 ≤ h57.size := Nat.le_trans sz K'.1
      have F_a55_kept : Fld Z h57 a55 "com/example/cistern/cistern/ReservoirSampler" "kept" "Ljava/util/List;" (.ref kl) := F_a55_kept'
      have F_a55_capacity : Fld Z h57 a55 "com/example/cistern/cistern/ReservoirSampler" "capacity" "I" (.int (3 : Int32)) := F_a55_capacity'
      have F_a55_random : Fld Z h57 a55 "com/example/cistern/cistern/ReservoirSampler" "random" "Lcom/example/cistern/cistern/SplitMix64;" (.ref gr) := F_a55_random'
      have F_a55_passOver : Fld Z h57 a55 "com/example/cistern/cistern/ReservoirSampler" "passOver" "J" (.long (0 : Int64)) := F_a55_passOver'
      have F_a55_offered : Fld Z h57 a55 "com/example/cistern/cistern/ReservoirSampler" "offered" "J" (.long (0 : Int64)) := F_a55_offered'
      have F_kl_elementData : Fld Z h57 kl "java/util/ArrayList" "elementData" "[Ljava/lang/Object;" (.ref d0) := F_kl_elementData'
      have F_kl_size : Fld Z h57 kl "java/util/ArrayList" "size" "I" (.int (0 : Int32)) := F_kl_size'
      have F_kl_modCount : Fld Z h57 kl "java/util/AbstractList" "modCount" "I" (.int (0 : Int32)) := F_kl_modCount'
      have E_kl : Exa Z h57 kl "java/util/ArrayList" := E_kl'
      have F_gr_state : Fld Z h57 gr "com/example/cistern/cistern/SplitMix64" "state" "J" (.long x3) := F_gr_state'
      have E_gr : Exa Z h57 gr "com/example/cistern/cistern/SplitMix64" := E_gr'
      have ne_kl_gr := ne_exa E_kl E_gr (by decide)
      refine s_astore X hx (hb hby at_21) rfl (L' := #[.val (.int x0), .val (.int x1), .val (.long x2), .second, .val (.long x3), .second, .val (.int (3 : Int32)), .val (.int (1 : Int32)), .val (.ref a55), .unset, .unset, .unset, .unset, .unset, .unset]) rfl (q := 23) rfl ?_
      refine s_iload X hx (hb hby at_23) rfl (q := 25) rfl ?_
      refine f_if_ne X hx (hb hby at_25) (q1 := 163) (by decide) (by decide) (q := 28) rfl (fun _ => ?_) (fun hq => absurd hq (by decide : ¬ (3 : Int32) = 0))
      refine s_iload X hx (hb hby at_163) rfl (q := 165) rfl ?_
      refine s_iload X hx (hb hby at_165) rfl (q := 167) rfl ?_
      refine s_iconst X hx (z := (1 : Int32)) (hb hby at_167) rfl (q := 168) rfl ?_
      refine s_isub X hx (hb hby at_168) (q := 169) rfl ?_
      show Go p e below _ T m 169 #[.val (.int x0), .val (.int x1), .val (.long x2), .second, .val (.long x3), .second, .val (.int (3 : Int32)), .val (.int (1 : Int32)), .val (.ref a55), .unset, .unset, .unset, .unset, .unset, .unset] [(.int (2 : Int32)), (.int (1 : Int32))]
      refine callP X hx hZ hown (W := 0) (argsL := [(.int (1 : Int32)), (.int (2 : Int32))]) (rest := []) (hw _ (List.mem_of_getElem? (i := 98) rfl)) (hw _ (List.mem_of_getElem? (i := 99) rfl)) (hw _ (List.mem_of_getElem? (i := 54) rfl)) (hw _ (List.mem_of_getElem? (i := 100) rfl)) (by decide) (rm15 l Z a0 hw [] (1 : Int32) (2 : Int32) h57) rfl rfl eT (by decide) (by decide) (by decide) (by decide) (by rw [hml]; rfl) pd6 rfl rfl (Nat.le_of_ble_eq_true rfl) (hb hby at_169) (q := 172) rfl ?_
      intro T X eT
      show Go p e below _ T m 172 #[.val (.int x0), .val (.int x1), .val (.long x2), .second, .val (.long x3), .second, .val (.int (3 : Int32)), .val (.int (1 : Int32)), .val (.ref a55), .unset, .unset, .unset, .unset, .unset, .unset] [(.int (1 : Int32))]
      refine s_istore X hx (hb hby at_172) (L' := #[.val (.int x0), .val (.int x1), .val (.long x2), .second, .val (.long x3), .second, .val (.int (3 : Int32)), .val (.int (1 : Int32)), .val (.ref a55), .val (.int (1 : Int32)), .unset, .unset, .unset, .unset, .unset]) rfl (q := 174) rfl ?_
      refine s_aload X hx (hb hby at_174) rfl rfl (q := 176) rfl ?_
      refine s_iload X hx (hb hby at_176) rfl (q := 178) rfl ?_
      refine callC X hx hZ hown (W := 0) (argsL := [(.ref a55), (.int (1 : Int32))]) (rest := []) (hw _ (List.mem_of_getElem? (i := 70) rfl)) (hw _ (List.mem_of_getElem? (i := 71) rfl)) (hw _ (List.mem_of_getElem? (i := 72) rfl)) (hw _ (List.mem_of_getElem? (i := 73) rfl)) (by decide) (rm10_f1 l Z a0 hw [] a55 kl gr (3 : Int32) (0 : Int64) x3 d0 h57 n0 sz F_a55_kept F_a55_capacity F_a55_random F_a55_passOver F_a55_offered E_a55 F_kl_elementData F_kl_size F_kl_modCount E_kl F_gr_state E_gr g_a55 g_kl g_gr S0 A0 O_old (by decide) (by decide)) eT (by decide) (by decide) (by decide) (by decide) (by rw [hml]; rfl) pd18 rfl rfl (Nat.le_of_ble_eq_true rfl) (hb hby at_178) (q := 181) rfl ?_
      intro v T Lc hQ X
      obtain ⟨h58, eT⟩ : ∃ z, T.heap = z := ⟨_, rfl⟩
      rw [eT] at hQ
      obtain ⟨rfl, N', K', F_a55_kept', F_a55_capacity', F_a55_random', F_a55_passOver', F_a55_offered'⟩ := hQ
      have N := Fr.app N N'
      have O_old := O_old.keep K' (allS g_a55 (allS g_kl (allS g_gr all0)))
      have E_a55 := E_a55.keep K'
      have E_kl := E_kl.keep K'
      have E_gr := E_gr.keep K'
      have sz : n0 ≤ h58.size := Nat.le_trans sz K'.1
      have F_a55_kept : Fld Z h58 a55 "com/example/cistern/cistern/ReservoirSampler" "kept" "Ljava/util/List;" (.ref kl) := F_a55_kept'
      have F_a55_capacity : Fld Z h58 a55 "com/example/cistern/cistern/ReservoirSampler" "capacity" "I" (.int (3 : Int32)) := F_a55_capacity'
      have F_a55_random : Fld Z h58 a55 "com/example/cistern/cistern/ReservoirSampler" "random" "Lcom/example/cistern/cistern/SplitMix64;" (.ref gr) := F_a55_random'
      have F_a55_passOver : Fld Z h58 a55 "com/example/cistern/cistern/ReservoirSampler" "passOver" "J" (.long (0 : Int64)) := F_a55_passOver'
      have F_a55_offered : Fld Z h58 a55 "com/example/cistern/cistern/ReservoirSampler" "offered" "J" (.long (1 : Int64)) := F_a55_offered'
      refine s_aload X hx (hb hby at_181) rfl rfl (q := 183) rfl ?_
      refine callV X hx hZ hown (W := 0) (argsL := []) (rest := []) (hw _ (List.mem_of_getElem? (i := 56) rfl)) (hw _ (List.mem_of_getElem? (i := 57) rfl)) (hw _ (List.mem_of_getElem? (i := 59) rfl)) (hw _ (List.mem_of_getElem? (i := 58) rfl)) (hw _ (List.mem_of_getElem? (i := 2) rfl)) (hw _ (List.mem_of_getElem? (i := 60) rfl)) (by decide) E_a55 (rm8 l Z a0 hw [] a55 (0 : Int64) (1 : Int64) (0 : Int64) h58 n0 sz F_a55_passOver F_a55_offered E_a55 (by decide +kernel)) eT (by decide) (by decide) (by decide) (by decide) (by rw [hml]; rfl) pd1 rfl rfl (Nat.le_of_ble_eq_true rfl) (hb hby at_183) (q := 186) rfl ?_
      intro v T Lc hQ X
      obtain ⟨rfl, eT, N'⟩ := hQ
      have N := Fr.app N N'
      refine s_lstore X hx (hb hby at_186) (L' := #[.val (.int x0), .val (.int x1), .val (.long x2), .second, .val (.long x3), .second, .val (.int (3 : Int32)), .val (.int (1 : Int32)), .val (.ref a55), .val (.int (1 : Int32)), .val (.long (0 : Int64)), .second, .unset, .unset, .unset]) rfl (q := 188) rfl ?_
      refine s_lload X hx (hb hby at_188) rfl (q := 190) rfl ?_
      refine s_lconst X hx (z := (0 : Int64)) (hb hby at_190) rfl (q := 191) rfl ?_
      refine s_lcmp X hx (hb hby at_191) (q := 192) rfl ?_
      refine f_lcmp_ne X hx (hb hby at_192) (q1 := 221) (by decide) (by decide) (q := 195) rfl (fun hq => absurd (rfl : (0 : Int64) = (0 : Int64)) hq) (fun _ => ?_)
      refine s_aload X hx (hb hby at_195) rfl rfl (q := 197) rfl ?_
      refine callV X hx hZ hown (W := 0) (argsL := []) (rest := []) (hw _ (List.mem_of_getElem? (i := 56) rfl)) (hw _ (List.mem_of_getElem? (i := 57) rfl)) (hw _ (List.mem_of_getElem? (i := 59) rfl)) (hw _ (List.mem_of_getElem? (i := 58) rfl)) (hw _ (List.mem_of_getElem? (i := 2) rfl)) (hw _ (List.mem_of_getElem? (i := 60) rfl)) (by decide) E_a55 (rm8 l Z a0 hw [] a55 (0 : Int64) (1 : Int64) (0 : Int64) h58 n0 sz F_a55_passOver F_a55_offered E_a55 (by decide +kernel)) eT (by decide) (by decide) (by decide) (by decide) (by rw [hml]; rfl) pd1 rfl rfl (Nat.le_of_ble_eq_true rfl) (hb hby at_197) (q := 200) rfl ?_
      intro v T Lc hQ X
      obtain ⟨rfl, eT, N'⟩ := hQ
      have N := Fr.app N N'
      refine s_lconst X hx (z := (0 : Int64)) (hb hby at_200) rfl (q := 201) rfl ?_
      refine s_lcmp X hx (hb hby at_201) (q := 202) rfl ?_
      refine f_lcmp_ne X hx (hb hby at_202) (q1 := 221) (by decide) (by decide) (q := 205) rfl (fun hq => absurd (rfl : (0 : Int64) = (0 : Int64)) hq) (fun _ => ?_)
      refine s_aload X hx (hb hby at_205) rfl rfl (q := 207) rfl ?_
      refine callV X hx hZ hown (W := 0) (argsL := []) (rest := []) (hw _ (List.mem_of_getElem? (i := 93) rfl)) (hw _ (List.mem_of_getElem? (i := 94) rfl)) (hw _ (List.mem_of_getElem? (i := 96) rfl)) (hw _ (List.mem_of_getElem? (i := 95) rfl)) (hw _ (List.mem_of_getElem? (i := 2) rfl)) (hw _ (List.mem_of_getElem? (i := 97) rfl)) (by decide) E_a55 (rm14 l Z a0 hw [] a55 (1 : Int64) h58 n0 sz F_a55_offered E_a55) eT (by decide) (by decide) (by decide) (by decide) (by rw [hml]; rfl) pd1 rfl rfl (Nat.le_of_ble_eq_true rfl) (hb hby at_207) (q := 210) rfl ?_
      intro v T Lc hQ X
      obtain ⟨rfl, eT, N'⟩ := hQ
      have N := Fr.app N N'
      refine s_iload X hx (hb hby at_210) rfl (q := 212) rfl ?_
      refine s_i2l X hx (hb hby at_212) (q := 213) rfl ?_
      show Go p e below _ T m 213 #[.val (.int x0), .val (.int x1), .val (.long x2), .second, .val (.long x3), .second, .val (.int (3 : Int32)), .val (.int (1 : Int32)), .val (.ref a55), .val (.int (1 : Int32)), .val (.long (0 : Int64)), .second, .unset, .unset, .unset] [(.long (1 : Int64)), (.long (1 : Int64))]
      refine s_lcmp X hx (hb hby at_213) (q := 214) rfl ?_
      refine f_lcmp_ne X hx (hb hby at_214) (q1 := 221) (by decide) (by decide) (q := 217) rfl (fun hq => absurd (rfl : (1 : Int64) = (1 : Int64)) hq) (fun _ => ?_)
      refine s_iconst X hx (z := (1 : Int32)) (hb hby at_217) rfl (q := 218) rfl ?_
      refine s_goto X hx (hb hby at_218) (q1 := 222) (by decide) (by decide) ?_
      exact leafN X hx hlk hret (by simp) (hb hby at_222) (by decide) (by decide) (z' := 1) rfl ⟨rfl, N⟩
    · subst hcase
      refine s_istore X hx (hb hby at_8) (L' := #[.val (.int x0), .val (.int x1), .val (.long x2), .second, .val (.long x3), .second, .val (.int (3 : Int32)), .val (.int (2 : Int32)), .unset, .unset, .unset, .unset, .unset, .unset, .unset]) rfl (q := 10) rfl ?_
      refine s_new X hx hZ hown (hw _ (List.mem_of_getElem? (i := 0) rfl)) (hw _ (List.mem_of_getElem? (i := 1) rfl)) (hw _ (List.mem_of_getElem? (i := 2) rfl)) eT (by decide) (by decide) (hb hby at_10) (q := 13) rfl ?_
      intro T h60 a59 X eT E ea E_a59' Df
      have O_old := O_old.ext E
      have g_a59 : n0 ≤ a59 := by rw [ea]; exact sz
      have sz : n0 ≤ h60.size := Nat.le_trans sz E.1
      have E_a59 := E_a59'
      have F_a59_kept : Fld Z h60 a59 "com/example/cistern/cistern/ReservoirSampler" "kept" "Ljava/util/List;" .null := Df _ _ _ (.object "java/util/List") (Or.inr (hw _ (List.mem_of_getElem? (i := 34) rfl))) (by decide)
      have F_a59_capacity : Fld Z h60 a59 "com/example/cistern/cistern/ReservoirSampler" "capacity" "I" (.int (0 : Int32)) := Df _ _ _ .int (Or.inr (hw _ (List.mem_of_getElem? (i := 36) rfl))) (by decide)
      have F_a59_random : Fld Z h60 a59 "com/example/cistern/cistern/ReservoirSampler" "random" "Lcom/example/cistern/cistern/SplitMix64;" .null := Df _ _ _ (.object "com/example/cistern/cistern/SplitMix64") (Or.inr (hw _ (List.mem_of_getElem? (i := 47) rfl))) (by decide)
      have F_a59_passOver : Fld Z h60 a59 "com/example/cistern/cistern/ReservoirSampler" "passOver" "J" (.long (0 : Int64)) := Df _ _ _ .long (Or.inl (hw _ (List.mem_of_getElem? (i := 50) rfl))) (by decide)
      have F_a59_offered : Fld Z h60 a59 "com/example/cistern/cistern/ReservoirSampler" "offered" "J" (.long (0 : Int64)) := Df _ _ _ .long (Or.inl (hw _ (List.mem_of_getElem? (i := 62) rfl))) (by decide)
      refine s_dup X hx (hb hby at_13) rfl (q := 14) rfl ?_
      refine s_iload X hx (hb hby at_14) rfl (q := 16) rfl ?_
      refine s_lload X hx (hb hby at_16) rfl (q := 18) rfl ?_
      refine callI X hx hZ hown (W := 1) (argsL := [(.int (3 : Int32)), (.long x3)]) (rest := [(.ref a59)]) rfl (hw _ (List.mem_of_getElem? (i := 3) rfl)) (hw _ (List.mem_of_getElem? (i := 4) rfl)) (hw _ (List.mem_of_getElem? (i := 2) rfl)) (hw _ (List.mem_of_getElem? (i := 5) rfl)) (by decide) (rm1_3 l Z a0 hw [] a59 x3 d0 h60 n0 sz F_a59_kept F_a59_capacity F_a59_random F_a59_passOver F_a59_offered E_a59 g_a59 S0 A0 O_old) eT (by decide) (by decide) (by decide) (by decide) (by rw [hml]; rfl) pd17 rfl rfl (Nat.le_of_ble_eq_true rfl) (hb hby at_18) (q := 21) rfl ?_
      intro v T Lc hQ X
      obtain ⟨h61, eT⟩ : ∃ z, T.heap = z := ⟨_, rfl⟩
      rw [eT] at hQ
      obtain ⟨kl, gr, rfl, N', K', F_a59_kept', F_a59_capacity', F_a59_random', F_a59_passOver', F_a59_offered', F_kl_elementData', F_kl_size', F_kl_modCount', E_kl', F_gr_state', E_gr', sq_kl, sq_gr⟩ := hQ
      have N := Fr.app N N'
      have g_kl : n0 ≤ kl := Nat.le_trans sz sq_kl
      have ne_a59_kl : a59 ≠ kl := Nat.ne_of_lt (Nat.lt_of_lt_of_le E_a59.lt sq_kl)
      have g_gr : n0 ≤ gr := Nat.le_trans sz sq_gr
      have ne_a59_gr : a59 ≠ gr := Nat.ne_of_lt (Nat.lt_of_lt_of_le E_a59.lt sq_gr)
      have O_old := O_old.keep K' (allS g_a59 all0)
      have E_a59 := E_a59.keep K'
      have sz : n0 ≤ h61.size := Nat.le_trans sz K'.1
      have F_a59_kept : Fld Z h61 a59 "com/example/cistern/cistern/ReservoirSampler" "kept" "Ljava/util/List;" (.ref kl) := F_a59_kept'
      have F_a59_capacity : Fld Z h61 a59 "com/example/cistern/cistern/ReservoirSampler" "capacity" "I" (.int (3 : Int32)) := F_a59_capacity'
      have F_a59_random : Fld Z h61 a59 "com/example/cistern/cistern/ReservoirSampler" "random" "Lcom/example/cistern/cistern/SplitMix64;" (.ref gr) := F_a59_random'
      have F_a59_passOver : Fld Z h61 a59 "com/example/cistern/cistern/ReservoirSampler" "passOver" "J" (.long (0 : Int64)) := F_a59_passOver'
      have F_a59_offered : Fld Z h61 a59 "com/example/cistern/cistern/ReservoirSampler" "offered" "J" (.long (0 : Int64)) := F_a59_offered'
      have F_kl_elementData : Fld Z h61 kl "java/util/ArrayList" "elementData" "[Ljava/lang/Object;" (.ref d0) := F_kl_elementData'
      have F_kl_size : Fld Z h61 kl "java/util/ArrayList" "size" "I" (.int (0 : Int32)) := F_kl_size'
      have F_kl_modCount : Fld Z h61 kl "java/util/AbstractList" "modCount" "I" (.int (0 : Int32)) := F_kl_modCount'
      have E_kl : Exa Z h61 kl "java/util/ArrayList" := E_kl'
      have F_gr_state : Fld Z h61 gr "com/example/cistern/cistern/SplitMix64" "state" "J" (.long x3) := F_gr_state'
      have E_gr : Exa Z h61 gr "com/example/cistern/cistern/SplitMix64" := E_gr'
      have ne_kl_gr := ne_exa E_kl E_gr (by decide)
      refine s_astore X hx (hb hby at_21) rfl (L' := #[.val (.int x0), .val (.int x1), .val (.long x2), .second, .val (.long x3), .second, .val (.int (3 : Int32)), .val (.int (2 : Int32)), .val (.ref a59), .unset, .unset, .unset, .unset, .unset, .unset]) rfl (q := 23) rfl ?_
      refine s_iload X hx (hb hby at_23) rfl (q := 25) rfl ?_
      refine f_if_ne X hx (hb hby at_25) (q1 := 163) (by decide) (by decide) (q := 28) rfl (fun _ => ?_) (fun hq => absurd hq (by decide : ¬ (3 : Int32) = 0))
      refine s_iload X hx (hb hby at_163) rfl (q := 165) rfl ?_
      refine s_iload X hx (hb hby at_165) rfl (q := 167) rfl ?_
      refine s_iconst X hx (z := (1 : Int32)) (hb hby at_167) rfl (q := 168) rfl ?_
      refine s_isub X hx (hb hby at_168) (q := 169) rfl ?_
      show Go p e below _ T m 169 #[.val (.int x0), .val (.int x1), .val (.long x2), .second, .val (.long x3), .second, .val (.int (3 : Int32)), .val (.int (2 : Int32)), .val (.ref a59), .unset, .unset, .unset, .unset, .unset, .unset] [(.int (2 : Int32)), (.int (2 : Int32))]
      refine callP X hx hZ hown (W := 0) (argsL := [(.int (2 : Int32)), (.int (2 : Int32))]) (rest := []) (hw _ (List.mem_of_getElem? (i := 98) rfl)) (hw _ (List.mem_of_getElem? (i := 99) rfl)) (hw _ (List.mem_of_getElem? (i := 54) rfl)) (hw _ (List.mem_of_getElem? (i := 100) rfl)) (by decide) (rm15 l Z a0 hw [] (2 : Int32) (2 : Int32) h61) rfl rfl eT (by decide) (by decide) (by decide) (by decide) (by rw [hml]; rfl) pd6 rfl rfl (Nat.le_of_ble_eq_true rfl) (hb hby at_169) (q := 172) rfl ?_
      intro T X eT
      show Go p e below _ T m 172 #[.val (.int x0), .val (.int x1), .val (.long x2), .second, .val (.long x3), .second, .val (.int (3 : Int32)), .val (.int (2 : Int32)), .val (.ref a59), .unset, .unset, .unset, .unset, .unset, .unset] [(.int (2 : Int32))]
      refine s_istore X hx (hb hby at_172) (L' := #[.val (.int x0), .val (.int x1), .val (.long x2), .second, .val (.long x3), .second, .val (.int (3 : Int32)), .val (.int (2 : Int32)), .val (.ref a59), .val (.int (2 : Int32)), .unset, .unset, .unset, .unset, .unset]) rfl (q := 174) rfl ?_
      refine s_aload X hx (hb hby at_174) rfl rfl (q := 176) rfl ?_
      refine s_iload X hx (hb hby at_176) rfl (q := 178) rfl ?_
      refine callC X hx hZ hown (W := 0) (argsL := [(.ref a59), (.int (2 : Int32))]) (rest := []) (hw _ (List.mem_of_getElem? (i := 70) rfl)) (hw _ (List.mem_of_getElem? (i := 71) rfl)) (hw _ (List.mem_of_getElem? (i := 72) rfl)) (hw _ (List.mem_of_getElem? (i := 73) rfl)) (by decide) (rm10_f2 l Z a0 hw [] a59 kl gr (3 : Int32) (0 : Int64) x3 d0 h61 n0 sz F_a59_kept F_a59_capacity F_a59_random F_a59_passOver F_a59_offered E_a59 F_kl_elementData F_kl_size F_kl_modCount E_kl F_gr_state E_gr g_a59 g_kl g_gr S0 A0 O_old (by decide) (by decide) (by decide) (by decide)) eT (by decide) (by decide) (by decide) (by decide) (by rw [hml]; rfl) pd18 rfl rfl (Nat.le_of_ble_eq_true rfl) (hb hby at_178) (q := 181) rfl ?_
      intro v T Lc hQ X
      obtain ⟨h62, eT⟩ : ∃ z, T.heap = z := ⟨_, rfl⟩
      rw [eT] at hQ
      obtain ⟨rfl, N', K', F_a59_kept', F_a59_capacity', F_a59_random', F_a59_passOver', F_a59_offered'⟩ := hQ
      have N := Fr.app N N'
      have O_old := O_old.keep K' (allS g_a59 (allS g_kl (allS g_gr all0)))
      have E_a59 := E_a59.keep K'
      have E_kl := E_kl.keep K'
      have E_gr := E_gr.keep K'
      have sz : n0 ≤ h62.size := Nat.le_trans sz K'.1
      have F_a59_kept : Fld Z h62 a59 "com/example/cistern/cistern/ReservoirSampler" "kept" "Ljava/util/List;" (.ref kl) := F_a59_kept'
      have F_a59_capacity : Fld Z h62 a59 "com/example/cistern/cistern/ReservoirSampler" "capacity" "I" (.int (3 : Int32)) := F_a59_capacity'
      have F_a59_random : Fld Z h62 a59 "com/example/cistern/cistern/ReservoirSampler" "random" "Lcom/example/cistern/cistern/SplitMix64;" (.ref gr) := F_a59_random'
      have F_a59_passOver : Fld Z h62 a59 "com/example/cistern/cistern/ReservoirSampler" "passOver" "J" (.long (0 : Int64)) := F_a59_passOver'
      have F_a59_offered : Fld Z h62 a59 "com/example/cistern/cistern/ReservoirSampler" "offered" "J" (.long (2 : Int64)) := F_a59_offered'
      refine s_aload X hx (hb hby at_181) rfl rfl (q := 183) rfl ?_
      refine callV X hx hZ hown (W := 0) (argsL := []) (rest := []) (hw _ (List.mem_of_getElem? (i := 56) rfl)) (hw _ (List.mem_of_getElem? (i := 57) rfl)) (hw _ (List.mem_of_getElem? (i := 59) rfl)) (hw _ (List.mem_of_getElem? (i := 58) rfl)) (hw _ (List.mem_of_getElem? (i := 2) rfl)) (hw _ (List.mem_of_getElem? (i := 60) rfl)) (by decide) E_a59 (rm8 l Z a0 hw [] a59 (0 : Int64) (2 : Int64) (0 : Int64) h62 n0 sz F_a59_passOver F_a59_offered E_a59 (by decide +kernel)) eT (by decide) (by decide) (by decide) (by decide) (by rw [hml]; rfl) pd1 rfl rfl (Nat.le_of_ble_eq_true rfl) (hb hby at_183) (q := 186) rfl ?_
      intro v T Lc hQ X
      obtain ⟨rfl, eT, N'⟩ := hQ
      have N := Fr.app N N'
      refine s_lstore X hx (hb hby at_186) (L' := #[.val (.int x0), .val (.int x1), .val (.long x2), .second, .val (.long x3), .second, .val (.int (3 : Int32)), .val (.int (2 : Int32)), .val (.ref a59), .val (.int (2 : Int32)), .val (.long (0 : Int64)), .second, .unset, .unset, .unset]) rfl (q := 188) rfl ?_
      refine s_lload X hx (hb hby at_188) rfl (q := 190) rfl ?_
      refine s_lconst X hx (z := (0 : Int64)) (hb hby at_190) rfl (q := 191) rfl ?_
      refine s_lcmp X hx (hb hby at_191) (q := 192) rfl ?_
      refine f_lcmp_ne X hx (hb hby at_192) (q1 := 221) (by decide) (by decide) (q := 195) rfl (fun hq => absurd (rfl : (0 : Int64) = (0 : Int64)) hq) (fun _ => ?_)
      refine s_aload X hx (hb hby at_195) rfl rfl (q := 197) rfl ?_
      refine callV X hx hZ hown (W := 0) (argsL := []) (rest := []) (hw _ (List.mem_of_getElem? (i := 56) rfl)) (hw _ (List.mem_of_getElem? (i := 57) rfl)) (hw _ (List.mem_of_getElem? (i := 59) rfl)) (hw _ (List.mem_of_getElem? (i := 58) rfl)) (hw _ (List.mem_of_getElem? (i := 2) rfl)) (hw _ (List.mem_of_getElem? (i := 60) rfl)) (by decide) E_a59 (rm8 l Z a0 hw [] a59 (0 : Int64) (2 : Int64) (0 : Int64) h62 n0 sz F_a59_passOver F_a59_offered E_a59 (by decide +kernel)) eT (by decide) (by decide) (by decide) (by decide) (by rw [hml]; rfl) pd1 rfl rfl (Nat.le_of_ble_eq_true rfl) (hb hby at_197) (q := 200) rfl ?_
      intro v T Lc hQ X
      obtain ⟨rfl, eT, N'⟩ := hQ
      have N := Fr.app N N'
      refine s_lconst X hx (z := (0 : Int64)) (hb hby at_200) rfl (q := 201) rfl ?_
      refine s_lcmp X hx (hb hby at_201) (q := 202) rfl ?_
      refine f_lcmp_ne X hx (hb hby at_202) (q1 := 221) (by decide) (by decide) (q := 205) rfl (fun hq => absurd (rfl : (0 : Int64) = (0 : Int64)) hq) (fun _ => ?_)
      refine s_aload X hx (hb hby at_205) rfl rfl (q := 207) rfl ?_
      refine callV X hx hZ hown (W := 0) (argsL := []) (rest := []) (hw _ (List.mem_of_getElem? (i := 93) rfl)) (hw _ (List.mem_of_getElem? (i := 94) rfl)) (hw _ (List.mem_of_getElem? (i := 96) rfl)) (hw _ (List.mem_of_getElem? (i := 95) rfl)) (hw _ (List.mem_of_getElem? (i := 2) rfl)) (hw _ (List.mem_of_getElem? (i := 97) rfl)) (by decide) E_a59 (rm14 l Z a0 hw [] a59 (2 : Int64) h62 n0 sz F_a59_offered E_a59) eT (by decide) (by decide) (by decide) (by decide) (by rw [hml]; rfl) pd1 rfl rfl (Nat.le_of_ble_eq_true rfl) (hb hby at_207) (q := 210) rfl ?_
      intro v T Lc hQ X
      obtain ⟨rfl, eT, N'⟩ := hQ
      have N := Fr.app N N'
      refine s_iload X hx (hb hby at_210) rfl (q := 212) rfl ?_
      refine s_i2l X hx (hb hby at_212) (q := 213) rfl ?_
      show Go p e below _ T m 213 #[.val (.int x0), .val (.int x1), .val (.long x2), .second, .val (.long x3), .second, .val (.int (3 : Int32)), .val (.int (2 : Int32)), .val (.ref a59), .val (.int (2 : Int32)), .val (.long (0 : Int64)), .second, .unset, .unset, .unset] [(.long (2 : Int64)), (.long (2 : Int64))]
      refine s_lcmp X hx (hb hby at_213) (q := 214) rfl ?_
      refine f_lcmp_ne X hx (hb hby at_214) (q1 := 221) (by decide) (by decide) (q := 217) rfl (fun hq => absurd (rfl : (2 : Int64) = (2 : Int64)) hq) (fun _ => ?_)
      refine s_iconst X hx (z := (1 : Int32)) (hb hby at_217) rfl (q := 218) rfl ?_
      refine s_goto X hx (hb hby at_218) (q1 := 222) (by decide) (by decide) ?_
      exact leafN X hx hlk hret (by simp) (hb hby at_222) (by decide) (by decide) (z' := 1) rfl ⟨rfl, N⟩
    · subst hcase
      refine s_istore X hx (hb hby at_8) (L' := #[.val (.int x0), .val (.int x1), .val (.long x2), .second, .val (.long x3), .second, .val (.int (3 : Int32)), .val (.int (3 : Int32)), .unset, .unset, .unset, .unset, .unset, .unset, .unset]) rfl (q := 10) rfl ?_
      refine s_new X hx hZ hown (hw _ (List.mem_of_getElem? (i := 0) rfl)) (hw _ (List.mem_of_getElem? (i := 1) rfl)) (hw _ (List.mem_of_getElem? (i := 2) rfl)) eT (by decide) (by decide) (hb hby at_10) (q := 13) rfl ?_
      intro T h64 a63 X eT E ea E_a63' Df
      have O_old := O_old.ext E
      have g_a63 : n0 ≤ a63 := by rw [ea]; exact sz
      have sz : n0 ≤ h64.size := Nat.le_trans sz E.1
      have E_a63 := E_a63'
      have F_a63_kept : Fld Z h64 a63 "com/example/cistern/cistern/ReservoirSampler" "kept" "Ljava/util/List;" .null := Df _ _ _ (.object "java/util/List") (Or.inr (hw _ (List.mem_of_getElem? (i := 34) rfl))) (by decide)
      have F_a63_capacity : Fld Z h64 a63 "com/example/cistern/cistern/ReservoirSampler" "capacity" "I" (.int (0 : Int32)) := Df _ _ _ .int (Or.inr (hw _ (List.mem_of_getElem? (i := 36) rfl))) (by decide)
      have F_a63_random : Fld Z h64 a63 "com/example/cistern/cistern/ReservoirSampler" "random" "Lcom/example/cistern/cistern/SplitMix64;" .null := Df _ _ _ (.object "com/example/cistern/cistern/SplitMix64") (Or.inr (hw _ (List.mem_of_getElem? (i := 47) rfl))) (by decide)
      have F_a63_passOver : Fld Z h64 a63 "com/example/cistern/cistern/ReservoirSampler" "passOver" "J" (.long (0 : Int64)) := Df _ _ _ .long (Or.inl (hw _ (List.mem_of_getElem? (i := 50) rfl))) (by decide)
      have F_a63_offered : Fld Z h64 a63 "com/example/cistern/cistern/ReservoirSampler" "offered" "J" (.long (0 : Int64)) := Df _ _ _ .long (Or.inl (hw _ (List.mem_of_getElem? (i := 62) rfl))) (by decide)
      refine s_dup X hx (hb hby at_13) rfl (q := 14) rfl ?_
      refine s_iload X hx (hb hby at_14) rfl (q := 16) rfl ?_
      refine s_lload X hx (hb hby at_16) rfl (q := 18) rfl ?_
      refine callI X hx hZ hown (W := 1) (argsL := [(.int (3 : Int32)), (.long x3)]) (rest := [(.ref a63)]) rfl (hw _ (List.mem_of_getElem? (i := 3) rfl)) (hw _ (List.mem_of_getElem? (i := 4) rfl)) (hw _ (List.mem_of_getElem? (i := 2) rfl)) (hw _ (List.mem_of_getElem? (i := 5) rfl)) (by decide) (rm1_3 l Z a0 hw [] a63 x3 d0 h64 n0 sz F_a63_kept F_a63_capacity F_a63_random F_a63_passOver F_a63_offered E_a63 g_a63 S0 A0 O_old) eT (by decide) (by decide) (by decide) (by decide) (by rw [hml]; rfl) pd17 rfl rfl (Nat.le_of_ble_eq_true rfl) (hb hby at_18) (q := 21) rfl ?_
      intro v T Lc hQ X
      obtain ⟨h65, eT⟩ : ∃ z, T.heap = z := ⟨_, rfl⟩
      rw [eT] at hQ
      obtain ⟨kl, gr, rfl, N', K', F_a63_kept', F_a63_capacity', F_a63_random', F_a63_passOver', F_a63_offered', F_kl_elementData', F_kl_size', F_kl_modCount', E_kl', F_gr_state', E_gr', sq_kl, sq_gr⟩ := hQ
      have N := Fr.app N N'
      have g_kl : n0 ≤ kl := Nat.le_trans sz sq_kl
      have ne_a63_kl : a63 ≠ kl := Nat.ne_of_lt (Nat.lt_of_lt_of_le E_a63.lt sq_kl)
      have g_gr : n0 ≤ gr := Nat.le_trans sz sq_gr
      have ne_a63_gr : a63 ≠ gr := Nat.ne_of_lt (Nat.lt_of_lt_of_le E_a63.lt sq_gr)
      have O_old := O_old.keep K' (allS g_a63 all0)
      have E_a63 := E_a63.keep K'
      have sz : n0 ≤ h65.size := Nat.le_trans sz K'.1
      have F_a63_kept : Fld Z h65 a63 "com/example/cistern/cistern/ReservoirSampler" "kept" "Ljava/util/List;" (.ref kl) := F_a63_kept'
      have F_a63_capacity : Fld Z h65 a63 "com/example/cistern/cistern/ReservoirSampler" "capacity" "I" (.int (3 : Int32)) := F_a63_capacity'
      have F_a63_random : Fld Z h65 a63 "com/example/cistern/cistern/ReservoirSampler" "random" "Lcom/example/cistern/cistern/SplitMix64;" (.ref gr) := F_a63_random'
      have F_a63_passOver : Fld Z h65 a63 "com/example/cistern/cistern/ReservoirSampler" "passOver" "J" (.long (0 : Int64)) := F_a63_passOver'
      have F_a63_offered : Fld Z h65 a63 "com/example/cistern/cistern/ReservoirSampler" "offered" "J" (.long (0 : Int64)) := F_a63_offered'
      have F_kl_elementData : Fld Z h65 kl "java/util/ArrayList" "elementData" "[Ljava/lang/Object;" (.ref d0) := F_kl_elementData'
      have F_kl_size : Fld Z h65 kl "java/util/ArrayList" "size" "I" (.int (0 : Int32)) := F_kl_size'
      have F_kl_modCount : Fld Z h65 kl "java/util/AbstractList" "modCount" "I" (.int (0 : Int32)) := F_kl_modCount'
      have E_kl : Exa Z h65 kl "java/util/ArrayList" := E_kl'
      have F_gr_state : Fld Z h65 gr "com/example/cistern/cistern/SplitMix64" "state" "J" (.long x3) := F_gr_state'
      have E_gr : Exa Z h65 gr "com/example/cistern/cistern/SplitMix64" := E_gr'
      have ne_kl_gr := ne_exa E_kl E_gr (by decide)
      refine s_astore X hx (hb hby at_21) rfl (L' := #[.val (.int x0), .val (.int x1), .val (.long x2), .second, .val (.long x3), .second, .val (.int (3 : Int32)), .val (.int (3 : Int32)), .val (.ref a63), .unset, .unset, .unset, .unset, .unset, .unset]) rfl (q := 23) rfl ?_
      refine s_iload X hx (hb hby at_23) rfl (q := 25) rfl ?_
      refine f_if_ne X hx (hb hby at_25) (q1 := 163) (by decide) (by decide) (q := 28) rfl (fun _ => ?_) (fun hq => absurd hq (by decide : ¬ (3 : Int32) = 0))
      refine s_iload X hx (hb hby at_163) rfl (q := 165) rfl ?_
      refine s_iload X hx (hb hby at_165) rfl (q := 167) rfl ?_
      refine s_iconst X hx (z := (1 : Int32)) (hb hby at_167) rfl (q := 168) rfl ?_
      refine s_isub X hx (hb hby at_168) (q := 169) rfl ?_
      show Go p e below _ T m 169 #[.val (.int x0), .val (.int x1), .val (.long x2), .second, .val (.long x3), .second, .val (.int (3 : Int32)), .val (.int (3 : Int32)), .val (.ref a63), .unset, .unset, .unset, .unset, .unset, .unset] [(.int (2 : Int32)), (.int (3 : Int32))]
      refine callP X hx hZ hown (W := 0) (argsL := [(.int (3 : Int32)), (.int (2 : Int32))]) (rest := []) (hw _ (List.mem_of_getElem? (i := 98) rfl)) (hw _ (List.mem_of_getElem? (i := 99) rfl)) (hw _ (List.mem_of_getElem? (i := 54) rfl)) (hw _ (List.mem_of_getElem? (i := 100) rfl)) (by decide) (rm15 l Z a0 hw [] (3 : Int32) (2 : Int32) h65) rfl rfl eT (by decide) (by decide) (by decide) (by decide) (by rw [hml]; rfl) pd6 rfl rfl (Nat.le_of_ble_eq_true rfl) (hb hby at_169) (q := 172) rfl ?_
      intro T X eT
      show Go p e below _ T m 172 #[.val (.int x0), .val (.int x1), .val (.long x2), .second, .val (.long x3), .second, .val (.int (3 : Int32)), .val (.int (3 : Int32)), .val (.ref a63), .unset, .unset, .unset, .unset, .unset, .unset] [(.int (2 : Int32))]
      refine s_istore X hx (hb hby at_172) (L' := #[.val (.int x0), .val (.int x1), .val (.long x2), .second, .val (.long x3), .second, .val (.int (3 : Int32)), .val (.int (3 : Int32)), .val (.ref a63), .val (.int (2 : Int32)), .unset, .unset, .unset, .unset, .unset]) rfl (q := 174) rfl ?_
      refine s_aload X hx (hb hby at_174) rfl rfl (q := 176) rfl ?_
      refine s_iload X hx (hb hby at_176) rfl (q := 178) rfl ?_
      refine callC X hx hZ hown (W := 0) (argsL := [(.ref a63), (.int (2 : Int32))]) (rest := []) (hw _ (List.mem_of_getElem? (i := 70) rfl)) (hw _ (List.mem_of_getElem? (i := 71) rfl)) (hw _ (List.mem_of_getElem? (i := 72) rfl)) (hw _ (List.mem_of_getElem? (i := 73) rfl)) (by decide) (rm10_f2 l Z a0 hw [] a63 kl gr (3 : Int32) (0 : Int64) x3 d0 h65 n0 sz F_a63_kept F_a63_capacity F_a63_random F_a63_passOver F_a63_offered E_a63 F_kl_elementData F_kl_size F_kl_modCount E_kl F_gr_state E_gr g_a63 g_kl g_gr S0 A0 O_old (by decide) (by decide) (by decide) (by decide)) eT (by decide) (by decide) (by decide) (by decide) (by rw [hml]; rfl) pd18 rfl rfl (Nat.le_of_ble_eq_true rfl) (hb hby at_178) (q := 181) rfl ?_
      intro v T Lc hQ X
      obtain ⟨h66, eT⟩ : ∃ z, T.heap = z := ⟨_, rfl⟩
      rw [eT] at hQ
      obtain ⟨rfl, N', K', F_a63_kept', F_a63_capacity', F_a63_random', F_a63_passOver', F_a63_offered'⟩ := hQ
      have N := Fr.app N N'
      have O_old := O_old.keep K' (allS g_a63 (allS g_kl (allS g_gr all0)))
      have E_a63 := E_a63.keep K'
      have E_kl := E_kl.keep K'
      have E_gr := E_gr.keep K'
      have sz : n0 ≤ h66.size := Nat.le_trans sz K'.1
      have F_a63_kept : Fld Z h66 a63 "com/example/cistern/cistern/ReservoirSampler" "kept" "Ljava/util/List;" (.ref kl) := F_a63_kept'
      have F_a63_capacity : Fld Z h66 a63 "com/example/cistern/cistern/ReservoirSampler" "capacity" "I" (.int (3 : Int32)) := F_a63_capacity'
      have F_a63_random : Fld Z h66 a63 "com/example/cistern/cistern/ReservoirSampler" "random" "Lcom/example/cistern/cistern/SplitMix64;" (.ref gr) := F_a63_random'
      have F_a63_passOver : Fld Z h66 a63 "com/example/cistern/cistern/ReservoirSampler" "passOver" "J" (.long (0 : Int64)) := F_a63_passOver'
      have F_a63_offered : Fld Z h66 a63 "com/example/cistern/cistern/ReservoirSampler" "offered" "J" (.long (2 : Int64)) := F_a63_offered'
      refine s_aload X hx (hb hby at_181) rfl rfl (q := 183) rfl ?_
      refine callV X hx hZ hown (W := 0) (argsL := []) (rest := []) (hw _ (List.mem_of_getElem? (i := 56) rfl)) (hw _ (List.mem_of_getElem? (i := 57) rfl)) (hw _ (List.mem_of_getElem? (i := 59) rfl)) (hw _ (List.mem_of_getElem? (i := 58) rfl)) (hw _ (List.mem_of_getElem? (i := 2) rfl)) (hw _ (List.mem_of_getElem? (i := 60) rfl)) (by decide) E_a63 (rm8 l Z a0 hw [] a63 (0 : Int64) (2 : Int64) (0 : Int64) h66 n0 sz F_a63_passOver F_a63_offered E_a63 (by decide +kernel)) eT (by decide) (by decide) (by decide) (by decide) (by rw [hml]; rfl) pd1 rfl rfl (Nat.le_of_ble_eq_true rfl) (hb hby at_183) (q := 186) rfl ?_
      intro v T Lc hQ X
      obtain ⟨rfl, eT, N'⟩ := hQ
      have N := Fr.app N N'
      refine s_lstore X hx (hb hby at_186) (L' := #[.val (.int x0), .val (.int x1), .val (.long x2), .second, .val (.long x3), .second, .val (.int (3 : Int32)), .val (.int (3 : Int32)), .val (.ref a63), .val (.int (2 : Int32)), .val (.long (0 : Int64)), .second, .unset, .unset, .unset]) rfl (q := 188) rfl ?_
      refine s_lload X hx (hb hby at_188) rfl (q := 190) rfl ?_
      refine s_lconst X hx (z := (0 : Int64)) (hb hby at_190) rfl (q := 191) rfl ?_
      refine s_lcmp X hx (hb hby at_191) (q := 192) rfl ?_
      refine f_lcmp_ne X hx (hb hby at_192) (q1 := 221) (by decide) (by decide) (q := 195) rfl (fun hq => absurd (rfl : (0 : Int64) = (0 : Int64)) hq) (fun _ => ?_)
      refine s_aload X hx (hb hby at_195) rfl rfl (q := 197) rfl ?_
      refine callV X hx hZ hown (W := 0) (argsL := []) (rest := []) (hw _ (List.mem_of_getElem? (i := 56) rfl)) (hw _ (List.mem_of_getElem? (i := 57) rfl)) (hw _ (List.mem_of_getElem? (i := 59) rfl)) (hw _ (List.mem_of_getElem? (i := 58) rfl)) (hw _ (List.mem_of_getElem? (i := 2) rfl)) (hw _ (List.mem_of_getElem? (i := 60) rfl)) (by decide) E_a63 (rm8 l Z a0 hw [] a63 (0 : Int64) (2 : Int64) (0 : Int64) h66 n0 sz F_a63_passOver F_a63_offered E_a63 (by decide +kernel)) eT (by decide) (by decide) (by decide) (by decide) (by rw [hml]; rfl) pd1 rfl rfl (Nat.le_of_ble_eq_true rfl) (hb hby at_197) (q := 200) rfl ?_
      intro v T Lc hQ X
      obtain ⟨rfl, eT, N'⟩ := hQ
      have N := Fr.app N N'
      refine s_lconst X hx (z := (0 : Int64)) (hb hby at_200) rfl (q := 201) rfl ?_
      refine s_lcmp X hx (hb hby at_201) (q := 202) rfl ?_
      refine f_lcmp_ne X hx (hb hby at_202) (q1 := 221) (by decide) (by decide) (q := 205) rfl (fun hq => absurd (rfl : (0 : Int64) = (0 : Int64)) hq) (fun _ => ?_)
      refine s_aload X hx (hb hby at_205) rfl rfl (q := 207) rfl ?_
      refine callV X hx hZ hown (W := 0) (argsL := []) (rest := []) (hw _ (List.mem_of_getElem? (i := 93) rfl)) (hw _ (List.mem_of_getElem? (i := 94) rfl)) (hw _ (List.mem_of_getElem? (i := 96) rfl)) (hw _ (List.mem_of_getElem? (i := 95) rfl)) (hw _ (List.mem_of_getElem? (i := 2) rfl)) (hw _ (List.mem_of_getElem? (i := 97) rfl)) (by decide) E_a63 (rm14 l Z a0 hw [] a63 (2 : Int64) h66 n0 sz F_a63_offered E_a63) eT (by decide) (by decide) (by decide) (by decide) (by rw [hml]; rfl) pd1 rfl rfl (Nat.le_of_ble_eq_true rfl) (hb hby at_207) (q := 210) rfl ?_
      intro v T Lc hQ X
      obtain ⟨rfl, eT, N'⟩ := hQ
      have N := Fr.app N N'
      refine s_iload X hx (hb hby at_210) rfl (q := 212) rfl ?_
      refine s_i2l X hx (hb hby at_212) (q := 213) rfl ?_
      show Go p e below _ T m 213 #[.val (.int x0), .val (.int x1), .val (.long x2), .second, .val (.long x3), .second, .val (.int (3 : Int32)), .val (.int (3 : Int32)), .val (.ref a63), .val (.int (2 : Int32)), .val (.long (0 : Int64)), .second, .unset, .unset, .unset] [(.long (2 : Int64)), (.long (2 : Int64))]
      refine s_lcmp X hx (hb hby at_213) (q := 214) rfl ?_
      refine f_lcmp_ne X hx (hb hby at_214) (q1 := 221) (by decide) (by decide) (q := 217) rfl (fun hq => absurd (rfl : (2 : Int64) = (2 : Int64)) hq) (fun _ => ?_)
      refine s_iconst X hx (z := (1 : Int32)) (hb hby at_217) rfl (q := 218) rfl ?_
      refine s_goto X hx (hb hby at_218) (q1 := 222) (by decide) (by decide) ?_
      exact leafN X hx hlk hret (by simp) (hb hby at_222) (by decide) (by decide) (z' := 1) rfl ⟨rfl, N⟩
set_option maxRecDepth 65536 in
set_option maxHeartbeats 40000000 in
theorem comes_1 {Post : Tables → Env → Array Value → State → Outcome → State → Prop} (hpost : ∀ tb e args s v u, (limb_1_1.after args s (.returned v) u = true ∧ limb_1_2.after args s (.returned v) u = true ∧ True) → FrameEnd s (.returned v) u (Jvm.fieldLocs frame_1_writes args s ++ Jvm.arrayLocs frame_1_arrays args s ++ Jvm.staticLocs frame_1_statics s) 24 128 → Post tb e args s (.returned v) u) :
    ArmFor flags0 classFile x code maxLocals ret World_1 tables_1 room_1 Calls_1 rest_1 Pre_1 Post := by
  intro l hfl _ _ p e ha hc hk s m args below hf hA hF happ hP
  obtain ⟨hcalls, hrest, hpre⟩ := hP
  obtain ⟨-, -, -, hnamed, -, -, -, hat⟩ := (Spec.applies_iff hf).mp happ
  obtain ⟨hg, hn⟩ := and_e (Cond.before_iff.mp (show (Jvm.Cond.and given_1 narrow_1).before args s = true from hpre))
  obtain ⟨g1, g2⟩ := and_e hg
  obtain ⟨g3, g4⟩ := and_e g2
  obtain ⟨g5, g6⟩ := and_e g4
  obtain ⟨g7, g8⟩ := and_e g6
  obtain ⟨w0, w1, w2, w3, rfl⟩ : ∃ w0 w1 w2 w3 : Value, args = #[w0, w1, w2, w3] := by
    have hs : args.size = 4 := by simpa [Cond.value, given_1] using g1
    obtain ⟨L⟩ := args
    match L, hs with
    | [w0, w1, w2, w3], _ => exact ⟨w0, w1, w2, w3, rfl⟩
  have hw := fun d (hd : d ∈ tables_1) => atoms_spec (ws := Jvm.Cond.code x code maxLocals ret :: tables_1) hat d (List.mem_cons_of_mem _ hd)
  obtain ⟨hsets, hown0⟩ := atoms_of _ (rest_1_c_eq ▸ (show rest_1_c.before _ s = true from hrest))
  obtain ⟨i0, ei0⟩ := is_v g3
  obtain rfl : w0 = (.int i0) := Option.some.inj ei0
  obtain ⟨i1, ei1⟩ := is_v g5
  obtain rfl : w1 = (.int i1) := Option.some.inj ei1
  obtain ⟨i2, ei2⟩ := isL_v g7
  obtain rfl : w2 = (.long i2) := Option.some.inj ei2
  obtain ⟨i3, ei3⟩ := isL_v g8
  obtain rfl : w3 = (.long i3) := Option.some.inj ei3
  obtain ⟨d0, S0, A0⟩ := own_d0 (hsets _ (List.mem_of_getElem? (i := 2) rfl)) (hsets _ (List.mem_of_getElem? (i := 6) rfl)) (hsets _ (List.mem_of_getElem? (i := 8) rfl)) (hw _ (List.mem_of_getElem? (i := 11) rfl))
  obtain ⟨n, o, h1, h2, h3, _, L, rfl, ⟨rfl, N⟩, hq⟩ := rm0 l s _ hw tables_1 i0 i1 i2 i3 s.heap s.heap.size (Nat.le_refl _) d0 S0 A0 (Old.start s) p e ha hc hk s m _ below hf ((Spec.applies_iff_loose hf).mp happ).1 ⟨rfl, State.Warmed39.refl s, rfl⟩ trivial
  refine ⟨n, _, h1, h2, h3, hpost _ _ _ _ _ _ ⟨Cond.after_iff.mpr rfl, Cond.after_iff.mpr (eq_i res_at (Term.int_eval (1)) rfl), trivial⟩ ⟨hq.1, hq.2.1, (hq.2.2.sift fun y hy => Or.inr (N y hy)).mono (by decide) (by decide)⟩⟩
theorem main_1_1 : Claimed_1_1 := comes_1 fun _ _ _ _ _ _ h hF => ⟨h.1, hF⟩
theorem main_1_2 : Claimed_1_2 := comes_1 fun _ _ _ _ _ _ h hF => ⟨h.2.1, hF⟩
end Jvm.Pilot.@@N@@
namespace Jvm.Pilot.@@N@@
open Jvm Jvm.ClassFile Sem Op Lib Jvm.Free Jvm.Stand Jvm.Pilot.@@N@@.Jvm.D
/-! MADE BY PROGRAM (witnessworld.py) out of the Statement's table words and the real class files: 24 classes; the members and pool entries that the words name. The judged class is class 1, her method 2. -/
namespace start1
open Jvm.ClassFile
def u (s : String) : CpInfo := .utf8 (stringToUtf16 s)
/-- a pool by its gaps: so many unusable entries, then the entry; so many at the end -/
def gap : Nat → List CpInfo → List CpInfo
  | 0, r => r
  | n + 1, r => .unusable :: gap n r
def poolList (es : List (Nat × CpInfo)) (last : Nat) : List CpInfo := es.foldr (fun e r => gap e.1 (e.2 :: r)) (gap last [])
def pool (es : List (Nat × CpInfo)) (last : Nat) : Array CpInfo := ⟨poolList es last⟩
def fileOf (pool : Array CpInfo) (this : Nat) (attrs : Array Attribute := #[]) (ms : Array MethodInfo := #[]) (fl : Nat := 33) (sup : Nat := 0) (ifs : Array Nat := #[]) (fds : Array FieldInfo := #[]) : ClassFile where
  minorVersion := 0
  majorVersion := 65
  constantPool := pool
  accessFlags := fl
  thisClass := this
  superClass := sup
  interfaces := ifs
  fields := fds
  methods := ms
  attributes := attrs
def plain (name : String) (sup : Option ClassId) : Class where
  name := name
  kind := .ordinary
  loader := none
  accessFlags := 33
  super := sup
  interfaces := #[]
  cf := none
  fields := #[]
  methods := #[]
  instanceTypes := #[]
  staticTypes := #[]
  resolved := #[]
  callSites := []
  init := .initialized
  statics := none
  mirror := none

def pool0 : Array CpInfo := pool [(5, u "<init>"), (0, u "()V"), (1, .class_ 10), (1, u "java/lang/Object")] 113

def k0c0 : Code := { maxStack := 0, maxLocals := 1, code := object_method_1_code, exceptionTable := #[], attributes := #[] }
def k0m0 : Method := { name := "<init>", desc := "()V", sig := { parameters := [], returnType := none }, accessFlags := 1, code := some k0c0 }
/-- java/lang/Object -/
def k0 : Class := { plain "java/lang/Object" none with
  accessFlags := 33
  interfaces := #[]
  cf := some (fileOf pool0 8 #[] #[{ accessFlags := 1, nameIndex := 5, descriptorIndex := 6, attributes := #[] }] 33 0 #[] #[])
  fields := #[]
  methods := #[k0m0]
  instanceTypes := #[]
  staticTypes := #[]
  resolved := Array.replicate 124 none
  statics := none }

def pool1 : Array CpInfo := pool [(2, .class_ 4), (1, u "java/lang/Object"), (0, u "<init>"), (0, u "()V"), (0, .methodref 8 9), (0, .class_ 10), (0, .nameAndType 11 12), (0, u "com/example/cistern/cistern/ReservoirSampler"), (0, u "offer"), (0, u "(Ljava/lang/Object;)V"), (0, .methodref 8 14), (0, .nameAndType 5 15), (0, u "(IJ)V"), (2, .long 9223372036854775807), (1, .methodref 21 22), (0, .class_ 23), (0, .nameAndType 24 25), (0, u "java/lang/Math"), (0, u "min"), (0, u "(JJ)J"), (0, .methodref 8 27), (0, .nameAndType 28 29), (0, u "skippable"), (0, u "()J"), (0, .methodref 8 31), (0, .nameAndType 32 33), (0, u "skip"), (0, u "(J)V"), (0, .methodref 35 36), (0, .class_ 37), (0, .nameAndType 38 39), (0, u "com/example/cistern/cistern/ReservoirSamplerSkippablePinLaw"), (0, u "offerTimes"), (0, u "(Lcom/example/cistern/cistern/ReservoirSampler;I)V"), (0, .methodref 8 41), (0, .nameAndType 42 29), (0, u "offered"), (0, .methodref 21 44), (0, .nameAndType 24 45), (0, u "(II)I"), (5, u "law"), (0, u "(IIJJ)Z")] 2

def k1m0 : Method := { name := "<init>", desc := "()V", sig := { parameters := [], returnType := none }, accessFlags := 1, code := none }
def k1c1 : Code := { maxStack := 2, maxLocals := 2, code := method_2_code, exceptionTable := #[], attributes := #[] }
def k1m1 : Method := { name := "offerTimes", desc := "(Lcom/example/cistern/cistern/ReservoirSampler;I)V", sig := { parameters := [(.object "com/example/cistern/cistern/ReservoirSampler"), .int], returnType := none }, accessFlags := 10, code := some k1c1 }
def k1c2 : Code := { maxStack := 6, maxLocals := 15, code := code, exceptionTable := #[], attributes := #[] }
def k1m2 : Method := { name := "law", desc := "(IIJJ)Z", sig := { parameters := [.int, .int, .long, .long], returnType := some .boolean }, accessFlags := 9, code := some k1c2 }
/-- com/example/cistern/cistern/ReservoirSamplerSkippablePinLaw -/
def k1 : Class := { plain "com/example/cistern/cistern/ReservoirSamplerSkippablePinLaw" (some 0) with
  accessFlags := 49
  interfaces := #[]
  cf := some (fileOf pool1 35 #[] #[{ accessFlags := 1, nameIndex := 5, descriptorIndex := 6, attributes := #[] }, { accessFlags := 10, nameIndex := 38, descriptorIndex := 39, attributes := #[] }, { accessFlags := 9, nameIndex := 51, descriptorIndex := 52, attributes := #[] }] 49 2 #[] #[])
  fields := #[]
  methods := #[k1m0, k1m1, k1m2]
  instanceTypes := #[]
  staticTypes := #[]
  resolved := Array.replicate 55 none
  statics := none }

def pool2 : Array CpInfo := pool [(4, .nameAndType 5 6), (0, u "<init>"), (0, u "()V"), (2, u "nextLong"), (0, u "()J"), (1, .class_ 14), (1, u "com/example/cistern/cistern/ReservoirSampler"), (0, u "(IJ)V"), (0, .methodref 17 4), (0, .class_ 18), (0, u "java/lang/Object"), (0, .class_ 20), (0, u "java/util/ArrayList"), (0, .methodref 19 4), (0, .fieldref 12 23), (0, .nameAndType 24 25), (0, u "kept"), (0, u "Ljava/util/List;"), (9, .fieldref 12 36), (0, .nameAndType 37 38), (0, u "capacity"), (0, u "I"), (0, .class_ 40), (0, u "com/example/cistern/cistern/SplitMix64"), (0, .methodref 39 42), (0, .nameAndType 5 43), (0, u "(J)V"), (0, .fieldref 12 45), (0, .nameAndType 46 47), (0, u "random"), (0, u "Lcom/example/cistern/cistern/SplitMix64;"), (2, .long 9223372036854775807), (1, .fieldref 12 53), (0, .nameAndType 54 55), (0, u "passOver"), (0, u "J"), (7, .fieldref 12 64), (0, .nameAndType 65 55), (0, u "offered"), (0, .methodref 67 68), (0, .class_ 69), (0, .nameAndType 70 71), (0, u "java/lang/Math"), (0, u "addExact"), (0, u "(JJ)J"), (0, .methodref 67 73), (0, .nameAndType 74 71), (0, u "min"), (0, .methodref 39 76), (0, .nameAndType 9 77), (0, u "(J)J"), (5, .class_ 85), (1, u "java/util/List"), (12, .class_ 99), (0, u "com/example/cistern/cistern/ReservoirSampler$Kept"), (6, .methodref 98 107), (0, .nameAndType 5 108), (0, u "(JLjava/lang/Object;)V"), (0, .interfaceMethodref 83 110), (0, .nameAndType 111 112), (0, u "add"), (0, u "(Ljava/lang/Object;)Z"), (15, .interfaceMethodref 83 129), (0, .nameAndType 130 131), (0, u "size"), (0, u "()I"), (0, .methodref 133 134), (0, .class_ 135), (0, .nameAndType 136 137), (0, u "java/util/Collections"), (0, u "swap"), (0, u "(Ljava/util/List;II)V"), (0, .methodref 12 139), (0, .nameAndType 140 141), (0, u "fill"), (0, u "(Ljava/lang/Object;)V"), (10, .methodref 12 153), (0, .nameAndType 154 10), (0, u "skippable"), (40, u "offer"), (1, u "skip")] 41

def k2c0 : Code := { maxStack := 5, maxLocals := 4, code := prog_1_method_2_code, exceptionTable := #[], attributes := #[] }
def k2m0 : Method := { name := "<init>", desc := "(IJ)V", sig := { parameters := [.int, .long], returnType := none }, accessFlags := 1, code := some k2c0 }
def k2c1 : Code := { maxStack := 5, maxLocals := 2, code := prog_1_method_7_code, exceptionTable := #[], attributes := #[] }
def k2m1 : Method := { name := "offer", desc := "(Ljava/lang/Object;)V", sig := { parameters := [(.object "java/lang/Object")], returnType := none }, accessFlags := 1, code := some k2c1 }
def k2c2 : Code := { maxStack := 6, maxLocals := 2, code := prog_1_method_8_code, exceptionTable := #[], attributes := #[] }
def k2m2 : Method := { name := "fill", desc := "(Ljava/lang/Object;)V", sig := { parameters := [(.object "java/lang/Object")], returnType := none }, accessFlags := 2, code := some k2c2 }
def k2c3 : Code := { maxStack := 6, maxLocals := 1, code := prog_1_method_10_code, exceptionTable := #[], attributes := #[] }
def k2m3 : Method := { name := "skippable", desc := "()J", sig := { parameters := [], returnType := some .long }, accessFlags := 1, code := some k2c3 }
def k2c4 : Code := { maxStack := 6, maxLocals := 3, code := prog_1_method_11_code, exceptionTable := #[], attributes := #[] }
def k2m4 : Method := { name := "skip", desc := "(J)V", sig := { parameters := [.long], returnType := none }, accessFlags := 1, code := some k2c4 }
def k2c5 : Code := { maxStack := 2, maxLocals := 1, code := prog_1_method_16_code, exceptionTable := #[], attributes := #[] }
def k2m5 : Method := { name := "offered", desc := "()J", sig := { parameters := [], returnType := some .long }, accessFlags := 1, code := some k2c5 }
/-- com/example/cistern/cistern/ReservoirSampler -/
def k2 : Class := { plain "com/example/cistern/cistern/ReservoirSampler" (some 0) with
  accessFlags := 49
  interfaces := #[]
  cf := some (fileOf pool2 12 #[.nestMembers #[98]] #[{ accessFlags := 1, nameIndex := 5, descriptorIndex := 15, attributes := #[] }, { accessFlags := 1, nameIndex := 195, descriptorIndex := 141, attributes := #[] }, { accessFlags := 2, nameIndex := 140, descriptorIndex := 141, attributes := #[] }, { accessFlags := 1, nameIndex := 154, descriptorIndex := 10, attributes := #[] }, { accessFlags := 1, nameIndex := 197, descriptorIndex := 43, attributes := #[] }, { accessFlags := 1, nameIndex := 65, descriptorIndex := 10, attributes := #[] }] 49 17 #[] #[{ accessFlags := 18, nameIndex := 37, descriptorIndex := 38, attributes := #[] }, { accessFlags := 18, nameIndex := 46, descriptorIndex := 47, attributes := #[] }, { accessFlags := 18, nameIndex := 24, descriptorIndex := 25, attributes := #[] }, { accessFlags := 2, nameIndex := 65, descriptorIndex := 55, attributes := #[] }, { accessFlags := 2, nameIndex := 54, descriptorIndex := 55, attributes := #[] }])
  fields := #[{ name := "capacity", type := .int, accessFlags := 18, slot := 0, constantValue := 0 }, { name := "random", type := (.object "com/example/cistern/cistern/SplitMix64"), accessFlags := 18, slot := 1, constantValue := 0 }, { name := "kept", type := (.object "java/util/List"), accessFlags := 18, slot := 2, constantValue := 0 }, { name := "offered", type := .long, accessFlags := 2, slot := 3, constantValue := 0 }, { name := "passOver", type := .long, accessFlags := 2, slot := 4, constantValue := 0 }]
  methods := #[k2m0, k2m1, k2m2, k2m3, k2m4, k2m5]
  instanceTypes := #[.int, (.object "com/example/cistern/cistern/SplitMix64"), (.object "java/util/List"), .long, .long]
  staticTypes := #[]
  resolved := Array.replicate 239 none
  statics := none }

def pool3 : Array CpInfo := pool [(8, .class_ 10), (1, u "java/lang/Iterable"), (24, .class_ 36), (0, u "java/lang/Object")] 25

/-- java/lang/Iterable -/
def k3 : Class := { plain "java/lang/Iterable" (some 0) with
  accessFlags := 1537
  interfaces := #[]
  cf := some (fileOf pool3 8 #[] #[] 1537 35 #[] #[])
  fields := #[]
  methods := #[]
  instanceTypes := #[]
  staticTypes := #[]
  resolved := Array.replicate 62 none
  statics := none }

def pool4 : Array CpInfo := pool [(10, .class_ 12), (1, u "java/util/Collection"), (47, .class_ 61), (0, u "java/lang/Object"), (0, .class_ 63), (0, u "java/lang/Iterable")] 51

/-- java/util/Collection -/
def k4 : Class := { plain "java/util/Collection" (some 0) with
  accessFlags := 1537
  interfaces := #[3]
  cf := some (fileOf pool4 10 #[] #[] 1537 60 #[62] #[])
  fields := #[]
  methods := #[]
  instanceTypes := #[]
  staticTypes := #[]
  resolved := Array.replicate 115 none
  statics := none }

def pool5 : Array CpInfo := pool [(1, .methodref 2 3), (0, .class_ 4), (0, .nameAndType 5 6), (0, u "java/lang/Object"), (0, u "<init>"), (0, u "()V"), (1, .class_ 10), (1, u "java/util/AbstractCollection"), (66, .class_ 78), (0, u "java/util/Collection")] 81

def k5c0 : Code := { maxStack := 1, maxLocals := 1, code := jdk_22_method_1_code, exceptionTable := #[], attributes := #[] }
def k5m0 : Method := { name := "<init>", desc := "()V", sig := { parameters := [], returnType := none }, accessFlags := 4, code := some k5c0 }
/-- java/util/AbstractCollection -/
def k5 : Class := { plain "java/util/AbstractCollection" (some 0) with
  accessFlags := 1057
  interfaces := #[4]
  cf := some (fileOf pool5 8 #[] #[{ accessFlags := 4, nameIndex := 5, descriptorIndex := 6, attributes := #[] }] 1057 2 #[77] #[])
  fields := #[]
  methods := #[k5m0]
  instanceTypes := #[]
  staticTypes := #[]
  resolved := Array.replicate 160 none
  statics := none }

def pool6 : Array CpInfo := pool [(8, .class_ 10), (1, u "java/util/SequencedCollection"), (15, .class_ 27), (0, u "java/lang/Object"), (0, .class_ 29), (0, u "java/util/Collection")] 27

/-- java/util/SequencedCollection -/
def k6 : Class := { plain "java/util/SequencedCollection" (some 0) with
  accessFlags := 1537
  interfaces := #[4]
  cf := some (fileOf pool6 8 #[] #[] 1537 26 #[28] #[])
  fields := #[]
  methods := #[]
  instanceTypes := #[]
  staticTypes := #[]
  resolved := Array.replicate 57 none
  statics := none }

def pool7 : Array CpInfo := pool [(8, .class_ 10), (1, u "java/util/List"), (19, u "set"), (29, u "add"), (3, u "(Ljava/lang/Object;)Z"), (10, u "get"), (0, u "(I)Ljava/lang/Object;"), (2, u "size"), (0, u "()I"), (22, .class_ 104), (0, u "java/lang/Object"), (15, .class_ 121), (0, u "java/util/SequencedCollection"), (51, u "(ILjava/lang/Object;)Ljava/lang/Object;")] 77

def k7m0 : Method := { name := "size", desc := "()I", sig := { parameters := [], returnType := some .int }, accessFlags := 1025, code := none }
def k7m1 : Method := { name := "add", desc := "(Ljava/lang/Object;)Z", sig := { parameters := [(.object "java/lang/Object")], returnType := some .boolean }, accessFlags := 1025, code := none }
def k7m2 : Method := { name := "get", desc := "(I)Ljava/lang/Object;", sig := { parameters := [.int], returnType := some (.object "java/lang/Object") }, accessFlags := 1025, code := none }
def k7m3 : Method := { name := "set", desc := "(ILjava/lang/Object;)Ljava/lang/Object;", sig := { parameters := [.int, (.object "java/lang/Object")], returnType := some (.object "java/lang/Object") }, accessFlags := 1025, code := none }
/-- java/util/List -/
def k7 : Class := { plain "java/util/List" (some 0) with
  accessFlags := 1537
  interfaces := #[6]
  cf := some (fileOf pool7 8 #[] #[{ accessFlags := 1025, nameIndex := 79, descriptorIndex := 80, attributes := #[] }, { accessFlags := 1025, nameIndex := 60, descriptorIndex := 64, attributes := #[] }, { accessFlags := 1025, nameIndex := 75, descriptorIndex := 76, attributes := #[] }, { accessFlags := 1025, nameIndex := 30, descriptorIndex := 173, attributes := #[] }] 1537 103 #[120] #[])
  fields := #[]
  methods := #[k7m0, k7m1, k7m2, k7m3]
  instanceTypes := #[]
  staticTypes := #[]
  resolved := Array.replicate 251 none
  statics := none }

def pool8 : Array CpInfo := pool [(1, .methodref 2 3), (0, .class_ 4), (0, .nameAndType 5 6), (0, u "java/util/AbstractCollection"), (0, u "<init>"), (0, u "()V"), (0, .fieldref 8 9), (0, .class_ 10), (0, .nameAndType 11 12), (0, u "java/util/AbstractList"), (0, u "modCount"), (0, u "I"), (64, .class_ 78), (0, u "java/util/AbstractList$Itr"), (3, .class_ 83), (0, u "java/util/AbstractList$ListItr"), (9, .class_ 94), (0, u "java/util/AbstractList$RandomAccessSubList"), (3, .class_ 99), (0, u "java/util/AbstractList$SubList"), (33, .class_ 134), (0, u "java/util/List"), (73, .class_ 209), (0, u "java/util/AbstractList$SubList$1"), (0, .class_ 211), (0, u "java/util/AbstractList$RandomAccessSpliterator")] 6

def k8c0 : Code := { maxStack := 2, maxLocals := 1, code := jdk_39_method_1_code, exceptionTable := #[], attributes := #[] }
def k8m0 : Method := { name := "<init>", desc := "()V", sig := { parameters := [], returnType := none }, accessFlags := 4, code := some k8c0 }
/-- java/util/AbstractList -/
def k8 : Class := { plain "java/util/AbstractList" (some 5) with
  accessFlags := 1057
  interfaces := #[7]
  cf := some (fileOf pool8 8 #[.nestMembers #[93, 98, 208, 210, 82, 77]] #[{ accessFlags := 4, nameIndex := 5, descriptorIndex := 6, attributes := #[] }] 1057 2 #[133] #[{ accessFlags := 132, nameIndex := 11, descriptorIndex := 12, attributes := #[] }])
  fields := #[{ name := "modCount", type := .int, accessFlags := 132, slot := 0, constantValue := 0 }]
  methods := #[k8m0]
  instanceTypes := #[.int]
  staticTypes := #[]
  resolved := Array.replicate 218 none
  statics := none }

def pool9 : Array CpInfo := pool [(1, .class_ 2), (0, u "java/util/RandomAccess"), (0, .class_ 4), (0, u "java/lang/Object")] 2

/-- java/util/RandomAccess -/
def k9 : Class := { plain "java/util/RandomAccess" (some 0) with
  accessFlags := 1537
  interfaces := #[]
  cf := some (fileOf pool9 1 #[] #[] 1537 3 #[] #[])
  fields := #[]
  methods := #[]
  instanceTypes := #[]
  staticTypes := #[]
  resolved := Array.replicate 7 none
  statics := none }

def pool10 : Array CpInfo := pool [(1, .class_ 2), (0, u "java/lang/Cloneable"), (0, .class_ 4), (0, u "java/lang/Object")] 2

/-- java/lang/Cloneable -/
def k10 : Class := { plain "java/lang/Cloneable" (some 0) with
  accessFlags := 1537
  interfaces := #[]
  cf := some (fileOf pool10 1 #[] #[] 1537 3 #[] #[])
  fields := #[]
  methods := #[]
  instanceTypes := #[]
  staticTypes := #[]
  resolved := Array.replicate 7 none
  statics := none }

def pool11 : Array CpInfo := pool [(1, .class_ 2), (0, u "java/io/Serializable"), (0, .class_ 4), (0, u "java/lang/Object")] 2

/-- java/io/Serializable -/
def k11 : Class := { plain "java/io/Serializable" (some 0) with
  accessFlags := 1537
  interfaces := #[]
  cf := some (fileOf pool11 1 #[] #[] 1537 3 #[] #[])
  fields := #[]
  methods := #[]
  instanceTypes := #[]
  staticTypes := #[]
  resolved := Array.replicate 7 none
  statics := none }

def pool12 : Array CpInfo := pool [(1, .methodref 2 3), (0, .class_ 4), (0, .nameAndType 5 6), (0, u "java/util/AbstractList"), (0, u "<init>"), (0, u "()V"), (0, .class_ 8), (0, u "java/lang/Object"), (0, .fieldref 10 11), (0, .class_ 12), (0, .nameAndType 13 14), (0, u "java/util/ArrayList"), (0, u "elementData"), (0, u "[Ljava/lang/Object;"), (2, u "EMPTY_ELEMENTDATA"), (21, .fieldref 10 40), (0, .nameAndType 41 14), (0, u "DEFAULTCAPACITY_EMPTY_ELEMENTDATA"), (5, u "()[Ljava/lang/Object;"), (0, .fieldref 10 49), (0, .nameAndType 50 51), (0, u "size"), (0, u "I"), (11, .fieldref 10 64), (0, .nameAndType 65 51), (0, u "modCount"), (3, .methodref 10 70), (0, .nameAndType 71 72), (0, u "grow"), (0, u "(I)[Ljava/lang/Object;"), (6, .methodref 80 81), (0, .class_ 82), (0, .nameAndType 83 84), (0, u "java/lang/Math"), (0, u "max"), (0, u "(II)I"), (11, u "(Ljava/lang/Object;)Z"), (21, .methodref 119 120), (0, .class_ 121), (0, .nameAndType 122 84), (0, u "java/util/Objects"), (0, u "checkIndex"), (0, .methodref 10 124), (0, .nameAndType 13 125), (0, u "(I)Ljava/lang/Object;"), (3, .methodref 10 130), (0, .nameAndType 71 47), (0, .methodref 10 132), (0, .nameAndType 133 134), (0, u "add"), (0, u "(Ljava/lang/Object;[Ljava/lang/Object;I)V"), (13, .class_ 149), (0, u "java/util/List"), (36, u "()I"), (75, .class_ 263), (0, u "java/util/ArrayList$ListItr"), (3, .class_ 268), (0, u "java/util/ArrayList$Itr"), (7, .class_ 277), (0, u "java/util/ArrayList$SubList"), (12, .class_ 291), (0, u "java/util/ArrayList$ArrayListSpliterator"), (37, .class_ 330), (0, u "java/util/RandomAccess"), (0, .class_ 332), (0, u "java/lang/Cloneable"), (0, .class_ 334), (0, u "java/io/Serializable"), (0, u "serialVersionUID"), (0, u "J"), (3, u "DEFAULT_CAPACITY"), (40, u "get"), (4, u "set"), (0, u "(ILjava/lang/Object;)Ljava/lang/Object;"), (112, .class_ 501), (0, u "java/util/ArrayList$SubList$2"), (0, .class_ 503), (0, u "java/util/ArrayList$SubList$1")] 5

def k12c0 : Code := { maxStack := 2, maxLocals := 1, code := jdk_38_method_2_code, exceptionTable := #[], attributes := #[] }
def k12m0 : Method := { name := "<init>", desc := "()V", sig := { parameters := [], returnType := none }, accessFlags := 1, code := some k12c0 }
def k12c1 : Code := { maxStack := 4, maxLocals := 4, code := jdk_38_method_6_code, exceptionTable := #[], attributes := #[] }
def k12m1 : Method := { name := "grow", desc := "(I)[Ljava/lang/Object;", sig := { parameters := [.int], returnType := some (.array (.object "java/lang/Object")) }, accessFlags := 2, code := some k12c1 }
def k12c2 : Code := { maxStack := 3, maxLocals := 1, code := jdk_38_method_7_code, exceptionTable := #[], attributes := #[] }
def k12m2 : Method := { name := "grow", desc := "()[Ljava/lang/Object;", sig := { parameters := [], returnType := some (.array (.object "java/lang/Object")) }, accessFlags := 2, code := some k12c2 }
def k12c3 : Code := { maxStack := 1, maxLocals := 1, code := jdk_38_method_8_code, exceptionTable := #[], attributes := #[] }
def k12m3 : Method := { name := "size", desc := "()I", sig := { parameters := [], returnType := some .int }, accessFlags := 1, code := some k12c3 }
def k12c4 : Code := { maxStack := 2, maxLocals := 2, code := jdk_38_method_18_code, exceptionTable := #[], attributes := #[] }
def k12m4 : Method := { name := "elementData", desc := "(I)Ljava/lang/Object;", sig := { parameters := [.int], returnType := some (.object "java/lang/Object") }, accessFlags := 0, code := some k12c4 }
def k12c5 : Code := { maxStack := 2, maxLocals := 2, code := jdk_38_method_20_code, exceptionTable := #[], attributes := #[] }
def k12m5 : Method := { name := "get", desc := "(I)Ljava/lang/Object;", sig := { parameters := [.int], returnType := some (.object "java/lang/Object") }, accessFlags := 1, code := some k12c5 }
def k12c6 : Code := { maxStack := 3, maxLocals := 4, code := jdk_38_method_23_code, exceptionTable := #[], attributes := #[] }
def k12m6 : Method := { name := "set", desc := "(ILjava/lang/Object;)Ljava/lang/Object;", sig := { parameters := [.int, (.object "java/lang/Object")], returnType := some (.object "java/lang/Object") }, accessFlags := 1, code := some k12c6 }
def k12c7 : Code := { maxStack := 3, maxLocals := 4, code := jdk_38_method_24_code, exceptionTable := #[], attributes := #[] }
def k12m7 : Method := { name := "add", desc := "(Ljava/lang/Object;[Ljava/lang/Object;I)V", sig := { parameters := [(.object "java/lang/Object"), (.array (.object "java/lang/Object")), .int], returnType := none }, accessFlags := 2, code := some k12c7 }
def k12c8 : Code := { maxStack := 4, maxLocals := 2, code := jdk_38_method_25_code, exceptionTable := #[], attributes := #[] }
def k12m8 : Method := { name := "add", desc := "(Ljava/lang/Object;)Z", sig := { parameters := [(.object "java/lang/Object")], returnType := some .boolean }, accessFlags := 1, code := some k12c8 }
/-- java/util/ArrayList -/
def k12 : Class := { plain "java/util/ArrayList" (some 8) with
  accessFlags := 33
  interfaces := #[7, 9, 10, 11]
  cf := some (fileOf pool12 10 #[.nestMembers #[290, 276, 500, 502, 262, 267]] #[{ accessFlags := 1, nameIndex := 5, descriptorIndex := 6, attributes := #[] }, { accessFlags := 2, nameIndex := 71, descriptorIndex := 72, attributes := #[] }, { accessFlags := 2, nameIndex := 71, descriptorIndex := 47, attributes := #[] }, { accessFlags := 1, nameIndex := 50, descriptorIndex := 186, attributes := #[] }, { accessFlags := 0, nameIndex := 13, descriptorIndex := 125, attributes := #[] }, { accessFlags := 1, nameIndex := 381, descriptorIndex := 125, attributes := #[] }, { accessFlags := 1, nameIndex := 386, descriptorIndex := 387, attributes := #[] }, { accessFlags := 2, nameIndex := 133, descriptorIndex := 134, attributes := #[] }, { accessFlags := 1, nameIndex := 133, descriptorIndex := 96, attributes := #[] }] 33 2 #[148, 329, 331, 333] #[{ accessFlags := 26, nameIndex := 335, descriptorIndex := 336, attributes := #[] }, { accessFlags := 26, nameIndex := 340, descriptorIndex := 51, attributes := #[] }, { accessFlags := 26, nameIndex := 17, descriptorIndex := 14, attributes := #[] }, { accessFlags := 26, nameIndex := 41, descriptorIndex := 14, attributes := #[] }, { accessFlags := 128, nameIndex := 13, descriptorIndex := 14, attributes := #[] }, { accessFlags := 2, nameIndex := 50, descriptorIndex := 51, attributes := #[] }])
  fields := #[{ name := "serialVersionUID", type := .long, accessFlags := 26, slot := 0, constantValue := 0 }, { name := "DEFAULT_CAPACITY", type := .int, accessFlags := 26, slot := 1, constantValue := 0 }, { name := "EMPTY_ELEMENTDATA", type := (.array (.object "java/lang/Object")), accessFlags := 26, slot := 2, constantValue := 0 }, { name := "DEFAULTCAPACITY_EMPTY_ELEMENTDATA", type := (.array (.object "java/lang/Object")), accessFlags := 26, slot := 3, constantValue := 0 }, { name := "elementData", type := (.array (.object "java/lang/Object")), accessFlags := 128, slot := 1, constantValue := 0 }, { name := "size", type := .int, accessFlags := 2, slot := 2, constantValue := 0 }]
  methods := #[k12m0, k12m1, k12m2, k12m3, k12m4, k12m5, k12m6, k12m7, k12m8]
  instanceTypes := #[.int, (.array (.object "java/lang/Object")), .int]
  staticTypes := #[.long, .int, (.array (.object "java/lang/Object")), (.array (.object "java/lang/Object"))]
  resolved := Array.replicate 509 none
  statics := some 0 }

def pool13 : Array CpInfo := pool [(1, .methodref 2 3), (0, .class_ 4), (0, .nameAndType 5 6), (0, u "java/lang/Object"), (0, u "<init>"), (0, u "()V"), (0, .fieldref 8 9), (0, .class_ 10), (0, .nameAndType 11 12), (0, u "com/example/cistern/cistern/SplitMix64"), (0, u "state"), (0, u "J"), (0, .long 11400714819323198485), (1, .long 13787848793156543929), (1, .long 10723151780598845931), (3, .long 9223372036854775807), (1, .methodref 8 24), (0, .nameAndType 25 26), (0, u "nextLong"), (0, u "()J"), (89, u "GOLDEN_GAMMA"), (1, u "ROUNDING_MARGIN"), (0, u "D"), (2, u "(J)V"), (2, u "(J)J")] 7

def k13c0 : Code := { maxStack := 3, maxLocals := 3, code := prog_4_method_1_code, exceptionTable := #[], attributes := #[] }
def k13m0 : Method := { name := "<init>", desc := "(J)V", sig := { parameters := [.long], returnType := none }, accessFlags := 0, code := some k13c0 }
def k13c1 : Code := { maxStack := 5, maxLocals := 3, code := prog_4_method_2_code, exceptionTable := #[], attributes := #[] }
def k13m1 : Method := { name := "nextLong", desc := "()J", sig := { parameters := [], returnType := some .long }, accessFlags := 0, code := some k13c1 }
def k13c2 : Code := { maxStack := 6, maxLocals := 7, code := prog_4_method_3_code, exceptionTable := #[], attributes := #[] }
def k13m2 : Method := { name := "nextLong", desc := "(J)J", sig := { parameters := [.long], returnType := some .long }, accessFlags := 0, code := some k13c2 }
/-- com/example/cistern/cistern/SplitMix64 -/
def k13 : Class := { plain "com/example/cistern/cistern/SplitMix64" (some 0) with
  accessFlags := 32
  interfaces := #[]
  cf := some (fileOf pool13 8 #[] #[{ accessFlags := 0, nameIndex := 5, descriptorIndex := 122, attributes := #[] }, { accessFlags := 0, nameIndex := 25, descriptorIndex := 26, attributes := #[] }, { accessFlags := 0, nameIndex := 25, descriptorIndex := 125, attributes := #[] }] 32 2 #[] #[{ accessFlags := 26, nameIndex := 116, descriptorIndex := 12, attributes := #[] }, { accessFlags := 26, nameIndex := 118, descriptorIndex := 119, attributes := #[] }, { accessFlags := 2, nameIndex := 11, descriptorIndex := 12, attributes := #[] }])
  fields := #[{ name := "GOLDEN_GAMMA", type := .long, accessFlags := 26, slot := 0, constantValue := 0 }, { name := "ROUNDING_MARGIN", type := .double, accessFlags := 26, slot := 1, constantValue := 0 }, { name := "state", type := .long, accessFlags := 2, slot := 0, constantValue := 0 }]
  methods := #[k13m0, k13m1, k13m2]
  instanceTypes := #[.long]
  staticTypes := #[.long, .double]
  resolved := Array.replicate 133 none
  statics := none }

def pool14 : Array CpInfo := pool [(1, .class_ 2), (0, u "java/lang/Math"), (1, .class_ 6), (1, u "java/lang/Object"), (0, u "<init>"), (0, u "()V"), (89, .class_ 100), (1, u "java/lang/Math$RandomNumberGeneratorHolder"), (20, u "(JJ)J"), (50, u "negativeZeroFloatBits"), (0, u "J"), (2, u "negativeZeroDoubleBits"), (21, u "max"), (2, u "min"), (43, u "$assertionsDisabled"), (0, u "Z"), (88, u "(II)I"), (2, u "twoToTheDoubleScaleDown"), (0, u "D"), (4, u "twoToTheDoubleScaleUp"), (9, u "E"), (3, u "PI"), (2, u "TAU"), (2, u "DEGREES_TO_RADIANS"), (0, u "RADIANS_TO_DEGREES"), (27, u "addExact")] 66

def k14m0 : Method := { name := "<init>", desc := "()V", sig := { parameters := [], returnType := none }, accessFlags := 2, code := none }
def k14c1 : Code := { maxStack := 6, maxLocals := 6, code := jdk_29_method_25_code, exceptionTable := #[], attributes := #[] }
def k14m1 : Method := { name := "addExact", desc := "(JJ)J", sig := { parameters := [.long, .long], returnType := some .long }, accessFlags := 9, code := some k14c1 }
def k14c2 : Code := { maxStack := 2, maxLocals := 2, code := jdk_29_method_65_code, exceptionTable := #[], attributes := #[] }
def k14m2 : Method := { name := "max", desc := "(II)I", sig := { parameters := [.int, .int], returnType := some .int }, accessFlags := 9, code := some k14c2 }
def k14c3 : Code := { maxStack := 2, maxLocals := 2, code := jdk_29_method_69_code, exceptionTable := #[], attributes := #[] }
def k14m3 : Method := { name := "min", desc := "(II)I", sig := { parameters := [.int, .int], returnType := some .int }, accessFlags := 9, code := some k14c3 }
def k14c4 : Code := { maxStack := 4, maxLocals := 4, code := jdk_29_method_70_code, exceptionTable := #[], attributes := #[] }
def k14m4 : Method := { name := "min", desc := "(JJ)J", sig := { parameters := [.long, .long], returnType := some .long }, accessFlags := 9, code := some k14c4 }
/-- java/lang/Math -/
def k14 : Class := { plain "java/lang/Math" (some 0) with
  accessFlags := 49
  interfaces := #[]
  cf := some (fileOf pool14 1 #[.nestMembers #[98]] #[{ accessFlags := 2, nameIndex := 7, descriptorIndex := 8, attributes := #[] }, { accessFlags := 9, nameIndex := 393, descriptorIndex := 121, attributes := #[] }, { accessFlags := 9, nameIndex := 198, descriptorIndex := 335, attributes := #[] }, { accessFlags := 9, nameIndex := 201, descriptorIndex := 335, attributes := #[] }, { accessFlags := 9, nameIndex := 201, descriptorIndex := 121, attributes := #[] }] 49 4 #[] #[{ accessFlags := 25, nameIndex := 354, descriptorIndex := 339, attributes := #[] }, { accessFlags := 25, nameIndex := 358, descriptorIndex := 339, attributes := #[] }, { accessFlags := 25, nameIndex := 361, descriptorIndex := 339, attributes := #[] }, { accessFlags := 26, nameIndex := 364, descriptorIndex := 339, attributes := #[] }, { accessFlags := 26, nameIndex := 365, descriptorIndex := 339, attributes := #[] }, { accessFlags := 26, nameIndex := 172, descriptorIndex := 173, attributes := #[] }, { accessFlags := 26, nameIndex := 176, descriptorIndex := 173, attributes := #[] }, { accessFlags := 8, nameIndex := 344, descriptorIndex := 339, attributes := #[] }, { accessFlags := 8, nameIndex := 338, descriptorIndex := 339, attributes := #[] }, { accessFlags := 4120, nameIndex := 245, descriptorIndex := 246, attributes := #[] }])
  fields := #[{ name := "E", type := .double, accessFlags := 25, slot := 0, constantValue := 0 }, { name := "PI", type := .double, accessFlags := 25, slot := 1, constantValue := 0 }, { name := "TAU", type := .double, accessFlags := 25, slot := 2, constantValue := 0 }, { name := "DEGREES_TO_RADIANS", type := .double, accessFlags := 26, slot := 3, constantValue := 0 }, { name := "RADIANS_TO_DEGREES", type := .double, accessFlags := 26, slot := 4, constantValue := 0 }, { name := "negativeZeroFloatBits", type := .long, accessFlags := 26, slot := 5, constantValue := 0 }, { name := "negativeZeroDoubleBits", type := .long, accessFlags := 26, slot := 6, constantValue := 0 }, { name := "twoToTheDoubleScaleUp", type := .double, accessFlags := 8, slot := 7, constantValue := 0 }, { name := "twoToTheDoubleScaleDown", type := .double, accessFlags := 8, slot := 8, constantValue := 0 }, { name := "$assertionsDisabled", type := .boolean, accessFlags := 4120, slot := 9, constantValue := 0 }]
  methods := #[k14m0, k14m1, k14m2, k14m3, k14m4]
  instanceTypes := #[]
  staticTypes := #[.double, .double, .double, .double, .double, .long, .long, .double, .double, .boolean]
  resolved := Array.replicate 460 none
  statics := none }

def pool15 : Array CpInfo := pool [(1, .methodref 2 3), (0, .class_ 4), (0, .nameAndType 5 6), (0, u "java/lang/Object"), (0, u "<init>"), (0, u "()V"), (0, .methodref 8 9), (0, .class_ 10), (0, .nameAndType 11 12), (0, u "com/example/cistern/cistern/ReservoirSampler$Kept"), (0, u "set"), (0, u "(JLjava/lang/Object;)V"), (0, .fieldref 8 14), (0, .nameAndType 15 16), (0, u "position"), (0, u "J"), (0, .fieldref 8 18), (0, .nameAndType 19 20), (0, u "item"), (0, u "Ljava/lang/Object;"), (12, .class_ 34), (0, u "com/example/cistern/cistern/ReservoirSampler")] 2

def k15c0 : Code := { maxStack := 4, maxLocals := 4, code := prog_2_method_1_code, exceptionTable := #[], attributes := #[] }
def k15m0 : Method := { name := "<init>", desc := "(JLjava/lang/Object;)V", sig := { parameters := [.long, (.object "java/lang/Object")], returnType := none }, accessFlags := 0, code := some k15c0 }
def k15c1 : Code := { maxStack := 3, maxLocals := 4, code := prog_2_method_2_code, exceptionTable := #[], attributes := #[] }
def k15m1 : Method := { name := "set", desc := "(JLjava/lang/Object;)V", sig := { parameters := [.long, (.object "java/lang/Object")], returnType := none }, accessFlags := 0, code := some k15c1 }
/-- com/example/cistern/cistern/ReservoirSampler$Kept -/
def k15 : Class := { plain "com/example/cistern/cistern/ReservoirSampler$Kept" (some 0) with
  accessFlags := 48
  interfaces := #[]
  cf := some (fileOf pool15 8 #[.nestHost 33] #[{ accessFlags := 0, nameIndex := 5, descriptorIndex := 12, attributes := #[] }, { accessFlags := 0, nameIndex := 11, descriptorIndex := 12, attributes := #[] }] 48 2 #[] #[{ accessFlags := 2, nameIndex := 15, descriptorIndex := 16, attributes := #[] }, { accessFlags := 2, nameIndex := 19, descriptorIndex := 20, attributes := #[] }])
  fields := #[{ name := "position", type := .long, accessFlags := 2, slot := 0, constantValue := 0 }, { name := "item", type := (.object "java/lang/Object"), accessFlags := 2, slot := 1, constantValue := 0 }]
  methods := #[k15m0, k15m1]
  instanceTypes := #[.long, (.object "java/lang/Object")]
  staticTypes := #[]
  resolved := Array.replicate 37 none
  statics := none }

def pool16 : Array CpInfo := pool [(2, .class_ 4), (1, u "java/lang/Object"), (0, u "<init>"), (0, u "()V"), (1, .class_ 10), (1, u "java/util/List"), (8, .class_ 20), (0, u "java/util/Collections"), (7, .interfaceMethodref 8 29), (0, .nameAndType 30 31), (0, u "get"), (0, u "(I)Ljava/lang/Object;"), (41, u "swap"), (0, u "(Ljava/util/List;II)V"), (5, u "set"), (3, u "r"), (0, u "Ljava/util/Random;"), (23, .interfaceMethodref 8 110), (0, .nameAndType 80 111), (0, u "(ILjava/lang/Object;)Ljava/lang/Object;"), (54, .class_ 167), (0, u "java/util/Collections$UnmodifiableCollection"), (6, .class_ 175), (0, u "java/util/Collections$UnmodifiableSequencedCollection"), (6, .class_ 183), (0, u "java/util/Collections$UnmodifiableSet"), (6, .class_ 191), (0, u "java/util/Collections$UnmodifiableSequencedSet"), (6, .class_ 199), (0, u "java/util/Collections$UnmodifiableSortedSet"), (6, .class_ 207), (0, u "java/util/Collections$UnmodifiableNavigableSet"), (4, .class_ 213), (0, u "java/util/Collections$UnmodifiableList"), (1, .class_ 216), (0, u "java/util/Collections$UnmodifiableRandomAccessList"), (6, .class_ 224), (0, u "java/util/Collections$UnmodifiableMap"), (6, .class_ 232), (0, u "java/util/Collections$UnmodifiableSequencedMap"), (4, .class_ 238), (0, u "java/util/Collections$UnmodifiableSortedMap"), (6, .class_ 246), (0, u "java/util/Collections$UnmodifiableNavigableMap"), (3, .class_ 251), (0, u "java/util/Collections$SynchronizedCollection"), (4, .class_ 257), (0, u "java/util/Collections$SynchronizedSet"), (4, .class_ 263), (0, u "java/util/Collections$SynchronizedSortedSet"), (1, .class_ 266), (0, u "java/util/Collections$SynchronizedNavigableSet"), (1, .class_ 269), (0, u "java/util/Collections$SynchronizedRandomAccessList"), (1, .class_ 272), (0, u "java/util/Collections$SynchronizedList"), (5, .class_ 279), (0, u "java/util/Collections$SynchronizedMap"), (1, .class_ 282), (0, u "java/util/Collections$SynchronizedSortedMap"), (1, .class_ 285), (0, u "java/util/Collections$SynchronizedNavigableMap"), (1, .class_ 288), (0, u "java/util/Collections$CheckedCollection"), (11, .class_ 301), (0, u "java/util/Collections$CheckedQueue"), (3, .class_ 306), (0, u "java/util/Collections$CheckedSet"), (3, .class_ 311), (0, u "java/util/Collections$CheckedSortedSet"), (3, .class_ 316), (0, u "java/util/Collections$CheckedNavigableSet"), (3, .class_ 321), (0, u "java/util/Collections$CheckedRandomAccessList"), (3, .class_ 326), (0, u "java/util/Collections$CheckedList"), (1, .class_ 329), (0, u "java/util/Collections$CheckedMap"), (3, .class_ 334), (0, u "java/util/Collections$CheckedSortedMap"), (3, .class_ 339), (0, u "java/util/Collections$CheckedNavigableMap"), (4, .class_ 346), (1, u "java/util/Collections$EmptyIterator"), (3, .class_ 352), (1, u "java/util/Collections$EmptyListIterator"), (2, .class_ 357), (1, u "java/util/Collections$EmptyEnumeration"), (4, u "EMPTY_SET"), (0, u "Ljava/util/Set;"), (6, u "EMPTY_LIST"), (0, u "Ljava/util/List;"), (2, u "EMPTY_MAP"), (0, u "Ljava/util/Map;"), (4, .class_ 381), (0, u "java/util/Collections$SingletonSet"), (2, .class_ 385), (0, u "java/util/Collections$1"), (1, .class_ 388), (0, u "java/util/Collections$2"), (1, .class_ 391), (0, u "java/util/Collections$SingletonList"), (1, .class_ 394), (0, u "java/util/Collections$SingletonMap"), (22, .class_ 418), (0, u "java/util/Collections$CopiesList"), (4, .class_ 425), (1, u "java/util/Collections$ReverseComparator"), (8, .class_ 435), (0, u "java/util/Collections$ReverseComparator2"), (6, .class_ 443), (0, u "java/util/Collections$3"), (25, .class_ 470), (0, u "java/util/Collections$SetFromMap"), (2, .class_ 474), (0, u "java/util/Collections$SequencedSetFromMap"), (3, .class_ 479), (0, u "java/util/Collections$AsLIFOQueue"), (11, .class_ 492), (0, u "java/util/Collections$EmptySet"), (1, .class_ 495), (0, u "java/util/Collections$EmptyList"), (1, .class_ 498), (0, u "java/util/Collections$EmptyMap"), (1, u "BINARYSEARCH_THRESHOLD"), (0, u "I"), (2, u "REVERSE_THRESHOLD"), (1, u "SHUFFLE_THRESHOLD"), (1, u "FILL_THRESHOLD"), (1, u "ROTATE_THRESHOLD"), (1, u "COPY_THRESHOLD"), (1, u "REPLACEALL_THRESHOLD"), (1, u "INDEXOFSUBLIST_THRESHOLD"), (333, .class_ 851), (0, u "java/util/Collections$CheckedMap$CheckedEntrySet"), (0, .class_ 853), (0, u "java/util/Collections$CheckedMap$CheckedEntrySet$CheckedEntry"), (0, .class_ 855), (0, u "java/util/Collections$CheckedMap$CheckedEntrySet$1"), (0, .class_ 857), (0, u "java/util/Collections$CheckedList$1"), (0, .class_ 859), (0, u "java/util/Collections$CheckedCollection$1"), (0, .class_ 861), (0, u "java/util/Collections$UnmodifiableNavigableMap$EmptyNavigableMap"), (0, .class_ 863), (0, u "java/util/Collections$UnmodifiableMap$UnmodifiableEntrySet"), (0, .class_ 865), (0, u "java/util/Collections$UnmodifiableMap$UnmodifiableEntrySet$UnmodifiableEntry"), (0, .class_ 867), (0, u "java/util/Collections$UnmodifiableMap$UnmodifiableEntrySet$UnmodifiableEntrySetSpliterator"), (0, .class_ 869), (0, u "java/util/Collections$UnmodifiableMap$UnmodifiableEntrySet$1"), (0, .class_ 871), (0, u "java/util/Collections$UnmodifiableList$1"), (0, .class_ 873), (0, u "java/util/Collections$UnmodifiableNavigableSet$EmptyNavigableSet"), (0, .class_ 875), (0, u "java/util/Collections$UnmodifiableCollection$1")] 57

def k16m0 : Method := { name := "<init>", desc := "()V", sig := { parameters := [], returnType := none }, accessFlags := 2, code := none }
def k16c1 : Code := { maxStack := 6, maxLocals := 4, code := jdk_79_method_15_code, exceptionTable := #[], attributes := #[] }
def k16m1 : Method := { name := "swap", desc := "(Ljava/util/List;II)V", sig := { parameters := [(.object "java/util/List"), .int, .int], returnType := none }, accessFlags := 9, code := some k16c1 }
/-- java/util/Collections -/
def k16 : Class := { plain "java/util/Collections" (some 0) with
  accessFlags := 33
  interfaces := #[]
  cf := some (fileOf pool16 19 #[.nestMembers #[478, 473, 469, 434, 423, 417, 393, 390, 380, 497, 494, 491, 355, 350, 344, 338, 333, 328, 850, 852, 854, 320, 325, 856, 315, 310, 305, 300, 287, 858, 284, 281, 278, 268, 271, 265, 262, 256, 250, 245, 860, 237, 231, 223, 862, 864, 866, 868, 215, 212, 870, 206, 872, 198, 190, 182, 174, 166, 874, 442, 387, 384]] #[{ accessFlags := 2, nameIndex := 5, descriptorIndex := 6, attributes := #[] }, { accessFlags := 9, nameIndex := 73, descriptorIndex := 74, attributes := #[] }] 33 2 #[] #[{ accessFlags := 26, nameIndex := 500, descriptorIndex := 501, attributes := #[] }, { accessFlags := 26, nameIndex := 504, descriptorIndex := 501, attributes := #[] }, { accessFlags := 26, nameIndex := 506, descriptorIndex := 501, attributes := #[] }, { accessFlags := 26, nameIndex := 508, descriptorIndex := 501, attributes := #[] }, { accessFlags := 26, nameIndex := 510, descriptorIndex := 501, attributes := #[] }, { accessFlags := 26, nameIndex := 512, descriptorIndex := 501, attributes := #[] }, { accessFlags := 26, nameIndex := 514, descriptorIndex := 501, attributes := #[] }, { accessFlags := 26, nameIndex := 516, descriptorIndex := 501, attributes := #[] }, { accessFlags := 10, nameIndex := 84, descriptorIndex := 85, attributes := #[] }, { accessFlags := 25, nameIndex := 362, descriptorIndex := 363, attributes := #[] }, { accessFlags := 25, nameIndex := 370, descriptorIndex := 371, attributes := #[] }, { accessFlags := 25, nameIndex := 374, descriptorIndex := 375, attributes := #[] }])
  fields := #[{ name := "BINARYSEARCH_THRESHOLD", type := .int, accessFlags := 26, slot := 0, constantValue := 0 }, { name := "REVERSE_THRESHOLD", type := .int, accessFlags := 26, slot := 1, constantValue := 0 }, { name := "SHUFFLE_THRESHOLD", type := .int, accessFlags := 26, slot := 2, constantValue := 0 }, { name := "FILL_THRESHOLD", type := .int, accessFlags := 26, slot := 3, constantValue := 0 }, { name := "ROTATE_THRESHOLD", type := .int, accessFlags := 26, slot := 4, constantValue := 0 }, { name := "COPY_THRESHOLD", type := .int, accessFlags := 26, slot := 5, constantValue := 0 }, { name := "REPLACEALL_THRESHOLD", type := .int, accessFlags := 26, slot := 6, constantValue := 0 }, { name := "INDEXOFSUBLIST_THRESHOLD", type := .int, accessFlags := 26, slot := 7, constantValue := 0 }, { name := "r", type := (.object "java/util/Random"), accessFlags := 10, slot := 8, constantValue := 0 }, { name := "EMPTY_SET", type := (.object "java/util/Set"), accessFlags := 25, slot := 9, constantValue := 0 }, { name := "EMPTY_LIST", type := (.object "java/util/List"), accessFlags := 25, slot := 10, constantValue := 0 }, { name := "EMPTY_MAP", type := (.object "java/util/Map"), accessFlags := 25, slot := 11, constantValue := 0 }]
  methods := #[k16m0, k16m1]
  instanceTypes := #[]
  staticTypes := #[.int, .int, .int, .int, .int, .int, .int, .int, (.object "java/util/Random"), (.object "java/util/Set"), (.object "java/util/List"), (.object "java/util/Map")]
  resolved := Array.replicate 933 none
  statics := none }

def pool17 : Array CpInfo := pool [(2, .class_ 4), (1, u "java/lang/Object"), (0, u "<init>"), (0, u "()V"), (35, .class_ 44), (1, u "java/util/Objects"), (60, .methodref 106 107), (0, .class_ 108), (0, .nameAndType 109 110), (0, u "jdk/internal/util/Preconditions"), (0, u "checkIndex"), (0, u "(IILjava/util/function/BiFunction;)I"), (60, u "(II)I")] 12

def k17m0 : Method := { name := "<init>", desc := "()V", sig := { parameters := [], returnType := none }, accessFlags := 2, code := none }
def k17c1 : Code := { maxStack := 3, maxLocals := 2, code := jdk_31_method_17_code, exceptionTable := #[], attributes := #[] }
def k17m1 : Method := { name := "checkIndex", desc := "(II)I", sig := { parameters := [.int, .int], returnType := some .int }, accessFlags := 9, code := some k17c1 }
/-- java/util/Objects -/
def k17 : Class := { plain "java/util/Objects" (some 0) with
  accessFlags := 49
  interfaces := #[]
  cf := some (fileOf pool17 42 #[] #[{ accessFlags := 2, nameIndex := 5, descriptorIndex := 6, attributes := #[] }, { accessFlags := 9, nameIndex := 109, descriptorIndex := 171, attributes := #[] }] 49 2 #[] #[])
  fields := #[]
  methods := #[k17m0, k17m1]
  instanceTypes := #[]
  staticTypes := #[]
  resolved := Array.replicate 184 none
  statics := none }

def pool18 : Array CpInfo := pool [(2, .class_ 4), (1, u "java/lang/Object"), (0, u "<init>"), (0, u "()V"), (17, .class_ 26), (1, u "jdk/internal/util/Preconditions"), (6, u "checkIndex"), (21, .class_ 56), (0, u "jdk/internal/util/Preconditions$4"), (57, .class_ 115), (0, u "jdk/internal/util/Preconditions$1"), (7, u "SIOOBE_FORMATTER"), (0, u "Ljava/util/function/BiFunction;"), (0, .class_ 126), (0, u "jdk/internal/util/Preconditions$2"), (3, u "AIOOBE_FORMATTER"), (0, .class_ 132), (0, u "jdk/internal/util/Preconditions$3"), (3, u "IOOBE_FORMATTER"), (41, u "(IILjava/util/function/BiFunction;)I")] 15

def k18m0 : Method := { name := "<init>", desc := "()V", sig := { parameters := [], returnType := none }, accessFlags := 1, code := none }
def k18c1 : Code := { maxStack := 3, maxLocals := 3, code := jdk_41_method_11_code, exceptionTable := #[], attributes := #[] }
def k18m1 : Method := { name := "checkIndex", desc := "(IILjava/util/function/BiFunction;)I", sig := { parameters := [.int, .int, (.object "java/util/function/BiFunction")], returnType := some .int }, accessFlags := 9, code := some k18c1 }
/-- jdk/internal/util/Preconditions -/
def k18 : Class := { plain "jdk/internal/util/Preconditions" (some 0) with
  accessFlags := 33
  interfaces := #[]
  cf := some (fileOf pool18 24 #[.nestMembers #[55, 131, 125, 114]] #[{ accessFlags := 1, nameIndex := 5, descriptorIndex := 6, attributes := #[] }, { accessFlags := 9, nameIndex := 33, descriptorIndex := 178, attributes := #[] }] 33 2 #[] #[{ accessFlags := 25, nameIndex := 123, descriptorIndex := 124, attributes := #[] }, { accessFlags := 25, nameIndex := 130, descriptorIndex := 124, attributes := #[] }, { accessFlags := 25, nameIndex := 136, descriptorIndex := 124, attributes := #[] }])
  fields := #[{ name := "SIOOBE_FORMATTER", type := (.object "java/util/function/BiFunction"), accessFlags := 25, slot := 0, constantValue := 0 }, { name := "AIOOBE_FORMATTER", type := (.object "java/util/function/BiFunction"), accessFlags := 25, slot := 1, constantValue := 0 }, { name := "IOOBE_FORMATTER", type := (.object "java/util/function/BiFunction"), accessFlags := 25, slot := 2, constantValue := 0 }]
  methods := #[k18m0, k18m1]
  instanceTypes := #[]
  staticTypes := #[(.object "java/util/function/BiFunction"), (.object "java/util/function/BiFunction"), (.object "java/util/function/BiFunction")]
  resolved := Array.replicate 194 none
  statics := none }

/-- the primitive byte -/
def k19 : Class := { plain "byte" none with kind := .primitive 'B', accessFlags := 0x411 }
/-- [B -/
def k20 : Class := { plain "[B" (some 0) with kind := .array 19 .byte, interfaces := #[10, 11], accessFlags := 1041 }

/-- the primitive int -/
def k21 : Class := { plain "int" none with kind := .primitive 'I', accessFlags := 0x411 }
/-- [I -/
def k22 : Class := { plain "[I" (some 0) with kind := .array 21 .int, interfaces := #[10, 11], accessFlags := 1041 }

/-- [Ljava/lang/Object; -/
def k23 : Class := { plain "[Ljava/lang/Object;" (some 0) with kind := .array 0 (.object "java/lang/Object"), interfaces := #[10, 11], accessFlags := 1041 }

def heap : Heap := #[{ cls := 12, slots := #[.long 0, .int 0, .ref 1, .ref 2], vm := .statics 12 },
  { cls := 23, slots := #[], vm := .none },
  { cls := 23, slots := #[], vm := .none }]
def classes : Array Class := #[k0, k1, k2, k3, k4, k5, k6, k7, k8, k9, k10, k11, k12, k13, k14, k15, k16, k17, k18, k19, k20, k21, k22, k23]
def interned : List (Array UInt16 × Addr) := []
def slotsUsed : Nat := 4
def theMethod : MethodId := ⟨1, 2⟩
def args0 : Array Value := #[.int 5, .int 7, .long 20, .long 3]
def aboutOver (below : List Frame) : State where
  vm := { classes := classes, interned := interned.toArray }
  heap := heap
  slotsUsed := slotsUsed
  threads := #[{ frames := .invoking theMethod args0 :: below }]
def below0 : List Frame := [.native { method := ⟨0, 0⟩, args := #[] }]
def about1 : State := aboutOver below0
def p0 : Program := .bare "" "" ""
def e0 : Env := launch0.env 0 0 0
theorem w_frames : about1.frames = Frame.invoking theMethod args0 :: below0 := rfl
set_option maxRecDepth 65536 in
theorem w_args : argsFit about1.vm theMethod args0 = true := by decide +kernel
set_option maxRecDepth 65536 in
theorem w_heap : heapFits about1 = true := by decide +kernel
set_option maxRecDepth 65536 in
theorem w_runnable : about1.curStatus? = some .runnable := by decide +kernel
set_option maxRecDepth 65536 in
theorem w_alone : about1.alone = true := by decide +kernel
set_option maxRecDepth 65536 in
theorem w_named : about1.methodNamed? x = some theMethod := by decide +kernel
set_option maxRecDepth 65536 in
theorem w_hears : about1.hears theMethod below0 = true := by decide +kernel
set_option maxRecDepth 65536 in
theorem w_ripe : about1.ripe theMethod args0 below0 = true := by decide +kernel
theorem w_running : about1.status = .running := rfl
set_option maxRecDepth 65536 in
theorem w_room : about1.hasRoom e0.platform room_1 = true :=
  launch0.hasRoom_least _ room_1 (by decide +kernel) (by decide +kernel) (by decide +kernel) (by decide +kernel) (by decide +kernel) (by decide +kernel)
theorem allAtoms_all (ts : List Jvm.Cond) (a : Array Jvm.Value) (st : Jvm.State) : (allAtoms ts).before a st = ts.all (fun c => c.before a st) := by
  induction ts with
  | nil => rfl
  | cons c t ih =>
    show (Jvm.Cond.and c (allAtoms t)).before a st = _
    rw [Jvm.Cond.before_and, ih, List.all_cons]
def words1 : List Jvm.Cond := Jvm.Cond.code x code maxLocals ret :: tables_1
/-- a 'code' word, met by the world's own term for the bytes: nothing is compared byte by byte -/
theorem code_word {y : MethodName} {bytes : ByteArray} {mx : Nat} {rt : Option FieldType} {a : Array Value} {s : State} {m : MethodId} {meth : Method} {c : Code} (h1 : s.methodNamed? y = some m) (h2 : s.vm.method? m = some meth) (h3 : meth.code = some c) (h4 : c.code = bytes)
    (h5 : (c.maxLocals == mx && c.exceptionTable.isEmpty && decide (c.maxStack ≤ mostOperands) && decide (meth.sig.returnType = rt) && !meth.locks && decide (parseMethodDescriptor y.desc = some meth.sig)) = true) : (Jvm.Cond.code y bytes mx rt).before a s = true := by
  simp only [Bool.and_eq_true, beq_iff_eq, Bool.not_eq_true', decide_eq_true_eq] at h5
  obtain ⟨⟨⟨⟨⟨g1, g2⟩, g3⟩, g4⟩, g5⟩, g6⟩ := h5
  simp [Cond.before, Cond.holds, Cond.value, h1, h2, h3, h4, g1, g2, g3, g4, g5, g6]
def isCode : Jvm.Cond → Bool
  | .code _ _ _ _ => true
  | _ => false
theorem all_split {L : List Jvm.Cond} {P : Jvm.Cond → Bool} (h1 : L.all (fun c => isCode c || P c) = true) (h2 : ∀ c ∈ L.filter isCode, P c = true) : L.all P = true := by
  refine List.all_eq_true.mpr fun c hc => ?_
  have h := List.all_eq_true.mp h1 c hc
  rcases Bool.eq_false_or_eq_true (isCode c) with hi | hi
  · exact h2 c (List.mem_filter.mpr ⟨hc, hi⟩)
  · simpa [hi] using h
set_option maxRecDepth 65536 in
theorem w_c0 : (Jvm.Cond.code x code maxLocals ret).before args0 about1 = true := code_word (m := ⟨1, 2⟩) (meth := k1m2) (c := k1c2) (by decide +kernel) rfl rfl rfl (by decide +kernel)
set_option maxRecDepth 65536 in
theorem w_c1 : (Jvm.Cond.code ({ cls := "com/example/cistern/cistern/ReservoirSampler", name := "<init>", desc := "(IJ)V" } : Jvm.MethodName) prog_1_method_2_code (4 : Nat) (Option.none : Option Jvm.ClassFile.FieldType)).before args0 about1 = true := code_word (m := ⟨2, 0⟩) (meth := k2m0) (c := k2c0) (by decide +kernel) rfl rfl rfl (by decide +kernel)
set_option maxRecDepth 65536 in
theorem w_c2 : (Jvm.Cond.code ({ cls := "java/lang/Object", name := "<init>", desc := "()V" } : Jvm.MethodName) object_method_1_code (1 : Nat) (Option.none : Option Jvm.ClassFile.FieldType)).before args0 about1 = true := code_word (m := ⟨0, 0⟩) (meth := k0m0) (c := k0c0) (by decide +kernel) rfl rfl rfl (by decide +kernel)
set_option maxRecDepth 65536 in
theorem w_c3 : (Jvm.Cond.code ({ cls := "java/util/ArrayList", name := "<init>", desc := "()V" } : Jvm.MethodName) jdk_38_method_2_code (1 : Nat) (Option.none : Option Jvm.ClassFile.FieldType)).before args0 about1 = true := code_word (m := ⟨12, 0⟩) (meth := k12m0) (c := k12c0) (by decide +kernel) rfl rfl rfl (by decide +kernel)
set_option maxRecDepth 65536 in
theorem w_c4 : (Jvm.Cond.code ({ cls := "java/util/AbstractList", name := "<init>", desc := "()V" } : Jvm.MethodName) jdk_39_method_1_code (1 : Nat) (Option.none : Option Jvm.ClassFile.FieldType)).before args0 about1 = true := code_word (m := ⟨8, 0⟩) (meth := k8m0) (c := k8c0) (by decide +kernel) rfl rfl rfl (by decide +kernel)
set_option maxRecDepth 65536 in
theorem w_c5 : (Jvm.Cond.code ({ cls := "java/util/AbstractCollection", name := "<init>", desc := "()V" } : Jvm.MethodName) jdk_22_method_1_code (1 : Nat) (Option.none : Option Jvm.ClassFile.FieldType)).before args0 about1 = true := code_word (m := ⟨5, 0⟩) (meth := k5m0) (c := k5c0) (by decide +kernel) rfl rfl rfl (by decide +kernel)
set_option maxRecDepth 65536 in
theorem w_c6 : (Jvm.Cond.code ({ cls := "com/example/cistern/cistern/SplitMix64", name := "<init>", desc := "(J)V" } : Jvm.MethodName) prog_4_method_1_code (3 : Nat) (Option.none : Option Jvm.ClassFile.FieldType)).before args0 about1 = true := code_word (m := ⟨13, 0⟩) (meth := k13m0) (c := k13c0) (by decide +kernel) rfl rfl rfl (by decide +kernel)
set_option maxRecDepth 65536 in
theorem w_c7 : (Jvm.Cond.code ({ cls := "java/lang/Math", name := "min", desc := "(JJ)J" } : Jvm.MethodName) jdk_29_method_70_code (4 : Nat) (Option.some Jvm.ClassFile.FieldType.long)).before args0 about1 = true := code_word (m := ⟨14, 4⟩) (meth := k14m4) (c := k14c4) (by decide +kernel) rfl rfl rfl (by decide +kernel)
set_option maxRecDepth 65536 in
theorem w_c8 : (Jvm.Cond.code ({ cls := "com/example/cistern/cistern/ReservoirSampler", name := "skippable", desc := "()J" } : Jvm.MethodName) prog_1_method_10_code (1 : Nat) (Option.some Jvm.ClassFile.FieldType.long)).before args0 about1 = true := code_word (m := ⟨2, 3⟩) (meth := k2m3) (c := k2c3) (by decide +kernel) rfl rfl rfl (by decide +kernel)
set_option maxRecDepth 65536 in
theorem w_c9 : (Jvm.Cond.code ({ cls := "com/example/cistern/cistern/ReservoirSampler", name := "skip", desc := "(J)V" } : Jvm.MethodName) prog_1_method_11_code (3 : Nat) (Option.none : Option Jvm.ClassFile.FieldType)).before args0 about1 = true := code_word (m := ⟨2, 4⟩) (meth := k2m4) (c := k2c4) (by decide +kernel) rfl rfl rfl (by decide +kernel)
set_option maxRecDepth 65536 in
theorem w_c10 : (Jvm.Cond.code ({ cls := "com/example/cistern/cistern/ReservoirSamplerSkippablePinLaw", name := "offerTimes", desc := "(Lcom/example/cistern/cistern/ReservoirSampler;I)V" } : Jvm.MethodName) method_2_code (2 : Nat) (Option.none : Option Jvm.ClassFile.FieldType)).before args0 about1 = true := code_word (m := ⟨1, 1⟩) (meth := k1m1) (c := k1c1) (by decide +kernel) rfl rfl rfl (by decide +kernel)
set_option maxRecDepth 65536 in
theorem w_c11 : (Jvm.Cond.code ({ cls := "com/example/cistern/cistern/ReservoirSampler", name := "offer", desc := "(Ljava/lang/Object;)V" } : Jvm.MethodName) prog_1_method_7_code (2 : Nat) (Option.none : Option Jvm.ClassFile.FieldType)).before args0 about1 = true := code_word (m := ⟨2, 1⟩) (meth := k2m1) (c := k2c1) (by decide +kernel) rfl rfl rfl (by decide +kernel)
set_option maxRecDepth 65536 in
theorem w_c12 : (Jvm.Cond.code ({ cls := "java/lang/Math", name := "addExact", desc := "(JJ)J" } : Jvm.MethodName) jdk_29_method_25_code (6 : Nat) (Option.some Jvm.ClassFile.FieldType.long)).before args0 about1 = true := code_word (m := ⟨14, 1⟩) (meth := k14m1) (c := k14c1) (by decide +kernel) rfl rfl rfl (by decide +kernel)
set_option maxRecDepth 65536 in
theorem w_c13 : (Jvm.Cond.code ({ cls := "java/util/ArrayList", name := "size", desc := "()I" } : Jvm.MethodName) jdk_38_method_8_code (1 : Nat) (Option.some Jvm.ClassFile.FieldType.int)).before args0 about1 = true := code_word (m := ⟨12, 3⟩) (meth := k12m3) (c := k12c3) (by decide +kernel) rfl rfl rfl (by decide +kernel)
set_option maxRecDepth 65536 in
theorem w_c14 : (Jvm.Cond.code ({ cls := "com/example/cistern/cistern/ReservoirSampler", name := "offered", desc := "()J" } : Jvm.MethodName) prog_1_method_16_code (1 : Nat) (Option.some Jvm.ClassFile.FieldType.long)).before args0 about1 = true := code_word (m := ⟨2, 5⟩) (meth := k2m5) (c := k2c5) (by decide +kernel) rfl rfl rfl (by decide +kernel)
set_option maxRecDepth 65536 in
theorem w_c15 : (Jvm.Cond.code ({ cls := "java/lang/Math", name := "min", desc := "(II)I" } : Jvm.MethodName) jdk_29_method_69_code (2 : Nat) (Option.some Jvm.ClassFile.FieldType.int)).before args0 about1 = true := code_word (m := ⟨14, 3⟩) (meth := k14m3) (c := k14c3) (by decide +kernel) rfl rfl rfl (by decide +kernel)
set_option maxRecDepth 65536 in
theorem w_c16 : (Jvm.Cond.code ({ cls := "com/example/cistern/cistern/ReservoirSampler", name := "fill", desc := "(Ljava/lang/Object;)V" } : Jvm.MethodName) prog_1_method_8_code (2 : Nat) (Option.none : Option Jvm.ClassFile.FieldType)).before args0 about1 = true := code_word (m := ⟨2, 2⟩) (meth := k2m2) (c := k2c2) (by decide +kernel) rfl rfl rfl (by decide +kernel)
set_option maxRecDepth 65536 in
theorem w_c17 : (Jvm.Cond.code ({ cls := "com/example/cistern/cistern/ReservoirSampler$Kept", name := "<init>", desc := "(JLjava/lang/Object;)V" } : Jvm.MethodName) prog_2_method_1_code (4 : Nat) (Option.none : Option Jvm.ClassFile.FieldType)).before args0 about1 = true := code_word (m := ⟨15, 0⟩) (meth := k15m0) (c := k15c0) (by decide +kernel) rfl rfl rfl (by decide +kernel)
set_option maxRecDepth 65536 in
theorem w_c18 : (Jvm.Cond.code ({ cls := "com/example/cistern/cistern/ReservoirSampler$Kept", name := "set", desc := "(JLjava/lang/Object;)V" } : Jvm.MethodName) prog_2_method_2_code (4 : Nat) (Option.none : Option Jvm.ClassFile.FieldType)).before args0 about1 = true := code_word (m := ⟨15, 1⟩) (meth := k15m1) (c := k15c1) (by decide +kernel) rfl rfl rfl (by decide +kernel)
set_option maxRecDepth 65536 in
theorem w_c19 : (Jvm.Cond.code ({ cls := "java/util/ArrayList", name := "add", desc := "(Ljava/lang/Object;)Z" } : Jvm.MethodName) jdk_38_method_25_code (2 : Nat) (Option.some Jvm.ClassFile.FieldType.boolean)).before args0 about1 = true := code_word (m := ⟨12, 8⟩) (meth := k12m8) (c := k12c8) (by decide +kernel) rfl rfl rfl (by decide +kernel)
set_option maxRecDepth 65536 in
theorem w_c20 : (Jvm.Cond.code ({ cls := "java/util/ArrayList", name := "add", desc := "(Ljava/lang/Object;[Ljava/lang/Object;I)V" } : Jvm.MethodName) jdk_38_method_24_code (4 : Nat) (Option.none : Option Jvm.ClassFile.FieldType)).before args0 about1 = true := code_word (m := ⟨12, 7⟩) (meth := k12m7) (c := k12c7) (by decide +kernel) rfl rfl rfl (by decide +kernel)
set_option maxRecDepth 65536 in
theorem w_c21 : (Jvm.Cond.code ({ cls := "java/util/ArrayList", name := "grow", desc := "()[Ljava/lang/Object;" } : Jvm.MethodName) jdk_38_method_7_code (1 : Nat) (Option.some (Jvm.ClassFile.FieldType.array (Jvm.ClassFile.FieldType.object "java/lang/Object")))).before args0 about1 = true := code_word (m := ⟨12, 2⟩) (meth := k12m2) (c := k12c2) (by decide +kernel) rfl rfl rfl (by decide +kernel)
set_option maxRecDepth 65536 in
theorem w_c22 : (Jvm.Cond.code ({ cls := "java/util/ArrayList", name := "grow", desc := "(I)[Ljava/lang/Object;" } : Jvm.MethodName) jdk_38_method_6_code (4 : Nat) (Option.some (Jvm.ClassFile.FieldType.array (Jvm.ClassFile.FieldType.object "java/lang/Object")))).before args0 about1 = true := code_word (m := ⟨12, 1⟩) (meth := k12m1) (c := k12c1) (by decide +kernel) rfl rfl rfl (by decide +kernel)
set_option maxRecDepth 65536 in
theorem w_c23 : (Jvm.Cond.code ({ cls := "java/lang/Math", name := "max", desc := "(II)I" } : Jvm.MethodName) jdk_29_method_65_code (2 : Nat) (Option.some Jvm.ClassFile.FieldType.int)).before args0 about1 = true := code_word (m := ⟨14, 2⟩) (meth := k14m2) (c := k14c2) (by decide +kernel) rfl rfl rfl (by decide +kernel)
set_option maxRecDepth 65536 in
theorem w_c24 : (Jvm.Cond.code ({ cls := "com/example/cistern/cistern/SplitMix64", name := "nextLong", desc := "(J)J" } : Jvm.MethodName) prog_4_method_3_code (7 : Nat) (Option.some Jvm.ClassFile.FieldType.long)).before args0 about1 = true := code_word (m := ⟨13, 2⟩) (meth := k13m2) (c := k13c2) (by decide +kernel) rfl rfl rfl (by decide +kernel)
set_option maxRecDepth 65536 in
theorem w_c25 : (Jvm.Cond.code ({ cls := "com/example/cistern/cistern/SplitMix64", name := "nextLong", desc := "()J" } : Jvm.MethodName) prog_4_method_2_code (3 : Nat) (Option.some Jvm.ClassFile.FieldType.long)).before args0 about1 = true := code_word (m := ⟨13, 1⟩) (meth := k13m1) (c := k13c1) (by decide +kernel) rfl rfl rfl (by decide +kernel)
set_option maxRecDepth 65536 in
theorem w_c26 : (Jvm.Cond.code ({ cls := "java/util/Collections", name := "swap", desc := "(Ljava/util/List;II)V" } : Jvm.MethodName) jdk_79_method_15_code (4 : Nat) (Option.none : Option Jvm.ClassFile.FieldType)).before args0 about1 = true := code_word (m := ⟨16, 1⟩) (meth := k16m1) (c := k16c1) (by decide +kernel) rfl rfl rfl (by decide +kernel)
set_option maxRecDepth 65536 in
theorem w_c27 : (Jvm.Cond.code ({ cls := "java/util/ArrayList", name := "get", desc := "(I)Ljava/lang/Object;" } : Jvm.MethodName) jdk_38_method_20_code (2 : Nat) (Option.some (Jvm.ClassFile.FieldType.object "java/lang/Object"))).before args0 about1 = true := code_word (m := ⟨12, 5⟩) (meth := k12m5) (c := k12c5) (by decide +kernel) rfl rfl rfl (by decide +kernel)
set_option maxRecDepth 65536 in
theorem w_c28 : (Jvm.Cond.code ({ cls := "java/util/Objects", name := "checkIndex", desc := "(II)I" } : Jvm.MethodName) jdk_31_method_17_code (2 : Nat) (Option.some Jvm.ClassFile.FieldType.int)).before args0 about1 = true := code_word (m := ⟨17, 1⟩) (meth := k17m1) (c := k17c1) (by decide +kernel) rfl rfl rfl (by decide +kernel)
set_option maxRecDepth 65536 in
theorem w_c29 : (Jvm.Cond.code ({ cls := "jdk/internal/util/Preconditions", name := "checkIndex", desc := "(IILjava/util/function/BiFunction;)I" } : Jvm.MethodName) jdk_41_method_11_code (3 : Nat) (Option.some Jvm.ClassFile.FieldType.int)).before args0 about1 = true := code_word (m := ⟨18, 1⟩) (meth := k18m1) (c := k18c1) (by decide +kernel) rfl rfl rfl (by decide +kernel)
set_option maxRecDepth 65536 in
theorem w_c30 : (Jvm.Cond.code ({ cls := "java/util/ArrayList", name := "elementData", desc := "(I)Ljava/lang/Object;" } : Jvm.MethodName) jdk_38_method_18_code (2 : Nat) (Option.some (Jvm.ClassFile.FieldType.object "java/lang/Object"))).before args0 about1 = true := code_word (m := ⟨12, 4⟩) (meth := k12m4) (c := k12c4) (by decide +kernel) rfl rfl rfl (by decide +kernel)
set_option maxRecDepth 65536 in
theorem w_c31 : (Jvm.Cond.code ({ cls := "java/util/ArrayList", name := "set", desc := "(ILjava/lang/Object;)Ljava/lang/Object;" } : Jvm.MethodName) jdk_38_method_23_code (4 : Nat) (Option.some (Jvm.ClassFile.FieldType.object "java/lang/Object"))).before args0 about1 = true := code_word (m := ⟨12, 6⟩) (meth := k12m6) (c := k12c6) (by decide +kernel) rfl rfl rfl (by decide +kernel)
def codes1 : List Jvm.Cond := [Jvm.Cond.code x code maxLocals ret, Jvm.Cond.code ({ cls := "com/example/cistern/cistern/ReservoirSampler", name := "<init>", desc := "(IJ)V" } : Jvm.MethodName) prog_1_method_2_code (4 : Nat) (Option.none : Option Jvm.ClassFile.FieldType), Jvm.Cond.code ({ cls := "java/lang/Object", name := "<init>", desc := "()V" } : Jvm.MethodName) object_method_1_code (1 : Nat) (Option.none : Option Jvm.ClassFile.FieldType), Jvm.Cond.code ({ cls := "java/util/ArrayList", name := "<init>", desc := "()V" } : Jvm.MethodName) jdk_38_method_2_code (1 : Nat) (Option.none : Option Jvm.ClassFile.FieldType), Jvm.Cond.code ({ cls := "java/util/AbstractList", name := "<init>", desc := "()V" } : Jvm.MethodName) jdk_39_method_1_code (1 : Nat) (Option.none : Option Jvm.ClassFile.FieldType), Jvm.Cond.code ({ cls := "java/util/AbstractCollection", name := "<init>", desc := "()V" } : Jvm.MethodName) jdk_22_method_1_code (1 : Nat) (Option.none : Option Jvm.ClassFile.FieldType), Jvm.Cond.code ({ cls := "com/example/cistern/cistern/SplitMix64", name := "<init>", desc := "(J)V" } : Jvm.MethodName) prog_4_method_1_code (3 : Nat) (Option.none : Option Jvm.ClassFile.FieldType), Jvm.Cond.code ({ cls := "java/lang/Math", name := "min", desc := "(JJ)J" } : Jvm.MethodName) jdk_29_method_70_code (4 : Nat) (Option.some Jvm.ClassFile.FieldType.long), Jvm.Cond.code ({ cls := "com/example/cistern/cistern/ReservoirSampler", name := "skippable", desc := "()J" } : Jvm.MethodName) prog_1_method_10_code (1 : Nat) (Option.some Jvm.ClassFile.FieldType.long), Jvm.Cond.code ({ cls := "com/example/cistern/cistern/ReservoirSampler", name := "skip", desc := "(J)V" } : Jvm.MethodName) prog_1_method_11_code (3 : Nat) (Option.none : Option Jvm.ClassFile.FieldType), Jvm.Cond.code ({ cls := "com/example/cistern/cistern/ReservoirSamplerSkippablePinLaw", name := "offerTimes", desc := "(Lcom/example/cistern/cistern/ReservoirSampler;I)V" } : Jvm.MethodName) method_2_code (2 : Nat) (Option.none : Option Jvm.ClassFile.FieldType), Jvm.Cond.code ({ cls := "com/example/cistern/cistern/ReservoirSampler", name := "offer", desc := "(Ljava/lang/Object;)V" } : Jvm.MethodName) prog_1_method_7_code (2 : Nat) (Option.none : Option Jvm.ClassFile.FieldType), Jvm.Cond.code ({ cls := "java/lang/Math", name := "addExact", desc := "(JJ)J" } : Jvm.MethodName) jdk_29_method_25_code (6 : Nat) (Option.some Jvm.ClassFile.FieldType.long), Jvm.Cond.code ({ cls := "java/util/ArrayList", name := "size", desc := "()I" } : Jvm.MethodName) jdk_38_method_8_code (1 : Nat) (Option.some Jvm.ClassFile.FieldType.int), Jvm.Cond.code ({ cls := "com/example/cistern/cistern/ReservoirSampler", name := "offered", desc := "()J" } : Jvm.MethodName) prog_1_method_16_code (1 : Nat) (Option.some Jvm.ClassFile.FieldType.long), Jvm.Cond.code ({ cls := "java/lang/Math", name := "min", desc := "(II)I" } : Jvm.MethodName) jdk_29_method_69_code (2 : Nat) (Option.some Jvm.ClassFile.FieldType.int), Jvm.Cond.code ({ cls := "com/example/cistern/cistern/ReservoirSampler", name := "fill", desc := "(Ljava/lang/Object;)V" } : Jvm.MethodName) prog_1_method_8_code (2 : Nat) (Option.none : Option Jvm.ClassFile.FieldType), Jvm.Cond.code ({ cls := "com/example/cistern/cistern/ReservoirSampler$Kept", name := "<init>", desc := "(JLjava/lang/Object;)V" } : Jvm.MethodName) prog_2_method_1_code (4 : Nat) (Option.none : Option Jvm.ClassFile.FieldType), Jvm.Cond.code ({ cls := "com/example/cistern/cistern/ReservoirSampler$Kept", name := "set", desc := "(JLjava/lang/Object;)V" } : Jvm.MethodName) prog_2_method_2_code (4 : Nat) (Option.none : Option Jvm.ClassFile.FieldType), Jvm.Cond.code ({ cls := "java/util/ArrayList", name := "add", desc := "(Ljava/lang/Object;)Z" } : Jvm.MethodName) jdk_38_method_25_code (2 : Nat) (Option.some Jvm.ClassFile.FieldType.boolean), Jvm.Cond.code ({ cls := "java/util/ArrayList", name := "add", desc := "(Ljava/lang/Object;[Ljava/lang/Object;I)V" } : Jvm.MethodName) jdk_38_method_24_code (4 : Nat) (Option.none : Option Jvm.ClassFile.FieldType), Jvm.Cond.code ({ cls := "java/util/ArrayList", name := "grow", desc := "()[Ljava/lang/Object;" } : Jvm.MethodName) jdk_38_method_7_code (1 : Nat) (Option.some (Jvm.ClassFile.FieldType.array (Jvm.ClassFile.FieldType.object "java/lang/Object"))), Jvm.Cond.code ({ cls := "java/util/ArrayList", name := "grow", desc := "(I)[Ljava/lang/Object;" } : Jvm.MethodName) jdk_38_method_6_code (4 : Nat) (Option.some (Jvm.ClassFile.FieldType.array (Jvm.ClassFile.FieldType.object "java/lang/Object"))), Jvm.Cond.code ({ cls := "java/lang/Math", name := "max", desc := "(II)I" } : Jvm.MethodName) jdk_29_method_65_code (2 : Nat) (Option.some Jvm.ClassFile.FieldType.int), Jvm.Cond.code ({ cls := "com/example/cistern/cistern/SplitMix64", name := "nextLong", desc := "(J)J" } : Jvm.MethodName) prog_4_method_3_code (7 : Nat) (Option.some Jvm.ClassFile.FieldType.long), Jvm.Cond.code ({ cls := "com/example/cistern/cistern/SplitMix64", name := "nextLong", desc := "()J" } : Jvm.MethodName) prog_4_method_2_code (3 : Nat) (Option.some Jvm.ClassFile.FieldType.long), Jvm.Cond.code ({ cls := "java/util/Collections", name := "swap", desc := "(Ljava/util/List;II)V" } : Jvm.MethodName) jdk_79_method_15_code (4 : Nat) (Option.none : Option Jvm.ClassFile.FieldType), Jvm.Cond.code ({ cls := "java/util/ArrayList", name := "get", desc := "(I)Ljava/lang/Object;" } : Jvm.MethodName) jdk_38_method_20_code (2 : Nat) (Option.some (Jvm.ClassFile.FieldType.object "java/lang/Object")), Jvm.Cond.code ({ cls := "java/util/Objects", name := "checkIndex", desc := "(II)I" } : Jvm.MethodName) jdk_31_method_17_code (2 : Nat) (Option.some Jvm.ClassFile.FieldType.int), Jvm.Cond.code ({ cls := "jdk/internal/util/Preconditions", name := "checkIndex", desc := "(IILjava/util/function/BiFunction;)I" } : Jvm.MethodName) jdk_41_method_11_code (3 : Nat) (Option.some Jvm.ClassFile.FieldType.int), Jvm.Cond.code ({ cls := "java/util/ArrayList", name := "elementData", desc := "(I)Ljava/lang/Object;" } : Jvm.MethodName) jdk_38_method_18_code (2 : Nat) (Option.some (Jvm.ClassFile.FieldType.object "java/lang/Object")), Jvm.Cond.code ({ cls := "java/util/ArrayList", name := "set", desc := "(ILjava/lang/Object;)Ljava/lang/Object;" } : Jvm.MethodName) jdk_38_method_23_code (4 : Nat) (Option.some (Jvm.ClassFile.FieldType.object "java/lang/Object"))]
set_option maxRecDepth 65536 in
theorem codes_eq : words1.filter isCode = codes1 := rfl
theorem w_codes : ∀ c ∈ words1.filter isCode, c.before args0 about1 = true := by
  rw [codes_eq]
  intro c hc
  simp only [codes1, List.mem_cons, List.not_mem_nil, or_false] at hc
  rcases hc with rfl | rfl | rfl | rfl | rfl | rfl | rfl | rfl | rfl | rfl | rfl | rfl | rfl | rfl | rfl | rfl | rfl | rfl | rfl | rfl | rfl | rfl | rfl | rfl | rfl | rfl | rfl | rfl | rfl | rfl | rfl | rfl
  · exact w_c0
  · exact w_c1
  · exact w_c2
  · exact w_c3
  · exact w_c4
  · exact w_c5
  · exact w_c6
  · exact w_c7
  · exact w_c8
  · exact w_c9
  · exact w_c10
  · exact w_c11
  · exact w_c12
  · exact w_c13
  · exact w_c14
  · exact w_c15
  · exact w_c16
  · exact w_c17
  · exact w_c18
  · exact w_c19
  · exact w_c20
  · exact w_c21
  · exact w_c22
  · exact w_c23
  · exact w_c24
  · exact w_c25
  · exact w_c26
  · exact w_c27
  · exact w_c28
  · exact w_c29
  · exact w_c30
  · exact w_c31
set_option maxRecDepth 65536 in
theorem w_t1 : (words1.take 24).all (fun c => isCode c || c.before args0 about1) = true := by decide +kernel
set_option maxRecDepth 65536 in
theorem w_t2 : ((words1.drop 24).take 24).all (fun c => isCode c || c.before args0 about1) = true := by decide +kernel
set_option maxRecDepth 65536 in
theorem w_t3 : (((words1.drop 24).drop 24).take 24).all (fun c => isCode c || c.before args0 about1) = true := by decide +kernel
set_option maxRecDepth 65536 in
theorem w_t4 : ((((words1.drop 24).drop 24).drop 24).take 24).all (fun c => isCode c || c.before args0 about1) = true := by decide +kernel
set_option maxRecDepth 65536 in
theorem w_t5 : (((((words1.drop 24).drop 24).drop 24).drop 24).take 24).all (fun c => isCode c || c.before args0 about1) = true := by decide +kernel
set_option maxRecDepth 65536 in
theorem w_t6 : ((((((words1.drop 24).drop 24).drop 24).drop 24).drop 24).take 24).all (fun c => isCode c || c.before args0 about1) = true := by decide +kernel
set_option maxRecDepth 65536 in
theorem w_t7 : (((((((words1.drop 24).drop 24).drop 24).drop 24).drop 24).drop 24).take 24).all (fun c => isCode c || c.before args0 about1) = true := by decide +kernel
set_option maxRecDepth 65536 in
theorem w_t8 : ((((((((words1.drop 24).drop 24).drop 24).drop 24).drop 24).drop 24).drop 24).take 24).all (fun c => isCode c || c.before args0 about1) = true := by decide +kernel
set_option maxRecDepth 65536 in
theorem w_t9 : ((((((((words1.drop 24).drop 24).drop 24).drop 24).drop 24).drop 24).drop 24).drop 24).all (fun c => isCode c || c.before args0 about1) = true := by decide +kernel
theorem w_tables : (allAtoms (Jvm.Cond.code x code maxLocals ret :: tables_1)).before args0 about1 = true := by
  rw [allAtoms_all]
  show words1.all (fun c => c.before args0 about1) = true
  refine all_split ?_ w_codes
  rw [← List.take_append_drop 24 words1, List.all_append, w_t1, ← List.take_append_drop 24 (words1.drop 24), List.all_append, w_t2, ← List.take_append_drop 24 ((words1.drop 24).drop 24), List.all_append, w_t3, ← List.take_append_drop 24 (((words1.drop 24).drop 24).drop 24), List.all_append, w_t4, ← List.take_append_drop 24 ((((words1.drop 24).drop 24).drop 24).drop 24), List.all_append, w_t5, ← List.take_append_drop 24 (((((words1.drop 24).drop 24).drop 24).drop 24).drop 24), List.all_append, w_t6, ← List.take_append_drop 24 ((((((words1.drop 24).drop 24).drop 24).drop 24).drop 24).drop 24), List.all_append, w_t7, ← List.take_append_drop 24 (((((((words1.drop 24).drop 24).drop 24).drop 24).drop 24).drop 24).drop 24), List.all_append, w_t8, w_t9]
  rfl
set_option maxRecDepth 65536 in
theorem w_rest : rest_1_c.before args0 about1 = true := by decide +kernel
set_option maxRecDepth 65536 in
theorem w_case : (Jvm.Cond.and given_1 narrow_1).before args0 about1 = true := by decide +kernel
theorem w_applies : (headSpec (Jvm.Cond.code x code maxLocals ret :: tables_1) room_1).applies x e0.platform about1 = true :=
  (Spec.applies_iff w_frames).mpr ⟨w_running, w_runnable, w_alone, w_named, w_hears, w_ripe, w_room, w_tables⟩
theorem atStart : AtStart classFile x code maxLocals ret World_1 tables_1 room_1 Calls_1 rest_1 Pre_1 launch0 p0 e0 about1 theMethod args0 below0 :=
  ⟨lists_1, trivial, launch0.admits_env _ _ _, launch0.least_env, fairChoices_fair.cas, fairChoices_fair.clock, w_frames, w_args, w_heap, w_applies, trivial, w_rest, w_case⟩
end start1
theorem witness_1 : WitnessClaimed_1 := ⟨start1.p0, start1.e0, start1.about1, start1.theMethod, start1.args0, start1.below0, start1.atStart⟩
end Jvm.Pilot.@@N@@
