import JvmDerived
import JvmDerived.Pilot.@@N@@Statement
import JvmDerived.Pilot.@@N@@Code
set_option linter.unusedVariables false
set_option linter.unusedSimpArgs false
namespace Jvm.RoadKit
open Sem ClassFile Op Lib Jvm.Stand Jvm.Free Jvm.LawKit
section New
variable {p : Program} {l : Launch} {e : Env} {R : Room} {s : State} {m : MethodId} {args : Array Value} {below : List Frame} {meth : Method} {c : Code} {T : State} {locs : List Loc} {cells slots : Nat}
theorem retI (X : Stand p l e R s m args below meth c T locs cells slots) (hx : p.tables.exec = Jvm.exec) {pc : Nat} {Ls : Array Slot} {z : Int32} {rest : List Value} (hret : meth.sig.returnType = some .int) (hd : decode c.code pc = .ok (.ireturn, 1)) {fs : List Frame}
    (hl : ∀ (f : JFrame) (acts : List Action), f.method = m → f.locked = none → f.entered = [] → (doReturn e (T.setTop f) acts (some (.int z))).1 = T.setFrames fs) : Steps p.tables e below (T.setTop (mkF m pc Ls (.int z :: rest))) (T.setFrames fs) := by
  have hm' : T.vm.method? m = some meth := X.method'
  have hn : narrow .int (.int z) = .int z := rfl
  show Steps p.tables e below (T.setTop { method := m, pc := pc, locals := Ls, stack := _ :: rest, locked := none }) _
  jvm_step X.here [X.here.top, hx, hd, hm', hret, hn]
  first | (intro acts; rw [hl _ acts rfl rfl rfl]) | rw [hl _ _ rfl rfl rfl]
  exact Steps.refl _
end New
end Jvm.RoadKit
namespace Jvm.Pilot.@@N@@
open Jvm Jvm.ClassFile Sem Op Lib Jvm.Free Jvm.Stand Jvm.LawKit Jvm.RoadKit Bundle Jvm.Pilot.@@N@@.Jvm.D
section Kit
variable {p : Program} {l : Launch} {e : Env} {R : Room} {s : State} {m : MethodId} {args : Array Value} {below : List Frame} {meth : Method} {c : Code} {T : State} {locs : List Loc} {cells slots : Nat} {G : State → Prop} {L L' : Array Slot} {S : List Value} {pc q q1 : Nat}
/-- from this frame the run comes to a state of which G holds -/
def Go (p : Program) (e : Env) (below : List Frame) (G : State → Prop) (T : State) (m : MethodId) (pc : Nat) (L : Array Slot) (S : List Value) : Prop := ∃ t, Steps p.tables e below (T.setTop (mkF m pc L S)) t ∧ G t
theorem Go.st {T' : State} {m' : MethodId} {pc' : Nat} {S' : List Value} (h : ∀ t, Steps p.tables e below (T'.setTop (mkF m' pc' L' S')) t → Steps p.tables e below (T.setTop (mkF m pc L S)) t) (k : Go p e below G T' m' pc' L' S') : Go p e below G T m pc L S := by
  obtain ⟨t, h1, h2⟩ := k; exact ⟨t, h t h1, h2⟩
theorem jn {T2 : State} {pc2 : Nat} {L2 : Array Slot} {S2 : List Value} (k : Go p e below G T2 m pc2 L2 S2 → Go p e below G T m pc L S) (K : Go p e below G T2 m pc2 L2 S2) : Go p e below G T m pc L S := k K
/-- what a body that returns leaves -/
def Gl (s : State) (below : List Frame) (Q : Option Value → Heap → List Loc → Prop) (C N : Nat) (t : State) : Prop := ∃ o, t.status = .running ∧ Ended t below o ∧ ∃ v L, o = .returned v ∧ Q v t.heap L ∧ FrameEnd s o t L C N
/-- a contract -/
def Ctr (l : Launch) (y : MethodName) (code : ByteArray) (ml : Nat) (ret : Option FieldType) (ws : List Jvm.Cond) (rm : Room) (Z : State) (as' : Array Value) (h0 : Heap) (Q : Option Value → Heap → List Loc → Prop) (C N : Nat) : Prop :=
  MetFree l y (head1 (Jvm.Cond.code y code ml ret :: ws) rm) (fun a U => a = as' ∧ Z.Warmed39 U.vm ∧ U.heap = h0) (fun _ _ _ _ _ => True) (fun _ U o U' => ∃ v L, o = .returned v ∧ Q v U'.heap L ∧ FrameEnd U o U' L C N)
theorem Ctr.mk {y : MethodName} {code : ByteArray} {ml : Nat} {ret : Option FieldType} {ws : List Jvm.Cond} {rm : Room} {Z : State} {as' : Array Value} {h0 : Heap} {Q : Option Value → Heap → List Loc → Prop} {C N : Nat} (hp : plainFor y = true)
    (body : ∀ (p : Program) (e : Env) (s : State) (m : MethodId) (below : List Frame) (meth : Method) (c : Code) (T : State), p.tables.exec = Jvm.exec → c.code = code → c.maxLocals = ml → s.vm.findClass y.cls = some m.cls → meth.name = y.name → meth.locks = false → meth.sig.returnType = ret → Z.Warmed39 s.vm → Stand p l e rm s m as' below meth c T [] 0 0 → T.heap = h0 → ∃ t, Steps p.tables e below (T.setTop (entryFrame m as' ml)) t ∧ Gl s below Q C N t) : Ctr l y code ml ret ws rm Z as' h0 Q C N := by
  refine MetFree.of_bodySF hp hisR ?_
  intro p e s m args below meth c s₁ Bd hml0 hP hK
  obtain ⟨rfl, hZ, hh⟩ := hP
  obtain ⟨t, h1, o, h2, h3, h4⟩ := body p e s m below meth c s₁ Bd.exec Bd.bytes hml0 (findClass_of_methodNamed Bd.named) (name_of_methodNamed Bd.named Bd.method).1 Bd.notSynchronized Bd.returns hZ (Stand.of_body Bd) (by rw [← hh, Bd.state]; rfl)
  exact ⟨t, o, h1, h2, h3, h4⟩
theorem enter {as' : Array Value} {ml : Nat} (q : entryFrame m as' ml = mkF m 0 L []) (k : Go p e below G T m 0 L []) : ∃ t, Steps p.tables e below (T.setTop (entryFrame m as' ml)) t ∧ G t := by
  rw [q]; exact k
theorem s_iloadN (X : Stand p l e R s m args below meth c T locs cells slots) (hx : p.tables.exec = Jvm.exec) {k : Fin 4} {v : Int32} (hd : decode c.code pc = .ok (.iload_n k, 1)) (hl : L[k.val]? = some (.val (.int v))) (hq : pc + 1 = q) (K : Go p e below G T m q L (.int v :: S)) : Go p e below G T m pc L S := by
  subst hq; exact Go.st (fun t k => XS.iloadN X.here hx rfl hd hl k) K
theorem s_iload (X : Stand p l e R s m args below meth c T locs cells slots) (hx : p.tables.exec = Jvm.exec) {k : Nat} {v : Int32} (hd : decode c.code pc = .ok (.iload k, 2)) (hl : L[k]? = some (.val (.int v))) (hq : pc + 2 = q) (K : Go p e below G T m q L (.int v :: S)) : Go p e below G T m pc L S := by
  subst hq; exact Go.st (fun t k => XS.iload X.here hx rfl hd hl k) K
theorem s_lloadN (X : Stand p l e R s m args below meth c T locs cells slots) (hx : p.tables.exec = Jvm.exec) {k : Fin 4} {v : Int64} (hd : decode c.code pc = .ok (.lload_n k, 1)) (hl : L[k.val]? = some (.val (.long v))) (hq : pc + 1 = q) (K : Go p e below G T m q L (.long v :: S)) : Go p e below G T m pc L S := by
  subst hq; exact Go.st (fun t k => XS.lloadN X.here hx rfl hd hl k) K
theorem s_lload (X : Stand p l e R s m args below meth c T locs cells slots) (hx : p.tables.exec = Jvm.exec) {k : Nat} {v : Int64} (hd : decode c.code pc = .ok (.lload k, 2)) (hl : L[k]? = some (.val (.long v))) (hq : pc + 2 = q) (K : Go p e below G T m q L (.long v :: S)) : Go p e below G T m pc L S := by
  subst hq; exact Go.st (fun t k => XS.lload X.here hx rfl hd hl k) K
theorem s_aloadN (X : Stand p l e R s m args below meth c T locs cells slots) (hx : p.tables.exec = Jvm.exec) {k : Fin 4} {v : Value} (hd : decode c.code pc = .ok (.aload_n k, 1)) (hl : L[k.val]? = some (.val v)) (hv : v.isRef = true) (hq : pc + 1 = q) (K : Go p e below G T m q L (v :: S)) : Go p e below G T m pc L S := by
  subst hq; exact Go.st (fun t k => XS.aloadN X.here hx rfl hd hl hv k) K
theorem s_aload (X : Stand p l e R s m args below meth c T locs cells slots) (hx : p.tables.exec = Jvm.exec) {k : Nat} {v : Value} (hd : decode c.code pc = .ok (.aload k, 2)) (hl : L[k]? = some (.val v)) (hv : v.isRef = true) (hq : pc + 2 = q) (K : Go p e below G T m q L (v :: S)) : Go p e below G T m pc L S := by
  subst hq; exact Go.st (fun t k => XS.aload X.here hx rfl hd hl hv k) K
theorem s_istoreN (X : Stand p l e R s m args below meth c T locs cells slots) (hx : p.tables.exec = Jvm.exec) {k : Fin 4} {x : Int32} (hd : decode c.code pc = .ok (.istore_n k, 1)) (hl : storeLocals L k.val (.int x) = some L') (hq : pc + 1 = q) (K : Go p e below G T m q L' S) : Go p e below G T m pc L (.int x :: S) := by
  subst hq; exact Go.st (fun t k => XS.istoreN X.here hx rfl hd rfl hl k) K
theorem s_istore (X : Stand p l e R s m args below meth c T locs cells slots) (hx : p.tables.exec = Jvm.exec) {k : Nat} {x : Int32} (hd : decode c.code pc = .ok (.istore k, 2)) (hl : storeLocals L k (.int x) = some L') (hq : pc + 2 = q) (K : Go p e below G T m q L' S) : Go p e below G T m pc L (.int x :: S) := by
  subst hq; exact Go.st (fun t k => XS.istore X.here hx rfl hd rfl hl k) K
theorem s_lstoreN (X : Stand p l e R s m args below meth c T locs cells slots) (hx : p.tables.exec = Jvm.exec) {k : Fin 4} {x : Int64} (hd : decode c.code pc = .ok (.lstore_n k, 1)) (hl : storeLocals L k.val (.long x) = some L') (hq : pc + 1 = q) (K : Go p e below G T m q L' S) : Go p e below G T m pc L (.long x :: S) := by
  subst hq; exact Go.st (fun t k => XS.lstoreN X.here hx rfl hd rfl hl k) K
theorem s_lstore (X : Stand p l e R s m args below meth c T locs cells slots) (hx : p.tables.exec = Jvm.exec) {k : Nat} {x : Int64} (hd : decode c.code pc = .ok (.lstore k, 2)) (hl : storeLocals L k (.long x) = some L') (hq : pc + 2 = q) (K : Go p e below G T m q L' S) : Go p e below G T m pc L (.long x :: S) := by
  subst hq; exact Go.st (fun t k => XS.lstore X.here hx rfl hd rfl hl k) K
theorem s_astoreN (X : Stand p l e R s m args below meth c T locs cells slots) (hx : p.tables.exec = Jvm.exec) {k : Fin 4} {x : Value} (hd : decode c.code pc = .ok (.astore_n k, 1)) (hv : x.isRef = true) (hl : storeLocals L k.val x = some L') (hq : pc + 1 = q) (K : Go p e below G T m q L' S) : Go p e below G T m pc L (x :: S) := by
  subst hq; exact Go.st (fun t k => XS.astoreN X.here hx rfl hd rfl hv hl k) K
theorem s_astore (X : Stand p l e R s m args below meth c T locs cells slots) (hx : p.tables.exec = Jvm.exec) {k : Nat} {x : Value} (hd : decode c.code pc = .ok (.astore k, 2)) (hv : x.isRef = true) (hl : storeLocals L k x = some L') (hq : pc + 2 = q) (K : Go p e below G T m q L' S) : Go p e below G T m pc L (x :: S) := by
  subst hq; exact Go.st (fun t k => XS.astore X.here hx rfl hd rfl hv hl k) K
theorem s_iconst (X : Stand p l e R s m args below meth c T locs cells slots) (hx : p.tables.exec = Jvm.exec) {i : Int} {z : Int32} (hd : decode c.code pc = .ok (.iconst i, 1)) (hz : Int32.ofInt i = z) (hq : pc + 1 = q) (K : Go p e below G T m q L (.int z :: S)) : Go p e below G T m pc L S := by
  subst hq hz; exact Go.st (fun t k => XS.iconst X.here hx rfl hd k) K
theorem s_bipush (X : Stand p l e R s m args below meth c T locs cells slots) (hx : p.tables.exec = Jvm.exec) {i : Int} {z : Int32} (hd : decode c.code pc = .ok (.bipush i, 2)) (hz : (Int8.ofInt i).toInt32 = z) (hq : pc + 2 = q) (K : Go p e below G T m q L (.int z :: S)) : Go p e below G T m pc L S := by
  subst hq hz; exact Go.st (fun t k => XS.bipush X.here hx rfl hd k) K
theorem s_sipush (X : Stand p l e R s m args below meth c T locs cells slots) (hx : p.tables.exec = Jvm.exec) {i : Int} {z : Int32} (hd : decode c.code pc = .ok (.sipush i, 3)) (hz : (Int16.ofInt i).toInt32 = z) (hq : pc + 3 = q) (K : Go p e below G T m q L (.int z :: S)) : Go p e below G T m pc L S := by
  subst hq hz; exact Go.st (fun t k => XS.sipush X.here hx rfl hd k) K
theorem s_lconst (X : Stand p l e R s m args below meth c T locs cells slots) (hx : p.tables.exec = Jvm.exec) {i : Fin 2} {z : Int64} (hd : decode c.code pc = .ok (.lconst i, 1)) (hz : Int64.ofNat i.val = z) (hq : pc + 1 = q) (K : Go p e below G T m q L (.long z :: S)) : Go p e below G T m pc L S := by
  subst hq hz; exact Go.st (fun t k => XS.lconst X.here hx rfl hd k) K
theorem s_aconst_null (X : Stand p l e R s m args below meth c T locs cells slots) (hx : p.tables.exec = Jvm.exec)  (hd : decode c.code pc = .ok (.aconst_null, 1))  (hq : pc + 1 = q) (K : Go p e below G T m q L (.null :: S)) : Go p e below G T m pc L S := by
  subst hq; exact Go.st (fun t k => XS.aconstNull X.here hx rfl hd k) K
theorem s_iadd (X : Stand p l e R s m args below meth c T locs cells slots) (hx : p.tables.exec = Jvm.exec) {x y : Int32} (hd : decode c.code pc = .ok (.iadd, 1))  (hq : pc + 1 = q) (K : Go p e below G T m q L (.int (x + y) :: S)) : Go p e below G T m pc L (.int y :: .int x :: S) := by
  subst hq; exact Go.st (fun t k => XS.iadd X.here hx rfl hd rfl k) K
theorem s_isub (X : Stand p l e R s m args below meth c T locs cells slots) (hx : p.tables.exec = Jvm.exec) {x y : Int32} (hd : decode c.code pc = .ok (.isub, 1))  (hq : pc + 1 = q) (K : Go p e below G T m q L (.int (x - y) :: S)) : Go p e below G T m pc L (.int y :: .int x :: S) := by
  subst hq; exact Go.st (fun t k => XS.isub X.here hx rfl hd rfl k) K
theorem s_imul (X : Stand p l e R s m args below meth c T locs cells slots) (hx : p.tables.exec = Jvm.exec) {x y : Int32} (hd : decode c.code pc = .ok (.imul, 1))  (hq : pc + 1 = q) (K : Go p e below G T m q L (.int (x * y) :: S)) : Go p e below G T m pc L (.int y :: .int x :: S) := by
  subst hq; exact Go.st (fun t k => XS.imul X.here hx rfl hd rfl k) K
theorem s_iand (X : Stand p l e R s m args below meth c T locs cells slots) (hx : p.tables.exec = Jvm.exec) {x y : Int32} (hd : decode c.code pc = .ok (.iand, 1))  (hq : pc + 1 = q) (K : Go p e below G T m q L (.int (x &&& y) :: S)) : Go p e below G T m pc L (.int y :: .int x :: S) := by
  subst hq; exact Go.st (fun t k => XS.iand X.here hx rfl hd rfl k) K
theorem s_ior (X : Stand p l e R s m args below meth c T locs cells slots) (hx : p.tables.exec = Jvm.exec) {x y : Int32} (hd : decode c.code pc = .ok (.ior, 1))  (hq : pc + 1 = q) (K : Go p e below G T m q L (.int (x ||| y) :: S)) : Go p e below G T m pc L (.int y :: .int x :: S) := by
  subst hq; exact Go.st (fun t k => XS.ior X.here hx rfl hd rfl k) K
theorem s_ixor (X : Stand p l e R s m args below meth c T locs cells slots) (hx : p.tables.exec = Jvm.exec) {x y : Int32} (hd : decode c.code pc = .ok (.ixor, 1))  (hq : pc + 1 = q) (K : Go p e below G T m q L (.int (x ^^^ y) :: S)) : Go p e below G T m pc L (.int y :: .int x :: S) := by
  subst hq; exact Go.st (fun t k => XS.ixor X.here hx rfl hd rfl k) K
theorem s_ladd (X : Stand p l e R s m args below meth c T locs cells slots) (hx : p.tables.exec = Jvm.exec) {x y : Int64} (hd : decode c.code pc = .ok (.ladd, 1))  (hq : pc + 1 = q) (K : Go p e below G T m q L (.long (x + y) :: S)) : Go p e below G T m pc L (.long y :: .long x :: S) := by
  subst hq; exact Go.st (fun t k => XS.ladd X.here hx rfl hd rfl k) K
theorem s_lsub (X : Stand p l e R s m args below meth c T locs cells slots) (hx : p.tables.exec = Jvm.exec) {x y : Int64} (hd : decode c.code pc = .ok (.lsub, 1))  (hq : pc + 1 = q) (K : Go p e below G T m q L (.long (x - y) :: S)) : Go p e below G T m pc L (.long y :: .long x :: S) := by
  subst hq; exact Go.st (fun t k => XS.lsub X.here hx rfl hd rfl k) K
theorem s_lmul (X : Stand p l e R s m args below meth c T locs cells slots) (hx : p.tables.exec = Jvm.exec) {x y : Int64} (hd : decode c.code pc = .ok (.lmul, 1))  (hq : pc + 1 = q) (K : Go p e below G T m q L (.long (x * y) :: S)) : Go p e below G T m pc L (.long y :: .long x :: S) := by
  subst hq; exact Go.st (fun t k => XS.lmul X.here hx rfl hd rfl k) K
theorem s_land (X : Stand p l e R s m args below meth c T locs cells slots) (hx : p.tables.exec = Jvm.exec) {x y : Int64} (hd : decode c.code pc = .ok (.land, 1))  (hq : pc + 1 = q) (K : Go p e below G T m q L (.long (x &&& y) :: S)) : Go p e below G T m pc L (.long y :: .long x :: S) := by
  subst hq; exact Go.st (fun t k => XS.land X.here hx rfl hd rfl k) K
theorem s_lor (X : Stand p l e R s m args below meth c T locs cells slots) (hx : p.tables.exec = Jvm.exec) {x y : Int64} (hd : decode c.code pc = .ok (.lor, 1))  (hq : pc + 1 = q) (K : Go p e below G T m q L (.long (x ||| y) :: S)) : Go p e below G T m pc L (.long y :: .long x :: S) := by
  subst hq; exact Go.st (fun t k => XS.lor X.here hx rfl hd rfl k) K
theorem s_lxor (X : Stand p l e R s m args below meth c T locs cells slots) (hx : p.tables.exec = Jvm.exec) {x y : Int64} (hd : decode c.code pc = .ok (.lxor, 1))  (hq : pc + 1 = q) (K : Go p e below G T m q L (.long (x ^^^ y) :: S)) : Go p e below G T m pc L (.long y :: .long x :: S) := by
  subst hq; exact Go.st (fun t k => XS.lxor X.here hx rfl hd rfl k) K
theorem s_ishl (X : Stand p l e R s m args below meth c T locs cells slots) (hx : p.tables.exec = Jvm.exec) {x y : Int32} (hd : decode c.code pc = .ok (.ishl, 1))  (hq : pc + 1 = q) (K : Go p e below G T m q L (.int (x <<< (y &&& 31)) :: S)) : Go p e below G T m pc L (.int y :: .int x :: S) := by
  subst hq; exact Go.st (fun t k => XS.ishl X.here hx rfl hd rfl k) K
theorem s_ishr (X : Stand p l e R s m args below meth c T locs cells slots) (hx : p.tables.exec = Jvm.exec) {x y : Int32} (hd : decode c.code pc = .ok (.ishr, 1))  (hq : pc + 1 = q) (K : Go p e below G T m q L (.int (x >>> (y &&& 31)) :: S)) : Go p e below G T m pc L (.int y :: .int x :: S) := by
  subst hq; exact Go.st (fun t k => XS.ishr X.here hx rfl hd rfl k) K
theorem s_iushr (X : Stand p l e R s m args below meth c T locs cells slots) (hx : p.tables.exec = Jvm.exec) {x y : Int32} (hd : decode c.code pc = .ok (.iushr, 1))  (hq : pc + 1 = q) (K : Go p e below G T m q L (.int ((x.toUInt32 >>> (y &&& 31).toUInt32).toInt32) :: S)) : Go p e below G T m pc L (.int y :: .int x :: S) := by
  subst hq; exact Go.st (fun t k => XS.iushr X.here hx rfl hd rfl k) K
theorem s_lshl (X : Stand p l e R s m args below meth c T locs cells slots) (hx : p.tables.exec = Jvm.exec) {x : Int64} {y : Int32} (hd : decode c.code pc = .ok (.lshl, 1))  (hq : pc + 1 = q) (K : Go p e below G T m q L (.long (x <<< (y &&& 0x3f).toInt64) :: S)) : Go p e below G T m pc L (.int y :: .long x :: S) := by
  subst hq; exact Go.st (fun t k => XS.lshl X.here hx rfl hd rfl k) K
theorem s_lshr (X : Stand p l e R s m args below meth c T locs cells slots) (hx : p.tables.exec = Jvm.exec) {x : Int64} {y : Int32} (hd : decode c.code pc = .ok (.lshr, 1))  (hq : pc + 1 = q) (K : Go p e below G T m q L (.long (x >>> (y &&& 0x3f).toInt64) :: S)) : Go p e below G T m pc L (.int y :: .long x :: S) := by
  subst hq; exact Go.st (fun t k => XS.lshr X.here hx rfl hd rfl k) K
theorem s_lushr (X : Stand p l e R s m args below meth c T locs cells slots) (hx : p.tables.exec = Jvm.exec) {x : Int64} {y : Int32} (hd : decode c.code pc = .ok (.lushr, 1))  (hq : pc + 1 = q) (K : Go p e below G T m q L (.long ((x.toUInt64 >>> (y &&& 0x3f).toInt64.toUInt64).toInt64) :: S)) : Go p e below G T m pc L (.int y :: .long x :: S) := by
  subst hq; exact Go.st (fun t k => XS.lushr X.here hx rfl hd rfl k) K
theorem s_idiv (X : Stand p l e R s m args below meth c T locs cells slots) (hx : p.tables.exec = Jvm.exec) {x y : Int32} (hd : decode c.code pc = .ok (.idiv, 1)) (hy : y ≠ 0) (hq : pc + 1 = q) (K : Go p e below G T m q L (.int (x / y) :: S)) : Go p e below G T m pc L (.int y :: .int x :: S) := by
  subst hq; exact Go.st (fun t k => XS.idiv X.here hx rfl hd rfl hy k) K
theorem s_ldiv (X : Stand p l e R s m args below meth c T locs cells slots) (hx : p.tables.exec = Jvm.exec) {x y : Int64} (hd : decode c.code pc = .ok (.ldiv, 1)) (hy : y ≠ 0) (hq : pc + 1 = q) (K : Go p e below G T m q L (.long (x / y) :: S)) : Go p e below G T m pc L (.long y :: .long x :: S) := by
  subst hq; exact Go.st (fun t k => XS.ldiv X.here hx rfl hd rfl hy k) K
theorem s_ineg (X : Stand p l e R s m args below meth c T locs cells slots) (hx : p.tables.exec = Jvm.exec) {x : Int32} (hd : decode c.code pc = .ok (.ineg, 1))  (hq : pc + 1 = q) (K : Go p e below G T m q L (.int (-x) :: S)) : Go p e below G T m pc L (.int x :: S) := by
  subst hq; exact Go.st (fun t k => XS.ineg X.here hx rfl hd rfl k) K
theorem s_lneg (X : Stand p l e R s m args below meth c T locs cells slots) (hx : p.tables.exec = Jvm.exec) {x : Int64} (hd : decode c.code pc = .ok (.lneg, 1))  (hq : pc + 1 = q) (K : Go p e below G T m q L (.long (-x) :: S)) : Go p e below G T m pc L (.long x :: S) := by
  subst hq; exact Go.st (fun t k => XS.lneg X.here hx rfl hd rfl k) K
theorem s_i2l (X : Stand p l e R s m args below meth c T locs cells slots) (hx : p.tables.exec = Jvm.exec) {x : Int32} (hd : decode c.code pc = .ok (.i2l, 1))  (hq : pc + 1 = q) (K : Go p e below G T m q L (.long x.toInt64 :: S)) : Go p e below G T m pc L (.int x :: S) := by
  subst hq; exact Go.st (fun t k => XS.i2l X.here hx rfl hd rfl k) K
theorem s_l2i (X : Stand p l e R s m args below meth c T locs cells slots) (hx : p.tables.exec = Jvm.exec) {x : Int64} (hd : decode c.code pc = .ok (.l2i, 1))  (hq : pc + 1 = q) (K : Go p e below G T m q L (.int x.toInt32 :: S)) : Go p e below G T m pc L (.long x :: S) := by
  subst hq; exact Go.st (fun t k => XS.l2i X.here hx rfl hd rfl k) K
theorem s_i2b (X : Stand p l e R s m args below meth c T locs cells slots) (hx : p.tables.exec = Jvm.exec) {x : Int32} (hd : decode c.code pc = .ok (.i2b, 1))  (hq : pc + 1 = q) (K : Go p e below G T m q L (.int x.toInt8.toInt32 :: S)) : Go p e below G T m pc L (.int x :: S) := by
  subst hq; exact Go.st (fun t k => XS.i2b X.here hx rfl hd rfl k) K
theorem s_i2c (X : Stand p l e R s m args below meth c T locs cells slots) (hx : p.tables.exec = Jvm.exec) {x : Int32} (hd : decode c.code pc = .ok (.i2c, 1))  (hq : pc + 1 = q) (K : Go p e below G T m q L (.int x.toUInt32.toUInt16.toUInt32.toInt32 :: S)) : Go p e below G T m pc L (.int x :: S) := by
  subst hq; exact Go.st (fun t k => XS.i2c X.here hx rfl hd rfl k) K
theorem s_i2s (X : Stand p l e R s m args below meth c T locs cells slots) (hx : p.tables.exec = Jvm.exec) {x : Int32} (hd : decode c.code pc = .ok (.i2s, 1))  (hq : pc + 1 = q) (K : Go p e below G T m q L (.int x.toInt16.toInt32 :: S)) : Go p e below G T m pc L (.int x :: S) := by
  subst hq; exact Go.st (fun t k => XS.i2s X.here hx rfl hd rfl k) K
theorem s_lcmp (X : Stand p l e R s m args below meth c T locs cells slots) (hx : p.tables.exec = Jvm.exec) {x y : Int64} (hd : decode c.code pc = .ok (.lcmp, 1))  (hq : pc + 1 = q) (K : Go p e below G T m q L (.int (lcmpW x y) :: S)) : Go p e below G T m pc L (.long y :: .long x :: S) := by
  subst hq; exact Go.st (fun t k => XS.lcmp X.here hx rfl hd rfl k) K
theorem s_iinc (X : Stand p l e R s m args below meth c T locs cells slots) (hx : p.tables.exec = Jvm.exec) {k : Nat} {cst : Int} {x w : Int32} (hd : decode c.code pc = .ok (.iinc k cst, 3)) (hl : L[k]? = some (.val (.int x))) (hw : x + Int32.ofInt cst = w) (hl' : storeLocals L k (.int w) = some L') (hq : pc + 3 = q) (K : Go p e below G T m q L' S) : Go p e below G T m pc L S := by
  subst hq hw; exact Go.st (fun t k => XS.iinc X.here hx rfl hd hl hl' k) K
theorem s_dup (X : Stand p l e R s m args below meth c T locs cells slots) (hx : p.tables.exec = Jvm.exec) {x : Value} (hd : decode c.code pc = .ok (.dup, 1)) (hc : x.category = 1) (hq : pc + 1 = q) (K : Go p e below G T m q L (x :: x :: S)) : Go p e below G T m pc L (x :: S) := by
  subst hq; exact Go.st (fun t k => XS.dup X.here hx rfl hd rfl hc k) K
theorem s_dup_x1 (X : Stand p l e R s m args below meth c T locs cells slots) (hx : p.tables.exec = Jvm.exec) {x y : Value} (hd : decode c.code pc = .ok (.dup_x1, 1)) (hc : x.category = 1) (hc' : y.category = 1) (hq : pc + 1 = q) (K : Go p e below G T m q L (x :: y :: x :: S)) : Go p e below G T m pc L (x :: y :: S) := by
  subst hq; exact Go.st (fun t k => XS.dupX1 X.here hx rfl hd rfl hc hc' k) K
theorem s_dup2 (X : Stand p l e R s m args below meth c T locs cells slots) (hx : p.tables.exec = Jvm.exec) {x y : Value} (hd : decode c.code pc = .ok (.dup2, 1)) (hc : x.category = 1) (hc' : y.category = 1) (hq : pc + 1 = q) (K : Go p e below G T m q L (x :: y :: x :: y :: S)) : Go p e below G T m pc L (x :: y :: S) := by
  subst hq; exact Go.st (fun t k => Jvm.Free.XT.dup2 X.here hx rfl hd rfl hc hc' k) K
theorem s_dup2L (X : Stand p l e R s m args below meth c T locs cells slots) (hx : p.tables.exec = Jvm.exec) {x : Int64} (hd : decode c.code pc = .ok (.dup2, 1))  (hq : pc + 1 = q) (K : Go p e below G T m q L (.long x :: .long x :: S)) : Go p e below G T m pc L (.long x :: S) := by
  subst hq; exact Go.st (fun t k => Jvm.Free.XT.dup2L X.here hx rfl hd rfl k) K
theorem s_pop (X : Stand p l e R s m args below meth c T locs cells slots) (hx : p.tables.exec = Jvm.exec) {x : Value} (hd : decode c.code pc = .ok (.pop, 1)) (hc : x.category = 1) (hq : pc + 1 = q) (K : Go p e below G T m q L S) : Go p e below G T m pc L (x :: S) := by
  subst hq; exact Go.st (fun t k => XS.pop X.here hx rfl hd rfl hc k) K
theorem s_goto (X : Stand p l e R s m args below meth c T locs cells slots) (hx : p.tables.exec = Jvm.exec) {o : Int} (hd : decode c.code pc = .ok (.goto o, 3)) (ho : 0 ≤ (pc : Int) + o) (hp : ((pc : Int) + o).toNat = q1) (K : Go p e below G T m q1 L S) : Go p e below G T m pc L S := Go.st (fun t k => XS.goto X.here hx rfl rfl hd ho hp k) K
theorem f_icmp_lt (X : Stand p l e R s m args below meth c T locs cells slots) (hx : p.tables.exec = Jvm.exec) {x y : Int32} {o : Int} (hd : decode c.code pc = .ok (.if_icmp .lt o, 3)) (ho : 0 ≤ (pc : Int) + o) (hp : ((pc : Int) + o).toNat = q1) (hq : pc + 3 = q) (ky : x < y → Go p e below G T m q1 L S) (kn : ¬ x < y → Go p e below G T m q L S) : Go p e below G T m pc L (.int y :: .int x :: S) := by
  subst hq
  by_cases h : x < y
  · exact Go.st (fun t k => XS.icmpYes X.here hx rfl rfl hd rfl (tlt h).1 ho hp k) (ky h)
  · exact Go.st (fun t k => XS.icmpNo X.here hx rfl hd rfl (flt h).1 k) (kn h)
theorem f_if_lt (X : Stand p l e R s m args below meth c T locs cells slots) (hx : p.tables.exec = Jvm.exec) {x : Int32} {o : Int} (hd : decode c.code pc = .ok (.ifCond .lt o, 3)) (ho : 0 ≤ (pc : Int) + o) (hp : ((pc : Int) + o).toNat = q1) (hq : pc + 3 = q) (ky : x < 0 → Go p e below G T m q1 L S) (kn : ¬ x < 0 → Go p e below G T m q L S) : Go p e below G T m pc L (.int x :: S) := by
  subst hq
  by_cases h : x < 0
  · exact Go.st (fun t k => XS.ifYes X.here hx rfl rfl hd rfl ((if0 _ _).trans (tlt h).1) ho hp k) (ky h)
  · exact Go.st (fun t k => XS.ifNo X.here hx rfl hd rfl ((if0 _ _).trans (flt h).1) k) (kn h)
theorem f_lcmp_lt (X : Stand p l e R s m args below meth c T locs cells slots) (hx : p.tables.exec = Jvm.exec) {x y : Int64} {o : Int} (hd : decode c.code pc = .ok (.ifCond .lt o, 3)) (ho : 0 ≤ (pc : Int) + o) (hp : ((pc : Int) + o).toNat = q1) (hq : pc + 3 = q) (ky : x < y → Go p e below G T m q1 L S) (kn : ¬ x < y → Go p e below G T m q L S) : Go p e below G T m pc L (.int (lcmpW x y) :: S) :=
  f_if_lt X hx hd ho hp hq (fun h => ky ((lw_lt x y).mp h)) (fun h => kn (fun g => h ((lw_lt x y).mpr g)))
theorem f_icmp_ge (X : Stand p l e R s m args below meth c T locs cells slots) (hx : p.tables.exec = Jvm.exec) {x y : Int32} {o : Int} (hd : decode c.code pc = .ok (.if_icmp .ge o, 3)) (ho : 0 ≤ (pc : Int) + o) (hp : ((pc : Int) + o).toNat = q1) (hq : pc + 3 = q) (ky : ¬ x < y → Go p e below G T m q1 L S) (kn : x < y → Go p e below G T m q L S) : Go p e below G T m pc L (.int y :: .int x :: S) := by
  subst hq
  by_cases h : x < y
  · exact Go.st (fun t k => XS.icmpNo X.here hx rfl hd rfl (tlt h).2.1 k) (kn h)
  · exact Go.st (fun t k => XS.icmpYes X.here hx rfl rfl hd rfl (flt h).2.1 ho hp k) (ky h)
theorem f_if_ge (X : Stand p l e R s m args below meth c T locs cells slots) (hx : p.tables.exec = Jvm.exec) {x : Int32} {o : Int} (hd : decode c.code pc = .ok (.ifCond .ge o, 3)) (ho : 0 ≤ (pc : Int) + o) (hp : ((pc : Int) + o).toNat = q1) (hq : pc + 3 = q) (ky : ¬ x < 0 → Go p e below G T m q1 L S) (kn : x < 0 → Go p e below G T m q L S) : Go p e below G T m pc L (.int x :: S) := by
  subst hq
  by_cases h : x < 0
  · exact Go.st (fun t k => XS.ifNo X.here hx rfl hd rfl ((if0 _ _).trans (tlt h).2.1) k) (kn h)
  · exact Go.st (fun t k => XS.ifYes X.here hx rfl rfl hd rfl ((if0 _ _).trans (flt h).2.1) ho hp k) (ky h)
theorem f_lcmp_ge (X : Stand p l e R s m args below meth c T locs cells slots) (hx : p.tables.exec = Jvm.exec) {x y : Int64} {o : Int} (hd : decode c.code pc = .ok (.ifCond .ge o, 3)) (ho : 0 ≤ (pc : Int) + o) (hp : ((pc : Int) + o).toNat = q1) (hq : pc + 3 = q) (ky : ¬ x < y → Go p e below G T m q1 L S) (kn : x < y → Go p e below G T m q L S) : Go p e below G T m pc L (.int (lcmpW x y) :: S) :=
  f_if_ge X hx hd ho hp hq (fun h => ky (fun g => h ((lw_lt x y).mpr g))) (fun h => kn ((lw_lt x y).mp h))
theorem f_icmp_gt (X : Stand p l e R s m args below meth c T locs cells slots) (hx : p.tables.exec = Jvm.exec) {x y : Int32} {o : Int} (hd : decode c.code pc = .ok (.if_icmp .gt o, 3)) (ho : 0 ≤ (pc : Int) + o) (hp : ((pc : Int) + o).toNat = q1) (hq : pc + 3 = q) (ky : y < x → Go p e below G T m q1 L S) (kn : ¬ y < x → Go p e below G T m q L S) : Go p e below G T m pc L (.int y :: .int x :: S) := by
  subst hq
  by_cases h : y < x
  · exact Go.st (fun t k => XS.icmpYes X.here hx rfl rfl hd rfl (tlt h).2.2.1 ho hp k) (ky h)
  · exact Go.st (fun t k => XS.icmpNo X.here hx rfl hd rfl (flt h).2.2.1 k) (kn h)
theorem f_if_gt (X : Stand p l e R s m args below meth c T locs cells slots) (hx : p.tables.exec = Jvm.exec) {x : Int32} {o : Int} (hd : decode c.code pc = .ok (.ifCond .gt o, 3)) (ho : 0 ≤ (pc : Int) + o) (hp : ((pc : Int) + o).toNat = q1) (hq : pc + 3 = q) (ky : 0 < x → Go p e below G T m q1 L S) (kn : ¬ 0 < x → Go p e below G T m q L S) : Go p e below G T m pc L (.int x :: S) := by
  subst hq
  by_cases h : 0 < x
  · exact Go.st (fun t k => XS.ifYes X.here hx rfl rfl hd rfl ((if0 _ _).trans (tlt h).2.2.1) ho hp k) (ky h)
  · exact Go.st (fun t k => XS.ifNo X.here hx rfl hd rfl ((if0 _ _).trans (flt h).2.2.1) k) (kn h)
theorem f_lcmp_gt (X : Stand p l e R s m args below meth c T locs cells slots) (hx : p.tables.exec = Jvm.exec) {x y : Int64} {o : Int} (hd : decode c.code pc = .ok (.ifCond .gt o, 3)) (ho : 0 ≤ (pc : Int) + o) (hp : ((pc : Int) + o).toNat = q1) (hq : pc + 3 = q) (ky : y < x → Go p e below G T m q1 L S) (kn : ¬ y < x → Go p e below G T m q L S) : Go p e below G T m pc L (.int (lcmpW x y) :: S) :=
  f_if_gt X hx hd ho hp hq (fun h => ky ((lw_gt x y).mp h)) (fun h => kn (fun g => h ((lw_gt x y).mpr g)))
theorem f_icmp_le (X : Stand p l e R s m args below meth c T locs cells slots) (hx : p.tables.exec = Jvm.exec) {x y : Int32} {o : Int} (hd : decode c.code pc = .ok (.if_icmp .le o, 3)) (ho : 0 ≤ (pc : Int) + o) (hp : ((pc : Int) + o).toNat = q1) (hq : pc + 3 = q) (ky : ¬ y < x → Go p e below G T m q1 L S) (kn : y < x → Go p e below G T m q L S) : Go p e below G T m pc L (.int y :: .int x :: S) := by
  subst hq
  by_cases h : y < x
  · exact Go.st (fun t k => XS.icmpNo X.here hx rfl hd rfl (tlt h).2.2.2 k) (kn h)
  · exact Go.st (fun t k => XS.icmpYes X.here hx rfl rfl hd rfl (flt h).2.2.2 ho hp k) (ky h)
theorem f_if_le (X : Stand p l e R s m args below meth c T locs cells slots) (hx : p.tables.exec = Jvm.exec) {x : Int32} {o : Int} (hd : decode c.code pc = .ok (.ifCond .le o, 3)) (ho : 0 ≤ (pc : Int) + o) (hp : ((pc : Int) + o).toNat = q1) (hq : pc + 3 = q) (ky : ¬ 0 < x → Go p e below G T m q1 L S) (kn : 0 < x → Go p e below G T m q L S) : Go p e below G T m pc L (.int x :: S) := by
  subst hq
  by_cases h : 0 < x
  · exact Go.st (fun t k => XS.ifNo X.here hx rfl hd rfl ((if0 _ _).trans (tlt h).2.2.2) k) (kn h)
  · exact Go.st (fun t k => XS.ifYes X.here hx rfl rfl hd rfl ((if0 _ _).trans (flt h).2.2.2) ho hp k) (ky h)
theorem f_lcmp_le (X : Stand p l e R s m args below meth c T locs cells slots) (hx : p.tables.exec = Jvm.exec) {x y : Int64} {o : Int} (hd : decode c.code pc = .ok (.ifCond .le o, 3)) (ho : 0 ≤ (pc : Int) + o) (hp : ((pc : Int) + o).toNat = q1) (hq : pc + 3 = q) (ky : ¬ y < x → Go p e below G T m q1 L S) (kn : y < x → Go p e below G T m q L S) : Go p e below G T m pc L (.int (lcmpW x y) :: S) :=
  f_if_le X hx hd ho hp hq (fun h => ky (fun g => h ((lw_gt x y).mpr g))) (fun h => kn ((lw_gt x y).mp h))
theorem f_icmp_eq (X : Stand p l e R s m args below meth c T locs cells slots) (hx : p.tables.exec = Jvm.exec) {x y : Int32} {o : Int} (hd : decode c.code pc = .ok (.if_icmp .eq o, 3)) (ho : 0 ≤ (pc : Int) + o) (hp : ((pc : Int) + o).toNat = q1) (hq : pc + 3 = q) (ky : x = y → Go p e below G T m q1 L S) (kn : ¬ x = y → Go p e below G T m q L S) : Go p e below G T m pc L (.int y :: .int x :: S) := by
  subst hq
  by_cases h : x = y
  · exact Go.st (fun t k => XS.icmpYes X.here hx rfl rfl hd rfl (teq h).1 ho hp k) (ky h)
  · exact Go.st (fun t k => XS.icmpNo X.here hx rfl hd rfl (feq h).1 k) (kn h)
theorem f_if_eq (X : Stand p l e R s m args below meth c T locs cells slots) (hx : p.tables.exec = Jvm.exec) {x : Int32} {o : Int} (hd : decode c.code pc = .ok (.ifCond .eq o, 3)) (ho : 0 ≤ (pc : Int) + o) (hp : ((pc : Int) + o).toNat = q1) (hq : pc + 3 = q) (ky : x = 0 → Go p e below G T m q1 L S) (kn : ¬ x = 0 → Go p e below G T m q L S) : Go p e below G T m pc L (.int x :: S) := by
  subst hq
  by_cases h : x = 0
  · exact Go.st (fun t k => XS.ifYes X.here hx rfl rfl hd rfl ((if0 _ _).trans (teq h).1) ho hp k) (ky h)
  · exact Go.st (fun t k => XS.ifNo X.here hx rfl hd rfl ((if0 _ _).trans (feq h).1) k) (kn h)
theorem f_lcmp_eq (X : Stand p l e R s m args below meth c T locs cells slots) (hx : p.tables.exec = Jvm.exec) {x y : Int64} {o : Int} (hd : decode c.code pc = .ok (.ifCond .eq o, 3)) (ho : 0 ≤ (pc : Int) + o) (hp : ((pc : Int) + o).toNat = q1) (hq : pc + 3 = q) (ky : x = y → Go p e below G T m q1 L S) (kn : ¬ x = y → Go p e below G T m q L S) : Go p e below G T m pc L (.int (lcmpW x y) :: S) :=
  f_if_eq X hx hd ho hp hq (fun h => ky ((lw_eq x y).mp h)) (fun h => kn (fun g => h ((lw_eq x y).mpr g)))
theorem f_icmp_ne (X : Stand p l e R s m args below meth c T locs cells slots) (hx : p.tables.exec = Jvm.exec) {x y : Int32} {o : Int} (hd : decode c.code pc = .ok (.if_icmp .ne o, 3)) (ho : 0 ≤ (pc : Int) + o) (hp : ((pc : Int) + o).toNat = q1) (hq : pc + 3 = q) (ky : ¬ x = y → Go p e below G T m q1 L S) (kn : x = y → Go p e below G T m q L S) : Go p e below G T m pc L (.int y :: .int x :: S) := by
  subst hq
  by_cases h : x = y
  · exact Go.st (fun t k => XS.icmpNo X.here hx rfl hd rfl (teq h).2 k) (kn h)
  · exact Go.st (fun t k => XS.icmpYes X.here hx rfl rfl hd rfl (feq h).2 ho hp k) (ky h)
theorem f_if_ne (X : Stand p l e R s m args below meth c T locs cells slots) (hx : p.tables.exec = Jvm.exec) {x : Int32} {o : Int} (hd : decode c.code pc = .ok (.ifCond .ne o, 3)) (ho : 0 ≤ (pc : Int) + o) (hp : ((pc : Int) + o).toNat = q1) (hq : pc + 3 = q) (ky : ¬ x = 0 → Go p e below G T m q1 L S) (kn : x = 0 → Go p e below G T m q L S) : Go p e below G T m pc L (.int x :: S) := by
  subst hq
  by_cases h : x = 0
  · exact Go.st (fun t k => XS.ifNo X.here hx rfl hd rfl ((if0 _ _).trans (teq h).2) k) (kn h)
  · exact Go.st (fun t k => XS.ifYes X.here hx rfl rfl hd rfl ((if0 _ _).trans (feq h).2) ho hp k) (ky h)
theorem f_lcmp_ne (X : Stand p l e R s m args below meth c T locs cells slots) (hx : p.tables.exec = Jvm.exec) {x y : Int64} {o : Int} (hd : decode c.code pc = .ok (.ifCond .ne o, 3)) (ho : 0 ≤ (pc : Int) + o) (hp : ((pc : Int) + o).toNat = q1) (hq : pc + 3 = q) (ky : ¬ x = y → Go p e below G T m q1 L S) (kn : x = y → Go p e below G T m q L S) : Go p e below G T m pc L (.int (lcmpW x y) :: S) :=
  f_if_ne X hx hd ho hp hq (fun h => ky (fun g => h ((lw_eq x y).mpr g))) (fun h => kn ((lw_eq x y).mp h))
theorem s_ifnullYes (X : Stand p l e R s m args below meth c T locs cells slots) (hx : p.tables.exec = Jvm.exec) {o : Int} (hd : decode c.code pc = .ok (.ifnull o, 3)) (ho : 0 ≤ (pc : Int) + o) (hp : ((pc : Int) + o).toNat = q1) (K : Go p e below G T m q1 L S) : Go p e below G T m pc L (.null :: S) := Go.st (fun t k => XS.ifnullYes X.here hx rfl rfl hd rfl ho hp k) K
theorem s_ifnullNo (X : Stand p l e R s m args below meth c T locs cells slots) (hx : p.tables.exec = Jvm.exec) {o : Int} {b : Addr} (hd : decode c.code pc = .ok (.ifnull o, 3))  (hq : pc + 3 = q) (K : Go p e below G T m q L S) : Go p e below G T m pc L (.ref b :: S) := by
  subst hq; exact Go.st (fun t k => XS.ifnullNo X.here hx rfl hd rfl k) K
theorem s_ifnonnullYes (X : Stand p l e R s m args below meth c T locs cells slots) (hx : p.tables.exec = Jvm.exec) {o : Int} {b : Addr} (hd : decode c.code pc = .ok (.ifnonnull o, 3)) (ho : 0 ≤ (pc : Int) + o) (hp : ((pc : Int) + o).toNat = q1) (K : Go p e below G T m q1 L S) : Go p e below G T m pc L (.ref b :: S) := Go.st (fun t k => XS.ifnonnullYes X.here hx rfl rfl hd rfl ho hp k) K
theorem s_ifnonnullNo (X : Stand p l e R s m args below meth c T locs cells slots) (hx : p.tables.exec = Jvm.exec) {o : Int} (hd : decode c.code pc = .ok (.ifnonnull o, 3))  (hq : pc + 3 = q) (K : Go p e below G T m q L S) : Go p e below G T m pc L (.null :: S) := by
  subst hq; exact Go.st (fun t k => XS.ifnonnullNo X.here hx rfl hd rfl k) K
variable {Z : State} {a0 : Array Value} {h h' : Heap} {a b : Addr} {own C O n d : String} {v : Value} {n0 : Nat}
theorem s_ldc (X : Stand p l e R s m args below meth c T locs cells slots) (hx : p.tables.exec = Jvm.exec) (hZ : Z.Warmed39 s.vm) (hown : s.vm.findClass own = some m.cls) {index : Nat} {z : Int32} (w : (Jvm.Cond.constant own index z).before a0 Z = true) (hd : decode c.code pc = .ok (.ldc index, 2)) (hq : pc + 2 = q) (K : Go p e below G T m q L (.int z :: S)) : Go p e below G T m pc L S := by
  subst hq; exact Go.st (fun t k => X.ldcInt hx hown (mvT hZ w) (g := mkF m pc L S) rfl hd t k) K
theorem s_ldcw (X : Stand p l e R s m args below meth c T locs cells slots) (hx : p.tables.exec = Jvm.exec) (hZ : Z.Warmed39 s.vm) (hown : s.vm.findClass own = some m.cls) {index : Nat} {z : Int32} (w : (Jvm.Cond.constant own index z).before a0 Z = true) (hd : decode c.code pc = .ok (.ldc_w index, 3)) (hq : pc + 3 = q) (K : Go p e below G T m q L (.int z :: S)) : Go p e below G T m pc L S := by
  subst hq; exact Go.st (fun t k => X.ldcwInt hx hown (mvT hZ w) (g := mkF m pc L S) rfl hd t k) K
theorem s_ldc2 (X : Stand p l e R s m args below meth c T locs cells slots) (hx : p.tables.exec = Jvm.exec) (hZ : Z.Warmed39 s.vm) (hown : s.vm.findClass own = some m.cls) {index : Nat} {z : Int64} (w : (Jvm.Cond.constantLong own index z).before a0 Z = true) (hd : decode c.code pc = .ok (.ldc2_w index, 3)) (hq : pc + 3 = q) (K : Go p e below G T m q L (.long z :: S)) : Go p e below G T m pc L S := by
  subst hq; exact Go.st (fun t k => X.ldc2Long hx hown (mvT hZ w) (g := mkF m pc L S) rfl hd t k) K
theorem s_lrem (X : Stand p l e R s m args below meth c T locs cells slots) (hx : p.tables.exec = Jvm.exec) {x y : Int64} (hd : decode c.code pc = .ok (.lrem, 1)) (hy : y ≠ 0) (hq : pc + 1 = q) (K : Go p e below G T m q L (.long (x % y) :: S)) : Go p e below G T m pc L (.long y :: .long x :: S) := by
  subst hq; rw [← lrem_mod] at K; exact Go.st (fun t k => XS.lrem X.here hx rfl hd rfl hy k) K
theorem irem_mod (x y : Int32) : x - (x / y) * y = x % y := by
  apply Int32.toInt_inj.mp
  have h1 := Int32.le_toInt (x % y)
  have h2 := Int32.toInt_lt (x % y)
  rw [Int32.toInt_sub, Int32.toInt_mul, Int32.toInt_div, Int.bmod_mul_bmod, Int.sub_bmod_bmod, Int.mul_comm (x.toInt.tdiv y.toInt), ← Int.tmod_def, ← Int32.toInt_mod]
  exact Int.bmod_eq_of_le_mul_two (by omega) (by omega)
theorem s_irem (X : Stand p l e R s m args below meth c T locs cells slots) (hx : p.tables.exec = Jvm.exec) {x y : Int32} (hd : decode c.code pc = .ok (.irem, 1)) (hy : y ≠ 0) (hq : pc + 1 = q) (K : Go p e below G T m q L (.int (x % y) :: S)) : Go p e below G T m pc L (.int y :: .int x :: S) := by
  subst hq; rw [← irem_mod] at K; exact Go.st (fun t k => XS.irem X.here hx rfl hd rfl hy k) K
theorem leafI (X : Stand p l e R s m args below meth c T locs cells slots) (hx : p.tables.exec = Jvm.exec) {z : Int32} {Q : Option Value → Heap → List Loc → Prop} {C N : Nat} (hlk : meth.locks = false) (hret : meth.sig.returnType = some .int) (hd : decode c.code pc = .ok (.ireturn, 1)) (hc : cells ≤ C) (hn : slots ≤ N) (hQ : Q (some (.int z)) T.heap locs) : Go p e below (Gl s below Q C N) T m pc L (.int z :: S) := by
  obtain ⟨fs, hr, hrun, hended, hW, hsame⟩ := X.leave (v := some (.int z)) (fun h => by rw [hret] at h; cases h) hlk
  exact ⟨_, retI X hx hret hd hr, _, hrun, hended, _, _, rfl, hQ, ⟨_, rfl⟩, hW, hsame.mono hc hn⟩
theorem leafN (X : Stand p l e R s m args below meth c T locs cells slots) (hx : p.tables.exec = Jvm.exec) {t : FieldType} {z z' : Int32} {Q : Option Value → Heap → List Loc → Prop} {C N : Nat} (hlk : meth.locks = false) (hret : meth.sig.returnType = some t) (ht : t = .boolean ∨ t = .byte ∨ t = .char ∨ t = .short) (hd : decode c.code pc = .ok (.ireturn, 1)) (hc : cells ≤ C) (hn : slots ≤ N) (hz : nar t z = z') (hQ : Q (some (.int z')) T.heap locs) : Go p e below (Gl s below Q C N) T m pc L (.int z :: S) := by
  subst hz
  obtain ⟨fs, hr, hrun, hended, hW, hsame⟩ := X.leave (v := some (.int (nar t z))) (fun h => by rw [hret] at h; cases h) hlk
  exact ⟨_, retN X hx hret ht hd hr, _, hrun, hended, _, _, rfl, hQ, ⟨_, rfl⟩, hW, hsame.mono hc hn⟩
theorem leafJ (X : Stand p l e R s m args below meth c T locs cells slots) (hx : p.tables.exec = Jvm.exec) {z : Int64} {Q : Option Value → Heap → List Loc → Prop} {C N : Nat} (hlk : meth.locks = false) (hret : meth.sig.returnType = some .long) (hd : decode c.code pc = .ok (.lreturn, 1)) (hc : cells ≤ C) (hn : slots ≤ N) (hQ : Q (some (.long z)) T.heap locs) : Go p e below (Gl s below Q C N) T m pc L (.long z :: S) := by
  obtain ⟨fs, hr, hrun, hended, hW, hsame⟩ := X.leave (v := some (.long z)) (fun h => by rw [hret] at h; cases h) hlk
  refine ⟨_, ?_, _, hrun, hended, _, _, rfl, hQ, ⟨_, rfl⟩, hW, hsame.mono hc hn⟩
  show Steps p.tables e below (T.setTop { method := m, pc := pc, locals := L, stack := .long z :: S, locked := none }) _
  jvm_step X.here [X.here.top, hx, hd, X.method', hret, narrow]
  first | (intro acts; rw [hr _ acts rfl rfl rfl]) | rw [hr _ _ rfl rfl rfl]
  exact Steps.refl _
theorem leafA (X : Stand p l e R s m args below meth c T locs cells slots) (hx : p.tables.exec = Jvm.exec) {v : Value} {t : FieldType} {Q : Option Value → Heap → List Loc → Prop} {C N : Nat} (hlk : meth.locks = false) (hret : meth.sig.returnType = some t) (ht : t.isReference = true) (hv : v.isRef = true) (hd : decode c.code pc = .ok (.areturn, 1)) (hc : cells ≤ C) (hn : slots ≤ N) (hQ : Q (some v) T.heap locs) : Go p e below (Gl s below Q C N) T m pc L (v :: S) := by
  obtain ⟨fs, hr, hrun, hended, hW, hsame⟩ := X.leave (v := some v) (fun h => by rw [hret] at h; cases h) hlk
  refine ⟨_, ?_, _, hrun, hended, _, _, rfl, hQ, ⟨_, rfl⟩, hW, hsame.mono hc hn⟩
  show Steps p.tables e below (T.setTop { method := m, pc := pc, locals := L, stack := v :: S, locked := none }) _
  jvm_step X.here [X.here.top, hx, hd, X.method', hret, hv, ht]
  first | (intro acts; rw [hr _ acts rfl rfl rfl]) | rw [hr _ _ rfl rfl rfl]
  exact Steps.refl _
theorem leafV (X : Stand p l e R s m args below meth c T locs cells slots) (hx : p.tables.exec = Jvm.exec) {Q : Option Value → Heap → List Loc → Prop} {C N : Nat} (hlk : meth.locks = false) (hret : meth.sig.returnType = none) (hd : decode c.code pc = .ok (.return_, 1)) (hc : cells ≤ C) (hn : slots ≤ N) (hQ : Q none T.heap locs) : Go p e below (Gl s below Q C N) T m pc L [] := by
  obtain ⟨fs, hr, hrun, hended, hW, hsame⟩ := X.leave (v := none) (fun _ => rfl) hlk
  exact ⟨_, X.returnOut hx hret hd hr, _, hrun, hended, _, _, rfl, hQ, ⟨_, rfl⟩, hW, hsame.mono hc hn⟩
/-- a call by a contract -/
theorem callC (X : Stand p l e R s m args below meth c T locs cells slots) (hx : p.tables.exec = Jvm.exec) (hZ : Z.Warmed39 s.vm) (hown : s.vm.findClass own = some m.cls) {index : Nat} {y : MethodName} {bytes : ByteArray} {maxL : Nat} {ret : Option FieldType} {rm : Room} {Q : Option Value → Heap → List Loc → Prop} {W : Nat} {argsL rest : List Value}
    (w1 : (Jvm.Cond.methodLink own index y).before a0 Z = true) (w2 : (Jvm.Cond.static y).before a0 Z = true) (w3 : (Jvm.Cond.initialized y.cls).before a0 Z = true) (w4 : (Jvm.Cond.code y bytes maxL ret).before a0 Z = true) (hy : y.cls ≠ "java/lang/invoke/MethodHandle" ∧ y.cls ≠ "java/lang/invoke/VarHandle")
    (K : Ctr l y bytes maxL ret [] rm Z argsL.toArray h Q rm.cells rm.slots) (eT : T.heap = h) (hf : rm.frames + 1 ≤ R.frames) (hl : W + (maxL + 11) + rm.locals ≤ R.locals) (hc : cells + rm.cells ≤ R.cells) (hn : slots + rm.slots ≤ R.slots) (hsize : L.size = c.maxLocals)
    {ps : List FieldType} {r : Option FieldType} (hlen : parseMethodDescriptor y.desc = some ⟨ps, r⟩) (hl2 : argsL.length = ps.length) (hS : S = argsL.reverse ++ rest) (hW : (rest.map fun v => v.category).sum ≤ W) (hd : decode c.code pc = .ok (.invokestatic index, 3)) (hq : pc + 3 = q)
    (k : ∀ (v : Option Value) (T' : State) (Lc : List Loc), Q v T'.heap Lc → Stand p l e R s m args below meth c T' (locs ++ Lc) (cells + rm.cells) (slots + rm.slots) → Go p e below G T' m q L (v.toList ++ rest)) : Go p e below G T m pc L S := by
  subst hq hS
  obtain ⟨v, _, ⟨T', L', k', n'⟩, -, X', ⟨Lc, hQ, l1, y1, z1⟩, st⟩ := Jvm.LawKit.callS X hx (y := y) hown (mvT hZ w1) (mvT hZ w2) (mvT hZ w3) (mvT hZ w4) hy (backOf (W := W) K hZ w4 w3 hf hl) (g := mkF m pc L (argsL.reverse ++ rest)) rfl hsize (argsL := argsL) (rest := rest) (lenOf hlen hl2) rfl (by show 2 * 0 + _ ≤ _; omega) hd (fun _ _ => ⟨rfl, eT, hc, hn⟩)
  dsimp only [Pt.U, Pt.locs, Pt.cells, Pt.slots] at X' l1 y1 z1 st hQ
  subst l1 y1 z1
  exact Go.st st (k v T' Lc hQ X')
/-- what a pure body leaves -/
def PQ (w : Value) (h0 : Heap) (v : Option Value) (h : Heap) (L : List Loc) : Prop := v = some w ∧ h = h0 ∧ L = []
theorem callP (X : Stand p l e R s m args below meth c T locs cells slots) (hx : p.tables.exec = Jvm.exec) (hZ : Z.Warmed39 s.vm) (hown : s.vm.findClass own = some m.cls) {index : Nat} {y : MethodName} {bytes : ByteArray} {maxL : Nat} {ret : Option FieldType} {rm : Room} {w : Value} {W : Nat} {argsL rest : List Value}
    (w1 : (Jvm.Cond.methodLink own index y).before a0 Z = true) (w2 : (Jvm.Cond.static y).before a0 Z = true) (w3 : (Jvm.Cond.initialized y.cls).before a0 Z = true) (w4 : (Jvm.Cond.code y bytes maxL ret).before a0 Z = true) (hy : y.cls ≠ "java/lang/invoke/MethodHandle" ∧ y.cls ≠ "java/lang/invoke/VarHandle")
    (K : Ctr l y bytes maxL ret [] rm Z argsL.toArray h (PQ w h) 0 0) (hrc : rm.cells = 0) (hrs : rm.slots = 0) (eT : T.heap = h) (hf : rm.frames + 1 ≤ R.frames) (hl : W + (maxL + 11) + rm.locals ≤ R.locals) (hc : cells ≤ R.cells) (hn : slots ≤ R.slots) (hsize : L.size = c.maxLocals)
    {ps : List FieldType} {r : Option FieldType} (hlen : parseMethodDescriptor y.desc = some ⟨ps, r⟩) (hl2 : argsL.length = ps.length) (hS : S = argsL.reverse ++ rest) (hW : (rest.map fun v => v.category).sum ≤ W) (hd : decode c.code pc = .ok (.invokestatic index, 3)) (hq : pc + 3 = q)
    (k : ∀ (T' : State), Stand p l e R s m args below meth c T' locs cells slots → T'.heap = h → Go p e below G T' m q L (w :: rest)) : Go p e below G T m pc L S := by
  refine callC X hx hZ hown w1 w2 w3 w4 hy (rm := rm) (Q := PQ w h) (by rw [hrc, hrs]; exact K) eT hf hl (by rw [hrc]; exact hc) (by rw [hrs]; exact hn) hsize hlen hl2 hS hW hd hq ?_
  rintro v T' Lc ⟨rfl, e', rfl⟩ X'
  rw [List.append_nil, hrc, hrs] at X'
  exact k T' X' e'
theorem callV (X : Stand p l e R s m args below meth c T locs cells slots) (hx : p.tables.exec = Jvm.exec) (hZ : Z.Warmed39 s.vm) (hown : s.vm.findClass own = some m.cls) {index : Nat} {y : MethodName} {bytes : ByteArray} {maxL : Nat} {ret : Option FieldType} {rm : Room} {Q : Option Value → Heap → List Loc → Prop} {W : Nat} {argsL rest : List Value}
    (w1 : (Jvm.Cond.methodLink own index y).before a0 Z = true) (w2 : (Jvm.Cond.declares y).before a0 Z = true) (w3 : (Jvm.Cond.selects y.cls y y).before a0 Z = true) (w5 : (Jvm.Cond.instanceMethod y).before a0 Z = true) (w6 : (Jvm.Cond.initialized y.cls).before a0 Z = true) (w4 : (Jvm.Cond.code y bytes maxL ret).before a0 Z = true) (hy : y.cls ≠ "java/lang/invoke/MethodHandle" ∧ y.cls ≠ "java/lang/invoke/VarHandle")
    (A : Exa Z h a y.cls) (K : Ctr l y bytes maxL ret [] rm Z (.ref a :: argsL).toArray h Q rm.cells rm.slots) (eT : T.heap = h) (hf : rm.frames + 1 ≤ R.frames) (hl : W + (maxL + 11) + rm.locals ≤ R.locals) (hc : cells + rm.cells ≤ R.cells) (hn : slots + rm.slots ≤ R.slots) (hsize : L.size = c.maxLocals)
    {ps : List FieldType} {r : Option FieldType} (hlen : parseMethodDescriptor y.desc = some ⟨ps, r⟩) (hl2 : argsL.length = ps.length) (hS : S = argsL.reverse ++ .ref a :: rest) (hW : (rest.map fun v => v.category).sum ≤ W) (hd : decode c.code pc = .ok (.invokevirtual index, 3)) (hq : pc + 3 = q)
    (k : ∀ (v : Option Value) (T' : State) (Lc : List Loc), Q v T'.heap Lc → Stand p l e R s m args below meth c T' (locs ++ Lc) (cells + rm.cells) (slots + rm.slots) → Go p e below G T' m q L (v.toList ++ rest)) : Go p e below G T m pc L S := by
  subst hq hS
  obtain ⟨cq, kq, qa, qb, qc⟩ := isOf hZ eT A
  obtain ⟨v, _, ⟨T', L', k', n'⟩, -, X', ⟨Lc, hQ, l1, y1, z1⟩, st⟩ := X.virtualBack hx (y := y) (z := y) hown (mvT hZ w1) (mvT hZ w2) (notFace_of_selects (args := #[]) (mvT hZ w3)) (mvT hZ w3) (mvT hZ w5) hy (backOf (W := W) K hZ w4 w6 hf hl) qa qc (g := mkF m pc L (argsL.reverse ++ .ref a :: rest)) rfl hsize (Steps.refl _) (argsL := argsL) (rest := rest) (lenOf hlen hl2) rfl (by show 2 * 0 + _ ≤ _; omega) hd (fun _ _ => ⟨rfl, eT, hc, hn⟩)
  dsimp only [Pt.U, Pt.locs, Pt.cells, Pt.slots] at X' l1 y1 z1 st hQ
  subst l1 y1 z1
  exact Go.st (fun t h => st.trans h) (k v T' Lc hQ X')
theorem callI (X : Stand p l e R s m args below meth c T locs cells slots) (hx : p.tables.exec = Jvm.exec) (hZ : Z.Warmed39 s.vm) (hown : s.vm.findClass own = some m.cls) {index : Nat} {y : MethodName} {bytes : ByteArray} {maxL : Nat} {rm : Room} {Q : Option Value → Heap → List Loc → Prop} {W : Nat} {argsL rest : List Value} (hyn : y.name = "<init>")
    (w1 : (Jvm.Cond.methodLink own index y).before a0 Z = true) (w5 : (Jvm.Cond.instanceMethod y).before a0 Z = true) (w6 : (Jvm.Cond.initialized y.cls).before a0 Z = true) (w4 : (Jvm.Cond.code y bytes maxL none).before a0 Z = true) (hy : y.cls ≠ "java/lang/invoke/MethodHandle" ∧ y.cls ≠ "java/lang/invoke/VarHandle")
    (K : Ctr l y bytes maxL none [] rm Z (.ref a :: argsL).toArray h Q rm.cells rm.slots) (eT : T.heap = h) (hf : rm.frames + 1 ≤ R.frames) (hl : W + (maxL + 11) + rm.locals ≤ R.locals) (hc : cells + rm.cells ≤ R.cells) (hn : slots + rm.slots ≤ R.slots) (hsize : L.size = c.maxLocals)
    {ps : List FieldType} {r : Option FieldType} (hlen : parseMethodDescriptor y.desc = some ⟨ps, r⟩) (hl2 : argsL.length = ps.length) (hS : S = argsL.reverse ++ .ref a :: rest) (hW : (rest.map fun v => v.category).sum ≤ W) (hd : decode c.code pc = .ok (.invokespecial index, 3)) (hq : pc + 3 = q)
    (k : ∀ (v : Option Value) (T' : State) (Lc : List Loc), Q v T'.heap Lc → Stand p l e R s m args below meth c T' (locs ++ Lc) (cells + rm.cells) (slots + rm.slots) → Go p e below G T' m q L (v.toList ++ rest)) : Go p e below G T m pc L S := by
  subst hq hS
  obtain ⟨v, _, ⟨T', L', k', n'⟩, -, X', ⟨Lc, hQ, l1, y1, z1⟩, st⟩ := X.specialBack hx (y := y) hyn hown (mvT hZ w1) (mvT hZ w5) (mvT hZ w4) hy (backOf (W := W) K hZ w4 w6 hf hl) (g := mkF m pc L (argsL.reverse ++ .ref a :: rest)) rfl hsize (Steps.refl _) (a := a) (argsL := argsL) (rest := rest) (lenOf hlen hl2) rfl (by show 2 * 0 + _ ≤ _; omega) hd (fun _ _ => ⟨rfl, eT, hc, hn⟩)
  dsimp only [Pt.U, Pt.locs, Pt.cells, Pt.slots] at X' l1 y1 z1 st hQ
  subst l1 y1 z1
  exact Go.st (fun t h => st.trans h) (k v T' Lc hQ X')
theorem s_initO (X : Stand p l e R s m args below meth c T locs cells slots) (hx : p.tables.exec = Jvm.exec) (hZ : Z.Warmed39 s.vm) (hown : s.vm.findClass own = some m.cls) {index : Nat} {W : Nat} (w1 : (Jvm.Cond.methodLink own index Lib.objectInit).before a0 Z = true) (w2 : (Jvm.Cond.instanceMethod Lib.objectInit).before a0 Z = true)
    (w3 : (Jvm.Cond.code Lib.objectInit ⟨#[0xb1]⟩ 1 none).before a0 Z = true) (eT : T.heap = h) (hsize : L.size = c.maxLocals) (hf : 1 ≤ R.frames) (hW : (S.map fun v => v.category).sum ≤ W) (hl : W + 12 ≤ R.locals) (hd : decode c.code pc = .ok (.invokespecial index, 3)) (hq : pc + 3 = q)
    (k : ∀ T', Stand p l e R s m args below meth c T' locs cells slots → T'.heap = h → Go p e below G T' m q L S) : Go p e below G T m pc L (.ref a :: S) := by
  subst hq
  obtain ⟨T', X', e', st⟩ := initO X hx hZ hown w1 w2 w3 eT (g := mkF m pc L (.ref a :: S)) rfl hsize rfl hd hf (W := W) (by show 2 * 0 + _ ≤ _; omega) hl
  exact Go.st st (k T' X' e')
theorem s_getF (X : Stand p l e R s m args below meth c T locs cells slots) (hx : p.tables.exec = Jvm.exec) (hZ : Z.Warmed39 s.vm) (hown : s.vm.findClass own = some m.cls) {index : Nat} (w : (Jvm.Cond.fieldLink own index O n d).before a0 Z = true) (eT : T.heap = h) (F : Fld Z h a O n d v) (hd : decode c.code pc = .ok (.getfield index, 3)) (hq : pc + 3 = q)
    (k : ∀ T', Stand p l e R s m args below meth c T' locs cells slots → T'.heap = h → Go p e below G T' m q L (v :: S)) : Go p e below G T m pc L (.ref a :: S) := by
  subst hq
  obtain ⟨T', X', e', st⟩ := getF X hx hZ hown (host := "") (Or.inl w) Via.refl eT F (g := mkF m pc L (.ref a :: S)) rfl rfl hd
  exact Go.st st (k T' X' e')
theorem s_putF (X : Stand p l e R s m args below meth c T locs cells slots) (hx : p.tables.exec = Jvm.exec) (hZ : Z.Warmed39 s.vm) (hown : s.vm.findClass own = some m.cls) {index kk : Nat} {ty : FieldType} {v old : Value} (w : (Jvm.Cond.fieldLink own index O n d).before a0 Z = true) (eT : T.heap = h) (F : Fld Z h a O n d old) (E : Exa Z h a C)
    (Ly : (Jvm.Cond.lays C O n d).before a0 Z = true ∨ ((Jvm.Cond.laysFinal C O n d).before a0 Z = true ∧ own = O ∧ meth.name = "<init>")) (wi : (Jvm.Cond.instantiable C kk).before a0 Z = true) (hty : parseFieldDescriptor d = some ty) (hn : narrow ty v = v) (hfit : fits ty v = true) (N : Fr n0 locs) (hg : n0 ≤ a) (hd : decode c.code pc = .ok (.putfield index, 3)) (hq : pc + 3 = q)
    (k : ∀ (T' : State) (h' : Heap) (locs' : List Loc), Stand p l e R s m args below meth c T' locs' cells slots → Fr n0 locs' → T'.heap = h' → Wr h h' a (Jvm.RoadKit.slotOf Z O n d) v → Fld Z h' a O n d v → Go p e below G T' m q L S) : Go p e below G T m pc L (v :: .ref a :: S) := by
  subst hq
  obtain ⟨T', h', X', e', W, st⟩ := putF X hx hZ hown (host := "") (Or.inl w) Via.refl eT F E Ly wi hty hn hfit (g := mkF m pc L (v :: .ref a :: S)) rfl rfl hd
  exact Go.st st (k T' h' _ X' (Fr.snoc X' N hg) e' W (F.same W))
theorem s_new (X : Stand p l e R s m args below meth c T locs cells slots) (hx : p.tables.exec = Jvm.exec) (hZ : Z.Warmed39 s.vm) (hown : s.vm.findClass own = some m.cls) {index kk : Nat} (w : (Jvm.Cond.classLink own index C).before a0 Z = true) (wi : (Jvm.Cond.instantiable C kk).before a0 Z = true) (wz : (Jvm.Cond.initialized C).before a0 Z = true) (eT : T.heap = h)
    (hc : cells + 1 ≤ R.cells) (hl : slots + kk ≤ R.slots) (hd : decode c.code pc = .ok (.new index, 3)) (hq : pc + 3 = q)
    (k : ∀ (T' : State) (h' : Heap) (a : Addr), Stand p l e R s m args below meth c T' locs (cells + 1) (slots + kk) → T'.heap = h' → Ext h h' → a = h.size → Exa Z h' a C → (∀ (O nm d : String) (ty : FieldType), Laid Z a0 C O nm d → parseFieldDescriptor d = some ty → Fld Z h' a O nm d (defaultValue ty)) → Go p e below G T' m q L (.ref a :: S)) : Go p e below G T m pc L S := by
  subst hq
  obtain ⟨T', h', X', e', E, A, D, -, st⟩ := newO X hx hZ hown w wi wz eT (g := mkF m pc L S) rfl hd hc hl
  exact Go.st st (k T' h' _ X' e' E rfl A (fun _ _ _ _ L1 q1 => D L1 q1))
/-- an array of ints (bytes, chars ..) by its list -/
def AI (Z : State) (h : Heap) (a : Addr) (ty : FieldType) (xs : List Int32) : Prop := ∃ cl : Cell, Arr Z h a cl ty ∧ cl.slots.toList = xs.map Value.int ∧ xs.length < 2147483648
def AJ (Z : State) (h : Heap) (a : Addr) (xs : List Int64) : Prop := ∃ cl : Cell, Arr Z h a cl .long ∧ cl.slots.toList = xs.map Value.long ∧ xs.length < 2147483648
variable {ty : FieldType} {xs ys : List Int32} {us vs : List Int64} {w : Value} {sl : Nat} {ws : List Addr}
theorem AI.lt (A : AI Z h a ty xs) : a < h.size := by obtain ⟨c, A, -⟩ := A; exact A.lt
theorem AJ.lt (A : AJ Z h a us) : a < h.size := by obtain ⟨c, A, -⟩ := A; exact A.lt
theorem AI.ext (A : AI Z h a ty xs) (E : Ext h h') : AI Z h' a ty xs := by obtain ⟨c, A, r⟩ := A; exact ⟨c, A.ext E, r⟩
theorem AJ.ext (A : AJ Z h a us) (E : Ext h h') : AJ Z h' a us := by obtain ⟨c, A, r⟩ := A; exact ⟨c, A.ext E, r⟩
theorem AI.other (A : AI Z h a ty xs) (W : Wr h h' b sl w) (q : a ≠ b) : AI Z h' a ty xs := by obtain ⟨c, A, r⟩ := A; exact ⟨c, A.other W q, r⟩
theorem AJ.other (A : AJ Z h a us) (W : Wr h h' b sl w) (q : a ≠ b) : AJ Z h' a us := by obtain ⟨c, A, r⟩ := A; exact ⟨c, A.other W q, r⟩
theorem AI.keep (A : AI Z h a ty xs) (K : Keep h h' ws) (q : a ∉ ws) : AI Z h' a ty xs := by obtain ⟨c, A, r⟩ := A; exact ⟨c, ⟨K.2.1 a c A.1 q, A.2⟩, r⟩
theorem AJ.keep (A : AJ Z h a us) (K : Keep h h' ws) (q : a ∉ ws) : AJ Z h' a us := by obtain ⟨c, A, r⟩ := A; exact ⟨c, ⟨K.2.1 a c A.1 q, A.2⟩, r⟩
theorem set_list (cl : Cell) (i : Nat) (v : Value) : (cl.setSlot i v).slots.toList = cl.slots.toList.set i v := by
  show (cl.slots.setIfInBounds i v).toList = _
  exact Array.toList_setIfInBounds ..
theorem AI.same (A : AI Z h a ty xs) {i : Nat} {x : Int32} (W : Wr h h' a i (.int x)) : AI Z h' a ty (xs.set i x) := by
  obtain ⟨c, A, e, n⟩ := A
  exact ⟨_, A.same W, by rw [set_list, e, List.map_set], by rw [List.length_set]; exact n⟩
theorem AJ.same (A : AJ Z h a us) {i : Nat} {x : Int64} (W : Wr h h' a i (.long x)) : AJ Z h' a (us.set i x) := by
  obtain ⟨c, A, e, n⟩ := A
  exact ⟨_, A.same W, by rw [set_list, e, List.map_set], by rw [List.length_set]; exact n⟩
theorem own_size {cl : Cell} {α : Type} {zs : List α} {f : α → Value} (e : cl.slots.toList = zs.map f) : cl.slots.size = zs.length := by
  rw [← Array.length_toList, e, List.length_map]
theorem own_at {cl : Cell} {α : Type} {zs : List α} {f : α → Value} (e : cl.slots.toList = zs.map f) {i : Nat} {x : α} (q : zs[i]? = some x) : cl.slots[i]? = some (f x) := by
  rw [← Array.getElem?_toList, e, List.getElem?_map, q]; rfl
theorem own_in {cl : Cell} {α : Type} {zs : List α} {f : α → Value} (e : cl.slots.toList = zs.map f) {j : Int32} (hj : ¬ j < 0) (q : j.toNatClampNeg < zs.length) : ¬ (j < 0 ∨ cl.slots.size ≤ j.toNatClampNeg) := by
  rw [own_size e]; intro h; rcases h with h | h
  · exact hj h
  · omega
theorem own_inl {α : Type} {zs : List α} {i : Nat} {x : α} (q : zs[i]? = some x) : i < zs.length := (List.getElem?_eq_some_iff.mp q).1
theorem s_iaload (X : Stand p l e R s m args below meth c T locs cells slots) (hx : p.tables.exec = Jvm.exec) (hZ : Z.Warmed39 s.vm) (eT : T.heap = h) {j : Int32} {x : Int32} (A : AI Z h a .int xs) (hj : ¬ j < 0) {i : Nat} (hji : j.toNatClampNeg = i) (hv : xs[i]? = some x) (hd : decode c.code pc = .ok (.iaload, 1)) (hq : pc + 1 = q) (K : Go p e below G T m q L (.int x :: S)) : Go p e below G T m pc L (.int j :: .ref a :: S) := by
  subst hq hji; obtain ⟨cl, Ar, ex, -⟩ := A
  exact Go.st (fun t k => X.iaload hx (j := j) (v := .int x) (by rw [eT]; exact Ar.1) (State.isArrayOf_alike hZ.alike Ar.2.1) Ar.2.2 (own_in ex hj (own_inl hv)) (own_at ex hv) (g := mkF m pc L (.int j :: .ref a :: S)) rfl rfl hd t k) K
theorem s_caload (X : Stand p l e R s m args below meth c T locs cells slots) (hx : p.tables.exec = Jvm.exec) (hZ : Z.Warmed39 s.vm) (eT : T.heap = h) {j : Int32} {x : Int32} (A : AI Z h a .char xs) (hj : ¬ j < 0) {i : Nat} (hji : j.toNatClampNeg = i) (hv : xs[i]? = some x) (hd : decode c.code pc = .ok (.caload, 1)) (hq : pc + 1 = q) (K : Go p e below G T m q L (.int x :: S)) : Go p e below G T m pc L (.int j :: .ref a :: S) := by
  subst hq hji; obtain ⟨cl, Ar, ex, -⟩ := A
  exact Go.st (fun t k => X.caload hx (j := j) (v := .int x) (by rw [eT]; exact Ar.1) (State.isArrayOf_alike hZ.alike Ar.2.1) Ar.2.2 (own_in ex hj (own_inl hv)) (own_at ex hv) (g := mkF m pc L (.int j :: .ref a :: S)) rfl rfl hd t k) K
theorem s_baload (X : Stand p l e R s m args below meth c T locs cells slots) (hx : p.tables.exec = Jvm.exec) (hZ : Z.Warmed39 s.vm) (eT : T.heap = h) {j : Int32} {x : Int32} (A : AI Z h a .byte xs) (hj : ¬ j < 0) {i : Nat} (hji : j.toNatClampNeg = i) (hv : xs[i]? = some x) (hd : decode c.code pc = .ok (.baload, 1)) (hq : pc + 1 = q) (K : Go p e below G T m q L (.int x :: S)) : Go p e below G T m pc L (.int j :: .ref a :: S) := by
  subst hq hji; obtain ⟨cl, Ar, ex, -⟩ := A
  exact Go.st (fun t k => X.baloadBytes hx (j := j) (v := .int x) (by rw [eT]; exact Ar.1) (State.isArrayOf_alike hZ.alike Ar.2.1) Ar.2.2 (own_in ex hj (own_inl hv)) (own_at ex hv) (g := mkF m pc L (.int j :: .ref a :: S)) rfl rfl hd t k) K
theorem s_laload (X : Stand p l e R s m args below meth c T locs cells slots) (hx : p.tables.exec = Jvm.exec) (hZ : Z.Warmed39 s.vm) (eT : T.heap = h) {j : Int32} {x : Int64} (A : AJ Z h a us) (hj : ¬ j < 0) {i : Nat} (hji : j.toNatClampNeg = i) (hv : us[i]? = some x) (hd : decode c.code pc = .ok (.laload, 1)) (hq : pc + 1 = q) (K : Go p e below G T m q L (.long x :: S)) : Go p e below G T m pc L (.int j :: .ref a :: S) := by
  subst hq hji; obtain ⟨cl, Ar, ex, -⟩ := A
  exact Go.st (fun t k => X.laload hx (j := j) (v := .long x) (by rw [eT]; exact Ar.1) (State.isArrayOf_alike hZ.alike Ar.2.1) Ar.2.2 (own_in ex hj (own_inl hv)) (own_at ex hv) (g := mkF m pc L (.int j :: .ref a :: S)) rfl rfl hd t k) K
theorem s_iastore (X : Stand p l e R s m args below meth c T locs cells slots) (hx : p.tables.exec = Jvm.exec) (hZ : Z.Warmed39 s.vm) (eT : T.heap = h) {j : Int32} {x : Int32} (A : AI Z h a .int xs) (N : Fr n0 locs) (hg : n0 ≤ a) (hj : ¬ j < 0) {i : Nat} (hji : j.toNatClampNeg = i) (hi : i < xs.length) (hs : xs.set i x = ys) (hd : decode c.code pc = .ok (.iastore, 1)) (hq : pc + 1 = q)
    (k : ∀ (T' : State) (h' : Heap) (locs' : List Loc), Stand p l e R s m args below meth c T' locs' cells slots → Fr n0 locs' → T'.heap = h' → Wr h h' a i (.int x) → AI Z h' a .int ys → Go p e below G T' m q L S) : Go p e below G T m pc L (.int x :: .int j :: .ref a :: S) := by
  subst hq hs hji; have A0 := A; obtain ⟨cl, Ar, ex, -⟩ := A
  obtain ⟨T', h', X', e', W, st⟩ := Jvm.RoadKit.stI X hx hZ eT Ar (j := j) (own_in ex hj hi) (g := mkF m pc L (.int x :: .int j :: .ref a :: S)) rfl rfl hd
  exact Go.st st (k T' h' _ X' (Fr.snoc X' N hg) e' W (A0.same W))
theorem s_castore (X : Stand p l e R s m args below meth c T locs cells slots) (hx : p.tables.exec = Jvm.exec) (hZ : Z.Warmed39 s.vm) (eT : T.heap = h) {j : Int32} {x : Int32} (A : AI Z h a .char xs) (N : Fr n0 locs) (hg : n0 ≤ a) (hj : ¬ j < 0) {i : Nat} (hji : j.toNatClampNeg = i) (hi : i < xs.length) (hs : xs.set i (nar .char x) = ys) (hd : decode c.code pc = .ok (.castore, 1)) (hq : pc + 1 = q)
    (k : ∀ (T' : State) (h' : Heap) (locs' : List Loc), Stand p l e R s m args below meth c T' locs' cells slots → Fr n0 locs' → T'.heap = h' → Wr h h' a i (.int (nar .char x)) → AI Z h' a .char ys → Go p e below G T' m q L S) : Go p e below G T m pc L (.int x :: .int j :: .ref a :: S) := by
  subst hq hs hji; have A0 := A; obtain ⟨cl, Ar, ex, -⟩ := A
  obtain ⟨T', h', X', e', W, st⟩ := stC X hx hZ eT Ar (j := j) (own_in ex hj hi) (g := mkF m pc L (.int x :: .int j :: .ref a :: S)) rfl rfl hd
  exact Go.st st (k T' h' _ X' (Fr.snoc X' N hg) e' W (A0.same W))
theorem s_bastore (X : Stand p l e R s m args below meth c T locs cells slots) (hx : p.tables.exec = Jvm.exec) (hZ : Z.Warmed39 s.vm) (eT : T.heap = h) {j : Int32} {x : Int32} (A : AI Z h a .byte xs) (N : Fr n0 locs) (hg : n0 ≤ a) (hj : ¬ j < 0) {i : Nat} (hji : j.toNatClampNeg = i) (hi : i < xs.length) (hs : xs.set i (nar .byte x) = ys) (hd : decode c.code pc = .ok (.bastore, 1)) (hq : pc + 1 = q)
    (k : ∀ (T' : State) (h' : Heap) (locs' : List Loc), Stand p l e R s m args below meth c T' locs' cells slots → Fr n0 locs' → T'.heap = h' → Wr h h' a i (.int (nar .byte x)) → AI Z h' a .byte ys → Go p e below G T' m q L S) : Go p e below G T m pc L (.int x :: .int j :: .ref a :: S) := by
  subst hq hs hji; have A0 := A; obtain ⟨cl, Ar, ex, -⟩ := A
  obtain ⟨T', h', X', e', W, st⟩ := stB X hx hZ eT Ar (j := j) (own_in ex hj hi) (g := mkF m pc L (.int x :: .int j :: .ref a :: S)) rfl rfl hd
  exact Go.st st (k T' h' _ X' (Fr.snoc X' N hg) e' W (A0.same W))
theorem s_lastore (X : Stand p l e R s m args below meth c T locs cells slots) (hx : p.tables.exec = Jvm.exec) (hZ : Z.Warmed39 s.vm) (eT : T.heap = h) {j : Int32} {x : Int64} (A : AJ Z h a us) (N : Fr n0 locs) (hg : n0 ≤ a) (hj : ¬ j < 0) {i : Nat} (hji : j.toNatClampNeg = i) (hi : i < us.length) (hs : us.set i x = vs) (hd : decode c.code pc = .ok (.lastore, 1)) (hq : pc + 1 = q)
    (k : ∀ (T' : State) (h' : Heap) (locs' : List Loc), Stand p l e R s m args below meth c T' locs' cells slots → Fr n0 locs' → T'.heap = h' → Wr h h' a i (.long x) → AJ Z h' a vs → Go p e below G T' m q L S) : Go p e below G T m pc L (.long x :: .int j :: .ref a :: S) := by
  subst hq hs hji; have A0 := A; obtain ⟨cl, Ar, ex, -⟩ := A
  obtain ⟨T', h', X', e', W, st⟩ := Jvm.RoadKit.stJ X hx hZ eT Ar (j := j) (own_in ex hj hi) (g := mkF m pc L (.long x :: .int j :: .ref a :: S)) rfl rfl hd
  exact Go.st st (k T' h' _ X' (Fr.snoc X' N hg) e' W (A0.same W))
theorem s_newI (X : Stand p l e R s m args below meth c T locs cells slots) (hx : p.tables.exec = Jvm.exec) (hZ : Z.Warmed39 s.vm) (w : (Jvm.Cond.arrayClass .int).before a0 Z = true) (eT : T.heap = h) {z : Int32} (hz : ¬ z < 0) {cap : Nat} (hcap : z.toNatClampNeg ≤ cap) (hb8 : cap * 8 ≤ 536870912) (hc : cells + 1 ≤ R.cells) (hl : slots + cap ≤ R.slots) (hs : List.replicate z.toNatClampNeg 0 = ys) (hd : decode c.code pc = .ok (.newarray .int, 2)) (hq : pc + 2 = q)
    (k : ∀ (T' : State) (h' : Heap) (a : Addr), Stand p l e R s m args below meth c T' locs (cells + 1) (slots + cap) → T'.heap = h' → Ext h h' → a = h.size → AI Z h' a .int ys → Go p e below G T' m q L (.ref a :: S)) : Go p e below G T m pc L (.int z :: S) := by
  subst hq hs
  obtain ⟨T', h', cA, X', e', E, A, st⟩ := newP X hx hZ (aty := .int) w eT (g := mkF m pc L (.int z :: S)) rfl hd rfl hz (cap := cap) hcap hb8 hc hl
  refine Go.st st (k T' h' _ X' e' E rfl ⟨_, A, ?_, ?_⟩)
  · simp [newA, defaultValue, newarray.typeOf]
  · rw [List.length_replicate]; have := z.toInt_lt; simp only [Int32.toNatClampNeg]; omega
theorem s_newC (X : Stand p l e R s m args below meth c T locs cells slots) (hx : p.tables.exec = Jvm.exec) (hZ : Z.Warmed39 s.vm) (w : (Jvm.Cond.arrayClass .char).before a0 Z = true) (eT : T.heap = h) {z : Int32} (hz : ¬ z < 0) {cap : Nat} (hcap : z.toNatClampNeg ≤ cap) (hb8 : cap * 8 ≤ 536870912) (hc : cells + 1 ≤ R.cells) (hl : slots + cap ≤ R.slots) (hs : List.replicate z.toNatClampNeg 0 = ys) (hd : decode c.code pc = .ok (.newarray .char, 2)) (hq : pc + 2 = q)
    (k : ∀ (T' : State) (h' : Heap) (a : Addr), Stand p l e R s m args below meth c T' locs (cells + 1) (slots + cap) → T'.heap = h' → Ext h h' → a = h.size → AI Z h' a .char ys → Go p e below G T' m q L (.ref a :: S)) : Go p e below G T m pc L (.int z :: S) := by
  subst hq hs
  obtain ⟨T', h', cA, X', e', E, A, st⟩ := newP X hx hZ (aty := .char) w eT (g := mkF m pc L (.int z :: S)) rfl hd rfl hz (cap := cap) hcap hb8 hc hl
  refine Go.st st (k T' h' _ X' e' E rfl ⟨_, A, ?_, ?_⟩)
  · simp [newA, defaultValue, newarray.typeOf]
  · rw [List.length_replicate]; have := z.toInt_lt; simp only [Int32.toNatClampNeg]; omega
theorem s_newB (X : Stand p l e R s m args below meth c T locs cells slots) (hx : p.tables.exec = Jvm.exec) (hZ : Z.Warmed39 s.vm) (w : (Jvm.Cond.arrayClass .byte).before a0 Z = true) (eT : T.heap = h) {z : Int32} (hz : ¬ z < 0) {cap : Nat} (hcap : z.toNatClampNeg ≤ cap) (hb8 : cap * 8 ≤ 536870912) (hc : cells + 1 ≤ R.cells) (hl : slots + cap ≤ R.slots) (hs : List.replicate z.toNatClampNeg 0 = ys) (hd : decode c.code pc = .ok (.newarray .byte, 2)) (hq : pc + 2 = q)
    (k : ∀ (T' : State) (h' : Heap) (a : Addr), Stand p l e R s m args below meth c T' locs (cells + 1) (slots + cap) → T'.heap = h' → Ext h h' → a = h.size → AI Z h' a .byte ys → Go p e below G T' m q L (.ref a :: S)) : Go p e below G T m pc L (.int z :: S) := by
  subst hq hs
  obtain ⟨T', h', cA, X', e', E, A, st⟩ := newP X hx hZ (aty := .byte) w eT (g := mkF m pc L (.int z :: S)) rfl hd rfl hz (cap := cap) hcap hb8 hc hl
  refine Go.st st (k T' h' _ X' e' E rfl ⟨_, A, ?_, ?_⟩)
  · simp [newA, defaultValue, newarray.typeOf]
  · rw [List.length_replicate]; have := z.toInt_lt; simp only [Int32.toNatClampNeg]; omega
theorem s_newJ (X : Stand p l e R s m args below meth c T locs cells slots) (hx : p.tables.exec = Jvm.exec) (hZ : Z.Warmed39 s.vm) (w : (Jvm.Cond.arrayClass .long).before a0 Z = true) (eT : T.heap = h) {z : Int32} (hz : ¬ z < 0) {cap : Nat} (hcap : z.toNatClampNeg ≤ cap) (hb8 : cap * 8 ≤ 536870912) (hc : cells + 1 ≤ R.cells) (hl : slots + cap ≤ R.slots) (hs : List.replicate z.toNatClampNeg 0 = vs) (hd : decode c.code pc = .ok (.newarray .long, 2)) (hq : pc + 2 = q)
    (k : ∀ (T' : State) (h' : Heap) (a : Addr), Stand p l e R s m args below meth c T' locs (cells + 1) (slots + cap) → T'.heap = h' → Ext h h' → a = h.size → AJ Z h' a vs → Go p e below G T' m q L (.ref a :: S)) : Go p e below G T m pc L (.int z :: S) := by
  subst hq hs
  obtain ⟨T', h', cA, X', e', E, A, st⟩ := newP X hx hZ (aty := .long) w eT (g := mkF m pc L (.int z :: S)) rfl hd rfl hz (cap := cap) hcap hb8 hc hl
  refine Go.st st (k T' h' _ X' e' E rfl ⟨_, A, ?_, ?_⟩)
  · simp [newA, defaultValue, newarray.typeOf]
  · rw [List.length_replicate]; have := z.toInt_lt; simp only [Int32.toNatClampNeg]; omega
theorem s_lenI (X : Stand p l e R s m args below meth c T locs cells slots) (hx : p.tables.exec = Jvm.exec) (hZ : Z.Warmed39 s.vm) (eT : T.heap = h) {z : Int32} (A : AI Z h a ty xs) (hz : xs.length.toInt32 = z) (hd : decode c.code pc = .ok (.arraylength, 1)) (hq : pc + 1 = q) (K : Go p e below G T m q L (.int z :: S)) : Go p e below G T m pc L (.ref a :: S) := by
  subst hq hz; obtain ⟨cl, Ar, ex, -⟩ := A
  rw [← own_size ex] at K
  exact Go.st (fun t k => X.arraylength hx (by rw [eT]; exact Ar.1) (State.isArrayOf_alike hZ.alike Ar.2.1) (g := mkF m pc L (.ref a :: S)) rfl rfl hd t k) K
theorem s_lenJ (X : Stand p l e R s m args below meth c T locs cells slots) (hx : p.tables.exec = Jvm.exec) (hZ : Z.Warmed39 s.vm) (eT : T.heap = h) {z : Int32} (A : AJ Z h a us) (hz : us.length.toInt32 = z) (hd : decode c.code pc = .ok (.arraylength, 1)) (hq : pc + 1 = q) (K : Go p e below G T m q L (.int z :: S)) : Go p e below G T m pc L (.ref a :: S) := by
  subst hq hz; obtain ⟨cl, Ar, ex, -⟩ := A
  rw [← own_size ex] at K
  exact Go.st (fun t k => X.arraylength hx (by rw [eT]; exact Ar.1) (State.isArrayOf_alike hZ.alike Ar.2.1) (g := mkF m pc L (.ref a :: S)) rfl rfl hd t k) K
theorem own_mask_nn (x m : Int32) (h0 : 0 ≤ m.toInt) : ¬ (x &&& m) < 0 := by
  have := c_and x m h0; rw [Int32.lt_iff_toInt_lt]; show ¬ (x &&& m).toInt < 0; omega
theorem own_mask_ix (x m : Int32) {N : Nat} (h0 : 0 ≤ m.toInt) (h : m.toInt < N) : (x &&& m).toNatClampNeg < N := by
  have := c_and x m h0; simp only [Int32.toNatClampNeg]; omega
theorem own_idx {k n : Int32} {N : Nat} (h0 : ¬ k < 0) (h : k < n) (hn : n.toInt = N) : k.toNatClampNeg < N := by
  have e0 : (0 : Int32).toInt = 0 := rfl
  simp only [Int32.lt_iff_toInt_lt, Int32.toNatClampNeg] at *; omega
theorem own_cs {x : Int32} {k : Int} (b : Int32) (hb : b.toInt = k) (h : x.toInt = k) : x = b := Int32.toInt_inj.mp (h.trans hb.symm)
theorem own_lt {x b : Int32} {k : Int} (hb : b.toInt = k) (h : x.toInt < k) : x < b := by rw [Int32.lt_iff_toInt_lt, hb]; exact h
theorem own_nlt {x b : Int32} {k : Int} (hb : b.toInt = k) (h : k ≤ x.toInt) : ¬ x < b := by rw [Int32.lt_iff_toInt_lt, hb]; omega
theorem own_gt {x b : Int32} {k : Int} (hb : b.toInt = k) (h : k < x.toInt) : b < x := by rw [Int32.lt_iff_toInt_lt, hb]; exact h
theorem own_ngt {x b : Int32} {k : Int} (hb : b.toInt = k) (h : x.toInt ≤ k) : ¬ b < x := by rw [Int32.lt_iff_toInt_lt, hb]; omega
theorem own_eqi {x b : Int32} {k : Int} (hb : b.toInt = k) (h : x.toInt = k) : x = b := Int32.toInt_inj.mp (h.trans hb.symm)
theorem own_nei {x b : Int32} {k : Int} (hb : b.toInt = k) (h : x.toInt ≠ k) : ¬ x = b := fun q => h (by rw [q, hb])
end Kit
theorem d1_0 : decode prog_11_method_39_code 0 = .ok (.iload_n 2, 1) := by decide +kernel
theorem d1_1 : decode prog_11_method_39_code 1 = .ok (.iload_n 1, 1) := by decide +kernel
theorem d1_2 : decode prog_11_method_39_code 2 = .ok (.isub, 1) := by decide +kernel
theorem d1_3 : decode prog_11_method_39_code 3 = .ok (.iconst 2, 1) := by decide +kernel
theorem d1_4 : decode prog_11_method_39_code 4 = .ok (.if_icmp .ge 4, 3) := by decide +kernel
theorem d1_7 : decode prog_11_method_39_code 7 = .ok (.return_, 1) := by decide +kernel
theorem d1_8 : decode prog_11_method_39_code 8 = .ok (.lload_n 3, 1) := by decide +kernel
theorem d1_9 : decode prog_11_method_39_code 9 = .ok (.ldc2_w 72, 3) := by decide +kernel
theorem d1_12 : decode prog_11_method_39_code 12 = .ok (.lxor, 1) := by decide +kernel
theorem d1_13 : decode prog_11_method_39_code 13 = .ok (.lstore 5, 2) := by decide +kernel
theorem d1_15 : decode prog_11_method_39_code 15 = .ok (.aload_n 0, 1) := by decide +kernel
theorem d1_16 : decode prog_11_method_39_code 16 = .ok (.iload_n 1, 1) := by decide +kernel
theorem d1_17 : decode prog_11_method_39_code 17 = .ok (.laload, 1) := by decide +kernel
theorem d1_18 : decode prog_11_method_39_code 18 = .ok (.lload 5, 2) := by decide +kernel
theorem d1_20 : decode prog_11_method_39_code 20 = .ok (.lxor, 1) := by decide +kernel
theorem d1_21 : decode prog_11_method_39_code 21 = .ok (.lstore 7, 2) := by decide +kernel
theorem d1_23 : decode prog_11_method_39_code 23 = .ok (.iload_n 1, 1) := by decide +kernel
theorem d1_24 : decode prog_11_method_39_code 24 = .ok (.iconst 1, 1) := by decide +kernel
theorem d1_25 : decode prog_11_method_39_code 25 = .ok (.iadd, 1) := by decide +kernel
theorem d1_26 : decode prog_11_method_39_code 26 = .ok (.istore 9, 2) := by decide +kernel
theorem d1_28 : decode prog_11_method_39_code 28 = .ok (.iload 9, 2) := by decide +kernel
theorem d1_30 : decode prog_11_method_39_code 30 = .ok (.iload_n 2, 1) := by decide +kernel
theorem d1_31 : decode prog_11_method_39_code 31 = .ok (.if_icmp .ge 83, 3) := by decide +kernel
theorem d1_34 : decode prog_11_method_39_code 34 = .ok (.aload_n 0, 1) := by decide +kernel
theorem d1_35 : decode prog_11_method_39_code 35 = .ok (.iload 9, 2) := by decide +kernel
theorem d1_37 : decode prog_11_method_39_code 37 = .ok (.laload, 1) := by decide +kernel
theorem d1_38 : decode prog_11_method_39_code 38 = .ok (.lstore 10, 2) := by decide +kernel
theorem d1_40 : decode prog_11_method_39_code 40 = .ok (.lload 10, 2) := by decide +kernel
theorem d1_42 : decode prog_11_method_39_code 42 = .ok (.lload 5, 2) := by decide +kernel
theorem d1_44 : decode prog_11_method_39_code 44 = .ok (.lxor, 1) := by decide +kernel
theorem d1_45 : decode prog_11_method_39_code 45 = .ok (.lstore 12, 2) := by decide +kernel
theorem d1_47 : decode prog_11_method_39_code 47 = .ok (.lload 12, 2) := by decide +kernel
theorem d1_49 : decode prog_11_method_39_code 49 = .ok (.lload 7, 2) := by decide +kernel
theorem d1_51 : decode prog_11_method_39_code 51 = .ok (.lcmp, 1) := by decide +kernel
theorem d1_52 : decode prog_11_method_39_code 52 = .ok (.ifCond .lt 10, 3) := by decide +kernel
theorem d1_55 : decode prog_11_method_39_code 55 = .ok (.lload 12, 2) := by decide +kernel
theorem d1_57 : decode prog_11_method_39_code 57 = .ok (.lstore 7, 2) := by decide +kernel
theorem d1_59 : decode prog_11_method_39_code 59 = .ok (.goto 49, 3) := by decide +kernel
theorem d1_62 : decode prog_11_method_39_code 62 = .ok (.iload 9, 2) := by decide +kernel
theorem d1_64 : decode prog_11_method_39_code 64 = .ok (.iconst 1, 1) := by decide +kernel
theorem d1_65 : decode prog_11_method_39_code 65 = .ok (.isub, 1) := by decide +kernel
theorem d1_66 : decode prog_11_method_39_code 66 = .ok (.istore 14, 2) := by decide +kernel
theorem d1_68 : decode prog_11_method_39_code 68 = .ok (.aload_n 0, 1) := by decide +kernel
theorem d1_69 : decode prog_11_method_39_code 69 = .ok (.iload 14, 2) := by decide +kernel
theorem d1_71 : decode prog_11_method_39_code 71 = .ok (.iconst 1, 1) := by decide +kernel
theorem d1_72 : decode prog_11_method_39_code 72 = .ok (.iadd, 1) := by decide +kernel
theorem d1_73 : decode prog_11_method_39_code 73 = .ok (.aload_n 0, 1) := by decide +kernel
theorem d1_74 : decode prog_11_method_39_code 74 = .ok (.iload 14, 2) := by decide +kernel
theorem d1_76 : decode prog_11_method_39_code 76 = .ok (.laload, 1) := by decide +kernel
theorem d1_77 : decode prog_11_method_39_code 77 = .ok (.lastore, 1) := by decide +kernel
theorem d1_78 : decode prog_11_method_39_code 78 = .ok (.iinc 14 (-1), 3) := by decide +kernel
theorem d1_81 : decode prog_11_method_39_code 81 = .ok (.iload 14, 2) := by decide +kernel
theorem d1_83 : decode prog_11_method_39_code 83 = .ok (.iload_n 1, 1) := by decide +kernel
theorem d1_84 : decode prog_11_method_39_code 84 = .ok (.if_icmp .lt 16, 3) := by decide +kernel
theorem d1_87 : decode prog_11_method_39_code 87 = .ok (.aload_n 0, 1) := by decide +kernel
theorem d1_88 : decode prog_11_method_39_code 88 = .ok (.iload 14, 2) := by decide +kernel
theorem d1_90 : decode prog_11_method_39_code 90 = .ok (.laload, 1) := by decide +kernel
theorem d1_91 : decode prog_11_method_39_code 91 = .ok (.lload 5, 2) := by decide +kernel
theorem d1_93 : decode prog_11_method_39_code 93 = .ok (.lxor, 1) := by decide +kernel
theorem d1_94 : decode prog_11_method_39_code 94 = .ok (.lload 12, 2) := by decide +kernel
theorem d1_96 : decode prog_11_method_39_code 96 = .ok (.lcmp, 1) := by decide +kernel
theorem d1_97 : decode prog_11_method_39_code 97 = .ok (.ifCond .gt (-29), 3) := by decide +kernel
theorem d1_100 : decode prog_11_method_39_code 100 = .ok (.aload_n 0, 1) := by decide +kernel
theorem d1_101 : decode prog_11_method_39_code 101 = .ok (.iload 14, 2) := by decide +kernel
theorem d1_103 : decode prog_11_method_39_code 103 = .ok (.iconst 1, 1) := by decide +kernel
theorem d1_104 : decode prog_11_method_39_code 104 = .ok (.iadd, 1) := by decide +kernel
theorem d1_105 : decode prog_11_method_39_code 105 = .ok (.lload 10, 2) := by decide +kernel
theorem d1_107 : decode prog_11_method_39_code 107 = .ok (.lastore, 1) := by decide +kernel
theorem d1_108 : decode prog_11_method_39_code 108 = .ok (.iinc 9 1, 3) := by decide +kernel
theorem d1_111 : decode prog_11_method_39_code 111 = .ok (.goto (-83), 3) := by decide +kernel
theorem d1_114 : decode prog_11_method_39_code 114 = .ok (.return_, 1) := by decide +kernel
theorem pn_1 : plainFor (⟨"com/example/digitwise/digitwise/internal/LongRadixSort", "insertionSort", "([JIIJ)V"⟩ : MethodName) = true := plainFor_of_name (by first | (simp [plainName, overriddenIn]; done) | decide +kernel)
theorem ef_1 (m : MethodId) (x0 : Addr) (x1 : Int32) (x2 : Int32) (x3 : Int64) : entryFrame m #[(.ref x0), (.int x1), (.int x2), (.long x3)] 15 = mkF m 0 #[.val (.ref x0), .val (.int x1), .val (.int x2), .val (.long x3), .second, .unset, .unset, .unset, .unset, .unset, .unset, .unset, .unset, .unset, .unset] [] := by first | (simp [entryFrame, mkF, argsToLocals, Value.category]; done) | rfl
def SRT_00 (y0 y1 y2 y3 y4 : Int64) (tt : Int64) : List Int64 := [y0, y1, y2, y3, y4]
set_option maxRecDepth 65536 in
set_option maxHeartbeats 40000000 in
theorem rm1_00 (l : Launch) (Z : State) (a0 : Array Value) (hw : ∀ d ∈ tables_1, d.before a0 Z = true) (ws : List Jvm.Cond) (x0 : Addr) (x3 : Int64) (y0 y1 y2 y3 y4 : Int64) (h0 : Heap) (n0 : Nat) (sz : n0 ≤ h0.size) (A_x0 : AJ Z h0 x0 [y0, y1, y2, y3, y4]) (g_x0 : n0 ≤ x0) :
    Ctr l (⟨"com/example/digitwise/digitwise/internal/LongRadixSort", "insertionSort", "([JIIJ)V"⟩ : MethodName) prog_11_method_39_code 15 none ws ({ frames := 0, cells := 0, slots := 0, locals := 0 } : Room) Z #[(.ref x0), (.int (0 : Int32)), (.int (0 : Int32)), (.long x3)] h0 (fun v h L => v = none ∧ Fr n0 L ∧ Keep h0 h [x0] ∧ AJ Z h x0 (SRT_00 y0 y1 y2 y3 y4 (x3 ^^^ (-9223372036854775808 : Int64)))) 0 0 := by
  refine Ctr.mk pn_1 ?_
  intro p e s m below meth c T hx hby hml hown hnm hlk hret hZ X eT
  have N := Fr.nil n0
  refine enter (ef_1 m x0 (0 : Int32) (0 : Int32) x3) ?_
  have K := Keep.refl h0 [x0]
  refine s_iloadN X hx (hb hby d1_0) rfl (q := 1) rfl ?_
  refine s_iloadN X hx (hb hby d1_1) rfl (q := 2) rfl ?_
  refine s_isub X hx (hb hby d1_2) (q := 3) rfl ?_
  show Go p e below _ T m 3 #[.val (.ref x0), .val (.int (0 : Int32)), .val (.int (0 : Int32)), .val (.long x3), .second, .unset, .unset, .unset, .unset, .unset, .unset, .unset, .unset, .unset, .unset] [(.int (0 : Int32))]
  refine s_iconst X hx (z := (2 : Int32)) (hb hby d1_3) rfl (q := 4) rfl ?_
  refine f_icmp_ge X hx (hb hby d1_4) (q1 := 8) (by decide) (by decide) (q := 7) rfl (fun hq => absurd (by decide : (0 : Int32) < (2 : Int32)) hq) (fun _ => ?_)
  exact leafV X hx hlk hret (hb hby d1_7) (by decide) (by decide) (by rw [eT]; refine ⟨rfl, N, K, ?_⟩; unfold SRT_00; exact A_x0)
def SRT_01 (y0 y1 y2 y3 y4 : Int64) (tt : Int64) : List Int64 := [y0, y1, y2, y3, y4]
set_option maxRecDepth 65536 in
set_option maxHeartbeats 40000000 in
theorem rm1_01 (l : Launch) (Z : State) (a0 : Array Value) (hw : ∀ d ∈ tables_1, d.before a0 Z = true) (ws : List Jvm.Cond) (x0 : Addr) (x3 : Int64) (y0 y1 y2 y3 y4 : Int64) (h0 : Heap) (n0 : Nat) (sz : n0 ≤ h0.size) (A_x0 : AJ Z h0 x0 [y0, y1, y2, y3, y4]) (g_x0 : n0 ≤ x0) :
    Ctr l (⟨"com/example/digitwise/digitwise/internal/LongRadixSort", "insertionSort", "([JIIJ)V"⟩ : MethodName) prog_11_method_39_code 15 none ws ({ frames := 0, cells := 0, slots := 0, locals := 0 } : Room) Z #[(.ref x0), (.int (0 : Int32)), (.int (1 : Int32)), (.long x3)] h0 (fun v h L => v = none ∧ Fr n0 L ∧ Keep h0 h [x0] ∧ AJ Z h x0 (SRT_01 y0 y1 y2 y3 y4 (x3 ^^^ (-9223372036854775808 : Int64)))) 0 0 := by
  refine Ctr.mk pn_1 ?_
  intro p e s m below meth c T hx hby hml hown hnm hlk hret hZ X eT
  have N := Fr.nil n0
  refine enter (ef_1 m x0 (0 : Int32) (1 : Int32) x3) ?_
  have K := Keep.refl h0 [x0]
  refine s_iloadN X hx (hb hby d1_0) rfl (q := 1) rfl ?_
  refine s_iloadN X hx (hb hby d1_1) rfl (q := 2) rfl ?_
  refine s_isub X hx (hb hby d1_2) (q := 3) rfl ?_
  show Go p e below _ T m 3 #[.val (.ref x0), .val (.int (0 : Int32)), .val (.int (1 : Int32)), .val (.long x3), .second, .unset, .unset, .unset, .unset, .unset, .unset, .unset, .unset, .unset, .unset] [(.int (1 : Int32))]
  refine s_iconst X hx (z := (2 : Int32)) (hb hby d1_3) rfl (q := 4) rfl ?_
  refine f_icmp_ge X hx (hb hby d1_4) (q1 := 8) (by decide) (by decide) (q := 7) rfl (fun hq => absurd (by decide : (1 : Int32) < (2 : Int32)) hq) (fun _ => ?_)
  exact leafV X hx hlk hret (hb hby d1_7) (by decide) (by decide) (by rw [eT]; refine ⟨rfl, N, K, ?_⟩; unfold SRT_01; exact A_x0)
def SRT_02 (y0 y1 y2 y3 y4 : Int64) (tt : Int64) : List Int64 := (if (y1 ^^^ tt) < (y0 ^^^ tt) then [y1, y0, y2, y3, y4] else [y0, y1, y2, y3, y4])
set_option maxRecDepth 65536 in
set_option maxHeartbeats 40000000 in
theorem rm1_02 (l : Launch) (Z : State) (a0 : Array Value) (hw : ∀ d ∈ tables_1, d.before a0 Z = true) (ws : List Jvm.Cond) (x0 : Addr) (x3 : Int64) (y0 y1 y2 y3 y4 : Int64) (h0 : Heap) (n0 : Nat) (sz : n0 ≤ h0.size) (A_x0 : AJ Z h0 x0 [y0, y1, y2, y3, y4]) (g_x0 : n0 ≤ x0) :
    Ctr l (⟨"com/example/digitwise/digitwise/internal/LongRadixSort", "insertionSort", "([JIIJ)V"⟩ : MethodName) prog_11_method_39_code 15 none ws ({ frames := 0, cells := 0, slots := 0, locals := 0 } : Room) Z #[(.ref x0), (.int (0 : Int32)), (.int (2 : Int32)), (.long x3)] h0 (fun v h L => v = none ∧ Fr n0 L ∧ Keep h0 h [x0] ∧ AJ Z h x0 (SRT_02 y0 y1 y2 y3 y4 (x3 ^^^ (-9223372036854775808 : Int64)))) 0 0 := by
  refine Ctr.mk pn_1 ?_
  intro p e s m below meth c T hx hby hml hown hnm hlk hret hZ X eT
  have N := Fr.nil n0
  refine enter (ef_1 m x0 (0 : Int32) (2 : Int32) x3) ?_
  have K := Keep.refl h0 [x0]
  refine s_iloadN X hx (hb hby d1_0) rfl (q := 1) rfl ?_
  refine s_iloadN X hx (hb hby d1_1) rfl (q := 2) rfl ?_
  refine s_isub X hx (hb hby d1_2) (q := 3) rfl ?_
  show Go p e below _ T m 3 #[.val (.ref x0), .val (.int (0 : Int32)), .val (.int (2 : Int32)), .val (.long x3), .second, .unset, .unset, .unset, .unset, .unset, .unset, .unset, .unset, .unset, .unset] [(.int (2 : Int32))]
  refine s_iconst X hx (z := (2 : Int32)) (hb hby d1_3) rfl (q := 4) rfl ?_
  refine f_icmp_ge X hx (hb hby d1_4) (q1 := 8) (by decide) (by decide) (q := 7) rfl (fun _ => ?_) (fun hq => absurd hq (by decide : ¬ (2 : Int32) < (2 : Int32)))
  refine s_lloadN X hx (hb hby d1_8) rfl (q := 9) rfl ?_
  refine s_ldc2 X hx hZ hown (hw _ (List.mem_of_getElem? (i := 6) rfl)) (hb hby d1_9) (q := 12) rfl ?_
  refine s_lxor X hx (hb hby d1_12) (q := 13) rfl ?_
  generalize htt : (x3 ^^^ (-9223372036854775808 : Int64)) = tt
  refine s_lstore X hx (hb hby d1_13) (L' := #[.val (.ref x0), .val (.int (0 : Int32)), .val (.int (2 : Int32)), .val (.long x3), .second, .val (.long tt), .second, .unset, .unset, .unset, .unset, .unset, .unset, .unset, .unset]) rfl (q := 15) rfl ?_
  refine s_aloadN X hx (hb hby d1_15) rfl rfl (q := 16) rfl ?_
  refine s_iloadN X hx (hb hby d1_16) rfl (q := 17) rfl ?_
  refine s_laload X hx hZ eT A_x0 (by decide) (i := 0) rfl (x := y0) rfl (hb hby d1_17) (q := 18) rfl ?_
  refine s_lload X hx (hb hby d1_18) rfl (q := 20) rfl ?_
  refine s_lxor X hx (hb hby d1_20) (q := 21) rfl ?_
  refine s_lstore X hx (hb hby d1_21) (L' := #[.val (.ref x0), .val (.int (0 : Int32)), .val (.int (2 : Int32)), .val (.long x3), .second, .val (.long tt), .second, .val (.long (y0 ^^^ tt)), .second, .unset, .unset, .unset, .unset, .unset, .unset]) rfl (q := 23) rfl ?_
  refine s_iloadN X hx (hb hby d1_23) rfl (q := 24) rfl ?_
  refine s_iconst X hx (z := (1 : Int32)) (hb hby d1_24) rfl (q := 25) rfl ?_
  refine s_iadd X hx (hb hby d1_25) (q := 26) rfl ?_
  show Go p e below _ T m 26 #[.val (.ref x0), .val (.int (0 : Int32)), .val (.int (2 : Int32)), .val (.long x3), .second, .val (.long tt), .second, .val (.long (y0 ^^^ tt)), .second, .unset, .unset, .unset, .unset, .unset, .unset] [(.int (1 : Int32))]
  refine s_istore X hx (hb hby d1_26) (L' := #[.val (.ref x0), .val (.int (0 : Int32)), .val (.int (2 : Int32)), .val (.long x3), .second, .val (.long tt), .second, .val (.long (y0 ^^^ tt)), .second, .val (.int (1 : Int32)), .unset, .unset, .unset, .unset, .unset]) rfl (q := 28) rfl ?_
  refine s_iload X hx (hb hby d1_28) rfl (q := 30) rfl ?_
  refine s_iloadN X hx (hb hby d1_30) rfl (q := 31) rfl ?_
  refine f_icmp_ge X hx (hb hby d1_31) (q1 := 114) (by decide) (by decide) (q := 34) rfl (fun hq => absurd (by decide : (1 : Int32) < (2 : Int32)) hq) (fun _ => ?_)
  refine s_aloadN X hx (hb hby d1_34) rfl rfl (q := 35) rfl ?_
  refine s_iload X hx (hb hby d1_35) rfl (q := 37) rfl ?_
  refine s_laload X hx hZ eT A_x0 (by decide) (i := 1) rfl (x := y1) rfl (hb hby d1_37) (q := 38) rfl ?_
  refine s_lstore X hx (hb hby d1_38) (L' := #[.val (.ref x0), .val (.int (0 : Int32)), .val (.int (2 : Int32)), .val (.long x3), .second, .val (.long tt), .second, .val (.long (y0 ^^^ tt)), .second, .val (.int (1 : Int32)), .val (.long y1), .second, .unset, .unset, .unset]) rfl (q := 40) rfl ?_
  refine s_lload X hx (hb hby d1_40) rfl (q := 42) rfl ?_
  refine s_lload X hx (hb hby d1_42) rfl (q := 44) rfl ?_
  refine s_lxor X hx (hb hby d1_44) (q := 45) rfl ?_
  refine s_lstore X hx (hb hby d1_45) (L' := #[.val (.ref x0), .val (.int (0 : Int32)), .val (.int (2 : Int32)), .val (.long x3), .second, .val (.long tt), .second, .val (.long (y0 ^^^ tt)), .second, .val (.int (1 : Int32)), .val (.long y1), .second, .val (.long (y1 ^^^ tt)), .second, .unset]) rfl (q := 47) rfl ?_
  refine s_lload X hx (hb hby d1_47) rfl (q := 49) rfl ?_
  refine s_lload X hx (hb hby d1_49) rfl (q := 51) rfl ?_
  refine s_lcmp X hx (hb hby d1_51) (q := 52) rfl ?_
  refine f_lcmp_lt X hx (hb hby d1_52) (q1 := 62) (by decide) (by decide) (q := 55) rfl (fun hc52 => ?_) (fun hc52 => ?_)
  · refine s_iload X hx (hb hby d1_62) rfl (q := 64) rfl ?_
    refine s_iconst X hx (z := (1 : Int32)) (hb hby d1_64) rfl (q := 65) rfl ?_
    refine s_isub X hx (hb hby d1_65) (q := 66) rfl ?_
    show Go p e below _ T m 66 #[.val (.ref x0), .val (.int (0 : Int32)), .val (.int (2 : Int32)), .val (.long x3), .second, .val (.long tt), .second, .val (.long (y0 ^^^ tt)), .second, .val (.int (1 : Int32)), .val (.long y1), .second, .val (.long (y1 ^^^ tt)), .second, .unset] [(.int (0 : Int32))]
    refine s_istore X hx (hb hby d1_66) (L' := #[.val (.ref x0), .val (.int (0 : Int32)), .val (.int (2 : Int32)), .val (.long x3), .second, .val (.long tt), .second, .val (.long (y0 ^^^ tt)), .second, .val (.int (1 : Int32)), .val (.long y1), .second, .val (.long (y1 ^^^ tt)), .second, .val (.int (0 : Int32))]) rfl (q := 68) rfl ?_
    refine s_aloadN X hx (hb hby d1_68) rfl rfl (q := 69) rfl ?_
    refine s_iload X hx (hb hby d1_69) rfl (q := 71) rfl ?_
    refine s_iconst X hx (z := (1 : Int32)) (hb hby d1_71) rfl (q := 72) rfl ?_
    refine s_iadd X hx (hb hby d1_72) (q := 73) rfl ?_
    show Go p e below _ T m 73 #[.val (.ref x0), .val (.int (0 : Int32)), .val (.int (2 : Int32)), .val (.long x3), .second, .val (.long tt), .second, .val (.long (y0 ^^^ tt)), .second, .val (.int (1 : Int32)), .val (.long y1), .second, .val (.long (y1 ^^^ tt)), .second, .val (.int (0 : Int32))] [(.int (1 : Int32)), (.ref x0)]
    refine s_aloadN X hx (hb hby d1_73) rfl rfl (q := 74) rfl ?_
    refine s_iload X hx (hb hby d1_74) rfl (q := 76) rfl ?_
    refine s_laload X hx hZ eT A_x0 (by decide) (i := 0) rfl (x := y0) rfl (hb hby d1_76) (q := 77) rfl ?_
    refine s_lastore X hx hZ eT A_x0 N g_x0 (by decide) (i := 1) rfl (Nat.le_of_ble_eq_true rfl) (vs := [y0, y0, y2, y3, y4]) rfl (hb hby d1_77) (q := 78) rfl ?_
    intro T h1 _ X N eT W A_x0'
    have K := K.wr W (Or.inl (List.mem_of_getElem? (i := 0) rfl))
    have sz : n0 ≤ h1.size := by rw [W.size]; exact sz
    have A_x0 := A_x0'
    refine s_iinc X hx (w := (-1 : Int32)) (hb hby d1_78) rfl rfl (L' := #[.val (.ref x0), .val (.int (0 : Int32)), .val (.int (2 : Int32)), .val (.long x3), .second, .val (.long tt), .second, .val (.long (y0 ^^^ tt)), .second, .val (.int (1 : Int32)), .val (.long y1), .second, .val (.long (y1 ^^^ tt)), .second, .val (.int (-1 : Int32))]) rfl (q := 81) rfl ?_
    refine s_iload X hx (hb hby d1_81) rfl (q := 83) rfl ?_
    refine s_iloadN X hx (hb hby d1_83) rfl (q := 84) rfl ?_
    refine f_icmp_lt X hx (hb hby d1_84) (q1 := 100) (by decide) (by decide) (q := 87) rfl (fun _ => ?_) (fun hq => absurd (by decide : (-1 : Int32) < (0 : Int32)) hq)
    refine s_aloadN X hx (hb hby d1_100) rfl rfl (q := 101) rfl ?_
    refine s_iload X hx (hb hby d1_101) rfl (q := 103) rfl ?_
    refine s_iconst X hx (z := (1 : Int32)) (hb hby d1_103) rfl (q := 104) rfl ?_
    refine s_iadd X hx (hb hby d1_104) (q := 105) rfl ?_
    show Go p e below _ T m 105 #[.val (.ref x0), .val (.int (0 : Int32)), .val (.int (2 : Int32)), .val (.long x3), .second, .val (.long tt), .second, .val (.long (y0 ^^^ tt)), .second, .val (.int (1 : Int32)), .val (.long y1), .second, .val (.long (y1 ^^^ tt)), .second, .val (.int (-1 : Int32))] [(.int (0 : Int32)), (.ref x0)]
    refine s_lload X hx (hb hby d1_105) rfl (q := 107) rfl ?_
    refine s_lastore X hx hZ eT A_x0 N g_x0 (by decide) (i := 0) rfl (Nat.le_of_ble_eq_true rfl) (vs := [y1, y0, y2, y3, y4]) rfl (hb hby d1_107) (q := 108) rfl ?_
    intro T h2 _ X N eT W A_x0'
    have K := K.wr W (Or.inl (List.mem_of_getElem? (i := 0) rfl))
    have sz : n0 ≤ h2.size := by rw [W.size]; exact sz
    have A_x0 := A_x0'
    refine s_iinc X hx (w := (2 : Int32)) (hb hby d1_108) rfl rfl (L' := #[.val (.ref x0), .val (.int (0 : Int32)), .val (.int (2 : Int32)), .val (.long x3), .second, .val (.long tt), .second, .val (.long (y0 ^^^ tt)), .second, .val (.int (2 : Int32)), .val (.long y1), .second, .val (.long (y1 ^^^ tt)), .second, .val (.int (-1 : Int32))]) rfl (q := 111) rfl ?_
    refine s_goto X hx (hb hby d1_111) (q1 := 28) (by decide) (by decide) ?_
    refine s_iload X hx (hb hby d1_28) rfl (q := 30) rfl ?_
    refine s_iloadN X hx (hb hby d1_30) rfl (q := 31) rfl ?_
    refine f_icmp_ge X hx (hb hby d1_31) (q1 := 114) (by decide) (by decide) (q := 34) rfl (fun _ => ?_) (fun hq => absurd hq (by decide : ¬ (2 : Int32) < (2 : Int32)))
    exact leafV X hx hlk hret (hb hby d1_114) (by decide) (by decide) (by rw [eT]; refine ⟨rfl, N, K, ?_⟩; unfold SRT_02; rw [if_pos hc52]; exact A_x0)
  refine s_lload X hx (hb hby d1_55) rfl (q := 57) rfl ?_
  refine s_lstore X hx (hb hby d1_57) (L' := #[.val (.ref x0), .val (.int (0 : Int32)), .val (.int (2 : Int32)), .val (.long x3), .second, .val (.long tt), .second, .val (.long (y1 ^^^ tt)), .second, .val (.int (1 : Int32)), .val (.long y1), .second, .val (.long (y1 ^^^ tt)), .second, .unset]) rfl (q := 59) rfl ?_
  refine s_goto X hx (hb hby d1_59) (q1 := 108) (by decide) (by decide) ?_
  refine s_iinc X hx (w := (2 : Int32)) (hb hby d1_108) rfl rfl (L' := #[.val (.ref x0), .val (.int (0 : Int32)), .val (.int (2 : Int32)), .val (.long x3), .second, .val (.long tt), .second, .val (.long (y1 ^^^ tt)), .second, .val (.int (2 : Int32)), .val (.long y1), .second, .val (.long (y1 ^^^ tt)), .second, .unset]) rfl (q := 111) rfl ?_
  refine s_goto X hx (hb hby d1_111) (q1 := 28) (by decide) (by decide) ?_
  refine s_iload X hx (hb hby d1_28) rfl (q := 30) rfl ?_
  refine s_iloadN X hx (hb hby d1_30) rfl (q := 31) rfl ?_
  refine f_icmp_ge X hx (hb hby d1_31) (q1 := 114) (by decide) (by decide) (q := 34) rfl (fun _ => ?_) (fun hq => absurd hq (by decide : ¬ (2 : Int32) < (2 : Int32)))
  exact leafV X hx hlk hret (hb hby d1_114) (by decide) (by decide) (by rw [eT]; refine ⟨rfl, N, K, ?_⟩; unfold SRT_02; rw [if_neg hc52]; exact A_x0)
def SRT_03 (y0 y1 y2 y3 y4 : Int64) (tt : Int64) : List Int64 := (if (y1 ^^^ tt) < (y0 ^^^ tt) then (if (y2 ^^^ tt) < (y0 ^^^ tt) then (if (y2 ^^^ tt) < (y1 ^^^ tt) then [y2, y1, y0, y3, y4] else [y1, y2, y0, y3, y4]) else [y1, y0, y2, y3, y4]) else (if (y2 ^^^ tt) < (y1 ^^^ tt) then (if (y2 ^^^ tt) < (y0 ^^^ tt) then [y2, y0, y1, y3, y4] else [y0, y2, y1, y3, y4]) else [y0, y1, y2, y3, y4]))
set_option maxRecDepth 65536 in
set_option maxHeartbeats 40000000 in
theorem rm1_03 (l : Launch) (Z : State) (a0 : Array Value) (hw : ∀ d ∈ tables_1, d.before a0 Z = true) (ws : List Jvm.Cond) (x0 : Addr) (x3 : Int64) (y0 y1 y2 y3 y4 : Int64) (h0 : Heap) (n0 : Nat) (sz : n0 ≤ h0.size) (A_x0 : AJ Z h0 x0 [y0, y1, y2, y3, y4]) (g_x0 : n0 ≤ x0) :
    Ctr l (⟨"com/example/digitwise/digitwise/internal/LongRadixSort", "insertionSort", "([JIIJ)V"⟩ : MethodName) prog_11_method_39_code 15 none ws ({ frames := 0, cells := 0, slots := 0, locals := 0 } : Room) Z #[(.ref x0), (.int (0 : Int32)), (.int (3 : Int32)), (.long x3)] h0 (fun v h L => v = none ∧ Fr n0 L ∧ Keep h0 h [x0] ∧ AJ Z h x0 (SRT_03 y0 y1 y2 y3 y4 (x3 ^^^ (-9223372036854775808 : Int64)))) 0 0 := by
  refine Ctr.mk pn_1 ?_
  intro p e s m below meth c T hx hby hml hown hnm hlk hret hZ X eT
  have N := Fr.nil n0
  refine enter (ef_1 m x0 (0 : Int32) (3 : Int32) x3) ?_
  have K := Keep.refl h0 [x0]
  refine s_iloadN X hx (hb hby d1_0) rfl (q := 1) rfl ?_
  refine s_iloadN X hx (hb hby d1_1) rfl (q := 2) rfl ?_
  refine s_isub X hx (hb hby d1_2) (q := 3) rfl ?_
  show Go p e below _ T m 3 #[.val (.ref x0), .val (.int (0 : Int32)), .val (.int (3 : Int32)), .val (.long x3), .second, .unset, .unset, .unset, .unset, .unset, .unset, .unset, .unset, .unset, .unset] [(.int (3 : Int32))]
  refine s_iconst X hx (z := (2 : Int32)) (hb hby d1_3) rfl (q := 4) rfl ?_
  refine f_icmp_ge X hx (hb hby d1_4) (q1 := 8) (by decide) (by decide) (q := 7) rfl (fun _ => ?_) (fun hq => absurd hq (by decide : ¬ (3 : Int32) < (2 : Int32)))
  refine s_lloadN X hx (hb hby d1_8) rfl (q := 9) rfl ?_
  refine s_ldc2 X hx hZ hown (hw _ (List.mem_of_getElem? (i := 6) rfl)) (hb hby d1_9) (q := 12) rfl ?_
  refine s_lxor X hx (hb hby d1_12) (q := 13) rfl ?_
  generalize htt : (x3 ^^^ (-9223372036854775808 : Int64)) = tt
  refine s_lstore X hx (hb hby d1_13) (L' := #[.val (.ref x0), .val (.int (0 : Int32)), .val (.int (3 : Int32)), .val (.long x3), .second, .val (.long tt), .second, .unset, .unset, .unset, .unset, .unset, .unset, .unset, .unset]) rfl (q := 15) rfl ?_
  refine s_aloadN X hx (hb hby d1_15) rfl rfl (q := 16) rfl ?_
  refine s_iloadN X hx (hb hby d1_16) rfl (q := 17) rfl ?_
  refine s_laload X hx hZ eT A_x0 (by decide) (i := 0) rfl (x := y0) rfl (hb hby d1_17) (q := 18) rfl ?_
  refine s_lload X hx (hb hby d1_18) rfl (q := 20) rfl ?_
  refine s_lxor X hx (hb hby d1_20) (q := 21) rfl ?_
  refine s_lstore X hx (hb hby d1_21) (L' := #[.val (.ref x0), .val (.int (0 : Int32)), .val (.int (3 : Int32)), .val (.long x3), .second, .val (.long tt), .second, .val (.long (y0 ^^^ tt)), .second, .unset, .unset, .unset, .unset, .unset, .unset]) rfl (q := 23) rfl ?_
  refine s_iloadN X hx (hb hby d1_23) rfl (q := 24) rfl ?_
  refine s_iconst X hx (z := (1 : Int32)) (hb hby d1_24) rfl (q := 25) rfl ?_
  refine s_iadd X hx (hb hby d1_25) (q := 26) rfl ?_
  show Go p e below _ T m 26 #[.val (.ref x0), .val (.int (0 : Int32)), .val (.int (3 : Int32)), .val (.long x3), .second, .val (.long tt), .second, .val (.long (y0 ^^^ tt)), .second, .unset, .unset, .unset, .unset, .unset, .unset] [(.int (1 : Int32))]
  refine s_istore X hx (hb hby d1_26) (L' := #[.val (.ref x0), .val (.int (0 : Int32)), .val (.int (3 : Int32)), .val (.long x3), .second, .val (.long tt), .second, .val (.long (y0 ^^^ tt)), .second, .val (.int (1 : Int32)), .unset, .unset, .unset, .unset, .unset]) rfl (q := 28) rfl ?_
  refine s_iload X hx (hb hby d1_28) rfl (q := 30) rfl ?_
  refine s_iloadN X hx (hb hby d1_30) rfl (q := 31) rfl ?_
  refine f_icmp_ge X hx (hb hby d1_31) (q1 := 114) (by decide) (by decide) (q := 34) rfl (fun hq => absurd (by decide : (1 : Int32) < (3 : Int32)) hq) (fun _ => ?_)
  refine s_aloadN X hx (hb hby d1_34) rfl rfl (q := 35) rfl ?_
  refine s_iload X hx (hb hby d1_35) rfl (q := 37) rfl ?_
  refine s_laload X hx hZ eT A_x0 (by decide) (i := 1) rfl (x := y1) rfl (hb hby d1_37) (q := 38) rfl ?_
  refine s_lstore X hx (hb hby d1_38) (L' := #[.val (.ref x0), .val (.int (0 : Int32)), .val (.int (3 : Int32)), .val (.long x3), .second, .val (.long tt), .second, .val (.long (y0 ^^^ tt)), .second, .val (.int (1 : Int32)), .val (.long y1), .second, .unset, .unset, .unset]) rfl (q := 40) rfl ?_
  refine s_lload X hx (hb hby d1_40) rfl (q := 42) rfl ?_
  refine s_lload X hx (hb hby d1_42) rfl (q := 44) rfl ?_
  refine s_lxor X hx (hb hby d1_44) (q := 45) rfl ?_
  refine s_lstore X hx (hb hby d1_45) (L' := #[.val (.ref x0), .val (.int (0 : Int32)), .val (.int (3 : Int32)), .val (.long x3), .second, .val (.long tt), .second, .val (.long (y0 ^^^ tt)), .second, .val (.int (1 : Int32)), .val (.long y1), .second, .val (.long (y1 ^^^ tt)), .second, .unset]) rfl (q := 47) rfl ?_
  refine s_lload X hx (hb hby d1_47) rfl (q := 49) rfl ?_
  refine s_lload X hx (hb hby d1_49) rfl (q := 51) rfl ?_
  refine s_lcmp X hx (hb hby d1_51) (q := 52) rfl ?_
  refine f_lcmp_lt X hx (hb hby d1_52) (q1 := 62) (by decide) (by decide) (q := 55) rfl (fun hc52 => ?_) (fun hc52 => ?_)
  · refine s_iload X hx (hb hby d1_62) rfl (q := 64) rfl ?_
    refine s_iconst X hx (z := (1 : Int32)) (hb hby d1_64) rfl (q := 65) rfl ?_
    refine s_isub X hx (hb hby d1_65) (q := 66) rfl ?_
    show Go p e below _ T m 66 #[.val (.ref x0), .val (.int (0 : Int32)), .val (.int (3 : Int32)), .val (.long x3), .second, .val (.long tt), .second, .val (.long (y0 ^^^ tt)), .second, .val (.int (1 : Int32)), .val (.long y1), .second, .val (.long (y1 ^^^ tt)), .second, .unset] [(.int (0 : Int32))]
    refine s_istore X hx (hb hby d1_66) (L' := #[.val (.ref x0), .val (.int (0 : Int32)), .val (.int (3 : Int32)), .val (.long x3), .second, .val (.long tt), .second, .val (.long (y0 ^^^ tt)), .second, .val (.int (1 : Int32)), .val (.long y1), .second, .val (.long (y1 ^^^ tt)), .second, .val (.int (0 : Int32))]) rfl (q := 68) rfl ?_
    refine s_aloadN X hx (hb hby d1_68) rfl rfl (q := 69) rfl ?_
    refine s_iload X hx (hb hby d1_69) rfl (q := 71) rfl ?_
    refine s_iconst X hx (z := (1 : Int32)) (hb hby d1_71) rfl (q := 72) rfl ?_
    refine s_iadd X hx (hb hby d1_72) (q := 73) rfl ?_
    show Go p e below _ T m 73 #[.val (.ref x0), .val (.int (0 : Int32)), .val (.int (3 : Int32)), .val (.long x3), .second, .val (.long tt), .second, .val (.long (y0 ^^^ tt)), .second, .val (.int (1 : Int32)), .val (.long y1), .second, .val (.long (y1 ^^^ tt)), .second, .val (.int (0 : Int32))] [(.int (1 : Int32)), (.ref x0)]
    refine s_aloadN X hx (hb hby d1_73) rfl rfl (q := 74) rfl ?_
    refine s_iload X hx (hb hby d1_74) rfl (q := 76) rfl ?_
    refine s_laload X hx hZ eT A_x0 (by decide) (i := 0) rfl (x := y0) rfl (hb hby d1_76) (q := 77) rfl ?_
    refine s_lastore X hx hZ eT A_x0 N g_x0 (by decide) (i := 1) rfl (Nat.le_of_ble_eq_true rfl) (vs := [y0, y0, y2, y3, y4]) rfl (hb hby d1_77) (q := 78) rfl ?_
    intro T h1 _ X N eT W A_x0'
    have K := K.wr W (Or.inl (List.mem_of_getElem? (i := 0) rfl))
    have sz : n0 ≤ h1.size := by rw [W.size]; exact sz
    have A_x0 := A_x0'
    refine s_iinc X hx (w := (-1 : Int32)) (hb hby d1_78) rfl rfl (L' := #[.val (.ref x0), .val (.int (0 : Int32)), .val (.int (3 : Int32)), .val (.long x3), .second, .val (.long tt), .second, .val (.long (y0 ^^^ tt)), .second, .val (.int (1 : Int32)), .val (.long y1), .second, .val (.long (y1 ^^^ tt)), .second, .val (.int (-1 : Int32))]) rfl (q := 81) rfl ?_
    refine s_iload X hx (hb hby d1_81) rfl (q := 83) rfl ?_
    refine s_iloadN X hx (hb hby d1_83) rfl (q := 84) rfl ?_
    refine f_icmp_lt X hx (hb hby d1_84) (q1 := 100) (by decide) (by decide) (q := 87) rfl (fun _ => ?_) (fun hq => absurd (by decide : (-1 : Int32) < (0 : Int32)) hq)
    refine s_aloadN X hx (hb hby d1_100) rfl rfl (q := 101) rfl ?_
    refine s_iload X hx (hb hby d1_101) rfl (q := 103) rfl ?_
    refine s_iconst X hx (z := (1 : Int32)) (hb hby d1_103) rfl (q := 104) rfl ?_
    refine s_iadd X hx (hb hby d1_104) (q := 105) rfl ?_
    show Go p e below _ T m 105 #[.val (.ref x0), .val (.int (0 : Int32)), .val (.int (3 : Int32)), .val (.long x3), .second, .val (.long tt), .second, .val (.long (y0 ^^^ tt)), .second, .val (.int (1 : Int32)), .val (.long y1), .second, .val (.long (y1 ^^^ tt)), .second, .val (.int (-1 : Int32))] [(.int (0 : Int32)), (.ref x0)]
    refine s_lload X hx (hb hby d1_105) rfl (q := 107) rfl ?_
    refine s_lastore X hx hZ eT A_x0 N g_x0 (by decide) (i := 0) rfl (Nat.le_of_ble_eq_true rfl) (vs := [y1, y0, y2, y3, y4]) rfl (hb hby d1_107) (q := 108) rfl ?_
    intro T h2 _ X N eT W A_x0'
    have K := K.wr W (Or.inl (List.mem_of_getElem? (i := 0) rfl))
    have sz : n0 ≤ h2.size := by rw [W.size]; exact sz
    have A_x0 := A_x0'
    refine s_iinc X hx (w := (2 : Int32)) (hb hby d1_108) rfl rfl (L' := #[.val (.ref x0), .val (.int (0 : Int32)), .val (.int (3 : Int32)), .val (.long x3), .second, .val (.long tt), .second, .val (.long (y0 ^^^ tt)), .second, .val (.int (2 : Int32)), .val (.long y1), .second, .val (.long (y1 ^^^ tt)), .second, .val (.int (-1 : Int32))]) rfl (q := 111) rfl ?_
    refine s_goto X hx (hb hby d1_111) (q1 := 28) (by decide) (by decide) ?_
    refine s_iload X hx (hb hby d1_28) rfl (q := 30) rfl ?_
    refine s_iloadN X hx (hb hby d1_30) rfl (q := 31) rfl ?_
    refine f_icmp_ge X hx (hb hby d1_31) (q1 := 114) (by decide) (by decide) (q := 34) rfl (fun hq => absurd (by decide : (2 : Int32) < (3 : Int32)) hq) (fun _ => ?_)
    refine s_aloadN X hx (hb hby d1_34) rfl rfl (q := 35) rfl ?_
    refine s_iload X hx (hb hby d1_35) rfl (q := 37) rfl ?_
    refine s_laload X hx hZ eT A_x0 (by decide) (i := 2) rfl (x := y2) rfl (hb hby d1_37) (q := 38) rfl ?_
    refine s_lstore X hx (hb hby d1_38) (L' := #[.val (.ref x0), .val (.int (0 : Int32)), .val (.int (3 : Int32)), .val (.long x3), .second, .val (.long tt), .second, .val (.long (y0 ^^^ tt)), .second, .val (.int (2 : Int32)), .val (.long y2), .second, .val (.long (y1 ^^^ tt)), .second, .val (.int (-1 : Int32))]) rfl (q := 40) rfl ?_
    refine s_lload X hx (hb hby d1_40) rfl (q := 42) rfl ?_
    refine s_lload X hx (hb hby d1_42) rfl (q := 44) rfl ?_
    refine s_lxor X hx (hb hby d1_44) (q := 45) rfl ?_
    refine s_lstore X hx (hb hby d1_45) (L' := #[.val (.ref x0), .val (.int (0 : Int32)), .val (.int (3 : Int32)), .val (.long x3), .second, .val (.long tt), .second, .val (.long (y0 ^^^ tt)), .second, .val (.int (2 : Int32)), .val (.long y2), .second, .val (.long (y2 ^^^ tt)), .second, .val (.int (-1 : Int32))]) rfl (q := 47) rfl ?_
    refine s_lload X hx (hb hby d1_47) rfl (q := 49) rfl ?_
    refine s_lload X hx (hb hby d1_49) rfl (q := 51) rfl ?_
    refine s_lcmp X hx (hb hby d1_51) (q := 52) rfl ?_
    refine f_lcmp_lt X hx (hb hby d1_52) (q1 := 62) (by decide) (by decide) (q := 55) rfl (fun hc52_1 => ?_) (fun hc52_1 => ?_)
    · refine s_iload X hx (hb hby d1_62) rfl (q := 64) rfl ?_
      refine s_iconst X hx (z := (1 : Int32)) (hb hby d1_64) rfl (q := 65) rfl ?_
      refine s_isub X hx (hb hby d1_65) (q := 66) rfl ?_
      show Go p e below _ T m 66 #[.val (.ref x0), .val (.int (0 : Int32)), .val (.int (3 : Int32)), .val (.long x3), .second, .val (.long tt), .second, .val (.long (y0 ^^^ tt)), .second, .val (.int (2 : Int32)), .val (.long y2), .second, .val (.long (y2 ^^^ tt)), .second, .val (.int (-1 : Int32))] [(.int (1 : Int32))]
      refine s_istore X hx (hb hby d1_66) (L' := #[.val (.ref x0), .val (.int (0 : Int32)), .val (.int (3 : Int32)), .val (.long x3), .second, .val (.long tt), .second, .val (.long (y0 ^^^ tt)), .second, .val (.int (2 : Int32)), .val (.long y2), .second, .val (.long (y2 ^^^ tt)), .second, .val (.int (1 : Int32))]) rfl (q := 68) rfl ?_
      refine s_aloadN X hx (hb hby d1_68) rfl rfl (q := 69) rfl ?_
      refine s_iload X hx (hb hby d1_69) rfl (q := 71) rfl ?_
      refine s_iconst X hx (z := (1 : Int32)) (hb hby d1_71) rfl (q := 72) rfl ?_
      refine s_iadd X hx (hb hby d1_72) (q := 73) rfl ?_
      show Go p e below _ T m 73 #[.val (.ref x0), .val (.int (0 : Int32)), .val (.int (3 : Int32)), .val (.long x3), .second, .val (.long tt), .second, .val (.long (y0 ^^^ tt)), .second, .val (.int (2 : Int32)), .val (.long y2), .second, .val (.long (y2 ^^^ tt)), .second, .val (.int (1 : Int32))] [(.int (2 : Int32)), (.ref x0)]
      refine s_aloadN X hx (hb hby d1_73) rfl rfl (q := 74) rfl ?_
      refine s_iload X hx (hb hby d1_74) rfl (q := 76) rfl ?_
      refine s_laload X hx hZ eT A_x0 (by decide) (i := 1) rfl (x := y0) rfl (hb hby d1_76) (q := 77) rfl ?_
      refine s_lastore X hx hZ eT A_x0 N g_x0 (by decide) (i := 2) rfl (Nat.le_of_ble_eq_true rfl) (vs := [y1, y0, y0, y3, y4]) rfl (hb hby d1_77) (q := 78) rfl ?_
      intro T h3 _ X N eT W A_x0'
      have K := K.wr W (Or.inl (List.mem_of_getElem? (i := 0) rfl))
      have sz : n0 ≤ h3.size := by rw [W.size]; exact sz
      have A_x0 := A_x0'
      refine s_iinc X hx (w := (0 : Int32)) (hb hby d1_78) rfl rfl (L' := #[.val (.ref x0), .val (.int (0 : Int32)), .val (.int (3 : Int32)), .val (.long x3), .second, .val (.long tt), .second, .val (.long (y0 ^^^ tt)), .second, .val (.int (2 : Int32)), .val (.long y2), .second, .val (.long (y2 ^^^ tt)), .second, .val (.int (0 : Int32))]) rfl (q := 81) rfl ?_
      refine s_iload X hx (hb hby d1_81) rfl (q := 83) rfl ?_
      refine s_iloadN X hx (hb hby d1_83) rfl (q := 84) rfl ?_
      refine f_icmp_lt X hx (hb hby d1_84) (q1 := 100) (by decide) (by decide) (q := 87) rfl (fun hq => absurd hq (by decide : ¬ (0 : Int32) < (0 : Int32))) (fun _ => ?_)
      refine s_aloadN X hx (hb hby d1_87) rfl rfl (q := 88) rfl ?_
      refine s_iload X hx (hb hby d1_88) rfl (q := 90) rfl ?_
      refine s_laload X hx hZ eT A_x0 (by decide) (i := 0) rfl (x := y1) rfl (hb hby d1_90) (q := 91) rfl ?_
      refine s_lload X hx (hb hby d1_91) rfl (q := 93) rfl ?_
      refine s_lxor X hx (hb hby d1_93) (q := 94) rfl ?_
      refine s_lload X hx (hb hby d1_94) rfl (q := 96) rfl ?_
      refine s_lcmp X hx (hb hby d1_96) (q := 97) rfl ?_
      refine f_lcmp_gt X hx (hb hby d1_97) (q1 := 68) (by decide) (by decide) (q := 100) rfl (fun hc97 => ?_) (fun hc97 => ?_)
      · refine s_aloadN X hx (hb hby d1_68) rfl rfl (q := 69) rfl ?_
        refine s_iload X hx (hb hby d1_69) rfl (q := 71) rfl ?_
        refine s_iconst X hx (z := (1 : Int32)) (hb hby d1_71) rfl (q := 72) rfl ?_
        refine s_iadd X hx (hb hby d1_72) (q := 73) rfl ?_
        show Go p e below _ T m 73 #[.val (.ref x0), .val (.int (0 : Int32)), .val (.int (3 : Int32)), .val (.long x3), .second, .val (.long tt), .second, .val (.long (y0 ^^^ tt)), .second, .val (.int (2 : Int32)), .val (.long y2), .second, .val (.long (y2 ^^^ tt)), .second, .val (.int (0 : Int32))] [(.int (1 : Int32)), (.ref x0)]
        refine s_aloadN X hx (hb hby d1_73) rfl rfl (q := 74) rfl ?_
        refine s_iload X hx (hb hby d1_74) rfl (q := 76) rfl ?_
        refine s_laload X hx hZ eT A_x0 (by decide) (i := 0) rfl (x := y1) rfl (hb hby d1_76) (q := 77) rfl ?_
        refine s_lastore X hx hZ eT A_x0 N g_x0 (by decide) (i := 1) rfl (Nat.le_of_ble_eq_true rfl) (vs := [y1, y1, y0, y3, y4]) rfl (hb hby d1_77) (q := 78) rfl ?_
        intro T h4 _ X N eT W A_x0'
        have K := K.wr W (Or.inl (List.mem_of_getElem? (i := 0) rfl))
        have sz : n0 ≤ h4.size := by rw [W.size]; exact sz
        have A_x0 := A_x0'
        refine s_iinc X hx (w := (-1 : Int32)) (hb hby d1_78) rfl rfl (L' := #[.val (.ref x0), .val (.int (0 : Int32)), .val (.int (3 : Int32)), .val (.long x3), .second, .val (.long tt), .second, .val (.long (y0 ^^^ tt)), .second, .val (.int (2 : Int32)), .val (.long y2), .second, .val (.long (y2 ^^^ tt)), .second, .val (.int (-1 : Int32))]) rfl (q := 81) rfl ?_
        refine s_iload X hx (hb hby d1_81) rfl (q := 83) rfl ?_
        refine s_iloadN X hx (hb hby d1_83) rfl (q := 84) rfl ?_
        refine f_icmp_lt X hx (hb hby d1_84) (q1 := 100) (by decide) (by decide) (q := 87) rfl (fun _ => ?_) (fun hq => absurd (by decide : (-1 : Int32) < (0 : Int32)) hq)
        refine s_aloadN X hx (hb hby d1_100) rfl rfl (q := 101) rfl ?_
        refine s_iload X hx (hb hby d1_101) rfl (q := 103) rfl ?_
        refine s_iconst X hx (z := (1 : Int32)) (hb hby d1_103) rfl (q := 104) rfl ?_
        refine s_iadd X hx (hb hby d1_104) (q := 105) rfl ?_
        show Go p e below _ T m 105 #[.val (.ref x0), .val (.int (0 : Int32)), .val (.int (3 : Int32)), .val (.long x3), .second, .val (.long tt), .second, .val (.long (y0 ^^^ tt)), .second, .val (.int (2 : Int32)), .val (.long y2), .second, .val (.long (y2 ^^^ tt)), .second, .val (.int (-1 : Int32))] [(.int (0 : Int32)), (.ref x0)]
        refine s_lload X hx (hb hby d1_105) rfl (q := 107) rfl ?_
        refine s_lastore X hx hZ eT A_x0 N g_x0 (by decide) (i := 0) rfl (Nat.le_of_ble_eq_true rfl) (vs := [y2, y1, y0, y3, y4]) rfl (hb hby d1_107) (q := 108) rfl ?_
        intro T h5 _ X N eT W A_x0'
        have K := K.wr W (Or.inl (List.mem_of_getElem? (i := 0) rfl))
        have sz : n0 ≤ h5.size := by rw [W.size]; exact sz
        have A_x0 := A_x0'
        refine s_iinc X hx (w := (3 : Int32)) (hb hby d1_108) rfl rfl (L' := #[.val (.ref x0), .val (.int (0 : Int32)), .val (.int (3 : Int32)), .val (.long x3), .second, .val (.long tt), .second, .val (.long (y0 ^^^ tt)), .second, .val (.int (3 : Int32)), .val (.long y2), .second, .val (.long (y2 ^^^ tt)), .second, .val (.int (-1 : Int32))]) rfl (q := 111) rfl ?_
        refine s_goto X hx (hb hby d1_111) (q1 := 28) (by decide) (by decide) ?_
        refine s_iload X hx (hb hby d1_28) rfl (q := 30) rfl ?_
        refine s_iloadN X hx (hb hby d1_30) rfl (q := 31) rfl ?_
        refine f_icmp_ge X hx (hb hby d1_31) (q1 := 114) (by decide) (by decide) (q := 34) rfl (fun _ => ?_) (fun hq => absurd hq (by decide : ¬ (3 : Int32) < (3 : Int32)))
        exact leafV X hx hlk hret (hb hby d1_114) (by decide) (by decide) (by rw [eT]; refine ⟨rfl, N, K, ?_⟩; unfold SRT_03; rw [if_pos hc52, if_pos hc52_1, if_pos hc97]; exact A_x0)
      refine s_aloadN X hx (hb hby d1_100) rfl rfl (q := 101) rfl ?_
      refine s_iload X hx (hb hby d1_101) rfl (q := 103) rfl ?_
      refine s_iconst X hx (z := (1 : Int32)) (hb hby d1_103) rfl (q := 104) rfl ?_
      refine s_iadd X hx (hb hby d1_104) (q := 105) rfl ?_
      show Go p e below _ T m 105 #[.val (.ref x0), .val (.int (0 : Int32)), .val (.int (3 : Int32)), .val (.long x3), .second, .val (.long tt), .second, .val (.long (y0 ^^^ tt)), .second, .val (.int (2 : Int32)), .val (.long y2), .second, .val (.long (y2 ^^^ tt)), .second, .val (.int (0 : Int32))] [(.int (1 : Int32)), (.ref x0)]
      refine s_lload X hx (hb hby d1_105) rfl (q := 107) rfl ?_
      refine s_lastore X hx hZ eT A_x0 N g_x0 (by decide) (i := 1) rfl (Nat.le_of_ble_eq_true rfl) (vs := [y1, y2, y0, y3, y4]) rfl (hb hby d1_107) (q := 108) rfl ?_
      intro T h6 _ X N eT W A_x0'
      have K := K.wr W (Or.inl (List.mem_of_getElem? (i := 0) rfl))
      have sz : n0 ≤ h6.size := by rw [W.size]; exact sz
      have A_x0 := A_x0'
      refine s_iinc X hx (w := (3 : Int32)) (hb hby d1_108) rfl rfl (L' := #[.val (.ref x0), .val (.int (0 : Int32)), .val (.int (3 : Int32)), .val (.long x3), .second, .val (.long tt), .second, .val (.long (y0 ^^^ tt)), .second, .val (.int (3 : Int32)), .val (.long y2), .second, .val (.long (y2 ^^^ tt)), .second, .val (.int (0 : Int32))]) rfl (q := 111) rfl ?_
      refine s_goto X hx (hb hby d1_111) (q1 := 28) (by decide) (by decide) ?_
      refine s_iload X hx (hb hby d1_28) rfl (q := 30) rfl ?_
      refine s_iloadN X hx (hb hby d1_30) rfl (q := 31) rfl ?_
      refine f_icmp_ge X hx (hb hby d1_31) (q1 := 114) (by decide) (by decide) (q := 34) rfl (fun _ => ?_) (fun hq => absurd hq (by decide : ¬ (3 : Int32) < (3 : Int32)))
      exact leafV X hx hlk hret (hb hby d1_114) (by decide) (by decide) (by rw [eT]; refine ⟨rfl, N, K, ?_⟩; unfold SRT_03; rw [if_pos hc52, if_pos hc52_1, if_neg hc97]; exact A_x0)
    refine s_lload X hx (hb hby d1_55) rfl (q := 57) rfl ?_
    refine s_lstore X hx (hb hby d1_57) (L' := #[.val (.ref x0), .val (.int (0 : Int32)), .val (.int (3 : Int32)), .val (.long x3), .second, .val (.long tt), .second, .val (.long (y2 ^^^ tt)), .second, .val (.int (2 : Int32)), .val (.long y2), .second, .val (.long (y2 ^^^ tt)), .second, .val (.int (-1 : Int32))]) rfl (q := 59) rfl ?_
    refine s_goto X hx (hb hby d1_59) (q1 := 108) (by decide) (by decide) ?_
    refine s_iinc X hx (w := (3 : Int32)) (hb hby d1_108) rfl rfl (L' := #[.val (.ref x0), .val (.int (0 : Int32)), .val (.int (3 : Int32)), .val (.long x3), .second, .val (.long tt), .second, .val (.long (y2 ^^^ tt)), .second, .val (.int (3 : Int32)), .val (.long y2), .second, .val (.long (y2 ^^^ tt)), .second, .val (.int (-1 : Int32))]) rfl (q := 111) rfl ?_
    refine s_goto X hx (hb hby d1_111) (q1 := 28) (by decide) (by decide) ?_
    refine s_iload X hx (hb hby d1_28) rfl (q := 30) rfl ?_
    refine s_iloadN X hx (hb hby d1_30) rfl (q := 31) rfl ?_
    refine f_icmp_ge X hx (hb hby d1_31) (q1 := 114) (by decide) (by decide) (q := 34) rfl (fun _ => ?_) (fun hq => absurd hq (by decide : ¬ (3 : Int32) < (3 : Int32)))
    exact leafV X hx hlk hret (hb hby d1_114) (by decide) (by decide) (by rw [eT]; refine ⟨rfl, N, K, ?_⟩; unfold SRT_03; rw [if_pos hc52, if_neg hc52_1]; exact A_x0)
  refine s_lload X hx (hb hby d1_55) rfl (q := 57) rfl ?_
  refine s_lstore X hx (hb hby d1_57) (L' := #[.val (.ref x0), .val (.int (0 : Int32)), .val (.int (3 : Int32)), .val (.long x3), .second, .val (.long tt), .second, .val (.long (y1 ^^^ tt)), .second, .val (.int (1 : Int32)), .val (.long y1), .second, .val (.long (y1 ^^^ tt)), .second, .unset]) rfl (q := 59) rfl ?_
  refine s_goto X hx (hb hby d1_59) (q1 := 108) (by decide) (by decide) ?_
  refine s_iinc X hx (w := (2 : Int32)) (hb hby d1_108) rfl rfl (L' := #[.val (.ref x0), .val (.int (0 : Int32)), .val (.int (3 : Int32)), .val (.long x3), .second, .val (.long tt), .second, .val (.long (y1 ^^^ tt)), .second, .val (.int (2 : Int32)), .val (.long y1), .second, .val (.long (y1 ^^^ tt)), .second, .unset]) rfl (q := 111) rfl ?_
  refine s_goto X hx (hb hby d1_111) (q1 := 28) (by decide) (by decide) ?_
  refine s_iload X hx (hb hby d1_28) rfl (q := 30) rfl ?_
  refine s_iloadN X hx (hb hby d1_30) rfl (q := 31) rfl ?_
  refine f_icmp_ge X hx (hb hby d1_31) (q1 := 114) (by decide) (by decide) (q := 34) rfl (fun hq => absurd (by decide : (2 : Int32) < (3 : Int32)) hq) (fun _ => ?_)
  refine s_aloadN X hx (hb hby d1_34) rfl rfl (q := 35) rfl ?_
  refine s_iload X hx (hb hby d1_35) rfl (q := 37) rfl ?_
  refine s_laload X hx hZ eT A_x0 (by decide) (i := 2) rfl (x := y2) rfl (hb hby d1_37) (q := 38) rfl ?_
  refine s_lstore X hx (hb hby d1_38) (L' := #[.val (.ref x0), .val (.int (0 : Int32)), .val (.int (3 : Int32)), .val (.long x3), .second, .val (.long tt), .second, .val (.long (y1 ^^^ tt)), .second, .val (.int (2 : Int32)), .val (.long y2), .second, .val (.long (y1 ^^^ tt)), .second, .unset]) rfl (q := 40) rfl ?_
  refine s_lload X hx (hb hby d1_40) rfl (q := 42) rfl ?_
  refine s_lload X hx (hb hby d1_42) rfl (q := 44) rfl ?_
  refine s_lxor X hx (hb hby d1_44) (q := 45) rfl ?_
  refine s_lstore X hx (hb hby d1_45) (L' := #[.val (.ref x0), .val (.int (0 : Int32)), .val (.int (3 : Int32)), .val (.long x3), .second, .val (.long tt), .second, .val (.long (y1 ^^^ tt)), .second, .val (.int (2 : Int32)), .val (.long y2), .second, .val (.long (y2 ^^^ tt)), .second, .unset]) rfl (q := 47) rfl ?_
  refine s_lload X hx (hb hby d1_47) rfl (q := 49) rfl ?_
  refine s_lload X hx (hb hby d1_49) rfl (q := 51) rfl ?_
  refine s_lcmp X hx (hb hby d1_51) (q := 52) rfl ?_
  refine f_lcmp_lt X hx (hb hby d1_52) (q1 := 62) (by decide) (by decide) (q := 55) rfl (fun hc52_1 => ?_) (fun hc52_1 => ?_)
  · refine s_iload X hx (hb hby d1_62) rfl (q := 64) rfl ?_
    refine s_iconst X hx (z := (1 : Int32)) (hb hby d1_64) rfl (q := 65) rfl ?_
    refine s_isub X hx (hb hby d1_65) (q := 66) rfl ?_
    show Go p e below _ T m 66 #[.val (.ref x0), .val (.int (0 : Int32)), .val (.int (3 : Int32)), .val (.long x3), .second, .val (.long tt), .second, .val (.long (y1 ^^^ tt)), .second, .val (.int (2 : Int32)), .val (.long y2), .second, .val (.long (y2 ^^^ tt)), .second, .unset] [(.int (1 : Int32))]
    refine s_istore X hx (hb hby d1_66) (L' := #[.val (.ref x0), .val (.int (0 : Int32)), .val (.int (3 : Int32)), .val (.long x3), .second, .val (.long tt), .second, .val (.long (y1 ^^^ tt)), .second, .val (.int (2 : Int32)), .val (.long y2), .second, .val (.long (y2 ^^^ tt)), .second, .val (.int (1 : Int32))]) rfl (q := 68) rfl ?_
    refine s_aloadN X hx (hb hby d1_68) rfl rfl (q := 69) rfl ?_
    refine s_iload X hx (hb hby d1_69) rfl (q := 71) rfl ?_
    refine s_iconst X hx (z := (1 : Int32)) (hb hby d1_71) rfl (q := 72) rfl ?_
    refine s_iadd X hx (hb hby d1_72) (q := 73) rfl ?_
    show Go p e below _ T m 73 #[.val (.ref x0), .val (.int (0 : Int32)), .val (.int (3 : Int32)), .val (.long x3), .second, .val (.long tt), .second, .val (.long (y1 ^^^ tt)), .second, .val (.int (2 : Int32)), .val (.long y2), .second, .val (.long (y2 ^^^ tt)), .second, .val (.int (1 : Int32))] [(.int (2 : Int32)), (.ref x0)]
    refine s_aloadN X hx (hb hby d1_73) rfl rfl (q := 74) rfl ?_
    refine s_iload X hx (hb hby d1_74) rfl (q := 76) rfl ?_
    refine s_laload X hx hZ eT A_x0 (by decide) (i := 1) rfl (x := y1) rfl (hb hby d1_76) (q := 77) rfl ?_
    refine s_lastore X hx hZ eT A_x0 N g_x0 (by decide) (i := 2) rfl (Nat.le_of_ble_eq_true rfl) (vs := [y0, y1, y1, y3, y4]) rfl (hb hby d1_77) (q := 78) rfl ?_
    intro T h7 _ X N eT W A_x0'
    have K := K.wr W (Or.inl (List.mem_of_getElem? (i := 0) rfl))
    have sz : n0 ≤ h7.size := by rw [W.size]; exact sz
    have A_x0 := A_x0'
    refine s_iinc X hx (w := (0 : Int32)) (hb hby d1_78) rfl rfl (L' := #[.val (.ref x0), .val (.int (0 : Int32)), .val (.int (3 : Int32)), .val (.long x3), .second, .val (.long tt), .second, .val (.long (y1 ^^^ tt)), .second, .val (.int (2 : Int32)), .val (.long y2), .second, .val (.long (y2 ^^^ tt)), .second, .val (.int (0 : Int32))]) rfl (q := 81) rfl ?_
    refine s_iload X hx (hb hby d1_81) rfl (q := 83) rfl ?_
    refine s_iloadN X hx (hb hby d1_83) rfl (q := 84) rfl ?_
    refine f_icmp_lt X hx (hb hby d1_84) (q1 := 100) (by decide) (by decide) (q := 87) rfl (fun hq => absurd hq (by decide : ¬ (0 : Int32) < (0 : Int32))) (fun _ => ?_)
    refine s_aloadN X hx (hb hby d1_87) rfl rfl (q := 88) rfl ?_
    refine s_iload X hx (hb hby d1_88) rfl (q := 90) rfl ?_
    refine s_laload X hx hZ eT A_x0 (by decide) (i := 0) rfl (x := y0) rfl (hb hby d1_90) (q := 91) rfl ?_
    refine s_lload X hx (hb hby d1_91) rfl (q := 93) rfl ?_
    refine s_lxor X hx (hb hby d1_93) (q := 94) rfl ?_
    refine s_lload X hx (hb hby d1_94) rfl (q := 96) rfl ?_
    refine s_lcmp X hx (hb hby d1_96) (q := 97) rfl ?_
    refine f_lcmp_gt X hx (hb hby d1_97) (q1 := 68) (by decide) (by decide) (q := 100) rfl (fun hc97 => ?_) (fun hc97 => ?_)
    · refine s_aloadN X hx (hb hby d1_68) rfl rfl (q := 69) rfl ?_
      refine s_iload X hx (hb hby d1_69) rfl (q := 71) rfl ?_
      refine s_iconst X hx (z := (1 : Int32)) (hb hby d1_71) rfl (q := 72) rfl ?_
      refine s_iadd X hx (hb hby d1_72) (q := 73) rfl ?_
      show Go p e below _ T m 73 #[.val (.ref x0), .val (.int (0 : Int32)), .val (.int (3 : Int32)), .val (.long x3), .second, .val (.long tt), .second, .val (.long (y1 ^^^ tt)), .second, .val (.int (2 : Int32)), .val (.long y2), .second, .val (.long (y2 ^^^ tt)), .second, .val (.int (0 : Int32))] [(.int (1 : Int32)), (.ref x0)]
      refine s_aloadN X hx (hb hby d1_73) rfl rfl (q := 74) rfl ?_
      refine s_iload X hx (hb hby d1_74) rfl (q := 76) rfl ?_
      refine s_laload X hx hZ eT A_x0 (by decide) (i := 0) rfl (x := y0) rfl (hb hby d1_76) (q := 77) rfl ?_
      refine s_lastore X hx hZ eT A_x0 N g_x0 (by decide) (i := 1) rfl (Nat.le_of_ble_eq_true rfl) (vs := [y0, y0, y1, y3, y4]) rfl (hb hby d1_77) (q := 78) rfl ?_
      intro T h8 _ X N eT W A_x0'
      have K := K.wr W (Or.inl (List.mem_of_getElem? (i := 0) rfl))
      have sz : n0 ≤ h8.size := by rw [W.size]; exact sz
      have A_x0 := A_x0'
      refine s_iinc X hx (w := (-1 : Int32)) (hb hby d1_78) rfl rfl (L' := #[.val (.ref x0), .val (.int (0 : Int32)), .val (.int (3 : Int32)), .val (.long x3), .second, .val (.long tt), .second, .val (.long (y1 ^^^ tt)), .second, .val (.int (2 : Int32)), .val (.long y2), .second, .val (.long (y2 ^^^ tt)), .second, .val (.int (-1 : Int32))]) rfl (q := 81) rfl ?_
      refine s_iload X hx (hb hby d1_81) rfl (q := 83) rfl ?_
      refine s_iloadN X hx (hb hby d1_83) rfl (q := 84) rfl ?_
      refine f_icmp_lt X hx (hb hby d1_84) (q1 := 100) (by decide) (by decide) (q := 87) rfl (fun _ => ?_) (fun hq => absurd (by decide : (-1 : Int32) < (0 : Int32)) hq)
      refine s_aloadN X hx (hb hby d1_100) rfl rfl (q := 101) rfl ?_
      refine s_iload X hx (hb hby d1_101) rfl (q := 103) rfl ?_
      refine s_iconst X hx (z := (1 : Int32)) (hb hby d1_103) rfl (q := 104) rfl ?_
      refine s_iadd X hx (hb hby d1_104) (q := 105) rfl ?_
      show Go p e below _ T m 105 #[.val (.ref x0), .val (.int (0 : Int32)), .val (.int (3 : Int32)), .val (.long x3), .second, .val (.long tt), .second, .val (.long (y1 ^^^ tt)), .second, .val (.int (2 : Int32)), .val (.long y2), .second, .val (.long (y2 ^^^ tt)), .second, .val (.int (-1 : Int32))] [(.int (0 : Int32)), (.ref x0)]
      refine s_lload X hx (hb hby d1_105) rfl (q := 107) rfl ?_
      refine s_lastore X hx hZ eT A_x0 N g_x0 (by decide) (i := 0) rfl (Nat.le_of_ble_eq_true rfl) (vs := [y2, y0, y1, y3, y4]) rfl (hb hby d1_107) (q := 108) rfl ?_
      intro T h9 _ X N eT W A_x0'
      have K := K.wr W (Or.inl (List.mem_of_getElem? (i := 0) rfl))
      have sz : n0 ≤ h9.size := by rw [W.size]; exact sz
      have A_x0 := A_x0'
      refine s_iinc X hx (w := (3 : Int32)) (hb hby d1_108) rfl rfl (L' := #[.val (.ref x0), .val (.int (0 : Int32)), .val (.int (3 : Int32)), .val (.long x3), .second, .val (.long tt), .second, .val (.long (y1 ^^^ tt)), .second, .val (.int (3 : Int32)), .val (.long y2), .second, .val (.long (y2 ^^^ tt)), .second, .val (.int (-1 : Int32))]) rfl (q := 111) rfl ?_
      refine s_goto X hx (hb hby d1_111) (q1 := 28) (by decide) (by decide) ?_
      refine s_iload X hx (hb hby d1_28) rfl (q := 30) rfl ?_
      refine s_iloadN X hx (hb hby d1_30) rfl (q := 31) rfl ?_
      refine f_icmp_ge X hx (hb hby d1_31) (q1 := 114) (by decide) (by decide) (q := 34) rfl (fun _ => ?_) (fun hq => absurd hq (by decide : ¬ (3 : Int32) < (3 : Int32)))
      exact leafV X hx hlk hret (hb hby d1_114) (by decide) (by decide) (by rw [eT]; refine ⟨rfl, N, K, ?_⟩; unfold SRT_03; rw [if_neg hc52, if_pos hc52_1, if_pos hc97]; exact A_x0)
    refine s_aloadN X hx (hb hby d1_100) rfl rfl (q := 101) rfl ?_
    refine s_iload X hx (hb hby d1_101) rfl (q := 103) rfl ?_
    refine s_iconst X hx (z := (1 : Int32)) (hb hby d1_103) rfl (q := 104) rfl ?_
    refine s_iadd X hx (hb hby d1_104) (q := 105) rfl ?_
    show Go p e below _ T m 105 #[.val (.ref x0), .val (.int (0 : Int32)), .val (.int (3 : Int32)), .val (.long x3), .second, .val (.long tt), .second, .val (.long (y1 ^^^ tt)), .second, .val (.int (2 : Int32)), .val (.long y2), .second, .val (.long (y2 ^^^ tt)), .second, .val (.int (0 : Int32))] [(.int (1 : Int32)), (.ref x0)]
    refine s_lload X hx (hb hby d1_105) rfl (q := 107) rfl ?_
    refine s_lastore X hx hZ eT A_x0 N g_x0 (by decide) (i := 1) rfl (Nat.le_of_ble_eq_true rfl) (vs := [y0, y2, y1, y3, y4]) rfl (hb hby d1_107) (q := 108) rfl ?_
    intro T h10 _ X N eT W A_x0'
    have K := K.wr W (Or.inl (List.mem_of_getElem? (i := 0) rfl))
    have sz : n0 ≤ h10.size := by rw [W.size]; exact sz
    have A_x0 := A_x0'
    refine s_iinc X hx (w := (3 : Int32)) (hb hby d1_108) rfl rfl (L' := #[.val (.ref x0), .val (.int (0 : Int32)), .val (.int (3 : Int32)), .val (.long x3), .second, .val (.long tt), .second, .val (.long (y1 ^^^ tt)), .second, .val (.int (3 : Int32)), .val (.long y2), .second, .val (.long (y2 ^^^ tt)), .second, .val (.int (0 : Int32))]) rfl (q := 111) rfl ?_
    refine s_goto X hx (hb hby d1_111) (q1 := 28) (by decide) (by decide) ?_
    refine s_iload X hx (hb hby d1_28) rfl (q := 30) rfl ?_
    refine s_iloadN X hx (hb hby d1_30) rfl (q := 31) rfl ?_
    refine f_icmp_ge X hx (hb hby d1_31) (q1 := 114) (by decide) (by decide) (q := 34) rfl (fun _ => ?_) (fun hq => absurd hq (by decide : ¬ (3 : Int32) < (3 : Int32)))
    exact leafV X hx hlk hret (hb hby d1_114) (by decide) (by decide) (by rw [eT]; refine ⟨rfl, N, K, ?_⟩; unfold SRT_03; rw [if_neg hc52, if_pos hc52_1, if_neg hc97]; exact A_x0)
  refine s_lload X hx (hb hby d1_55) rfl (q := 57) rfl ?_
  refine s_lstore X hx (hb hby d1_57) (L' := #[.val (.ref x0), .val (.int (0 : Int32)), .val (.int (3 : Int32)), .val (.long x3), .second, .val (.long tt), .second, .val (.long (y2 ^^^ tt)), .second, .val (.int (2 : Int32)), .val (.long y2), .second, .val (.long (y2 ^^^ tt)), .second, .unset]) rfl (q := 59) rfl ?_
  refine s_goto X hx (hb hby d1_59) (q1 := 108) (by decide) (by decide) ?_
  refine s_iinc X hx (w := (3 : Int32)) (hb hby d1_108) rfl rfl (L' := #[.val (.ref x0), .val (.int (0 : Int32)), .val (.int (3 : Int32)), .val (.long x3), .second, .val (.long tt), .second, .val (.long (y2 ^^^ tt)), .second, .val (.int (3 : Int32)), .val (.long y2), .second, .val (.long (y2 ^^^ tt)), .second, .unset]) rfl (q := 111) rfl ?_
  refine s_goto X hx (hb hby d1_111) (q1 := 28) (by decide) (by decide) ?_
  refine s_iload X hx (hb hby d1_28) rfl (q := 30) rfl ?_
  refine s_iloadN X hx (hb hby d1_30) rfl (q := 31) rfl ?_
  refine f_icmp_ge X hx (hb hby d1_31) (q1 := 114) (by decide) (by decide) (q := 34) rfl (fun _ => ?_) (fun hq => absurd hq (by decide : ¬ (3 : Int32) < (3 : Int32)))
  exact leafV X hx hlk hret (hb hby d1_114) (by decide) (by decide) (by rw [eT]; refine ⟨rfl, N, K, ?_⟩; unfold SRT_03; rw [if_neg hc52, if_neg hc52_1]; exact A_x0)
def SRT_11 (y0 y1 y2 y3 y4 : Int64) (tt : Int64) : List Int64 := [y0, y1, y2, y3, y4]
set_option maxRecDepth 65536 in
set_option maxHeartbeats 40000000 in
theorem rm1_11 (l : Launch) (Z : State) (a0 : Array Value) (hw : ∀ d ∈ tables_1, d.before a0 Z = true) (ws : List Jvm.Cond) (x0 : Addr) (x3 : Int64) (y0 y1 y2 y3 y4 : Int64) (h0 : Heap) (n0 : Nat) (sz : n0 ≤ h0.size) (A_x0 : AJ Z h0 x0 [y0, y1, y2, y3, y4]) (g_x0 : n0 ≤ x0) :
    Ctr l (⟨"com/example/digitwise/digitwise/internal/LongRadixSort", "insertionSort", "([JIIJ)V"⟩ : MethodName) prog_11_method_39_code 15 none ws ({ frames := 0, cells := 0, slots := 0, locals := 0 } : Room) Z #[(.ref x0), (.int (1 : Int32)), (.int (1 : Int32)), (.long x3)] h0 (fun v h L => v = none ∧ Fr n0 L ∧ Keep h0 h [x0] ∧ AJ Z h x0 (SRT_11 y0 y1 y2 y3 y4 (x3 ^^^ (-9223372036854775808 : Int64)))) 0 0 := by
  refine Ctr.mk pn_1 ?_
  intro p e s m below meth c T hx hby hml hown hnm hlk hret hZ X eT
  have N := Fr.nil n0
  refine enter (ef_1 m x0 (1 : Int32) (1 : Int32) x3) ?_
  have K := Keep.refl h0 [x0]
  refine s_iloadN X hx (hb hby d1_0) rfl (q := 1) rfl ?_
  refine s_iloadN X hx (hb hby d1_1) rfl (q := 2) rfl ?_
  refine s_isub X hx (hb hby d1_2) (q := 3) rfl ?_
  show Go p e below _ T m 3 #[.val (.ref x0), .val (.int (1 : Int32)), .val (.int (1 : Int32)), .val (.long x3), .second, .unset, .unset, .unset, .unset, .unset, .unset, .unset, .unset, .unset, .unset] [(.int (0 : Int32))]
  refine s_iconst X hx (z := (2 : Int32)) (hb hby d1_3) rfl (q := 4) rfl ?_
  refine f_icmp_ge X hx (hb hby d1_4) (q1 := 8) (by decide) (by decide) (q := 7) rfl (fun hq => absurd (by decide : (0 : Int32) < (2 : Int32)) hq) (fun _ => ?_)
  exact leafV X hx hlk hret (hb hby d1_7) (by decide) (by decide) (by rw [eT]; refine ⟨rfl, N, K, ?_⟩; unfold SRT_11; exact A_x0)
def SRT_12 (y0 y1 y2 y3 y4 : Int64) (tt : Int64) : List Int64 := [y0, y1, y2, y3, y4]
set_option maxRecDepth 65536 in
set_option maxHeartbeats 40000000 in
theorem rm1_12 (l : Launch) (Z : State) (a0 : Array Value) (hw : ∀ d ∈ tables_1, d.before a0 Z = true) (ws : List Jvm.Cond) (x0 : Addr) (x3 : Int64) (y0 y1 y2 y3 y4 : Int64) (h0 : Heap) (n0 : Nat) (sz : n0 ≤ h0.size) (A_x0 : AJ Z h0 x0 [y0, y1, y2, y3, y4]) (g_x0 : n0 ≤ x0) :
    Ctr l (⟨"com/example/digitwise/digitwise/internal/LongRadixSort", "insertionSort", "([JIIJ)V"⟩ : MethodName) prog_11_method_39_code 15 none ws ({ frames := 0, cells := 0, slots := 0, locals := 0 } : Room) Z #[(.ref x0), (.int (1 : Int32)), (.int (2 : Int32)), (.long x3)] h0 (fun v h L => v = none ∧ Fr n0 L ∧ Keep h0 h [x0] ∧ AJ Z h x0 (SRT_12 y0 y1 y2 y3 y4 (x3 ^^^ (-9223372036854775808 : Int64)))) 0 0 := by
  refine Ctr.mk pn_1 ?_
  intro p e s m below meth c T hx hby hml hown hnm hlk hret hZ X eT
  have N := Fr.nil n0
  refine enter (ef_1 m x0 (1 : Int32) (2 : Int32) x3) ?_
  have K := Keep.refl h0 [x0]
  refine s_iloadN X hx (hb hby d1_0) rfl (q := 1) rfl ?_
  refine s_iloadN X hx (hb hby d1_1) rfl (q := 2) rfl ?_
  refine s_isub X hx (hb hby d1_2) (q := 3) rfl ?_
  show Go p e below _ T m 3 #[.val (.ref x0), .val (.int (1 : Int32)), .val (.int (2 : Int32)), .val (.long x3), .second, .unset, .unset, .unset, .unset, .unset, .unset, .unset, .unset, .unset, .unset] [(.int (1 : Int32))]
  refine s_iconst X hx (z := (2 : Int32)) (hb hby d1_3) rfl (q := 4) rfl ?_
  refine f_icmp_ge X hx (hb hby d1_4) (q1 := 8) (by decide) (by decide) (q := 7) rfl (fun hq => absurd (by decide : (1 : Int32) < (2 : Int32)) hq) (fun _ => ?_)
  exact leafV X hx hlk hret (hb hby d1_7) (by decide) (by decide) (by rw [eT]; refine ⟨rfl, N, K, ?_⟩; unfold SRT_12; exact A_x0)
def SRT_13 (y0 y1 y2 y3 y4 : Int64) (tt : Int64) : List Int64 := (if (y2 ^^^ tt) < (y1 ^^^ tt) then [y0, y2, y1, y3, y4] else [y0, y1, y2, y3, y4])
set_option maxRecDepth 65536 in
set_option maxHeartbeats 40000000 in
theorem rm1_13 (l : Launch) (Z : State) (a0 : Array Value) (hw : ∀ d ∈ tables_1, d.before a0 Z = true) (ws : List Jvm.Cond) (x0 : Addr) (x3 : Int64) (y0 y1 y2 y3 y4 : Int64) (h0 : Heap) (n0 : Nat) (sz : n0 ≤ h0.size) (A_x0 : AJ Z h0 x0 [y0, y1, y2, y3, y4]) (g_x0 : n0 ≤ x0) :
    Ctr l (⟨"com/example/digitwise/digitwise/internal/LongRadixSort", "insertionSort", "([JIIJ)V"⟩ : MethodName) prog_11_method_39_code 15 none ws ({ frames := 0, cells := 0, slots := 0, locals := 0 } : Room) Z #[(.ref x0), (.int (1 : Int32)), (.int (3 : Int32)), (.long x3)] h0 (fun v h L => v = none ∧ Fr n0 L ∧ Keep h0 h [x0] ∧ AJ Z h x0 (SRT_13 y0 y1 y2 y3 y4 (x3 ^^^ (-9223372036854775808 : Int64)))) 0 0 := by
  refine Ctr.mk pn_1 ?_
  intro p e s m below meth c T hx hby hml hown hnm hlk hret hZ X eT
  have N := Fr.nil n0
  refine enter (ef_1 m x0 (1 : Int32) (3 : Int32) x3) ?_
  have K := Keep.refl h0 [x0]
  refine s_iloadN X hx (hb hby d1_0) rfl (q := 1) rfl ?_
  refine s_iloadN X hx (hb hby d1_1) rfl (q := 2) rfl ?_
  refine s_isub X hx (hb hby d1_2) (q := 3) rfl ?_
  show Go p e below _ T m 3 #[.val (.ref x0), .val (.int (1 : Int32)), .val (.int (3 : Int32)), .val (.long x3), .second, .unset, .unset, .unset, .unset, .unset, .unset, .unset, .unset, .unset, .unset] [(.int (2 : Int32))]
  refine s_iconst X hx (z := (2 : Int32)) (hb hby d1_3) rfl (q := 4) rfl ?_
  refine f_icmp_ge X hx (hb hby d1_4) (q1 := 8) (by decide) (by decide) (q := 7) rfl (fun _ => ?_) (fun hq => absurd hq (by decide : ¬ (2 : Int32) < (2 : Int32)))
  refine s_lloadN X hx (hb hby d1_8) rfl (q := 9) rfl ?_
  refine s_ldc2 X hx hZ hown (hw _ (List.mem_of_getElem? (i := 6) rfl)) (hb hby d1_9) (q := 12) rfl ?_
  refine s_lxor X hx (hb hby d1_12) (q := 13) rfl ?_
  generalize htt : (x3 ^^^ (-9223372036854775808 : Int64)) = tt
  refine s_lstore X hx (hb hby d1_13) (L' := #[.val (.ref x0), .val (.int (1 : Int32)), .val (.int (3 : Int32)), .val (.long x3), .second, .val (.long tt), .second, .unset, .unset, .unset, .unset, .unset, .unset, .unset, .unset]) rfl (q := 15) rfl ?_
  refine s_aloadN X hx (hb hby d1_15) rfl rfl (q := 16) rfl ?_
  refine s_iloadN X hx (hb hby d1_16) rfl (q := 17) rfl ?_
  refine s_laload X hx hZ eT A_x0 (by decide) (i := 1) rfl (x := y1) rfl (hb hby d1_17) (q := 18) rfl ?_
  refine s_lload X hx (hb hby d1_18) rfl (q := 20) rfl ?_
  refine s_lxor X hx (hb hby d1_20) (q := 21) rfl ?_
  refine s_lstore X hx (hb hby d1_21) (L' := #[.val (.ref x0), .val (.int (1 : Int32)), .val (.int (3 : Int32)), .val (.long x3), .second, .val (.long tt), .second, .val (.long (y1 ^^^ tt)), .second, .unset, .unset, .unset, .unset, .unset, .unset]) rfl (q := 23) rfl ?_
  refine s_iloadN X hx (hb hby d1_23) rfl (q := 24) rfl ?_
  refine s_iconst X hx (z := (1 : Int32)) (hb hby d1_24) rfl (q := 25) rfl ?_
  refine s_iadd X hx (hb hby d1_25) (q := 26) rfl ?_
  show Go p e below _ T m 26 #[.val (.ref x0), .val (.int (1 : Int32)), .val (.int (3 : Int32)), .val (.long x3), .second, .val (.long tt), .second, .val (.long (y1 ^^^ tt)), .second, .unset, .unset, .unset, .unset, .unset, .unset] [(.int (2 : Int32))]
  refine s_istore X hx (hb hby d1_26) (L' := #[.val (.ref x0), .val (.int (1 : Int32)), .val (.int (3 : Int32)), .val (.long x3), .second, .val (.long tt), .second, .val (.long (y1 ^^^ tt)), .second, .val (.int (2 : Int32)), .unset, .unset, .unset, .unset, .unset]) rfl (q := 28) rfl ?_
  refine s_iload X hx (hb hby d1_28) rfl (q := 30) rfl ?_
  refine s_iloadN X hx (hb hby d1_30) rfl (q := 31) rfl ?_
  refine f_icmp_ge X hx (hb hby d1_31) (q1 := 114) (by decide) (by decide) (q := 34) rfl (fun hq => absurd (by decide : (2 : Int32) < (3 : Int32)) hq) (fun _ => ?_)
  refine s_aloadN X hx (hb hby d1_34) rfl rfl (q := 35) rfl ?_
  refine s_iload X hx (hb hby d1_35) rfl (q := 37) rfl ?_
  refine s_laload X hx hZ eT A_x0 (by decide) (i := 2) rfl (x := y2) rfl (hb hby d1_37) (q := 38) rfl ?_
  refine s_lstore X hx (hb hby d1_38) (L' := #[.val (.ref x0), .val (.int (1 : Int32)), .val (.int (3 : Int32)), .val (.long x3), .second, .val (.long tt), .second, .val (.long (y1 ^^^ tt)), .second, .val (.int (2 : Int32)), .val (.long y2), .second, .unset, .unset, .unset]) rfl (q := 40) rfl ?_
  refine s_lload X hx (hb hby d1_40) rfl (q := 42) rfl ?_
  refine s_lload X hx (hb hby d1_42) rfl (q := 44) rfl ?_
  refine s_lxor X hx (hb hby d1_44) (q := 45) rfl ?_
  refine s_lstore X hx (hb hby d1_45) (L' := #[.val (.ref x0), .val (.int (1 : Int32)), .val (.int (3 : Int32)), .val (.long x3), .second, .val (.long tt), .second, .val (.long (y1 ^^^ tt)), .second, .val (.int (2 : Int32)), .val (.long y2), .second, .val (.long (y2 ^^^ tt)), .second, .unset]) rfl (q := 47) rfl ?_
  refine s_lload X hx (hb hby d1_47) rfl (q := 49) rfl ?_
  refine s_lload X hx (hb hby d1_49) rfl (q := 51) rfl ?_
  refine s_lcmp X hx (hb hby d1_51) (q := 52) rfl ?_
  refine f_lcmp_lt X hx (hb hby d1_52) (q1 := 62) (by decide) (by decide) (q := 55) rfl (fun hc52 => ?_) (fun hc52 => ?_)
  · refine s_iload X hx (hb hby d1_62) rfl (q := 64) rfl ?_
    refine s_iconst X hx (z := (1 : Int32)) (hb hby d1_64) rfl (q := 65) rfl ?_
    refine s_isub X hx (hb hby d1_65) (q := 66) rfl ?_
    show Go p e below _ T m 66 #[.val (.ref x0), .val (.int (1 : Int32)), .val (.int (3 : Int32)), .val (.long x3), .second, .val (.long tt), .second, .val (.long (y1 ^^^ tt)), .second, .val (.int (2 : Int32)), .val (.long y2), .second, .val (.long (y2 ^^^ tt)), .second, .unset] [(.int (1 : Int32))]
    refine s_istore X hx (hb hby d1_66) (L' := #[.val (.ref x0), .val (.int (1 : Int32)), .val (.int (3 : Int32)), .val (.long x3), .second, .val (.long tt), .second, .val (.long (y1 ^^^ tt)), .second, .val (.int (2 : Int32)), .val (.long y2), .second, .val (.long (y2 ^^^ tt)), .second, .val (.int (1 : Int32))]) rfl (q := 68) rfl ?_
    refine s_aloadN X hx (hb hby d1_68) rfl rfl (q := 69) rfl ?_
    refine s_iload X hx (hb hby d1_69) rfl (q := 71) rfl ?_
    refine s_iconst X hx (z := (1 : Int32)) (hb hby d1_71) rfl (q := 72) rfl ?_
    refine s_iadd X hx (hb hby d1_72) (q := 73) rfl ?_
    show Go p e below _ T m 73 #[.val (.ref x0), .val (.int (1 : Int32)), .val (.int (3 : Int32)), .val (.long x3), .second, .val (.long tt), .second, .val (.long (y1 ^^^ tt)), .second, .val (.int (2 : Int32)), .val (.long y2), .second, .val (.long (y2 ^^^ tt)), .second, .val (.int (1 : Int32))] [(.int (2 : Int32)), (.ref x0)]
    refine s_aloadN X hx (hb hby d1_73) rfl rfl (q := 74) rfl ?_
    refine s_iload X hx (hb hby d1_74) rfl (q := 76) rfl ?_
    refine s_laload X hx hZ eT A_x0 (by decide) (i := 1) rfl (x := y1) rfl (hb hby d1_76) (q := 77) rfl ?_
    refine s_lastore X hx hZ eT A_x0 N g_x0 (by decide) (i := 2) rfl (Nat.le_of_ble_eq_true rfl) (vs := [y0, y1, y1, y3, y4]) rfl (hb hby d1_77) (q := 78) rfl ?_
    intro T h1 _ X N eT W A_x0'
    have K := K.wr W (Or.inl (List.mem_of_getElem? (i := 0) rfl))
    have sz : n0 ≤ h1.size := by rw [W.size]; exact sz
    have A_x0 := A_x0'
    refine s_iinc X hx (w := (0 : Int32)) (hb hby d1_78) rfl rfl (L' := #[.val (.ref x0), .val (.int (1 : Int32)), .val (.int (3 : Int32)), .val (.long x3), .second, .val (.long tt), .second, .val (.long (y1 ^^^ tt)), .second, .val (.int (2 : Int32)), .val (.long y2), .second, .val (.long (y2 ^^^ tt)), .second, .val (.int (0 : Int32))]) rfl (q := 81) rfl ?_
    refine s_iload X hx (hb hby d1_81) rfl (q := 83) rfl ?_
    refine s_iloadN X hx (hb hby d1_83) rfl (q := 84) rfl ?_
    refine f_icmp_lt X hx (hb hby d1_84) (q1 := 100) (by decide) (by decide) (q := 87) rfl (fun _ => ?_) (fun hq => absurd (by decide : (0 : Int32) < (1 : Int32)) hq)
    refine s_aloadN X hx (hb hby d1_100) rfl rfl (q := 101) rfl ?_
    refine s_iload X hx (hb hby d1_101) rfl (q := 103) rfl ?_
    refine s_iconst X hx (z := (1 : Int32)) (hb hby d1_103) rfl (q := 104) rfl ?_
    refine s_iadd X hx (hb hby d1_104) (q := 105) rfl ?_
    show Go p e below _ T m 105 #[.val (.ref x0), .val (.int (1 : Int32)), .val (.int (3 : Int32)), .val (.long x3), .second, .val (.long tt), .second, .val (.long (y1 ^^^ tt)), .second, .val (.int (2 : Int32)), .val (.long y2), .second, .val (.long (y2 ^^^ tt)), .second, .val (.int (0 : Int32))] [(.int (1 : Int32)), (.ref x0)]
    refine s_lload X hx (hb hby d1_105) rfl (q := 107) rfl ?_
    refine s_lastore X hx hZ eT A_x0 N g_x0 (by decide) (i := 1) rfl (Nat.le_of_ble_eq_true rfl) (vs := [y0, y2, y1, y3, y4]) rfl (hb hby d1_107) (q := 108) rfl ?_
    intro T h2 _ X N eT W A_x0'
    have K := K.wr W (Or.inl (List.mem_of_getElem? (i := 0) rfl))
    have sz : n0 ≤ h2.size := by rw [W.size]; exact sz
    have A_x0 := A_x0'
    refine s_iinc X hx (w := (3 : Int32)) (hb hby d1_108) rfl rfl (L' := #[.val (.ref x0), .val (.int (1 : Int32)), .val (.int (3 : Int32)), .val (.long x3), .second, .val (.long tt), .second, .val (.long (y1 ^^^ tt)), .second, .val (.int (3 : Int32)), .val (.long y2), .second, .val (.long (y2 ^^^ tt)), .second, .val (.int (0 : Int32))]) rfl (q := 111) rfl ?_
    refine s_goto X hx (hb hby d1_111) (q1 := 28) (by decide) (by decide) ?_
    refine s_iload X hx (hb hby d1_28) rfl (q := 30) rfl ?_
    refine s_iloadN X hx (hb hby d1_30) rfl (q := 31) rfl ?_
    refine f_icmp_ge X hx (hb hby d1_31) (q1 := 114) (by decide) (by decide) (q := 34) rfl (fun _ => ?_) (fun hq => absurd hq (by decide : ¬ (3 : Int32) < (3 : Int32)))
    exact leafV X hx hlk hret (hb hby d1_114) (by decide) (by decide) (by rw [eT]; refine ⟨rfl, N, K, ?_⟩; unfold SRT_13; rw [if_pos hc52]; exact A_x0)
  refine s_lload X hx (hb hby d1_55) rfl (q := 57) rfl ?_
  refine s_lstore X hx (hb hby d1_57) (L' := #[.val (.ref x0), .val (.int (1 : Int32)), .val (.int (3 : Int32)), .val (.long x3), .second, .val (.long tt), .second, .val (.long (y2 ^^^ tt)), .second, .val (.int (2 : Int32)), .val (.long y2), .second, .val (.long (y2 ^^^ tt)), .second, .unset]) rfl (q := 59) rfl ?_
  refine s_goto X hx (hb hby d1_59) (q1 := 108) (by decide) (by decide) ?_
  refine s_iinc X hx (w := (3 : Int32)) (hb hby d1_108) rfl rfl (L' := #[.val (.ref x0), .val (.int (1 : Int32)), .val (.int (3 : Int32)), .val (.long x3), .second, .val (.long tt), .second, .val (.long (y2 ^^^ tt)), .second, .val (.int (3 : Int32)), .val (.long y2), .second, .val (.long (y2 ^^^ tt)), .second, .unset]) rfl (q := 111) rfl ?_
  refine s_goto X hx (hb hby d1_111) (q1 := 28) (by decide) (by decide) ?_
  refine s_iload X hx (hb hby d1_28) rfl (q := 30) rfl ?_
  refine s_iloadN X hx (hb hby d1_30) rfl (q := 31) rfl ?_
  refine f_icmp_ge X hx (hb hby d1_31) (q1 := 114) (by decide) (by decide) (q := 34) rfl (fun _ => ?_) (fun hq => absurd hq (by decide : ¬ (3 : Int32) < (3 : Int32)))
  exact leafV X hx hlk hret (hb hby d1_114) (by decide) (by decide) (by rw [eT]; refine ⟨rfl, N, K, ?_⟩; unfold SRT_13; rw [if_neg hc52]; exact A_x0)
def SRT_14 (y0 y1 y2 y3 y4 : Int64) (tt : Int64) : List Int64 := (if (y2 ^^^ tt) < (y1 ^^^ tt) then (if (y3 ^^^ tt) < (y1 ^^^ tt) then (if (y3 ^^^ tt) < (y2 ^^^ tt) then [y0, y3, y2, y1, y4] else [y0, y2, y3, y1, y4]) else [y0, y2, y1, y3, y4]) else (if (y3 ^^^ tt) < (y2 ^^^ tt) then (if (y3 ^^^ tt) < (y1 ^^^ tt) then [y0, y3, y1, y2, y4] else [y0, y1, y3, y2, y4]) else [y0, y1, y2, y3, y4]))
set_option maxRecDepth 65536 in
set_option maxHeartbeats 40000000 in
theorem rm1_14 (l : Launch) (Z : State) (a0 : Array Value) (hw : ∀ d ∈ tables_1, d.before a0 Z = true) (ws : List Jvm.Cond) (x0 : Addr) (x3 : Int64) (y0 y1 y2 y3 y4 : Int64) (h0 : Heap) (n0 : Nat) (sz : n0 ≤ h0.size) (A_x0 : AJ Z h0 x0 [y0, y1, y2, y3, y4]) (g_x0 : n0 ≤ x0) :
    Ctr l (⟨"com/example/digitwise/digitwise/internal/LongRadixSort", "insertionSort", "([JIIJ)V"⟩ : MethodName) prog_11_method_39_code 15 none ws ({ frames := 0, cells := 0, slots := 0, locals := 0 } : Room) Z #[(.ref x0), (.int (1 : Int32)), (.int (4 : Int32)), (.long x3)] h0 (fun v h L => v = none ∧ Fr n0 L ∧ Keep h0 h [x0] ∧ AJ Z h x0 (SRT_14 y0 y1 y2 y3 y4 (x3 ^^^ (-9223372036854775808 : Int64)))) 0 0 := by
  refine Ctr.mk pn_1 ?_
  intro p e s m below meth c T hx hby hml hown hnm hlk hret hZ X eT
  have N := Fr.nil n0
  refine enter (ef_1 m x0 (1 : Int32) (4 : Int32) x3) ?_
  have K := Keep.refl h0 [x0]
  refine s_iloadN X hx (hb hby d1_0) rfl (q := 1) rfl ?_
  refine s_iloadN X hx (hb hby d1_1) rfl (q := 2) rfl ?_
  refine s_isub X hx (hb hby d1_2) (q := 3) rfl ?_
  show Go p e below _ T m 3 #[.val (.ref x0), .val (.int (1 : Int32)), .val (.int (4 : Int32)), .val (.long x3), .second, .unset, .unset, .unset, .unset, .unset, .unset, .unset, .unset, .unset, .unset] [(.int (3 : Int32))]
  refine s_iconst X hx (z := (2 : Int32)) (hb hby d1_3) rfl (q := 4) rfl ?_
  refine f_icmp_ge X hx (hb hby d1_4) (q1 := 8) (by decide) (by decide) (q := 7) rfl (fun _ => ?_) (fun hq => absurd hq (by decide : ¬ (3 : Int32) < (2 : Int32)))
  refine s_lloadN X hx (hb hby d1_8) rfl (q := 9) rfl ?_
  refine s_ldc2 X hx hZ hown (hw _ (List.mem_of_getElem? (i := 6) rfl)) (hb hby d1_9) (q := 12) rfl ?_
  refine s_lxor X hx (hb hby d1_12) (q := 13) rfl ?_
  generalize htt : (x3 ^^^ (-9223372036854775808 : Int64)) = tt
  refine s_lstore X hx (hb hby d1_13) (L' := #[.val (.ref x0), .val (.int (1 : Int32)), .val (.int (4 : Int32)), .val (.long x3), .second, .val (.long tt), .second, .unset, .unset, .unset, .unset, .unset, .unset, .unset, .unset]) rfl (q := 15) rfl ?_
  refine s_aloadN X hx (hb hby d1_15) rfl rfl (q := 16) rfl ?_
  refine s_iloadN X hx (hb hby d1_16) rfl (q := 17) rfl ?_
  refine s_laload X hx hZ eT A_x0 (by decide) (i := 1) rfl (x := y1) rfl (hb hby d1_17) (q := 18) rfl ?_
  refine s_lload X hx (hb hby d1_18) rfl (q := 20) rfl ?_
  refine s_lxor X hx (hb hby d1_20) (q := 21) rfl ?_
  refine s_lstore X hx (hb hby d1_21) (L' := #[.val (.ref x0), .val (.int (1 : Int32)), .val (.int (4 : Int32)), .val (.long x3), .second, .val (.long tt), .second, .val (.long (y1 ^^^ tt)), .second, .unset, .unset, .unset, .unset, .unset, .unset]) rfl (q := 23) rfl ?_
  refine s_iloadN X hx (hb hby d1_23) rfl (q := 24) rfl ?_
  refine s_iconst X hx (z := (1 : Int32)) (hb hby d1_24) rfl (q := 25) rfl ?_
  refine s_iadd X hx (hb hby d1_25) (q := 26) rfl ?_
  show Go p e below _ T m 26 #[.val (.ref x0), .val (.int (1 : Int32)), .val (.int (4 : Int32)), .val (.long x3), .second, .val (.long tt), .second, .val (.long (y1 ^^^ tt)), .second, .unset, .unset, .unset, .unset, .unset, .unset] [(.int (2 : Int32))]
  refine s_istore X hx (hb hby d1_26) (L' := #[.val (.ref x0), .val (.int (1 : Int32)), .val (.int (4 : Int32)), .val (.long x3), .second, .val (.long tt), .second, .val (.long (y1 ^^^ tt)), .second, .val (.int (2 : Int32)), .unset, .unset, .unset, .unset, .unset]) rfl (q := 28) rfl ?_
  refine s_iload X hx (hb hby d1_28) rfl (q := 30) rfl ?_
  refine s_iloadN X hx (hb hby d1_30) rfl (q := 31) rfl ?_
  refine f_icmp_ge X hx (hb hby d1_31) (q1 := 114) (by decide) (by decide) (q := 34) rfl (fun hq => absurd (by decide : (2 : Int32) < (4 : Int32)) hq) (fun _ => ?_)
  refine s_aloadN X hx (hb hby d1_34) rfl rfl (q := 35) rfl ?_
  refine s_iload X hx (hb hby d1_35) rfl (q := 37) rfl ?_
  refine s_laload X hx hZ eT A_x0 (by decide) (i := 2) rfl (x := y2) rfl (hb hby d1_37) (q := 38) rfl ?_
  refine s_lstore X hx (hb hby d1_38) (L' := #[.val (.ref x0), .val (.int (1 : Int32)), .val (.int (4 : Int32)), .val (.long x3), .second, .val (.long tt), .second, .val (.long (y1 ^^^ tt)), .second, .val (.int (2 : Int32)), .val (.long y2), .second, .unset, .unset, .unset]) rfl (q := 40) rfl ?_
  refine s_lload X hx (hb hby d1_40) rfl (q := 42) rfl ?_
  refine s_lload X hx (hb hby d1_42) rfl (q := 44) rfl ?_
  refine s_lxor X hx (hb hby d1_44) (q := 45) rfl ?_
  refine s_lstore X hx (hb hby d1_45) (L' := #[.val (.ref x0), .val (.int (1 : Int32)), .val (.int (4 : Int32)), .val (.long x3), .second, .val (.long tt), .second, .val (.long (y1 ^^^ tt)), .second, .val (.int (2 : Int32)), .val (.long y2), .second, .val (.long (y2 ^^^ tt)), .second, .unset]) rfl (q := 47) rfl ?_
  refine s_lload X hx (hb hby d1_47) rfl (q := 49) rfl ?_
  refine s_lload X hx (hb hby d1_49) rfl (q := 51) rfl ?_
  refine s_lcmp X hx (hb hby d1_51) (q := 52) rfl ?_
  refine f_lcmp_lt X hx (hb hby d1_52) (q1 := 62) (by decide) (by decide) (q := 55) rfl (fun hc52 => ?_) (fun hc52 => ?_)
  · refine s_iload X hx (hb hby d1_62) rfl (q := 64) rfl ?_
    refine s_iconst X hx (z := (1 : Int32)) (hb hby d1_64) rfl (q := 65) rfl ?_
    refine s_isub X hx (hb hby d1_65) (q := 66) rfl ?_
    show Go p e below _ T m 66 #[.val (.ref x0), .val (.int (1 : Int32)), .val (.int (4 : Int32)), .val (.long x3), .second, .val (.long tt), .second, .val (.long (y1 ^^^ tt)), .second, .val (.int (2 : Int32)), .val (.long y2), .second, .val (.long (y2 ^^^ tt)), .second, .unset] [(.int (1 : Int32))]
    refine s_istore X hx (hb hby d1_66) (L' := #[.val (.ref x0), .val (.int (1 : Int32)), .val (.int (4 : Int32)), .val (.long x3), .second, .val (.long tt), .second, .val (.long (y1 ^^^ tt)), .second, .val (.int (2 : Int32)), .val (.long y2), .second, .val (.long (y2 ^^^ tt)), .second, .val (.int (1 : Int32))]) rfl (q := 68) rfl ?_
    refine s_aloadN X hx (hb hby d1_68) rfl rfl (q := 69) rfl ?_
    refine s_iload X hx (hb hby d1_69) rfl (q := 71) rfl ?_
    refine s_iconst X hx (z := (1 : Int32)) (hb hby d1_71) rfl (q := 72) rfl ?_
    refine s_iadd X hx (hb hby d1_72) (q := 73) rfl ?_
    show Go p e below _ T m 73 #[.val (.ref x0), .val (.int (1 : Int32)), .val (.int (4 : Int32)), .val (.long x3), .second, .val (.long tt), .second, .val (.long (y1 ^^^ tt)), .second, .val (.int (2 : Int32)), .val (.long y2), .second, .val (.long (y2 ^^^ tt)), .second, .val (.int (1 : Int32))] [(.int (2 : Int32)), (.ref x0)]
    refine s_aloadN X hx (hb hby d1_73) rfl rfl (q := 74) rfl ?_
    refine s_iload X hx (hb hby d1_74) rfl (q := 76) rfl ?_
    refine s_laload X hx hZ eT A_x0 (by decide) (i := 1) rfl (x := y1) rfl (hb hby d1_76) (q := 77) rfl ?_
    refine s_lastore X hx hZ eT A_x0 N g_x0 (by decide) (i := 2) rfl (Nat.le_of_ble_eq_true rfl) (vs := [y0, y1, y1, y3, y4]) rfl (hb hby d1_77) (q := 78) rfl ?_
    intro T h1 _ X N eT W A_x0'
    have K := K.wr W (Or.inl (List.mem_of_getElem? (i := 0) rfl))
    have sz : n0 ≤ h1.size := by rw [W.size]; exact sz
    have A_x0 := A_x0'
    refine s_iinc X hx (w := (0 : Int32)) (hb hby d1_78) rfl rfl (L' := #[.val (.ref x0), .val (.int (1 : Int32)), .val (.int (4 : Int32)), .val (.long x3), .second, .val (.long tt), .second, .val (.long (y1 ^^^ tt)), .second, .val (.int (2 : Int32)), .val (.long y2), .second, .val (.long (y2 ^^^ tt)), .second, .val (.int (0 : Int32))]) rfl (q := 81) rfl ?_
    refine s_iload X hx (hb hby d1_81) rfl (q := 83) rfl ?_
    refine s_iloadN X hx (hb hby d1_83) rfl (q := 84) rfl ?_
    refine f_icmp_lt X hx (hb hby d1_84) (q1 := 100) (by decide) (by decide) (q := 87) rfl (fun _ => ?_) (fun hq => absurd (by decide : (0 : Int32) < (1 : Int32)) hq)
    refine s_aloadN X hx (hb hby d1_100) rfl rfl (q := 101) rfl ?_
    refine s_iload X hx (hb hby d1_101) rfl (q := 103) rfl ?_
    refine s_iconst X hx (z := (1 : Int32)) (hb hby d1_103) rfl (q := 104) rfl ?_
    refine s_iadd X hx (hb hby d1_104) (q := 105) rfl ?_
    show Go p e below _ T m 105 #[.val (.ref x0), .val (.int (1 : Int32)), .val (.int (4 : Int32)), .val (.long x3), .second, .val (.long tt), .second, .val (.long (y1 ^^^ tt)), .second, .val (.int (2 : Int32)), .val (.long y2), .second, .val (.long (y2 ^^^ tt)), .second, .val (.int (0 : Int32))] [(.int (1 : Int32)), (.ref x0)]
    refine s_lload X hx (hb hby d1_105) rfl (q := 107) rfl ?_
    refine s_lastore X hx hZ eT A_x0 N g_x0 (by decide) (i := 1) rfl (Nat.le_of_ble_eq_true rfl) (vs := [y0, y2, y1, y3, y4]) rfl (hb hby d1_107) (q := 108) rfl ?_
    intro T h2 _ X N eT W A_x0'
    have K := K.wr W (Or.inl (List.mem_of_getElem? (i := 0) rfl))
    have sz : n0 ≤ h2.size := by rw [W.size]; exact sz
    have A_x0 := A_x0'
    refine s_iinc X hx (w := (3 : Int32)) (hb hby d1_108) rfl rfl (L' := #[.val (.ref x0), .val (.int (1 : Int32)), .val (.int (4 : Int32)), .val (.long x3), .second, .val (.long tt), .second, .val (.long (y1 ^^^ tt)), .second, .val (.int (3 : Int32)), .val (.long y2), .second, .val (.long (y2 ^^^ tt)), .second, .val (.int (0 : Int32))]) rfl (q := 111) rfl ?_
    refine s_goto X hx (hb hby d1_111) (q1 := 28) (by decide) (by decide) ?_
    refine s_iload X hx (hb hby d1_28) rfl (q := 30) rfl ?_
    refine s_iloadN X hx (hb hby d1_30) rfl (q := 31) rfl ?_
    refine f_icmp_ge X hx (hb hby d1_31) (q1 := 114) (by decide) (by decide) (q := 34) rfl (fun hq => absurd (by decide : (3 : Int32) < (4 : Int32)) hq) (fun _ => ?_)
    refine s_aloadN X hx (hb hby d1_34) rfl rfl (q := 35) rfl ?_
    refine s_iload X hx (hb hby d1_35) rfl (q := 37) rfl ?_
    refine s_laload X hx hZ eT A_x0 (by decide) (i := 3) rfl (x := y3) rfl (hb hby d1_37) (q := 38) rfl ?_
    refine s_lstore X hx (hb hby d1_38) (L' := #[.val (.ref x0), .val (.int (1 : Int32)), .val (.int (4 : Int32)), .val (.long x3), .second, .val (.long tt), .second, .val (.long (y1 ^^^ tt)), .second, .val (.int (3 : Int32)), .val (.long y3), .second, .val (.long (y2 ^^^ tt)), .second, .val (.int (0 : Int32))]) rfl (q := 40) rfl ?_
    refine s_lload X hx (hb hby d1_40) rfl (q := 42) rfl ?_
    refine s_lload X hx (hb hby d1_42) rfl (q := 44) rfl ?_
    refine s_lxor X hx (hb hby d1_44) (q := 45) rfl ?_
    refine s_lstore X hx (hb hby d1_45) (L' := #[.val (.ref x0), .val (.int (1 : Int32)), .val (.int (4 : Int32)), .val (.long x3), .second, .val (.long tt), .second, .val (.long (y1 ^^^ tt)), .second, .val (.int (3 : Int32)), .val (.long y3), .second, .val (.long (y3 ^^^ tt)), .second, .val (.int (0 : Int32))]) rfl (q := 47) rfl ?_
    refine s_lload X hx (hb hby d1_47) rfl (q := 49) rfl ?_
    refine s_lload X hx (hb hby d1_49) rfl (q := 51) rfl ?_
    refine s_lcmp X hx (hb hby d1_51) (q := 52) rfl ?_
    refine f_lcmp_lt X hx (hb hby d1_52) (q1 := 62) (by decide) (by decide) (q := 55) rfl (fun hc52_1 => ?_) (fun hc52_1 => ?_)
    · refine s_iload X hx (hb hby d1_62) rfl (q := 64) rfl ?_
      refine s_iconst X hx (z := (1 : Int32)) (hb hby d1_64) rfl (q := 65) rfl ?_
      refine s_isub X hx (hb hby d1_65) (q := 66) rfl ?_
      show Go p e below _ T m 66 #[.val (.ref x0), .val (.int (1 : Int32)), .val (.int (4 : Int32)), .val (.long x3), .second, .val (.long tt), .second, .val (.long (y1 ^^^ tt)), .second, .val (.int (3 : Int32)), .val (.long y3), .second, .val (.long (y3 ^^^ tt)), .second, .val (.int (0 : Int32))] [(.int (2 : Int32))]
      refine s_istore X hx (hb hby d1_66) (L' := #[.val (.ref x0), .val (.int (1 : Int32)), .val (.int (4 : Int32)), .val (.long x3), .second, .val (.long tt), .second, .val (.long (y1 ^^^ tt)), .second, .val (.int (3 : Int32)), .val (.long y3), .second, .val (.long (y3 ^^^ tt)), .second, .val (.int (2 : Int32))]) rfl (q := 68) rfl ?_
      refine s_aloadN X hx (hb hby d1_68) rfl rfl (q := 69) rfl ?_
      refine s_iload X hx (hb hby d1_69) rfl (q := 71) rfl ?_
      refine s_iconst X hx (z := (1 : Int32)) (hb hby d1_71) rfl (q := 72) rfl ?_
      refine s_iadd X hx (hb hby d1_72) (q := 73) rfl ?_
      show Go p e below _ T m 73 #[.val (.ref x0), .val (.int (1 : Int32)), .val (.int (4 : Int32)), .val (.long x3), .second, .val (.long tt), .second, .val (.long (y1 ^^^ tt)), .second, .val (.int (3 : Int32)), .val (.long y3), .second, .val (.long (y3 ^^^ tt)), .second, .val (.int (2 : Int32))] [(.int (3 : Int32)), (.ref x0)]
      refine s_aloadN X hx (hb hby d1_73) rfl rfl (q := 74) rfl ?_
      refine s_iload X hx (hb hby d1_74) rfl (q := 76) rfl ?_
      refine s_laload X hx hZ eT A_x0 (by decide) (i := 2) rfl (x := y1) rfl (hb hby d1_76) (q := 77) rfl ?_
      refine s_lastore X hx hZ eT A_x0 N g_x0 (by decide) (i := 3) rfl (Nat.le_of_ble_eq_true rfl) (vs := [y0, y2, y1, y1, y4]) rfl (hb hby d1_77) (q := 78) rfl ?_
      intro T h3 _ X N eT W A_x0'
      have K := K.wr W (Or.inl (List.mem_of_getElem? (i := 0) rfl))
      have sz : n0 ≤ h3.size := by rw [W.size]; exact sz
      have A_x0 := A_x0'
      refine s_iinc X hx (w := (1 : Int32)) (hb hby d1_78) rfl rfl (L' := #[.val (.ref x0), .val (.int (1 : Int32)), .val (.int (4 : Int32)), .val (.long x3), .second, .val (.long tt), .second, .val (.long (y1 ^^^ tt)), .second, .val (.int (3 : Int32)), .val (.long y3), .second, .val (.long (y3 ^^^ tt)), .second, .val (.int (1 : Int32))]) rfl (q := 81) rfl ?_
      refine s_iload X hx (hb hby d1_81) rfl (q := 83) rfl ?_
      refine s_iloadN X hx (hb hby d1_83) rfl (q := 84) rfl ?_
      refine f_icmp_lt X hx (hb hby d1_84) (q1 := 100) (by decide) (by decide) (q := 87) rfl (fun hq => absurd hq (by decide : ¬ (1 : Int32) < (1 : Int32))) (fun _ => ?_)
      refine s_aloadN X hx (hb hby d1_87) rfl rfl (q := 88) rfl ?_
      refine s_iload X hx (hb hby d1_88) rfl (q := 90) rfl ?_
      refine s_laload X hx hZ eT A_x0 (by decide) (i := 1) rfl (x := y2) rfl (hb hby d1_90) (q := 91) rfl ?_
      refine s_lload X hx (hb hby d1_91) rfl (q := 93) rfl ?_
      refine s_lxor X hx (hb hby d1_93) (q := 94) rfl ?_
      refine s_lload X hx (hb hby d1_94) rfl (q := 96) rfl ?_
      refine s_lcmp X hx (hb hby d1_96) (q := 97) rfl ?_
      refine f_lcmp_gt X hx (hb hby d1_97) (q1 := 68) (by decide) (by decide) (q := 100) rfl (fun hc97 => ?_) (fun hc97 => ?_)
      · refine s_aloadN X hx (hb hby d1_68) rfl rfl (q := 69) rfl ?_
        refine s_iload X hx (hb hby d1_69) rfl (q := 71) rfl ?_
        refine s_iconst X hx (z := (1 : Int32)) (hb hby d1_71) rfl (q := 72) rfl ?_
        refine s_iadd X hx (hb hby d1_72) (q := 73) rfl ?_
        show Go p e below _ T m 73 #[.val (.ref x0), .val (.int (1 : Int32)), .val (.int (4 : Int32)), .val (.long x3), .second, .val (.long tt), .second, .val (.long (y1 ^^^ tt)), .second, .val (.int (3 : Int32)), .val (.long y3), .second, .val (.long (y3 ^^^ tt)), .second, .val (.int (1 : Int32))] [(.int (2 : Int32)), (.ref x0)]
        refine s_aloadN X hx (hb hby d1_73) rfl rfl (q := 74) rfl ?_
        refine s_iload X hx (hb hby d1_74) rfl (q := 76) rfl ?_
        refine s_laload X hx hZ eT A_x0 (by decide) (i := 1) rfl (x := y2) rfl (hb hby d1_76) (q := 77) rfl ?_
        refine s_lastore X hx hZ eT A_x0 N g_x0 (by decide) (i := 2) rfl (Nat.le_of_ble_eq_true rfl) (vs := [y0, y2, y2, y1, y4]) rfl (hb hby d1_77) (q := 78) rfl ?_
        intro T h4 _ X N eT W A_x0'
        have K := K.wr W (Or.inl (List.mem_of_getElem? (i := 0) rfl))
        have sz : n0 ≤ h4.size := by rw [W.size]; exact sz
        have A_x0 := A_x0'
        refine s_iinc X hx (w := (0 : Int32)) (hb hby d1_78) rfl rfl (L' := #[.val (.ref x0), .val (.int (1 : Int32)), .val (.int (4 : Int32)), .val (.long x3), .second, .val (.long tt), .second, .val (.long (y1 ^^^ tt)), .second, .val (.int (3 : Int32)), .val (.long y3), .second, .val (.long (y3 ^^^ tt)), .second, .val (.int (0 : Int32))]) rfl (q := 81) rfl ?_
        refine s_iload X hx (hb hby d1_81) rfl (q := 83) rfl ?_
        refine s_iloadN X hx (hb hby d1_83) rfl (q := 84) rfl ?_
        refine f_icmp_lt X hx (hb hby d1_84) (q1 := 100) (by decide) (by decide) (q := 87) rfl (fun _ => ?_) (fun hq => absurd (by decide : (0 : Int32) < (1 : Int32)) hq)
        refine s_aloadN X hx (hb hby d1_100) rfl rfl (q := 101) rfl ?_
        refine s_iload X hx (hb hby d1_101) rfl (q := 103) rfl ?_
        refine s_iconst X hx (z := (1 : Int32)) (hb hby d1_103) rfl (q := 104) rfl ?_
        refine s_iadd X hx (hb hby d1_104) (q := 105) rfl ?_
        show Go p e below _ T m 105 #[.val (.ref x0), .val (.int (1 : Int32)), .val (.int (4 : Int32)), .val (.long x3), .second, .val (.long tt), .second, .val (.long (y1 ^^^ tt)), .second, .val (.int (3 : Int32)), .val (.long y3), .second, .val (.long (y3 ^^^ tt)), .second, .val (.int (0 : Int32))] [(.int (1 : Int32)), (.ref x0)]
        refine s_lload X hx (hb hby d1_105) rfl (q := 107) rfl ?_
        refine s_lastore X hx hZ eT A_x0 N g_x0 (by decide) (i := 1) rfl (Nat.le_of_ble_eq_true rfl) (vs := [y0, y3, y2, y1, y4]) rfl (hb hby d1_107) (q := 108) rfl ?_
        intro T h5 _ X N eT W A_x0'
        have K := K.wr W (Or.inl (List.mem_of_getElem? (i := 0) rfl))
        have sz : n0 ≤ h5.size := by rw [W.size]; exact sz
        have A_x0 := A_x0'
        refine s_iinc X hx (w := (4 : Int32)) (hb hby d1_108) rfl rfl (L' := #[.val (.ref x0), .val (.int (1 : Int32)), .val (.int (4 : Int32)), .val (.long x3), .second, .val (.long tt), .second, .val (.long (y1 ^^^ tt)), .second, .val (.int (4 : Int32)), .val (.long y3), .second, .val (.long (y3 ^^^ tt)), .second, .val (.int (0 : Int32))]) rfl (q := 111) rfl ?_
        refine s_goto X hx (hb hby d1_111) (q1 := 28) (by decide) (by decide) ?_
        refine s_iload X hx (hb hby d1_28) rfl (q := 30) rfl ?_
        refine s_iloadN X hx (hb hby d1_30) rfl (q := 31) rfl ?_
        refine f_icmp_ge X hx (hb hby d1_31) (q1 := 114) (by decide) (by decide) (q := 34) rfl (fun _ => ?_) (fun hq => absurd hq (by decide : ¬ (4 : Int32) < (4 : Int32)))
        exact leafV X hx hlk hret (hb hby d1_114) (by decide) (by decide) (by rw [eT]; refine ⟨rfl, N, K, ?_⟩; unfold SRT_14; rw [if_pos hc52, if_pos hc52_1, if_pos hc97]; exact A_x0)
      refine s_aloadN X hx (hb hby d1_100) rfl rfl (q := 101) rfl ?_
      refine s_iload X hx (hb hby d1_101) rfl (q := 103) rfl ?_
      refine s_iconst X hx (z := (1 : Int32)) (hb hby d1_103) rfl (q := 104) rfl ?_
      refine s_iadd X hx (hb hby d1_104) (q := 105) rfl ?_
      show Go p e below _ T m 105 #[.val (.ref x0), .val (.int (1 : Int32)), .val (.int (4 : Int32)), .val (.long x3), .second, .val (.long tt), .second, .val (.long (y1 ^^^ tt)), .second, .val (.int (3 : Int32)), .val (.long y3), .second, .val (.long (y3 ^^^ tt)), .second, .val (.int (1 : Int32))] [(.int (2 : Int32)), (.ref x0)]
      refine s_lload X hx (hb hby d1_105) rfl (q := 107) rfl ?_
      refine s_lastore X hx hZ eT A_x0 N g_x0 (by decide) (i := 2) rfl (Nat.le_of_ble_eq_true rfl) (vs := [y0, y2, y3, y1, y4]) rfl (hb hby d1_107) (q := 108) rfl ?_
      intro T h6 _ X N eT W A_x0'
      have K := K.wr W (Or.inl (List.mem_of_getElem? (i := 0) rfl))
      have sz : n0 ≤ h6.size := by rw [W.size]; exact sz
      have A_x0 := A_x0'
      refine s_iinc X hx (w := (4 : Int32)) (hb hby d1_108) rfl rfl (L' := #[.val (.ref x0), .val (.int (1 : Int32)), .val (.int (4 : Int32)), .val (.long x3), .second, .val (.long tt), .second, .val (.long (y1 ^^^ tt)), .second, .val (.int (4 : Int32)), .val (.long y3), .second, .val (.long (y3 ^^^ tt)), .second, .val (.int (1 : Int32))]) rfl (q := 111) rfl ?_
      refine s_goto X hx (hb hby d1_111) (q1 := 28) (by decide) (by decide) ?_
      refine s_iload X hx (hb hby d1_28) rfl (q := 30) rfl ?_
      refine s_iloadN X hx (hb hby d1_30) rfl (q := 31) rfl ?_
      refine f_icmp_ge X hx (hb hby d1_31) (q1 := 114) (by decide) (by decide) (q := 34) rfl (fun _ => ?_) (fun hq => absurd hq (by decide : ¬ (4 : Int32) < (4 : Int32)))
      exact leafV X hx hlk hret (hb hby d1_114) (by decide) (by decide) (by rw [eT]; refine ⟨rfl, N, K, ?_⟩; unfold SRT_14; rw [if_pos hc52, if_pos hc52_1, if_neg hc97]; exact A_x0)
    refine s_lload X hx (hb hby d1_55) rfl (q := 57) rfl ?_
    refine s_lstore X hx (hb hby d1_57) (L' := #[.val (.ref x0), .val (.int (1 : Int32)), .val (.int (4 : Int32)), .val (.long x3), .second, .val (.long tt), .second, .val (.long (y3 ^^^ tt)), .second, .val (.int (3 : Int32)), .val (.long y3), .second, .val (.long (y3 ^^^ tt)), .second, .val (.int (0 : Int32))]) rfl (q := 59) rfl ?_
    refine s_goto X hx (hb hby d1_59) (q1 := 108) (by decide) (by decide) ?_
    refine s_iinc X hx (w := (4 : Int32)) (hb hby d1_108) rfl rfl (L' := #[.val (.ref x0), .val (.int (1 : Int32)), .val (.int (4 : Int32)), .val (.long x3), .second, .val (.long tt), .second, .val (.long (y3 ^^^ tt)), .second, .val (.int (4 : Int32)), .val (.long y3), .second, .val (.long (y3 ^^^ tt)), .second, .val (.int (0 : Int32))]) rfl (q := 111) rfl ?_
    refine s_goto X hx (hb hby d1_111) (q1 := 28) (by decide) (by decide) ?_
    refine s_iload X hx (hb hby d1_28) rfl (q := 30) rfl ?_
    refine s_iloadN X hx (hb hby d1_30) rfl (q := 31) rfl ?_
    refine f_icmp_ge X hx (hb hby d1_31) (q1 := 114) (by decide) (by decide) (q := 34) rfl (fun _ => ?_) (fun hq => absurd hq (by decide : ¬ (4 : Int32) < (4 : Int32)))
    exact leafV X hx hlk hret (hb hby d1_114) (by decide) (by decide) (by rw [eT]; refine ⟨rfl, N, K, ?_⟩; unfold SRT_14; rw [if_pos hc52, if_neg hc52_1]; exact A_x0)
  refine s_lload X hx (hb hby d1_55) rfl (q := 57) rfl ?_
  refine s_lstore X hx (hb hby d1_57) (L' := #[.val (.ref x0), .val (.int (1 : Int32)), .val (.int (4 : Int32)), .val (.long x3), .second, .val (.long tt), .second, .val (.long (y2 ^^^ tt)), .second, .val (.int (2 : Int32)), .val (.long y2), .second, .val (.long (y2 ^^^ tt)), .second, .unset]) rfl (q := 59) rfl ?_
  refine s_goto X hx (hb hby d1_59) (q1 := 108) (by decide) (by decide) ?_
  refine s_iinc X hx (w := (3 : Int32)) (hb hby d1_108) rfl rfl (L' := #[.val (.ref x0), .val (.int (1 : Int32)), .val (.int (4 : Int32)), .val (.long x3), .second, .val (.long tt), .second, .val (.long (y2 ^^^ tt)), .second, .val (.int (3 : Int32)), .val (.long y2), .second, .val (.long (y2 ^^^ tt)), .second, .unset]) rfl (q := 111) rfl ?_
  refine s_goto X hx (hb hby d1_111) (q1 := 28) (by decide) (by decide) ?_
  refine s_iload X hx (hb hby d1_28) rfl (q := 30) rfl ?_
  refine s_iloadN X hx (hb hby d1_30) rfl (q := 31) rfl ?_
  refine f_icmp_ge X hx (hb hby d1_31) (q1 := 114) (by decide) (by decide) (q := 34) rfl (fun hq => absurd (by decide : (3 : Int32) < (4 : Int32)) hq) (fun _ => ?_)
  refine s_aloadN X hx (hb hby d1_34) rfl rfl (q := 35) rfl ?_
  refine s_iload X hx (hb hby d1_35) rfl (q := 37) rfl ?_
  refine s_laload X hx hZ eT A_x0 (by decide) (i := 3) rfl (x := y3) rfl (hb hby d1_37) (q := 38) rfl ?_
  refine s_lstore X hx (hb hby d1_38) (L' := #[.val (.ref x0), .val (.int (1 : Int32)), .val (.int (4 : Int32)), .val (.long x3), .second, .val (.long tt), .second, .val (.long (y2 ^^^ tt)), .second, .val (.int (3 : Int32)), .val (.long y3), .second, .val (.long (y2 ^^^ tt)), .second, .unset]) rfl (q := 40) rfl ?_
  refine s_lload X hx (hb hby d1_40) rfl (q := 42) rfl ?_
  refine s_lload X hx (hb hby d1_42) rfl (q := 44) rfl ?_
  refine s_lxor X hx (hb hby d1_44) (q := 45) rfl ?_
  refine s_lstore X hx (hb hby d1_45) (L' := #[.val (.ref x0), .val (.int (1 : Int32)), .val (.int (4 : Int32)), .val (.long x3), .second, .val (.long tt), .second, .val (.long (y2 ^^^ tt)), .second, .val (.int (3 : Int32)), .val (.long y3), .second, .val (.long (y3 ^^^ tt)), .second, .unset]) rfl (q := 47) rfl ?_
  refine s_lload X hx (hb hby d1_47) rfl (q := 49) rfl ?_
  refine s_lload X hx (hb hby d1_49) rfl (q := 51) rfl ?_
  refine s_lcmp X hx (hb hby d1_51) (q := 52) rfl ?_
  refine f_lcmp_lt X hx (hb hby d1_52) (q1 := 62) (by decide) (by decide) (q := 55) rfl (fun hc52_1 => ?_) (fun hc52_1 => ?_)
  · refine s_iload X hx (hb hby d1_62) rfl (q := 64) rfl ?_
    refine s_iconst X hx (z := (1 : Int32)) (hb hby d1_64) rfl (q := 65) rfl ?_
    refine s_isub X hx (hb hby d1_65) (q := 66) rfl ?_
    show Go p e below _ T m 66 #[.val (.ref x0), .val (.int (1 : Int32)), .val (.int (4 : Int32)), .val (.long x3), .second, .val (.long tt), .second, .val (.long (y2 ^^^ tt)), .second, .val (.int (3 : Int32)), .val (.long y3), .second, .val (.long (y3 ^^^ tt)), .second, .unset] [(.int (2 : Int32))]
    refine s_istore X hx (hb hby d1_66) (L' := #[.val (.ref x0), .val (.int (1 : Int32)), .val (.int (4 : Int32)), .val (.long x3), .second, .val (.long tt), .second, .val (.long (y2 ^^^ tt)), .second, .val (.int (3 : Int32)), .val (.long y3), .second, .val (.long (y3 ^^^ tt)), .second, .val (.int (2 : Int32))]) rfl (q := 68) rfl ?_
    refine s_aloadN X hx (hb hby d1_68) rfl rfl (q := 69) rfl ?_
    refine s_iload X hx (hb hby d1_69) rfl (q := 71) rfl ?_
    refine s_iconst X hx (z := (1 : Int32)) (hb hby d1_71) rfl (q := 72) rfl ?_
    refine s_iadd X hx (hb hby d1_72) (q := 73) rfl ?_
    show Go p e below _ T m 73 #[.val (.ref x0), .val (.int (1 : Int32)), .val (.int (4 : Int32)), .val (.long x3), .second, .val (.long tt), .second, .val (.long (y2 ^^^ tt)), .second, .val (.int (3 : Int32)), .val (.long y3), .second, .val (.long (y3 ^^^ tt)), .second, .val (.int (2 : Int32))] [(.int (3 : Int32)), (.ref x0)]
    refine s_aloadN X hx (hb hby d1_73) rfl rfl (q := 74) rfl ?_
    refine s_iload X hx (hb hby d1_74) rfl (q := 76) rfl ?_
    refine s_laload X hx hZ eT A_x0 (by decide) (i := 2) rfl (x := y2) rfl (hb hby d1_76) (q := 77) rfl ?_
    refine s_lastore X hx hZ eT A_x0 N g_x0 (by decide) (i := 3) rfl (Nat.le_of_ble_eq_true rfl) (vs := [y0, y1, y2, y2, y4]) rfl (hb hby d1_77) (q := 78) rfl ?_
    intro T h7 _ X N eT W A_x0'
    have K := K.wr W (Or.inl (List.mem_of_getElem? (i := 0) rfl))
    have sz : n0 ≤ h7.size := by rw [W.size]; exact sz
    have A_x0 := A_x0'
    refine s_iinc X hx (w := (1 : Int32)) (hb hby d1_78) rfl rfl (L' := #[.val (.ref x0), .val (.int (1 : Int32)), .val (.int (4 : Int32)), .val (.long x3), .second, .val (.long tt), .second, .val (.long (y2 ^^^ tt)), .second, .val (.int (3 : Int32)), .val (.long y3), .second, .val (.long (y3 ^^^ tt)), .second, .val (.int (1 : Int32))]) rfl (q := 81) rfl ?_
    refine s_iload X hx (hb hby d1_81) rfl (q := 83) rfl ?_
    refine s_iloadN X hx (hb hby d1_83) rfl (q := 84) rfl ?_
    refine f_icmp_lt X hx (hb hby d1_84) (q1 := 100) (by decide) (by decide) (q := 87) rfl (fun hq => absurd hq (by decide : ¬ (1 : Int32) < (1 : Int32))) (fun _ => ?_)
    refine s_aloadN X hx (hb hby d1_87) rfl rfl (q := 88) rfl ?_
    refine s_iload X hx (hb hby d1_88) rfl (q := 90) rfl ?_
    refine s_laload X hx hZ eT A_x0 (by decide) (i := 1) rfl (x := y1) rfl (hb hby d1_90) (q := 91) rfl ?_
    refine s_lload X hx (hb hby d1_91) rfl (q := 93) rfl ?_
    refine s_lxor X hx (hb hby d1_93) (q := 94) rfl ?_
    refine s_lload X hx (hb hby d1_94) rfl (q := 96) rfl ?_
    refine s_lcmp X hx (hb hby d1_96) (q := 97) rfl ?_
    refine f_lcmp_gt X hx (hb hby d1_97) (q1 := 68) (by decide) (by decide) (q := 100) rfl (fun hc97 => ?_) (fun hc97 => ?_)
    · refine s_aloadN X hx (hb hby d1_68) rfl rfl (q := 69) rfl ?_
      refine s_iload X hx (hb hby d1_69) rfl (q := 71) rfl ?_
      refine s_iconst X hx (z := (1 : Int32)) (hb hby d1_71) rfl (q := 72) rfl ?_
      refine s_iadd X hx (hb hby d1_72) (q := 73) rfl ?_
      show Go p e below _ T m 73 #[.val (.ref x0), .val (.int (1 : Int32)), .val (.int (4 : Int32)), .val (.long x3), .second, .val (.long tt), .second, .val (.long (y2 ^^^ tt)), .second, .val (.int (3 : Int32)), .val (.long y3), .second, .val (.long (y3 ^^^ tt)), .second, .val (.int (1 : Int32))] [(.int (2 : Int32)), (.ref x0)]
      refine s_aloadN X hx (hb hby d1_73) rfl rfl (q := 74) rfl ?_
      refine s_iload X hx (hb hby d1_74) rfl (q := 76) rfl ?_
      refine s_laload X hx hZ eT A_x0 (by decide) (i := 1) rfl (x := y1) rfl (hb hby d1_76) (q := 77) rfl ?_
      refine s_lastore X hx hZ eT A_x0 N g_x0 (by decide) (i := 2) rfl (Nat.le_of_ble_eq_true rfl) (vs := [y0, y1, y1, y2, y4]) rfl (hb hby d1_77) (q := 78) rfl ?_
      intro T h8 _ X N eT W A_x0'
      have K := K.wr W (Or.inl (List.mem_of_getElem? (i := 0) rfl))
      have sz : n0 ≤ h8.size := by rw [W.size]; exact sz
      have A_x0 := A_x0'
      refine s_iinc X hx (w := (0 : Int32)) (hb hby d1_78) rfl rfl (L' := #[.val (.ref x0), .val (.int (1 : Int32)), .val (.int (4 : Int32)), .val (.long x3), .second, .val (.long tt), .second, .val (.long (y2 ^^^ tt)), .second, .val (.int (3 : Int32)), .val (.long y3), .second, .val (.long (y3 ^^^ tt)), .second, .val (.int (0 : Int32))]) rfl (q := 81) rfl ?_
      refine s_iload X hx (hb hby d1_81) rfl (q := 83) rfl ?_
      refine s_iloadN X hx (hb hby d1_83) rfl (q := 84) rfl ?_
      refine f_icmp_lt X hx (hb hby d1_84) (q1 := 100) (by decide) (by decide) (q := 87) rfl (fun _ => ?_) (fun hq => absurd (by decide : (0 : Int32) < (1 : Int32)) hq)
      refine s_aloadN X hx (hb hby d1_100) rfl rfl (q := 101) rfl ?_
      refine s_iload X hx (hb hby d1_101) rfl (q := 103) rfl ?_
      refine s_iconst X hx (z := (1 : Int32)) (hb hby d1_103) rfl (q := 104) rfl ?_
      refine s_iadd X hx (hb hby d1_104) (q := 105) rfl ?_
      show Go p e below _ T m 105 #[.val (.ref x0), .val (.int (1 : Int32)), .val (.int (4 : Int32)), .val (.long x3), .second, .val (.long tt), .second, .val (.long (y2 ^^^ tt)), .second, .val (.int (3 : Int32)), .val (.long y3), .second, .val (.long (y3 ^^^ tt)), .second, .val (.int (0 : Int32))] [(.int (1 : Int32)), (.ref x0)]
      refine s_lload X hx (hb hby d1_105) rfl (q := 107) rfl ?_
      refine s_lastore X hx hZ eT A_x0 N g_x0 (by decide) (i := 1) rfl (Nat.le_of_ble_eq_true rfl) (vs := [y0, y3, y1, y2, y4]) rfl (hb hby d1_107) (q := 108) rfl ?_
      intro T h9 _ X N eT W A_x0'
      have K := K.wr W (Or.inl (List.mem_of_getElem? (i := 0) rfl))
      have sz : n0 ≤ h9.size := by rw [W.size]; exact sz
      have A_x0 := A_x0'
      refine s_iinc X hx (w := (4 : Int32)) (hb hby d1_108) rfl rfl (L' := #[.val (.ref x0), .val (.int (1 : Int32)), .val (.int (4 : Int32)), .val (.long x3), .second, .val (.long tt), .second, .val (.long (y2 ^^^ tt)), .second, .val (.int (4 : Int32)), .val (.long y3), .second, .val (.long (y3 ^^^ tt)), .second, .val (.int (0 : Int32))]) rfl (q := 111) rfl ?_
      refine s_goto X hx (hb hby d1_111) (q1 := 28) (by decide) (by decide) ?_
      refine s_iload X hx (hb hby d1_28) rfl (q := 30) rfl ?_
      refine s_iloadN X hx (hb hby d1_30) rfl (q := 31) rfl ?_
      refine f_icmp_ge X hx (hb hby d1_31) (q1 := 114) (by decide) (by decide) (q := 34) rfl (fun _ => ?_) (fun hq => absurd hq (by decide : ¬ (4 : Int32) < (4 : Int32)))
      exact leafV X hx hlk hret (hb hby d1_114) (by decide) (by decide) (by rw [eT]; refine ⟨rfl, N, K, ?_⟩; unfold SRT_14; rw [if_neg hc52, if_pos hc52_1, if_pos hc97]; exact A_x0)
    refine s_aloadN X hx (hb hby d1_100) rfl rfl (q := 101) rfl ?_
    refine s_iload X hx (hb hby d1_101) rfl (q := 103) rfl ?_
    refine s_iconst X hx (z := (1 : Int32)) (hb hby d1_103) rfl (q := 104) rfl ?_
    refine s_iadd X hx (hb hby d1_104) (q := 105) rfl ?_
    show Go p e below _ T m 105 #[.val (.ref x0), .val (.int (1 : Int32)), .val (.int (4 : Int32)), .val (.long x3), .second, .val (.long tt), .second, .val (.long (y2 ^^^ tt)), .second, .val (.int (3 : Int32)), .val (.long y3), .second, .val (.long (y3 ^^^ tt)), .second, .val (.int (1 : Int32))] [(.int (2 : Int32)), (.ref x0)]
    refine s_lload X hx (hb hby d1_105) rfl (q := 107) rfl ?_
    refine s_lastore X hx hZ eT A_x0 N g_x0 (by decide) (i := 2) rfl (Nat.le_of_ble_eq_true rfl) (vs := [y0, y1, y3, y2, y4]) rfl (hb hby d1_107) (q := 108) rfl ?_
    intro T h10 _ X N eT W A_x0'
    have K := K.wr W (Or.inl (List.mem_of_getElem? (i := 0) rfl))
    have sz : n0 ≤ h10.size := by rw [W.size]; exact sz
    have A_x0 := A_x0'
    refine s_iinc X hx (w := (4 : Int32)) (hb hby d1_108) rfl rfl (L' := #[.val (.ref x0), .val (.int (1 : Int32)), .val (.int (4 : Int32)), .val (.long x3), .second, .val (.long tt), .second, .val (.long (y2 ^^^ tt)), .second, .val (.int (4 : Int32)), .val (.long y3), .second, .val (.long (y3 ^^^ tt)), .second, .val (.int (1 : Int32))]) rfl (q := 111) rfl ?_
    refine s_goto X hx (hb hby d1_111) (q1 := 28) (by decide) (by decide) ?_
    refine s_iload X hx (hb hby d1_28) rfl (q := 30) rfl ?_
    refine s_iloadN X hx (hb hby d1_30) rfl (q := 31) rfl ?_
    refine f_icmp_ge X hx (hb hby d1_31) (q1 := 114) (by decide) (by decide) (q := 34) rfl (fun _ => ?_) (fun hq => absurd hq (by decide : ¬ (4 : Int32) < (4 : Int32)))
    exact leafV X hx hlk hret (hb hby d1_114) (by decide) (by decide) (by rw [eT]; refine ⟨rfl, N, K, ?_⟩; unfold SRT_14; rw [if_neg hc52, if_pos hc52_1, if_neg hc97]; exact A_x0)
  refine s_lload X hx (hb hby d1_55) rfl (q := 57) rfl ?_
  refine s_lstore X hx (hb hby d1_57) (L' := #[.val (.ref x0), .val (.int (1 : Int32)), .val (.int (4 : Int32)), .val (.long x3), .second, .val (.long tt), .second, .val (.long (y3 ^^^ tt)), .second, .val (.int (3 : Int32)), .val (.long y3), .second, .val (.long (y3 ^^^ tt)), .second, .unset]) rfl (q := 59) rfl ?_
  refine s_goto X hx (hb hby d1_59) (q1 := 108) (by decide) (by decide) ?_
  refine s_iinc X hx (w := (4 : Int32)) (hb hby d1_108) rfl rfl (L' := #[.val (.ref x0), .val (.int (1 : Int32)), .val (.int (4 : Int32)), .val (.long x3), .second, .val (.long tt), .second, .val (.long (y3 ^^^ tt)), .second, .val (.int (4 : Int32)), .val (.long y3), .second, .val (.long (y3 ^^^ tt)), .second, .unset]) rfl (q := 111) rfl ?_
  refine s_goto X hx (hb hby d1_111) (q1 := 28) (by decide) (by decide) ?_
  refine s_iload X hx (hb hby d1_28) rfl (q := 30) rfl ?_
  refine s_iloadN X hx (hb hby d1_30) rfl (q := 31) rfl ?_
  refine f_icmp_ge X hx (hb hby d1_31) (q1 := 114) (by decide) (by decide) (q := 34) rfl (fun _ => ?_) (fun hq => absurd hq (by decide : ¬ (4 : Int32) < (4 : Int32)))
  exact leafV X hx hlk hret (hb hby d1_114) (by decide) (by decide) (by rw [eT]; refine ⟨rfl, N, K, ?_⟩; unfold SRT_14; rw [if_neg hc52, if_neg hc52_1]; exact A_x0)
theorem own_get (xs : List Int64) {i : Nat} (h : i < xs.length) : xs[i]? = some (xs.getD i 0) := by
  rw [List.getD_eq_getElem?_getD, List.getElem?_eq_getElem h]; rfl
def CSF (i j : Nat) (t : Int64) (xs : List Int64) : List Int64 := if (xs.getD j 0 ^^^ t) < (xs.getD i 0 ^^^ t) then (xs.set i (xs.getD j 0)).set j (xs.getD i 0) else xs
theorem own_csl (i j : Nat) (t : Int64) (xs : List Int64) : (CSF i j t xs).length = xs.length := by
  unfold CSF; split <;> simp
theorem d2_0 : decode method_2_code 0 = .ok (.aload_n 0, 1) := by decide +kernel
theorem d2_1 : decode method_2_code 1 = .ok (.iload_n 1, 1) := by decide +kernel
theorem d2_2 : decode method_2_code 2 = .ok (.laload, 1) := by decide +kernel
theorem d2_3 : decode method_2_code 3 = .ok (.lload_n 3, 1) := by decide +kernel
theorem d2_4 : decode method_2_code 4 = .ok (.lxor, 1) := by decide +kernel
theorem d2_5 : decode method_2_code 5 = .ok (.aload_n 0, 1) := by decide +kernel
theorem d2_6 : decode method_2_code 6 = .ok (.iload_n 2, 1) := by decide +kernel
theorem d2_7 : decode method_2_code 7 = .ok (.laload, 1) := by decide +kernel
theorem d2_8 : decode method_2_code 8 = .ok (.lload_n 3, 1) := by decide +kernel
theorem d2_9 : decode method_2_code 9 = .ok (.lxor, 1) := by decide +kernel
theorem d2_10 : decode method_2_code 10 = .ok (.lcmp, 1) := by decide +kernel
theorem d2_11 : decode method_2_code 11 = .ok (.ifCond .le 19, 3) := by decide +kernel
theorem d2_14 : decode method_2_code 14 = .ok (.aload_n 0, 1) := by decide +kernel
theorem d2_15 : decode method_2_code 15 = .ok (.iload_n 1, 1) := by decide +kernel
theorem d2_16 : decode method_2_code 16 = .ok (.laload, 1) := by decide +kernel
theorem d2_17 : decode method_2_code 17 = .ok (.lstore 5, 2) := by decide +kernel
theorem d2_19 : decode method_2_code 19 = .ok (.aload_n 0, 1) := by decide +kernel
theorem d2_20 : decode method_2_code 20 = .ok (.iload_n 1, 1) := by decide +kernel
theorem d2_21 : decode method_2_code 21 = .ok (.aload_n 0, 1) := by decide +kernel
theorem d2_22 : decode method_2_code 22 = .ok (.iload_n 2, 1) := by decide +kernel
theorem d2_23 : decode method_2_code 23 = .ok (.laload, 1) := by decide +kernel
theorem d2_24 : decode method_2_code 24 = .ok (.lastore, 1) := by decide +kernel
theorem d2_25 : decode method_2_code 25 = .ok (.aload_n 0, 1) := by decide +kernel
theorem d2_26 : decode method_2_code 26 = .ok (.iload_n 2, 1) := by decide +kernel
theorem d2_27 : decode method_2_code 27 = .ok (.lload 5, 2) := by decide +kernel
theorem d2_29 : decode method_2_code 29 = .ok (.lastore, 1) := by decide +kernel
theorem d2_30 : decode method_2_code 30 = .ok (.return_, 1) := by decide +kernel
theorem pn_2 : plainFor (⟨"com/example/digitwise/digitwise/internal/LongRadixSortInsertionSortPinLaw", "cs", "([JIIJ)V"⟩ : MethodName) = true := plainFor_of_name (by first | (simp [plainName, overriddenIn]; done) | decide +kernel)
theorem ef_2 (m : MethodId) (x0 : Addr) (x1 : Int32) (x2 : Int32) (x3 : Int64) : entryFrame m #[(.ref x0), (.int x1), (.int x2), (.long x3)] 7 = mkF m 0 #[.val (.ref x0), .val (.int x1), .val (.int x2), .val (.long x3), .second, .unset, .unset] [] := by first | (simp [entryFrame, mkF, argsToLocals, Value.category]; done) | rfl
set_option maxRecDepth 65536 in
set_option maxHeartbeats 40000000 in
theorem rm2_01 (l : Launch) (Z : State) (a0 : Array Value) (hw : ∀ d ∈ tables_1, d.before a0 Z = true) (ws : List Jvm.Cond) (x0 : Addr) (x3 : Int64) (xs : List Int64) (h0 : Heap) (n0 : Nat) (sz : n0 ≤ h0.size) (A_x0 : AJ Z h0 x0 xs) (g_x0 : n0 ≤ x0) (hxl : xs.length = 5) :
    Ctr l (⟨"com/example/digitwise/digitwise/internal/LongRadixSortInsertionSortPinLaw", "cs", "([JIIJ)V"⟩ : MethodName) method_2_code 7 none ws ({ frames := 0, cells := 0, slots := 0, locals := 0 } : Room) Z #[(.ref x0), (.int (0 : Int32)), (.int (1 : Int32)), (.long x3)] h0 (fun v h L => v = none ∧ Fr n0 L ∧ Keep h0 h [x0] ∧ AJ Z h x0 (CSF 0 1 x3 xs)) 0 0 := by
  refine Ctr.mk pn_2 ?_
  intro p e s m below meth c T hx hby hml hown hnm hlk hret hZ X eT
  have N := Fr.nil n0
  refine enter (ef_2 m x0 (0 : Int32) (1 : Int32) x3) ?_
  have K := Keep.refl h0 [x0]
  refine s_aloadN X hx (hb hby d2_0) rfl rfl (q := 1) rfl ?_
  refine s_iloadN X hx (hb hby d2_1) rfl (q := 2) rfl ?_
  refine s_laload X hx hZ eT A_x0 (by decide) (i := 0) rfl (x := (xs.getD 0 0)) (own_get _ (by omega)) (hb hby d2_2) (q := 3) rfl ?_
  refine s_lloadN X hx (hb hby d2_3) rfl (q := 4) rfl ?_
  refine s_lxor X hx (hb hby d2_4) (q := 5) rfl ?_
  refine s_aloadN X hx (hb hby d2_5) rfl rfl (q := 6) rfl ?_
  refine s_iloadN X hx (hb hby d2_6) rfl (q := 7) rfl ?_
  refine s_laload X hx hZ eT A_x0 (by decide) (i := 1) rfl (x := (xs.getD 1 0)) (own_get _ (by omega)) (hb hby d2_7) (q := 8) rfl ?_
  refine s_lloadN X hx (hb hby d2_8) rfl (q := 9) rfl ?_
  refine s_lxor X hx (hb hby d2_9) (q := 10) rfl ?_
  refine s_lcmp X hx (hb hby d2_10) (q := 11) rfl ?_
  refine f_lcmp_le X hx (hb hby d2_11) (q1 := 30) (by decide) (by decide) (q := 14) rfl (fun hc11 => ?_) (fun hc11 => ?_)
  · exact leafV X hx hlk hret (hb hby d2_30) (by decide) (by decide) (by rw [eT]; refine ⟨rfl, N, K, ?_⟩; unfold CSF; rw [if_neg hc11]; exact A_x0)
  refine s_aloadN X hx (hb hby d2_14) rfl rfl (q := 15) rfl ?_
  refine s_iloadN X hx (hb hby d2_15) rfl (q := 16) rfl ?_
  refine s_laload X hx hZ eT A_x0 (by decide) (i := 0) rfl (x := (xs.getD 0 0)) (own_get _ (by omega)) (hb hby d2_16) (q := 17) rfl ?_
  refine s_lstore X hx (hb hby d2_17) (L' := #[.val (.ref x0), .val (.int (0 : Int32)), .val (.int (1 : Int32)), .val (.long x3), .second, .val (.long (xs.getD 0 0)), .second]) rfl (q := 19) rfl ?_
  refine s_aloadN X hx (hb hby d2_19) rfl rfl (q := 20) rfl ?_
  refine s_iloadN X hx (hb hby d2_20) rfl (q := 21) rfl ?_
  refine s_aloadN X hx (hb hby d2_21) rfl rfl (q := 22) rfl ?_
  refine s_iloadN X hx (hb hby d2_22) rfl (q := 23) rfl ?_
  refine s_laload X hx hZ eT A_x0 (by decide) (i := 1) rfl (x := (xs.getD 1 0)) (own_get _ (by omega)) (hb hby d2_23) (q := 24) rfl ?_
  refine s_lastore X hx hZ eT A_x0 N g_x0 (by decide) (i := 0) rfl (by first | omega | (simp only [List.length_set]; omega)) (vs := (xs).set 0 (xs.getD 1 0)) rfl (hb hby d2_24) (q := 25) rfl ?_
  intro T h1 _ X N eT W A_x0'
  have K := K.wr W (Or.inl (List.mem_of_getElem? (i := 0) rfl))
  have sz : n0 ≤ h1.size := by rw [W.size]; exact sz
  have A_x0 := A_x0'
  refine s_aloadN X hx (hb hby d2_25) rfl rfl (q := 26) rfl ?_
  refine s_iloadN X hx (hb hby d2_26) rfl (q := 27) rfl ?_
  refine s_lload X hx (hb hby d2_27) rfl (q := 29) rfl ?_
  refine s_lastore X hx hZ eT A_x0 N g_x0 (by decide) (i := 1) rfl (by first | omega | (simp only [List.length_set]; omega)) (vs := (((xs).set 0 (xs.getD 1 0))).set 1 (xs.getD 0 0)) rfl (hb hby d2_29) (q := 30) rfl ?_
  intro T h2 _ X N eT W A_x0'
  have K := K.wr W (Or.inl (List.mem_of_getElem? (i := 0) rfl))
  have sz : n0 ≤ h2.size := by rw [W.size]; exact sz
  have A_x0 := A_x0'
  exact leafV X hx hlk hret (hb hby d2_30) (by decide) (by decide) (by rw [eT]; refine ⟨rfl, N, K, ?_⟩; unfold CSF; rw [if_pos hc11]; exact A_x0)
set_option maxRecDepth 65536 in
set_option maxHeartbeats 40000000 in
theorem rm2_12 (l : Launch) (Z : State) (a0 : Array Value) (hw : ∀ d ∈ tables_1, d.before a0 Z = true) (ws : List Jvm.Cond) (x0 : Addr) (x3 : Int64) (xs : List Int64) (h0 : Heap) (n0 : Nat) (sz : n0 ≤ h0.size) (A_x0 : AJ Z h0 x0 xs) (g_x0 : n0 ≤ x0) (hxl : xs.length = 5) :
    Ctr l (⟨"com/example/digitwise/digitwise/internal/LongRadixSortInsertionSortPinLaw", "cs", "([JIIJ)V"⟩ : MethodName) method_2_code 7 none ws ({ frames := 0, cells := 0, slots := 0, locals := 0 } : Room) Z #[(.ref x0), (.int (1 : Int32)), (.int (2 : Int32)), (.long x3)] h0 (fun v h L => v = none ∧ Fr n0 L ∧ Keep h0 h [x0] ∧ AJ Z h x0 (CSF 1 2 x3 xs)) 0 0 := by
  refine Ctr.mk pn_2 ?_
  intro p e s m below meth c T hx hby hml hown hnm hlk hret hZ X eT
  have N := Fr.nil n0
  refine enter (ef_2 m x0 (1 : Int32) (2 : Int32) x3) ?_
  have K := Keep.refl h0 [x0]
  refine s_aloadN X hx (hb hby d2_0) rfl rfl (q := 1) rfl ?_
  refine s_iloadN X hx (hb hby d2_1) rfl (q := 2) rfl ?_
  refine s_laload X hx hZ eT A_x0 (by decide) (i := 1) rfl (x := (xs.getD 1 0)) (own_get _ (by omega)) (hb hby d2_2) (q := 3) rfl ?_
  refine s_lloadN X hx (hb hby d2_3) rfl (q := 4) rfl ?_
  refine s_lxor X hx (hb hby d2_4) (q := 5) rfl ?_
  refine s_aloadN X hx (hb hby d2_5) rfl rfl (q := 6) rfl ?_
  refine s_iloadN X hx (hb hby d2_6) rfl (q := 7) rfl ?_
  refine s_laload X hx hZ eT A_x0 (by decide) (i := 2) rfl (x := (xs.getD 2 0)) (own_get _ (by omega)) (hb hby d2_7) (q := 8) rfl ?_
  refine s_lloadN X hx (hb hby d2_8) rfl (q := 9) rfl ?_
  refine s_lxor X hx (hb hby d2_9) (q := 10) rfl ?_
  refine s_lcmp X hx (hb hby d2_10) (q := 11) rfl ?_
  refine f_lcmp_le X hx (hb hby d2_11) (q1 := 30) (by decide) (by decide) (q := 14) rfl (fun hc11 => ?_) (fun hc11 => ?_)
  · exact leafV X hx hlk hret (hb hby d2_30) (by decide) (by decide) (by rw [eT]; refine ⟨rfl, N, K, ?_⟩; unfold CSF; rw [if_neg hc11]; exact A_x0)
  refine s_aloadN X hx (hb hby d2_14) rfl rfl (q := 15) rfl ?_
  refine s_iloadN X hx (hb hby d2_15) rfl (q := 16) rfl ?_
  refine s_laload X hx hZ eT A_x0 (by decide) (i := 1) rfl (x := (xs.getD 1 0)) (own_get _ (by omega)) (hb hby d2_16) (q := 17) rfl ?_
  refine s_lstore X hx (hb hby d2_17) (L' := #[.val (.ref x0), .val (.int (1 : Int32)), .val (.int (2 : Int32)), .val (.long x3), .second, .val (.long (xs.getD 1 0)), .second]) rfl (q := 19) rfl ?_
  refine s_aloadN X hx (hb hby d2_19) rfl rfl (q := 20) rfl ?_
  refine s_iloadN X hx (hb hby d2_20) rfl (q := 21) rfl ?_
  refine s_aloadN X hx (hb hby d2_21) rfl rfl (q := 22) rfl ?_
  refine s_iloadN X hx (hb hby d2_22) rfl (q := 23) rfl ?_
  refine s_laload X hx hZ eT A_x0 (by decide) (i := 2) rfl (x := (xs.getD 2 0)) (own_get _ (by omega)) (hb hby d2_23) (q := 24) rfl ?_
  refine s_lastore X hx hZ eT A_x0 N g_x0 (by decide) (i := 1) rfl (by first | omega | (simp only [List.length_set]; omega)) (vs := (xs).set 1 (xs.getD 2 0)) rfl (hb hby d2_24) (q := 25) rfl ?_
  intro T h1 _ X N eT W A_x0'
  have K := K.wr W (Or.inl (List.mem_of_getElem? (i := 0) rfl))
  have sz : n0 ≤ h1.size := by rw [W.size]; exact sz
  have A_x0 := A_x0'
  refine s_aloadN X hx (hb hby d2_25) rfl rfl (q := 26) rfl ?_
  refine s_iloadN X hx (hb hby d2_26) rfl (q := 27) rfl ?_
  refine s_lload X hx (hb hby d2_27) rfl (q := 29) rfl ?_
  refine s_lastore X hx hZ eT A_x0 N g_x0 (by decide) (i := 2) rfl (by first | omega | (simp only [List.length_set]; omega)) (vs := (((xs).set 1 (xs.getD 2 0))).set 2 (xs.getD 1 0)) rfl (hb hby d2_29) (q := 30) rfl ?_
  intro T h2 _ X N eT W A_x0'
  have K := K.wr W (Or.inl (List.mem_of_getElem? (i := 0) rfl))
  have sz : n0 ≤ h2.size := by rw [W.size]; exact sz
  have A_x0 := A_x0'
  exact leafV X hx hlk hret (hb hby d2_30) (by decide) (by decide) (by rw [eT]; refine ⟨rfl, N, K, ?_⟩; unfold CSF; rw [if_pos hc11]; exact A_x0)
set_option maxRecDepth 65536 in
set_option maxHeartbeats 40000000 in
theorem rm2_23 (l : Launch) (Z : State) (a0 : Array Value) (hw : ∀ d ∈ tables_1, d.before a0 Z = true) (ws : List Jvm.Cond) (x0 : Addr) (x3 : Int64) (xs : List Int64) (h0 : Heap) (n0 : Nat) (sz : n0 ≤ h0.size) (A_x0 : AJ Z h0 x0 xs) (g_x0 : n0 ≤ x0) (hxl : xs.length = 5) :
    Ctr l (⟨"com/example/digitwise/digitwise/internal/LongRadixSortInsertionSortPinLaw", "cs", "([JIIJ)V"⟩ : MethodName) method_2_code 7 none ws ({ frames := 0, cells := 0, slots := 0, locals := 0 } : Room) Z #[(.ref x0), (.int (2 : Int32)), (.int (3 : Int32)), (.long x3)] h0 (fun v h L => v = none ∧ Fr n0 L ∧ Keep h0 h [x0] ∧ AJ Z h x0 (CSF 2 3 x3 xs)) 0 0 := by
  refine Ctr.mk pn_2 ?_
  intro p e s m below meth c T hx hby hml hown hnm hlk hret hZ X eT
  have N := Fr.nil n0
  refine enter (ef_2 m x0 (2 : Int32) (3 : Int32) x3) ?_
  have K := Keep.refl h0 [x0]
  refine s_aloadN X hx (hb hby d2_0) rfl rfl (q := 1) rfl ?_
  refine s_iloadN X hx (hb hby d2_1) rfl (q := 2) rfl ?_
  refine s_laload X hx hZ eT A_x0 (by decide) (i := 2) rfl (x := (xs.getD 2 0)) (own_get _ (by omega)) (hb hby d2_2) (q := 3) rfl ?_
  refine s_lloadN X hx (hb hby d2_3) rfl (q := 4) rfl ?_
  refine s_lxor X hx (hb hby d2_4) (q := 5) rfl ?_
  refine s_aloadN X hx (hb hby d2_5) rfl rfl (q := 6) rfl ?_
  refine s_iloadN X hx (hb hby d2_6) rfl (q := 7) rfl ?_
  refine s_laload X hx hZ eT A_x0 (by decide) (i := 3) rfl (x := (xs.getD 3 0)) (own_get _ (by omega)) (hb hby d2_7) (q := 8) rfl ?_
  refine s_lloadN X hx (hb hby d2_8) rfl (q := 9) rfl ?_
  refine s_lxor X hx (hb hby d2_9) (q := 10) rfl ?_
  refine s_lcmp X hx (hb hby d2_10) (q := 11) rfl ?_
  refine f_lcmp_le X hx (hb hby d2_11) (q1 := 30) (by decide) (by decide) (q := 14) rfl (fun hc11 => ?_) (fun hc11 => ?_)
  · exact leafV X hx hlk hret (hb hby d2_30) (by decide) (by decide) (by rw [eT]; refine ⟨rfl, N, K, ?_⟩; unfold CSF; rw [if_neg hc11]; exact A_x0)
  refine s_aloadN X hx (hb hby d2_14) rfl rfl (q := 15) rfl ?_
  refine s_iloadN X hx (hb hby d2_15) rfl (q := 16) rfl ?_
  refine s_laload X hx hZ eT A_x0 (by decide) (i := 2) rfl (x := (xs.getD 2 0)) (own_get _ (by omega)) (hb hby d2_16) (q := 17) rfl ?_
  refine s_lstore X hx (hb hby d2_17) (L' := #[.val (.ref x0), .val (.int (2 : Int32)), .val (.int (3 : Int32)), .val (.long x3), .second, .val (.long (xs.getD 2 0)), .second]) rfl (q := 19) rfl ?_
  refine s_aloadN X hx (hb hby d2_19) rfl rfl (q := 20) rfl ?_
  refine s_iloadN X hx (hb hby d2_20) rfl (q := 21) rfl ?_
  refine s_aloadN X hx (hb hby d2_21) rfl rfl (q := 22) rfl ?_
  refine s_iloadN X hx (hb hby d2_22) rfl (q := 23) rfl ?_
  refine s_laload X hx hZ eT A_x0 (by decide) (i := 3) rfl (x := (xs.getD 3 0)) (own_get _ (by omega)) (hb hby d2_23) (q := 24) rfl ?_
  refine s_lastore X hx hZ eT A_x0 N g_x0 (by decide) (i := 2) rfl (by first | omega | (simp only [List.length_set]; omega)) (vs := (xs).set 2 (xs.getD 3 0)) rfl (hb hby d2_24) (q := 25) rfl ?_
  intro T h1 _ X N eT W A_x0'
  have K := K.wr W (Or.inl (List.mem_of_getElem? (i := 0) rfl))
  have sz : n0 ≤ h1.size := by rw [W.size]; exact sz
  have A_x0 := A_x0'
  refine s_aloadN X hx (hb hby d2_25) rfl rfl (q := 26) rfl ?_
  refine s_iloadN X hx (hb hby d2_26) rfl (q := 27) rfl ?_
  refine s_lload X hx (hb hby d2_27) rfl (q := 29) rfl ?_
  refine s_lastore X hx hZ eT A_x0 N g_x0 (by decide) (i := 3) rfl (by first | omega | (simp only [List.length_set]; omega)) (vs := (((xs).set 2 (xs.getD 3 0))).set 3 (xs.getD 2 0)) rfl (hb hby d2_29) (q := 30) rfl ?_
  intro T h2 _ X N eT W A_x0'
  have K := K.wr W (Or.inl (List.mem_of_getElem? (i := 0) rfl))
  have sz : n0 ≤ h2.size := by rw [W.size]; exact sz
  have A_x0 := A_x0'
  exact leafV X hx hlk hret (hb hby d2_30) (by decide) (by decide) (by rw [eT]; refine ⟨rfl, N, K, ?_⟩; unfold CSF; rw [if_pos hc11]; exact A_x0)
set_option maxHeartbeats 4000000 in
theorem own_srt02 (y0 y1 y2 y3 y4 : Int64) (tt : Int64) : SRT_02 y0 y1 y2 y3 y4 tt = (CSF 0 1 tt [y0, y1, y2, y3, y4]) := by
  unfold SRT_02 CSF
  simp only [List.getD_cons_zero, List.getD_cons_succ, List.set_cons_zero, List.set_cons_succ, Int64.lt_iff_toInt_lt]
  try ((repeat' split) <;> first | rfl | (exfalso; simp only [List.getD_cons_zero, List.getD_cons_succ] at *; omega) | (simp only [List.getD_cons_zero, List.getD_cons_succ, List.set_cons_zero, List.set_cons_succ] at *; first | rfl | (exfalso; omega)))
set_option maxHeartbeats 4000000 in
theorem own_srt03 (y0 y1 y2 y3 y4 : Int64) (tt : Int64) : SRT_03 y0 y1 y2 y3 y4 tt = (CSF 0 1 tt (CSF 1 2 tt (CSF 0 1 tt [y0, y1, y2, y3, y4]))) := by
  unfold SRT_03 CSF
  simp only [List.getD_cons_zero, List.getD_cons_succ, List.set_cons_zero, List.set_cons_succ, Int64.lt_iff_toInt_lt]
  try ((repeat' split) <;> first | rfl | (exfalso; simp only [List.getD_cons_zero, List.getD_cons_succ] at *; omega) | (simp only [List.getD_cons_zero, List.getD_cons_succ, List.set_cons_zero, List.set_cons_succ] at *; first | rfl | (exfalso; omega)))
set_option maxHeartbeats 4000000 in
theorem own_srt13 (y0 y1 y2 y3 y4 : Int64) (tt : Int64) : SRT_13 y0 y1 y2 y3 y4 tt = (CSF 1 2 tt [y0, y1, y2, y3, y4]) := by
  unfold SRT_13 CSF
  simp only [List.getD_cons_zero, List.getD_cons_succ, List.set_cons_zero, List.set_cons_succ, Int64.lt_iff_toInt_lt]
  try ((repeat' split) <;> first | rfl | (exfalso; simp only [List.getD_cons_zero, List.getD_cons_succ] at *; omega) | (simp only [List.getD_cons_zero, List.getD_cons_succ, List.set_cons_zero, List.set_cons_succ] at *; first | rfl | (exfalso; omega)))
set_option maxHeartbeats 4000000 in
theorem own_srt14 (y0 y1 y2 y3 y4 : Int64) (tt : Int64) : SRT_14 y0 y1 y2 y3 y4 tt = (CSF 1 2 tt (CSF 2 3 tt (CSF 1 2 tt [y0, y1, y2, y3, y4]))) := by
  unfold SRT_14 CSF
  simp only [List.getD_cons_zero, List.getD_cons_succ, List.set_cons_zero, List.set_cons_succ, Int64.lt_iff_toInt_lt]
  try ((repeat' split) <;> first | rfl | (exfalso; simp only [List.getD_cons_zero, List.getD_cons_succ] at *; omega) | (simp only [List.getD_cons_zero, List.getD_cons_succ, List.set_cons_zero, List.set_cons_succ] at *; first | rfl | (exfalso; omega)))
theorem own_f (x : Int32) : (x &&& (1 : Int32)) = 0 ∨ (x &&& (1 : Int32)) = 1 := by
  have h1 := c_and x 1 (by decide)
  have e1 : (1 : Int32).toInt = 1 := by decide
  have e0 : (0 : Int32).toInt = 0 := by decide
  simp only [← Int32.toInt_inj]; omega
theorem own_l (x : Int32) : (x &&& (3 : Int32)) = 0 ∨ (x &&& (3 : Int32)) = 1 ∨ (x &&& (3 : Int32)) = 2 ∨ (x &&& (3 : Int32)) = 3 := by
  have h1 := c_and x 3 (by decide)
  have e1 : (1 : Int32).toInt = 1 := by decide
  have e2 : (2 : Int32).toInt = 2 := by decide
  have e3 : (3 : Int32).toInt = 3 := by decide
  have e0 : (0 : Int32).toInt = 0 := by decide
  simp only [← Int32.toInt_inj]; omega
theorem pn_0 : plainFor x = true := plainFor_of_name (by first | (simp [plainName, overriddenIn]; done) | decide +kernel)
theorem ef_0 (m : MethodId) (x0 : Int64) (x1 : Int64) (x2 : Int64) (x3 : Int64) (x4 : Int64) (x5 : Int32) : entryFrame m #[(.long x0), (.long x1), (.long x2), (.long x3), (.long x4), (.int x5)] maxLocals = mkF m 0 #[.val (.long x0), .second, .val (.long x1), .second, .val (.long x2), .second, .val (.long x3), .second, .val (.long x4), .second, .val (.int x5), .unset, .unset, .unset, .unset, .unset, .unset, .unset] [] := by first | (simp [entryFrame, mkF, argsToLocals, Value.category, maxLocals]; done) | rfl
theorem pd0 : parseMethodDescriptor "([JIIJ)V" = some ⟨[(.array .long), .int, .int, .long], none⟩ := by decide +kernel
def Q0 (h0 : Heap) (n0 : Nat) (v : Option Value) (h : Heap) (L : List Loc) : Prop := v = some (.int 1) ∧ Fr n0 L
set_option maxRecDepth 65536 in
set_option maxHeartbeats 40000000 in
theorem rm0 (l : Launch) (Z : State) (a0 : Array Value) (hw : ∀ d ∈ tables_1, d.before a0 Z = true) (ws : List Jvm.Cond) (x0 : Int64) (x1 : Int64) (x2 : Int64) (x3 : Int64) (x4 : Int64) (x5 : Int32) (h0 : Heap) (n0 : Nat) (sz : n0 ≤ h0.size) :
    Ctr l x code maxLocals ret ws room_1 Z #[(.long x0), (.long x1), (.long x2), (.long x3), (.long x4), (.int x5)] h0 (Q0 h0 n0) 16 128 := by
  refine Ctr.mk pn_0 ?_
  intro p e s m below meth c T hx hby hml hown hnm hlk hret hZ X eT
  have N := Fr.nil n0
  refine enter (ef_0 m x0 x1 x2 x3 x4 x5) ?_
  refine s_iload X hx (hb hby at_0) rfl (q := 2) rfl ?_
  refine s_iconst X hx (z := (1 : Int32)) (hb hby at_2) rfl (q := 3) rfl ?_
  refine s_iand X hx (hb hby at_3) (q := 4) rfl ?_
  generalize hfr : (x5 &&& (1 : Int32)) = fr
  refine s_istore X hx (hb hby at_4) (L' := #[.val (.long x0), .second, .val (.long x1), .second, .val (.long x2), .second, .val (.long x3), .second, .val (.long x4), .second, .val (.int x5), .val (.int fr), .unset, .unset, .unset, .unset, .unset, .unset]) rfl (q := 6) rfl ?_
  have hf2 := own_f x5
  rw [hfr] at hf2
  rcases hf2 with hcase | hcase
  · subst hcase
    refine s_iload X hx (hb hby at_6) rfl (q := 8) rfl ?_
    refine s_iconst X hx (z := (1 : Int32)) (hb hby at_8) rfl (q := 9) rfl ?_
    refine s_iushr X hx (hb hby at_9) (q := 10) rfl ?_
    refine s_iconst X hx (z := (3 : Int32)) (hb hby at_10) rfl (q := 11) rfl ?_
    refine s_iand X hx (hb hby at_11) (q := 12) rfl ?_
    generalize hln : (((x5.toUInt32 >>> ((1 : Int32) &&& 31).toUInt32).toInt32) &&& (3 : Int32)) = ln
    refine s_istore X hx (hb hby at_12) (L' := #[.val (.long x0), .second, .val (.long x1), .second, .val (.long x2), .second, .val (.long x3), .second, .val (.long x4), .second, .val (.int x5), .val (.int (0 : Int32)), .val (.int ln), .unset, .unset, .unset, .unset, .unset]) rfl (q := 14) rfl ?_
    have hl4 := own_l ((x5.toUInt32 >>> ((1 : Int32) &&& 31).toUInt32).toInt32)
    rw [hln] at hl4
    rcases hl4 with hcase | hcase | hcase | hcase
    · subst hcase
      refine s_iload X hx (hb hby at_14) rfl (q := 16) rfl ?_
      refine s_iload X hx (hb hby at_16) rfl (q := 18) rfl ?_
      refine s_iadd X hx (hb hby at_18) (q := 19) rfl ?_
      show Go p e below _ T m 19 #[.val (.long x0), .second, .val (.long x1), .second, .val (.long x2), .second, .val (.long x3), .second, .val (.long x4), .second, .val (.int x5), .val (.int (0 : Int32)), .val (.int (0 : Int32)), .unset, .unset, .unset, .unset, .unset] [(.int (0 : Int32))]
      refine s_istore X hx (hb hby at_19) (L' := #[.val (.long x0), .second, .val (.long x1), .second, .val (.long x2), .second, .val (.long x3), .second, .val (.long x4), .second, .val (.int x5), .val (.int (0 : Int32)), .val (.int (0 : Int32)), .val (.int (0 : Int32)), .unset, .unset, .unset, .unset]) rfl (q := 21) rfl ?_
      refine s_iconst X hx (z := (5 : Int32)) (hb hby at_21) rfl (q := 22) rfl ?_
      refine s_newJ X hx hZ (hw _ (List.mem_of_getElem? (i := 0) rfl)) eT (by decide) (cap := 5) (by decide) (by decide) (by decide) (by decide) (vs := [0, 0, 0, 0, 0]) rfl (hb hby at_22) (q := 24) rfl ?_
      intro T h2 a1 X eT E ea A_a1
      have g_a1 : n0 ≤ a1 := by rw [ea]; exact sz
      have sz : n0 ≤ h2.size := Nat.le_trans sz E.1
      refine s_dup X hx (hb hby at_24) rfl (q := 25) rfl ?_
      refine s_iconst X hx (z := (0 : Int32)) (hb hby at_25) rfl (q := 26) rfl ?_
      refine s_lload X hx (hb hby at_26) rfl (q := 28) rfl ?_
      refine s_lastore X hx hZ eT A_a1 N g_a1 (by decide) (i := 0) rfl (Nat.le_of_ble_eq_true rfl) (vs := [x4, 0, 0, 0, 0]) rfl (hb hby at_28) (q := 29) rfl ?_
      intro T h3 _ X N eT W A_a1'
      have sz : n0 ≤ h3.size := by rw [W.size]; exact sz
      have A_a1 := A_a1'
      refine s_dup X hx (hb hby at_29) rfl (q := 30) rfl ?_
      refine s_iconst X hx (z := (1 : Int32)) (hb hby at_30) rfl (q := 31) rfl ?_
      refine s_lload X hx (hb hby at_31) rfl (q := 33) rfl ?_
      refine s_lastore X hx hZ eT A_a1 N g_a1 (by decide) (i := 1) rfl (Nat.le_of_ble_eq_true rfl) (vs := [x4, x4, 0, 0, 0]) rfl (hb hby at_33) (q := 34) rfl ?_
      intro T h4 _ X N eT W A_a1'
      have sz : n0 ≤ h4.size := by rw [W.size]; exact sz
      have A_a1 := A_a1'
      refine s_dup X hx (hb hby at_34) rfl (q := 35) rfl ?_
      refine s_iconst X hx (z := (2 : Int32)) (hb hby at_35) rfl (q := 36) rfl ?_
      refine s_lload X hx (hb hby at_36) rfl (q := 38) rfl ?_
      refine s_lastore X hx hZ eT A_a1 N g_a1 (by decide) (i := 2) rfl (Nat.le_of_ble_eq_true rfl) (vs := [x4, x4, x4, 0, 0]) rfl (hb hby at_38) (q := 39) rfl ?_
      intro T h5 _ X N eT W A_a1'
      have sz : n0 ≤ h5.size := by rw [W.size]; exact sz
      have A_a1 := A_a1'
      refine s_dup X hx (hb hby at_39) rfl (q := 40) rfl ?_
      refine s_iconst X hx (z := (3 : Int32)) (hb hby at_40) rfl (q := 41) rfl ?_
      refine s_lload X hx (hb hby at_41) rfl (q := 43) rfl ?_
      refine s_lastore X hx hZ eT A_a1 N g_a1 (by decide) (i := 3) rfl (Nat.le_of_ble_eq_true rfl) (vs := [x4, x4, x4, x4, 0]) rfl (hb hby at_43) (q := 44) rfl ?_
      intro T h6 _ X N eT W A_a1'
      have sz : n0 ≤ h6.size := by rw [W.size]; exact sz
      have A_a1 := A_a1'
      refine s_dup X hx (hb hby at_44) rfl (q := 45) rfl ?_
      refine s_iconst X hx (z := (4 : Int32)) (hb hby at_45) rfl (q := 46) rfl ?_
      refine s_lload X hx (hb hby at_46) rfl (q := 48) rfl ?_
      refine s_lastore X hx hZ eT A_a1 N g_a1 (by decide) (i := 4) rfl (Nat.le_of_ble_eq_true rfl) (vs := [x4, x4, x4, x4, x4]) rfl (hb hby at_48) (q := 49) rfl ?_
      intro T h7 _ X N eT W A_a1'
      have sz : n0 ≤ h7.size := by rw [W.size]; exact sz
      have A_a1 := A_a1'
      refine s_astore X hx (hb hby at_49) rfl (L' := #[.val (.long x0), .second, .val (.long x1), .second, .val (.long x2), .second, .val (.long x3), .second, .val (.long x4), .second, .val (.int x5), .val (.int (0 : Int32)), .val (.int (0 : Int32)), .val (.int (0 : Int32)), .val (.ref a1), .unset, .unset, .unset]) rfl (q := 51) rfl ?_
      refine s_iload X hx (hb hby at_51) rfl (q := 53) rfl ?_
      refine f_if_le X hx (hb hby at_53) (q1 := 62) (by decide) (by decide) (q := 56) rfl (fun _ => ?_) (fun hq => absurd hq (by decide : ¬ 0 < (0 : Int32)))
      refine s_iload X hx (hb hby at_62) rfl (q := 64) rfl ?_
      refine s_iconst X hx (z := (1 : Int32)) (hb hby at_64) rfl (q := 65) rfl ?_
      refine f_icmp_le X hx (hb hby at_65) (q1 := 76) (by decide) (by decide) (q := 68) rfl (fun _ => ?_) (fun hq => absurd hq (by decide : ¬ (1 : Int32) < (0 : Int32)))
      refine s_iload X hx (hb hby at_76) rfl (q := 78) rfl ?_
      refine s_iconst X hx (z := (2 : Int32)) (hb hby at_78) rfl (q := 79) rfl ?_
      refine f_icmp_le X hx (hb hby at_79) (q1 := 91) (by decide) (by decide) (q := 82) rfl (fun _ => ?_) (fun hq => absurd hq (by decide : ¬ (2 : Int32) < (0 : Int32)))
      refine s_iconst X hx (z := (5 : Int32)) (hb hby at_91) rfl (q := 92) rfl ?_
      refine s_newJ X hx hZ (hw _ (List.mem_of_getElem? (i := 0) rfl)) eT (by decide) (cap := 5) (by decide) (by decide) (by decide) (by decide) (vs := [0, 0, 0, 0, 0]) rfl (hb hby at_92) (q := 94) rfl ?_
      intro T h9 a8 X eT E ea A_a8
      have ne_a1_a8 : a1 ≠ a8 := by rw [ea]; exact Nat.ne_of_lt A_a1.lt
      have A_a1 := A_a1.ext E
      have g_a8 : n0 ≤ a8 := by rw [ea]; exact sz
      have sz : n0 ≤ h9.size := Nat.le_trans sz E.1
      refine s_dup X hx (hb hby at_94) rfl (q := 95) rfl ?_
      refine s_iconst X hx (z := (0 : Int32)) (hb hby at_95) rfl (q := 96) rfl ?_
      refine s_aload X hx (hb hby at_96) rfl rfl (q := 98) rfl ?_
      refine s_iconst X hx (z := (0 : Int32)) (hb hby at_98) rfl (q := 99) rfl ?_
      refine s_laload X hx hZ eT A_a1 (by decide) (i := 0) rfl (x := x4) rfl (hb hby at_99) (q := 100) rfl ?_
      refine s_lastore X hx hZ eT A_a8 N g_a8 (by decide) (i := 0) rfl (Nat.le_of_ble_eq_true rfl) (vs := [x4, 0, 0, 0, 0]) rfl (hb hby at_100) (q := 101) rfl ?_
      intro T h10 _ X N eT W A_a8'
      have A_a1 := A_a1.other W ne_a1_a8
      have sz : n0 ≤ h10.size := by rw [W.size]; exact sz
      have A_a8 := A_a8'
      refine s_dup X hx (hb hby at_101) rfl (q := 102) rfl ?_
      refine s_iconst X hx (z := (1 : Int32)) (hb hby at_102) rfl (q := 103) rfl ?_
      refine s_aload X hx (hb hby at_103) rfl rfl (q := 105) rfl ?_
      refine s_iconst X hx (z := (1 : Int32)) (hb hby at_105) rfl (q := 106) rfl ?_
      refine s_laload X hx hZ eT A_a1 (by decide) (i := 1) rfl (x := x4) rfl (hb hby at_106) (q := 107) rfl ?_
      refine s_lastore X hx hZ eT A_a8 N g_a8 (by decide) (i := 1) rfl (Nat.le_of_ble_eq_true rfl) (vs := [x4, x4, 0, 0, 0]) rfl (hb hby at_107) (q := 108) rfl ?_
      intro T h11 _ X N eT W A_a8'
      have A_a1 := A_a1.other W ne_a1_a8
      have sz : n0 ≤ h11.size := by rw [W.size]; exact sz
      have A_a8 := A_a8'
      refine s_dup X hx (hb hby at_108) rfl (q := 109) rfl ?_
      refine s_iconst X hx (z := (2 : Int32)) (hb hby at_109) rfl (q := 110) rfl ?_
      refine s_aload X hx (hb hby at_110) rfl rfl (q := 112) rfl ?_
      refine s_iconst X hx (z := (2 : Int32)) (hb hby at_112) rfl (q := 113) rfl ?_
      refine s_laload X hx hZ eT A_a1 (by decide) (i := 2) rfl (x := x4) rfl (hb hby at_113) (q := 114) rfl ?_
      refine s_lastore X hx hZ eT A_a8 N g_a8 (by decide) (i := 2) rfl (Nat.le_of_ble_eq_true rfl) (vs := [x4, x4, x4, 0, 0]) rfl (hb hby at_114) (q := 115) rfl ?_
      intro T h12 _ X N eT W A_a8'
      have A_a1 := A_a1.other W ne_a1_a8
      have sz : n0 ≤ h12.size := by rw [W.size]; exact sz
      have A_a8 := A_a8'
      refine s_dup X hx (hb hby at_115) rfl (q := 116) rfl ?_
      refine s_iconst X hx (z := (3 : Int32)) (hb hby at_116) rfl (q := 117) rfl ?_
      refine s_aload X hx (hb hby at_117) rfl rfl (q := 119) rfl ?_
      refine s_iconst X hx (z := (3 : Int32)) (hb hby at_119) rfl (q := 120) rfl ?_
      refine s_laload X hx hZ eT A_a1 (by decide) (i := 3) rfl (x := x4) rfl (hb hby at_120) (q := 121) rfl ?_
      refine s_lastore X hx hZ eT A_a8 N g_a8 (by decide) (i := 3) rfl (Nat.le_of_ble_eq_true rfl) (vs := [x4, x4, x4, x4, 0]) rfl (hb hby at_121) (q := 122) rfl ?_
      intro T h13 _ X N eT W A_a8'
      have A_a1 := A_a1.other W ne_a1_a8
      have sz : n0 ≤ h13.size := by rw [W.size]; exact sz
      have A_a8 := A_a8'
      refine s_dup X hx (hb hby at_122) rfl (q := 123) rfl ?_
      refine s_iconst X hx (z := (4 : Int32)) (hb hby at_123) rfl (q := 124) rfl ?_
      refine s_aload X hx (hb hby at_124) rfl rfl (q := 126) rfl ?_
      refine s_iconst X hx (z := (4 : Int32)) (hb hby at_126) rfl (q := 127) rfl ?_
      refine s_laload X hx hZ eT A_a1 (by decide) (i := 4) rfl (x := x4) rfl (hb hby at_127) (q := 128) rfl ?_
      refine s_lastore X hx hZ eT A_a8 N g_a8 (by decide) (i := 4) rfl (Nat.le_of_ble_eq_true rfl) (vs := [x4, x4, x4, x4, x4]) rfl (hb hby at_128) (q := 129) rfl ?_
      intro T h14 _ X N eT W A_a8'
      have A_a1 := A_a1.other W ne_a1_a8
      have sz : n0 ≤ h14.size := by rw [W.size]; exact sz
      have A_a8 := A_a8'
      refine s_astore X hx (hb hby at_129) rfl (L' := #[.val (.long x0), .second, .val (.long x1), .second, .val (.long x2), .second, .val (.long x3), .second, .val (.long x4), .second, .val (.int x5), .val (.int (0 : Int32)), .val (.int (0 : Int32)), .val (.int (0 : Int32)), .val (.ref a1), .val (.ref a8), .unset, .unset]) rfl (q := 131) rfl ?_
      refine s_aload X hx (hb hby at_131) rfl rfl (q := 133) rfl ?_
      refine s_iload X hx (hb hby at_133) rfl (q := 135) rfl ?_
      refine s_iload X hx (hb hby at_135) rfl (q := 137) rfl ?_
      refine s_lload X hx (hb hby at_137) rfl (q := 139) rfl ?_
      refine callC X hx hZ hown (W := 0) (argsL := [(.ref a1), (.int (0 : Int32)), (.int (0 : Int32)), (.long x3)]) (rest := []) (hw _ (List.mem_of_getElem? (i := 1) rfl)) (hw _ (List.mem_of_getElem? (i := 2) rfl)) (hw _ (List.mem_of_getElem? (i := 3) rfl)) (hw _ (List.mem_of_getElem? (i := 4) rfl)) (by decide) (rm1_00 l Z a0 hw [] a1 x3 x4 x4 x4 x4 x4 h14 n0 sz A_a1 g_a1) eT (by decide) (by decide) (by decide) (by decide) (by rw [hml]; rfl) pd0 rfl rfl (Nat.le_of_ble_eq_true rfl) (hb hby at_139) (q := 142) rfl ?_
      intro v T Lc hQ X
      obtain ⟨h15, eT⟩ : ∃ z, T.heap = z := ⟨_, rfl⟩
      try rw [eT] at hQ
      obtain ⟨rfl, N', K', A_a1'⟩ := hQ
      have N := Fr.app N N'
      have A_a8 := A_a8.keep K' (ninS (Ne.symm ne_a1_a8) nin0)
      have sz : n0 ≤ h15.size := Nat.le_trans sz K'.1
      have A_a1 := A_a1'
      refine s_lload X hx (hb hby at_142) rfl (q := 144) rfl ?_
      refine s_ldc2 X hx hZ hown (hw _ (List.mem_of_getElem? (i := 5) rfl)) (hb hby at_144) (q := 147) rfl ?_
      refine s_lxor X hx (hb hby at_147) (q := 148) rfl ?_
      refine s_lstore X hx (hb hby at_148) (L' := #[.val (.long x0), .second, .val (.long x1), .second, .val (.long x2), .second, .val (.long x3), .second, .val (.long x4), .second, .val (.int x5), .val (.int (0 : Int32)), .val (.int (0 : Int32)), .val (.int (0 : Int32)), .val (.ref a1), .val (.ref a8), .val (.long (x3 ^^^ (-9223372036854775808 : Int64))), .second]) rfl (q := 150) rfl ?_
      refine s_iload X hx (hb hby at_150) rfl (q := 152) rfl ?_
      refine s_iconst X hx (z := (2 : Int32)) (hb hby at_152) rfl (q := 153) rfl ?_
      refine f_icmp_lt X hx (hb hby at_153) (q1 := 169) (by decide) (by decide) (q := 156) rfl (fun _ => ?_) (fun hq => absurd (by decide : (0 : Int32) < (2 : Int32)) hq)
      refine s_iload X hx (hb hby at_169) rfl (q := 171) rfl ?_
      refine s_iconst X hx (z := (3 : Int32)) (hb hby at_171) rfl (q := 172) rfl ?_
      refine f_icmp_ne X hx (hb hby at_172) (q1 := 203) (by decide) (by decide) (q := 175) rfl (fun _ => ?_) (fun hq => absurd hq (by decide : ¬ (0 : Int32) = (3 : Int32)))
      have A_a1 : AJ Z h15 a1 [x4, x4, x4, x4, x4] := A_a1
      refine s_aload X hx (hb hby at_203) rfl rfl (q := 205) rfl ?_
      refine s_iconst X hx (z := (0 : Int32)) (hb hby at_205) rfl (q := 206) rfl ?_
      refine s_laload X hx hZ eT A_a1 (by decide) (i := 0) rfl (x := x4) rfl (hb hby at_206) (q := 207) rfl ?_
      refine s_aload X hx (hb hby at_207) rfl rfl (q := 209) rfl ?_
      refine s_iconst X hx (z := (0 : Int32)) (hb hby at_209) rfl (q := 210) rfl ?_
      refine s_laload X hx hZ eT A_a8 (by decide) (i := 0) rfl (x := x4) rfl (hb hby at_210) (q := 211) rfl ?_
      refine s_lcmp X hx (hb hby at_211) (q := 212) rfl ?_
      refine f_lcmp_ne X hx (hb hby at_212) (q1 := 267) (by decide) (by decide) (q := 215) rfl (fun hq => absurd (rfl : x4 = x4) hq) (fun _ => ?_)
      refine s_aload X hx (hb hby at_215) rfl rfl (q := 217) rfl ?_
      refine s_iconst X hx (z := (1 : Int32)) (hb hby at_217) rfl (q := 218) rfl ?_
      refine s_laload X hx hZ eT A_a1 (by decide) (i := 1) rfl (x := x4) rfl (hb hby at_218) (q := 219) rfl ?_
      refine s_aload X hx (hb hby at_219) rfl rfl (q := 221) rfl ?_
      refine s_iconst X hx (z := (1 : Int32)) (hb hby at_221) rfl (q := 222) rfl ?_
      refine s_laload X hx hZ eT A_a8 (by decide) (i := 1) rfl (x := x4) rfl (hb hby at_222) (q := 223) rfl ?_
      refine s_lcmp X hx (hb hby at_223) (q := 224) rfl ?_
      refine f_lcmp_ne X hx (hb hby at_224) (q1 := 267) (by decide) (by decide) (q := 227) rfl (fun hq => absurd (rfl : x4 = x4) hq) (fun _ => ?_)
      refine s_aload X hx (hb hby at_227) rfl rfl (q := 229) rfl ?_
      refine s_iconst X hx (z := (2 : Int32)) (hb hby at_229) rfl (q := 230) rfl ?_
      refine s_laload X hx hZ eT A_a1 (by decide) (i := 2) rfl (x := x4) rfl (hb hby at_230) (q := 231) rfl ?_
      refine s_aload X hx (hb hby at_231) rfl rfl (q := 233) rfl ?_
      refine s_iconst X hx (z := (2 : Int32)) (hb hby at_233) rfl (q := 234) rfl ?_
      refine s_laload X hx hZ eT A_a8 (by decide) (i := 2) rfl (x := x4) rfl (hb hby at_234) (q := 235) rfl ?_
      refine s_lcmp X hx (hb hby at_235) (q := 236) rfl ?_
      refine f_lcmp_ne X hx (hb hby at_236) (q1 := 267) (by decide) (by decide) (q := 239) rfl (fun hq => absurd (rfl : x4 = x4) hq) (fun _ => ?_)
      refine s_aload X hx (hb hby at_239) rfl rfl (q := 241) rfl ?_
      refine s_iconst X hx (z := (3 : Int32)) (hb hby at_241) rfl (q := 242) rfl ?_
      refine s_laload X hx hZ eT A_a1 (by decide) (i := 3) rfl (x := x4) rfl (hb hby at_242) (q := 243) rfl ?_
      refine s_aload X hx (hb hby at_243) rfl rfl (q := 245) rfl ?_
      refine s_iconst X hx (z := (3 : Int32)) (hb hby at_245) rfl (q := 246) rfl ?_
      refine s_laload X hx hZ eT A_a8 (by decide) (i := 3) rfl (x := x4) rfl (hb hby at_246) (q := 247) rfl ?_
      refine s_lcmp X hx (hb hby at_247) (q := 248) rfl ?_
      refine f_lcmp_ne X hx (hb hby at_248) (q1 := 267) (by decide) (by decide) (q := 251) rfl (fun hq => absurd (rfl : x4 = x4) hq) (fun _ => ?_)
      refine s_aload X hx (hb hby at_251) rfl rfl (q := 253) rfl ?_
      refine s_iconst X hx (z := (4 : Int32)) (hb hby at_253) rfl (q := 254) rfl ?_
      refine s_laload X hx hZ eT A_a1 (by decide) (i := 4) rfl (x := x4) rfl (hb hby at_254) (q := 255) rfl ?_
      refine s_aload X hx (hb hby at_255) rfl rfl (q := 257) rfl ?_
      refine s_iconst X hx (z := (4 : Int32)) (hb hby at_257) rfl (q := 258) rfl ?_
      refine s_laload X hx hZ eT A_a8 (by decide) (i := 4) rfl (x := x4) rfl (hb hby at_258) (q := 259) rfl ?_
      refine s_lcmp X hx (hb hby at_259) (q := 260) rfl ?_
      refine f_lcmp_ne X hx (hb hby at_260) (q1 := 267) (by decide) (by decide) (q := 263) rfl (fun hq => absurd (rfl : x4 = x4) hq) (fun _ => ?_)
      refine s_iconst X hx (z := (1 : Int32)) (hb hby at_263) rfl (q := 264) rfl ?_
      refine s_goto X hx (hb hby at_264) (q1 := 268) (by decide) (by decide) ?_
      exact leafN X hx hlk hret (by simp) (hb hby at_268) (by decide) (by decide) (z' := 1) rfl ⟨rfl, N⟩
    · subst hcase
      refine s_iload X hx (hb hby at_14) rfl (q := 16) rfl ?_
      refine s_iload X hx (hb hby at_16) rfl (q := 18) rfl ?_
      refine s_iadd X hx (hb hby at_18) (q := 19) rfl ?_
      show Go p e below _ T m 19 #[.val (.long x0), .second, .val (.long x1), .second, .val (.long x2), .second, .val (.long x3), .second, .val (.long x4), .second, .val (.int x5), .val (.int (0 : Int32)), .val (.int (1 : Int32)), .unset, .unset, .unset, .unset, .unset] [(.int (1 : Int32))]
      refine s_istore X hx (hb hby at_19) (L' := #[.val (.long x0), .second, .val (.long x1), .second, .val (.long x2), .second, .val (.long x3), .second, .val (.long x4), .second, .val (.int x5), .val (.int (0 : Int32)), .val (.int (1 : Int32)), .val (.int (1 : Int32)), .unset, .unset, .unset, .unset]) rfl (q := 21) rfl ?_
      refine s_iconst X hx (z := (5 : Int32)) (hb hby at_21) rfl (q := 22) rfl ?_
      refine s_newJ X hx hZ (hw _ (List.mem_of_getElem? (i := 0) rfl)) eT (by decide) (cap := 5) (by decide) (by decide) (by decide) (by decide) (vs := [0, 0, 0, 0, 0]) rfl (hb hby at_22) (q := 24) rfl ?_
      intro T h17 a16 X eT E ea A_a16
      have g_a16 : n0 ≤ a16 := by rw [ea]; exact sz
      have sz : n0 ≤ h17.size := Nat.le_trans sz E.1
      refine s_dup X hx (hb hby at_24) rfl (q := 25) rfl ?_
      refine s_iconst X hx (z := (0 : Int32)) (hb hby at_25) rfl (q := 26) rfl ?_
      refine s_lload X hx (hb hby at_26) rfl (q := 28) rfl ?_
      refine s_lastore X hx hZ eT A_a16 N g_a16 (by decide) (i := 0) rfl (Nat.le_of_ble_eq_true rfl) (vs := [x4, 0, 0, 0, 0]) rfl (hb hby at_28) (q := 29) rfl ?_
      intro T h18 _ X N eT W A_a16'
      have sz : n0 ≤ h18.size := by rw [W.size]; exact sz
      have A_a16 := A_a16'
      refine s_dup X hx (hb hby at_29) rfl (q := 30) rfl ?_
      refine s_iconst X hx (z := (1 : Int32)) (hb hby at_30) rfl (q := 31) rfl ?_
      refine s_lload X hx (hb hby at_31) rfl (q := 33) rfl ?_
      refine s_lastore X hx hZ eT A_a16 N g_a16 (by decide) (i := 1) rfl (Nat.le_of_ble_eq_true rfl) (vs := [x4, x4, 0, 0, 0]) rfl (hb hby at_33) (q := 34) rfl ?_
      intro T h19 _ X N eT W A_a16'
      have sz : n0 ≤ h19.size := by rw [W.size]; exact sz
      have A_a16 := A_a16'
      refine s_dup X hx (hb hby at_34) rfl (q := 35) rfl ?_
      refine s_iconst X hx (z := (2 : Int32)) (hb hby at_35) rfl (q := 36) rfl ?_
      refine s_lload X hx (hb hby at_36) rfl (q := 38) rfl ?_
      refine s_lastore X hx hZ eT A_a16 N g_a16 (by decide) (i := 2) rfl (Nat.le_of_ble_eq_true rfl) (vs := [x4, x4, x4, 0, 0]) rfl (hb hby at_38) (q := 39) rfl ?_
      intro T h20 _ X N eT W A_a16'
      have sz : n0 ≤ h20.size := by rw [W.size]; exact sz
      have A_a16 := A_a16'
      refine s_dup X hx (hb hby at_39) rfl (q := 40) rfl ?_
      refine s_iconst X hx (z := (3 : Int32)) (hb hby at_40) rfl (q := 41) rfl ?_
      refine s_lload X hx (hb hby at_41) rfl (q := 43) rfl ?_
      refine s_lastore X hx hZ eT A_a16 N g_a16 (by decide) (i := 3) rfl (Nat.le_of_ble_eq_true rfl) (vs := [x4, x4, x4, x4, 0]) rfl (hb hby at_43) (q := 44) rfl ?_
      intro T h21 _ X N eT W A_a16'
      have sz : n0 ≤ h21.size := by rw [W.size]; exact sz
      have A_a16 := A_a16'
      refine s_dup X hx (hb hby at_44) rfl (q := 45) rfl ?_
      refine s_iconst X hx (z := (4 : Int32)) (hb hby at_45) rfl (q := 46) rfl ?_
      refine s_lload X hx (hb hby at_46) rfl (q := 48) rfl ?_
      refine s_lastore X hx hZ eT A_a16 N g_a16 (by decide) (i := 4) rfl (Nat.le_of_ble_eq_true rfl) (vs := [x4, x4, x4, x4, x4]) rfl (hb hby at_48) (q := 49) rfl ?_
      intro T h22 _ X N eT W A_a16'
      have sz : n0 ≤ h22.size := by rw [W.size]; exact sz
      have A_a16 := A_a16'
      refine s_astore X hx (hb hby at_49) rfl (L' := #[.val (.long x0), .second, .val (.long x1), .second, .val (.long x2), .second, .val (.long x3), .second, .val (.long x4), .second, .val (.int x5), .val (.int (0 : Int32)), .val (.int (1 : Int32)), .val (.int (1 : Int32)), .val (.ref a16), .unset, .unset, .unset]) rfl (q := 51) rfl ?_
      refine s_iload X hx (hb hby at_51) rfl (q := 53) rfl ?_
      refine f_if_le X hx (hb hby at_53) (q1 := 62) (by decide) (by decide) (q := 56) rfl (fun hq => absurd (by decide : 0 < (1 : Int32)) hq) (fun _ => ?_)
      refine s_aload X hx (hb hby at_56) rfl rfl (q := 58) rfl ?_
      refine s_iload X hx (hb hby at_58) rfl (q := 60) rfl ?_
      refine s_lloadN X hx (hb hby at_60) rfl (q := 61) rfl ?_
      refine s_lastore X hx hZ eT A_a16 N g_a16 (by decide) (i := 0) rfl (Nat.le_of_ble_eq_true rfl) (vs := [x0, x4, x4, x4, x4]) rfl (hb hby at_61) (q := 62) rfl ?_
      intro T h23 _ X N eT W A_a16'
      have sz : n0 ≤ h23.size := by rw [W.size]; exact sz
      have A_a16 := A_a16'
      refine s_iload X hx (hb hby at_62) rfl (q := 64) rfl ?_
      refine s_iconst X hx (z := (1 : Int32)) (hb hby at_64) rfl (q := 65) rfl ?_
      refine f_icmp_le X hx (hb hby at_65) (q1 := 76) (by decide) (by decide) (q := 68) rfl (fun _ => ?_) (fun hq => absurd hq (by decide : ¬ (1 : Int32) < (1 : Int32)))
      refine s_iload X hx (hb hby at_76) rfl (q := 78) rfl ?_
      refine s_iconst X hx (z := (2 : Int32)) (hb hby at_78) rfl (q := 79) rfl ?_
      refine f_icmp_le X hx (hb hby at_79) (q1 := 91) (by decide) (by decide) (q := 82) rfl (fun _ => ?_) (fun hq => absurd hq (by decide : ¬ (2 : Int32) < (1 : Int32)))
      refine s_iconst X hx (z := (5 : Int32)) (hb hby at_91) rfl (q := 92) rfl ?_
      refine s_newJ X hx hZ (hw _ (List.mem_of_getElem? (i := 0) rfl)) eT (by decide) (cap := 5) (by decide) (by decide) (by decide) (by decide) (vs := [0, 0, 0, 0, 0]) rfl (hb hby at_92) (q := 94) rfl ?_
      intro T h25 a24 X eT E ea A_a24
      have ne_a16_a24 : a16 ≠ a24 := by rw [ea]; exact Nat.ne_of_lt A_a16.lt
      have A_a16 := A_a16.ext E
      have g_a24 : n0 ≤ a24 := by rw [ea]; exact sz
      have sz : n0 ≤ h25.size := Nat.le_trans sz E.1
      refine s_dup X hx (hb hby at_94) rfl (q := 95) rfl ?_
      refine s_iconst X hx (z := (0 : Int32)) (hb hby at_95) rfl (q := 96) rfl ?_
      refine s_aload X hx (hb hby at_96) rfl rfl (q := 98) rfl ?_
      refine s_iconst X hx (z := (0 : Int32)) (hb hby at_98) rfl (q := 99) rfl ?_
      refine s_laload X hx hZ eT A_a16 (by decide) (i := 0) rfl (x := x0) rfl (hb hby at_99) (q := 100) rfl ?_
      refine s_lastore X hx hZ eT A_a24 N g_a24 (by decide) (i := 0) rfl (Nat.le_of_ble_eq_true rfl) (vs := [x0, 0, 0, 0, 0]) rfl (hb hby at_100) (q := 101) rfl ?_
      intro T h26 _ X N eT W A_a24'
      have A_a16 := A_a16.other W ne_a16_a24
      have sz : n0 ≤ h26.size := by rw [W.size]; exact sz
      have A_a24 := A_a24'
      refine s_dup X hx (hb hby at_101) rfl (q := 102) rfl ?_
      refine s_iconst X hx (z := (1 : Int32)) (hb hby at_102) rfl (q := 103) rfl ?_
      refine s_aload X hx (hb hby at_103) rfl rfl (q := 105) rfl ?_
      refine s_iconst X hx (z := (1 : Int32)) (hb hby at_105) rfl (q := 106) rfl ?_
      refine s_laload X hx hZ eT A_a16 (by decide) (i := 1) rfl (x := x4) rfl (hb hby at_106) (q := 107) rfl ?_
      refine s_lastore X hx hZ eT A_a24 N g_a24 (by decide) (i := 1) rfl (Nat.le_of_ble_eq_true rfl) (vs := [x0, x4, 0, 0, 0]) rfl (hb hby at_107) (q := 108) rfl ?_
      intro T h27 _ X N eT W A_a24'
      have A_a16 := A_a16.other W ne_a16_a24
      have sz : n0 ≤ h27.size := by rw [W.size]; exact sz
      have A_a24 := A_a24'
      refine s_dup X hx (hb hby at_108) rfl (q := 109) rfl ?_
      refine s_iconst X hx (z := (2 : Int32)) (hb hby at_109) rfl (q := 110) rfl ?_
      refine s_aload X hx (hb hby at_110) rfl rfl (q := 112) rfl ?_
      refine s_iconst X hx (z := (2 : Int32)) (hb hby at_112) rfl (q := 113) rfl ?_
      refine s_laload X hx hZ eT A_a16 (by decide) (i := 2) rfl (x := x4) rfl (hb hby at_113) (q := 114) rfl ?_
      refine s_lastore X hx hZ eT A_a24 N g_a24 (by decide) (i := 2) rfl (Nat.le_of_ble_eq_true rfl) (vs := [x0, x4, x4, 0, 0]) rfl (hb hby at_114) (q := 115) rfl ?_
      intro T h28 _ X N eT W A_a24'
      have A_a16 := A_a16.other W ne_a16_a24
      have sz : n0 ≤ h28.size := by rw [W.size]; exact sz
      have A_a24 := A_a24'
      refine s_dup X hx (hb hby at_115) rfl (q := 116) rfl ?_
      refine s_iconst X hx (z := (3 : Int32)) (hb hby at_116) rfl (q := 117) rfl ?_
      refine s_aload X hx (hb hby at_117) rfl rfl (q := 119) rfl ?_
      refine s_iconst X hx (z := (3 : Int32)) (hb hby at_119) rfl (q := 120) rfl ?_
      refine s_laload X hx hZ eT A_a16 (by decide) (i := 3) rfl (x := x4) rfl (hb hby at_120) (q := 121) rfl ?_
      refine s_lastore X hx hZ eT A_a24 N g_a24 (by decide) (i := 3) rfl (Nat.le_of_ble_eq_true rfl) (vs := [x0, x4, x4, x4, 0]) rfl (hb hby at_121) (q := 122) rfl ?_
      intro T h29 _ X N eT W A_a24'
      have A_a16 := A_a16.other W ne_a16_a24
      have sz : n0 ≤ h29.size := by rw [W.size]; exact sz
      have A_a24 := A_a24'
      refine s_dup X hx (hb hby at_122) rfl (q := 123) rfl ?_
      refine s_iconst X hx (z := (4 : Int32)) (hb hby at_123) rfl (q := 124) rfl ?_
      refine s_aload X hx (hb hby at_124) rfl rfl (q := 126) rfl ?_
      refine s_iconst X hx (z := (4 : Int32)) (hb hby at_126) rfl (q := 127) rfl ?_
      refine s_laload X hx hZ eT A_a16 (by decide) (i := 4) rfl (x := x4) rfl (hb hby at_127) (q := 128) rfl ?_
      refine s_lastore X hx hZ eT A_a24 N g_a24 (by decide) (i := 4) rfl (Nat.le_of_ble_eq_true rfl) (vs := [x0, x4, x4, x4, x4]) rfl (hb hby at_128) (q := 129) rfl ?_
      intro T h30 _ X N eT W A_a24'
      have A_a16 := A_a16.other W ne_a16_a24
      have sz : n0 ≤ h30.size := by rw [W.size]; exact sz
      have A_a24 := A_a24'
      refine s_astore X hx (hb hby at_129) rfl (L' := #[.val (.long x0), .second, .val (.long x1), .second, .val (.long x2), .second, .val (.long x3), .second, .val (.long x4), .second, .val (.int x5), .val (.int (0 : Int32)), .val (.int (1 : Int32)), .val (.int (1 : Int32)), .val (.ref a16), .val (.ref a24), .unset, .unset]) rfl (q := 131) rfl ?_
      refine s_aload X hx (hb hby at_131) rfl rfl (q := 133) rfl ?_
      refine s_iload X hx (hb hby at_133) rfl (q := 135) rfl ?_
      refine s_iload X hx (hb hby at_135) rfl (q := 137) rfl ?_
      refine s_lload X hx (hb hby at_137) rfl (q := 139) rfl ?_
      refine callC X hx hZ hown (W := 0) (argsL := [(.ref a16), (.int (0 : Int32)), (.int (1 : Int32)), (.long x3)]) (rest := []) (hw _ (List.mem_of_getElem? (i := 1) rfl)) (hw _ (List.mem_of_getElem? (i := 2) rfl)) (hw _ (List.mem_of_getElem? (i := 3) rfl)) (hw _ (List.mem_of_getElem? (i := 4) rfl)) (by decide) (rm1_01 l Z a0 hw [] a16 x3 x0 x4 x4 x4 x4 h30 n0 sz A_a16 g_a16) eT (by decide) (by decide) (by decide) (by decide) (by rw [hml]; rfl) pd0 rfl rfl (Nat.le_of_ble_eq_true rfl) (hb hby at_139) (q := 142) rfl ?_
      intro v T Lc hQ X
      obtain ⟨h31, eT⟩ : ∃ z, T.heap = z := ⟨_, rfl⟩
      try rw [eT] at hQ
      obtain ⟨rfl, N', K', A_a16'⟩ := hQ
      have N := Fr.app N N'
      have A_a24 := A_a24.keep K' (ninS (Ne.symm ne_a16_a24) nin0)
      have sz : n0 ≤ h31.size := Nat.le_trans sz K'.1
      have A_a16 := A_a16'
      refine s_lload X hx (hb hby at_142) rfl (q := 144) rfl ?_
      refine s_ldc2 X hx hZ hown (hw _ (List.mem_of_getElem? (i := 5) rfl)) (hb hby at_144) (q := 147) rfl ?_
      refine s_lxor X hx (hb hby at_147) (q := 148) rfl ?_
      refine s_lstore X hx (hb hby at_148) (L' := #[.val (.long x0), .second, .val (.long x1), .second, .val (.long x2), .second, .val (.long x3), .second, .val (.long x4), .second, .val (.int x5), .val (.int (0 : Int32)), .val (.int (1 : Int32)), .val (.int (1 : Int32)), .val (.ref a16), .val (.ref a24), .val (.long (x3 ^^^ (-9223372036854775808 : Int64))), .second]) rfl (q := 150) rfl ?_
      refine s_iload X hx (hb hby at_150) rfl (q := 152) rfl ?_
      refine s_iconst X hx (z := (2 : Int32)) (hb hby at_152) rfl (q := 153) rfl ?_
      refine f_icmp_lt X hx (hb hby at_153) (q1 := 169) (by decide) (by decide) (q := 156) rfl (fun _ => ?_) (fun hq => absurd (by decide : (1 : Int32) < (2 : Int32)) hq)
      refine s_iload X hx (hb hby at_169) rfl (q := 171) rfl ?_
      refine s_iconst X hx (z := (3 : Int32)) (hb hby at_171) rfl (q := 172) rfl ?_
      refine f_icmp_ne X hx (hb hby at_172) (q1 := 203) (by decide) (by decide) (q := 175) rfl (fun _ => ?_) (fun hq => absurd hq (by decide : ¬ (1 : Int32) = (3 : Int32)))
      have A_a16 : AJ Z h31 a16 [x0, x4, x4, x4, x4] := A_a16
      refine s_aload X hx (hb hby at_203) rfl rfl (q := 205) rfl ?_
      refine s_iconst X hx (z := (0 : Int32)) (hb hby at_205) rfl (q := 206) rfl ?_
      refine s_laload X hx hZ eT A_a16 (by decide) (i := 0) rfl (x := x0) rfl (hb hby at_206) (q := 207) rfl ?_
      refine s_aload X hx (hb hby at_207) rfl rfl (q := 209) rfl ?_
      refine s_iconst X hx (z := (0 : Int32)) (hb hby at_209) rfl (q := 210) rfl ?_
      refine s_laload X hx hZ eT A_a24 (by decide) (i := 0) rfl (x := x0) rfl (hb hby at_210) (q := 211) rfl ?_
      refine s_lcmp X hx (hb hby at_211) (q := 212) rfl ?_
      refine f_lcmp_ne X hx (hb hby at_212) (q1 := 267) (by decide) (by decide) (q := 215) rfl (fun hq => absurd (rfl : x0 = x0) hq) (fun _ => ?_)
      refine s_aload X hx (hb hby at_215) rfl rfl (q := 217) rfl ?_
      refine s_iconst X hx (z := (1 : Int32)) (hb hby at_217) rfl (q := 218) rfl ?_
      refine s_laload X hx hZ eT A_a16 (by decide) (i := 1) rfl (x := x4) rfl (hb hby at_218) (q := 219) rfl ?_
      refine s_aload X hx (hb hby at_219) rfl rfl (q := 221) rfl ?_
      refine s_iconst X hx (z := (1 : Int32)) (hb hby at_221) rfl (q := 222) rfl ?_
      refine s_laload X hx hZ eT A_a24 (by decide) (i := 1) rfl (x := x4) rfl (hb hby at_222) (q := 223) rfl ?_
      refine s_lcmp X hx (hb hby at_223) (q := 224) rfl ?_
      refine f_lcmp_ne X hx (hb hby at_224) (q1 := 267) (by decide) (by decide) (q := 227) rfl (fun hq => absurd (rfl : x4 = x4) hq) (fun _ => ?_)
      refine s_aload X hx (hb hby at_227) rfl rfl (q := 229) rfl ?_
      refine s_iconst X hx (z := (2 : Int32)) (hb hby at_229) rfl (q := 230) rfl ?_
      refine s_laload X hx hZ eT A_a16 (by decide) (i := 2) rfl (x := x4) rfl (hb hby at_230) (q := 231) rfl ?_
      refine s_aload X hx (hb hby at_231) rfl rfl (q := 233) rfl ?_
      refine s_iconst X hx (z := (2 : Int32)) (hb hby at_233) rfl (q := 234) rfl ?_
      refine s_laload X hx hZ eT A_a24 (by decide) (i := 2) rfl (x := x4) rfl (hb hby at_234) (q := 235) rfl ?_
      refine s_lcmp X hx (hb hby at_235) (q := 236) rfl ?_
      refine f_lcmp_ne X hx (hb hby at_236) (q1 := 267) (by decide) (by decide) (q := 239) rfl (fun hq => absurd (rfl : x4 = x4) hq) (fun _ => ?_)
      refine s_aload X hx (hb hby at_239) rfl rfl (q := 241) rfl ?_
      refine s_iconst X hx (z := (3 : Int32)) (hb hby at_241) rfl (q := 242) rfl ?_
      refine s_laload X hx hZ eT A_a16 (by decide) (i := 3) rfl (x := x4) rfl (hb hby at_242) (q := 243) rfl ?_
      refine s_aload X hx (hb hby at_243) rfl rfl (q := 245) rfl ?_
      refine s_iconst X hx (z := (3 : Int32)) (hb hby at_245) rfl (q := 246) rfl ?_
      refine s_laload X hx hZ eT A_a24 (by decide) (i := 3) rfl (x := x4) rfl (hb hby at_246) (q := 247) rfl ?_
      refine s_lcmp X hx (hb hby at_247) (q := 248) rfl ?_
      refine f_lcmp_ne X hx (hb hby at_248) (q1 := 267) (by decide) (by decide) (q := 251) rfl (fun hq => absurd (rfl : x4 = x4) hq) (fun _ => ?_)
      refine s_aload X hx (hb hby at_251) rfl rfl (q := 253) rfl ?_
      refine s_iconst X hx (z := (4 : Int32)) (hb hby at_253) rfl (q := 254) rfl ?_
      refine s_laload X hx hZ eT A_a16 (by decide) (i := 4) rfl (x := x4) rfl (hb hby at_254) (q := 255) rfl ?_
      refine s_aload X hx (hb hby at_255) rfl rfl (q := 257) rfl ?_
      refine s_iconst X hx (z := (4 : Int32)) (hb hby at_257) rfl (q := 258) rfl ?_
      refine s_laload X hx hZ eT A_a24 (by decide) (i := 4) rfl (x := x4) rfl (hb hby at_258) (q := 259) rfl ?_
      refine s_lcmp X hx (hb hby at_259) (q := 260) rfl ?_
      refine f_lcmp_ne X hx (hb hby at_260) (q1 := 267) (by decide) (by decide) (q := 263) rfl (fun hq => absurd (rfl : x4 = x4) hq) (fun _ => ?_)
      refine s_iconst X hx (z := (1 : Int32)) (hb hby at_263) rfl (q := 264) rfl ?_
      refine s_goto X hx (hb hby at_264) (q1 := 268) (by decide) (by decide) ?_
      exact leafN X hx hlk hret (by simp) (hb hby at_268) (by decide) (by decide) (z' := 1) rfl ⟨rfl, N⟩
    · subst hcase
      refine s_iload X hx (hb hby at_14) rfl (q := 16) rfl ?_
      refine s_iload X hx (hb hby at_16) rfl (q := 18) rfl ?_
      refine s_iadd X hx (hb hby at_18) (q := 19) rfl ?_
      show Go p e below _ T m 19 #[.val (.long x0), .second, .val (.long x1), .second, .val (.long x2), .second, .val (.long x3), .second, .val (.long x4), .second, .val (.int x5), .val (.int (0 : Int32)), .val (.int (2 : Int32)), .unset, .unset, .unset, .unset, .unset] [(.int (2 : Int32))]
      refine s_istore X hx (hb hby at_19) (L' := #[.val (.long x0), .second, .val (.long x1), .second, .val (.long x2), .second, .val (.long x3), .second, .val (.long x4), .second, .val (.int x5), .val (.int (0 : Int32)), .val (.int (2 : Int32)), .val (.int (2 : Int32)), .unset, .unset, .unset, .unset]) rfl (q := 21) rfl ?_
      refine s_iconst X hx (z := (5 : Int32)) (hb hby at_21) rfl (q := 22) rfl ?_
      refine s_newJ X hx hZ (hw _ (List.mem_of_getElem? (i := 0) rfl)) eT (by decide) (cap := 5) (by decide) (by decide) (by decide) (by decide) (vs := [0, 0, 0, 0, 0]) rfl (hb hby at_22) (q := 24) rfl ?_
      intro T h33 a32 X eT E ea A_a32
      have g_a32 : n0 ≤ a32 := by rw [ea]; exact sz
      have sz : n0 ≤ h33.size := Nat.le_trans sz E.1
      refine s_dup X hx (hb hby at_24) rfl (q := 25) rfl ?_
      refine s_iconst X hx (z := (0 : Int32)) (hb hby at_25) rfl (q := 26) rfl ?_
      refine s_lload X hx (hb hby at_26) rfl (q := 28) rfl ?_
      refine s_lastore X hx hZ eT A_a32 N g_a32 (by decide) (i := 0) rfl (Nat.le_of_ble_eq_true rfl) (vs := [x4, 0, 0, 0, 0]) rfl (hb hby at_28) (q := 29) rfl ?_
      intro T h34 _ X N eT W A_a32'
      have sz : n0 ≤ h34.size := by rw [W.size]; exact sz
      have A_a32 := A_a32'
      refine s_dup X hx (hb hby at_29) rfl (q := 30) rfl ?_
      refine s_iconst X hx (z := (1 : Int32)) (hb hby at_30) rfl (q := 31) rfl ?_
      refine s_lload X hx (hb hby at_31) rfl (q := 33) rfl ?_
      refine s_lastore X hx hZ eT A_a32 N g_a32 (by decide) (i := 1) rfl (Nat.le_of_ble_eq_true rfl) (vs := [x4, x4, 0, 0, 0]) rfl (hb hby at_33) (q := 34) rfl ?_
      intro T h35 _ X N eT W A_a32'
      have sz : n0 ≤ h35.size := by rw [W.size]; exact sz
      have A_a32 := A_a32'
      refine s_dup X hx (hb hby at_34) rfl (q := 35) rfl ?_
      refine s_iconst X hx (z := (2 : Int32)) (hb hby at_35) rfl (q := 36) rfl ?_
      refine s_lload X hx (hb hby at_36) rfl (q := 38) rfl ?_
      refine s_lastore X hx hZ eT A_a32 N g_a32 (by decide) (i := 2) rfl (Nat.le_of_ble_eq_true rfl) (vs := [x4, x4, x4, 0, 0]) rfl (hb hby at_38) (q := 39) rfl ?_
      intro T h36 _ X N eT W A_a32'
      have sz : n0 ≤ h36.size := by rw [W.size]; exact sz
      have A_a32 := A_a32'
      refine s_dup X hx (hb hby at_39) rfl (q := 40) rfl ?_
      refine s_iconst X hx (z := (3 : Int32)) (hb hby at_40) rfl (q := 41) rfl ?_
      refine s_lload X hx (hb hby at_41) rfl (q := 43) rfl ?_
      refine s_lastore X hx hZ eT A_a32 N g_a32 (by decide) (i := 3) rfl (Nat.le_of_ble_eq_true rfl) (vs := [x4, x4, x4, x4, 0]) rfl (hb hby at_43) (q := 44) rfl ?_
      intro T h37 _ X N eT W A_a32'
      have sz : n0 ≤ h37.size := by rw [W.size]; exact sz
      have A_a32 := A_a32'
      refine s_dup X hx (hb hby at_44) rfl (q := 45) rfl ?_
      refine s_iconst X hx (z := (4 : Int32)) (hb hby at_45) rfl (q := 46) rfl ?_
      refine s_lload X hx (hb hby at_46) rfl (q := 48) rfl ?_
      refine s_lastore X hx hZ eT A_a32 N g_a32 (by decide) (i := 4) rfl (Nat.le_of_ble_eq_true rfl) (vs := [x4, x4, x4, x4, x4]) rfl (hb hby at_48) (q := 49) rfl ?_
      intro T h38 _ X N eT W A_a32'
      have sz : n0 ≤ h38.size := by rw [W.size]; exact sz
      have A_a32 := A_a32'
      refine s_astore X hx (hb hby at_49) rfl (L' := #[.val (.long x0), .second, .val (.long x1), .second, .val (.long x2), .second, .val (.long x3), .second, .val (.long x4), .second, .val (.int x5), .val (.int (0 : Int32)), .val (.int (2 : Int32)), .val (.int (2 : Int32)), .val (.ref a32), .unset, .unset, .unset]) rfl (q := 51) rfl ?_
      refine s_iload X hx (hb hby at_51) rfl (q := 53) rfl ?_
      refine f_if_le X hx (hb hby at_53) (q1 := 62) (by decide) (by decide) (q := 56) rfl (fun hq => absurd (by decide : 0 < (2 : Int32)) hq) (fun _ => ?_)
      refine s_aload X hx (hb hby at_56) rfl rfl (q := 58) rfl ?_
      refine s_iload X hx (hb hby at_58) rfl (q := 60) rfl ?_
      refine s_lloadN X hx (hb hby at_60) rfl (q := 61) rfl ?_
      refine s_lastore X hx hZ eT A_a32 N g_a32 (by decide) (i := 0) rfl (Nat.le_of_ble_eq_true rfl) (vs := [x0, x4, x4, x4, x4]) rfl (hb hby at_61) (q := 62) rfl ?_
      intro T h39 _ X N eT W A_a32'
      have sz : n0 ≤ h39.size := by rw [W.size]; exact sz
      have A_a32 := A_a32'
      refine s_iload X hx (hb hby at_62) rfl (q := 64) rfl ?_
      refine s_iconst X hx (z := (1 : Int32)) (hb hby at_64) rfl (q := 65) rfl ?_
      refine f_icmp_le X hx (hb hby at_65) (q1 := 76) (by decide) (by decide) (q := 68) rfl (fun hq => absurd (by decide : (1 : Int32) < (2 : Int32)) hq) (fun _ => ?_)
      refine s_aload X hx (hb hby at_68) rfl rfl (q := 70) rfl ?_
      refine s_iload X hx (hb hby at_70) rfl (q := 72) rfl ?_
      refine s_iconst X hx (z := (1 : Int32)) (hb hby at_72) rfl (q := 73) rfl ?_
      refine s_iadd X hx (hb hby at_73) (q := 74) rfl ?_
      show Go p e below _ T m 74 #[.val (.long x0), .second, .val (.long x1), .second, .val (.long x2), .second, .val (.long x3), .second, .val (.long x4), .second, .val (.int x5), .val (.int (0 : Int32)), .val (.int (2 : Int32)), .val (.int (2 : Int32)), .val (.ref a32), .unset, .unset, .unset] [(.int (1 : Int32)), (.ref a32)]
      refine s_lloadN X hx (hb hby at_74) rfl (q := 75) rfl ?_
      refine s_lastore X hx hZ eT A_a32 N g_a32 (by decide) (i := 1) rfl (Nat.le_of_ble_eq_true rfl) (vs := [x0, x1, x4, x4, x4]) rfl (hb hby at_75) (q := 76) rfl ?_
      intro T h40 _ X N eT W A_a32'
      have sz : n0 ≤ h40.size := by rw [W.size]; exact sz
      have A_a32 := A_a32'
      refine s_iload X hx (hb hby at_76) rfl (q := 78) rfl ?_
      refine s_iconst X hx (z := (2 : Int32)) (hb hby at_78) rfl (q := 79) rfl ?_
      refine f_icmp_le X hx (hb hby at_79) (q1 := 91) (by decide) (by decide) (q := 82) rfl (fun _ => ?_) (fun hq => absurd hq (by decide : ¬ (2 : Int32) < (2 : Int32)))
      refine s_iconst X hx (z := (5 : Int32)) (hb hby at_91) rfl (q := 92) rfl ?_
      refine s_newJ X hx hZ (hw _ (List.mem_of_getElem? (i := 0) rfl)) eT (by decide) (cap := 5) (by decide) (by decide) (by decide) (by decide) (vs := [0, 0, 0, 0, 0]) rfl (hb hby at_92) (q := 94) rfl ?_
      intro T h42 a41 X eT E ea A_a41
      have ne_a32_a41 : a32 ≠ a41 := by rw [ea]; exact Nat.ne_of_lt A_a32.lt
      have A_a32 := A_a32.ext E
      have g_a41 : n0 ≤ a41 := by rw [ea]; exact sz
      have sz : n0 ≤ h42.size := Nat.le_trans sz E.1
      refine s_dup X hx (hb hby at_94) rfl (q := 95) rfl ?_
      refine s_iconst X hx (z := (0 : Int32)) (hb hby at_95) rfl (q := 96) rfl ?_
      refine s_aload X hx (hb hby at_96) rfl rfl (q := 98) rfl ?_
      refine s_iconst X hx (z := (0 : Int32)) (hb hby at_98) rfl (q := 99) rfl ?_
      refine s_laload X hx hZ eT A_a32 (by decide) (i := 0) rfl (x := x0) rfl (hb hby at_99) (q := 100) rfl ?_
      refine s_lastore X hx hZ eT A_a41 N g_a41 (by decide) (i := 0) rfl (Nat.le_of_ble_eq_true rfl) (vs := [x0, 0, 0, 0, 0]) rfl (hb hby at_100) (q := 101) rfl ?_
      intro T h43 _ X N eT W A_a41'
      have A_a32 := A_a32.other W ne_a32_a41
      have sz : n0 ≤ h43.size := by rw [W.size]; exact sz
      have A_a41 := A_a41'
      refine s_dup X hx (hb hby at_101) rfl (q := 102) rfl ?_
      refine s_iconst X hx (z := (1 : Int32)) (hb hby at_102) rfl (q := 103) rfl ?_
      refine s_aload X hx (hb hby at_103) rfl rfl (q := 105) rfl ?_
      refine s_iconst X hx (z := (1 : Int32)) (hb hby at_105) rfl (q := 106) rfl ?_
      refine s_laload X hx hZ eT A_a32 (by decide) (i := 1) rfl (x := x1) rfl (hb hby at_106) (q := 107) rfl ?_
      refine s_lastore X hx hZ eT A_a41 N g_a41 (by decide) (i := 1) rfl (Nat.le_of_ble_eq_true rfl) (vs := [x0, x1, 0, 0, 0]) rfl (hb hby at_107) (q := 108) rfl ?_
      intro T h44 _ X N eT W A_a41'
      have A_a32 := A_a32.other W ne_a32_a41
      have sz : n0 ≤ h44.size := by rw [W.size]; exact sz
      have A_a41 := A_a41'
      refine s_dup X hx (hb hby at_108) rfl (q := 109) rfl ?_
      refine s_iconst X hx (z := (2 : Int32)) (hb hby at_109) rfl (q := 110) rfl ?_
      refine s_aload X hx (hb hby at_110) rfl rfl (q := 112) rfl ?_
      refine s_iconst X hx (z := (2 : Int32)) (hb hby at_112) rfl (q := 113) rfl ?_
      refine s_laload X hx hZ eT A_a32 (by decide) (i := 2) rfl (x := x4) rfl (hb hby at_113) (q := 114) rfl ?_
      refine s_lastore X hx hZ eT A_a41 N g_a41 (by decide) (i := 2) rfl (Nat.le_of_ble_eq_true rfl) (vs := [x0, x1, x4, 0, 0]) rfl (hb hby at_114) (q := 115) rfl ?_
      intro T h45 _ X N eT W A_a41'
      have A_a32 := A_a32.other W ne_a32_a41
      have sz : n0 ≤ h45.size := by rw [W.size]; exact sz
      have A_a41 := A_a41'
      refine s_dup X hx (hb hby at_115) rfl (q := 116) rfl ?_
      refine s_iconst X hx (z := (3 : Int32)) (hb hby at_116) rfl (q := 117) rfl ?_
      refine s_aload X hx (hb hby at_117) rfl rfl (q := 119) rfl ?_
      refine s_iconst X hx (z := (3 : Int32)) (hb hby at_119) rfl (q := 120) rfl ?_
      refine s_laload X hx hZ eT A_a32 (by decide) (i := 3) rfl (x := x4) rfl (hb hby at_120) (q := 121) rfl ?_
      refine s_lastore X hx hZ eT A_a41 N g_a41 (by decide) (i := 3) rfl (Nat.le_of_ble_eq_true rfl) (vs := [x0, x1, x4, x4, 0]) rfl (hb hby at_121) (q := 122) rfl ?_
      intro T h46 _ X N eT W A_a41'
      have A_a32 := A_a32.other W ne_a32_a41
      have sz : n0 ≤ h46.size := by rw [W.size]; exact sz
      have A_a41 := A_a41'
      refine s_dup X hx (hb hby at_122) rfl (q := 123) rfl ?_
      refine s_iconst X hx (z := (4 : Int32)) (hb hby at_123) rfl (q := 124) rfl ?_
      refine s_aload X hx (hb hby at_124) rfl rfl (q := 126) rfl ?_
      refine s_iconst X hx (z := (4 : Int32)) (hb hby at_126) rfl (q := 127) rfl ?_
      refine s_laload X hx hZ eT A_a32 (by decide) (i := 4) rfl (x := x4) rfl (hb hby at_127) (q := 128) rfl ?_
      refine s_lastore X hx hZ eT A_a41 N g_a41 (by decide) (i := 4) rfl (Nat.le_of_ble_eq_true rfl) (vs := [x0, x1, x4, x4, x4]) rfl (hb hby at_128) (q := 129) rfl ?_
      intro T h47 _ X N eT W A_a41'
      have A_a32 := A_a32.other W ne_a32_a41
      have sz : n0 ≤ h47.size := by rw [W.size]; exact sz
      have A_a41 := A_a41'
      refine s_astore X hx (hb hby at_129) rfl (L' := #[.val (.long x0), .second, .val (.long x1), .second, .val (.long x2), .second, .val (.long x3), .second, .val (.long x4), .second, .val (.int x5), .val (.int (0 : Int32)), .val (.int (2 : Int32)), .val (.int (2 : Int32)), .val (.ref a32), .val (.ref a41), .unset, .unset]) rfl (q := 131) rfl ?_
      refine s_aload X hx (hb hby at_131) rfl rfl (q := 133) rfl ?_
      refine s_iload X hx (hb hby at_133) rfl (q := 135) rfl ?_
      refine s_iload X hx (hb hby at_135) rfl (q := 137) rfl ?_
      refine s_lload X hx (hb hby at_137) rfl (q := 139) rfl ?_
      refine callC X hx hZ hown (W := 0) (argsL := [(.ref a32), (.int (0 : Int32)), (.int (2 : Int32)), (.long x3)]) (rest := []) (hw _ (List.mem_of_getElem? (i := 1) rfl)) (hw _ (List.mem_of_getElem? (i := 2) rfl)) (hw _ (List.mem_of_getElem? (i := 3) rfl)) (hw _ (List.mem_of_getElem? (i := 4) rfl)) (by decide) (rm1_02 l Z a0 hw [] a32 x3 x0 x1 x4 x4 x4 h47 n0 sz A_a32 g_a32) eT (by decide) (by decide) (by decide) (by decide) (by rw [hml]; rfl) pd0 rfl rfl (Nat.le_of_ble_eq_true rfl) (hb hby at_139) (q := 142) rfl ?_
      intro v T Lc hQ X
      obtain ⟨h48, eT⟩ : ∃ z, T.heap = z := ⟨_, rfl⟩
      try rw [eT] at hQ
      obtain ⟨rfl, N', K', A_a32'⟩ := hQ
      have N := Fr.app N N'
      have A_a41 := A_a41.keep K' (ninS (Ne.symm ne_a32_a41) nin0)
      have sz : n0 ≤ h48.size := Nat.le_trans sz K'.1
      have A_a32 := A_a32'
      refine s_lload X hx (hb hby at_142) rfl (q := 144) rfl ?_
      refine s_ldc2 X hx hZ hown (hw _ (List.mem_of_getElem? (i := 5) rfl)) (hb hby at_144) (q := 147) rfl ?_
      refine s_lxor X hx (hb hby at_147) (q := 148) rfl ?_
      refine s_lstore X hx (hb hby at_148) (L' := #[.val (.long x0), .second, .val (.long x1), .second, .val (.long x2), .second, .val (.long x3), .second, .val (.long x4), .second, .val (.int x5), .val (.int (0 : Int32)), .val (.int (2 : Int32)), .val (.int (2 : Int32)), .val (.ref a32), .val (.ref a41), .val (.long (x3 ^^^ (-9223372036854775808 : Int64))), .second]) rfl (q := 150) rfl ?_
      refine s_iload X hx (hb hby at_150) rfl (q := 152) rfl ?_
      refine s_iconst X hx (z := (2 : Int32)) (hb hby at_152) rfl (q := 153) rfl ?_
      refine f_icmp_lt X hx (hb hby at_153) (q1 := 169) (by decide) (by decide) (q := 156) rfl (fun hq => absurd hq (by decide : ¬ (2 : Int32) < (2 : Int32))) (fun _ => ?_)
      refine s_aload X hx (hb hby at_156) rfl rfl (q := 158) rfl ?_
      refine s_iload X hx (hb hby at_158) rfl (q := 160) rfl ?_
      refine s_iload X hx (hb hby at_160) rfl (q := 162) rfl ?_
      refine s_iconst X hx (z := (1 : Int32)) (hb hby at_162) rfl (q := 163) rfl ?_
      refine s_iadd X hx (hb hby at_163) (q := 164) rfl ?_
      show Go p e below _ T m 164 #[.val (.long x0), .second, .val (.long x1), .second, .val (.long x2), .second, .val (.long x3), .second, .val (.long x4), .second, .val (.int x5), .val (.int (0 : Int32)), .val (.int (2 : Int32)), .val (.int (2 : Int32)), .val (.ref a32), .val (.ref a41), .val (.long (x3 ^^^ (-9223372036854775808 : Int64))), .second] [(.int (1 : Int32)), (.int (0 : Int32)), (.ref a41)]
      refine s_lload X hx (hb hby at_164) rfl (q := 166) rfl ?_
      refine callC X hx hZ hown (W := 0) (argsL := [(.ref a41), (.int (0 : Int32)), (.int (1 : Int32)), (.long (x3 ^^^ (-9223372036854775808 : Int64)))]) (rest := []) (hw _ (List.mem_of_getElem? (i := 7) rfl)) (hw _ (List.mem_of_getElem? (i := 8) rfl)) (hw _ (List.mem_of_getElem? (i := 9) rfl)) (hw _ (List.mem_of_getElem? (i := 10) rfl)) (by decide) (rm2_01 l Z a0 hw [] a41 (x3 ^^^ (-9223372036854775808 : Int64)) [x0, x1, x4, x4, x4] h48 n0 sz A_a41 g_a41 (by first | rfl | (simp only [own_csl]; rfl))) eT (by decide) (by decide) (by decide) (by decide) (by rw [hml]; rfl) pd0 rfl rfl (Nat.le_of_ble_eq_true rfl) (hb hby at_166) (q := 169) rfl ?_
      intro v T Lc hQ X
      obtain ⟨h49, eT⟩ : ∃ z, T.heap = z := ⟨_, rfl⟩
      try rw [eT] at hQ
      obtain ⟨rfl, N', K', A_a41'⟩ := hQ
      have N := Fr.app N N'
      have A_a32 := A_a32.keep K' (ninS ne_a32_a41 nin0)
      have sz : n0 ≤ h49.size := Nat.le_trans sz K'.1
      have A_a41 := A_a41'
      refine s_iload X hx (hb hby at_169) rfl (q := 171) rfl ?_
      refine s_iconst X hx (z := (3 : Int32)) (hb hby at_171) rfl (q := 172) rfl ?_
      refine f_icmp_ne X hx (hb hby at_172) (q1 := 203) (by decide) (by decide) (q := 175) rfl (fun _ => ?_) (fun hq => absurd hq (by decide : ¬ (2 : Int32) = (3 : Int32)))
      rw [own_srt02] at A_a32
      refine s_aload X hx (hb hby at_203) rfl rfl (q := 205) rfl ?_
      refine s_iconst X hx (z := (0 : Int32)) (hb hby at_205) rfl (q := 206) rfl ?_
      refine s_laload X hx hZ eT A_a32 (by decide) (i := 0) rfl (x := (((CSF 0 1 (x3 ^^^ (-9223372036854775808 : Int64)) [x0, x1, x4, x4, x4])).getD 0 0)) (own_get _ (by first | exact Nat.le_of_ble_eq_true rfl | (simp only [own_csl]; exact Nat.le_of_ble_eq_true rfl))) (hb hby at_206) (q := 207) rfl ?_
      refine s_aload X hx (hb hby at_207) rfl rfl (q := 209) rfl ?_
      refine s_iconst X hx (z := (0 : Int32)) (hb hby at_209) rfl (q := 210) rfl ?_
      refine s_laload X hx hZ eT A_a41 (by decide) (i := 0) rfl (x := (((CSF 0 1 (x3 ^^^ (-9223372036854775808 : Int64)) [x0, x1, x4, x4, x4])).getD 0 0)) (own_get _ (by first | exact Nat.le_of_ble_eq_true rfl | (simp only [own_csl]; exact Nat.le_of_ble_eq_true rfl))) (hb hby at_210) (q := 211) rfl ?_
      refine s_lcmp X hx (hb hby at_211) (q := 212) rfl ?_
      refine f_lcmp_ne X hx (hb hby at_212) (q1 := 267) (by decide) (by decide) (q := 215) rfl (fun hq => absurd (rfl : (((CSF 0 1 (x3 ^^^ (-9223372036854775808 : Int64)) [x0, x1, x4, x4, x4])).getD 0 0) = (((CSF 0 1 (x3 ^^^ (-9223372036854775808 : Int64)) [x0, x1, x4, x4, x4])).getD 0 0)) hq) (fun _ => ?_)
      refine s_aload X hx (hb hby at_215) rfl rfl (q := 217) rfl ?_
      refine s_iconst X hx (z := (1 : Int32)) (hb hby at_217) rfl (q := 218) rfl ?_
      refine s_laload X hx hZ eT A_a32 (by decide) (i := 1) rfl (x := (((CSF 0 1 (x3 ^^^ (-9223372036854775808 : Int64)) [x0, x1, x4, x4, x4])).getD 1 0)) (own_get _ (by first | exact Nat.le_of_ble_eq_true rfl | (simp only [own_csl]; exact Nat.le_of_ble_eq_true rfl))) (hb hby at_218) (q := 219) rfl ?_
      refine s_aload X hx (hb hby at_219) rfl rfl (q := 221) rfl ?_
      refine s_iconst X hx (z := (1 : Int32)) (hb hby at_221) rfl (q := 222) rfl ?_
      refine s_laload X hx hZ eT A_a41 (by decide) (i := 1) rfl (x := (((CSF 0 1 (x3 ^^^ (-9223372036854775808 : Int64)) [x0, x1, x4, x4, x4])).getD 1 0)) (own_get _ (by first | exact Nat.le_of_ble_eq_true rfl | (simp only [own_csl]; exact Nat.le_of_ble_eq_true rfl))) (hb hby at_222) (q := 223) rfl ?_
      refine s_lcmp X hx (hb hby at_223) (q := 224) rfl ?_
      refine f_lcmp_ne X hx (hb hby at_224) (q1 := 267) (by decide) (by decide) (q := 227) rfl (fun hq => absurd (rfl : (((CSF 0 1 (x3 ^^^ (-9223372036854775808 : Int64)) [x0, x1, x4, x4, x4])).getD 1 0) = (((CSF 0 1 (x3 ^^^ (-9223372036854775808 : Int64)) [x0, x1, x4, x4, x4])).getD 1 0)) hq) (fun _ => ?_)
      refine s_aload X hx (hb hby at_227) rfl rfl (q := 229) rfl ?_
      refine s_iconst X hx (z := (2 : Int32)) (hb hby at_229) rfl (q := 230) rfl ?_
      refine s_laload X hx hZ eT A_a32 (by decide) (i := 2) rfl (x := (((CSF 0 1 (x3 ^^^ (-9223372036854775808 : Int64)) [x0, x1, x4, x4, x4])).getD 2 0)) (own_get _ (by first | exact Nat.le_of_ble_eq_true rfl | (simp only [own_csl]; exact Nat.le_of_ble_eq_true rfl))) (hb hby at_230) (q := 231) rfl ?_
      refine s_aload X hx (hb hby at_231) rfl rfl (q := 233) rfl ?_
      refine s_iconst X hx (z := (2 : Int32)) (hb hby at_233) rfl (q := 234) rfl ?_
      refine s_laload X hx hZ eT A_a41 (by decide) (i := 2) rfl (x := (((CSF 0 1 (x3 ^^^ (-9223372036854775808 : Int64)) [x0, x1, x4, x4, x4])).getD 2 0)) (own_get _ (by first | exact Nat.le_of_ble_eq_true rfl | (simp only [own_csl]; exact Nat.le_of_ble_eq_true rfl))) (hb hby at_234) (q := 235) rfl ?_
      refine s_lcmp X hx (hb hby at_235) (q := 236) rfl ?_
      refine f_lcmp_ne X hx (hb hby at_236) (q1 := 267) (by decide) (by decide) (q := 239) rfl (fun hq => absurd (rfl : (((CSF 0 1 (x3 ^^^ (-9223372036854775808 : Int64)) [x0, x1, x4, x4, x4])).getD 2 0) = (((CSF 0 1 (x3 ^^^ (-9223372036854775808 : Int64)) [x0, x1, x4, x4, x4])).getD 2 0)) hq) (fun _ => ?_)
      refine s_aload X hx (hb hby at_239) rfl rfl (q := 241) rfl ?_
      refine s_iconst X hx (z := (3 : Int32)) (hb hby at_241) rfl (q := 242) rfl ?_
      refine s_laload X hx hZ eT A_a32 (by decide) (i := 3) rfl (x := (((CSF 0 1 (x3 ^^^ (-9223372036854775808 : Int64)) [x0, x1, x4, x4, x4])).getD 3 0)) (own_get _ (by first | exact Nat.le_of_ble_eq_true rfl | (simp only [own_csl]; exact Nat.le_of_ble_eq_true rfl))) (hb hby at_242) (q := 243) rfl ?_
      refine s_aload X hx (hb hby at_243) rfl rfl (q := 245) rfl ?_
      refine s_iconst X hx (z := (3 : Int32)) (hb hby at_245) rfl (q := 246) rfl ?_
      refine s_laload X hx hZ eT A_a41 (by decide) (i := 3) rfl (x := (((CSF 0 1 (x3 ^^^ (-9223372036854775808 : Int64)) [x0, x1, x4, x4, x4])).getD 3 0)) (own_get _ (by first | exact Nat.le_of_ble_eq_true rfl | (simp only [own_csl]; exact Nat.le_of_ble_eq_true rfl))) (hb hby at_246) (q := 247) rfl ?_
      refine s_lcmp X hx (hb hby at_247) (q := 248) rfl ?_
      refine f_lcmp_ne X hx (hb hby at_248) (q1 := 267) (by decide) (by decide) (q := 251) rfl (fun hq => absurd (rfl : (((CSF 0 1 (x3 ^^^ (-9223372036854775808 : Int64)) [x0, x1, x4, x4, x4])).getD 3 0) = (((CSF 0 1 (x3 ^^^ (-9223372036854775808 : Int64)) [x0, x1, x4, x4, x4])).getD 3 0)) hq) (fun _ => ?_)
      refine s_aload X hx (hb hby at_251) rfl rfl (q := 253) rfl ?_
      refine s_iconst X hx (z := (4 : Int32)) (hb hby at_253) rfl (q := 254) rfl ?_
      refine s_laload X hx hZ eT A_a32 (by decide) (i := 4) rfl (x := (((CSF 0 1 (x3 ^^^ (-9223372036854775808 : Int64)) [x0, x1, x4, x4, x4])).getD 4 0)) (own_get _ (by first | exact Nat.le_of_ble_eq_true rfl | (simp only [own_csl]; exact Nat.le_of_ble_eq_true rfl))) (hb hby at_254) (q := 255) rfl ?_
      refine s_aload X hx (hb hby at_255) rfl rfl (q := 257) rfl ?_
      refine s_iconst X hx (z := (4 : Int32)) (hb hby at_257) rfl (q := 258) rfl ?_
      refine s_laload X hx hZ eT A_a41 (by decide) (i := 4) rfl (x := (((CSF 0 1 (x3 ^^^ (-9223372036854775808 : Int64)) [x0, x1, x4, x4, x4])).getD 4 0)) (own_get _ (by first | exact Nat.le_of_ble_eq_true rfl | (simp only [own_csl]; exact Nat.le_of_ble_eq_true rfl))) (hb hby at_258) (q := 259) rfl ?_
      refine s_lcmp X hx (hb hby at_259) (q := 260) rfl ?_
      refine f_lcmp_ne X hx (hb hby at_260) (q1 := 267) (by decide) (by decide) (q := 263) rfl (fun hq => absurd (rfl : (((CSF 0 1 (x3 ^^^ (-9223372036854775808 : Int64)) [x0, x1, x4, x4, x4])).getD 4 0) = (((CSF 0 1 (x3 ^^^ (-9223372036854775808 : Int64)) [x0, x1, x4, x4, x4])).getD 4 0)) hq) (fun _ => ?_)
      refine s_iconst X hx (z := (1 : Int32)) (hb hby at_263) rfl (q := 264) rfl ?_
      refine s_goto X hx (hb hby at_264) (q1 := 268) (by decide) (by decide) ?_
      exact leafN X hx hlk hret (by simp) (hb hby at_268) (by decide) (by decide) (z' := 1) rfl ⟨rfl, N⟩
    · subst hcase
      refine s_iload X hx (hb hby at_14) rfl (q := 16) rfl ?_
      refine s_iload X hx (hb hby at_16) rfl (q := 18) rfl ?_
      refine s_iadd X hx (hb hby at_18) (q := 19) rfl ?_
      show Go p e below _ T m 19 #[.val (.long x0), .second, .val (.long x1), .second, .val (.long x2), .second, .val (.long x3), .second, .val (.long x4), .second, .val (.int x5), .val (.int (0 : Int32)), .val (.int (3 : Int32)), .unset, .unset, .unset, .unset, .unset] [(.int (3 : Int32))]
      refine s_istore X hx (hb hby at_19) (L' := #[.val (.long x0), .second, .val (.long x1), .second, .val (.long x2), .second, .val (.long x3), .second, .val (.long x4), .second, .val (.int x5), .val (.int (0 : Int32)), .val (.int (3 : Int32)), .val (.int (3 : Int32)), .unset, .unset, .unset, .unset]) rfl (q := 21) rfl ?_
      refine s_iconst X hx (z := (5 : Int32)) (hb hby at_21) rfl (q := 22) rfl ?_
      refine s_newJ X hx hZ (hw _ (List.mem_of_getElem? (i := 0) rfl)) eT (by decide) (cap := 5) (by decide) (by decide) (by decide) (by decide) (vs := [0, 0, 0, 0, 0]) rfl (hb hby at_22) (q := 24) rfl ?_
      intro T h51 a50 X eT E ea A_a50
      have g_a50 : n0 ≤ a50 := by rw [ea]; exact sz
      have sz : n0 ≤ h51.size := Nat.le_trans sz E.1
      refine s_dup X hx (hb hby at_24) rfl (q := 25) rfl ?_
      refine s_iconst X hx (z := (0 : Int32)) (hb hby at_25) rfl (q := 26) rfl ?_
      refine s_lload X hx (hb hby at_26) rfl (q := 28) rfl ?_
      refine s_lastore X hx hZ eT A_a50 N g_a50 (by decide) (i := 0) rfl (Nat.le_of_ble_eq_true rfl) (vs := [x4, 0, 0, 0, 0]) rfl (hb hby at_28) (q := 29) rfl ?_
      intro T h52 _ X N eT W A_a50'
      have sz : n0 ≤ h52.size := by rw [W.size]; exact sz
      have A_a50 := A_a50'
      refine s_dup X hx (hb hby at_29) rfl (q := 30) rfl ?_
      refine s_iconst X hx (z := (1 : Int32)) (hb hby at_30) rfl (q := 31) rfl ?_
      refine s_lload X hx (hb hby at_31) rfl (q := 33) rfl ?_
      refine s_lastore X hx hZ eT A_a50 N g_a50 (by decide) (i := 1) rfl (Nat.le_of_ble_eq_true rfl) (vs := [x4, x4, 0, 0, 0]) rfl (hb hby at_33) (q := 34) rfl ?_
      intro T h53 _ X N eT W A_a50'
      have sz : n0 ≤ h53.size := by rw [W.size]; exact sz
      have A_a50 := A_a50'
      refine s_dup X hx (hb hby at_34) rfl (q := 35) rfl ?_
      refine s_iconst X hx (z := (2 : Int32)) (hb hby at_35) rfl (q := 36) rfl ?_
      refine s_lload X hx (hb hby at_36) rfl (q := 38) rfl ?_
      refine s_lastore X hx hZ eT A_a50 N g_a50 (by decide) (i := 2) rfl (Nat.le_of_ble_eq_true rfl) (vs := [x4, x4, x4, 0, 0]) rfl (hb hby at_38) (q := 39) rfl ?_
      intro T h54 _ X N eT W A_a50'
      have sz : n0 ≤ h54.size := by rw [W.size]; exact sz
      have A_a50 := A_a50'
      refine s_dup X hx (hb hby at_39) rfl (q := 40) rfl ?_
      refine s_iconst X hx (z := (3 : Int32)) (hb hby at_40) rfl (q := 41) rfl ?_
      refine s_lload X hx (hb hby at_41) rfl (q := 43) rfl ?_
      refine s_lastore X hx hZ eT A_a50 N g_a50 (by decide) (i := 3) rfl (Nat.le_of_ble_eq_true rfl) (vs := [x4, x4, x4, x4, 0]) rfl (hb hby at_43) (q := 44) rfl ?_
      intro T h55 _ X N eT W A_a50'
      have sz : n0 ≤ h55.size := by rw [W.size]; exact sz
      have A_a50 := A_a50'
      refine s_dup X hx (hb hby at_44) rfl (q := 45) rfl ?_
      refine s_iconst X hx (z := (4 : Int32)) (hb hby at_45) rfl (q := 46) rfl ?_
      refine s_lload X hx (hb hby at_46) rfl (q := 48) rfl ?_
      refine s_lastore X hx hZ eT A_a50 N g_a50 (by decide) (i := 4) rfl (Nat.le_of_ble_eq_true rfl) (vs := [x4, x4, x4, x4, x4]) rfl (hb hby at_48) (q := 49) rfl ?_
      intro T h56 _ X N eT W A_a50'
      have sz : n0 ≤ h56.size := by rw [W.size]; exact sz
      have A_a50 := A_a50'
      refine s_astore X hx (hb hby at_49) rfl (L' := #[.val (.long x0), .second, .val (.long x1), .second, .val (.long x2), .second, .val (.long x3), .second, .val (.long x4), .second, .val (.int x5), .val (.int (0 : Int32)), .val (.int (3 : Int32)), .val (.int (3 : Int32)), .val (.ref a50), .unset, .unset, .unset]) rfl (q := 51) rfl ?_
      refine s_iload X hx (hb hby at_51) rfl (q := 53) rfl ?_
      refine f_if_le X hx (hb hby at_53) (q1 := 62) (by decide) (by decide) (q := 56) rfl (fun hq => absurd (by decide : 0 < (3 : Int32)) hq) (fun _ => ?_)
      refine s_aload X hx (hb hby at_56) rfl rfl (q := 58) rfl ?_
      refine s_iload X hx (hb hby at_58) rfl (q := 60) rfl ?_
      refine s_lloadN X hx (hb hby at_60) rfl (q := 61) rfl ?_
      refine s_lastore X hx hZ eT A_a50 N g_a50 (by decide) (i := 0) rfl (Nat.le_of_ble_eq_true rfl) (vs := [x0, x4, x4, x4, x4]) rfl (hb hby at_61) (q := 62) rfl ?_
      intro T h57 _ X N eT W A_a50'
      have sz : n0 ≤ h57.size := by rw [W.size]; exact sz
      have A_a50 := A_a50'
      refine s_iload X hx (hb hby at_62) rfl (q := 64) rfl ?_
      refine s_iconst X hx (z := (1 : Int32)) (hb hby at_64) rfl (q := 65) rfl ?_
      refine f_icmp_le X hx (hb hby at_65) (q1 := 76) (by decide) (by decide) (q := 68) rfl (fun hq => absurd (by decide : (1 : Int32) < (3 : Int32)) hq) (fun _ => ?_)
      refine s_aload X hx (hb hby at_68) rfl rfl (q := 70) rfl ?_
      refine s_iload X hx (hb hby at_70) rfl (q := 72) rfl ?_
      refine s_iconst X hx (z := (1 : Int32)) (hb hby at_72) rfl (q := 73) rfl ?_
      refine s_iadd X hx (hb hby at_73) (q := 74) rfl ?_
      show Go p e below _ T m 74 #[.val (.long x0), .second, .val (.long x1), .second, .val (.long x2), .second, .val (.long x3), .second, .val (.long x4), .second, .val (.int x5), .val (.int (0 : Int32)), .val (.int (3 : Int32)), .val (.int (3 : Int32)), .val (.ref a50), .unset, .unset, .unset] [(.int (1 : Int32)), (.ref a50)]
      refine s_lloadN X hx (hb hby at_74) rfl (q := 75) rfl ?_
      refine s_lastore X hx hZ eT A_a50 N g_a50 (by decide) (i := 1) rfl (Nat.le_of_ble_eq_true rfl) (vs := [x0, x1, x4, x4, x4]) rfl (hb hby at_75) (q := 76) rfl ?_
      intro T h58 _ X N eT W A_a50'
      have sz : n0 ≤ h58.size := by rw [W.size]; exact sz
      have A_a50 := A_a50'
      refine s_iload X hx (hb hby at_76) rfl (q := 78) rfl ?_
      refine s_iconst X hx (z := (2 : Int32)) (hb hby at_78) rfl (q := 79) rfl ?_
      refine f_icmp_le X hx (hb hby at_79) (q1 := 91) (by decide) (by decide) (q := 82) rfl (fun hq => absurd (by decide : (2 : Int32) < (3 : Int32)) hq) (fun _ => ?_)
      refine s_aload X hx (hb hby at_82) rfl rfl (q := 84) rfl ?_
      refine s_iload X hx (hb hby at_84) rfl (q := 86) rfl ?_
      refine s_iconst X hx (z := (2 : Int32)) (hb hby at_86) rfl (q := 87) rfl ?_
      refine s_iadd X hx (hb hby at_87) (q := 88) rfl ?_
      show Go p e below _ T m 88 #[.val (.long x0), .second, .val (.long x1), .second, .val (.long x2), .second, .val (.long x3), .second, .val (.long x4), .second, .val (.int x5), .val (.int (0 : Int32)), .val (.int (3 : Int32)), .val (.int (3 : Int32)), .val (.ref a50), .unset, .unset, .unset] [(.int (2 : Int32)), (.ref a50)]
      refine s_lload X hx (hb hby at_88) rfl (q := 90) rfl ?_
      refine s_lastore X hx hZ eT A_a50 N g_a50 (by decide) (i := 2) rfl (Nat.le_of_ble_eq_true rfl) (vs := [x0, x1, x2, x4, x4]) rfl (hb hby at_90) (q := 91) rfl ?_
      intro T h59 _ X N eT W A_a50'
      have sz : n0 ≤ h59.size := by rw [W.size]; exact sz
      have A_a50 := A_a50'
      refine s_iconst X hx (z := (5 : Int32)) (hb hby at_91) rfl (q := 92) rfl ?_
      refine s_newJ X hx hZ (hw _ (List.mem_of_getElem? (i := 0) rfl)) eT (by decide) (cap := 5) (by decide) (by decide) (by decide) (by decide) (vs := [0, 0, 0, 0, 0]) rfl (hb hby at_92) (q := 94) rfl ?_
      intro T h61 a60 X eT E ea A_a60
      have ne_a50_a60 : a50 ≠ a60 := by rw [ea]; exact Nat.ne_of_lt A_a50.lt
      have A_a50 := A_a50.ext E
      have g_a60 : n0 ≤ a60 := by rw [ea]; exact sz
      have sz : n0 ≤ h61.size := Nat.le_trans sz E.1
      refine s_dup X hx (hb hby at_94) rfl (q := 95) rfl ?_
      refine s_iconst X hx (z := (0 : Int32)) (hb hby at_95) rfl (q := 96) rfl ?_
      refine s_aload X hx (hb hby at_96) rfl rfl (q := 98) rfl ?_
      refine s_iconst X hx (z := (0 : Int32)) (hb hby at_98) rfl (q := 99) rfl ?_
      refine s_laload X hx hZ eT A_a50 (by decide) (i := 0) rfl (x := x0) rfl (hb hby at_99) (q := 100) rfl ?_
      refine s_lastore X hx hZ eT A_a60 N g_a60 (by decide) (i := 0) rfl (Nat.le_of_ble_eq_true rfl) (vs := [x0, 0, 0, 0, 0]) rfl (hb hby at_100) (q := 101) rfl ?_
      intro T h62 _ X N eT W A_a60'
      have A_a50 := A_a50.other W ne_a50_a60
      have sz : n0 ≤ h62.size := by rw [W.size]; exact sz
      have A_a60 := A_a60'
      refine s_dup X hx (hb hby at_101) rfl (q := 102) rfl ?_
      refine s_iconst X hx (z := (1 : Int32)) (hb hby at_102) rfl (q := 103) rfl ?_
      refine s_aload X hx (hb hby at_103) rfl rfl (q := 105) rfl ?_
      refine s_iconst X hx (z := (1 : Int32)) (hb hby at_105) rfl (q := 106) rfl ?_
      refine s_laload X hx hZ eT A_a50 (by decide) (i := 1) rfl (x := x1) rfl (hb hby at_106) (q := 107) rfl ?_
      refine s_lastore X hx hZ eT A_a60 N g_a60 (by decide) (i := 1) rfl (Nat.le_of_ble_eq_true rfl) (vs := [x0, x1, 0, 0, 0]) rfl (hb hby at_107) (q := 108) rfl ?_
      intro T h63 _ X N eT W A_a60'
      have A_a50 := A_a50.other W ne_a50_a60
      have sz : n0 ≤ h63.size := by rw [W.size]; exact sz
      have A_a60 := A_a60'
      refine s_dup X hx (hb hby at_108) rfl (q := 109) rfl ?_
      refine s_iconst X hx (z := (2 : Int32)) (hb hby at_109) rfl (q := 110) rfl ?_
      refine s_aload X hx (hb hby at_110) rfl rfl (q := 112) rfl ?_
      refine s_iconst X hx (z := (2 : Int32)) (hb hby at_112) rfl (q := 113) rfl ?_
      refine s_laload X hx hZ eT A_a50 (by decide) (i := 2) rfl (x := x2) rfl (hb hby at_113) (q := 114) rfl ?_
      refine s_lastore X hx hZ eT A_a60 N g_a60 (by decide) (i := 2) rfl (Nat.le_of_ble_eq_true rfl) (vs := [x0, x1, x2, 0, 0]) rfl (hb hby at_114) (q := 115) rfl ?_
      intro T h64 _ X N eT W A_a60'
      have A_a50 := A_a50.other W ne_a50_a60
      have sz : n0 ≤ h64.size := by rw [W.size]; exact sz
      have A_a60 := A_a60'
      refine s_dup X hx (hb hby at_115) rfl (q := 116) rfl ?_
      refine s_iconst X hx (z := (3 : Int32)) (hb hby at_116) rfl (q := 117) rfl ?_
      refine s_aload X hx (hb hby at_117) rfl rfl (q := 119) rfl ?_
      refine s_iconst X hx (z := (3 : Int32)) (hb hby at_119) rfl (q := 120) rfl ?_
      refine s_laload X hx hZ eT A_a50 (by decide) (i := 3) rfl (x := x4) rfl (hb hby at_120) (q := 121) rfl ?_
      refine s_lastore X hx hZ eT A_a60 N g_a60 (by decide) (i := 3) rfl (Nat.le_of_ble_eq_true rfl) (vs := [x0, x1, x2, x4, 0]) rfl (hb hby at_121) (q := 122) rfl ?_
      intro T h65 _ X N eT W A_a60'
      have A_a50 := A_a50.other W ne_a50_a60
      have sz : n0 ≤ h65.size := by rw [W.size]; exact sz
      have A_a60 := A_a60'
      refine s_dup X hx (hb hby at_122) rfl (q := 123) rfl ?_
      refine s_iconst X hx (z := (4 : Int32)) (hb hby at_123) rfl (q := 124) rfl ?_
      refine s_aload X hx (hb hby at_124) rfl rfl (q := 126) rfl ?_
      refine s_iconst X hx (z := (4 : Int32)) (hb hby at_126) rfl (q := 127) rfl ?_
      refine s_laload X hx hZ eT A_a50 (by decide) (i := 4) rfl (x := x4) rfl (hb hby at_127) (q := 128) rfl ?_
      refine s_lastore X hx hZ eT A_a60 N g_a60 (by decide) (i := 4) rfl (Nat.le_of_ble_eq_true rfl) (vs := [x0, x1, x2, x4, x4]) rfl (hb hby at_128) (q := 129) rfl ?_
      intro T h66 _ X N eT W A_a60'
      have A_a50 := A_a50.other W ne_a50_a60
      have sz : n0 ≤ h66.size := by rw [W.size]; exact sz
      have A_a60 := A_a60'
      refine s_astore X hx (hb hby at_129) rfl (L' := #[.val (.long x0), .second, .val (.long x1), .second, .val (.long x2), .second, .val (.long x3), .second, .val (.long x4), .second, .val (.int x5), .val (.int (0 : Int32)), .val (.int (3 : Int32)), .val (.int (3 : Int32)), .val (.ref a50), .val (.ref a60), .unset, .unset]) rfl (q := 131) rfl ?_
      refine s_aload X hx (hb hby at_131) rfl rfl (q := 133) rfl ?_
      refine s_iload X hx (hb hby at_133) rfl (q := 135) rfl ?_
      refine s_iload X hx (hb hby at_135) rfl (q := 137) rfl ?_
      refine s_lload X hx (hb hby at_137) rfl (q := 139) rfl ?_
      refine callC X hx hZ hown (W := 0) (argsL := [(.ref a50), (.int (0 : Int32)), (.int (3 : Int32)), (.long x3)]) (rest := []) (hw _ (List.mem_of_getElem? (i := 1) rfl)) (hw _ (List.mem_of_getElem? (i := 2) rfl)) (hw _ (List.mem_of_getElem? (i := 3) rfl)) (hw _ (List.mem_of_getElem? (i := 4) rfl)) (by decide) (rm1_03 l Z a0 hw [] a50 x3 x0 x1 x2 x4 x4 h66 n0 sz A_a50 g_a50) eT (by decide) (by decide) (by decide) (by decide) (by rw [hml]; rfl) pd0 rfl rfl (Nat.le_of_ble_eq_true rfl) (hb hby at_139) (q := 142) rfl ?_
      intro v T Lc hQ X
      obtain ⟨h67, eT⟩ : ∃ z, T.heap = z := ⟨_, rfl⟩
      try rw [eT] at hQ
      obtain ⟨rfl, N', K', A_a50'⟩ := hQ
      have N := Fr.app N N'
      have A_a60 := A_a60.keep K' (ninS (Ne.symm ne_a50_a60) nin0)
      have sz : n0 ≤ h67.size := Nat.le_trans sz K'.1
      have A_a50 := A_a50'
      refine s_lload X hx (hb hby at_142) rfl (q := 144) rfl ?_
      refine s_ldc2 X hx hZ hown (hw _ (List.mem_of_getElem? (i := 5) rfl)) (hb hby at_144) (q := 147) rfl ?_
      refine s_lxor X hx (hb hby at_147) (q := 148) rfl ?_
      refine s_lstore X hx (hb hby at_148) (L' := #[.val (.long x0), .second, .val (.long x1), .second, .val (.long x2), .second, .val (.long x3), .second, .val (.long x4), .second, .val (.int x5), .val (.int (0 : Int32)), .val (.int (3 : Int32)), .val (.int (3 : Int32)), .val (.ref a50), .val (.ref a60), .val (.long (x3 ^^^ (-9223372036854775808 : Int64))), .second]) rfl (q := 150) rfl ?_
      refine s_iload X hx (hb hby at_150) rfl (q := 152) rfl ?_
      refine s_iconst X hx (z := (2 : Int32)) (hb hby at_152) rfl (q := 153) rfl ?_
      refine f_icmp_lt X hx (hb hby at_153) (q1 := 169) (by decide) (by decide) (q := 156) rfl (fun hq => absurd hq (by decide : ¬ (3 : Int32) < (2 : Int32))) (fun _ => ?_)
      refine s_aload X hx (hb hby at_156) rfl rfl (q := 158) rfl ?_
      refine s_iload X hx (hb hby at_158) rfl (q := 160) rfl ?_
      refine s_iload X hx (hb hby at_160) rfl (q := 162) rfl ?_
      refine s_iconst X hx (z := (1 : Int32)) (hb hby at_162) rfl (q := 163) rfl ?_
      refine s_iadd X hx (hb hby at_163) (q := 164) rfl ?_
      show Go p e below _ T m 164 #[.val (.long x0), .second, .val (.long x1), .second, .val (.long x2), .second, .val (.long x3), .second, .val (.long x4), .second, .val (.int x5), .val (.int (0 : Int32)), .val (.int (3 : Int32)), .val (.int (3 : Int32)), .val (.ref a50), .val (.ref a60), .val (.long (x3 ^^^ (-9223372036854775808 : Int64))), .second] [(.int (1 : Int32)), (.int (0 : Int32)), (.ref a60)]
      refine s_lload X hx (hb hby at_164) rfl (q := 166) rfl ?_
      refine callC X hx hZ hown (W := 0) (argsL := [(.ref a60), (.int (0 : Int32)), (.int (1 : Int32)), (.long (x3 ^^^ (-9223372036854775808 : Int64)))]) (rest := []) (hw _ (List.mem_of_getElem? (i := 7) rfl)) (hw _ (List.mem_of_getElem? (i := 8) rfl)) (hw _ (List.mem_of_getElem? (i := 9) rfl)) (hw _ (List.mem_of_getElem? (i := 10) rfl)) (by decide) (rm2_01 l Z a0 hw [] a60 (x3 ^^^ (-9223372036854775808 : Int64)) [x0, x1, x2, x4, x4] h67 n0 sz A_a60 g_a60 (by first | rfl | (simp only [own_csl]; rfl))) eT (by decide) (by decide) (by decide) (by decide) (by rw [hml]; rfl) pd0 rfl rfl (Nat.le_of_ble_eq_true rfl) (hb hby at_166) (q := 169) rfl ?_
      intro v T Lc hQ X
      obtain ⟨h68, eT⟩ : ∃ z, T.heap = z := ⟨_, rfl⟩
      try rw [eT] at hQ
      obtain ⟨rfl, N', K', A_a60'⟩ := hQ
      have N := Fr.app N N'
      have A_a50 := A_a50.keep K' (ninS ne_a50_a60 nin0)
      have sz : n0 ≤ h68.size := Nat.le_trans sz K'.1
      have A_a60 := A_a60'
      refine s_iload X hx (hb hby at_169) rfl (q := 171) rfl ?_
      refine s_iconst X hx (z := (3 : Int32)) (hb hby at_171) rfl (q := 172) rfl ?_
      refine f_icmp_ne X hx (hb hby at_172) (q1 := 203) (by decide) (by decide) (q := 175) rfl (fun hq => absurd (by decide : (3 : Int32) = (3 : Int32)) hq) (fun _ => ?_)
      refine s_aload X hx (hb hby at_175) rfl rfl (q := 177) rfl ?_
      refine s_iload X hx (hb hby at_177) rfl (q := 179) rfl ?_
      refine s_iconst X hx (z := (1 : Int32)) (hb hby at_179) rfl (q := 180) rfl ?_
      refine s_iadd X hx (hb hby at_180) (q := 181) rfl ?_
      show Go p e below _ T m 181 #[.val (.long x0), .second, .val (.long x1), .second, .val (.long x2), .second, .val (.long x3), .second, .val (.long x4), .second, .val (.int x5), .val (.int (0 : Int32)), .val (.int (3 : Int32)), .val (.int (3 : Int32)), .val (.ref a50), .val (.ref a60), .val (.long (x3 ^^^ (-9223372036854775808 : Int64))), .second] [(.int (1 : Int32)), (.ref a60)]
      refine s_iload X hx (hb hby at_181) rfl (q := 183) rfl ?_
      refine s_iconst X hx (z := (2 : Int32)) (hb hby at_183) rfl (q := 184) rfl ?_
      refine s_iadd X hx (hb hby at_184) (q := 185) rfl ?_
      show Go p e below _ T m 185 #[.val (.long x0), .second, .val (.long x1), .second, .val (.long x2), .second, .val (.long x3), .second, .val (.long x4), .second, .val (.int x5), .val (.int (0 : Int32)), .val (.int (3 : Int32)), .val (.int (3 : Int32)), .val (.ref a50), .val (.ref a60), .val (.long (x3 ^^^ (-9223372036854775808 : Int64))), .second] [(.int (2 : Int32)), (.int (1 : Int32)), (.ref a60)]
      refine s_lload X hx (hb hby at_185) rfl (q := 187) rfl ?_
      refine callC X hx hZ hown (W := 0) (argsL := [(.ref a60), (.int (1 : Int32)), (.int (2 : Int32)), (.long (x3 ^^^ (-9223372036854775808 : Int64)))]) (rest := []) (hw _ (List.mem_of_getElem? (i := 7) rfl)) (hw _ (List.mem_of_getElem? (i := 8) rfl)) (hw _ (List.mem_of_getElem? (i := 9) rfl)) (hw _ (List.mem_of_getElem? (i := 10) rfl)) (by decide) (rm2_12 l Z a0 hw [] a60 (x3 ^^^ (-9223372036854775808 : Int64)) (CSF 0 1 (x3 ^^^ (-9223372036854775808 : Int64)) [x0, x1, x2, x4, x4]) h68 n0 sz A_a60 g_a60 (by first | rfl | (simp only [own_csl]; rfl))) eT (by decide) (by decide) (by decide) (by decide) (by rw [hml]; rfl) pd0 rfl rfl (Nat.le_of_ble_eq_true rfl) (hb hby at_187) (q := 190) rfl ?_
      intro v T Lc hQ X
      obtain ⟨h69, eT⟩ : ∃ z, T.heap = z := ⟨_, rfl⟩
      try rw [eT] at hQ
      obtain ⟨rfl, N', K', A_a60'⟩ := hQ
      have N := Fr.app N N'
      have A_a50 := A_a50.keep K' (ninS ne_a50_a60 nin0)
      have sz : n0 ≤ h69.size := Nat.le_trans sz K'.1
      have A_a60 := A_a60'
      refine s_aload X hx (hb hby at_190) rfl rfl (q := 192) rfl ?_
      refine s_iload X hx (hb hby at_192) rfl (q := 194) rfl ?_
      refine s_iload X hx (hb hby at_194) rfl (q := 196) rfl ?_
      refine s_iconst X hx (z := (1 : Int32)) (hb hby at_196) rfl (q := 197) rfl ?_
      refine s_iadd X hx (hb hby at_197) (q := 198) rfl ?_
      show Go p e below _ T m 198 #[.val (.long x0), .second, .val (.long x1), .second, .val (.long x2), .second, .val (.long x3), .second, .val (.long x4), .second, .val (.int x5), .val (.int (0 : Int32)), .val (.int (3 : Int32)), .val (.int (3 : Int32)), .val (.ref a50), .val (.ref a60), .val (.long (x3 ^^^ (-9223372036854775808 : Int64))), .second] [(.int (1 : Int32)), (.int (0 : Int32)), (.ref a60)]
      refine s_lload X hx (hb hby at_198) rfl (q := 200) rfl ?_
      refine callC X hx hZ hown (W := 0) (argsL := [(.ref a60), (.int (0 : Int32)), (.int (1 : Int32)), (.long (x3 ^^^ (-9223372036854775808 : Int64)))]) (rest := []) (hw _ (List.mem_of_getElem? (i := 7) rfl)) (hw _ (List.mem_of_getElem? (i := 8) rfl)) (hw _ (List.mem_of_getElem? (i := 9) rfl)) (hw _ (List.mem_of_getElem? (i := 10) rfl)) (by decide) (rm2_01 l Z a0 hw [] a60 (x3 ^^^ (-9223372036854775808 : Int64)) (CSF 1 2 (x3 ^^^ (-9223372036854775808 : Int64)) (CSF 0 1 (x3 ^^^ (-9223372036854775808 : Int64)) [x0, x1, x2, x4, x4])) h69 n0 sz A_a60 g_a60 (by first | rfl | (simp only [own_csl]; rfl))) eT (by decide) (by decide) (by decide) (by decide) (by rw [hml]; rfl) pd0 rfl rfl (Nat.le_of_ble_eq_true rfl) (hb hby at_200) (q := 203) rfl ?_
      intro v T Lc hQ X
      obtain ⟨h70, eT⟩ : ∃ z, T.heap = z := ⟨_, rfl⟩
      try rw [eT] at hQ
      obtain ⟨rfl, N', K', A_a60'⟩ := hQ
      have N := Fr.app N N'
      have A_a50 := A_a50.keep K' (ninS ne_a50_a60 nin0)
      have sz : n0 ≤ h70.size := Nat.le_trans sz K'.1
      have A_a60 := A_a60'
      rw [own_srt03] at A_a50
      refine s_aload X hx (hb hby at_203) rfl rfl (q := 205) rfl ?_
      refine s_iconst X hx (z := (0 : Int32)) (hb hby at_205) rfl (q := 206) rfl ?_
      refine s_laload X hx hZ eT A_a50 (by decide) (i := 0) rfl (x := (((CSF 0 1 (x3 ^^^ (-9223372036854775808 : Int64)) (CSF 1 2 (x3 ^^^ (-9223372036854775808 : Int64)) (CSF 0 1 (x3 ^^^ (-9223372036854775808 : Int64)) [x0, x1, x2, x4, x4])))).getD 0 0)) (own_get _ (by first | exact Nat.le_of_ble_eq_true rfl | (simp only [own_csl]; exact Nat.le_of_ble_eq_true rfl))) (hb hby at_206) (q := 207) rfl ?_
      refine s_aload X hx (hb hby at_207) rfl rfl (q := 209) rfl ?_
      refine s_iconst X hx (z := (0 : Int32)) (hb hby at_209) rfl (q := 210) rfl ?_
      refine s_laload X hx hZ eT A_a60 (by decide) (i := 0) rfl (x := (((CSF 0 1 (x3 ^^^ (-9223372036854775808 : Int64)) (CSF 1 2 (x3 ^^^ (-9223372036854775808 : Int64)) (CSF 0 1 (x3 ^^^ (-9223372036854775808 : Int64)) [x0, x1, x2, x4, x4])))).getD 0 0)) (own_get _ (by first | exact Nat.le_of_ble_eq_true rfl | (simp only [own_csl]; exact Nat.le_of_ble_eq_true rfl))) (hb hby at_210) (q := 211) rfl ?_
      refine s_lcmp X hx (hb hby at_211) (q := 212) rfl ?_
      refine f_lcmp_ne X hx (hb hby at_212) (q1 := 267) (by decide) (by decide) (q := 215) rfl (fun hq => absurd (rfl : (((CSF 0 1 (x3 ^^^ (-9223372036854775808 : Int64)) (CSF 1 2 (x3 ^^^ (-9223372036854775808 : Int64)) (CSF 0 1 (x3 ^^^ (-9223372036854775808 : Int64)) [x0, x1, x2, x4, x4])))).getD 0 0) = (((CSF 0 1 (x3 ^^^ (-9223372036854775808 : Int64)) (CSF 1 2 (x3 ^^^ (-9223372036854775808 : Int64)) (CSF 0 1 (x3 ^^^ (-9223372036854775808 : Int64)) [x0, x1, x2, x4, x4])))).getD 0 0)) hq) (fun _ => ?_)
      refine s_aload X hx (hb hby at_215) rfl rfl (q := 217) rfl ?_
      refine s_iconst X hx (z := (1 : Int32)) (hb hby at_217) rfl (q := 218) rfl ?_
      refine s_laload X hx hZ eT A_a50 (by decide) (i := 1) rfl (x := (((CSF 0 1 (x3 ^^^ (-9223372036854775808 : Int64)) (CSF 1 2 (x3 ^^^ (-9223372036854775808 : Int64)) (CSF 0 1 (x3 ^^^ (-9223372036854775808 : Int64)) [x0, x1, x2, x4, x4])))).getD 1 0)) (own_get _ (by first | exact Nat.le_of_ble_eq_true rfl | (simp only [own_csl]; exact Nat.le_of_ble_eq_true rfl))) (hb hby at_218) (q := 219) rfl ?_
      refine s_aload X hx (hb hby at_219) rfl rfl (q := 221) rfl ?_
      refine s_iconst X hx (z := (1 : Int32)) (hb hby at_221) rfl (q := 222) rfl ?_
      refine s_laload X hx hZ eT A_a60 (by decide) (i := 1) rfl (x := (((CSF 0 1 (x3 ^^^ (-9223372036854775808 : Int64)) (CSF 1 2 (x3 ^^^ (-9223372036854775808 : Int64)) (CSF 0 1 (x3 ^^^ (-9223372036854775808 : Int64)) [x0, x1, x2, x4, x4])))).getD 1 0)) (own_get _ (by first | exact Nat.le_of_ble_eq_true rfl | (simp only [own_csl]; exact Nat.le_of_ble_eq_true rfl))) (hb hby at_222) (q := 223) rfl ?_
      refine s_lcmp X hx (hb hby at_223) (q := 224) rfl ?_
      refine f_lcmp_ne X hx (hb hby at_224) (q1 := 267) (by decide) (by decide) (q := 227) rfl (fun hq => absurd (rfl : (((CSF 0 1 (x3 ^^^ (-9223372036854775808 : Int64)) (CSF 1 2 (x3 ^^^ (-9223372036854775808 : Int64)) (CSF 0 1 (x3 ^^^ (-9223372036854775808 : Int64)) [x0, x1, x2, x4, x4])))).getD 1 0) = (((CSF 0 1 (x3 ^^^ (-9223372036854775808 : Int64)) (CSF 1 2 (x3 ^^^ (-9223372036854775808 : Int64)) (CSF 0 1 (x3 ^^^ (-9223372036854775808 : Int64)) [x0, x1, x2, x4, x4])))).getD 1 0)) hq) (fun _ => ?_)
      refine s_aload X hx (hb hby at_227) rfl rfl (q := 229) rfl ?_
      refine s_iconst X hx (z := (2 : Int32)) (hb hby at_229) rfl (q := 230) rfl ?_
      refine s_laload X hx hZ eT A_a50 (by decide) (i := 2) rfl (x := (((CSF 0 1 (x3 ^^^ (-9223372036854775808 : Int64)) (CSF 1 2 (x3 ^^^ (-9223372036854775808 : Int64)) (CSF 0 1 (x3 ^^^ (-9223372036854775808 : Int64)) [x0, x1, x2, x4, x4])))).getD 2 0)) (own_get _ (by first | exact Nat.le_of_ble_eq_true rfl | (simp only [own_csl]; exact Nat.le_of_ble_eq_true rfl))) (hb hby at_230) (q := 231) rfl ?_
      refine s_aload X hx (hb hby at_231) rfl rfl (q := 233) rfl ?_
      refine s_iconst X hx (z := (2 : Int32)) (hb hby at_233) rfl (q := 234) rfl ?_
      refine s_laload X hx hZ eT A_a60 (by decide) (i := 2) rfl (x := (((CSF 0 1 (x3 ^^^ (-9223372036854775808 : Int64)) (CSF 1 2 (x3 ^^^ (-9223372036854775808 : Int64)) (CSF 0 1 (x3 ^^^ (-9223372036854775808 : Int64)) [x0, x1, x2, x4, x4])))).getD 2 0)) (own_get _ (by first | exact Nat.le_of_ble_eq_true rfl | (simp only [own_csl]; exact Nat.le_of_ble_eq_true rfl))) (hb hby at_234) (q := 235) rfl ?_
      refine s_lcmp X hx (hb hby at_235) (q := 236) rfl ?_
      refine f_lcmp_ne X hx (hb hby at_236) (q1 := 267) (by decide) (by decide) (q := 239) rfl (fun hq => absurd (rfl : (((CSF 0 1 (x3 ^^^ (-9223372036854775808 : Int64)) (CSF 1 2 (x3 ^^^ (-9223372036854775808 : Int64)) (CSF 0 1 (x3 ^^^ (-9223372036854775808 : Int64)) [x0, x1, x2, x4, x4])))).getD 2 0) = (((CSF 0 1 (x3 ^^^ (-9223372036854775808 : Int64)) (CSF 1 2 (x3 ^^^ (-9223372036854775808 : Int64)) (CSF 0 1 (x3 ^^^ (-9223372036854775808 : Int64)) [x0, x1, x2, x4, x4])))).getD 2 0)) hq) (fun _ => ?_)
      refine s_aload X hx (hb hby at_239) rfl rfl (q := 241) rfl ?_
      refine s_iconst X hx (z := (3 : Int32)) (hb hby at_241) rfl (q := 242) rfl ?_
      refine s_laload X hx hZ eT A_a50 (by decide) (i := 3) rfl (x := (((CSF 0 1 (x3 ^^^ (-9223372036854775808 : Int64)) (CSF 1 2 (x3 ^^^ (-9223372036854775808 : Int64)) (CSF 0 1 (x3 ^^^ (-9223372036854775808 : Int64)) [x0, x1, x2, x4, x4])))).getD 3 0)) (own_get _ (by first | exact Nat.le_of_ble_eq_true rfl | (simp only [own_csl]; exact Nat.le_of_ble_eq_true rfl))) (hb hby at_242) (q := 243) rfl ?_
      refine s_aload X hx (hb hby at_243) rfl rfl (q := 245) rfl ?_
      refine s_iconst X hx (z := (3 : Int32)) (hb hby at_245) rfl (q := 246) rfl ?_
      refine s_laload X hx hZ eT A_a60 (by decide) (i := 3) rfl (x := (((CSF 0 1 (x3 ^^^ (-9223372036854775808 : Int64)) (CSF 1 2 (x3 ^^^ (-9223372036854775808 : Int64)) (CSF 0 1 (x3 ^^^ (-9223372036854775808 : Int64)) [x0, x1, x2, x4, x4])))).getD 3 0)) (own_get _ (by first | exact Nat.le_of_ble_eq_true rfl | (simp only [own_csl]; exact Nat.le_of_ble_eq_true rfl))) (hb hby at_246) (q := 247) rfl ?_
      refine s_lcmp X hx (hb hby at_247) (q := 248) rfl ?_
      refine f_lcmp_ne X hx (hb hby at_248) (q1 := 267) (by decide) (by decide) (q := 251) rfl (fun hq => absurd (rfl : (((CSF 0 1 (x3 ^^^ (-9223372036854775808 : Int64)) (CSF 1 2 (x3 ^^^ (-9223372036854775808 : Int64)) (CSF 0 1 (x3 ^^^ (-9223372036854775808 : Int64)) [x0, x1, x2, x4, x4])))).getD 3 0) = (((CSF 0 1 (x3 ^^^ (-9223372036854775808 : Int64)) (CSF 1 2 (x3 ^^^ (-9223372036854775808 : Int64)) (CSF 0 1 (x3 ^^^ (-9223372036854775808 : Int64)) [x0, x1, x2, x4, x4])))).getD 3 0)) hq) (fun _ => ?_)
      refine s_aload X hx (hb hby at_251) rfl rfl (q := 253) rfl ?_
      refine s_iconst X hx (z := (4 : Int32)) (hb hby at_253) rfl (q := 254) rfl ?_
      refine s_laload X hx hZ eT A_a50 (by decide) (i := 4) rfl (x := (((CSF 0 1 (x3 ^^^ (-9223372036854775808 : Int64)) (CSF 1 2 (x3 ^^^ (-9223372036854775808 : Int64)) (CSF 0 1 (x3 ^^^ (-9223372036854775808 : Int64)) [x0, x1, x2, x4, x4])))).getD 4 0)) (own_get _ (by first | exact Nat.le_of_ble_eq_true rfl | (simp only [own_csl]; exact Nat.le_of_ble_eq_true rfl))) (hb hby at_254) (q := 255) rfl ?_
      refine s_aload X hx (hb hby at_255) rfl rfl (q := 257) rfl ?_
      refine s_iconst X hx (z := (4 : Int32)) (hb hby at_257) rfl (q := 258) rfl ?_
      refine s_laload X hx hZ eT A_a60 (by decide) (i := 4) rfl (x := (((CSF 0 1 (x3 ^^^ (-9223372036854775808 : Int64)) (CSF 1 2 (x3 ^^^ (-9223372036854775808 : Int64)) (CSF 0 1 (x3 ^^^ (-9223372036854775808 : Int64)) [x0, x1, x2, x4, x4])))).getD 4 0)) (own_get _ (by first | exact Nat.le_of_ble_eq_true rfl | (simp only [own_csl]; exact Nat.le_of_ble_eq_true rfl))) (hb hby at_258) (q := 259) rfl ?_
      refine s_lcmp X hx (hb hby at_259) (q := 260) rfl ?_
      refine f_lcmp_ne X hx (hb hby at_260) (q1 := 267) (by decide) (by decide) (q := 263) rfl (fun hq => absurd (rfl : (((CSF 0 1 (x3 ^^^ (-9223372036854775808 : Int64)) (CSF 1 2 (x3 ^^^ (-9223372036854775808 : Int64)) (CSF 0 1 (x3 ^^^ (-9223372036854775808 : Int64)) [x0, x1, x2, x4, x4])))).getD 4 0) = (((CSF 0 1 (x3 ^^^ (-9223372036854775808 : Int64)) (CSF 1 2 (x3 ^^^ (-9223372036854775808 : Int64)) (CSF 0 1 (x3 ^^^ (-9223372036854775808 : Int64)) [x0, x1, x2, x4, x4])))).getD 4 0)) hq) (fun _ => ?_)
      refine s_iconst X hx (z := (1 : Int32)) (hb hby at_263) rfl (q := 264) rfl ?_
      refine s_goto X hx (hb hby at_264) (q1 := 268) (by decide) (by decide) ?_
      exact leafN X hx hlk hret (by simp) (hb hby at_268) (by decide) (by decide) (z' := 1) rfl ⟨rfl, N⟩
  · subst hcase
    refine s_iload X hx (hb hby at_6) rfl (q := 8) rfl ?_
    refine s_iconst X hx (z := (1 : Int32)) (hb hby at_8) rfl (q := 9) rfl ?_
    refine s_iushr X hx (hb hby at_9) (q := 10) rfl ?_
    refine s_iconst X hx (z := (3 : Int32)) (hb hby at_10) rfl (q := 11) rfl ?_
    refine s_iand X hx (hb hby at_11) (q := 12) rfl ?_
    generalize hln : (((x5.toUInt32 >>> ((1 : Int32) &&& 31).toUInt32).toInt32) &&& (3 : Int32)) = ln
    refine s_istore X hx (hb hby at_12) (L' := #[.val (.long x0), .second, .val (.long x1), .second, .val (.long x2), .second, .val (.long x3), .second, .val (.long x4), .second, .val (.int x5), .val (.int (1 : Int32)), .val (.int ln), .unset, .unset, .unset, .unset, .unset]) rfl (q := 14) rfl ?_
    have hl4 := own_l ((x5.toUInt32 >>> ((1 : Int32) &&& 31).toUInt32).toInt32)
    rw [hln] at hl4
    rcases hl4 with hcase | hcase | hcase | hcase
    · subst hcase
      refine s_iload X hx (hb hby at_14) rfl (q := 16) rfl ?_
      refine s_iload X hx (hb hby at_16) rfl (q := 18) rfl ?_
      refine s_iadd X hx (hb hby at_18) (q := 19) rfl ?_
      show Go p e below _ T m 19 #[.val (.long x0), .second, .val (.long x1), .second, .val (.long x2), .second, .val (.long x3), .second, .val (.long x4), .second, .val (.int x5), .val (.int (1 : Int32)), .val (.int (0 : Int32)), .unset, .unset, .unset, .unset, .unset] [(.int (1 : Int32))]
      refine s_istore X hx (hb hby at_19) (L' := #[.val (.long x0), .second, .val (.long x1), .second, .val (.long x2), .second, .val (.long x3), .second, .val (.long x4), .second, .val (.int x5), .val (.int (1 : Int32)), .val (.int (0 : Int32)), .val (.int (1 : Int32)), .unset, .unset, .unset, .unset]) rfl (q := 21) rfl ?_
      refine s_iconst X hx (z := (5 : Int32)) (hb hby at_21) rfl (q := 22) rfl ?_
      refine s_newJ X hx hZ (hw _ (List.mem_of_getElem? (i := 0) rfl)) eT (by decide) (cap := 5) (by decide) (by decide) (by decide) (by decide) (vs := [0, 0, 0, 0, 0]) rfl (hb hby at_22) (q := 24) rfl ?_
      intro T h72 a71 X eT E ea A_a71
      have g_a71 : n0 ≤ a71 := by rw [ea]; exact sz
      have sz : n0 ≤ h72.size := Nat.le_trans sz E.1
      refine s_dup X hx (hb hby at_24) rfl (q := 25) rfl ?_
      refine s_iconst X hx (z := (0 : Int32)) (hb hby at_25) rfl (q := 26) rfl ?_
      refine s_lload X hx (hb hby at_26) rfl (q := 28) rfl ?_
      refine s_lastore X hx hZ eT A_a71 N g_a71 (by decide) (i := 0) rfl (Nat.le_of_ble_eq_true rfl) (vs := [x4, 0, 0, 0, 0]) rfl (hb hby at_28) (q := 29) rfl ?_
      intro T h73 _ X N eT W A_a71'
      have sz : n0 ≤ h73.size := by rw [W.size]; exact sz
      have A_a71 := A_a71'
      refine s_dup X hx (hb hby at_29) rfl (q := 30) rfl ?_
      refine s_iconst X hx (z := (1 : Int32)) (hb hby at_30) rfl (q := 31) rfl ?_
      refine s_lload X hx (hb hby at_31) rfl (q := 33) rfl ?_
      refine s_lastore X hx hZ eT A_a71 N g_a71 (by decide) (i := 1) rfl (Nat.le_of_ble_eq_true rfl) (vs := [x4, x4, 0, 0, 0]) rfl (hb hby at_33) (q := 34) rfl ?_
      intro T h74 _ X N eT W A_a71'
      have sz : n0 ≤ h74.size := by rw [W.size]; exact sz
      have A_a71 := A_a71'
      refine s_dup X hx (hb hby at_34) rfl (q := 35) rfl ?_
      refine s_iconst X hx (z := (2 : Int32)) (hb hby at_35) rfl (q := 36) rfl ?_
      refine s_lload X hx (hb hby at_36) rfl (q := 38) rfl ?_
      refine s_lastore X hx hZ eT A_a71 N g_a71 (by decide) (i := 2) rfl (Nat.le_of_ble_eq_true rfl) (vs := [x4, x4, x4, 0, 0]) rfl (hb hby at_38) (q := 39) rfl ?_
      intro T h75 _ X N eT W A_a71'
      have sz : n0 ≤ h75.size := by rw [W.size]; exact sz
      have A_a71 := A_a71'
      refine s_dup X hx (hb hby at_39) rfl (q := 40) rfl ?_
      refine s_iconst X hx (z := (3 : Int32)) (hb hby at_40) rfl (q := 41) rfl ?_
      refine s_lload X hx (hb hby at_41) rfl (q := 43) rfl ?_
      refine s_lastore X hx hZ eT A_a71 N g_a71 (by decide) (i := 3) rfl (Nat.le_of_ble_eq_true rfl) (vs := [x4, x4, x4, x4, 0]) rfl (hb hby at_43) (q := 44) rfl ?_
      intro T h76 _ X N eT W A_a71'
      have sz : n0 ≤ h76.size := by rw [W.size]; exact sz
      have A_a71 := A_a71'
      refine s_dup X hx (hb hby at_44) rfl (q := 45) rfl ?_
      refine s_iconst X hx (z := (4 : Int32)) (hb hby at_45) rfl (q := 46) rfl ?_
      refine s_lload X hx (hb hby at_46) rfl (q := 48) rfl ?_
      refine s_lastore X hx hZ eT A_a71 N g_a71 (by decide) (i := 4) rfl (Nat.le_of_ble_eq_true rfl) (vs := [x4, x4, x4, x4, x4]) rfl (hb hby at_48) (q := 49) rfl ?_
      intro T h77 _ X N eT W A_a71'
      have sz : n0 ≤ h77.size := by rw [W.size]; exact sz
      have A_a71 := A_a71'
      refine s_astore X hx (hb hby at_49) rfl (L' := #[.val (.long x0), .second, .val (.long x1), .second, .val (.long x2), .second, .val (.long x3), .second, .val (.long x4), .second, .val (.int x5), .val (.int (1 : Int32)), .val (.int (0 : Int32)), .val (.int (1 : Int32)), .val (.ref a71), .unset, .unset, .unset]) rfl (q := 51) rfl ?_
      refine s_iload X hx (hb hby at_51) rfl (q := 53) rfl ?_
      refine f_if_le X hx (hb hby at_53) (q1 := 62) (by decide) (by decide) (q := 56) rfl (fun _ => ?_) (fun hq => absurd hq (by decide : ¬ 0 < (0 : Int32)))
      refine s_iload X hx (hb hby at_62) rfl (q := 64) rfl ?_
      refine s_iconst X hx (z := (1 : Int32)) (hb hby at_64) rfl (q := 65) rfl ?_
      refine f_icmp_le X hx (hb hby at_65) (q1 := 76) (by decide) (by decide) (q := 68) rfl (fun _ => ?_) (fun hq => absurd hq (by decide : ¬ (1 : Int32) < (0 : Int32)))
      refine s_iload X hx (hb hby at_76) rfl (q := 78) rfl ?_
      refine s_iconst X hx (z := (2 : Int32)) (hb hby at_78) rfl (q := 79) rfl ?_
      refine f_icmp_le X hx (hb hby at_79) (q1 := 91) (by decide) (by decide) (q := 82) rfl (fun _ => ?_) (fun hq => absurd hq (by decide : ¬ (2 : Int32) < (0 : Int32)))
      refine s_iconst X hx (z := (5 : Int32)) (hb hby at_91) rfl (q := 92) rfl ?_
      refine s_newJ X hx hZ (hw _ (List.mem_of_getElem? (i := 0) rfl)) eT (by decide) (cap := 5) (by decide) (by decide) (by decide) (by decide) (vs := [0, 0, 0, 0, 0]) rfl (hb hby at_92) (q := 94) rfl ?_
      intro T h79 a78 X eT E ea A_a78
      have ne_a71_a78 : a71 ≠ a78 := by rw [ea]; exact Nat.ne_of_lt A_a71.lt
      have A_a71 := A_a71.ext E
      have g_a78 : n0 ≤ a78 := by rw [ea]; exact sz
      have sz : n0 ≤ h79.size := Nat.le_trans sz E.1
      refine s_dup X hx (hb hby at_94) rfl (q := 95) rfl ?_
      refine s_iconst X hx (z := (0 : Int32)) (hb hby at_95) rfl (q := 96) rfl ?_
      refine s_aload X hx (hb hby at_96) rfl rfl (q := 98) rfl ?_
      refine s_iconst X hx (z := (0 : Int32)) (hb hby at_98) rfl (q := 99) rfl ?_
      refine s_laload X hx hZ eT A_a71 (by decide) (i := 0) rfl (x := x4) rfl (hb hby at_99) (q := 100) rfl ?_
      refine s_lastore X hx hZ eT A_a78 N g_a78 (by decide) (i := 0) rfl (Nat.le_of_ble_eq_true rfl) (vs := [x4, 0, 0, 0, 0]) rfl (hb hby at_100) (q := 101) rfl ?_
      intro T h80 _ X N eT W A_a78'
      have A_a71 := A_a71.other W ne_a71_a78
      have sz : n0 ≤ h80.size := by rw [W.size]; exact sz
      have A_a78 := A_a78'
      refine s_dup X hx (hb hby at_101) rfl (q := 102) rfl ?_
      refine s_iconst X hx (z := (1 : Int32)) (hb hby at_102) rfl (q := 103) rfl ?_
      refine s_aload X hx (hb hby at_103) rfl rfl (q := 105) rfl ?_
      refine s_iconst X hx (z := (1 : Int32)) (hb hby at_105) rfl (q := 106) rfl ?_
      refine s_laload X hx hZ eT A_a71 (by decide) (i := 1) rfl (x := x4) rfl (hb hby at_106) (q := 107) rfl ?_
      refine s_lastore X hx hZ eT A_a78 N g_a78 (by decide) (i := 1) rfl (Nat.le_of_ble_eq_true rfl) (vs := [x4, x4, 0, 0, 0]) rfl (hb hby at_107) (q := 108) rfl ?_
      intro T h81 _ X N eT W A_a78'
      have A_a71 := A_a71.other W ne_a71_a78
      have sz : n0 ≤ h81.size := by rw [W.size]; exact sz
      have A_a78 := A_a78'
      refine s_dup X hx (hb hby at_108) rfl (q := 109) rfl ?_
      refine s_iconst X hx (z := (2 : Int32)) (hb hby at_109) rfl (q := 110) rfl ?_
      refine s_aload X hx (hb hby at_110) rfl rfl (q := 112) rfl ?_
      refine s_iconst X hx (z := (2 : Int32)) (hb hby at_112) rfl (q := 113) rfl ?_
      refine s_laload X hx hZ eT A_a71 (by decide) (i := 2) rfl (x := x4) rfl (hb hby at_113) (q := 114) rfl ?_
      refine s_lastore X hx hZ eT A_a78 N g_a78 (by decide) (i := 2) rfl (Nat.le_of_ble_eq_true rfl) (vs := [x4, x4, x4, 0, 0]) rfl (hb hby at_114) (q := 115) rfl ?_
      intro T h82 _ X N eT W A_a78'
      have A_a71 := A_a71.other W ne_a71_a78
      have sz : n0 ≤ h82.size := by rw [W.size]; exact sz
      have A_a78 := A_a78'
      refine s_dup X hx (hb hby at_115) rfl (q := 116) rfl ?_
      refine s_iconst X hx (z := (3 : Int32)) (hb hby at_116) rfl (q := 117) rfl ?_
      refine s_aload X hx (hb hby at_117) rfl rfl (q := 119) rfl ?_
      refine s_iconst X hx (z := (3 : Int32)) (hb hby at_119) rfl (q := 120) rfl ?_
      refine s_laload X hx hZ eT A_a71 (by decide) (i := 3) rfl (x := x4) rfl (hb hby at_120) (q := 121) rfl ?_
      refine s_lastore X hx hZ eT A_a78 N g_a78 (by decide) (i := 3) rfl (Nat.le_of_ble_eq_true rfl) (vs := [x4, x4, x4, x4, 0]) rfl (hb hby at_121) (q := 122) rfl ?_
      intro T h83 _ X N eT W A_a78'
      have A_a71 := A_a71.other W ne_a71_a78
      have sz : n0 ≤ h83.size := by rw [W.size]; exact sz
      have A_a78 := A_a78'
      refine s_dup X hx (hb hby at_122) rfl (q := 123) rfl ?_
      refine s_iconst X hx (z := (4 : Int32)) (hb hby at_123) rfl (q := 124) rfl ?_
      refine s_aload X hx (hb hby at_124) rfl rfl (q := 126) rfl ?_
      refine s_iconst X hx (z := (4 : Int32)) (hb hby at_126) rfl (q := 127) rfl ?_
      refine s_laload X hx hZ eT A_a71 (by decide) (i := 4) rfl (x := x4) rfl (hb hby at_127) (q := 128) rfl ?_
      refine s_lastore X hx hZ eT A_a78 N g_a78 (by decide) (i := 4) rfl (Nat.le_of_ble_eq_true rfl) (vs := [x4, x4, x4, x4, x4]) rfl (hb hby at_128) (q := 129) rfl ?_
      intro T h84 _ X N eT W A_a78'
      have A_a71 := A_a71.other W ne_a71_a78
      have sz : n0 ≤ h84.size := by rw [W.size]; exact sz
      have A_a78 := A_a78'
      refine s_astore X hx (hb hby at_129) rfl (L' := #[.val (.long x0), .second, .val (.long x1), .second, .val (.long x2), .second, .val (.long x3), .second, .val (.long x4), .second, .val (.int x5), .val (.int (1 : Int32)), .val (.int (0 : Int32)), .val (.int (1 : Int32)), .val (.ref a71), .val (.ref a78), .unset, .unset]) rfl (q := 131) rfl ?_
      refine s_aload X hx (hb hby at_131) rfl rfl (q := 133) rfl ?_
      refine s_iload X hx (hb hby at_133) rfl (q := 135) rfl ?_
      refine s_iload X hx (hb hby at_135) rfl (q := 137) rfl ?_
      refine s_lload X hx (hb hby at_137) rfl (q := 139) rfl ?_
      refine callC X hx hZ hown (W := 0) (argsL := [(.ref a71), (.int (1 : Int32)), (.int (1 : Int32)), (.long x3)]) (rest := []) (hw _ (List.mem_of_getElem? (i := 1) rfl)) (hw _ (List.mem_of_getElem? (i := 2) rfl)) (hw _ (List.mem_of_getElem? (i := 3) rfl)) (hw _ (List.mem_of_getElem? (i := 4) rfl)) (by decide) (rm1_11 l Z a0 hw [] a71 x3 x4 x4 x4 x4 x4 h84 n0 sz A_a71 g_a71) eT (by decide) (by decide) (by decide) (by decide) (by rw [hml]; rfl) pd0 rfl rfl (Nat.le_of_ble_eq_true rfl) (hb hby at_139) (q := 142) rfl ?_
      intro v T Lc hQ X
      obtain ⟨h85, eT⟩ : ∃ z, T.heap = z := ⟨_, rfl⟩
      try rw [eT] at hQ
      obtain ⟨rfl, N', K', A_a71'⟩ := hQ
      have N := Fr.app N N'
      have A_a78 := A_a78.keep K' (ninS (Ne.symm ne_a71_a78) nin0)
      have sz : n0 ≤ h85.size := Nat.le_trans sz K'.1
      have A_a71 := A_a71'
      refine s_lload X hx (hb hby at_142) rfl (q := 144) rfl ?_
      refine s_ldc2 X hx hZ hown (hw _ (List.mem_of_getElem? (i := 5) rfl)) (hb hby at_144) (q := 147) rfl ?_
      refine s_lxor X hx (hb hby at_147) (q := 148) rfl ?_
      refine s_lstore X hx (hb hby at_148) (L' := #[.val (.long x0), .second, .val (.long x1), .second, .val (.long x2), .second, .val (.long x3), .second, .val (.long x4), .second, .val (.int x5), .val (.int (1 : Int32)), .val (.int (0 : Int32)), .val (.int (1 : Int32)), .val (.ref a71), .val (.ref a78), .val (.long (x3 ^^^ (-9223372036854775808 : Int64))), .second]) rfl (q := 150) rfl ?_
      refine s_iload X hx (hb hby at_150) rfl (q := 152) rfl ?_
      refine s_iconst X hx (z := (2 : Int32)) (hb hby at_152) rfl (q := 153) rfl ?_
      refine f_icmp_lt X hx (hb hby at_153) (q1 := 169) (by decide) (by decide) (q := 156) rfl (fun _ => ?_) (fun hq => absurd (by decide : (0 : Int32) < (2 : Int32)) hq)
      refine s_iload X hx (hb hby at_169) rfl (q := 171) rfl ?_
      refine s_iconst X hx (z := (3 : Int32)) (hb hby at_171) rfl (q := 172) rfl ?_
      refine f_icmp_ne X hx (hb hby at_172) (q1 := 203) (by decide) (by decide) (q := 175) rfl (fun _ => ?_) (fun hq => absurd hq (by decide : ¬ (0 : Int32) = (3 : Int32)))
      have A_a71 : AJ Z h85 a71 [x4, x4, x4, x4, x4] := A_a71
      refine s_aload X hx (hb hby at_203) rfl rfl (q := 205) rfl ?_
      refine s_iconst X hx (z := (0 : Int32)) (hb hby at_205) rfl (q := 206) rfl ?_
      refine s_laload X hx hZ eT A_a71 (by decide) (i := 0) rfl (x := x4) rfl (hb hby at_206) (q := 207) rfl ?_
      refine s_aload X hx (hb hby at_207) rfl rfl (q := 209) rfl ?_
      refine s_iconst X hx (z := (0 : Int32)) (hb hby at_209) rfl (q := 210) rfl ?_
      refine s_laload X hx hZ eT A_a78 (by decide) (i := 0) rfl (x := x4) rfl (hb hby at_210) (q := 211) rfl ?_
      refine s_lcmp X hx (hb hby at_211) (q := 212) rfl ?_
      refine f_lcmp_ne X hx (hb hby at_212) (q1 := 267) (by decide) (by decide) (q := 215) rfl (fun hq => absurd (rfl : x4 = x4) hq) (fun _ => ?_)
      refine s_aload X hx (hb hby at_215) rfl rfl (q := 217) rfl ?_
      refine s_iconst X hx (z := (1 : Int32)) (hb hby at_217) rfl (q := 218) rfl ?_
      refine s_laload X hx hZ eT A_a71 (by decide) (i := 1) rfl (x := x4) rfl (hb hby at_218) (q := 219) rfl ?_
      refine s_aload X hx (hb hby at_219) rfl rfl (q := 221) rfl ?_
      refine s_iconst X hx (z := (1 : Int32)) (hb hby at_221) rfl (q := 222) rfl ?_
      refine s_laload X hx hZ eT A_a78 (by decide) (i := 1) rfl (x := x4) rfl (hb hby at_222) (q := 223) rfl ?_
      refine s_lcmp X hx (hb hby at_223) (q := 224) rfl ?_
      refine f_lcmp_ne X hx (hb hby at_224) (q1 := 267) (by decide) (by decide) (q := 227) rfl (fun hq => absurd (rfl : x4 = x4) hq) (fun _ => ?_)
      refine s_aload X hx (hb hby at_227) rfl rfl (q := 229) rfl ?_
      refine s_iconst X hx (z := (2 : Int32)) (hb hby at_229) rfl (q := 230) rfl ?_
      refine s_laload X hx hZ eT A_a71 (by decide) (i := 2) rfl (x := x4) rfl (hb hby at_230) (q := 231) rfl ?_
      refine s_aload X hx (hb hby at_231) rfl rfl (q := 233) rfl ?_
      refine s_iconst X hx (z := (2 : Int32)) (hb hby at_233) rfl (q := 234) rfl ?_
      refine s_laload X hx hZ eT A_a78 (by decide) (i := 2) rfl (x := x4) rfl (hb hby at_234) (q := 235) rfl ?_
      refine s_lcmp X hx (hb hby at_235) (q := 236) rfl ?_
      refine f_lcmp_ne X hx (hb hby at_236) (q1 := 267) (by decide) (by decide) (q := 239) rfl (fun hq => absurd (rfl : x4 = x4) hq) (fun _ => ?_)
      refine s_aload X hx (hb hby at_239) rfl rfl (q := 241) rfl ?_
      refine s_iconst X hx (z := (3 : Int32)) (hb hby at_241) rfl (q := 242) rfl ?_
      refine s_laload X hx hZ eT A_a71 (by decide) (i := 3) rfl (x := x4) rfl (hb hby at_242) (q := 243) rfl ?_
      refine s_aload X hx (hb hby at_243) rfl rfl (q := 245) rfl ?_
      refine s_iconst X hx (z := (3 : Int32)) (hb hby at_245) rfl (q := 246) rfl ?_
      refine s_laload X hx hZ eT A_a78 (by decide) (i := 3) rfl (x := x4) rfl (hb hby at_246) (q := 247) rfl ?_
      refine s_lcmp X hx (hb hby at_247) (q := 248) rfl ?_
      refine f_lcmp_ne X hx (hb hby at_248) (q1 := 267) (by decide) (by decide) (q := 251) rfl (fun hq => absurd (rfl : x4 = x4) hq) (fun _ => ?_)
      refine s_aload X hx (hb hby at_251) rfl rfl (q := 253) rfl ?_
      refine s_iconst X hx (z := (4 : Int32)) (hb hby at_253) rfl (q := 254) rfl ?_
      refine s_laload X hx hZ eT A_a71 (by decide) (i := 4) rfl (x := x4) rfl (hb hby at_254) (q := 255) rfl ?_
      refine s_aload X hx (hb hby at_255) rfl rfl (q := 257) rfl ?_
      refine s_iconst X hx (z := (4 : Int32)) (hb hby at_257) rfl (q := 258) rfl ?_
      refine s_laload X hx hZ eT A_a78 (by decide) (i := 4) rfl (x := x4) rfl (hb hby at_258) (q := 259) rfl ?_
      refine s_lcmp X hx (hb hby at_259) (q := 260) rfl ?_
      refine f_lcmp_ne X hx (hb hby at_260) (q1 := 267) (by decide) (by decide) (q := 263) rfl (fun hq => absurd (rfl : x4 = x4) hq) (fun _ => ?_)
      refine s_iconst X hx (z := (1 : Int32)) (hb hby at_263) rfl (q := 264) rfl ?_
      refine s_goto X hx (hb hby at_264) (q1 := 268) (by decide) (by decide) ?_
      exact leafN X hx hlk hret (by simp) (hb hby at_268) (by decide) (by decide) (z' := 1) rfl ⟨rfl, N⟩
    · subst hcase
      refine s_iload X hx (hb hby at_14) rfl (q := 16) rfl ?_
      refine s_iload X hx (hb hby at_16) rfl (q := 18) rfl ?_
      refine s_iadd X hx (hb hby at_18) (q := 19) rfl ?_
      show Go p e below _ T m 19 #[.val (.long x0), .second, .val (.long x1), .second, .val (.long x2), .second, .val (.long x3), .second, .val (.long x4), .second, .val (.int x5), .val (.int (1 : Int32)), .val (.int (1 : Int32)), .unset, .unset, .unset, .unset, .unset] [(.int (2 : Int32))]
      refine s_istore X hx (hb hby at_19) (L' := #[.val (.long x0), .second, .val (.long x1), .second, .val (.long x2), .second, .val (.long x3), .second, .val (.long x4), .second, .val (.int x5), .val (.int (1 : Int32)), .val (.int (1 : Int32)), .val (.int (2 : Int32)), .unset, .unset, .unset, .unset]) rfl (q := 21) rfl ?_
      refine s_iconst X hx (z := (5 : Int32)) (hb hby at_21) rfl (q := 22) rfl ?_
      refine s_newJ X hx hZ (hw _ (List.mem_of_getElem? (i := 0) rfl)) eT (by decide) (cap := 5) (by decide) (by decide) (by decide) (by decide) (vs := [0, 0, 0, 0, 0]) rfl (hb hby at_22) (q := 24) rfl ?_
      intro T h87 a86 X eT E ea A_a86
      have g_a86 : n0 ≤ a86 := by rw [ea]; exact sz
      have sz : n0 ≤ h87.size := Nat.le_trans sz E.1
      refine s_dup X hx (hb hby at_24) rfl (q := 25) rfl ?_
      refine s_iconst X hx (z := (0 : Int32)) (hb hby at_25) rfl (q := 26) rfl ?_
      refine s_lload X hx (hb hby at_26) rfl (q := 28) rfl ?_
      refine s_lastore X hx hZ eT A_a86 N g_a86 (by decide) (i := 0) rfl (Nat.le_of_ble_eq_true rfl) (vs := [x4, 0, 0, 0, 0]) rfl (hb hby at_28) (q := 29) rfl ?_
      intro T h88 _ X N eT W A_a86'
      have sz : n0 ≤ h88.size := by rw [W.size]; exact sz
      have A_a86 := A_a86'
      refine s_dup X hx (hb hby at_29) rfl (q := 30) rfl ?_
      refine s_iconst X hx (z := (1 : Int32)) (hb hby at_30) rfl (q := 31) rfl ?_
      refine s_lload X hx (hb hby at_31) rfl (q := 33) rfl ?_
      refine s_lastore X hx hZ eT A_a86 N g_a86 (by decide) (i := 1) rfl (Nat.le_of_ble_eq_true rfl) (vs := [x4, x4, 0, 0, 0]) rfl (hb hby at_33) (q := 34) rfl ?_
      intro T h89 _ X N eT W A_a86'
      have sz : n0 ≤ h89.size := by rw [W.size]; exact sz
      have A_a86 := A_a86'
      refine s_dup X hx (hb hby at_34) rfl (q := 35) rfl ?_
      refine s_iconst X hx (z := (2 : Int32)) (hb hby at_35) rfl (q := 36) rfl ?_
      refine s_lload X hx (hb hby at_36) rfl (q := 38) rfl ?_
      refine s_lastore X hx hZ eT A_a86 N g_a86 (by decide) (i := 2) rfl (Nat.le_of_ble_eq_true rfl) (vs := [x4, x4, x4, 0, 0]) rfl (hb hby at_38) (q := 39) rfl ?_
      intro T h90 _ X N eT W A_a86'
      have sz : n0 ≤ h90.size := by rw [W.size]; exact sz
      have A_a86 := A_a86'
      refine s_dup X hx (hb hby at_39) rfl (q := 40) rfl ?_
      refine s_iconst X hx (z := (3 : Int32)) (hb hby at_40) rfl (q := 41) rfl ?_
      refine s_lload X hx (hb hby at_41) rfl (q := 43) rfl ?_
      refine s_lastore X hx hZ eT A_a86 N g_a86 (by decide) (i := 3) rfl (Nat.le_of_ble_eq_true rfl) (vs := [x4, x4, x4, x4, 0]) rfl (hb hby at_43) (q := 44) rfl ?_
      intro T h91 _ X N eT W A_a86'
      have sz : n0 ≤ h91.size := by rw [W.size]; exact sz
      have A_a86 := A_a86'
      refine s_dup X hx (hb hby at_44) rfl (q := 45) rfl ?_
      refine s_iconst X hx (z := (4 : Int32)) (hb hby at_45) rfl (q := 46) rfl ?_
      refine s_lload X hx (hb hby at_46) rfl (q := 48) rfl ?_
      refine s_lastore X hx hZ eT A_a86 N g_a86 (by decide) (i := 4) rfl (Nat.le_of_ble_eq_true rfl) (vs := [x4, x4, x4, x4, x4]) rfl (hb hby at_48) (q := 49) rfl ?_
      intro T h92 _ X N eT W A_a86'
      have sz : n0 ≤ h92.size := by rw [W.size]; exact sz
      have A_a86 := A_a86'
      refine s_astore X hx (hb hby at_49) rfl (L' := #[.val (.long x0), .second, .val (.long x1), .second, .val (.long x2), .second, .val (.long x3), .second, .val (.long x4), .second, .val (.int x5), .val (.int (1 : Int32)), .val (.int (1 : Int32)), .val (.int (2 : Int32)), .val (.ref a86), .unset, .unset, .unset]) rfl (q := 51) rfl ?_
      refine s_iload X hx (hb hby at_51) rfl (q := 53) rfl ?_
      refine f_if_le X hx (hb hby at_53) (q1 := 62) (by decide) (by decide) (q := 56) rfl (fun hq => absurd (by decide : 0 < (1 : Int32)) hq) (fun _ => ?_)
      refine s_aload X hx (hb hby at_56) rfl rfl (q := 58) rfl ?_
      refine s_iload X hx (hb hby at_58) rfl (q := 60) rfl ?_
      refine s_lloadN X hx (hb hby at_60) rfl (q := 61) rfl ?_
      refine s_lastore X hx hZ eT A_a86 N g_a86 (by decide) (i := 1) rfl (Nat.le_of_ble_eq_true rfl) (vs := [x4, x0, x4, x4, x4]) rfl (hb hby at_61) (q := 62) rfl ?_
      intro T h93 _ X N eT W A_a86'
      have sz : n0 ≤ h93.size := by rw [W.size]; exact sz
      have A_a86 := A_a86'
      refine s_iload X hx (hb hby at_62) rfl (q := 64) rfl ?_
      refine s_iconst X hx (z := (1 : Int32)) (hb hby at_64) rfl (q := 65) rfl ?_
      refine f_icmp_le X hx (hb hby at_65) (q1 := 76) (by decide) (by decide) (q := 68) rfl (fun _ => ?_) (fun hq => absurd hq (by decide : ¬ (1 : Int32) < (1 : Int32)))
      refine s_iload X hx (hb hby at_76) rfl (q := 78) rfl ?_
      refine s_iconst X hx (z := (2 : Int32)) (hb hby at_78) rfl (q := 79) rfl ?_
      refine f_icmp_le X hx (hb hby at_79) (q1 := 91) (by decide) (by decide) (q := 82) rfl (fun _ => ?_) (fun hq => absurd hq (by decide : ¬ (2 : Int32) < (1 : Int32)))
      refine s_iconst X hx (z := (5 : Int32)) (hb hby at_91) rfl (q := 92) rfl ?_
      refine s_newJ X hx hZ (hw _ (List.mem_of_getElem? (i := 0) rfl)) eT (by decide) (cap := 5) (by decide) (by decide) (by decide) (by decide) (vs := [0, 0, 0, 0, 0]) rfl (hb hby at_92) (q := 94) rfl ?_
      intro T h95 a94 X eT E ea A_a94
      have ne_a86_a94 : a86 ≠ a94 := by rw [ea]; exact Nat.ne_of_lt A_a86.lt
      have A_a86 := A_a86.ext E
      have g_a94 : n0 ≤ a94 := by rw [ea]; exact sz
      have sz : n0 ≤ h95.size := Nat.le_trans sz E.1
      refine s_dup X hx (hb hby at_94) rfl (q := 95) rfl ?_
      refine s_iconst X hx (z := (0 : Int32)) (hb hby at_95) rfl (q := 96) rfl ?_
      refine s_aload X hx (hb hby at_96) rfl rfl (q := 98) rfl ?_
      refine s_iconst X hx (z := (0 : Int32)) (hb hby at_98) rfl (q := 99) rfl ?_
      refine s_laload X hx hZ eT A_a86 (by decide) (i := 0) rfl (x := x4) rfl (hb hby at_99) (q := 100) rfl ?_
      refine s_lastore X hx hZ eT A_a94 N g_a94 (by decide) (i := 0) rfl (Nat.le_of_ble_eq_true rfl) (vs := [x4, 0, 0, 0, 0]) rfl (hb hby at_100) (q := 101) rfl ?_
      intro T h96 _ X N eT W A_a94'
      have A_a86 := A_a86.other W ne_a86_a94
      have sz : n0 ≤ h96.size := by rw [W.size]; exact sz
      have A_a94 := A_a94'
      refine s_dup X hx (hb hby at_101) rfl (q := 102) rfl ?_
      refine s_iconst X hx (z := (1 : Int32)) (hb hby at_102) rfl (q := 103) rfl ?_
      refine s_aload X hx (hb hby at_103) rfl rfl (q := 105) rfl ?_
      refine s_iconst X hx (z := (1 : Int32)) (hb hby at_105) rfl (q := 106) rfl ?_
      refine s_laload X hx hZ eT A_a86 (by decide) (i := 1) rfl (x := x0) rfl (hb hby at_106) (q := 107) rfl ?_
      refine s_lastore X hx hZ eT A_a94 N g_a94 (by decide) (i := 1) rfl (Nat.le_of_ble_eq_true rfl) (vs := [x4, x0, 0, 0, 0]) rfl (hb hby at_107) (q := 108) rfl ?_
      intro T h97 _ X N eT W A_a94'
      have A_a86 := A_a86.other W ne_a86_a94
      have sz : n0 ≤ h97.size := by rw [W.size]; exact sz
      have A_a94 := A_a94'
      refine s_dup X hx (hb hby at_108) rfl (q := 109) rfl ?_
      refine s_iconst X hx (z := (2 : Int32)) (hb hby at_109) rfl (q := 110) rfl ?_
      refine s_aload X hx (hb hby at_110) rfl rfl (q := 112) rfl ?_
      refine s_iconst X hx (z := (2 : Int32)) (hb hby at_112) rfl (q := 113) rfl ?_
      refine s_laload X hx hZ eT A_a86 (by decide) (i := 2) rfl (x := x4) rfl (hb hby at_113) (q := 114) rfl ?_
      refine s_lastore X hx hZ eT A_a94 N g_a94 (by decide) (i := 2) rfl (Nat.le_of_ble_eq_true rfl) (vs := [x4, x0, x4, 0, 0]) rfl (hb hby at_114) (q := 115) rfl ?_
      intro T h98 _ X N eT W A_a94'
      have A_a86 := A_a86.other W ne_a86_a94
      have sz : n0 ≤ h98.size := by rw [W.size]; exact sz
      have A_a94 := A_a94'
      refine s_dup X hx (hb hby at_115) rfl (q := 116) rfl ?_
      refine s_iconst X hx (z := (3 : Int32)) (hb hby at_116) rfl (q := 117) rfl ?_
      refine s_aload X hx (hb hby at_117) rfl rfl (q := 119) rfl ?_
      refine s_iconst X hx (z := (3 : Int32)) (hb hby at_119) rfl (q := 120) rfl ?_
      refine s_laload X hx hZ eT A_a86 (by decide) (i := 3) rfl (x := x4) rfl (hb hby at_120) (q := 121) rfl ?_
      refine s_lastore X hx hZ eT A_a94 N g_a94 (by decide) (i := 3) rfl (Nat.le_of_ble_eq_true rfl) (vs := [x4, x0, x4, x4, 0]) rfl (hb hby at_121) (q := 122) rfl ?_
      intro T h99 _ X N eT W A_a94'
      have A_a86 := A_a86.other W ne_a86_a94
      have sz : n0 ≤ h99.size := by rw [W.size]; exact sz
      have A_a94 := A_a94'
      refine s_dup X hx (hb hby at_122) rfl (q := 123) rfl ?_
      refine s_iconst X hx (z := (4 : Int32)) (hb hby at_123) rfl (q := 124) rfl ?_
      refine s_aload X hx (hb hby at_124) rfl rfl (q := 126) rfl ?_
      refine s_iconst X hx (z := (4 : Int32)) (hb hby at_126) rfl (q := 127) rfl ?_
      refine s_laload X hx hZ eT A_a86 (by decide) (i := 4) rfl (x := x4) rfl (hb hby at_127) (q := 128) rfl ?_
      refine s_lastore X hx hZ eT A_a94 N g_a94 (by decide) (i := 4) rfl (Nat.le_of_ble_eq_true rfl) (vs := [x4, x0, x4, x4, x4]) rfl (hb hby at_128) (q := 129) rfl ?_
      intro T h100 _ X N eT W A_a94'
      have A_a86 := A_a86.other W ne_a86_a94
      have sz : n0 ≤ h100.size := by rw [W.size]; exact sz
      have A_a94 := A_a94'
      refine s_astore X hx (hb hby at_129) rfl (L' := #[.val (.long x0), .second, .val (.long x1), .second, .val (.long x2), .second, .val (.long x3), .second, .val (.long x4), .second, .val (.int x5), .val (.int (1 : Int32)), .val (.int (1 : Int32)), .val (.int (2 : Int32)), .val (.ref a86), .val (.ref a94), .unset, .unset]) rfl (q := 131) rfl ?_
      refine s_aload X hx (hb hby at_131) rfl rfl (q := 133) rfl ?_
      refine s_iload X hx (hb hby at_133) rfl (q := 135) rfl ?_
      refine s_iload X hx (hb hby at_135) rfl (q := 137) rfl ?_
      refine s_lload X hx (hb hby at_137) rfl (q := 139) rfl ?_
      refine callC X hx hZ hown (W := 0) (argsL := [(.ref a86), (.int (1 : Int32)), (.int (2 : Int32)), (.long x3)]) (rest := []) (hw _ (List.mem_of_getElem? (i := 1) rfl)) (hw _ (List.mem_of_getElem? (i := 2) rfl)) (hw _ (List.mem_of_getElem? (i := 3) rfl)) (hw _ (List.mem_of_getElem? (i := 4) rfl)) (by decide) (rm1_12 l Z a0 hw [] a86 x3 x4 x0 x4 x4 x4 h100 n0 sz A_a86 g_a86) eT (by decide) (by decide) (by decide) (by decide) (by rw [hml]; rfl) pd0 rfl rfl (Nat.le_of_ble_eq_true rfl) (hb hby at_139) (q := 142) rfl ?_
      intro v T Lc hQ X
      obtain ⟨h101, eT⟩ : ∃ z, T.heap = z := ⟨_, rfl⟩
      try rw [eT] at hQ
      obtain ⟨rfl, N', K', A_a86'⟩ := hQ
      have N := Fr.app N N'
      have A_a94 := A_a94.keep K' (ninS (Ne.symm ne_a86_a94) nin0)
      have sz : n0 ≤ h101.size := Nat.le_trans sz K'.1
      have A_a86 := A_a86'
      refine s_lload X hx (hb hby at_142) rfl (q := 144) rfl ?_
      refine s_ldc2 X hx hZ hown (hw _ (List.mem_of_getElem? (i := 5) rfl)) (hb hby at_144) (q := 147) rfl ?_
      refine s_lxor X hx (hb hby at_147) (q := 148) rfl ?_
      refine s_lstore X hx (hb hby at_148) (L' := #[.val (.long x0), .second, .val (.long x1), .second, .val (.long x2), .second, .val (.long x3), .second, .val (.long x4), .second, .val (.int x5), .val (.int (1 : Int32)), .val (.int (1 : Int32)), .val (.int (2 : Int32)), .val (.ref a86), .val (.ref a94), .val (.long (x3 ^^^ (-9223372036854775808 : Int64))), .second]) rfl (q := 150) rfl ?_
      refine s_iload X hx (hb hby at_150) rfl (q := 152) rfl ?_
      refine s_iconst X hx (z := (2 : Int32)) (hb hby at_152) rfl (q := 153) rfl ?_
      refine f_icmp_lt X hx (hb hby at_153) (q1 := 169) (by decide) (by decide) (q := 156) rfl (fun _ => ?_) (fun hq => absurd (by decide : (1 : Int32) < (2 : Int32)) hq)
      refine s_iload X hx (hb hby at_169) rfl (q := 171) rfl ?_
      refine s_iconst X hx (z := (3 : Int32)) (hb hby at_171) rfl (q := 172) rfl ?_
      refine f_icmp_ne X hx (hb hby at_172) (q1 := 203) (by decide) (by decide) (q := 175) rfl (fun _ => ?_) (fun hq => absurd hq (by decide : ¬ (1 : Int32) = (3 : Int32)))
      have A_a86 : AJ Z h101 a86 [x4, x0, x4, x4, x4] := A_a86
      refine s_aload X hx (hb hby at_203) rfl rfl (q := 205) rfl ?_
      refine s_iconst X hx (z := (0 : Int32)) (hb hby at_205) rfl (q := 206) rfl ?_
      refine s_laload X hx hZ eT A_a86 (by decide) (i := 0) rfl (x := x4) rfl (hb hby at_206) (q := 207) rfl ?_
      refine s_aload X hx (hb hby at_207) rfl rfl (q := 209) rfl ?_
      refine s_iconst X hx (z := (0 : Int32)) (hb hby at_209) rfl (q := 210) rfl ?_
      refine s_laload X hx hZ eT A_a94 (by decide) (i := 0) rfl (x := x4) rfl (hb hby at_210) (q := 211) rfl ?_
      refine s_lcmp X hx (hb hby at_211) (q := 212) rfl ?_
      refine f_lcmp_ne X hx (hb hby at_212) (q1 := 267) (by decide) (by decide) (q := 215) rfl (fun hq => absurd (rfl : x4 = x4) hq) (fun _ => ?_)
      refine s_aload X hx (hb hby at_215) rfl rfl (q := 217) rfl ?_
      refine s_iconst X hx (z := (1 : Int32)) (hb hby at_217) rfl (q := 218) rfl ?_
      refine s_laload X hx hZ eT A_a86 (by decide) (i := 1) rfl (x := x0) rfl (hb hby at_218) (q := 219) rfl ?_
      refine s_aload X hx (hb hby at_219) rfl rfl (q := 221) rfl ?_
      refine s_iconst X hx (z := (1 : Int32)) (hb hby at_221) rfl (q := 222) rfl ?_
      refine s_laload X hx hZ eT A_a94 (by decide) (i := 1) rfl (x := x0) rfl (hb hby at_222) (q := 223) rfl ?_
      refine s_lcmp X hx (hb hby at_223) (q := 224) rfl ?_
      refine f_lcmp_ne X hx (hb hby at_224) (q1 := 267) (by decide) (by decide) (q := 227) rfl (fun hq => absurd (rfl : x0 = x0) hq) (fun _ => ?_)
      refine s_aload X hx (hb hby at_227) rfl rfl (q := 229) rfl ?_
      refine s_iconst X hx (z := (2 : Int32)) (hb hby at_229) rfl (q := 230) rfl ?_
      refine s_laload X hx hZ eT A_a86 (by decide) (i := 2) rfl (x := x4) rfl (hb hby at_230) (q := 231) rfl ?_
      refine s_aload X hx (hb hby at_231) rfl rfl (q := 233) rfl ?_
      refine s_iconst X hx (z := (2 : Int32)) (hb hby at_233) rfl (q := 234) rfl ?_
      refine s_laload X hx hZ eT A_a94 (by decide) (i := 2) rfl (x := x4) rfl (hb hby at_234) (q := 235) rfl ?_
      refine s_lcmp X hx (hb hby at_235) (q := 236) rfl ?_
      refine f_lcmp_ne X hx (hb hby at_236) (q1 := 267) (by decide) (by decide) (q := 239) rfl (fun hq => absurd (rfl : x4 = x4) hq) (fun _ => ?_)
      refine s_aload X hx (hb hby at_239) rfl rfl (q := 241) rfl ?_
      refine s_iconst X hx (z := (3 : Int32)) (hb hby at_241) rfl (q := 242) rfl ?_
      refine s_laload X hx hZ eT A_a86 (by decide) (i := 3) rfl (x := x4) rfl (hb hby at_242) (q := 243) rfl ?_
      refine s_aload X hx (hb hby at_243) rfl rfl (q := 245) rfl ?_
      refine s_iconst X hx (z := (3 : Int32)) (hb hby at_245) rfl (q := 246) rfl ?_
      refine s_laload X hx hZ eT A_a94 (by decide) (i := 3) rfl (x := x4) rfl (hb hby at_246) (q := 247) rfl ?_
      refine s_lcmp X hx (hb hby at_247) (q := 248) rfl ?_
      refine f_lcmp_ne X hx (hb hby at_248) (q1 := 267) (by decide) (by decide) (q := 251) rfl (fun hq => absurd (rfl : x4 = x4) hq) (fun _ => ?_)
      refine s_aload X hx (hb hby at_251) rfl rfl (q := 253) rfl ?_
      refine s_iconst X hx (z := (4 : Int32)) (hb hby at_253) rfl (q := 254) rfl ?_
      refine s_laload X hx hZ eT A_a86 (by decide) (i := 4) rfl (x := x4) rfl (hb hby at_254) (q := 255) rfl ?_
      refine s_aload X hx (hb hby at_255) rfl rfl (q := 257) rfl ?_
      refine s_iconst X hx (z := (4 : Int32)) (hb hby at_257) rfl (q := 258) rfl ?_
      refine s_laload X hx hZ eT A_a94 (by decide) (i := 4) rfl (x := x4) rfl (hb hby at_258) (q := 259) rfl ?_
      refine s_lcmp X hx (hb hby at_259) (q := 260) rfl ?_
      refine f_lcmp_ne X hx (hb hby at_260) (q1 := 267) (by decide) (by decide) (q := 263) rfl (fun hq => absurd (rfl : x4 = x4) hq) (fun _ => ?_)
      refine s_iconst X hx (z := (1 : Int32)) (hb hby at_263) rfl (q := 264) rfl ?_
      refine s_goto X hx (hb hby at_264) (q1 := 268) (by decide) (by decide) ?_
      exact leafN X hx hlk hret (by simp) (hb hby at_268) (by decide) (by decide) (z' := 1) rfl ⟨rfl, N⟩
    · subst hcase
      refine s_iload X hx (hb hby at_14) rfl (q := 16) rfl ?_
      refine s_iload X hx (hb hby at_16) rfl (q := 18) rfl ?_
      refine s_iadd X hx (hb hby at_18) (q := 19) rfl ?_
      show Go p e below _ T m 19 #[.val (.long x0), .second, .val (.long x1), .second, .val (.long x2), .second, .val (.long x3), .second, .val (.long x4), .second, .val (.int x5), .val (.int (1 : Int32)), .val (.int (2 : Int32)), .unset, .unset, .unset, .unset, .unset] [(.int (3 : Int32))]
      refine s_istore X hx (hb hby at_19) (L' := #[.val (.long x0), .second, .val (.long x1), .second, .val (.long x2), .second, .val (.long x3), .second, .val (.long x4), .second, .val (.int x5), .val (.int (1 : Int32)), .val (.int (2 : Int32)), .val (.int (3 : Int32)), .unset, .unset, .unset, .unset]) rfl (q := 21) rfl ?_
      refine s_iconst X hx (z := (5 : Int32)) (hb hby at_21) rfl (q := 22) rfl ?_
      refine s_newJ X hx hZ (hw _ (List.mem_of_getElem? (i := 0) rfl)) eT (by decide) (cap := 5) (by decide) (by decide) (by decide) (by decide) (vs := [0, 0, 0, 0, 0]) rfl (hb hby at_22) (q := 24) rfl ?_
      intro T h103 a102 X eT E ea A_a102
      have g_a102 : n0 ≤ a102 := by rw [ea]; exact sz
      have sz : n0 ≤ h103.size := Nat.le_trans sz E.1
      refine s_dup X hx (hb hby at_24) rfl (q := 25) rfl ?_
      refine s_iconst X hx (z := (0 : Int32)) (hb hby at_25) rfl (q := 26) rfl ?_
      refine s_lload X hx (hb hby at_26) rfl (q := 28) rfl ?_
      refine s_lastore X hx hZ eT A_a102 N g_a102 (by decide) (i := 0) rfl (Nat.le_of_ble_eq_true rfl) (vs := [x4, 0, 0, 0, 0]) rfl (hb hby at_28) (q := 29) rfl ?_
      intro T h104 _ X N eT W A_a102'
      have sz : n0 ≤ h104.size := by rw [W.size]; exact sz
      have A_a102 := A_a102'
      refine s_dup X hx (hb hby at_29) rfl (q := 30) rfl ?_
      refine s_iconst X hx (z := (1 : Int32)) (hb hby at_30) rfl (q := 31) rfl ?_
      refine s_lload X hx (hb hby at_31) rfl (q := 33) rfl ?_
      refine s_lastore X hx hZ eT A_a102 N g_a102 (by decide) (i := 1) rfl (Nat.le_of_ble_eq_true rfl) (vs := [x4, x4, 0, 0, 0]) rfl (hb hby at_33) (q := 34) rfl ?_
      intro T h105 _ X N eT W A_a102'
      have sz : n0 ≤ h105.size := by rw [W.size]; exact sz
      have A_a102 := A_a102'
      refine s_dup X hx (hb hby at_34) rfl (q := 35) rfl ?_
      refine s_iconst X hx (z := (2 : Int32)) (hb hby at_35) rfl (q := 36) rfl ?_
      refine s_lload X hx (hb hby at_36) rfl (q := 38) rfl ?_
      refine s_lastore X hx hZ eT A_a102 N g_a102 (by decide) (i := 2) rfl (Nat.le_of_ble_eq_true rfl) (vs := [x4, x4, x4, 0, 0]) rfl (hb hby at_38) (q := 39) rfl ?_
      intro T h106 _ X N eT W A_a102'
      have sz : n0 ≤ h106.size := by rw [W.size]; exact sz
      have A_a102 := A_a102'
      refine s_dup X hx (hb hby at_39) rfl (q := 40) rfl ?_
      refine s_iconst X hx (z := (3 : Int32)) (hb hby at_40) rfl (q := 41) rfl ?_
      refine s_lload X hx (hb hby at_41) rfl (q := 43) rfl ?_
      refine s_lastore X hx hZ eT A_a102 N g_a102 (by decide) (i := 3) rfl (Nat.le_of_ble_eq_true rfl) (vs := [x4, x4, x4, x4, 0]) rfl (hb hby at_43) (q := 44) rfl ?_
      intro T h107 _ X N eT W A_a102'
      have sz : n0 ≤ h107.size := by rw [W.size]; exact sz
      have A_a102 := A_a102'
      refine s_dup X hx (hb hby at_44) rfl (q := 45) rfl ?_
      refine s_iconst X hx (z := (4 : Int32)) (hb hby at_45) rfl (q := 46) rfl ?_
      refine s_lload X hx (hb hby at_46) rfl (q := 48) rfl ?_
      refine s_lastore X hx hZ eT A_a102 N g_a102 (by decide) (i := 4) rfl (Nat.le_of_ble_eq_true rfl) (vs := [x4, x4, x4, x4, x4]) rfl (hb hby at_48) (q := 49) rfl ?_
      intro T h108 _ X N eT W A_a102'
      have sz : n0 ≤ h108.size := by rw [W.size]; exact sz
      have A_a102 := A_a102'
      refine s_astore X hx (hb hby at_49) rfl (L' := #[.val (.long x0), .second, .val (.long x1), .second, .val (.long x2), .second, .val (.long x3), .second, .val (.long x4), .second, .val (.int x5), .val (.int (1 : Int32)), .val (.int (2 : Int32)), .val (.int (3 : Int32)), .val (.ref a102), .unset, .unset, .unset]) rfl (q := 51) rfl ?_
      refine s_iload X hx (hb hby at_51) rfl (q := 53) rfl ?_
      refine f_if_le X hx (hb hby at_53) (q1 := 62) (by decide) (by decide) (q := 56) rfl (fun hq => absurd (by decide : 0 < (2 : Int32)) hq) (fun _ => ?_)
      refine s_aload X hx (hb hby at_56) rfl rfl (q := 58) rfl ?_
      refine s_iload X hx (hb hby at_58) rfl (q := 60) rfl ?_
      refine s_lloadN X hx (hb hby at_60) rfl (q := 61) rfl ?_
      refine s_lastore X hx hZ eT A_a102 N g_a102 (by decide) (i := 1) rfl (Nat.le_of_ble_eq_true rfl) (vs := [x4, x0, x4, x4, x4]) rfl (hb hby at_61) (q := 62) rfl ?_
      intro T h109 _ X N eT W A_a102'
      have sz : n0 ≤ h109.size := by rw [W.size]; exact sz
      have A_a102 := A_a102'
      refine s_iload X hx (hb hby at_62) rfl (q := 64) rfl ?_
      refine s_iconst X hx (z := (1 : Int32)) (hb hby at_64) rfl (q := 65) rfl ?_
      refine f_icmp_le X hx (hb hby at_65) (q1 := 76) (by decide) (by decide) (q := 68) rfl (fun hq => absurd (by decide : (1 : Int32) < (2 : Int32)) hq) (fun _ => ?_)
      refine s_aload X hx (hb hby at_68) rfl rfl (q := 70) rfl ?_
      refine s_iload X hx (hb hby at_70) rfl (q := 72) rfl ?_
      refine s_iconst X hx (z := (1 : Int32)) (hb hby at_72) rfl (q := 73) rfl ?_
      refine s_iadd X hx (hb hby at_73) (q := 74) rfl ?_
      show Go p e below _ T m 74 #[.val (.long x0), .second, .val (.long x1), .second, .val (.long x2), .second, .val (.long x3), .second, .val (.long x4), .second, .val (.int x5), .val (.int (1 : Int32)), .val (.int (2 : Int32)), .val (.int (3 : Int32)), .val (.ref a102), .unset, .unset, .unset] [(.int (2 : Int32)), (.ref a102)]
      refine s_lloadN X hx (hb hby at_74) rfl (q := 75) rfl ?_
      refine s_lastore X hx hZ eT A_a102 N g_a102 (by decide) (i := 2) rfl (Nat.le_of_ble_eq_true rfl) (vs := [x4, x0, x1, x4, x4]) rfl (hb hby at_75) (q := 76) rfl ?_
      intro T h110 _ X N eT W A_a102'
      have sz : n0 ≤ h110.size := by rw [W.size]; exact sz
      have A_a102 := A_a102'
      refine s_iload X hx (hb hby at_76) rfl (q := 78) rfl ?_
      refine s_iconst X hx (z := (2 : Int32)) (hb hby at_78) rfl (q := 79) rfl ?_
      refine f_icmp_le X hx (hb hby at_79) (q1 := 91) (by decide) (by decide) (q := 82) rfl (fun _ => ?_) (fun hq => absurd hq (by decide : ¬ (2 : Int32) < (2 : Int32)))
      refine s_iconst X hx (z := (5 : Int32)) (hb hby at_91) rfl (q := 92) rfl ?_
      refine s_newJ X hx hZ (hw _ (List.mem_of_getElem? (i := 0) rfl)) eT (by decide) (cap := 5) (by decide) (by decide) (by decide) (by decide) (vs := [0, 0, 0, 0, 0]) rfl (hb hby at_92) (q := 94) rfl ?_
      intro T h112 a111 X eT E ea A_a111
      have ne_a102_a111 : a102 ≠ a111 := by rw [ea]; exact Nat.ne_of_lt A_a102.lt
      have A_a102 := A_a102.ext E
      have g_a111 : n0 ≤ a111 := by rw [ea]; exact sz
      have sz : n0 ≤ h112.size := Nat.le_trans sz E.1
      refine s_dup X hx (hb hby at_94) rfl (q := 95) rfl ?_
      refine s_iconst X hx (z := (0 : Int32)) (hb hby at_95) rfl (q := 96) rfl ?_
      refine s_aload X hx (hb hby at_96) rfl rfl (q := 98) rfl ?_
      refine s_iconst X hx (z := (0 : Int32)) (hb hby at_98) rfl (q := 99) rfl ?_
      refine s_laload X hx hZ eT A_a102 (by decide) (i := 0) rfl (x := x4) rfl (hb hby at_99) (q := 100) rfl ?_
      refine s_lastore X hx hZ eT A_a111 N g_a111 (by decide) (i := 0) rfl (Nat.le_of_ble_eq_true rfl) (vs := [x4, 0, 0, 0, 0]) rfl (hb hby at_100) (q := 101) rfl ?_
      intro T h113 _ X N eT W A_a111'
      have A_a102 := A_a102.other W ne_a102_a111
      have sz : n0 ≤ h113.size := by rw [W.size]; exact sz
      have A_a111 := A_a111'
      refine s_dup X hx (hb hby at_101) rfl (q := 102) rfl ?_
      refine s_iconst X hx (z := (1 : Int32)) (hb hby at_102) rfl (q := 103) rfl ?_
      refine s_aload X hx (hb hby at_103) rfl rfl (q := 105) rfl ?_
      refine s_iconst X hx (z := (1 : Int32)) (hb hby at_105) rfl (q := 106) rfl ?_
      refine s_laload X hx hZ eT A_a102 (by decide) (i := 1) rfl (x := x0) rfl (hb hby at_106) (q := 107) rfl ?_
      refine s_lastore X hx hZ eT A_a111 N g_a111 (by decide) (i := 1) rfl (Nat.le_of_ble_eq_true rfl) (vs := [x4, x0, 0, 0, 0]) rfl (hb hby at_107) (q := 108) rfl ?_
      intro T h114 _ X N eT W A_a111'
      have A_a102 := A_a102.other W ne_a102_a111
      have sz : n0 ≤ h114.size := by rw [W.size]; exact sz
      have A_a111 := A_a111'
      refine s_dup X hx (hb hby at_108) rfl (q := 109) rfl ?_
      refine s_iconst X hx (z := (2 : Int32)) (hb hby at_109) rfl (q := 110) rfl ?_
      refine s_aload X hx (hb hby at_110) rfl rfl (q := 112) rfl ?_
      refine s_iconst X hx (z := (2 : Int32)) (hb hby at_112) rfl (q := 113) rfl ?_
      refine s_laload X hx hZ eT A_a102 (by decide) (i := 2) rfl (x := x1) rfl (hb hby at_113) (q := 114) rfl ?_
      refine s_lastore X hx hZ eT A_a111 N g_a111 (by decide) (i := 2) rfl (Nat.le_of_ble_eq_true rfl) (vs := [x4, x0, x1, 0, 0]) rfl (hb hby at_114) (q := 115) rfl ?_
      intro T h115 _ X N eT W A_a111'
      have A_a102 := A_a102.other W ne_a102_a111
      have sz : n0 ≤ h115.size := by rw [W.size]; exact sz
      have A_a111 := A_a111'
      refine s_dup X hx (hb hby at_115) rfl (q := 116) rfl ?_
      refine s_iconst X hx (z := (3 : Int32)) (hb hby at_116) rfl (q := 117) rfl ?_
      refine s_aload X hx (hb hby at_117) rfl rfl (q := 119) rfl ?_
      refine s_iconst X hx (z := (3 : Int32)) (hb hby at_119) rfl (q := 120) rfl ?_
      refine s_laload X hx hZ eT A_a102 (by decide) (i := 3) rfl (x := x4) rfl (hb hby at_120) (q := 121) rfl ?_
      refine s_lastore X hx hZ eT A_a111 N g_a111 (by decide) (i := 3) rfl (Nat.le_of_ble_eq_true rfl) (vs := [x4, x0, x1, x4, 0]) rfl (hb hby at_121) (q := 122) rfl ?_
      intro T h116 _ X N eT W A_a111'
      have A_a102 := A_a102.other W ne_a102_a111
      have sz : n0 ≤ h116.size := by rw [W.size]; exact sz
      have A_a111 := A_a111'
      refine s_dup X hx (hb hby at_122) rfl (q := 123) rfl ?_
      refine s_iconst X hx (z := (4 : Int32)) (hb hby at_123) rfl (q := 124) rfl ?_
      refine s_aload X hx (hb hby at_124) rfl rfl (q := 126) rfl ?_
      refine s_iconst X hx (z := (4 : Int32)) (hb hby at_126) rfl (q := 127) rfl ?_
      refine s_laload X hx hZ eT A_a102 (by decide) (i := 4) rfl (x := x4) rfl (hb hby at_127) (q := 128) rfl ?_
      refine s_lastore X hx hZ eT A_a111 N g_a111 (by decide) (i := 4) rfl (Nat.le_of_ble_eq_true rfl) (vs := [x4, x0, x1, x4, x4]) rfl (hb hby at_128) (q := 129) rfl ?_
      intro T h117 _ X N eT W A_a111'
      have A_a102 := A_a102.other W ne_a102_a111
      have sz : n0 ≤ h117.size := by rw [W.size]; exact sz
      have A_a111 := A_a111'
      refine s_astore X hx (hb hby at_129) rfl (L' := #[.val (.long x0), .second, .val (.long x1), .second, .val (.long x2), .second, .val (.long x3), .second, .val (.long x4), .second, .val (.int x5), .val (.int (1 : Int32)), .val (.int (2 : Int32)), .val (.int (3 : Int32)), .val (.ref a102), .val (.ref a111), .unset, .unset]) rfl (q := 131) rfl ?_
      refine s_aload X hx (hb hby at_131) rfl rfl (q := 133) rfl ?_
      refine s_iload X hx (hb hby at_133) rfl (q := 135) rfl ?_
      refine s_iload X hx (hb hby at_135) rfl (q := 137) rfl ?_
      refine s_lload X hx (hb hby at_137) rfl (q := 139) rfl ?_
      refine callC X hx hZ hown (W := 0) (argsL := [(.ref a102), (.int (1 : Int32)), (.int (3 : Int32)), (.long x3)]) (rest := []) (hw _ (List.mem_of_getElem? (i := 1) rfl)) (hw _ (List.mem_of_getElem? (i := 2) rfl)) (hw _ (List.mem_of_getElem? (i := 3) rfl)) (hw _ (List.mem_of_getElem? (i := 4) rfl)) (by decide) (rm1_13 l Z a0 hw [] a102 x3 x4 x0 x1 x4 x4 h117 n0 sz A_a102 g_a102) eT (by decide) (by decide) (by decide) (by decide) (by rw [hml]; rfl) pd0 rfl rfl (Nat.le_of_ble_eq_true rfl) (hb hby at_139) (q := 142) rfl ?_
      intro v T Lc hQ X
      obtain ⟨h118, eT⟩ : ∃ z, T.heap = z := ⟨_, rfl⟩
      try rw [eT] at hQ
      obtain ⟨rfl, N', K', A_a102'⟩ := hQ
      have N := Fr.app N N'
      have A_a111 := A_a111.keep K' (ninS (Ne.symm ne_a102_a111) nin0)
      have sz : n0 ≤ h118.size := Nat.le_trans sz K'.1
      have A_a102 := A_a102'
      refine s_lload X hx (hb hby at_142) rfl (q := 144) rfl ?_
      refine s_ldc2 X hx hZ hown (hw _ (List.mem_of_getElem? (i := 5) rfl)) (hb hby at_144) (q := 147) rfl ?_
      refine s_lxor X hx (hb hby at_147) (q := 148) rfl ?_
      refine s_lstore X hx (hb hby at_148) (L' := #[.val (.long x0), .second, .val (.long x1), .second, .val (.long x2), .second, .val (.long x3), .second, .val (.long x4), .second, .val (.int x5), .val (.int (1 : Int32)), .val (.int (2 : Int32)), .val (.int (3 : Int32)), .val (.ref a102), .val (.ref a111), .val (.long (x3 ^^^ (-9223372036854775808 : Int64))), .second]) rfl (q := 150) rfl ?_
      refine s_iload X hx (hb hby at_150) rfl (q := 152) rfl ?_
      refine s_iconst X hx (z := (2 : Int32)) (hb hby at_152) rfl (q := 153) rfl ?_
      refine f_icmp_lt X hx (hb hby at_153) (q1 := 169) (by decide) (by decide) (q := 156) rfl (fun hq => absurd hq (by decide : ¬ (2 : Int32) < (2 : Int32))) (fun _ => ?_)
      refine s_aload X hx (hb hby at_156) rfl rfl (q := 158) rfl ?_
      refine s_iload X hx (hb hby at_158) rfl (q := 160) rfl ?_
      refine s_iload X hx (hb hby at_160) rfl (q := 162) rfl ?_
      refine s_iconst X hx (z := (1 : Int32)) (hb hby at_162) rfl (q := 163) rfl ?_
      refine s_iadd X hx (hb hby at_163) (q := 164) rfl ?_
      show Go p e below _ T m 164 #[.val (.long x0), .second, .val (.long x1), .second, .val (.long x2), .second, .val (.long x3), .second, .val (.long x4), .second, .val (.int x5), .val (.int (1 : Int32)), .val (.int (2 : Int32)), .val (.int (3 : Int32)), .val (.ref a102), .val (.ref a111), .val (.long (x3 ^^^ (-9223372036854775808 : Int64))), .second] [(.int (2 : Int32)), (.int (1 : Int32)), (.ref a111)]
      refine s_lload X hx (hb hby at_164) rfl (q := 166) rfl ?_
      refine callC X hx hZ hown (W := 0) (argsL := [(.ref a111), (.int (1 : Int32)), (.int (2 : Int32)), (.long (x3 ^^^ (-9223372036854775808 : Int64)))]) (rest := []) (hw _ (List.mem_of_getElem? (i := 7) rfl)) (hw _ (List.mem_of_getElem? (i := 8) rfl)) (hw _ (List.mem_of_getElem? (i := 9) rfl)) (hw _ (List.mem_of_getElem? (i := 10) rfl)) (by decide) (rm2_12 l Z a0 hw [] a111 (x3 ^^^ (-9223372036854775808 : Int64)) [x4, x0, x1, x4, x4] h118 n0 sz A_a111 g_a111 (by first | rfl | (simp only [own_csl]; rfl))) eT (by decide) (by decide) (by decide) (by decide) (by rw [hml]; rfl) pd0 rfl rfl (Nat.le_of_ble_eq_true rfl) (hb hby at_166) (q := 169) rfl ?_
      intro v T Lc hQ X
      obtain ⟨h119, eT⟩ : ∃ z, T.heap = z := ⟨_, rfl⟩
      try rw [eT] at hQ
      obtain ⟨rfl, N', K', A_a111'⟩ := hQ
      have N := Fr.app N N'
      have A_a102 := A_a102.keep K' (ninS ne_a102_a111 nin0)
      have sz : n0 ≤ h119.size := Nat.le_trans sz K'.1
      have A_a111 := A_a111'
      refine s_iload X hx (hb hby at_169) rfl (q := 171) rfl ?_
      refine s_iconst X hx (z := (3 : Int32)) (hb hby at_171) rfl (q := 172) rfl ?_
      refine f_icmp_ne X hx (hb hby at_172) (q1 := 203) (by decide) (by decide) (q := 175) rfl (fun _ => ?_) (fun hq => absurd hq (by decide : ¬ (2 : Int32) = (3 : Int32)))
      rw [own_srt13] at A_a102
      refine s_aload X hx (hb hby at_203) rfl rfl (q := 205) rfl ?_
      refine s_iconst X hx (z := (0 : Int32)) (hb hby at_205) rfl (q := 206) rfl ?_
      refine s_laload X hx hZ eT A_a102 (by decide) (i := 0) rfl (x := (((CSF 1 2 (x3 ^^^ (-9223372036854775808 : Int64)) [x4, x0, x1, x4, x4])).getD 0 0)) (own_get _ (by first | exact Nat.le_of_ble_eq_true rfl | (simp only [own_csl]; exact Nat.le_of_ble_eq_true rfl))) (hb hby at_206) (q := 207) rfl ?_
      refine s_aload X hx (hb hby at_207) rfl rfl (q := 209) rfl ?_
      refine s_iconst X hx (z := (0 : Int32)) (hb hby at_209) rfl (q := 210) rfl ?_
      refine s_laload X hx hZ eT A_a111 (by decide) (i := 0) rfl (x := (((CSF 1 2 (x3 ^^^ (-9223372036854775808 : Int64)) [x4, x0, x1, x4, x4])).getD 0 0)) (own_get _ (by first | exact Nat.le_of_ble_eq_true rfl | (simp only [own_csl]; exact Nat.le_of_ble_eq_true rfl))) (hb hby at_210) (q := 211) rfl ?_
      refine s_lcmp X hx (hb hby at_211) (q := 212) rfl ?_
      refine f_lcmp_ne X hx (hb hby at_212) (q1 := 267) (by decide) (by decide) (q := 215) rfl (fun hq => absurd (rfl : (((CSF 1 2 (x3 ^^^ (-9223372036854775808 : Int64)) [x4, x0, x1, x4, x4])).getD 0 0) = (((CSF 1 2 (x3 ^^^ (-9223372036854775808 : Int64)) [x4, x0, x1, x4, x4])).getD 0 0)) hq) (fun _ => ?_)
      refine s_aload X hx (hb hby at_215) rfl rfl (q := 217) rfl ?_
      refine s_iconst X hx (z := (1 : Int32)) (hb hby at_217) rfl (q := 218) rfl ?_
      refine s_laload X hx hZ eT A_a102 (by decide) (i := 1) rfl (x := (((CSF 1 2 (x3 ^^^ (-9223372036854775808 : Int64)) [x4, x0, x1, x4, x4])).getD 1 0)) (own_get _ (by first | exact Nat.le_of_ble_eq_true rfl | (simp only [own_csl]; exact Nat.le_of_ble_eq_true rfl))) (hb hby at_218) (q := 219) rfl ?_
      refine s_aload X hx (hb hby at_219) rfl rfl (q := 221) rfl ?_
      refine s_iconst X hx (z := (1 : Int32)) (hb hby at_221) rfl (q := 222) rfl ?_
      refine s_laload X hx hZ eT A_a111 (by decide) (i := 1) rfl (x := (((CSF 1 2 (x3 ^^^ (-9223372036854775808 : Int64)) [x4, x0, x1, x4, x4])).getD 1 0)) (own_get _ (by first | exact Nat.le_of_ble_eq_true rfl | (simp only [own_csl]; exact Nat.le_of_ble_eq_true rfl))) (hb hby at_222) (q := 223) rfl ?_
      refine s_lcmp X hx (hb hby at_223) (q := 224) rfl ?_
      refine f_lcmp_ne X hx (hb hby at_224) (q1 := 267) (by decide) (by decide) (q := 227) rfl (fun hq => absurd (rfl : (((CSF 1 2 (x3 ^^^ (-9223372036854775808 : Int64)) [x4, x0, x1, x4, x4])).getD 1 0) = (((CSF 1 2 (x3 ^^^ (-9223372036854775808 : Int64)) [x4, x0, x1, x4, x4])).getD 1 0)) hq) (fun _ => ?_)
      refine s_aload X hx (hb hby at_227) rfl rfl (q := 229) rfl ?_
      refine s_iconst X hx (z := (2 : Int32)) (hb hby at_229) rfl (q := 230) rfl ?_
      refine s_laload X hx hZ eT A_a102 (by decide) (i := 2) rfl (x := (((CSF 1 2 (x3 ^^^ (-9223372036854775808 : Int64)) [x4, x0, x1, x4, x4])).getD 2 0)) (own_get _ (by first | exact Nat.le_of_ble_eq_true rfl | (simp only [own_csl]; exact Nat.le_of_ble_eq_true rfl))) (hb hby at_230) (q := 231) rfl ?_
      refine s_aload X hx (hb hby at_231) rfl rfl (q := 233) rfl ?_
      refine s_iconst X hx (z := (2 : Int32)) (hb hby at_233) rfl (q := 234) rfl ?_
      refine s_laload X hx hZ eT A_a111 (by decide) (i := 2) rfl (x := (((CSF 1 2 (x3 ^^^ (-9223372036854775808 : Int64)) [x4, x0, x1, x4, x4])).getD 2 0)) (own_get _ (by first | exact Nat.le_of_ble_eq_true rfl | (simp only [own_csl]; exact Nat.le_of_ble_eq_true rfl))) (hb hby at_234) (q := 235) rfl ?_
      refine s_lcmp X hx (hb hby at_235) (q := 236) rfl ?_
      refine f_lcmp_ne X hx (hb hby at_236) (q1 := 267) (by decide) (by decide) (q := 239) rfl (fun hq => absurd (rfl : (((CSF 1 2 (x3 ^^^ (-9223372036854775808 : Int64)) [x4, x0, x1, x4, x4])).getD 2 0) = (((CSF 1 2 (x3 ^^^ (-9223372036854775808 : Int64)) [x4, x0, x1, x4, x4])).getD 2 0)) hq) (fun _ => ?_)
      refine s_aload X hx (hb hby at_239) rfl rfl (q := 241) rfl ?_
      refine s_iconst X hx (z := (3 : Int32)) (hb hby at_241) rfl (q := 242) rfl ?_
      refine s_laload X hx hZ eT A_a102 (by decide) (i := 3) rfl (x := (((CSF 1 2 (x3 ^^^ (-9223372036854775808 : Int64)) [x4, x0, x1, x4, x4])).getD 3 0)) (own_get _ (by first | exact Nat.le_of_ble_eq_true rfl | (simp only [own_csl]; exact Nat.le_of_ble_eq_true rfl))) (hb hby at_242) (q := 243) rfl ?_
      refine s_aload X hx (hb hby at_243) rfl rfl (q := 245) rfl ?_
      refine s_iconst X hx (z := (3 : Int32)) (hb hby at_245) rfl (q := 246) rfl ?_
      refine s_laload X hx hZ eT A_a111 (by decide) (i := 3) rfl (x := (((CSF 1 2 (x3 ^^^ (-9223372036854775808 : Int64)) [x4, x0, x1, x4, x4])).getD 3 0)) (own_get _ (by first | exact Nat.le_of_ble_eq_true rfl | (simp only [own_csl]; exact Nat.le_of_ble_eq_true rfl))) (hb hby at_246) (q := 247) rfl ?_
      refine s_lcmp X hx (hb hby at_247) (q := 248) rfl ?_
      refine f_lcmp_ne X hx (hb hby at_248) (q1 := 267) (by decide) (by decide) (q := 251) rfl (fun hq => absurd (rfl : (((CSF 1 2 (x3 ^^^ (-9223372036854775808 : Int64)) [x4, x0, x1, x4, x4])).getD 3 0) = (((CSF 1 2 (x3 ^^^ (-9223372036854775808 : Int64)) [x4, x0, x1, x4, x4])).getD 3 0)) hq) (fun _ => ?_)
      refine s_aload X hx (hb hby at_251) rfl rfl (q := 253) rfl ?_
      refine s_iconst X hx (z := (4 : Int32)) (hb hby at_253) rfl (q := 254) rfl ?_
      refine s_laload X hx hZ eT A_a102 (by decide) (i := 4) rfl (x := (((CSF 1 2 (x3 ^^^ (-9223372036854775808 : Int64)) [x4, x0, x1, x4, x4])).getD 4 0)) (own_get _ (by first | exact Nat.le_of_ble_eq_true rfl | (simp only [own_csl]; exact Nat.le_of_ble_eq_true rfl))) (hb hby at_254) (q := 255) rfl ?_
      refine s_aload X hx (hb hby at_255) rfl rfl (q := 257) rfl ?_
      refine s_iconst X hx (z := (4 : Int32)) (hb hby at_257) rfl (q := 258) rfl ?_
      refine s_laload X hx hZ eT A_a111 (by decide) (i := 4) rfl (x := (((CSF 1 2 (x3 ^^^ (-9223372036854775808 : Int64)) [x4, x0, x1, x4, x4])).getD 4 0)) (own_get _ (by first | exact Nat.le_of_ble_eq_true rfl | (simp only [own_csl]; exact Nat.le_of_ble_eq_true rfl))) (hb hby at_258) (q := 259) rfl ?_
      refine s_lcmp X hx (hb hby at_259) (q := 260) rfl ?_
      refine f_lcmp_ne X hx (hb hby at_260) (q1 := 267) (by decide) (by decide) (q := 263) rfl (fun hq => absurd (rfl : (((CSF 1 2 (x3 ^^^ (-9223372036854775808 : Int64)) [x4, x0, x1, x4, x4])).getD 4 0) = (((CSF 1 2 (x3 ^^^ (-9223372036854775808 : Int64)) [x4, x0, x1, x4, x4])).getD 4 0)) hq) (fun _ => ?_)
      refine s_iconst X hx (z := (1 : Int32)) (hb hby at_263) rfl (q := 264) rfl ?_
      refine s_goto X hx (hb hby at_264) (q1 := 268) (by decide) (by decide) ?_
      exact leafN X hx hlk hret (by simp) (hb hby at_268) (by decide) (by decide) (z' := 1) rfl ⟨rfl, N⟩
    · subst hcase
      refine s_iload X hx (hb hby at_14) rfl (q := 16) rfl ?_
      refine s_iload X hx (hb hby at_16) rfl (q := 18) rfl ?_
      refine s_iadd X hx (hb hby at_18) (q := 19) rfl ?_
      show Go p e below _ T m 19 #[.val (.long x0), .second, .val (.long x1), .second, .val (.long x2), .second, .val (.long x3), .second, .val (.long x4), .second, .val (.int x5), .val (.int (1 : Int32)), .val (.int (3 : Int32)), .unset, .unset, .unset, .unset, .unset] [(.int (4 : Int32))]
      refine s_istore X hx (hb hby at_19) (L' := #[.val (.long x0), .second, .val (.long x1), .second, .val (.long x2), .second, .val (.long x3), .second, .val (.long x4), .second, .val (.int x5), .val (.int (1 : Int32)), .val (.int (3 : Int32)), .val (.int (4 : Int32)), .unset, .unset, .unset, .unset]) rfl (q := 21) rfl ?_
      refine s_iconst X hx (z := (5 : Int32)) (hb hby at_21) rfl (q := 22) rfl ?_
      refine s_newJ X hx hZ (hw _ (List.mem_of_getElem? (i := 0) rfl)) eT (by decide) (cap := 5) (by decide) (by decide) (by decide) (by decide) (vs := [0, 0, 0, 0, 0]) rfl (hb hby at_22) (q := 24) rfl ?_
      intro T h121 a120 X eT E ea A_a120
      have g_a120 : n0 ≤ a120 := by rw [ea]; exact sz
      have sz : n0 ≤ h121.size := Nat.le_trans sz E.1
      refine s_dup X hx (hb hby at_24) rfl (q := 25) rfl ?_
      refine s_iconst X hx (z := (0 : Int32)) (hb hby at_25) rfl (q := 26) rfl ?_
      refine s_lload X hx (hb hby at_26) rfl (q := 28) rfl ?_
      refine s_lastore X hx hZ eT A_a120 N g_a120 (by decide) (i := 0) rfl (Nat.le_of_ble_eq_true rfl) (vs := [x4, 0, 0, 0, 0]) rfl (hb hby at_28) (q := 29) rfl ?_
      intro T h122 _ X N eT W A_a120'
      have sz : n0 ≤ h122.size := by rw [W.size]; exact sz
      have A_a120 := A_a120'
      refine s_dup X hx (hb hby at_29) rfl (q := 30) rfl ?_
      refine s_iconst X hx (z := (1 : Int32)) (hb hby at_30) rfl (q := 31) rfl ?_
      refine s_lload X hx (hb hby at_31) rfl (q := 33) rfl ?_
      refine s_lastore X hx hZ eT A_a120 N g_a120 (by decide) (i := 1) rfl (Nat.le_of_ble_eq_true rfl) (vs := [x4, x4, 0, 0, 0]) rfl (hb hby at_33) (q := 34) rfl ?_
      intro T h123 _ X N eT W A_a120'
      have sz : n0 ≤ h123.size := by rw [W.size]; exact sz
      have A_a120 := A_a120'
      refine s_dup X hx (hb hby at_34) rfl (q := 35) rfl ?_
      refine s_iconst X hx (z := (2 : Int32)) (hb hby at_35) rfl (q := 36) rfl ?_
      refine s_lload X hx (hb hby at_36) rfl (q := 38) rfl ?_
      refine s_lastore X hx hZ eT A_a120 N g_a120 (by decide) (i := 2) rfl (Nat.le_of_ble_eq_true rfl) (vs := [x4, x4, x4, 0, 0]) rfl (hb hby at_38) (q := 39) rfl ?_
      intro T h124 _ X N eT W A_a120'
      have sz : n0 ≤ h124.size := by rw [W.size]; exact sz
      have A_a120 := A_a120'
      refine s_dup X hx (hb hby at_39) rfl (q := 40) rfl ?_
      refine s_iconst X hx (z := (3 : Int32)) (hb hby at_40) rfl (q := 41) rfl ?_
      refine s_lload X hx (hb hby at_41) rfl (q := 43) rfl ?_
      refine s_lastore X hx hZ eT A_a120 N g_a120 (by decide) (i := 3) rfl (Nat.le_of_ble_eq_true rfl) (vs := [x4, x4, x4, x4, 0]) rfl (hb hby at_43) (q := 44) rfl ?_
      intro T h125 _ X N eT W A_a120'
      have sz : n0 ≤ h125.size := by rw [W.size]; exact sz
      have A_a120 := A_a120'
      refine s_dup X hx (hb hby at_44) rfl (q := 45) rfl ?_
      refine s_iconst X hx (z := (4 : Int32)) (hb hby at_45) rfl (q := 46) rfl ?_
      refine s_lload X hx (hb hby at_46) rfl (q := 48) rfl ?_
      refine s_lastore X hx hZ eT A_a120 N g_a120 (by decide) (i := 4) rfl (Nat.le_of_ble_eq_true rfl) (vs := [x4, x4, x4, x4, x4]) rfl (hb hby at_48) (q := 49) rfl ?_
      intro T h126 _ X N eT W A_a120'
      have sz : n0 ≤ h126.size := by rw [W.size]; exact sz
      have A_a120 := A_a120'
      refine s_astore X hx (hb hby at_49) rfl (L' := #[.val (.long x0), .second, .val (.long x1), .second, .val (.long x2), .second, .val (.long x3), .second, .val (.long x4), .second, .val (.int x5), .val (.int (1 : Int32)), .val (.int (3 : Int32)), .val (.int (4 : Int32)), .val (.ref a120), .unset, .unset, .unset]) rfl (q := 51) rfl ?_
      refine s_iload X hx (hb hby at_51) rfl (q := 53) rfl ?_
      refine f_if_le X hx (hb hby at_53) (q1 := 62) (by decide) (by decide) (q := 56) rfl (fun hq => absurd (by decide : 0 < (3 : Int32)) hq) (fun _ => ?_)
      refine s_aload X hx (hb hby at_56) rfl rfl (q := 58) rfl ?_
      refine s_iload X hx (hb hby at_58) rfl (q := 60) rfl ?_
      refine s_lloadN X hx (hb hby at_60) rfl (q := 61) rfl ?_
      refine s_lastore X hx hZ eT A_a120 N g_a120 (by decide) (i := 1) rfl (Nat.le_of_ble_eq_true rfl) (vs := [x4, x0, x4, x4, x4]) rfl (hb hby at_61) (q := 62) rfl ?_
      intro T h127 _ X N eT W A_a120'
      have sz : n0 ≤ h127.size := by rw [W.size]; exact sz
      have A_a120 := A_a120'
      refine s_iload X hx (hb hby at_62) rfl (q := 64) rfl ?_
      refine s_iconst X hx (z := (1 : Int32)) (hb hby at_64) rfl (q := 65) rfl ?_
      refine f_icmp_le X hx (hb hby at_65) (q1 := 76) (by decide) (by decide) (q := 68) rfl (fun hq => absurd (by decide : (1 : Int32) < (3 : Int32)) hq) (fun _ => ?_)
      refine s_aload X hx (hb hby at_68) rfl rfl (q := 70) rfl ?_
      refine s_iload X hx (hb hby at_70) rfl (q := 72) rfl ?_
      refine s_iconst X hx (z := (1 : Int32)) (hb hby at_72) rfl (q := 73) rfl ?_
      refine s_iadd X hx (hb hby at_73) (q := 74) rfl ?_
      show Go p e below _ T m 74 #[.val (.long x0), .second, .val (.long x1), .second, .val (.long x2), .second, .val (.long x3), .second, .val (.long x4), .second, .val (.int x5), .val (.int (1 : Int32)), .val (.int (3 : Int32)), .val (.int (4 : Int32)), .val (.ref a120), .unset, .unset, .unset] [(.int (2 : Int32)), (.ref a120)]
      refine s_lloadN X hx (hb hby at_74) rfl (q := 75) rfl ?_
      refine s_lastore X hx hZ eT A_a120 N g_a120 (by decide) (i := 2) rfl (Nat.le_of_ble_eq_true rfl) (vs := [x4, x0, x1, x4, x4]) rfl (hb hby at_75) (q := 76) rfl ?_
      intro T h128 _ X N eT W A_a120'
      have sz : n0 ≤ h128.size := by rw [W.size]; exact sz
      have A_a120 := A_a120'
      refine s_iload X hx (hb hby at_76) rfl (q := 78) rfl ?_
      refine s_iconst X hx (z := (2 : Int32)) (hb hby at_78) rfl (q := 79) rfl ?_
      refine f_icmp_le X hx (hb hby at_79) (q1 := 91) (by decide) (by decide) (q := 82) rfl (fun hq => absurd (by decide : (2 : Int32) < (3 : Int32)) hq) (fun _ => ?_)
      refine s_aload X hx (hb hby at_82) rfl rfl (q := 84) rfl ?_
      refine s_iload X hx (hb hby at_84) rfl (q := 86) rfl ?_
      refine s_iconst X hx (z := (2 : Int32)) (hb hby at_86) rfl (q := 87) rfl ?_
      refine s_iadd X hx (hb hby at_87) (q := 88) rfl ?_
      show Go p e below _ T m 88 #[.val (.long x0), .second, .val (.long x1), .second, .val (.long x2), .second, .val (.long x3), .second, .val (.long x4), .second, .val (.int x5), .val (.int (1 : Int32)), .val (.int (3 : Int32)), .val (.int (4 : Int32)), .val (.ref a120), .unset, .unset, .unset] [(.int (3 : Int32)), (.ref a120)]
      refine s_lload X hx (hb hby at_88) rfl (q := 90) rfl ?_
      refine s_lastore X hx hZ eT A_a120 N g_a120 (by decide) (i := 3) rfl (Nat.le_of_ble_eq_true rfl) (vs := [x4, x0, x1, x2, x4]) rfl (hb hby at_90) (q := 91) rfl ?_
      intro T h129 _ X N eT W A_a120'
      have sz : n0 ≤ h129.size := by rw [W.size]; exact sz
      have A_a120 := A_a120'
      refine s_iconst X hx (z := (5 : Int32)) (hb hby at_91) rfl (q := 92) rfl ?_
      refine s_newJ X hx hZ (hw _ (List.mem_of_getElem? (i := 0) rfl)) eT (by decide) (cap := 5) (by decide) (by decide) (by decide) (by decide) (vs := [0, 0, 0, 0, 0]) rfl (hb hby at_92) (q := 94) rfl ?_
      intro T h131 a130 X eT E ea A_a130
      have ne_a120_a130 : a120 ≠ a130 := by rw [ea]; exact Nat.ne_of_lt A_a120.lt
      have A_a120 := A_a120.ext E
      have g_a130 : n0 ≤ a130 := by rw [ea]; exact sz
      have sz : n0 ≤ h131.size := Nat.le_trans sz E.1
      refine s_dup X hx (hb hby at_94) rfl (q := 95) rfl ?_
      refine s_iconst X hx (z := (0 : Int32)) (hb hby at_95) rfl (q := 96) rfl ?_
      refine s_aload X hx (hb hby at_96) rfl rfl (q := 98) rfl ?_
      refine s_iconst X hx (z := (0 : Int32)) (hb hby at_98) rfl (q := 99) rfl ?_
      refine s_laload X hx hZ eT A_a120 (by decide) (i := 0) rfl (x := x4) rfl (hb hby at_99) (q := 100) rfl ?_
      refine s_lastore X hx hZ eT A_a130 N g_a130 (by decide) (i := 0) rfl (Nat.le_of_ble_eq_true rfl) (vs := [x4, 0, 0, 0, 0]) rfl (hb hby at_100) (q := 101) rfl ?_
      intro T h132 _ X N eT W A_a130'
      have A_a120 := A_a120.other W ne_a120_a130
      have sz : n0 ≤ h132.size := by rw [W.size]; exact sz
      have A_a130 := A_a130'
      refine s_dup X hx (hb hby at_101) rfl (q := 102) rfl ?_
      refine s_iconst X hx (z := (1 : Int32)) (hb hby at_102) rfl (q := 103) rfl ?_
      refine s_aload X hx (hb hby at_103) rfl rfl (q := 105) rfl ?_
      refine s_iconst X hx (z := (1 : Int32)) (hb hby at_105) rfl (q := 106) rfl ?_
      refine s_laload X hx hZ eT A_a120 (by decide) (i := 1) rfl (x := x0) rfl (hb hby at_106) (q := 107) rfl ?_
      refine s_lastore X hx hZ eT A_a130 N g_a130 (by decide) (i := 1) rfl (Nat.le_of_ble_eq_true rfl) (vs := [x4, x0, 0, 0, 0]) rfl (hb hby at_107) (q := 108) rfl ?_
      intro T h133 _ X N eT W A_a130'
      have A_a120 := A_a120.other W ne_a120_a130
      have sz : n0 ≤ h133.size := by rw [W.size]; exact sz
      have A_a130 := A_a130'
      refine s_dup X hx (hb hby at_108) rfl (q := 109) rfl ?_
      refine s_iconst X hx (z := (2 : Int32)) (hb hby at_109) rfl (q := 110) rfl ?_
      refine s_aload X hx (hb hby at_110) rfl rfl (q := 112) rfl ?_
      refine s_iconst X hx (z := (2 : Int32)) (hb hby at_112) rfl (q := 113) rfl ?_
      refine s_laload X hx hZ eT A_a120 (by decide) (i := 2) rfl (x := x1) rfl (hb hby at_113) (q := 114) rfl ?_
      refine s_lastore X hx hZ eT A_a130 N g_a130 (by decide) (i := 2) rfl (Nat.le_of_ble_eq_true rfl) (vs := [x4, x0, x1, 0, 0]) rfl (hb hby at_114) (q := 115) rfl ?_
      intro T h134 _ X N eT W A_a130'
      have A_a120 := A_a120.other W ne_a120_a130
      have sz : n0 ≤ h134.size := by rw [W.size]; exact sz
      have A_a130 := A_a130'
      refine s_dup X hx (hb hby at_115) rfl (q := 116) rfl ?_
      refine s_iconst X hx (z := (3 : Int32)) (hb hby at_116) rfl (q := 117) rfl ?_
      refine s_aload X hx (hb hby at_117) rfl rfl (q := 119) rfl ?_
      refine s_iconst X hx (z := (3 : Int32)) (hb hby at_119) rfl (q := 120) rfl ?_
      refine s_laload X hx hZ eT A_a120 (by decide) (i := 3) rfl (x := x2) rfl (hb hby at_120) (q := 121) rfl ?_
      refine s_lastore X hx hZ eT A_a130 N g_a130 (by decide) (i := 3) rfl (Nat.le_of_ble_eq_true rfl) (vs := [x4, x0, x1, x2, 0]) rfl (hb hby at_121) (q := 122) rfl ?_
      intro T h135 _ X N eT W A_a130'
      have A_a120 := A_a120.other W ne_a120_a130
      have sz : n0 ≤ h135.size := by rw [W.size]; exact sz
      have A_a130 := A_a130'
      refine s_dup X hx (hb hby at_122) rfl (q := 123) rfl ?_
      refine s_iconst X hx (z := (4 : Int32)) (hb hby at_123) rfl (q := 124) rfl ?_
      refine s_aload X hx (hb hby at_124) rfl rfl (q := 126) rfl ?_
      refine s_iconst X hx (z := (4 : Int32)) (hb hby at_126) rfl (q := 127) rfl ?_
      refine s_laload X hx hZ eT A_a120 (by decide) (i := 4) rfl (x := x4) rfl (hb hby at_127) (q := 128) rfl ?_
      refine s_lastore X hx hZ eT A_a130 N g_a130 (by decide) (i := 4) rfl (Nat.le_of_ble_eq_true rfl) (vs := [x4, x0, x1, x2, x4]) rfl (hb hby at_128) (q := 129) rfl ?_
      intro T h136 _ X N eT W A_a130'
      have A_a120 := A_a120.other W ne_a120_a130
      have sz : n0 ≤ h136.size := by rw [W.size]; exact sz
      have A_a130 := A_a130'
      refine s_astore X hx (hb hby at_129) rfl (L' := #[.val (.long x0), .second, .val (.long x1), .second, .val (.long x2), .second, .val (.long x3), .second, .val (.long x4), .second, .val (.int x5), .val (.int (1 : Int32)), .val (.int (3 : Int32)), .val (.int (4 : Int32)), .val (.ref a120), .val (.ref a130), .unset, .unset]) rfl (q := 131) rfl ?_
      refine s_aload X hx (hb hby at_131) rfl rfl (q := 133) rfl ?_
      refine s_iload X hx (hb hby at_133) rfl (q := 135) rfl ?_
      refine s_iload X hx (hb hby at_135) rfl (q := 137) rfl ?_
      refine s_lload X hx (hb hby at_137) rfl (q := 139) rfl ?_
      refine callC X hx hZ hown (W := 0) (argsL := [(.ref a120), (.int (1 : Int32)), (.int (4 : Int32)), (.long x3)]) (rest := []) (hw _ (List.mem_of_getElem? (i := 1) rfl)) (hw _ (List.mem_of_getElem? (i := 2) rfl)) (hw _ (List.mem_of_getElem? (i := 3) rfl)) (hw _ (List.mem_of_getElem? (i := 4) rfl)) (by decide) (rm1_14 l Z a0 hw [] a120 x3 x4 x0 x1 x2 x4 h136 n0 sz A_a120 g_a120) eT (by decide) (by decide) (by decide) (by decide) (by rw [hml]; rfl) pd0 rfl rfl (Nat.le_of_ble_eq_true rfl) (hb hby at_139) (q := 142) rfl ?_
      intro v T Lc hQ X
      obtain ⟨h137, eT⟩ : ∃ z, T.heap = z := ⟨_, rfl⟩
      try rw [eT] at hQ
      obtain ⟨rfl, N', K', A_a120'⟩ := hQ
      have N := Fr.app N N'
      have A_a130 := A_a130.keep K' (ninS (Ne.symm ne_a120_a130) nin0)
      have sz : n0 ≤ h137.size := Nat.le_trans sz K'.1
      have A_a120 := A_a120'
      refine s_lload X hx (hb hby at_142) rfl (q := 144) rfl ?_
      refine s_ldc2 X hx hZ hown (hw _ (List.mem_of_getElem? (i := 5) rfl)) (hb hby at_144) (q := 147) rfl ?_
      refine s_lxor X hx (hb hby at_147) (q := 148) rfl ?_
      refine s_lstore X hx (hb hby at_148) (L' := #[.val (.long x0), .second, .val (.long x1), .second, .val (.long x2), .second, .val (.long x3), .second, .val (.long x4), .second, .val (.int x5), .val (.int (1 : Int32)), .val (.int (3 : Int32)), .val (.int (4 : Int32)), .val (.ref a120), .val (.ref a130), .val (.long (x3 ^^^ (-9223372036854775808 : Int64))), .second]) rfl (q := 150) rfl ?_
      refine s_iload X hx (hb hby at_150) rfl (q := 152) rfl ?_
      refine s_iconst X hx (z := (2 : Int32)) (hb hby at_152) rfl (q := 153) rfl ?_
      refine f_icmp_lt X hx (hb hby at_153) (q1 := 169) (by decide) (by decide) (q := 156) rfl (fun hq => absurd hq (by decide : ¬ (3 : Int32) < (2 : Int32))) (fun _ => ?_)
      refine s_aload X hx (hb hby at_156) rfl rfl (q := 158) rfl ?_
      refine s_iload X hx (hb hby at_158) rfl (q := 160) rfl ?_
      refine s_iload X hx (hb hby at_160) rfl (q := 162) rfl ?_
      refine s_iconst X hx (z := (1 : Int32)) (hb hby at_162) rfl (q := 163) rfl ?_
      refine s_iadd X hx (hb hby at_163) (q := 164) rfl ?_
      show Go p e below _ T m 164 #[.val (.long x0), .second, .val (.long x1), .second, .val (.long x2), .second, .val (.long x3), .second, .val (.long x4), .second, .val (.int x5), .val (.int (1 : Int32)), .val (.int (3 : Int32)), .val (.int (4 : Int32)), .val (.ref a120), .val (.ref a130), .val (.long (x3 ^^^ (-9223372036854775808 : Int64))), .second] [(.int (2 : Int32)), (.int (1 : Int32)), (.ref a130)]
      refine s_lload X hx (hb hby at_164) rfl (q := 166) rfl ?_
      refine callC X hx hZ hown (W := 0) (argsL := [(.ref a130), (.int (1 : Int32)), (.int (2 : Int32)), (.long (x3 ^^^ (-9223372036854775808 : Int64)))]) (rest := []) (hw _ (List.mem_of_getElem? (i := 7) rfl)) (hw _ (List.mem_of_getElem? (i := 8) rfl)) (hw _ (List.mem_of_getElem? (i := 9) rfl)) (hw _ (List.mem_of_getElem? (i := 10) rfl)) (by decide) (rm2_12 l Z a0 hw [] a130 (x3 ^^^ (-9223372036854775808 : Int64)) [x4, x0, x1, x2, x4] h137 n0 sz A_a130 g_a130 (by first | rfl | (simp only [own_csl]; rfl))) eT (by decide) (by decide) (by decide) (by decide) (by rw [hml]; rfl) pd0 rfl rfl (Nat.le_of_ble_eq_true rfl) (hb hby at_166) (q := 169) rfl ?_
      intro v T Lc hQ X
      obtain ⟨h138, eT⟩ : ∃ z, T.heap = z := ⟨_, rfl⟩
      try rw [eT] at hQ
      obtain ⟨rfl, N', K', A_a130'⟩ := hQ
      have N := Fr.app N N'
      have A_a120 := A_a120.keep K' (ninS ne_a120_a130 nin0)
      have sz : n0 ≤ h138.size := Nat.le_trans sz K'.1
      have A_a130 := A_a130'
      refine s_iload X hx (hb hby at_169) rfl (q := 171) rfl ?_
      refine s_iconst X hx (z := (3 : Int32)) (hb hby at_171) rfl (q := 172) rfl ?_
      refine f_icmp_ne X hx (hb hby at_172) (q1 := 203) (by decide) (by decide) (q := 175) rfl (fun hq => absurd (by decide : (3 : Int32) = (3 : Int32)) hq) (fun _ => ?_)
      refine s_aload X hx (hb hby at_175) rfl rfl (q := 177) rfl ?_
      refine s_iload X hx (hb hby at_177) rfl (q := 179) rfl ?_
      refine s_iconst X hx (z := (1 : Int32)) (hb hby at_179) rfl (q := 180) rfl ?_
      refine s_iadd X hx (hb hby at_180) (q := 181) rfl ?_
      show Go p e below _ T m 181 #[.val (.long x0), .second, .val (.long x1), .second, .val (.long x2), .second, .val (.long x3), .second, .val (.long x4), .second, .val (.int x5), .val (.int (1 : Int32)), .val (.int (3 : Int32)), .val (.int (4 : Int32)), .val (.ref a120), .val (.ref a130), .val (.long (x3 ^^^ (-9223372036854775808 : Int64))), .second] [(.int (2 : Int32)), (.ref a130)]
      refine s_iload X hx (hb hby at_181) rfl (q := 183) rfl ?_
      refine s_iconst X hx (z := (2 : Int32)) (hb hby at_183) rfl (q := 184) rfl ?_
      refine s_iadd X hx (hb hby at_184) (q := 185) rfl ?_
      show Go p e below _ T m 185 #[.val (.long x0), .second, .val (.long x1), .second, .val (.long x2), .second, .val (.long x3), .second, .val (.long x4), .second, .val (.int x5), .val (.int (1 : Int32)), .val (.int (3 : Int32)), .val (.int (4 : Int32)), .val (.ref a120), .val (.ref a130), .val (.long (x3 ^^^ (-9223372036854775808 : Int64))), .second] [(.int (3 : Int32)), (.int (2 : Int32)), (.ref a130)]
      refine s_lload X hx (hb hby at_185) rfl (q := 187) rfl ?_
      refine callC X hx hZ hown (W := 0) (argsL := [(.ref a130), (.int (2 : Int32)), (.int (3 : Int32)), (.long (x3 ^^^ (-9223372036854775808 : Int64)))]) (rest := []) (hw _ (List.mem_of_getElem? (i := 7) rfl)) (hw _ (List.mem_of_getElem? (i := 8) rfl)) (hw _ (List.mem_of_getElem? (i := 9) rfl)) (hw _ (List.mem_of_getElem? (i := 10) rfl)) (by decide) (rm2_23 l Z a0 hw [] a130 (x3 ^^^ (-9223372036854775808 : Int64)) (CSF 1 2 (x3 ^^^ (-9223372036854775808 : Int64)) [x4, x0, x1, x2, x4]) h138 n0 sz A_a130 g_a130 (by first | rfl | (simp only [own_csl]; rfl))) eT (by decide) (by decide) (by decide) (by decide) (by rw [hml]; rfl) pd0 rfl rfl (Nat.le_of_ble_eq_true rfl) (hb hby at_187) (q := 190) rfl ?_
      intro v T Lc hQ X
      obtain ⟨h139, eT⟩ : ∃ z, T.heap = z := ⟨_, rfl⟩
      try rw [eT] at hQ
      obtain ⟨rfl, N', K', A_a130'⟩ := hQ
      have N := Fr.app N N'
      have A_a120 := A_a120.keep K' (ninS ne_a120_a130 nin0)
      have sz : n0 ≤ h139.size := Nat.le_trans sz K'.1
      have A_a130 := A_a130'
      refine s_aload X hx (hb hby at_190) rfl rfl (q := 192) rfl ?_
      refine s_iload X hx (hb hby at_192) rfl (q := 194) rfl ?_
      refine s_iload X hx (hb hby at_194) rfl (q := 196) rfl ?_
      refine s_iconst X hx (z := (1 : Int32)) (hb hby at_196) rfl (q := 197) rfl ?_
      refine s_iadd X hx (hb hby at_197) (q := 198) rfl ?_
      show Go p e below _ T m 198 #[.val (.long x0), .second, .val (.long x1), .second, .val (.long x2), .second, .val (.long x3), .second, .val (.long x4), .second, .val (.int x5), .val (.int (1 : Int32)), .val (.int (3 : Int32)), .val (.int (4 : Int32)), .val (.ref a120), .val (.ref a130), .val (.long (x3 ^^^ (-9223372036854775808 : Int64))), .second] [(.int (2 : Int32)), (.int (1 : Int32)), (.ref a130)]
      refine s_lload X hx (hb hby at_198) rfl (q := 200) rfl ?_
      refine callC X hx hZ hown (W := 0) (argsL := [(.ref a130), (.int (1 : Int32)), (.int (2 : Int32)), (.long (x3 ^^^ (-9223372036854775808 : Int64)))]) (rest := []) (hw _ (List.mem_of_getElem? (i := 7) rfl)) (hw _ (List.mem_of_getElem? (i := 8) rfl)) (hw _ (List.mem_of_getElem? (i := 9) rfl)) (hw _ (List.mem_of_getElem? (i := 10) rfl)) (by decide) (rm2_12 l Z a0 hw [] a130 (x3 ^^^ (-9223372036854775808 : Int64)) (CSF 2 3 (x3 ^^^ (-9223372036854775808 : Int64)) (CSF 1 2 (x3 ^^^ (-9223372036854775808 : Int64)) [x4, x0, x1, x2, x4])) h139 n0 sz A_a130 g_a130 (by first | rfl | (simp only [own_csl]; rfl))) eT (by decide) (by decide) (by decide) (by decide) (by rw [hml]; rfl) pd0 rfl rfl (Nat.le_of_ble_eq_true rfl) (hb hby at_200) (q := 203) rfl ?_
      intro v T Lc hQ X
      obtain ⟨h140, eT⟩ : ∃ z, T.heap = z := ⟨_, rfl⟩
      try rw [eT] at hQ
      obtain ⟨rfl, N', K', A_a130'⟩ := hQ
      have N := Fr.app N N'
      have A_a120 := A_a120.keep K' (ninS ne_a120_a130 nin0)
      have sz : n0 ≤ h140.size := Nat.le_trans sz K'.1
      have A_a130 := A_a130'
      rw [own_srt14] at A_a120
      refine s_aload X hx (hb hby at_203) rfl rfl (q := 205) rfl ?_
      refine s_iconst X hx (z := (0 : Int32)) (hb hby at_205) rfl (q := 206) rfl ?_
      refine s_laload X hx hZ eT A_a120 (by decide) (i := 0) rfl (x := (((CSF 1 2 (x3 ^^^ (-9223372036854775808 : Int64)) (CSF 2 3 (x3 ^^^ (-9223372036854775808 : Int64)) (CSF 1 2 (x3 ^^^ (-9223372036854775808 : Int64)) [x4, x0, x1, x2, x4])))).getD 0 0)) (own_get _ (by first | exact Nat.le_of_ble_eq_true rfl | (simp only [own_csl]; exact Nat.le_of_ble_eq_true rfl))) (hb hby at_206) (q := 207) rfl ?_
      refine s_aload X hx (hb hby at_207) rfl rfl (q := 209) rfl ?_
      refine s_iconst X hx (z := (0 : Int32)) (hb hby at_209) rfl (q := 210) rfl ?_
      refine s_laload X hx hZ eT A_a130 (by decide) (i := 0) rfl (x := (((CSF 1 2 (x3 ^^^ (-9223372036854775808 : Int64)) (CSF 2 3 (x3 ^^^ (-9223372036854775808 : Int64)) (CSF 1 2 (x3 ^^^ (-9223372036854775808 : Int64)) [x4, x0, x1, x2, x4])))).getD 0 0)) (own_get _ (by first | exact Nat.le_of_ble_eq_true rfl | (simp only [own_csl]; exact Nat.le_of_ble_eq_true rfl))) (hb hby at_210) (q := 211) rfl ?_
      refine s_lcmp X hx (hb hby at_211) (q := 212) rfl ?_
      refine f_lcmp_ne X hx (hb hby at_212) (q1 := 267) (by decide) (by decide) (q := 215) rfl (fun hq => absurd (rfl : (((CSF 1 2 (x3 ^^^ (-9223372036854775808 : Int64)) (CSF 2 3 (x3 ^^^ (-9223372036854775808 : Int64)) (CSF 1 2 (x3 ^^^ (-9223372036854775808 : Int64)) [x4, x0, x1, x2, x4])))).getD 0 0) = (((CSF 1 2 (x3 ^^^ (-9223372036854775808 : Int64)) (CSF 2 3 (x3 ^^^ (-9223372036854775808 : Int64)) (CSF 1 2 (x3 ^^^ (-9223372036854775808 : Int64)) [x4, x0, x1, x2, x4])))).getD 0 0)) hq) (fun _ => ?_)
      refine s_aload X hx (hb hby at_215) rfl rfl (q := 217) rfl ?_
      refine s_iconst X hx (z := (1 : Int32)) (hb hby at_217) rfl (q := 218) rfl ?_
      refine s_laload X hx hZ eT A_a120 (by decide) (i := 1) rfl (x := (((CSF 1 2 (x3 ^^^ (-9223372036854775808 : Int64)) (CSF 2 3 (x3 ^^^ (-9223372036854775808 : Int64)) (CSF 1 2 (x3 ^^^ (-9223372036854775808 : Int64)) [x4, x0, x1, x2, x4])))).getD 1 0)) (own_get _ (by first | exact Nat.le_of_ble_eq_true rfl | (simp only [own_csl]; exact Nat.le_of_ble_eq_true rfl))) (hb hby at_218) (q := 219) rfl ?_
      refine s_aload X hx (hb hby at_219) rfl rfl (q := 221) rfl ?_
      refine s_iconst X hx (z := (1 : Int32)) (hb hby at_221) rfl (q := 222) rfl ?_
      refine s_laload X hx hZ eT A_a130 (by decide) (i := 1) rfl (x := (((CSF 1 2 (x3 ^^^ (-9223372036854775808 : Int64)) (CSF 2 3 (x3 ^^^ (-9223372036854775808 : Int64)) (CSF 1 2 (x3 ^^^ (-9223372036854775808 : Int64)) [x4, x0, x1, x2, x4])))).getD 1 0)) (own_get _ (by first | exact Nat.le_of_ble_eq_true rfl | (simp only [own_csl]; exact Nat.le_of_ble_eq_true rfl))) (hb hby at_222) (q := 223) rfl ?_
      refine s_lcmp X hx (hb hby at_223) (q := 224) rfl ?_
      refine f_lcmp_ne X hx (hb hby at_224) (q1 := 267) (by decide) (by decide) (q := 227) rfl (fun hq => absurd (rfl : (((CSF 1 2 (x3 ^^^ (-9223372036854775808 : Int64)) (CSF 2 3 (x3 ^^^ (-9223372036854775808 : Int64)) (CSF 1 2 (x3 ^^^ (-9223372036854775808 : Int64)) [x4, x0, x1, x2, x4])))).getD 1 0) = (((CSF 1 2 (x3 ^^^ (-9223372036854775808 : Int64)) (CSF 2 3 (x3 ^^^ (-9223372036854775808 : Int64)) (CSF 1 2 (x3 ^^^ (-9223372036854775808 : Int64)) [x4, x0, x1, x2, x4])))).getD 1 0)) hq) (fun _ => ?_)
      refine s_aload X hx (hb hby at_227) rfl rfl (q := 229) rfl ?_
      refine s_iconst X hx (z := (2 : Int32)) (hb hby at_229) rfl (q := 230) rfl ?_
      refine s_laload X hx hZ eT A_a120 (by decide) (i := 2) rfl (x := (((CSF 1 2 (x3 ^^^ (-9223372036854775808 : Int64)) (CSF 2 3 (x3 ^^^ (-9223372036854775808 : Int64)) (CSF 1 2 (x3 ^^^ (-9223372036854775808 : Int64)) [x4, x0, x1, x2, x4])))).getD 2 0)) (own_get _ (by first | exact Nat.le_of_ble_eq_true rfl | (simp only [own_csl]; exact Nat.le_of_ble_eq_true rfl))) (hb hby at_230) (q := 231) rfl ?_
      refine s_aload X hx (hb hby at_231) rfl rfl (q := 233) rfl ?_
      refine s_iconst X hx (z := (2 : Int32)) (hb hby at_233) rfl (q := 234) rfl ?_
      refine s_laload X hx hZ eT A_a130 (by decide) (i := 2) rfl (x := (((CSF 1 2 (x3 ^^^ (-9223372036854775808 : Int64)) (CSF 2 3 (x3 ^^^ (-9223372036854775808 : Int64)) (CSF 1 2 (x3 ^^^ (-9223372036854775808 : Int64)) [x4, x0, x1, x2, x4])))).getD 2 0)) (own_get _ (by first | exact Nat.le_of_ble_eq_true rfl | (simp only [own_csl]; exact Nat.le_of_ble_eq_true rfl))) (hb hby at_234) (q := 235) rfl ?_
      refine s_lcmp X hx (hb hby at_235) (q := 236) rfl ?_
      refine f_lcmp_ne X hx (hb hby at_236) (q1 := 267) (by decide) (by decide) (q := 239) rfl (fun hq => absurd (rfl : (((CSF 1 2 (x3 ^^^ (-9223372036854775808 : Int64)) (CSF 2 3 (x3 ^^^ (-9223372036854775808 : Int64)) (CSF 1 2 (x3 ^^^ (-9223372036854775808 : Int64)) [x4, x0, x1, x2, x4])))).getD 2 0) = (((CSF 1 2 (x3 ^^^ (-9223372036854775808 : Int64)) (CSF 2 3 (x3 ^^^ (-9223372036854775808 : Int64)) (CSF 1 2 (x3 ^^^ (-9223372036854775808 : Int64)) [x4, x0, x1, x2, x4])))).getD 2 0)) hq) (fun _ => ?_)
      refine s_aload X hx (hb hby at_239) rfl rfl (q := 241) rfl ?_
      refine s_iconst X hx (z := (3 : Int32)) (hb hby at_241) rfl (q := 242) rfl ?_
      refine s_laload X hx hZ eT A_a120 (by decide) (i := 3) rfl (x := (((CSF 1 2 (x3 ^^^ (-9223372036854775808 : Int64)) (CSF 2 3 (x3 ^^^ (-9223372036854775808 : Int64)) (CSF 1 2 (x3 ^^^ (-9223372036854775808 : Int64)) [x4, x0, x1, x2, x4])))).getD 3 0)) (own_get _ (by first | exact Nat.le_of_ble_eq_true rfl | (simp only [own_csl]; exact Nat.le_of_ble_eq_true rfl))) (hb hby at_242) (q := 243) rfl ?_
      refine s_aload X hx (hb hby at_243) rfl rfl (q := 245) rfl ?_
      refine s_iconst X hx (z := (3 : Int32)) (hb hby at_245) rfl (q := 246) rfl ?_
      refine s_laload X hx hZ eT A_a130 (by decide) (i := 3) rfl (x := (((CSF 1 2 (x3 ^^^ (-9223372036854775808 : Int64)) (CSF 2 3 (x3 ^^^ (-9223372036854775808 : Int64)) (CSF 1 2 (x3 ^^^ (-9223372036854775808 : Int64)) [x4, x0, x1, x2, x4])))).getD 3 0)) (own_get _ (by first | exact Nat.le_of_ble_eq_true rfl | (simp only [own_csl]; exact Nat.le_of_ble_eq_true rfl))) (hb hby at_246) (q := 247) rfl ?_
      refine s_lcmp X hx (hb hby at_247) (q := 248) rfl ?_
      refine f_lcmp_ne X hx (hb hby at_248) (q1 := 267) (by decide) (by decide) (q := 251) rfl (fun hq => absurd (rfl : (((CSF 1 2 (x3 ^^^ (-9223372036854775808 : Int64)) (CSF 2 3 (x3 ^^^ (-9223372036854775808 : Int64)) (CSF 1 2 (x3 ^^^ (-9223372036854775808 : Int64)) [x4, x0, x1, x2, x4])))).getD 3 0) = (((CSF 1 2 (x3 ^^^ (-9223372036854775808 : Int64)) (CSF 2 3 (x3 ^^^ (-9223372036854775808 : Int64)) (CSF 1 2 (x3 ^^^ (-9223372036854775808 : Int64)) [x4, x0, x1, x2, x4])))).getD 3 0)) hq) (fun _ => ?_)
      refine s_aload X hx (hb hby at_251) rfl rfl (q := 253) rfl ?_
      refine s_iconst X hx (z := (4 : Int32)) (hb hby at_253) rfl (q := 254) rfl ?_
      refine s_laload X hx hZ eT A_a120 (by decide) (i := 4) rfl (x := (((CSF 1 2 (x3 ^^^ (-9223372036854775808 : Int64)) (CSF 2 3 (x3 ^^^ (-9223372036854775808 : Int64)) (CSF 1 2 (x3 ^^^ (-9223372036854775808 : Int64)) [x4, x0, x1, x2, x4])))).getD 4 0)) (own_get _ (by first | exact Nat.le_of_ble_eq_true rfl | (simp only [own_csl]; exact Nat.le_of_ble_eq_true rfl))) (hb hby at_254) (q := 255) rfl ?_
      refine s_aload X hx (hb hby at_255) rfl rfl (q := 257) rfl ?_
      refine s_iconst X hx (z := (4 : Int32)) (hb hby at_257) rfl (q := 258) rfl ?_
      refine s_laload X hx hZ eT A_a130 (by decide) (i := 4) rfl (x := (((CSF 1 2 (x3 ^^^ (-9223372036854775808 : Int64)) (CSF 2 3 (x3 ^^^ (-9223372036854775808 : Int64)) (CSF 1 2 (x3 ^^^ (-9223372036854775808 : Int64)) [x4, x0, x1, x2, x4])))).getD 4 0)) (own_get _ (by first | exact Nat.le_of_ble_eq_true rfl | (simp only [own_csl]; exact Nat.le_of_ble_eq_true rfl))) (hb hby at_258) (q := 259) rfl ?_
      refine s_lcmp X hx (hb hby at_259) (q := 260) rfl ?_
      refine f_lcmp_ne X hx (hb hby at_260) (q1 := 267) (by decide) (by decide) (q := 263) rfl (fun hq => absurd (rfl : (((CSF 1 2 (x3 ^^^ (-9223372036854775808 : Int64)) (CSF 2 3 (x3 ^^^ (-9223372036854775808 : Int64)) (CSF 1 2 (x3 ^^^ (-9223372036854775808 : Int64)) [x4, x0, x1, x2, x4])))).getD 4 0) = (((CSF 1 2 (x3 ^^^ (-9223372036854775808 : Int64)) (CSF 2 3 (x3 ^^^ (-9223372036854775808 : Int64)) (CSF 1 2 (x3 ^^^ (-9223372036854775808 : Int64)) [x4, x0, x1, x2, x4])))).getD 4 0)) hq) (fun _ => ?_)
      refine s_iconst X hx (z := (1 : Int32)) (hb hby at_263) rfl (q := 264) rfl ?_
      refine s_goto X hx (hb hby at_264) (q1 := 268) (by decide) (by decide) ?_
      exact leafN X hx hlk hret (by simp) (hb hby at_268) (by decide) (by decide) (z' := 1) rfl ⟨rfl, N⟩
set_option maxRecDepth 65536 in
set_option maxHeartbeats 40000000 in
theorem comes_1 {Post : Tables → Env → Array Value → State → Outcome → State → Prop} (hpost : ∀ tb e args s v u, (limb_1_1.after args s (.returned v) u = true ∧ limb_1_2.after args s (.returned v) u = true ∧ True) → FrameEnd s (.returned v) u (Jvm.fieldLocs frame_1_writes args s ++ Jvm.arrayLocs frame_1_arrays args s ++ Jvm.staticLocs frame_1_statics s) 16 128 → Post tb e args s (.returned v) u) :
    ArmFor flags0 classFile x code maxLocals ret World_1 tables_1 room_1 Calls_1 rest_1 Pre_1 Post := by
  intro l hfl _ _ p e ha hc hk s m args below hf hA hF happ hP
  obtain ⟨hcalls, hrest, hpre⟩ := hP
  obtain ⟨-, -, -, hnamed, -, -, -, hat⟩ := (Spec.applies_iff hf).mp happ
  obtain ⟨hg, hn⟩ := and_e (Cond.before_iff.mp (show (Jvm.Cond.and given_1 narrow_1).before args s = true from hpre))
  obtain ⟨g1, g2⟩ := and_e hg
  obtain ⟨g3, g4⟩ := and_e g2
  obtain ⟨g5, g6⟩ := and_e g4
  obtain ⟨g7, g8⟩ := and_e g6
  obtain ⟨g9, g10⟩ := and_e g8
  obtain ⟨g11, g12⟩ := and_e g10
  obtain ⟨w0, w1, w2, w3, w4, w5, rfl⟩ : ∃ w0 w1 w2 w3 w4 w5 : Value, args = #[w0, w1, w2, w3, w4, w5] := by
    have hs : args.size = 6 := by simpa [Cond.value, given_1] using g1
    obtain ⟨L⟩ := args
    match L, hs with
    | [w0, w1, w2, w3, w4, w5], _ => exact ⟨w0, w1, w2, w3, w4, w5, rfl⟩
  have hw := fun d (hd : d ∈ tables_1) => atoms_spec (ws := Jvm.Cond.code x code maxLocals ret :: tables_1) hat d (List.mem_cons_of_mem _ hd)
  obtain ⟨i0, ei0⟩ := isL_v g3
  obtain rfl : w0 = (.long i0) := Option.some.inj ei0
  obtain ⟨i1, ei1⟩ := isL_v g5
  obtain rfl : w1 = (.long i1) := Option.some.inj ei1
  obtain ⟨i2, ei2⟩ := isL_v g7
  obtain rfl : w2 = (.long i2) := Option.some.inj ei2
  obtain ⟨i3, ei3⟩ := isL_v g9
  obtain rfl : w3 = (.long i3) := Option.some.inj ei3
  obtain ⟨i4, ei4⟩ := isL_v g11
  obtain rfl : w4 = (.long i4) := Option.some.inj ei4
  obtain ⟨i5, ei5⟩ := is_v g12
  obtain rfl : w5 = (.int i5) := Option.some.inj ei5
  obtain ⟨n, o, h1, h2, h3, _, L, rfl, ⟨rfl, N⟩, hq⟩ := rm0 l s _ hw tables_1 i0 i1 i2 i3 i4 i5 s.heap s.heap.size (Nat.le_refl _) p e ha hc hk s m _ below hf ((Spec.applies_iff_loose hf).mp happ).1 ⟨rfl, State.Warmed39.refl s, rfl⟩ trivial
  refine ⟨n, _, h1, h2, h3, hpost _ _ _ _ _ _ ⟨Cond.after_iff.mpr rfl, Cond.after_iff.mpr (eq_i res_at (Term.int_eval (1)) rfl), trivial⟩ ⟨hq.1, hq.2.1, (hq.2.2.sift fun y hy => Or.inr (N y hy)).mono (by decide) (by decide)⟩⟩
theorem main_1_1 : Claimed_1_1 := comes_1 fun _ _ _ _ _ _ h hF => ⟨h.1, hF⟩
theorem main_1_2 : Claimed_1_2 := comes_1 fun _ _ _ _ _ _ h hF => ⟨h.2.1, hF⟩
end Jvm.Pilot.@@N@@
namespace Jvm.Pilot.@@N@@
open Jvm Jvm.ClassFile Sem Op Lib Jvm.Free Jvm.Stand Jvm.Pilot.@@N@@.Jvm.D
/-! MADE BY PROGRAM (witnessworld.py) out of the Statement's table words and the real class files: 11 classes; the members and pool entries that the words name. The judged class is class 1, her method 2. -/
namespace start1
open Jvm.ClassFile
def u (s : String) : CpInfo := .utf8 (stringToUtf16 s)
/-- a pool by its gaps: so many unusable entries, then the entry; so many at the end -/
def gap : Nat → List CpInfo → List CpInfo
  | 0, r => r
  | n + 1, r => .unusable :: gap n r
def poolList (es : List (Nat × CpInfo)) (last : Nat) : List CpInfo := es.foldr (fun e r => gap e.1 (e.2 :: r)) (gap last [])
def pool (es : List (Nat × CpInfo)) (last : Nat) : Array CpInfo := ⟨poolList es last⟩
def fileOf (pool : Array CpInfo) (this : Nat) (attrs : Array Attribute := #[]) (ms : Array MethodInfo := #[]) (fl : Nat := 33) (sup : Nat := 0) (ifs : Array Nat := #[]) (fds : Array FieldInfo := #[]) : ClassFile where
  minorVersion := 0
  majorVersion := 65
  constantPool := pool
  accessFlags := fl
  thisClass := this
  superClass := sup
  interfaces := ifs
  fields := fds
  methods := ms
  attributes := attrs
def plain (name : String) (sup : Option ClassId) : Class where
  name := name
  kind := .ordinary
  loader := none
  accessFlags := 33
  super := sup
  interfaces := #[]
  cf := none
  fields := #[]
  methods := #[]
  instanceTypes := #[]
  staticTypes := #[]
  resolved := #[]
  callSites := []
  init := .initialized
  statics := none
  mirror := none

def pool0 : Array CpInfo := pool [(5, u "<init>"), (0, u "()V"), (1, .class_ 10), (1, u "java/lang/Object")] 113

def k0m0 : Method := { name := "<init>", desc := "()V", sig := { parameters := [], returnType := none }, accessFlags := 1, code := none }
/-- java/lang/Object -/
def k0 : Class := { plain "java/lang/Object" none with
  accessFlags := 33
  interfaces := #[]
  cf := some (fileOf pool0 8 #[] #[{ accessFlags := 1, nameIndex := 5, descriptorIndex := 6, attributes := #[] }] 33 0 #[] #[])
  fields := #[]
  methods := #[k0m0]
  instanceTypes := #[]
  staticTypes := #[]
  resolved := Array.replicate 124 none
  statics := none }

def pool1 : Array CpInfo := pool [(2, .class_ 4), (1, u "java/lang/Object"), (0, u "<init>"), (0, u "()V"), (0, .methodref 8 9), (0, .class_ 10), (0, .nameAndType 11 12), (0, u "com/example/digitwise/digitwise/internal/LongRadixSort"), (0, u "insertionSort"), (0, u "([JIIJ)V"), (2, .long 9223372036854775808), (1, .methodref 18 19), (0, .class_ 20), (0, .nameAndType 21 12), (0, u "com/example/digitwise/digitwise/internal/LongRadixSortInsertionSortPinLaw"), (0, u "cs"), (3, u "law"), (0, u "(JJJJJI)Z")] 4

def k1m0 : Method := { name := "<init>", desc := "()V", sig := { parameters := [], returnType := none }, accessFlags := 2, code := none }
def k1c1 : Code := { maxStack := 6, maxLocals := 7, code := method_2_code, exceptionTable := #[], attributes := #[] }
def k1m1 : Method := { name := "cs", desc := "([JIIJ)V", sig := { parameters := [(.array .long), .int, .int, .long], returnType := none }, accessFlags := 10, code := some k1c1 }
def k1c2 : Code := { maxStack := 5, maxLocals := 18, code := code, exceptionTable := #[], attributes := #[] }
def k1m2 : Method := { name := "law", desc := "(JJJJJI)Z", sig := { parameters := [.long, .long, .long, .long, .long, .int], returnType := some .boolean }, accessFlags := 9, code := some k1c2 }
/-- com/example/digitwise/digitwise/internal/LongRadixSortInsertionSortPinLaw -/
def k1 : Class := { plain "com/example/digitwise/digitwise/internal/LongRadixSortInsertionSortPinLaw" (some 0) with
  accessFlags := 49
  interfaces := #[]
  cf := some (fileOf pool1 18 #[] #[{ accessFlags := 2, nameIndex := 5, descriptorIndex := 6, attributes := #[] }, { accessFlags := 10, nameIndex := 21, descriptorIndex := 12, attributes := #[] }, { accessFlags := 9, nameIndex := 25, descriptorIndex := 26, attributes := #[] }] 49 2 #[] #[])
  fields := #[]
  methods := #[k1m0, k1m1, k1m2]
  instanceTypes := #[]
  staticTypes := #[]
  resolved := Array.replicate 31 none
  statics := none }

def pool2 : Array CpInfo := pool [(1, .class_ 2), (0, u "com/example/digitwise/digitwise/internal/LongRadixSort"), (5, .class_ 10), (1, u "java/lang/Object"), (0, u "<init>"), (0, u "()V"), (18, u "SCRATCH_ARRAYS"), (0, u "Lcom/example/digitwise/digitwise/internal/ScratchCache;"), (10, u "SPLIT_BUFFERS"), (23, u "J"), (4, .long 9223372036854775808), (72, u "insertionSort"), (0, u "([JIIJ)V"), (18, u "SIXTEEN_PAIRS_MIN_LENGTH"), (0, u "I"), (111, .class_ 280), (1, u "com/example/digitwise/digitwise/internal/LongRadixSort$RangeSort"), (19, u "INSERTION_SORT_THRESHOLD"), (2, u "SHORT_RANGE_LIMIT"), (1, u "MAX_SHORT_DIGIT_BITS"), (1, u "SPLIT_SHORT_BUCKET_LIMIT"), (1, u "SPLIT_THRESHOLD"), (0, u "CHUNK_LENGTH"), (0, u "BUFFER_LENGTH"), (0, u "BUCKET_LIMIT"), (0, u "MIN_DIGIT_BITS"), (1, u "MAX_DIGIT_BITS"), (1, u "SIGNED"), (0, u "UNSIGNED")] 25

def k2m0 : Method := { name := "<init>", desc := "()V", sig := { parameters := [], returnType := none }, accessFlags := 2, code := none }
def k2c1 : Code := { maxStack := 4, maxLocals := 15, code := prog_11_method_39_code, exceptionTable := #[], attributes := #[] }
def k2m1 : Method := { name := "insertionSort", desc := "([JIIJ)V", sig := { parameters := [(.array .long), .int, .int, .long], returnType := none }, accessFlags := 8, code := some k2c1 }
/-- com/example/digitwise/digitwise/internal/LongRadixSort -/
def k2 : Class := { plain "com/example/digitwise/digitwise/internal/LongRadixSort" (some 0) with
  accessFlags := 49
  interfaces := #[]
  cf := some (fileOf pool2 1 #[.nestMembers #[278]] #[{ accessFlags := 2, nameIndex := 11, descriptorIndex := 12, attributes := #[] }, { accessFlags := 8, nameIndex := 145, descriptorIndex := 146, attributes := #[] }] 49 8 #[] #[{ accessFlags := 24, nameIndex := 300, descriptorIndex := 166, attributes := #[] }, { accessFlags := 26, nameIndex := 303, descriptorIndex := 166, attributes := #[] }, { accessFlags := 26, nameIndex := 305, descriptorIndex := 166, attributes := #[] }, { accessFlags := 26, nameIndex := 307, descriptorIndex := 166, attributes := #[] }, { accessFlags := 24, nameIndex := 309, descriptorIndex := 166, attributes := #[] }, { accessFlags := 26, nameIndex := 310, descriptorIndex := 166, attributes := #[] }, { accessFlags := 26, nameIndex := 311, descriptorIndex := 166, attributes := #[] }, { accessFlags := 26, nameIndex := 312, descriptorIndex := 166, attributes := #[] }, { accessFlags := 26, nameIndex := 313, descriptorIndex := 166, attributes := #[] }, { accessFlags := 26, nameIndex := 315, descriptorIndex := 166, attributes := #[] }, { accessFlags := 26, nameIndex := 165, descriptorIndex := 166, attributes := #[] }, { accessFlags := 25, nameIndex := 317, descriptorIndex := 67, attributes := #[] }, { accessFlags := 25, nameIndex := 318, descriptorIndex := 67, attributes := #[] }, { accessFlags := 26, nameIndex := 31, descriptorIndex := 32, attributes := #[] }, { accessFlags := 26, nameIndex := 43, descriptorIndex := 32, attributes := #[] }])
  fields := #[{ name := "INSERTION_SORT_THRESHOLD", type := .int, accessFlags := 24, slot := 0, constantValue := 0 }, { name := "SHORT_RANGE_LIMIT", type := .int, accessFlags := 26, slot := 1, constantValue := 0 }, { name := "MAX_SHORT_DIGIT_BITS", type := .int, accessFlags := 26, slot := 2, constantValue := 0 }, { name := "SPLIT_SHORT_BUCKET_LIMIT", type := .int, accessFlags := 26, slot := 3, constantValue := 0 }, { name := "SPLIT_THRESHOLD", type := .int, accessFlags := 24, slot := 4, constantValue := 0 }, { name := "CHUNK_LENGTH", type := .int, accessFlags := 26, slot := 5, constantValue := 0 }, { name := "BUFFER_LENGTH", type := .int, accessFlags := 26, slot := 6, constantValue := 0 }, { name := "BUCKET_LIMIT", type := .int, accessFlags := 26, slot := 7, constantValue := 0 }, { name := "MIN_DIGIT_BITS", type := .int, accessFlags := 26, slot := 8, constantValue := 0 }, { name := "MAX_DIGIT_BITS", type := .int, accessFlags := 26, slot := 9, constantValue := 0 }, { name := "SIXTEEN_PAIRS_MIN_LENGTH", type := .int, accessFlags := 26, slot := 10, constantValue := 0 }, { name := "SIGNED", type := .long, accessFlags := 25, slot := 11, constantValue := 0 }, { name := "UNSIGNED", type := .long, accessFlags := 25, slot := 12, constantValue := 0 }, { name := "SCRATCH_ARRAYS", type := (.object "com/example/digitwise/digitwise/internal/ScratchCache"), accessFlags := 26, slot := 13, constantValue := 0 }, { name := "SPLIT_BUFFERS", type := (.object "com/example/digitwise/digitwise/internal/ScratchCache"), accessFlags := 26, slot := 14, constantValue := 0 }]
  methods := #[k2m0, k2m1]
  instanceTypes := #[]
  staticTypes := #[.int, .int, .int, .int, .int, .int, .int, .int, .int, .int, .int, .long, .long, (.object "com/example/digitwise/digitwise/internal/ScratchCache"), (.object "com/example/digitwise/digitwise/internal/ScratchCache")]
  resolved := Array.replicate 344 none
  statics := none }

def pool3 : Array CpInfo := pool [(1, u "java/lang/Cloneable"), (0, .class_ 1), (0, u "java/lang/Object"), (0, .class_ 3)] 3

/-- java/lang/Cloneable -/
def k3 : Class := { plain "java/lang/Cloneable" (some 0) with
  accessFlags := 1537
  interfaces := #[]
  cf := some (fileOf pool3 2 #[] #[] 1537 4 #[] #[])
  fields := #[]
  methods := #[]
  instanceTypes := #[]
  staticTypes := #[]
  resolved := Array.replicate 8 none
  statics := none }

def pool4 : Array CpInfo := pool [(1, u "java/io/Serializable"), (0, .class_ 1), (0, u "java/lang/Object"), (0, .class_ 3)] 3

/-- java/io/Serializable -/
def k4 : Class := { plain "java/io/Serializable" (some 0) with
  accessFlags := 1537
  interfaces := #[]
  cf := some (fileOf pool4 2 #[] #[] 1537 4 #[] #[])
  fields := #[]
  methods := #[]
  instanceTypes := #[]
  staticTypes := #[]
  resolved := Array.replicate 8 none
  statics := none }

/-- the primitive byte -/
def k5 : Class := { plain "byte" none with kind := .primitive 'B', accessFlags := 0x411 }
/-- [B -/
def k6 : Class := { plain "[B" (some 0) with kind := .array 5 .byte, interfaces := #[3, 4], accessFlags := 1041 }

/-- the primitive int -/
def k7 : Class := { plain "int" none with kind := .primitive 'I', accessFlags := 0x411 }
/-- [I -/
def k8 : Class := { plain "[I" (some 0) with kind := .array 7 .int, interfaces := #[3, 4], accessFlags := 1041 }

/-- the primitive long -/
def k9 : Class := { plain "long" none with kind := .primitive 'J', accessFlags := 0x411 }
/-- [J -/
def k10 : Class := { plain "[J" (some 0) with kind := .array 9 .long, interfaces := #[3, 4], accessFlags := 1041 }

def heap : Heap := #[]
def classes : Array Class := #[k0, k1, k2, k3, k4, k5, k6, k7, k8, k9, k10]
def interned : List (Array UInt16 × Addr) := []
def slotsUsed : Nat := 0
def theMethod : MethodId := ⟨1, 2⟩
def args0 : Array Value := #[.long 5, .long 7, .long 20, .long 3, .long 2, .int 6]
def aboutOver (below : List Frame) : State where
  vm := { classes := classes, interned := interned.toArray }
  heap := heap
  slotsUsed := slotsUsed
  threads := #[{ frames := .invoking theMethod args0 :: below }]
def below0 : List Frame := [.native { method := ⟨0, 0⟩, args := #[] }]
def about1 : State := aboutOver below0
def p0 : Program := .bare "" "" ""
def e0 : Env := launch0.env 0 0 0
theorem w_frames : about1.frames = Frame.invoking theMethod args0 :: below0 := rfl
set_option maxRecDepth 65536 in
theorem w_args : argsFit about1.vm theMethod args0 = true := by decide +kernel
set_option maxRecDepth 65536 in
theorem w_heap : heapFits about1 = true := by decide +kernel
set_option maxRecDepth 65536 in
theorem w_runnable : about1.curStatus? = some .runnable := by decide +kernel
set_option maxRecDepth 65536 in
theorem w_alone : about1.alone = true := by decide +kernel
set_option maxRecDepth 65536 in
theorem w_named : about1.methodNamed? x = some theMethod := by decide +kernel
set_option maxRecDepth 65536 in
theorem w_hears : about1.hears theMethod below0 = true := by decide +kernel
set_option maxRecDepth 65536 in
theorem w_ripe : about1.ripe theMethod args0 below0 = true := by decide +kernel
theorem w_running : about1.status = .running := rfl
set_option maxRecDepth 65536 in
theorem w_room : about1.hasRoom e0.platform room_1 = true :=
  launch0.hasRoom_least _ room_1 (by decide +kernel) (by decide +kernel) (by decide +kernel) (by decide +kernel) (by decide +kernel) (by decide +kernel)
theorem allAtoms_all (ts : List Jvm.Cond) (a : Array Jvm.Value) (st : Jvm.State) : (allAtoms ts).before a st = ts.all (fun c => c.before a st) := by
  induction ts with
  | nil => rfl
  | cons c t ih =>
    show (Jvm.Cond.and c (allAtoms t)).before a st = _
    rw [Jvm.Cond.before_and, ih, List.all_cons]
def words1 : List Jvm.Cond := Jvm.Cond.code x code maxLocals ret :: tables_1
/-- a 'code' word, met by the world's own term for the bytes: nothing is compared byte by byte -/
theorem code_word {y : MethodName} {bytes : ByteArray} {mx : Nat} {rt : Option FieldType} {a : Array Value} {s : State} {m : MethodId} {meth : Method} {c : Code} (h1 : s.methodNamed? y = some m) (h2 : s.vm.method? m = some meth) (h3 : meth.code = some c) (h4 : c.code = bytes)
    (h5 : (c.maxLocals == mx && c.exceptionTable.isEmpty && decide (c.maxStack ≤ mostOperands) && decide (meth.sig.returnType = rt) && !meth.locks && decide (parseMethodDescriptor y.desc = some meth.sig)) = true) : (Jvm.Cond.code y bytes mx rt).before a s = true := by
  simp only [Bool.and_eq_true, beq_iff_eq, Bool.not_eq_true', decide_eq_true_eq] at h5
  obtain ⟨⟨⟨⟨⟨g1, g2⟩, g3⟩, g4⟩, g5⟩, g6⟩ := h5
  simp [Cond.before, Cond.holds, Cond.value, h1, h2, h3, h4, g1, g2, g3, g4, g5, g6]
def isCode : Jvm.Cond → Bool
  | .code _ _ _ _ => true
  | _ => false
theorem all_split {L : List Jvm.Cond} {P : Jvm.Cond → Bool} (h1 : L.all (fun c => isCode c || P c) = true) (h2 : ∀ c ∈ L.filter isCode, P c = true) : L.all P = true := by
  refine List.all_eq_true.mpr fun c hc => ?_
  have h := List.all_eq_true.mp h1 c hc
  rcases Bool.eq_false_or_eq_true (isCode c) with hi | hi
  · exact h2 c (List.mem_filter.mpr ⟨hc, hi⟩)
  · simpa [hi] using h
set_option maxRecDepth 65536 in
theorem w_c0 : (Jvm.Cond.code x code maxLocals ret).before args0 about1 = true := code_word (m := ⟨1, 2⟩) (meth := k1m2) (c := k1c2) (by decide +kernel) rfl rfl rfl (by decide +kernel)
set_option maxRecDepth 65536 in
theorem w_c1 : (Jvm.Cond.code ({ cls := "com/example/digitwise/digitwise/internal/LongRadixSort", name := "insertionSort", desc := "([JIIJ)V" } : Jvm.MethodName) prog_11_method_39_code (15 : Nat) (Option.none : Option Jvm.ClassFile.FieldType)).before args0 about1 = true := code_word (m := ⟨2, 1⟩) (meth := k2m1) (c := k2c1) (by decide +kernel) rfl rfl rfl (by decide +kernel)
set_option maxRecDepth 65536 in
theorem w_c2 : (Jvm.Cond.code ({ cls := "com/example/digitwise/digitwise/internal/LongRadixSortInsertionSortPinLaw", name := "cs", desc := "([JIIJ)V" } : Jvm.MethodName) method_2_code (7 : Nat) (Option.none : Option Jvm.ClassFile.FieldType)).before args0 about1 = true := code_word (m := ⟨1, 1⟩) (meth := k1m1) (c := k1c1) (by decide +kernel) rfl rfl rfl (by decide +kernel)
def codes1 : List Jvm.Cond := [Jvm.Cond.code x code maxLocals ret, Jvm.Cond.code ({ cls := "com/example/digitwise/digitwise/internal/LongRadixSort", name := "insertionSort", desc := "([JIIJ)V" } : Jvm.MethodName) prog_11_method_39_code (15 : Nat) (Option.none : Option Jvm.ClassFile.FieldType), Jvm.Cond.code ({ cls := "com/example/digitwise/digitwise/internal/LongRadixSortInsertionSortPinLaw", name := "cs", desc := "([JIIJ)V" } : Jvm.MethodName) method_2_code (7 : Nat) (Option.none : Option Jvm.ClassFile.FieldType)]
set_option maxRecDepth 65536 in
theorem codes_eq : words1.filter isCode = codes1 := rfl
theorem w_codes : ∀ c ∈ words1.filter isCode, c.before args0 about1 = true := by
  rw [codes_eq]
  intro c hc
  simp only [codes1, List.mem_cons, List.not_mem_nil, or_false] at hc
  rcases hc with rfl | rfl | rfl
  · exact w_c0
  · exact w_c1
  · exact w_c2
set_option maxRecDepth 65536 in
theorem w_t1 : words1.all (fun c => isCode c || c.before args0 about1) = true := by decide +kernel
theorem w_tables : (allAtoms (Jvm.Cond.code x code maxLocals ret :: tables_1)).before args0 about1 = true := by
  rw [allAtoms_all]
  show words1.all (fun c => c.before args0 about1) = true
  refine all_split ?_ w_codes
  rw [w_t1]
set_option maxRecDepth 65536 in
theorem w_case : (Jvm.Cond.and given_1 narrow_1).before args0 about1 = true := by decide +kernel
theorem w_applies : (headSpec (Jvm.Cond.code x code maxLocals ret :: tables_1) room_1).applies x e0.platform about1 = true :=
  (Spec.applies_iff w_frames).mpr ⟨w_running, w_runnable, w_alone, w_named, w_hears, w_ripe, w_room, w_tables⟩
theorem atStart : AtStart classFile x code maxLocals ret World_1 tables_1 room_1 Calls_1 rest_1 Pre_1 launch0 p0 e0 about1 theMethod args0 below0 :=
  ⟨lists_1, trivial, launch0.admits_env _ _ _, launch0.least_env, fairChoices_fair.cas, fairChoices_fair.clock, w_frames, w_args, w_heap, w_applies, trivial, trivial, w_case⟩
end start1
theorem witness_1 : WitnessClaimed_1 := ⟨start1.p0, start1.e0, start1.about1, start1.theMethod, start1.args0, start1.below0, start1.atStart⟩
end Jvm.Pilot.@@N@@
